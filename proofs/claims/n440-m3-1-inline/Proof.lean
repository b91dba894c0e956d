import JvmDerived
import JvmDerived.Pilot.@@N@@Statement
import JvmDerived.Pilot.@@N@@Code
set_option linter.unusedVariables false
set_option linter.unusedSimpArgs false
/- laws to paste: Road.backV (cut by pick.py; bodies as the Statement names them) -/
namespace Jvm.Pilot.@@N@@
namespace StrChars
open Jvm Sem ClassFile Op Lib Jvm.Stand Jvm.Free.XT Jvm.Free.ALB Jvm.Free.JM Jvm.Free
open Jvm.Lib.Cold (StaticIs)
/-- a char array whose places are chars -/
def Ch (a : Addr) (A : Cell) (U : State) : Prop := Arr .char a A U ∧ Typed .char A
theorem Ch.mv {a : Addr} {A : Cell} {U U' : State} (h : Ch a A U) (hal : U.vm.Alike U'.vm) (hh : U'.heap = U.heap) : Ch a A U' := ⟨h.1.mv hal hh, h.2⟩
theorem Ch.keep {a : Addr} {A : Cell} {U U' : State} (h : Ch a A U) (hal : U.vm.Alike U'.vm) (hk : U'.heap[a]? = some A) : Ch a A U' := ⟨h.1.keep hal hk, h.2⟩
/-- what place i of a char[]'s cell holds -/
def cv (A : Cell) (i : Nat) : Int32 := match A.slots[i]? with | some (.int x) => x | _ => 0
theorem Ch.get {a : Addr} {A : Cell} {U : State} (h : Ch a A U) {i : Nat} (hi : i < A.slots.size) : A.slots[i]? = some (.int (cv A i)) := by
  have e := Array.getElem?_eq_getElem hi
  have f := h.2 i _ e
  unfold cv; rw [e]
  generalize A.slots[i] = v at f
  cases v <;> simp [fits] at f ⊢
/-- the byte that i2b leaves of a char -/
def lo8 (x : Int32) : Int32 := x.toInt8.toInt32
theorem fits_lo8 (y : Int32) : fits .byte (.int (lo8 y)) = true := by
  have h1 := y.toInt8.le_toInt
  have h2 := y.toInt8.toInt_lt
  simp only [lo8, fits, Bool.and_eq_true, decide_eq_true_eq, Int32.le_iff_toInt_le, Int8.toInt_toInt32, show (-128 : Int32).toInt = -128 from by decide, show (127 : Int32).toInt = 127 from by decide]
  omega
/-- A' is A but that each place j of lo .. hi - 1 holds f j -/
def Laid (A A' : Cell) (lo hi : Nat) (f : Nat → Value) : Prop := A'.cls = A.cls ∧ A'.vm = A.vm ∧ A'.slots.size = A.slots.size ∧ ∀ i, A'.slots[i]? = if lo ≤ i ∧ i < hi then some (f i) else A.slots[i]?
theorem Laid.zero (A : Cell) (lo : Nat) (f : Nat → Value) : Laid A A lo (lo + 0) f := ⟨rfl, rfl, rfl, fun i => by rw [if_neg (by omega)]⟩
theorem Laid.step {A Ak : Cell} {lo k : Nat} {f : Nat → Value} {v : Value} (h : Laid A Ak lo k f) (hlo : lo ≤ k) (hk : k < Ak.slots.size) (hv : v = f k) : Laid A (Ak.setSlot k v) lo (k + 1) f := by
  refine ⟨h.1, h.2.1, by simpa [Cell.setSlot] using h.2.2.1, fun i => ?_⟩
  by_cases e : k = i
  · subst e; rw [Cell.slots_setSlot_self v hk, if_pos (by omega), hv]
  · rw [Cell.slots_setSlot_ne v e, h.2.2.2 i]
    by_cases q : lo ≤ i ∧ i < k
    · rw [if_pos q, if_pos (by omega)]
    · rw [if_neg q, if_neg (by omega)]
def U16 : String := "java/lang/StringUTF16"
namespace Cmp5
def yN : MethodName := ⟨"java/lang/StringUTF16", "compress", "([CI[BII)I"⟩
abbrev yB : ByteArray := jdk_52_method_21_code
theorem d0 : decode yB 0 = .ok (.iconst 0, 1) := by decide +kernel
theorem d1 : decode yB 1 = .ok (.istore 5, 2) := by decide +kernel
theorem d3 : decode yB 3 = .ok (.iload 5, 2) := by decide +kernel
theorem d5 : decode yB 5 = .ok (.iload 4, 2) := by decide +kernel
theorem d7 : decode yB 7 = .ok (.if_icmp (.ge) 37, 3) := by decide +kernel
theorem d10 : decode yB 10 = .ok (.aload_n 0, 1) := by decide +kernel
theorem d11 : decode yB 11 = .ok (.iload_n 1, 1) := by decide +kernel
theorem d12 : decode yB 12 = .ok (.caload, 1) := by decide +kernel
theorem d13 : decode yB 13 = .ok (.istore 6, 2) := by decide +kernel
theorem d15 : decode yB 15 = .ok (.iload 6, 2) := by decide +kernel
theorem d17 : decode yB 17 = .ok (.sipush 255, 3) := by decide +kernel
theorem d20 : decode yB 20 = .ok (.if_icmp (.le) 6, 3) := by decide +kernel
theorem d26 : decode yB 26 = .ok (.aload_n 2, 1) := by decide +kernel
theorem d27 : decode yB 27 = .ok (.iload_n 3, 1) := by decide +kernel
theorem d28 : decode yB 28 = .ok (.iload 6, 2) := by decide +kernel
theorem d30 : decode yB 30 = .ok (.i2b, 1) := by decide +kernel
theorem d31 : decode yB 31 = .ok (.bastore, 1) := by decide +kernel
theorem d32 : decode yB 32 = .ok (.iinc 1 1, 3) := by decide +kernel
theorem d35 : decode yB 35 = .ok (.iinc 3 1, 3) := by decide +kernel
theorem d38 : decode yB 38 = .ok (.iinc 5 1, 3) := by decide +kernel
theorem d41 : decode yB 41 = .ok (.goto (-38), 3) := by decide +kernel
theorem d44 : decode yB 44 = .ok (.iload 4, 2) := by decide +kernel
theorem d46 : decode yB 46 = .ok (.ireturn, 1) := by decide +kernel
def site : List Cond := []
def tab : Cond := tabOf yN yB 7 (some .int) site
def P (b : Addr) (A : Cell) (d : Addr) (B : Cell) (o q len : Nat) (args : Array Value) (s : State) : Prop := args = #[.ref b, .int (Int32.ofNat o), .ref d, .int (Int32.ofNat q), .int (Int32.ofNat len)] ∧ Ch b A s ∧ Arr .byte d B s ∧ b ≠ d ∧ o + len ≤ A.slots.size ∧ q + len ≤ B.slots.size ∧ ∀ i, i < len → ¬ 255 < cv A (o + i)
def E (b : Addr) (A : Cell) (d : Addr) (B : Cell) (o q len : Nat) (r : Option Value) (s u : State) : Prop := r = some (.int (Int32.ofNat len)) ∧ ∃ B', Put d B' s u ∧ Laid B B' q (q + len) (fun j => Value.int (lo8 (cv A (o + (j - q)))))
/-- no char of the range above 255: len; the places written hold each char's low byte -/
theorem law (l : Launch) (b : Addr) (A : Cell) (d : Addr) (B : Cell) (o q len : Nat) : Law l yN 5 5 0 0 yB 7 (some .int) site (P b A d B o q len) (E b A d B o q len) (copyLocs d q len) 0 0 := by
  refine Law.of_walk (plainFor_of_name (by decide +kernel)) (by decide +kernel) (by decide +kernel) (by decide) (fun _ _ h => by rw [h.1]; rfl) (fun _ U U' hal hh h => ⟨h.1, h.2.1.mv hal hh, h.2.2.1.mv hal hh, h.2.2.2⟩) (fun r U U' V V' h1 hal h2 h => ⟨h.1, h.2.elim fun B' q => ⟨B', q.1.mv h1 h2, q.2⟩⟩) ?_
  intro p e s m args below meth c s₁ X0 hexec hbytes hml hret hlk hnm hown hh0 W hP
  obtain ⟨rfl, hA, hB, hne, l1, l2, hp⟩ := hP
  have c1 : Steps p.tables e below (s₁.setTop (entryFrame m #[.ref b, .int (Int32.ofNat o), .ref d, .int (Int32.ofNat q), .int (Int32.ofNat len)] 7)) (s₁.setTop (mkF m 0 #[.val (.ref b), .val (.int (Int32.ofNat o)), .val (.ref d), .val (.int (Int32.ofNat q)), .val (.int (Int32.ofNat len)), .unset, .unset] [])) := entry rfl
  have hA0 := hA.1.mv X0.warmed.alike hh0
  have hB0 := hB.mv X0.warmed.alike hh0
  have a31 := hA.1.2.2.2
  have c2 : Steps p.tables e below (s₁.setTop (entryFrame m #[.ref b, .int (Int32.ofNat o), .ref d, .int (Int32.ofNat q), .int (Int32.ofNat len)] 7)) (s₁.setTop (mkF m 3 #[.val (.ref b), .val (.int (Int32.ofNat o)), .val (.ref d), .val (.int (Int32.ofNat q)), .val (.int (Int32.ofNat len)), .val (.int 0), .unset] [])) := c1.trans (by
    refine iconstV X0.here hexec rfl 0 (hb hbytes d0) (by decide) ?_
    refine XS.istore X0.here hexec rfl (hb hbytes d1) rfl rfl ?_
    exact Steps.refl _)
  have loop : ∀ (r i : Nat), i + r = len → ∀ (z : Slot), (z = .unset ∨ ∃ w, z = .val w ∧ w.category = 1) → ∀ (Tl : State) (Bk : Cell), Stand p l e { frames := 0, locals := 0, cells := 0, slots := 0 } s m #[.ref b, .int (Int32.ofNat o), .ref d, .int (Int32.ofNat q), .int (Int32.ofNat len)] below meth c Tl ([] ++ copyLocs d q i) 0 0 → Put d Bk s₁ Tl → Laid B Bk q (q + i) (fun j => Value.int (lo8 (cv A (o + (j - q))))) →
      Steps p.tables e below (s₁.setTop (entryFrame m #[.ref b, .int (Int32.ofNat o), .ref d, .int (Int32.ofNat q), .int (Int32.ofNat len)] 7)) (Tl.setTop (mkF m 3 #[.val (.ref b), .val (.int (Int32.ofNat (o + i))), .val (.ref d), .val (.int (Int32.ofNat (q + i))), .val (.int (Int32.ofNat len)), .val (.int (Int32.ofNat i)), z] [])) → ∃ (T' : State) (B' : Cell) (z' : Slot), Stand p l e { frames := 0, locals := 0, cells := 0, slots := 0 } s m #[.ref b, .int (Int32.ofNat o), .ref d, .int (Int32.ofNat q), .int (Int32.ofNat len)] below meth c T' ([] ++ copyLocs d q len) 0 0 ∧ Put d B' s₁ T' ∧ Laid B B' q (q + len) (fun j => Value.int (lo8 (cv A (o + (j - q))))) ∧
      Steps p.tables e below (s₁.setTop (entryFrame m #[.ref b, .int (Int32.ofNat o), .ref d, .int (Int32.ofNat q), .int (Int32.ofNat len)] 7)) (T'.setTop (mkF m 3 #[.val (.ref b), .val (.int (Int32.ofNat (o + len))), .val (.ref d), .val (.int (Int32.ofNat (q + len))), .val (.int (Int32.ofNat len)), .val (.int (Int32.ofNat len)), z'] [])) := by
    intro r
    induction r with
    | zero =>
      intro i hi z hz Tl Bk Xl pl fl cl
      have hil : i = len := by omega
      rw [hil] at Xl fl cl
      exact ⟨Tl, Bk, z, Xl, pl, fl, cl⟩
    | succ r ih =>
      intro i hi z hz Tl Bk Xl pl fl cl
      have all := X0.warmed.alike.symm.trans Xl.warmed.alike
      have hAl := hA0.keep all (pl.other hne hA0.1)
      have hBk := hB0.like all pl.1 fl.1 fl.2.1 fl.2.2.1
      have hlt : q + i < Bk.slots.size := by rw [fl.2.2.1]; omega
      have c3 : Steps p.tables e below (s₁.setTop (entryFrame m #[.ref b, .int (Int32.ofNat o), .ref d, .int (Int32.ofNat q), .int (Int32.ofNat len)] 7)) (Tl.setTop (mkF m 12 #[.val (.ref b), .val (.int (Int32.ofNat (o + i))), .val (.ref d), .val (.int (Int32.ofNat (q + i))), .val (.int (Int32.ofNat len)), .val (.int (Int32.ofNat i)), z] [.int (Int32.ofNat (o + i)), .ref b])) := cl.trans (by
        refine XS.iload Xl.here hexec rfl (hb hbytes d3) rfl ?_
        refine XS.iload Xl.here hexec rfl (hb hbytes d5) rfl ?_
        refine XS.icmpNo Xl.here hexec rfl (hb hbytes d7) rfl (ii_ge_f (lt32 (by omega) (by omega))) ?_
        refine XS.aloadN Xl.here hexec rfl (hb hbytes d10) rfl rfl ?_
        refine XS.iloadN Xl.here hexec rfl (hb hbytes d11) rfl ?_
        exact Steps.refl _)
      have c4 : Steps p.tables e below (s₁.setTop (entryFrame m #[.ref b, .int (Int32.ofNat o), .ref d, .int (Int32.ofNat q), .int (Int32.ofNat len)] 7)) (Tl.setTop (mkF m 13 #[.val (.ref b), .val (.int (Int32.ofNat (o + i))), .val (.ref d), .val (.int (Int32.ofNat (q + i))), .val (.int (Int32.ofNat len)), .val (.int (Int32.ofNat i)), z] [.int (cv A (o + i))])) := c3.trans (by
        refine Xl.aget hexec hAl rfl (hA.get (i := o + i) (by omega)) rfl rfl (hb hbytes d12) ?_
        exact Steps.refl _)
      have c5 : Steps p.tables e below (s₁.setTop (entryFrame m #[.ref b, .int (Int32.ofNat o), .ref d, .int (Int32.ofNat q), .int (Int32.ofNat len)] 7)) (Tl.setTop (mkF m 15 #[.val (.ref b), .val (.int (Int32.ofNat (o + i))), .val (.ref d), .val (.int (Int32.ofNat (q + i))), .val (.int (Int32.ofNat len)), .val (.int (Int32.ofNat i)), .val (.int (cv A (o + i)))] [])) := c4.trans (by
        refine XS.istoreS Xl.here hexec rfl (hb hbytes d13) rfl rfl hz ?_
        exact Steps.refl _)
      have c6 : Steps p.tables e below (s₁.setTop (entryFrame m #[.ref b, .int (Int32.ofNat o), .ref d, .int (Int32.ofNat q), .int (Int32.ofNat len)] 7)) (Tl.setTop (mkF m 31 #[.val (.ref b), .val (.int (Int32.ofNat (o + i))), .val (.ref d), .val (.int (Int32.ofNat (q + i))), .val (.int (Int32.ofNat len)), .val (.int (Int32.ofNat i)), .val (.int (cv A (o + i)))] [.int (lo8 (cv A (o + i))), .int (Int32.ofNat (q + i)), .ref d])) := c5.trans (by
        refine XS.iload Xl.here hexec rfl (hb hbytes d15) rfl ?_
        refine sipushV Xl.here hexec rfl 255 (hb hbytes d17) (by decide) ?_
        refine XS.icmpYes Xl.here hexec rfl (pc0 := 20) rfl (hb hbytes d20) rfl (ii_le_t (hp i (by omega))) (by decide) rfl ?_
        refine XS.aloadN Xl.here hexec rfl (hb hbytes d26) rfl rfl ?_
        refine XS.iloadN Xl.here hexec rfl (hb hbytes d27) rfl ?_
        refine XS.iload Xl.here hexec rfl (hb hbytes d28) rfl ?_
        refine i2b Xl.here hexec rfl (hb hbytes d30) rfl ?_
        exact Steps.refl _)
      obtain ⟨T7, X7, p7, st7⟩ := Xl.aput hexec hBk rfl hlt rfl (fits_lo8 (cv A (o + i))) (g := (mkF m 31 #[.val (.ref b), .val (.int (Int32.ofNat (o + i))), .val (.ref d), .val (.int (Int32.ofNat (q + i))), .val (.int (Int32.ofNat len)), .val (.int (Int32.ofNat i)), .val (.int (cv A (o + i)))] [.int (lo8 (cv A (o + i))), .int (Int32.ofNat (q + i)), .ref d])) rfl (rest := []) rfl (hb hbytes d31)
      have c8 : Steps p.tables e below (s₁.setTop (entryFrame m #[.ref b, .int (Int32.ofNat o), .ref d, .int (Int32.ofNat q), .int (Int32.ofNat len)] 7)) (T7.setTop (mkF m 32 #[.val (.ref b), .val (.int (Int32.ofNat (o + i))), .val (.ref d), .val (.int (Int32.ofNat (q + i))), .val (.int (Int32.ofNat len)), .val (.int (Int32.ofNat i)), .val (.int (cv A (o + i)))] [])) := c6.trans (st7 _ (Steps.refl _))
      have c9 : Steps p.tables e below (s₁.setTop (entryFrame m #[.ref b, .int (Int32.ofNat o), .ref d, .int (Int32.ofNat q), .int (Int32.ofNat len)] 7)) (T7.setTop (mkF m 3 #[.val (.ref b), .val (.int (Int32.ofNat (o + i) + 1)), .val (.ref d), .val (.int (Int32.ofNat (q + i) + 1)), .val (.int (Int32.ofNat len)), .val (.int (Int32.ofNat i + 1)), .val (.int (cv A (o + i)))] [])) := c8.trans (by
        refine iincV X7.here hexec rfl 1 (hb hbytes d32) (by decide) rfl rfl ?_
        refine iincV X7.here hexec rfl 1 (hb hbytes d35) (by decide) rfl rfl ?_
        refine iincV X7.here hexec rfl 1 (hb hbytes d38) (by decide) rfl rfl ?_
        refine XS.goto X7.here hexec rfl (pc0 := 41) rfl (hb hbytes d41) (by decide) rfl ?_
        exact Steps.refl _)
      have c10 : Steps p.tables e below (s₁.setTop (entryFrame m #[.ref b, .int (Int32.ofNat o), .ref d, .int (Int32.ofNat q), .int (Int32.ofNat len)] 7)) (T7.setTop (mkF m 3 #[.val (.ref b), .val (.int (Int32.ofNat (o + (i + 1)))), .val (.ref d), .val (.int (Int32.ofNat (q + (i + 1)))), .val (.int (Int32.ofNat len)), .val (.int (Int32.ofNat (i + 1))), .val (.int (cv A (o + i)))] [])) := by
        have := c9
        rw [succ32, succ32, succ32] at this
        exact this
      exact ih (i + 1) (by omega) _ (Or.inr ⟨_, rfl, rfl⟩) T7 _ (by rw [copyLocs_step, ← List.append_assoc]; exact X7) (pl.trans p7) (fl.step (by omega) hlt (by simp)) c10
  obtain ⟨T9, B9, z9, X9, p9, f9, g9⟩ := loop len 0 (by omega) .unset (Or.inl rfl) s₁ B (by simpa [copyLocs] using X0) ⟨hB0.1, fun _ _ => rfl, rfl⟩ (Laid.zero _ _ _) c2
  have c11 : Steps p.tables e below (s₁.setTop (entryFrame m #[.ref b, .int (Int32.ofNat o), .ref d, .int (Int32.ofNat q), .int (Int32.ofNat len)] 7)) (T9.setTop (mkF m 46 #[.val (.ref b), .val (.int (Int32.ofNat (o + len))), .val (.ref d), .val (.int (Int32.ofNat (q + len))), .val (.int (Int32.ofNat len)), .val (.int (Int32.ofNat len)), z9] [.int (Int32.ofNat len)])) := g9.trans (by
    refine XS.iload X9.here hexec rfl (hb hbytes d3) rfl ?_
    refine XS.iload X9.here hexec rfl (hb hbytes d5) rfl ?_
    refine XS.icmpYes X9.here hexec rfl (pc0 := 7) rfl (hb hbytes d7) rfl (ii_ge_t (nlt32 (by omega) (Nat.le_refl _))) (by decide) rfl ?_
    refine XS.iload X9.here hexec rfl (hb hbytes d44) rfl ?_
    exact Steps.refl _)
  exact ⟨T9, some (.int (Int32.ofNat len)), _, _, _, X9, by simp, rfl, rfl, (fun h => by cases h), ⟨rfl, B9, p9.from hh0, f9⟩, fun fs hl => c11.trans (X9.ireturnOut hexec hret rfl (Or.inl rfl) (hb hbytes d46) hl)⟩
end Cmp5
namespace Cmp3
def yN : MethodName := ⟨"java/lang/StringUTF16", "compress", "([CII)[B"⟩
abbrev yB : ByteArray := jdk_52_method_16_code
theorem d0 : decode yB 0 = .ok (.iload_n 2, 1) := by decide +kernel
theorem d1 : decode yB 1 = .ok (.newarray .byte, 2) := by decide +kernel
theorem d3 : decode yB 3 = .ok (.astore_n 3, 1) := by decide +kernel
theorem d4 : decode yB 4 = .ok (.aload_n 0, 1) := by decide +kernel
theorem d5 : decode yB 5 = .ok (.iload_n 1, 1) := by decide +kernel
theorem d6 : decode yB 6 = .ok (.aload_n 3, 1) := by decide +kernel
theorem d7 : decode yB 7 = .ok (.iconst 0, 1) := by decide +kernel
theorem d8 : decode yB 8 = .ok (.iload_n 2, 1) := by decide +kernel
theorem d9 : decode yB 9 = .ok (.invokestatic 115, 3) := by decide +kernel
theorem d12 : decode yB 12 = .ok (.istore 4, 2) := by decide +kernel
theorem d14 : decode yB 14 = .ok (.iload 4, 2) := by decide +kernel
theorem d16 : decode yB 16 = .ok (.iload_n 2, 1) := by decide +kernel
theorem d17 : decode yB 17 = .ok (.if_icmp (.eq) 40, 3) := by decide +kernel
theorem d57 : decode yB 57 = .ok (.aload_n 3, 1) := by decide +kernel
theorem d58 : decode yB 58 = .ok (.areturn, 1) := by decide +kernel
def site : List Cond := [.arrayClass .byte, Cmp5.tab] ++ staticW U16 115 Cmp5.yN
def tab : Cond := tabOf yN yB 6 (some (.array .byte)) site
def P (b : Addr) (A : Cell) (o len : Nat) (args : Array Value) (s : State) : Prop := args = #[.ref b, .int (Int32.ofNat o), .int (Int32.ofNat len)] ∧ Ch b A s ∧ o + len ≤ A.slots.size ∧ len ≤ 536870912 ∧ ∀ i, i < len → ¬ 255 < cv A (o + i)
def E (b : Addr) (A : Cell) (o len : Nat) (r : Option Value) (s u : State) : Prop := NewArr .byte "[B" len (fun j => .int (lo8 (cv A (o + j)))) r s u ∧ u.heap.size = s.heap.size + 1
/-- no char of the range above 255: a new byte[] of their low bytes -/
theorem law (l : Launch) (b : Addr) (A : Cell) (o len : Nat) : Law l yN 3 3 1 18 yB 6 (some (.array .byte)) site (P b A o len) (E b A o len) [] 1 len := by
  refine Law.of_walk (plainFor_of_name (by decide +kernel)) (by decide +kernel) (by decide +kernel) (by decide) (fun _ _ h => by rw [h.1]; rfl) (fun _ U U' hal hh h => ⟨h.1, h.2.1.mv hal hh, h.2.2⟩) (fun r U U' V V' h1 hal h2 h => ⟨NewArr.mv r U U' V V' h1 hal h2 h.1, by rw [h1, h2]; exact h.2⟩) ?_
  intro p e s m args below meth c s₁ X0 hexec hbytes hml hret hlk hnm hown hh0 W hP
  obtain ⟨rfl, hA, l1, l2, hp⟩ := hP
  have a31 := hA.1.2.2.2
  have c1 : Steps p.tables e below (s₁.setTop (entryFrame m #[.ref b, .int (Int32.ofNat o), .int (Int32.ofNat len)] 6)) (s₁.setTop (mkF m 0 #[.val (.ref b), .val (.int (Int32.ofNat o)), .val (.int (Int32.ofNat len)), .unset, .unset, .unset] [])) := entry rfl
  have c2 : Steps p.tables e below (s₁.setTop (entryFrame m #[.ref b, .int (Int32.ofNat o), .int (Int32.ofNat len)] 6)) (s₁.setTop (mkF m 1 #[.val (.ref b), .val (.int (Int32.ofNat o)), .val (.int (Int32.ofNat len)), .unset, .unset, .unset] [.int (Int32.ofNat len)])) := c1.trans (by
    refine XS.iloadN X0.here hexec rfl (hb hbytes d0) rfl ?_
    exact Steps.refl _)
  obtain ⟨T3, B3, X3, ba3, bs3, bv3, bh3, bf3, st3⟩ := X0.anew hexec (atype := .byte) (wk W (.arrayClass .byte)) rfl (by show len * 1 ≤ _; omega) (by omega) (g := (mkF m 1 #[.val (.ref b), .val (.int (Int32.ofNat o)), .val (.int (Int32.ofNat len)), .unset, .unset, .unset] [.int (Int32.ofNat len)])) rfl (hb hbytes d1) (rest := []) rfl (Nat.le_refl _) (by show 0 + len ≤ len; omega)
  rw [hh0] at ba3 st3
  have kp3 : XT.Kept s T3 := (XT.Kept.of_eq hh0).push bh3
  have hA3 := hA.keep X3.warmed.alike (kp3 _ _ hA.1.1)
  have hne : b ≠ s.heap.size := hA.1.ne
  have c4 : Steps p.tables e below (s₁.setTop (entryFrame m #[.ref b, .int (Int32.ofNat o), .int (Int32.ofNat len)] 6)) (T3.setTop (mkF m 3 #[.val (.ref b), .val (.int (Int32.ofNat o)), .val (.int (Int32.ofNat len)), .unset, .unset, .unset] [.ref s.heap.size])) := c2.trans (st3 _ (Steps.refl _))
  have c5 : Steps p.tables e below (s₁.setTop (entryFrame m #[.ref b, .int (Int32.ofNat o), .int (Int32.ofNat len)] 6)) (T3.setTop (mkF m 9 #[.val (.ref b), .val (.int (Int32.ofNat o)), .val (.int (Int32.ofNat len)), .val (.ref s.heap.size), .unset, .unset] [.int (Int32.ofNat len), .int 0, .ref s.heap.size, .int (Int32.ofNat o), .ref b])) := c4.trans (by
    refine XS.astoreN X3.here hexec rfl (hb hbytes d3) rfl rfl rfl ?_
    refine XS.aloadN X3.here hexec rfl (hb hbytes d4) rfl rfl ?_
    refine XS.iloadN X3.here hexec rfl (hb hbytes d5) rfl ?_
    refine XS.aloadN X3.here hexec rfl (hb hbytes d6) rfl rfl ?_
    refine iconstV X3.here hexec rfl 0 (hb hbytes d7) (by decide) ?_
    refine XS.iloadN X3.here hexec rfl (hb hbytes d8) rfl ?_
    exact Steps.refl _)
  obtain ⟨v6, T6, X6, E6, g6⟩ := X3.callS hexec (Cmp5.law l b A s.heap.size B3 o 0 len) hown (wks W (staticW U16 115 Cmp5.yN)) (wk W Cmp5.tab) (W := 0) (Nat.le_of_ble_eq_true rfl) (Nat.le_of_ble_eq_true rfl) (Nat.le_refl _) (by show 0 + len + 0 ≤ len; omega) (g := (mkF m 9 #[.val (.ref b), .val (.int (Int32.ofNat o)), .val (.int (Int32.ofNat len)), .val (.ref s.heap.size), .unset, .unset] [.int (Int32.ofNat len), .int (Int32.ofNat 0), .ref s.heap.size, .int (Int32.ofNat o), .ref b])) rfl (by rw [hml]; rfl) c5 (argsL := [.ref b, .int (Int32.ofNat o), .ref s.heap.size, .int (Int32.ofNat 0), .int (Int32.ofNat len)]) (rest := []) rfl rfl (by show 2 * 0 + 0 ≤ _; decide) (hb hbytes d9) (⟨rfl, hA3, ba3, hne, l1, by rw [bs3]; simp, hp⟩)
  obtain ⟨rfl, B6, p6, f6⟩ := E6
  have c7 : Steps p.tables e below (s₁.setTop (entryFrame m #[.ref b, .int (Int32.ofNat o), .int (Int32.ofNat len)] 6)) (T6.setTop (mkF m 12 #[.val (.ref b), .val (.int (Int32.ofNat o)), .val (.int (Int32.ofNat len)), .val (.ref s.heap.size), .unset, .unset] [.int (Int32.ofNat len)])) := g6
  have c8 : Steps p.tables e below (s₁.setTop (entryFrame m #[.ref b, .int (Int32.ofNat o), .int (Int32.ofNat len)] 6)) (T6.setTop (mkF m 58 #[.val (.ref b), .val (.int (Int32.ofNat o)), .val (.int (Int32.ofNat len)), .val (.ref s.heap.size), .val (.int (Int32.ofNat len)), .unset] [.ref s.heap.size])) := c7.trans (by
    refine XS.istore X6.here hexec rfl (hb hbytes d12) rfl rfl ?_
    refine XS.iload X6.here hexec rfl (hb hbytes d14) rfl ?_
    refine XS.iloadN X6.here hexec rfl (hb hbytes d16) rfl ?_
    refine XS.icmpYes X6.here hexec rfl (pc0 := 17) rfl (hb hbytes d17) rfl (ii_eq_t rfl) (by decide) rfl ?_
    refine XS.aloadN X6.here hexec rfl (hb hbytes d57) rfl rfl ?_
    exact Steps.refl _)
  have X8 := X6.wide (L' := []) (cells' := 1) (slots' := len) (fun x hx hlt => by
    simp only [List.nil_append, copyLocs, List.mem_map, List.mem_range] at hx
    obtain ⟨i, -, rfl⟩ := hx
    exact absurd hlt (Nat.lt_irrefl _)) (Nat.le_refl _) (by omega)
  exact ⟨T6, some (.ref s.heap.size), _, _, _, X8, rfl, rfl, rfl, (fun h => by cases h), ⟨⟨rfl, B6, ba3.like (X3.warmed.alike.symm.trans X6.warmed.alike) p6.1 f6.1 f6.2.1 f6.2.2.1, f6.2.1.trans bv3, by rw [X6.warmed.alike.findClass, f6.1]; exact bf3, by rw [f6.2.2.1, bs3]; simp, fun j hj => by rw [f6.2.2.2 j, if_pos (by omega)]; rfl, kp3.put p6 (Nat.le_refl _)⟩, by rw [p6.2.2, bh3, hh0]; simp⟩, fun fs hl => c8.trans (X8.areturnOut hexec rfl hret rfl (hb hbytes d58) hl)⟩
end Cmp3
namespace CodL
def yN : MethodName := ⟨"java/lang/StringUTF16", "coderFromArrayLen", "([BI)B"⟩
abbrev yB : ByteArray := jdk_52_method_15_code
theorem d0 : decode yB 0 = .ok (.iload_n 1, 1) := by decide +kernel
theorem d1 : decode yB 1 = .ok (.aload_n 0, 1) := by decide +kernel
theorem d2 : decode yB 2 = .ok (.arraylength, 1) := by decide +kernel
theorem d3 : decode yB 3 = .ok (.isub, 1) := by decide +kernel
theorem d4 : decode yB 4 = .ok (.bipush 31, 2) := by decide +kernel
theorem d6 : decode yB 6 = .ok (.iushr, 1) := by decide +kernel
theorem d7 : decode yB 7 = .ok (.i2b, 1) := by decide +kernel
theorem d8 : decode yB 8 = .ok (.ireturn, 1) := by decide +kernel
def site : List Cond := []
def tab : Cond := tabOf yN yB 2 (some .byte) site
def P (d : Addr) (B : Cell) (args : Array Value) (s : State) : Prop := args = #[.ref d, .int (Int32.ofNat B.slots.size)] ∧ Arr .byte d B s
def E (r : Option Value) (s u : State) : Prop := XT.PureE (some (.int 0)) r s u
/-- an array as long as the number of chars: LATIN1 -/
theorem law (l : Launch) (d : Addr) (B : Cell) : Law l yN 2 2 0 0 yB 2 (some .byte) site (P d B) E [] 0 0 := by
  refine Law.of_walk (plainFor_of_name (by decide +kernel)) (by decide +kernel) (by decide +kernel) (by decide) (fun _ _ h => by rw [h.1]; rfl) (fun _ U U' hal hh h => ⟨h.1, h.2.mv hal hh⟩) (fun r U U' V V' h1 hal h2 h => XT.PureE.mv r U U' V V' h1 hal h2 h) ?_
  intro p e s m args below meth c s₁ X0 hexec hbytes hml hret hlk hnm hown hh0 W hP
  obtain ⟨rfl, hB⟩ := hP
  have hB0 := hB.mv X0.warmed.alike hh0
  have c1 : Steps p.tables e below (s₁.setTop (entryFrame m #[.ref d, .int (Int32.ofNat B.slots.size)] 2)) (s₁.setTop (mkF m 0 #[.val (.ref d), .val (.int (Int32.ofNat B.slots.size))] [])) := entry rfl
  have c2 : Steps p.tables e below (s₁.setTop (entryFrame m #[.ref d, .int (Int32.ofNat B.slots.size)] 2)) (s₁.setTop (mkF m 2 #[.val (.ref d), .val (.int (Int32.ofNat B.slots.size))] [.ref d, .int (Int32.ofNat B.slots.size)])) := c1.trans (by
    refine XS.iloadN X0.here hexec rfl (hb hbytes d0) rfl ?_
    refine XS.aloadN X0.here hexec rfl (hb hbytes d1) rfl rfl ?_
    exact Steps.refl _)
  have c3 : Steps p.tables e below (s₁.setTop (entryFrame m #[.ref d, .int (Int32.ofNat B.slots.size)] 2)) (s₁.setTop (mkF m 8 #[.val (.ref d), .val (.int (Int32.ofNat B.slots.size))] [.int (lo8 (ushr (Int32.ofNat B.slots.size - Int32.ofNat B.slots.size) 31))])) := c2.trans (by
    refine X0.alen hexec hB0 rfl rfl (hb hbytes d2) ?_
    refine XS.isub X0.here hexec rfl (hb hbytes d3) rfl ?_
    refine bipushV X0.here hexec rfl 31 (hb hbytes d4) (by decide) ?_
    refine iushr X0.here hexec rfl (hb hbytes d6) rfl ?_
    refine i2b X0.here hexec rfl (hb hbytes d7) rfl ?_
    exact Steps.refl _)
  have e0 : lo8 (ushr (Int32.ofNat B.slots.size - Int32.ofNat B.slots.size) 31) = 0 := by rw [Int32.sub_self]; decide
  rw [e0] at c3
  exact ⟨s₁, some (.int 0), _, _, _, X0, rfl, rfl, rfl, (fun h => by cases h), ⟨rfl, hh0⟩, fun fs hl => c3.trans (X0.ireturnOut hexec hret rfl (Or.inr (Or.inr (Or.inl rfl))) (hb hbytes d8) hl)⟩
end CodL
/-- the String at a is Latin-1 over a new byte[] (the heap's one new cell): the low bytes of the len chars of A from o on; every cell but a is kept -/
def Got (a : Addr) (D : Cell) (fV fC : Field) (A : Cell) (o len : Nat) (r : Option Value) (s u : State) : Prop := r = none ∧ ∃ D' V : Cell, Blank "java/lang/String" a D' u ∧ Same D D' [fV.slot, fC.slot] ∧ D'.slots[fV.slot]? = some (.ref s.heap.size) ∧ D'.slots[fC.slot]? = some (.int 0) ∧ Arr .byte s.heap.size V u ∧ V.vm = .none ∧ u.vm.findClass "[B" = some V.cls ∧ V.slots.size = len ∧ (∀ j, j < len → V.slots[j]? = some (.int (lo8 (cv A (o + j))))) ∧ (∀ (y : Addr) (c : Cell), y ≠ a → s.heap[y]? = some c → u.heap[y]? = some c) ∧ u.heap.size = s.heap.size + 1
theorem Got.mv {a : Addr} {D A : Cell} {fV fC : Field} {o len : Nat} : ∀ r (U U' V V' : State), U'.heap = U.heap → V.vm.Alike V'.vm → V'.heap = V.heap → Got a D fV fC A o len r U V → Got a D fV fC A o len r U' V' :=
  fun r U U' V V' h1 hal h2 ⟨e0, D', X, a1, a2, a3, a4, a5, a6, a7, a8, a9, a10, a11⟩ => ⟨e0, D', X, a1.mv hal h2, a2, by rw [h1]; exact a3, a4, by rw [h1]; exact a5.mv hal h2, a6, by rw [hal.findClass]; exact a7, a8, a9, by rw [h1, h2]; exact a10, by rw [h1, h2]; exact a11⟩
namespace New4
def yN : MethodName := ⟨"java/lang/String", "<init>", "([CIILjava/lang/Void;)V"⟩
abbrev yB : ByteArray := jdk_42_method_149_code
theorem d0 : decode yB 0 = .ok (.aload_n 0, 1) := by decide +kernel
theorem d1 : decode yB 1 = .ok (.invokespecial 1, 3) := by decide +kernel
theorem d4 : decode yB 4 = .ok (.iload_n 3, 1) := by decide +kernel
theorem d5 : decode yB 5 = .ok (.ifCond (.ne) 22, 3) := by decide +kernel
theorem d27 : decode yB 27 = .ok (.getstatic 38, 3) := by decide +kernel
theorem d30 : decode yB 30 = .ok (.ifCond (.eq) 28, 3) := by decide +kernel
theorem d33 : decode yB 33 = .ok (.aload_n 1, 1) := by decide +kernel
theorem d34 : decode yB 34 = .ok (.iload_n 2, 1) := by decide +kernel
theorem d35 : decode yB 35 = .ok (.iload_n 3, 1) := by decide +kernel
theorem d36 : decode yB 36 = .ok (.invokestatic 177, 3) := by decide +kernel
theorem d39 : decode yB 39 = .ok (.astore 5, 2) := by decide +kernel
theorem d41 : decode yB 41 = .ok (.aload_n 0, 1) := by decide +kernel
theorem d42 : decode yB 42 = .ok (.aload 5, 2) := by decide +kernel
theorem d44 : decode yB 44 = .ok (.iload_n 3, 1) := by decide +kernel
theorem d45 : decode yB 45 = .ok (.invokestatic 47, 3) := by decide +kernel
theorem d48 : decode yB 48 = .ok (.putfield 15, 3) := by decide +kernel
theorem d51 : decode yB 51 = .ok (.aload_n 0, 1) := by decide +kernel
theorem d52 : decode yB 52 = .ok (.aload 5, 2) := by decide +kernel
theorem d54 : decode yB 54 = .ok (.putfield 9, 3) := by decide +kernel
theorem d57 : decode yB 57 = .ok (.return_, 1) := by decide +kernel
def site : List Cond := [.fieldLink "java/lang/String" 38 "java/lang/String" "COMPACT_STRINGS" "Z", Cmp3.tab, CodL.tab, .laysFinal "java/lang/String" "java/lang/String" "value" "[B", .fieldLink "java/lang/String" 9 "java/lang/String" "value" "[B", .laysFinal "java/lang/String" "java/lang/String" "coder" "B", .fieldLink "java/lang/String" 15 "java/lang/String" "coder" "B"] ++ objW "java/lang/String" 1 ++ staticW "java/lang/String" 177 Cmp3.yN ++ staticW "java/lang/String" 47 CodL.yN
def tab : Cond := tabOf yN yB 6 none site
def P (a : Addr) (D : Cell) (fV fC : Field) (b : Addr) (A : Cell) (z : Int32) (o len : Nat) (args : Array Value) (s : State) : Prop := args = #[.ref a, .ref b, .int (Int32.ofNat o), .int (Int32.ofNat len), .null] ∧ Blank "java/lang/String" a D s ∧ Found "java/lang/String" "value" "[B" fV s ∧ Found "java/lang/String" "coder" "B" fC s ∧ Ch b A s ∧ StaticIs s "java/lang/String" "COMPACT_STRINGS" "Z" (.int z) ∧ ¬ z = 0 ∧ 0 < len ∧ o + len ≤ A.slots.size ∧ len ≤ 536870912 ∧ ∀ i, i < len → ¬ 255 < cv A (o + i)
def E (a : Addr) (D : Cell) (fV fC : Field) (A : Cell) (o len : Nat) (r : Option Value) (s u : State) : Prop := Got a D fV fC A o len r s u
/-- len > 0, no char of the range above 255: a Latin-1 String of their low bytes -/
theorem law (l : Launch) (a : Addr) (D : Cell) (fV fC : Field) (b : Addr) (A : Cell) (z : Int32) (o len : Nat) : Law l yN 5 4 2 35 yB 6 none site (P a D fV fC b A z o len) (E a D fV fC A o len) [⟨a, fC.slot⟩, ⟨a, fV.slot⟩] 1 len := by
  refine Law.of_walk (plainFor_of_name (by decide +kernel)) (by decide +kernel) (by decide +kernel) (by decide) (fun _ _ h => by rw [h.1]; rfl) (fun _ U U' hal hh h => ⟨h.1, h.2.1.mv hal hh, h.2.2.1.al hal, h.2.2.2.1.al hal, h.2.2.2.2.1.mv hal hh, h.2.2.2.2.2.1.there hal hh, h.2.2.2.2.2.2⟩) (fun r U U' V V' h1 hal h2 h => Got.mv r U U' V V' h1 hal h2 h) ?_
  intro p e s m args below meth c s₁ X0 hexec hbytes hml hret hlk hnm hown hh0 W hP
  obtain ⟨rfl, hB, f1, f2, hA, s1, hz, l0, l1, l2, hp⟩ := hP
  have a31 := hA.1.2.2.2
  have c1 : Steps p.tables e below (s₁.setTop (entryFrame m #[.ref a, .ref b, .int (Int32.ofNat o), .int (Int32.ofNat len), .null] 6)) (s₁.setTop (mkF m 0 #[.val (.ref a), .val (.ref b), .val (.int (Int32.ofNat o)), .val (.int (Int32.ofNat len)), .val .null, .unset] [])) := entry rfl
  have c2 : Steps p.tables e below (s₁.setTop (entryFrame m #[.ref a, .ref b, .int (Int32.ofNat o), .int (Int32.ofNat len), .null] 6)) (s₁.setTop (mkF m 1 #[.val (.ref a), .val (.ref b), .val (.int (Int32.ofNat o)), .val (.int (Int32.ofNat len)), .val .null, .unset] [.ref a])) := c1.trans (by
    refine XS.aloadN X0.here hexec rfl (hb hbytes d0) rfl rfl ?_
    exact Steps.refl _)
  obtain ⟨T3, X3, q3, st3⟩ := X0.oinit hexec hown (wks W (objW "java/lang/String" 1)) (g := (mkF m 1 #[.val (.ref a), .val (.ref b), .val (.int (Int32.ofNat o)), .val (.int (Int32.ofNat len)), .val .null, .unset] [.ref a])) rfl (by rw [hml]; rfl) (rest := []) rfl (hb hbytes d1) (W := 0) (by show 2 * 0 + 0 ≤ _; decide) (Nat.le_of_ble_eq_true rfl) (Nat.le_of_ble_eq_true rfl)
  have hh3 := q3.trans hh0
  have c4 : Steps p.tables e below (s₁.setTop (entryFrame m #[.ref a, .ref b, .int (Int32.ofNat o), .int (Int32.ofNat len), .null] 6)) (T3.setTop (mkF m 27 #[.val (.ref a), .val (.ref b), .val (.int (Int32.ofNat o)), .val (.int (Int32.ofNat len)), .val .null, .unset] [])) := (c2.trans (st3 _ (Steps.refl _))).trans (by
    refine XS.iloadN X3.here hexec rfl (hb hbytes d4) rfl ?_
    refine XS.ifYes X3.here hexec rfl (pc0 := 5) rfl (hb hbytes d5) rfl (i0_ne_t (nz32 (by omega) l0)) (by decide) rfl ?_
    exact Steps.refl _)
  obtain ⟨T5, X5, q5, st5⟩ := X3.sget hexec hown (wk W (.fieldLink "java/lang/String" 38 "java/lang/String" "COMPACT_STRINGS" "Z")) s1 (fun _ _ h => by rw [hh3]; exact h) (g := (mkF m 27 #[.val (.ref a), .val (.ref b), .val (.int (Int32.ofNat o)), .val (.int (Int32.ofNat len)), .val .null, .unset] [])) rfl (hb hbytes d27)
  have hh5 := q5.trans hh3
  have c6 : Steps p.tables e below (s₁.setTop (entryFrame m #[.ref a, .ref b, .int (Int32.ofNat o), .int (Int32.ofNat len), .null] 6)) (T5.setTop (mkF m 30 #[.val (.ref a), .val (.ref b), .val (.int (Int32.ofNat o)), .val (.int (Int32.ofNat len)), .val .null, .unset] [.int z])) := c4.trans (st5 _ (Steps.refl _))
  have c7 : Steps p.tables e below (s₁.setTop (entryFrame m #[.ref a, .ref b, .int (Int32.ofNat o), .int (Int32.ofNat len), .null] 6)) (T5.setTop (mkF m 36 #[.val (.ref a), .val (.ref b), .val (.int (Int32.ofNat o)), .val (.int (Int32.ofNat len)), .val .null, .unset] [.int (Int32.ofNat len), .int (Int32.ofNat o), .ref b])) := c6.trans (by
    refine XS.ifNo X5.here hexec rfl (hb hbytes d30) rfl (i0_eq_f hz) ?_
    refine XS.aloadN X5.here hexec rfl (hb hbytes d33) rfl rfl ?_
    refine XS.iloadN X5.here hexec rfl (hb hbytes d34) rfl ?_
    refine XS.iloadN X5.here hexec rfl (hb hbytes d35) rfl ?_
    exact Steps.refl _)
  obtain ⟨v8, T8, X8, E8, g8⟩ := X5.callS hexec (Cmp3.law l b A o len) hown (wks W (staticW "java/lang/String" 177 Cmp3.yN)) (wk W Cmp3.tab) (W := 0) (Nat.le_of_ble_eq_true rfl) (Nat.le_of_ble_eq_true rfl) (Nat.le_refl _) (by show 0 + len ≤ len; omega) (g := (mkF m 36 #[.val (.ref a), .val (.ref b), .val (.int (Int32.ofNat o)), .val (.int (Int32.ofNat len)), .val .null, .unset] [.int (Int32.ofNat len), .int (Int32.ofNat o), .ref b])) rfl (by rw [hml]; rfl) c7 (argsL := [.ref b, .int (Int32.ofNat o), .int (Int32.ofNat len)]) (rest := []) rfl rfl (by show 2 * 0 + 0 ≤ _; decide) (hb hbytes d36) (⟨rfl, hA.mv X5.warmed.alike hh5, l1, l2, hp⟩)
  obtain ⟨e8, z8⟩ := E8
  obtain ⟨rfl, N, n1, n2, n3, n4, n5, n6⟩ := NewArr.mv _ T5 s _ _ hh5.symm (Vm.Alike.refl _) rfl e8
  rw [hh5] at z8
  have hB1 := hB.keep X8.warmed.alike (n6 _ _ hB.1)
  have hne : s.heap.size ≠ a := (Nat.ne_of_lt (Array.getElem?_eq_some_iff.mp hB.1).1).symm
  have c9 : Steps p.tables e below (s₁.setTop (entryFrame m #[.ref a, .ref b, .int (Int32.ofNat o), .int (Int32.ofNat len), .null] 6)) (T8.setTop (mkF m 39 #[.val (.ref a), .val (.ref b), .val (.int (Int32.ofNat o)), .val (.int (Int32.ofNat len)), .val .null, .unset] [.ref s.heap.size])) := g8
  have c10 : Steps p.tables e below (s₁.setTop (entryFrame m #[.ref a, .ref b, .int (Int32.ofNat o), .int (Int32.ofNat len), .null] 6)) (T8.setTop (mkF m 45 #[.val (.ref a), .val (.ref b), .val (.int (Int32.ofNat o)), .val (.int (Int32.ofNat len)), .val .null, .val (.ref s.heap.size)] [.int (Int32.ofNat N.slots.size), .ref s.heap.size, .ref a])) := by
    have hc : Steps p.tables e below (s₁.setTop (entryFrame m #[.ref a, .ref b, .int (Int32.ofNat o), .int (Int32.ofNat len), .null] 6)) (T8.setTop (mkF m 45 #[.val (.ref a), .val (.ref b), .val (.int (Int32.ofNat o)), .val (.int (Int32.ofNat len)), .val .null, .val (.ref s.heap.size)] [.int (Int32.ofNat len), .ref s.heap.size, .ref a])) := c9.trans (by
      refine XS.astore X8.here hexec rfl (hb hbytes d39) rfl rfl rfl ?_
      refine XS.aloadN X8.here hexec rfl (hb hbytes d41) rfl rfl ?_
      refine XS.aload X8.here hexec rfl (hb hbytes d42) rfl rfl ?_
      refine XS.iloadN X8.here hexec rfl (hb hbytes d44) rfl ?_
      exact Steps.refl _)
    rw [n4]; exact hc
  obtain ⟨v11, T11, X11, E11, g11⟩ := X8.callS hexec (CodL.law l s.heap.size N) hown (wks W (staticW "java/lang/String" 47 CodL.yN)) (wk W CodL.tab) (W := 1) (Nat.le_of_ble_eq_true rfl) (Nat.le_of_ble_eq_true rfl) (Nat.le_refl _) (by show 0 + len + 0 ≤ len; omega) (g := (mkF m 45 #[.val (.ref a), .val (.ref b), .val (.int (Int32.ofNat o)), .val (.int (Int32.ofNat len)), .val .null, .val (.ref s.heap.size)] [.int (Int32.ofNat N.slots.size), .ref s.heap.size, .ref a])) rfl (by rw [hml]; rfl) c10 (argsL := [.ref s.heap.size, .int (Int32.ofNat N.slots.size)]) (rest := [.ref a]) rfl rfl (by show 2 * 0 + (1 + 0) ≤ _; decide) (hb hbytes d45) (⟨rfl, n1⟩)
  obtain ⟨rfl, q11⟩ := E11
  have hB11 := hB1.mv (X8.warmed.alike.symm.trans X11.warmed.alike) q11
  have c12 : Steps p.tables e below (s₁.setTop (entryFrame m #[.ref a, .ref b, .int (Int32.ofNat o), .int (Int32.ofNat len), .null] 6)) (T11.setTop (mkF m 48 #[.val (.ref a), .val (.ref b), .val (.int (Int32.ofNat o)), .val (.int (Int32.ofNat len)), .val .null, .val (.ref s.heap.size)] [.int 0, .ref a])) := g11
  obtain ⟨T13, X13, p13, bl13, sl13, st13⟩ := X11.finit hexec hown (wk W (.fieldLink "java/lang/String" 15 "java/lang/String" "coder" "B")) (Or.inr ⟨_, (wk W (.laysFinal "java/lang/String" "java/lang/String" "coder" "B"))⟩) (Or.inl ⟨rfl, hnm⟩) f2 (Or.inl rfl) hB11 (t := .byte) (by decide +kernel) rfl (g := (mkF m 48 #[.val (.ref a), .val (.ref b), .val (.int (Int32.ofNat o)), .val (.int (Int32.ofNat len)), .val .null, .val (.ref s.heap.size)] [.int 0, .ref a])) rfl (rest := []) rfl (hb hbytes d48)
  have c14 : Steps p.tables e below (s₁.setTop (entryFrame m #[.ref a, .ref b, .int (Int32.ofNat o), .int (Int32.ofNat len), .null] 6)) (T13.setTop (mkF m 54 #[.val (.ref a), .val (.ref b), .val (.int (Int32.ofNat o)), .val (.int (Int32.ofNat len)), .val .null, .val (.ref s.heap.size)] [.ref s.heap.size, .ref a])) := (c12.trans (st13 _ (Steps.refl _))).trans (by
    refine XS.aloadN X13.here hexec rfl (hb hbytes d51) rfl rfl ?_
    refine XS.aload X13.here hexec rfl (hb hbytes d52) rfl rfl ?_
    exact Steps.refl _)
  obtain ⟨T15, X15, p15, bl15, sl15, st15⟩ := X13.finit hexec hown (wk W (.fieldLink "java/lang/String" 9 "java/lang/String" "value" "[B")) (Or.inr ⟨_, (wk W (.laysFinal "java/lang/String" "java/lang/String" "value" "[B"))⟩) (Or.inl ⟨rfl, hnm⟩) f1 (Or.inl rfl) bl13 (t := (.array .byte)) (by decide +kernel) rfl (g := (mkF m 54 #[.val (.ref a), .val (.ref b), .val (.int (Int32.ofNat o)), .val (.int (Int32.ofNat len)), .val .null, .val (.ref s.heap.size)] [.ref s.heap.size, .ref a])) rfl (rest := []) rfl (hb hbytes d54)
  have c16 : Steps p.tables e below (s₁.setTop (entryFrame m #[.ref a, .ref b, .int (Int32.ofNat o), .int (Int32.ofNat len), .null] 6)) (T15.setTop (mkF m 57 #[.val (.ref a), .val (.ref b), .val (.int (Int32.ofNat o)), .val (.int (Int32.ofNat len)), .val .null, .val (.ref s.heap.size)] [])) := c14.trans (st15 _ (Steps.refl _))
  have ap := apart (Or.inr ⟨_, (wk W (.laysFinal "java/lang/String" "java/lang/String" "value" "[B"))⟩) (Or.inr ⟨_, (wk W (.laysFinal "java/lang/String" "java/lang/String" "coder" "B"))⟩) f1 f2 (t₁ := .array .byte) (t₂ := .byte) (by decide +kernel) (by decide +kernel) (by decide)
  have al := X8.warmed.alike.symm.trans X15.warmed.alike
  have n7 : T11.heap[s.heap.size]? = some N := by rw [q11]; exact n1.1
  exact ⟨T15, none, _, _, _, X15, by simp, rfl, by omega, (fun _ => rfl), ⟨rfl, _, N, bl15, ((Same.refl D _).set _ (by simp)).set _ (by simp), sl15, (Cell.slots_setSlot_ne _ ap).trans sl13, n1.keep al (p15.other hne (p13.other hne n7)), n2, by rw [al.findClass]; exact n3, n4, n5, fun y c h1 h2 => p15.other h1 (p13.other h1 (by rw [q11]; exact n6 y c h2)), by rw [p15.2.2, p13.2.2, q11]; exact z8⟩, fun fs hl => c16.trans (X15.returnOut hexec hret (hb hbytes d57) hl)⟩
end New4
namespace New1
def yN : MethodName := ⟨"java/lang/String", "<init>", "([C)V"⟩
abbrev yB : ByteArray := jdk_42_method_3_code
theorem d0 : decode yB 0 = .ok (.aload_n 0, 1) := by decide +kernel
theorem d1 : decode yB 1 = .ok (.aload_n 1, 1) := by decide +kernel
theorem d2 : decode yB 2 = .ok (.iconst 0, 1) := by decide +kernel
theorem d3 : decode yB 3 = .ok (.aload_n 1, 1) := by decide +kernel
theorem d4 : decode yB 4 = .ok (.arraylength, 1) := by decide +kernel
theorem d5 : decode yB 5 = .ok (.aconst_null, 1) := by decide +kernel
theorem d6 : decode yB 6 = .ok (.invokespecial 27, 3) := by decide +kernel
theorem d9 : decode yB 9 = .ok (.return_, 1) := by decide +kernel
def site : List Cond := [New4.tab] ++ initW "java/lang/String" 27 New4.yN
def tab : Cond := tabOf yN yB 2 none site
def P (a : Addr) (D : Cell) (fV fC : Field) (b : Addr) (A : Cell) (z : Int32) (args : Array Value) (s : State) : Prop := args = #[.ref a, .ref b] ∧ Blank "java/lang/String" a D s ∧ Found "java/lang/String" "value" "[B" fV s ∧ Found "java/lang/String" "coder" "B" fC s ∧ Ch b A s ∧ StaticIs s "java/lang/String" "COMPACT_STRINGS" "Z" (.int z) ∧ ¬ z = 0 ∧ 0 < A.slots.size ∧ A.slots.size ≤ 536870912 ∧ ∀ i, i < A.slots.size → ¬ 255 < cv A i
def E (a : Addr) (D : Cell) (fV fC : Field) (A : Cell) (r : Option Value) (s u : State) : Prop := Got a D fV fC A 0 A.slots.size r s u
/-- new String(chars), not empty, no char above 255: a Latin-1 String of their low bytes -/
theorem law (l : Launch) (a : Addr) (D : Cell) (fV fC : Field) (b : Addr) (A : Cell) (z : Int32) : Law l yN 2 1 3 52 yB 2 none site (P a D fV fC b A z) (E a D fV fC A) [⟨a, fC.slot⟩, ⟨a, fV.slot⟩] 1 A.slots.size := by
  refine Law.of_walk (plainFor_of_name (by decide +kernel)) (by decide +kernel) (by decide +kernel) (by decide) (fun _ _ h => by rw [h.1]; rfl) (fun _ U U' hal hh h => ⟨h.1, h.2.1.mv hal hh, h.2.2.1.al hal, h.2.2.2.1.al hal, h.2.2.2.2.1.mv hal hh, h.2.2.2.2.2.1.there hal hh, h.2.2.2.2.2.2⟩) (fun r U U' V V' h1 hal h2 h => Got.mv r U U' V V' h1 hal h2 h) ?_
  intro p e s m args below meth c s₁ X0 hexec hbytes hml hret hlk hnm hown hh0 W hP
  obtain ⟨rfl, hB, f1, f2, hA, s1, hz, l0, l2, hp⟩ := hP
  have c1 : Steps p.tables e below (s₁.setTop (entryFrame m #[.ref a, .ref b] 2)) (s₁.setTop (mkF m 0 #[.val (.ref a), .val (.ref b)] [])) := entry rfl
  have c2 : Steps p.tables e below (s₁.setTop (entryFrame m #[.ref a, .ref b] 2)) (s₁.setTop (mkF m 6 #[.val (.ref a), .val (.ref b)] [.null, .int (Int32.ofNat A.slots.size), .int 0, .ref b, .ref a])) := c1.trans (by
    refine XS.aloadN X0.here hexec rfl (hb hbytes d0) rfl rfl ?_
    refine XS.aloadN X0.here hexec rfl (hb hbytes d1) rfl rfl ?_
    refine iconstV X0.here hexec rfl 0 (hb hbytes d2) (by decide) ?_
    refine XS.aloadN X0.here hexec rfl (hb hbytes d3) rfl rfl ?_
    refine X0.alen hexec (hA.1.mv X0.warmed.alike hh0) rfl rfl (hb hbytes d4) ?_
    refine XS.aconstNull X0.here hexec rfl (hb hbytes d5) ?_
    exact Steps.refl _)
  obtain ⟨v3, T3, X3, E3, g3⟩ := X0.callN hexec (New4.law l a D fV fC b A z 0 A.slots.size) rfl hown (wks W (initW "java/lang/String" 27 New4.yN)) (W New4.tab (by simp only [site, List.mem_cons, List.mem_append, true_or, or_true])) (W := 0) (Nat.le_of_ble_eq_true rfl) (Nat.le_of_ble_eq_true rfl) (Nat.le_refl _) (by show 0 + A.slots.size ≤ A.slots.size; omega) (g := (mkF m 6 #[.val (.ref a), .val (.ref b)] [.null, .int (Int32.ofNat A.slots.size), .int (Int32.ofNat 0), .ref b, .ref a])) rfl (by rw [hml]; rfl) c2 (argsL := [.ref b, .int (Int32.ofNat 0), .int (Int32.ofNat A.slots.size), .null]) (rest := []) rfl rfl (by show 2 * 0 + 0 ≤ _; decide) (hb hbytes d6) (⟨rfl, hB.mv X0.warmed.alike hh0, f1.al X0.warmed.alike, f2.al X0.warmed.alike, hA.mv X0.warmed.alike hh0, s1.there X0.warmed.alike hh0, hz, l0, by omega, l2, fun i hi => by rw [Nat.zero_add]; exact hp i hi⟩)
  have e0 := Got.mv _ s₁ s _ _ hh0.symm (Vm.Alike.refl _) rfl E3
  obtain rfl := e0.1
  have c4 : Steps p.tables e below (s₁.setTop (entryFrame m #[.ref a, .ref b] 2)) (T3.setTop (mkF m 9 #[.val (.ref a), .val (.ref b)] [])) := g3
  exact ⟨T3, none, _, _, _, X3, by simp, rfl, by omega, (fun _ => rfl), e0, fun fs hl => c4.trans (X3.returnOut hexec hret (hb hbytes d9) hl)⟩
theorem pays {l : Launch} {R : Room} {p : Program} {e : Env} {below : List Frame} {s : State} {sargs : Array Value} {len W : Nat} (a : Addr) (D : Cell) (fV fC : Field) (b : Addr) (A : Cell) (z : Int32) (htab : tab.before sargs s = true) (hfr : 4 ≤ R.frames) (hlo : W + 65 ≤ R.locals) :
    Back l R p e below s sargs yN len W (fun A₁ a₁ => A₁.cells + 1 ≤ R.cells ∧ A₁.slots + A.slots.size ≤ R.slots ∧ P a D fV fC b A z a₁ A₁.U) (fun A₁ _ v₁ B₁ => E a D fV fC A v₁ A₁.U B₁.U ∧ B₁.locs = A₁.locs ++ [⟨a, fC.slot⟩, ⟨a, fV.slot⟩] ∧ B₁.cells = A₁.cells + 1 ∧ B₁.slots = A₁.slots + A.slots.size) :=
  (law l a D fV fC b A z).pays htab hfr (by omega)
end New1
end StrChars
namespace StrChars.Road
open Jvm Sem ClassFile Op Lib Jvm.Stand Jvm.Free Jvm.Free.XT
open Jvm.Lib.Cold (StaticIs)
abbrev ST : String := "java/lang/String"
/-- every table word that New1's law asks, flat -/
abbrev words : List Jvm.Cond := [.code New1.yN New1.yB 2 none, .initialized ST, .methodLink ST 27 New4.yN, .instanceMethod New4.yN,
  .code New4.yN New4.yB 6 none, .fieldLink ST 38 ST "COMPACT_STRINGS" "Z", .laysFinal ST ST "value" "[B", .fieldLink ST 9 ST "value" "[B", .laysFinal ST ST "coder" "B", .fieldLink ST 15 ST "coder" "B",
  .methodLink ST 1 Lib.objectInit, .instanceMethod Lib.objectInit, .code Lib.objectInit ⟨#[0xb1]⟩ 1 none, .methodLink ST 177 Cmp3.yN, .static Cmp3.yN, .methodLink ST 47 CodL.yN, .static CodL.yN,
  .code Cmp3.yN Cmp3.yB 6 (some (.array .byte)), .initialized U16, .arrayClass .byte, .methodLink U16 115 Cmp5.yN, .static Cmp5.yN, .code Cmp5.yN Cmp5.yB 7 (some .int), .code CodL.yN CodL.yB 2 (some .byte)]
theorem tab_of {a : Array Value} {s : State} (h : ∀ w ∈ words, w.before a s = true) : New1.tab.before a s = true := by
  have h5 : Cmp5.tab.before a s = true := unparts (wk h (.code Cmp5.yN Cmp5.yB 7 (some .int))) (wks h (.initialized Cmp5.yN.cls :: Cmp5.site))
  have hc : CodL.tab.before a s = true := unparts (wk h (.code CodL.yN CodL.yB 2 (some .byte))) (wks h (.initialized CodL.yN.cls :: CodL.site))
  have q5 : ∀ w ∈ Cmp5.tab :: words, w.before a s = true := fun w hw => (List.mem_cons.mp hw).elim (fun e => e ▸ h5) (h w)
  have h3 : Cmp3.tab.before a s = true := unparts (wk q5 (.code Cmp3.yN Cmp3.yB 6 (some (.array .byte)))) (wks q5 (.initialized Cmp3.yN.cls :: Cmp3.site))
  have q3 : ∀ w ∈ Cmp3.tab :: CodL.tab :: words, w.before a s = true := fun w hw => (List.mem_cons.mp hw).elim (fun e => e ▸ h3) fun hw => (List.mem_cons.mp hw).elim (fun e => e ▸ hc) (h w)
  have h4 : New4.tab.before a s = true := unparts (wk q3 (.code New4.yN New4.yB 6 none)) (wks q3 (.initialized New4.yN.cls :: New4.site))
  have q4 : ∀ w ∈ New4.tab :: words, w.before a s = true := fun w hw => (List.mem_cons.mp hw).elim (fun e => e ▸ h4) (h w)
  exact unparts (wk q4 (.code New1.yN New1.yB 2 none)) (wks q4 (.initialized New1.yN.cls :: New1.site))
/-- the words ride from the start Z to the walk's own state -/
theorem moved {Z s : State} {a0 args : Array Value} (hZ : Z.Warmed39 s.vm) (hw : ∀ d ∈ words, d.before a0 Z = true) : ∀ d ∈ words, d.before args s = true := fun d hd => by
  have q := hw d hd
  have t : ∀ d ∈ words, d = .arrayClass .byte ∨ (d.onTables && d.keepsFace) = true := by decide +kernel
  rcases t d hd with rfl | t
  · exact RoadKit.mvA hZ q
  · exact RoadKit.mv hZ q t
/-- WHAT COMES BACK, over the tables of the start Z: h the heap at the call, h' behind it -/
def Q (Z : State) (x : Addr) (A : Cell) (h : Heap) (v : Option Value) (h' : Heap) (L : List Loc) : Prop := v = none ∧ (∀ y ∈ L, y.base = x) ∧ RoadKit.Keep h h' [x] ∧ h'.size = h.size + 1 ∧ RoadKit.Exa Z h' x ST ∧ RoadKit.Fld Z h' x ST "value" "[B" (.ref h.size) ∧ RoadKit.Fld Z h' x ST "coder" "B" (.int 0) ∧
  (∃ V : Cell, RoadKit.Arr Z h' h.size V .byte ∧ V.vm = .none ∧ Z.vm.findClass "[B" = some V.cls ∧ V.slots.size = A.slots.size ∧ ∀ j, j < A.slots.size → V.slots[j]? = some (.int (lo8 (cv A j)))) ∧
  ∀ (O n d : String) (w : Value), RoadKit.Fld Z h x O n d w → RoadKit.slotOf Z O n d ≠ RoadKit.slotOf Z ST "value" "[B" → RoadKit.slotOf Z O n d ≠ RoadKit.slotOf Z ST "coder" "B" → RoadKit.Fld Z h' x O n d w
/-- **new String(chars) AT A CALL, IN THE ROAD'S FORM**: for specialBack behind newO: x the fresh String, b the char[] with the cell A -/
theorem back {p : Program} {l : Launch} {e : Env} {R : Room} {s : State} {args : Array Value} {below : List Frame} {len W : Nat} {Z : State} {a0 : Array Value} {h : Heap} (hZ : Z.Warmed39 s.vm) (hw : ∀ d ∈ words, d.before a0 Z = true) {kI : Nat} (wi : (Jvm.Cond.instantiable ST kI).before a0 Z = true)
    {x b : Addr} {A : Cell} {z : Int32} {v0 c0 : Value} (E : RoadKit.Exa Z h x ST) (V : RoadKit.Fld Z h x ST "value" "[B" v0) (C : RoadKit.Fld Z h x ST "coder" "B" c0) (K : RoadKit.Arr Z h b A .char) (hty : Typed .char A) (S : RoadKit.Sta Z h ST "COMPACT_STRINGS" "Z" (.int z)) (hz : ¬ z = 0)
    (l0 : 0 < A.slots.size) (l2 : A.slots.size ≤ 536870912) (hp : ∀ i, i < A.slots.size → ¬ 255 < cv A i) (hfr : 4 ≤ R.frames) (hlo : W + 65 ≤ R.locals) :
    Back l R p e below s args New1.yN len W (fun P a => a = #[.ref x, .ref b] ∧ P.U.heap = h ∧ P.cells + 1 ≤ R.cells ∧ P.slots + A.slots.size ≤ R.slots)
      (fun P _ v B => ∃ L, Q Z x A h v B.U.heap L ∧ B.locs = P.locs ++ L ∧ B.cells = P.cells + 1 ∧ B.slots = P.slots + A.slots.size) := by
  intro m meth c P g ig mk a X hg hsize hdg hW hn hp'
  obtain ⟨rfl, rfl, r1, r2⟩ := hp'
  have al : Z.vm.Alike P.U.vm := hZ.alike.trans X.warmed.alike
  obtain ⟨D, cfV, kV, iV, fV, hD, gV, stV, knV, obV, asV, slV⟩ := id V
  obtain ⟨D', cfC, kC, iC, fC, hD', gC, stC, -, -, asC, slC⟩ := id C
  cases hD.symm.trans hD'
  obtain ⟨D2, kD, e1, e2, e3, e4, e5⟩ := id E
  cases hD.symm.trans e1
  obtain ⟨c2, k2, i1, i2, i3, -⟩ := Cond.instantiable_spec wi
  cases e2.symm.trans i1
  cases e3.symm.trans i2
  obtain ⟨kU, u1, u2⟩ := al.2.2 _ _ e3
  have hB : Blank ST x D P.U := ⟨hD, ⟨knV, fun q hq => by rw [hq] at obV; cases obV⟩, by rw [al.findClass]; exact e2, kU, u1, by rw [u2]; exact i3, by rw [u2]; exact e5 i3⟩
  have F1 : Found ST "value" "[B" fV P.U := ⟨SBG.found_only al ⟨cfV, kV, iV, gV⟩, stV⟩
  have F2 : Found ST "coder" "B" fC P.U := ⟨SBG.found_only al ⟨cfC, kC, iC, gC⟩, stC⟩
  have hA : Ch b A P.U := ⟨⟨K.1, State.isArrayOf_alike al K.2.1, K.2.2, by omega⟩, hty⟩
  have hS : StaticIs P.U ST "COMPACT_STRINGS" "Z" (.int z) := by
    obtain ⟨cfS, iS, kS, fS, st, cS, t1, t2, t3, t4, t5, t6, t7⟩ := S
    exact StaticIs.there (s := { Z with heap := P.U.heap }) ⟨cfS, iS, kS, fS, st, cS, t1, t2, t3, t4, t5, (fun q => by rw [q] at t6; cases t6), t7⟩ al rfl
  obtain ⟨v, B, X', ⟨⟨hv, E', V', q1, q2, q3, q4, q5, q6, q7, q8, q9, q10, q11⟩, hl, hc, hs⟩, st⟩ := New1.pays x D fV fC b A z (tab_of (moved hZ hw)) hfr hlo m meth c P g ig mk _ X hg hsize hdg hW hn ⟨r1, r2, rfl, hB, F1, F2, hA, hS, hz, l0, l2, hp⟩
  have al' : Z.vm.Alike B.U.vm := hZ.alike.trans X'.warmed.alike
  have hsz : E'.slots.size = D.slots.size := by
    obtain ⟨-, -, -, kB, w1, w2, w3⟩ := q1
    obtain ⟨kB', y1, y2⟩ := al'.2.2 _ _ e3
    rw [q2.2.1] at w1
    cases w1.symm.trans y1
    rw [w3, e5 i3, y2]
  refine ⟨v, B, X', ⟨_, ⟨hv, ?_, ⟨by omega, fun y cy hy hn' => q10 y cy (by simpa using hn') hy, fun y cy hy => ?_⟩, q11, ⟨E', _, q1.1, by rw [q2.2.1]; exact e2, by rw [q2.2.1]; exact e3, by rw [q2.1]; exact obV, fun _ => by rw [hsz]; exact e5 i3⟩,
    ⟨E', cfV, kV, iV, fV, q1.1, gV, stV, by rw [q2.1]; exact knV, by rw [q2.1]; exact obV, by rw [q2.2.1]; exact asV, q3⟩, ⟨E', cfC, kC, iC, fC, q1.1, gC, stC, by rw [q2.1]; exact knV, by rw [q2.1]; exact obV, by rw [q2.2.1]; exact asC, q4⟩,
    ⟨V', ⟨q5.1, State.isArrayOf_alike al'.symm q5.2.1, q5.2.2.1⟩, q6, by rw [← al'.findClass]; exact q7, q8, fun j hj => by have := q9 j hj; rwa [Nat.zero_add] at this⟩, fun O n d w F n1 n2 => ?_⟩, hl, hc, hs⟩, st⟩
  · intro y hy
    simp only [List.mem_cons, List.not_mem_nil, or_false] at hy
    rcases hy with rfl | rfl <;> rfl
  · by_cases q : y = x
    · subst q
      cases hD.symm.trans hy
      exact ⟨E', q1.1, q2.2.1, q2.1, hsz⟩
    · exact ⟨cy, q10 y cy q hy, rfl, rfl, rfl⟩
  · obtain ⟨D3, cf, k, i, f, g1, g2, g3, g4, g5, g6, g7⟩ := F
    cases hD.symm.trans g1
    simp only [RoadKit.slotOf, g2, gV, gC, Option.map_some, Option.getD_some] at n1 n2
    exact ⟨E', cf, k, i, f, q1.1, g2, g3, by rw [q2.1]; exact g4, by rw [q2.1]; exact g5, by rw [q2.2.1]; exact g6, by rw [q2.2.2 f.slot (by simp [n1, n2])]; exact g7⟩
end StrChars.Road
namespace StrChars.Road
open Jvm Sem ClassFile Op Lib Jvm.Stand Jvm.Free Jvm.Free.XT
/-- WHAT COMES BACK, the byte[] as a list of values -/
def QA (Z : State) (x : Addr) (zn : Int32) (cs : List Int32) (h : Heap) (v : Option Value) (h' : Heap) (L : List Loc) : Prop := v = none ∧ (∀ y ∈ L, y.base = x) ∧ RoadKit.Keep h h' [x] ∧ h'.size = h.size + 1 ∧ RoadKit.Exa Z h' x ST ∧ RoadKit.Fld Z h' x ST "value" "[B" (.ref h.size) ∧ RoadKit.Fld Z h' x ST "coder" "B" (.int 0) ∧
  (∃ kb, Z.vm.findClass "[B" = some kb ∧ RoadKit.Arv Z h' h.size kb .byte zn (cs.map fun c => .int (lo8 c)) (.int 0)) ∧
  ∀ (O n d : String) (w : Value), RoadKit.Fld Z h x O n d w → RoadKit.slotOf Z O n d ≠ RoadKit.slotOf Z ST "value" "[B" → RoadKit.slotOf Z O n d ≠ RoadKit.slotOf Z ST "coder" "B" → RoadKit.Fld Z h' x O n d w
/-- **new String(chars) AT A CALL, THE ARRAYS AS LISTS**: the char[] at b holds cs, not empty, no char above 255 -/
theorem backArv {p : Program} {l : Launch} {e : Env} {R : Room} {s : State} {args : Array Value} {below : List Frame} {len W : Nat} {Z : State} {a0 : Array Value} {h : Heap} (hZ : Z.Warmed39 s.vm) (hw : ∀ d ∈ words, d.before a0 Z = true) {kI : Nat} (wi : (Jvm.Cond.instantiable ST kI).before a0 Z = true)
    {x b : Addr} {k : ClassId} {zn z : Int32} {cs : List Int32} {dv v0 c0 : Value} (E : RoadKit.Exa Z h x ST) (V : RoadKit.Fld Z h x ST "value" "[B" v0) (C : RoadKit.Fld Z h x ST "coder" "B" c0) (K : RoadKit.Arv Z h b k .char zn (cs.map Value.int) dv) (S : RoadKit.Sta Z h ST "COMPACT_STRINGS" "Z" (.int z)) (hz : ¬ z = 0)
    (hlen : zn.toNatClampNeg = cs.length) (h0 : 0 < cs.length) (hbig : cs.length ≤ 536870912) (hall : ∀ c ∈ cs, ¬ 255 < c) (hfr : 4 ≤ R.frames) (hlo : W + 65 ≤ R.locals) :
    Back l R p e below s args New1.yN len W (fun P a => a = #[.ref x, .ref b] ∧ P.U.heap = h ∧ P.cells + 1 ≤ R.cells ∧ P.slots + cs.length ≤ R.slots)
      (fun P _ v B => ∃ L, QA Z x zn cs h v B.U.heap L ∧ B.locs = P.locs ++ L ∧ B.cells = P.cells + 1 ∧ B.slots = P.slots + cs.length) := by
  obtain ⟨A, K1, K2, K3, K4, K5, K6⟩ := K
  have e : A.slots.size = cs.length := K3.trans hlen
  have hat : ∀ (i : Nat) (hi : i < cs.length), A.slots[i]? = some (.int cs[i]) := fun i hi => by rw [K5 i (by omega)]; simp [List.getD_eq_getElem?_getD, hi]
  have hcv : ∀ (i : Nat) (hi : i < cs.length), cv A i = cs[i] := fun i hi => by unfold cv; rw [hat i hi]
  have hty : Typed .char A := fun i v hv => by
    have hi : i < A.slots.size := (Array.getElem?_eq_some_iff.mp hv).1
    have q := K5 i hi
    rw [hv] at q
    rw [Option.some.inj q]
    exact K6 i hi
  refine Back.mono (back hZ hw wi E V C K1 hty S hz (by omega) (by omega) (fun i hi => by rw [hcv i (by omega)]; exact hall _ (List.getElem_mem _)) hfr hlo) (fun P a hp => ⟨hp.1, hp.2.1, hp.2.2.1, by rw [e]; exact hp.2.2.2⟩) (fun P a v B hp hq => ?_)
  obtain ⟨L, ⟨q1, q2, q3, q4, q5, q6, q7, ⟨V', v1, v2, v3, v4, v5⟩, q9⟩, hl, hc, hs⟩ := hq
  refine ⟨L, ⟨q1, q2, q3, q4, q5, q6, q7, ⟨V'.cls, v3, V', v1, rfl, by rw [v4, e, hlen], K4, fun i hi => ?_, fun i hi => ?_⟩, q9⟩, hl, hc, by rw [hs, e]⟩
  · have hi' : i < cs.length := by omega
    rw [v5 i (by omega), hcv i hi']; simp [List.getD_eq_getElem?_getD, hi']
  · have hi' : i < cs.length := by omega
    simp only [List.getD_eq_getElem?_getD, List.getElem?_map, List.getElem?_eq_getElem hi', Option.map_some, Option.getD_some]
    exact fits_lo8 _
end StrChars.Road
namespace StrChars.Road
open Jvm Sem ClassFile Op Lib Jvm.Stand Jvm.Free Jvm.Free.XT
/-- WHAT COMES BACK, in the writer's own shape -/
def QV (Z : State) (x : Addr) (N : Int32) (bs : List Int32) (h : Heap) (n0 : Nat) (v : Option Value) (h' : Heap) (L : List Loc) : Prop := v = none ∧ RoadKit.Fr n0 L ∧ RoadKit.Keep h h' [x] ∧ RoadKit.Exa Z h' x ST ∧ RoadKit.Fld Z h' x ST "coder" "B" (.int 0) ∧
  ∃ (t : Addr) (kb : ClassId), n0 ≤ t ∧ h.size ≤ t ∧ ¬ t = x ∧ RoadKit.Fld Z h' x ST "value" "[B" (.ref t) ∧ RoadKit.Arv Z h' t kb .byte N (bs.map Value.int) (.int 0)
/-- **new String(chars) AT A CALL, FOR THE WRITER**: a char[] of n known ints, each 0 to 255 -/
theorem backV {p : Program} {l : Launch} {e : Env} {R : Room} {s : State} {args : Array Value} {below : List Frame} {len W : Nat} {Z : State} {a0 : Array Value} {h : Heap} (hZ : Z.Warmed39 s.vm) (hw : ∀ d ∈ words, d.before a0 Z = true) {kI : Nat} (wi : (Jvm.Cond.instantiable ST kI).before a0 Z = true)
    {x b : Addr} {kC : ClassId} {cs bs : List Int32} {d v0 c0 : Value} {z N : Int32} {n n0 : Nat} (hx0 : n0 ≤ x) (hh0 : n0 ≤ h.size) (E : RoadKit.Exa Z h x ST) (V : RoadKit.Fld Z h x ST "value" "[B" v0) (C : RoadKit.Fld Z h x ST "coder" "B" c0) (K : RoadKit.Arv Z h b kC .char N (cs.map Value.int) d) (S : RoadKit.Sta Z h ST "COMPACT_STRINGS" "Z" (.int z)) (hz : ¬ z = 0)
    (hn : cs.length = n) (hN : N = Int32.ofNat n) (l0 : 0 < n) (l2 : n ≤ 4000) (hp : ∀ c ∈ cs, ¬ c < 0 ∧ ¬ (255 : Int32) < c) (hb : bs = cs.map (fun c => c.toInt8.toInt32)) (hfr : 4 ≤ R.frames) (hlo : W + 65 ≤ R.locals) :
    Back l R p e below s args (⟨"java/lang/String", "<init>", "([C)V"⟩ : MethodName) len W (fun P a => a = #[.ref x, .ref b] ∧ P.U.heap = h ∧ P.cells + 1 ≤ R.cells ∧ P.slots + n ≤ R.slots)
      (fun P _ v B => ∃ L, QV Z x N bs h n0 v B.U.heap L ∧ B.locs = P.locs ++ L ∧ B.cells = P.cells + 1 ∧ B.slots = P.slots + n) := by
  subst hn hN hb
  refine Back.mono (backArv hZ hw wi E V C K S hz (n32 (by omega)) l0 (by omega) (fun c hc => (hp c hc).2) hfr hlo) (fun P a hp => hp) (fun P a v B hp hq => ?_)
  obtain ⟨L, ⟨q1, q2, q3, q4, q5, q6, q7, ⟨kb, v1, v2⟩, q9⟩, hl, hc, hs⟩ := hq
  exact ⟨L, ⟨q1, fun y hy => by rw [q2 y hy]; exact hx0, q3, q5, q7, h.size, kb, hh0, Nat.le_refl _, Nat.ne_of_gt E.lt, q6, by rw [List.map_map]; exact v2⟩, hl, hc, hs⟩
end StrChars.Road
end Jvm.Pilot.@@N@@
namespace Jvm.Pilot.@@N@@
open Jvm Jvm.ClassFile Sem Op Lib Jvm.Free Jvm.Stand Jvm.LawKit Jvm.RoadKit Bundle Jvm.Pilot.@@N@@.Jvm.D
section OwnGo
/-- from this frame the run ends, and leaves what Q says -/
def Go (p : Program) (e : Env) (below : List Frame) (s : State) (k n : Nat) (Q : Option Value → Heap → List Loc → Prop) (m : MethodId) (T : State) (pc : Nat) (L : Array Slot) (S : List Value) : Prop :=
  ∃ s₂ o, Steps p.tables e below (T.setTop (mkF m pc L S)) s₂ ∧ s₂.status = .running ∧ Ended s₂ below o ∧ ∃ v Ls, o = .returned v ∧ Q v s₂.heap Ls ∧ FrameEnd s o s₂ Ls k n
variable {p : Program} {l : Launch} {e : Env} {R : Room} {s : State} {m : MethodId} {args : Array Value} {below : List Frame} {meth : Method} {c : Code} {T T' : State} {locs : List Loc} {cells slots k n : Nat} {Z : State} {h : Heap} {Q : Option Value → Heap → List Loc → Prop} {pc pc' : Nat} {L L' : Array Slot} {S S' : List Value}
theorem Go.st (h : ∀ t, Steps p.tables e below (T'.setTop (mkF m pc' L' S')) t → Steps p.tables e below (T.setTop (mkF m pc L S)) t) (g : Go p e below s k n Q m T' pc' L' S') : Go p e below s k n Q m T pc L S := by
  obtain ⟨a, b, c, d⟩ := g; exact ⟨a, b, h _ c, d⟩
theorem Go.tr (h : Steps p.tables e below (T.setTop (mkF m pc L S)) (T'.setTop (mkF m pc' L' S'))) (g : Go p e below s k n Q m T' pc' L' S') : Go p e below s k n Q m T pc L S := Go.st (fun _ q => h.trans q) g
theorem Go.retV (X : Stand p l e R s m args below meth c T locs cells slots) (hx : p.tables.exec = Jvm.exec) (hlk : meth.locks = false) (hret : meth.sig.returnType = none) (hd : decode c.code pc = .ok (.return_, 1)) (hk : cells ≤ k) (hn : slots ≤ n) (hq : Q none T.heap locs) : Go p e below s k n Q m T pc L [] := by
  obtain ⟨fs, hr, hrun, hended, hW, hsame⟩ := X.leave (v := none) (fun _ => rfl) hlk
  exact ⟨_, _, X.returnOut hx hret hd hr, hrun, hended, _, _, rfl, hq, ⟨_, rfl⟩, hW, hsame.mono hk hn⟩
theorem Go.retN (X : Stand p l e R s m args below meth c T locs cells slots) (hx : p.tables.exec = Jvm.exec) (hlk : meth.locks = false) {t : FieldType} {z : Int32} {rest : List Value} (hret : meth.sig.returnType = some t) (ht : t = .boolean ∨ t = .byte ∨ t = .char ∨ t = .short) (hd : decode c.code pc = .ok (.ireturn, 1)) (hk : cells ≤ k) (hn : slots ≤ n) (hq : Q (some (.int (nar t z))) T.heap locs) : Go p e below s k n Q m T pc L (.int z :: rest) := by
  obtain ⟨fs, hr, hrun, hended, hW, hsame⟩ := X.leave (v := some (.int (nar t z))) (fun h => by rw [hret] at h; cases h) hlk
  exact ⟨_, _, Jvm.RoadKit.retN X hx hret ht hd hr, hrun, hended, _, _, rfl, hq, ⟨_, rfl⟩, hW, hsame.mono hk hn⟩
theorem Go.retO (X : Stand p l e R s m args below meth c T locs cells slots) (hx : p.tables.exec = Jvm.exec) (hlk : meth.locks = false) {t : FieldType} {w : Value} {i : Instr} {rest : List Value} (hret : meth.sig.returnType = some t) (hw : narrow t w = w) (hi : (i = .ireturn ∧ (t = .int ∨ t = .boolean ∨ t = .byte ∨ t = .char ∨ t = .short) ∧ ∃ z, w = .int z) ∨ (i = .lreturn ∧ t = .long ∧ ∃ z, w = .long z) ∨ (i = .dreturn ∧ t = .double ∧ ∃ z, w = .double z) ∨ (i = .freturn ∧ t = .float ∧ ∃ z, w = .float z) ∨ (i = .areturn ∧ t.isReference = true ∧ w.isRef = true)) (hd : decode c.code pc = .ok (i, 1)) (hk : cells ≤ k) (hn : slots ≤ n) (hq : Q (some w) T.heap locs) : Go p e below s k n Q m T pc L (w :: rest) := by
  obtain ⟨fs, hr, hrun, hended, hW, hsame⟩ := X.leave (v := some w) (fun h => by rw [hret] at h; cases h) hlk
  exact ⟨_, _, retOut X hx hret hw hi hd hr, hrun, hended, _, _, rfl, hq, ⟨_, rfl⟩, hW, hsame.mono hk hn⟩
theorem Stand.up (X : Stand p l e R s m args below meth c T locs cells slots) (hk : cells ≤ k) (hn : slots ≤ n) : Stand p l e R s m args below meth c T locs k n :=
  ⟨X.admits, X.cas, X.clock, X.frames, X.room, X.hears, X.method, X.code, X.here, X.tail, X.warmed, X.limits, X.bytes, X.same.mono hk hn⟩
theorem own_len (X : Stand p l e R s m args below meth c T locs cells slots) (hx : p.tables.exec = Jvm.exec) (hZ : Z.Warmed39 s.vm) (eT : T.heap = h) {a : Addr} {cl : Cell} {ty : FieldType} {z : Int32} (A : Arr Z h a cl ty) (S : cl.slots.size = z.toNatClampNeg) (q : ¬ z < 0) {g : JFrame} (hg : g.method = m) {rest : List Value} (hs : g.stack = .ref a :: rest) (hd : decode c.code g.pc = .ok (.arraylength, 1)) (t : State)
    (k : Steps p.tables e below (T.setTop { g with pc := g.pc + 1, stack := .int z :: rest }) t) : Steps p.tables e below (T.setTop g) t := by
  refine X.arraylength hx (by rw [eT]; exact A.1) (State.isArrayOf_alike hZ.alike A.2.1) (g := g) hg hs hd _ ?_
  rw [len_of S q]; exact k
theorem own_met {l : Launch} {y : MethodName} {bytes : ByteArray} {maxL : Nat} {ret : Option FieldType} {ws : List Jvm.Cond} {rm : Room} {A : Array Value} {Z : State} {h0 : Heap} {Q : Option Value → Heap → List Loc → Prop} {L0 : Array Slot} {K N : Nat} (hpl : plainFor y = true) (hef : ∀ m, entryFrame m A maxL = mkF m 0 L0 [])
    (body : ∀ (p : Program) (e : Env) (s : State) (m : MethodId) (below : List Frame) (meth : Method) (c : Code) (s₁ : State), Stand p l e rm s m A below meth c s₁ [] 0 0 → p.tables.exec = Jvm.exec → c.code = bytes → c.maxLocals = maxL → s.vm.findClass y.cls = some m.cls → meth.name = y.name → meth.sig.returnType = ret → meth.locks = false → Z.Warmed39 s.vm → s₁.heap = h0 → Go p e below s K N Q m s₁ 0 L0 []) :
    MetFree l y (head1 (Jvm.Cond.code y bytes maxL ret :: ws) rm) (fun a U => a = A ∧ Z.Warmed39 U.vm ∧ U.heap = h0) (fun _ _ _ _ _ => True) (fun _ U o U' => ∃ v L, o = .returned v ∧ Q v U'.heap L ∧ FrameEnd U o U' L K N) := by
  refine MetFree.of_bodySF hpl hisR ?_
  intro p e s m args below meth c s₁ Bd hml0 hP hK
  obtain ⟨rfl, hZ, hh⟩ := hP
  obtain ⟨s₂, o, h1, h2⟩ := body p e s m below meth c s₁ (Stand.of_body Bd) Bd.exec Bd.bytes hml0 (findClass_of_methodNamed Bd.named) (name_of_methodNamed Bd.named Bd.method).1 Bd.returns Bd.notSynchronized hZ (by rw [← hh, Bd.state]; rfl)
  exact ⟨s₂, o, castTop (hef m) h1, h2⟩
end OwnGo
theorem own_and255 (x : Int32) : ¬ nar .char ((x &&& (255 : Int32)).toUInt32.toUInt16.toUInt32.toInt32) < 0 ∧ ¬ (255 : Int32) < nar .char ((x &&& (255 : Int32)).toUInt32.toUInt16.toUInt32.toInt32) := by
  have e1 : nar .char ((x &&& (255 : Int32)).toUInt32.toUInt16.toUInt32.toInt32) = x &&& 255 := by simp only [nar, i2c_mask]
  rw [e1]
  have h := c_mask x 255 8 (by decide) (by decide)
  have e0 : (0 : Int32).toInt = 0 := rfl
  have e2 : (255 : Int32).toInt = 255 := rfl
  simp only [Int32.lt_iff_toInt_lt, h, e0, e2]
  omega
theorem own_c255 (x : Int32) : ¬ (x &&& (255 : Int32)).toUInt32.toUInt16.toUInt32.toInt32 < 0 ∧ ¬ (255 : Int32) < (x &&& (255 : Int32)).toUInt32.toUInt16.toUInt32.toInt32 := by
  rw [i2c_mask]
  have h := c_mask x 255 8 (by decide) (by decide)
  have e0 : (0 : Int32).toInt = 0 := rfl
  have e2 : (255 : Int32).toInt = 255 := rfl
  simp only [Int32.lt_iff_toInt_lt, h, e0, e2]
  omega
theorem own_neArv {Z : State} {h : Heap} {a b : Addr} {k k' : ClassId} {ty ty' : FieldType} {z z' : Int32} {vs vs' : List Value} {d d' : Value} (A : Arv Z h a k ty z vs d) (B : Arv Z h b k' ty' z' vs' d') (hz : z.toNatClampNeg ≠ z'.toNatClampNeg) : a ≠ b := fun e => by
  subst e
  obtain ⟨c, A1, -, A2, -⟩ := A
  obtain ⟨c', B1, -, B2, -⟩ := B
  cases A1.1.symm.trans B1.1
  exact hz (A2.symm.trans B2)
theorem own_oneF {Z : State} {h : Heap} {a : Addr} {C n d : String} {v w : Value} (F : Fld Z h a C n d v) (G : Fld Z h a C n d w) : v = w := by
  obtain ⟨c1, _, _, _, _, h1, h2, -, -, -, -, h7⟩ := F
  obtain ⟨c2, _, _, _, _, g1, g2, -, -, -, -, g7⟩ := G
  cases h1.symm.trans g1; cases h2.symm.trans g2; exact Option.some.inj (h7.symm.trans g7)
section OwnGoH
/-- as Go, where String constants may be loaded: the wide frame, and the invariant of the constants held -/
def GoH (Z : State) (EL : List (String × Nat)) (p : Program) (e : Env) (below : List Frame) (s : State) (k n : Nat) (Q : Option Value → Heap → List Loc → Prop) (m : MethodId) (T : State) (pc : Nat) (L : Array Slot) (S : List Value) : Prop :=
  ∃ s₂ o, Steps p.tables e below (T.setTop (mkF m pc L S)) s₂ ∧ s₂.status = .running ∧ Ended s₂ below o ∧ ∃ v Ls, o = .returned v ∧ Q v s₂.heap Ls ∧ CHr Z EL s.vm s.heap s₂.vm s₂.heap ∧ ReturnedEndW s o s₂ Ls k n
variable {p : Program} {l : Launch} {e : Env} {R : Room} {s : State} {m : MethodId} {args : Array Value} {below : List Frame} {meth : Method} {c : Code} {T T' : State} {locs : List Loc} {cells slots k n k0 : Nat} {Z : State} {a0 : Array Value} {h h0 : Heap} {vm0 : Vm} {EL : List (String × Nat)} {Q : Option Value → Heap → List Loc → Prop} {pc pc' : Nat} {L L' : Array Slot} {S S' : List Value}
theorem GoH.st (h : ∀ t, Steps p.tables e below (T'.setTop (mkF m pc' L' S')) t → Steps p.tables e below (T.setTop (mkF m pc L S)) t) (g : GoH Z EL p e below s k n Q m T' pc' L' S') : GoH Z EL p e below s k n Q m T pc L S := by
  obtain ⟨a, b, c, d⟩ := g; exact ⟨a, b, h _ c, d⟩
theorem GoH.tr (h : Steps p.tables e below (T.setTop (mkF m pc L S)) (T'.setTop (mkF m pc' L' S'))) (g : GoH Z EL p e below s k n Q m T' pc' L' S') : GoH Z EL p e below s k n Q m T pc L S := GoH.st (fun _ q => h.trans q) g
theorem own_upW {s t : State} {o : Outcome} {L : List Loc} {k n k' n' : Nat} (h : ReturnedEndW s o t L k n) (hk : k ≤ k') (hn : n ≤ n') : ReturnedEndW s o t L k' n' := ⟨h.1, h.2.1, h.2.2.1, h.2.2.2.mono hk hn⟩
theorem own_chr (X : Stand p l e R (s.setVm vm0) m args below meth c T locs cells slots) (eT : T.heap = h) (hs0 : s.heap = h0) (hZ : Z.Warmed39 vm0) (hEL : EW Z a0 EL) (CR : CHr Z EL s.vm h0 vm0 h) : CHr Z EL s.vm s.heap T.vm T.heap := by
  rw [eT, hs0]; exact CR.trans (CHv.at X hZ hEL CR.1)
theorem GoH.retV (X : Stand p l e R (s.setVm vm0) m args below meth c T locs cells slots) (hx : p.tables.exec = Jvm.exec) (hlk : meth.locks = false) (hret : meth.sig.returnType = none) (hd : decode c.code pc = .ok (.return_, 1)) (hk : cells ≤ k) (hn : slots ≤ n) (hS : s.Since vm0 k0) (hk0 : k0 ≤ h.size) (eT : T.heap = h) (hs0 : s.heap = h0) (hZ : Z.Warmed39 vm0) (hEL : EW Z a0 EL) (CR : CHr Z EL s.vm h0 vm0 h) (hq : Q none T.heap locs) : GoH Z EL p e below s k n Q m T pc L [] := by
  obtain ⟨fs, hr, hrun, hended, hW⟩ := X.leaveW hS (by rw [eT]; exact hk0) (v := none) (fun _ => rfl) hlk
  have hc := own_chr X eT hs0 hZ hEL CR
  exact ⟨_, _, X.returnOut hx hret hd hr, hrun, hended, _, _, rfl, hq, hc, own_upW hW hk hn⟩
theorem GoH.retN (X : Stand p l e R (s.setVm vm0) m args below meth c T locs cells slots) (hx : p.tables.exec = Jvm.exec) (hlk : meth.locks = false) {t : FieldType} {z : Int32} {rest : List Value} (hret : meth.sig.returnType = some t) (ht : t = .boolean ∨ t = .byte ∨ t = .char ∨ t = .short) (hd : decode c.code pc = .ok (.ireturn, 1)) (hk : cells ≤ k) (hn : slots ≤ n) (hS : s.Since vm0 k0) (hk0 : k0 ≤ h.size) (eT : T.heap = h) (hs0 : s.heap = h0) (hZ : Z.Warmed39 vm0) (hEL : EW Z a0 EL) (CR : CHr Z EL s.vm h0 vm0 h) (hq : Q (some (.int (nar t z))) T.heap locs) : GoH Z EL p e below s k n Q m T pc L (.int z :: rest) := by
  obtain ⟨fs, hr, hrun, hended, hW⟩ := X.leaveW hS (by rw [eT]; exact hk0) (v := some (.int (nar t z))) (fun h => by rw [hret] at h; cases h) hlk
  have hc := own_chr X eT hs0 hZ hEL CR
  exact ⟨_, _, Jvm.RoadKit.retN X hx hret ht hd hr, hrun, hended, _, _, rfl, hq, hc, own_upW hW hk hn⟩
theorem GoH.retO (X : Stand p l e R (s.setVm vm0) m args below meth c T locs cells slots) (hx : p.tables.exec = Jvm.exec) (hlk : meth.locks = false) {t : FieldType} {w : Value} {i : Instr} {rest : List Value} (hret : meth.sig.returnType = some t) (hw : narrow t w = w) (hi : (i = .ireturn ∧ (t = .int ∨ t = .boolean ∨ t = .byte ∨ t = .char ∨ t = .short) ∧ ∃ z, w = .int z) ∨ (i = .lreturn ∧ t = .long ∧ ∃ z, w = .long z) ∨ (i = .dreturn ∧ t = .double ∧ ∃ z, w = .double z) ∨ (i = .freturn ∧ t = .float ∧ ∃ z, w = .float z) ∨ (i = .areturn ∧ t.isReference = true ∧ w.isRef = true)) (hd : decode c.code pc = .ok (i, 1)) (hk : cells ≤ k) (hn : slots ≤ n) (hS : s.Since vm0 k0) (hk0 : k0 ≤ h.size) (eT : T.heap = h) (hs0 : s.heap = h0) (hZ : Z.Warmed39 vm0) (hEL : EW Z a0 EL) (CR : CHr Z EL s.vm h0 vm0 h) (hq : Q (some w) T.heap locs) : GoH Z EL p e below s k n Q m T pc L (w :: rest) := by
  obtain ⟨fs, hr, hrun, hended, hW⟩ := X.leaveW hS (by rw [eT]; exact hk0) (v := some w) (fun h => by rw [hret] at h; cases h) hlk
  have hc := own_chr X eT hs0 hZ hEL CR
  exact ⟨_, _, retOut X hx hret hw hi hd hr, hrun, hended, _, _, rfl, hq, hc, own_upW hW hk hn⟩
theorem own_metH {l : Launch} {y : MethodName} {bytes : ByteArray} {maxL : Nat} {ret : Option FieldType} {ws : List Jvm.Cond} {rm : Room} {A : Array Value} {Z : State} {EL : List (String × Nat)} {h0 : Heap} {Q : Option Value → Heap → List Loc → Prop} {L0 : Array Slot} {K N : Nat} (hpl : plainFor y = true) (hef : ∀ m, entryFrame m A maxL = mkF m 0 L0 [])
    (body : ∀ (p : Program) (e : Env) (s : State) (m : MethodId) (below : List Frame) (meth : Method) (c : Code) (s₁ : State), Stand p l e rm (s.setVm s.vm) m A below meth c s₁ [] 0 0 → p.tables.exec = Jvm.exec → c.code = bytes → c.maxLocals = maxL → (s.setVm s.vm).vm.findClass y.cls = some m.cls → meth.name = y.name → meth.sig.returnType = ret → meth.locks = false → Z.Warmed39 (s.setVm s.vm).vm → s₁.heap = h0 → s.heap = h0 → CHr Z EL s.vm h0 s.vm h0 → s.Since s.vm 0 → 0 ≤ h0.size → GoH Z EL p e below s K N Q m s₁ 0 L0 []) :
    MetFree l y (head1 (Jvm.Cond.code y bytes maxL ret :: ws) rm) (fun a U => a = A ∧ Z.Warmed39 U.vm ∧ U.heap = h0 ∧ CHv Z EL U.vm h0) (fun _ _ _ _ _ => True) (fun _ U o U' => ∃ v L, o = .returned v ∧ Q v U'.heap L ∧ CHr Z EL U.vm U.heap U'.vm U'.heap ∧ ReturnedEndW U o U' L K N) := by
  refine MetFree.of_bodySF hpl hisR ?_
  intro p e s m args below meth c s₁ Bd hml0 hP hK
  obtain ⟨rfl, hZ, hh, hC⟩ := hP
  obtain ⟨s₂, o, h1, h2⟩ := body p e s m below meth c s₁ (Stand.of_body Bd) Bd.exec Bd.bytes hml0 (findClass_of_methodNamed Bd.named) (name_of_methodNamed Bd.named Bd.method).1 Bd.returns Bd.notSynchronized hZ (by rw [← hh, Bd.state]; rfl) hh (CHr.refl hC) ((State.WarmedH.refl s).since 0) (Nat.zero_le _)
  exact ⟨s₂, o, castTop (hef m) h1, h2⟩
theorem own_safeV {x : Addr} {kk : ClassId} {ty : FieldType} {z : Int32} {vs : List Value} {dv : Value} (hal : Z.vm.Alike vm0) (V : Arv Z h x kk ty z vs dv) (ht : ty ≠ .byte) : Safe Z EL vm0 h x := by
  obtain ⟨cl, A, -⟩ := V; exact Safe.arr hal A ht
theorem own_safeS {x : Addr} (hal : Z.vm.Alike vm0) (E : Exa Z h x "java/lang/String") (F : Fld Z h x "java/lang/String" "value" "[B" .null) : Safe Z EL vm0 h x := fun B => by
  obtain ⟨cell, kE, e1, e2, e3, -, -⟩ := E
  obtain ⟨cell', cf, kF, iF, f, f1, f2, f3, f4, f5, f6, f7⟩ := F
  cases e1.symm.trans f1
  obtain ⟨p, -, u, a, -, q, -, G, rfl | rfl⟩ := B
  · cases (show h[q.sa]? = some q.sC from G.ha).symm.trans e1
    obtain ⟨cS, ⟨⟨-, -, -, ⟨c1, k1, i1, g1, -⟩, -, -, -, v1, -⟩, -⟩, -⟩ := G
    obtain ⟨k3, g3, -⟩ := State.fieldFound?_setVm (s := Z) (vm' := vm0) hal f2
    have g4 := (show (Wst Z vm0 h).fieldFound? "java/lang/String" "value" "[B" = _ from g3).symm.trans g1
    simp only [Option.some.injEq, Prod.mk.injEq] at g4
    rw [← g4.2.2.2, f7] at v1
    cases v1
  · cases (show h[q.sd]? = some q.SA from G.hd).symm.trans e1
    obtain ⟨cS, -, -, g1, -⟩ := G
    have g2 : vm0.findClass "[B" = some q.SA.cls := g1
    rw [hal.findClass] at g2
    obtain ⟨k1, q1, q2⟩ := Vm.findClass_spec g2
    obtain ⟨k2, q3, q4⟩ := Vm.findClass_spec e2
    cases q1.symm.trans q3
    exact absurd (q2.symm.trans q4) (by decide)
end OwnGoH
theorem own_wS {Z : State} {a0 : Array Value} (hw : ∀ d ∈ tables_1, d.before a0 Z = true) : ∀ a ∈ Bundle.stringAtoms, a.before a0 Z = true := fun d hd => hw d ((by decide +kernel : ∀ d ∈ Bundle.stringAtoms, d ∈ tables_1) d hd)

def EL : List (String × Nat) := [("com/example/yusenkabu/yusenkabu/cli/InputException", 16), ("com/example/yusenkabu/yusenkabu/cli/InputException", 39), ("java/lang/String", 7)]
theorem own_EW {Z : State} {a0 : Array Value} (hw : ∀ d ∈ tables_1, d.before a0 Z = true) : EW Z a0 EL := (EW.cons (hw _ (List.mem_of_getElem? (i := 99) rfl)) (by decide) (EW.cons (hw _ (List.mem_of_getElem? (i := 50) rfl)) (by decide) (EW.cons (hw _ (List.mem_of_getElem? (i := 18) rfl)) (by decide) EW.nil)))
section OwnExc
variable {p : Program} {l : Launch} {e : Env} {R : Room} {s : State} {m : MethodId} {args : Array Value} {below : List Frame} {Z : State} {a0 : Array Value} {h : Heap} {EL : List (String × Nat)} {vm0 : Vm}
theorem own_metHK {l : Launch} {y : MethodName} {bytes : ByteArray} {maxL : Nat} {ret : Option FieldType} {ws : List Jvm.Cond} {rm : Room} {A : Array Value} {Z : State} {EL : List (String × Nat)} {h0 : Heap} {Q : Option Value → Heap → List Loc → Prop} {L0 : Array Slot} {K N : Nat} (hpl : plainFor y = true) (hef : ∀ m, entryFrame m A maxL = mkF m 0 L0 [])
    (body : ∀ (p : Program) (e : Env) (s : State) (m : MethodId) (below : List Frame) (meth : Method) (c : Code) (s₁ : State), Stand p l e rm (s.setVm s.vm) m A below meth c s₁ [] 0 0 → p.tables.exec = Jvm.exec → c.code = bytes → c.maxLocals = maxL → (s.setVm s.vm).vm.findClass y.cls = some m.cls → meth.name = y.name → meth.sig.returnType = ret → meth.locks = false → Z.Warmed39 (s.setVm s.vm).vm → s₁.heap = h0 → s.heap = h0 → CHr Z EL s.vm h0 s.vm h0 → s.Since s.vm 0 → 0 ≤ h0.size → s.vm.MethodsKnown → s.vm.FramesKnown below → GoH Z EL p e below s K N Q m s₁ 0 L0 []) :
    MetFree l y (head1 (Jvm.Cond.code y bytes maxL ret :: ws) rm) (fun a U => a = A ∧ Z.Warmed39 U.vm ∧ U.heap = h0 ∧ CHv Z EL U.vm h0) (fun _ _ bl s _ => s.vm.MethodsKnown ∧ s.vm.FramesKnown bl) (fun _ U o U' => ∃ v L, o = .returned v ∧ Q v U'.heap L ∧ CHr Z EL U.vm U.heap U'.vm U'.heap ∧ ReturnedEndW U o U' L K N) := by
  refine MetFree.of_bodySF hpl hisR ?_
  intro p e s m args below meth c s₁ Bd hml0 hP hK
  obtain ⟨rfl, hZ, hh, hC⟩ := hP
  obtain ⟨s₂, o, h1, h2⟩ := body p e s m below meth c s₁ (Stand.of_body Bd) Bd.exec Bd.bytes hml0 (findClass_of_methodNamed Bd.named) (name_of_methodNamed Bd.named Bd.method).1 Bd.returns Bd.notSynchronized hZ (by rw [← hh, Bd.state]; rfl) hh (CHr.refl hC) ((State.WarmedH.refl s).since 0) (Nat.zero_le _) hK.1 hK.2
  exact ⟨s₂, o, castTop (hef m) h1, h2⟩
/-- backOfSH, where a stack trace is filled in beneath -/
theorem own_backSHK {y : MethodName} {bytes : ByteArray} {maxL : Nat} {ret : Option FieldType} {rm : Room} {len W : Nat} {as' : Array Value} {Q : Option Value → Heap → List Loc → Prop}
    (hM : MetFree l y (head1 [Cond.code y bytes maxL ret] rm) (fun a U => a = as' ∧ Z.Warmed39 U.vm ∧ U.heap = h ∧ CHv Z EL U.vm h) (fun _ _ bl s _ => s.vm.MethodsKnown ∧ s.vm.FramesKnown bl) (fun _ U o U' => ∃ v L, o = .returned v ∧ Q v U'.heap L ∧ CHr Z EL U.vm U.heap U'.vm U'.heap ∧ ReturnedEndW U o U' L rm.cells rm.slots))
    (hZ : Z.Warmed39 vm0) (wc : (Cond.code y bytes maxL ret).before a0 Z = true) (wz : (Cond.initialized y.cls).before a0 Z = true) (hf : rm.frames + 1 ≤ R.frames) (hl : W + (maxL + 11) + rm.locals ≤ R.locals) (hEL : EW Z a0 EL) (H : CHv Z EL vm0 h) (hTK : (s.setVm vm0).vm.MethodsKnown) (hBelow : (s.setVm vm0).vm.FramesKnown below) :
    BackS l R p e below (s.setVm vm0) args y len W (fun A a => a = as' ∧ A.U.heap = h ∧ A.cells + rm.cells ≤ R.cells ∧ A.slots + rm.slots ≤ R.slots)
      (fun A _ v B => ∃ L, Q v B.U.heap L ∧ B.locs = A.locs ++ L ∧ B.cells = A.cells + rm.cells ∧ B.slots = A.slots + rm.slots ∧ CHr Z EL vm0 h B.U.vm B.U.heap) := by
  refine BackS.of_freeWG (bytes := bytes) (maxL := maxL) (ret := ret) (E := fun _ first o t L k n => k = rm.cells ∧ n = rm.slots ∧ (∃ v, o = .returned v ∧ Q v t.heap L) ∧ CHr Z EL first.vm first.heap t.vm t.heap) hM hf hl ?_ ?_ ?_ ?_ ?_
  · intro m meth c A a Y hp
    have hU : Z.Warmed39 A.U.vm := wtrans (s := s.setVm vm0) hZ Y.warmed
    refine ⟨?_, mv hU wc, mv hU wz, hp.2.2.1, hp.2.2.2⟩
    show (Cond.and _ .tt).before a A.U = true
    rw [Cond.before_and, mv hU wc]; rfl
  · intro m meth c A a g mk Y hp
    exact ⟨hp.1, wtrans (s := s.setVm vm0) hZ Y.warmed, hp.2.1, (CHv.at Y hZ hEL H).1⟩
  · intro m meth c A a g mk Y _ hg
    exact known_frames Y hg hTK hBelow
  · rintro a first o t ⟨v, L, h1, h2, h3, h4⟩
    exact ⟨L, _, _, h4, rfl, rfl, ⟨v, h1, h2⟩, h3⟩
  · rintro m meth c A a g mk v t L k n Y hp _ _ ⟨rfl, rfl, ⟨v', e3, e4⟩, e5⟩
    cases e3
    refine ⟨L, e4, rfl, rfl, rfl, (CHv.at Y hZ hEL H).trans ?_⟩
    rw [← hp.2.1]; exact e5
end OwnExc

theorem d3_0 : decode jdk_42_method_149_code 0 = .ok (.aload_n 0, 1) := by decide +kernel
theorem d3_1 : decode jdk_42_method_149_code 1 = .ok (.invokespecial 1, 3) := by decide +kernel
theorem d3_4 : decode jdk_42_method_149_code 4 = .ok (.iload_n 3, 1) := by decide +kernel
theorem d3_5 : decode jdk_42_method_149_code 5 = .ok (.ifCond .ne 22, 3) := by decide +kernel
theorem d3_8 : decode jdk_42_method_149_code 8 = .ok (.aload_n 0, 1) := by decide +kernel
theorem d3_9 : decode jdk_42_method_149_code 9 = .ok (.ldc 7, 2) := by decide +kernel
theorem d3_11 : decode jdk_42_method_149_code 11 = .ok (.getfield 9, 3) := by decide +kernel
theorem d3_14 : decode jdk_42_method_149_code 14 = .ok (.putfield 9, 3) := by decide +kernel
theorem d3_17 : decode jdk_42_method_149_code 17 = .ok (.aload_n 0, 1) := by decide +kernel
theorem d3_18 : decode jdk_42_method_149_code 18 = .ok (.ldc 7, 2) := by decide +kernel
theorem d3_20 : decode jdk_42_method_149_code 20 = .ok (.getfield 15, 3) := by decide +kernel
theorem d3_23 : decode jdk_42_method_149_code 23 = .ok (.putfield 15, 3) := by decide +kernel
theorem d3_26 : decode jdk_42_method_149_code 26 = .ok (.return_, 1) := by decide +kernel
theorem pn_0 : plainName "java/lang/String" = true := by first | (simp [plainName, overriddenIn]; done) | decide +kernel
def QE149 (Z : State) (a1 : Addr) (h0 : Heap) (n0 : Nat) (v : Option Value) (h : Heap) (L : List Loc) : Prop := ∃ (t : Addr) (kb : ClassId), v = none ∧ Fr n0 L ∧ Keep h0 h [a1] ∧ Fld Z h a1 "java/lang/String" "coder" "B" (.int 0) ∧ a1 ≠ t ∧ Fld Z h a1 "java/lang/String" "value" "[B" (.ref t) ∧ Arv Z h t kb .byte (0 : Int32) [] (.int (0 : Int32))
def roomE149 : Room := { frames := 1, cells := 4, slots := 8, locals := 12 }
set_option maxRecDepth 65536 in
set_option maxHeartbeats 40000000 in
theorem rmE149 (l : Launch) (Z : State) (a0 : Array Value) (hw : ∀ d ∈ tables_1, d.before a0 Z = true) (ws : List Jvm.Cond) (a1 : Addr) (a2 : Addr) (h0 : Heap) (n0 : Nat) (Z0 : n0 ≤ h0.size) (E_a1 : Exa Z h0 a1 "java/lang/String") (g_a1 : n0 ≤ a1) (F_value : Fld Z h0 a1 "java/lang/String" "value" "[B" .null) (F_coder : Fld Z h0 a1 "java/lang/String" "coder" "B" (.int (0 : Int32))) :
    MetFree l (⟨"java/lang/String", "<init>", "([CIILjava/lang/Void;)V"⟩ : MethodName) (head1 (Jvm.Cond.code (⟨"java/lang/String", "<init>", "([CIILjava/lang/Void;)V"⟩ : MethodName) jdk_42_method_149_code 6 none :: ws) roomE149) (fun aa_ U_ => aa_ = #[(.ref a1), (.ref a2), (.int (0 : Int32)), (.int (0 : Int32)), .null] ∧ Z.Warmed39 U_.vm ∧ U_.heap = h0 ∧ CHv Z EL U_.vm h0) (fun _ _ _ _ _ => True) (fun _ U_ o_ W_ => ∃ v_ L_, o_ = .returned v_ ∧ (QE149 Z a1 h0 n0) v_ W_.heap L_ ∧ CHr Z EL U_.vm U_.heap W_.vm W_.heap ∧ ReturnedEndW U_ o_ W_ L_ roomE149.cells roomE149.slots) := by
  refine own_metH (Q := (QE149 Z a1 h0 n0)) (L0 := #[.val (.ref a1), .val (.ref a2), .val (.int (0 : Int32)), .val (.int (0 : Int32)), .val .null, .unset]) (plainFor_of_name pn_0) (fun m => by first | (simp [entryFrame, mkF, argsToLocals, Value.category]; done) | rfl) ?_
  intro p e s m below meth c T0 X0 hx hby hml hown hnm hret hlk hZ e0 hs0 CR hS hk
  have N0 := Fr.nil n0
  have K0 := Keep.refl h0 [a1]
  have S_a1 : Safe Z EL s.vm h0 a1 := own_safeS hZ.alike E_a1 F_value
  refine GoH.st (T' := T0) (pc' := 1) (L' := #[.val (.ref a1), .val (.ref a2), .val (.int (0 : Int32)), .val (.int (0 : Int32)), .val .null, .unset]) (S' := [(.ref a1)]) (fun t_ k_ => XS.aloadN X0.here hx rfl (hb hby d3_0) rfl rfl  k_) ?_
  obtain ⟨T1, X1, e1, st1⟩ := initO X0 hx hZ hown (hw _ (List.mem_of_getElem? (i := 15) rfl)) (hw _ (List.mem_of_getElem? (i := 16) rfl)) (hw _ (List.mem_of_getElem? (i := 17) rfl)) e0 (g := (mkF m 1 #[.val (.ref a1), .val (.ref a2), .val (.int (0 : Int32)), .val (.int (0 : Int32)), .val .null, .unset] [(.ref a1)])) rfl (by rw [hml]; rfl) rfl (hb hby d3_1) (by decide) (W := 0) (by show 2 * 0 + _ ≤ _; exact Nat.le_of_eq rfl) (by decide)
  refine GoH.st (T' := T1) (pc' := 4) (L' := #[.val (.ref a1), .val (.ref a2), .val (.int (0 : Int32)), .val (.int (0 : Int32)), .val .null, .unset]) (S' := []) st1 ?_
  refine GoH.st (T' := T1) (pc' := 5) (L' := #[.val (.ref a1), .val (.ref a2), .val (.int (0 : Int32)), .val (.int (0 : Int32)), .val .null, .unset]) (S' := [(.int (0 : Int32))]) (fun t_ k_ => XS.iloadN X1.here hx rfl (hb hby d3_4) rfl  k_) ?_
  refine GoH.st (T' := T1) (pc' := 8) (L' := #[.val (.ref a1), .val (.ref a2), .val (.int (0 : Int32)), .val (.int (0 : Int32)), .val .null, .unset]) (S' := []) (fun t_ k_ => XS.ifNo X1.here hx rfl (hb hby d3_5) rfl ((if0 _ _).trans (teq (by decide : ((0 : Int32) = (0 : Int32)))).2) k_) ?_
  refine GoH.st (T' := T1) (pc' := 9) (L' := #[.val (.ref a1), .val (.ref a2), .val (.int (0 : Int32)), .val (.int (0 : Int32)), .val .null, .unset]) (S' := [(.ref a1)]) (fun t_ k_ => XS.aloadN X1.here hx rfl (hb hby d3_8) rfl rfl  k_) ?_
  obtain ⟨a2_, T2, h2, k2, b2_, c2, X2, e2, E2, hS2, hk2, hZ2, ho2, E_a2_, Fc_a2_, Fv_a2_, V_b2_, lta2, ltb2, CR2, -, Sf2, st2⟩ := ldcCH X1 hx hZ hown (hw _ (List.mem_of_getElem? (i := 18) rfl)) (own_wS hw) e1 hS hk (own_EW hw) (by decide : ("java/lang/String", 7) ∈ EL) CR.1 (vs := []) (z := (0 : Int32)) ⟨by decide, by decide⟩ (by decide) rfl (g := (mkF m 9 #[.val (.ref a1), .val (.ref a2), .val (.int (0 : Int32)), .val (.int (0 : Int32)), .val .null, .unset] [(.ref a1)])) rfl (hb hby d3_9) (n := 0) (by decide) (by decide) (by decide) (by decide)
  replace S_a1 := CR2.safe E_a1.lt S_a1
  replace CR := CR.trans CR2
  replace Z0 := Nat.le_trans Z0 E2.1
  replace K0 := K0.ext E2
  replace E_a1 := E_a1.ext E2
  replace F_value := F_value.ext E2
  replace F_coder := F_coder.ext E2
  replace hZ := hZ2
  replace hown := ho2
  replace hS := hS2
  replace hk := hk2
  have ne_a1_a2_ := (Sf2 _ S_a1).1
  have ne_a1_b2_ := (Sf2 _ S_a1).2
  refine GoH.st (T' := T2) (pc' := 11) (L' := #[.val (.ref a1), .val (.ref a2), .val (.int (0 : Int32)), .val (.int (0 : Int32)), .val .null, .unset]) (S' := [(.ref a2_), (.ref a1)]) st2 ?_
  obtain ⟨T3, X3, e3, st3⟩ := getF X2 hx hZ hown (host := "") (Or.inl (hw _ (List.mem_of_getElem? (i := 24) rfl))) Via.refl e2 Fv_a2_ (g := (mkF m 11 #[.val (.ref a1), .val (.ref a2), .val (.int (0 : Int32)), .val (.int (0 : Int32)), .val .null, .unset] [(.ref a2_), (.ref a1)])) rfl rfl (hb hby d3_11)
  refine GoH.st (T' := T3) (pc' := 14) (L' := #[.val (.ref a1), .val (.ref a2), .val (.int (0 : Int32)), .val (.int (0 : Int32)), .val .null, .unset]) (S' := [(.ref b2_), (.ref a1)]) st3 ?_
  obtain ⟨T4, h4, X4, e4, W4, st4⟩ := putF X3 hx hZ hown (host := "") (Or.inl (hw _ (List.mem_of_getElem? (i := 24) rfl))) Via.refl e3 F_value E_a1 (Or.inr ⟨(hw _ (List.mem_of_getElem? (i := 20) rfl)), rfl, hnm⟩) (hw _ (List.mem_of_getElem? (i := 5) rfl)) (ty := (.array .byte)) (by decide) rfl rfl (g := (mkF m 14 #[.val (.ref a1), .val (.ref a2), .val (.int (0 : Int32)), .val (.int (0 : Int32)), .val .null, .unset] [(.ref b2_), (.ref a1)])) rfl rfl (hb hby d3_14)
  have Sw5 : Safe Z EL T2.vm h2 a1 := S_a1
  replace S_a1 := Safe.wr W4 Sw5 CR.1 S_a1
  replace CR := CR.trans (CHr.wr W4 Sw5 CR.1)
  replace hk := Nat.le_trans hk (Keep.of_wr W4).1
  replace Z0 := Nat.le_trans Z0 (Keep.of_wr W4).1
  replace K0 := K0.wr W4 (Or.inl (List.mem_of_getElem? (i := 0) rfl))
  replace E_a1 := E_a1.wr W4
  replace F_coder := F_coder.other W4 (Or.inr (slot_ne (Or.inr (hw _ (List.mem_of_getElem? (i := 21) rfl))) (Or.inr (hw _ (List.mem_of_getElem? (i := 20) rfl))) (by decide) (t := .byte) (t' := (.array .byte)) (by decide) (by decide)))
  replace E_a2_ := E_a2_.wr W4
  replace Fc_a2_ := Fc_a2_.other W4 (Or.inl (Ne.symm ne_a1_a2_))
  replace Fv_a2_ := Fv_a2_.other W4 (Or.inl (Ne.symm ne_a1_a2_))
  replace V_b2_ := V_b2_.other W4 (Ne.symm ne_a1_b2_)
  replace F_value := F_value.same W4
  have N4 := Fr.snoc X4 N0 g_a1
  refine GoH.st (T' := T4) (pc' := 17) (L' := #[.val (.ref a1), .val (.ref a2), .val (.int (0 : Int32)), .val (.int (0 : Int32)), .val .null, .unset]) (S' := []) st4 ?_
  refine GoH.st (T' := T4) (pc' := 18) (L' := #[.val (.ref a1), .val (.ref a2), .val (.int (0 : Int32)), .val (.int (0 : Int32)), .val .null, .unset]) (S' := [(.ref a1)]) (fun t_ k_ => XS.aloadN X4.here hx rfl (hb hby d3_17) rfl rfl  k_) ?_
  obtain ⟨a6_, T6, h6, k6, b6_, c6, X6, e6, E6, hS6, hk6, hZ6, ho6, E_a6_, Fc_a6_, Fv_a6_, V_b6_, lta6, ltb6, CR6, -, Sf6, st6⟩ := ldcCH X4 hx hZ hown (hw _ (List.mem_of_getElem? (i := 18) rfl)) (own_wS hw) e4 hS hk (own_EW hw) (by decide : ("java/lang/String", 7) ∈ EL) CR.1 (vs := []) (z := (0 : Int32)) ⟨by decide, by decide⟩ (by decide) rfl (g := (mkF m 18 #[.val (.ref a1), .val (.ref a2), .val (.int (0 : Int32)), .val (.int (0 : Int32)), .val .null, .unset] [(.ref a1)])) rfl (hb hby d3_18) (n := 0) (by decide) (by decide) (by decide) (by decide)
  replace S_a1 := CR6.safe E_a1.lt S_a1
  replace CR := CR.trans CR6
  replace Z0 := Nat.le_trans Z0 E6.1
  replace K0 := K0.ext E6
  replace E_a1 := E_a1.ext E6
  replace F_value := F_value.ext E6
  replace F_coder := F_coder.ext E6
  replace E_a2_ := E_a2_.ext E6
  replace Fc_a2_ := Fc_a2_.ext E6
  replace Fv_a2_ := Fv_a2_.ext E6
  replace V_b2_ := V_b2_.ext E6
  replace hZ := hZ6
  replace hown := ho6
  replace hS := hS6
  replace hk := hk6
  have ne_a1_a6_ := (Sf6 _ S_a1).1
  have ne_a1_b6_ := (Sf6 _ S_a1).2
  refine GoH.st (T' := T6) (pc' := 20) (L' := #[.val (.ref a1), .val (.ref a2), .val (.int (0 : Int32)), .val (.int (0 : Int32)), .val .null, .unset]) (S' := [(.ref a6_), (.ref a1)]) st6 ?_
  obtain ⟨T7, X7, e7, st7⟩ := getF X6 hx hZ hown (host := "") (Or.inl (hw _ (List.mem_of_getElem? (i := 25) rfl))) Via.refl e6 Fc_a6_ (g := (mkF m 20 #[.val (.ref a1), .val (.ref a2), .val (.int (0 : Int32)), .val (.int (0 : Int32)), .val .null, .unset] [(.ref a6_), (.ref a1)])) rfl rfl (hb hby d3_20)
  refine GoH.st (T' := T7) (pc' := 23) (L' := #[.val (.ref a1), .val (.ref a2), .val (.int (0 : Int32)), .val (.int (0 : Int32)), .val .null, .unset]) (S' := [(.int (0 : Int32)), (.ref a1)]) st7 ?_
  obtain ⟨T8, h8, X8, e8, W8, st8⟩ := putFN X7 hx hZ hown (hw _ (List.mem_of_getElem? (i := 25) rfl)) Via.refl e7 F_coder E_a1 (Or.inr ⟨(hw _ (List.mem_of_getElem? (i := 21) rfl)), rfl, hnm⟩) (hw _ (List.mem_of_getElem? (i := 5) rfl)) (ty := .byte) (v' := (.int (0 : Int32))) (by decide) rfl rfl (g := (mkF m 23 #[.val (.ref a1), .val (.ref a2), .val (.int (0 : Int32)), .val (.int (0 : Int32)), .val .null, .unset] [(.int (0 : Int32)), (.ref a1)])) rfl rfl (hb hby d3_23)
  have Sw9 : Safe Z EL T6.vm h6 a1 := S_a1
  replace S_a1 := Safe.wr W8 Sw9 CR.1 S_a1
  replace CR := CR.trans (CHr.wr W8 Sw9 CR.1)
  replace hk := Nat.le_trans hk (Keep.of_wr W8).1
  replace Z0 := Nat.le_trans Z0 (Keep.of_wr W8).1
  replace K0 := K0.wr W8 (Or.inl (List.mem_of_getElem? (i := 0) rfl))
  replace E_a1 := E_a1.wr W8
  replace F_value := F_value.other W8 (Or.inr (slot_ne (Or.inr (hw _ (List.mem_of_getElem? (i := 20) rfl))) (Or.inr (hw _ (List.mem_of_getElem? (i := 21) rfl))) (by decide) (t := (.array .byte)) (t' := .byte) (by decide) (by decide)))
  replace E_a2_ := E_a2_.wr W8
  replace Fc_a2_ := Fc_a2_.other W8 (Or.inl (Ne.symm ne_a1_a2_))
  replace Fv_a2_ := Fv_a2_.other W8 (Or.inl (Ne.symm ne_a1_a2_))
  replace V_b2_ := V_b2_.other W8 (Ne.symm ne_a1_b2_)
  replace E_a6_ := E_a6_.wr W8
  replace Fc_a6_ := Fc_a6_.other W8 (Or.inl (Ne.symm ne_a1_a6_))
  replace Fv_a6_ := Fv_a6_.other W8 (Or.inl (Ne.symm ne_a1_a6_))
  replace V_b6_ := V_b6_.other W8 (Ne.symm ne_a1_b6_)
  replace F_coder := F_coder.same W8
  have N8 := Fr.snoc X8 N4 g_a1
  refine GoH.st (T' := T8) (pc' := 26) (L' := #[.val (.ref a1), .val (.ref a2), .val (.int (0 : Int32)), .val (.int (0 : Int32)), .val .null, .unset]) (S' := []) st8 ?_
  exact GoH.retV X8 hx hlk hret (hb hby d3_26) (by decide) (by decide) hS hk e8 hs0 hZ (own_EW hw) CR (by rw [e8]; exact ⟨b2_, _, rfl, N8, K0, F_coder, ne_a1_b2_, F_value, V_b2_⟩)
theorem d2_0 : decode jdk_42_method_3_code 0 = .ok (.aload_n 0, 1) := by decide +kernel
theorem d2_1 : decode jdk_42_method_3_code 1 = .ok (.aload_n 1, 1) := by decide +kernel
theorem d2_2 : decode jdk_42_method_3_code 2 = .ok (.iconst 0, 1) := by decide +kernel
theorem d2_3 : decode jdk_42_method_3_code 3 = .ok (.aload_n 1, 1) := by decide +kernel
theorem d2_4 : decode jdk_42_method_3_code 4 = .ok (.arraylength, 1) := by decide +kernel
theorem d2_5 : decode jdk_42_method_3_code 5 = .ok (.aconst_null, 1) := by decide +kernel
theorem d2_6 : decode jdk_42_method_3_code 6 = .ok (.invokespecial 27, 3) := by decide +kernel
theorem d2_9 : decode jdk_42_method_3_code 9 = .ok (.return_, 1) := by decide +kernel
theorem pd_0 : parseMethodDescriptor "([CIILjava/lang/Void;)V" = some ⟨[(.array .char), .int, .int, (.object "java/lang/Void")], none⟩ := by decide +kernel
def QE3 (Z : State) (a1 : Addr) (h0 : Heap) (n0 : Nat) (v : Option Value) (h : Heap) (L : List Loc) : Prop := ∃ (t : Addr) (kb : ClassId), v = none ∧ Fr n0 L ∧ Keep h0 h [a1] ∧ Fld Z h a1 "java/lang/String" "coder" "B" (.int 0) ∧ a1 ≠ t ∧ Fld Z h a1 "java/lang/String" "value" "[B" (.ref t) ∧ Arv Z h t kb .byte (0 : Int32) [] (.int (0 : Int32))
def roomE3 : Room := { frames := 2, cells := 4, slots := 8, locals := 29 }
set_option maxRecDepth 65536 in
set_option maxHeartbeats 40000000 in
theorem rmE3 (l : Launch) (Z : State) (a0 : Array Value) (hw : ∀ d ∈ tables_1, d.before a0 Z = true) (ws : List Jvm.Cond) (a1 : Addr) (a2 : Addr) (ka : ClassId) (h0 : Heap) (n0 : Nat) (Z0 : n0 ≤ h0.size) (E_a1 : Exa Z h0 a1 "java/lang/String") (g_a1 : n0 ≤ a1) (F_value : Fld Z h0 a1 "java/lang/String" "value" "[B" .null) (F_coder : Fld Z h0 a1 "java/lang/String" "coder" "B" (.int (0 : Int32))) (V_a2 : Arv Z h0 a2 ka .char (0 : Int32) [] (.int (0 : Int32))) (ne12 : a1 ≠ a2) :
    MetFree l (⟨"java/lang/String", "<init>", "([C)V"⟩ : MethodName) (head1 (Jvm.Cond.code (⟨"java/lang/String", "<init>", "([C)V"⟩ : MethodName) jdk_42_method_3_code 2 none :: ws) roomE3) (fun aa_ U_ => aa_ = #[(.ref a1), (.ref a2)] ∧ Z.Warmed39 U_.vm ∧ U_.heap = h0 ∧ CHv Z EL U_.vm h0) (fun _ _ _ _ _ => True) (fun _ U_ o_ W_ => ∃ v_ L_, o_ = .returned v_ ∧ (QE3 Z a1 h0 n0) v_ W_.heap L_ ∧ CHr Z EL U_.vm U_.heap W_.vm W_.heap ∧ ReturnedEndW U_ o_ W_ L_ roomE3.cells roomE3.slots) := by
  refine own_metH (Q := (QE3 Z a1 h0 n0)) (L0 := #[.val (.ref a1), .val (.ref a2)]) (plainFor_of_name pn_0) (fun m => by first | (simp [entryFrame, mkF, argsToLocals, Value.category]; done) | rfl) ?_
  intro p e s m below meth c T0 X0 hx hby hml hown hnm hret hlk hZ e0 hs0 CR hS hk
  have N0 := Fr.nil n0
  have K0 := Keep.refl h0 [a1]
  have S_a1 : Safe Z EL s.vm h0 a1 := own_safeS hZ.alike E_a1 F_value
  refine GoH.st (T' := T0) (pc' := 1) (L' := #[.val (.ref a1), .val (.ref a2)]) (S' := [(.ref a1)]) (fun t_ k_ => XS.aloadN X0.here hx rfl (hb hby d2_0) rfl rfl  k_) ?_
  refine GoH.st (T' := T0) (pc' := 2) (L' := #[.val (.ref a1), .val (.ref a2)]) (S' := [(.ref a2), (.ref a1)]) (fun t_ k_ => XS.aloadN X0.here hx rfl (hb hby d2_1) rfl rfl  k_) ?_
  refine GoH.st (T' := T0) (pc' := 3) (L' := #[.val (.ref a1), .val (.ref a2)]) (S' := [(.int (0 : Int32)), (.ref a2), (.ref a1)]) (fun t_ k_ => XS.iconst X0.here hx rfl (hb hby d2_2) k_) ?_
  refine GoH.st (T' := T0) (pc' := 4) (L' := #[.val (.ref a1), .val (.ref a2)]) (S' := [(.ref a2), (.int (0 : Int32)), (.ref a2), (.ref a1)]) (fun t_ k_ => XS.aloadN X0.here hx rfl (hb hby d2_3) rfl rfl  k_) ?_
  obtain ⟨cl1, Ar1, -, q1a, q1b, -, -⟩ := id V_a2
  refine GoH.st (T' := T0) (pc' := 5) (L' := #[.val (.ref a1), .val (.ref a2)]) (S' := [(.int (0 : Int32)), (.int (0 : Int32)), (.ref a2), (.ref a1)]) (fun t_ k_ => own_len X0 hx hZ e0 Ar1 q1a q1b (g := (mkF m 4 #[.val (.ref a1), .val (.ref a2)] [(.ref a2), (.int (0 : Int32)), (.ref a2), (.ref a1)])) rfl rfl (hb hby d2_4) t_ k_) ?_
  refine GoH.st (T' := T0) (pc' := 6) (L' := #[.val (.ref a1), .val (.ref a2)]) (S' := [.null, (.int (0 : Int32)), (.int (0 : Int32)), (.ref a2), (.ref a1)]) (fun t_ k_ => XS.aconstNull X0.here hx rfl (hb hby d2_5) k_) ?_
  obtain ⟨_, _, ⟨T2, L2, k2, n2⟩, -, X2, hS2, hg2, ⟨Lc2, hQ2, l2, y2, z2, CR2⟩, st2⟩ := X0.specialBackS hx (y := (⟨"java/lang/String", "<init>", "([CIILjava/lang/Void;)V"⟩ : MethodName)) rfl hown (mvT hZ (hw _ (List.mem_of_getElem? (i := 11) rfl))) (mvT hZ (hw _ (List.mem_of_getElem? (i := 12) rfl))) (mvT hZ (hw _ (List.mem_of_getElem? (i := 14) rfl))) (by decide) (backOfSH (W := 0) (rmE149 l Z a0 hw [] a1 a2 h0 n0 Z0 E_a1 g_a1 F_value F_coder) hZ (hw _ (List.mem_of_getElem? (i := 14) rfl)) (hw _ (List.mem_of_getElem? (i := 6) rfl)) (by decide) (by decide) (own_EW hw) CR.1) (g := (mkF m 6 #[.val (.ref a1), .val (.ref a2)] [.null, (.int (0 : Int32)), (.int (0 : Int32)), (.ref a2), (.ref a1)])) rfl (by rw [hml]; rfl) (Steps.refl _) (a := a1) (argsL := [(.ref a2), (.int (0 : Int32)), (.int (0 : Int32)), .null]) (rest := []) (lenOf pd_0 rfl) rfl (by show 2 * 0 + _ ≤ _; exact Nat.le_of_eq rfl) (hb hby d2_6) (fun _ _ => ⟨rfl, e0, (by decide : 0 + 4 ≤ _), (by decide : 0 + 8 ≤ _)⟩)
  dsimp only [Pt.U, Pt.locs, Pt.cells, Pt.slots] at X2 l2 y2 z2 st2 hQ2 hS2 hg2 CR2
  subst l2 y2 z2
  replace X2 : Stand p l e _ (s.setVm T2.vm) m _ below meth c T2 _ _ _ := X2
  replace hS := foldS hS (T := T0) (Nat.le_trans hk (Nat.le_of_eq (congrArg Array.size e0.symm))) hS2 hg2
  replace hk := Nat.le_refl T2.heap.size
  replace hZ : Z.Warmed39 (s.setVm T2.vm).vm := State.Warmed39.trans (t := s.setVm s.vm) hZ hS2.1
  replace hown : (s.setVm T2.vm).vm.findClass "java/lang/String" = some m.cls := by rw [show (s.setVm T2.vm).vm = T2.vm from rfl, hS2.1.alike.findClass]; exact hown
  obtain ⟨t2, kb2, rfl, N2q, K2, Co2, nt2, Va2, Ay2⟩ := hQ2
  have N2 := Fr.app N0 N2q
  obtain ⟨h2, e2⟩ : ∃ z, T2.heap = z := ⟨_, rfl⟩
  rw [e2] at K2 Co2 Va2 Ay2 CR2
  replace S_a1 := CR2.safe E_a1.lt S_a1
  replace CR := CR.trans CR2
  replace Z0 := Nat.le_trans Z0 K2.1
  replace K0 := K0.trans K2 (allS (Or.inl (List.mem_of_getElem? (i := 0) rfl)) all0)
  replace E_a1 := E_a1.keep K2
  replace V_a2 := V_a2.keep K2 (ninS (Ne.symm ne12) nin0)
  replace hk : T2.heap.size ≤ h2.size := Nat.le_of_eq (congrArg Array.size e2)
  refine GoH.tr (T' := T2) (pc' := 9) (L' := #[.val (.ref a1), .val (.ref a2)]) (S' := []) st2 ?_
  exact GoH.retV X2 hx hlk hret (hb hby d2_9) (by decide) (by decide) hS hk e2 hs0 hZ (own_EW hw) CR (by rw [e2]; exact ⟨t2, _, rfl, N2, K0, Co2, nt2, Va2, Ay2⟩)
section OwnArr
theorem own_tn {i : Nat} (h : i < 2147483648) : i.toInt32.toNatClampNeg = i := by
  simp only [Int32.toNatClampNeg, len_toInt (n := i) h]; rfl
theorem own_inb {c : Cell} {z : Int32} {i N : Nat} (S : c.slots.size = z.toNatClampNeg) (hz : z.toNatClampNeg = N) (hi : i < N) (hN : N < 2147483648) : ¬ (i.toInt32 < 0 ∨ c.slots.size ≤ i.toInt32.toNatClampNeg) := by
  rw [S, hz]; exact idx_in hi hN
theorem own_getI (M : List Int32) (i : Nat) : (M.map Value.int).getD i (.int 0) = .int (M.getD i 0) := by
  simp only [List.getD_eq_getElem?_getD, List.getElem?_map]; cases M[i]? <;> rfl
theorem own_getD (M : List UInt64) (i : Nat) : (M.map Value.double).getD i (.double 0) = .double (M.getD i 0) := by
  simp only [List.getD_eq_getElem?_getD, List.getElem?_map]; cases M[i]? <;> rfl
theorem own_atI (M : List Int32) {i : Nat} (h : i < 2147483648) : (M.map Value.int).getD i.toInt32.toNatClampNeg (.int 0) = .int (M.getD i 0) := by rw [own_tn h, own_getI]
theorem own_atD (M : List UInt64) {i : Nat} (h : i < 2147483648) : (M.map Value.double).getD i.toInt32.toNatClampNeg (.double 0) = .double (M.getD i 0) := by rw [own_tn h, own_getD]
theorem own_setI (M : List Int32) (i : Nat) (v : Int32) : (M.map Value.int).set i (.int v) = (M.set i v).map Value.int := by rw [List.map_set]
theorem own_setD (M : List UInt64) (i : Nat) (v : UInt64) : (M.map Value.double).set i (.double v) = (M.set i v).map Value.double := by rw [List.map_set]
theorem own_next {n : Nat} (h : n < 2147483647) : n.toInt32 + 1 = (n + 1).toInt32 := by
  apply Int32.toInt_inj.mp
  have h1 := c_iadd n.toInt32 1
  rw [len_toInt (n := n) (by omega)] at h1
  rw [len_toInt (n := n + 1) (by omega)]
  have h2 := rng32 (n.toInt32 + 1)
  have e1 : (1 : Int32).toInt = 1 := rfl
  omega
theorem own_inj {m n : Nat} (hm : m < 2147483648) (hn : n < 2147483648) : m.toInt32 = n.toInt32 ↔ m = n := by
  rw [← Int32.toInt_inj, len_toInt (n := m) hm, len_toInt (n := n) hn]; omega
theorem own_ltI {m n : Nat} (hm : m < 2147483648) (hn : n < 2147483648) : m.toInt32 < n.toInt32 ↔ m < n := by
  rw [Int32.lt_iff_toInt_lt, len_toInt (n := m) hm, len_toInt (n := n) hn]; omega
end OwnArr

section OwnSB
theorem own_nf {s : State} {args : Array Value} {K : String} {y z u : MethodName} (h : (Cond.selects K u z).before args s = true) (hz : z.cls = y.cls) : NotFace s y := fun r0 h0 => by
  obtain ⟨c, r, m, h1, h2, h3, h4, k, h5, h6⟩ := Cond.selects_spec h
  have hc2 := findClass_of_methodNamed h3
  rw [hz] at hc2
  have e : m.cls = r0.cls := Option.some.inj (hc2.symm.trans (findClass_of_methodNamed h0))
  exact ⟨k, e ▸ h5, h6⟩
theorem own_same {s : State} {args : Array Value} {K : String} {y z u : MethodName} (hi : (Cond.instanceMethod y).before args s = true) (hne : y.cls ≠ "java/lang/invoke/MethodHandle" ∧ y.cls ≠ "java/lang/invoke/VarHandle") (h : (Cond.selects K u z).before args s = true) (hz : z.cls = y.cls) : (Cond.sameMethod y.cls y.cls y.name y.desc).before args s = true := by
  obtain ⟨c, r, m, h1, h2, h3, h4, k, h5, h6⟩ := Cond.selects_spec h
  obtain ⟨m', meth, g1, g2, g3, g4⟩ := Cond.instanceMethod_spec hi
  have hc := findClass_of_methodNamed g1
  have hc2 := findClass_of_methodNamed h3
  rw [hz] at hc2
  have e : m.cls = m'.cls := Option.some.inj (hc2.symm.trans hc)
  have hf := State.methodFound?_of_named g1 hne
  have g1' : s.methodNamed? ⟨y.cls, y.name, y.desc⟩ = some m' := g1
  rw [e] at h5
  show (Cond.sameMethod y.cls y.cls y.name y.desc).holds _ _ _ _ _ = true
  simp only [Cond.holds, Cond.value, hc, hf, g1', h5]
  simp [h6]
theorem own_selP {s : State} {args : Array Value} {K : String} {y : MethodName} (hp : s.PrivateAt y) (hi : (Cond.instanceMethod y).before args s = true) (hne : y.cls ≠ "java/lang/invoke/MethodHandle" ∧ y.cls ≠ "java/lang/invoke/VarHandle") (h : (Cond.selects K y y).before args s = true) : (Cond.selects y.cls y y).before args s = true := by
  obtain ⟨c, r, m, h1, h2, h3, h4, k, h5, h6⟩ := Cond.selects_spec h
  obtain ⟨m', meth, g1, g2, g3, g4⟩ := Cond.instanceMethod_spec hi
  cases h3.symm.trans g1
  have hc := findClass_of_methodNamed h3
  have hf := State.methodFound?_of_named h3 hne
  cases hf.symm.trans h2
  show (Cond.selects y.cls y y).holds _ _ _ _ _ = true
  simp only [Cond.holds, Cond.value, hc, h2, h3, selectMethod_private g2 (hp _ _ h3 g2), h5]
  simp [h6]
theorem own_shr0 (x : Int32) : x >>> ((0 : Int32) &&& 31) = x := by
  rw [show (0 : Int32) &&& 31 = 0 from by decide]; exact Int32.shiftRight_zero
theorem own_shl0 (x : Int32) : x <<< ((0 : Int32) &&& 31) = x := by
  rw [show (0 : Int32) &&& 31 = 0 from by decide]; exact Int32.shiftLeft_zero
theorem own_addN {m n : Nat} (h : m + n < 2147483648) : m.toInt32 + n.toInt32 = (m + n).toInt32 := by
  apply Int32.toInt_inj.mp
  have h1 := c_iadd m.toInt32 n.toInt32
  rw [len_toInt (n := m) (by omega), len_toInt (n := n) (by omega)] at h1
  rw [len_toInt (n := m + n) (by omega)]
  have h2 := rng32 (m.toInt32 + n.toInt32)
  omega
theorem own_nnN {i : Nat} (h : i < 2147483648) : ¬ i.toInt32 < 0 := by
  rw [Int32.lt_iff_toInt_lt, len_toInt (n := i) h]; have e0 : (0 : Int32).toInt = 0 := rfl; omega
theorem own_le16f : ∀ i : Fin 17, ¬ (0 : Int32) < Nat.toInt32 i.val - (16 : Int32) := by decide
theorem own_lt16f : ∀ i : Fin 16, ¬ (Nat.toInt32 i.val = (16 : Int32)) ∧ (Nat.toInt32 i.val < (16 : Int32)) ∧ ¬ (Nat.toInt32 i.val < (0 : Int32)) ∧ (Nat.toInt32 i.val - (0 : Int32) = Nat.toInt32 i.val) := by decide
theorem own_e0 : (0 : Int32).toNatClampNeg = 0 := rfl
theorem own_e16 : (16 : Int32).toNatClampNeg = 16 := rfl
theorem own_h4 {x : Nat} : (0 : Int32).toNatClampNeg + x ≤ x := by rw [own_e0]; omega
theorem own_h4' {N : Nat} (h : N ≤ 16) : (0 : Int32).toNatClampNeg + N.toInt32.toNatClampNeg ≤ (16 : Int32).toNatClampNeg := by rw [own_e0, own_e16, own_tn (by omega)]; omega
theorem own_h5 {c n : Nat} (h : c + n ≤ 16) : c.toInt32.toNatClampNeg + n.toInt32.toNatClampNeg ≤ (16 : Int32).toNatClampNeg := by rw [own_e16, own_tn (by omega), own_tn (by omega)]; omega
theorem own_hl {ys : List Int32} {c n : Nat} (hc : ys.length = c) (h : c + n ≤ 16) : c.toInt32.toNatClampNeg + n.toInt32.toNatClampNeg ≤ (ys.map Value.int ++ List.replicate n (Value.int 0)).length := by
  rw [own_tn (by omega), own_tn (by omega)]; simp only [List.length_append, List.length_map, List.length_replicate]; omega
theorem own_rng (bs : List Int32) : (List.range bs.length).map (fun i => (bs.map Value.int).getD (0 + i) (.int 0)) = bs.map Value.int := by
  apply List.ext_getElem
  · simp
  · intro i h1 h2
    simp only [List.length_map, List.length_range] at h1
    simp [h1]
theorem own_cat {ys bs : List Int32} {c n : Nat} (hc : ys.length = c) (hn : bs.length = n) (hcn : c + n ≤ 16) :
    (ys.map Value.int ++ List.replicate n (Value.int 0)).take c.toInt32.toNatClampNeg ++ (List.range n.toInt32.toNatClampNeg).map (fun i => (bs.map Value.int).getD ((0 : Int32).toNatClampNeg + i) (.int 0)) ++ (ys.map Value.int ++ List.replicate n (Value.int 0)).drop (c.toInt32.toNatClampNeg + n.toInt32.toNatClampNeg) = (ys ++ bs).map Value.int := by
  rw [own_tn (by omega), own_tn (by omega), own_e0]
  subst hc hn
  rw [own_rng, List.take_left' (by simp), List.drop_eq_nil_of_le (by simp), List.append_nil, List.map_append]
theorem own_inbS {c : Cell} {n i : Nat} (S : c.slots.size = n.toInt32.toNatClampNeg) (hi : i < n) (hn : n < 2147483648) : ¬ (i.toInt32 < 0 ∨ c.slots.size ≤ i.toInt32.toNatClampNeg) := own_inb S (own_tn hn) hi hn
theorem own_padN {Z : State} {h : Heap} {a : Addr} {k : ClassId} {z : Int32} {ys : List Int32} (n : Nat) (A : Arv Z h a k .byte z (ys.map Value.int) (.int (0 : Int32))) : Arv Z h a k .byte z (ys.map Value.int ++ List.replicate n (Value.int 0)) (.int (0 : Int32)) := A.pad (pad_rep _ _ n)
theorem own_null {ys : List Int32} {c : Nat} (hc : ys.length = c) : ((((ys ++ [0, 0, 0, 0]).set c ((110 : Int32).toInt8.toInt32)).set (c + 1) ((117 : Int32).toInt8.toInt32)).set (c + 1 + 1) ((108 : Int32).toInt8.toInt32)).set (c + 1 + 1 + 1) ((108 : Int32).toInt8.toInt32) = ys ++ [110, 117, 108, 108] := by
  subst hc
  apply List.ext_getElem?
  intro i
  simp only [List.getElem?_set, List.length_set, List.length_append, List.length_cons, List.length_nil]
  by_cases h0 : i < ys.length
  · rw [if_neg (by omega), if_neg (by omega), if_neg (by omega), if_neg (by omega), List.getElem?_append_left h0, List.getElem?_append_left h0]
  · rw [List.getElem?_append_right (by omega), List.getElem?_append_right (by omega)]
    rcases (by omega : i = ys.length ∨ i = ys.length + 1 ∨ i = ys.length + 2 ∨ i = ys.length + 3 ∨ ys.length + 4 ≤ i) with h | h | h | h | h
    · subst h; simp [show ¬ ys.length + 1 + 1 + 1 = ys.length from by omega, show ¬ ys.length + 1 + 1 = ys.length from by omega]
    · subst h; simp [show ¬ ys.length + 1 + 1 = ys.length from by omega]
    · subst h; simp
    · subst h; simp
    · rw [if_neg (by omega), if_neg (by omega), if_neg (by omega), if_neg (by omega), List.getElem?_eq_none (by simp; omega), List.getElem?_eq_none (by simp; omega)]
def own_ch (x : Int32) : Int32 := nar .char (nar .char ((x &&& (255 : Int32)).toUInt32.toUInt16.toUInt32.toInt32))
theorem own_la {xs ys : List Int32} {m n : Nat} (h : xs.length = m) (g : ys.length = n) : (xs ++ ys).length = m + n := by rw [List.length_append, h, g]
end OwnSB
theorem d11_0 : decode jdk_42_method_152_code 0 = .ok (.getstatic 38, 3) := by decide +kernel
theorem d11_3 : decode jdk_42_method_152_code 3 = .ok (.ifCond .eq 10, 3) := by decide +kernel
theorem d11_6 : decode jdk_42_method_152_code 6 = .ok (.aload_n 0, 1) := by decide +kernel
theorem d11_7 : decode jdk_42_method_152_code 7 = .ok (.getfield 15, 3) := by decide +kernel
theorem d11_10 : decode jdk_42_method_152_code 10 = .ok (.goto 4, 3) := by decide +kernel
theorem d11_14 : decode jdk_42_method_152_code 14 = .ok (.ireturn, 1) := by decide +kernel
def Q11 (Z : State) (a1 : Addr) (gC : Int32) (h0 : Heap) (n0 : Nat) (v : Option Value) (h : Heap) (L : List Loc) : Prop := v = some (.int 0) ∧ Fr n0 L ∧ h = h0
def room11 : Room := { frames := 0, cells := 0, slots := 0, locals := 0 }
set_option maxRecDepth 65536 in
set_option maxHeartbeats 40000000 in
theorem rm11 (l : Launch) (Z : State) (a0 : Array Value) (hw : ∀ d ∈ tables_1, d.before a0 Z = true) (ws : List Jvm.Cond) (a1 : Addr) (gC : Int32) (h0 : Heap) (n0 : Nat) (Z0 : n0 ≤ h0.size) (SC : Sta Z Z.heap "java/lang/String" "COMPACT_STRINGS" "Z" (.int gC)) (PC : ¬ (gC = (0 : Int32))) (O0 : Old Z n0 h0) (Fc : Fld Z h0 a1 "java/lang/String" "coder" "B" (.int (0 : Int32))) :
    MetFree l (⟨"java/lang/String", "coder", "()B"⟩ : MethodName) (head1 (Jvm.Cond.code (⟨"java/lang/String", "coder", "()B"⟩ : MethodName) jdk_42_method_152_code 1 (some .byte) :: ws) room11) (fun aa_ U_ => aa_ = #[(.ref a1)] ∧ Z.Warmed39 U_.vm ∧ U_.heap = h0) (fun _ _ _ _ _ => True) (fun _ U_ o_ W_ => ∃ v_ L_, o_ = .returned v_ ∧ (Q11 Z a1 gC h0 n0) v_ W_.heap L_ ∧ FrameEnd U_ o_ W_ L_ room11.cells room11.slots) := by
  refine own_met (Q := (Q11 Z a1 gC h0 n0)) (L0 := #[.val (.ref a1)]) (plainFor_of_name pn_0) (fun m => by first | (simp [entryFrame, mkF, argsToLocals, Value.category]; done) | rfl) ?_
  intro p e s m below meth c T0 X0 hx hby hml hown hnm hret hlk hZ e0
  have N0 := Fr.nil n0
  obtain ⟨T1, X1, e1, st1⟩ := getS2 X0 hx hZ hown (host := "") (Or.inl (hw _ (List.mem_of_getElem? (i := 71) rfl))) Via.refl e0 (SC.ext O0.2) (g := (mkF m 0 #[.val (.ref a1)] [])) rfl (hb hby d11_0)
  refine Go.st (T' := T1) (pc' := 3) (L' := #[.val (.ref a1)]) (S' := [(.int gC)]) st1 ?_
  refine Go.st (T' := T1) (pc' := 6) (L' := #[.val (.ref a1)]) (S' := []) (fun t_ k_ => XS.ifNo X1.here hx rfl (hb hby d11_3) rfl ((if0 _ _).trans (feq (PC : ¬ (gC = (0 : Int32)))).1) k_) ?_
  refine Go.st (T' := T1) (pc' := 7) (L' := #[.val (.ref a1)]) (S' := [(.ref a1)]) (fun t_ k_ => XS.aloadN X1.here hx rfl (hb hby d11_6) rfl rfl  k_) ?_
  obtain ⟨T2, X2, e2, st2⟩ := getF X1 hx hZ hown (host := "") (Or.inl (hw _ (List.mem_of_getElem? (i := 25) rfl))) Via.refl e1 Fc (g := (mkF m 7 #[.val (.ref a1)] [(.ref a1)])) rfl rfl (hb hby d11_7)
  refine Go.st (T' := T2) (pc' := 10) (L' := #[.val (.ref a1)]) (S' := [(.int (0 : Int32))]) st2 ?_
  refine Go.st (T' := T2) (pc' := 14) (L' := #[.val (.ref a1)]) (S' := [(.int (0 : Int32))]) (fun t_ k_ => XS.goto X2.here hx rfl (pc0 := 10) (pc' := 14) rfl (hb hby d11_10) (by decide) (by decide) k_) ?_
  exact Go.retN X2 hx hlk hret (by simp) (hb hby d11_14) (by decide) (by decide) (by rw [e2]; exact ⟨rfl, N0, rfl⟩)
theorem d36_0 : decode jdk_42_method_154_code 0 = .ok (.getstatic 38, 3) := by decide +kernel
theorem d36_3 : decode jdk_42_method_154_code 3 = .ok (.ifCond .eq 14, 3) := by decide +kernel
theorem d36_6 : decode jdk_42_method_154_code 6 = .ok (.aload_n 0, 1) := by decide +kernel
theorem d36_7 : decode jdk_42_method_154_code 7 = .ok (.getfield 15, 3) := by decide +kernel
theorem d36_10 : decode jdk_42_method_154_code 10 = .ok (.ifCond .ne 7, 3) := by decide +kernel
theorem d36_13 : decode jdk_42_method_154_code 13 = .ok (.iconst 1, 1) := by decide +kernel
theorem d36_14 : decode jdk_42_method_154_code 14 = .ok (.goto 4, 3) := by decide +kernel
theorem d36_18 : decode jdk_42_method_154_code 18 = .ok (.ireturn, 1) := by decide +kernel
def Q36 (Z : State) (a1 : Addr) (gC : Int32) (h0 : Heap) (n0 : Nat) (v : Option Value) (h : Heap) (L : List Loc) : Prop := v = some (.int 1) ∧ Fr n0 L ∧ h = h0
def room36 : Room := { frames := 0, cells := 0, slots := 0, locals := 0 }
set_option maxRecDepth 65536 in
set_option maxHeartbeats 40000000 in
theorem rm36 (l : Launch) (Z : State) (a0 : Array Value) (hw : ∀ d ∈ tables_1, d.before a0 Z = true) (ws : List Jvm.Cond) (a1 : Addr) (gC : Int32) (h0 : Heap) (n0 : Nat) (Z0 : n0 ≤ h0.size) (SC : Sta Z Z.heap "java/lang/String" "COMPACT_STRINGS" "Z" (.int gC)) (PC : ¬ (gC = (0 : Int32))) (O0 : Old Z n0 h0) (Fc : Fld Z h0 a1 "java/lang/String" "coder" "B" (.int (0 : Int32))) :
    MetFree l (⟨"java/lang/String", "isLatin1", "()Z"⟩ : MethodName) (head1 (Jvm.Cond.code (⟨"java/lang/String", "isLatin1", "()Z"⟩ : MethodName) jdk_42_method_154_code 1 (some .boolean) :: ws) room36) (fun aa_ U_ => aa_ = #[(.ref a1)] ∧ Z.Warmed39 U_.vm ∧ U_.heap = h0) (fun _ _ _ _ _ => True) (fun _ U_ o_ W_ => ∃ v_ L_, o_ = .returned v_ ∧ (Q36 Z a1 gC h0 n0) v_ W_.heap L_ ∧ FrameEnd U_ o_ W_ L_ room36.cells room36.slots) := by
  refine own_met (Q := (Q36 Z a1 gC h0 n0)) (L0 := #[.val (.ref a1)]) (plainFor_of_name pn_0) (fun m => by first | (simp [entryFrame, mkF, argsToLocals, Value.category]; done) | rfl) ?_
  intro p e s m below meth c T0 X0 hx hby hml hown hnm hret hlk hZ e0
  have N0 := Fr.nil n0
  obtain ⟨T1, X1, e1, st1⟩ := getS2 X0 hx hZ hown (host := "") (Or.inl (hw _ (List.mem_of_getElem? (i := 71) rfl))) Via.refl e0 (SC.ext O0.2) (g := (mkF m 0 #[.val (.ref a1)] [])) rfl (hb hby d36_0)
  refine Go.st (T' := T1) (pc' := 3) (L' := #[.val (.ref a1)]) (S' := [(.int gC)]) st1 ?_
  refine Go.st (T' := T1) (pc' := 6) (L' := #[.val (.ref a1)]) (S' := []) (fun t_ k_ => XS.ifNo X1.here hx rfl (hb hby d36_3) rfl ((if0 _ _).trans (feq (PC : ¬ (gC = (0 : Int32)))).1) k_) ?_
  refine Go.st (T' := T1) (pc' := 7) (L' := #[.val (.ref a1)]) (S' := [(.ref a1)]) (fun t_ k_ => XS.aloadN X1.here hx rfl (hb hby d36_6) rfl rfl  k_) ?_
  obtain ⟨T2, X2, e2, st2⟩ := getF X1 hx hZ hown (host := "") (Or.inl (hw _ (List.mem_of_getElem? (i := 25) rfl))) Via.refl e1 Fc (g := (mkF m 7 #[.val (.ref a1)] [(.ref a1)])) rfl rfl (hb hby d36_7)
  refine Go.st (T' := T2) (pc' := 10) (L' := #[.val (.ref a1)]) (S' := [(.int (0 : Int32))]) st2 ?_
  refine Go.st (T' := T2) (pc' := 13) (L' := #[.val (.ref a1)]) (S' := []) (fun t_ k_ => XS.ifNo X2.here hx rfl (hb hby d36_10) rfl ((if0 _ _).trans (teq (by decide : ((0 : Int32) = (0 : Int32)))).2) k_) ?_
  refine Go.st (T' := T2) (pc' := 14) (L' := #[.val (.ref a1)]) (S' := [(.int (1 : Int32))]) (fun t_ k_ => XS.iconst X2.here hx rfl (hb hby d36_13) k_) ?_
  refine Go.st (T' := T2) (pc' := 18) (L' := #[.val (.ref a1)]) (S' := [(.int (1 : Int32))]) (fun t_ k_ => XS.goto X2.here hx rfl (pc0 := 14) (pc' := 18) rfl (hb hby d36_14) (by decide) (by decide) k_) ?_
  exact Go.retN X2 hx hlk hret (by simp) (hb hby d36_18) (by decide) (by decide) (by rw [e2]; exact ⟨rfl, N0, rfl⟩)
theorem d10_0 : decode jdk_42_method_54_code 0 = .ok (.aload_n 0, 1) := by decide +kernel
theorem d10_1 : decode jdk_42_method_54_code 1 = .ok (.getfield 9, 3) := by decide +kernel
theorem d10_4 : decode jdk_42_method_54_code 4 = .ok (.arraylength, 1) := by decide +kernel
theorem d10_5 : decode jdk_42_method_54_code 5 = .ok (.aload_n 0, 1) := by decide +kernel
theorem d10_6 : decode jdk_42_method_54_code 6 = .ok (.invokevirtual 335, 3) := by decide +kernel
theorem d10_9 : decode jdk_42_method_54_code 9 = .ok (.ishr, 1) := by decide +kernel
theorem d10_10 : decode jdk_42_method_54_code 10 = .ok (.ireturn, 1) := by decide +kernel
theorem pd_1 : parseMethodDescriptor "()B" = some ⟨[], some .byte⟩ := by decide +kernel
def Q10 (Z : State) (a1 : Addr) (t1 : Addr) (k1 : ClassId) (gC : Int32) (z1 : Int32) (bs : List Int32) (h0 : Heap) (n0 : Nat) (v : Option Value) (h : Heap) (L : List Loc) : Prop := v = some (.int z1) ∧ Fr n0 L ∧ h = h0
def room10 : Room := { frames := 1, cells := 0, slots := 0, locals := 13 }
set_option maxRecDepth 65536 in
set_option maxHeartbeats 40000000 in
theorem rm10 (l : Launch) (Z : State) (a0 : Array Value) (hw : ∀ d ∈ tables_1, d.before a0 Z = true) (ws : List Jvm.Cond) (a1 : Addr) (t1 : Addr) (k1 : ClassId) (gC : Int32) (z1 : Int32) (bs : List Int32) (h0 : Heap) (n0 : Nat) (Z0 : n0 ≤ h0.size) (SC : Sta Z Z.heap "java/lang/String" "COMPACT_STRINGS" "Z" (.int gC)) (PC : ¬ (gC = (0 : Int32))) (O0 : Old Z n0 h0) (E_a1 : Exa Z h0 a1 "java/lang/String") (Fc_a1 : Fld Z h0 a1 "java/lang/String" "coder" "B" (.int (0 : Int32))) (Fv_a1 : Fld Z h0 a1 "java/lang/String" "value" "[B" (.ref t1)) (V_t1 : Arv Z h0 t1 k1 .byte z1 (bs.map Value.int) (.int (0 : Int32))) :
    MetFree l (⟨"java/lang/String", "length", "()I"⟩ : MethodName) (head1 (Jvm.Cond.code (⟨"java/lang/String", "length", "()I"⟩ : MethodName) jdk_42_method_54_code 1 (some .int) :: ws) room10) (fun aa_ U_ => aa_ = #[(.ref a1)] ∧ Z.Warmed39 U_.vm ∧ U_.heap = h0) (fun _ _ _ _ _ => True) (fun _ U_ o_ W_ => ∃ v_ L_, o_ = .returned v_ ∧ (Q10 Z a1 t1 k1 gC z1 bs h0 n0) v_ W_.heap L_ ∧ FrameEnd U_ o_ W_ L_ room10.cells room10.slots) := by
  refine own_met (Q := (Q10 Z a1 t1 k1 gC z1 bs h0 n0)) (L0 := #[.val (.ref a1)]) (plainFor_of_name pn_0) (fun m => by first | (simp [entryFrame, mkF, argsToLocals, Value.category]; done) | rfl) ?_
  intro p e s m below meth c T0 X0 hx hby hml hown hnm hret hlk hZ e0
  have N0 := Fr.nil n0
  refine Go.st (T' := T0) (pc' := 1) (L' := #[.val (.ref a1)]) (S' := [(.ref a1)]) (fun t_ k_ => XS.aloadN X0.here hx rfl (hb hby d10_0) rfl rfl  k_) ?_
  obtain ⟨T1, X1, e1, st1⟩ := getF X0 hx hZ hown (host := "") (Or.inl (hw _ (List.mem_of_getElem? (i := 24) rfl))) Via.refl e0 Fv_a1 (g := (mkF m 1 #[.val (.ref a1)] [(.ref a1)])) rfl rfl (hb hby d10_1)
  refine Go.st (T' := T1) (pc' := 4) (L' := #[.val (.ref a1)]) (S' := [(.ref t1)]) st1 ?_
  obtain ⟨cl2, Ar2, -, q2a, q2b, -, -⟩ := id V_t1
  refine Go.st (T' := T1) (pc' := 5) (L' := #[.val (.ref a1)]) (S' := [(.int z1)]) (fun t_ k_ => own_len X1 hx hZ e1 Ar2 q2a q2b (g := (mkF m 4 #[.val (.ref a1)] [(.ref t1)])) rfl rfl (hb hby d10_4) t_ k_) ?_
  refine Go.st (T' := T1) (pc' := 6) (L' := #[.val (.ref a1)]) (S' := [(.ref a1), (.int z1)]) (fun t_ k_ => XS.aloadN X1.here hx rfl (hb hby d10_5) rfl rfl  k_) ?_
  obtain ⟨cq3, kq3, q3a, q3b, q3c⟩ := isOf hZ e1 E_a1
  obtain ⟨_, _, ⟨T3, L3, k3, n3⟩, -, X3, ⟨Lc3, hQ3, l3, y3, z3⟩, st3⟩ := X1.virtualBack hx (y := (⟨"java/lang/String", "coder", "()B"⟩ : MethodName)) (z := (⟨"java/lang/String", "coder", "()B"⟩ : MethodName)) hown (mvT hZ (hw _ (List.mem_of_getElem? (i := 66) rfl))) (mvT hZ (hw _ (List.mem_of_getElem? (i := 67) rfl))) (notFace_of_selects (args := #[]) (mvT hZ (hw _ (List.mem_of_getElem? (i := 69) rfl)))) (mvT hZ (hw _ (List.mem_of_getElem? (i := 69) rfl))) (mvT hZ (hw _ (List.mem_of_getElem? (i := 68) rfl))) (by decide) (backOf (W := 1) (rm11 l Z a0 hw [] a1 gC h0 n0 Z0 SC PC O0 Fc_a1) hZ (hw _ (List.mem_of_getElem? (i := 70) rfl)) (hw _ (List.mem_of_getElem? (i := 6) rfl)) (by decide) (by decide)) q3a q3c (g := (mkF m 6 #[.val (.ref a1)] [(.ref a1), (.int z1)])) rfl (by rw [hml]; rfl) (Steps.refl _) (argsL := []) (rest := [(.int z1)]) (lenOf pd_1 rfl) rfl (by show 2 * 0 + _ ≤ _; exact Nat.le_of_eq rfl) (hb hby d10_6) (fun _ _ => ⟨rfl, e1, (by decide : 0 + 0 ≤ _), (by decide : 0 + 0 ≤ _)⟩)
  dsimp only [Pt.U, Pt.locs, Pt.cells, Pt.slots] at X3 l3 y3 z3 st3 hQ3
  subst l3 y3 z3
  obtain ⟨rfl, N3q, e3⟩ := hQ3
  have N3 := Fr.app N0 N3q
  refine Go.tr (T' := T3) (pc' := 9) (L' := #[.val (.ref a1)]) (S' := [(.int (0 : Int32)), (.int z1)]) st3 ?_
  refine Go.st (T' := T3) (pc' := 10) (L' := #[.val (.ref a1)]) (S' := [(.int (z1 >>> ((0 : Int32) &&& 31)))]) (fun t_ k_ => XS.ishr X3.here hx rfl (hb hby d10_9) rfl k_) ?_
  rw [own_shr0]
  exact Go.retO X3 hx hlk hret rfl (by simp [FieldType.isReference, Value.isRef]) (hb hby d10_10) (by decide) (by decide) (by rw [e3]; exact ⟨rfl, N3, rfl⟩)
theorem d12_0 : decode jdk_68_method_9_code 0 = .ok (.aload_n 0, 1) := by decide +kernel
theorem d12_1 : decode jdk_68_method_9_code 1 = .ok (.getfield 15, 3) := by decide +kernel
theorem d12_4 : decode jdk_68_method_9_code 4 = .ok (.arraylength, 1) := by decide +kernel
theorem d12_5 : decode jdk_68_method_9_code 5 = .ok (.aload_n 0, 1) := by decide +kernel
theorem d12_6 : decode jdk_68_method_9_code 6 = .ok (.getfield 22, 3) := by decide +kernel
theorem d12_9 : decode jdk_68_method_9_code 9 = .ok (.ishr, 1) := by decide +kernel
theorem d12_10 : decode jdk_68_method_9_code 10 = .ok (.istore_n 2, 1) := by decide +kernel
theorem d12_11 : decode jdk_68_method_9_code 11 = .ok (.iload_n 1, 1) := by decide +kernel
theorem d12_12 : decode jdk_68_method_9_code 12 = .ok (.iload_n 2, 1) := by decide +kernel
theorem d12_13 : decode jdk_68_method_9_code 13 = .ok (.isub, 1) := by decide +kernel
theorem d12_14 : decode jdk_68_method_9_code 14 = .ok (.ifCond .le 24, 3) := by decide +kernel
theorem d12_38 : decode jdk_68_method_9_code 38 = .ok (.return_, 1) := by decide +kernel
theorem pn_1 : plainName "java/lang/AbstractStringBuilder" = true := by first | (simp [plainName, overriddenIn]; done) | decide +kernel
def Q12 (Z : State) (a1 : Addr) (b : Addr) (kb : ClassId) (ys : List Int32) (cn : Nat) (h0 : Heap) (n0 : Nat) (v : Option Value) (h : Heap) (L : List Loc) : Prop := v = none ∧ Fr n0 L ∧ h = h0
def room12 : Room := { frames := 0, cells := 0, slots := 0, locals := 0 }
set_option maxRecDepth 65536 in
set_option maxHeartbeats 40000000 in
theorem rm12 (l : Launch) (Z : State) (a0 : Array Value) (hw : ∀ d ∈ tables_1, d.before a0 Z = true) (ws : List Jvm.Cond) (a1 : Addr) (b : Addr) (kb : ClassId) (ys : List Int32) (cn : Nat) (h0 : Heap) (n0 : Nat) (Z0 : n0 ≤ h0.size) (F_value : Fld Z h0 a1 "java/lang/AbstractStringBuilder" "value" "[B" (.ref b)) (F_coder : Fld Z h0 a1 "java/lang/AbstractStringBuilder" "coder" "B" (.int (0 : Int32))) (V_b : Arv Z h0 b kb .byte (16 : Int32) (ys.map Value.int) (.int (0 : Int32))) (hc : cn ≤ 16) :
    MetFree l (⟨"java/lang/AbstractStringBuilder", "ensureCapacityInternal", "(I)V"⟩ : MethodName) (head1 (Jvm.Cond.code (⟨"java/lang/AbstractStringBuilder", "ensureCapacityInternal", "(I)V"⟩ : MethodName) jdk_68_method_9_code 3 none :: ws) room12) (fun aa_ U_ => aa_ = #[(.ref a1), (.int (cn.toInt32))] ∧ Z.Warmed39 U_.vm ∧ U_.heap = h0) (fun _ _ _ _ _ => True) (fun _ U_ o_ W_ => ∃ v_ L_, o_ = .returned v_ ∧ (Q12 Z a1 b kb ys cn h0 n0) v_ W_.heap L_ ∧ FrameEnd U_ o_ W_ L_ room12.cells room12.slots) := by
  refine own_met (Q := (Q12 Z a1 b kb ys cn h0 n0)) (L0 := #[.val (.ref a1), .val (.int (cn.toInt32)), .unset]) (plainFor_of_name pn_1) (fun m => by first | (simp [entryFrame, mkF, argsToLocals, Value.category]; done) | rfl) ?_
  intro p e s m below meth c T0 X0 hx hby hml hown hnm hret hlk hZ e0
  have N0 := Fr.nil n0
  refine Go.st (T' := T0) (pc' := 1) (L' := #[.val (.ref a1), .val (.int (cn.toInt32)), .unset]) (S' := [(.ref a1)]) (fun t_ k_ => XS.aloadN X0.here hx rfl (hb hby d12_0) rfl rfl  k_) ?_
  obtain ⟨T1, X1, e1, st1⟩ := getF X0 hx hZ hown (host := "") (Or.inl (hw _ (List.mem_of_getElem? (i := 46) rfl))) Via.refl e0 F_value (g := (mkF m 1 #[.val (.ref a1), .val (.int (cn.toInt32)), .unset] [(.ref a1)])) rfl rfl (hb hby d12_1)
  refine Go.st (T' := T1) (pc' := 4) (L' := #[.val (.ref a1), .val (.int (cn.toInt32)), .unset]) (S' := [(.ref b)]) st1 ?_
  obtain ⟨cl2, Ar2, -, q2a, q2b, -, -⟩ := id V_b
  refine Go.st (T' := T1) (pc' := 5) (L' := #[.val (.ref a1), .val (.int (cn.toInt32)), .unset]) (S' := [(.int (16 : Int32))]) (fun t_ k_ => own_len X1 hx hZ e1 Ar2 q2a q2b (g := (mkF m 4 #[.val (.ref a1), .val (.int (cn.toInt32)), .unset] [(.ref b)])) rfl rfl (hb hby d12_4) t_ k_) ?_
  refine Go.st (T' := T1) (pc' := 6) (L' := #[.val (.ref a1), .val (.int (cn.toInt32)), .unset]) (S' := [(.ref a1), (.int (16 : Int32))]) (fun t_ k_ => XS.aloadN X1.here hx rfl (hb hby d12_5) rfl rfl  k_) ?_
  obtain ⟨T3, X3, e3, st3⟩ := getF X1 hx hZ hown (host := "") (Or.inl (hw _ (List.mem_of_getElem? (i := 48) rfl))) Via.refl e1 F_coder (g := (mkF m 6 #[.val (.ref a1), .val (.int (cn.toInt32)), .unset] [(.ref a1), (.int (16 : Int32))])) rfl rfl (hb hby d12_6)
  refine Go.st (T' := T3) (pc' := 9) (L' := #[.val (.ref a1), .val (.int (cn.toInt32)), .unset]) (S' := [(.int (0 : Int32)), (.int (16 : Int32))]) st3 ?_
  refine Go.st (T' := T3) (pc' := 10) (L' := #[.val (.ref a1), .val (.int (cn.toInt32)), .unset]) (S' := [(.int ((16 : Int32) >>> ((0 : Int32) &&& 31)))]) (fun t_ k_ => XS.ishr X3.here hx rfl (hb hby d12_9) rfl k_) ?_
  rw [show ((16 : Int32) >>> ((0 : Int32) &&& 31)) = (16 : Int32) from by decide]
  refine Go.st (T' := T3) (pc' := 11) (L' := #[.val (.ref a1), .val (.int (cn.toInt32)), .val (.int (16 : Int32))]) (S' := []) (fun t_ k_ => XS.istoreN X3.here hx rfl (hb hby d12_10) rfl (l' := #[.val (.ref a1), .val (.int (cn.toInt32)), .val (.int (16 : Int32))]) rfl k_) ?_
  refine Go.st (T' := T3) (pc' := 12) (L' := #[.val (.ref a1), .val (.int (cn.toInt32)), .val (.int (16 : Int32))]) (S' := [(.int (cn.toInt32))]) (fun t_ k_ => XS.iloadN X3.here hx rfl (hb hby d12_11) rfl  k_) ?_
  refine Go.st (T' := T3) (pc' := 13) (L' := #[.val (.ref a1), .val (.int (cn.toInt32)), .val (.int (16 : Int32))]) (S' := [(.int (16 : Int32)), (.int (cn.toInt32))]) (fun t_ k_ => XS.iloadN X3.here hx rfl (hb hby d12_12) rfl  k_) ?_
  refine Go.st (T' := T3) (pc' := 14) (L' := #[.val (.ref a1), .val (.int (cn.toInt32)), .val (.int (16 : Int32))]) (S' := [(.int ((cn.toInt32) - (16 : Int32)))]) (fun t_ k_ => XS.isub X3.here hx rfl (hb hby d12_13) rfl k_) ?_
  refine Go.st (T' := T3) (pc' := 38) (L' := #[.val (.ref a1), .val (.int (cn.toInt32)), .val (.int (16 : Int32))]) (S' := []) (fun t_ k_ => XS.ifYes X3.here hx rfl (pc0 := 14) (pc' := 38) rfl (hb hby d12_14) rfl ((if0 _ _).trans (flt (own_le16f ⟨cn, by omega⟩ : ¬ ((0 : Int32) < ((cn.toInt32) - (16 : Int32))))).2.2.2) (by decide) (by decide) k_) ?_
  exact Go.retV X3 hx hlk hret (hb hby d12_38) (by decide) (by decide) (by rw [e3]; exact ⟨rfl, N0, rfl⟩)
theorem d14_0 : decode jdk_68_method_71_code 0 = .ok (.getstatic 18, 3) := by decide +kernel
theorem d14_3 : decode jdk_68_method_71_code 3 = .ok (.ifCond .eq 18, 3) := by decide +kernel
theorem d14_6 : decode jdk_68_method_71_code 6 = .ok (.aload_n 0, 1) := by decide +kernel
theorem d14_7 : decode jdk_68_method_71_code 7 = .ok (.getfield 22, 3) := by decide +kernel
theorem d14_10 : decode jdk_68_method_71_code 10 = .ok (.aload_n 1, 1) := by decide +kernel
theorem d14_11 : decode jdk_68_method_71_code 11 = .ok (.invokevirtual 40, 3) := by decide +kernel
theorem d14_14 : decode jdk_68_method_71_code 14 = .ok (.if_icmp .eq 7, 3) := by decide +kernel
theorem d14_21 : decode jdk_68_method_71_code 21 = .ok (.return_, 1) := by decide +kernel
def Q14 (Z : State) (a1 : Addr) (a2 : Addr) (gC : Int32) (h0 : Heap) (n0 : Nat) (v : Option Value) (h : Heap) (L : List Loc) : Prop := v = none ∧ Fr n0 L ∧ h = h0
def room14 : Room := { frames := 1, cells := 0, slots := 0, locals := 13 }
set_option maxRecDepth 65536 in
set_option maxHeartbeats 40000000 in
theorem rm14 (l : Launch) (Z : State) (a0 : Array Value) (hw : ∀ d ∈ tables_1, d.before a0 Z = true) (ws : List Jvm.Cond) (a1 : Addr) (a2 : Addr) (gC : Int32) (h0 : Heap) (n0 : Nat) (Z0 : n0 ≤ h0.size) (SC : Sta Z Z.heap "java/lang/String" "COMPACT_STRINGS" "Z" (.int gC)) (PC : ¬ (gC = (0 : Int32))) (O0 : Old Z n0 h0) (F_coder : Fld Z h0 a1 "java/lang/AbstractStringBuilder" "coder" "B" (.int (0 : Int32))) (E2 : Exa Z h0 a2 "java/lang/String") (Fc : Fld Z h0 a2 "java/lang/String" "coder" "B" (.int (0 : Int32))) :
    MetFree l (⟨"java/lang/AbstractStringBuilder", "inflateIfNeededFor", "(Ljava/lang/String;)V"⟩ : MethodName) (head1 (Jvm.Cond.code (⟨"java/lang/AbstractStringBuilder", "inflateIfNeededFor", "(Ljava/lang/String;)V"⟩ : MethodName) jdk_68_method_71_code 2 none :: ws) room14) (fun aa_ U_ => aa_ = #[(.ref a1), (.ref a2)] ∧ Z.Warmed39 U_.vm ∧ U_.heap = h0) (fun _ _ _ _ _ => True) (fun _ U_ o_ W_ => ∃ v_ L_, o_ = .returned v_ ∧ (Q14 Z a1 a2 gC h0 n0) v_ W_.heap L_ ∧ FrameEnd U_ o_ W_ L_ room14.cells room14.slots) := by
  refine own_met (Q := (Q14 Z a1 a2 gC h0 n0)) (L0 := #[.val (.ref a1), .val (.ref a2)]) (plainFor_of_name pn_1) (fun m => by first | (simp [entryFrame, mkF, argsToLocals, Value.category]; done) | rfl) ?_
  intro p e s m below meth c T0 X0 hx hby hml hown hnm hret hlk hZ e0
  have N0 := Fr.nil n0
  obtain ⟨T1, X1, e1, st1⟩ := getS2 X0 hx hZ hown (host := "") (Or.inl (hw _ (List.mem_of_getElem? (i := 45) rfl))) Via.refl e0 (SC.ext O0.2) (g := (mkF m 0 #[.val (.ref a1), .val (.ref a2)] [])) rfl (hb hby d14_0)
  refine Go.st (T' := T1) (pc' := 3) (L' := #[.val (.ref a1), .val (.ref a2)]) (S' := [(.int gC)]) st1 ?_
  refine Go.st (T' := T1) (pc' := 6) (L' := #[.val (.ref a1), .val (.ref a2)]) (S' := []) (fun t_ k_ => XS.ifNo X1.here hx rfl (hb hby d14_3) rfl ((if0 _ _).trans (feq (PC : ¬ (gC = (0 : Int32)))).1) k_) ?_
  refine Go.st (T' := T1) (pc' := 7) (L' := #[.val (.ref a1), .val (.ref a2)]) (S' := [(.ref a1)]) (fun t_ k_ => XS.aloadN X1.here hx rfl (hb hby d14_6) rfl rfl  k_) ?_
  obtain ⟨T2, X2, e2, st2⟩ := getF X1 hx hZ hown (host := "") (Or.inl (hw _ (List.mem_of_getElem? (i := 48) rfl))) Via.refl e1 F_coder (g := (mkF m 7 #[.val (.ref a1), .val (.ref a2)] [(.ref a1)])) rfl rfl (hb hby d14_7)
  refine Go.st (T' := T2) (pc' := 10) (L' := #[.val (.ref a1), .val (.ref a2)]) (S' := [(.int (0 : Int32))]) st2 ?_
  refine Go.st (T' := T2) (pc' := 11) (L' := #[.val (.ref a1), .val (.ref a2)]) (S' := [(.ref a2), (.int (0 : Int32))]) (fun t_ k_ => XS.aloadN X2.here hx rfl (hb hby d14_10) rfl rfl  k_) ?_
  obtain ⟨cq3, kq3, q3a, q3b, q3c⟩ := isOf hZ e2 E2
  obtain ⟨_, _, ⟨T3, L3, k3, n3⟩, -, X3, ⟨Lc3, hQ3, l3, y3, z3⟩, st3⟩ := X2.virtualBack hx (y := (⟨"java/lang/String", "coder", "()B"⟩ : MethodName)) (z := (⟨"java/lang/String", "coder", "()B"⟩ : MethodName)) hown (mvT hZ (hw _ (List.mem_of_getElem? (i := 89) rfl))) (mvT hZ (hw _ (List.mem_of_getElem? (i := 67) rfl))) (notFace_of_selects (args := #[]) (mvT hZ (hw _ (List.mem_of_getElem? (i := 69) rfl)))) (mvT hZ (hw _ (List.mem_of_getElem? (i := 69) rfl))) (mvT hZ (hw _ (List.mem_of_getElem? (i := 68) rfl))) (by decide) (backOf (W := 1) (rm11 l Z a0 hw [] a2 gC h0 n0 Z0 SC PC O0 Fc) hZ (hw _ (List.mem_of_getElem? (i := 70) rfl)) (hw _ (List.mem_of_getElem? (i := 6) rfl)) (by decide) (by decide)) q3a q3c (g := (mkF m 11 #[.val (.ref a1), .val (.ref a2)] [(.ref a2), (.int (0 : Int32))])) rfl (by rw [hml]; rfl) (Steps.refl _) (argsL := []) (rest := [(.int (0 : Int32))]) (lenOf pd_1 rfl) rfl (by show 2 * 0 + _ ≤ _; exact Nat.le_of_eq rfl) (hb hby d14_11) (fun _ _ => ⟨rfl, e2, (by decide : 0 + 0 ≤ _), (by decide : 0 + 0 ≤ _)⟩)
  dsimp only [Pt.U, Pt.locs, Pt.cells, Pt.slots] at X3 l3 y3 z3 st3 hQ3
  subst l3 y3 z3
  obtain ⟨rfl, N3q, e3⟩ := hQ3
  have N3 := Fr.app N0 N3q
  refine Go.tr (T' := T3) (pc' := 14) (L' := #[.val (.ref a1), .val (.ref a2)]) (S' := [(.int (0 : Int32)), (.int (0 : Int32))]) st3 ?_
  refine Go.st (T' := T3) (pc' := 21) (L' := #[.val (.ref a1), .val (.ref a2)]) (S' := []) (fun t_ k_ => XS.icmpYes X3.here hx rfl (pc0 := 14) (pc' := 21) rfl (hb hby d14_14) rfl (teq (by decide : ((0 : Int32) = (0 : Int32)))).1 (by decide) (by decide) k_) ?_
  exact Go.retV X3 hx hlk hret (hb hby d14_21) (by decide) (by decide) (by rw [e3]; exact ⟨rfl, N3, rfl⟩)
theorem d15_0 : decode jdk_42_method_147_code 0 = .ok (.aload_n 0, 1) := by decide +kernel
theorem d15_1 : decode jdk_42_method_147_code 1 = .ok (.invokevirtual 335, 3) := by decide +kernel
theorem d15_4 : decode jdk_42_method_147_code 4 = .ok (.iload_n 3, 1) := by decide +kernel
theorem d15_5 : decode jdk_42_method_147_code 5 = .ok (.if_icmp .ne 23, 3) := by decide +kernel
theorem d15_8 : decode jdk_42_method_147_code 8 = .ok (.aload_n 0, 1) := by decide +kernel
theorem d15_9 : decode jdk_42_method_147_code 9 = .ok (.getfield 9, 3) := by decide +kernel
theorem d15_12 : decode jdk_42_method_147_code 12 = .ok (.iconst 0, 1) := by decide +kernel
theorem d15_13 : decode jdk_42_method_147_code 13 = .ok (.aload_n 1, 1) := by decide +kernel
theorem d15_14 : decode jdk_42_method_147_code 14 = .ok (.iload_n 2, 1) := by decide +kernel
theorem d15_15 : decode jdk_42_method_147_code 15 = .ok (.iload_n 3, 1) := by decide +kernel
theorem d15_16 : decode jdk_42_method_147_code 16 = .ok (.ishl, 1) := by decide +kernel
theorem d15_17 : decode jdk_42_method_147_code 17 = .ok (.aload_n 0, 1) := by decide +kernel
theorem d15_18 : decode jdk_42_method_147_code 18 = .ok (.getfield 9, 3) := by decide +kernel
theorem d15_21 : decode jdk_42_method_147_code 21 = .ok (.arraylength, 1) := by decide +kernel
theorem d15_22 : decode jdk_42_method_147_code 22 = .ok (.invokestatic 212, 3) := by decide +kernel
theorem d15_25 : decode jdk_42_method_147_code 25 = .ok (.goto 18, 3) := by decide +kernel
theorem d15_43 : decode jdk_42_method_147_code 43 = .ok (.return_, 1) := by decide +kernel
def Q15 (Z : State) (b : Addr) (kb : ClassId) (ys : List Int32) (bs : List Int32) (h0 : Heap) (n0 : Nat) (v : Option Value) (h : Heap) (L : List Loc) : Prop := v = none ∧ Fr n0 L ∧ Keep h0 h [b] ∧ Arv Z h b kb .byte (16 : Int32) ((ys ++ bs).map Value.int) (.int (0 : Int32))
def room15 : Room := { frames := 1, cells := 0, slots := 0, locals := 40 }
set_option maxRecDepth 65536 in
set_option maxHeartbeats 40000000 in
theorem rm15 (l : Launch) (Z : State) (a0 : Array Value) (hw : ∀ d ∈ tables_1, d.before a0 Z = true) (ws : List Jvm.Cond) (a1 : Addr) (t1 : Addr) (k1 : ClassId) (b : Addr) (kb : ClassId) (ys : List Int32) (bs : List Int32) (cn : Nat) (k : Nat) (gC : Int32) (h0 : Heap) (n0 : Nat) (Z0 : n0 ≤ h0.size) (SC : Sta Z Z.heap "java/lang/String" "COMPACT_STRINGS" "Z" (.int gC)) (PC : ¬ (gC = (0 : Int32))) (O0 : Old Z n0 h0) (E_a1 : Exa Z h0 a1 "java/lang/String") (Fc_a1 : Fld Z h0 a1 "java/lang/String" "coder" "B" (.int (0 : Int32))) (Fv_a1 : Fld Z h0 a1 "java/lang/String" "value" "[B" (.ref t1)) (V_t1 : Arv Z h0 t1 k1 .byte (k.toInt32) (bs.map Value.int) (.int (0 : Int32))) (V_b : Arv Z h0 b kb .byte (16 : Int32) (ys.map Value.int) (.int (0 : Int32))) (g_b : n0 ≤ b) (n1 : a1 ≠ b) (n2 : t1 ≠ b) (hy : ys.length = cn) (hbl : bs.length = k) (hck : cn + k ≤ 16) :
    MetFree l (⟨"java/lang/String", "getBytes", "([BIB)V"⟩ : MethodName) (head1 (Jvm.Cond.code (⟨"java/lang/String", "getBytes", "([BIB)V"⟩ : MethodName) jdk_42_method_147_code 4 none :: ws) room15) (fun aa_ U_ => aa_ = #[(.ref a1), (.ref b), (.int (cn.toInt32)), (.int (0 : Int32))] ∧ Z.Warmed39 U_.vm ∧ U_.heap = h0) (fun _ _ _ _ _ => True) (fun _ U_ o_ W_ => ∃ v_ L_, o_ = .returned v_ ∧ (Q15 Z b kb ys bs h0 n0) v_ W_.heap L_ ∧ FrameEnd U_ o_ W_ L_ room15.cells room15.slots) := by
  refine own_met (Q := (Q15 Z b kb ys bs h0 n0)) (L0 := #[.val (.ref a1), .val (.ref b), .val (.int (cn.toInt32)), .val (.int (0 : Int32))]) (plainFor_of_name pn_0) (fun m => by first | (simp [entryFrame, mkF, argsToLocals, Value.category]; done) | rfl) ?_
  intro p e s m below meth c T0 X0 hx hby hml hown hnm hret hlk hZ e0
  have N0 := Fr.nil n0
  have K0 := Keep.refl h0 [b]
  refine Go.st (T' := T0) (pc' := 1) (L' := #[.val (.ref a1), .val (.ref b), .val (.int (cn.toInt32)), .val (.int (0 : Int32))]) (S' := [(.ref a1)]) (fun t_ k_ => XS.aloadN X0.here hx rfl (hb hby d15_0) rfl rfl  k_) ?_
  obtain ⟨cq1, kq1, q1a, q1b, q1c⟩ := isOf hZ e0 E_a1
  obtain ⟨_, _, ⟨T1, L1, k1, n1⟩, -, X1, ⟨Lc1, hQ1, l1, y1, z1⟩, st1⟩ := X0.virtualBack hx (y := (⟨"java/lang/String", "coder", "()B"⟩ : MethodName)) (z := (⟨"java/lang/String", "coder", "()B"⟩ : MethodName)) hown (mvT hZ (hw _ (List.mem_of_getElem? (i := 66) rfl))) (mvT hZ (hw _ (List.mem_of_getElem? (i := 67) rfl))) (notFace_of_selects (args := #[]) (mvT hZ (hw _ (List.mem_of_getElem? (i := 69) rfl)))) (mvT hZ (hw _ (List.mem_of_getElem? (i := 69) rfl))) (mvT hZ (hw _ (List.mem_of_getElem? (i := 68) rfl))) (by decide) (backOf (W := 0) (rm11 l Z a0 hw [] a1 gC h0 n0 Z0 SC PC O0 Fc_a1) hZ (hw _ (List.mem_of_getElem? (i := 70) rfl)) (hw _ (List.mem_of_getElem? (i := 6) rfl)) (by decide) (by decide)) q1a q1c (g := (mkF m 1 #[.val (.ref a1), .val (.ref b), .val (.int (cn.toInt32)), .val (.int (0 : Int32))] [(.ref a1)])) rfl (by rw [hml]; rfl) (Steps.refl _) (argsL := []) (rest := []) (lenOf pd_1 rfl) rfl (by show 2 * 0 + _ ≤ _; exact Nat.le_of_eq rfl) (hb hby d15_1) (fun _ _ => ⟨rfl, e0, (by decide : 0 + 0 ≤ _), (by decide : 0 + 0 ≤ _)⟩)
  dsimp only [Pt.U, Pt.locs, Pt.cells, Pt.slots] at X1 l1 y1 z1 st1 hQ1
  subst l1 y1 z1
  obtain ⟨rfl, N1q, e1⟩ := hQ1
  have N1 := Fr.app N0 N1q
  refine Go.tr (T' := T1) (pc' := 4) (L' := #[.val (.ref a1), .val (.ref b), .val (.int (cn.toInt32)), .val (.int (0 : Int32))]) (S' := [(.int (0 : Int32))]) st1 ?_
  refine Go.st (T' := T1) (pc' := 5) (L' := #[.val (.ref a1), .val (.ref b), .val (.int (cn.toInt32)), .val (.int (0 : Int32))]) (S' := [(.int (0 : Int32)), (.int (0 : Int32))]) (fun t_ k_ => XS.iloadN X1.here hx rfl (hb hby d15_4) rfl  k_) ?_
  refine Go.st (T' := T1) (pc' := 8) (L' := #[.val (.ref a1), .val (.ref b), .val (.int (cn.toInt32)), .val (.int (0 : Int32))]) (S' := []) (fun t_ k_ => XS.icmpNo X1.here hx rfl (hb hby d15_5) rfl (teq (by decide : ((0 : Int32) = (0 : Int32)))).2 k_) ?_
  refine Go.st (T' := T1) (pc' := 9) (L' := #[.val (.ref a1), .val (.ref b), .val (.int (cn.toInt32)), .val (.int (0 : Int32))]) (S' := [(.ref a1)]) (fun t_ k_ => XS.aloadN X1.here hx rfl (hb hby d15_8) rfl rfl  k_) ?_
  obtain ⟨T2, X2, e2, st2⟩ := getF X1 hx hZ hown (host := "") (Or.inl (hw _ (List.mem_of_getElem? (i := 24) rfl))) Via.refl e1 Fv_a1 (g := (mkF m 9 #[.val (.ref a1), .val (.ref b), .val (.int (cn.toInt32)), .val (.int (0 : Int32))] [(.ref a1)])) rfl rfl (hb hby d15_9)
  refine Go.st (T' := T2) (pc' := 12) (L' := #[.val (.ref a1), .val (.ref b), .val (.int (cn.toInt32)), .val (.int (0 : Int32))]) (S' := [(.ref t1)]) st2 ?_
  refine Go.st (T' := T2) (pc' := 13) (L' := #[.val (.ref a1), .val (.ref b), .val (.int (cn.toInt32)), .val (.int (0 : Int32))]) (S' := [(.int (0 : Int32)), (.ref t1)]) (fun t_ k_ => XS.iconst X2.here hx rfl (hb hby d15_12) k_) ?_
  refine Go.st (T' := T2) (pc' := 14) (L' := #[.val (.ref a1), .val (.ref b), .val (.int (cn.toInt32)), .val (.int (0 : Int32))]) (S' := [(.ref b), (.int (0 : Int32)), (.ref t1)]) (fun t_ k_ => XS.aloadN X2.here hx rfl (hb hby d15_13) rfl rfl  k_) ?_
  refine Go.st (T' := T2) (pc' := 15) (L' := #[.val (.ref a1), .val (.ref b), .val (.int (cn.toInt32)), .val (.int (0 : Int32))]) (S' := [(.int (cn.toInt32)), (.ref b), (.int (0 : Int32)), (.ref t1)]) (fun t_ k_ => XS.iloadN X2.here hx rfl (hb hby d15_14) rfl  k_) ?_
  refine Go.st (T' := T2) (pc' := 16) (L' := #[.val (.ref a1), .val (.ref b), .val (.int (cn.toInt32)), .val (.int (0 : Int32))]) (S' := [(.int (0 : Int32)), (.int (cn.toInt32)), (.ref b), (.int (0 : Int32)), (.ref t1)]) (fun t_ k_ => XS.iloadN X2.here hx rfl (hb hby d15_15) rfl  k_) ?_
  refine Go.st (T' := T2) (pc' := 17) (L' := #[.val (.ref a1), .val (.ref b), .val (.int (cn.toInt32)), .val (.int (0 : Int32))]) (S' := [(.int ((cn.toInt32) <<< ((0 : Int32) &&& 31))), (.ref b), (.int (0 : Int32)), (.ref t1)]) (fun t_ k_ => XS.ishl X2.here hx rfl (hb hby d15_16) rfl k_) ?_
  rw [own_shl0]
  refine Go.st (T' := T2) (pc' := 18) (L' := #[.val (.ref a1), .val (.ref b), .val (.int (cn.toInt32)), .val (.int (0 : Int32))]) (S' := [(.ref a1), (.int (cn.toInt32)), (.ref b), (.int (0 : Int32)), (.ref t1)]) (fun t_ k_ => XS.aloadN X2.here hx rfl (hb hby d15_17) rfl rfl  k_) ?_
  obtain ⟨T3, X3, e3, st3⟩ := getF X2 hx hZ hown (host := "") (Or.inl (hw _ (List.mem_of_getElem? (i := 24) rfl))) Via.refl e2 Fv_a1 (g := (mkF m 18 #[.val (.ref a1), .val (.ref b), .val (.int (cn.toInt32)), .val (.int (0 : Int32))] [(.ref a1), (.int (cn.toInt32)), (.ref b), (.int (0 : Int32)), (.ref t1)])) rfl rfl (hb hby d15_18)
  refine Go.st (T' := T3) (pc' := 21) (L' := #[.val (.ref a1), .val (.ref b), .val (.int (cn.toInt32)), .val (.int (0 : Int32))]) (S' := [(.ref t1), (.int (cn.toInt32)), (.ref b), (.int (0 : Int32)), (.ref t1)]) st3 ?_
  obtain ⟨cl4, Ar4, -, q4a, q4b, -, -⟩ := id V_t1
  refine Go.st (T' := T3) (pc' := 22) (L' := #[.val (.ref a1), .val (.ref b), .val (.int (cn.toInt32)), .val (.int (0 : Int32))]) (S' := [(.int (k.toInt32)), (.int (cn.toInt32)), (.ref b), (.int (0 : Int32)), (.ref t1)]) (fun t_ k_ => own_len X3 hx hZ e3 Ar4 q4a q4b (g := (mkF m 21 #[.val (.ref a1), .val (.ref b), .val (.int (cn.toInt32)), .val (.int (0 : Int32))] [(.ref t1), (.int (cn.toInt32)), (.ref b), (.int (0 : Int32)), (.ref t1)])) rfl rfl (hb hby d15_21) t_ k_) ?_
  have Vp5 := own_padN (ys := ys) (k) V_b
  obtain ⟨T5, h5, L5, X5, e5, N5, K5, V5, st5⟩ := cpA X3 hx hZ hown (hw _ (List.mem_of_getElem? (i := 95) rfl)) (hw _ (List.mem_of_getElem? (i := 98) rfl)) (hw _ (List.mem_of_getElem? (i := 96) rfl)) (hw _ (List.mem_of_getElem? (i := 97) rfl)) e3 V_t1 Vp5 (Or.inl ⟨rfl, rfl⟩) (by decide) (own_nnN (by omega)) (own_nnN (by omega)) own_h4 (own_h5 hck) rfl (own_hl hy hck) N1 g_b (g := (mkF m 22 #[.val (.ref a1), .val (.ref b), .val (.int (cn.toInt32)), .val (.int (0 : Int32))] [(.int (k.toInt32)), (.int (cn.toInt32)), (.ref b), (.int (0 : Int32)), (.ref t1)])) rfl (by rw [hml]; rfl) rfl (hb hby d15_22) (by decide) (W := 0) (by show 2 * 0 + _ ≤ _; exact Nat.le_of_eq rfl) (by decide)
  replace Z0 := Nat.le_trans Z0 K5.1
  replace K0 := K0.trans K5 (allS (Or.inl (List.mem_of_getElem? (i := 0) rfl)) all0)
  replace O0 := O0.keep K5 (allS g_b all0)
  replace E_a1 := E_a1.keep K5
  replace Fc_a1 := Fc_a1.keep K5 (ninS n1 nin0)
  replace Fv_a1 := Fv_a1.keep K5 (ninS n1 nin0)
  replace V_t1 := V_t1.keep K5 (ninS n2 nin0)
  have V_b : Arv Z h5 b kb .byte (16 : Int32) ((ys ++ bs).map Value.int) (.int (0 : Int32)) := (congrArg (fun z_ => Arv Z h5 b kb .byte (16 : Int32) z_ (.int (0 : Int32))) (own_cat hy hbl hck)).mp V5
  refine Go.st (T' := T5) (pc' := 25) (L' := #[.val (.ref a1), .val (.ref b), .val (.int (cn.toInt32)), .val (.int (0 : Int32))]) (S' := []) st5 ?_
  refine Go.st (T' := T5) (pc' := 43) (L' := #[.val (.ref a1), .val (.ref b), .val (.int (cn.toInt32)), .val (.int (0 : Int32))]) (S' := []) (fun t_ k_ => XS.goto X5.here hx rfl (pc0 := 25) (pc' := 43) rfl (hb hby d15_25) (by decide) (by decide) k_) ?_
  exact Go.retV X5 hx hlk hret (hb hby d15_43) (by decide) (by decide) (by rw [e5]; exact ⟨rfl, N5, K0, V_b⟩)
theorem d13_0 : decode jdk_68_method_73_code 0 = .ok (.aload_n 0, 1) := by decide +kernel
theorem d13_1 : decode jdk_68_method_73_code 1 = .ok (.aload_n 2, 1) := by decide +kernel
theorem d13_2 : decode jdk_68_method_73_code 2 = .ok (.invokevirtual 397, 3) := by decide +kernel
theorem d13_5 : decode jdk_68_method_73_code 5 = .ok (.aload_n 2, 1) := by decide +kernel
theorem d13_6 : decode jdk_68_method_73_code 6 = .ok (.aload_n 0, 1) := by decide +kernel
theorem d13_7 : decode jdk_68_method_73_code 7 = .ok (.getfield 15, 3) := by decide +kernel
theorem d13_10 : decode jdk_68_method_73_code 10 = .ok (.iload_n 1, 1) := by decide +kernel
theorem d13_11 : decode jdk_68_method_73_code 11 = .ok (.aload_n 0, 1) := by decide +kernel
theorem d13_12 : decode jdk_68_method_73_code 12 = .ok (.getfield 22, 3) := by decide +kernel
theorem d13_15 : decode jdk_68_method_73_code 15 = .ok (.invokevirtual 399, 3) := by decide +kernel
theorem d13_18 : decode jdk_68_method_73_code 18 = .ok (.return_, 1) := by decide +kernel
theorem pd_2 : parseMethodDescriptor "(Ljava/lang/String;)V" = some ⟨[(.object "java/lang/String")], none⟩ := by decide +kernel
theorem pd_3 : parseMethodDescriptor "([BIB)V" = some ⟨[(.array .byte), .int, .byte], none⟩ := by decide +kernel
def Q13 (Z : State) (b : Addr) (kb : ClassId) (ys : List Int32) (bs : List Int32) (h0 : Heap) (n0 : Nat) (v : Option Value) (h : Heap) (L : List Loc) : Prop := v = none ∧ Fr n0 L ∧ Keep h0 h [b] ∧ Arv Z h b kb .byte (16 : Int32) ((ys ++ bs).map Value.int) (.int (0 : Int32))
def room13 : Room := { frames := 2, cells := 0, slots := 0, locals := 55 }
set_option maxRecDepth 65536 in
set_option maxHeartbeats 40000000 in
theorem rm13 (l : Launch) (Z : State) (a0 : Array Value) (hw : ∀ d ∈ tables_1, d.before a0 Z = true) (ws : List Jvm.Cond) (a1 : Addr) (a2 : Addr) (t2 : Addr) (k2 : ClassId) (b : Addr) (kb : ClassId) (ys : List Int32) (bs : List Int32) (cn : Nat) (k : Nat) (gC : Int32) (h0 : Heap) (n0 : Nat) (Z0 : n0 ≤ h0.size) (SC : Sta Z Z.heap "java/lang/String" "COMPACT_STRINGS" "Z" (.int gC)) (PC : ¬ (gC = (0 : Int32))) (O0 : Old Z n0 h0) (E_a1 : Exa Z h0 a1 "java/lang/StringBuilder") (g_a1 : n0 ≤ a1) (n3 : a1 ≠ b) (F_value : Fld Z h0 a1 "java/lang/AbstractStringBuilder" "value" "[B" (.ref b)) (F_coder : Fld Z h0 a1 "java/lang/AbstractStringBuilder" "coder" "B" (.int (0 : Int32))) (V_b : Arv Z h0 b kb .byte (16 : Int32) (ys.map Value.int) (.int (0 : Int32))) (E_a2 : Exa Z h0 a2 "java/lang/String") (Fc_a2 : Fld Z h0 a2 "java/lang/String" "coder" "B" (.int (0 : Int32))) (Fv_a2 : Fld Z h0 a2 "java/lang/String" "value" "[B" (.ref t2)) (V_t2 : Arv Z h0 t2 k2 .byte (k.toInt32) (bs.map Value.int) (.int (0 : Int32))) (g_b : n0 ≤ b) (n1 : a2 ≠ b) (n2 : t2 ≠ b) (hy : ys.length = cn) (hbl : bs.length = k) (hck : cn + k ≤ 16) :
    MetFree l (⟨"java/lang/AbstractStringBuilder", "putStringAt", "(ILjava/lang/String;)V"⟩ : MethodName) (head1 (Jvm.Cond.code (⟨"java/lang/AbstractStringBuilder", "putStringAt", "(ILjava/lang/String;)V"⟩ : MethodName) jdk_68_method_73_code 3 none :: ws) room13) (fun aa_ U_ => aa_ = #[(.ref a1), (.int (cn.toInt32)), (.ref a2)] ∧ Z.Warmed39 U_.vm ∧ U_.heap = h0) (fun _ _ _ _ _ => True) (fun _ U_ o_ W_ => ∃ v_ L_, o_ = .returned v_ ∧ (Q13 Z b kb ys bs h0 n0) v_ W_.heap L_ ∧ FrameEnd U_ o_ W_ L_ room13.cells room13.slots) := by
  refine own_met (Q := (Q13 Z b kb ys bs h0 n0)) (L0 := #[.val (.ref a1), .val (.int (cn.toInt32)), .val (.ref a2)]) (plainFor_of_name pn_1) (fun m => by first | (simp [entryFrame, mkF, argsToLocals, Value.category]; done) | rfl) ?_
  intro p e s m below meth c T0 X0 hx hby hml hown hnm hret hlk hZ e0
  have N0 := Fr.nil n0
  have K0 := Keep.refl h0 [b]
  refine Go.st (T' := T0) (pc' := 1) (L' := #[.val (.ref a1), .val (.int (cn.toInt32)), .val (.ref a2)]) (S' := [(.ref a1)]) (fun t_ k_ => XS.aloadN X0.here hx rfl (hb hby d13_0) rfl rfl  k_) ?_
  refine Go.st (T' := T0) (pc' := 2) (L' := #[.val (.ref a1), .val (.int (cn.toInt32)), .val (.ref a2)]) (S' := [(.ref a2), (.ref a1)]) (fun t_ k_ => XS.aloadN X0.here hx rfl (hb hby d13_1) rfl rfl  k_) ?_
  obtain ⟨cq1, q1, q1'⟩ := E_a1.cell
  obtain ⟨_, _, ⟨T1, L1, k1, n1⟩, -, X1, ⟨Lc1, hQ1, l1, y1, z1⟩, st1⟩ := X0.privateBack hx (y := (⟨"java/lang/AbstractStringBuilder", "inflateIfNeededFor", "(Ljava/lang/String;)V"⟩ : MethodName)) hown (mvT hZ (hw _ (List.mem_of_getElem? (i := 84) rfl))) (mvT hZ (hw _ (List.mem_of_getElem? (i := 85) rfl))) (own_selP (Cond.privateMethod_at (mvP hZ (hw _ (List.mem_of_getElem? (i := 86) rfl)) (args := #[]))) (mvT hZ (hw _ (List.mem_of_getElem? (i := 85) rfl))) (by decide) (mvT hZ (hw _ (List.mem_of_getElem? (i := 87) rfl)))) (Cond.privateMethod_at (mvP hZ (hw _ (List.mem_of_getElem? (i := 86) rfl)) (args := #[]))) (mvT hZ (hw _ (List.mem_of_getElem? (i := 88) rfl))) (by decide) (backOf (W := 0) (rm14 l Z a0 hw [] a1 a2 gC h0 n0 Z0 SC PC O0 F_coder E_a2 Fc_a2) hZ (hw _ (List.mem_of_getElem? (i := 88) rfl)) (hw _ (List.mem_of_getElem? (i := 42) rfl)) (by decide) (by decide)) (g := (mkF m 2 #[.val (.ref a1), .val (.int (cn.toInt32)), .val (.ref a2)] [(.ref a2), (.ref a1)])) rfl (by rw [hml]; rfl) (Steps.refl _) (a := a1) (by rw [e0]; exact q1) q1' (argsL := [(.ref a2)]) (rest := []) (lenOf pd_2 rfl) rfl (by show 2 * 0 + _ ≤ _; exact Nat.le_of_eq rfl) (hb hby d13_2) (fun _ _ => ⟨rfl, e0, (by decide : 0 + 0 ≤ _), (by decide : 0 + 0 ≤ _)⟩)
  dsimp only [Pt.U, Pt.locs, Pt.cells, Pt.slots] at X1 l1 y1 z1 st1 hQ1
  subst l1 y1 z1
  obtain ⟨rfl, N1q, e1⟩ := hQ1
  have N1 := Fr.app N0 N1q
  refine Go.tr (T' := T1) (pc' := 5) (L' := #[.val (.ref a1), .val (.int (cn.toInt32)), .val (.ref a2)]) (S' := []) st1 ?_
  refine Go.st (T' := T1) (pc' := 6) (L' := #[.val (.ref a1), .val (.int (cn.toInt32)), .val (.ref a2)]) (S' := [(.ref a2)]) (fun t_ k_ => XS.aloadN X1.here hx rfl (hb hby d13_5) rfl rfl  k_) ?_
  refine Go.st (T' := T1) (pc' := 7) (L' := #[.val (.ref a1), .val (.int (cn.toInt32)), .val (.ref a2)]) (S' := [(.ref a1), (.ref a2)]) (fun t_ k_ => XS.aloadN X1.here hx rfl (hb hby d13_6) rfl rfl  k_) ?_
  obtain ⟨T2, X2, e2, st2⟩ := getF X1 hx hZ hown (host := "") (Or.inl (hw _ (List.mem_of_getElem? (i := 46) rfl))) Via.refl e1 F_value (g := (mkF m 7 #[.val (.ref a1), .val (.int (cn.toInt32)), .val (.ref a2)] [(.ref a1), (.ref a2)])) rfl rfl (hb hby d13_7)
  refine Go.st (T' := T2) (pc' := 10) (L' := #[.val (.ref a1), .val (.int (cn.toInt32)), .val (.ref a2)]) (S' := [(.ref b), (.ref a2)]) st2 ?_
  refine Go.st (T' := T2) (pc' := 11) (L' := #[.val (.ref a1), .val (.int (cn.toInt32)), .val (.ref a2)]) (S' := [(.int (cn.toInt32)), (.ref b), (.ref a2)]) (fun t_ k_ => XS.iloadN X2.here hx rfl (hb hby d13_10) rfl  k_) ?_
  refine Go.st (T' := T2) (pc' := 12) (L' := #[.val (.ref a1), .val (.int (cn.toInt32)), .val (.ref a2)]) (S' := [(.ref a1), (.int (cn.toInt32)), (.ref b), (.ref a2)]) (fun t_ k_ => XS.aloadN X2.here hx rfl (hb hby d13_11) rfl rfl  k_) ?_
  obtain ⟨T3, X3, e3, st3⟩ := getF X2 hx hZ hown (host := "") (Or.inl (hw _ (List.mem_of_getElem? (i := 48) rfl))) Via.refl e2 F_coder (g := (mkF m 12 #[.val (.ref a1), .val (.int (cn.toInt32)), .val (.ref a2)] [(.ref a1), (.int (cn.toInt32)), (.ref b), (.ref a2)])) rfl rfl (hb hby d13_12)
  refine Go.st (T' := T3) (pc' := 15) (L' := #[.val (.ref a1), .val (.int (cn.toInt32)), .val (.ref a2)]) (S' := [(.int (0 : Int32)), (.int (cn.toInt32)), (.ref b), (.ref a2)]) st3 ?_
  obtain ⟨cq4, kq4, q4a, q4b, q4c⟩ := isOf hZ e3 E_a2
  obtain ⟨_, _, ⟨T4, L4, k4, n4⟩, -, X4, ⟨Lc4, hQ4, l4, y4, z4⟩, st4⟩ := X3.virtualBack hx (y := (⟨"java/lang/String", "getBytes", "([BIB)V"⟩ : MethodName)) (z := (⟨"java/lang/String", "getBytes", "([BIB)V"⟩ : MethodName)) hown (mvT hZ (hw _ (List.mem_of_getElem? (i := 90) rfl))) (mvT hZ (hw _ (List.mem_of_getElem? (i := 91) rfl))) (notFace_of_selects (args := #[]) (mvT hZ (hw _ (List.mem_of_getElem? (i := 93) rfl)))) (mvT hZ (hw _ (List.mem_of_getElem? (i := 93) rfl))) (mvT hZ (hw _ (List.mem_of_getElem? (i := 92) rfl))) (by decide) (backOf (W := 0) (rm15 l Z a0 hw [] a2 t2 _ b _ _ (bs) (cn) (k) gC h0 n0 Z0 SC PC O0 E_a2 Fc_a2 Fv_a2 V_t2 V_b g_b n1 n2 hy hbl hck) hZ (hw _ (List.mem_of_getElem? (i := 94) rfl)) (hw _ (List.mem_of_getElem? (i := 6) rfl)) (by decide) (by decide)) q4a q4c (g := (mkF m 15 #[.val (.ref a1), .val (.int (cn.toInt32)), .val (.ref a2)] [(.int (0 : Int32)), (.int (cn.toInt32)), (.ref b), (.ref a2)])) rfl (by rw [hml]; rfl) (Steps.refl _) (argsL := [(.ref b), (.int (cn.toInt32)), (.int (0 : Int32))]) (rest := []) (lenOf pd_3 rfl) rfl (by show 2 * 0 + _ ≤ _; exact Nat.le_of_eq rfl) (hb hby d13_15) (fun _ _ => ⟨rfl, e3, (by decide : 0 + 0 ≤ _), (by decide : 0 + 0 ≤ _)⟩)
  dsimp only [Pt.U, Pt.locs, Pt.cells, Pt.slots] at X4 l4 y4 z4 st4 hQ4
  subst l4 y4 z4
  obtain ⟨rfl, N4q, K4, Vb4⟩ := hQ4
  have N4 := Fr.app N1 N4q
  obtain ⟨h4, e4⟩ : ∃ z, T4.heap = z := ⟨_, rfl⟩
  rw [e4] at K4 Vb4
  replace Z0 := Nat.le_trans Z0 K4.1
  replace K0 := K0.trans K4 (allS (Or.inl (List.mem_of_getElem? (i := 0) rfl)) all0)
  replace O0 := O0.keep K4 (allS g_b all0)
  replace F_value := F_value.keep K4 (ninS n3 nin0)
  replace F_coder := F_coder.keep K4 (ninS n3 nin0)
  replace E_a1 := E_a1.keep K4
  replace E_a2 := E_a2.keep K4
  replace Fc_a2 := Fc_a2.keep K4 (ninS n1 nin0)
  replace Fv_a2 := Fv_a2.keep K4 (ninS n1 nin0)
  replace V_t2 := V_t2.keep K4 (ninS n2 nin0)
  refine Go.tr (T' := T4) (pc' := 18) (L' := #[.val (.ref a1), .val (.int (cn.toInt32)), .val (.ref a2)]) (S' := []) st4 ?_
  exact Go.retV X4 hx hlk hret (hb hby d13_18) (by decide) (by decide) (by rw [e4]; exact ⟨rfl, N4, K0, Vb4⟩)
theorem d9_0 : decode jdk_68_method_22_code 0 = .ok (.aload_n 1, 1) := by decide +kernel
theorem d9_1 : decode jdk_68_method_22_code 1 = .ok (.ifnonnull 8, 3) := by decide +kernel
theorem d9_9 : decode jdk_68_method_22_code 9 = .ok (.aload_n 1, 1) := by decide +kernel
theorem d9_10 : decode jdk_68_method_22_code 10 = .ok (.invokevirtual 32, 3) := by decide +kernel
theorem d9_13 : decode jdk_68_method_22_code 13 = .ok (.istore_n 2, 1) := by decide +kernel
theorem d9_14 : decode jdk_68_method_22_code 14 = .ok (.aload_n 0, 1) := by decide +kernel
theorem d9_15 : decode jdk_68_method_22_code 15 = .ok (.aload_n 0, 1) := by decide +kernel
theorem d9_16 : decode jdk_68_method_22_code 16 = .ok (.getfield 79, 3) := by decide +kernel
theorem d9_19 : decode jdk_68_method_22_code 19 = .ok (.iload_n 2, 1) := by decide +kernel
theorem d9_20 : decode jdk_68_method_22_code 20 = .ok (.iadd, 1) := by decide +kernel
theorem d9_21 : decode jdk_68_method_22_code 21 = .ok (.invokevirtual 100, 3) := by decide +kernel
theorem d9_24 : decode jdk_68_method_22_code 24 = .ok (.aload_n 0, 1) := by decide +kernel
theorem d9_25 : decode jdk_68_method_22_code 25 = .ok (.aload_n 0, 1) := by decide +kernel
theorem d9_26 : decode jdk_68_method_22_code 26 = .ok (.getfield 79, 3) := by decide +kernel
theorem d9_29 : decode jdk_68_method_22_code 29 = .ok (.aload_n 1, 1) := by decide +kernel
theorem d9_30 : decode jdk_68_method_22_code 30 = .ok (.invokevirtual 208, 3) := by decide +kernel
theorem d9_33 : decode jdk_68_method_22_code 33 = .ok (.aload_n 0, 1) := by decide +kernel
theorem d9_34 : decode jdk_68_method_22_code 34 = .ok (.dup, 1) := by decide +kernel
theorem d9_35 : decode jdk_68_method_22_code 35 = .ok (.getfield 79, 3) := by decide +kernel
theorem d9_38 : decode jdk_68_method_22_code 38 = .ok (.iload_n 2, 1) := by decide +kernel
theorem d9_39 : decode jdk_68_method_22_code 39 = .ok (.iadd, 1) := by decide +kernel
theorem d9_40 : decode jdk_68_method_22_code 40 = .ok (.putfield 79, 3) := by decide +kernel
theorem d9_43 : decode jdk_68_method_22_code 43 = .ok (.aload_n 0, 1) := by decide +kernel
theorem d9_44 : decode jdk_68_method_22_code 44 = .ok (.areturn, 1) := by decide +kernel
theorem pd_4 : parseMethodDescriptor "()I" = some ⟨[], some .int⟩ := by decide +kernel
theorem pd_5 : parseMethodDescriptor "(I)V" = some ⟨[.int], none⟩ := by decide +kernel
theorem pd_6 : parseMethodDescriptor "(ILjava/lang/String;)V" = some ⟨[.int, (.object "java/lang/String")], none⟩ := by decide +kernel
def Q9 (Z : State) (a1 : Addr) (b : Addr) (kb : ClassId) (ys : List Int32) (bs : List Int32) (cn : Nat) (k : Nat) (h0 : Heap) (n0 : Nat) (v : Option Value) (h : Heap) (L : List Loc) : Prop := v = some (.ref a1) ∧ Fr n0 L ∧ Keep h0 h [a1, b] ∧ Fld Z h a1 "java/lang/AbstractStringBuilder" "value" "[B" (.ref b) ∧ Fld Z h a1 "java/lang/AbstractStringBuilder" "coder" "B" (.int (0 : Int32)) ∧ Fld Z h a1 "java/lang/AbstractStringBuilder" "count" "I" (.int ((cn + k).toInt32)) ∧ Arv Z h b kb .byte (16 : Int32) ((ys ++ bs).map Value.int) (.int (0 : Int32))
def room9 : Room := { frames := 3, cells := 0, slots := 0, locals := 69 }
set_option maxRecDepth 65536 in
set_option maxHeartbeats 40000000 in
theorem rm9 (l : Launch) (Z : State) (a0 : Array Value) (hw : ∀ d ∈ tables_1, d.before a0 Z = true) (ws : List Jvm.Cond) (a1 : Addr) (a2 : Addr) (t2 : Addr) (k2 : ClassId) (b : Addr) (kb : ClassId) (ys : List Int32) (bs : List Int32) (cn : Nat) (k : Nat) (gC : Int32) (h0 : Heap) (n0 : Nat) (Z0 : n0 ≤ h0.size) (SC : Sta Z Z.heap "java/lang/String" "COMPACT_STRINGS" "Z" (.int gC)) (PC : ¬ (gC = (0 : Int32))) (O0 : Old Z n0 h0) (E_a1 : Exa Z h0 a1 "java/lang/StringBuilder") (g_a1 : n0 ≤ a1) (n3 : a1 ≠ b) (F_value : Fld Z h0 a1 "java/lang/AbstractStringBuilder" "value" "[B" (.ref b)) (F_coder : Fld Z h0 a1 "java/lang/AbstractStringBuilder" "coder" "B" (.int (0 : Int32))) (V_b : Arv Z h0 b kb .byte (16 : Int32) (ys.map Value.int) (.int (0 : Int32))) (F_count : Fld Z h0 a1 "java/lang/AbstractStringBuilder" "count" "I" (.int (cn.toInt32))) (E_a2 : Exa Z h0 a2 "java/lang/String") (Fc_a2 : Fld Z h0 a2 "java/lang/String" "coder" "B" (.int (0 : Int32))) (Fv_a2 : Fld Z h0 a2 "java/lang/String" "value" "[B" (.ref t2)) (V_t2 : Arv Z h0 t2 k2 .byte (k.toInt32) (bs.map Value.int) (.int (0 : Int32))) (g_b : n0 ≤ b) (n1 : a2 ≠ b) (n2 : t2 ≠ b) (hy : ys.length = cn) (hbl : bs.length = k) (hck : cn + k ≤ 16) (n4 : a2 ≠ a1) (n5 : t2 ≠ a1) :
    MetFree l (⟨"java/lang/AbstractStringBuilder", "append", "(Ljava/lang/String;)Ljava/lang/AbstractStringBuilder;"⟩ : MethodName) (head1 (Jvm.Cond.code (⟨"java/lang/AbstractStringBuilder", "append", "(Ljava/lang/String;)Ljava/lang/AbstractStringBuilder;"⟩ : MethodName) jdk_68_method_22_code 3 (some (.object "java/lang/AbstractStringBuilder")) :: ws) room9) (fun aa_ U_ => aa_ = #[(.ref a1), (.ref a2)] ∧ Z.Warmed39 U_.vm ∧ U_.heap = h0) (fun _ _ _ _ _ => True) (fun _ U_ o_ W_ => ∃ v_ L_, o_ = .returned v_ ∧ (Q9 Z a1 b kb ys bs cn k h0 n0) v_ W_.heap L_ ∧ FrameEnd U_ o_ W_ L_ room9.cells room9.slots) := by
  refine own_met (Q := (Q9 Z a1 b kb ys bs cn k h0 n0)) (L0 := #[.val (.ref a1), .val (.ref a2), .unset]) (plainFor_of_name pn_1) (fun m => by first | (simp [entryFrame, mkF, argsToLocals, Value.category]; done) | rfl) ?_
  intro p e s m below meth c T0 X0 hx hby hml hown hnm hret hlk hZ e0
  have N0 := Fr.nil n0
  have K0 := Keep.refl h0 [a1, b]
  refine Go.st (T' := T0) (pc' := 1) (L' := #[.val (.ref a1), .val (.ref a2), .unset]) (S' := [(.ref a2)]) (fun t_ k_ => XS.aloadN X0.here hx rfl (hb hby d9_0) rfl rfl  k_) ?_
  refine Go.st (T' := T0) (pc' := 9) (L' := #[.val (.ref a1), .val (.ref a2), .unset]) (S' := []) (fun t_ k_ => XS.ifnonnullYes X0.here hx rfl (pc0 := 1) (pc' := 9) rfl (hb hby d9_1) rfl (by decide) (by decide) k_) ?_
  refine Go.st (T' := T0) (pc' := 10) (L' := #[.val (.ref a1), .val (.ref a2), .unset]) (S' := [(.ref a2)]) (fun t_ k_ => XS.aloadN X0.here hx rfl (hb hby d9_9) rfl rfl  k_) ?_
  obtain ⟨cq1, kq1, q1a, q1b, q1c⟩ := isOf hZ e0 E_a2
  obtain ⟨_, _, ⟨T1, L1, k1, n1⟩, -, X1, ⟨Lc1, hQ1, l1, y1, z1⟩, st1⟩ := X0.virtualBack hx (y := (⟨"java/lang/String", "length", "()I"⟩ : MethodName)) (z := (⟨"java/lang/String", "length", "()I"⟩ : MethodName)) hown (mvT hZ (hw _ (List.mem_of_getElem? (i := 61) rfl))) (mvT hZ (hw _ (List.mem_of_getElem? (i := 62) rfl))) (notFace_of_selects (args := #[]) (mvT hZ (hw _ (List.mem_of_getElem? (i := 64) rfl)))) (mvT hZ (hw _ (List.mem_of_getElem? (i := 64) rfl))) (mvT hZ (hw _ (List.mem_of_getElem? (i := 63) rfl))) (by decide) (backOf (W := 0) (rm10 l Z a0 hw [] a2 t2 _ gC (k.toInt32) (bs) h0 n0 Z0 SC PC O0 E_a2 Fc_a2 Fv_a2 V_t2) hZ (hw _ (List.mem_of_getElem? (i := 65) rfl)) (hw _ (List.mem_of_getElem? (i := 6) rfl)) (by decide) (by decide)) q1a q1c (g := (mkF m 10 #[.val (.ref a1), .val (.ref a2), .unset] [(.ref a2)])) rfl (by rw [hml]; rfl) (Steps.refl _) (argsL := []) (rest := []) (lenOf pd_4 rfl) rfl (by show 2 * 0 + _ ≤ _; exact Nat.le_of_eq rfl) (hb hby d9_10) (fun _ _ => ⟨rfl, e0, (by decide : 0 + 0 ≤ _), (by decide : 0 + 0 ≤ _)⟩)
  dsimp only [Pt.U, Pt.locs, Pt.cells, Pt.slots] at X1 l1 y1 z1 st1 hQ1
  subst l1 y1 z1
  obtain ⟨rfl, N1q, e1⟩ := hQ1
  have N1 := Fr.app N0 N1q
  refine Go.tr (T' := T1) (pc' := 13) (L' := #[.val (.ref a1), .val (.ref a2), .unset]) (S' := [(.int (k.toInt32))]) st1 ?_
  refine Go.st (T' := T1) (pc' := 14) (L' := #[.val (.ref a1), .val (.ref a2), .val (.int (k.toInt32))]) (S' := []) (fun t_ k_ => XS.istoreN X1.here hx rfl (hb hby d9_13) rfl (l' := #[.val (.ref a1), .val (.ref a2), .val (.int (k.toInt32))]) rfl k_) ?_
  refine Go.st (T' := T1) (pc' := 15) (L' := #[.val (.ref a1), .val (.ref a2), .val (.int (k.toInt32))]) (S' := [(.ref a1)]) (fun t_ k_ => XS.aloadN X1.here hx rfl (hb hby d9_14) rfl rfl  k_) ?_
  refine Go.st (T' := T1) (pc' := 16) (L' := #[.val (.ref a1), .val (.ref a2), .val (.int (k.toInt32))]) (S' := [(.ref a1), (.ref a1)]) (fun t_ k_ => XS.aloadN X1.here hx rfl (hb hby d9_15) rfl rfl  k_) ?_
  obtain ⟨T2, X2, e2, st2⟩ := getF X1 hx hZ hown (host := "") (Or.inl (hw _ (List.mem_of_getElem? (i := 72) rfl))) Via.refl e1 F_count (g := (mkF m 16 #[.val (.ref a1), .val (.ref a2), .val (.int (k.toInt32))] [(.ref a1), (.ref a1)])) rfl rfl (hb hby d9_16)
  refine Go.st (T' := T2) (pc' := 19) (L' := #[.val (.ref a1), .val (.ref a2), .val (.int (k.toInt32))]) (S' := [(.int (cn.toInt32)), (.ref a1)]) st2 ?_
  refine Go.st (T' := T2) (pc' := 20) (L' := #[.val (.ref a1), .val (.ref a2), .val (.int (k.toInt32))]) (S' := [(.int (k.toInt32)), (.int (cn.toInt32)), (.ref a1)]) (fun t_ k_ => XS.iloadN X2.here hx rfl (hb hby d9_19) rfl  k_) ?_
  refine Go.st (T' := T2) (pc' := 21) (L' := #[.val (.ref a1), .val (.ref a2), .val (.int (k.toInt32))]) (S' := [(.int ((cn.toInt32) + (k.toInt32))), (.ref a1)]) (fun t_ k_ => XS.iadd X2.here hx rfl (hb hby d9_20) rfl k_) ?_
  rw [own_addN (m := cn) (n := k) (by omega)]
  obtain ⟨cq3, q3, q3'⟩ := E_a1.cell
  obtain ⟨_, _, ⟨T3, L3, k3, n3⟩, -, X3, ⟨Lc3, hQ3, l3, y3, z3⟩, st3⟩ := X2.privateBack hx (y := (⟨"java/lang/AbstractStringBuilder", "ensureCapacityInternal", "(I)V"⟩ : MethodName)) hown (mvT hZ (hw _ (List.mem_of_getElem? (i := 74) rfl))) (mvT hZ (hw _ (List.mem_of_getElem? (i := 75) rfl))) (own_selP (Cond.privateMethod_at (mvP hZ (hw _ (List.mem_of_getElem? (i := 76) rfl)) (args := #[]))) (mvT hZ (hw _ (List.mem_of_getElem? (i := 75) rfl))) (by decide) (mvT hZ (hw _ (List.mem_of_getElem? (i := 77) rfl)))) (Cond.privateMethod_at (mvP hZ (hw _ (List.mem_of_getElem? (i := 76) rfl)) (args := #[]))) (mvT hZ (hw _ (List.mem_of_getElem? (i := 78) rfl))) (by decide) (backOf (W := 0) (rm12 l Z a0 hw [] a1 b _ _ ((cn + k)) h0 n0 Z0 F_value F_coder V_b (by omega)) hZ (hw _ (List.mem_of_getElem? (i := 78) rfl)) (hw _ (List.mem_of_getElem? (i := 42) rfl)) (by decide) (by decide)) (g := (mkF m 21 #[.val (.ref a1), .val (.ref a2), .val (.int (k.toInt32))] [(.int ((cn + k).toInt32)), (.ref a1)])) rfl (by rw [hml]; rfl) (Steps.refl _) (a := a1) (by rw [e2]; exact q3) q3' (argsL := [(.int ((cn + k).toInt32))]) (rest := []) (lenOf pd_5 rfl) rfl (by show 2 * 0 + _ ≤ _; exact Nat.le_of_eq rfl) (hb hby d9_21) (fun _ _ => ⟨rfl, e2, (by decide : 0 + 0 ≤ _), (by decide : 0 + 0 ≤ _)⟩)
  dsimp only [Pt.U, Pt.locs, Pt.cells, Pt.slots] at X3 l3 y3 z3 st3 hQ3
  subst l3 y3 z3
  obtain ⟨rfl, N3q, e3⟩ := hQ3
  have N3 := Fr.app N1 N3q
  refine Go.tr (T' := T3) (pc' := 24) (L' := #[.val (.ref a1), .val (.ref a2), .val (.int (k.toInt32))]) (S' := []) st3 ?_
  refine Go.st (T' := T3) (pc' := 25) (L' := #[.val (.ref a1), .val (.ref a2), .val (.int (k.toInt32))]) (S' := [(.ref a1)]) (fun t_ k_ => XS.aloadN X3.here hx rfl (hb hby d9_24) rfl rfl  k_) ?_
  refine Go.st (T' := T3) (pc' := 26) (L' := #[.val (.ref a1), .val (.ref a2), .val (.int (k.toInt32))]) (S' := [(.ref a1), (.ref a1)]) (fun t_ k_ => XS.aloadN X3.here hx rfl (hb hby d9_25) rfl rfl  k_) ?_
  obtain ⟨T4, X4, e4, st4⟩ := getF X3 hx hZ hown (host := "") (Or.inl (hw _ (List.mem_of_getElem? (i := 72) rfl))) Via.refl e3 F_count (g := (mkF m 26 #[.val (.ref a1), .val (.ref a2), .val (.int (k.toInt32))] [(.ref a1), (.ref a1)])) rfl rfl (hb hby d9_26)
  refine Go.st (T' := T4) (pc' := 29) (L' := #[.val (.ref a1), .val (.ref a2), .val (.int (k.toInt32))]) (S' := [(.int (cn.toInt32)), (.ref a1)]) st4 ?_
  refine Go.st (T' := T4) (pc' := 30) (L' := #[.val (.ref a1), .val (.ref a2), .val (.int (k.toInt32))]) (S' := [(.ref a2), (.int (cn.toInt32)), (.ref a1)]) (fun t_ k_ => XS.aloadN X4.here hx rfl (hb hby d9_29) rfl rfl  k_) ?_
  obtain ⟨cq5, q5, q5'⟩ := E_a1.cell
  obtain ⟨_, _, ⟨T5, L5, k5, n5⟩, -, X5, ⟨Lc5, hQ5, l5, y5, z5⟩, st5⟩ := X4.privateBack hx (y := (⟨"java/lang/AbstractStringBuilder", "putStringAt", "(ILjava/lang/String;)V"⟩ : MethodName)) hown (mvT hZ (hw _ (List.mem_of_getElem? (i := 79) rfl))) (mvT hZ (hw _ (List.mem_of_getElem? (i := 80) rfl))) (own_selP (Cond.privateMethod_at (mvP hZ (hw _ (List.mem_of_getElem? (i := 81) rfl)) (args := #[]))) (mvT hZ (hw _ (List.mem_of_getElem? (i := 80) rfl))) (by decide) (mvT hZ (hw _ (List.mem_of_getElem? (i := 82) rfl)))) (Cond.privateMethod_at (mvP hZ (hw _ (List.mem_of_getElem? (i := 81) rfl)) (args := #[]))) (mvT hZ (hw _ (List.mem_of_getElem? (i := 83) rfl))) (by decide) (backOf (W := 0) (rm13 l Z a0 hw [] a1 a2 t2 _ b _ _ (bs) (cn) (k) gC h0 n0 Z0 SC PC O0 E_a1 g_a1 n3 F_value F_coder V_b E_a2 Fc_a2 Fv_a2 V_t2 g_b n1 n2 hy hbl hck) hZ (hw _ (List.mem_of_getElem? (i := 83) rfl)) (hw _ (List.mem_of_getElem? (i := 42) rfl)) (by decide) (by decide)) (g := (mkF m 30 #[.val (.ref a1), .val (.ref a2), .val (.int (k.toInt32))] [(.ref a2), (.int (cn.toInt32)), (.ref a1)])) rfl (by rw [hml]; rfl) (Steps.refl _) (a := a1) (by rw [e4]; exact q5) q5' (argsL := [(.int (cn.toInt32)), (.ref a2)]) (rest := []) (lenOf pd_6 rfl) rfl (by show 2 * 0 + _ ≤ _; exact Nat.le_of_eq rfl) (hb hby d9_30) (fun _ _ => ⟨rfl, e4, (by decide : 0 + 0 ≤ _), (by decide : 0 + 0 ≤ _)⟩)
  dsimp only [Pt.U, Pt.locs, Pt.cells, Pt.slots] at X5 l5 y5 z5 st5 hQ5
  subst l5 y5 z5
  obtain ⟨rfl, N5q, K5, Vb5⟩ := hQ5
  have N5 := Fr.app N3 N5q
  obtain ⟨h5, e5⟩ : ∃ z, T5.heap = z := ⟨_, rfl⟩
  rw [e5] at K5 Vb5
  replace Z0 := Nat.le_trans Z0 K5.1
  replace K0 := K0.trans K5 (allS (Or.inl (List.mem_of_getElem? (i := 1) rfl)) all0)
  replace O0 := O0.keep K5 (allS g_b all0)
  replace F_value := F_value.keep K5 (ninS n3 nin0)
  replace F_coder := F_coder.keep K5 (ninS n3 nin0)
  replace E_a1 := E_a1.keep K5
  replace E_a2 := E_a2.keep K5
  replace Fc_a2 := Fc_a2.keep K5 (ninS n1 nin0)
  replace Fv_a2 := Fv_a2.keep K5 (ninS n1 nin0)
  replace V_t2 := V_t2.keep K5 (ninS n2 nin0)
  replace F_count := F_count.keep K5 (ninS n3 nin0)
  refine Go.tr (T' := T5) (pc' := 33) (L' := #[.val (.ref a1), .val (.ref a2), .val (.int (k.toInt32))]) (S' := []) st5 ?_
  refine Go.st (T' := T5) (pc' := 34) (L' := #[.val (.ref a1), .val (.ref a2), .val (.int (k.toInt32))]) (S' := [(.ref a1)]) (fun t_ k_ => XS.aloadN X5.here hx rfl (hb hby d9_33) rfl rfl  k_) ?_
  refine Go.st (T' := T5) (pc' := 35) (L' := #[.val (.ref a1), .val (.ref a2), .val (.int (k.toInt32))]) (S' := [(.ref a1), (.ref a1)]) (fun t_ k_ => XS.dup X5.here hx rfl (hb hby d9_34) rfl rfl k_) ?_
  obtain ⟨T6, X6, e6, st6⟩ := getF X5 hx hZ hown (host := "") (Or.inl (hw _ (List.mem_of_getElem? (i := 72) rfl))) Via.refl e5 F_count (g := (mkF m 35 #[.val (.ref a1), .val (.ref a2), .val (.int (k.toInt32))] [(.ref a1), (.ref a1)])) rfl rfl (hb hby d9_35)
  refine Go.st (T' := T6) (pc' := 38) (L' := #[.val (.ref a1), .val (.ref a2), .val (.int (k.toInt32))]) (S' := [(.int (cn.toInt32)), (.ref a1)]) st6 ?_
  refine Go.st (T' := T6) (pc' := 39) (L' := #[.val (.ref a1), .val (.ref a2), .val (.int (k.toInt32))]) (S' := [(.int (k.toInt32)), (.int (cn.toInt32)), (.ref a1)]) (fun t_ k_ => XS.iloadN X6.here hx rfl (hb hby d9_38) rfl  k_) ?_
  refine Go.st (T' := T6) (pc' := 40) (L' := #[.val (.ref a1), .val (.ref a2), .val (.int (k.toInt32))]) (S' := [(.int ((cn.toInt32) + (k.toInt32))), (.ref a1)]) (fun t_ k_ => XS.iadd X6.here hx rfl (hb hby d9_39) rfl k_) ?_
  rw [own_addN (m := cn) (n := k) (by omega)]
  obtain ⟨T7, h7, X7, e7, W7, st7⟩ := putF X6 hx hZ hown (host := "") (Or.inl (hw _ (List.mem_of_getElem? (i := 72) rfl))) Via.refl e6 F_count E_a1 (Or.inl (hw _ (List.mem_of_getElem? (i := 73) rfl))) (hw _ (List.mem_of_getElem? (i := 33) rfl)) (ty := .int) (by decide) rfl rfl (g := (mkF m 40 #[.val (.ref a1), .val (.ref a2), .val (.int (k.toInt32))] [(.int ((cn + k).toInt32)), (.ref a1)])) rfl rfl (hb hby d9_40)
  replace Z0 := Nat.le_trans Z0 (Keep.of_wr W7).1
  replace K0 := K0.wr W7 (Or.inl (List.mem_of_getElem? (i := 0) rfl))
  replace O0 := O0.wr W7 g_a1
  replace F_value := F_value.other W7 (Or.inr (slot_ne (Or.inl (hw _ (List.mem_of_getElem? (i := 47) rfl))) (Or.inl (hw _ (List.mem_of_getElem? (i := 73) rfl))) (by decide) (t := (.array .byte)) (t' := .int) (by decide) (by decide)))
  replace F_coder := F_coder.other W7 (Or.inr (slot_ne (Or.inl (hw _ (List.mem_of_getElem? (i := 49) rfl))) (Or.inl (hw _ (List.mem_of_getElem? (i := 73) rfl))) (by decide) (t := .byte) (t' := .int) (by decide) (by decide)))
  replace E_a1 := E_a1.wr W7
  replace E_a2 := E_a2.wr W7
  replace Fc_a2 := Fc_a2.other W7 (Or.inl n4)
  replace Fv_a2 := Fv_a2.other W7 (Or.inl n4)
  replace V_t2 := V_t2.other W7 n5
  replace Vb5 := Vb5.other W7 (Ne.symm n3)
  replace F_count := F_count.same W7
  have N7 := Fr.snoc X7 N5 g_a1
  refine Go.st (T' := T7) (pc' := 43) (L' := #[.val (.ref a1), .val (.ref a2), .val (.int (k.toInt32))]) (S' := []) st7 ?_
  refine Go.st (T' := T7) (pc' := 44) (L' := #[.val (.ref a1), .val (.ref a2), .val (.int (k.toInt32))]) (S' := [(.ref a1)]) (fun t_ k_ => XS.aloadN X7.here hx rfl (hb hby d9_43) rfl rfl  k_) ?_
  exact Go.retO X7 hx hlk hret rfl (by simp [FieldType.isReference, Value.isRef]) (hb hby d9_44) (by decide) (by decide) (by rw [e7]; exact ⟨rfl, N7, K0, F_value, F_coder, F_count, Vb5⟩)
theorem d8_0 : decode jdk_67_method_7_code 0 = .ok (.aload_n 0, 1) := by decide +kernel
theorem d8_1 : decode jdk_67_method_7_code 1 = .ok (.aload_n 1, 1) := by decide +kernel
theorem d8_2 : decode jdk_67_method_7_code 2 = .ok (.invokespecial 29, 3) := by decide +kernel
theorem d8_5 : decode jdk_67_method_7_code 5 = .ok (.pop, 1) := by decide +kernel
theorem d8_6 : decode jdk_67_method_7_code 6 = .ok (.aload_n 0, 1) := by decide +kernel
theorem d8_7 : decode jdk_67_method_7_code 7 = .ok (.areturn, 1) := by decide +kernel
theorem pd_7 : parseMethodDescriptor "(Ljava/lang/String;)Ljava/lang/AbstractStringBuilder;" = some ⟨[(.object "java/lang/String")], some (.object "java/lang/AbstractStringBuilder")⟩ := by decide +kernel
theorem pn_2 : plainName "java/lang/StringBuilder" = true := by first | (simp [plainName, overriddenIn]; done) | decide +kernel
def Q8 (Z : State) (a1 : Addr) (b : Addr) (kb : ClassId) (ys : List Int32) (bs : List Int32) (cn : Nat) (k : Nat) (h0 : Heap) (n0 : Nat) (v : Option Value) (h : Heap) (L : List Loc) : Prop := v = some (.ref a1) ∧ Fr n0 L ∧ Keep h0 h [a1, b] ∧ Fld Z h a1 "java/lang/AbstractStringBuilder" "value" "[B" (.ref b) ∧ Fld Z h a1 "java/lang/AbstractStringBuilder" "coder" "B" (.int (0 : Int32)) ∧ Fld Z h a1 "java/lang/AbstractStringBuilder" "count" "I" (.int ((cn + k).toInt32)) ∧ Arv Z h b kb .byte (16 : Int32) ((ys ++ bs).map Value.int) (.int (0 : Int32))
def room8 : Room := { frames := 4, cells := 0, slots := 0, locals := 83 }
set_option maxRecDepth 65536 in
set_option maxHeartbeats 40000000 in
theorem rm8 (l : Launch) (Z : State) (a0 : Array Value) (hw : ∀ d ∈ tables_1, d.before a0 Z = true) (ws : List Jvm.Cond) (a1 : Addr) (a2 : Addr) (t2 : Addr) (k2 : ClassId) (b : Addr) (kb : ClassId) (ys : List Int32) (bs : List Int32) (cn : Nat) (k : Nat) (gC : Int32) (h0 : Heap) (n0 : Nat) (Z0 : n0 ≤ h0.size) (SC : Sta Z Z.heap "java/lang/String" "COMPACT_STRINGS" "Z" (.int gC)) (PC : ¬ (gC = (0 : Int32))) (O0 : Old Z n0 h0) (E_a1 : Exa Z h0 a1 "java/lang/StringBuilder") (g_a1 : n0 ≤ a1) (n3 : a1 ≠ b) (F_value : Fld Z h0 a1 "java/lang/AbstractStringBuilder" "value" "[B" (.ref b)) (F_coder : Fld Z h0 a1 "java/lang/AbstractStringBuilder" "coder" "B" (.int (0 : Int32))) (V_b : Arv Z h0 b kb .byte (16 : Int32) (ys.map Value.int) (.int (0 : Int32))) (F_count : Fld Z h0 a1 "java/lang/AbstractStringBuilder" "count" "I" (.int (cn.toInt32))) (E_a2 : Exa Z h0 a2 "java/lang/String") (Fc_a2 : Fld Z h0 a2 "java/lang/String" "coder" "B" (.int (0 : Int32))) (Fv_a2 : Fld Z h0 a2 "java/lang/String" "value" "[B" (.ref t2)) (V_t2 : Arv Z h0 t2 k2 .byte (k.toInt32) (bs.map Value.int) (.int (0 : Int32))) (g_b : n0 ≤ b) (n1 : a2 ≠ b) (n2 : t2 ≠ b) (hy : ys.length = cn) (hbl : bs.length = k) (hck : cn + k ≤ 16) (n4 : a2 ≠ a1) (n5 : t2 ≠ a1) :
    MetFree l (⟨"java/lang/StringBuilder", "append", "(Ljava/lang/String;)Ljava/lang/StringBuilder;"⟩ : MethodName) (head1 (Jvm.Cond.code (⟨"java/lang/StringBuilder", "append", "(Ljava/lang/String;)Ljava/lang/StringBuilder;"⟩ : MethodName) jdk_67_method_7_code 2 (some (.object "java/lang/StringBuilder")) :: ws) room8) (fun aa_ U_ => aa_ = #[(.ref a1), (.ref a2)] ∧ Z.Warmed39 U_.vm ∧ U_.heap = h0) (fun _ _ _ _ _ => True) (fun _ U_ o_ W_ => ∃ v_ L_, o_ = .returned v_ ∧ (Q8 Z a1 b kb ys bs cn k h0 n0) v_ W_.heap L_ ∧ FrameEnd U_ o_ W_ L_ room8.cells room8.slots) := by
  refine own_met (Q := (Q8 Z a1 b kb ys bs cn k h0 n0)) (L0 := #[.val (.ref a1), .val (.ref a2)]) (plainFor_of_name pn_2) (fun m => by first | (simp [entryFrame, mkF, argsToLocals, Value.category]; done) | rfl) ?_
  intro p e s m below meth c T0 X0 hx hby hml hown hnm hret hlk hZ e0
  have N0 := Fr.nil n0
  have K0 := Keep.refl h0 [a1, b]
  refine Go.st (T' := T0) (pc' := 1) (L' := #[.val (.ref a1), .val (.ref a2)]) (S' := [(.ref a1)]) (fun t_ k_ => XS.aloadN X0.here hx rfl (hb hby d8_0) rfl rfl  k_) ?_
  refine Go.st (T' := T0) (pc' := 2) (L' := #[.val (.ref a1), .val (.ref a2)]) (S' := [(.ref a2), (.ref a1)]) (fun t_ k_ => XS.aloadN X0.here hx rfl (hb hby d8_1) rfl rfl  k_) ?_
  obtain ⟨_, _, ⟨T1, L1, k1, n1⟩, -, X1, ⟨Lc1, hQ1, l1, y1, z1⟩, st1⟩ := superBack X0 hx hZ (y := (⟨"java/lang/AbstractStringBuilder", "append", "(Ljava/lang/String;)Ljava/lang/AbstractStringBuilder;"⟩ : MethodName)) hown (hw _ (List.mem_of_getElem? (i := 56) rfl)) (own_same (y := (⟨"java/lang/AbstractStringBuilder", "append", "(Ljava/lang/String;)Ljava/lang/AbstractStringBuilder;"⟩ : MethodName)) (hw _ (List.mem_of_getElem? (i := 57) rfl)) (by decide) (hw _ (List.mem_of_getElem? (i := 77) rfl)) rfl) (hw _ (List.mem_of_getElem? (i := 57) rfl)) (hw _ (List.mem_of_getElem? (i := 58) rfl)) (by decide) (backOf (W := 0) (rm9 l Z a0 hw [] a1 a2 t2 _ b _ _ (bs) (cn) (k) gC h0 n0 Z0 SC PC O0 E_a1 g_a1 n3 F_value F_coder V_b F_count E_a2 Fc_a2 Fv_a2 V_t2 g_b n1 n2 hy hbl hck n4 n5) hZ (hw _ (List.mem_of_getElem? (i := 60) rfl)) (hw _ (List.mem_of_getElem? (i := 42) rfl)) (by decide) (by decide)) e0 (Ins.self E_a1) (g := (mkF m 2 #[.val (.ref a1), .val (.ref a2)] [(.ref a2), (.ref a1)])) rfl (by rw [hml]; rfl) (hw _ (List.mem_of_getElem? (i := 60) rfl)) (argsL := [(.ref a2)]) (rest := []) (lenOf pd_7 rfl) rfl (by show 2 * 0 + _ ≤ _; exact Nat.le_of_eq rfl) (hb hby d8_2) (fun _ _ => ⟨rfl, e0, (by decide : 0 + 0 ≤ _), (by decide : 0 + 0 ≤ _)⟩)
  dsimp only [Pt.U, Pt.locs, Pt.cells, Pt.slots] at X1 l1 y1 z1 st1 hQ1
  subst l1 y1 z1
  obtain ⟨rfl, N1q, K1, Fv1, Fd1, Fn1, Vb1⟩ := hQ1
  have N1 := Fr.app N0 N1q
  obtain ⟨h1, e1⟩ : ∃ z, T1.heap = z := ⟨_, rfl⟩
  rw [e1] at K1 Fv1 Fd1 Fn1 Vb1
  replace Z0 := Nat.le_trans Z0 K1.1
  replace K0 := K0.trans K1 (allS (Or.inl (List.mem_of_getElem? (i := 0) rfl)) (allS (Or.inl (List.mem_of_getElem? (i := 1) rfl)) all0))
  replace O0 := O0.keep K1 (allS g_a1 (allS g_b all0))
  replace E_a1 := E_a1.keep K1
  replace E_a2 := E_a2.keep K1
  replace Fc_a2 := Fc_a2.keep K1 (ninS n4 (ninS n1 nin0))
  replace Fv_a2 := Fv_a2.keep K1 (ninS n4 (ninS n1 nin0))
  replace V_t2 := V_t2.keep K1 (ninS n5 (ninS n2 nin0))
  refine Go.tr (T' := T1) (pc' := 5) (L' := #[.val (.ref a1), .val (.ref a2)]) (S' := [(.ref a1)]) st1 ?_
  refine Go.st (T' := T1) (pc' := 6) (L' := #[.val (.ref a1), .val (.ref a2)]) (S' := []) (fun t_ k_ => XS.pop X1.here hx rfl (hb hby d8_5) rfl rfl k_) ?_
  refine Go.st (T' := T1) (pc' := 7) (L' := #[.val (.ref a1), .val (.ref a2)]) (S' := [(.ref a1)]) (fun t_ k_ => XS.aloadN X1.here hx rfl (hb hby d8_6) rfl rfl  k_) ?_
  exact Go.retO X1 hx hlk hret rfl (by simp [FieldType.isReference, Value.isRef]) (hb hby d8_7) (by decide) (by decide) (by rw [e1]; exact ⟨rfl, N1, K0, Fv1, Fd1, Fn1, Vb1⟩)
theorem d22_0 : decode jdk_68_method_68_code 0 = .ok (.getstatic 18, 3) := by decide +kernel
theorem d22_3 : decode jdk_68_method_68_code 3 = .ok (.ifCond .eq 14, 3) := by decide +kernel
theorem d22_6 : decode jdk_68_method_68_code 6 = .ok (.aload_n 0, 1) := by decide +kernel
theorem d22_7 : decode jdk_68_method_68_code 7 = .ok (.getfield 22, 3) := by decide +kernel
theorem d22_10 : decode jdk_68_method_68_code 10 = .ok (.ifCond .ne 7, 3) := by decide +kernel
theorem d22_13 : decode jdk_68_method_68_code 13 = .ok (.iconst 1, 1) := by decide +kernel
theorem d22_14 : decode jdk_68_method_68_code 14 = .ok (.goto 4, 3) := by decide +kernel
theorem d22_18 : decode jdk_68_method_68_code 18 = .ok (.ireturn, 1) := by decide +kernel
def Q22 (Z : State) (a1 : Addr) (gC : Int32) (h0 : Heap) (n0 : Nat) (v : Option Value) (h : Heap) (L : List Loc) : Prop := v = some (.int 1) ∧ Fr n0 L ∧ h = h0
def room22 : Room := { frames := 0, cells := 0, slots := 0, locals := 0 }
set_option maxRecDepth 65536 in
set_option maxHeartbeats 40000000 in
theorem rm22 (l : Launch) (Z : State) (a0 : Array Value) (hw : ∀ d ∈ tables_1, d.before a0 Z = true) (ws : List Jvm.Cond) (a1 : Addr) (gC : Int32) (h0 : Heap) (n0 : Nat) (Z0 : n0 ≤ h0.size) (SC : Sta Z Z.heap "java/lang/String" "COMPACT_STRINGS" "Z" (.int gC)) (PC : ¬ (gC = (0 : Int32))) (O0 : Old Z n0 h0) (F_coder : Fld Z h0 a1 "java/lang/AbstractStringBuilder" "coder" "B" (.int (0 : Int32))) :
    MetFree l (⟨"java/lang/AbstractStringBuilder", "isLatin1", "()Z"⟩ : MethodName) (head1 (Jvm.Cond.code (⟨"java/lang/AbstractStringBuilder", "isLatin1", "()Z"⟩ : MethodName) jdk_68_method_68_code 1 (some .boolean) :: ws) room22) (fun aa_ U_ => aa_ = #[(.ref a1)] ∧ Z.Warmed39 U_.vm ∧ U_.heap = h0) (fun _ _ _ _ _ => True) (fun _ U_ o_ W_ => ∃ v_ L_, o_ = .returned v_ ∧ (Q22 Z a1 gC h0 n0) v_ W_.heap L_ ∧ FrameEnd U_ o_ W_ L_ room22.cells room22.slots) := by
  refine own_met (Q := (Q22 Z a1 gC h0 n0)) (L0 := #[.val (.ref a1)]) (plainFor_of_name pn_1) (fun m => by first | (simp [entryFrame, mkF, argsToLocals, Value.category]; done) | rfl) ?_
  intro p e s m below meth c T0 X0 hx hby hml hown hnm hret hlk hZ e0
  have N0 := Fr.nil n0
  obtain ⟨T1, X1, e1, st1⟩ := getS2 X0 hx hZ hown (host := "") (Or.inl (hw _ (List.mem_of_getElem? (i := 45) rfl))) Via.refl e0 (SC.ext O0.2) (g := (mkF m 0 #[.val (.ref a1)] [])) rfl (hb hby d22_0)
  refine Go.st (T' := T1) (pc' := 3) (L' := #[.val (.ref a1)]) (S' := [(.int gC)]) st1 ?_
  refine Go.st (T' := T1) (pc' := 6) (L' := #[.val (.ref a1)]) (S' := []) (fun t_ k_ => XS.ifNo X1.here hx rfl (hb hby d22_3) rfl ((if0 _ _).trans (feq (PC : ¬ (gC = (0 : Int32)))).1) k_) ?_
  refine Go.st (T' := T1) (pc' := 7) (L' := #[.val (.ref a1)]) (S' := [(.ref a1)]) (fun t_ k_ => XS.aloadN X1.here hx rfl (hb hby d22_6) rfl rfl  k_) ?_
  obtain ⟨T2, X2, e2, st2⟩ := getF X1 hx hZ hown (host := "") (Or.inl (hw _ (List.mem_of_getElem? (i := 48) rfl))) Via.refl e1 F_coder (g := (mkF m 7 #[.val (.ref a1)] [(.ref a1)])) rfl rfl (hb hby d22_7)
  refine Go.st (T' := T2) (pc' := 10) (L' := #[.val (.ref a1)]) (S' := [(.int (0 : Int32))]) st2 ?_
  refine Go.st (T' := T2) (pc' := 13) (L' := #[.val (.ref a1)]) (S' := []) (fun t_ k_ => XS.ifNo X2.here hx rfl (hb hby d22_10) rfl ((if0 _ _).trans (teq (by decide : ((0 : Int32) = (0 : Int32)))).2) k_) ?_
  refine Go.st (T' := T2) (pc' := 14) (L' := #[.val (.ref a1)]) (S' := [(.int (1 : Int32))]) (fun t_ k_ => XS.iconst X2.here hx rfl (hb hby d22_13) k_) ?_
  refine Go.st (T' := T2) (pc' := 18) (L' := #[.val (.ref a1)]) (S' := [(.int (1 : Int32))]) (fun t_ k_ => XS.goto X2.here hx rfl (pc0 := 14) (pc' := 18) rfl (hb hby d22_14) (by decide) (by decide) k_) ?_
  exact Go.retN X2 hx hlk hret (by simp) (hb hby d22_18) (by decide) (by decide) (by rw [e2]; exact ⟨rfl, N0, rfl⟩)
theorem d7_0 : decode jdk_68_method_2_code 0 = .ok (.aload_n 0, 1) := by decide +kernel
theorem d7_1 : decode jdk_68_method_2_code 1 = .ok (.invokespecial 3, 3) := by decide +kernel
theorem d7_4 : decode jdk_68_method_2_code 4 = .ok (.getstatic 18, 3) := by decide +kernel
theorem d7_7 : decode jdk_68_method_2_code 7 = .ok (.ifCond .eq 18, 3) := by decide +kernel
theorem d7_10 : decode jdk_68_method_2_code 10 = .ok (.aload_n 0, 1) := by decide +kernel
theorem d7_11 : decode jdk_68_method_2_code 11 = .ok (.iload_n 1, 1) := by decide +kernel
theorem d7_12 : decode jdk_68_method_2_code 12 = .ok (.newarray .byte, 2) := by decide +kernel
theorem d7_14 : decode jdk_68_method_2_code 14 = .ok (.putfield 15, 3) := by decide +kernel
theorem d7_17 : decode jdk_68_method_2_code 17 = .ok (.aload_n 0, 1) := by decide +kernel
theorem d7_18 : decode jdk_68_method_2_code 18 = .ok (.iconst 0, 1) := by decide +kernel
theorem d7_19 : decode jdk_68_method_2_code 19 = .ok (.putfield 22, 3) := by decide +kernel
theorem d7_22 : decode jdk_68_method_2_code 22 = .ok (.goto 16, 3) := by decide +kernel
theorem d7_38 : decode jdk_68_method_2_code 38 = .ok (.return_, 1) := by decide +kernel
def Q7 (Z : State) (a1 : Addr) (h0 : Heap) (n0 : Nat) (v : Option Value) (h : Heap) (L : List Loc) : Prop := ∃ (b : Addr) (kb : ClassId), v = none ∧ Fr n0 L ∧ Keep h0 h [a1] ∧ n0 ≤ b ∧ h0.size ≤ b ∧ Fld Z h a1 "java/lang/AbstractStringBuilder" "value" "[B" (.ref b) ∧ Fld Z h a1 "java/lang/AbstractStringBuilder" "coder" "B" (.int (0 : Int32)) ∧ Fld Z h a1 "java/lang/AbstractStringBuilder" "count" "I" (.int (0 : Int32)) ∧ Arv Z h b kb .byte (16 : Int32) ([].map Value.int) (.int (0 : Int32))
def room7 : Room := { frames := 1, cells := 1, slots := 16, locals := 12 }
set_option maxRecDepth 65536 in
set_option maxHeartbeats 40000000 in
theorem rm7 (l : Launch) (Z : State) (a0 : Array Value) (hw : ∀ d ∈ tables_1, d.before a0 Z = true) (ws : List Jvm.Cond) (a1 : Addr) (gC : Int32) (h0 : Heap) (n0 : Nat) (Z0 : n0 ≤ h0.size) (E_a1 : Exa Z h0 a1 "java/lang/StringBuilder") (g_a1 : n0 ≤ a1) (SC : Sta Z Z.heap "java/lang/String" "COMPACT_STRINGS" "Z" (.int gC)) (PC : ¬ (gC = (0 : Int32))) (O0 : Old Z n0 h0) (F_value : Fld Z h0 a1 "java/lang/AbstractStringBuilder" "value" "[B" .null) (F_coder : Fld Z h0 a1 "java/lang/AbstractStringBuilder" "coder" "B" (.int (0 : Int32))) (F_count : Fld Z h0 a1 "java/lang/AbstractStringBuilder" "count" "I" (.int (0 : Int32))) :
    MetFree l (⟨"java/lang/AbstractStringBuilder", "<init>", "(I)V"⟩ : MethodName) (head1 (Jvm.Cond.code (⟨"java/lang/AbstractStringBuilder", "<init>", "(I)V"⟩ : MethodName) jdk_68_method_2_code 2 none :: ws) room7) (fun aa_ U_ => aa_ = #[(.ref a1), (.int (16 : Int32))] ∧ Z.Warmed39 U_.vm ∧ U_.heap = h0) (fun _ _ _ _ _ => True) (fun _ U_ o_ W_ => ∃ v_ L_, o_ = .returned v_ ∧ (Q7 Z a1 h0 n0) v_ W_.heap L_ ∧ FrameEnd U_ o_ W_ L_ room7.cells room7.slots) := by
  refine own_met (Q := (Q7 Z a1 h0 n0)) (L0 := #[.val (.ref a1), .val (.int (16 : Int32))]) (plainFor_of_name pn_1) (fun m => by first | (simp [entryFrame, mkF, argsToLocals, Value.category]; done) | rfl) ?_
  intro p e s m below meth c T0 X0 hx hby hml hown hnm hret hlk hZ e0
  have N0 := Fr.nil n0
  have K0 := Keep.refl h0 [a1]
  refine Go.st (T' := T0) (pc' := 1) (L' := #[.val (.ref a1), .val (.int (16 : Int32))]) (S' := [(.ref a1)]) (fun t_ k_ => XS.aloadN X0.here hx rfl (hb hby d7_0) rfl rfl  k_) ?_
  obtain ⟨T1, X1, e1, st1⟩ := initO X0 hx hZ hown (hw _ (List.mem_of_getElem? (i := 44) rfl)) (hw _ (List.mem_of_getElem? (i := 16) rfl)) (hw _ (List.mem_of_getElem? (i := 17) rfl)) e0 (g := (mkF m 1 #[.val (.ref a1), .val (.int (16 : Int32))] [(.ref a1)])) rfl (by rw [hml]; rfl) rfl (hb hby d7_1) (by decide) (W := 0) (by show 2 * 0 + _ ≤ _; exact Nat.le_of_eq rfl) (by decide)
  refine Go.st (T' := T1) (pc' := 4) (L' := #[.val (.ref a1), .val (.int (16 : Int32))]) (S' := []) st1 ?_
  obtain ⟨T2, X2, e2, st2⟩ := getS2 X1 hx hZ hown (host := "") (Or.inl (hw _ (List.mem_of_getElem? (i := 45) rfl))) Via.refl e1 (SC.ext O0.2) (g := (mkF m 4 #[.val (.ref a1), .val (.int (16 : Int32))] [])) rfl (hb hby d7_4)
  refine Go.st (T' := T2) (pc' := 7) (L' := #[.val (.ref a1), .val (.int (16 : Int32))]) (S' := [(.int gC)]) st2 ?_
  refine Go.st (T' := T2) (pc' := 10) (L' := #[.val (.ref a1), .val (.int (16 : Int32))]) (S' := []) (fun t_ k_ => XS.ifNo X2.here hx rfl (hb hby d7_7) rfl ((if0 _ _).trans (feq (PC : ¬ (gC = (0 : Int32)))).1) k_) ?_
  refine Go.st (T' := T2) (pc' := 11) (L' := #[.val (.ref a1), .val (.int (16 : Int32))]) (S' := [(.ref a1)]) (fun t_ k_ => XS.aloadN X2.here hx rfl (hb hby d7_10) rfl rfl  k_) ?_
  refine Go.st (T' := T2) (pc' := 12) (L' := #[.val (.ref a1), .val (.int (16 : Int32))]) (S' := [(.int (16 : Int32)), (.ref a1)]) (fun t_ k_ => XS.iloadN X2.here hx rfl (hb hby d7_11) rfl  k_) ?_
  obtain ⟨T3, h3, k3, X3, e3, E3, A3, st3⟩ := newP X2 hx hZ (hw _ (List.mem_of_getElem? (i := 19) rfl)) e2 (g := (mkF m 12 #[.val (.ref a1), .val (.int (16 : Int32))] [(.int (16 : Int32)), (.ref a1)])) rfl (hb hby d7_12) rfl (by decide) (cap := 16) (by decide) (by decide) (by decide) (by decide)
  obtain ⟨b3, g3⟩ : ∃ z, z = h0.size := ⟨_, rfl⟩
  rw [← g3] at A3 st3
  have ne_a1_b3 : a1 ≠ b3 := Nat.ne_of_lt (Nat.lt_of_lt_of_le E_a1.lt (Nat.le_of_eq g3.symm))
  have g_b3 : n0 ≤ b3 := Nat.le_trans Z0 (Nat.le_of_eq g3.symm)
  have sz_b3 : h0.size ≤ b3 := Nat.le_trans K0.1 (Nat.le_of_eq g3.symm)
  replace Z0 := Nat.le_trans Z0 E3.1
  replace K0 := K0.ext E3
  replace O0 := O0.ext E3
  replace E_a1 := E_a1.ext E3
  replace F_value := F_value.ext E3
  replace F_coder := F_coder.ext E3
  replace F_count := F_count.ext E3
  have V_b3 : Arv Z h3 b3 k3 .byte (16 : Int32) [(.int (0 : Int32)), (.int (0 : Int32)), (.int (0 : Int32)), (.int (0 : Int32)), (.int (0 : Int32)), (.int (0 : Int32)), (.int (0 : Int32)), (.int (0 : Int32)), (.int (0 : Int32)), (.int (0 : Int32)), (.int (0 : Int32)), (.int (0 : Int32)), (.int (0 : Int32)), (.int (0 : Int32)), (.int (0 : Int32)), (.int (0 : Int32))] (.int (0 : Int32)) := (Arv.new A3 (by decide)).pad (pad_rep [] (.int (0 : Int32)) 16)
  refine Go.st (T' := T3) (pc' := 14) (L' := #[.val (.ref a1), .val (.int (16 : Int32))]) (S' := [(.ref b3), (.ref a1)]) st3 ?_
  obtain ⟨T4, h4, X4, e4, W4, st4⟩ := putF X3 hx hZ hown (host := "") (Or.inl (hw _ (List.mem_of_getElem? (i := 46) rfl))) Via.refl e3 F_value E_a1 (Or.inl (hw _ (List.mem_of_getElem? (i := 47) rfl))) (hw _ (List.mem_of_getElem? (i := 33) rfl)) (ty := (.array .byte)) (by decide) rfl rfl (g := (mkF m 14 #[.val (.ref a1), .val (.int (16 : Int32))] [(.ref b3), (.ref a1)])) rfl rfl (hb hby d7_14)
  replace Z0 := Nat.le_trans Z0 (Keep.of_wr W4).1
  replace K0 := K0.wr W4 (Or.inl (List.mem_of_getElem? (i := 0) rfl))
  replace O0 := O0.wr W4 g_a1
  replace E_a1 := E_a1.wr W4
  replace F_coder := F_coder.other W4 (Or.inr (slot_ne (Or.inl (hw _ (List.mem_of_getElem? (i := 49) rfl))) (Or.inl (hw _ (List.mem_of_getElem? (i := 47) rfl))) (by decide) (t := .byte) (t' := (.array .byte)) (by decide) (by decide)))
  replace F_count := F_count.other W4 (Or.inr (slot_ne (Or.inl (hw _ (List.mem_of_getElem? (i := 73) rfl))) (Or.inl (hw _ (List.mem_of_getElem? (i := 47) rfl))) (by decide) (t := .int) (t' := (.array .byte)) (by decide) (by decide)))
  replace V_b3 := V_b3.other W4 (Ne.symm ne_a1_b3)
  replace F_value := F_value.same W4
  have N4 := Fr.snoc X4 N0 g_a1
  refine Go.st (T' := T4) (pc' := 17) (L' := #[.val (.ref a1), .val (.int (16 : Int32))]) (S' := []) st4 ?_
  refine Go.st (T' := T4) (pc' := 18) (L' := #[.val (.ref a1), .val (.int (16 : Int32))]) (S' := [(.ref a1)]) (fun t_ k_ => XS.aloadN X4.here hx rfl (hb hby d7_17) rfl rfl  k_) ?_
  refine Go.st (T' := T4) (pc' := 19) (L' := #[.val (.ref a1), .val (.int (16 : Int32))]) (S' := [(.int (0 : Int32)), (.ref a1)]) (fun t_ k_ => XS.iconst X4.here hx rfl (hb hby d7_18) k_) ?_
  obtain ⟨T5, h5, X5, e5, W5, st5⟩ := putFN X4 hx hZ hown (hw _ (List.mem_of_getElem? (i := 48) rfl)) Via.refl e4 F_coder E_a1 (Or.inl (hw _ (List.mem_of_getElem? (i := 49) rfl))) (hw _ (List.mem_of_getElem? (i := 33) rfl)) (ty := .byte) (v' := (.int (0 : Int32))) (by decide) rfl rfl (g := (mkF m 19 #[.val (.ref a1), .val (.int (16 : Int32))] [(.int (0 : Int32)), (.ref a1)])) rfl rfl (hb hby d7_19)
  replace Z0 := Nat.le_trans Z0 (Keep.of_wr W5).1
  replace K0 := K0.wr W5 (Or.inl (List.mem_of_getElem? (i := 0) rfl))
  replace O0 := O0.wr W5 g_a1
  replace E_a1 := E_a1.wr W5
  replace F_value := F_value.other W5 (Or.inr (slot_ne (Or.inl (hw _ (List.mem_of_getElem? (i := 47) rfl))) (Or.inl (hw _ (List.mem_of_getElem? (i := 49) rfl))) (by decide) (t := (.array .byte)) (t' := .byte) (by decide) (by decide)))
  replace F_count := F_count.other W5 (Or.inr (slot_ne (Or.inl (hw _ (List.mem_of_getElem? (i := 73) rfl))) (Or.inl (hw _ (List.mem_of_getElem? (i := 49) rfl))) (by decide) (t := .int) (t' := .byte) (by decide) (by decide)))
  replace V_b3 := V_b3.other W5 (Ne.symm ne_a1_b3)
  replace F_coder := F_coder.same W5
  have N5 := Fr.snoc X5 N4 g_a1
  refine Go.st (T' := T5) (pc' := 22) (L' := #[.val (.ref a1), .val (.int (16 : Int32))]) (S' := []) st5 ?_
  refine Go.st (T' := T5) (pc' := 38) (L' := #[.val (.ref a1), .val (.int (16 : Int32))]) (S' := []) (fun t_ k_ => XS.goto X5.here hx rfl (pc0 := 22) (pc' := 38) rfl (hb hby d7_22) (by decide) (by decide) k_) ?_
  exact Go.retV X5 hx hlk hret (hb hby d7_38) (by decide) (by decide) (by rw [e5]; exact ⟨b3, _, rfl, N5, K0, g_b3, sz_b3, F_value, F_coder, F_count, V_b3.pad (fun i => (pad_rep [] _ 16 i).symm)⟩)
theorem d6_0 : decode jdk_67_method_1_code 0 = .ok (.aload_n 0, 1) := by decide +kernel
theorem d6_1 : decode jdk_67_method_1_code 1 = .ok (.bipush 16, 2) := by decide +kernel
theorem d6_3 : decode jdk_67_method_1_code 3 = .ok (.invokespecial 1, 3) := by decide +kernel
theorem d6_6 : decode jdk_67_method_1_code 6 = .ok (.return_, 1) := by decide +kernel
def Q6 (Z : State) (a1 : Addr) (h0 : Heap) (n0 : Nat) (v : Option Value) (h : Heap) (L : List Loc) : Prop := ∃ (b : Addr) (kb : ClassId), v = none ∧ Fr n0 L ∧ Keep h0 h [a1] ∧ n0 ≤ b ∧ h0.size ≤ b ∧ Fld Z h a1 "java/lang/AbstractStringBuilder" "value" "[B" (.ref b) ∧ Fld Z h a1 "java/lang/AbstractStringBuilder" "coder" "B" (.int (0 : Int32)) ∧ Fld Z h a1 "java/lang/AbstractStringBuilder" "count" "I" (.int (0 : Int32)) ∧ Arv Z h b kb .byte (16 : Int32) ([].map Value.int) (.int (0 : Int32))
def room6 : Room := { frames := 2, cells := 1, slots := 16, locals := 25 }
set_option maxRecDepth 65536 in
set_option maxHeartbeats 40000000 in
theorem rm6 (l : Launch) (Z : State) (a0 : Array Value) (hw : ∀ d ∈ tables_1, d.before a0 Z = true) (ws : List Jvm.Cond) (a1 : Addr) (gC : Int32) (h0 : Heap) (n0 : Nat) (Z0 : n0 ≤ h0.size) (E_a1 : Exa Z h0 a1 "java/lang/StringBuilder") (g_a1 : n0 ≤ a1) (SC : Sta Z Z.heap "java/lang/String" "COMPACT_STRINGS" "Z" (.int gC)) (PC : ¬ (gC = (0 : Int32))) (O0 : Old Z n0 h0) (F_value : Fld Z h0 a1 "java/lang/AbstractStringBuilder" "value" "[B" .null) (F_coder : Fld Z h0 a1 "java/lang/AbstractStringBuilder" "coder" "B" (.int (0 : Int32))) (F_count : Fld Z h0 a1 "java/lang/AbstractStringBuilder" "count" "I" (.int (0 : Int32))) :
    MetFree l (⟨"java/lang/StringBuilder", "<init>", "()V"⟩ : MethodName) (head1 (Jvm.Cond.code (⟨"java/lang/StringBuilder", "<init>", "()V"⟩ : MethodName) jdk_67_method_1_code 1 none :: ws) room6) (fun aa_ U_ => aa_ = #[(.ref a1)] ∧ Z.Warmed39 U_.vm ∧ U_.heap = h0) (fun _ _ _ _ _ => True) (fun _ U_ o_ W_ => ∃ v_ L_, o_ = .returned v_ ∧ (Q6 Z a1 h0 n0) v_ W_.heap L_ ∧ FrameEnd U_ o_ W_ L_ room6.cells room6.slots) := by
  refine own_met (Q := (Q6 Z a1 h0 n0)) (L0 := #[.val (.ref a1)]) (plainFor_of_name pn_2) (fun m => by first | (simp [entryFrame, mkF, argsToLocals, Value.category]; done) | rfl) ?_
  intro p e s m below meth c T0 X0 hx hby hml hown hnm hret hlk hZ e0
  have N0 := Fr.nil n0
  have K0 := Keep.refl h0 [a1]
  refine Go.st (T' := T0) (pc' := 1) (L' := #[.val (.ref a1)]) (S' := [(.ref a1)]) (fun t_ k_ => XS.aloadN X0.here hx rfl (hb hby d6_0) rfl rfl  k_) ?_
  refine Go.st (T' := T0) (pc' := 3) (L' := #[.val (.ref a1)]) (S' := [(.int (16 : Int32)), (.ref a1)]) (fun t_ k_ => XS.bipush X0.here hx rfl (hb hby d6_1) k_) ?_
  obtain ⟨_, _, ⟨T1, L1, k1, n1⟩, -, X1, ⟨Lc1, hQ1, l1, y1, z1⟩, st1⟩ := X0.specialBack hx (y := (⟨"java/lang/AbstractStringBuilder", "<init>", "(I)V"⟩ : MethodName)) rfl hown (mvT hZ (hw _ (List.mem_of_getElem? (i := 38) rfl))) (mvT hZ (hw _ (List.mem_of_getElem? (i := 39) rfl))) (mvT hZ (hw _ (List.mem_of_getElem? (i := 43) rfl))) (by decide) (backOf (W := 0) (rm7 l Z a0 hw [] a1 gC h0 n0 Z0 E_a1 g_a1 SC PC O0 F_value F_coder F_count) hZ (hw _ (List.mem_of_getElem? (i := 43) rfl)) (hw _ (List.mem_of_getElem? (i := 42) rfl)) (by decide) (by decide)) (g := (mkF m 3 #[.val (.ref a1)] [(.int (16 : Int32)), (.ref a1)])) rfl (by rw [hml]; rfl) (Steps.refl _) (a := a1) (argsL := [(.int (16 : Int32))]) (rest := []) (lenOf pd_5 rfl) rfl (by show 2 * 0 + _ ≤ _; exact Nat.le_of_eq rfl) (hb hby d6_3) (fun _ _ => ⟨rfl, e0, (by decide : 0 + 1 ≤ _), (by decide : 0 + 16 ≤ _)⟩)
  dsimp only [Pt.U, Pt.locs, Pt.cells, Pt.slots] at X1 l1 y1 z1 st1 hQ1
  subst l1 y1 z1
  obtain ⟨bb1, kb1, rfl, N1q, K1, g_bb1, lt1, Fv1, Fd1, Fn1, Vb1⟩ := hQ1
  have N1 := Fr.app N0 N1q
  have ne_a1_bb1 : a1 ≠ bb1 := Nat.ne_of_lt (Nat.lt_of_lt_of_le E_a1.lt lt1)
  have sz_bb1 : h0.size ≤ bb1 := Nat.le_trans K0.1 lt1
  obtain ⟨h1, e1⟩ : ∃ z, T1.heap = z := ⟨_, rfl⟩
  rw [e1] at K1 Fv1 Fd1 Fn1 Vb1
  replace Z0 := Nat.le_trans Z0 K1.1
  replace K0 := K0.trans K1 (allS (Or.inl (List.mem_of_getElem? (i := 0) rfl)) all0)
  replace O0 := O0.keep K1 (allS g_a1 all0)
  replace E_a1 := E_a1.keep K1
  refine Go.tr (T' := T1) (pc' := 6) (L' := #[.val (.ref a1)]) (S' := []) st1 ?_
  exact Go.retV X1 hx hlk hret (hb hby d6_6) (by decide) (by decide) (by rw [e1]; exact ⟨bb1, _, rfl, N1, K0, g_bb1, sz_bb1, Fv1, Fd1, Fn1, Vb1⟩)
theorem d19_0 : decode jdk_68_method_64_code 0 = .ok (.aload_n 0, 1) := by decide +kernel
theorem d19_1 : decode jdk_68_method_64_code 1 = .ok (.getfield 15, 3) := by decide +kernel
theorem d19_4 : decode jdk_68_method_64_code 4 = .ok (.areturn, 1) := by decide +kernel
def Q19 (Z : State) (a1 : Addr) (x1 : Addr) (h0 : Heap) (n0 : Nat) (v : Option Value) (h : Heap) (L : List Loc) : Prop := v = some (.ref x1) ∧ Fr n0 L ∧ h = h0
def room19 : Room := { frames := 0, cells := 0, slots := 0, locals := 0 }
set_option maxRecDepth 65536 in
set_option maxHeartbeats 40000000 in
theorem rm19 (l : Launch) (Z : State) (a0 : Array Value) (hw : ∀ d ∈ tables_1, d.before a0 Z = true) (ws : List Jvm.Cond) (a1 : Addr) (x1 : Addr) (h0 : Heap) (n0 : Nat) (Z0 : n0 ≤ h0.size) (F1 : Fld Z h0 a1 "java/lang/AbstractStringBuilder" "value" "[B" (.ref x1)) :
    MetFree l (⟨"java/lang/AbstractStringBuilder", "getValue", "()[B"⟩ : MethodName) (head1 (Jvm.Cond.code (⟨"java/lang/AbstractStringBuilder", "getValue", "()[B"⟩ : MethodName) jdk_68_method_64_code 1 (some (.array .byte)) :: ws) room19) (fun aa_ U_ => aa_ = #[(.ref a1)] ∧ Z.Warmed39 U_.vm ∧ U_.heap = h0) (fun _ _ _ _ _ => True) (fun _ U_ o_ W_ => ∃ v_ L_, o_ = .returned v_ ∧ (Q19 Z a1 x1 h0 n0) v_ W_.heap L_ ∧ FrameEnd U_ o_ W_ L_ room19.cells room19.slots) := by
  refine own_met (Q := (Q19 Z a1 x1 h0 n0)) (L0 := #[.val (.ref a1)]) (plainFor_of_name pn_1) (fun m => by first | (simp [entryFrame, mkF, argsToLocals, Value.category]; done) | rfl) ?_
  intro p e s m below meth c T0 X0 hx hby hml hown hnm hret hlk hZ e0
  have N0 := Fr.nil n0
  refine Go.st (T' := T0) (pc' := 1) (L' := #[.val (.ref a1)]) (S' := [(.ref a1)]) (fun t_ k_ => XS.aloadN X0.here hx rfl (hb hby d19_0) rfl rfl  k_) ?_
  obtain ⟨T1, X1, e1, st1⟩ := getF X0 hx hZ hown (host := "") (Or.inl (hw _ (List.mem_of_getElem? (i := 46) rfl))) Via.refl e0 F1 (g := (mkF m 1 #[.val (.ref a1)] [(.ref a1)])) rfl rfl (hb hby d19_1)
  refine Go.st (T' := T1) (pc' := 4) (L' := #[.val (.ref a1)]) (S' := [(.ref x1)]) st1 ?_
  exact Go.retO X1 hx hlk hret rfl (by simp [FieldType.isReference, Value.isRef]) (hb hby d19_4) (by decide) (by decide) (by rw [e1]; exact ⟨rfl, N0, rfl⟩)
theorem d21_0 : decode jdk_68_method_6_code 0 = .ok (.aload_n 0, 1) := by decide +kernel
theorem d21_1 : decode jdk_68_method_6_code 1 = .ok (.getfield 79, 3) := by decide +kernel
theorem d21_4 : decode jdk_68_method_6_code 4 = .ok (.ireturn, 1) := by decide +kernel
def Q21 (Z : State) (a1 : Addr) (cn : Nat) (h0 : Heap) (n0 : Nat) (v : Option Value) (h : Heap) (L : List Loc) : Prop := v = some (.int (cn.toInt32)) ∧ Fr n0 L ∧ h = h0
def room21 : Room := { frames := 0, cells := 0, slots := 0, locals := 0 }
set_option maxRecDepth 65536 in
set_option maxHeartbeats 40000000 in
theorem rm21 (l : Launch) (Z : State) (a0 : Array Value) (hw : ∀ d ∈ tables_1, d.before a0 Z = true) (ws : List Jvm.Cond) (a1 : Addr) (cn : Nat) (h0 : Heap) (n0 : Nat) (Z0 : n0 ≤ h0.size) (E_a1 : Exa Z h0 a1 "java/lang/StringBuilder") (F_count : Fld Z h0 a1 "java/lang/AbstractStringBuilder" "count" "I" (.int (cn.toInt32))) :
    MetFree l (⟨"java/lang/AbstractStringBuilder", "length", "()I"⟩ : MethodName) (head1 (Jvm.Cond.code (⟨"java/lang/AbstractStringBuilder", "length", "()I"⟩ : MethodName) jdk_68_method_6_code 1 (some .int) :: ws) room21) (fun aa_ U_ => aa_ = #[(.ref a1)] ∧ Z.Warmed39 U_.vm ∧ U_.heap = h0) (fun _ _ _ _ _ => True) (fun _ U_ o_ W_ => ∃ v_ L_, o_ = .returned v_ ∧ (Q21 Z a1 cn h0 n0) v_ W_.heap L_ ∧ FrameEnd U_ o_ W_ L_ room21.cells room21.slots) := by
  refine own_met (Q := (Q21 Z a1 cn h0 n0)) (L0 := #[.val (.ref a1)]) (plainFor_of_name pn_1) (fun m => by first | (simp [entryFrame, mkF, argsToLocals, Value.category]; done) | rfl) ?_
  intro p e s m below meth c T0 X0 hx hby hml hown hnm hret hlk hZ e0
  have N0 := Fr.nil n0
  refine Go.st (T' := T0) (pc' := 1) (L' := #[.val (.ref a1)]) (S' := [(.ref a1)]) (fun t_ k_ => XS.aloadN X0.here hx rfl (hb hby d21_0) rfl rfl  k_) ?_
  obtain ⟨T1, X1, e1, st1⟩ := getF X0 hx hZ hown (host := "") (Or.inl (hw _ (List.mem_of_getElem? (i := 72) rfl))) Via.refl e0 F_count (g := (mkF m 1 #[.val (.ref a1)] [(.ref a1)])) rfl rfl (hb hby d21_1)
  refine Go.st (T' := T1) (pc' := 4) (L' := #[.val (.ref a1)]) (S' := [(.int (cn.toInt32))]) st1 ?_
  exact Go.retO X1 hx hlk hret rfl (by simp [FieldType.isReference, Value.isRef]) (hb hby d21_4) (by decide) (by decide) (by rw [e1]; exact ⟨rfl, N0, rfl⟩)
theorem d20_0 : decode jdk_67_method_93_code 0 = .ok (.aload_n 0, 1) := by decide +kernel
theorem d20_1 : decode jdk_67_method_93_code 1 = .ok (.invokespecial 343, 3) := by decide +kernel
theorem d20_4 : decode jdk_67_method_93_code 4 = .ok (.ireturn, 1) := by decide +kernel
def Q20 (Z : State) (a1 : Addr) (cn : Nat) (h0 : Heap) (n0 : Nat) (v : Option Value) (h : Heap) (L : List Loc) : Prop := v = some (.int (cn.toInt32)) ∧ Fr n0 L ∧ h = h0
def room20 : Room := { frames := 1, cells := 0, slots := 0, locals := 12 }
set_option maxRecDepth 65536 in
set_option maxHeartbeats 40000000 in
theorem rm20 (l : Launch) (Z : State) (a0 : Array Value) (hw : ∀ d ∈ tables_1, d.before a0 Z = true) (ws : List Jvm.Cond) (a1 : Addr) (cn : Nat) (h0 : Heap) (n0 : Nat) (Z0 : n0 ≤ h0.size) (E_a1 : Exa Z h0 a1 "java/lang/StringBuilder") (F_count : Fld Z h0 a1 "java/lang/AbstractStringBuilder" "count" "I" (.int (cn.toInt32))) :
    MetFree l (⟨"java/lang/StringBuilder", "length", "()I"⟩ : MethodName) (head1 (Jvm.Cond.code (⟨"java/lang/StringBuilder", "length", "()I"⟩ : MethodName) jdk_67_method_93_code 1 (some .int) :: ws) room20) (fun aa_ U_ => aa_ = #[(.ref a1)] ∧ Z.Warmed39 U_.vm ∧ U_.heap = h0) (fun _ _ _ _ _ => True) (fun _ U_ o_ W_ => ∃ v_ L_, o_ = .returned v_ ∧ (Q20 Z a1 cn h0 n0) v_ W_.heap L_ ∧ FrameEnd U_ o_ W_ L_ room20.cells room20.slots) := by
  refine own_met (Q := (Q20 Z a1 cn h0 n0)) (L0 := #[.val (.ref a1)]) (plainFor_of_name pn_2) (fun m => by first | (simp [entryFrame, mkF, argsToLocals, Value.category]; done) | rfl) ?_
  intro p e s m below meth c T0 X0 hx hby hml hown hnm hret hlk hZ e0
  have N0 := Fr.nil n0
  refine Go.st (T' := T0) (pc' := 1) (L' := #[.val (.ref a1)]) (S' := [(.ref a1)]) (fun t_ k_ => XS.aloadN X0.here hx rfl (hb hby d20_0) rfl rfl  k_) ?_
  obtain ⟨_, _, ⟨T1, L1, k1, n1⟩, -, X1, ⟨Lc1, hQ1, l1, y1, z1⟩, st1⟩ := superBack X0 hx hZ (y := (⟨"java/lang/AbstractStringBuilder", "length", "()I"⟩ : MethodName)) hown (hw _ (List.mem_of_getElem? (i := 123) rfl)) (own_same (y := (⟨"java/lang/AbstractStringBuilder", "length", "()I"⟩ : MethodName)) (hw _ (List.mem_of_getElem? (i := 119) rfl)) (by decide) (hw _ (List.mem_of_getElem? (i := 77) rfl)) rfl) (hw _ (List.mem_of_getElem? (i := 119) rfl)) (hw _ (List.mem_of_getElem? (i := 58) rfl)) (by decide) (backOf (W := 0) (rm21 l Z a0 hw [] a1 (cn) h0 n0 Z0 E_a1 F_count) hZ (hw _ (List.mem_of_getElem? (i := 124) rfl)) (hw _ (List.mem_of_getElem? (i := 42) rfl)) (by decide) (by decide)) e0 (Ins.self E_a1) (g := (mkF m 1 #[.val (.ref a1)] [(.ref a1)])) rfl (by rw [hml]; rfl) (hw _ (List.mem_of_getElem? (i := 124) rfl)) (argsL := []) (rest := []) (lenOf pd_4 rfl) rfl (by show 2 * 0 + _ ≤ _; exact Nat.le_of_eq rfl) (hb hby d20_1) (fun _ _ => ⟨rfl, e0, (by decide : 0 + 0 ≤ _), (by decide : 0 + 0 ≤ _)⟩)
  dsimp only [Pt.U, Pt.locs, Pt.cells, Pt.slots] at X1 l1 y1 z1 st1 hQ1
  subst l1 y1 z1
  obtain ⟨rfl, N1q, e1⟩ := hQ1
  have N1 := Fr.app N0 N1q
  refine Go.tr (T' := T1) (pc' := 4) (L' := #[.val (.ref a1)]) (S' := [(.int (cn.toInt32))]) st1 ?_
  exact Go.retO X1 hx hlk hret rfl (by simp [FieldType.isReference, Value.isRef]) (hb hby d20_4) (by decide) (by decide) (by rw [e1]; exact ⟨rfl, N1, rfl⟩)
theorem d25_0 : decode jdk_65_method_131_code 0 = .ok (.iload_n 1, 1) := by decide +kernel
theorem d25_1 : decode jdk_65_method_131_code 1 = .ok (.iload_n 0, 1) := by decide +kernel
theorem d25_2 : decode jdk_65_method_131_code 2 = .ok (.if_icmp .ge 35, 3) := by decide +kernel
theorem d25_37 : decode jdk_65_method_131_code 37 = .ok (.return_, 1) := by decide +kernel
theorem pn_3 : plainName "java/util/Arrays" = true := by first | (simp [plainName, overriddenIn]; done) | decide +kernel
def Q25 (Z : State) (cn : Nat) (h0 : Heap) (n0 : Nat) (v : Option Value) (h : Heap) (L : List Loc) : Prop := v = none ∧ Fr n0 L ∧ h = h0
def room25 : Room := { frames := 0, cells := 0, slots := 0, locals := 0 }
set_option maxRecDepth 65536 in
set_option maxHeartbeats 40000000 in
theorem rm25 (l : Launch) (Z : State) (a0 : Array Value) (hw : ∀ d ∈ tables_1, d.before a0 Z = true) (ws : List Jvm.Cond) (cn : Nat) (h0 : Heap) (n0 : Nat) (Z0 : n0 ≤ h0.size) (hc : cn < 16) :
    MetFree l (⟨"java/util/Arrays", "checkLength", "(II)V"⟩ : MethodName) (head1 (Jvm.Cond.code (⟨"java/util/Arrays", "checkLength", "(II)V"⟩ : MethodName) jdk_65_method_131_code 2 none :: ws) room25) (fun aa_ U_ => aa_ = #[(.int (0 : Int32)), (.int (cn.toInt32))] ∧ Z.Warmed39 U_.vm ∧ U_.heap = h0) (fun _ _ _ _ _ => True) (fun _ U_ o_ W_ => ∃ v_ L_, o_ = .returned v_ ∧ (Q25 Z cn h0 n0) v_ W_.heap L_ ∧ FrameEnd U_ o_ W_ L_ room25.cells room25.slots) := by
  refine own_met (Q := (Q25 Z cn h0 n0)) (L0 := #[.val (.int (0 : Int32)), .val (.int (cn.toInt32))]) (plainFor_of_name pn_3) (fun m => by first | (simp [entryFrame, mkF, argsToLocals, Value.category]; done) | rfl) ?_
  intro p e s m below meth c T0 X0 hx hby hml hown hnm hret hlk hZ e0
  have N0 := Fr.nil n0
  refine Go.st (T' := T0) (pc' := 1) (L' := #[.val (.int (0 : Int32)), .val (.int (cn.toInt32))]) (S' := [(.int (cn.toInt32))]) (fun t_ k_ => XS.iloadN X0.here hx rfl (hb hby d25_0) rfl  k_) ?_
  refine Go.st (T' := T0) (pc' := 2) (L' := #[.val (.int (0 : Int32)), .val (.int (cn.toInt32))]) (S' := [(.int (0 : Int32)), (.int (cn.toInt32))]) (fun t_ k_ => XS.iloadN X0.here hx rfl (hb hby d25_1) rfl  k_) ?_
  refine Go.st (T' := T0) (pc' := 37) (L' := #[.val (.int (0 : Int32)), .val (.int (cn.toInt32))]) (S' := []) (fun t_ k_ => XS.icmpYes X0.here hx rfl (pc0 := 2) (pc' := 37) rfl (hb hby d25_2) rfl (flt ((own_lt16f ⟨cn, hc⟩).2.2.1 : ¬ ((cn.toInt32) < (0 : Int32)))).2.1 (by decide) (by decide) k_) ?_
  exact Go.retV X0 hx hlk hret (hb hby d25_37) (by decide) (by decide) (by rw [e0]; exact ⟨rfl, N0, rfl⟩)
theorem d26_0 : decode jdk_29_method_69_code 0 = .ok (.iload_n 0, 1) := by decide +kernel
theorem d26_1 : decode jdk_29_method_69_code 1 = .ok (.iload_n 1, 1) := by decide +kernel
theorem d26_2 : decode jdk_29_method_69_code 2 = .ok (.if_icmp .gt 7, 3) := by decide +kernel
theorem d26_9 : decode jdk_29_method_69_code 9 = .ok (.iload_n 1, 1) := by decide +kernel
theorem d26_10 : decode jdk_29_method_69_code 10 = .ok (.ireturn, 1) := by decide +kernel
def Q26 (Z : State) (cn : Nat) (h0 : Heap) (n0 : Nat) (v : Option Value) (h : Heap) (L : List Loc) : Prop := v = some (.int (cn.toInt32)) ∧ Fr n0 L ∧ h = h0
def room26 : Room := { frames := 0, cells := 0, slots := 0, locals := 0 }
set_option maxRecDepth 65536 in
set_option maxHeartbeats 40000000 in
theorem rm26 (l : Launch) (Z : State) (a0 : Array Value) (hw : ∀ d ∈ tables_1, d.before a0 Z = true) (ws : List Jvm.Cond) (cn : Nat) (h0 : Heap) (n0 : Nat) (Z0 : n0 ≤ h0.size) (hc : cn < 16) :
    MetFree l (⟨"java/lang/Math", "min", "(II)I"⟩ : MethodName) (head1 (Jvm.Cond.code (⟨"java/lang/Math", "min", "(II)I"⟩ : MethodName) jdk_29_method_69_code 2 (some .int) :: ws) room26) (fun aa_ U_ => aa_ = #[(.int (16 : Int32)), (.int (cn.toInt32))] ∧ Z.Warmed39 U_.vm ∧ U_.heap = h0) (fun _ _ _ _ _ => True) (fun _ U_ o_ W_ => ∃ v_ L_, o_ = .returned v_ ∧ (Q26 Z cn h0 n0) v_ W_.heap L_ ∧ FrameEnd U_ o_ W_ L_ room26.cells room26.slots) := by
  refine own_met (Q := (Q26 Z cn h0 n0)) (L0 := #[.val (.int (16 : Int32)), .val (.int (cn.toInt32))]) (Jvm.Free.JP.mathPlain rfl (by decide +kernel)) (fun m => by first | (simp [entryFrame, mkF, argsToLocals, Value.category]; done) | rfl) ?_
  intro p e s m below meth c T0 X0 hx hby hml hown hnm hret hlk hZ e0
  have N0 := Fr.nil n0
  refine Go.st (T' := T0) (pc' := 1) (L' := #[.val (.int (16 : Int32)), .val (.int (cn.toInt32))]) (S' := [(.int (16 : Int32))]) (fun t_ k_ => XS.iloadN X0.here hx rfl (hb hby d26_0) rfl  k_) ?_
  refine Go.st (T' := T0) (pc' := 2) (L' := #[.val (.int (16 : Int32)), .val (.int (cn.toInt32))]) (S' := [(.int (cn.toInt32)), (.int (16 : Int32))]) (fun t_ k_ => XS.iloadN X0.here hx rfl (hb hby d26_1) rfl  k_) ?_
  refine Go.st (T' := T0) (pc' := 9) (L' := #[.val (.int (16 : Int32)), .val (.int (cn.toInt32))]) (S' := []) (fun t_ k_ => XS.icmpYes X0.here hx rfl (pc0 := 2) (pc' := 9) rfl (hb hby d26_2) rfl (tlt ((own_lt16f ⟨cn, hc⟩).2.1 : ((cn.toInt32) < (16 : Int32)))).2.2.1 (by decide) (by decide) k_) ?_
  refine Go.st (T' := T0) (pc' := 10) (L' := #[.val (.int (16 : Int32)), .val (.int (cn.toInt32))]) (S' := [(.int (cn.toInt32))]) (fun t_ k_ => XS.iloadN X0.here hx rfl (hb hby d26_9) rfl  k_) ?_
  exact Go.retO X0 hx hlk hret rfl (by simp [FieldType.isReference, Value.isRef]) (hb hby d26_10) (by decide) (by decide) (by rw [e0]; exact ⟨rfl, N0, rfl⟩)
theorem d24_0 : decode jdk_65_method_133_code 0 = .ok (.iload_n 1, 1) := by decide +kernel
theorem d24_1 : decode jdk_65_method_133_code 1 = .ok (.iload_n 2, 1) := by decide +kernel
theorem d24_2 : decode jdk_65_method_133_code 2 = .ok (.invokestatic 343, 3) := by decide +kernel
theorem d24_5 : decode jdk_65_method_133_code 5 = .ok (.iload_n 2, 1) := by decide +kernel
theorem d24_6 : decode jdk_65_method_133_code 6 = .ok (.iload_n 1, 1) := by decide +kernel
theorem d24_7 : decode jdk_65_method_133_code 7 = .ok (.isub, 1) := by decide +kernel
theorem d24_8 : decode jdk_65_method_133_code 8 = .ok (.istore_n 3, 1) := by decide +kernel
theorem d24_9 : decode jdk_65_method_133_code 9 = .ok (.iload_n 3, 1) := by decide +kernel
theorem d24_10 : decode jdk_65_method_133_code 10 = .ok (.newarray .byte, 2) := by decide +kernel
theorem d24_12 : decode jdk_65_method_133_code 12 = .ok (.astore 4, 2) := by decide +kernel
theorem d24_14 : decode jdk_65_method_133_code 14 = .ok (.aload_n 0, 1) := by decide +kernel
theorem d24_15 : decode jdk_65_method_133_code 15 = .ok (.iload_n 1, 1) := by decide +kernel
theorem d24_16 : decode jdk_65_method_133_code 16 = .ok (.aload 4, 2) := by decide +kernel
theorem d24_18 : decode jdk_65_method_133_code 18 = .ok (.iconst 0, 1) := by decide +kernel
theorem d24_19 : decode jdk_65_method_133_code 19 = .ok (.aload_n 0, 1) := by decide +kernel
theorem d24_20 : decode jdk_65_method_133_code 20 = .ok (.arraylength, 1) := by decide +kernel
theorem d24_21 : decode jdk_65_method_133_code 21 = .ok (.iload_n 1, 1) := by decide +kernel
theorem d24_22 : decode jdk_65_method_133_code 22 = .ok (.isub, 1) := by decide +kernel
theorem d24_23 : decode jdk_65_method_133_code 23 = .ok (.iload_n 3, 1) := by decide +kernel
theorem d24_24 : decode jdk_65_method_133_code 24 = .ok (.invokestatic 304, 3) := by decide +kernel
theorem d24_27 : decode jdk_65_method_133_code 27 = .ok (.invokestatic 150, 3) := by decide +kernel
theorem d24_30 : decode jdk_65_method_133_code 30 = .ok (.aload 4, 2) := by decide +kernel
theorem d24_32 : decode jdk_65_method_133_code 32 = .ok (.areturn, 1) := by decide +kernel
theorem pd_8 : parseMethodDescriptor "(II)V" = some ⟨[.int, .int], none⟩ := by decide +kernel
theorem pd_9 : parseMethodDescriptor "(II)I" = some ⟨[.int, .int], some .int⟩ := by decide +kernel
def Q24 (Z : State) (ys : List Int32) (cn : Nat) (h0 : Heap) (n0 : Nat) (v : Option Value) (h : Heap) (L : List Loc) : Prop := ∃ (t : Addr) (kt : ClassId), v = some (.ref t) ∧ Fr n0 L ∧ Keep h0 h [] ∧ n0 ≤ t ∧ h0.size ≤ t ∧ Arv Z h t kt .byte (cn.toInt32) (ys.map Value.int) (.int (0 : Int32))
def room24 : Room := { frames := 1, cells := 1, slots := 16, locals := 40 }
set_option maxRecDepth 65536 in
set_option maxHeartbeats 40000000 in
theorem rm24 (l : Launch) (Z : State) (a0 : Array Value) (hw : ∀ d ∈ tables_1, d.before a0 Z = true) (ws : List Jvm.Cond) (b : Addr) (kb : ClassId) (ys : List Int32) (cn : Nat) (h0 : Heap) (n0 : Nat) (Z0 : n0 ≤ h0.size) (V_b : Arv Z h0 b kb .byte (16 : Int32) (ys.map Value.int) (.int (0 : Int32))) (hy : ys.length = cn) (hc : cn < 16) :
    MetFree l (⟨"java/util/Arrays", "copyOfRangeByte", "([BII)[B"⟩ : MethodName) (head1 (Jvm.Cond.code (⟨"java/util/Arrays", "copyOfRangeByte", "([BII)[B"⟩ : MethodName) jdk_65_method_133_code 5 (some (.array .byte)) :: ws) room24) (fun aa_ U_ => aa_ = #[(.ref b), (.int (0 : Int32)), (.int (cn.toInt32))] ∧ Z.Warmed39 U_.vm ∧ U_.heap = h0) (fun _ _ _ _ _ => True) (fun _ U_ o_ W_ => ∃ v_ L_, o_ = .returned v_ ∧ (Q24 Z ys cn h0 n0) v_ W_.heap L_ ∧ FrameEnd U_ o_ W_ L_ room24.cells room24.slots) := by
  refine own_met (Q := (Q24 Z ys cn h0 n0)) (L0 := #[.val (.ref b), .val (.int (0 : Int32)), .val (.int (cn.toInt32)), .unset, .unset]) (plainFor_of_name pn_3) (fun m => by first | (simp [entryFrame, mkF, argsToLocals, Value.category]; done) | rfl) ?_
  intro p e s m below meth c T0 X0 hx hby hml hown hnm hret hlk hZ e0
  have N0 := Fr.nil n0
  have K0 := Keep.refl h0 []
  refine Go.st (T' := T0) (pc' := 1) (L' := #[.val (.ref b), .val (.int (0 : Int32)), .val (.int (cn.toInt32)), .unset, .unset]) (S' := [(.int (0 : Int32))]) (fun t_ k_ => XS.iloadN X0.here hx rfl (hb hby d24_0) rfl  k_) ?_
  refine Go.st (T' := T0) (pc' := 2) (L' := #[.val (.ref b), .val (.int (0 : Int32)), .val (.int (cn.toInt32)), .unset, .unset]) (S' := [(.int (cn.toInt32)), (.int (0 : Int32))]) (fun t_ k_ => XS.iloadN X0.here hx rfl (hb hby d24_1) rfl  k_) ?_
  obtain ⟨_, _, ⟨T1, L1, k1, n1⟩, -, X1, ⟨Lc1, hQ1, l1, y1, z1⟩, st1⟩ := Jvm.LawKit.callS X0 hx (y := (⟨"java/util/Arrays", "checkLength", "(II)V"⟩ : MethodName)) hown (mvT hZ (hw _ (List.mem_of_getElem? (i := 137) rfl))) (mvT hZ (hw _ (List.mem_of_getElem? (i := 138) rfl))) (mvT hZ (hw _ (List.mem_of_getElem? (i := 132) rfl))) (mvT hZ (hw _ (List.mem_of_getElem? (i := 139) rfl))) (by decide) (backOf (W := 0) (rm25 l Z a0 hw [] cn h0 n0 Z0 hc) hZ (hw _ (List.mem_of_getElem? (i := 139) rfl)) (hw _ (List.mem_of_getElem? (i := 132) rfl)) (by decide) (by decide)) (g := (mkF m 2 #[.val (.ref b), .val (.int (0 : Int32)), .val (.int (cn.toInt32)), .unset, .unset] [(.int (cn.toInt32)), (.int (0 : Int32))])) rfl (by rw [hml]; rfl) (argsL := [(.int (0 : Int32)), (.int (cn.toInt32))]) (rest := []) (lenOf pd_8 rfl) rfl (by show 2 * 0 + _ ≤ _; exact Nat.le_of_eq rfl) (hb hby d24_2) (fun _ _ => ⟨rfl, e0, (by decide : 0 + 0 ≤ _), (by decide : 0 + 0 ≤ _)⟩)
  dsimp only [Pt.U, Pt.locs, Pt.cells, Pt.slots] at X1 l1 y1 z1 st1 hQ1
  subst l1 y1 z1
  obtain ⟨rfl, N1q, e1⟩ := hQ1
  have N1 := Fr.app N0 N1q
  refine Go.st (T' := T1) (pc' := 5) (L' := #[.val (.ref b), .val (.int (0 : Int32)), .val (.int (cn.toInt32)), .unset, .unset]) (S' := []) st1 ?_
  refine Go.st (T' := T1) (pc' := 6) (L' := #[.val (.ref b), .val (.int (0 : Int32)), .val (.int (cn.toInt32)), .unset, .unset]) (S' := [(.int (cn.toInt32))]) (fun t_ k_ => XS.iloadN X1.here hx rfl (hb hby d24_5) rfl  k_) ?_
  refine Go.st (T' := T1) (pc' := 7) (L' := #[.val (.ref b), .val (.int (0 : Int32)), .val (.int (cn.toInt32)), .unset, .unset]) (S' := [(.int (0 : Int32)), (.int (cn.toInt32))]) (fun t_ k_ => XS.iloadN X1.here hx rfl (hb hby d24_6) rfl  k_) ?_
  refine Go.st (T' := T1) (pc' := 8) (L' := #[.val (.ref b), .val (.int (0 : Int32)), .val (.int (cn.toInt32)), .unset, .unset]) (S' := [(.int ((cn.toInt32) - (0 : Int32)))]) (fun t_ k_ => XS.isub X1.here hx rfl (hb hby d24_7) rfl k_) ?_
  rw [(own_lt16f ⟨cn, hc⟩).2.2.2]
  refine Go.st (T' := T1) (pc' := 9) (L' := #[.val (.ref b), .val (.int (0 : Int32)), .val (.int (cn.toInt32)), .val (.int (cn.toInt32)), .unset]) (S' := []) (fun t_ k_ => XS.istoreN X1.here hx rfl (hb hby d24_8) rfl (l' := #[.val (.ref b), .val (.int (0 : Int32)), .val (.int (cn.toInt32)), .val (.int (cn.toInt32)), .unset]) rfl k_) ?_
  refine Go.st (T' := T1) (pc' := 10) (L' := #[.val (.ref b), .val (.int (0 : Int32)), .val (.int (cn.toInt32)), .val (.int (cn.toInt32)), .unset]) (S' := [(.int (cn.toInt32))]) (fun t_ k_ => XS.iloadN X1.here hx rfl (hb hby d24_9) rfl  k_) ?_
  obtain ⟨T2, h2, k2, X2, e2, E2, A2, st2⟩ := newP X1 hx hZ (hw _ (List.mem_of_getElem? (i := 19) rfl)) e1 (g := (mkF m 10 #[.val (.ref b), .val (.int (0 : Int32)), .val (.int (cn.toInt32)), .val (.int (cn.toInt32)), .unset] [(.int (cn.toInt32))])) rfl (hb hby d24_10) rfl (own_nnN (by omega)) (cap := 16) (by rw [own_tn (by omega)]; omega) (by decide) (by decide) (by decide)
  obtain ⟨b2, g2⟩ : ∃ z, z = h0.size := ⟨_, rfl⟩
  rw [← g2] at A2 st2
  have ne_b_b2 : b ≠ b2 := Nat.ne_of_lt (Nat.lt_of_lt_of_le V_b.lt (Nat.le_of_eq g2.symm))
  have g_b2 : n0 ≤ b2 := Nat.le_trans Z0 (Nat.le_of_eq g2.symm)
  have sz_b2 : h0.size ≤ b2 := Nat.le_trans K0.1 (Nat.le_of_eq g2.symm)
  replace Z0 := Nat.le_trans Z0 E2.1
  replace K0 := K0.ext E2
  replace V_b := V_b.ext E2
  have V_b2 : Arv Z h2 b2 k2 .byte (cn.toInt32) [] (.int (0 : Int32)) := Arv.new A2 (own_nnN (by omega))
  refine Go.st (T' := T2) (pc' := 12) (L' := #[.val (.ref b), .val (.int (0 : Int32)), .val (.int (cn.toInt32)), .val (.int (cn.toInt32)), .unset]) (S' := [(.ref b2)]) st2 ?_
  refine Go.st (T' := T2) (pc' := 14) (L' := #[.val (.ref b), .val (.int (0 : Int32)), .val (.int (cn.toInt32)), .val (.int (cn.toInt32)), .val (.ref b2)]) (S' := []) (fun t_ k_ => XS.astore X2.here hx rfl (hb hby d24_12) rfl rfl (l' := #[.val (.ref b), .val (.int (0 : Int32)), .val (.int (cn.toInt32)), .val (.int (cn.toInt32)), .val (.ref b2)]) rfl k_) ?_
  refine Go.st (T' := T2) (pc' := 15) (L' := #[.val (.ref b), .val (.int (0 : Int32)), .val (.int (cn.toInt32)), .val (.int (cn.toInt32)), .val (.ref b2)]) (S' := [(.ref b)]) (fun t_ k_ => XS.aloadN X2.here hx rfl (hb hby d24_14) rfl rfl  k_) ?_
  refine Go.st (T' := T2) (pc' := 16) (L' := #[.val (.ref b), .val (.int (0 : Int32)), .val (.int (cn.toInt32)), .val (.int (cn.toInt32)), .val (.ref b2)]) (S' := [(.int (0 : Int32)), (.ref b)]) (fun t_ k_ => XS.iloadN X2.here hx rfl (hb hby d24_15) rfl  k_) ?_
  refine Go.st (T' := T2) (pc' := 18) (L' := #[.val (.ref b), .val (.int (0 : Int32)), .val (.int (cn.toInt32)), .val (.int (cn.toInt32)), .val (.ref b2)]) (S' := [(.ref b2), (.int (0 : Int32)), (.ref b)]) (fun t_ k_ => XS.aload X2.here hx rfl (hb hby d24_16) rfl rfl  k_) ?_
  refine Go.st (T' := T2) (pc' := 19) (L' := #[.val (.ref b), .val (.int (0 : Int32)), .val (.int (cn.toInt32)), .val (.int (cn.toInt32)), .val (.ref b2)]) (S' := [(.int (0 : Int32)), (.ref b2), (.int (0 : Int32)), (.ref b)]) (fun t_ k_ => XS.iconst X2.here hx rfl (hb hby d24_18) k_) ?_
  refine Go.st (T' := T2) (pc' := 20) (L' := #[.val (.ref b), .val (.int (0 : Int32)), .val (.int (cn.toInt32)), .val (.int (cn.toInt32)), .val (.ref b2)]) (S' := [(.ref b), (.int (0 : Int32)), (.ref b2), (.int (0 : Int32)), (.ref b)]) (fun t_ k_ => XS.aloadN X2.here hx rfl (hb hby d24_19) rfl rfl  k_) ?_
  obtain ⟨cl3, Ar3, -, q3a, q3b, -, -⟩ := id V_b
  refine Go.st (T' := T2) (pc' := 21) (L' := #[.val (.ref b), .val (.int (0 : Int32)), .val (.int (cn.toInt32)), .val (.int (cn.toInt32)), .val (.ref b2)]) (S' := [(.int (16 : Int32)), (.int (0 : Int32)), (.ref b2), (.int (0 : Int32)), (.ref b)]) (fun t_ k_ => own_len X2 hx hZ e2 Ar3 q3a q3b (g := (mkF m 20 #[.val (.ref b), .val (.int (0 : Int32)), .val (.int (cn.toInt32)), .val (.int (cn.toInt32)), .val (.ref b2)] [(.ref b), (.int (0 : Int32)), (.ref b2), (.int (0 : Int32)), (.ref b)])) rfl rfl (hb hby d24_20) t_ k_) ?_
  refine Go.st (T' := T2) (pc' := 22) (L' := #[.val (.ref b), .val (.int (0 : Int32)), .val (.int (cn.toInt32)), .val (.int (cn.toInt32)), .val (.ref b2)]) (S' := [(.int (0 : Int32)), (.int (16 : Int32)), (.int (0 : Int32)), (.ref b2), (.int (0 : Int32)), (.ref b)]) (fun t_ k_ => XS.iloadN X2.here hx rfl (hb hby d24_21) rfl  k_) ?_
  refine Go.st (T' := T2) (pc' := 23) (L' := #[.val (.ref b), .val (.int (0 : Int32)), .val (.int (cn.toInt32)), .val (.int (cn.toInt32)), .val (.ref b2)]) (S' := [(.int ((16 : Int32) - (0 : Int32))), (.int (0 : Int32)), (.ref b2), (.int (0 : Int32)), (.ref b)]) (fun t_ k_ => XS.isub X2.here hx rfl (hb hby d24_22) rfl k_) ?_
  rw [show ((16 : Int32) - (0 : Int32)) = (16 : Int32) from by decide]
  refine Go.st (T' := T2) (pc' := 24) (L' := #[.val (.ref b), .val (.int (0 : Int32)), .val (.int (cn.toInt32)), .val (.int (cn.toInt32)), .val (.ref b2)]) (S' := [(.int (cn.toInt32)), (.int (16 : Int32)), (.int (0 : Int32)), (.ref b2), (.int (0 : Int32)), (.ref b)]) (fun t_ k_ => XS.iloadN X2.here hx rfl (hb hby d24_23) rfl  k_) ?_
  obtain ⟨_, _, ⟨T4, L4, k4, n4⟩, -, X4, ⟨Lc4, hQ4, l4, y4, z4⟩, st4⟩ := Jvm.LawKit.callS X2 hx (y := (⟨"java/lang/Math", "min", "(II)I"⟩ : MethodName)) hown (mvT hZ (hw _ (List.mem_of_getElem? (i := 140) rfl))) (mvT hZ (hw _ (List.mem_of_getElem? (i := 141) rfl))) (mvT hZ (hw _ (List.mem_of_getElem? (i := 142) rfl))) (mvT hZ (hw _ (List.mem_of_getElem? (i := 143) rfl))) (by decide) (backOf (W := 4) (rm26 l Z a0 hw [] cn h2 n0 Z0 hc) hZ (hw _ (List.mem_of_getElem? (i := 143) rfl)) (hw _ (List.mem_of_getElem? (i := 142) rfl)) (by decide) (by decide)) (g := (mkF m 24 #[.val (.ref b), .val (.int (0 : Int32)), .val (.int (cn.toInt32)), .val (.int (cn.toInt32)), .val (.ref b2)] [(.int (cn.toInt32)), (.int (16 : Int32)), (.int (0 : Int32)), (.ref b2), (.int (0 : Int32)), (.ref b)])) rfl (by rw [hml]; rfl) (argsL := [(.int (16 : Int32)), (.int (cn.toInt32))]) (rest := [(.int (0 : Int32)), (.ref b2), (.int (0 : Int32)), (.ref b)]) (lenOf pd_9 rfl) rfl (by show 2 * 0 + _ ≤ _; exact Nat.le_of_eq rfl) (hb hby d24_24) (fun _ _ => ⟨rfl, e2, (by decide : 1 + 0 ≤ _), (by decide : 16 + 0 ≤ _)⟩)
  dsimp only [Pt.U, Pt.locs, Pt.cells, Pt.slots] at X4 l4 y4 z4 st4 hQ4
  subst l4 y4 z4
  obtain ⟨rfl, N4q, e4⟩ := hQ4
  have N4 := Fr.app N1 N4q
  refine Go.st (T' := T4) (pc' := 27) (L' := #[.val (.ref b), .val (.int (0 : Int32)), .val (.int (cn.toInt32)), .val (.int (cn.toInt32)), .val (.ref b2)]) (S' := [(.int (cn.toInt32)), (.int (0 : Int32)), (.ref b2), (.int (0 : Int32)), (.ref b)]) st4 ?_
  have Vp5 := own_padN (ys := []) (cn) V_b2
  obtain ⟨T5, h5, L5, X5, e5, N5, K5, V5, st5⟩ := cpA X4 hx hZ hown (hw _ (List.mem_of_getElem? (i := 144) rfl)) (hw _ (List.mem_of_getElem? (i := 98) rfl)) (hw _ (List.mem_of_getElem? (i := 96) rfl)) (hw _ (List.mem_of_getElem? (i := 97) rfl)) e4 V_b Vp5 (Or.inl ⟨rfl, rfl⟩) (by decide) (by decide) (own_nnN (by omega)) (own_h4' (by omega)) own_h4 rfl (own_hl (ys := []) (c := 0) rfl (by omega)) N4 g_b2 (g := (mkF m 27 #[.val (.ref b), .val (.int (0 : Int32)), .val (.int (cn.toInt32)), .val (.int (cn.toInt32)), .val (.ref b2)] [(.int (cn.toInt32)), (.int (0 : Int32)), (.ref b2), (.int (0 : Int32)), (.ref b)])) rfl (by rw [hml]; rfl) rfl (hb hby d24_27) (by decide) (W := 0) (by show 2 * 0 + _ ≤ _; exact Nat.le_of_eq rfl) (by decide)
  replace Z0 := Nat.le_trans Z0 K5.1
  replace K0 := K0.trans K5 (allS (Or.inr sz_b2) all0)
  replace V_b := V_b.keep K5 (ninS ne_b_b2 nin0)
  have V_b2 : Arv Z h5 b2 k2 .byte (cn.toInt32) (ys.map Value.int) (.int (0 : Int32)) := (congrArg (fun z_ => Arv Z h5 b2 k2 .byte (cn.toInt32) z_ (.int (0 : Int32))) (own_cat (ys := []) (bs := ys) (c := 0) (n := cn) rfl hy (by omega))).mp V5
  refine Go.st (T' := T5) (pc' := 30) (L' := #[.val (.ref b), .val (.int (0 : Int32)), .val (.int (cn.toInt32)), .val (.int (cn.toInt32)), .val (.ref b2)]) (S' := []) st5 ?_
  refine Go.st (T' := T5) (pc' := 32) (L' := #[.val (.ref b), .val (.int (0 : Int32)), .val (.int (cn.toInt32)), .val (.int (cn.toInt32)), .val (.ref b2)]) (S' := [(.ref b2)]) (fun t_ k_ => XS.aload X5.here hx rfl (hb hby d24_30) rfl rfl  k_) ?_
  exact Go.retO X5 hx hlk hret rfl (by simp [FieldType.isReference, Value.isRef]) (hb hby d24_32) (by decide) (by decide) (by rw [e5]; exact ⟨b2, _, rfl, N5, K0, g_b2, sz_b2, V_b2⟩)
theorem d23_0 : decode jdk_65_method_132_code 0 = .ok (.iload_n 1, 1) := by decide +kernel
theorem d23_1 : decode jdk_65_method_132_code 1 = .ok (.ifCond .ne 9, 3) := by decide +kernel
theorem d23_4 : decode jdk_65_method_132_code 4 = .ok (.iload_n 2, 1) := by decide +kernel
theorem d23_5 : decode jdk_65_method_132_code 5 = .ok (.aload_n 0, 1) := by decide +kernel
theorem d23_6 : decode jdk_65_method_132_code 6 = .ok (.arraylength, 1) := by decide +kernel
theorem d23_7 : decode jdk_65_method_132_code 7 = .ok (.if_icmp .eq 10, 3) := by decide +kernel
theorem d23_10 : decode jdk_65_method_132_code 10 = .ok (.aload_n 0, 1) := by decide +kernel
theorem d23_11 : decode jdk_65_method_132_code 11 = .ok (.iload_n 1, 1) := by decide +kernel
theorem d23_12 : decode jdk_65_method_132_code 12 = .ok (.iload_n 2, 1) := by decide +kernel
theorem d23_13 : decode jdk_65_method_132_code 13 = .ok (.invokestatic 339, 3) := by decide +kernel
theorem d23_16 : decode jdk_65_method_132_code 16 = .ok (.areturn, 1) := by decide +kernel
theorem pd_10 : parseMethodDescriptor "([BII)[B" = some ⟨[(.array .byte), .int, .int], some (.array .byte)⟩ := by decide +kernel
def Q23 (Z : State) (ys : List Int32) (cn : Nat) (h0 : Heap) (n0 : Nat) (v : Option Value) (h : Heap) (L : List Loc) : Prop := ∃ (t : Addr) (kt : ClassId), v = some (.ref t) ∧ Fr n0 L ∧ Keep h0 h [] ∧ n0 ≤ t ∧ h0.size ≤ t ∧ Arv Z h t kt .byte (cn.toInt32) (ys.map Value.int) (.int (0 : Int32))
def room23 : Room := { frames := 2, cells := 1, slots := 16, locals := 56 }
set_option maxRecDepth 65536 in
set_option maxHeartbeats 40000000 in
theorem rm23 (l : Launch) (Z : State) (a0 : Array Value) (hw : ∀ d ∈ tables_1, d.before a0 Z = true) (ws : List Jvm.Cond) (b : Addr) (kb : ClassId) (ys : List Int32) (cn : Nat) (h0 : Heap) (n0 : Nat) (Z0 : n0 ≤ h0.size) (V_b : Arv Z h0 b kb .byte (16 : Int32) (ys.map Value.int) (.int (0 : Int32))) (hy : ys.length = cn) (hc : cn < 16) :
    MetFree l (⟨"java/util/Arrays", "copyOfRange", "([BII)[B"⟩ : MethodName) (head1 (Jvm.Cond.code (⟨"java/util/Arrays", "copyOfRange", "([BII)[B"⟩ : MethodName) jdk_65_method_132_code 3 (some (.array .byte)) :: ws) room23) (fun aa_ U_ => aa_ = #[(.ref b), (.int (0 : Int32)), (.int (cn.toInt32))] ∧ Z.Warmed39 U_.vm ∧ U_.heap = h0) (fun _ _ _ _ _ => True) (fun _ U_ o_ W_ => ∃ v_ L_, o_ = .returned v_ ∧ (Q23 Z ys cn h0 n0) v_ W_.heap L_ ∧ FrameEnd U_ o_ W_ L_ room23.cells room23.slots) := by
  refine own_met (Q := (Q23 Z ys cn h0 n0)) (L0 := #[.val (.ref b), .val (.int (0 : Int32)), .val (.int (cn.toInt32))]) (plainFor_of_name pn_3) (fun m => by first | (simp [entryFrame, mkF, argsToLocals, Value.category]; done) | rfl) ?_
  intro p e s m below meth c T0 X0 hx hby hml hown hnm hret hlk hZ e0
  have N0 := Fr.nil n0
  have K0 := Keep.refl h0 []
  refine Go.st (T' := T0) (pc' := 1) (L' := #[.val (.ref b), .val (.int (0 : Int32)), .val (.int (cn.toInt32))]) (S' := [(.int (0 : Int32))]) (fun t_ k_ => XS.iloadN X0.here hx rfl (hb hby d23_0) rfl  k_) ?_
  refine Go.st (T' := T0) (pc' := 4) (L' := #[.val (.ref b), .val (.int (0 : Int32)), .val (.int (cn.toInt32))]) (S' := []) (fun t_ k_ => XS.ifNo X0.here hx rfl (hb hby d23_1) rfl ((if0 _ _).trans (teq (by decide : ((0 : Int32) = (0 : Int32)))).2) k_) ?_
  refine Go.st (T' := T0) (pc' := 5) (L' := #[.val (.ref b), .val (.int (0 : Int32)), .val (.int (cn.toInt32))]) (S' := [(.int (cn.toInt32))]) (fun t_ k_ => XS.iloadN X0.here hx rfl (hb hby d23_4) rfl  k_) ?_
  refine Go.st (T' := T0) (pc' := 6) (L' := #[.val (.ref b), .val (.int (0 : Int32)), .val (.int (cn.toInt32))]) (S' := [(.ref b), (.int (cn.toInt32))]) (fun t_ k_ => XS.aloadN X0.here hx rfl (hb hby d23_5) rfl rfl  k_) ?_
  obtain ⟨cl1, Ar1, -, q1a, q1b, -, -⟩ := id V_b
  refine Go.st (T' := T0) (pc' := 7) (L' := #[.val (.ref b), .val (.int (0 : Int32)), .val (.int (cn.toInt32))]) (S' := [(.int (16 : Int32)), (.int (cn.toInt32))]) (fun t_ k_ => own_len X0 hx hZ e0 Ar1 q1a q1b (g := (mkF m 6 #[.val (.ref b), .val (.int (0 : Int32)), .val (.int (cn.toInt32))] [(.ref b), (.int (cn.toInt32))])) rfl rfl (hb hby d23_6) t_ k_) ?_
  refine Go.st (T' := T0) (pc' := 10) (L' := #[.val (.ref b), .val (.int (0 : Int32)), .val (.int (cn.toInt32))]) (S' := []) (fun t_ k_ => XS.icmpNo X0.here hx rfl (hb hby d23_7) rfl (feq ((own_lt16f ⟨cn, hc⟩).1 : ¬ ((cn.toInt32) = (16 : Int32)))).1 k_) ?_
  refine Go.st (T' := T0) (pc' := 11) (L' := #[.val (.ref b), .val (.int (0 : Int32)), .val (.int (cn.toInt32))]) (S' := [(.ref b)]) (fun t_ k_ => XS.aloadN X0.here hx rfl (hb hby d23_10) rfl rfl  k_) ?_
  refine Go.st (T' := T0) (pc' := 12) (L' := #[.val (.ref b), .val (.int (0 : Int32)), .val (.int (cn.toInt32))]) (S' := [(.int (0 : Int32)), (.ref b)]) (fun t_ k_ => XS.iloadN X0.here hx rfl (hb hby d23_11) rfl  k_) ?_
  refine Go.st (T' := T0) (pc' := 13) (L' := #[.val (.ref b), .val (.int (0 : Int32)), .val (.int (cn.toInt32))]) (S' := [(.int (cn.toInt32)), (.int (0 : Int32)), (.ref b)]) (fun t_ k_ => XS.iloadN X0.here hx rfl (hb hby d23_12) rfl  k_) ?_
  obtain ⟨_, _, ⟨T2, L2, k2, n2⟩, -, X2, ⟨Lc2, hQ2, l2, y2, z2⟩, st2⟩ := Jvm.LawKit.callS X0 hx (y := (⟨"java/util/Arrays", "copyOfRangeByte", "([BII)[B"⟩ : MethodName)) hown (mvT hZ (hw _ (List.mem_of_getElem? (i := 134) rfl))) (mvT hZ (hw _ (List.mem_of_getElem? (i := 135) rfl))) (mvT hZ (hw _ (List.mem_of_getElem? (i := 132) rfl))) (mvT hZ (hw _ (List.mem_of_getElem? (i := 136) rfl))) (by decide) (backOf (W := 0) (rm24 l Z a0 hw [] b _ _ (cn) h0 n0 Z0 V_b hy hc) hZ (hw _ (List.mem_of_getElem? (i := 136) rfl)) (hw _ (List.mem_of_getElem? (i := 132) rfl)) (by decide) (by decide)) (g := (mkF m 13 #[.val (.ref b), .val (.int (0 : Int32)), .val (.int (cn.toInt32))] [(.int (cn.toInt32)), (.int (0 : Int32)), (.ref b)])) rfl (by rw [hml]; rfl) (argsL := [(.ref b), (.int (0 : Int32)), (.int (cn.toInt32))]) (rest := []) (lenOf pd_10 rfl) rfl (by show 2 * 0 + _ ≤ _; exact Nat.le_of_eq rfl) (hb hby d23_13) (fun _ _ => ⟨rfl, e0, (by decide : 0 + 1 ≤ _), (by decide : 0 + 16 ≤ _)⟩)
  dsimp only [Pt.U, Pt.locs, Pt.cells, Pt.slots] at X2 l2 y2 z2 st2 hQ2
  subst l2 y2 z2
  obtain ⟨tt2, kt2, rfl, N2q, K2, g_tt2, lt2, Vt2⟩ := hQ2
  have N2 := Fr.app N0 N2q
  have ne_b_tt2 : b ≠ tt2 := Nat.ne_of_lt (Nat.lt_of_lt_of_le V_b.lt lt2)
  have sz_tt2 : h0.size ≤ tt2 := Nat.le_trans K0.1 lt2
  obtain ⟨h2, e2⟩ : ∃ z, T2.heap = z := ⟨_, rfl⟩
  rw [e2] at K2 Vt2
  replace Z0 := Nat.le_trans Z0 K2.1
  replace K0 := K0.trans K2 all0
  replace V_b := V_b.keep K2 nin0
  refine Go.st (T' := T2) (pc' := 16) (L' := #[.val (.ref b), .val (.int (0 : Int32)), .val (.int (cn.toInt32))]) (S' := [(.ref tt2)]) st2 ?_
  exact Go.retO X2 hx hlk hret rfl (by simp [FieldType.isReference, Value.isRef]) (hb hby d23_16) (by decide) (by decide) (by rw [e2]; exact ⟨tt2, _, rfl, N2, K0, g_tt2, sz_tt2, Vt2⟩)
theorem d18_0 : decode jdk_42_method_150_code 0 = .ok (.aload_n 0, 1) := by decide +kernel
theorem d18_1 : decode jdk_42_method_150_code 1 = .ok (.invokespecial 1, 3) := by decide +kernel
theorem d18_4 : decode jdk_42_method_150_code 4 = .ok (.aload_n 1, 1) := by decide +kernel
theorem d18_5 : decode jdk_42_method_150_code 5 = .ok (.invokevirtual 552, 3) := by decide +kernel
theorem d18_8 : decode jdk_42_method_150_code 8 = .ok (.astore_n 3, 1) := by decide +kernel
theorem d18_9 : decode jdk_42_method_150_code 9 = .ok (.aload_n 1, 1) := by decide +kernel
theorem d18_10 : decode jdk_42_method_150_code 10 = .ok (.invokevirtual 549, 3) := by decide +kernel
theorem d18_13 : decode jdk_42_method_150_code 13 = .ok (.istore 4, 2) := by decide +kernel
theorem d18_15 : decode jdk_42_method_150_code 15 = .ok (.aload_n 1, 1) := by decide +kernel
theorem d18_16 : decode jdk_42_method_150_code 16 = .ok (.invokevirtual 1047, 3) := by decide +kernel
theorem d18_19 : decode jdk_42_method_150_code 19 = .ok (.ifCond .eq 22, 3) := by decide +kernel
theorem d18_22 : decode jdk_42_method_150_code 22 = .ok (.aload_n 0, 1) := by decide +kernel
theorem d18_23 : decode jdk_42_method_150_code 23 = .ok (.iconst 0, 1) := by decide +kernel
theorem d18_24 : decode jdk_42_method_150_code 24 = .ok (.putfield 15, 3) := by decide +kernel
theorem d18_27 : decode jdk_42_method_150_code 27 = .ok (.aload_n 0, 1) := by decide +kernel
theorem d18_28 : decode jdk_42_method_150_code 28 = .ok (.aload_n 3, 1) := by decide +kernel
theorem d18_29 : decode jdk_42_method_150_code 29 = .ok (.iconst 0, 1) := by decide +kernel
theorem d18_30 : decode jdk_42_method_150_code 30 = .ok (.iload 4, 2) := by decide +kernel
theorem d18_32 : decode jdk_42_method_150_code 32 = .ok (.invokestatic 54, 3) := by decide +kernel
theorem d18_35 : decode jdk_42_method_150_code 35 = .ok (.putfield 9, 3) := by decide +kernel
theorem d18_38 : decode jdk_42_method_150_code 38 = .ok (.goto 59, 3) := by decide +kernel
theorem d18_97 : decode jdk_42_method_150_code 97 = .ok (.return_, 1) := by decide +kernel
theorem pd_11 : parseMethodDescriptor "()[B" = some ⟨[], some (.array .byte)⟩ := by decide +kernel
theorem pd_12 : parseMethodDescriptor "()Z" = some ⟨[], some .boolean⟩ := by decide +kernel
def Q18 (Z : State) (a1 : Addr) (ys : List Int32) (cn : Nat) (h0 : Heap) (n0 : Nat) (v : Option Value) (h : Heap) (L : List Loc) : Prop := ∃ (t : Addr) (kt : ClassId), v = none ∧ Fr n0 L ∧ Keep h0 h [a1] ∧ h0.size ≤ t ∧ Fld Z h a1 "java/lang/String" "coder" "B" (.int (0 : Int32)) ∧ Fld Z h a1 "java/lang/String" "value" "[B" (.ref t) ∧ Arv Z h t kt .byte (cn.toInt32) (ys.map Value.int) (.int (0 : Int32))
def room18 : Room := { frames := 3, cells := 1, slots := 16, locals := 71 }
set_option maxRecDepth 65536 in
set_option maxHeartbeats 40000000 in
theorem rm18 (l : Launch) (Z : State) (a0 : Array Value) (hw : ∀ d ∈ tables_1, d.before a0 Z = true) (ws : List Jvm.Cond) (a1 : Addr) (a2 : Addr) (b : Addr) (kb : ClassId) (ys : List Int32) (cn : Nat) (gC : Int32) (h0 : Heap) (n0 : Nat) (Z0 : n0 ≤ h0.size) (E_a1 : Exa Z h0 a1 "java/lang/String") (g_a1 : n0 ≤ a1) (F_value : Fld Z h0 a1 "java/lang/String" "value" "[B" .null) (F_coder : Fld Z h0 a1 "java/lang/String" "coder" "B" (.int (0 : Int32))) (n1 : a1 ≠ a2) (n2 : a1 ≠ b) (SC : Sta Z Z.heap "java/lang/String" "COMPACT_STRINGS" "Z" (.int gC)) (PC : ¬ (gC = (0 : Int32))) (O0 : Old Z n0 h0) (E_a2 : Exa Z h0 a2 "java/lang/StringBuilder") (G_value : Fld Z h0 a2 "java/lang/AbstractStringBuilder" "value" "[B" (.ref b)) (G_coder : Fld Z h0 a2 "java/lang/AbstractStringBuilder" "coder" "B" (.int (0 : Int32))) (G_count : Fld Z h0 a2 "java/lang/AbstractStringBuilder" "count" "I" (.int (cn.toInt32))) (V_b : Arv Z h0 b kb .byte (16 : Int32) (ys.map Value.int) (.int (0 : Int32))) (hy : ys.length = cn) (hc : cn < 16) :
    MetFree l (⟨"java/lang/String", "<init>", "(Ljava/lang/AbstractStringBuilder;Ljava/lang/Void;)V"⟩ : MethodName) (head1 (Jvm.Cond.code (⟨"java/lang/String", "<init>", "(Ljava/lang/AbstractStringBuilder;Ljava/lang/Void;)V"⟩ : MethodName) jdk_42_method_150_code 5 none :: ws) room18) (fun aa_ U_ => aa_ = #[(.ref a1), (.ref a2), .null] ∧ Z.Warmed39 U_.vm ∧ U_.heap = h0) (fun _ _ _ _ _ => True) (fun _ U_ o_ W_ => ∃ v_ L_, o_ = .returned v_ ∧ (Q18 Z a1 ys cn h0 n0) v_ W_.heap L_ ∧ FrameEnd U_ o_ W_ L_ room18.cells room18.slots) := by
  refine own_met (Q := (Q18 Z a1 ys cn h0 n0)) (L0 := #[.val (.ref a1), .val (.ref a2), .val .null, .unset, .unset]) (plainFor_of_name pn_0) (fun m => by first | (simp [entryFrame, mkF, argsToLocals, Value.category]; done) | rfl) ?_
  intro p e s m below meth c T0 X0 hx hby hml hown hnm hret hlk hZ e0
  have N0 := Fr.nil n0
  have K0 := Keep.refl h0 [a1]
  refine Go.st (T' := T0) (pc' := 1) (L' := #[.val (.ref a1), .val (.ref a2), .val .null, .unset, .unset]) (S' := [(.ref a1)]) (fun t_ k_ => XS.aloadN X0.here hx rfl (hb hby d18_0) rfl rfl  k_) ?_
  obtain ⟨T1, X1, e1, st1⟩ := initO X0 hx hZ hown (hw _ (List.mem_of_getElem? (i := 15) rfl)) (hw _ (List.mem_of_getElem? (i := 16) rfl)) (hw _ (List.mem_of_getElem? (i := 17) rfl)) e0 (g := (mkF m 1 #[.val (.ref a1), .val (.ref a2), .val .null, .unset, .unset] [(.ref a1)])) rfl (by rw [hml]; rfl) rfl (hb hby d18_1) (by decide) (W := 0) (by show 2 * 0 + _ ≤ _; exact Nat.le_of_eq rfl) (by decide)
  refine Go.st (T' := T1) (pc' := 4) (L' := #[.val (.ref a1), .val (.ref a2), .val .null, .unset, .unset]) (S' := []) st1 ?_
  refine Go.st (T' := T1) (pc' := 5) (L' := #[.val (.ref a1), .val (.ref a2), .val .null, .unset, .unset]) (S' := [(.ref a2)]) (fun t_ k_ => XS.aloadN X1.here hx rfl (hb hby d18_4) rfl rfl  k_) ?_
  obtain ⟨cq2, kq2, q2a, q2b, q2c⟩ := isOf hZ e1 E_a2
  obtain ⟨_, _, ⟨T2, L2, k2, n2⟩, -, X2, ⟨Lc2, hQ2, l2, y2, z2⟩, st2⟩ := X1.virtualBack hx (y := (⟨"java/lang/AbstractStringBuilder", "getValue", "()[B"⟩ : MethodName)) (z := (⟨"java/lang/AbstractStringBuilder", "getValue", "()[B"⟩ : MethodName)) hown (mvT hZ (hw _ (List.mem_of_getElem? (i := 112) rfl))) (mvT hZ (hw _ (List.mem_of_getElem? (i := 113) rfl))) (notFace_of_selects (args := #[]) (mvT hZ (hw _ (List.mem_of_getElem? (i := 115) rfl)))) (mvT hZ (hw _ (List.mem_of_getElem? (i := 115) rfl))) (mvT hZ (hw _ (List.mem_of_getElem? (i := 114) rfl))) (by decide) (backOf (W := 0) (rm19 l Z a0 hw [] a2 b h0 n0 Z0 G_value) hZ (hw _ (List.mem_of_getElem? (i := 116) rfl)) (hw _ (List.mem_of_getElem? (i := 42) rfl)) (by decide) (by decide)) q2a q2c (g := (mkF m 5 #[.val (.ref a1), .val (.ref a2), .val .null, .unset, .unset] [(.ref a2)])) rfl (by rw [hml]; rfl) (Steps.refl _) (argsL := []) (rest := []) (lenOf pd_11 rfl) rfl (by show 2 * 0 + _ ≤ _; exact Nat.le_of_eq rfl) (hb hby d18_5) (fun _ _ => ⟨rfl, e1, (by decide : 0 + 0 ≤ _), (by decide : 0 + 0 ≤ _)⟩)
  dsimp only [Pt.U, Pt.locs, Pt.cells, Pt.slots] at X2 l2 y2 z2 st2 hQ2
  subst l2 y2 z2
  obtain ⟨rfl, N2q, e2⟩ := hQ2
  have N2 := Fr.app N0 N2q
  refine Go.tr (T' := T2) (pc' := 8) (L' := #[.val (.ref a1), .val (.ref a2), .val .null, .unset, .unset]) (S' := [(.ref b)]) st2 ?_
  refine Go.st (T' := T2) (pc' := 9) (L' := #[.val (.ref a1), .val (.ref a2), .val .null, .val (.ref b), .unset]) (S' := []) (fun t_ k_ => XS.astoreN X2.here hx rfl (hb hby d18_8) rfl rfl (l' := #[.val (.ref a1), .val (.ref a2), .val .null, .val (.ref b), .unset]) rfl k_) ?_
  refine Go.st (T' := T2) (pc' := 10) (L' := #[.val (.ref a1), .val (.ref a2), .val .null, .val (.ref b), .unset]) (S' := [(.ref a2)]) (fun t_ k_ => XS.aloadN X2.here hx rfl (hb hby d18_9) rfl rfl  k_) ?_
  obtain ⟨cq3, kq3, q3a, q3b, q3c⟩ := isOf hZ e2 E_a2
  obtain ⟨_, _, ⟨T3, L3, k3, n3⟩, -, X3, ⟨Lc3, hQ3, l3, y3, z3⟩, st3⟩ := X2.virtualBack hx (y := (⟨"java/lang/AbstractStringBuilder", "length", "()I"⟩ : MethodName)) (z := (⟨"java/lang/StringBuilder", "length", "()I"⟩ : MethodName)) hown (mvT hZ (hw _ (List.mem_of_getElem? (i := 117) rfl))) (mvT hZ (hw _ (List.mem_of_getElem? (i := 118) rfl))) (own_nf (y := (⟨"java/lang/AbstractStringBuilder", "length", "()I"⟩ : MethodName)) (args := #[]) (mvT hZ (hw _ (List.mem_of_getElem? (i := 77) rfl))) rfl) (mvT hZ (hw _ (List.mem_of_getElem? (i := 120) rfl))) (mvT hZ (hw _ (List.mem_of_getElem? (i := 121) rfl))) (by decide) (backOf (W := 0) (rm20 l Z a0 hw [] a2 (cn) h0 n0 Z0 E_a2 G_count) hZ (hw _ (List.mem_of_getElem? (i := 122) rfl)) (hw _ (List.mem_of_getElem? (i := 34) rfl)) (by decide) (by decide)) q3a q3c (g := (mkF m 10 #[.val (.ref a1), .val (.ref a2), .val .null, .val (.ref b), .unset] [(.ref a2)])) rfl (by rw [hml]; rfl) (Steps.refl _) (argsL := []) (rest := []) (lenOf pd_4 rfl) rfl (by show 2 * 0 + _ ≤ _; exact Nat.le_of_eq rfl) (hb hby d18_10) (fun _ _ => ⟨rfl, e2, (by decide : 0 + 0 ≤ _), (by decide : 0 + 0 ≤ _)⟩)
  dsimp only [Pt.U, Pt.locs, Pt.cells, Pt.slots] at X3 l3 y3 z3 st3 hQ3
  subst l3 y3 z3
  obtain ⟨rfl, N3q, e3⟩ := hQ3
  have N3 := Fr.app N2 N3q
  refine Go.tr (T' := T3) (pc' := 13) (L' := #[.val (.ref a1), .val (.ref a2), .val .null, .val (.ref b), .unset]) (S' := [(.int (cn.toInt32))]) st3 ?_
  refine Go.st (T' := T3) (pc' := 15) (L' := #[.val (.ref a1), .val (.ref a2), .val .null, .val (.ref b), .val (.int (cn.toInt32))]) (S' := []) (fun t_ k_ => XS.istore X3.here hx rfl (hb hby d18_13) rfl (l' := #[.val (.ref a1), .val (.ref a2), .val .null, .val (.ref b), .val (.int (cn.toInt32))]) rfl k_) ?_
  refine Go.st (T' := T3) (pc' := 16) (L' := #[.val (.ref a1), .val (.ref a2), .val .null, .val (.ref b), .val (.int (cn.toInt32))]) (S' := [(.ref a2)]) (fun t_ k_ => XS.aloadN X3.here hx rfl (hb hby d18_15) rfl rfl  k_) ?_
  obtain ⟨cq4, kq4, q4a, q4b, q4c⟩ := isOf hZ e3 E_a2
  obtain ⟨_, _, ⟨T4, L4, k4, n4⟩, -, X4, ⟨Lc4, hQ4, l4, y4, z4⟩, st4⟩ := X3.virtualBack hx (y := (⟨"java/lang/AbstractStringBuilder", "isLatin1", "()Z"⟩ : MethodName)) (z := (⟨"java/lang/AbstractStringBuilder", "isLatin1", "()Z"⟩ : MethodName)) hown (mvT hZ (hw _ (List.mem_of_getElem? (i := 125) rfl))) (mvT hZ (hw _ (List.mem_of_getElem? (i := 126) rfl))) (notFace_of_selects (args := #[]) (mvT hZ (hw _ (List.mem_of_getElem? (i := 128) rfl)))) (mvT hZ (hw _ (List.mem_of_getElem? (i := 128) rfl))) (mvT hZ (hw _ (List.mem_of_getElem? (i := 127) rfl))) (by decide) (backOf (W := 0) (rm22 l Z a0 hw [] a2 gC h0 n0 Z0 SC PC O0 G_coder) hZ (hw _ (List.mem_of_getElem? (i := 129) rfl)) (hw _ (List.mem_of_getElem? (i := 42) rfl)) (by decide) (by decide)) q4a q4c (g := (mkF m 16 #[.val (.ref a1), .val (.ref a2), .val .null, .val (.ref b), .val (.int (cn.toInt32))] [(.ref a2)])) rfl (by rw [hml]; rfl) (Steps.refl _) (argsL := []) (rest := []) (lenOf pd_12 rfl) rfl (by show 2 * 0 + _ ≤ _; exact Nat.le_of_eq rfl) (hb hby d18_16) (fun _ _ => ⟨rfl, e3, (by decide : 0 + 0 ≤ _), (by decide : 0 + 0 ≤ _)⟩)
  dsimp only [Pt.U, Pt.locs, Pt.cells, Pt.slots] at X4 l4 y4 z4 st4 hQ4
  subst l4 y4 z4
  obtain ⟨rfl, N4q, e4⟩ := hQ4
  have N4 := Fr.app N3 N4q
  refine Go.tr (T' := T4) (pc' := 19) (L' := #[.val (.ref a1), .val (.ref a2), .val .null, .val (.ref b), .val (.int (cn.toInt32))]) (S' := [(.int (1 : Int32))]) st4 ?_
  refine Go.st (T' := T4) (pc' := 22) (L' := #[.val (.ref a1), .val (.ref a2), .val .null, .val (.ref b), .val (.int (cn.toInt32))]) (S' := []) (fun t_ k_ => XS.ifNo X4.here hx rfl (hb hby d18_19) rfl ((if0 _ _).trans (feq (by decide : ¬ ((1 : Int32) = (0 : Int32)))).1) k_) ?_
  refine Go.st (T' := T4) (pc' := 23) (L' := #[.val (.ref a1), .val (.ref a2), .val .null, .val (.ref b), .val (.int (cn.toInt32))]) (S' := [(.ref a1)]) (fun t_ k_ => XS.aloadN X4.here hx rfl (hb hby d18_22) rfl rfl  k_) ?_
  refine Go.st (T' := T4) (pc' := 24) (L' := #[.val (.ref a1), .val (.ref a2), .val .null, .val (.ref b), .val (.int (cn.toInt32))]) (S' := [(.int (0 : Int32)), (.ref a1)]) (fun t_ k_ => XS.iconst X4.here hx rfl (hb hby d18_23) k_) ?_
  obtain ⟨T5, h5, X5, e5, W5, st5⟩ := putFN X4 hx hZ hown (hw _ (List.mem_of_getElem? (i := 25) rfl)) Via.refl e4 F_coder E_a1 (Or.inr ⟨(hw _ (List.mem_of_getElem? (i := 21) rfl)), rfl, hnm⟩) (hw _ (List.mem_of_getElem? (i := 5) rfl)) (ty := .byte) (v' := (.int (0 : Int32))) (by decide) rfl rfl (g := (mkF m 24 #[.val (.ref a1), .val (.ref a2), .val .null, .val (.ref b), .val (.int (cn.toInt32))] [(.int (0 : Int32)), (.ref a1)])) rfl rfl (hb hby d18_24)
  replace Z0 := Nat.le_trans Z0 (Keep.of_wr W5).1
  replace K0 := K0.wr W5 (Or.inl (List.mem_of_getElem? (i := 0) rfl))
  replace O0 := O0.wr W5 g_a1
  replace E_a1 := E_a1.wr W5
  replace F_value := F_value.other W5 (Or.inr (slot_ne (Or.inr (hw _ (List.mem_of_getElem? (i := 20) rfl))) (Or.inr (hw _ (List.mem_of_getElem? (i := 21) rfl))) (by decide) (t := (.array .byte)) (t' := .byte) (by decide) (by decide)))
  replace E_a2 := E_a2.wr W5
  replace G_value := G_value.other W5 (Or.inl (Ne.symm n1))
  replace G_coder := G_coder.other W5 (Or.inl (Ne.symm n1))
  replace G_count := G_count.other W5 (Or.inl (Ne.symm n1))
  replace V_b := V_b.other W5 (Ne.symm n2)
  replace F_coder := F_coder.same W5
  have N5 := Fr.snoc X5 N4 g_a1
  refine Go.st (T' := T5) (pc' := 27) (L' := #[.val (.ref a1), .val (.ref a2), .val .null, .val (.ref b), .val (.int (cn.toInt32))]) (S' := []) st5 ?_
  refine Go.st (T' := T5) (pc' := 28) (L' := #[.val (.ref a1), .val (.ref a2), .val .null, .val (.ref b), .val (.int (cn.toInt32))]) (S' := [(.ref a1)]) (fun t_ k_ => XS.aloadN X5.here hx rfl (hb hby d18_27) rfl rfl  k_) ?_
  refine Go.st (T' := T5) (pc' := 29) (L' := #[.val (.ref a1), .val (.ref a2), .val .null, .val (.ref b), .val (.int (cn.toInt32))]) (S' := [(.ref b), (.ref a1)]) (fun t_ k_ => XS.aloadN X5.here hx rfl (hb hby d18_28) rfl rfl  k_) ?_
  refine Go.st (T' := T5) (pc' := 30) (L' := #[.val (.ref a1), .val (.ref a2), .val .null, .val (.ref b), .val (.int (cn.toInt32))]) (S' := [(.int (0 : Int32)), (.ref b), (.ref a1)]) (fun t_ k_ => XS.iconst X5.here hx rfl (hb hby d18_29) k_) ?_
  refine Go.st (T' := T5) (pc' := 32) (L' := #[.val (.ref a1), .val (.ref a2), .val .null, .val (.ref b), .val (.int (cn.toInt32))]) (S' := [(.int (cn.toInt32)), (.int (0 : Int32)), (.ref b), (.ref a1)]) (fun t_ k_ => XS.iload X5.here hx rfl (hb hby d18_30) rfl  k_) ?_
  obtain ⟨_, _, ⟨T6, L6, k6, n6⟩, -, X6, ⟨Lc6, hQ6, l6, y6, z6⟩, st6⟩ := Jvm.LawKit.callS X5 hx (y := (⟨"java/util/Arrays", "copyOfRange", "([BII)[B"⟩ : MethodName)) hown (mvT hZ (hw _ (List.mem_of_getElem? (i := 130) rfl))) (mvT hZ (hw _ (List.mem_of_getElem? (i := 131) rfl))) (mvT hZ (hw _ (List.mem_of_getElem? (i := 132) rfl))) (mvT hZ (hw _ (List.mem_of_getElem? (i := 133) rfl))) (by decide) (backOf (W := 1) (rm23 l Z a0 hw [] b _ _ (cn) h5 n0 Z0 V_b hy hc) hZ (hw _ (List.mem_of_getElem? (i := 133) rfl)) (hw _ (List.mem_of_getElem? (i := 132) rfl)) (by decide) (by decide)) (g := (mkF m 32 #[.val (.ref a1), .val (.ref a2), .val .null, .val (.ref b), .val (.int (cn.toInt32))] [(.int (cn.toInt32)), (.int (0 : Int32)), (.ref b), (.ref a1)])) rfl (by rw [hml]; rfl) (argsL := [(.ref b), (.int (0 : Int32)), (.int (cn.toInt32))]) (rest := [(.ref a1)]) (lenOf pd_10 rfl) rfl (by show 2 * 0 + _ ≤ _; exact Nat.le_of_eq rfl) (hb hby d18_32) (fun _ _ => ⟨rfl, e5, (by decide : 0 + 1 ≤ _), (by decide : 0 + 16 ≤ _)⟩)
  dsimp only [Pt.U, Pt.locs, Pt.cells, Pt.slots] at X6 l6 y6 z6 st6 hQ6
  subst l6 y6 z6
  obtain ⟨tt6, kt6, rfl, N6q, K6, g_tt6, lt6, Vt6⟩ := hQ6
  have N6 := Fr.app N5 N6q
  have ne_a1_tt6 : a1 ≠ tt6 := Nat.ne_of_lt (Nat.lt_of_lt_of_le E_a1.lt lt6)
  have ne_a2_tt6 : a2 ≠ tt6 := Nat.ne_of_lt (Nat.lt_of_lt_of_le E_a2.lt lt6)
  have ne_b_tt6 : b ≠ tt6 := Nat.ne_of_lt (Nat.lt_of_lt_of_le V_b.lt lt6)
  have sz_tt6 : h0.size ≤ tt6 := Nat.le_trans K0.1 lt6
  obtain ⟨h6, e6⟩ : ∃ z, T6.heap = z := ⟨_, rfl⟩
  rw [e6] at K6 Vt6
  replace Z0 := Nat.le_trans Z0 K6.1
  replace K0 := K0.trans K6 all0
  replace O0 := O0.keep K6 all0
  replace E_a1 := E_a1.keep K6
  replace F_value := F_value.keep K6 nin0
  replace F_coder := F_coder.keep K6 nin0
  replace E_a2 := E_a2.keep K6
  replace G_value := G_value.keep K6 nin0
  replace G_coder := G_coder.keep K6 nin0
  replace G_count := G_count.keep K6 nin0
  replace V_b := V_b.keep K6 nin0
  refine Go.st (T' := T6) (pc' := 35) (L' := #[.val (.ref a1), .val (.ref a2), .val .null, .val (.ref b), .val (.int (cn.toInt32))]) (S' := [(.ref tt6), (.ref a1)]) st6 ?_
  obtain ⟨T7, h7, X7, e7, W7, st7⟩ := putF X6 hx hZ hown (host := "") (Or.inl (hw _ (List.mem_of_getElem? (i := 24) rfl))) Via.refl e6 F_value E_a1 (Or.inr ⟨(hw _ (List.mem_of_getElem? (i := 20) rfl)), rfl, hnm⟩) (hw _ (List.mem_of_getElem? (i := 5) rfl)) (ty := (.array .byte)) (by decide) rfl rfl (g := (mkF m 35 #[.val (.ref a1), .val (.ref a2), .val .null, .val (.ref b), .val (.int (cn.toInt32))] [(.ref tt6), (.ref a1)])) rfl rfl (hb hby d18_35)
  replace Z0 := Nat.le_trans Z0 (Keep.of_wr W7).1
  replace K0 := K0.wr W7 (Or.inl (List.mem_of_getElem? (i := 0) rfl))
  replace O0 := O0.wr W7 g_a1
  replace E_a1 := E_a1.wr W7
  replace F_coder := F_coder.other W7 (Or.inr (slot_ne (Or.inr (hw _ (List.mem_of_getElem? (i := 21) rfl))) (Or.inr (hw _ (List.mem_of_getElem? (i := 20) rfl))) (by decide) (t := .byte) (t' := (.array .byte)) (by decide) (by decide)))
  replace E_a2 := E_a2.wr W7
  replace G_value := G_value.other W7 (Or.inl (Ne.symm n1))
  replace G_coder := G_coder.other W7 (Or.inl (Ne.symm n1))
  replace G_count := G_count.other W7 (Or.inl (Ne.symm n1))
  replace V_b := V_b.other W7 (Ne.symm n2)
  replace Vt6 := Vt6.other W7 (Ne.symm ne_a1_tt6)
  replace F_value := F_value.same W7
  have N7 := Fr.snoc X7 N6 g_a1
  refine Go.st (T' := T7) (pc' := 38) (L' := #[.val (.ref a1), .val (.ref a2), .val .null, .val (.ref b), .val (.int (cn.toInt32))]) (S' := []) st7 ?_
  refine Go.st (T' := T7) (pc' := 97) (L' := #[.val (.ref a1), .val (.ref a2), .val .null, .val (.ref b), .val (.int (cn.toInt32))]) (S' := []) (fun t_ k_ => XS.goto X7.here hx rfl (pc0 := 38) (pc' := 97) rfl (hb hby d18_38) (by decide) (by decide) k_) ?_
  exact Go.retV X7 hx hlk hret (hb hby d18_97) (by decide) (by decide) (by rw [e7]; exact ⟨tt6, _, rfl, N7, K0, sz_tt6, F_coder, F_value, Vt6⟩)
theorem d17_0 : decode jdk_42_method_53_code 0 = .ok (.aload_n 0, 1) := by decide +kernel
theorem d17_1 : decode jdk_42_method_53_code 1 = .ok (.aload_n 1, 1) := by decide +kernel
theorem d17_2 : decode jdk_42_method_53_code 2 = .ok (.aconst_null, 1) := by decide +kernel
theorem d17_3 : decode jdk_42_method_53_code 3 = .ok (.invokespecial 489, 3) := by decide +kernel
theorem d17_6 : decode jdk_42_method_53_code 6 = .ok (.return_, 1) := by decide +kernel
theorem pd_13 : parseMethodDescriptor "(Ljava/lang/AbstractStringBuilder;Ljava/lang/Void;)V" = some ⟨[(.object "java/lang/AbstractStringBuilder"), (.object "java/lang/Void")], none⟩ := by decide +kernel
def Q17 (Z : State) (a1 : Addr) (ys : List Int32) (cn : Nat) (h0 : Heap) (n0 : Nat) (v : Option Value) (h : Heap) (L : List Loc) : Prop := ∃ (t : Addr) (kt : ClassId), v = none ∧ Fr n0 L ∧ Keep h0 h [a1] ∧ h0.size ≤ t ∧ Fld Z h a1 "java/lang/String" "coder" "B" (.int (0 : Int32)) ∧ Fld Z h a1 "java/lang/String" "value" "[B" (.ref t) ∧ Arv Z h t kt .byte (cn.toInt32) (ys.map Value.int) (.int (0 : Int32))
def room17 : Room := { frames := 4, cells := 1, slots := 16, locals := 87 }
set_option maxRecDepth 65536 in
set_option maxHeartbeats 40000000 in
theorem rm17 (l : Launch) (Z : State) (a0 : Array Value) (hw : ∀ d ∈ tables_1, d.before a0 Z = true) (ws : List Jvm.Cond) (a1 : Addr) (a2 : Addr) (b : Addr) (kb : ClassId) (ys : List Int32) (cn : Nat) (gC : Int32) (h0 : Heap) (n0 : Nat) (Z0 : n0 ≤ h0.size) (E_a1 : Exa Z h0 a1 "java/lang/String") (g_a1 : n0 ≤ a1) (F_value : Fld Z h0 a1 "java/lang/String" "value" "[B" .null) (F_coder : Fld Z h0 a1 "java/lang/String" "coder" "B" (.int (0 : Int32))) (n1 : a1 ≠ a2) (n2 : a1 ≠ b) (SC : Sta Z Z.heap "java/lang/String" "COMPACT_STRINGS" "Z" (.int gC)) (PC : ¬ (gC = (0 : Int32))) (O0 : Old Z n0 h0) (E_a2 : Exa Z h0 a2 "java/lang/StringBuilder") (G_value : Fld Z h0 a2 "java/lang/AbstractStringBuilder" "value" "[B" (.ref b)) (G_coder : Fld Z h0 a2 "java/lang/AbstractStringBuilder" "coder" "B" (.int (0 : Int32))) (G_count : Fld Z h0 a2 "java/lang/AbstractStringBuilder" "count" "I" (.int (cn.toInt32))) (V_b : Arv Z h0 b kb .byte (16 : Int32) (ys.map Value.int) (.int (0 : Int32))) (hy : ys.length = cn) (hc : cn < 16) :
    MetFree l (⟨"java/lang/String", "<init>", "(Ljava/lang/StringBuilder;)V"⟩ : MethodName) (head1 (Jvm.Cond.code (⟨"java/lang/String", "<init>", "(Ljava/lang/StringBuilder;)V"⟩ : MethodName) jdk_42_method_53_code 2 none :: ws) room17) (fun aa_ U_ => aa_ = #[(.ref a1), (.ref a2)] ∧ Z.Warmed39 U_.vm ∧ U_.heap = h0) (fun _ _ _ _ _ => True) (fun _ U_ o_ W_ => ∃ v_ L_, o_ = .returned v_ ∧ (Q17 Z a1 ys cn h0 n0) v_ W_.heap L_ ∧ FrameEnd U_ o_ W_ L_ room17.cells room17.slots) := by
  refine own_met (Q := (Q17 Z a1 ys cn h0 n0)) (L0 := #[.val (.ref a1), .val (.ref a2)]) (plainFor_of_name pn_0) (fun m => by first | (simp [entryFrame, mkF, argsToLocals, Value.category]; done) | rfl) ?_
  intro p e s m below meth c T0 X0 hx hby hml hown hnm hret hlk hZ e0
  have N0 := Fr.nil n0
  have K0 := Keep.refl h0 [a1]
  refine Go.st (T' := T0) (pc' := 1) (L' := #[.val (.ref a1), .val (.ref a2)]) (S' := [(.ref a1)]) (fun t_ k_ => XS.aloadN X0.here hx rfl (hb hby d17_0) rfl rfl  k_) ?_
  refine Go.st (T' := T0) (pc' := 2) (L' := #[.val (.ref a1), .val (.ref a2)]) (S' := [(.ref a2), (.ref a1)]) (fun t_ k_ => XS.aloadN X0.here hx rfl (hb hby d17_1) rfl rfl  k_) ?_
  refine Go.st (T' := T0) (pc' := 3) (L' := #[.val (.ref a1), .val (.ref a2)]) (S' := [.null, (.ref a2), (.ref a1)]) (fun t_ k_ => XS.aconstNull X0.here hx rfl (hb hby d17_2) k_) ?_
  obtain ⟨_, _, ⟨T1, L1, k1, n1⟩, -, X1, ⟨Lc1, hQ1, l1, y1, z1⟩, st1⟩ := X0.specialBack hx (y := (⟨"java/lang/String", "<init>", "(Ljava/lang/AbstractStringBuilder;Ljava/lang/Void;)V"⟩ : MethodName)) rfl hown (mvT hZ (hw _ (List.mem_of_getElem? (i := 109) rfl))) (mvT hZ (hw _ (List.mem_of_getElem? (i := 110) rfl))) (mvT hZ (hw _ (List.mem_of_getElem? (i := 111) rfl))) (by decide) (backOf (W := 0) (rm18 l Z a0 hw [] a1 a2 b _ _ (cn) gC h0 n0 Z0 E_a1 g_a1 F_value F_coder n1 n2 SC PC O0 E_a2 G_value G_coder G_count V_b hy hc) hZ (hw _ (List.mem_of_getElem? (i := 111) rfl)) (hw _ (List.mem_of_getElem? (i := 6) rfl)) (by decide) (by decide)) (g := (mkF m 3 #[.val (.ref a1), .val (.ref a2)] [.null, (.ref a2), (.ref a1)])) rfl (by rw [hml]; rfl) (Steps.refl _) (a := a1) (argsL := [(.ref a2), .null]) (rest := []) (lenOf pd_13 rfl) rfl (by show 2 * 0 + _ ≤ _; exact Nat.le_of_eq rfl) (hb hby d17_3) (fun _ _ => ⟨rfl, e0, (by decide : 0 + 1 ≤ _), (by decide : 0 + 16 ≤ _)⟩)
  dsimp only [Pt.U, Pt.locs, Pt.cells, Pt.slots] at X1 l1 y1 z1 st1 hQ1
  subst l1 y1 z1
  obtain ⟨tt1, kt1, rfl, N1q, K1, lt1, Co1, Va1, Vt1⟩ := hQ1
  have N1 := Fr.app N0 N1q
  have ne_a1_tt1 : a1 ≠ tt1 := Nat.ne_of_lt (Nat.lt_of_lt_of_le E_a1.lt lt1)
  have ne_a2_tt1 : a2 ≠ tt1 := Nat.ne_of_lt (Nat.lt_of_lt_of_le E_a2.lt lt1)
  have ne_b_tt1 : b ≠ tt1 := Nat.ne_of_lt (Nat.lt_of_lt_of_le V_b.lt lt1)
  have sz_tt1 : h0.size ≤ tt1 := Nat.le_trans K0.1 lt1
  obtain ⟨h1, e1⟩ : ∃ z, T1.heap = z := ⟨_, rfl⟩
  rw [e1] at K1 Co1 Va1 Vt1
  replace Z0 := Nat.le_trans Z0 K1.1
  replace K0 := K0.trans K1 (allS (Or.inl (List.mem_of_getElem? (i := 0) rfl)) all0)
  replace O0 := O0.keep K1 (allS g_a1 all0)
  replace E_a1 := E_a1.keep K1
  replace E_a2 := E_a2.keep K1
  replace G_value := G_value.keep K1 (ninS (Ne.symm n1) nin0)
  replace G_coder := G_coder.keep K1 (ninS (Ne.symm n1) nin0)
  replace G_count := G_count.keep K1 (ninS (Ne.symm n1) nin0)
  replace V_b := V_b.keep K1 (ninS (Ne.symm n2) nin0)
  refine Go.tr (T' := T1) (pc' := 6) (L' := #[.val (.ref a1), .val (.ref a2)]) (S' := []) st1 ?_
  exact Go.retV X1 hx hlk hret (hb hby d17_6) (by decide) (by decide) (by rw [e1]; exact ⟨tt1, _, rfl, N1, K0, sz_tt1, Co1, Va1, Vt1⟩)
theorem d16_0 : decode jdk_67_method_42_code 0 = .ok (.new 18, 3) := by decide +kernel
theorem d16_3 : decode jdk_67_method_42_code 3 = .ok (.dup, 1) := by decide +kernel
theorem d16_4 : decode jdk_67_method_42_code 4 = .ok (.aload_n 0, 1) := by decide +kernel
theorem d16_5 : decode jdk_67_method_42_code 5 = .ok (.invokespecial 137, 3) := by decide +kernel
theorem d16_8 : decode jdk_67_method_42_code 8 = .ok (.areturn, 1) := by decide +kernel
theorem pd_14 : parseMethodDescriptor "(Ljava/lang/StringBuilder;)V" = some ⟨[(.object "java/lang/StringBuilder")], none⟩ := by decide +kernel
def Q16 (Z : State) (ys : List Int32) (cn : Nat) (h0 : Heap) (n0 : Nat) (v : Option Value) (h : Heap) (L : List Loc) : Prop := ∃ (r t : Addr) (kt : ClassId), v = some (.ref r) ∧ Fr n0 L ∧ Keep h0 h [] ∧ n0 ≤ r ∧ h0.size ≤ r ∧ h0.size ≤ t ∧ Exa Z h r "java/lang/String" ∧ Fld Z h r "java/lang/String" "coder" "B" (.int (0 : Int32)) ∧ Fld Z h r "java/lang/String" "value" "[B" (.ref t) ∧ Arv Z h t kt .byte (cn.toInt32) (ys.map Value.int) (.int (0 : Int32))
def room16 : Room := { frames := 5, cells := 2, slots := 20, locals := 101 }
set_option maxRecDepth 65536 in
set_option maxHeartbeats 40000000 in
theorem rm16 (l : Launch) (Z : State) (a0 : Array Value) (hw : ∀ d ∈ tables_1, d.before a0 Z = true) (ws : List Jvm.Cond) (a2 : Addr) (b : Addr) (kb : ClassId) (ys : List Int32) (cn : Nat) (gC : Int32) (h0 : Heap) (n0 : Nat) (Z0 : n0 ≤ h0.size) (SC : Sta Z Z.heap "java/lang/String" "COMPACT_STRINGS" "Z" (.int gC)) (PC : ¬ (gC = (0 : Int32))) (O0 : Old Z n0 h0) (E_a2 : Exa Z h0 a2 "java/lang/StringBuilder") (G_value : Fld Z h0 a2 "java/lang/AbstractStringBuilder" "value" "[B" (.ref b)) (G_coder : Fld Z h0 a2 "java/lang/AbstractStringBuilder" "coder" "B" (.int (0 : Int32))) (G_count : Fld Z h0 a2 "java/lang/AbstractStringBuilder" "count" "I" (.int (cn.toInt32))) (V_b : Arv Z h0 b kb .byte (16 : Int32) (ys.map Value.int) (.int (0 : Int32))) (hy : ys.length = cn) (hc : cn < 16) :
    MetFree l (⟨"java/lang/StringBuilder", "toString", "()Ljava/lang/String;"⟩ : MethodName) (head1 (Jvm.Cond.code (⟨"java/lang/StringBuilder", "toString", "()Ljava/lang/String;"⟩ : MethodName) jdk_67_method_42_code 1 (some (.object "java/lang/String")) :: ws) room16) (fun aa_ U_ => aa_ = #[(.ref a2)] ∧ Z.Warmed39 U_.vm ∧ U_.heap = h0) (fun _ _ _ _ _ => True) (fun _ U_ o_ W_ => ∃ v_ L_, o_ = .returned v_ ∧ (Q16 Z ys cn h0 n0) v_ W_.heap L_ ∧ FrameEnd U_ o_ W_ L_ room16.cells room16.slots) := by
  refine own_met (Q := (Q16 Z ys cn h0 n0)) (L0 := #[.val (.ref a2)]) (plainFor_of_name pn_2) (fun m => by first | (simp [entryFrame, mkF, argsToLocals, Value.category]; done) | rfl) ?_
  intro p e s m below meth c T0 X0 hx hby hml hown hnm hret hlk hZ e0
  have N0 := Fr.nil n0
  have K0 := Keep.refl h0 []
  obtain ⟨T1, h1, X1, e1, E1, A1, D1, U1, st1⟩ := newO X0 hx hZ hown (hw _ (List.mem_of_getElem? (i := 105) rfl)) (hw _ (List.mem_of_getElem? (i := 5) rfl)) (hw _ (List.mem_of_getElem? (i := 6) rfl)) e0 (g := (mkF m 0 #[.val (.ref a2)] [])) rfl (hb hby d16_0) (by decide) (by decide)
  obtain ⟨b1, g1⟩ : ∃ z, z = h0.size := ⟨_, rfl⟩
  rw [← g1] at A1 D1 U1 st1
  have ne_a2_b1 : a2 ≠ b1 := Nat.ne_of_lt (Nat.lt_of_lt_of_le E_a2.lt (Nat.le_of_eq g1.symm))
  have ne_b_b1 : b ≠ b1 := Nat.ne_of_lt (Nat.lt_of_lt_of_le V_b.lt (Nat.le_of_eq g1.symm))
  have g_b1 : n0 ≤ b1 := Nat.le_trans Z0 (Nat.le_of_eq g1.symm)
  have sz_b1 : h0.size ≤ b1 := Nat.le_trans K0.1 (Nat.le_of_eq g1.symm)
  replace Z0 := Nat.le_trans Z0 E1.1
  replace K0 := K0.ext E1
  replace O0 := O0.ext E1
  replace E_a2 := E_a2.ext E1
  replace G_value := G_value.ext E1
  replace G_coder := G_coder.ext E1
  replace G_count := G_count.ext E1
  replace V_b := V_b.ext E1
  have E_b1 := A1
  have F_b1_value : Fld Z h1 b1 "java/lang/String" "value" "[B" .null := D1 (Or.inr (hw _ (List.mem_of_getElem? (i := 20) rfl))) (ty := (.array .byte)) (by decide)
  have F_b1_coder : Fld Z h1 b1 "java/lang/String" "coder" "B" (.int (0 : Int32)) := D1 (Or.inr (hw _ (List.mem_of_getElem? (i := 21) rfl))) (ty := .byte) (by decide)
  refine Go.st (T' := T1) (pc' := 3) (L' := #[.val (.ref a2)]) (S' := [(.ref b1)]) st1 ?_
  refine Go.st (T' := T1) (pc' := 4) (L' := #[.val (.ref a2)]) (S' := [(.ref b1), (.ref b1)]) (fun t_ k_ => XS.dup X1.here hx rfl (hb hby d16_3) rfl rfl k_) ?_
  refine Go.st (T' := T1) (pc' := 5) (L' := #[.val (.ref a2)]) (S' := [(.ref a2), (.ref b1), (.ref b1)]) (fun t_ k_ => XS.aloadN X1.here hx rfl (hb hby d16_4) rfl rfl  k_) ?_
  obtain ⟨_, _, ⟨T2, L2, k2, n2⟩, -, X2, ⟨Lc2, hQ2, l2, y2, z2⟩, st2⟩ := X1.specialBack hx (y := (⟨"java/lang/String", "<init>", "(Ljava/lang/StringBuilder;)V"⟩ : MethodName)) rfl hown (mvT hZ (hw _ (List.mem_of_getElem? (i := 106) rfl))) (mvT hZ (hw _ (List.mem_of_getElem? (i := 107) rfl))) (mvT hZ (hw _ (List.mem_of_getElem? (i := 108) rfl))) (by decide) (backOf (W := 1) (rm17 l Z a0 hw [] b1 a2 b _ _ (cn) gC h1 n0 Z0 E_b1 g_b1 F_b1_value F_b1_coder (Ne.symm ne_a2_b1) (Ne.symm ne_b_b1) SC PC O0 E_a2 G_value G_coder G_count V_b hy hc) hZ (hw _ (List.mem_of_getElem? (i := 108) rfl)) (hw _ (List.mem_of_getElem? (i := 6) rfl)) (by decide) (by decide)) (g := (mkF m 5 #[.val (.ref a2)] [(.ref a2), (.ref b1), (.ref b1)])) rfl (by rw [hml]; rfl) (Steps.refl _) (a := b1) (argsL := [(.ref a2)]) (rest := [(.ref b1)]) (lenOf pd_14 rfl) rfl (by show 2 * 0 + _ ≤ _; exact Nat.le_of_eq rfl) (hb hby d16_5) (fun _ _ => ⟨rfl, e1, (by decide : 1 + 1 ≤ _), (by decide : 4 + 16 ≤ _)⟩)
  dsimp only [Pt.U, Pt.locs, Pt.cells, Pt.slots] at X2 l2 y2 z2 st2 hQ2
  subst l2 y2 z2
  obtain ⟨tt2, kt2, rfl, N2q, K2, lt2, Co2, Va2, Vt2⟩ := hQ2
  have N2 := Fr.app N0 N2q
  have ne_a2_tt2 : a2 ≠ tt2 := Nat.ne_of_lt (Nat.lt_of_lt_of_le E_a2.lt lt2)
  have ne_b_tt2 : b ≠ tt2 := Nat.ne_of_lt (Nat.lt_of_lt_of_le V_b.lt lt2)
  have ne_b1_tt2 : b1 ≠ tt2 := Nat.ne_of_lt (Nat.lt_of_lt_of_le E_b1.lt lt2)
  have sz_tt2 : h0.size ≤ tt2 := Nat.le_trans K0.1 lt2
  obtain ⟨h2, e2⟩ : ∃ z, T2.heap = z := ⟨_, rfl⟩
  rw [e2] at K2 Co2 Va2 Vt2
  replace Z0 := Nat.le_trans Z0 K2.1
  replace K0 := K0.trans K2 (allS (Or.inr sz_b1) all0)
  replace O0 := O0.keep K2 (allS g_b1 all0)
  replace E_a2 := E_a2.keep K2
  replace G_value := G_value.keep K2 (ninS ne_a2_b1 nin0)
  replace G_coder := G_coder.keep K2 (ninS ne_a2_b1 nin0)
  replace G_count := G_count.keep K2 (ninS ne_a2_b1 nin0)
  replace V_b := V_b.keep K2 (ninS ne_b_b1 nin0)
  replace E_b1 := E_b1.keep K2
  refine Go.tr (T' := T2) (pc' := 8) (L' := #[.val (.ref a2)]) (S' := [(.ref b1)]) st2 ?_
  exact Go.retO X2 hx hlk hret rfl (by simp [FieldType.isReference, Value.isRef]) (hb hby d16_8) (by decide) (by decide) (by rw [e2]; exact ⟨b1, tt2, _, rfl, N2, K0, g_b1, sz_b1, sz_tt2, E_b1, Co2, Va2, Vt2⟩)
theorem d39_0 : decode jdk_41_method_11_code 0 = .ok (.iload_n 0, 1) := by decide +kernel
theorem d39_1 : decode jdk_41_method_11_code 1 = .ok (.ifCond .lt 8, 3) := by decide +kernel
theorem d39_4 : decode jdk_41_method_11_code 4 = .ok (.iload_n 0, 1) := by decide +kernel
theorem d39_5 : decode jdk_41_method_11_code 5 = .ok (.iload_n 1, 1) := by decide +kernel
theorem d39_6 : decode jdk_41_method_11_code 6 = .ok (.if_icmp .lt 10, 3) := by decide +kernel
theorem d39_16 : decode jdk_41_method_11_code 16 = .ok (.iload_n 0, 1) := by decide +kernel
theorem d39_17 : decode jdk_41_method_11_code 17 = .ok (.ireturn, 1) := by decide +kernel
theorem pn_4 : plainName "jdk/internal/util/Preconditions" = true := by first | (simp [plainName, overriddenIn]; done) | decide +kernel
def QckR (Z : State) (i : Nat) (k : Nat) (fa : Addr) (h0 : Heap) (n0 : Nat) (v : Option Value) (h : Heap) (L : List Loc) : Prop := v = some (.int (i.toInt32)) ∧ Fr n0 L ∧ h = h0
def roomckR : Room := { frames := 0, cells := 0, slots := 0, locals := 0 }
set_option maxRecDepth 65536 in
set_option maxHeartbeats 40000000 in
theorem rmckR (l : Launch) (Z : State) (a0 : Array Value) (hw : ∀ d ∈ tables_1, d.before a0 Z = true) (ws : List Jvm.Cond) (i : Nat) (k : Nat) (fa : Addr) (h0 : Heap) (n0 : Nat) (Z0 : n0 ≤ h0.size) (hi : i < k) (hk : k < 2147483648) :
    MetFree l (⟨"jdk/internal/util/Preconditions", "checkIndex", "(IILjava/util/function/BiFunction;)I"⟩ : MethodName) (head1 (Jvm.Cond.code (⟨"jdk/internal/util/Preconditions", "checkIndex", "(IILjava/util/function/BiFunction;)I"⟩ : MethodName) jdk_41_method_11_code 3 (some .int) :: ws) roomckR) (fun aa_ U_ => aa_ = #[(.int (i.toInt32)), (.int (k.toInt32)), (.ref fa)] ∧ Z.Warmed39 U_.vm ∧ U_.heap = h0) (fun _ _ _ _ _ => True) (fun _ U_ o_ W_ => ∃ v_ L_, o_ = .returned v_ ∧ (QckR Z i k fa h0 n0) v_ W_.heap L_ ∧ FrameEnd U_ o_ W_ L_ roomckR.cells roomckR.slots) := by
  refine own_met (Q := (QckR Z i k fa h0 n0)) (L0 := #[.val (.int (i.toInt32)), .val (.int (k.toInt32)), .val (.ref fa)]) (plainFor_of_name pn_4) (fun m => by first | (simp [entryFrame, mkF, argsToLocals, Value.category]; done) | rfl) ?_
  intro p e s m below meth c T0 X0 hx hby hml hown hnm hret hlk hZ e0
  have N0 := Fr.nil n0
  refine Go.st (T' := T0) (pc' := 1) (L' := #[.val (.int (i.toInt32)), .val (.int (k.toInt32)), .val (.ref fa)]) (S' := [(.int (i.toInt32))]) (fun t_ k_ => XS.iloadN X0.here hx rfl (hb hby d39_0) rfl  k_) ?_
  refine Go.st (T' := T0) (pc' := 4) (L' := #[.val (.int (i.toInt32)), .val (.int (k.toInt32)), .val (.ref fa)]) (S' := []) (fun t_ k_ => XS.ifNo X0.here hx rfl (hb hby d39_1) rfl ((if0 _ _).trans (flt (own_nnN (by omega) : ¬ ((i.toInt32) < (0 : Int32)))).1) k_) ?_
  refine Go.st (T' := T0) (pc' := 5) (L' := #[.val (.int (i.toInt32)), .val (.int (k.toInt32)), .val (.ref fa)]) (S' := [(.int (i.toInt32))]) (fun t_ k_ => XS.iloadN X0.here hx rfl (hb hby d39_4) rfl  k_) ?_
  refine Go.st (T' := T0) (pc' := 6) (L' := #[.val (.int (i.toInt32)), .val (.int (k.toInt32)), .val (.ref fa)]) (S' := [(.int (k.toInt32)), (.int (i.toInt32))]) (fun t_ k_ => XS.iloadN X0.here hx rfl (hb hby d39_5) rfl  k_) ?_
  refine Go.st (T' := T0) (pc' := 16) (L' := #[.val (.int (i.toInt32)), .val (.int (k.toInt32)), .val (.ref fa)]) (S' := []) (fun t_ k_ => XS.icmpYes X0.here hx rfl (pc0 := 6) (pc' := 16) rfl (hb hby d39_6) rfl (tlt ((own_ltI (by omega) (by omega)).mpr hi : ((i.toInt32) < (k.toInt32)))).1 (by decide) (by decide) k_) ?_
  refine Go.st (T' := T0) (pc' := 17) (L' := #[.val (.int (i.toInt32)), .val (.int (k.toInt32)), .val (.ref fa)]) (S' := [(.int (i.toInt32))]) (fun t_ k_ => XS.iloadN X0.here hx rfl (hb hby d39_16) rfl  k_) ?_
  exact Go.retO X0 hx hlk hret rfl (by simp [FieldType.isReference, Value.isRef]) (hb hby d39_17) (by decide) (by decide) (by rw [e0]; exact ⟨rfl, N0, rfl⟩)

def QckN (Z : State) (i : Nat) (k : Nat) (h0 : Heap) (n0 : Nat) (v : Option Value) (h : Heap) (L : List Loc) : Prop := v = some (.int (i.toInt32)) ∧ Fr n0 L ∧ h = h0
def roomckN : Room := { frames := 0, cells := 0, slots := 0, locals := 0 }
set_option maxRecDepth 65536 in
set_option maxHeartbeats 40000000 in
theorem rmckN (l : Launch) (Z : State) (a0 : Array Value) (hw : ∀ d ∈ tables_1, d.before a0 Z = true) (ws : List Jvm.Cond) (i : Nat) (k : Nat) (h0 : Heap) (n0 : Nat) (Z0 : n0 ≤ h0.size) (hi : i < k) (hk : k < 2147483648) :
    MetFree l (⟨"jdk/internal/util/Preconditions", "checkIndex", "(IILjava/util/function/BiFunction;)I"⟩ : MethodName) (head1 (Jvm.Cond.code (⟨"jdk/internal/util/Preconditions", "checkIndex", "(IILjava/util/function/BiFunction;)I"⟩ : MethodName) jdk_41_method_11_code 3 (some .int) :: ws) roomckN) (fun aa_ U_ => aa_ = #[(.int (i.toInt32)), (.int (k.toInt32)), .null] ∧ Z.Warmed39 U_.vm ∧ U_.heap = h0) (fun _ _ _ _ _ => True) (fun _ U_ o_ W_ => ∃ v_ L_, o_ = .returned v_ ∧ (QckN Z i k h0 n0) v_ W_.heap L_ ∧ FrameEnd U_ o_ W_ L_ roomckN.cells roomckN.slots) := by
  refine own_met (Q := (QckN Z i k h0 n0)) (L0 := #[.val (.int (i.toInt32)), .val (.int (k.toInt32)), .val .null]) (plainFor_of_name pn_4) (fun m => by first | (simp [entryFrame, mkF, argsToLocals, Value.category]; done) | rfl) ?_
  intro p e s m below meth c T0 X0 hx hby hml hown hnm hret hlk hZ e0
  have N0 := Fr.nil n0
  refine Go.st (T' := T0) (pc' := 1) (L' := #[.val (.int (i.toInt32)), .val (.int (k.toInt32)), .val .null]) (S' := [(.int (i.toInt32))]) (fun t_ k_ => XS.iloadN X0.here hx rfl (hb hby d39_0) rfl  k_) ?_
  refine Go.st (T' := T0) (pc' := 4) (L' := #[.val (.int (i.toInt32)), .val (.int (k.toInt32)), .val .null]) (S' := []) (fun t_ k_ => XS.ifNo X0.here hx rfl (hb hby d39_1) rfl ((if0 _ _).trans (flt (own_nnN (by omega) : ¬ ((i.toInt32) < (0 : Int32)))).1) k_) ?_
  refine Go.st (T' := T0) (pc' := 5) (L' := #[.val (.int (i.toInt32)), .val (.int (k.toInt32)), .val .null]) (S' := [(.int (i.toInt32))]) (fun t_ k_ => XS.iloadN X0.here hx rfl (hb hby d39_4) rfl  k_) ?_
  refine Go.st (T' := T0) (pc' := 6) (L' := #[.val (.int (i.toInt32)), .val (.int (k.toInt32)), .val .null]) (S' := [(.int (k.toInt32)), (.int (i.toInt32))]) (fun t_ k_ => XS.iloadN X0.here hx rfl (hb hby d39_5) rfl  k_) ?_
  refine Go.st (T' := T0) (pc' := 16) (L' := #[.val (.int (i.toInt32)), .val (.int (k.toInt32)), .val .null]) (S' := []) (fun t_ k_ => XS.icmpYes X0.here hx rfl (pc0 := 6) (pc' := 16) rfl (hb hby d39_6) rfl (tlt ((own_ltI (by omega) (by omega)).mpr hi : ((i.toInt32) < (k.toInt32)))).1 (by decide) (by decide) k_) ?_
  refine Go.st (T' := T0) (pc' := 17) (L' := #[.val (.int (i.toInt32)), .val (.int (k.toInt32)), .val .null]) (S' := [(.int (i.toInt32))]) (fun t_ k_ => XS.iloadN X0.here hx rfl (hb hby d39_16) rfl  k_) ?_
  exact Go.retO X0 hx hlk hret rfl (by simp [FieldType.isReference, Value.isRef]) (hb hby d39_17) (by decide) (by decide) (by rw [e0]; exact ⟨rfl, N0, rfl⟩)
set_option maxRecDepth 65536 in
set_option maxHeartbeats 40000000 in
theorem rmck (l : Launch) (Z : State) (a0 : Array Value) (hw : ∀ d ∈ tables_1, d.before a0 Z = true) (ws : List Jvm.Cond) (i : Nat) (k : Nat) (fm : Value) (h0 : Heap) (n0 : Nat) (Z0 : n0 ≤ h0.size) (hfm : fm.isRef = true) (hi : i < k) (hk : k < 2147483648) :
    MetFree l (⟨"jdk/internal/util/Preconditions", "checkIndex", "(IILjava/util/function/BiFunction;)I"⟩ : MethodName) (head1 (Jvm.Cond.code (⟨"jdk/internal/util/Preconditions", "checkIndex", "(IILjava/util/function/BiFunction;)I"⟩ : MethodName) jdk_41_method_11_code 3 (some .int) :: ws) roomckN) (fun aa_ U_ => aa_ = #[(.int (i.toInt32)), (.int (k.toInt32)), fm] ∧ Z.Warmed39 U_.vm ∧ U_.heap = h0) (fun _ _ _ _ _ => True) (fun _ U_ o_ W_ => ∃ v_ L_, o_ = .returned v_ ∧ (QckN Z i k h0 n0) v_ W_.heap L_ ∧ FrameEnd U_ o_ W_ L_ roomckN.cells roomckN.slots) := by
  rcases ref_cases hfm with rfl | ⟨a, rfl⟩
  · exact rmckN l Z a0 hw ws i k h0 n0 Z0 hi hk
  · exact rmckR l Z a0 hw ws i k a h0 n0 Z0 hi hk
theorem d38_0 : decode jdk_42_method_155_code 0 = .ok (.iload_n 0, 1) := by decide +kernel
theorem d38_1 : decode jdk_42_method_155_code 1 = .ok (.iload_n 1, 1) := by decide +kernel
theorem d38_2 : decode jdk_42_method_155_code 2 = .ok (.getstatic 1053, 3) := by decide +kernel
theorem d38_5 : decode jdk_42_method_155_code 5 = .ok (.invokestatic 1059, 3) := by decide +kernel
theorem d38_8 : decode jdk_42_method_155_code 8 = .ok (.pop, 1) := by decide +kernel
theorem d38_9 : decode jdk_42_method_155_code 9 = .ok (.return_, 1) := by decide +kernel
theorem pd_15 : parseMethodDescriptor "(IILjava/util/function/BiFunction;)I" = some ⟨[.int, .int, (.object "java/util/function/BiFunction")], some .int⟩ := by decide +kernel
def Q38 (Z : State) (i : Nat) (k : Nat) (fm : Value) (h0 : Heap) (n0 : Nat) (v : Option Value) (h : Heap) (L : List Loc) : Prop := v = none ∧ Fr n0 L ∧ h = h0
def room38 : Room := { frames := 1, cells := 0, slots := 0, locals := 14 }
set_option maxRecDepth 65536 in
set_option maxHeartbeats 40000000 in
theorem rm38 (l : Launch) (Z : State) (a0 : Array Value) (hw : ∀ d ∈ tables_1, d.before a0 Z = true) (ws : List Jvm.Cond) (i : Nat) (k : Nat) (fm : Value) (h0 : Heap) (n0 : Nat) (Z0 : n0 ≤ h0.size) (hfm : fm.isRef = true) (SF : Sta Z Z.heap "jdk/internal/util/Preconditions" "SIOOBE_FORMATTER" "Ljava/util/function/BiFunction;" fm) (O0 : Old Z n0 h0) (hi : i < k) (hk : k < 2147483648) :
    MetFree l (⟨"java/lang/String", "checkIndex", "(II)V"⟩ : MethodName) (head1 (Jvm.Cond.code (⟨"java/lang/String", "checkIndex", "(II)V"⟩ : MethodName) jdk_42_method_155_code 2 none :: ws) room38) (fun aa_ U_ => aa_ = #[(.int (i.toInt32)), (.int (k.toInt32))] ∧ Z.Warmed39 U_.vm ∧ U_.heap = h0) (fun _ _ _ _ _ => True) (fun _ U_ o_ W_ => ∃ v_ L_, o_ = .returned v_ ∧ (Q38 Z i k fm h0 n0) v_ W_.heap L_ ∧ FrameEnd U_ o_ W_ L_ room38.cells room38.slots) := by
  refine own_met (Q := (Q38 Z i k fm h0 n0)) (L0 := #[.val (.int (i.toInt32)), .val (.int (k.toInt32))]) (plainFor_of_name pn_0) (fun m => by first | (simp [entryFrame, mkF, argsToLocals, Value.category]; done) | rfl) ?_
  intro p e s m below meth c T0 X0 hx hby hml hown hnm hret hlk hZ e0
  have N0 := Fr.nil n0
  refine Go.st (T' := T0) (pc' := 1) (L' := #[.val (.int (i.toInt32)), .val (.int (k.toInt32))]) (S' := [(.int (i.toInt32))]) (fun t_ k_ => XS.iloadN X0.here hx rfl (hb hby d38_0) rfl  k_) ?_
  refine Go.st (T' := T0) (pc' := 2) (L' := #[.val (.int (i.toInt32)), .val (.int (k.toInt32))]) (S' := [(.int (k.toInt32)), (.int (i.toInt32))]) (fun t_ k_ => XS.iloadN X0.here hx rfl (hb hby d38_1) rfl  k_) ?_
  obtain ⟨T1, X1, e1, st1⟩ := getS2 X0 hx hZ hown (host := "") (Or.inl (hw _ (List.mem_of_getElem? (i := 229) rfl))) Via.refl e0 (SF.ext O0.2) (g := (mkF m 2 #[.val (.int (i.toInt32)), .val (.int (k.toInt32))] [(.int (k.toInt32)), (.int (i.toInt32))])) rfl (hb hby d38_2)
  refine Go.st (T' := T1) (pc' := 5) (L' := #[.val (.int (i.toInt32)), .val (.int (k.toInt32))]) (S' := [fm, (.int (k.toInt32)), (.int (i.toInt32))]) st1 ?_
  obtain ⟨_, _, ⟨T2, L2, k2, n2⟩, -, X2, ⟨Lc2, hQ2, l2, y2, z2⟩, st2⟩ := Jvm.LawKit.callS X1 hx (y := (⟨"jdk/internal/util/Preconditions", "checkIndex", "(IILjava/util/function/BiFunction;)I"⟩ : MethodName)) hown (mvT hZ (hw _ (List.mem_of_getElem? (i := 231) rfl))) (mvT hZ (hw _ (List.mem_of_getElem? (i := 232) rfl))) (mvT hZ (hw _ (List.mem_of_getElem? (i := 230) rfl))) (mvT hZ (hw _ (List.mem_of_getElem? (i := 233) rfl))) (by decide) (backOf (W := 0) (rmck l Z a0 hw [] i k fm h0 n0 Z0 hfm hi hk) hZ (hw _ (List.mem_of_getElem? (i := 233) rfl)) (hw _ (List.mem_of_getElem? (i := 230) rfl)) (by decide) (by decide)) (g := (mkF m 5 #[.val (.int (i.toInt32)), .val (.int (k.toInt32))] [fm, (.int (k.toInt32)), (.int (i.toInt32))])) rfl (by rw [hml]; rfl) (argsL := [(.int (i.toInt32)), (.int (k.toInt32)), fm]) (rest := []) (lenOf pd_15 rfl) rfl (by show 2 * 0 + _ ≤ _; exact Nat.le_of_eq rfl) (hb hby d38_5) (fun _ _ => ⟨rfl, e1, (by decide : 0 + 0 ≤ _), (by decide : 0 + 0 ≤ _)⟩)
  dsimp only [Pt.U, Pt.locs, Pt.cells, Pt.slots] at X2 l2 y2 z2 st2 hQ2
  subst l2 y2 z2
  obtain ⟨rfl, N2q, e2⟩ := hQ2
  have N2 := Fr.app N0 N2q
  refine Go.st (T' := T2) (pc' := 8) (L' := #[.val (.int (i.toInt32)), .val (.int (k.toInt32))]) (S' := [(.int (i.toInt32))]) st2 ?_
  refine Go.st (T' := T2) (pc' := 9) (L' := #[.val (.int (i.toInt32)), .val (.int (k.toInt32))]) (S' := []) (fun t_ k_ => XS.pop X2.here hx rfl (hb hby d38_8) rfl rfl k_) ?_
  exact Go.retV X2 hx hlk hret (hb hby d38_9) (by decide) (by decide) (by rw [e2]; exact ⟨rfl, N2, rfl⟩)
theorem d37_0 : decode jdk_43_method_2_code 0 = .ok (.iload_n 1, 1) := by decide +kernel
theorem d37_1 : decode jdk_43_method_2_code 1 = .ok (.aload_n 0, 1) := by decide +kernel
theorem d37_2 : decode jdk_43_method_2_code 2 = .ok (.arraylength, 1) := by decide +kernel
theorem d37_3 : decode jdk_43_method_2_code 3 = .ok (.invokestatic 9, 3) := by decide +kernel
theorem d37_6 : decode jdk_43_method_2_code 6 = .ok (.aload_n 0, 1) := by decide +kernel
theorem d37_7 : decode jdk_43_method_2_code 7 = .ok (.iload_n 1, 1) := by decide +kernel
theorem d37_8 : decode jdk_43_method_2_code 8 = .ok (.baload, 1) := by decide +kernel
theorem d37_9 : decode jdk_43_method_2_code 9 = .ok (.sipush 255, 3) := by decide +kernel
theorem d37_12 : decode jdk_43_method_2_code 12 = .ok (.iand, 1) := by decide +kernel
theorem d37_13 : decode jdk_43_method_2_code 13 = .ok (.i2c, 1) := by decide +kernel
theorem d37_14 : decode jdk_43_method_2_code 14 = .ok (.ireturn, 1) := by decide +kernel
theorem pn_5 : plainName "java/lang/StringLatin1" = true := by first | (simp [plainName, overriddenIn]; done) | decide +kernel
def Q37 (Z : State) (t1 : Addr) (k1 : ClassId) (bs : List Int32) (i : Nat) (k : Nat) (fm : Value) (h0 : Heap) (n0 : Nat) (v : Option Value) (h : Heap) (L : List Loc) : Prop := v = some (.int (nar .char ((bs.getD (i) 0 &&& (255 : Int32)).toUInt32.toUInt16.toUInt32.toInt32))) ∧ Fr n0 L ∧ h = h0
def room37 : Room := { frames := 2, cells := 0, slots := 0, locals := 27 }
set_option maxRecDepth 65536 in
set_option maxHeartbeats 40000000 in
theorem rm37 (l : Launch) (Z : State) (a0 : Array Value) (hw : ∀ d ∈ tables_1, d.before a0 Z = true) (ws : List Jvm.Cond) (t1 : Addr) (k1 : ClassId) (bs : List Int32) (i : Nat) (k : Nat) (fm : Value) (h0 : Heap) (n0 : Nat) (Z0 : n0 ≤ h0.size) (hfm : fm.isRef = true) (SF : Sta Z Z.heap "jdk/internal/util/Preconditions" "SIOOBE_FORMATTER" "Ljava/util/function/BiFunction;" fm) (O0 : Old Z n0 h0) (V_t : Arv Z h0 t1 k1 .byte (k.toInt32) (bs.map Value.int) (.int (0 : Int32))) (hi : i < k) (hk : k < 2147483648) :
    MetFree l (⟨"java/lang/StringLatin1", "charAt", "([BI)C"⟩ : MethodName) (head1 (Jvm.Cond.code (⟨"java/lang/StringLatin1", "charAt", "([BI)C"⟩ : MethodName) jdk_43_method_2_code 2 (some .char) :: ws) room37) (fun aa_ U_ => aa_ = #[(.ref t1), (.int (i.toInt32))] ∧ Z.Warmed39 U_.vm ∧ U_.heap = h0) (fun _ _ _ _ _ => True) (fun _ U_ o_ W_ => ∃ v_ L_, o_ = .returned v_ ∧ (Q37 Z t1 k1 bs i k fm h0 n0) v_ W_.heap L_ ∧ FrameEnd U_ o_ W_ L_ room37.cells room37.slots) := by
  refine own_met (Q := (Q37 Z t1 k1 bs i k fm h0 n0)) (L0 := #[.val (.ref t1), .val (.int (i.toInt32))]) (plainFor_of_name pn_5) (fun m => by first | (simp [entryFrame, mkF, argsToLocals, Value.category]; done) | rfl) ?_
  intro p e s m below meth c T0 X0 hx hby hml hown hnm hret hlk hZ e0
  have N0 := Fr.nil n0
  refine Go.st (T' := T0) (pc' := 1) (L' := #[.val (.ref t1), .val (.int (i.toInt32))]) (S' := [(.int (i.toInt32))]) (fun t_ k_ => XS.iloadN X0.here hx rfl (hb hby d37_0) rfl  k_) ?_
  refine Go.st (T' := T0) (pc' := 2) (L' := #[.val (.ref t1), .val (.int (i.toInt32))]) (S' := [(.ref t1), (.int (i.toInt32))]) (fun t_ k_ => XS.aloadN X0.here hx rfl (hb hby d37_1) rfl rfl  k_) ?_
  obtain ⟨cl1, Ar1, -, q1a, q1b, -, -⟩ := id V_t
  refine Go.st (T' := T0) (pc' := 3) (L' := #[.val (.ref t1), .val (.int (i.toInt32))]) (S' := [(.int (k.toInt32)), (.int (i.toInt32))]) (fun t_ k_ => own_len X0 hx hZ e0 Ar1 q1a q1b (g := (mkF m 2 #[.val (.ref t1), .val (.int (i.toInt32))] [(.ref t1), (.int (i.toInt32))])) rfl rfl (hb hby d37_2) t_ k_) ?_
  obtain ⟨_, _, ⟨T2, L2, k2, n2⟩, -, X2, ⟨Lc2, hQ2, l2, y2, z2⟩, st2⟩ := Jvm.LawKit.callS X0 hx (y := (⟨"java/lang/String", "checkIndex", "(II)V"⟩ : MethodName)) hown (mvT hZ (hw _ (List.mem_of_getElem? (i := 226) rfl))) (mvT hZ (hw _ (List.mem_of_getElem? (i := 227) rfl))) (mvT hZ (hw _ (List.mem_of_getElem? (i := 6) rfl))) (mvT hZ (hw _ (List.mem_of_getElem? (i := 228) rfl))) (by decide) (backOf (W := 0) (rm38 l Z a0 hw [] i k fm h0 n0 Z0 hfm SF O0 hi hk) hZ (hw _ (List.mem_of_getElem? (i := 228) rfl)) (hw _ (List.mem_of_getElem? (i := 6) rfl)) (by decide) (by decide)) (g := (mkF m 3 #[.val (.ref t1), .val (.int (i.toInt32))] [(.int (k.toInt32)), (.int (i.toInt32))])) rfl (by rw [hml]; rfl) (argsL := [(.int (i.toInt32)), (.int (k.toInt32))]) (rest := []) (lenOf pd_8 rfl) rfl (by show 2 * 0 + _ ≤ _; exact Nat.le_of_eq rfl) (hb hby d37_3) (fun _ _ => ⟨rfl, e0, (by decide : 0 + 0 ≤ _), (by decide : 0 + 0 ≤ _)⟩)
  dsimp only [Pt.U, Pt.locs, Pt.cells, Pt.slots] at X2 l2 y2 z2 st2 hQ2
  subst l2 y2 z2
  obtain ⟨rfl, N2q, e2⟩ := hQ2
  have N2 := Fr.app N0 N2q
  refine Go.st (T' := T2) (pc' := 6) (L' := #[.val (.ref t1), .val (.int (i.toInt32))]) (S' := []) st2 ?_
  refine Go.st (T' := T2) (pc' := 7) (L' := #[.val (.ref t1), .val (.int (i.toInt32))]) (S' := [(.ref t1)]) (fun t_ k_ => XS.aloadN X2.here hx rfl (hb hby d37_6) rfl rfl  k_) ?_
  refine Go.st (T' := T2) (pc' := 8) (L' := #[.val (.ref t1), .val (.int (i.toInt32))]) (S' := [(.int (i.toInt32)), (.ref t1)]) (fun t_ k_ => XS.iloadN X2.here hx rfl (hb hby d37_7) rfl  k_) ?_
  obtain ⟨cl3, Ar3, -, q3a, q3b, q3c, q3d⟩ := id V_t
  refine Go.st (T' := T2) (pc' := 9) (L' := #[.val (.ref t1), .val (.int (i.toInt32))]) (S' := [(.int (bs.getD (i) 0))]) (fun t_ k_ => X2.baloadBytes hx (j := (i.toInt32)) (v := (.int (bs.getD (i) 0))) (by rw [e2]; exact Ar3.1) (State.isArrayOf_alike hZ.alike Ar3.2.1) Ar3.2.2 (own_inbS q3a hi hk) (q3c.at (own_inbS q3a hi hk) (own_atI _ (by omega))) (g := (mkF m 8 #[.val (.ref t1), .val (.int (i.toInt32))] [(.int (i.toInt32)), (.ref t1)])) rfl rfl (hb hby d37_8) t_ k_) ?_
  refine Go.st (T' := T2) (pc' := 12) (L' := #[.val (.ref t1), .val (.int (i.toInt32))]) (S' := [(.int (255 : Int32)), (.int (bs.getD (i) 0))]) (fun t_ k_ => XS.sipush X2.here hx rfl (hb hby d37_9) k_) ?_
  refine Go.st (T' := T2) (pc' := 13) (L' := #[.val (.ref t1), .val (.int (i.toInt32))]) (S' := [(.int ((bs.getD (i) 0) &&& (255 : Int32)))]) (fun t_ k_ => XS.iand X2.here hx rfl (hb hby d37_12) rfl k_) ?_
  refine Go.st (T' := T2) (pc' := 14) (L' := #[.val (.ref t1), .val (.int (i.toInt32))]) (S' := [(.int (((bs.getD (i) 0) &&& (255 : Int32)).toUInt32.toUInt16.toUInt32.toInt32))]) (fun t_ k_ => XS.i2c X2.here hx rfl (hb hby d37_13) rfl k_) ?_
  exact Go.retN X2 hx hlk hret (by simp) (hb hby d37_14) (by decide) (by decide) (by rw [e2]; exact ⟨rfl, N2, rfl⟩)
theorem d35_0 : decode jdk_42_method_56_code 0 = .ok (.aload_n 0, 1) := by decide +kernel
theorem d35_1 : decode jdk_42_method_56_code 1 = .ok (.invokevirtual 492, 3) := by decide +kernel
theorem d35_4 : decode jdk_42_method_56_code 4 = .ok (.ifCond .eq 12, 3) := by decide +kernel
theorem d35_7 : decode jdk_42_method_56_code 7 = .ok (.aload_n 0, 1) := by decide +kernel
theorem d35_8 : decode jdk_42_method_56_code 8 = .ok (.getfield 9, 3) := by decide +kernel
theorem d35_11 : decode jdk_42_method_56_code 11 = .ok (.iload_n 1, 1) := by decide +kernel
theorem d35_12 : decode jdk_42_method_56_code 12 = .ok (.invokestatic 495, 3) := by decide +kernel
theorem d35_15 : decode jdk_42_method_56_code 15 = .ok (.ireturn, 1) := by decide +kernel
theorem pd_16 : parseMethodDescriptor "([BI)C" = some ⟨[(.array .byte), .int], some .char⟩ := by decide +kernel
def Q35 (Z : State) (a1 : Addr) (t1 : Addr) (k1 : ClassId) (bs : List Int32) (i : Nat) (k : Nat) (fm : Value) (gC : Int32) (h0 : Heap) (n0 : Nat) (v : Option Value) (h : Heap) (L : List Loc) : Prop := v = some (.int (own_ch (bs.getD (i) 0))) ∧ Fr n0 L ∧ h = h0
def room35 : Room := { frames := 3, cells := 0, slots := 0, locals := 40 }
set_option maxRecDepth 65536 in
set_option maxHeartbeats 40000000 in
theorem rm35 (l : Launch) (Z : State) (a0 : Array Value) (hw : ∀ d ∈ tables_1, d.before a0 Z = true) (ws : List Jvm.Cond) (a1 : Addr) (t1 : Addr) (k1 : ClassId) (bs : List Int32) (i : Nat) (k : Nat) (fm : Value) (gC : Int32) (h0 : Heap) (n0 : Nat) (Z0 : n0 ≤ h0.size) (SC : Sta Z Z.heap "java/lang/String" "COMPACT_STRINGS" "Z" (.int gC)) (PC : ¬ (gC = (0 : Int32))) (O0 : Old Z n0 h0) (hfm : fm.isRef = true) (SF : Sta Z Z.heap "jdk/internal/util/Preconditions" "SIOOBE_FORMATTER" "Ljava/util/function/BiFunction;" fm) (E_a1 : Exa Z h0 a1 "java/lang/String") (Fc_a1 : Fld Z h0 a1 "java/lang/String" "coder" "B" (.int (0 : Int32))) (Fv_a1 : Fld Z h0 a1 "java/lang/String" "value" "[B" (.ref t1)) (V_t1 : Arv Z h0 t1 k1 .byte (k.toInt32) (bs.map Value.int) (.int (0 : Int32))) (hi : i < k) (hk : k < 2147483648) :
    MetFree l (⟨"java/lang/String", "charAt", "(I)C"⟩ : MethodName) (head1 (Jvm.Cond.code (⟨"java/lang/String", "charAt", "(I)C"⟩ : MethodName) jdk_42_method_56_code 2 (some .char) :: ws) room35) (fun aa_ U_ => aa_ = #[(.ref a1), (.int (i.toInt32))] ∧ Z.Warmed39 U_.vm ∧ U_.heap = h0) (fun _ _ _ _ _ => True) (fun _ U_ o_ W_ => ∃ v_ L_, o_ = .returned v_ ∧ (Q35 Z a1 t1 k1 bs i k fm gC h0 n0) v_ W_.heap L_ ∧ FrameEnd U_ o_ W_ L_ room35.cells room35.slots) := by
  refine own_met (Q := (Q35 Z a1 t1 k1 bs i k fm gC h0 n0)) (L0 := #[.val (.ref a1), .val (.int (i.toInt32))]) (plainFor_of_name pn_0) (fun m => by first | (simp [entryFrame, mkF, argsToLocals, Value.category]; done) | rfl) ?_
  intro p e s m below meth c T0 X0 hx hby hml hown hnm hret hlk hZ e0
  have N0 := Fr.nil n0
  refine Go.st (T' := T0) (pc' := 1) (L' := #[.val (.ref a1), .val (.int (i.toInt32))]) (S' := [(.ref a1)]) (fun t_ k_ => XS.aloadN X0.here hx rfl (hb hby d35_0) rfl rfl  k_) ?_
  obtain ⟨cq1, kq1, q1a, q1b, q1c⟩ := isOf hZ e0 E_a1
  obtain ⟨_, _, ⟨T1, L1, k1, n1⟩, -, X1, ⟨Lc1, hQ1, l1, y1, z1⟩, st1⟩ := X0.virtualBack hx (y := (⟨"java/lang/String", "isLatin1", "()Z"⟩ : MethodName)) (z := (⟨"java/lang/String", "isLatin1", "()Z"⟩ : MethodName)) hown (mvT hZ (hw _ (List.mem_of_getElem? (i := 217) rfl))) (mvT hZ (hw _ (List.mem_of_getElem? (i := 218) rfl))) (notFace_of_selects (args := #[]) (mvT hZ (hw _ (List.mem_of_getElem? (i := 220) rfl)))) (mvT hZ (hw _ (List.mem_of_getElem? (i := 220) rfl))) (mvT hZ (hw _ (List.mem_of_getElem? (i := 219) rfl))) (by decide) (backOf (W := 0) (rm36 l Z a0 hw [] a1 gC h0 n0 Z0 SC PC O0 Fc_a1) hZ (hw _ (List.mem_of_getElem? (i := 221) rfl)) (hw _ (List.mem_of_getElem? (i := 6) rfl)) (by decide) (by decide)) q1a q1c (g := (mkF m 1 #[.val (.ref a1), .val (.int (i.toInt32))] [(.ref a1)])) rfl (by rw [hml]; rfl) (Steps.refl _) (argsL := []) (rest := []) (lenOf pd_12 rfl) rfl (by show 2 * 0 + _ ≤ _; exact Nat.le_of_eq rfl) (hb hby d35_1) (fun _ _ => ⟨rfl, e0, (by decide : 0 + 0 ≤ _), (by decide : 0 + 0 ≤ _)⟩)
  dsimp only [Pt.U, Pt.locs, Pt.cells, Pt.slots] at X1 l1 y1 z1 st1 hQ1
  subst l1 y1 z1
  obtain ⟨rfl, N1q, e1⟩ := hQ1
  have N1 := Fr.app N0 N1q
  refine Go.tr (T' := T1) (pc' := 4) (L' := #[.val (.ref a1), .val (.int (i.toInt32))]) (S' := [(.int (1 : Int32))]) st1 ?_
  refine Go.st (T' := T1) (pc' := 7) (L' := #[.val (.ref a1), .val (.int (i.toInt32))]) (S' := []) (fun t_ k_ => XS.ifNo X1.here hx rfl (hb hby d35_4) rfl ((if0 _ _).trans (feq (by decide : ¬ ((1 : Int32) = (0 : Int32)))).1) k_) ?_
  refine Go.st (T' := T1) (pc' := 8) (L' := #[.val (.ref a1), .val (.int (i.toInt32))]) (S' := [(.ref a1)]) (fun t_ k_ => XS.aloadN X1.here hx rfl (hb hby d35_7) rfl rfl  k_) ?_
  obtain ⟨T2, X2, e2, st2⟩ := getF X1 hx hZ hown (host := "") (Or.inl (hw _ (List.mem_of_getElem? (i := 24) rfl))) Via.refl e1 Fv_a1 (g := (mkF m 8 #[.val (.ref a1), .val (.int (i.toInt32))] [(.ref a1)])) rfl rfl (hb hby d35_8)
  refine Go.st (T' := T2) (pc' := 11) (L' := #[.val (.ref a1), .val (.int (i.toInt32))]) (S' := [(.ref t1)]) st2 ?_
  refine Go.st (T' := T2) (pc' := 12) (L' := #[.val (.ref a1), .val (.int (i.toInt32))]) (S' := [(.int (i.toInt32)), (.ref t1)]) (fun t_ k_ => XS.iloadN X2.here hx rfl (hb hby d35_11) rfl  k_) ?_
  obtain ⟨_, _, ⟨T3, L3, k3, n3⟩, -, X3, ⟨Lc3, hQ3, l3, y3, z3⟩, st3⟩ := Jvm.LawKit.callS X2 hx (y := (⟨"java/lang/StringLatin1", "charAt", "([BI)C"⟩ : MethodName)) hown (mvT hZ (hw _ (List.mem_of_getElem? (i := 222) rfl))) (mvT hZ (hw _ (List.mem_of_getElem? (i := 223) rfl))) (mvT hZ (hw _ (List.mem_of_getElem? (i := 224) rfl))) (mvT hZ (hw _ (List.mem_of_getElem? (i := 225) rfl))) (by decide) (backOf (W := 0) (rm37 l Z a0 hw [] t1 _ _ i k fm h0 n0 Z0 hfm SF O0 V_t1 hi hk) hZ (hw _ (List.mem_of_getElem? (i := 225) rfl)) (hw _ (List.mem_of_getElem? (i := 224) rfl)) (by decide) (by decide)) (g := (mkF m 12 #[.val (.ref a1), .val (.int (i.toInt32))] [(.int (i.toInt32)), (.ref t1)])) rfl (by rw [hml]; rfl) (argsL := [(.ref t1), (.int (i.toInt32))]) (rest := []) (lenOf pd_16 rfl) rfl (by show 2 * 0 + _ ≤ _; exact Nat.le_of_eq rfl) (hb hby d35_12) (fun _ _ => ⟨rfl, e2, (by decide : 0 + 0 ≤ _), (by decide : 0 + 0 ≤ _)⟩)
  dsimp only [Pt.U, Pt.locs, Pt.cells, Pt.slots] at X3 l3 y3 z3 st3 hQ3
  subst l3 y3 z3
  obtain ⟨rfl, N3q, e3⟩ := hQ3
  have N3 := Fr.app N1 N3q
  refine Go.st (T' := T3) (pc' := 15) (L' := #[.val (.ref a1), .val (.int (i.toInt32))]) (S' := [(.int (nar .char ((bs.getD (i) 0 &&& (255 : Int32)).toUInt32.toUInt16.toUInt32.toInt32)))]) st3 ?_
  exact Go.retN X3 hx hlk hret (by simp) (hb hby d35_15) (by decide) (by decide) (by rw [e3]; exact ⟨rfl, N3, rfl⟩)
section OwnThr
open Jvm.Free.Exc Jvm.Lib.Cold
variable {p : Program} {l : Launch} {e : Env} {R : Room} {s : State} {m : MethodId} {args : Array Value} {below : List Frame} {meth : Method} {c : Code} {T : State} {locs : List Loc} {cells slots : Nat} {Z : State} {a0 : Array Value} {h : Heap}
/-- what fillInStackTrace asks, of the receiver's class rc's layout alone -/
def own_atoms (rc : String) : List Jvm.Cond := [.native tFill0, .initialized tN, .superclass tN "java/lang/Object", .instanceMethod tFill, .codeSync tFill jdk_78_method_18_code 1 (some (.object tN)), .instanceMethod tFill0, .instanceMethod oInit, .code oInit object_method_1_code 1 none,
  .methodLink tN 1 oInit, .methodLink tN 27 tFill, .methodLink tN 202 tFill0, .fieldLink tN 7 tN "cause" thD, .fieldLink tN 17 tN "stackTrace" steD, .fieldLink tN 24 tN "suppressedExceptions" listD, .fieldLink tN 13 tN "UNASSIGNED_STACK" steD, .laysStatic tN "UNASSIGNED_STACK" steD,
  .fieldLink tN 20 tN "SUPPRESSED_SENTINEL" listD, .laysStatic tN "SUPPRESSED_SENTINEL" listD, .lays rc tN "cause" thD, .lays rc tN "stackTrace" steD, .lays rc tN "suppressedExceptions" listD, .lays rc tN "detailMessage" msgD, .declares tFill, .selects rc tFill0 tFill0,
  .selects rc tFill tFill, .fieldLink tN 198 tN "backtrace" obD, .lays rc tN "backtrace" obD, .arrayOver (.object "java/lang/Object"), .soleField tN "backtrace", .soleField tN "depth", .lays rc tN "depth" "I"]
theorem own_aok {rc : String} : (own_atoms rc).all xOk = true := rfl
theorem own_fillc : jdk_78_method_18_code = LibCode.Throwable.Fill.code := by decide +kernel
theorem own_ap {rc n1 d1 n2 d2 : String} {c1 c2 i1 i2 : Nat} {k1 k2 : Class} {f1 f2 : Field} {t1 t2 : FieldType} (w1 : (Jvm.Cond.lays rc tN n1 d1).before args s = true) (w2 : (Jvm.Cond.lays rc tN n2 d2).before args s = true) (h1 : s.fieldFound? tN n1 d1 = some (c1, k1, i1, f1)) (h2 : s.fieldFound? tN n2 d2 = some (c2, k2, i2, f2))
    (p1 : parseFieldDescriptor d1 = some t1) (p2 : parseFieldDescriptor d2 = some t2) (hn : n1 ≠ n2) : f1.slot ≠ f2.slot :=
  Cond.lays_apart w1 w2 h1 h2 (by rw [(State.fieldFound?_type h1 p1).1, (State.fieldFound?_type h2 p2).1]; exact hn)
theorem own_pO : parseFieldDescriptor obD = some (.object "java/lang/Object") := by decide +kernel
theorem own_pM : parseFieldDescriptor msgD = some (.object "java/lang/String") := by decide +kernel
theorem own_pC : parseFieldDescriptor thD = some (.object tN) := by decide +kernel
theorem own_pS : parseFieldDescriptor steD = some (.array (.object "java/lang/StackTraceElement")) := by decide +kernel
theorem own_pL : parseFieldDescriptor listD = some (.object "java/util/List") := by decide +kernel
theorem own_pI : parseFieldDescriptor "I" = some .int := by decide +kernel
theorem own_thr {pl : Platform} {rc : String} (b1 : pl.frameOwnsMonitors = true) (b2 : pl.finalization = false) (b3 : pl.magicAccessors = ({} : Platform).magicAccessors) (w : ∀ d ∈ own_atoms rc, d.before args s = true) :
    ∃ Tc : ThrowableC, Tc.Links pl s ∧ s.vm.findClass tN = some Tc.cT ∧ s.methodNamed? tFill = some Tc.fill ∧ s.methodNamed? tFill0 = some Tc.fill0 ∧ s.fieldFound? tN "stackTrace" steD = some (Tc.cT, Tc.kT, Tc.i17, Tc.fStack) ∧ s.fieldFound? tN "UNASSIGNED_STACK" steD = some (Tc.cT, Tc.kT, Tc.i13, Tc.fUnassigned) := by
  have q : ∀ (i : Nat) (d : Jvm.Cond), (own_atoms rc)[i]? = some d → d.holds args s none s [] = true := fun i d h => w d (List.mem_of_getElem? h)
  obtain ⟨⟨k0, jN⟩, mN, n1, n2, n3, n4, n5, n6⟩ := Cond.native_spec (q 0 _ rfl)
  have hc : s.vm.findClass tN = some k0 := findClass_of_methodNamed n1
  obtain ⟨kT, hk, hnm⟩ := Vm.findClass_spec hc
  obtain ⟨_, kS, _, _, hk', _, _, _, _, hni⟩ := Cond.superclass_spec hc (q 2 _ rfl)
  cases hk.symm.trans hk'
  obtain ⟨jF, mF, f1, f2, f3, f4, f5, -, -⟩ := Cond.ownMethod (x := tFill) hc hk (q 3 _ rfl)
  obtain ⟨_, cF, g1, g2, g3, g4, g5, g6, -, g8⟩ := Cond.codeSync_spec f1 (q 4 _ rfl)
  cases f2.symm.trans g1
  obtain ⟨_, _, o1, o2, o3, o4, o5, o6, o7⟩ := Cond.ownMethod (x := tFill0) hc hk (q 5 _ rfl)
  cases n1.symm.trans o1
  cases n2.symm.trans o2
  obtain ⟨mO, meO, u1, u2, u3, u4⟩ := Cond.instanceMethod_spec (q 6 _ rfl)
  obtain ⟨_, cO, v1, v2, v3, v4, -, v6, -, v8⟩ := Cond.code_spec u1 (q 7 _ rfl)
  cases u2.symm.trans v1
  obtain ⟨kO, x1, x2⟩ := Vm.findClass_spec (findClass_of_methodNamed u1)
  obtain ⟨x3, x4⟩ := name_of_methodNamed u1 u2
  obtain ⟨ca, na, cf, la, ra, hcf, pa⟩ := Cond.linkedMethod hc hk u1 (q 8 _ rfl) pl b3
  obtain ⟨cb, nb, cf2, lb, rb, hcf2, pb⟩ := Cond.linkedMethod hc hk f1 (q 9 _ rfl) pl b3
  cases hcf.symm.trans hcf2
  obtain ⟨cc, nc, cf3, lc, rc', hcf3, pc⟩ := Cond.linkedMethod hc hk n1 (q 10 _ rfl) pl b3
  cases hcf.symm.trans hcf3
  obtain ⟨y1, i1, fC, yl1, yr1, ya1, ys1, yf1, -, -, -⟩ := Cond.ownField hc hk own_pC (q 11 _ rfl) (q 18 _ rfl) pl b3
  obtain ⟨y2, i2, fS, yl2, yr2, ya2, ys2, yf2, -, -, yd2⟩ := Cond.ownField hc hk own_pS (q 12 _ rfl) (q 19 _ rfl) pl b3
  obtain ⟨y3, i3, fP, yl3, yr3, ya3, ys3, yf3, -, -, yd3⟩ := Cond.ownField hc hk own_pL (q 13 _ rfl) (q 20 _ rfl) pl b3
  obtain ⟨y4, i4, fU, aS, cS, yl4, yr4, ya4, ys4, -, -, yt4, -, -, -, -, yd4⟩ := Cond.ownStatic hc hk own_pS (q 14 _ rfl) (q 15 _ rfl) pl b3
  obtain ⟨y5, i5, fE, _, _, yl5, yr5, ya5, ys5, -⟩ := Cond.ownStatic hc hk own_pL (q 16 _ rfl) (q 17 _ rfl) pl b3
  obtain ⟨_, _, _, _, _, fM, _, _, _, ym1, ym2, _⟩ := Cond.lays_spec (q 21 _ rfl)
  have hap := own_ap (args := args) (q 19 _ rfl) (q 20 _ rfl) yd2 yd3 own_pS own_pL (by decide)
  have s1 : mF.sig.parameters = [] := by
    have z : (parseMethodDescriptor tFill.desc).map (·.parameters) = some [] := by decide +kernel
    rw [g8] at z; simpa using z
  have s2 : mN.sig.parameters = [.int] := by
    have z : (parseMethodDescriptor tFill0.desc).map (·.parameters) = some [.int] := by decide +kernel
    rw [n6] at z; simpa using z
  have s3 : meO.sig.parameters = [] := by
    have z : (parseMethodDescriptor oInit.desc).map (·.parameters) = some [] := by decide +kernel
    rw [v8] at z; simpa using z
  let Tc : ThrowableC := { cT := k0, kT := kT, cO := k0, aS := aS, fillIdx := jF, fill0Idx := jN, initSIdx := jF, obj := mO, kObj := kO, methFill := mF, methFill0 := mN, methInitS := mF, methObj := meO, codeFill := cF, codeInitS := cF, codeObj := cO, fBack := fC, fDepth := fC, fStack := fS, fCause := fC, fSupp := fP, fMsg := fM, fUnassigned := fU, fSentinel := fE, cfT := cf, ci1 := ca, n1 := na, ci27 := cb, n27 := nb, ci202 := cc, n202 := nc, ci7 := y1, i7 := i1, ci13 := y4, i13 := i4, ci17 := y2, i17 := i2, ci20 := y5, i20 := i5, ci24 := y3, i24 := i3 }
  refine ⟨Tc, ?_, hc, f1, n1, yd2, yd4⟩
  exact { owns := b1, noFinalization := b2, cls := hk, name := hnm, boot := Vm.findClass_boot hc hk, notInterface := hni, initialized := Cond.initialized_spec hc hk (q 1 _ rfl), statics := yt4, fillAt := f3, fillCode := g2, fillBytes := g3.trans own_fillc, fillLocals := g4, fillLocks := g6, fillStatic := f4, fillAbstract := f5, fillReturns := g5, fillParams := s1, fill0At := o3, fill0Name := o6, fill0Desc := o7, fill0Params := s2, fill0Static := o4, fill0Native := n3, fill0Code := n4, fill0Locks := n5, fill0Abstract := o5, stackInstance := ys2, stackNotFinal := yf2, unassignedStatic := ys4, objClass := x1, objClassName := x2, objMethod := u2, objName := x3, objStatic := u3, objAbstract := u4, objFound := by rw [x4]; exact lookupSpecial_of_named u1 u2 u3, objParams := by rw [s3]; rfl, objCode := v2, objBytes := v3.trans (by decide +kernel), objLocks := v6, causeInstance := ys1, causeNotFinal := yf1, sentinelStatic := ys5, suppInstance := ys3, suppNotFinal := yf3, msgInstance := ym1, msgNotFinal := ym2, stackApartSupp := hap, file := hcf, mlink1 := la, mright1 := ra, pool1 := pa, mlink27 := lb, mright27 := rb, pool27 := pb, mlink202 := lc, mright202 := rc', pool202 := pc, link7 := yl1, right7 := yr1, at7 := ya1, link13 := yl4, right13 := yr4, at13 := ya4, link17 := yl2, right17 := yr2, at17 := ya2, link20 := yl5, right20 := yr5, at20 := ya5, link24 := yl3, right24 := yr3, at24 := ya3 }
theorem own_fill (X : Stand p l e R s m args below meth c T locs cells slots) (hx : p.tables.exec = Jvm.exec) (hl : l.stackTraces = true) (hZ : Z.Warmed39 s.vm) (hT0 : ThS Z s.heap) {rc : String} {kk : Nat} (hw : ∀ d ∈ own_atoms rc, d.before a0 Z = true) (wi : (Jvm.Cond.instantiable rc kk).before a0 Z = true) (hown : s.vm.findClass tN = some m.cls) (eT : T.heap = h)
    {a : Addr} {u v1 v2 : Value} (hu : u.isRef = true) (E : Exa Z h a rc) (N : Unt h a) (N0 : Unt s.heap a) (FS : Fld Z h a tN "stackTrace" steD u) (FB : Fld Z h a tN "backtrace" obD .null) (FM : Fld Z h a tN "detailMessage" msgD v1) (FC : Fld Z h a tN "cause" thD v2) (SU : Sta Z h tN "UNASSIGNED_STACK" steD u) (hTK : s.vm.MethodsKnown) (hBelow : s.vm.FramesKnown below) (hb : ∀ x ∈ locs, x.base = a)
    {g : JFrame} (hg : g.method = m) (hsize : g.locals.size = c.maxLocals) {rest : List Value} (hs : g.stack = .ref a :: rest) (hd : decode c.code g.pc = .ok (.invokevirtual 27, 3)) (hf : 2 < R.frames) (hW : 2 * g.monitorRoom + (rest.map fun v => v.category).sum + 42 ≤ R.locals) (hce : cells + 1 ≤ R.cells) (hsl : slots + 2752 ≤ R.slots) :
    ∃ (T' : State) (h' : Heap) (L : List Loc), Stand p l e R s m args below meth c T' (locs ++ L) (cells + 1) (slots + 2752) ∧ T'.heap = h' ∧ (∀ x ∈ L, x.base = a) ∧ Keep s.heap h' [a] ∧ Exa Z h' a rc ∧ Unt h' a ∧ Fld Z h' a tN "detailMessage" msgD v1 ∧ Fld Z h' a tN "cause" thD v2 ∧
      ∀ target, Steps p.tables e below (T'.setTop { g with pc := g.pc + 3, stack := .ref a :: rest }) target → Steps p.tables e below (T.setTop g) target := by
  subst eT
  have hA : ∀ d ∈ own_atoms rc, d.before args s = true := fun d hd => mvX hT0 hZ (List.all_eq_true.mp own_aok d hd) (hw d hd)
  have q : ∀ (i : Nat) (d : Jvm.Cond), (own_atoms rc)[i]? = some d → d.before args s = true := fun i d h => hA d (List.mem_of_getElem? h)
  have htr : e.platform.stackTraces = true := by rw [X.admits.platform]; exact hl
  have b3 : e.platform.magicAccessors = ({} : Platform).magicAccessors := by rw [X.admits.platform]
  obtain ⟨Tc, L, hc, hF, hF0, hS, hU⟩ := own_thr (pl := e.platform) (by rw [X.admits.platform]) (by rw [X.admits.platform]) b3 hA
  have hal : Z.vm.Alike s.vm := hZ.alike
  obtain ⟨cell, kZ, e1, e2, e3, e4, e5⟩ := E
  obtain ⟨_, u1, u2, u3⟩ := N
  cases e1.symm.trans u1
  obtain ⟨_, _, i1, i2, i3, -⟩ := Cond.instantiable_spec wi
  cases e2.symm.trans i1
  cases e3.symm.trans i2
  obtain ⟨kX, hk, hkE⟩ := hal.2.2 _ _ e3
  have hord : kX.kind = .ordinary := by rw [hkE]; exact i3
  have hsz : cell.slots.size = kX.instanceTypes.size := by rw [hkE]; exact e5 i3
  have hfound : s.vm.findClass rc = some cell.cls := by rw [hal.findClass]; exact e2
  obtain ⟨_, _, _, _, fS, s1, s2, -, -, -, -, s7⟩ := FS
  cases e1.symm.trans s1
  obtain ⟨_, _, _, s3⟩ := Jvm.Free.BdW.found_ride (U := Z) (U' := s) hal ⟨_, _, _, s2⟩
  cases s3.symm.trans hS
  obtain ⟨cB, iB, fB, zl, zr, za, zs, -, zn, zt, zd⟩ := Cond.ownField hc L.cls own_pO (q 25 _ rfl) (q 26 _ rfl) e.platform b3
  obtain ⟨_, _, _, _, fB', r1, r2, -, -, -, -, r7⟩ := FB
  cases e1.symm.trans r1
  obtain ⟨_, _, _, r3⟩ := Jvm.Free.BdW.found_ride (U := Z) (U' := s) hal ⟨_, _, _, r2⟩
  cases r3.symm.trans zd
  obtain ⟨_, _, cD, kD, iD, fD, -, -, wd1, wd2, -⟩ := Cond.lays_spec (q 30 _ rfl)
  cases Option.some.inj ((Cond.lays_declared (q 30 _ rfl) wd1).symm.trans hc)
  obtain ⟨wd3, wd4⟩ := State.fieldFound?_spec wd1
  cases wd3.symm.trans L.cls
  obtain ⟨wd5, wd6⟩ := State.fieldFound?_type wd1 own_pI
  obtain ⟨_, _, _, fu, stU, cellS, z1, z2, z3, z4, z5, z6, z7⟩ := SU
  obtain ⟨kU, zq, zk⟩ := State.fieldFound?_setVm hal z1
  have ze := Option.some.inj ((show s.fieldFound? tN "UNASSIGNED_STACK" steD = _ from zq).symm.trans hU)
  simp only [Prod.mk.injEq] at ze
  obtain ⟨-, ze2, -, ze4⟩ := ze
  have hst : stU = Tc.aS := by
    have z8 : kU.statics = some stU := by rw [zk]; exact z4
    rw [ze2, L.statics] at z8; exact (Option.some.inj z8).symm
  subst hst
  rw [ze4] at z7
  have hne : Tc.aS ≠ a := fun z => by
    rw [z, e1] at z5
    rw [← Option.some.inj z5, u2] at z6; cases z6
  have hsel0 : selectMethod e.platform s.vm cell.cls Tc.fill0 = .method Tc.fill0 := by
    obtain ⟨_, _, _, t1, t2, t3, t4, -⟩ := Cond.selects_spec (q 23 _ rfl)
    cases t1.symm.trans hfound
    cases t2.symm.trans (State.methodFound?_of_named hF0 (by decide))
    cases t3.symm.trans hF0
    rw [Launch.admits_selectMethod X.admits]; exact t4
  have hfb := Cond.soleField_find hc L.cls (q 28 _ rfl) za zn zs
  have hfd := Cond.soleField_find hc L.cls (q 29 _ rfl) wd4 wd5 wd2
  obtain ⟨comp, cO, kO, -, -, hkO, hkindO, hO⟩ := Cond.arrayOver_spec (q 27 _ rfl)
  have tk : ∀ {f : Field} {v : Value}, kX.instanceTypes[f.slot]? = some f.type → fits f.type v = true → Jvm.Takes s cell f v := fun {f v} h1 h2 => by
    obtain ⟨t1, t2⟩ := Takes.of_laid (v := v) hk hord h1 h2
    exact ⟨by rw [hsz]; simpa using t1, by rw [u2]; exact t2⟩
  obtain ⟨tyS, -⟩ := Cond.laysAt hfound hk hS (q 19 _ rfl)
  obtain ⟨tyB, -⟩ := Cond.laysAt hfound hk zd (q 26 _ rfl)
  obtain ⟨tyD, -⟩ := Cond.laysAt hfound hk wd1 (q 30 _ rfl)
  have ftS : Tc.fStack.type = .array (.object "java/lang/StackTraceElement") := (State.fieldFound?_type hS own_pS).2
  have hSE := q 24 _ rfl
  obtain ⟨v6, vm6, ⟨T6, L6, c6, n6⟩, hW6, X6, ⟨hv6, C6, n, hn, hD6, q1, q2, q3, q4, hL6, hc6, hn6⟩, st⟩ := X.virtualBack hx (own := tN) (C := rc) (index := 27) (y := tFill) (z := tFill) hown (q 9 _ rfl) (q 22 _ rfl) (notFace_of_selects hSE) hSE (q 3 _ rfl) (by decide)
    (fillPaysAny (l := l) (W := 2 * g.monitorRoom + (rest.map fun v => v.category).sum) hx htr Tc L hF (u0 := ⟨u, hu⟩) (self := a) (cell := cell) (cellS := cellS) (fun _ => by rw [u2]; simp) (by rw [u2]; simp) (by rw [u3]) (by rw [u3]) s7 hsel0 hne (fun z => by rw [z] at z6; cases z6) z7 (tk tyS (by rw [ftS]; exact fits_refV_array _ ⟨u, hu⟩))
      ⟨{ ci198 := cB, i198 := iB, fBack := fB }, ⟨zl, zr, za, zs⟩, r7⟩ hTK hBelow hc hO hkO hkindO hfb hfd (fun x => tk tyB (by rw [zt]; rfl)) (fun x => tk tyD (by rw [wd6]; rfl)) hf hW)
    (b := a) (cB := cell.cls) hfound ⟨cell, e1, rfl, by rw [u2]; rfl⟩ (g := g) hg hsize (Steps.refl _) (argsL := []) (rest := rest)
    (fun sig hh => by rw [show parseMethodDescriptor tFill.desc = some ⟨[], some (.object tN)⟩ from by decide +kernel] at hh; rw [← Option.some.inj hh]; rfl) hs (Nat.le_refl _) hd
    (fun vmx hWx => ⟨rfl, hce, hsl, e1, z5⟩)
  dsimp only [Pt.U, Pt.locs, Pt.cells, Pt.slots] at X6 hD6 hL6 hc6 hn6 st
  subst hv6 hL6 hc6 hn6
  have hsame := X6.same.2.2.2.2.2
  have hbs : ∀ x ∈ locs ++ [⟨a, fB.slot⟩, ⟨a, fD.slot⟩, ⟨a, Tc.fStack.slot⟩], (x : Loc).base = a := fun x hm => by
    rcases List.mem_append.mp hm with z | z
    · exact hb x z
    · simp only [List.mem_cons, List.not_mem_nil, or_false] at z
      rcases z with rfl | rfl | rfl <;> rfl
  have nb : ∀ {nn dd : String} {v : Value} {t : FieldType}, parseFieldDescriptor dd = some t → nn ≠ "backtrace" → nn ≠ "depth" → nn ≠ "stackTrace" → (Jvm.Cond.lays rc tN nn dd).before args s = true → Fld Z T.heap a tN nn dd v → Fld Z T6.heap a tN nn dd v := fun {nn dd v t} pt n1 n2 n3 wl F => by
    obtain ⟨_, cf, kf, i, f, m1, m2, m3, m4, m5, m6, m7⟩ := F
    cases e1.symm.trans m1
    obtain ⟨_, _, _, m8⟩ := Jvm.Free.BdW.found_ride (U := Z) (U' := s) hal ⟨_, _, _, m2⟩
    exact ⟨C6, cf, kf, i, f, hD6, m2, m3, by rw [q2]; exact m4, by rw [q2]; exact m5, by rw [q1]; exact m6, (q4 _ (own_ap wl (q 26 _ rfl) m8 zd pt own_pO n1) (own_ap wl (q 30 _ rfl) m8 wd1 pt own_pI n2) (own_ap wl (q 19 _ rfl) m8 hS pt own_pS n3)).trans m7⟩
  refine ⟨T6, T6.heap, _, X6.more (Nat.le_refl _) (Nat.add_le_add_left hn _), rfl, fun x hm => hbs x (List.mem_append_right _ hm), ⟨X6.same.2.1, fun x cx hx' hni => ?_, fun x cx hx' => ?_⟩, ⟨C6, kZ, hD6, by rw [q1]; exact e2, by rw [q1]; exact e3, by rw [q2]; exact e4, fun z => by rw [q3]; exact e5 z⟩, ?_, nb own_pM (by decide) (by decide) (by decide) (q 21 _ rfl) FM, nb own_pC (by decide) (by decide) (by decide) (q 18 _ rfl) FC, fun target z => st.trans z⟩
  · obtain ⟨c', w1, w2, w3, w4⟩ := hsame x cx hx'
    have w5 : c'.slots = cx.slots := Array.ext_getElem? fun i => w4 i fun hm => hni (List.mem_singleton.mpr (hbs _ hm))
    exact (show T6.heap[x]? = some c' from w1).trans (by rw [w2, w5])
  · obtain ⟨c', w1, w2, w3, -⟩ := hsame x cx hx'
    exact ⟨c', w1, by rw [w2], by rw [w2], w3⟩
  · obtain ⟨c0, w1, w2, w3⟩ := N0
    obtain ⟨c', y1, y2, -⟩ := hsame a c0 w1
    exact ⟨c', y1, by rw [y2]; exact w2, by rw [y2]; exact w3⟩
end OwnThr

theorem own_in : ∀ d ∈ own_atoms "com/example/yusenkabu/yusenkabu/cli/InputException", d ∈ tables_1 := by decide +kernel
theorem own_mk0 {s : State} (hh : tablesKnown s = true) : s.vm.MethodsKnown := fun m x hx => by
  simp only [Vm.method?, Option.bind_eq_bind, Option.bind_eq_some_iff] at hx
  obtain ⟨k, h1, h2⟩ := hx
  refine ⟨k, h1, fun cf hcf => ?_⟩
  obtain ⟨hi, -⟩ := Array.getElem?_eq_some_iff.mp h1
  have q := (Array.all_eq_true_iff_forall_mem.mp hh) k (by obtain ⟨hi, rfl⟩ := Array.getElem?_eq_some_iff.mp h1; exact Array.getElem_mem hi)
  simp only [hcf, beq_iff_eq] at q
  obtain ⟨hj, -⟩ := Array.getElem?_eq_some_iff.mp h2
  rw [Option.isSome_iff_exists]
  exact ⟨_, Array.getElem?_eq_getElem (by omega)⟩
theorem own_fk0 {s : State} {m : MethodId} {args : Array Value} {below : List Frame} (hf : s.frames = Frame.invoking m args :: below) (hh : framesKnown s = true) : s.vm.FramesKnown below := fun y hy m' hm' => by
  have q := List.all_eq_true.mp hh y (by rw [hf]; exact List.mem_cons_of_mem _ hy)
  have key : methodKnown s.vm m' = true := by
    cases y <;> simp only [frameMethod?, Option.some.injEq, reduceCtorEq] at hm' <;> (subst hm'; exact q)
  simp only [methodKnown] at key
  cases h1 : s.vm.classes[m'.cls]? with
  | none => simp [h1] at key
  | some k =>
    refine ⟨k, h1, fun cf hcf => ?_⟩
    simp only [h1, hcf] at key; exact key
def own_ex (i no : Nat) (O D : List Int32) : Int32 := if i < 2 then 45 else if i - 2 < no then own_ch (O.getD (i - 2) 0) else if i - 2 - no = 0 then 58 else if i - 2 - no = 1 then 32 else own_ch (D.getD (i - 2 - no - 2) 0)
theorem own_nn2 (x : Int32) : nar .char (nar .char x) = nar .char x := by
  simp only [nar]
  apply Int32.toInt_inj.mp
  have h1 := c_i2c x
  have h2 := c_i2c (x.toUInt32.toUInt16.toUInt32.toInt32)
  omega
theorem own_nch (x : Int32) : nar .char (own_ch x) = own_ch x := own_nn2 _
theorem own_subN {a b : Nat} (h : b ≤ a) (ha : a < 2147483648) : a.toInt32 - b.toInt32 = (a - b).toInt32 := by
  apply Int32.toInt_inj.mp
  have h1 := c_isub a.toInt32 b.toInt32
  rw [len_toInt (n := a) (by omega), len_toInt (n := b) (by omega)] at h1
  rw [len_toInt (n := a - b) (by omega)]
  have h2 := rng32 (a.toInt32 - b.toInt32)
  omega
theorem own_mm {A B : List Int32} {a b i : Nat} (hA : A.length = a) (hB : B.length = b) (hi : i < 4 + a + b) : own_ch ((((([] ++ ([45, 45] : List Int32)) ++ A) ++ ([58, 32] : List Int32)) ++ B).getD i 0) = nar .char (own_ex i a A B) := by
  unfold own_ex
  simp only [List.getD_eq_getElem?_getD, List.nil_append]
  by_cases h1 : i < 2
  · rw [if_pos h1, List.getElem?_append_left (by simp; omega), List.getElem?_append_left (by simp; omega), List.getElem?_append_left (by simp; omega)]
    rcases (by omega : i = 0 ∨ i = 1) with rfl | rfl <;> decide
  rw [if_neg h1]
  by_cases h2 : i - 2 < a
  · rw [if_pos h2, own_nch, List.getElem?_append_left (by simp; omega), List.getElem?_append_left (by simp; omega), List.getElem?_append_right (by simp; omega)]
    rfl
  rw [if_neg h2]
  by_cases h3 : i - 2 - a = 0
  · rw [if_pos h3, List.getElem?_append_left (by simp; omega), List.getElem?_append_right (by simp; omega)]
    rw [show i - (([45, 45] : List Int32) ++ A).length = 0 from by simp; omega]; decide
  rw [if_neg h3]
  by_cases h4 : i - 2 - a = 1
  · rw [if_pos h4, List.getElem?_append_left (by simp; omega), List.getElem?_append_right (by simp; omega)]
    rw [show i - (([45, 45] : List Int32) ++ A).length = 1 from by simp; omega]; decide
  rw [if_neg h4, own_nch, List.getElem?_append_right (by simp; omega)]
  rw [show i - ((([45, 45] : List Int32) ++ A) ++ ([58, 32] : List Int32)).length = i - 2 - a - 2 from by simp; omega]
theorem own_r3 (x : Int32) : (x &&& (3 : Int32)) % 3 = 0 ∨ (x &&& (3 : Int32)) % 3 = 1 ∨ (x &&& (3 : Int32)) % 3 = 2 ∨ (x &&& (3 : Int32)) % 3 = 3 := by
  have h : x &&& (3 : Int32) = 0 ∨ x &&& (3 : Int32) = 1 ∨ x &&& (3 : Int32) = 2 ∨ x &&& (3 : Int32) = 3 := by
    have h := c_mask x 3 2 (by decide) (by decide)
    simp only [← Int32.toInt_inj, h]
    have e0 : (0 : Int32).toInt = 0 := rfl
    have e1 : (1 : Int32).toInt = 1 := rfl
    have e2 : (2 : Int32).toInt = 2 := rfl
    have e3 : (3 : Int32).toInt = 3 := rfl
    omega
  rcases h with h | h | h | h <;> rw [h] <;> decide

theorem d1_0 : decode method_2_code 0 = .ok (.iload_n 2, 1) := by decide +kernel
theorem d1_1 : decode method_2_code 1 = .ok (.ifCond .ne 14, 3) := by decide +kernel
theorem d1_4 : decode method_2_code 4 = .ok (.new 7, 3) := by decide +kernel
theorem d1_7 : decode method_2_code 7 = .ok (.dup, 1) := by decide +kernel
theorem d1_8 : decode method_2_code 8 = .ok (.iconst 0, 1) := by decide +kernel
theorem d1_9 : decode method_2_code 9 = .ok (.newarray .char, 2) := by decide +kernel
theorem d1_11 : decode method_2_code 11 = .ok (.invokespecial 9, 3) := by decide +kernel
theorem d1_14 : decode method_2_code 14 = .ok (.areturn, 1) := by decide +kernel
theorem d1_15 : decode method_2_code 15 = .ok (.iload_n 2, 1) := by decide +kernel
theorem d1_16 : decode method_2_code 16 = .ok (.iconst 1, 1) := by decide +kernel
theorem d1_17 : decode method_2_code 17 = .ok (.if_icmp .ne 18, 3) := by decide +kernel
theorem d1_20 : decode method_2_code 20 = .ok (.new 7, 3) := by decide +kernel
theorem d1_23 : decode method_2_code 23 = .ok (.dup, 1) := by decide +kernel
theorem d1_24 : decode method_2_code 24 = .ok (.iconst 1, 1) := by decide +kernel
theorem d1_25 : decode method_2_code 25 = .ok (.newarray .char, 2) := by decide +kernel
theorem d1_27 : decode method_2_code 27 = .ok (.dup, 1) := by decide +kernel
theorem d1_28 : decode method_2_code 28 = .ok (.iconst 0, 1) := by decide +kernel
theorem d1_29 : decode method_2_code 29 = .ok (.iload_n 0, 1) := by decide +kernel
theorem d1_30 : decode method_2_code 30 = .ok (.castore, 1) := by decide +kernel
theorem d1_31 : decode method_2_code 31 = .ok (.invokespecial 9, 3) := by decide +kernel
theorem d1_34 : decode method_2_code 34 = .ok (.areturn, 1) := by decide +kernel
theorem d1_35 : decode method_2_code 35 = .ok (.new 7, 3) := by decide +kernel
theorem d1_38 : decode method_2_code 38 = .ok (.dup, 1) := by decide +kernel
theorem d1_39 : decode method_2_code 39 = .ok (.iconst 2, 1) := by decide +kernel
theorem d1_40 : decode method_2_code 40 = .ok (.newarray .char, 2) := by decide +kernel
theorem d1_42 : decode method_2_code 42 = .ok (.dup, 1) := by decide +kernel
theorem d1_43 : decode method_2_code 43 = .ok (.iconst 0, 1) := by decide +kernel
theorem d1_44 : decode method_2_code 44 = .ok (.iload_n 0, 1) := by decide +kernel
theorem d1_45 : decode method_2_code 45 = .ok (.castore, 1) := by decide +kernel
theorem d1_46 : decode method_2_code 46 = .ok (.dup, 1) := by decide +kernel
theorem d1_47 : decode method_2_code 47 = .ok (.iconst 1, 1) := by decide +kernel
theorem d1_48 : decode method_2_code 48 = .ok (.iload_n 1, 1) := by decide +kernel
theorem d1_49 : decode method_2_code 49 = .ok (.castore, 1) := by decide +kernel
theorem d1_50 : decode method_2_code 50 = .ok (.invokespecial 9, 3) := by decide +kernel
theorem d1_53 : decode method_2_code 53 = .ok (.areturn, 1) := by decide +kernel
theorem pd_17 : parseMethodDescriptor "([C)V" = some ⟨[(.array .char)], none⟩ := by decide +kernel
theorem pn_6 : plainName "com/example/yusenkabu/yusenkabu/cli/InputExceptionOptionPinLaw" = true := by first | (simp [plainName, overriddenIn]; done) | decide +kernel
def Qmk (Z : State)  (h0 : Heap) (n0 : Nat) (v : Option Value) (h : Heap) (L : List Loc) : Prop := ∃ (r t : Addr) (kt : ClassId) (bs : List Int32) (n : Nat), v = some (.ref r) ∧ Fr n0 L ∧ Keep h0 h [] ∧ Exa Z h r "java/lang/String" ∧ Fld Z h r "java/lang/String" "coder" "B" (.int (0 : Int32)) ∧ Fld Z h r "java/lang/String" "value" "[B" (.ref t) ∧ Arv Z h t kt .byte (n.toInt32) (bs.map Value.int) (.int (0 : Int32)) ∧ bs.length = n ∧ n ≤ 2
def roommk : Room := { frames := 4, cells := 6, slots := 12, locals := 66 }
set_option maxRecDepth 65536 in
set_option maxHeartbeats 40000000 in
theorem rmmk (l : Launch) (Z : State) (a0 : Array Value) (hw : ∀ d ∈ tables_1, d.before a0 Z = true) (ws : List Jvm.Cond) (p1 : Int32) (p2 : Int32) (p3 : Int32) (gC : Int32) (h0 : Heap) (n0 : Nat) (Z0 : n0 ≤ h0.size) (SC : Sta Z Z.heap "java/lang/String" "COMPACT_STRINGS" "Z" (.int gC)) (PC : ¬ (gC = (0 : Int32))) (O0 : Old Z n0 h0) :
    MetFree l (⟨"com/example/yusenkabu/yusenkabu/cli/InputExceptionOptionPinLaw", "mk", "(CCI)Ljava/lang/String;"⟩ : MethodName) (head1 (Jvm.Cond.code (⟨"com/example/yusenkabu/yusenkabu/cli/InputExceptionOptionPinLaw", "mk", "(CCI)Ljava/lang/String;"⟩ : MethodName) method_2_code 3 (some (.object "java/lang/String")) :: ws) roommk) (fun aa_ U_ => aa_ = #[(.int ((p1 &&& (255 : Int32)).toUInt32.toUInt16.toUInt32.toInt32)), (.int ((p2 &&& (255 : Int32)).toUInt32.toUInt16.toUInt32.toInt32)), (.int p3)] ∧ Z.Warmed39 U_.vm ∧ U_.heap = h0 ∧ CHv Z EL U_.vm h0) (fun _ _ _ _ _ => True) (fun _ U_ o_ W_ => ∃ v_ L_, o_ = .returned v_ ∧ (Qmk Z  h0 n0) v_ W_.heap L_ ∧ CHr Z EL U_.vm U_.heap W_.vm W_.heap ∧ ReturnedEndW U_ o_ W_ L_ roommk.cells roommk.slots) := by
  refine own_metH (Q := (Qmk Z  h0 n0)) (L0 := #[.val (.int ((p1 &&& (255 : Int32)).toUInt32.toUInt16.toUInt32.toInt32)), .val (.int ((p2 &&& (255 : Int32)).toUInt32.toUInt16.toUInt32.toInt32)), .val (.int p3)]) (plainFor_of_name pn_6) (fun m => by first | (simp [entryFrame, mkF, argsToLocals, Value.category]; done) | rfl) ?_
  intro p e s m below meth c T0 X0 hx hby hml hown hnm hret hlk hZ e0 hs0 CR hS hk
  have N0 := Fr.nil n0
  have K0 := Keep.refl h0 []
  refine GoH.st (T' := T0) (pc' := 1) (L' := #[.val (.int ((p1 &&& (255 : Int32)).toUInt32.toUInt16.toUInt32.toInt32)), .val (.int ((p2 &&& (255 : Int32)).toUInt32.toUInt16.toUInt32.toInt32)), .val (.int p3)]) (S' := [(.int p3)]) (fun t_ k_ => XS.iloadN X0.here hx rfl (hb hby d1_0) rfl  k_) ?_
  by_cases hc1_1 : p3 = (0 : Int32)
  · refine GoH.st (T' := T0) (pc' := 4) (L' := #[.val (.int ((p1 &&& (255 : Int32)).toUInt32.toUInt16.toUInt32.toInt32)), .val (.int ((p2 &&& (255 : Int32)).toUInt32.toUInt16.toUInt32.toInt32)), .val (.int p3)]) (S' := []) (fun t_ k_ => XS.ifNo X0.here hx rfl (hb hby d1_1) rfl ((if0 _ _).trans (teq hc1_1).2) k_) ?_
    obtain ⟨T2, h2, X2, e2, E2, A2, D2, U2, st2⟩ := newO X0 hx hZ hown (hw _ (List.mem_of_getElem? (i := 4) rfl)) (hw _ (List.mem_of_getElem? (i := 5) rfl)) (hw _ (List.mem_of_getElem? (i := 6) rfl)) e0 (g := (mkF m 4 #[.val (.int ((p1 &&& (255 : Int32)).toUInt32.toUInt16.toUInt32.toInt32)), .val (.int ((p2 &&& (255 : Int32)).toUInt32.toUInt16.toUInt32.toInt32)), .val (.int p3)] [])) rfl (hb hby d1_4) (by decide) (by decide)
    obtain ⟨b2, g2⟩ : ∃ z, z = h0.size := ⟨_, rfl⟩
    rw [← g2] at A2 D2 U2 st2
    have g_b2 : n0 ≤ b2 := Nat.le_trans Z0 (Nat.le_of_eq g2.symm)
    have sz_b2 : h0.size ≤ b2 := Nat.le_trans K0.1 (Nat.le_of_eq g2.symm)
    have S_b2 : Safe Z EL s.vm h2 b2 := Safe.ext E2 CR.1 (Safe.new (Nat.le_of_eq g2.symm))
    replace CR := CR.trans (CHr.ext E2 CR.1)
    replace hk := Nat.le_trans hk E2.1
    replace Z0 := Nat.le_trans Z0 E2.1
    replace K0 := K0.ext E2
    replace O0 := O0.ext E2
    have E_b2 := A2
    have F_b2_value : Fld Z h2 b2 "java/lang/String" "value" "[B" .null := D2 (Or.inr (hw _ (List.mem_of_getElem? (i := 20) rfl))) (ty := (.array .byte)) (by decide)
    have F_b2_coder : Fld Z h2 b2 "java/lang/String" "coder" "B" (.int (0 : Int32)) := D2 (Or.inr (hw _ (List.mem_of_getElem? (i := 21) rfl))) (ty := .byte) (by decide)
    refine GoH.st (T' := T2) (pc' := 7) (L' := #[.val (.int ((p1 &&& (255 : Int32)).toUInt32.toUInt16.toUInt32.toInt32)), .val (.int ((p2 &&& (255 : Int32)).toUInt32.toUInt16.toUInt32.toInt32)), .val (.int p3)]) (S' := [(.ref b2)]) st2 ?_
    refine GoH.st (T' := T2) (pc' := 8) (L' := #[.val (.int ((p1 &&& (255 : Int32)).toUInt32.toUInt16.toUInt32.toInt32)), .val (.int ((p2 &&& (255 : Int32)).toUInt32.toUInt16.toUInt32.toInt32)), .val (.int p3)]) (S' := [(.ref b2), (.ref b2)]) (fun t_ k_ => XS.dup X2.here hx rfl (hb hby d1_7) rfl rfl k_) ?_
    refine GoH.st (T' := T2) (pc' := 9) (L' := #[.val (.int ((p1 &&& (255 : Int32)).toUInt32.toUInt16.toUInt32.toInt32)), .val (.int ((p2 &&& (255 : Int32)).toUInt32.toUInt16.toUInt32.toInt32)), .val (.int p3)]) (S' := [(.int (0 : Int32)), (.ref b2), (.ref b2)]) (fun t_ k_ => XS.iconst X2.here hx rfl (hb hby d1_8) k_) ?_
    obtain ⟨T3, h3, k3, X3, e3, E3, A3, st3⟩ := newP X2 hx hZ (hw _ (List.mem_of_getElem? (i := 7) rfl)) e2 (g := (mkF m 9 #[.val (.int ((p1 &&& (255 : Int32)).toUInt32.toUInt16.toUInt32.toInt32)), .val (.int ((p2 &&& (255 : Int32)).toUInt32.toUInt16.toUInt32.toInt32)), .val (.int p3)] [(.int (0 : Int32)), (.ref b2), (.ref b2)])) rfl (hb hby d1_9) rfl (by decide) (cap := 0) (by decide) (by decide) (by decide) (by decide)
    obtain ⟨b3, g3⟩ : ∃ z, z = h2.size := ⟨_, rfl⟩
    rw [← g3] at A3 st3
    have ne_b2_b3 : b2 ≠ b3 := Nat.ne_of_lt (Nat.lt_of_lt_of_le E_b2.lt (Nat.le_of_eq g3.symm))
    have g_b3 : n0 ≤ b3 := Nat.le_trans Z0 (Nat.le_of_eq g3.symm)
    have sz_b3 : h0.size ≤ b3 := Nat.le_trans K0.1 (Nat.le_of_eq g3.symm)
    replace S_b2 := Safe.ext E3 CR.1 S_b2
    replace CR := CR.trans (CHr.ext E3 CR.1)
    replace hk := Nat.le_trans hk E3.1
    replace Z0 := Nat.le_trans Z0 E3.1
    replace K0 := K0.ext E3
    replace O0 := O0.ext E3
    replace E_b2 := E_b2.ext E3
    replace F_b2_value := F_b2_value.ext E3
    replace F_b2_coder := F_b2_coder.ext E3
    have V_b3 : Arv Z h3 b3 k3 .char (0 : Int32) [] (.int (0 : Int32)) := (Arv.new A3 (by decide)).pad (pad_rep [] (.int (0 : Int32)) 0)
    refine GoH.st (T' := T3) (pc' := 11) (L' := #[.val (.int ((p1 &&& (255 : Int32)).toUInt32.toUInt16.toUInt32.toInt32)), .val (.int ((p2 &&& (255 : Int32)).toUInt32.toUInt16.toUInt32.toInt32)), .val (.int p3)]) (S' := [(.ref b3), (.ref b2), (.ref b2)]) st3 ?_
    obtain ⟨_, _, ⟨T4, L4, k4, n4⟩, -, X4, hS4, hg4, ⟨Lc4, hQ4, l4, y4, z4, CR4⟩, st4⟩ := X3.specialBackS hx (y := (⟨"java/lang/String", "<init>", "([C)V"⟩ : MethodName)) rfl hown (mvT hZ (hw _ (List.mem_of_getElem? (i := 8) rfl))) (mvT hZ (hw _ (List.mem_of_getElem? (i := 9) rfl))) (mvT hZ (hw _ (List.mem_of_getElem? (i := 10) rfl))) (by decide) (backOfSH (W := 1) (rmE3 l Z a0 hw [] b2 b3 _ h3 n0 Z0 E_b2 g_b2 F_b2_value F_b2_coder V_b3 ne_b2_b3) hZ (hw _ (List.mem_of_getElem? (i := 10) rfl)) (hw _ (List.mem_of_getElem? (i := 6) rfl)) (by decide) (by decide) (own_EW hw) CR.1) (g := (mkF m 11 #[.val (.int ((p1 &&& (255 : Int32)).toUInt32.toUInt16.toUInt32.toInt32)), .val (.int ((p2 &&& (255 : Int32)).toUInt32.toUInt16.toUInt32.toInt32)), .val (.int p3)] [(.ref b3), (.ref b2), (.ref b2)])) rfl (by rw [hml]; rfl) (Steps.refl _) (a := b2) (argsL := [(.ref b3)]) (rest := [(.ref b2)]) (lenOf pd_17 rfl) rfl (by show 2 * 0 + _ ≤ _; exact Nat.le_of_eq rfl) (hb hby d1_11) (fun _ _ => ⟨rfl, e3, (by decide : 2 + 4 ≤ _), (by decide : 4 + 8 ≤ _)⟩)
    dsimp only [Pt.U, Pt.locs, Pt.cells, Pt.slots] at X4 l4 y4 z4 st4 hQ4 hS4 hg4 CR4
    subst l4 y4 z4
    replace X4 : Stand p l e _ (s.setVm T4.vm) m _ below meth c T4 _ _ _ := X4
    replace hS := foldS hS (T := T3) (Nat.le_trans hk (Nat.le_of_eq (congrArg Array.size e3.symm))) hS4 hg4
    replace hk := Nat.le_refl T4.heap.size
    replace hZ : Z.Warmed39 (s.setVm T4.vm).vm := State.Warmed39.trans (t := s.setVm s.vm) hZ hS4.1
    replace hown : (s.setVm T4.vm).vm.findClass "com/example/yusenkabu/yusenkabu/cli/InputExceptionOptionPinLaw" = some m.cls := by rw [show (s.setVm T4.vm).vm = T4.vm from rfl, hS4.1.alike.findClass]; exact hown
    obtain ⟨t4, kb4, rfl, N4q, K4, Co4, nt4, Va4, Ay4⟩ := hQ4
    have N4 := Fr.app N0 N4q
    obtain ⟨h4, e4⟩ : ∃ z, T4.heap = z := ⟨_, rfl⟩
    rw [e4] at K4 Co4 Va4 Ay4 CR4
    replace S_b2 := CR4.safe E_b2.lt S_b2
    replace CR := CR.trans CR4
    replace Z0 := Nat.le_trans Z0 K4.1
    replace K0 := K0.trans K4 (allS (Or.inr sz_b2) all0)
    replace O0 := O0.keep K4 (allS g_b2 all0)
    replace E_b2 := E_b2.keep K4
    replace V_b3 := V_b3.keep K4 (ninS (Ne.symm ne_b2_b3) nin0)
    replace hk : T4.heap.size ≤ h4.size := Nat.le_of_eq (congrArg Array.size e4)
    refine GoH.tr (T' := T4) (pc' := 14) (L' := #[.val (.int ((p1 &&& (255 : Int32)).toUInt32.toUInt16.toUInt32.toInt32)), .val (.int ((p2 &&& (255 : Int32)).toUInt32.toUInt16.toUInt32.toInt32)), .val (.int p3)]) (S' := [(.ref b2)]) st4 ?_
    exact GoH.retO X4 hx hlk hret rfl (by simp [FieldType.isReference, Value.isRef]) (hb hby d1_14) (by decide) (by decide) hS hk e4 hs0 hZ (own_EW hw) CR (by rw [e4]; exact ⟨b2, t4, _, ([] : List Int32), 0, rfl, N4, K0, E_b2, Co4, Va4, Ay4, rfl, by decide⟩)
  · refine GoH.st (T' := T0) (pc' := 15) (L' := #[.val (.int ((p1 &&& (255 : Int32)).toUInt32.toUInt16.toUInt32.toInt32)), .val (.int ((p2 &&& (255 : Int32)).toUInt32.toUInt16.toUInt32.toInt32)), .val (.int p3)]) (S' := []) (fun t_ k_ => XS.ifYes X0.here hx rfl (pc0 := 1) (pc' := 15) rfl (hb hby d1_1) rfl ((if0 _ _).trans (feq hc1_1).2) (by decide) (by decide) k_) ?_
    refine GoH.st (T' := T0) (pc' := 16) (L' := #[.val (.int ((p1 &&& (255 : Int32)).toUInt32.toUInt16.toUInt32.toInt32)), .val (.int ((p2 &&& (255 : Int32)).toUInt32.toUInt16.toUInt32.toInt32)), .val (.int p3)]) (S' := [(.int p3)]) (fun t_ k_ => XS.iloadN X0.here hx rfl (hb hby d1_15) rfl  k_) ?_
    refine GoH.st (T' := T0) (pc' := 17) (L' := #[.val (.int ((p1 &&& (255 : Int32)).toUInt32.toUInt16.toUInt32.toInt32)), .val (.int ((p2 &&& (255 : Int32)).toUInt32.toUInt16.toUInt32.toInt32)), .val (.int p3)]) (S' := [(.int (1 : Int32)), (.int p3)]) (fun t_ k_ => XS.iconst X0.here hx rfl (hb hby d1_16) k_) ?_
    by_cases hc17_6 : p3 = (1 : Int32)
    · refine GoH.st (T' := T0) (pc' := 20) (L' := #[.val (.int ((p1 &&& (255 : Int32)).toUInt32.toUInt16.toUInt32.toInt32)), .val (.int ((p2 &&& (255 : Int32)).toUInt32.toUInt16.toUInt32.toInt32)), .val (.int p3)]) (S' := []) (fun t_ k_ => XS.icmpNo X0.here hx rfl (hb hby d1_17) rfl (teq hc17_6).2 k_) ?_
      obtain ⟨T7, h7, X7, e7, E7, A7, D7, U7, st7⟩ := newO X0 hx hZ hown (hw _ (List.mem_of_getElem? (i := 4) rfl)) (hw _ (List.mem_of_getElem? (i := 5) rfl)) (hw _ (List.mem_of_getElem? (i := 6) rfl)) e0 (g := (mkF m 20 #[.val (.int ((p1 &&& (255 : Int32)).toUInt32.toUInt16.toUInt32.toInt32)), .val (.int ((p2 &&& (255 : Int32)).toUInt32.toUInt16.toUInt32.toInt32)), .val (.int p3)] [])) rfl (hb hby d1_20) (by decide) (by decide)
      obtain ⟨b7, g7⟩ : ∃ z, z = h0.size := ⟨_, rfl⟩
      rw [← g7] at A7 D7 U7 st7
      have g_b7 : n0 ≤ b7 := Nat.le_trans Z0 (Nat.le_of_eq g7.symm)
      have sz_b7 : h0.size ≤ b7 := Nat.le_trans K0.1 (Nat.le_of_eq g7.symm)
      have S_b7 : Safe Z EL s.vm h7 b7 := Safe.ext E7 CR.1 (Safe.new (Nat.le_of_eq g7.symm))
      replace CR := CR.trans (CHr.ext E7 CR.1)
      replace hk := Nat.le_trans hk E7.1
      replace Z0 := Nat.le_trans Z0 E7.1
      replace K0 := K0.ext E7
      replace O0 := O0.ext E7
      have E_b7 := A7
      have F_b7_value : Fld Z h7 b7 "java/lang/String" "value" "[B" .null := D7 (Or.inr (hw _ (List.mem_of_getElem? (i := 20) rfl))) (ty := (.array .byte)) (by decide)
      have F_b7_coder : Fld Z h7 b7 "java/lang/String" "coder" "B" (.int (0 : Int32)) := D7 (Or.inr (hw _ (List.mem_of_getElem? (i := 21) rfl))) (ty := .byte) (by decide)
      refine GoH.st (T' := T7) (pc' := 23) (L' := #[.val (.int ((p1 &&& (255 : Int32)).toUInt32.toUInt16.toUInt32.toInt32)), .val (.int ((p2 &&& (255 : Int32)).toUInt32.toUInt16.toUInt32.toInt32)), .val (.int p3)]) (S' := [(.ref b7)]) st7 ?_
      refine GoH.st (T' := T7) (pc' := 24) (L' := #[.val (.int ((p1 &&& (255 : Int32)).toUInt32.toUInt16.toUInt32.toInt32)), .val (.int ((p2 &&& (255 : Int32)).toUInt32.toUInt16.toUInt32.toInt32)), .val (.int p3)]) (S' := [(.ref b7), (.ref b7)]) (fun t_ k_ => XS.dup X7.here hx rfl (hb hby d1_23) rfl rfl k_) ?_
      refine GoH.st (T' := T7) (pc' := 25) (L' := #[.val (.int ((p1 &&& (255 : Int32)).toUInt32.toUInt16.toUInt32.toInt32)), .val (.int ((p2 &&& (255 : Int32)).toUInt32.toUInt16.toUInt32.toInt32)), .val (.int p3)]) (S' := [(.int (1 : Int32)), (.ref b7), (.ref b7)]) (fun t_ k_ => XS.iconst X7.here hx rfl (hb hby d1_24) k_) ?_
      obtain ⟨T8, h8, k8, X8, e8, E8, A8, st8⟩ := newP X7 hx hZ (hw _ (List.mem_of_getElem? (i := 7) rfl)) e7 (g := (mkF m 25 #[.val (.int ((p1 &&& (255 : Int32)).toUInt32.toUInt16.toUInt32.toInt32)), .val (.int ((p2 &&& (255 : Int32)).toUInt32.toUInt16.toUInt32.toInt32)), .val (.int p3)] [(.int (1 : Int32)), (.ref b7), (.ref b7)])) rfl (hb hby d1_25) rfl (by decide) (cap := 1) (by decide) (by decide) (by decide) (by decide)
      obtain ⟨b8, g8⟩ : ∃ z, z = h7.size := ⟨_, rfl⟩
      rw [← g8] at A8 st8
      have ne_b7_b8 : b7 ≠ b8 := Nat.ne_of_lt (Nat.lt_of_lt_of_le E_b7.lt (Nat.le_of_eq g8.symm))
      have g_b8 : n0 ≤ b8 := Nat.le_trans Z0 (Nat.le_of_eq g8.symm)
      have sz_b8 : h0.size ≤ b8 := Nat.le_trans K0.1 (Nat.le_of_eq g8.symm)
      replace S_b7 := Safe.ext E8 CR.1 S_b7
      replace CR := CR.trans (CHr.ext E8 CR.1)
      replace hk := Nat.le_trans hk E8.1
      replace Z0 := Nat.le_trans Z0 E8.1
      replace K0 := K0.ext E8
      replace O0 := O0.ext E8
      replace E_b7 := E_b7.ext E8
      replace F_b7_value := F_b7_value.ext E8
      replace F_b7_coder := F_b7_coder.ext E8
      have V_b8 : Arv Z h8 b8 k8 .char (1 : Int32) [(.int (0 : Int32))] (.int (0 : Int32)) := (Arv.new A8 (by decide)).pad (pad_rep [] (.int (0 : Int32)) 1)
      refine GoH.st (T' := T8) (pc' := 27) (L' := #[.val (.int ((p1 &&& (255 : Int32)).toUInt32.toUInt16.toUInt32.toInt32)), .val (.int ((p2 &&& (255 : Int32)).toUInt32.toUInt16.toUInt32.toInt32)), .val (.int p3)]) (S' := [(.ref b8), (.ref b7), (.ref b7)]) st8 ?_
      refine GoH.st (T' := T8) (pc' := 28) (L' := #[.val (.int ((p1 &&& (255 : Int32)).toUInt32.toUInt16.toUInt32.toInt32)), .val (.int ((p2 &&& (255 : Int32)).toUInt32.toUInt16.toUInt32.toInt32)), .val (.int p3)]) (S' := [(.ref b8), (.ref b8), (.ref b7), (.ref b7)]) (fun t_ k_ => XS.dup X8.here hx rfl (hb hby d1_27) rfl rfl k_) ?_
      refine GoH.st (T' := T8) (pc' := 29) (L' := #[.val (.int ((p1 &&& (255 : Int32)).toUInt32.toUInt16.toUInt32.toInt32)), .val (.int ((p2 &&& (255 : Int32)).toUInt32.toUInt16.toUInt32.toInt32)), .val (.int p3)]) (S' := [(.int (0 : Int32)), (.ref b8), (.ref b8), (.ref b7), (.ref b7)]) (fun t_ k_ => XS.iconst X8.here hx rfl (hb hby d1_28) k_) ?_
      refine GoH.st (T' := T8) (pc' := 30) (L' := #[.val (.int ((p1 &&& (255 : Int32)).toUInt32.toUInt16.toUInt32.toInt32)), .val (.int ((p2 &&& (255 : Int32)).toUInt32.toUInt16.toUInt32.toInt32)), .val (.int p3)]) (S' := [(.int ((p1 &&& (255 : Int32)).toUInt32.toUInt16.toUInt32.toInt32)), (.int (0 : Int32)), (.ref b8), (.ref b8), (.ref b7), (.ref b7)]) (fun t_ k_ => XS.iloadN X8.here hx rfl (hb hby d1_29) rfl  k_) ?_
      have Sq9 : Safe Z EL s.vm h8 b8 := (own_safeV hZ.alike V_b8 (by decide))
      obtain ⟨cl9, Ar9, q91, q92, q93, q94, q95⟩ := V_b8
      obtain ⟨T9, h9, X9, e9, W9, st9⟩ := stC X8 hx hZ e8 Ar9 (j := (0 : Int32)) (inb_of q92 ⟨by decide, by decide⟩) (g := (mkF m 30 #[.val (.int ((p1 &&& (255 : Int32)).toUInt32.toUInt16.toUInt32.toInt32)), .val (.int ((p2 &&& (255 : Int32)).toUInt32.toUInt16.toUInt32.toInt32)), .val (.int p3)] [(.int ((p1 &&& (255 : Int32)).toUInt32.toUInt16.toUInt32.toInt32)), (.int (0 : Int32)), (.ref b8), (.ref b8), (.ref b7), (.ref b7)])) rfl rfl (hb hby d1_30)
      replace V_b8 := Arv.set Ar9 q91 q92 q93 q94 q95 (fits_nar_char _) W9 0 rfl (Nat.le_of_ble_eq_true rfl)
      have V_b8 : Arv Z h9 b8 k8 .char (1 : Int32) [(.int (nar .char ((p1 &&& (255 : Int32)).toUInt32.toUInt16.toUInt32.toInt32)))] (.int (0 : Int32)) := V_b8
      replace S_b7 := Safe.wr W9 Sq9 CR.1 S_b7
      replace CR := CR.trans (CHr.wr W9 Sq9 CR.1)
      replace hk := Nat.le_trans hk (Keep.of_wr W9).1
      replace Z0 := Nat.le_trans Z0 (Keep.of_wr W9).1
      replace K0 := K0.wr W9 (Or.inr sz_b8)
      replace O0 := O0.wr W9 g_b8
      replace E_b7 := E_b7.wr W9
      replace F_b7_value := F_b7_value.other W9 (Or.inl ne_b7_b8)
      replace F_b7_coder := F_b7_coder.other W9 (Or.inl ne_b7_b8)
      have N9 := Fr.snoc X9 N0 g_b8
      refine GoH.st (T' := T9) (pc' := 31) (L' := #[.val (.int ((p1 &&& (255 : Int32)).toUInt32.toUInt16.toUInt32.toInt32)), .val (.int ((p2 &&& (255 : Int32)).toUInt32.toUInt16.toUInt32.toInt32)), .val (.int p3)]) (S' := [(.ref b8), (.ref b7), (.ref b7)]) st9 ?_
      have hws11 : ∀ d ∈ StrChars.Road.words, d.before a0 Z = true := fun d hd => hw d ((by decide +kernel : ∀ d ∈ StrChars.Road.words, d ∈ tables_1) d hd)
      have hlat11 : ∀ c ∈ [(nar .char ((p1 &&& (255 : Int32)).toUInt32.toUInt16.toUInt32.toInt32))], ¬ c < 0 ∧ ¬ (255 : Int32) < c := by
        intro c hc
        simp only [List.mem_cons, List.not_mem_nil, or_false] at hc
        rcases hc with rfl
        · exact own_and255 _
      obtain ⟨_, _, ⟨T11, L11, k11, n11⟩, -, X11, ⟨Lc11, hQ11, l11, y11, z11⟩, st11⟩ := X9.specialBack hx (y := (⟨"java/lang/String", "<init>", "([C)V"⟩ : MethodName)) rfl hown (mvT hZ (hw _ (List.mem_of_getElem? (i := 8) rfl))) (mvT hZ (hw _ (List.mem_of_getElem? (i := 9) rfl))) (mvT hZ (hw _ (List.mem_of_getElem? (i := 10) rfl))) (by decide) (StrChars.Road.backV (W := 1) hZ hws11 (kI := 4) (hw _ (List.mem_of_getElem? (i := 5) rfl)) (cs := [(nar .char ((p1 &&& (255 : Int32)).toUInt32.toUInt16.toUInt32.toInt32))]) (bs := [((nar .char ((p1 &&& (255 : Int32)).toUInt32.toUInt16.toUInt32.toInt32))).toInt8.toInt32]) (n := 1) g_b7 Z0 E_b7 F_b7_value F_b7_coder V_b8 (SC.ext O0.2) PC rfl rfl (by decide) (by decide) hlat11 rfl (by decide) (by decide)) (g := (mkF m 31 #[.val (.int ((p1 &&& (255 : Int32)).toUInt32.toUInt16.toUInt32.toInt32)), .val (.int ((p2 &&& (255 : Int32)).toUInt32.toUInt16.toUInt32.toInt32)), .val (.int p3)] [(.ref b8), (.ref b7), (.ref b7)])) rfl (by rw [hml]; rfl) (Steps.refl _) (a := b7) (argsL := [(.ref b8)]) (rest := [(.ref b7)]) (lenOf pd_17 rfl) rfl (by show 2 * 0 + _ ≤ _; exact Nat.le_of_eq rfl) (hb hby d1_31) (fun _ _ => ⟨rfl, e9, (by decide : 2 + 1 ≤ _), (by decide : 5 + 1 ≤ _)⟩)
      dsimp only [Pt.U, Pt.locs, Pt.cells, Pt.slots] at X11 l11 y11 z11 st11 hQ11
      subst l11 y11 z11
      obtain ⟨rfl, N11q, K11, Ex11, Co11, t11, kb11, ta11, tb11, tc11, Va11, Ay11⟩ := hQ11
      have N11 := Fr.app N9 N11q
      have ne_b7_t11 : b7 ≠ t11 := Nat.ne_of_lt (Nat.lt_of_lt_of_le E_b7.lt tb11)
      have ne_b8_t11 : b8 ≠ t11 := Nat.ne_of_lt (Nat.lt_of_lt_of_le V_b8.lt tb11)
      have sz_t11 : h0.size ≤ t11 := Nat.le_trans K0.1 tb11
      obtain ⟨h11, e11⟩ : ∃ z, T11.heap = z := ⟨_, rfl⟩
      rw [e11] at K11 Ex11 Co11 Va11 Ay11
      have Sk12 : ∀ x ∈ [b7], Safe Z EL s.vm h9 x := (allS S_b7 all0)
      replace S_b7 := Safe.keep K11 Sk12 CR.1 S_b7
      replace CR := CR.trans (CHr.keep K11 Sk12 CR.1)
      replace hk := Nat.le_trans hk K11.1
      replace Z0 := Nat.le_trans Z0 K11.1
      replace K0 := K0.trans K11 (allS (Or.inr sz_b7) all0)
      replace O0 := O0.keep K11 (allS g_b7 all0)
      replace E_b7 := E_b7.keep K11
      replace V_b8 := V_b8.keep K11 (ninS (Ne.symm ne_b7_b8) nin0)
      have Ay11 : Arv Z h11 t11 kb11 .byte (1 : Int32) [(.int (((nar .char ((p1 &&& (255 : Int32)).toUInt32.toUInt16.toUInt32.toInt32))).toInt8.toInt32))] (.int (0 : Int32)) := Ay11
      refine GoH.tr (T' := T11) (pc' := 34) (L' := #[.val (.int ((p1 &&& (255 : Int32)).toUInt32.toUInt16.toUInt32.toInt32)), .val (.int ((p2 &&& (255 : Int32)).toUInt32.toUInt16.toUInt32.toInt32)), .val (.int p3)]) (S' := [(.ref b7)]) st11 ?_
      exact GoH.retO X11 hx hlk hret rfl (by simp [FieldType.isReference, Value.isRef]) (hb hby d1_34) (by decide) (by decide) hS hk e11 hs0 hZ (own_EW hw) CR (by rw [e11]; exact ⟨b7, t11, _, ([(((nar .char ((p1 &&& (255 : Int32)).toUInt32.toUInt16.toUInt32.toInt32))).toInt8.toInt32)] : List Int32), 1, rfl, N11, K0, E_b7, Co11, Va11, Ay11, rfl, by decide⟩)
    · refine GoH.st (T' := T0) (pc' := 35) (L' := #[.val (.int ((p1 &&& (255 : Int32)).toUInt32.toUInt16.toUInt32.toInt32)), .val (.int ((p2 &&& (255 : Int32)).toUInt32.toUInt16.toUInt32.toInt32)), .val (.int p3)]) (S' := []) (fun t_ k_ => XS.icmpYes X0.here hx rfl (pc0 := 17) (pc' := 35) rfl (hb hby d1_17) rfl (feq hc17_6).2 (by decide) (by decide) k_) ?_
      obtain ⟨T13, h13, X13, e13, E13, A13, D13, U13, st13⟩ := newO X0 hx hZ hown (hw _ (List.mem_of_getElem? (i := 4) rfl)) (hw _ (List.mem_of_getElem? (i := 5) rfl)) (hw _ (List.mem_of_getElem? (i := 6) rfl)) e0 (g := (mkF m 35 #[.val (.int ((p1 &&& (255 : Int32)).toUInt32.toUInt16.toUInt32.toInt32)), .val (.int ((p2 &&& (255 : Int32)).toUInt32.toUInt16.toUInt32.toInt32)), .val (.int p3)] [])) rfl (hb hby d1_35) (by decide) (by decide)
      obtain ⟨b13, g13⟩ : ∃ z, z = h0.size := ⟨_, rfl⟩
      rw [← g13] at A13 D13 U13 st13
      have g_b13 : n0 ≤ b13 := Nat.le_trans Z0 (Nat.le_of_eq g13.symm)
      have sz_b13 : h0.size ≤ b13 := Nat.le_trans K0.1 (Nat.le_of_eq g13.symm)
      have S_b13 : Safe Z EL s.vm h13 b13 := Safe.ext E13 CR.1 (Safe.new (Nat.le_of_eq g13.symm))
      replace CR := CR.trans (CHr.ext E13 CR.1)
      replace hk := Nat.le_trans hk E13.1
      replace Z0 := Nat.le_trans Z0 E13.1
      replace K0 := K0.ext E13
      replace O0 := O0.ext E13
      have E_b13 := A13
      have F_b13_value : Fld Z h13 b13 "java/lang/String" "value" "[B" .null := D13 (Or.inr (hw _ (List.mem_of_getElem? (i := 20) rfl))) (ty := (.array .byte)) (by decide)
      have F_b13_coder : Fld Z h13 b13 "java/lang/String" "coder" "B" (.int (0 : Int32)) := D13 (Or.inr (hw _ (List.mem_of_getElem? (i := 21) rfl))) (ty := .byte) (by decide)
      refine GoH.st (T' := T13) (pc' := 38) (L' := #[.val (.int ((p1 &&& (255 : Int32)).toUInt32.toUInt16.toUInt32.toInt32)), .val (.int ((p2 &&& (255 : Int32)).toUInt32.toUInt16.toUInt32.toInt32)), .val (.int p3)]) (S' := [(.ref b13)]) st13 ?_
      refine GoH.st (T' := T13) (pc' := 39) (L' := #[.val (.int ((p1 &&& (255 : Int32)).toUInt32.toUInt16.toUInt32.toInt32)), .val (.int ((p2 &&& (255 : Int32)).toUInt32.toUInt16.toUInt32.toInt32)), .val (.int p3)]) (S' := [(.ref b13), (.ref b13)]) (fun t_ k_ => XS.dup X13.here hx rfl (hb hby d1_38) rfl rfl k_) ?_
      refine GoH.st (T' := T13) (pc' := 40) (L' := #[.val (.int ((p1 &&& (255 : Int32)).toUInt32.toUInt16.toUInt32.toInt32)), .val (.int ((p2 &&& (255 : Int32)).toUInt32.toUInt16.toUInt32.toInt32)), .val (.int p3)]) (S' := [(.int (2 : Int32)), (.ref b13), (.ref b13)]) (fun t_ k_ => XS.iconst X13.here hx rfl (hb hby d1_39) k_) ?_
      obtain ⟨T14, h14, k14, X14, e14, E14, A14, st14⟩ := newP X13 hx hZ (hw _ (List.mem_of_getElem? (i := 7) rfl)) e13 (g := (mkF m 40 #[.val (.int ((p1 &&& (255 : Int32)).toUInt32.toUInt16.toUInt32.toInt32)), .val (.int ((p2 &&& (255 : Int32)).toUInt32.toUInt16.toUInt32.toInt32)), .val (.int p3)] [(.int (2 : Int32)), (.ref b13), (.ref b13)])) rfl (hb hby d1_40) rfl (by decide) (cap := 2) (by decide) (by decide) (by decide) (by decide)
      obtain ⟨b14, g14⟩ : ∃ z, z = h13.size := ⟨_, rfl⟩
      rw [← g14] at A14 st14
      have ne_b13_b14 : b13 ≠ b14 := Nat.ne_of_lt (Nat.lt_of_lt_of_le E_b13.lt (Nat.le_of_eq g14.symm))
      have g_b14 : n0 ≤ b14 := Nat.le_trans Z0 (Nat.le_of_eq g14.symm)
      have sz_b14 : h0.size ≤ b14 := Nat.le_trans K0.1 (Nat.le_of_eq g14.symm)
      replace S_b13 := Safe.ext E14 CR.1 S_b13
      replace CR := CR.trans (CHr.ext E14 CR.1)
      replace hk := Nat.le_trans hk E14.1
      replace Z0 := Nat.le_trans Z0 E14.1
      replace K0 := K0.ext E14
      replace O0 := O0.ext E14
      replace E_b13 := E_b13.ext E14
      replace F_b13_value := F_b13_value.ext E14
      replace F_b13_coder := F_b13_coder.ext E14
      have V_b14 : Arv Z h14 b14 k14 .char (2 : Int32) [(.int (0 : Int32)), (.int (0 : Int32))] (.int (0 : Int32)) := (Arv.new A14 (by decide)).pad (pad_rep [] (.int (0 : Int32)) 2)
      refine GoH.st (T' := T14) (pc' := 42) (L' := #[.val (.int ((p1 &&& (255 : Int32)).toUInt32.toUInt16.toUInt32.toInt32)), .val (.int ((p2 &&& (255 : Int32)).toUInt32.toUInt16.toUInt32.toInt32)), .val (.int p3)]) (S' := [(.ref b14), (.ref b13), (.ref b13)]) st14 ?_
      refine GoH.st (T' := T14) (pc' := 43) (L' := #[.val (.int ((p1 &&& (255 : Int32)).toUInt32.toUInt16.toUInt32.toInt32)), .val (.int ((p2 &&& (255 : Int32)).toUInt32.toUInt16.toUInt32.toInt32)), .val (.int p3)]) (S' := [(.ref b14), (.ref b14), (.ref b13), (.ref b13)]) (fun t_ k_ => XS.dup X14.here hx rfl (hb hby d1_42) rfl rfl k_) ?_
      refine GoH.st (T' := T14) (pc' := 44) (L' := #[.val (.int ((p1 &&& (255 : Int32)).toUInt32.toUInt16.toUInt32.toInt32)), .val (.int ((p2 &&& (255 : Int32)).toUInt32.toUInt16.toUInt32.toInt32)), .val (.int p3)]) (S' := [(.int (0 : Int32)), (.ref b14), (.ref b14), (.ref b13), (.ref b13)]) (fun t_ k_ => XS.iconst X14.here hx rfl (hb hby d1_43) k_) ?_
      refine GoH.st (T' := T14) (pc' := 45) (L' := #[.val (.int ((p1 &&& (255 : Int32)).toUInt32.toUInt16.toUInt32.toInt32)), .val (.int ((p2 &&& (255 : Int32)).toUInt32.toUInt16.toUInt32.toInt32)), .val (.int p3)]) (S' := [(.int ((p1 &&& (255 : Int32)).toUInt32.toUInt16.toUInt32.toInt32)), (.int (0 : Int32)), (.ref b14), (.ref b14), (.ref b13), (.ref b13)]) (fun t_ k_ => XS.iloadN X14.here hx rfl (hb hby d1_44) rfl  k_) ?_
      have Sq15 : Safe Z EL s.vm h14 b14 := (own_safeV hZ.alike V_b14 (by decide))
      obtain ⟨cl15, Ar15, q151, q152, q153, q154, q155⟩ := V_b14
      obtain ⟨T15, h15, X15, e15, W15, st15⟩ := stC X14 hx hZ e14 Ar15 (j := (0 : Int32)) (inb_of q152 ⟨by decide, by decide⟩) (g := (mkF m 45 #[.val (.int ((p1 &&& (255 : Int32)).toUInt32.toUInt16.toUInt32.toInt32)), .val (.int ((p2 &&& (255 : Int32)).toUInt32.toUInt16.toUInt32.toInt32)), .val (.int p3)] [(.int ((p1 &&& (255 : Int32)).toUInt32.toUInt16.toUInt32.toInt32)), (.int (0 : Int32)), (.ref b14), (.ref b14), (.ref b13), (.ref b13)])) rfl rfl (hb hby d1_45)
      replace V_b14 := Arv.set Ar15 q151 q152 q153 q154 q155 (fits_nar_char _) W15 0 rfl (Nat.le_of_ble_eq_true rfl)
      have V_b14 : Arv Z h15 b14 k14 .char (2 : Int32) [(.int (nar .char ((p1 &&& (255 : Int32)).toUInt32.toUInt16.toUInt32.toInt32))), (.int (0 : Int32))] (.int (0 : Int32)) := V_b14
      replace S_b13 := Safe.wr W15 Sq15 CR.1 S_b13
      replace CR := CR.trans (CHr.wr W15 Sq15 CR.1)
      replace hk := Nat.le_trans hk (Keep.of_wr W15).1
      replace Z0 := Nat.le_trans Z0 (Keep.of_wr W15).1
      replace K0 := K0.wr W15 (Or.inr sz_b14)
      replace O0 := O0.wr W15 g_b14
      replace E_b13 := E_b13.wr W15
      replace F_b13_value := F_b13_value.other W15 (Or.inl ne_b13_b14)
      replace F_b13_coder := F_b13_coder.other W15 (Or.inl ne_b13_b14)
      have N15 := Fr.snoc X15 N0 g_b14
      refine GoH.st (T' := T15) (pc' := 46) (L' := #[.val (.int ((p1 &&& (255 : Int32)).toUInt32.toUInt16.toUInt32.toInt32)), .val (.int ((p2 &&& (255 : Int32)).toUInt32.toUInt16.toUInt32.toInt32)), .val (.int p3)]) (S' := [(.ref b14), (.ref b13), (.ref b13)]) st15 ?_
      refine GoH.st (T' := T15) (pc' := 47) (L' := #[.val (.int ((p1 &&& (255 : Int32)).toUInt32.toUInt16.toUInt32.toInt32)), .val (.int ((p2 &&& (255 : Int32)).toUInt32.toUInt16.toUInt32.toInt32)), .val (.int p3)]) (S' := [(.ref b14), (.ref b14), (.ref b13), (.ref b13)]) (fun t_ k_ => XS.dup X15.here hx rfl (hb hby d1_46) rfl rfl k_) ?_
      refine GoH.st (T' := T15) (pc' := 48) (L' := #[.val (.int ((p1 &&& (255 : Int32)).toUInt32.toUInt16.toUInt32.toInt32)), .val (.int ((p2 &&& (255 : Int32)).toUInt32.toUInt16.toUInt32.toInt32)), .val (.int p3)]) (S' := [(.int (1 : Int32)), (.ref b14), (.ref b14), (.ref b13), (.ref b13)]) (fun t_ k_ => XS.iconst X15.here hx rfl (hb hby d1_47) k_) ?_
      refine GoH.st (T' := T15) (pc' := 49) (L' := #[.val (.int ((p1 &&& (255 : Int32)).toUInt32.toUInt16.toUInt32.toInt32)), .val (.int ((p2 &&& (255 : Int32)).toUInt32.toUInt16.toUInt32.toInt32)), .val (.int p3)]) (S' := [(.int ((p2 &&& (255 : Int32)).toUInt32.toUInt16.toUInt32.toInt32)), (.int (1 : Int32)), (.ref b14), (.ref b14), (.ref b13), (.ref b13)]) (fun t_ k_ => XS.iloadN X15.here hx rfl (hb hby d1_48) rfl  k_) ?_
      have Sq17 : Safe Z EL s.vm h15 b14 := (own_safeV hZ.alike V_b14 (by decide))
      obtain ⟨cl17, Ar17, q171, q172, q173, q174, q175⟩ := V_b14
      obtain ⟨T17, h17, X17, e17, W17, st17⟩ := stC X15 hx hZ e15 Ar17 (j := (1 : Int32)) (inb_of q172 ⟨by decide, by decide⟩) (g := (mkF m 49 #[.val (.int ((p1 &&& (255 : Int32)).toUInt32.toUInt16.toUInt32.toInt32)), .val (.int ((p2 &&& (255 : Int32)).toUInt32.toUInt16.toUInt32.toInt32)), .val (.int p3)] [(.int ((p2 &&& (255 : Int32)).toUInt32.toUInt16.toUInt32.toInt32)), (.int (1 : Int32)), (.ref b14), (.ref b14), (.ref b13), (.ref b13)])) rfl rfl (hb hby d1_49)
      replace V_b14 := Arv.set Ar17 q171 q172 q173 q174 q175 (fits_nar_char _) W17 1 rfl (Nat.le_of_ble_eq_true rfl)
      have V_b14 : Arv Z h17 b14 k14 .char (2 : Int32) [(.int (nar .char ((p1 &&& (255 : Int32)).toUInt32.toUInt16.toUInt32.toInt32))), (.int (nar .char ((p2 &&& (255 : Int32)).toUInt32.toUInt16.toUInt32.toInt32)))] (.int (0 : Int32)) := V_b14
      replace S_b13 := Safe.wr W17 Sq17 CR.1 S_b13
      replace CR := CR.trans (CHr.wr W17 Sq17 CR.1)
      replace hk := Nat.le_trans hk (Keep.of_wr W17).1
      replace Z0 := Nat.le_trans Z0 (Keep.of_wr W17).1
      replace K0 := K0.wr W17 (Or.inr sz_b14)
      replace O0 := O0.wr W17 g_b14
      replace E_b13 := E_b13.wr W17
      replace F_b13_value := F_b13_value.other W17 (Or.inl ne_b13_b14)
      replace F_b13_coder := F_b13_coder.other W17 (Or.inl ne_b13_b14)
      have N17 := Fr.snoc X17 N15 g_b14
      refine GoH.st (T' := T17) (pc' := 50) (L' := #[.val (.int ((p1 &&& (255 : Int32)).toUInt32.toUInt16.toUInt32.toInt32)), .val (.int ((p2 &&& (255 : Int32)).toUInt32.toUInt16.toUInt32.toInt32)), .val (.int p3)]) (S' := [(.ref b14), (.ref b13), (.ref b13)]) st17 ?_
      have hws19 : ∀ d ∈ StrChars.Road.words, d.before a0 Z = true := fun d hd => hw d ((by decide +kernel : ∀ d ∈ StrChars.Road.words, d ∈ tables_1) d hd)
      have hlat19 : ∀ c ∈ [(nar .char ((p1 &&& (255 : Int32)).toUInt32.toUInt16.toUInt32.toInt32)), (nar .char ((p2 &&& (255 : Int32)).toUInt32.toUInt16.toUInt32.toInt32))], ¬ c < 0 ∧ ¬ (255 : Int32) < c := by
        intro c hc
        simp only [List.mem_cons, List.not_mem_nil, or_false] at hc
        rcases hc with rfl | rfl
        · exact own_and255 _
        · exact own_and255 _
      obtain ⟨_, _, ⟨T19, L19, k19, n19⟩, -, X19, ⟨Lc19, hQ19, l19, y19, z19⟩, st19⟩ := X17.specialBack hx (y := (⟨"java/lang/String", "<init>", "([C)V"⟩ : MethodName)) rfl hown (mvT hZ (hw _ (List.mem_of_getElem? (i := 8) rfl))) (mvT hZ (hw _ (List.mem_of_getElem? (i := 9) rfl))) (mvT hZ (hw _ (List.mem_of_getElem? (i := 10) rfl))) (by decide) (StrChars.Road.backV (W := 1) hZ hws19 (kI := 4) (hw _ (List.mem_of_getElem? (i := 5) rfl)) (cs := [(nar .char ((p1 &&& (255 : Int32)).toUInt32.toUInt16.toUInt32.toInt32)), (nar .char ((p2 &&& (255 : Int32)).toUInt32.toUInt16.toUInt32.toInt32))]) (bs := [((nar .char ((p1 &&& (255 : Int32)).toUInt32.toUInt16.toUInt32.toInt32))).toInt8.toInt32, ((nar .char ((p2 &&& (255 : Int32)).toUInt32.toUInt16.toUInt32.toInt32))).toInt8.toInt32]) (n := 2) g_b13 Z0 E_b13 F_b13_value F_b13_coder V_b14 (SC.ext O0.2) PC rfl rfl (by decide) (by decide) hlat19 rfl (by decide) (by decide)) (g := (mkF m 50 #[.val (.int ((p1 &&& (255 : Int32)).toUInt32.toUInt16.toUInt32.toInt32)), .val (.int ((p2 &&& (255 : Int32)).toUInt32.toUInt16.toUInt32.toInt32)), .val (.int p3)] [(.ref b14), (.ref b13), (.ref b13)])) rfl (by rw [hml]; rfl) (Steps.refl _) (a := b13) (argsL := [(.ref b14)]) (rest := [(.ref b13)]) (lenOf pd_17 rfl) rfl (by show 2 * 0 + _ ≤ _; exact Nat.le_of_eq rfl) (hb hby d1_50) (fun _ _ => ⟨rfl, e17, (by decide : 2 + 1 ≤ _), (by decide : 6 + 2 ≤ _)⟩)
      dsimp only [Pt.U, Pt.locs, Pt.cells, Pt.slots] at X19 l19 y19 z19 st19 hQ19
      subst l19 y19 z19
      obtain ⟨rfl, N19q, K19, Ex19, Co19, t19, kb19, ta19, tb19, tc19, Va19, Ay19⟩ := hQ19
      have N19 := Fr.app N17 N19q
      have ne_b13_t19 : b13 ≠ t19 := Nat.ne_of_lt (Nat.lt_of_lt_of_le E_b13.lt tb19)
      have ne_b14_t19 : b14 ≠ t19 := Nat.ne_of_lt (Nat.lt_of_lt_of_le V_b14.lt tb19)
      have sz_t19 : h0.size ≤ t19 := Nat.le_trans K0.1 tb19
      obtain ⟨h19, e19⟩ : ∃ z, T19.heap = z := ⟨_, rfl⟩
      rw [e19] at K19 Ex19 Co19 Va19 Ay19
      have Sk20 : ∀ x ∈ [b13], Safe Z EL s.vm h17 x := (allS S_b13 all0)
      replace S_b13 := Safe.keep K19 Sk20 CR.1 S_b13
      replace CR := CR.trans (CHr.keep K19 Sk20 CR.1)
      replace hk := Nat.le_trans hk K19.1
      replace Z0 := Nat.le_trans Z0 K19.1
      replace K0 := K0.trans K19 (allS (Or.inr sz_b13) all0)
      replace O0 := O0.keep K19 (allS g_b13 all0)
      replace E_b13 := E_b13.keep K19
      replace V_b14 := V_b14.keep K19 (ninS (Ne.symm ne_b13_b14) nin0)
      have Ay19 : Arv Z h19 t19 kb19 .byte (2 : Int32) [(.int (((nar .char ((p1 &&& (255 : Int32)).toUInt32.toUInt16.toUInt32.toInt32))).toInt8.toInt32)), (.int (((nar .char ((p2 &&& (255 : Int32)).toUInt32.toUInt16.toUInt32.toInt32))).toInt8.toInt32))] (.int (0 : Int32)) := Ay19
      refine GoH.tr (T' := T19) (pc' := 53) (L' := #[.val (.int ((p1 &&& (255 : Int32)).toUInt32.toUInt16.toUInt32.toInt32)), .val (.int ((p2 &&& (255 : Int32)).toUInt32.toUInt16.toUInt32.toInt32)), .val (.int p3)]) (S' := [(.ref b13)]) st19 ?_
      exact GoH.retO X19 hx hlk hret rfl (by simp [FieldType.isReference, Value.isRef]) (hb hby d1_53) (by decide) (by decide) hS hk e19 hs0 hZ (own_EW hw) CR (by rw [e19]; exact ⟨b13, t19, _, ([(((nar .char ((p1 &&& (255 : Int32)).toUInt32.toUInt16.toUInt32.toInt32))).toInt8.toInt32), (((nar .char ((p2 &&& (255 : Int32)).toUInt32.toUInt16.toUInt32.toInt32))).toInt8.toInt32)] : List Int32), 2, rfl, N19, K0, E_b13, Co19, Va19, Ay19, rfl, by decide⟩)
theorem d29_0 : decode jdk_78_method_3_code 0 = .ok (.aload_n 0, 1) := by decide +kernel
theorem d29_1 : decode jdk_78_method_3_code 1 = .ok (.invokespecial 1, 3) := by decide +kernel
theorem d29_4 : decode jdk_78_method_3_code 4 = .ok (.aload_n 0, 1) := by decide +kernel
theorem d29_5 : decode jdk_78_method_3_code 5 = .ok (.aload_n 0, 1) := by decide +kernel
theorem d29_6 : decode jdk_78_method_3_code 6 = .ok (.putfield 7, 3) := by decide +kernel
theorem d29_9 : decode jdk_78_method_3_code 9 = .ok (.aload_n 0, 1) := by decide +kernel
theorem d29_10 : decode jdk_78_method_3_code 10 = .ok (.getstatic 13, 3) := by decide +kernel
theorem d29_13 : decode jdk_78_method_3_code 13 = .ok (.putfield 17, 3) := by decide +kernel
theorem d29_16 : decode jdk_78_method_3_code 16 = .ok (.aload_n 0, 1) := by decide +kernel
theorem d29_17 : decode jdk_78_method_3_code 17 = .ok (.getstatic 20, 3) := by decide +kernel
theorem d29_20 : decode jdk_78_method_3_code 20 = .ok (.putfield 24, 3) := by decide +kernel
theorem d29_23 : decode jdk_78_method_3_code 23 = .ok (.aload_n 0, 1) := by decide +kernel
theorem d29_24 : decode jdk_78_method_3_code 24 = .ok (.invokevirtual 27, 3) := by decide +kernel
theorem d29_27 : decode jdk_78_method_3_code 27 = .ok (.pop, 1) := by decide +kernel
theorem d29_28 : decode jdk_78_method_3_code 28 = .ok (.aload_n 0, 1) := by decide +kernel
theorem d29_29 : decode jdk_78_method_3_code 29 = .ok (.aload_n 1, 1) := by decide +kernel
theorem d29_30 : decode jdk_78_method_3_code 30 = .ok (.putfield 31, 3) := by decide +kernel
theorem d29_33 : decode jdk_78_method_3_code 33 = .ok (.aload_n 0, 1) := by decide +kernel
theorem d29_34 : decode jdk_78_method_3_code 34 = .ok (.aload_n 2, 1) := by decide +kernel
theorem d29_35 : decode jdk_78_method_3_code 35 = .ok (.putfield 7, 3) := by decide +kernel
theorem d29_38 : decode jdk_78_method_3_code 38 = .ok (.return_, 1) := by decide +kernel
theorem pn_7 : plainName "java/lang/Throwable" = true := by first | (simp [plainName, overriddenIn]; done) | decide +kernel
def Qthr (Z : State) (a1 x1 : Addr) (h0 : Heap) (n0 : Nat) (v : Option Value) (h : Heap) (L : List Loc) : Prop := v = none ∧ Fr n0 L ∧ Keep h0 h [a1] ∧ Unt h a1 ∧ Fld Z h a1 "java/lang/Throwable" "detailMessage" "Ljava/lang/String;" (.ref x1) ∧ Fld Z h a1 "java/lang/Throwable" "cause" "Ljava/lang/Throwable;" .null
def roomthr : Room := { frames := 3, cells := 1, slots := 2752, locals := 43 }
set_option maxRecDepth 65536 in
set_option maxHeartbeats 40000000 in
theorem rmthr (l : Launch) (Z : State) (a0 : Array Value) (hw : ∀ d ∈ tables_1, d.before a0 Z = true) (ws : List Jvm.Cond) (a1 x1 : Addr) (vU vS : Value) (h0 : Heap) (n0 : Nat) (Z0 : n0 ≤ h0.size) (O0 : Old Z n0 h0) (hvU : vU.isRef = true) (hvS : vS.isRef = true) (SU : Sta Z Z.heap "java/lang/Throwable" "UNASSIGNED_STACK" "[Ljava/lang/StackTraceElement;" vU) (SS : Sta Z Z.heap "java/lang/Throwable" "SUPPRESSED_SENTINEL" "Ljava/util/List;" vS) (hl : l.stackTraces = true) (E_a1 : Exa Z h0 a1 "com/example/yusenkabu/yusenkabu/cli/InputException") (g_a1 : n0 ≤ a1) (Un : Unt h0 a1) (F_detailMessage : Fld Z h0 a1 "java/lang/Throwable" "detailMessage" "Ljava/lang/String;" .null) (F_cause : Fld Z h0 a1 "java/lang/Throwable" "cause" "Ljava/lang/Throwable;" .null) (F_backtrace : Fld Z h0 a1 "java/lang/Throwable" "backtrace" "Ljava/lang/Object;" .null) (F_stackTrace : Fld Z h0 a1 "java/lang/Throwable" "stackTrace" "[Ljava/lang/StackTraceElement;" .null) (F_suppressedExceptions : Fld Z h0 a1 "java/lang/Throwable" "suppressedExceptions" "Ljava/util/List;" .null) :
    MetFree l (⟨"java/lang/Throwable", "<init>", "(Ljava/lang/String;Ljava/lang/Throwable;)V"⟩ : MethodName) (head1 (Jvm.Cond.code (⟨"java/lang/Throwable", "<init>", "(Ljava/lang/String;Ljava/lang/Throwable;)V"⟩ : MethodName) jdk_78_method_3_code 3 none :: ws) roomthr) (fun aa_ U_ => aa_ = #[(.ref a1), (.ref x1), .null] ∧ Z.Warmed39 U_.vm ∧ U_.heap = h0 ∧ CHv Z EL U_.vm h0) (fun _ _ bl s _ => s.vm.MethodsKnown ∧ s.vm.FramesKnown bl) (fun _ U_ o_ W_ => ∃ v_ L_, o_ = .returned v_ ∧ (Qthr Z a1 x1 h0 n0) v_ W_.heap L_ ∧ CHr Z EL U_.vm U_.heap W_.vm W_.heap ∧ ReturnedEndW U_ o_ W_ L_ roomthr.cells roomthr.slots) := by
  refine own_metHK (Q := (Qthr Z a1 x1 h0 n0)) (L0 := #[.val (.ref a1), .val (.ref x1), .val .null]) (plainFor_of_name pn_7) (fun m => by first | (simp [entryFrame, mkF, argsToLocals, Value.category]; done) | rfl) ?_
  intro p e s m below meth c T0 X0 hx hby hml hown hnm hret hlk hZ e0 hs0 CR hS hk hTK hBelow
  have N0 := Fr.nil n0
  have K0 := Keep.refl h0 [a1]
  have Z00 := Z0
  have O00 := O0
  have CR00 := CR
  have Un00 : Unt s.heap a1 := by rw [hs0]; exact Un
  have hT00 : ThS Z s.heap := by rw [hs0]; exact ThS.ext O0.2 ThS.start
  have Sa00 : Safe Z EL s.vm h0 a1 := Safe.exa hZ.alike E_a1 (by decide) (by decide)
  refine GoH.st (T' := T0) (pc' := 1) (L' := #[.val (.ref a1), .val (.ref x1), .val .null]) (S' := [(.ref a1)]) (fun t_ k_ => XS.aloadN X0.here hx rfl (hb hby d29_0) rfl rfl  k_) ?_
  obtain ⟨T1, X1, e1, st1⟩ := initO X0 hx hZ hown (hw _ (List.mem_of_getElem? (i := 159) rfl)) (hw _ (List.mem_of_getElem? (i := 16) rfl)) (hw _ (List.mem_of_getElem? (i := 17) rfl)) e0 (g := (mkF m 1 #[.val (.ref a1), .val (.ref x1), .val .null] [(.ref a1)])) rfl (by rw [hml]; rfl) rfl (hb hby d29_1) (by decide) (W := 0) (by show 2 * 0 + _ ≤ _; exact Nat.le_of_eq rfl) (by decide)
  refine GoH.st (T' := T1) (pc' := 4) (L' := #[.val (.ref a1), .val (.ref x1), .val .null]) (S' := []) st1 ?_
  refine GoH.st (T' := T1) (pc' := 5) (L' := #[.val (.ref a1), .val (.ref x1), .val .null]) (S' := [(.ref a1)]) (fun t_ k_ => XS.aloadN X1.here hx rfl (hb hby d29_4) rfl rfl  k_) ?_
  refine GoH.st (T' := T1) (pc' := 6) (L' := #[.val (.ref a1), .val (.ref x1), .val .null]) (S' := [(.ref a1), (.ref a1)]) (fun t_ k_ => XS.aloadN X1.here hx rfl (hb hby d29_5) rfl rfl  k_) ?_
  obtain ⟨T2, h2, X2, e2, W2, st2⟩ := putF X1 hx hZ hown (host := "") (Or.inl (hw _ (List.mem_of_getElem? (i := 160) rfl))) Via.refl e1 F_cause E_a1 (Or.inl (hw _ (List.mem_of_getElem? (i := 161) rfl))) (hw _ (List.mem_of_getElem? (i := 31) rfl)) (ty := (.object "java/lang/Throwable")) (by decide) rfl rfl (g := (mkF m 6 #[.val (.ref a1), .val (.ref x1), .val .null] [(.ref a1), (.ref a1)])) rfl rfl (hb hby d29_6)
  have Sw3 : Safe Z EL s.vm h0 a1 := (Safe.exa hZ.alike E_a1 (by decide) (by decide))
  replace CR := CR.trans (CHr.wr W2 Sw3 CR.1)
  replace hk := Nat.le_trans hk (Keep.of_wr W2).1
  replace Z0 := Nat.le_trans Z0 (Keep.of_wr W2).1
  replace K0 := K0.wr W2 (Or.inl (List.mem_of_getElem? (i := 0) rfl))
  replace O0 := O0.wr W2 g_a1
  replace E_a1 := E_a1.wr W2
  replace Un := Un.wr W2
  replace F_detailMessage := F_detailMessage.other W2 (Or.inr (slot_ne (Or.inl (hw _ (List.mem_of_getElem? (i := 191) rfl))) (Or.inl (hw _ (List.mem_of_getElem? (i := 161) rfl))) (by decide) (t := (.object "java/lang/String")) (t' := (.object "java/lang/Throwable")) (by decide) (by decide)))
  replace F_backtrace := F_backtrace.other W2 (Or.inr (slot_ne (Or.inl (hw _ (List.mem_of_getElem? (i := 192) rfl))) (Or.inl (hw _ (List.mem_of_getElem? (i := 161) rfl))) (by decide) (t := (.object "java/lang/Object")) (t' := (.object "java/lang/Throwable")) (by decide) (by decide)))
  replace F_stackTrace := F_stackTrace.other W2 (Or.inr (slot_ne (Or.inl (hw _ (List.mem_of_getElem? (i := 164) rfl))) (Or.inl (hw _ (List.mem_of_getElem? (i := 161) rfl))) (by decide) (t := (.array (.object "java/lang/StackTraceElement"))) (t' := (.object "java/lang/Throwable")) (by decide) (by decide)))
  replace F_suppressedExceptions := F_suppressedExceptions.other W2 (Or.inr (slot_ne (Or.inl (hw _ (List.mem_of_getElem? (i := 167) rfl))) (Or.inl (hw _ (List.mem_of_getElem? (i := 161) rfl))) (by decide) (t := (.object "java/util/List")) (t' := (.object "java/lang/Throwable")) (by decide) (by decide)))
  replace F_cause := F_cause.same W2
  have N2 := Fr.snoc X2 N0 g_a1
  refine GoH.st (T' := T2) (pc' := 9) (L' := #[.val (.ref a1), .val (.ref x1), .val .null]) (S' := []) st2 ?_
  refine GoH.st (T' := T2) (pc' := 10) (L' := #[.val (.ref a1), .val (.ref x1), .val .null]) (S' := [(.ref a1)]) (fun t_ k_ => XS.aloadN X2.here hx rfl (hb hby d29_9) rfl rfl  k_) ?_
  obtain ⟨T4, X4, e4, st4⟩ := getS2 X2 hx hZ hown (host := "") (Or.inl (hw _ (List.mem_of_getElem? (i := 162) rfl))) Via.refl e2 (SU.ext O0.2) (g := (mkF m 10 #[.val (.ref a1), .val (.ref x1), .val .null] [(.ref a1)])) rfl (hb hby d29_10)
  refine GoH.st (T' := T4) (pc' := 13) (L' := #[.val (.ref a1), .val (.ref x1), .val .null]) (S' := [vU, (.ref a1)]) st4 ?_
  obtain ⟨T5, h5, X5, e5, W5, st5⟩ := putF X4 hx hZ hown (host := "") (Or.inl (hw _ (List.mem_of_getElem? (i := 163) rfl))) Via.refl e4 F_stackTrace E_a1 (Or.inl (hw _ (List.mem_of_getElem? (i := 164) rfl))) (hw _ (List.mem_of_getElem? (i := 31) rfl)) (ty := (.array (.object "java/lang/StackTraceElement"))) (by decide) (narrow_isRef _ hvU) (fits_refV_array _ ⟨vU, hvU⟩) (g := (mkF m 13 #[.val (.ref a1), .val (.ref x1), .val .null] [vU, (.ref a1)])) rfl rfl (hb hby d29_13)
  have Sw6 : Safe Z EL s.vm h2 a1 := (Safe.exa hZ.alike E_a1 (by decide) (by decide))
  replace CR := CR.trans (CHr.wr W5 Sw6 CR.1)
  replace hk := Nat.le_trans hk (Keep.of_wr W5).1
  replace Z0 := Nat.le_trans Z0 (Keep.of_wr W5).1
  replace K0 := K0.wr W5 (Or.inl (List.mem_of_getElem? (i := 0) rfl))
  replace O0 := O0.wr W5 g_a1
  replace E_a1 := E_a1.wr W5
  replace Un := Un.wr W5
  replace F_detailMessage := F_detailMessage.other W5 (Or.inr (slot_ne (Or.inl (hw _ (List.mem_of_getElem? (i := 191) rfl))) (Or.inl (hw _ (List.mem_of_getElem? (i := 164) rfl))) (by decide) (t := (.object "java/lang/String")) (t' := (.array (.object "java/lang/StackTraceElement"))) (by decide) (by decide)))
  replace F_cause := F_cause.other W5 (Or.inr (slot_ne (Or.inl (hw _ (List.mem_of_getElem? (i := 161) rfl))) (Or.inl (hw _ (List.mem_of_getElem? (i := 164) rfl))) (by decide) (t := (.object "java/lang/Throwable")) (t' := (.array (.object "java/lang/StackTraceElement"))) (by decide) (by decide)))
  replace F_backtrace := F_backtrace.other W5 (Or.inr (slot_ne (Or.inl (hw _ (List.mem_of_getElem? (i := 192) rfl))) (Or.inl (hw _ (List.mem_of_getElem? (i := 164) rfl))) (by decide) (t := (.object "java/lang/Object")) (t' := (.array (.object "java/lang/StackTraceElement"))) (by decide) (by decide)))
  replace F_suppressedExceptions := F_suppressedExceptions.other W5 (Or.inr (slot_ne (Or.inl (hw _ (List.mem_of_getElem? (i := 167) rfl))) (Or.inl (hw _ (List.mem_of_getElem? (i := 164) rfl))) (by decide) (t := (.object "java/util/List")) (t' := (.array (.object "java/lang/StackTraceElement"))) (by decide) (by decide)))
  replace F_stackTrace := F_stackTrace.same W5
  have N5 := Fr.snoc X5 N2 g_a1
  refine GoH.st (T' := T5) (pc' := 16) (L' := #[.val (.ref a1), .val (.ref x1), .val .null]) (S' := []) st5 ?_
  refine GoH.st (T' := T5) (pc' := 17) (L' := #[.val (.ref a1), .val (.ref x1), .val .null]) (S' := [(.ref a1)]) (fun t_ k_ => XS.aloadN X5.here hx rfl (hb hby d29_16) rfl rfl  k_) ?_
  obtain ⟨T7, X7, e7, st7⟩ := getS2 X5 hx hZ hown (host := "") (Or.inl (hw _ (List.mem_of_getElem? (i := 165) rfl))) Via.refl e5 (SS.ext O0.2) (g := (mkF m 17 #[.val (.ref a1), .val (.ref x1), .val .null] [(.ref a1)])) rfl (hb hby d29_17)
  refine GoH.st (T' := T7) (pc' := 20) (L' := #[.val (.ref a1), .val (.ref x1), .val .null]) (S' := [vS, (.ref a1)]) st7 ?_
  obtain ⟨T8, h8, X8, e8, W8, st8⟩ := putF X7 hx hZ hown (host := "") (Or.inl (hw _ (List.mem_of_getElem? (i := 166) rfl))) Via.refl e7 F_suppressedExceptions E_a1 (Or.inl (hw _ (List.mem_of_getElem? (i := 167) rfl))) (hw _ (List.mem_of_getElem? (i := 31) rfl)) (ty := (.object "java/util/List")) (by decide) (narrow_isRef _ hvS) (fits_refV_object _ ⟨vS, hvS⟩) (g := (mkF m 20 #[.val (.ref a1), .val (.ref x1), .val .null] [vS, (.ref a1)])) rfl rfl (hb hby d29_20)
  have Sw9 : Safe Z EL s.vm h5 a1 := (Safe.exa hZ.alike E_a1 (by decide) (by decide))
  replace CR := CR.trans (CHr.wr W8 Sw9 CR.1)
  replace hk := Nat.le_trans hk (Keep.of_wr W8).1
  replace Z0 := Nat.le_trans Z0 (Keep.of_wr W8).1
  replace K0 := K0.wr W8 (Or.inl (List.mem_of_getElem? (i := 0) rfl))
  replace O0 := O0.wr W8 g_a1
  replace E_a1 := E_a1.wr W8
  replace Un := Un.wr W8
  replace F_detailMessage := F_detailMessage.other W8 (Or.inr (slot_ne (Or.inl (hw _ (List.mem_of_getElem? (i := 191) rfl))) (Or.inl (hw _ (List.mem_of_getElem? (i := 167) rfl))) (by decide) (t := (.object "java/lang/String")) (t' := (.object "java/util/List")) (by decide) (by decide)))
  replace F_cause := F_cause.other W8 (Or.inr (slot_ne (Or.inl (hw _ (List.mem_of_getElem? (i := 161) rfl))) (Or.inl (hw _ (List.mem_of_getElem? (i := 167) rfl))) (by decide) (t := (.object "java/lang/Throwable")) (t' := (.object "java/util/List")) (by decide) (by decide)))
  replace F_backtrace := F_backtrace.other W8 (Or.inr (slot_ne (Or.inl (hw _ (List.mem_of_getElem? (i := 192) rfl))) (Or.inl (hw _ (List.mem_of_getElem? (i := 167) rfl))) (by decide) (t := (.object "java/lang/Object")) (t' := (.object "java/util/List")) (by decide) (by decide)))
  replace F_stackTrace := F_stackTrace.other W8 (Or.inr (slot_ne (Or.inl (hw _ (List.mem_of_getElem? (i := 164) rfl))) (Or.inl (hw _ (List.mem_of_getElem? (i := 167) rfl))) (by decide) (t := (.array (.object "java/lang/StackTraceElement"))) (t' := (.object "java/util/List")) (by decide) (by decide)))
  replace F_suppressedExceptions := F_suppressedExceptions.same W8
  have N8 := Fr.snoc X8 N5 g_a1
  refine GoH.st (T' := T8) (pc' := 23) (L' := #[.val (.ref a1), .val (.ref x1), .val .null]) (S' := []) st8 ?_
  refine GoH.st (T' := T8) (pc' := 24) (L' := #[.val (.ref a1), .val (.ref x1), .val .null]) (S' := [(.ref a1)]) (fun t_ k_ => XS.aloadN X8.here hx rfl (hb hby d29_23) rfl rfl  k_) ?_
  obtain ⟨T10, h10, L10, X10, e10, bs10, K10, E10, U10, M10, C10, st10⟩ := own_fill X8 hx hl hZ hT00 (fun d hd => hw d (own_in d hd)) (hw _ (List.mem_of_getElem? (i := 31) rfl)) hown e8 hvU E_a1 Un Un00 F_stackTrace F_backtrace F_detailMessage F_cause (SU.ext O0.2) hTK hBelow (fun x hx_ => by simp only [List.mem_append, List.mem_cons, List.not_mem_nil, or_false, false_or] at hx_; first | (rcases hx_ with (z_ | z_) | z_ <;> rw [z_]) | (rcases hx_ with z_ | z_ | z_ <;> rw [z_])) (g := (mkF m 24 #[.val (.ref a1), .val (.ref x1), .val .null] [(.ref a1)])) rfl (by rw [hml]; rfl) rfl (hb hby d29_24) (by decide) (by show 2 * 0 + 0 + 42 ≤ _; decide) (by decide) (by decide)
  replace K10 : Keep h0 h10 [a1] := by rw [← hs0]; exact K10
  replace Z0 := Nat.le_trans Z00 K10.1
  replace K0 := K10
  replace O0 := O00.keep K10 (allS g_a1 all0)
  replace CR := CR00.trans (CHr.keep K10 (allS Sa00 all0) CR00.1)
  replace hk := Nat.zero_le h10.size
  have N10 := Fr.app N8 (fun y hy => Nat.le_trans g_a1 (Nat.le_of_eq (bs10 y hy).symm))
  refine GoH.st (T' := T10) (pc' := 27) (L' := #[.val (.ref a1), .val (.ref x1), .val .null]) (S' := [(.ref a1)]) st10 ?_
  refine GoH.st (T' := T10) (pc' := 28) (L' := #[.val (.ref a1), .val (.ref x1), .val .null]) (S' := []) (fun t_ k_ => XS.pop X10.here hx rfl (hb hby d29_27) rfl rfl k_) ?_
  refine GoH.st (T' := T10) (pc' := 29) (L' := #[.val (.ref a1), .val (.ref x1), .val .null]) (S' := [(.ref a1)]) (fun t_ k_ => XS.aloadN X10.here hx rfl (hb hby d29_28) rfl rfl  k_) ?_
  refine GoH.st (T' := T10) (pc' := 30) (L' := #[.val (.ref a1), .val (.ref x1), .val .null]) (S' := [(.ref x1), (.ref a1)]) (fun t_ k_ => XS.aloadN X10.here hx rfl (hb hby d29_29) rfl rfl  k_) ?_
  obtain ⟨T11, h11, X11, e11, W11, st11⟩ := putF X10 hx hZ hown (host := "") (Or.inl (hw _ (List.mem_of_getElem? (i := 195) rfl))) Via.refl e10 M10 E10 (Or.inl (hw _ (List.mem_of_getElem? (i := 191) rfl))) (hw _ (List.mem_of_getElem? (i := 31) rfl)) (ty := (.object "java/lang/String")) (by decide) rfl rfl (g := (mkF m 30 #[.val (.ref a1), .val (.ref x1), .val .null] [(.ref x1), (.ref a1)])) rfl rfl (hb hby d29_30)
  have Sw12 : Safe Z EL s.vm h10 a1 := (Safe.exa hZ.alike E10 (by decide) (by decide))
  replace CR := CR.trans (CHr.wr W11 Sw12 CR.1)
  replace hk := Nat.le_trans hk (Keep.of_wr W11).1
  replace Z0 := Nat.le_trans Z0 (Keep.of_wr W11).1
  replace K0 := K0.wr W11 (Or.inl (List.mem_of_getElem? (i := 0) rfl))
  replace O0 := O0.wr W11 g_a1
  replace E10 := E10.wr W11
  replace U10 := U10.wr W11
  replace C10 := C10.other W11 (Or.inr (slot_ne (Or.inl (hw _ (List.mem_of_getElem? (i := 161) rfl))) (Or.inl (hw _ (List.mem_of_getElem? (i := 191) rfl))) (by decide) (t := (.object "java/lang/Throwable")) (t' := (.object "java/lang/String")) (by decide) (by decide)))
  replace M10 := M10.same W11
  have N11 := Fr.snoc X11 N10 g_a1
  refine GoH.st (T' := T11) (pc' := 33) (L' := #[.val (.ref a1), .val (.ref x1), .val .null]) (S' := []) st11 ?_
  refine GoH.st (T' := T11) (pc' := 34) (L' := #[.val (.ref a1), .val (.ref x1), .val .null]) (S' := [(.ref a1)]) (fun t_ k_ => XS.aloadN X11.here hx rfl (hb hby d29_33) rfl rfl  k_) ?_
  refine GoH.st (T' := T11) (pc' := 35) (L' := #[.val (.ref a1), .val (.ref x1), .val .null]) (S' := [.null, (.ref a1)]) (fun t_ k_ => XS.aloadN X11.here hx rfl (hb hby d29_34) rfl rfl  k_) ?_
  obtain ⟨T13, h13, X13, e13, W13, st13⟩ := putF X11 hx hZ hown (host := "") (Or.inl (hw _ (List.mem_of_getElem? (i := 160) rfl))) Via.refl e11 C10 E10 (Or.inl (hw _ (List.mem_of_getElem? (i := 161) rfl))) (hw _ (List.mem_of_getElem? (i := 31) rfl)) (ty := (.object "java/lang/Throwable")) (by decide) rfl rfl (g := (mkF m 35 #[.val (.ref a1), .val (.ref x1), .val .null] [.null, (.ref a1)])) rfl rfl (hb hby d29_35)
  have Sw14 : Safe Z EL s.vm h11 a1 := (Safe.exa hZ.alike E10 (by decide) (by decide))
  replace CR := CR.trans (CHr.wr W13 Sw14 CR.1)
  replace hk := Nat.le_trans hk (Keep.of_wr W13).1
  replace Z0 := Nat.le_trans Z0 (Keep.of_wr W13).1
  replace K0 := K0.wr W13 (Or.inl (List.mem_of_getElem? (i := 0) rfl))
  replace O0 := O0.wr W13 g_a1
  replace E10 := E10.wr W13
  replace U10 := U10.wr W13
  replace M10 := M10.other W13 (Or.inr (slot_ne (Or.inl (hw _ (List.mem_of_getElem? (i := 191) rfl))) (Or.inl (hw _ (List.mem_of_getElem? (i := 161) rfl))) (by decide) (t := (.object "java/lang/String")) (t' := (.object "java/lang/Throwable")) (by decide) (by decide)))
  replace C10 := C10.same W13
  have N13 := Fr.snoc X13 N11 g_a1
  refine GoH.st (T' := T13) (pc' := 38) (L' := #[.val (.ref a1), .val (.ref x1), .val .null]) (S' := []) st13 ?_
  exact GoH.retV X13 hx hlk hret (hb hby d29_38) (by decide) (by decide) hS hk e13 hs0 hZ (own_EW hw) CR (by rw [e13]; exact ⟨rfl, N13, K0, U10, M10, C10⟩)
theorem d28_0 : decode jdk_59_method_3_code 0 = .ok (.aload_n 0, 1) := by decide +kernel
theorem d28_1 : decode jdk_59_method_3_code 1 = .ok (.aload_n 1, 1) := by decide +kernel
theorem d28_2 : decode jdk_59_method_3_code 2 = .ok (.aload_n 2, 1) := by decide +kernel
theorem d28_3 : decode jdk_59_method_3_code 3 = .ok (.invokespecial 10, 3) := by decide +kernel
theorem d28_6 : decode jdk_59_method_3_code 6 = .ok (.return_, 1) := by decide +kernel
theorem pd_18 : parseMethodDescriptor "(Ljava/lang/String;Ljava/lang/Throwable;)V" = some ⟨[(.object "java/lang/String"), (.object "java/lang/Throwable")], none⟩ := by decide +kernel
theorem pn_8 : plainName "java/lang/Exception" = true := by first | (simp [plainName, overriddenIn]; done) | decide +kernel
def Qexn (Z : State) (a1 x1 : Addr) (h0 : Heap) (n0 : Nat) (v : Option Value) (h : Heap) (L : List Loc) : Prop := v = none ∧ Fr n0 L ∧ Keep h0 h [a1] ∧ Unt h a1 ∧ Fld Z h a1 "java/lang/Throwable" "detailMessage" "Ljava/lang/String;" (.ref x1) ∧ Fld Z h a1 "java/lang/Throwable" "cause" "Ljava/lang/Throwable;" .null
def roomexn : Room := { frames := 4, cells := 1, slots := 2752, locals := 57 }
set_option maxRecDepth 65536 in
set_option maxHeartbeats 40000000 in
theorem rmexn (l : Launch) (Z : State) (a0 : Array Value) (hw : ∀ d ∈ tables_1, d.before a0 Z = true) (ws : List Jvm.Cond) (a1 x1 : Addr) (vU vS : Value) (h0 : Heap) (n0 : Nat) (Z0 : n0 ≤ h0.size) (O0 : Old Z n0 h0) (hvU : vU.isRef = true) (hvS : vS.isRef = true) (SU : Sta Z Z.heap "java/lang/Throwable" "UNASSIGNED_STACK" "[Ljava/lang/StackTraceElement;" vU) (SS : Sta Z Z.heap "java/lang/Throwable" "SUPPRESSED_SENTINEL" "Ljava/util/List;" vS) (hl : l.stackTraces = true) (E_a1 : Exa Z h0 a1 "com/example/yusenkabu/yusenkabu/cli/InputException") (g_a1 : n0 ≤ a1) (Un : Unt h0 a1) (F_detailMessage : Fld Z h0 a1 "java/lang/Throwable" "detailMessage" "Ljava/lang/String;" .null) (F_cause : Fld Z h0 a1 "java/lang/Throwable" "cause" "Ljava/lang/Throwable;" .null) (F_backtrace : Fld Z h0 a1 "java/lang/Throwable" "backtrace" "Ljava/lang/Object;" .null) (F_stackTrace : Fld Z h0 a1 "java/lang/Throwable" "stackTrace" "[Ljava/lang/StackTraceElement;" .null) (F_suppressedExceptions : Fld Z h0 a1 "java/lang/Throwable" "suppressedExceptions" "Ljava/util/List;" .null) :
    MetFree l (⟨"java/lang/Exception", "<init>", "(Ljava/lang/String;Ljava/lang/Throwable;)V"⟩ : MethodName) (head1 (Jvm.Cond.code (⟨"java/lang/Exception", "<init>", "(Ljava/lang/String;Ljava/lang/Throwable;)V"⟩ : MethodName) jdk_59_method_3_code 3 none :: ws) roomexn) (fun aa_ U_ => aa_ = #[(.ref a1), (.ref x1), .null] ∧ Z.Warmed39 U_.vm ∧ U_.heap = h0 ∧ CHv Z EL U_.vm h0) (fun _ _ bl s _ => s.vm.MethodsKnown ∧ s.vm.FramesKnown bl) (fun _ U_ o_ W_ => ∃ v_ L_, o_ = .returned v_ ∧ (Qexn Z a1 x1 h0 n0) v_ W_.heap L_ ∧ CHr Z EL U_.vm U_.heap W_.vm W_.heap ∧ ReturnedEndW U_ o_ W_ L_ roomexn.cells roomexn.slots) := by
  refine own_metHK (Q := (Qexn Z a1 x1 h0 n0)) (L0 := #[.val (.ref a1), .val (.ref x1), .val .null]) (plainFor_of_name pn_8) (fun m => by first | (simp [entryFrame, mkF, argsToLocals, Value.category]; done) | rfl) ?_
  intro p e s m below meth c T0 X0 hx hby hml hown hnm hret hlk hZ e0 hs0 CR hS hk hTK hBelow
  have N0 := Fr.nil n0
  have K0 := Keep.refl h0 [a1]
  refine GoH.st (T' := T0) (pc' := 1) (L' := #[.val (.ref a1), .val (.ref x1), .val .null]) (S' := [(.ref a1)]) (fun t_ k_ => XS.aloadN X0.here hx rfl (hb hby d28_0) rfl rfl  k_) ?_
  refine GoH.st (T' := T0) (pc' := 2) (L' := #[.val (.ref a1), .val (.ref x1), .val .null]) (S' := [(.ref x1), (.ref a1)]) (fun t_ k_ => XS.aloadN X0.here hx rfl (hb hby d28_1) rfl rfl  k_) ?_
  refine GoH.st (T' := T0) (pc' := 3) (L' := #[.val (.ref a1), .val (.ref x1), .val .null]) (S' := [.null, (.ref x1), (.ref a1)]) (fun t_ k_ => XS.aloadN X0.here hx rfl (hb hby d28_2) rfl rfl  k_) ?_
  obtain ⟨_, _, ⟨T1, L1, k1, n1⟩, -, X1, hS1, hg1, ⟨Lc1, hQ1, l1, y1, z1, CR1⟩, st1⟩ := X0.specialBackS hx (y := (⟨"java/lang/Throwable", "<init>", "(Ljava/lang/String;Ljava/lang/Throwable;)V"⟩ : MethodName)) rfl hown (mvT hZ (hw _ (List.mem_of_getElem? (i := 153) rfl))) (mvT hZ (hw _ (List.mem_of_getElem? (i := 154) rfl))) (mvT hZ (hw _ (List.mem_of_getElem? (i := 158) rfl))) (by decide) (own_backSHK (W := 0) (rmthr l Z a0 hw [] a1 x1 vU vS h0 n0 Z0 O0 hvU hvS SU SS hl E_a1 g_a1 Un F_detailMessage F_cause F_backtrace F_stackTrace F_suppressedExceptions) hZ (hw _ (List.mem_of_getElem? (i := 158) rfl)) (hw _ (List.mem_of_getElem? (i := 157) rfl)) (by decide) (by decide) (own_EW hw) CR.1 (Vm.MethodsKnown.alikeC hS.1.alike hTK) (Vm.FramesKnown.alikeC hS.1.alike hBelow)) (g := (mkF m 3 #[.val (.ref a1), .val (.ref x1), .val .null] [.null, (.ref x1), (.ref a1)])) rfl (by rw [hml]; rfl) (Steps.refl _) (a := a1) (argsL := [(.ref x1), .null]) (rest := []) (lenOf pd_18 rfl) rfl (by show 2 * 0 + _ ≤ _; exact Nat.le_of_eq rfl) (hb hby d28_3) (fun _ _ => ⟨rfl, e0, (by decide : 0 + 1 ≤ _), (by decide : 0 + 2752 ≤ _)⟩)
  dsimp only [Pt.U, Pt.locs, Pt.cells, Pt.slots] at X1 l1 y1 z1 st1 hQ1 hS1 hg1 CR1
  subst l1 y1 z1
  replace X1 : Stand p l e _ (s.setVm T1.vm) m _ below meth c T1 _ _ _ := X1
  replace hS := foldS hS (T := T0) (Nat.le_trans hk (Nat.le_of_eq (congrArg Array.size e0.symm))) hS1 hg1
  replace hk := Nat.le_refl T1.heap.size
  replace hZ : Z.Warmed39 (s.setVm T1.vm).vm := State.Warmed39.trans (t := s.setVm s.vm) hZ hS1.1
  replace hown : (s.setVm T1.vm).vm.findClass "java/lang/Exception" = some m.cls := by rw [show (s.setVm T1.vm).vm = T1.vm from rfl, hS1.1.alike.findClass]; exact hown
  obtain ⟨rfl, N1q, K1, U1, M1, C1⟩ := hQ1
  have N1 := Fr.app N0 N1q
  obtain ⟨h1, e1⟩ : ∃ z, T1.heap = z := ⟨_, rfl⟩
  rw [e1] at K1 U1 M1 C1 CR1
  replace CR := CR.trans CR1
  replace Z0 := Nat.le_trans Z0 K1.1
  replace K0 := K0.trans K1 (allS (Or.inl (List.mem_of_getElem? (i := 0) rfl)) all0)
  replace O0 := O0.keep K1 (allS g_a1 all0)
  replace E_a1 := E_a1.keep K1
  replace hk : T1.heap.size ≤ h1.size := Nat.le_of_eq (congrArg Array.size e1)
  refine GoH.tr (T' := T1) (pc' := 6) (L' := #[.val (.ref a1), .val (.ref x1), .val .null]) (S' := []) st1 ?_
  exact GoH.retV X1 hx hlk hret (hb hby d28_6) (by decide) (by decide) hS hk e1 hs0 hZ (own_EW hw) CR (by rw [e1]; exact ⟨rfl, N1, K0, U1, M1, C1⟩)
theorem d27_0 : decode prog_38_method_1_code 0 = .ok (.aload_n 0, 1) := by decide +kernel
theorem d27_1 : decode prog_38_method_1_code 1 = .ok (.aload_n 1, 1) := by decide +kernel
theorem d27_2 : decode prog_38_method_1_code 2 = .ok (.aload_n 2, 1) := by decide +kernel
theorem d27_3 : decode prog_38_method_1_code 3 = .ok (.invokespecial 1, 3) := by decide +kernel
theorem d27_6 : decode prog_38_method_1_code 6 = .ok (.return_, 1) := by decide +kernel
theorem pn_9 : plainName "com/example/yusenkabu/yusenkabu/cli/InputException" = true := by first | (simp [plainName, overriddenIn]; done) | decide +kernel
def Qien (Z : State) (a1 x1 : Addr) (h0 : Heap) (n0 : Nat) (v : Option Value) (h : Heap) (L : List Loc) : Prop := v = none ∧ Fr n0 L ∧ Keep h0 h [a1] ∧ Unt h a1 ∧ Fld Z h a1 "java/lang/Throwable" "detailMessage" "Ljava/lang/String;" (.ref x1) ∧ Fld Z h a1 "java/lang/Throwable" "cause" "Ljava/lang/Throwable;" .null
def roomien : Room := { frames := 5, cells := 1, slots := 2752, locals := 71 }
set_option maxRecDepth 65536 in
set_option maxHeartbeats 40000000 in
theorem rmien (l : Launch) (Z : State) (a0 : Array Value) (hw : ∀ d ∈ tables_1, d.before a0 Z = true) (ws : List Jvm.Cond) (a1 x1 : Addr) (vU vS : Value) (h0 : Heap) (n0 : Nat) (Z0 : n0 ≤ h0.size) (O0 : Old Z n0 h0) (hvU : vU.isRef = true) (hvS : vS.isRef = true) (SU : Sta Z Z.heap "java/lang/Throwable" "UNASSIGNED_STACK" "[Ljava/lang/StackTraceElement;" vU) (SS : Sta Z Z.heap "java/lang/Throwable" "SUPPRESSED_SENTINEL" "Ljava/util/List;" vS) (hl : l.stackTraces = true) (E_a1 : Exa Z h0 a1 "com/example/yusenkabu/yusenkabu/cli/InputException") (g_a1 : n0 ≤ a1) (Un : Unt h0 a1) (F_detailMessage : Fld Z h0 a1 "java/lang/Throwable" "detailMessage" "Ljava/lang/String;" .null) (F_cause : Fld Z h0 a1 "java/lang/Throwable" "cause" "Ljava/lang/Throwable;" .null) (F_backtrace : Fld Z h0 a1 "java/lang/Throwable" "backtrace" "Ljava/lang/Object;" .null) (F_stackTrace : Fld Z h0 a1 "java/lang/Throwable" "stackTrace" "[Ljava/lang/StackTraceElement;" .null) (F_suppressedExceptions : Fld Z h0 a1 "java/lang/Throwable" "suppressedExceptions" "Ljava/util/List;" .null) :
    MetFree l (⟨"com/example/yusenkabu/yusenkabu/cli/InputException", "<init>", "(Ljava/lang/String;Ljava/lang/Throwable;)V"⟩ : MethodName) (head1 (Jvm.Cond.code (⟨"com/example/yusenkabu/yusenkabu/cli/InputException", "<init>", "(Ljava/lang/String;Ljava/lang/Throwable;)V"⟩ : MethodName) prog_38_method_1_code 3 none :: ws) roomien) (fun aa_ U_ => aa_ = #[(.ref a1), (.ref x1), .null] ∧ Z.Warmed39 U_.vm ∧ U_.heap = h0 ∧ CHv Z EL U_.vm h0) (fun _ _ bl s _ => s.vm.MethodsKnown ∧ s.vm.FramesKnown bl) (fun _ U_ o_ W_ => ∃ v_ L_, o_ = .returned v_ ∧ (Qien Z a1 x1 h0 n0) v_ W_.heap L_ ∧ CHr Z EL U_.vm U_.heap W_.vm W_.heap ∧ ReturnedEndW U_ o_ W_ L_ roomien.cells roomien.slots) := by
  refine own_metHK (Q := (Qien Z a1 x1 h0 n0)) (L0 := #[.val (.ref a1), .val (.ref x1), .val .null]) (plainFor_of_name pn_9) (fun m => by first | (simp [entryFrame, mkF, argsToLocals, Value.category]; done) | rfl) ?_
  intro p e s m below meth c T0 X0 hx hby hml hown hnm hret hlk hZ e0 hs0 CR hS hk hTK hBelow
  have N0 := Fr.nil n0
  have K0 := Keep.refl h0 [a1]
  refine GoH.st (T' := T0) (pc' := 1) (L' := #[.val (.ref a1), .val (.ref x1), .val .null]) (S' := [(.ref a1)]) (fun t_ k_ => XS.aloadN X0.here hx rfl (hb hby d27_0) rfl rfl  k_) ?_
  refine GoH.st (T' := T0) (pc' := 2) (L' := #[.val (.ref a1), .val (.ref x1), .val .null]) (S' := [(.ref x1), (.ref a1)]) (fun t_ k_ => XS.aloadN X0.here hx rfl (hb hby d27_1) rfl rfl  k_) ?_
  refine GoH.st (T' := T0) (pc' := 3) (L' := #[.val (.ref a1), .val (.ref x1), .val .null]) (S' := [.null, (.ref x1), (.ref a1)]) (fun t_ k_ => XS.aloadN X0.here hx rfl (hb hby d27_2) rfl rfl  k_) ?_
  obtain ⟨_, _, ⟨T1, L1, k1, n1⟩, -, X1, hS1, hg1, ⟨Lc1, hQ1, l1, y1, z1, CR1⟩, st1⟩ := X0.specialBackS hx (y := (⟨"java/lang/Exception", "<init>", "(Ljava/lang/String;Ljava/lang/Throwable;)V"⟩ : MethodName)) rfl hown (mvT hZ (hw _ (List.mem_of_getElem? (i := 148) rfl))) (mvT hZ (hw _ (List.mem_of_getElem? (i := 149) rfl))) (mvT hZ (hw _ (List.mem_of_getElem? (i := 152) rfl))) (by decide) (own_backSHK (W := 0) (rmexn l Z a0 hw [] a1 x1 vU vS h0 n0 Z0 O0 hvU hvS SU SS hl E_a1 g_a1 Un F_detailMessage F_cause F_backtrace F_stackTrace F_suppressedExceptions) hZ (hw _ (List.mem_of_getElem? (i := 152) rfl)) (hw _ (List.mem_of_getElem? (i := 151) rfl)) (by decide) (by decide) (own_EW hw) CR.1 (Vm.MethodsKnown.alikeC hS.1.alike hTK) (Vm.FramesKnown.alikeC hS.1.alike hBelow)) (g := (mkF m 3 #[.val (.ref a1), .val (.ref x1), .val .null] [.null, (.ref x1), (.ref a1)])) rfl (by rw [hml]; rfl) (Steps.refl _) (a := a1) (argsL := [(.ref x1), .null]) (rest := []) (lenOf pd_18 rfl) rfl (by show 2 * 0 + _ ≤ _; exact Nat.le_of_eq rfl) (hb hby d27_3) (fun _ _ => ⟨rfl, e0, (by decide : 0 + 1 ≤ _), (by decide : 0 + 2752 ≤ _)⟩)
  dsimp only [Pt.U, Pt.locs, Pt.cells, Pt.slots] at X1 l1 y1 z1 st1 hQ1 hS1 hg1 CR1
  subst l1 y1 z1
  replace X1 : Stand p l e _ (s.setVm T1.vm) m _ below meth c T1 _ _ _ := X1
  replace hS := foldS hS (T := T0) (Nat.le_trans hk (Nat.le_of_eq (congrArg Array.size e0.symm))) hS1 hg1
  replace hk := Nat.le_refl T1.heap.size
  replace hZ : Z.Warmed39 (s.setVm T1.vm).vm := State.Warmed39.trans (t := s.setVm s.vm) hZ hS1.1
  replace hown : (s.setVm T1.vm).vm.findClass "com/example/yusenkabu/yusenkabu/cli/InputException" = some m.cls := by rw [show (s.setVm T1.vm).vm = T1.vm from rfl, hS1.1.alike.findClass]; exact hown
  obtain ⟨rfl, N1q, K1, U1, M1, C1⟩ := hQ1
  have N1 := Fr.app N0 N1q
  obtain ⟨h1, e1⟩ : ∃ z, T1.heap = z := ⟨_, rfl⟩
  rw [e1] at K1 U1 M1 C1 CR1
  replace CR := CR.trans CR1
  replace Z0 := Nat.le_trans Z0 K1.1
  replace K0 := K0.trans K1 (allS (Or.inl (List.mem_of_getElem? (i := 0) rfl)) all0)
  replace O0 := O0.keep K1 (allS g_a1 all0)
  replace E_a1 := E_a1.keep K1
  replace hk : T1.heap.size ≤ h1.size := Nat.le_of_eq (congrArg Array.size e1)
  refine GoH.tr (T' := T1) (pc' := 6) (L' := #[.val (.ref a1), .val (.ref x1), .val .null]) (S' := []) st1 ?_
  exact GoH.retV X1 hx hlk hret (hb hby d27_6) (by decide) (by decide) hS hk e1 hs0 hZ (own_EW hw) CR (by rw [e1]; exact ⟨rfl, N1, K0, U1, M1, C1⟩)
theorem d5_0 : decode prog_38_method_6_code 0 = .ok (.new 26, 3) := by decide +kernel
theorem d5_3 : decode prog_38_method_6_code 3 = .ok (.dup, 1) := by decide +kernel
theorem d5_4 : decode prog_38_method_6_code 4 = .ok (.new 7, 3) := by decide +kernel
theorem d5_7 : decode prog_38_method_6_code 7 = .ok (.dup, 1) := by decide +kernel
theorem d5_8 : decode prog_38_method_6_code 8 = .ok (.invokespecial 9, 3) := by decide +kernel
theorem d5_11 : decode prog_38_method_6_code 11 = .ok (.ldc 39, 2) := by decide +kernel
theorem d5_13 : decode prog_38_method_6_code 13 = .ok (.invokevirtual 18, 3) := by decide +kernel
theorem d5_16 : decode prog_38_method_6_code 16 = .ok (.aload_n 0, 1) := by decide +kernel
theorem d5_17 : decode prog_38_method_6_code 17 = .ok (.invokevirtual 18, 3) := by decide +kernel
theorem d5_20 : decode prog_38_method_6_code 20 = .ok (.ldc 16, 2) := by decide +kernel
theorem d5_22 : decode prog_38_method_6_code 22 = .ok (.invokevirtual 18, 3) := by decide +kernel
theorem d5_25 : decode prog_38_method_6_code 25 = .ok (.aload_n 1, 1) := by decide +kernel
theorem d5_26 : decode prog_38_method_6_code 26 = .ok (.invokevirtual 18, 3) := by decide +kernel
theorem d5_29 : decode prog_38_method_6_code 29 = .ok (.invokevirtual 21, 3) := by decide +kernel
theorem d5_32 : decode prog_38_method_6_code 32 = .ok (.aconst_null, 1) := by decide +kernel
theorem d5_33 : decode prog_38_method_6_code 33 = .ok (.invokespecial 25, 3) := by decide +kernel
theorem d5_36 : decode prog_38_method_6_code 36 = .ok (.areturn, 1) := by decide +kernel
theorem pd_19 : parseMethodDescriptor "()V" = some ⟨[], none⟩ := by decide +kernel
theorem pd_20 : parseMethodDescriptor "(Ljava/lang/String;)Ljava/lang/StringBuilder;" = some ⟨[(.object "java/lang/String")], some (.object "java/lang/StringBuilder")⟩ := by decide +kernel
theorem pd_21 : parseMethodDescriptor "()Ljava/lang/String;" = some ⟨[], some (.object "java/lang/String")⟩ := by decide +kernel
def Qopt (Z : State) (La : List Int32) (na : Nat) (Lb : List Int32) (nb : Nat) (h0 : Heap) (n0 : Nat) (v : Option Value) (h : Heap) (L : List Loc) : Prop := ∃ (a r t : Addr) (kt : ClassId), v = some (.ref a) ∧ Fr n0 L ∧ Keep h0 h [] ∧ n0 ≤ a ∧ Exa Z h a "com/example/yusenkabu/yusenkabu/cli/InputException" ∧ Unt h a ∧ Fld Z h a "java/lang/Throwable" "cause" "Ljava/lang/Throwable;" .null ∧ Fld Z h a "java/lang/Throwable" "detailMessage" "Ljava/lang/String;" (.ref r) ∧ Exa Z h r "java/lang/String" ∧ Fld Z h r "java/lang/String" "coder" "B" (.int (0 : Int32)) ∧ Fld Z h r "java/lang/String" "value" "[B" (.ref t) ∧ Arv Z h t kt .byte ((0 + 2 + na + 2 + nb : Nat).toInt32) ((((([] ++ ([45, 45] : List Int32)) ++ La) ++ ([58, 32] : List Int32)) ++ Lb).map Value.int) (.int (0 : Int32))
def roomopt : Room := { frames := 6, cells := 10, slots := 2822, locals := 115 }
set_option maxRecDepth 65536 in
set_option maxHeartbeats 40000000 in
theorem rmopt (l : Launch) (Z : State) (a0 : Array Value) (hw : ∀ d ∈ tables_1, d.before a0 Z = true) (ws : List Jvm.Cond) (xa : Addr) (ua : Addr) (qa : ClassId) (La : List Int32) (na : Nat) (xb : Addr) (ub : Addr) (qb : ClassId) (Lb : List Int32) (nb : Nat) (vU vS : Value) (gC : Int32) (h0 : Heap) (n0 : Nat) (Z0 : n0 ≤ h0.size) (SC : Sta Z Z.heap "java/lang/String" "COMPACT_STRINGS" "Z" (.int gC)) (PC : ¬ (gC = (0 : Int32))) (O0 : Old Z n0 h0) (hvU : vU.isRef = true) (hvS : vS.isRef = true) (SU : Sta Z Z.heap "java/lang/Throwable" "UNASSIGNED_STACK" "[Ljava/lang/StackTraceElement;" vU) (SS : Sta Z Z.heap "java/lang/Throwable" "SUPPRESSED_SENTINEL" "Ljava/util/List;" vS) (hl : l.stackTraces = true) (E_xa : Exa Z h0 xa "java/lang/String") (Fc_xa : Fld Z h0 xa "java/lang/String" "coder" "B" (.int (0 : Int32))) (Fv_xa : Fld Z h0 xa "java/lang/String" "value" "[B" (.ref ua)) (V_ua : Arv Z h0 ua qa .byte (na.toInt32) (La.map Value.int) (.int (0 : Int32))) (la : La.length = na) (ra : na ≤ 2) (E_xb : Exa Z h0 xb "java/lang/String") (Fc_xb : Fld Z h0 xb "java/lang/String" "coder" "B" (.int (0 : Int32))) (Fv_xb : Fld Z h0 xb "java/lang/String" "value" "[B" (.ref ub)) (V_ub : Arv Z h0 ub qb .byte (nb.toInt32) (Lb.map Value.int) (.int (0 : Int32))) (lb : Lb.length = nb) (rb : nb ≤ 2) :
    MetFree l (⟨"com/example/yusenkabu/yusenkabu/cli/InputException", "option", "(Ljava/lang/String;Ljava/lang/String;)Lcom/example/yusenkabu/yusenkabu/cli/InputException;"⟩ : MethodName) (head1 (Jvm.Cond.code (⟨"com/example/yusenkabu/yusenkabu/cli/InputException", "option", "(Ljava/lang/String;Ljava/lang/String;)Lcom/example/yusenkabu/yusenkabu/cli/InputException;"⟩ : MethodName) prog_38_method_6_code 2 (some (.object "com/example/yusenkabu/yusenkabu/cli/InputException")) :: ws) roomopt) (fun aa_ U_ => aa_ = #[(.ref xa), (.ref xb)] ∧ Z.Warmed39 U_.vm ∧ U_.heap = h0 ∧ CHv Z EL U_.vm h0) (fun _ _ bl s _ => s.vm.MethodsKnown ∧ s.vm.FramesKnown bl) (fun _ U_ o_ W_ => ∃ v_ L_, o_ = .returned v_ ∧ (Qopt Z La na Lb nb h0 n0) v_ W_.heap L_ ∧ CHr Z EL U_.vm U_.heap W_.vm W_.heap ∧ ReturnedEndW U_ o_ W_ L_ roomopt.cells roomopt.slots) := by
  refine own_metHK (Q := (Qopt Z La na Lb nb h0 n0)) (L0 := #[.val (.ref xa), .val (.ref xb)]) (plainFor_of_name pn_9) (fun m => by first | (simp [entryFrame, mkF, argsToLocals, Value.category]; done) | rfl) ?_
  intro p e s m below meth c T0 X0 hx hby hml hown hnm hret hlk hZ e0 hs0 CR hS hk hTK hBelow
  have N0 := Fr.nil n0
  have K0 := Keep.refl h0 []
  obtain ⟨T1, h1, X1, e1, E1, A1, D1, U1, st1⟩ := newO X0 hx hZ hown (hw _ (List.mem_of_getElem? (i := 30) rfl)) (hw _ (List.mem_of_getElem? (i := 31) rfl)) (hw _ (List.mem_of_getElem? (i := 28) rfl)) e0 (g := (mkF m 0 #[.val (.ref xa), .val (.ref xb)] [])) rfl (hb hby d5_0) (by decide) (by decide)
  obtain ⟨b1, g1⟩ : ∃ z, z = h0.size := ⟨_, rfl⟩
  rw [← g1] at A1 D1 U1 st1
  have ne_xa_b1 : xa ≠ b1 := Nat.ne_of_lt (Nat.lt_of_lt_of_le E_xa.lt (Nat.le_of_eq g1.symm))
  have ne_ua_b1 : ua ≠ b1 := Nat.ne_of_lt (Nat.lt_of_lt_of_le V_ua.lt (Nat.le_of_eq g1.symm))
  have ne_xb_b1 : xb ≠ b1 := Nat.ne_of_lt (Nat.lt_of_lt_of_le E_xb.lt (Nat.le_of_eq g1.symm))
  have ne_ub_b1 : ub ≠ b1 := Nat.ne_of_lt (Nat.lt_of_lt_of_le V_ub.lt (Nat.le_of_eq g1.symm))
  have g_b1 : n0 ≤ b1 := Nat.le_trans Z0 (Nat.le_of_eq g1.symm)
  have sz_b1 : h0.size ≤ b1 := Nat.le_trans K0.1 (Nat.le_of_eq g1.symm)
  replace CR := CR.trans (CHr.ext E1 CR.1)
  replace hk := Nat.le_trans hk E1.1
  replace Z0 := Nat.le_trans Z0 E1.1
  replace K0 := K0.ext E1
  replace O0 := O0.ext E1
  replace E_xa := E_xa.ext E1
  replace Fc_xa := Fc_xa.ext E1
  replace Fv_xa := Fv_xa.ext E1
  replace V_ua := V_ua.ext E1
  replace E_xb := E_xb.ext E1
  replace Fc_xb := Fc_xb.ext E1
  replace Fv_xb := Fv_xb.ext E1
  replace V_ub := V_ub.ext E1
  have Un_b1 : Unt h1 b1 := U1
  have E_b1 := A1
  have F_b1_cause : Fld Z h1 b1 "java/lang/Throwable" "cause" "Ljava/lang/Throwable;" .null := D1 (Or.inl (hw _ (List.mem_of_getElem? (i := 161) rfl))) (ty := (.object "java/lang/Throwable")) (by decide)
  have F_b1_stackTrace : Fld Z h1 b1 "java/lang/Throwable" "stackTrace" "[Ljava/lang/StackTraceElement;" .null := D1 (Or.inl (hw _ (List.mem_of_getElem? (i := 164) rfl))) (ty := (.array (.object "java/lang/StackTraceElement"))) (by decide)
  have F_b1_suppressedExceptions : Fld Z h1 b1 "java/lang/Throwable" "suppressedExceptions" "Ljava/util/List;" .null := D1 (Or.inl (hw _ (List.mem_of_getElem? (i := 167) rfl))) (ty := (.object "java/util/List")) (by decide)
  have F_b1_detailMessage : Fld Z h1 b1 "java/lang/Throwable" "detailMessage" "Ljava/lang/String;" .null := D1 (Or.inl (hw _ (List.mem_of_getElem? (i := 191) rfl))) (ty := (.object "java/lang/String")) (by decide)
  have F_b1_backtrace : Fld Z h1 b1 "java/lang/Throwable" "backtrace" "Ljava/lang/Object;" .null := D1 (Or.inl (hw _ (List.mem_of_getElem? (i := 192) rfl))) (ty := (.object "java/lang/Object")) (by decide)
  have F_b1_depth : Fld Z h1 b1 "java/lang/Throwable" "depth" "I" (.int (0 : Int32)) := D1 (Or.inl (hw _ (List.mem_of_getElem? (i := 193) rfl))) (ty := .int) (by decide)
  refine GoH.st (T' := T1) (pc' := 3) (L' := #[.val (.ref xa), .val (.ref xb)]) (S' := [(.ref b1)]) st1 ?_
  have S_b1 : Safe Z EL s.vm h1 b1 := Safe.exa hZ.alike E_b1 (by decide) (by decide)
  refine GoH.st (T' := T1) (pc' := 4) (L' := #[.val (.ref xa), .val (.ref xb)]) (S' := [(.ref b1), (.ref b1)]) (fun t_ k_ => XS.dup X1.here hx rfl (hb hby d5_3) rfl rfl k_) ?_
  obtain ⟨T2, h2, X2, e2, E2, A2, D2, U2, st2⟩ := newO X1 hx hZ hown (hw _ (List.mem_of_getElem? (i := 32) rfl)) (hw _ (List.mem_of_getElem? (i := 33) rfl)) (hw _ (List.mem_of_getElem? (i := 34) rfl)) e1 (g := (mkF m 4 #[.val (.ref xa), .val (.ref xb)] [(.ref b1), (.ref b1)])) rfl (hb hby d5_4) (by decide) (by decide)
  obtain ⟨b2, g2⟩ : ∃ z, z = h1.size := ⟨_, rfl⟩
  rw [← g2] at A2 D2 U2 st2
  have ne_xa_b2 : xa ≠ b2 := Nat.ne_of_lt (Nat.lt_of_lt_of_le E_xa.lt (Nat.le_of_eq g2.symm))
  have ne_ua_b2 : ua ≠ b2 := Nat.ne_of_lt (Nat.lt_of_lt_of_le V_ua.lt (Nat.le_of_eq g2.symm))
  have ne_xb_b2 : xb ≠ b2 := Nat.ne_of_lt (Nat.lt_of_lt_of_le E_xb.lt (Nat.le_of_eq g2.symm))
  have ne_ub_b2 : ub ≠ b2 := Nat.ne_of_lt (Nat.lt_of_lt_of_le V_ub.lt (Nat.le_of_eq g2.symm))
  have ne_b1_b2 : b1 ≠ b2 := Nat.ne_of_lt (Nat.lt_of_lt_of_le E_b1.lt (Nat.le_of_eq g2.symm))
  have g_b2 : n0 ≤ b2 := Nat.le_trans Z0 (Nat.le_of_eq g2.symm)
  have sz_b2 : h0.size ≤ b2 := Nat.le_trans K0.1 (Nat.le_of_eq g2.symm)
  replace S_b1 := Safe.ext E2 CR.1 S_b1
  replace CR := CR.trans (CHr.ext E2 CR.1)
  replace hk := Nat.le_trans hk E2.1
  replace Z0 := Nat.le_trans Z0 E2.1
  replace K0 := K0.ext E2
  replace O0 := O0.ext E2
  replace E_xa := E_xa.ext E2
  replace Fc_xa := Fc_xa.ext E2
  replace Fv_xa := Fv_xa.ext E2
  replace V_ua := V_ua.ext E2
  replace E_xb := E_xb.ext E2
  replace Fc_xb := Fc_xb.ext E2
  replace Fv_xb := Fv_xb.ext E2
  replace V_ub := V_ub.ext E2
  replace Un_b1 := Un_b1.ext E2
  replace E_b1 := E_b1.ext E2
  replace F_b1_cause := F_b1_cause.ext E2
  replace F_b1_stackTrace := F_b1_stackTrace.ext E2
  replace F_b1_suppressedExceptions := F_b1_suppressedExceptions.ext E2
  replace F_b1_detailMessage := F_b1_detailMessage.ext E2
  replace F_b1_backtrace := F_b1_backtrace.ext E2
  replace F_b1_depth := F_b1_depth.ext E2
  have E_b2 := A2
  have F_b2_value : Fld Z h2 b2 "java/lang/AbstractStringBuilder" "value" "[B" .null := D2 (Or.inl (hw _ (List.mem_of_getElem? (i := 47) rfl))) (ty := (.array .byte)) (by decide)
  have F_b2_coder : Fld Z h2 b2 "java/lang/AbstractStringBuilder" "coder" "B" (.int (0 : Int32)) := D2 (Or.inl (hw _ (List.mem_of_getElem? (i := 49) rfl))) (ty := .byte) (by decide)
  have F_b2_count : Fld Z h2 b2 "java/lang/AbstractStringBuilder" "count" "I" (.int (0 : Int32)) := D2 (Or.inl (hw _ (List.mem_of_getElem? (i := 73) rfl))) (ty := .int) (by decide)
  refine GoH.st (T' := T2) (pc' := 7) (L' := #[.val (.ref xa), .val (.ref xb)]) (S' := [(.ref b2), (.ref b1), (.ref b1)]) st2 ?_
  have S_b2 : Safe Z EL s.vm h2 b2 := Safe.exa hZ.alike E_b2 (by decide) (by decide)
  refine GoH.st (T' := T2) (pc' := 8) (L' := #[.val (.ref xa), .val (.ref xb)]) (S' := [(.ref b2), (.ref b2), (.ref b1), (.ref b1)]) (fun t_ k_ => XS.dup X2.here hx rfl (hb hby d5_7) rfl rfl k_) ?_
  obtain ⟨_, _, ⟨T3, L3, k3, n3⟩, -, X3, ⟨Lc3, hQ3, l3, y3, z3⟩, st3⟩ := X2.specialBack hx (y := (⟨"java/lang/StringBuilder", "<init>", "()V"⟩ : MethodName)) rfl hown (mvT hZ (hw _ (List.mem_of_getElem? (i := 35) rfl))) (mvT hZ (hw _ (List.mem_of_getElem? (i := 36) rfl))) (mvT hZ (hw _ (List.mem_of_getElem? (i := 37) rfl))) (by decide) (backOf (W := 3) (rm6 l Z a0 hw [] b2 gC h2 n0 Z0 E_b2 g_b2 SC PC O0 F_b2_value F_b2_coder F_b2_count) hZ (hw _ (List.mem_of_getElem? (i := 37) rfl)) (hw _ (List.mem_of_getElem? (i := 34) rfl)) (by decide) (by decide)) (g := (mkF m 8 #[.val (.ref xa), .val (.ref xb)] [(.ref b2), (.ref b2), (.ref b1), (.ref b1)])) rfl (by rw [hml]; rfl) (Steps.refl _) (a := b2) (argsL := []) (rest := [(.ref b2), (.ref b1), (.ref b1)]) (lenOf pd_19 rfl) rfl (by show 2 * 0 + _ ≤ _; exact Nat.le_of_eq rfl) (hb hby d5_8) (fun _ _ => ⟨rfl, e2, (by decide : 2 + 1 ≤ _), (by decide : 10 + 16 ≤ _)⟩)
  dsimp only [Pt.U, Pt.locs, Pt.cells, Pt.slots] at X3 l3 y3 z3 st3 hQ3
  subst l3 y3 z3
  obtain ⟨bb3, kb3, rfl, N3q, K3, g_bb3, lt3, Fv3, Fd3, Fn3, Vb3⟩ := hQ3
  have N3 := Fr.app N0 N3q
  have ne_xa_bb3 : xa ≠ bb3 := Nat.ne_of_lt (Nat.lt_of_lt_of_le E_xa.lt lt3)
  have ne_ua_bb3 : ua ≠ bb3 := Nat.ne_of_lt (Nat.lt_of_lt_of_le V_ua.lt lt3)
  have ne_xb_bb3 : xb ≠ bb3 := Nat.ne_of_lt (Nat.lt_of_lt_of_le E_xb.lt lt3)
  have ne_ub_bb3 : ub ≠ bb3 := Nat.ne_of_lt (Nat.lt_of_lt_of_le V_ub.lt lt3)
  have ne_b1_bb3 : b1 ≠ bb3 := Nat.ne_of_lt (Nat.lt_of_lt_of_le E_b1.lt lt3)
  have ne_b2_bb3 : b2 ≠ bb3 := Nat.ne_of_lt (Nat.lt_of_lt_of_le E_b2.lt lt3)
  have sz_bb3 : h0.size ≤ bb3 := Nat.le_trans K0.1 lt3
  have S_bb3 : Safe Z EL s.vm h2 bb3 := Safe.new lt3
  obtain ⟨h3, e3⟩ : ∃ z, T3.heap = z := ⟨_, rfl⟩
  rw [e3] at K3 Fv3 Fd3 Fn3 Vb3
  have Sk4 : ∀ x ∈ [b2], Safe Z EL s.vm h2 x := (allS S_b2 all0)
  replace S_b1 := Safe.keep K3 Sk4 CR.1 S_b1
  replace S_b2 := Safe.keep K3 Sk4 CR.1 S_b2
  replace S_bb3 := Safe.keep K3 Sk4 CR.1 S_bb3
  replace CR := CR.trans (CHr.keep K3 Sk4 CR.1)
  replace hk := Nat.le_trans hk K3.1
  replace Z0 := Nat.le_trans Z0 K3.1
  replace K0 := K0.trans K3 (allS (Or.inr sz_b2) all0)
  replace O0 := O0.keep K3 (allS g_b2 all0)
  replace E_xa := E_xa.keep K3
  replace Fc_xa := Fc_xa.keep K3 (ninS ne_xa_b2 nin0)
  replace Fv_xa := Fv_xa.keep K3 (ninS ne_xa_b2 nin0)
  replace V_ua := V_ua.keep K3 (ninS ne_ua_b2 nin0)
  replace E_xb := E_xb.keep K3
  replace Fc_xb := Fc_xb.keep K3 (ninS ne_xb_b2 nin0)
  replace Fv_xb := Fv_xb.keep K3 (ninS ne_xb_b2 nin0)
  replace V_ub := V_ub.keep K3 (ninS ne_ub_b2 nin0)
  replace Un_b1 := Un_b1.keep K3 (ninS ne_b1_b2 nin0)
  replace E_b1 := E_b1.keep K3
  replace F_b1_cause := F_b1_cause.keep K3 (ninS ne_b1_b2 nin0)
  replace F_b1_stackTrace := F_b1_stackTrace.keep K3 (ninS ne_b1_b2 nin0)
  replace F_b1_suppressedExceptions := F_b1_suppressedExceptions.keep K3 (ninS ne_b1_b2 nin0)
  replace F_b1_detailMessage := F_b1_detailMessage.keep K3 (ninS ne_b1_b2 nin0)
  replace F_b1_backtrace := F_b1_backtrace.keep K3 (ninS ne_b1_b2 nin0)
  replace F_b1_depth := F_b1_depth.keep K3 (ninS ne_b1_b2 nin0)
  replace E_b2 := E_b2.keep K3
  refine GoH.tr (T' := T3) (pc' := 11) (L' := #[.val (.ref xa), .val (.ref xb)]) (S' := [(.ref b2), (.ref b1), (.ref b1)]) st3 ?_
  obtain ⟨a5_, T5, h5, k5, b5_, c5, X5, e5, E5, hS5, hk5, hZ5, ho5, E_a5_, Fc_a5_, Fv_a5_, V_b5_, lta5, ltb5, CR5, -, Sf5, st5⟩ := ldcCH X3 hx hZ hown (hw _ (List.mem_of_getElem? (i := 50) rfl)) (own_wS hw) e3 hS hk (own_EW hw) (by decide : ("com/example/yusenkabu/yusenkabu/cli/InputException", 39) ∈ EL) CR.1 (vs := [(.int (45 : Int32)), (.int (45 : Int32))]) (z := (2 : Int32)) ⟨by decide, by decide⟩ (by decide) rfl (g := (mkF m 11 #[.val (.ref xa), .val (.ref xb)] [(.ref b2), (.ref b1), (.ref b1)])) rfl (hb hby d5_11) (n := 8) (by decide) (by decide) (by decide) (by decide)
  replace S_b1 := CR5.safe E_b1.lt S_b1
  replace S_b2 := CR5.safe E_b2.lt S_b2
  replace S_bb3 := CR5.safe Vb3.lt S_bb3
  replace CR := CR.trans CR5
  replace Z0 := Nat.le_trans Z0 E5.1
  replace K0 := K0.ext E5
  replace O0 := O0.ext E5
  replace E_xa := E_xa.ext E5
  replace Fc_xa := Fc_xa.ext E5
  replace Fv_xa := Fv_xa.ext E5
  replace V_ua := V_ua.ext E5
  replace E_xb := E_xb.ext E5
  replace Fc_xb := Fc_xb.ext E5
  replace Fv_xb := Fv_xb.ext E5
  replace V_ub := V_ub.ext E5
  replace Un_b1 := Un_b1.ext E5
  replace E_b1 := E_b1.ext E5
  replace F_b1_cause := F_b1_cause.ext E5
  replace F_b1_stackTrace := F_b1_stackTrace.ext E5
  replace F_b1_suppressedExceptions := F_b1_suppressedExceptions.ext E5
  replace F_b1_detailMessage := F_b1_detailMessage.ext E5
  replace F_b1_backtrace := F_b1_backtrace.ext E5
  replace F_b1_depth := F_b1_depth.ext E5
  replace E_b2 := E_b2.ext E5
  replace Fv3 := Fv3.ext E5
  replace Fd3 := Fd3.ext E5
  replace Fn3 := Fn3.ext E5
  replace Vb3 := Vb3.ext E5
  replace hZ := hZ5
  replace hown := ho5
  replace hS := hS5
  replace hk := hk5
  have ne_b1_a5_ := (Sf5 _ S_b1).1
  have ne_b1_b5_ := (Sf5 _ S_b1).2
  have ne_b2_a5_ := (Sf5 _ S_b2).1
  have ne_b2_b5_ := (Sf5 _ S_b2).2
  have ne_bb3_a5_ := (Sf5 _ S_bb3).1
  have ne_bb3_b5_ := (Sf5 _ S_bb3).2
  refine GoH.st (T' := T5) (pc' := 13) (L' := #[.val (.ref xa), .val (.ref xb)]) (S' := [(.ref a5_), (.ref b2), (.ref b1), (.ref b1)]) st5 ?_
  obtain ⟨cq6, kq6, q6a, q6b, q6c⟩ := isOf hZ e5 E_b2
  obtain ⟨_, _, ⟨T6, L6, k6, n6⟩, -, X6, ⟨Lc6, hQ6, l6, y6, z6⟩, st6⟩ := X5.virtualBack hx (y := (⟨"java/lang/StringBuilder", "append", "(Ljava/lang/String;)Ljava/lang/StringBuilder;"⟩ : MethodName)) (z := (⟨"java/lang/StringBuilder", "append", "(Ljava/lang/String;)Ljava/lang/StringBuilder;"⟩ : MethodName)) hown (mvT hZ (hw _ (List.mem_of_getElem? (i := 51) rfl))) (mvT hZ (hw _ (List.mem_of_getElem? (i := 52) rfl))) (notFace_of_selects (args := #[]) (mvT hZ (hw _ (List.mem_of_getElem? (i := 54) rfl)))) (mvT hZ (hw _ (List.mem_of_getElem? (i := 54) rfl))) (mvT hZ (hw _ (List.mem_of_getElem? (i := 53) rfl))) (by decide) (backOf (W := 2) (rm8 l Z a0 hw [] b2 a5_ b5_ _ bb3 _ _ (([(45 : Int32), (45 : Int32)] : List Int32)) (0) (2) gC h5 n0 Z0 SC PC O0 E_b2 g_b2 ne_b2_bb3 Fv3 Fd3 Vb3 Fn3 E_a5_ Fc_a5_ Fv_a5_ V_b5_ g_bb3 (Ne.symm ne_bb3_a5_) (Ne.symm ne_bb3_b5_) rfl rfl (by omega) (Ne.symm ne_b2_a5_) (Ne.symm ne_b2_b5_)) hZ (hw _ (List.mem_of_getElem? (i := 55) rfl)) (hw _ (List.mem_of_getElem? (i := 34) rfl)) (by decide) (by decide)) q6a q6c (g := (mkF m 13 #[.val (.ref xa), .val (.ref xb)] [(.ref a5_), (.ref b2), (.ref b1), (.ref b1)])) rfl (by rw [hml]; rfl) (Steps.refl _) (argsL := [(.ref a5_)]) (rest := [(.ref b1), (.ref b1)]) (lenOf pd_20 rfl) rfl (by show 2 * 0 + _ ≤ _; exact Nat.le_of_eq rfl) (hb hby d5_13) (fun _ _ => ⟨rfl, e5, (by decide : 5 + 0 ≤ _), (by decide : 38 + 0 ≤ _)⟩)
  dsimp only [Pt.U, Pt.locs, Pt.cells, Pt.slots] at X6 l6 y6 z6 st6 hQ6
  subst l6 y6 z6
  obtain ⟨rfl, N6q, K6, Fv6, Fd6, Fn6, Vb6⟩ := hQ6
  have N6 := Fr.app N3 N6q
  obtain ⟨h6, e6⟩ : ∃ z, T6.heap = z := ⟨_, rfl⟩
  rw [e6] at K6 Fv6 Fd6 Fn6 Vb6
  have Sk7 : ∀ x ∈ [b2, bb3], Safe Z EL T5.vm h5 x := (allS S_b2 (allS S_bb3 all0))
  replace S_b1 := Safe.keep K6 Sk7 CR.1 S_b1
  replace S_b2 := Safe.keep K6 Sk7 CR.1 S_b2
  replace S_bb3 := Safe.keep K6 Sk7 CR.1 S_bb3
  replace CR := CR.trans (CHr.keep K6 Sk7 CR.1)
  replace hk := Nat.le_trans hk K6.1
  replace Z0 := Nat.le_trans Z0 K6.1
  replace K0 := K0.trans K6 (allS (Or.inr sz_b2) (allS (Or.inr sz_bb3) all0))
  replace O0 := O0.keep K6 (allS g_b2 (allS g_bb3 all0))
  replace E_xa := E_xa.keep K6
  replace Fc_xa := Fc_xa.keep K6 (ninS ne_xa_b2 (ninS ne_xa_bb3 nin0))
  replace Fv_xa := Fv_xa.keep K6 (ninS ne_xa_b2 (ninS ne_xa_bb3 nin0))
  replace V_ua := V_ua.keep K6 (ninS ne_ua_b2 (ninS ne_ua_bb3 nin0))
  replace E_xb := E_xb.keep K6
  replace Fc_xb := Fc_xb.keep K6 (ninS ne_xb_b2 (ninS ne_xb_bb3 nin0))
  replace Fv_xb := Fv_xb.keep K6 (ninS ne_xb_b2 (ninS ne_xb_bb3 nin0))
  replace V_ub := V_ub.keep K6 (ninS ne_ub_b2 (ninS ne_ub_bb3 nin0))
  replace Un_b1 := Un_b1.keep K6 (ninS ne_b1_b2 (ninS ne_b1_bb3 nin0))
  replace E_b1 := E_b1.keep K6
  replace F_b1_cause := F_b1_cause.keep K6 (ninS ne_b1_b2 (ninS ne_b1_bb3 nin0))
  replace F_b1_stackTrace := F_b1_stackTrace.keep K6 (ninS ne_b1_b2 (ninS ne_b1_bb3 nin0))
  replace F_b1_suppressedExceptions := F_b1_suppressedExceptions.keep K6 (ninS ne_b1_b2 (ninS ne_b1_bb3 nin0))
  replace F_b1_detailMessage := F_b1_detailMessage.keep K6 (ninS ne_b1_b2 (ninS ne_b1_bb3 nin0))
  replace F_b1_backtrace := F_b1_backtrace.keep K6 (ninS ne_b1_b2 (ninS ne_b1_bb3 nin0))
  replace F_b1_depth := F_b1_depth.keep K6 (ninS ne_b1_b2 (ninS ne_b1_bb3 nin0))
  replace E_b2 := E_b2.keep K6
  replace E_a5_ := E_a5_.keep K6
  replace Fc_a5_ := Fc_a5_.keep K6 (ninS (Ne.symm ne_b2_a5_) (ninS (Ne.symm ne_bb3_a5_) nin0))
  replace Fv_a5_ := Fv_a5_.keep K6 (ninS (Ne.symm ne_b2_a5_) (ninS (Ne.symm ne_bb3_a5_) nin0))
  replace V_b5_ := V_b5_.keep K6 (ninS (Ne.symm ne_b2_b5_) (ninS (Ne.symm ne_bb3_b5_) nin0))
  refine GoH.tr (T' := T6) (pc' := 16) (L' := #[.val (.ref xa), .val (.ref xb)]) (S' := [(.ref b2), (.ref b1), (.ref b1)]) st6 ?_
  refine GoH.st (T' := T6) (pc' := 17) (L' := #[.val (.ref xa), .val (.ref xb)]) (S' := [(.ref xa), (.ref b2), (.ref b1), (.ref b1)]) (fun t_ k_ => XS.aloadN X6.here hx rfl (hb hby d5_16) rfl rfl  k_) ?_
  obtain ⟨cq8, kq8, q8a, q8b, q8c⟩ := isOf hZ e6 E_b2
  obtain ⟨_, _, ⟨T8, L8, k8, n8⟩, -, X8, ⟨Lc8, hQ8, l8, y8, z8⟩, st8⟩ := X6.virtualBack hx (y := (⟨"java/lang/StringBuilder", "append", "(Ljava/lang/String;)Ljava/lang/StringBuilder;"⟩ : MethodName)) (z := (⟨"java/lang/StringBuilder", "append", "(Ljava/lang/String;)Ljava/lang/StringBuilder;"⟩ : MethodName)) hown (mvT hZ (hw _ (List.mem_of_getElem? (i := 51) rfl))) (mvT hZ (hw _ (List.mem_of_getElem? (i := 52) rfl))) (notFace_of_selects (args := #[]) (mvT hZ (hw _ (List.mem_of_getElem? (i := 54) rfl)))) (mvT hZ (hw _ (List.mem_of_getElem? (i := 54) rfl))) (mvT hZ (hw _ (List.mem_of_getElem? (i := 53) rfl))) (by decide) (backOf (W := 2) (rm8 l Z a0 hw [] b2 xa ua _ bb3 _ _ (La) ((0 + 2)) (na) gC h6 n0 Z0 SC PC O0 E_b2 g_b2 ne_b2_bb3 Fv6 Fd6 Vb6 Fn6 E_xa Fc_xa Fv_xa V_ua g_bb3 ne_xa_bb3 ne_ua_bb3 (own_la rfl rfl) la (by omega) ne_xa_b2 ne_ua_b2) hZ (hw _ (List.mem_of_getElem? (i := 55) rfl)) (hw _ (List.mem_of_getElem? (i := 34) rfl)) (by decide) (by decide)) q8a q8c (g := (mkF m 17 #[.val (.ref xa), .val (.ref xb)] [(.ref xa), (.ref b2), (.ref b1), (.ref b1)])) rfl (by rw [hml]; rfl) (Steps.refl _) (argsL := [(.ref xa)]) (rest := [(.ref b1), (.ref b1)]) (lenOf pd_20 rfl) rfl (by show 2 * 0 + _ ≤ _; exact Nat.le_of_eq rfl) (hb hby d5_17) (fun _ _ => ⟨rfl, e6, (by decide : 5 + 0 ≤ _), (by decide : 38 + 0 ≤ _)⟩)
  dsimp only [Pt.U, Pt.locs, Pt.cells, Pt.slots] at X8 l8 y8 z8 st8 hQ8
  subst l8 y8 z8
  obtain ⟨rfl, N8q, K8, Fv8, Fd8, Fn8, Vb8⟩ := hQ8
  have N8 := Fr.app N6 N8q
  obtain ⟨h8, e8⟩ : ∃ z, T8.heap = z := ⟨_, rfl⟩
  rw [e8] at K8 Fv8 Fd8 Fn8 Vb8
  have Sk9 : ∀ x ∈ [b2, bb3], Safe Z EL T5.vm h6 x := (allS S_b2 (allS S_bb3 all0))
  replace S_b1 := Safe.keep K8 Sk9 CR.1 S_b1
  replace S_b2 := Safe.keep K8 Sk9 CR.1 S_b2
  replace S_bb3 := Safe.keep K8 Sk9 CR.1 S_bb3
  replace CR := CR.trans (CHr.keep K8 Sk9 CR.1)
  replace hk := Nat.le_trans hk K8.1
  replace Z0 := Nat.le_trans Z0 K8.1
  replace K0 := K0.trans K8 (allS (Or.inr sz_b2) (allS (Or.inr sz_bb3) all0))
  replace O0 := O0.keep K8 (allS g_b2 (allS g_bb3 all0))
  replace E_xa := E_xa.keep K8
  replace Fc_xa := Fc_xa.keep K8 (ninS ne_xa_b2 (ninS ne_xa_bb3 nin0))
  replace Fv_xa := Fv_xa.keep K8 (ninS ne_xa_b2 (ninS ne_xa_bb3 nin0))
  replace V_ua := V_ua.keep K8 (ninS ne_ua_b2 (ninS ne_ua_bb3 nin0))
  replace E_xb := E_xb.keep K8
  replace Fc_xb := Fc_xb.keep K8 (ninS ne_xb_b2 (ninS ne_xb_bb3 nin0))
  replace Fv_xb := Fv_xb.keep K8 (ninS ne_xb_b2 (ninS ne_xb_bb3 nin0))
  replace V_ub := V_ub.keep K8 (ninS ne_ub_b2 (ninS ne_ub_bb3 nin0))
  replace Un_b1 := Un_b1.keep K8 (ninS ne_b1_b2 (ninS ne_b1_bb3 nin0))
  replace E_b1 := E_b1.keep K8
  replace F_b1_cause := F_b1_cause.keep K8 (ninS ne_b1_b2 (ninS ne_b1_bb3 nin0))
  replace F_b1_stackTrace := F_b1_stackTrace.keep K8 (ninS ne_b1_b2 (ninS ne_b1_bb3 nin0))
  replace F_b1_suppressedExceptions := F_b1_suppressedExceptions.keep K8 (ninS ne_b1_b2 (ninS ne_b1_bb3 nin0))
  replace F_b1_detailMessage := F_b1_detailMessage.keep K8 (ninS ne_b1_b2 (ninS ne_b1_bb3 nin0))
  replace F_b1_backtrace := F_b1_backtrace.keep K8 (ninS ne_b1_b2 (ninS ne_b1_bb3 nin0))
  replace F_b1_depth := F_b1_depth.keep K8 (ninS ne_b1_b2 (ninS ne_b1_bb3 nin0))
  replace E_b2 := E_b2.keep K8
  replace E_a5_ := E_a5_.keep K8
  replace Fc_a5_ := Fc_a5_.keep K8 (ninS (Ne.symm ne_b2_a5_) (ninS (Ne.symm ne_bb3_a5_) nin0))
  replace Fv_a5_ := Fv_a5_.keep K8 (ninS (Ne.symm ne_b2_a5_) (ninS (Ne.symm ne_bb3_a5_) nin0))
  replace V_b5_ := V_b5_.keep K8 (ninS (Ne.symm ne_b2_b5_) (ninS (Ne.symm ne_bb3_b5_) nin0))
  refine GoH.tr (T' := T8) (pc' := 20) (L' := #[.val (.ref xa), .val (.ref xb)]) (S' := [(.ref b2), (.ref b1), (.ref b1)]) st8 ?_
  obtain ⟨a10_, T10, h10, k10, b10_, c10, X10, e10, E10, hS10, hk10, hZ10, ho10, E_a10_, Fc_a10_, Fv_a10_, V_b10_, lta10, ltb10, CR10, -, Sf10, st10⟩ := ldcCH X8 hx hZ hown (hw _ (List.mem_of_getElem? (i := 99) rfl)) (own_wS hw) e8 hS hk (own_EW hw) (by decide : ("com/example/yusenkabu/yusenkabu/cli/InputException", 16) ∈ EL) CR.1 (vs := [(.int (58 : Int32)), (.int (32 : Int32))]) (z := (2 : Int32)) ⟨by decide, by decide⟩ (by decide) rfl (g := (mkF m 20 #[.val (.ref xa), .val (.ref xb)] [(.ref b2), (.ref b1), (.ref b1)])) rfl (hb hby d5_20) (n := 8) (by decide) (by decide) (by decide) (by decide)
  replace S_b1 := CR10.safe E_b1.lt S_b1
  replace S_b2 := CR10.safe E_b2.lt S_b2
  replace S_bb3 := CR10.safe Vb8.lt S_bb3
  replace CR := CR.trans CR10
  replace Z0 := Nat.le_trans Z0 E10.1
  replace K0 := K0.ext E10
  replace O0 := O0.ext E10
  replace E_xa := E_xa.ext E10
  replace Fc_xa := Fc_xa.ext E10
  replace Fv_xa := Fv_xa.ext E10
  replace V_ua := V_ua.ext E10
  replace E_xb := E_xb.ext E10
  replace Fc_xb := Fc_xb.ext E10
  replace Fv_xb := Fv_xb.ext E10
  replace V_ub := V_ub.ext E10
  replace Un_b1 := Un_b1.ext E10
  replace E_b1 := E_b1.ext E10
  replace F_b1_cause := F_b1_cause.ext E10
  replace F_b1_stackTrace := F_b1_stackTrace.ext E10
  replace F_b1_suppressedExceptions := F_b1_suppressedExceptions.ext E10
  replace F_b1_detailMessage := F_b1_detailMessage.ext E10
  replace F_b1_backtrace := F_b1_backtrace.ext E10
  replace F_b1_depth := F_b1_depth.ext E10
  replace E_b2 := E_b2.ext E10
  replace E_a5_ := E_a5_.ext E10
  replace Fc_a5_ := Fc_a5_.ext E10
  replace Fv_a5_ := Fv_a5_.ext E10
  replace V_b5_ := V_b5_.ext E10
  replace Fv8 := Fv8.ext E10
  replace Fd8 := Fd8.ext E10
  replace Fn8 := Fn8.ext E10
  replace Vb8 := Vb8.ext E10
  replace hZ := hZ10
  replace hown := ho10
  replace hS := hS10
  replace hk := hk10
  have ne_b1_a10_ := (Sf10 _ S_b1).1
  have ne_b1_b10_ := (Sf10 _ S_b1).2
  have ne_b2_a10_ := (Sf10 _ S_b2).1
  have ne_b2_b10_ := (Sf10 _ S_b2).2
  have ne_bb3_a10_ := (Sf10 _ S_bb3).1
  have ne_bb3_b10_ := (Sf10 _ S_bb3).2
  refine GoH.st (T' := T10) (pc' := 22) (L' := #[.val (.ref xa), .val (.ref xb)]) (S' := [(.ref a10_), (.ref b2), (.ref b1), (.ref b1)]) st10 ?_
  obtain ⟨cq11, kq11, q11a, q11b, q11c⟩ := isOf hZ e10 E_b2
  obtain ⟨_, _, ⟨T11, L11, k11, n11⟩, -, X11, ⟨Lc11, hQ11, l11, y11, z11⟩, st11⟩ := X10.virtualBack hx (y := (⟨"java/lang/StringBuilder", "append", "(Ljava/lang/String;)Ljava/lang/StringBuilder;"⟩ : MethodName)) (z := (⟨"java/lang/StringBuilder", "append", "(Ljava/lang/String;)Ljava/lang/StringBuilder;"⟩ : MethodName)) hown (mvT hZ (hw _ (List.mem_of_getElem? (i := 51) rfl))) (mvT hZ (hw _ (List.mem_of_getElem? (i := 52) rfl))) (notFace_of_selects (args := #[]) (mvT hZ (hw _ (List.mem_of_getElem? (i := 54) rfl)))) (mvT hZ (hw _ (List.mem_of_getElem? (i := 54) rfl))) (mvT hZ (hw _ (List.mem_of_getElem? (i := 53) rfl))) (by decide) (backOf (W := 2) (rm8 l Z a0 hw [] b2 a10_ b10_ _ bb3 _ _ (([(58 : Int32), (32 : Int32)] : List Int32)) (((0 + 2) + na)) (2) gC h10 n0 Z0 SC PC O0 E_b2 g_b2 ne_b2_bb3 Fv8 Fd8 Vb8 Fn8 E_a10_ Fc_a10_ Fv_a10_ V_b10_ g_bb3 (Ne.symm ne_bb3_a10_) (Ne.symm ne_bb3_b10_) (own_la (own_la rfl rfl) la) rfl (by omega) (Ne.symm ne_b2_a10_) (Ne.symm ne_b2_b10_)) hZ (hw _ (List.mem_of_getElem? (i := 55) rfl)) (hw _ (List.mem_of_getElem? (i := 34) rfl)) (by decide) (by decide)) q11a q11c (g := (mkF m 22 #[.val (.ref xa), .val (.ref xb)] [(.ref a10_), (.ref b2), (.ref b1), (.ref b1)])) rfl (by rw [hml]; rfl) (Steps.refl _) (argsL := [(.ref a10_)]) (rest := [(.ref b1), (.ref b1)]) (lenOf pd_20 rfl) rfl (by show 2 * 0 + _ ≤ _; exact Nat.le_of_eq rfl) (hb hby d5_22) (fun _ _ => ⟨rfl, e10, (by decide : 7 + 0 ≤ _), (by decide : 50 + 0 ≤ _)⟩)
  dsimp only [Pt.U, Pt.locs, Pt.cells, Pt.slots] at X11 l11 y11 z11 st11 hQ11
  subst l11 y11 z11
  obtain ⟨rfl, N11q, K11, Fv11, Fd11, Fn11, Vb11⟩ := hQ11
  have N11 := Fr.app N8 N11q
  obtain ⟨h11, e11⟩ : ∃ z, T11.heap = z := ⟨_, rfl⟩
  rw [e11] at K11 Fv11 Fd11 Fn11 Vb11
  have Sk12 : ∀ x ∈ [b2, bb3], Safe Z EL T10.vm h10 x := (allS S_b2 (allS S_bb3 all0))
  replace S_b1 := Safe.keep K11 Sk12 CR.1 S_b1
  replace S_b2 := Safe.keep K11 Sk12 CR.1 S_b2
  replace S_bb3 := Safe.keep K11 Sk12 CR.1 S_bb3
  replace CR := CR.trans (CHr.keep K11 Sk12 CR.1)
  replace hk := Nat.le_trans hk K11.1
  replace Z0 := Nat.le_trans Z0 K11.1
  replace K0 := K0.trans K11 (allS (Or.inr sz_b2) (allS (Or.inr sz_bb3) all0))
  replace O0 := O0.keep K11 (allS g_b2 (allS g_bb3 all0))
  replace E_xa := E_xa.keep K11
  replace Fc_xa := Fc_xa.keep K11 (ninS ne_xa_b2 (ninS ne_xa_bb3 nin0))
  replace Fv_xa := Fv_xa.keep K11 (ninS ne_xa_b2 (ninS ne_xa_bb3 nin0))
  replace V_ua := V_ua.keep K11 (ninS ne_ua_b2 (ninS ne_ua_bb3 nin0))
  replace E_xb := E_xb.keep K11
  replace Fc_xb := Fc_xb.keep K11 (ninS ne_xb_b2 (ninS ne_xb_bb3 nin0))
  replace Fv_xb := Fv_xb.keep K11 (ninS ne_xb_b2 (ninS ne_xb_bb3 nin0))
  replace V_ub := V_ub.keep K11 (ninS ne_ub_b2 (ninS ne_ub_bb3 nin0))
  replace Un_b1 := Un_b1.keep K11 (ninS ne_b1_b2 (ninS ne_b1_bb3 nin0))
  replace E_b1 := E_b1.keep K11
  replace F_b1_cause := F_b1_cause.keep K11 (ninS ne_b1_b2 (ninS ne_b1_bb3 nin0))
  replace F_b1_stackTrace := F_b1_stackTrace.keep K11 (ninS ne_b1_b2 (ninS ne_b1_bb3 nin0))
  replace F_b1_suppressedExceptions := F_b1_suppressedExceptions.keep K11 (ninS ne_b1_b2 (ninS ne_b1_bb3 nin0))
  replace F_b1_detailMessage := F_b1_detailMessage.keep K11 (ninS ne_b1_b2 (ninS ne_b1_bb3 nin0))
  replace F_b1_backtrace := F_b1_backtrace.keep K11 (ninS ne_b1_b2 (ninS ne_b1_bb3 nin0))
  replace F_b1_depth := F_b1_depth.keep K11 (ninS ne_b1_b2 (ninS ne_b1_bb3 nin0))
  replace E_b2 := E_b2.keep K11
  replace E_a5_ := E_a5_.keep K11
  replace Fc_a5_ := Fc_a5_.keep K11 (ninS (Ne.symm ne_b2_a5_) (ninS (Ne.symm ne_bb3_a5_) nin0))
  replace Fv_a5_ := Fv_a5_.keep K11 (ninS (Ne.symm ne_b2_a5_) (ninS (Ne.symm ne_bb3_a5_) nin0))
  replace V_b5_ := V_b5_.keep K11 (ninS (Ne.symm ne_b2_b5_) (ninS (Ne.symm ne_bb3_b5_) nin0))
  replace E_a10_ := E_a10_.keep K11
  replace Fc_a10_ := Fc_a10_.keep K11 (ninS (Ne.symm ne_b2_a10_) (ninS (Ne.symm ne_bb3_a10_) nin0))
  replace Fv_a10_ := Fv_a10_.keep K11 (ninS (Ne.symm ne_b2_a10_) (ninS (Ne.symm ne_bb3_a10_) nin0))
  replace V_b10_ := V_b10_.keep K11 (ninS (Ne.symm ne_b2_b10_) (ninS (Ne.symm ne_bb3_b10_) nin0))
  refine GoH.tr (T' := T11) (pc' := 25) (L' := #[.val (.ref xa), .val (.ref xb)]) (S' := [(.ref b2), (.ref b1), (.ref b1)]) st11 ?_
  refine GoH.st (T' := T11) (pc' := 26) (L' := #[.val (.ref xa), .val (.ref xb)]) (S' := [(.ref xb), (.ref b2), (.ref b1), (.ref b1)]) (fun t_ k_ => XS.aloadN X11.here hx rfl (hb hby d5_25) rfl rfl  k_) ?_
  obtain ⟨cq13, kq13, q13a, q13b, q13c⟩ := isOf hZ e11 E_b2
  obtain ⟨_, _, ⟨T13, L13, k13, n13⟩, -, X13, ⟨Lc13, hQ13, l13, y13, z13⟩, st13⟩ := X11.virtualBack hx (y := (⟨"java/lang/StringBuilder", "append", "(Ljava/lang/String;)Ljava/lang/StringBuilder;"⟩ : MethodName)) (z := (⟨"java/lang/StringBuilder", "append", "(Ljava/lang/String;)Ljava/lang/StringBuilder;"⟩ : MethodName)) hown (mvT hZ (hw _ (List.mem_of_getElem? (i := 51) rfl))) (mvT hZ (hw _ (List.mem_of_getElem? (i := 52) rfl))) (notFace_of_selects (args := #[]) (mvT hZ (hw _ (List.mem_of_getElem? (i := 54) rfl)))) (mvT hZ (hw _ (List.mem_of_getElem? (i := 54) rfl))) (mvT hZ (hw _ (List.mem_of_getElem? (i := 53) rfl))) (by decide) (backOf (W := 2) (rm8 l Z a0 hw [] b2 xb ub _ bb3 _ _ (Lb) ((((0 + 2) + na) + 2)) (nb) gC h11 n0 Z0 SC PC O0 E_b2 g_b2 ne_b2_bb3 Fv11 Fd11 Vb11 Fn11 E_xb Fc_xb Fv_xb V_ub g_bb3 ne_xb_bb3 ne_ub_bb3 (own_la (own_la (own_la rfl rfl) la) rfl) lb (by omega) ne_xb_b2 ne_ub_b2) hZ (hw _ (List.mem_of_getElem? (i := 55) rfl)) (hw _ (List.mem_of_getElem? (i := 34) rfl)) (by decide) (by decide)) q13a q13c (g := (mkF m 26 #[.val (.ref xa), .val (.ref xb)] [(.ref xb), (.ref b2), (.ref b1), (.ref b1)])) rfl (by rw [hml]; rfl) (Steps.refl _) (argsL := [(.ref xb)]) (rest := [(.ref b1), (.ref b1)]) (lenOf pd_20 rfl) rfl (by show 2 * 0 + _ ≤ _; exact Nat.le_of_eq rfl) (hb hby d5_26) (fun _ _ => ⟨rfl, e11, (by decide : 7 + 0 ≤ _), (by decide : 50 + 0 ≤ _)⟩)
  dsimp only [Pt.U, Pt.locs, Pt.cells, Pt.slots] at X13 l13 y13 z13 st13 hQ13
  subst l13 y13 z13
  obtain ⟨rfl, N13q, K13, Fv13, Fd13, Fn13, Vb13⟩ := hQ13
  have N13 := Fr.app N11 N13q
  obtain ⟨h13, e13⟩ : ∃ z, T13.heap = z := ⟨_, rfl⟩
  rw [e13] at K13 Fv13 Fd13 Fn13 Vb13
  have Sk14 : ∀ x ∈ [b2, bb3], Safe Z EL T10.vm h11 x := (allS S_b2 (allS S_bb3 all0))
  replace S_b1 := Safe.keep K13 Sk14 CR.1 S_b1
  replace S_b2 := Safe.keep K13 Sk14 CR.1 S_b2
  replace S_bb3 := Safe.keep K13 Sk14 CR.1 S_bb3
  replace CR := CR.trans (CHr.keep K13 Sk14 CR.1)
  replace hk := Nat.le_trans hk K13.1
  replace Z0 := Nat.le_trans Z0 K13.1
  replace K0 := K0.trans K13 (allS (Or.inr sz_b2) (allS (Or.inr sz_bb3) all0))
  replace O0 := O0.keep K13 (allS g_b2 (allS g_bb3 all0))
  replace E_xa := E_xa.keep K13
  replace Fc_xa := Fc_xa.keep K13 (ninS ne_xa_b2 (ninS ne_xa_bb3 nin0))
  replace Fv_xa := Fv_xa.keep K13 (ninS ne_xa_b2 (ninS ne_xa_bb3 nin0))
  replace V_ua := V_ua.keep K13 (ninS ne_ua_b2 (ninS ne_ua_bb3 nin0))
  replace E_xb := E_xb.keep K13
  replace Fc_xb := Fc_xb.keep K13 (ninS ne_xb_b2 (ninS ne_xb_bb3 nin0))
  replace Fv_xb := Fv_xb.keep K13 (ninS ne_xb_b2 (ninS ne_xb_bb3 nin0))
  replace V_ub := V_ub.keep K13 (ninS ne_ub_b2 (ninS ne_ub_bb3 nin0))
  replace Un_b1 := Un_b1.keep K13 (ninS ne_b1_b2 (ninS ne_b1_bb3 nin0))
  replace E_b1 := E_b1.keep K13
  replace F_b1_cause := F_b1_cause.keep K13 (ninS ne_b1_b2 (ninS ne_b1_bb3 nin0))
  replace F_b1_stackTrace := F_b1_stackTrace.keep K13 (ninS ne_b1_b2 (ninS ne_b1_bb3 nin0))
  replace F_b1_suppressedExceptions := F_b1_suppressedExceptions.keep K13 (ninS ne_b1_b2 (ninS ne_b1_bb3 nin0))
  replace F_b1_detailMessage := F_b1_detailMessage.keep K13 (ninS ne_b1_b2 (ninS ne_b1_bb3 nin0))
  replace F_b1_backtrace := F_b1_backtrace.keep K13 (ninS ne_b1_b2 (ninS ne_b1_bb3 nin0))
  replace F_b1_depth := F_b1_depth.keep K13 (ninS ne_b1_b2 (ninS ne_b1_bb3 nin0))
  replace E_b2 := E_b2.keep K13
  replace E_a5_ := E_a5_.keep K13
  replace Fc_a5_ := Fc_a5_.keep K13 (ninS (Ne.symm ne_b2_a5_) (ninS (Ne.symm ne_bb3_a5_) nin0))
  replace Fv_a5_ := Fv_a5_.keep K13 (ninS (Ne.symm ne_b2_a5_) (ninS (Ne.symm ne_bb3_a5_) nin0))
  replace V_b5_ := V_b5_.keep K13 (ninS (Ne.symm ne_b2_b5_) (ninS (Ne.symm ne_bb3_b5_) nin0))
  replace E_a10_ := E_a10_.keep K13
  replace Fc_a10_ := Fc_a10_.keep K13 (ninS (Ne.symm ne_b2_a10_) (ninS (Ne.symm ne_bb3_a10_) nin0))
  replace Fv_a10_ := Fv_a10_.keep K13 (ninS (Ne.symm ne_b2_a10_) (ninS (Ne.symm ne_bb3_a10_) nin0))
  replace V_b10_ := V_b10_.keep K13 (ninS (Ne.symm ne_b2_b10_) (ninS (Ne.symm ne_bb3_b10_) nin0))
  refine GoH.tr (T' := T13) (pc' := 29) (L' := #[.val (.ref xa), .val (.ref xb)]) (S' := [(.ref b2), (.ref b1), (.ref b1)]) st13 ?_
  obtain ⟨cq15, kq15, q15a, q15b, q15c⟩ := isOf hZ e13 E_b2
  obtain ⟨_, _, ⟨T15, L15, k15, n15⟩, -, X15, ⟨Lc15, hQ15, l15, y15, z15⟩, st15⟩ := X13.virtualBack hx (y := (⟨"java/lang/StringBuilder", "toString", "()Ljava/lang/String;"⟩ : MethodName)) (z := (⟨"java/lang/StringBuilder", "toString", "()Ljava/lang/String;"⟩ : MethodName)) hown (mvT hZ (hw _ (List.mem_of_getElem? (i := 100) rfl))) (mvT hZ (hw _ (List.mem_of_getElem? (i := 101) rfl))) (notFace_of_selects (args := #[]) (mvT hZ (hw _ (List.mem_of_getElem? (i := 103) rfl)))) (mvT hZ (hw _ (List.mem_of_getElem? (i := 103) rfl))) (mvT hZ (hw _ (List.mem_of_getElem? (i := 102) rfl))) (by decide) (backOf (W := 2) (rm16 l Z a0 hw [] b2 bb3 _ _ (((((0 + 2) + na) + 2) + nb)) gC h13 n0 Z0 SC PC O0 E_b2 Fv13 Fd13 Fn13 Vb13 (own_la (own_la (own_la (own_la rfl rfl) la) rfl) lb) (by omega)) hZ (hw _ (List.mem_of_getElem? (i := 104) rfl)) (hw _ (List.mem_of_getElem? (i := 34) rfl)) (by decide) (by decide)) q15a q15c (g := (mkF m 29 #[.val (.ref xa), .val (.ref xb)] [(.ref b2), (.ref b1), (.ref b1)])) rfl (by rw [hml]; rfl) (Steps.refl _) (argsL := []) (rest := [(.ref b1), (.ref b1)]) (lenOf pd_21 rfl) rfl (by show 2 * 0 + _ ≤ _; exact Nat.le_of_eq rfl) (hb hby d5_29) (fun _ _ => ⟨rfl, e13, (by decide : 7 + 2 ≤ _), (by decide : 50 + 20 ≤ _)⟩)
  dsimp only [Pt.U, Pt.locs, Pt.cells, Pt.slots] at X15 l15 y15 z15 st15 hQ15
  subst l15 y15 z15
  obtain ⟨r15_, tr15_, kt15, rfl, N15q, K15, g_r15_, lt15, ltt15, Er15, Co15, Va15, Vt15⟩ := hQ15
  have N15 := Fr.app N13 N15q
  have ne_xa_r15_ : xa ≠ r15_ := Nat.ne_of_lt (Nat.lt_of_lt_of_le E_xa.lt lt15)
  have ne_ua_r15_ : ua ≠ r15_ := Nat.ne_of_lt (Nat.lt_of_lt_of_le V_ua.lt lt15)
  have ne_xb_r15_ : xb ≠ r15_ := Nat.ne_of_lt (Nat.lt_of_lt_of_le E_xb.lt lt15)
  have ne_ub_r15_ : ub ≠ r15_ := Nat.ne_of_lt (Nat.lt_of_lt_of_le V_ub.lt lt15)
  have ne_b1_r15_ : b1 ≠ r15_ := Nat.ne_of_lt (Nat.lt_of_lt_of_le E_b1.lt lt15)
  have ne_b2_r15_ : b2 ≠ r15_ := Nat.ne_of_lt (Nat.lt_of_lt_of_le E_b2.lt lt15)
  have ne_a5__r15_ : a5_ ≠ r15_ := Nat.ne_of_lt (Nat.lt_of_lt_of_le E_a5_.lt lt15)
  have ne_b5__r15_ : b5_ ≠ r15_ := Nat.ne_of_lt (Nat.lt_of_lt_of_le V_b5_.lt lt15)
  have ne_a10__r15_ : a10_ ≠ r15_ := Nat.ne_of_lt (Nat.lt_of_lt_of_le E_a10_.lt lt15)
  have ne_b10__r15_ : b10_ ≠ r15_ := Nat.ne_of_lt (Nat.lt_of_lt_of_le V_b10_.lt lt15)
  have ne_bb3_r15_ : bb3 ≠ r15_ := Nat.ne_of_lt (Nat.lt_of_lt_of_le Vb13.lt lt15)
  have sz_r15_ : h0.size ≤ r15_ := Nat.le_trans K0.1 lt15
  have ne_xa_tr15_ : xa ≠ tr15_ := Nat.ne_of_lt (Nat.lt_of_lt_of_le E_xa.lt ltt15)
  have ne_ua_tr15_ : ua ≠ tr15_ := Nat.ne_of_lt (Nat.lt_of_lt_of_le V_ua.lt ltt15)
  have ne_xb_tr15_ : xb ≠ tr15_ := Nat.ne_of_lt (Nat.lt_of_lt_of_le E_xb.lt ltt15)
  have ne_ub_tr15_ : ub ≠ tr15_ := Nat.ne_of_lt (Nat.lt_of_lt_of_le V_ub.lt ltt15)
  have ne_b1_tr15_ : b1 ≠ tr15_ := Nat.ne_of_lt (Nat.lt_of_lt_of_le E_b1.lt ltt15)
  have ne_b2_tr15_ : b2 ≠ tr15_ := Nat.ne_of_lt (Nat.lt_of_lt_of_le E_b2.lt ltt15)
  have ne_a5__tr15_ : a5_ ≠ tr15_ := Nat.ne_of_lt (Nat.lt_of_lt_of_le E_a5_.lt ltt15)
  have ne_b5__tr15_ : b5_ ≠ tr15_ := Nat.ne_of_lt (Nat.lt_of_lt_of_le V_b5_.lt ltt15)
  have ne_a10__tr15_ : a10_ ≠ tr15_ := Nat.ne_of_lt (Nat.lt_of_lt_of_le E_a10_.lt ltt15)
  have ne_b10__tr15_ : b10_ ≠ tr15_ := Nat.ne_of_lt (Nat.lt_of_lt_of_le V_b10_.lt ltt15)
  have ne_bb3_tr15_ : bb3 ≠ tr15_ := Nat.ne_of_lt (Nat.lt_of_lt_of_le Vb13.lt ltt15)
  have sz_tr15_ : h0.size ≤ tr15_ := Nat.le_trans K0.1 ltt15
  obtain ⟨h15, e15⟩ : ∃ z, T15.heap = z := ⟨_, rfl⟩
  rw [e15] at K15 Er15 Co15 Va15 Vt15
  have Sk16 : ∀ x ∈ [], Safe Z EL T10.vm h13 x := all0
  replace S_b1 := Safe.keep K15 Sk16 CR.1 S_b1
  replace S_b2 := Safe.keep K15 Sk16 CR.1 S_b2
  replace S_bb3 := Safe.keep K15 Sk16 CR.1 S_bb3
  replace CR := CR.trans (CHr.keep K15 Sk16 CR.1)
  replace hk := Nat.le_trans hk K15.1
  replace Z0 := Nat.le_trans Z0 K15.1
  replace K0 := K0.trans K15 all0
  replace O0 := O0.keep K15 all0
  replace E_xa := E_xa.keep K15
  replace Fc_xa := Fc_xa.keep K15 nin0
  replace Fv_xa := Fv_xa.keep K15 nin0
  replace V_ua := V_ua.keep K15 nin0
  replace E_xb := E_xb.keep K15
  replace Fc_xb := Fc_xb.keep K15 nin0
  replace Fv_xb := Fv_xb.keep K15 nin0
  replace V_ub := V_ub.keep K15 nin0
  replace Un_b1 := Un_b1.keep K15 nin0
  replace E_b1 := E_b1.keep K15
  replace F_b1_cause := F_b1_cause.keep K15 nin0
  replace F_b1_stackTrace := F_b1_stackTrace.keep K15 nin0
  replace F_b1_suppressedExceptions := F_b1_suppressedExceptions.keep K15 nin0
  replace F_b1_detailMessage := F_b1_detailMessage.keep K15 nin0
  replace F_b1_backtrace := F_b1_backtrace.keep K15 nin0
  replace F_b1_depth := F_b1_depth.keep K15 nin0
  replace E_b2 := E_b2.keep K15
  replace E_a5_ := E_a5_.keep K15
  replace Fc_a5_ := Fc_a5_.keep K15 nin0
  replace Fv_a5_ := Fv_a5_.keep K15 nin0
  replace V_b5_ := V_b5_.keep K15 nin0
  replace E_a10_ := E_a10_.keep K15
  replace Fc_a10_ := Fc_a10_.keep K15 nin0
  replace Fv_a10_ := Fv_a10_.keep K15 nin0
  replace V_b10_ := V_b10_.keep K15 nin0
  replace Fv13 := Fv13.keep K15 nin0
  replace Fd13 := Fd13.keep K15 nin0
  replace Fn13 := Fn13.keep K15 nin0
  replace Vb13 := Vb13.keep K15 nin0
  refine GoH.tr (T' := T15) (pc' := 32) (L' := #[.val (.ref xa), .val (.ref xb)]) (S' := [(.ref r15_), (.ref b1), (.ref b1)]) st15 ?_
  refine GoH.st (T' := T15) (pc' := 33) (L' := #[.val (.ref xa), .val (.ref xb)]) (S' := [.null, (.ref r15_), (.ref b1), (.ref b1)]) (fun t_ k_ => XS.aconstNull X15.here hx rfl (hb hby d5_32) k_) ?_
  obtain ⟨_, _, ⟨T17, L17, k17, n17⟩, -, X17, hS17, hg17, ⟨Lc17, hQ17, l17, y17, z17, CR17⟩, st17⟩ := X15.specialBackS hx (y := (⟨"com/example/yusenkabu/yusenkabu/cli/InputException", "<init>", "(Ljava/lang/String;Ljava/lang/Throwable;)V"⟩ : MethodName)) rfl hown (mvT hZ (hw _ (List.mem_of_getElem? (i := 145) rfl))) (mvT hZ (hw _ (List.mem_of_getElem? (i := 146) rfl))) (mvT hZ (hw _ (List.mem_of_getElem? (i := 147) rfl))) (by decide) (own_backSHK (W := 1) (rmien l Z a0 hw [] b1 r15_ vU vS h15 n0 Z0 O0 hvU hvS SU SS hl E_b1 g_b1 Un_b1 F_b1_detailMessage F_b1_cause F_b1_backtrace F_b1_stackTrace F_b1_suppressedExceptions) hZ (hw _ (List.mem_of_getElem? (i := 147) rfl)) (hw _ (List.mem_of_getElem? (i := 28) rfl)) (by decide) (by decide) (own_EW hw) CR.1 (Vm.MethodsKnown.alikeC hS.1.alike hTK) (Vm.FramesKnown.alikeC hS.1.alike hBelow)) (g := (mkF m 33 #[.val (.ref xa), .val (.ref xb)] [.null, (.ref r15_), (.ref b1), (.ref b1)])) rfl (by rw [hml]; rfl) (Steps.refl _) (a := b1) (argsL := [(.ref r15_), .null]) (rest := [(.ref b1)]) (lenOf pd_18 rfl) rfl (by show 2 * 0 + _ ≤ _; exact Nat.le_of_eq rfl) (hb hby d5_33) (fun _ _ => ⟨rfl, e15, (by decide : 9 + 1 ≤ _), (by decide : 70 + 2752 ≤ _)⟩)
  dsimp only [Pt.U, Pt.locs, Pt.cells, Pt.slots] at X17 l17 y17 z17 st17 hQ17 hS17 hg17 CR17
  subst l17 y17 z17
  replace X17 : Stand p l e _ (s.setVm T17.vm) m _ below meth c T17 _ _ _ := X17
  replace hS := foldS hS (T := T15) (Nat.le_trans hk (Nat.le_of_eq (congrArg Array.size e15.symm))) hS17 hg17
  replace hk := Nat.le_refl T17.heap.size
  replace hZ : Z.Warmed39 (s.setVm T17.vm).vm := State.Warmed39.trans (t := s.setVm T10.vm) hZ hS17.1
  replace hown : (s.setVm T17.vm).vm.findClass "com/example/yusenkabu/yusenkabu/cli/InputException" = some m.cls := by rw [show (s.setVm T17.vm).vm = T17.vm from rfl, hS17.1.alike.findClass]; exact hown
  obtain ⟨rfl, N17q, K17, U17, M17, C17⟩ := hQ17
  have N17 := Fr.app N15 N17q
  obtain ⟨h17, e17⟩ : ∃ z, T17.heap = z := ⟨_, rfl⟩
  rw [e17] at K17 U17 M17 C17 CR17
  replace S_b1 := CR17.safe E_b1.lt S_b1
  replace S_b2 := CR17.safe E_b2.lt S_b2
  replace S_bb3 := CR17.safe Vb13.lt S_bb3
  replace CR := CR.trans CR17
  replace Z0 := Nat.le_trans Z0 K17.1
  replace K0 := K0.trans K17 (allS (Or.inr sz_b1) all0)
  replace O0 := O0.keep K17 (allS g_b1 all0)
  replace E_xa := E_xa.keep K17
  replace Fc_xa := Fc_xa.keep K17 (ninS ne_xa_b1 nin0)
  replace Fv_xa := Fv_xa.keep K17 (ninS ne_xa_b1 nin0)
  replace V_ua := V_ua.keep K17 (ninS ne_ua_b1 nin0)
  replace E_xb := E_xb.keep K17
  replace Fc_xb := Fc_xb.keep K17 (ninS ne_xb_b1 nin0)
  replace Fv_xb := Fv_xb.keep K17 (ninS ne_xb_b1 nin0)
  replace V_ub := V_ub.keep K17 (ninS ne_ub_b1 nin0)
  replace E_b1 := E_b1.keep K17
  replace E_b2 := E_b2.keep K17
  replace E_a5_ := E_a5_.keep K17
  replace Fc_a5_ := Fc_a5_.keep K17 (ninS (Ne.symm ne_b1_a5_) nin0)
  replace Fv_a5_ := Fv_a5_.keep K17 (ninS (Ne.symm ne_b1_a5_) nin0)
  replace V_b5_ := V_b5_.keep K17 (ninS (Ne.symm ne_b1_b5_) nin0)
  replace E_a10_ := E_a10_.keep K17
  replace Fc_a10_ := Fc_a10_.keep K17 (ninS (Ne.symm ne_b1_a10_) nin0)
  replace Fv_a10_ := Fv_a10_.keep K17 (ninS (Ne.symm ne_b1_a10_) nin0)
  replace V_b10_ := V_b10_.keep K17 (ninS (Ne.symm ne_b1_b10_) nin0)
  replace Fv13 := Fv13.keep K17 (ninS (Ne.symm ne_b1_b2) nin0)
  replace Fd13 := Fd13.keep K17 (ninS (Ne.symm ne_b1_b2) nin0)
  replace Fn13 := Fn13.keep K17 (ninS (Ne.symm ne_b1_b2) nin0)
  replace Vb13 := Vb13.keep K17 (ninS (Ne.symm ne_b1_bb3) nin0)
  replace Er15 := Er15.keep K17
  replace Co15 := Co15.keep K17 (ninS (Ne.symm ne_b1_r15_) nin0)
  replace Va15 := Va15.keep K17 (ninS (Ne.symm ne_b1_r15_) nin0)
  replace Vt15 := Vt15.keep K17 (ninS (Ne.symm ne_b1_tr15_) nin0)
  replace hk : T17.heap.size ≤ h17.size := Nat.le_of_eq (congrArg Array.size e17)
  refine GoH.tr (T' := T17) (pc' := 36) (L' := #[.val (.ref xa), .val (.ref xb)]) (S' := [(.ref b1)]) st17 ?_
  exact GoH.retO X17 hx hlk hret rfl (by simp [FieldType.isReference, Value.isRef]) (hb hby d5_36) (by decide) (by decide) hS hk e17 hs0 hZ (own_EW hw) CR (by rw [e17]; exact ⟨b1, r15_, tr15_, _, rfl, N17, K0, g_b1, E_b1, U17, C17, M17, Er15, Co15, Va15, Vt15⟩)
theorem d33_0 : decode jdk_78_method_6_code 0 = .ok (.aload_n 0, 1) := by decide +kernel
theorem d33_1 : decode jdk_78_method_6_code 1 = .ok (.getfield 31, 3) := by decide +kernel
theorem d33_4 : decode jdk_78_method_6_code 4 = .ok (.areturn, 1) := by decide +kernel
def Q33 (Z : State) (a1 : Addr) (x1 : Addr) (h0 : Heap) (n0 : Nat) (v : Option Value) (h : Heap) (L : List Loc) : Prop := v = some (.ref x1) ∧ Fr n0 L ∧ h = h0
def room33 : Room := { frames := 0, cells := 0, slots := 0, locals := 0 }
set_option maxRecDepth 65536 in
set_option maxHeartbeats 40000000 in
theorem rm33 (l : Launch) (Z : State) (a0 : Array Value) (hw : ∀ d ∈ tables_1, d.before a0 Z = true) (ws : List Jvm.Cond) (a1 : Addr) (x1 : Addr) (h0 : Heap) (n0 : Nat) (Z0 : n0 ≤ h0.size) (F1 : Fld Z h0 a1 "java/lang/Throwable" "detailMessage" "Ljava/lang/String;" (.ref x1)) :
    MetFree l (⟨"java/lang/Throwable", "getMessage", "()Ljava/lang/String;"⟩ : MethodName) (head1 (Jvm.Cond.code (⟨"java/lang/Throwable", "getMessage", "()Ljava/lang/String;"⟩ : MethodName) jdk_78_method_6_code 1 (some (.object "java/lang/String")) :: ws) room33) (fun aa_ U_ => aa_ = #[(.ref a1)] ∧ Z.Warmed39 U_.vm ∧ U_.heap = h0) (fun _ _ _ _ _ => True) (fun _ U_ o_ W_ => ∃ v_ L_, o_ = .returned v_ ∧ (Q33 Z a1 x1 h0 n0) v_ W_.heap L_ ∧ FrameEnd U_ o_ W_ L_ room33.cells room33.slots) := by
  refine own_met (Q := (Q33 Z a1 x1 h0 n0)) (L0 := #[.val (.ref a1)]) (plainFor_of_name pn_7) (fun m => by first | (simp [entryFrame, mkF, argsToLocals, Value.category]; done) | rfl) ?_
  intro p e s m below meth c T0 X0 hx hby hml hown hnm hret hlk hZ e0
  have N0 := Fr.nil n0
  refine Go.st (T' := T0) (pc' := 1) (L' := #[.val (.ref a1)]) (S' := [(.ref a1)]) (fun t_ k_ => XS.aloadN X0.here hx rfl (hb hby d33_0) rfl rfl  k_) ?_
  obtain ⟨T1, X1, e1, st1⟩ := getF X0 hx hZ hown (host := "") (Or.inl (hw _ (List.mem_of_getElem? (i := 195) rfl))) Via.refl e0 F1 (g := (mkF m 1 #[.val (.ref a1)] [(.ref a1)])) rfl rfl (hb hby d33_1)
  refine Go.st (T' := T1) (pc' := 4) (L' := #[.val (.ref a1)]) (S' := [(.ref x1)]) st1 ?_
  exact Go.retO X1 hx hlk hret rfl (by simp [FieldType.isReference, Value.isRef]) (hb hby d33_4) (by decide) (by decide) (by rw [e1]; exact ⟨rfl, N0, rfl⟩)
theorem d40_0 : decode method_3_code 0 = .ok (.iload_n 0, 1) := by decide +kernel
theorem d40_1 : decode method_3_code 1 = .ok (.iconst 2, 1) := by decide +kernel
theorem d40_2 : decode method_3_code 2 = .ok (.if_icmp .ge 6, 3) := by decide +kernel
theorem d40_5 : decode method_3_code 5 = .ok (.bipush 45, 2) := by decide +kernel
theorem d40_7 : decode method_3_code 7 = .ok (.ireturn, 1) := by decide +kernel
theorem d40_8 : decode method_3_code 8 = .ok (.iload_n 0, 1) := by decide +kernel
theorem d40_9 : decode method_3_code 9 = .ok (.iconst 2, 1) := by decide +kernel
theorem d40_10 : decode method_3_code 10 = .ok (.isub, 1) := by decide +kernel
theorem d40_11 : decode method_3_code 11 = .ok (.istore_n 3, 1) := by decide +kernel
theorem d40_12 : decode method_3_code 12 = .ok (.iload_n 3, 1) := by decide +kernel
theorem d40_13 : decode method_3_code 13 = .ok (.aload_n 1, 1) := by decide +kernel
theorem d40_14 : decode method_3_code 14 = .ok (.invokevirtual 12, 3) := by decide +kernel
theorem d40_17 : decode method_3_code 17 = .ok (.if_icmp .ge 9, 3) := by decide +kernel
theorem d40_20 : decode method_3_code 20 = .ok (.aload_n 1, 1) := by decide +kernel
theorem d40_21 : decode method_3_code 21 = .ok (.iload_n 3, 1) := by decide +kernel
theorem d40_22 : decode method_3_code 22 = .ok (.invokevirtual 16, 3) := by decide +kernel
theorem d40_25 : decode method_3_code 25 = .ok (.ireturn, 1) := by decide +kernel
theorem d40_26 : decode method_3_code 26 = .ok (.iload_n 3, 1) := by decide +kernel
theorem d40_27 : decode method_3_code 27 = .ok (.aload_n 1, 1) := by decide +kernel
theorem d40_28 : decode method_3_code 28 = .ok (.invokevirtual 12, 3) := by decide +kernel
theorem d40_31 : decode method_3_code 31 = .ok (.isub, 1) := by decide +kernel
theorem d40_32 : decode method_3_code 32 = .ok (.istore_n 3, 1) := by decide +kernel
theorem d40_33 : decode method_3_code 33 = .ok (.iload_n 3, 1) := by decide +kernel
theorem d40_34 : decode method_3_code 34 = .ok (.ifCond .ne 6, 3) := by decide +kernel
theorem d40_37 : decode method_3_code 37 = .ok (.bipush 58, 2) := by decide +kernel
theorem d40_39 : decode method_3_code 39 = .ok (.ireturn, 1) := by decide +kernel
theorem d40_40 : decode method_3_code 40 = .ok (.iload_n 3, 1) := by decide +kernel
theorem d40_41 : decode method_3_code 41 = .ok (.iconst 1, 1) := by decide +kernel
theorem d40_42 : decode method_3_code 42 = .ok (.if_icmp .ne 6, 3) := by decide +kernel
theorem d40_45 : decode method_3_code 45 = .ok (.bipush 32, 2) := by decide +kernel
theorem d40_47 : decode method_3_code 47 = .ok (.ireturn, 1) := by decide +kernel
theorem d40_48 : decode method_3_code 48 = .ok (.aload_n 2, 1) := by decide +kernel
theorem d40_49 : decode method_3_code 49 = .ok (.iload_n 3, 1) := by decide +kernel
theorem d40_50 : decode method_3_code 50 = .ok (.iconst 2, 1) := by decide +kernel
theorem d40_51 : decode method_3_code 51 = .ok (.isub, 1) := by decide +kernel
theorem d40_52 : decode method_3_code 52 = .ok (.invokevirtual 16, 3) := by decide +kernel
theorem d40_55 : decode method_3_code 55 = .ok (.ireturn, 1) := by decide +kernel
theorem pd_22 : parseMethodDescriptor "(I)C" = some ⟨[.int], some .char⟩ := by decide +kernel
def Qexa (Z : State) (i : Nat) (La : List Int32) (na : Nat) (Lb : List Int32) (h0 : Heap) (n0 : Nat) (v : Option Value) (h : Heap) (L : List Loc) : Prop := ∃ x : Int32, v = some (.int x) ∧ x = nar .char (own_ex i na La Lb) ∧ Fr n0 L ∧ h = h0
def roomexa : Room := { frames := 4, cells := 0, slots := 0, locals := 53 }
set_option maxRecDepth 65536 in
set_option maxHeartbeats 40000000 in
theorem rmexa (l : Launch) (Z : State) (a0 : Array Value) (hw : ∀ d ∈ tables_1, d.before a0 Z = true) (ws : List Jvm.Cond) (i : Nat) (xa : Addr) (ua : Addr) (qa : ClassId) (La : List Int32) (na : Nat) (xb : Addr) (ub : Addr) (qb : ClassId) (Lb : List Int32) (nb : Nat) (fm : Value) (gC : Int32) (h0 : Heap) (n0 : Nat) (Z0 : n0 ≤ h0.size) (SC : Sta Z Z.heap "java/lang/String" "COMPACT_STRINGS" "Z" (.int gC)) (PC : ¬ (gC = (0 : Int32))) (O0 : Old Z n0 h0) (hfm : fm.isRef = true) (SF : Sta Z Z.heap "jdk/internal/util/Preconditions" "SIOOBE_FORMATTER" "Ljava/util/function/BiFunction;" fm) (E_xa : Exa Z h0 xa "java/lang/String") (Fc_xa : Fld Z h0 xa "java/lang/String" "coder" "B" (.int (0 : Int32))) (Fv_xa : Fld Z h0 xa "java/lang/String" "value" "[B" (.ref ua)) (V_ua : Arv Z h0 ua qa .byte (na.toInt32) (La.map Value.int) (.int (0 : Int32))) (la : La.length = na) (ra : na ≤ 2) (E_xb : Exa Z h0 xb "java/lang/String") (Fc_xb : Fld Z h0 xb "java/lang/String" "coder" "B" (.int (0 : Int32))) (Fv_xb : Fld Z h0 xb "java/lang/String" "value" "[B" (.ref ub)) (V_ub : Arv Z h0 ub qb .byte (nb.toInt32) (Lb.map Value.int) (.int (0 : Int32))) (lb : Lb.length = nb) (rb : nb ≤ 2) (hi : i < 4 + na + nb) :
    MetFree l (⟨"com/example/yusenkabu/yusenkabu/cli/InputExceptionOptionPinLaw", "expectedAt", "(ILjava/lang/String;Ljava/lang/String;)C"⟩ : MethodName) (head1 (Jvm.Cond.code (⟨"com/example/yusenkabu/yusenkabu/cli/InputExceptionOptionPinLaw", "expectedAt", "(ILjava/lang/String;Ljava/lang/String;)C"⟩ : MethodName) method_3_code 4 (some .char) :: ws) roomexa) (fun aa_ U_ => aa_ = #[(.int (i.toInt32)), (.ref xa), (.ref xb)] ∧ Z.Warmed39 U_.vm ∧ U_.heap = h0) (fun _ _ _ _ _ => True) (fun _ U_ o_ W_ => ∃ v_ L_, o_ = .returned v_ ∧ (Qexa Z i La na Lb h0 n0) v_ W_.heap L_ ∧ FrameEnd U_ o_ W_ L_ roomexa.cells roomexa.slots) := by
  refine own_met (Q := (Qexa Z i La na Lb h0 n0)) (L0 := #[.val (.int (i.toInt32)), .val (.ref xa), .val (.ref xb), .unset]) (plainFor_of_name pn_6) (fun m => by first | (simp [entryFrame, mkF, argsToLocals, Value.category]; done) | rfl) ?_
  intro p e s m below meth c T0 X0 hx hby hml hown hnm hret hlk hZ e0
  have N0 := Fr.nil n0
  refine Go.st (T' := T0) (pc' := 1) (L' := #[.val (.int (i.toInt32)), .val (.ref xa), .val (.ref xb), .unset]) (S' := [(.int (i.toInt32))]) (fun t_ k_ => XS.iloadN X0.here hx rfl (hb hby d40_0) rfl  k_) ?_
  refine Go.st (T' := T0) (pc' := 2) (L' := #[.val (.int (i.toInt32)), .val (.ref xa), .val (.ref xb), .unset]) (S' := [(.int (2 : Int32)), (.int (i.toInt32))]) (fun t_ k_ => XS.iconst X0.here hx rfl (hb hby d40_1) k_) ?_
  by_cases hc2_1 : (i.toInt32) < (2 : Int32)
  · refine Go.st (T' := T0) (pc' := 5) (L' := #[.val (.int (i.toInt32)), .val (.ref xa), .val (.ref xb), .unset]) (S' := []) (fun t_ k_ => XS.icmpNo X0.here hx rfl (hb hby d40_2) rfl (tlt hc2_1).2.1 k_) ?_
    have g1 : i < 2 := (own_ltI (m := i) (n := 2) (by omega) (by omega)).mp hc2_1
    refine Go.st (T' := T0) (pc' := 7) (L' := #[.val (.int (i.toInt32)), .val (.ref xa), .val (.ref xb), .unset]) (S' := [(.int (45 : Int32))]) (fun t_ k_ => XS.bipush X0.here hx rfl (hb hby d40_5) k_) ?_
    exact Go.retN X0 hx hlk hret (by simp) (hb hby d40_7) (by decide) (by decide) (by rw [e0]; exact ⟨_, rfl, (by rw [own_ex, if_pos g1]), N0, rfl⟩)
  · refine Go.st (T' := T0) (pc' := 8) (L' := #[.val (.int (i.toInt32)), .val (.ref xa), .val (.ref xb), .unset]) (S' := []) (fun t_ k_ => XS.icmpYes X0.here hx rfl (pc0 := 2) (pc' := 8) rfl (hb hby d40_2) rfl (flt hc2_1).2.1 (by decide) (by decide) k_) ?_
    have g1 : ¬ i < 2 := fun z => hc2_1 ((own_ltI (m := i) (n := 2) (by omega) (by omega)).mpr z)
    refine Go.st (T' := T0) (pc' := 9) (L' := #[.val (.int (i.toInt32)), .val (.ref xa), .val (.ref xb), .unset]) (S' := [(.int (i.toInt32))]) (fun t_ k_ => XS.iloadN X0.here hx rfl (hb hby d40_8) rfl  k_) ?_
    refine Go.st (T' := T0) (pc' := 10) (L' := #[.val (.int (i.toInt32)), .val (.ref xa), .val (.ref xb), .unset]) (S' := [(.int (2 : Int32)), (.int (i.toInt32))]) (fun t_ k_ => XS.iconst X0.here hx rfl (hb hby d40_9) k_) ?_
    refine Go.st (T' := T0) (pc' := 11) (L' := #[.val (.int (i.toInt32)), .val (.ref xa), .val (.ref xb), .unset]) (S' := [(.int ((i.toInt32) - (2 : Int32)))]) (fun t_ k_ => XS.isub X0.here hx rfl (hb hby d40_10) rfl k_) ?_
    rw [show (i).toInt32 - (2 : Int32) = (i - 2).toInt32 from own_subN (a := i) (b := 2) (by omega) (by omega)]
    refine Go.st (T' := T0) (pc' := 12) (L' := #[.val (.int (i.toInt32)), .val (.ref xa), .val (.ref xb), .val (.int ((i - 2).toInt32))]) (S' := []) (fun t_ k_ => XS.istoreN X0.here hx rfl (hb hby d40_11) rfl (l' := #[.val (.int (i.toInt32)), .val (.ref xa), .val (.ref xb), .val (.int ((i - 2).toInt32))]) rfl k_) ?_
    refine Go.st (T' := T0) (pc' := 13) (L' := #[.val (.int (i.toInt32)), .val (.ref xa), .val (.ref xb), .val (.int ((i - 2).toInt32))]) (S' := [(.int ((i - 2).toInt32))]) (fun t_ k_ => XS.iloadN X0.here hx rfl (hb hby d40_12) rfl  k_) ?_
    refine Go.st (T' := T0) (pc' := 14) (L' := #[.val (.int (i.toInt32)), .val (.ref xa), .val (.ref xb), .val (.int ((i - 2).toInt32))]) (S' := [(.ref xa), (.int ((i - 2).toInt32))]) (fun t_ k_ => XS.aloadN X0.here hx rfl (hb hby d40_13) rfl rfl  k_) ?_
    obtain ⟨cq2, kq2, q2a, q2b, q2c⟩ := isOf hZ e0 E_xa
    obtain ⟨_, _, ⟨T2, L2, k2, n2⟩, -, X2, ⟨Lc2, hQ2, l2, y2, z2⟩, st2⟩ := X0.virtualBack hx (y := (⟨"java/lang/String", "length", "()I"⟩ : MethodName)) (z := (⟨"java/lang/String", "length", "()I"⟩ : MethodName)) hown (mvT hZ (hw _ (List.mem_of_getElem? (i := 208) rfl))) (mvT hZ (hw _ (List.mem_of_getElem? (i := 62) rfl))) (notFace_of_selects (args := #[]) (mvT hZ (hw _ (List.mem_of_getElem? (i := 64) rfl)))) (mvT hZ (hw _ (List.mem_of_getElem? (i := 64) rfl))) (mvT hZ (hw _ (List.mem_of_getElem? (i := 63) rfl))) (by decide) (backOf (W := 1) (rm10 l Z a0 hw [] xa ua _ gC (na.toInt32) (La) h0 n0 Z0 SC PC O0 E_xa Fc_xa Fv_xa V_ua) hZ (hw _ (List.mem_of_getElem? (i := 65) rfl)) (hw _ (List.mem_of_getElem? (i := 6) rfl)) (by decide) (by decide)) q2a q2c (g := (mkF m 14 #[.val (.int (i.toInt32)), .val (.ref xa), .val (.ref xb), .val (.int ((i - 2).toInt32))] [(.ref xa), (.int ((i - 2).toInt32))])) rfl (by rw [hml]; rfl) (Steps.refl _) (argsL := []) (rest := [(.int ((i - 2).toInt32))]) (lenOf pd_4 rfl) rfl (by show 2 * 0 + _ ≤ _; exact Nat.le_of_eq rfl) (hb hby d40_14) (fun _ _ => ⟨rfl, e0, (by decide : 0 + 0 ≤ _), (by decide : 0 + 0 ≤ _)⟩)
    dsimp only [Pt.U, Pt.locs, Pt.cells, Pt.slots] at X2 l2 y2 z2 st2 hQ2
    subst l2 y2 z2
    obtain ⟨rfl, N2q, e2⟩ := hQ2
    have N2 := Fr.app N0 N2q
    refine Go.tr (T' := T2) (pc' := 17) (L' := #[.val (.int (i.toInt32)), .val (.ref xa), .val (.ref xb), .val (.int ((i - 2).toInt32))]) (S' := [(.int (na.toInt32)), (.int ((i - 2).toInt32))]) st2 ?_
    by_cases hc17_3 : ((i - 2).toInt32) < (na.toInt32)
    · refine Go.st (T' := T2) (pc' := 20) (L' := #[.val (.int (i.toInt32)), .val (.ref xa), .val (.ref xb), .val (.int ((i - 2).toInt32))]) (S' := []) (fun t_ k_ => XS.icmpNo X2.here hx rfl (hb hby d40_17) rfl (tlt hc17_3).2.1 k_) ?_
      have g2 : (i - 2) < na := (own_ltI (m := (i - 2)) (n := na) (by omega) (by omega)).mp hc17_3
      refine Go.st (T' := T2) (pc' := 21) (L' := #[.val (.int (i.toInt32)), .val (.ref xa), .val (.ref xb), .val (.int ((i - 2).toInt32))]) (S' := [(.ref xa)]) (fun t_ k_ => XS.aloadN X2.here hx rfl (hb hby d40_20) rfl rfl  k_) ?_
      refine Go.st (T' := T2) (pc' := 22) (L' := #[.val (.int (i.toInt32)), .val (.ref xa), .val (.ref xb), .val (.int ((i - 2).toInt32))]) (S' := [(.int ((i - 2).toInt32)), (.ref xa)]) (fun t_ k_ => XS.iloadN X2.here hx rfl (hb hby d40_21) rfl  k_) ?_
      obtain ⟨cq4, kq4, q4a, q4b, q4c⟩ := isOf hZ e2 E_xa
      obtain ⟨_, _, ⟨T4, L4, k4, n4⟩, -, X4, ⟨Lc4, hQ4, l4, y4, z4⟩, st4⟩ := X2.virtualBack hx (y := (⟨"java/lang/String", "charAt", "(I)C"⟩ : MethodName)) (z := (⟨"java/lang/String", "charAt", "(I)C"⟩ : MethodName)) hown (mvT hZ (hw _ (List.mem_of_getElem? (i := 212) rfl))) (mvT hZ (hw _ (List.mem_of_getElem? (i := 213) rfl))) (notFace_of_selects (args := #[]) (mvT hZ (hw _ (List.mem_of_getElem? (i := 215) rfl)))) (mvT hZ (hw _ (List.mem_of_getElem? (i := 215) rfl))) (mvT hZ (hw _ (List.mem_of_getElem? (i := 214) rfl))) (by decide) (backOf (W := 0) (rm35 l Z a0 hw [] xa ua _ (La) ((i - 2)) (na) fm gC h0 n0 Z0 SC PC O0 hfm SF E_xa Fc_xa Fv_xa V_ua (by omega) (by omega)) hZ (hw _ (List.mem_of_getElem? (i := 216) rfl)) (hw _ (List.mem_of_getElem? (i := 6) rfl)) (by decide) (by decide)) q4a q4c (g := (mkF m 22 #[.val (.int (i.toInt32)), .val (.ref xa), .val (.ref xb), .val (.int ((i - 2).toInt32))] [(.int ((i - 2).toInt32)), (.ref xa)])) rfl (by rw [hml]; rfl) (Steps.refl _) (argsL := [(.int ((i - 2).toInt32))]) (rest := []) (lenOf pd_22 rfl) rfl (by show 2 * 0 + _ ≤ _; exact Nat.le_of_eq rfl) (hb hby d40_22) (fun _ _ => ⟨rfl, e2, (by decide : 0 + 0 ≤ _), (by decide : 0 + 0 ≤ _)⟩)
      dsimp only [Pt.U, Pt.locs, Pt.cells, Pt.slots] at X4 l4 y4 z4 st4 hQ4
      subst l4 y4 z4
      unfold Q35 at hQ4
      generalize hx4 : own_ch _ = xc4 at hQ4
      obtain ⟨rfl, N4q, e4⟩ := hQ4
      have N4 := Fr.app N2 N4q
      refine Go.tr (T' := T4) (pc' := 25) (L' := #[.val (.int (i.toInt32)), .val (.ref xa), .val (.ref xb), .val (.int ((i - 2).toInt32))]) (S' := [(.int xc4)]) st4 ?_
      exact Go.retN X4 hx hlk hret (by simp) (hb hby d40_25) (by decide) (by decide) (by rw [e4]; exact ⟨_, rfl, (by rw [own_ex, if_neg g1, if_pos g2, ← hx4]), N4, rfl⟩)
    · refine Go.st (T' := T2) (pc' := 26) (L' := #[.val (.int (i.toInt32)), .val (.ref xa), .val (.ref xb), .val (.int ((i - 2).toInt32))]) (S' := []) (fun t_ k_ => XS.icmpYes X2.here hx rfl (pc0 := 17) (pc' := 26) rfl (hb hby d40_17) rfl (flt hc17_3).2.1 (by decide) (by decide) k_) ?_
      have g2 : ¬ (i - 2) < na := fun z => hc17_3 ((own_ltI (m := (i - 2)) (n := na) (by omega) (by omega)).mpr z)
      refine Go.st (T' := T2) (pc' := 27) (L' := #[.val (.int (i.toInt32)), .val (.ref xa), .val (.ref xb), .val (.int ((i - 2).toInt32))]) (S' := [(.int ((i - 2).toInt32))]) (fun t_ k_ => XS.iloadN X2.here hx rfl (hb hby d40_26) rfl  k_) ?_
      refine Go.st (T' := T2) (pc' := 28) (L' := #[.val (.int (i.toInt32)), .val (.ref xa), .val (.ref xb), .val (.int ((i - 2).toInt32))]) (S' := [(.ref xa), (.int ((i - 2).toInt32))]) (fun t_ k_ => XS.aloadN X2.here hx rfl (hb hby d40_27) rfl rfl  k_) ?_
      obtain ⟨cq5, kq5, q5a, q5b, q5c⟩ := isOf hZ e2 E_xa
      obtain ⟨_, _, ⟨T5, L5, k5, n5⟩, -, X5, ⟨Lc5, hQ5, l5, y5, z5⟩, st5⟩ := X2.virtualBack hx (y := (⟨"java/lang/String", "length", "()I"⟩ : MethodName)) (z := (⟨"java/lang/String", "length", "()I"⟩ : MethodName)) hown (mvT hZ (hw _ (List.mem_of_getElem? (i := 208) rfl))) (mvT hZ (hw _ (List.mem_of_getElem? (i := 62) rfl))) (notFace_of_selects (args := #[]) (mvT hZ (hw _ (List.mem_of_getElem? (i := 64) rfl)))) (mvT hZ (hw _ (List.mem_of_getElem? (i := 64) rfl))) (mvT hZ (hw _ (List.mem_of_getElem? (i := 63) rfl))) (by decide) (backOf (W := 1) (rm10 l Z a0 hw [] xa ua _ gC (na.toInt32) (La) h0 n0 Z0 SC PC O0 E_xa Fc_xa Fv_xa V_ua) hZ (hw _ (List.mem_of_getElem? (i := 65) rfl)) (hw _ (List.mem_of_getElem? (i := 6) rfl)) (by decide) (by decide)) q5a q5c (g := (mkF m 28 #[.val (.int (i.toInt32)), .val (.ref xa), .val (.ref xb), .val (.int ((i - 2).toInt32))] [(.ref xa), (.int ((i - 2).toInt32))])) rfl (by rw [hml]; rfl) (Steps.refl _) (argsL := []) (rest := [(.int ((i - 2).toInt32))]) (lenOf pd_4 rfl) rfl (by show 2 * 0 + _ ≤ _; exact Nat.le_of_eq rfl) (hb hby d40_28) (fun _ _ => ⟨rfl, e2, (by decide : 0 + 0 ≤ _), (by decide : 0 + 0 ≤ _)⟩)
      dsimp only [Pt.U, Pt.locs, Pt.cells, Pt.slots] at X5 l5 y5 z5 st5 hQ5
      subst l5 y5 z5
      obtain ⟨rfl, N5q, e5⟩ := hQ5
      have N5 := Fr.app N2 N5q
      refine Go.tr (T' := T5) (pc' := 31) (L' := #[.val (.int (i.toInt32)), .val (.ref xa), .val (.ref xb), .val (.int ((i - 2).toInt32))]) (S' := [(.int (na.toInt32)), (.int ((i - 2).toInt32))]) st5 ?_
      refine Go.st (T' := T5) (pc' := 32) (L' := #[.val (.int (i.toInt32)), .val (.ref xa), .val (.ref xb), .val (.int ((i - 2).toInt32))]) (S' := [(.int (((i - 2).toInt32) - (na.toInt32)))]) (fun t_ k_ => XS.isub X5.here hx rfl (hb hby d40_31) rfl k_) ?_
      rw [show (i - 2).toInt32 - (na.toInt32) = (i - 2 - na).toInt32 from own_subN (a := i - 2) (b := na) (by omega) (by omega)]
      refine Go.st (T' := T5) (pc' := 33) (L' := #[.val (.int (i.toInt32)), .val (.ref xa), .val (.ref xb), .val (.int ((i - 2 - na).toInt32))]) (S' := []) (fun t_ k_ => XS.istoreN X5.here hx rfl (hb hby d40_32) rfl (l' := #[.val (.int (i.toInt32)), .val (.ref xa), .val (.ref xb), .val (.int ((i - 2 - na).toInt32))]) rfl k_) ?_
      refine Go.st (T' := T5) (pc' := 34) (L' := #[.val (.int (i.toInt32)), .val (.ref xa), .val (.ref xb), .val (.int ((i - 2 - na).toInt32))]) (S' := [(.int ((i - 2 - na).toInt32))]) (fun t_ k_ => XS.iloadN X5.here hx rfl (hb hby d40_33) rfl  k_) ?_
      by_cases hc34_6 : ((i - 2 - na).toInt32) = (0 : Int32)
      · refine Go.st (T' := T5) (pc' := 37) (L' := #[.val (.int (i.toInt32)), .val (.ref xa), .val (.ref xb), .val (.int ((i - 2 - na).toInt32))]) (S' := []) (fun t_ k_ => XS.ifNo X5.here hx rfl (hb hby d40_34) rfl ((if0 _ _).trans (teq hc34_6).2) k_) ?_
        have g3 : (i - 2 - na) = 0 := (own_inj (m := (i - 2 - na)) (n := 0) (by omega) (by omega)).mp hc34_6
        refine Go.st (T' := T5) (pc' := 39) (L' := #[.val (.int (i.toInt32)), .val (.ref xa), .val (.ref xb), .val (.int ((i - 2 - na).toInt32))]) (S' := [(.int (58 : Int32))]) (fun t_ k_ => XS.bipush X5.here hx rfl (hb hby d40_37) k_) ?_
        exact Go.retN X5 hx hlk hret (by simp) (hb hby d40_39) (by decide) (by decide) (by rw [e5]; exact ⟨_, rfl, (by rw [own_ex, if_neg g1, if_neg g2, if_pos g3]), N5, rfl⟩)
      · refine Go.st (T' := T5) (pc' := 40) (L' := #[.val (.int (i.toInt32)), .val (.ref xa), .val (.ref xb), .val (.int ((i - 2 - na).toInt32))]) (S' := []) (fun t_ k_ => XS.ifYes X5.here hx rfl (pc0 := 34) (pc' := 40) rfl (hb hby d40_34) rfl ((if0 _ _).trans (feq hc34_6).2) (by decide) (by decide) k_) ?_
        have g3 : ¬ (i - 2 - na) = 0 := fun z => hc34_6 ((own_inj (m := (i - 2 - na)) (n := 0) (by omega) (by omega)).mpr z)
        refine Go.st (T' := T5) (pc' := 41) (L' := #[.val (.int (i.toInt32)), .val (.ref xa), .val (.ref xb), .val (.int ((i - 2 - na).toInt32))]) (S' := [(.int ((i - 2 - na).toInt32))]) (fun t_ k_ => XS.iloadN X5.here hx rfl (hb hby d40_40) rfl  k_) ?_
        refine Go.st (T' := T5) (pc' := 42) (L' := #[.val (.int (i.toInt32)), .val (.ref xa), .val (.ref xb), .val (.int ((i - 2 - na).toInt32))]) (S' := [(.int (1 : Int32)), (.int ((i - 2 - na).toInt32))]) (fun t_ k_ => XS.iconst X5.here hx rfl (hb hby d40_41) k_) ?_
        by_cases hc42_7 : ((i - 2 - na).toInt32) = (1 : Int32)
        · refine Go.st (T' := T5) (pc' := 45) (L' := #[.val (.int (i.toInt32)), .val (.ref xa), .val (.ref xb), .val (.int ((i - 2 - na).toInt32))]) (S' := []) (fun t_ k_ => XS.icmpNo X5.here hx rfl (hb hby d40_42) rfl (teq hc42_7).2 k_) ?_
          have g4 : (i - 2 - na) = 1 := (own_inj (m := (i - 2 - na)) (n := 1) (by omega) (by omega)).mp hc42_7
          refine Go.st (T' := T5) (pc' := 47) (L' := #[.val (.int (i.toInt32)), .val (.ref xa), .val (.ref xb), .val (.int ((i - 2 - na).toInt32))]) (S' := [(.int (32 : Int32))]) (fun t_ k_ => XS.bipush X5.here hx rfl (hb hby d40_45) k_) ?_
          exact Go.retN X5 hx hlk hret (by simp) (hb hby d40_47) (by decide) (by decide) (by rw [e5]; exact ⟨_, rfl, (by rw [own_ex, if_neg g1, if_neg g2, if_neg g3, if_pos g4]), N5, rfl⟩)
        · refine Go.st (T' := T5) (pc' := 48) (L' := #[.val (.int (i.toInt32)), .val (.ref xa), .val (.ref xb), .val (.int ((i - 2 - na).toInt32))]) (S' := []) (fun t_ k_ => XS.icmpYes X5.here hx rfl (pc0 := 42) (pc' := 48) rfl (hb hby d40_42) rfl (feq hc42_7).2 (by decide) (by decide) k_) ?_
          have g4 : ¬ (i - 2 - na) = 1 := fun z => hc42_7 ((own_inj (m := (i - 2 - na)) (n := 1) (by omega) (by omega)).mpr z)
          refine Go.st (T' := T5) (pc' := 49) (L' := #[.val (.int (i.toInt32)), .val (.ref xa), .val (.ref xb), .val (.int ((i - 2 - na).toInt32))]) (S' := [(.ref xb)]) (fun t_ k_ => XS.aloadN X5.here hx rfl (hb hby d40_48) rfl rfl  k_) ?_
          refine Go.st (T' := T5) (pc' := 50) (L' := #[.val (.int (i.toInt32)), .val (.ref xa), .val (.ref xb), .val (.int ((i - 2 - na).toInt32))]) (S' := [(.int ((i - 2 - na).toInt32)), (.ref xb)]) (fun t_ k_ => XS.iloadN X5.here hx rfl (hb hby d40_49) rfl  k_) ?_
          refine Go.st (T' := T5) (pc' := 51) (L' := #[.val (.int (i.toInt32)), .val (.ref xa), .val (.ref xb), .val (.int ((i - 2 - na).toInt32))]) (S' := [(.int (2 : Int32)), (.int ((i - 2 - na).toInt32)), (.ref xb)]) (fun t_ k_ => XS.iconst X5.here hx rfl (hb hby d40_50) k_) ?_
          refine Go.st (T' := T5) (pc' := 52) (L' := #[.val (.int (i.toInt32)), .val (.ref xa), .val (.ref xb), .val (.int ((i - 2 - na).toInt32))]) (S' := [(.int (((i - 2 - na).toInt32) - (2 : Int32))), (.ref xb)]) (fun t_ k_ => XS.isub X5.here hx rfl (hb hby d40_51) rfl k_) ?_
          rw [show (i - 2 - na).toInt32 - (2 : Int32) = (i - 2 - na - 2).toInt32 from own_subN (a := i - 2 - na) (b := 2) (by omega) (by omega)]
          obtain ⟨cq8, kq8, q8a, q8b, q8c⟩ := isOf hZ e5 E_xb
          obtain ⟨_, _, ⟨T8, L8, k8, n8⟩, -, X8, ⟨Lc8, hQ8, l8, y8, z8⟩, st8⟩ := X5.virtualBack hx (y := (⟨"java/lang/String", "charAt", "(I)C"⟩ : MethodName)) (z := (⟨"java/lang/String", "charAt", "(I)C"⟩ : MethodName)) hown (mvT hZ (hw _ (List.mem_of_getElem? (i := 212) rfl))) (mvT hZ (hw _ (List.mem_of_getElem? (i := 213) rfl))) (notFace_of_selects (args := #[]) (mvT hZ (hw _ (List.mem_of_getElem? (i := 215) rfl)))) (mvT hZ (hw _ (List.mem_of_getElem? (i := 215) rfl))) (mvT hZ (hw _ (List.mem_of_getElem? (i := 214) rfl))) (by decide) (backOf (W := 0) (rm35 l Z a0 hw [] xb ub _ (Lb) ((i - 2 - na - 2)) (nb) fm gC h0 n0 Z0 SC PC O0 hfm SF E_xb Fc_xb Fv_xb V_ub (by omega) (by omega)) hZ (hw _ (List.mem_of_getElem? (i := 216) rfl)) (hw _ (List.mem_of_getElem? (i := 6) rfl)) (by decide) (by decide)) q8a q8c (g := (mkF m 52 #[.val (.int (i.toInt32)), .val (.ref xa), .val (.ref xb), .val (.int ((i - 2 - na).toInt32))] [(.int ((i - 2 - na - 2).toInt32)), (.ref xb)])) rfl (by rw [hml]; rfl) (Steps.refl _) (argsL := [(.int ((i - 2 - na - 2).toInt32))]) (rest := []) (lenOf pd_22 rfl) rfl (by show 2 * 0 + _ ≤ _; exact Nat.le_of_eq rfl) (hb hby d40_52) (fun _ _ => ⟨rfl, e5, (by decide : 0 + 0 ≤ _), (by decide : 0 + 0 ≤ _)⟩)
          dsimp only [Pt.U, Pt.locs, Pt.cells, Pt.slots] at X8 l8 y8 z8 st8 hQ8
          subst l8 y8 z8
          unfold Q35 at hQ8
          generalize hx8 : own_ch _ = xc8 at hQ8
          obtain ⟨rfl, N8q, e8⟩ := hQ8
          have N8 := Fr.app N5 N8q
          refine Go.tr (T' := T8) (pc' := 55) (L' := #[.val (.int (i.toInt32)), .val (.ref xa), .val (.ref xb), .val (.int ((i - 2 - na).toInt32))]) (S' := [(.int xc8)]) st8 ?_
          exact Go.retN X8 hx hlk hret (by simp) (hb hby d40_55) (by decide) (by decide) (by rw [e8]; exact ⟨_, rfl, (by rw [own_ex, if_neg g1, if_neg g2, if_neg g3, if_neg g4, ← hx8]), N8, rfl⟩)
theorem d34_0 : decode method_4_code 0 = .ok (.iload_n 2, 1) := by decide +kernel
theorem d34_1 : decode method_4_code 1 = .ok (.iload_n 1, 1) := by decide +kernel
theorem d34_2 : decode method_4_code 2 = .ok (.if_icmp .lt 5, 3) := by decide +kernel
theorem d34_5 : decode method_4_code 5 = .ok (.iconst 1, 1) := by decide +kernel
theorem d34_6 : decode method_4_code 6 = .ok (.ireturn, 1) := by decide +kernel
theorem d34_7 : decode method_4_code 7 = .ok (.aload_n 0, 1) := by decide +kernel
theorem d34_8 : decode method_4_code 8 = .ok (.iload_n 2, 1) := by decide +kernel
theorem d34_9 : decode method_4_code 9 = .ok (.invokevirtual 16, 3) := by decide +kernel
theorem d34_12 : decode method_4_code 12 = .ok (.iload_n 2, 1) := by decide +kernel
theorem d34_13 : decode method_4_code 13 = .ok (.aload_n 3, 1) := by decide +kernel
theorem d34_14 : decode method_4_code 14 = .ok (.aload 4, 2) := by decide +kernel
theorem d34_16 : decode method_4_code 16 = .ok (.invokestatic 20, 3) := by decide +kernel
theorem d34_19 : decode method_4_code 19 = .ok (.if_icmp .ne 7, 3) := by decide +kernel
theorem d34_22 : decode method_4_code 22 = .ok (.iconst 1, 1) := by decide +kernel
theorem d34_23 : decode method_4_code 23 = .ok (.goto 4, 3) := by decide +kernel
theorem d34_27 : decode method_4_code 27 = .ok (.ireturn, 1) := by decide +kernel
theorem pd_23 : parseMethodDescriptor "(ILjava/lang/String;Ljava/lang/String;)C" = some ⟨[.int, (.object "java/lang/String"), (.object "java/lang/String")], some .char⟩ := by decide +kernel
def Qat (Z : State)  (h0 : Heap) (n0 : Nat) (v : Option Value) (h : Heap) (L : List Loc) : Prop := v = some (.int 1) ∧ Fr n0 L ∧ h = h0
def roomat : Room := { frames := 5, cells := 0, slots := 0, locals := 69 }
set_option maxRecDepth 65536 in
set_option maxHeartbeats 40000000 in
theorem rmat (l : Launch) (Z : State) (a0 : Array Value) (hw : ∀ d ∈ tables_1, d.before a0 Z = true) (ws : List Jvm.Cond) (xm : Addr) (um : Addr) (qm : ClassId) (Lm : List Int32) (len : Nat) (i : Nat) (xa : Addr) (ua : Addr) (qa : ClassId) (La : List Int32) (na : Nat) (xb : Addr) (ub : Addr) (qb : ClassId) (Lb : List Int32) (nb : Nat) (fm : Value) (gC : Int32) (h0 : Heap) (n0 : Nat) (Z0 : n0 ≤ h0.size) (SC : Sta Z Z.heap "java/lang/String" "COMPACT_STRINGS" "Z" (.int gC)) (PC : ¬ (gC = (0 : Int32))) (O0 : Old Z n0 h0) (hfm : fm.isRef = true) (SF : Sta Z Z.heap "jdk/internal/util/Preconditions" "SIOOBE_FORMATTER" "Ljava/util/function/BiFunction;" fm) (E_xm : Exa Z h0 xm "java/lang/String") (Fc_xm : Fld Z h0 xm "java/lang/String" "coder" "B" (.int (0 : Int32))) (Fv_xm : Fld Z h0 xm "java/lang/String" "value" "[B" (.ref um)) (V_um : Arv Z h0 um qm .byte (len.toInt32) (Lm.map Value.int) (.int (0 : Int32))) (lm : Lm.length = len) (hlen : len = 0 + 2 + na + 2 + nb) (hi8 : i < 8) (E_xa : Exa Z h0 xa "java/lang/String") (Fc_xa : Fld Z h0 xa "java/lang/String" "coder" "B" (.int (0 : Int32))) (Fv_xa : Fld Z h0 xa "java/lang/String" "value" "[B" (.ref ua)) (V_ua : Arv Z h0 ua qa .byte (na.toInt32) (La.map Value.int) (.int (0 : Int32))) (la : La.length = na) (ra : na ≤ 2) (E_xb : Exa Z h0 xb "java/lang/String") (Fc_xb : Fld Z h0 xb "java/lang/String" "coder" "B" (.int (0 : Int32))) (Fv_xb : Fld Z h0 xb "java/lang/String" "value" "[B" (.ref ub)) (V_ub : Arv Z h0 ub qb .byte (nb.toInt32) (Lb.map Value.int) (.int (0 : Int32))) (lb : Lb.length = nb) (rb : nb ≤ 2) (hM : ∀ i, i < len → own_ch (Lm.getD i 0) = nar .char (own_ex i na La Lb)) :
    MetFree l (⟨"com/example/yusenkabu/yusenkabu/cli/InputExceptionOptionPinLaw", "at", "(Ljava/lang/String;IILjava/lang/String;Ljava/lang/String;)Z"⟩ : MethodName) (head1 (Jvm.Cond.code (⟨"com/example/yusenkabu/yusenkabu/cli/InputExceptionOptionPinLaw", "at", "(Ljava/lang/String;IILjava/lang/String;Ljava/lang/String;)Z"⟩ : MethodName) method_4_code 5 (some .boolean) :: ws) roomat) (fun aa_ U_ => aa_ = #[(.ref xm), (.int (len.toInt32)), (.int (i.toInt32)), (.ref xa), (.ref xb)] ∧ Z.Warmed39 U_.vm ∧ U_.heap = h0) (fun _ _ _ _ _ => True) (fun _ U_ o_ W_ => ∃ v_ L_, o_ = .returned v_ ∧ (Qat Z  h0 n0) v_ W_.heap L_ ∧ FrameEnd U_ o_ W_ L_ roomat.cells roomat.slots) := by
  refine own_met (Q := (Qat Z  h0 n0)) (L0 := #[.val (.ref xm), .val (.int (len.toInt32)), .val (.int (i.toInt32)), .val (.ref xa), .val (.ref xb)]) (plainFor_of_name pn_6) (fun m => by first | (simp [entryFrame, mkF, argsToLocals, Value.category]; done) | rfl) ?_
  intro p e s m below meth c T0 X0 hx hby hml hown hnm hret hlk hZ e0
  have N0 := Fr.nil n0
  refine Go.st (T' := T0) (pc' := 1) (L' := #[.val (.ref xm), .val (.int (len.toInt32)), .val (.int (i.toInt32)), .val (.ref xa), .val (.ref xb)]) (S' := [(.int (i.toInt32))]) (fun t_ k_ => XS.iloadN X0.here hx rfl (hb hby d34_0) rfl  k_) ?_
  refine Go.st (T' := T0) (pc' := 2) (L' := #[.val (.ref xm), .val (.int (len.toInt32)), .val (.int (i.toInt32)), .val (.ref xa), .val (.ref xb)]) (S' := [(.int (len.toInt32)), (.int (i.toInt32))]) (fun t_ k_ => XS.iloadN X0.here hx rfl (hb hby d34_1) rfl  k_) ?_
  by_cases hc2_1 : (i.toInt32) < (len.toInt32)
  · refine Go.st (T' := T0) (pc' := 7) (L' := #[.val (.ref xm), .val (.int (len.toInt32)), .val (.int (i.toInt32)), .val (.ref xa), .val (.ref xb)]) (S' := []) (fun t_ k_ => XS.icmpYes X0.here hx rfl (pc0 := 2) (pc' := 7) rfl (hb hby d34_2) rfl (tlt hc2_1).1 (by decide) (by decide) k_) ?_
    have hil : i < len := (own_ltI (m := i) (n := len) (by omega) (by omega)).mp hc2_1
    have hi : i < 4 + na + nb := by omega
    refine Go.st (T' := T0) (pc' := 8) (L' := #[.val (.ref xm), .val (.int (len.toInt32)), .val (.int (i.toInt32)), .val (.ref xa), .val (.ref xb)]) (S' := [(.ref xm)]) (fun t_ k_ => XS.aloadN X0.here hx rfl (hb hby d34_7) rfl rfl  k_) ?_
    refine Go.st (T' := T0) (pc' := 9) (L' := #[.val (.ref xm), .val (.int (len.toInt32)), .val (.int (i.toInt32)), .val (.ref xa), .val (.ref xb)]) (S' := [(.int (i.toInt32)), (.ref xm)]) (fun t_ k_ => XS.iloadN X0.here hx rfl (hb hby d34_8) rfl  k_) ?_
    obtain ⟨cq2, kq2, q2a, q2b, q2c⟩ := isOf hZ e0 E_xm
    obtain ⟨_, _, ⟨T2, L2, k2, n2⟩, -, X2, ⟨Lc2, hQ2, l2, y2, z2⟩, st2⟩ := X0.virtualBack hx (y := (⟨"java/lang/String", "charAt", "(I)C"⟩ : MethodName)) (z := (⟨"java/lang/String", "charAt", "(I)C"⟩ : MethodName)) hown (mvT hZ (hw _ (List.mem_of_getElem? (i := 212) rfl))) (mvT hZ (hw _ (List.mem_of_getElem? (i := 213) rfl))) (notFace_of_selects (args := #[]) (mvT hZ (hw _ (List.mem_of_getElem? (i := 215) rfl)))) (mvT hZ (hw _ (List.mem_of_getElem? (i := 215) rfl))) (mvT hZ (hw _ (List.mem_of_getElem? (i := 214) rfl))) (by decide) (backOf (W := 0) (rm35 l Z a0 hw [] xm um _ (Lm) (i) (len) fm gC h0 n0 Z0 SC PC O0 hfm SF E_xm Fc_xm Fv_xm V_um (by omega) (by omega)) hZ (hw _ (List.mem_of_getElem? (i := 216) rfl)) (hw _ (List.mem_of_getElem? (i := 6) rfl)) (by decide) (by decide)) q2a q2c (g := (mkF m 9 #[.val (.ref xm), .val (.int (len.toInt32)), .val (.int (i.toInt32)), .val (.ref xa), .val (.ref xb)] [(.int (i.toInt32)), (.ref xm)])) rfl (by rw [hml]; rfl) (Steps.refl _) (argsL := [(.int (i.toInt32))]) (rest := []) (lenOf pd_22 rfl) rfl (by show 2 * 0 + _ ≤ _; exact Nat.le_of_eq rfl) (hb hby d34_9) (fun _ _ => ⟨rfl, e0, (by decide : 0 + 0 ≤ _), (by decide : 0 + 0 ≤ _)⟩)
    dsimp only [Pt.U, Pt.locs, Pt.cells, Pt.slots] at X2 l2 y2 z2 st2 hQ2
    subst l2 y2 z2
    unfold Q35 at hQ2
    generalize hx2 : own_ch _ = xc2 at hQ2
    obtain ⟨rfl, N2q, e2⟩ := hQ2
    have N2 := Fr.app N0 N2q
    refine Go.tr (T' := T2) (pc' := 12) (L' := #[.val (.ref xm), .val (.int (len.toInt32)), .val (.int (i.toInt32)), .val (.ref xa), .val (.ref xb)]) (S' := [(.int xc2)]) st2 ?_
    refine Go.st (T' := T2) (pc' := 13) (L' := #[.val (.ref xm), .val (.int (len.toInt32)), .val (.int (i.toInt32)), .val (.ref xa), .val (.ref xb)]) (S' := [(.int (i.toInt32)), (.int xc2)]) (fun t_ k_ => XS.iloadN X2.here hx rfl (hb hby d34_12) rfl  k_) ?_
    refine Go.st (T' := T2) (pc' := 14) (L' := #[.val (.ref xm), .val (.int (len.toInt32)), .val (.int (i.toInt32)), .val (.ref xa), .val (.ref xb)]) (S' := [(.ref xa), (.int (i.toInt32)), (.int xc2)]) (fun t_ k_ => XS.aloadN X2.here hx rfl (hb hby d34_13) rfl rfl  k_) ?_
    refine Go.st (T' := T2) (pc' := 16) (L' := #[.val (.ref xm), .val (.int (len.toInt32)), .val (.int (i.toInt32)), .val (.ref xa), .val (.ref xb)]) (S' := [(.ref xb), (.ref xa), (.int (i.toInt32)), (.int xc2)]) (fun t_ k_ => XS.aload X2.here hx rfl (hb hby d34_14) rfl rfl  k_) ?_
    obtain ⟨_, _, ⟨T3, L3, k3, n3⟩, -, X3, ⟨Lc3, hQ3, l3, y3, z3⟩, st3⟩ := Jvm.LawKit.callS X2 hx (y := (⟨"com/example/yusenkabu/yusenkabu/cli/InputExceptionOptionPinLaw", "expectedAt", "(ILjava/lang/String;Ljava/lang/String;)C"⟩ : MethodName)) hown (mvT hZ (hw _ (List.mem_of_getElem? (i := 234) rfl))) (mvT hZ (hw _ (List.mem_of_getElem? (i := 235) rfl))) (mvT hZ (hw _ (List.mem_of_getElem? (i := 2) rfl))) (mvT hZ (hw _ (List.mem_of_getElem? (i := 236) rfl))) (by decide) (backOf (W := 1) (rmexa l Z a0 hw [] i xa ua _ (La) (na) xb ub _ (Lb) (nb) fm gC h0 n0 Z0 SC PC O0 hfm SF E_xa Fc_xa Fv_xa V_ua la (by omega) E_xb Fc_xb Fv_xb V_ub lb (by omega) hi) hZ (hw _ (List.mem_of_getElem? (i := 236) rfl)) (hw _ (List.mem_of_getElem? (i := 2) rfl)) (by decide) (by decide)) (g := (mkF m 16 #[.val (.ref xm), .val (.int (len.toInt32)), .val (.int (i.toInt32)), .val (.ref xa), .val (.ref xb)] [(.ref xb), (.ref xa), (.int (i.toInt32)), (.int xc2)])) rfl (by rw [hml]; rfl) (argsL := [(.int (i.toInt32)), (.ref xa), (.ref xb)]) (rest := [(.int xc2)]) (lenOf pd_23 rfl) rfl (by show 2 * 0 + _ ≤ _; exact Nat.le_of_eq rfl) (hb hby d34_16) (fun _ _ => ⟨rfl, e2, (by decide : 0 + 0 ≤ _), (by decide : 0 + 0 ≤ _)⟩)
    dsimp only [Pt.U, Pt.locs, Pt.cells, Pt.slots] at X3 l3 y3 z3 st3 hQ3
    subst l3 y3 z3
    obtain ⟨xe3, rfl, he3, N3q, e3⟩ := hQ3
    have N3 := Fr.app N2 N3q
    refine Go.st (T' := T3) (pc' := 19) (L' := #[.val (.ref xm), .val (.int (len.toInt32)), .val (.int (i.toInt32)), .val (.ref xa), .val (.ref xb)]) (S' := [(.int xe3), (.int xc2)]) st3 ?_
    refine Go.st (T' := T3) (pc' := 22) (L' := #[.val (.ref xm), .val (.int (len.toInt32)), .val (.int (i.toInt32)), .val (.ref xa), .val (.ref xb)]) (S' := []) (fun t_ k_ => XS.icmpNo X3.here hx rfl (hb hby d34_19) rfl (teq (hx2.symm.trans ((hM i hil).trans he3.symm) : (xc2 = xe3))).2 k_) ?_
    refine Go.st (T' := T3) (pc' := 23) (L' := #[.val (.ref xm), .val (.int (len.toInt32)), .val (.int (i.toInt32)), .val (.ref xa), .val (.ref xb)]) (S' := [(.int (1 : Int32))]) (fun t_ k_ => XS.iconst X3.here hx rfl (hb hby d34_22) k_) ?_
    refine Go.st (T' := T3) (pc' := 27) (L' := #[.val (.ref xm), .val (.int (len.toInt32)), .val (.int (i.toInt32)), .val (.ref xa), .val (.ref xb)]) (S' := [(.int (1 : Int32))]) (fun t_ k_ => XS.goto X3.here hx rfl (pc0 := 23) (pc' := 27) rfl (hb hby d34_23) (by decide) (by decide) k_) ?_
    exact Go.retN X3 hx hlk hret (by simp) (hb hby d34_27) (by decide) (by decide) (by rw [e3]; exact ⟨rfl, N3, rfl⟩)
  · refine Go.st (T' := T0) (pc' := 5) (L' := #[.val (.ref xm), .val (.int (len.toInt32)), .val (.int (i.toInt32)), .val (.ref xa), .val (.ref xb)]) (S' := []) (fun t_ k_ => XS.icmpNo X0.here hx rfl (hb hby d34_2) rfl (flt hc2_1).1 k_) ?_
    have hil : ¬ i < len := fun z => hc2_1 ((own_ltI (m := i) (n := len) (by omega) (by omega)).mpr z)
    refine Go.st (T' := T0) (pc' := 6) (L' := #[.val (.ref xm), .val (.int (len.toInt32)), .val (.int (i.toInt32)), .val (.ref xa), .val (.ref xb)]) (S' := [(.int (1 : Int32))]) (fun t_ k_ => XS.iconst X0.here hx rfl (hb hby d34_5) k_) ?_
    exact Go.retN X0 hx hlk hret (by simp) (hb hby d34_6) (by decide) (by decide) (by rw [e0]; exact ⟨rfl, N0, rfl⟩)
theorem own_len4 {a b : Nat} (ha : a ≤ 2) (hb : b ≤ 2) : ((4 : Int32) + a.toInt32) + b.toInt32 = (0 + 2 + a + 2 + b : Nat).toInt32 := by
  rw [show (4 : Int32) + a.toInt32 = (4 + a).toInt32 from own_addN (m := 4) (n := a) (by omega), own_addN (by omega), show 4 + a + b = 0 + 2 + a + 2 + b from by omega]
theorem pd_24 : parseMethodDescriptor "(CCI)Ljava/lang/String;" = some ⟨[.char, .char, .int], some (.object "java/lang/String")⟩ := by decide +kernel
theorem pd_25 : parseMethodDescriptor "(Ljava/lang/String;Ljava/lang/String;)Lcom/example/yusenkabu/yusenkabu/cli/InputException;" = some ⟨[(.object "java/lang/String"), (.object "java/lang/String")], some (.object "com/example/yusenkabu/yusenkabu/cli/InputException")⟩ := by decide +kernel
theorem pd_26 : parseMethodDescriptor "()Ljava/lang/Throwable;" = some ⟨[], some (.object "java/lang/Throwable")⟩ := by decide +kernel
theorem pd_27 : parseMethodDescriptor "(Ljava/lang/String;IILjava/lang/String;Ljava/lang/String;)Z" = some ⟨[(.object "java/lang/String"), .int, .int, (.object "java/lang/String"), (.object "java/lang/String")], some .boolean⟩ := by decide +kernel
def Q0 (Z : State)  (h0 : Heap) (n0 : Nat) (v : Option Value) (h : Heap) (L : List Loc) : Prop := v = some (.int 1) ∧ Fr n0 L
set_option maxRecDepth 65536 in
set_option maxHeartbeats 40000000 in
theorem rm0 (l : Launch) (Z : State) (a0 : Array Value) (hw : ∀ d ∈ tables_1, d.before a0 Z = true) (ws : List Jvm.Cond) (p1 : Int32) (p2 : Int32) (p3 : Int32) (p4 : Int32) (p5 : Int32) (vU vS : Value) (gC : Int32) (fm : Value) (h0 : Heap) (n0 : Nat) (Z0 : n0 ≤ h0.size) (SC : Sta Z Z.heap "java/lang/String" "COMPACT_STRINGS" "Z" (.int gC)) (PC : ¬ (gC = (0 : Int32))) (O0 : Old Z n0 h0) (hfm : fm.isRef = true) (SF : Sta Z Z.heap "jdk/internal/util/Preconditions" "SIOOBE_FORMATTER" "Ljava/util/function/BiFunction;" fm) (hvU : vU.isRef = true) (hvS : vS.isRef = true) (SU : Sta Z Z.heap "java/lang/Throwable" "UNASSIGNED_STACK" "[Ljava/lang/StackTraceElement;" vU) (SS : Sta Z Z.heap "java/lang/Throwable" "SUPPRESSED_SENTINEL" "Ljava/util/List;" vS) (hl : l.stackTraces = true) :
    MetFree l x (head1 (Jvm.Cond.code x code maxLocals ret :: ws) room_1) (fun aa_ U_ => aa_ = #[(.int p1), (.int p2), (.int p3), (.int p4), (.int p5)] ∧ Z.Warmed39 U_.vm ∧ U_.heap = h0 ∧ CHv Z EL U_.vm h0) (fun _ _ bl s _ => s.vm.MethodsKnown ∧ s.vm.FramesKnown bl) (fun _ U_ o_ W_ => ∃ v_ L_, o_ = .returned v_ ∧ (Q0 Z  h0 n0) v_ W_.heap L_ ∧ CHr Z EL U_.vm U_.heap W_.vm W_.heap ∧ ReturnedEndW U_ o_ W_ L_ room_1.cells room_1.slots) := by
  refine own_metHK (Q := (Q0 Z  h0 n0)) (L0 := #[.val (.int p1), .val (.int p2), .val (.int p3), .val (.int p4), .val (.int p5), .unset, .unset, .unset, .unset, .unset, .unset, .unset]) (plainFor_of_name pn_6) (fun m => by first | (simp [entryFrame, mkF, argsToLocals, Value.category, maxLocals]; done) | rfl) ?_
  intro p e s m below meth c T0 X0 hx hby hml hown hnm hret hlk hZ e0 hs0 CR hS hk hTK hBelow
  have N0 := Fr.nil n0
  refine GoH.st (T' := T0) (pc' := 2) (L' := #[.val (.int p1), .val (.int p2), .val (.int p3), .val (.int p4), .val (.int p5), .unset, .unset, .unset, .unset, .unset, .unset, .unset]) (S' := [(.int p5)]) (fun t_ k_ => XS.iload X0.here hx rfl (hb hby at_0) rfl  k_) ?_
  refine GoH.st (T' := T0) (pc' := 3) (L' := #[.val (.int p1), .val (.int p2), .val (.int p3), .val (.int p4), .val (.int p5), .unset, .unset, .unset, .unset, .unset, .unset, .unset]) (S' := [(.int (3 : Int32)), (.int p5)]) (fun t_ k_ => XS.iconst X0.here hx rfl (hb hby at_2) k_) ?_
  refine GoH.st (T' := T0) (pc' := 4) (L' := #[.val (.int p1), .val (.int p2), .val (.int p3), .val (.int p4), .val (.int p5), .unset, .unset, .unset, .unset, .unset, .unset, .unset]) (S' := [(.int (p5 &&& (3 : Int32)))]) (fun t_ k_ => XS.iand X0.here hx rfl (hb hby at_3) rfl k_) ?_
  refine GoH.st (T' := T0) (pc' := 5) (L' := #[.val (.int p1), .val (.int p2), .val (.int p3), .val (.int p4), .val (.int p5), .unset, .unset, .unset, .unset, .unset, .unset, .unset]) (S' := [(.int (3 : Int32)), (.int (p5 &&& (3 : Int32)))]) (fun t_ k_ => XS.iconst X0.here hx rfl (hb hby at_4) k_) ?_
  refine GoH.st (T' := T0) (pc' := 6) (L' := #[.val (.int p1), .val (.int p2), .val (.int p3), .val (.int p4), .val (.int p5), .unset, .unset, .unset, .unset, .unset, .unset, .unset]) (S' := [(.int ((p5 &&& (3 : Int32)) % (3 : Int32)))]) (fun t_ k_ => iremM X0 hx rfl (hb hby at_5) rfl (by decide) k_) ?_
  refine GoH.st (T' := T0) (pc' := 8) (L' := #[.val (.int p1), .val (.int p2), .val (.int p3), .val (.int p4), .val (.int p5), .val (.int ((p5 &&& (3 : Int32)) % (3 : Int32))), .unset, .unset, .unset, .unset, .unset, .unset]) (S' := []) (fun t_ k_ => XS.istore X0.here hx rfl (hb hby at_6) rfl (l' := #[.val (.int p1), .val (.int p2), .val (.int p3), .val (.int p4), .val (.int p5), .val (.int ((p5 &&& (3 : Int32)) % (3 : Int32))), .unset, .unset, .unset, .unset, .unset, .unset]) rfl k_) ?_
  refine GoH.st (T' := T0) (pc' := 10) (L' := #[.val (.int p1), .val (.int p2), .val (.int p3), .val (.int p4), .val (.int p5), .val (.int ((p5 &&& (3 : Int32)) % (3 : Int32))), .unset, .unset, .unset, .unset, .unset, .unset]) (S' := [(.int p5)]) (fun t_ k_ => XS.iload X0.here hx rfl (hb hby at_8) rfl  k_) ?_
  refine GoH.st (T' := T0) (pc' := 11) (L' := #[.val (.int p1), .val (.int p2), .val (.int p3), .val (.int p4), .val (.int p5), .val (.int ((p5 &&& (3 : Int32)) % (3 : Int32))), .unset, .unset, .unset, .unset, .unset, .unset]) (S' := [(.int (2 : Int32)), (.int p5)]) (fun t_ k_ => XS.iconst X0.here hx rfl (hb hby at_10) k_) ?_
  refine GoH.st (T' := T0) (pc' := 12) (L' := #[.val (.int p1), .val (.int p2), .val (.int p3), .val (.int p4), .val (.int p5), .val (.int ((p5 &&& (3 : Int32)) % (3 : Int32))), .unset, .unset, .unset, .unset, .unset, .unset]) (S' := [(.int ((p5.toUInt32 >>> ((2 : Int32) &&& 31).toUInt32).toInt32))]) (fun t_ k_ => XS.iushr X0.here hx rfl (hb hby at_11) rfl k_) ?_
  refine GoH.st (T' := T0) (pc' := 13) (L' := #[.val (.int p1), .val (.int p2), .val (.int p3), .val (.int p4), .val (.int p5), .val (.int ((p5 &&& (3 : Int32)) % (3 : Int32))), .unset, .unset, .unset, .unset, .unset, .unset]) (S' := [(.int (3 : Int32)), (.int ((p5.toUInt32 >>> ((2 : Int32) &&& 31).toUInt32).toInt32))]) (fun t_ k_ => XS.iconst X0.here hx rfl (hb hby at_12) k_) ?_
  refine GoH.st (T' := T0) (pc' := 14) (L' := #[.val (.int p1), .val (.int p2), .val (.int p3), .val (.int p4), .val (.int p5), .val (.int ((p5 &&& (3 : Int32)) % (3 : Int32))), .unset, .unset, .unset, .unset, .unset, .unset]) (S' := [(.int (((p5.toUInt32 >>> ((2 : Int32) &&& 31).toUInt32).toInt32) &&& (3 : Int32)))]) (fun t_ k_ => XS.iand X0.here hx rfl (hb hby at_13) rfl k_) ?_
  refine GoH.st (T' := T0) (pc' := 15) (L' := #[.val (.int p1), .val (.int p2), .val (.int p3), .val (.int p4), .val (.int p5), .val (.int ((p5 &&& (3 : Int32)) % (3 : Int32))), .unset, .unset, .unset, .unset, .unset, .unset]) (S' := [(.int (3 : Int32)), (.int (((p5.toUInt32 >>> ((2 : Int32) &&& 31).toUInt32).toInt32) &&& (3 : Int32)))]) (fun t_ k_ => XS.iconst X0.here hx rfl (hb hby at_14) k_) ?_
  refine GoH.st (T' := T0) (pc' := 16) (L' := #[.val (.int p1), .val (.int p2), .val (.int p3), .val (.int p4), .val (.int p5), .val (.int ((p5 &&& (3 : Int32)) % (3 : Int32))), .unset, .unset, .unset, .unset, .unset, .unset]) (S' := [(.int ((((p5.toUInt32 >>> ((2 : Int32) &&& 31).toUInt32).toInt32) &&& (3 : Int32)) % (3 : Int32)))]) (fun t_ k_ => iremM X0 hx rfl (hb hby at_15) rfl (by decide) k_) ?_
  refine GoH.st (T' := T0) (pc' := 18) (L' := #[.val (.int p1), .val (.int p2), .val (.int p3), .val (.int p4), .val (.int p5), .val (.int ((p5 &&& (3 : Int32)) % (3 : Int32))), .val (.int ((((p5.toUInt32 >>> ((2 : Int32) &&& 31).toUInt32).toInt32) &&& (3 : Int32)) % (3 : Int32))), .unset, .unset, .unset, .unset, .unset]) (S' := []) (fun t_ k_ => XS.istore X0.here hx rfl (hb hby at_16) rfl (l' := #[.val (.int p1), .val (.int p2), .val (.int p3), .val (.int p4), .val (.int p5), .val (.int ((p5 &&& (3 : Int32)) % (3 : Int32))), .val (.int ((((p5.toUInt32 >>> ((2 : Int32) &&& 31).toUInt32).toInt32) &&& (3 : Int32)) % (3 : Int32))), .unset, .unset, .unset, .unset, .unset]) rfl k_) ?_
  refine GoH.st (T' := T0) (pc' := 19) (L' := #[.val (.int p1), .val (.int p2), .val (.int p3), .val (.int p4), .val (.int p5), .val (.int ((p5 &&& (3 : Int32)) % (3 : Int32))), .val (.int ((((p5.toUInt32 >>> ((2 : Int32) &&& 31).toUInt32).toInt32) &&& (3 : Int32)) % (3 : Int32))), .unset, .unset, .unset, .unset, .unset]) (S' := [(.int p1)]) (fun t_ k_ => XS.iloadN X0.here hx rfl (hb hby at_18) rfl  k_) ?_
  refine GoH.st (T' := T0) (pc' := 22) (L' := #[.val (.int p1), .val (.int p2), .val (.int p3), .val (.int p4), .val (.int p5), .val (.int ((p5 &&& (3 : Int32)) % (3 : Int32))), .val (.int ((((p5.toUInt32 >>> ((2 : Int32) &&& 31).toUInt32).toInt32) &&& (3 : Int32)) % (3 : Int32))), .unset, .unset, .unset, .unset, .unset]) (S' := [(.int (255 : Int32)), (.int p1)]) (fun t_ k_ => XS.sipush X0.here hx rfl (hb hby at_19) k_) ?_
  refine GoH.st (T' := T0) (pc' := 23) (L' := #[.val (.int p1), .val (.int p2), .val (.int p3), .val (.int p4), .val (.int p5), .val (.int ((p5 &&& (3 : Int32)) % (3 : Int32))), .val (.int ((((p5.toUInt32 >>> ((2 : Int32) &&& 31).toUInt32).toInt32) &&& (3 : Int32)) % (3 : Int32))), .unset, .unset, .unset, .unset, .unset]) (S' := [(.int (p1 &&& (255 : Int32)))]) (fun t_ k_ => XS.iand X0.here hx rfl (hb hby at_22) rfl k_) ?_
  refine GoH.st (T' := T0) (pc' := 24) (L' := #[.val (.int p1), .val (.int p2), .val (.int p3), .val (.int p4), .val (.int p5), .val (.int ((p5 &&& (3 : Int32)) % (3 : Int32))), .val (.int ((((p5.toUInt32 >>> ((2 : Int32) &&& 31).toUInt32).toInt32) &&& (3 : Int32)) % (3 : Int32))), .unset, .unset, .unset, .unset, .unset]) (S' := [(.int ((p1 &&& (255 : Int32)).toUInt32.toUInt16.toUInt32.toInt32))]) (fun t_ k_ => XS.i2c X0.here hx rfl (hb hby at_23) rfl k_) ?_
  refine GoH.st (T' := T0) (pc' := 25) (L' := #[.val (.int p1), .val (.int p2), .val (.int p3), .val (.int p4), .val (.int p5), .val (.int ((p5 &&& (3 : Int32)) % (3 : Int32))), .val (.int ((((p5.toUInt32 >>> ((2 : Int32) &&& 31).toUInt32).toInt32) &&& (3 : Int32)) % (3 : Int32))), .unset, .unset, .unset, .unset, .unset]) (S' := [(.int p2), (.int ((p1 &&& (255 : Int32)).toUInt32.toUInt16.toUInt32.toInt32))]) (fun t_ k_ => XS.iloadN X0.here hx rfl (hb hby at_24) rfl  k_) ?_
  refine GoH.st (T' := T0) (pc' := 28) (L' := #[.val (.int p1), .val (.int p2), .val (.int p3), .val (.int p4), .val (.int p5), .val (.int ((p5 &&& (3 : Int32)) % (3 : Int32))), .val (.int ((((p5.toUInt32 >>> ((2 : Int32) &&& 31).toUInt32).toInt32) &&& (3 : Int32)) % (3 : Int32))), .unset, .unset, .unset, .unset, .unset]) (S' := [(.int (255 : Int32)), (.int p2), (.int ((p1 &&& (255 : Int32)).toUInt32.toUInt16.toUInt32.toInt32))]) (fun t_ k_ => XS.sipush X0.here hx rfl (hb hby at_25) k_) ?_
  refine GoH.st (T' := T0) (pc' := 29) (L' := #[.val (.int p1), .val (.int p2), .val (.int p3), .val (.int p4), .val (.int p5), .val (.int ((p5 &&& (3 : Int32)) % (3 : Int32))), .val (.int ((((p5.toUInt32 >>> ((2 : Int32) &&& 31).toUInt32).toInt32) &&& (3 : Int32)) % (3 : Int32))), .unset, .unset, .unset, .unset, .unset]) (S' := [(.int (p2 &&& (255 : Int32))), (.int ((p1 &&& (255 : Int32)).toUInt32.toUInt16.toUInt32.toInt32))]) (fun t_ k_ => XS.iand X0.here hx rfl (hb hby at_28) rfl k_) ?_
  refine GoH.st (T' := T0) (pc' := 30) (L' := #[.val (.int p1), .val (.int p2), .val (.int p3), .val (.int p4), .val (.int p5), .val (.int ((p5 &&& (3 : Int32)) % (3 : Int32))), .val (.int ((((p5.toUInt32 >>> ((2 : Int32) &&& 31).toUInt32).toInt32) &&& (3 : Int32)) % (3 : Int32))), .unset, .unset, .unset, .unset, .unset]) (S' := [(.int ((p2 &&& (255 : Int32)).toUInt32.toUInt16.toUInt32.toInt32)), (.int ((p1 &&& (255 : Int32)).toUInt32.toUInt16.toUInt32.toInt32))]) (fun t_ k_ => XS.i2c X0.here hx rfl (hb hby at_29) rfl k_) ?_
  refine GoH.st (T' := T0) (pc' := 32) (L' := #[.val (.int p1), .val (.int p2), .val (.int p3), .val (.int p4), .val (.int p5), .val (.int ((p5 &&& (3 : Int32)) % (3 : Int32))), .val (.int ((((p5.toUInt32 >>> ((2 : Int32) &&& 31).toUInt32).toInt32) &&& (3 : Int32)) % (3 : Int32))), .unset, .unset, .unset, .unset, .unset]) (S' := [(.int ((p5 &&& (3 : Int32)) % (3 : Int32))), (.int ((p2 &&& (255 : Int32)).toUInt32.toUInt16.toUInt32.toInt32)), (.int ((p1 &&& (255 : Int32)).toUInt32.toUInt16.toUInt32.toInt32))]) (fun t_ k_ => XS.iload X0.here hx rfl (hb hby at_30) rfl  k_) ?_
  obtain ⟨_, _, ⟨T1, L1, k1, n1⟩, -, X1, hS1, hg1, ⟨Lc1, hQ1, l1, y1, z1, CR1⟩, st1⟩ := callSS X0 hx (y := (⟨"com/example/yusenkabu/yusenkabu/cli/InputExceptionOptionPinLaw", "mk", "(CCI)Ljava/lang/String;"⟩ : MethodName)) hown (mvT hZ (hw _ (List.mem_of_getElem? (i := 0) rfl))) (mvT hZ (hw _ (List.mem_of_getElem? (i := 1) rfl))) (mvT hZ (hw _ (List.mem_of_getElem? (i := 2) rfl))) (mvT hZ (hw _ (List.mem_of_getElem? (i := 3) rfl))) (by decide) (backOfSH (W := 0) (rmmk l Z a0 hw [] p1 p2 ((p5 &&& (3 : Int32)) % (3 : Int32)) gC h0 n0 Z0 SC PC O0) hZ (hw _ (List.mem_of_getElem? (i := 3) rfl)) (hw _ (List.mem_of_getElem? (i := 2) rfl)) (by decide) (by decide) (own_EW hw) CR.1) (g := (mkF m 32 #[.val (.int p1), .val (.int p2), .val (.int p3), .val (.int p4), .val (.int p5), .val (.int ((p5 &&& (3 : Int32)) % (3 : Int32))), .val (.int ((((p5.toUInt32 >>> ((2 : Int32) &&& 31).toUInt32).toInt32) &&& (3 : Int32)) % (3 : Int32))), .unset, .unset, .unset, .unset, .unset] [(.int ((p5 &&& (3 : Int32)) % (3 : Int32))), (.int ((p2 &&& (255 : Int32)).toUInt32.toUInt16.toUInt32.toInt32)), (.int ((p1 &&& (255 : Int32)).toUInt32.toUInt16.toUInt32.toInt32))])) rfl (by rw [hml]; rfl) (argsL := [(.int ((p1 &&& (255 : Int32)).toUInt32.toUInt16.toUInt32.toInt32)), (.int ((p2 &&& (255 : Int32)).toUInt32.toUInt16.toUInt32.toInt32)), (.int ((p5 &&& (3 : Int32)) % (3 : Int32)))]) (rest := []) (lenOf pd_24 rfl) rfl (by show 2 * 0 + _ ≤ _; exact Nat.le_of_eq rfl) (hb hby at_32) (fun _ _ => ⟨rfl, e0, (by decide : 0 + 6 ≤ _), (by decide : 0 + 12 ≤ _)⟩)
  dsimp only [Pt.U, Pt.locs, Pt.cells, Pt.slots] at X1 l1 y1 z1 st1 hQ1 hS1 hg1 CR1
  subst l1 y1 z1
  replace X1 : Stand p l e _ (s.setVm T1.vm) m _ below meth c T1 _ _ _ := X1
  replace hS := foldS hS (T := T0) (Nat.le_trans hk (Nat.le_of_eq (congrArg Array.size e0.symm))) hS1 hg1
  replace hk := Nat.le_refl T1.heap.size
  replace hZ : Z.Warmed39 (s.setVm T1.vm).vm := State.Warmed39.trans (t := s.setVm s.vm) hZ hS1.1
  replace hown : (s.setVm T1.vm).vm.findClass "com/example/yusenkabu/yusenkabu/cli/InputExceptionOptionPinLaw" = some m.cls := by rw [show (s.setVm T1.vm).vm = T1.vm from rfl, hS1.1.alike.findClass]; exact hown
  obtain ⟨r1_, tr1_, kt1, A1_, n1_, rfl, N1q, K1, Er1, Co1, Va1, Vt1, lA1, ln1⟩ := hQ1
  have N1 := Fr.app N0 N1q
  obtain ⟨h1, e1⟩ : ∃ z, T1.heap = z := ⟨_, rfl⟩
  rw [e1] at K1 Er1 Co1 Va1 Vt1 CR1
  replace CR := CR.trans CR1
  replace Z0 := Nat.le_trans Z0 K1.1
  replace O0 := O0.keep K1 all0
  replace hk : T1.heap.size ≤ h1.size := Nat.le_of_eq (congrArg Array.size e1)
  refine GoH.tr (T' := T1) (pc' := 35) (L' := #[.val (.int p1), .val (.int p2), .val (.int p3), .val (.int p4), .val (.int p5), .val (.int ((p5 &&& (3 : Int32)) % (3 : Int32))), .val (.int ((((p5.toUInt32 >>> ((2 : Int32) &&& 31).toUInt32).toInt32) &&& (3 : Int32)) % (3 : Int32))), .unset, .unset, .unset, .unset, .unset]) (S' := [(.ref r1_)]) st1 ?_
  refine GoH.st (T' := T1) (pc' := 37) (L' := #[.val (.int p1), .val (.int p2), .val (.int p3), .val (.int p4), .val (.int p5), .val (.int ((p5 &&& (3 : Int32)) % (3 : Int32))), .val (.int ((((p5.toUInt32 >>> ((2 : Int32) &&& 31).toUInt32).toInt32) &&& (3 : Int32)) % (3 : Int32))), .val (.ref r1_), .unset, .unset, .unset, .unset]) (S' := []) (fun t_ k_ => XS.astore X1.here hx rfl (hb hby at_35) rfl rfl (l' := #[.val (.int p1), .val (.int p2), .val (.int p3), .val (.int p4), .val (.int p5), .val (.int ((p5 &&& (3 : Int32)) % (3 : Int32))), .val (.int ((((p5.toUInt32 >>> ((2 : Int32) &&& 31).toUInt32).toInt32) &&& (3 : Int32)) % (3 : Int32))), .val (.ref r1_), .unset, .unset, .unset, .unset]) rfl k_) ?_
  refine GoH.st (T' := T1) (pc' := 38) (L' := #[.val (.int p1), .val (.int p2), .val (.int p3), .val (.int p4), .val (.int p5), .val (.int ((p5 &&& (3 : Int32)) % (3 : Int32))), .val (.int ((((p5.toUInt32 >>> ((2 : Int32) &&& 31).toUInt32).toInt32) &&& (3 : Int32)) % (3 : Int32))), .val (.ref r1_), .unset, .unset, .unset, .unset]) (S' := [(.int p3)]) (fun t_ k_ => XS.iloadN X1.here hx rfl (hb hby at_37) rfl  k_) ?_
  refine GoH.st (T' := T1) (pc' := 41) (L' := #[.val (.int p1), .val (.int p2), .val (.int p3), .val (.int p4), .val (.int p5), .val (.int ((p5 &&& (3 : Int32)) % (3 : Int32))), .val (.int ((((p5.toUInt32 >>> ((2 : Int32) &&& 31).toUInt32).toInt32) &&& (3 : Int32)) % (3 : Int32))), .val (.ref r1_), .unset, .unset, .unset, .unset]) (S' := [(.int (255 : Int32)), (.int p3)]) (fun t_ k_ => XS.sipush X1.here hx rfl (hb hby at_38) k_) ?_
  refine GoH.st (T' := T1) (pc' := 42) (L' := #[.val (.int p1), .val (.int p2), .val (.int p3), .val (.int p4), .val (.int p5), .val (.int ((p5 &&& (3 : Int32)) % (3 : Int32))), .val (.int ((((p5.toUInt32 >>> ((2 : Int32) &&& 31).toUInt32).toInt32) &&& (3 : Int32)) % (3 : Int32))), .val (.ref r1_), .unset, .unset, .unset, .unset]) (S' := [(.int (p3 &&& (255 : Int32)))]) (fun t_ k_ => XS.iand X1.here hx rfl (hb hby at_41) rfl k_) ?_
  refine GoH.st (T' := T1) (pc' := 43) (L' := #[.val (.int p1), .val (.int p2), .val (.int p3), .val (.int p4), .val (.int p5), .val (.int ((p5 &&& (3 : Int32)) % (3 : Int32))), .val (.int ((((p5.toUInt32 >>> ((2 : Int32) &&& 31).toUInt32).toInt32) &&& (3 : Int32)) % (3 : Int32))), .val (.ref r1_), .unset, .unset, .unset, .unset]) (S' := [(.int ((p3 &&& (255 : Int32)).toUInt32.toUInt16.toUInt32.toInt32))]) (fun t_ k_ => XS.i2c X1.here hx rfl (hb hby at_42) rfl k_) ?_
  refine GoH.st (T' := T1) (pc' := 44) (L' := #[.val (.int p1), .val (.int p2), .val (.int p3), .val (.int p4), .val (.int p5), .val (.int ((p5 &&& (3 : Int32)) % (3 : Int32))), .val (.int ((((p5.toUInt32 >>> ((2 : Int32) &&& 31).toUInt32).toInt32) &&& (3 : Int32)) % (3 : Int32))), .val (.ref r1_), .unset, .unset, .unset, .unset]) (S' := [(.int p4), (.int ((p3 &&& (255 : Int32)).toUInt32.toUInt16.toUInt32.toInt32))]) (fun t_ k_ => XS.iloadN X1.here hx rfl (hb hby at_43) rfl  k_) ?_
  refine GoH.st (T' := T1) (pc' := 47) (L' := #[.val (.int p1), .val (.int p2), .val (.int p3), .val (.int p4), .val (.int p5), .val (.int ((p5 &&& (3 : Int32)) % (3 : Int32))), .val (.int ((((p5.toUInt32 >>> ((2 : Int32) &&& 31).toUInt32).toInt32) &&& (3 : Int32)) % (3 : Int32))), .val (.ref r1_), .unset, .unset, .unset, .unset]) (S' := [(.int (255 : Int32)), (.int p4), (.int ((p3 &&& (255 : Int32)).toUInt32.toUInt16.toUInt32.toInt32))]) (fun t_ k_ => XS.sipush X1.here hx rfl (hb hby at_44) k_) ?_
  refine GoH.st (T' := T1) (pc' := 48) (L' := #[.val (.int p1), .val (.int p2), .val (.int p3), .val (.int p4), .val (.int p5), .val (.int ((p5 &&& (3 : Int32)) % (3 : Int32))), .val (.int ((((p5.toUInt32 >>> ((2 : Int32) &&& 31).toUInt32).toInt32) &&& (3 : Int32)) % (3 : Int32))), .val (.ref r1_), .unset, .unset, .unset, .unset]) (S' := [(.int (p4 &&& (255 : Int32))), (.int ((p3 &&& (255 : Int32)).toUInt32.toUInt16.toUInt32.toInt32))]) (fun t_ k_ => XS.iand X1.here hx rfl (hb hby at_47) rfl k_) ?_
  refine GoH.st (T' := T1) (pc' := 49) (L' := #[.val (.int p1), .val (.int p2), .val (.int p3), .val (.int p4), .val (.int p5), .val (.int ((p5 &&& (3 : Int32)) % (3 : Int32))), .val (.int ((((p5.toUInt32 >>> ((2 : Int32) &&& 31).toUInt32).toInt32) &&& (3 : Int32)) % (3 : Int32))), .val (.ref r1_), .unset, .unset, .unset, .unset]) (S' := [(.int ((p4 &&& (255 : Int32)).toUInt32.toUInt16.toUInt32.toInt32)), (.int ((p3 &&& (255 : Int32)).toUInt32.toUInt16.toUInt32.toInt32))]) (fun t_ k_ => XS.i2c X1.here hx rfl (hb hby at_48) rfl k_) ?_
  refine GoH.st (T' := T1) (pc' := 51) (L' := #[.val (.int p1), .val (.int p2), .val (.int p3), .val (.int p4), .val (.int p5), .val (.int ((p5 &&& (3 : Int32)) % (3 : Int32))), .val (.int ((((p5.toUInt32 >>> ((2 : Int32) &&& 31).toUInt32).toInt32) &&& (3 : Int32)) % (3 : Int32))), .val (.ref r1_), .unset, .unset, .unset, .unset]) (S' := [(.int ((((p5.toUInt32 >>> ((2 : Int32) &&& 31).toUInt32).toInt32) &&& (3 : Int32)) % (3 : Int32))), (.int ((p4 &&& (255 : Int32)).toUInt32.toUInt16.toUInt32.toInt32)), (.int ((p3 &&& (255 : Int32)).toUInt32.toUInt16.toUInt32.toInt32))]) (fun t_ k_ => XS.iload X1.here hx rfl (hb hby at_49) rfl  k_) ?_
  obtain ⟨_, _, ⟨T3, L3, k3, n3⟩, -, X3, hS3, hg3, ⟨Lc3, hQ3, l3, y3, z3, CR3⟩, st3⟩ := callSS X1 hx (y := (⟨"com/example/yusenkabu/yusenkabu/cli/InputExceptionOptionPinLaw", "mk", "(CCI)Ljava/lang/String;"⟩ : MethodName)) hown (mvT hZ (hw _ (List.mem_of_getElem? (i := 0) rfl))) (mvT hZ (hw _ (List.mem_of_getElem? (i := 1) rfl))) (mvT hZ (hw _ (List.mem_of_getElem? (i := 2) rfl))) (mvT hZ (hw _ (List.mem_of_getElem? (i := 3) rfl))) (by decide) (backOfSH (W := 0) (rmmk l Z a0 hw [] p3 p4 ((((p5.toUInt32 >>> ((2 : Int32) &&& 31).toUInt32).toInt32) &&& (3 : Int32)) % (3 : Int32)) gC h1 n0 Z0 SC PC O0) hZ (hw _ (List.mem_of_getElem? (i := 3) rfl)) (hw _ (List.mem_of_getElem? (i := 2) rfl)) (by decide) (by decide) (own_EW hw) CR.1) (g := (mkF m 51 #[.val (.int p1), .val (.int p2), .val (.int p3), .val (.int p4), .val (.int p5), .val (.int ((p5 &&& (3 : Int32)) % (3 : Int32))), .val (.int ((((p5.toUInt32 >>> ((2 : Int32) &&& 31).toUInt32).toInt32) &&& (3 : Int32)) % (3 : Int32))), .val (.ref r1_), .unset, .unset, .unset, .unset] [(.int ((((p5.toUInt32 >>> ((2 : Int32) &&& 31).toUInt32).toInt32) &&& (3 : Int32)) % (3 : Int32))), (.int ((p4 &&& (255 : Int32)).toUInt32.toUInt16.toUInt32.toInt32)), (.int ((p3 &&& (255 : Int32)).toUInt32.toUInt16.toUInt32.toInt32))])) rfl (by rw [hml]; rfl) (argsL := [(.int ((p3 &&& (255 : Int32)).toUInt32.toUInt16.toUInt32.toInt32)), (.int ((p4 &&& (255 : Int32)).toUInt32.toUInt16.toUInt32.toInt32)), (.int ((((p5.toUInt32 >>> ((2 : Int32) &&& 31).toUInt32).toInt32) &&& (3 : Int32)) % (3 : Int32)))]) (rest := []) (lenOf pd_24 rfl) rfl (by show 2 * 0 + _ ≤ _; exact Nat.le_of_eq rfl) (hb hby at_51) (fun _ _ => ⟨rfl, e1, (by decide : 6 + 6 ≤ _), (by decide : 12 + 12 ≤ _)⟩)
  dsimp only [Pt.U, Pt.locs, Pt.cells, Pt.slots] at X3 l3 y3 z3 st3 hQ3 hS3 hg3 CR3
  subst l3 y3 z3
  replace X3 : Stand p l e _ (s.setVm T3.vm) m _ below meth c T3 _ _ _ := X3
  replace hS := foldS hS (T := T1) (Nat.le_trans hk (Nat.le_of_eq (congrArg Array.size e1.symm))) hS3 hg3
  replace hk := Nat.le_refl T3.heap.size
  replace hZ : Z.Warmed39 (s.setVm T3.vm).vm := State.Warmed39.trans (t := s.setVm T1.vm) hZ hS3.1
  replace hown : (s.setVm T3.vm).vm.findClass "com/example/yusenkabu/yusenkabu/cli/InputExceptionOptionPinLaw" = some m.cls := by rw [show (s.setVm T3.vm).vm = T3.vm from rfl, hS3.1.alike.findClass]; exact hown
  obtain ⟨r3_, tr3_, kt3, A3_, n3_, rfl, N3q, K3, Er3, Co3, Va3, Vt3, lA3, ln3⟩ := hQ3
  have N3 := Fr.app N1 N3q
  obtain ⟨h3, e3⟩ : ∃ z, T3.heap = z := ⟨_, rfl⟩
  rw [e3] at K3 Er3 Co3 Va3 Vt3 CR3
  replace CR := CR.trans CR3
  replace Z0 := Nat.le_trans Z0 K3.1
  replace O0 := O0.keep K3 all0
  replace Er1 := Er1.keep K3
  replace Co1 := Co1.keep K3 nin0
  replace Va1 := Va1.keep K3 nin0
  replace Vt1 := Vt1.keep K3 nin0
  replace hk : T3.heap.size ≤ h3.size := Nat.le_of_eq (congrArg Array.size e3)
  refine GoH.tr (T' := T3) (pc' := 54) (L' := #[.val (.int p1), .val (.int p2), .val (.int p3), .val (.int p4), .val (.int p5), .val (.int ((p5 &&& (3 : Int32)) % (3 : Int32))), .val (.int ((((p5.toUInt32 >>> ((2 : Int32) &&& 31).toUInt32).toInt32) &&& (3 : Int32)) % (3 : Int32))), .val (.ref r1_), .unset, .unset, .unset, .unset]) (S' := [(.ref r3_)]) st3 ?_
  refine GoH.st (T' := T3) (pc' := 56) (L' := #[.val (.int p1), .val (.int p2), .val (.int p3), .val (.int p4), .val (.int p5), .val (.int ((p5 &&& (3 : Int32)) % (3 : Int32))), .val (.int ((((p5.toUInt32 >>> ((2 : Int32) &&& 31).toUInt32).toInt32) &&& (3 : Int32)) % (3 : Int32))), .val (.ref r1_), .val (.ref r3_), .unset, .unset, .unset]) (S' := []) (fun t_ k_ => XS.astore X3.here hx rfl (hb hby at_54) rfl rfl (l' := #[.val (.int p1), .val (.int p2), .val (.int p3), .val (.int p4), .val (.int p5), .val (.int ((p5 &&& (3 : Int32)) % (3 : Int32))), .val (.int ((((p5.toUInt32 >>> ((2 : Int32) &&& 31).toUInt32).toInt32) &&& (3 : Int32)) % (3 : Int32))), .val (.ref r1_), .val (.ref r3_), .unset, .unset, .unset]) rfl k_) ?_
  refine GoH.st (T' := T3) (pc' := 58) (L' := #[.val (.int p1), .val (.int p2), .val (.int p3), .val (.int p4), .val (.int p5), .val (.int ((p5 &&& (3 : Int32)) % (3 : Int32))), .val (.int ((((p5.toUInt32 >>> ((2 : Int32) &&& 31).toUInt32).toInt32) &&& (3 : Int32)) % (3 : Int32))), .val (.ref r1_), .val (.ref r3_), .unset, .unset, .unset]) (S' := [(.ref r1_)]) (fun t_ k_ => XS.aload X3.here hx rfl (hb hby at_56) rfl rfl  k_) ?_
  refine GoH.st (T' := T3) (pc' := 60) (L' := #[.val (.int p1), .val (.int p2), .val (.int p3), .val (.int p4), .val (.int p5), .val (.int ((p5 &&& (3 : Int32)) % (3 : Int32))), .val (.int ((((p5.toUInt32 >>> ((2 : Int32) &&& 31).toUInt32).toInt32) &&& (3 : Int32)) % (3 : Int32))), .val (.ref r1_), .val (.ref r3_), .unset, .unset, .unset]) (S' := [(.ref r3_), (.ref r1_)]) (fun t_ k_ => XS.aload X3.here hx rfl (hb hby at_58) rfl rfl  k_) ?_
  obtain ⟨_, _, ⟨T5, L5, k5, n5⟩, -, X5, hS5, hg5, ⟨Lc5, hQ5, l5, y5, z5, CR5⟩, st5⟩ := callSS X3 hx (y := (⟨"com/example/yusenkabu/yusenkabu/cli/InputException", "option", "(Ljava/lang/String;Ljava/lang/String;)Lcom/example/yusenkabu/yusenkabu/cli/InputException;"⟩ : MethodName)) hown (mvT hZ (hw _ (List.mem_of_getElem? (i := 26) rfl))) (mvT hZ (hw _ (List.mem_of_getElem? (i := 27) rfl))) (mvT hZ (hw _ (List.mem_of_getElem? (i := 28) rfl))) (mvT hZ (hw _ (List.mem_of_getElem? (i := 29) rfl))) (by decide) (own_backSHK (W := 0) (rmopt l Z a0 hw [] r1_ tr1_ _ (A1_) (n1_) r3_ tr3_ _ (A3_) (n3_) vU vS gC h3 n0 Z0 SC PC O0 hvU hvS SU SS hl Er1 Co1 Va1 Vt1 lA1 (by omega) Er3 Co3 Va3 Vt3 lA3 (by omega)) hZ (hw _ (List.mem_of_getElem? (i := 29) rfl)) (hw _ (List.mem_of_getElem? (i := 28) rfl)) (by decide) (by decide) (own_EW hw) CR.1 (Vm.MethodsKnown.alikeC hS.1.alike hTK) (Vm.FramesKnown.alikeC hS.1.alike hBelow)) (g := (mkF m 60 #[.val (.int p1), .val (.int p2), .val (.int p3), .val (.int p4), .val (.int p5), .val (.int ((p5 &&& (3 : Int32)) % (3 : Int32))), .val (.int ((((p5.toUInt32 >>> ((2 : Int32) &&& 31).toUInt32).toInt32) &&& (3 : Int32)) % (3 : Int32))), .val (.ref r1_), .val (.ref r3_), .unset, .unset, .unset] [(.ref r3_), (.ref r1_)])) rfl (by rw [hml]; rfl) (argsL := [(.ref r1_), (.ref r3_)]) (rest := []) (lenOf pd_25 rfl) rfl (by show 2 * 0 + _ ≤ _; exact Nat.le_of_eq rfl) (hb hby at_60) (fun _ _ => ⟨rfl, e3, (by decide : 12 + 10 ≤ _), (by decide : 24 + 2822 ≤ _)⟩)
  dsimp only [Pt.U, Pt.locs, Pt.cells, Pt.slots] at X5 l5 y5 z5 st5 hQ5 hS5 hg5 CR5
  subst l5 y5 z5
  replace X5 : Stand p l e _ (s.setVm T5.vm) m _ below meth c T5 _ _ _ := X5
  replace hS := foldS hS (T := T3) (Nat.le_trans hk (Nat.le_of_eq (congrArg Array.size e3.symm))) hS5 hg5
  replace hk := Nat.le_refl T5.heap.size
  replace hZ : Z.Warmed39 (s.setVm T5.vm).vm := State.Warmed39.trans (t := s.setVm T3.vm) hZ hS5.1
  replace hown : (s.setVm T5.vm).vm.findClass "com/example/yusenkabu/yusenkabu/cli/InputExceptionOptionPinLaw" = some m.cls := by rw [show (s.setVm T5.vm).vm = T5.vm from rfl, hS5.1.alike.findClass]; exact hown
  obtain ⟨ea5, er5, et5, kt5, rfl, N5q, K5, g_ea5, Ea5, Ua5, Fz5, Fm5, Er5, Co5, Va5, Vt5⟩ := hQ5
  have N5 := Fr.app N3 N5q
  obtain ⟨h5, e5⟩ : ∃ z, T5.heap = z := ⟨_, rfl⟩
  rw [e5] at K5 Ea5 Ua5 Fz5 Fm5 Er5 Co5 Va5 Vt5 CR5
  replace CR := CR.trans CR5
  replace Z0 := Nat.le_trans Z0 K5.1
  replace O0 := O0.keep K5 all0
  replace Er1 := Er1.keep K5
  replace Co1 := Co1.keep K5 nin0
  replace Va1 := Va1.keep K5 nin0
  replace Vt1 := Vt1.keep K5 nin0
  replace Er3 := Er3.keep K5
  replace Co3 := Co3.keep K5 nin0
  replace Va3 := Va3.keep K5 nin0
  replace Vt3 := Vt3.keep K5 nin0
  replace hk : T5.heap.size ≤ h5.size := Nat.le_of_eq (congrArg Array.size e5)
  refine GoH.tr (T' := T5) (pc' := 63) (L' := #[.val (.int p1), .val (.int p2), .val (.int p3), .val (.int p4), .val (.int p5), .val (.int ((p5 &&& (3 : Int32)) % (3 : Int32))), .val (.int ((((p5.toUInt32 >>> ((2 : Int32) &&& 31).toUInt32).toInt32) &&& (3 : Int32)) % (3 : Int32))), .val (.ref r1_), .val (.ref r3_), .unset, .unset, .unset]) (S' := [(.ref ea5)]) st5 ?_
  refine GoH.st (T' := T5) (pc' := 65) (L' := #[.val (.int p1), .val (.int p2), .val (.int p3), .val (.int p4), .val (.int p5), .val (.int ((p5 &&& (3 : Int32)) % (3 : Int32))), .val (.int ((((p5.toUInt32 >>> ((2 : Int32) &&& 31).toUInt32).toInt32) &&& (3 : Int32)) % (3 : Int32))), .val (.ref r1_), .val (.ref r3_), .val (.ref ea5), .unset, .unset]) (S' := []) (fun t_ k_ => XS.astore X5.here hx rfl (hb hby at_63) rfl rfl (l' := #[.val (.int p1), .val (.int p2), .val (.int p3), .val (.int p4), .val (.int p5), .val (.int ((p5 &&& (3 : Int32)) % (3 : Int32))), .val (.int ((((p5.toUInt32 >>> ((2 : Int32) &&& 31).toUInt32).toInt32) &&& (3 : Int32)) % (3 : Int32))), .val (.ref r1_), .val (.ref r3_), .val (.ref ea5), .unset, .unset]) rfl k_) ?_
  refine GoH.st (T' := T5) (pc' := 67) (L' := #[.val (.int p1), .val (.int p2), .val (.int p3), .val (.int p4), .val (.int p5), .val (.int ((p5 &&& (3 : Int32)) % (3 : Int32))), .val (.int ((((p5.toUInt32 >>> ((2 : Int32) &&& 31).toUInt32).toInt32) &&& (3 : Int32)) % (3 : Int32))), .val (.ref r1_), .val (.ref r3_), .val (.ref ea5), .unset, .unset]) (S' := [(.ref ea5)]) (fun t_ k_ => XS.aload X5.here hx rfl (hb hby at_65) rfl rfl  k_) ?_
  refine GoH.st (T' := T5) (pc' := 72) (L' := #[.val (.int p1), .val (.int p2), .val (.int p3), .val (.int p4), .val (.int p5), .val (.int ((p5 &&& (3 : Int32)) % (3 : Int32))), .val (.int ((((p5.toUInt32 >>> ((2 : Int32) &&& 31).toUInt32).toInt32) &&& (3 : Int32)) % (3 : Int32))), .val (.ref r1_), .val (.ref r3_), .val (.ref ea5), .unset, .unset]) (S' := []) (fun t_ k_ => XS.ifnonnullYes X5.here hx rfl (pc0 := 67) (pc' := 72) rfl (hb hby at_67) rfl (by decide) (by decide) k_) ?_
  refine GoH.st (T' := T5) (pc' := 74) (L' := #[.val (.int p1), .val (.int p2), .val (.int p3), .val (.int p4), .val (.int p5), .val (.int ((p5 &&& (3 : Int32)) % (3 : Int32))), .val (.int ((((p5.toUInt32 >>> ((2 : Int32) &&& 31).toUInt32).toInt32) &&& (3 : Int32)) % (3 : Int32))), .val (.ref r1_), .val (.ref r3_), .val (.ref ea5), .unset, .unset]) (S' := [(.ref ea5)]) (fun t_ k_ => XS.aload X5.here hx rfl (hb hby at_72) rfl rfl  k_) ?_
  obtain ⟨cq7, kq7, q7a, q7b, q7c⟩ := isOf hZ e5 Ea5
  obtain ⟨_, _, ⟨T7, L7, k7, n7⟩, -, X7, ⟨hv7, hh7, l7, y7, z7⟩, st7⟩ := X5.virtualBackUp hx (owner := "java/lang/Throwable") (x := (⟨"com/example/yusenkabu/yusenkabu/cli/InputException", "getCause", "()Ljava/lang/Throwable;"⟩ : MethodName)) (y := (⟨"java/lang/Throwable", "getCause", "()Ljava/lang/Throwable;"⟩ : MethodName)) hown (mvT hZ (hw _ (List.mem_of_getElem? (i := 196) rfl))) (mvT hZ (hw _ (List.mem_of_getElem? (i := 197) rfl))) (mvT hZ (hw _ (List.mem_of_getElem? (i := 198) rfl))) (by decide) (mvT hZ (hw _ (List.mem_of_getElem? (i := 200) rfl))) (mvT hZ (hw _ (List.mem_of_getElem? (i := 199) rfl))) (gcBackPure (rm := { frames := 0, cells := 0, slots := 0, locals := 8 }) (W := 0) hZ (hw _ (List.mem_of_getElem? (i := 201) rfl)) (hw _ (List.mem_of_getElem? (i := 199) rfl)) (hw _ (List.mem_of_getElem? (i := 157) rfl)) (hw _ (List.mem_of_getElem? (i := 160) rfl)) Ua5 Fz5 rfl (by decide) (by decide)) q7a q7c (g := (mkF m 74 #[.val (.int p1), .val (.int p2), .val (.int p3), .val (.int p4), .val (.int p5), .val (.int ((p5 &&& (3 : Int32)) % (3 : Int32))), .val (.int ((((p5.toUInt32 >>> ((2 : Int32) &&& 31).toUInt32).toInt32) &&& (3 : Int32)) % (3 : Int32))), .val (.ref r1_), .val (.ref r3_), .val (.ref ea5), .unset, .unset] [(.ref ea5)])) rfl (by rw [hml]; rfl) (Steps.refl _) (argsL := []) (rest := []) (lenOf pd_26 rfl) rfl (by show 2 * 0 + _ ≤ _; exact Nat.le_of_eq rfl) (hb hby at_74) (fun _ _ => ⟨rfl, e5, (by decide : 22 + 0 ≤ _), (by decide : 2846 + 0 ≤ _)⟩)
  dsimp only [Pt.U, Pt.locs, Pt.cells, Pt.slots] at X7 hv7 hh7 l7 y7 z7 st7
  subst l7 y7 z7
  obtain rfl := hv7
  rw [show gcV ea5 .null = .null from if_neg nofun] at st7
  refine GoH.tr (T' := T7) (pc' := 77) (L' := #[.val (.int p1), .val (.int p2), .val (.int p3), .val (.int p4), .val (.int p5), .val (.int ((p5 &&& (3 : Int32)) % (3 : Int32))), .val (.int ((((p5.toUInt32 >>> ((2 : Int32) &&& 31).toUInt32).toInt32) &&& (3 : Int32)) % (3 : Int32))), .val (.ref r1_), .val (.ref r3_), .val (.ref ea5), .unset, .unset]) (S' := [.null]) st7 ?_
  refine GoH.st (T' := T7) (pc' := 82) (L' := #[.val (.int p1), .val (.int p2), .val (.int p3), .val (.int p4), .val (.int p5), .val (.int ((p5 &&& (3 : Int32)) % (3 : Int32))), .val (.int ((((p5.toUInt32 >>> ((2 : Int32) &&& 31).toUInt32).toInt32) &&& (3 : Int32)) % (3 : Int32))), .val (.ref r1_), .val (.ref r3_), .val (.ref ea5), .unset, .unset]) (S' := []) (fun t_ k_ => XS.ifnullYes X7.here hx rfl (pc0 := 77) (pc' := 82) rfl (hb hby at_77) rfl (by decide) (by decide) k_) ?_
  refine GoH.st (T' := T7) (pc' := 84) (L' := #[.val (.int p1), .val (.int p2), .val (.int p3), .val (.int p4), .val (.int p5), .val (.int ((p5 &&& (3 : Int32)) % (3 : Int32))), .val (.int ((((p5.toUInt32 >>> ((2 : Int32) &&& 31).toUInt32).toInt32) &&& (3 : Int32)) % (3 : Int32))), .val (.ref r1_), .val (.ref r3_), .val (.ref ea5), .unset, .unset]) (S' := [(.ref ea5)]) (fun t_ k_ => XS.aload X7.here hx rfl (hb hby at_82) rfl rfl  k_) ?_
  obtain ⟨cq8, kq8, q8a, q8b, q8c⟩ := isOf hZ hh7 Ea5
  obtain ⟨_, _, ⟨T8, L8, k8, n8⟩, -, X8, ⟨Lc8, hQ8, l8, y8, z8⟩, st8⟩ := X7.virtualBackUp hx (owner := "java/lang/Throwable") (x := (⟨"com/example/yusenkabu/yusenkabu/cli/InputException", "getMessage", "()Ljava/lang/String;"⟩ : MethodName)) (y := (⟨"java/lang/Throwable", "getMessage", "()Ljava/lang/String;"⟩ : MethodName)) hown (mvT hZ (hw _ (List.mem_of_getElem? (i := 202) rfl))) (mvT hZ (hw _ (List.mem_of_getElem? (i := 203) rfl))) (mvT hZ (hw _ (List.mem_of_getElem? (i := 204) rfl))) (by decide) (mvT hZ (hw _ (List.mem_of_getElem? (i := 206) rfl))) (mvT hZ (hw _ (List.mem_of_getElem? (i := 205) rfl))) (backOf (W := 0) (rm33 l Z a0 hw [] ea5 er5 h5 n0 Z0 Fm5) hZ (hw _ (List.mem_of_getElem? (i := 207) rfl)) (hw _ (List.mem_of_getElem? (i := 157) rfl)) (by decide) (by decide)) q8a q8c (g := (mkF m 84 #[.val (.int p1), .val (.int p2), .val (.int p3), .val (.int p4), .val (.int p5), .val (.int ((p5 &&& (3 : Int32)) % (3 : Int32))), .val (.int ((((p5.toUInt32 >>> ((2 : Int32) &&& 31).toUInt32).toInt32) &&& (3 : Int32)) % (3 : Int32))), .val (.ref r1_), .val (.ref r3_), .val (.ref ea5), .unset, .unset] [(.ref ea5)])) rfl (by rw [hml]; rfl) (Steps.refl _) (argsL := []) (rest := []) (lenOf pd_21 rfl) rfl (by show 2 * 0 + _ ≤ _; exact Nat.le_of_eq rfl) (hb hby at_84) (fun _ _ => ⟨rfl, hh7, (by decide : 22 + 0 ≤ _), (by decide : 2846 + 0 ≤ _)⟩)
  dsimp only [Pt.U, Pt.locs, Pt.cells, Pt.slots] at X8 l8 y8 z8 st8 hQ8
  subst l8 y8 z8
  obtain ⟨rfl, N8q, e8⟩ := hQ8
  have N8 := Fr.app N5 N8q
  refine GoH.tr (T' := T8) (pc' := 87) (L' := #[.val (.int p1), .val (.int p2), .val (.int p3), .val (.int p4), .val (.int p5), .val (.int ((p5 &&& (3 : Int32)) % (3 : Int32))), .val (.int ((((p5.toUInt32 >>> ((2 : Int32) &&& 31).toUInt32).toInt32) &&& (3 : Int32)) % (3 : Int32))), .val (.ref r1_), .val (.ref r3_), .val (.ref ea5), .unset, .unset]) (S' := [(.ref er5)]) st8 ?_
  refine GoH.st (T' := T8) (pc' := 89) (L' := #[.val (.int p1), .val (.int p2), .val (.int p3), .val (.int p4), .val (.int p5), .val (.int ((p5 &&& (3 : Int32)) % (3 : Int32))), .val (.int ((((p5.toUInt32 >>> ((2 : Int32) &&& 31).toUInt32).toInt32) &&& (3 : Int32)) % (3 : Int32))), .val (.ref r1_), .val (.ref r3_), .val (.ref ea5), .val (.ref er5), .unset]) (S' := []) (fun t_ k_ => XS.astore X8.here hx rfl (hb hby at_87) rfl rfl (l' := #[.val (.int p1), .val (.int p2), .val (.int p3), .val (.int p4), .val (.int p5), .val (.int ((p5 &&& (3 : Int32)) % (3 : Int32))), .val (.int ((((p5.toUInt32 >>> ((2 : Int32) &&& 31).toUInt32).toInt32) &&& (3 : Int32)) % (3 : Int32))), .val (.ref r1_), .val (.ref r3_), .val (.ref ea5), .val (.ref er5), .unset]) rfl k_) ?_
  refine GoH.st (T' := T8) (pc' := 91) (L' := #[.val (.int p1), .val (.int p2), .val (.int p3), .val (.int p4), .val (.int p5), .val (.int ((p5 &&& (3 : Int32)) % (3 : Int32))), .val (.int ((((p5.toUInt32 >>> ((2 : Int32) &&& 31).toUInt32).toInt32) &&& (3 : Int32)) % (3 : Int32))), .val (.ref r1_), .val (.ref r3_), .val (.ref ea5), .val (.ref er5), .unset]) (S' := [(.ref er5)]) (fun t_ k_ => XS.aload X8.here hx rfl (hb hby at_89) rfl rfl  k_) ?_
  refine GoH.st (T' := T8) (pc' := 96) (L' := #[.val (.int p1), .val (.int p2), .val (.int p3), .val (.int p4), .val (.int p5), .val (.int ((p5 &&& (3 : Int32)) % (3 : Int32))), .val (.int ((((p5.toUInt32 >>> ((2 : Int32) &&& 31).toUInt32).toInt32) &&& (3 : Int32)) % (3 : Int32))), .val (.ref r1_), .val (.ref r3_), .val (.ref ea5), .val (.ref er5), .unset]) (S' := []) (fun t_ k_ => XS.ifnonnullYes X8.here hx rfl (pc0 := 91) (pc' := 96) rfl (hb hby at_91) rfl (by decide) (by decide) k_) ?_
  refine GoH.st (T' := T8) (pc' := 97) (L' := #[.val (.int p1), .val (.int p2), .val (.int p3), .val (.int p4), .val (.int p5), .val (.int ((p5 &&& (3 : Int32)) % (3 : Int32))), .val (.int ((((p5.toUInt32 >>> ((2 : Int32) &&& 31).toUInt32).toInt32) &&& (3 : Int32)) % (3 : Int32))), .val (.ref r1_), .val (.ref r3_), .val (.ref ea5), .val (.ref er5), .unset]) (S' := [(.int (4 : Int32))]) (fun t_ k_ => XS.iconst X8.here hx rfl (hb hby at_96) k_) ?_
  refine GoH.st (T' := T8) (pc' := 99) (L' := #[.val (.int p1), .val (.int p2), .val (.int p3), .val (.int p4), .val (.int p5), .val (.int ((p5 &&& (3 : Int32)) % (3 : Int32))), .val (.int ((((p5.toUInt32 >>> ((2 : Int32) &&& 31).toUInt32).toInt32) &&& (3 : Int32)) % (3 : Int32))), .val (.ref r1_), .val (.ref r3_), .val (.ref ea5), .val (.ref er5), .unset]) (S' := [(.ref r1_), (.int (4 : Int32))]) (fun t_ k_ => XS.aload X8.here hx rfl (hb hby at_97) rfl rfl  k_) ?_
  obtain ⟨cq9, kq9, q9a, q9b, q9c⟩ := isOf hZ e8 Er1
  obtain ⟨_, _, ⟨T9, L9, k9, n9⟩, -, X9, ⟨Lc9, hQ9, l9, y9, z9⟩, st9⟩ := X8.virtualBack hx (y := (⟨"java/lang/String", "length", "()I"⟩ : MethodName)) (z := (⟨"java/lang/String", "length", "()I"⟩ : MethodName)) hown (mvT hZ (hw _ (List.mem_of_getElem? (i := 208) rfl))) (mvT hZ (hw _ (List.mem_of_getElem? (i := 62) rfl))) (notFace_of_selects (args := #[]) (mvT hZ (hw _ (List.mem_of_getElem? (i := 64) rfl)))) (mvT hZ (hw _ (List.mem_of_getElem? (i := 64) rfl))) (mvT hZ (hw _ (List.mem_of_getElem? (i := 63) rfl))) (by decide) (backOf (W := 1) (rm10 l Z a0 hw [] r1_ tr1_ _ gC (n1_.toInt32) (A1_) h5 n0 Z0 SC PC O0 Er1 Co1 Va1 Vt1) hZ (hw _ (List.mem_of_getElem? (i := 65) rfl)) (hw _ (List.mem_of_getElem? (i := 6) rfl)) (by decide) (by decide)) q9a q9c (g := (mkF m 99 #[.val (.int p1), .val (.int p2), .val (.int p3), .val (.int p4), .val (.int p5), .val (.int ((p5 &&& (3 : Int32)) % (3 : Int32))), .val (.int ((((p5.toUInt32 >>> ((2 : Int32) &&& 31).toUInt32).toInt32) &&& (3 : Int32)) % (3 : Int32))), .val (.ref r1_), .val (.ref r3_), .val (.ref ea5), .val (.ref er5), .unset] [(.ref r1_), (.int (4 : Int32))])) rfl (by rw [hml]; rfl) (Steps.refl _) (argsL := []) (rest := [(.int (4 : Int32))]) (lenOf pd_4 rfl) rfl (by show 2 * 0 + _ ≤ _; exact Nat.le_of_eq rfl) (hb hby at_99) (fun _ _ => ⟨rfl, e8, (by decide : 22 + 0 ≤ _), (by decide : 2846 + 0 ≤ _)⟩)
  dsimp only [Pt.U, Pt.locs, Pt.cells, Pt.slots] at X9 l9 y9 z9 st9 hQ9
  subst l9 y9 z9
  obtain ⟨rfl, N9q, e9⟩ := hQ9
  have N9 := Fr.app N8 N9q
  refine GoH.tr (T' := T9) (pc' := 102) (L' := #[.val (.int p1), .val (.int p2), .val (.int p3), .val (.int p4), .val (.int p5), .val (.int ((p5 &&& (3 : Int32)) % (3 : Int32))), .val (.int ((((p5.toUInt32 >>> ((2 : Int32) &&& 31).toUInt32).toInt32) &&& (3 : Int32)) % (3 : Int32))), .val (.ref r1_), .val (.ref r3_), .val (.ref ea5), .val (.ref er5), .unset]) (S' := [(.int (n1_.toInt32)), (.int (4 : Int32))]) st9 ?_
  refine GoH.st (T' := T9) (pc' := 103) (L' := #[.val (.int p1), .val (.int p2), .val (.int p3), .val (.int p4), .val (.int p5), .val (.int ((p5 &&& (3 : Int32)) % (3 : Int32))), .val (.int ((((p5.toUInt32 >>> ((2 : Int32) &&& 31).toUInt32).toInt32) &&& (3 : Int32)) % (3 : Int32))), .val (.ref r1_), .val (.ref r3_), .val (.ref ea5), .val (.ref er5), .unset]) (S' := [(.int ((4 : Int32) + (n1_.toInt32)))]) (fun t_ k_ => XS.iadd X9.here hx rfl (hb hby at_102) rfl k_) ?_
  refine GoH.st (T' := T9) (pc' := 105) (L' := #[.val (.int p1), .val (.int p2), .val (.int p3), .val (.int p4), .val (.int p5), .val (.int ((p5 &&& (3 : Int32)) % (3 : Int32))), .val (.int ((((p5.toUInt32 >>> ((2 : Int32) &&& 31).toUInt32).toInt32) &&& (3 : Int32)) % (3 : Int32))), .val (.ref r1_), .val (.ref r3_), .val (.ref ea5), .val (.ref er5), .unset]) (S' := [(.ref r3_), (.int ((4 : Int32) + (n1_.toInt32)))]) (fun t_ k_ => XS.aload X9.here hx rfl (hb hby at_103) rfl rfl  k_) ?_
  obtain ⟨cq10, kq10, q10a, q10b, q10c⟩ := isOf hZ e9 Er3
  obtain ⟨_, _, ⟨T10, L10, k10, n10⟩, -, X10, ⟨Lc10, hQ10, l10, y10, z10⟩, st10⟩ := X9.virtualBack hx (y := (⟨"java/lang/String", "length", "()I"⟩ : MethodName)) (z := (⟨"java/lang/String", "length", "()I"⟩ : MethodName)) hown (mvT hZ (hw _ (List.mem_of_getElem? (i := 208) rfl))) (mvT hZ (hw _ (List.mem_of_getElem? (i := 62) rfl))) (notFace_of_selects (args := #[]) (mvT hZ (hw _ (List.mem_of_getElem? (i := 64) rfl)))) (mvT hZ (hw _ (List.mem_of_getElem? (i := 64) rfl))) (mvT hZ (hw _ (List.mem_of_getElem? (i := 63) rfl))) (by decide) (backOf (W := 1) (rm10 l Z a0 hw [] r3_ tr3_ _ gC (n3_.toInt32) (A3_) h5 n0 Z0 SC PC O0 Er3 Co3 Va3 Vt3) hZ (hw _ (List.mem_of_getElem? (i := 65) rfl)) (hw _ (List.mem_of_getElem? (i := 6) rfl)) (by decide) (by decide)) q10a q10c (g := (mkF m 105 #[.val (.int p1), .val (.int p2), .val (.int p3), .val (.int p4), .val (.int p5), .val (.int ((p5 &&& (3 : Int32)) % (3 : Int32))), .val (.int ((((p5.toUInt32 >>> ((2 : Int32) &&& 31).toUInt32).toInt32) &&& (3 : Int32)) % (3 : Int32))), .val (.ref r1_), .val (.ref r3_), .val (.ref ea5), .val (.ref er5), .unset] [(.ref r3_), (.int ((4 : Int32) + (n1_.toInt32)))])) rfl (by rw [hml]; rfl) (Steps.refl _) (argsL := []) (rest := [(.int ((4 : Int32) + (n1_.toInt32)))]) (lenOf pd_4 rfl) rfl (by show 2 * 0 + _ ≤ _; exact Nat.le_of_eq rfl) (hb hby at_105) (fun _ _ => ⟨rfl, e9, (by decide : 22 + 0 ≤ _), (by decide : 2846 + 0 ≤ _)⟩)
  dsimp only [Pt.U, Pt.locs, Pt.cells, Pt.slots] at X10 l10 y10 z10 st10 hQ10
  subst l10 y10 z10
  obtain ⟨rfl, N10q, e10⟩ := hQ10
  have N10 := Fr.app N9 N10q
  refine GoH.tr (T' := T10) (pc' := 108) (L' := #[.val (.int p1), .val (.int p2), .val (.int p3), .val (.int p4), .val (.int p5), .val (.int ((p5 &&& (3 : Int32)) % (3 : Int32))), .val (.int ((((p5.toUInt32 >>> ((2 : Int32) &&& 31).toUInt32).toInt32) &&& (3 : Int32)) % (3 : Int32))), .val (.ref r1_), .val (.ref r3_), .val (.ref ea5), .val (.ref er5), .unset]) (S' := [(.int (n3_.toInt32)), (.int ((4 : Int32) + (n1_.toInt32)))]) st10 ?_
  refine GoH.st (T' := T10) (pc' := 109) (L' := #[.val (.int p1), .val (.int p2), .val (.int p3), .val (.int p4), .val (.int p5), .val (.int ((p5 &&& (3 : Int32)) % (3 : Int32))), .val (.int ((((p5.toUInt32 >>> ((2 : Int32) &&& 31).toUInt32).toInt32) &&& (3 : Int32)) % (3 : Int32))), .val (.ref r1_), .val (.ref r3_), .val (.ref ea5), .val (.ref er5), .unset]) (S' := [(.int (((4 : Int32) + (n1_.toInt32)) + (n3_.toInt32)))]) (fun t_ k_ => XS.iadd X10.here hx rfl (hb hby at_108) rfl k_) ?_
  rw [show ((4 : Int32) + ((n1_).toInt32)) + ((n3_).toInt32) = (0 + 2 + (n1_) + 2 + (n3_) : Nat).toInt32 from own_len4 (by omega) (by omega)]
  refine GoH.st (T' := T10) (pc' := 111) (L' := #[.val (.int p1), .val (.int p2), .val (.int p3), .val (.int p4), .val (.int p5), .val (.int ((p5 &&& (3 : Int32)) % (3 : Int32))), .val (.int ((((p5.toUInt32 >>> ((2 : Int32) &&& 31).toUInt32).toInt32) &&& (3 : Int32)) % (3 : Int32))), .val (.ref r1_), .val (.ref r3_), .val (.ref ea5), .val (.ref er5), .val (.int ((0 + 2 + (n1_) + 2 + (n3_) : Nat).toInt32))]) (S' := []) (fun t_ k_ => XS.istore X10.here hx rfl (hb hby at_109) rfl (l' := #[.val (.int p1), .val (.int p2), .val (.int p3), .val (.int p4), .val (.int p5), .val (.int ((p5 &&& (3 : Int32)) % (3 : Int32))), .val (.int ((((p5.toUInt32 >>> ((2 : Int32) &&& 31).toUInt32).toInt32) &&& (3 : Int32)) % (3 : Int32))), .val (.ref r1_), .val (.ref r3_), .val (.ref ea5), .val (.ref er5), .val (.int ((0 + 2 + (n1_) + 2 + (n3_) : Nat).toInt32))]) rfl k_) ?_
  refine GoH.st (T' := T10) (pc' := 113) (L' := #[.val (.int p1), .val (.int p2), .val (.int p3), .val (.int p4), .val (.int p5), .val (.int ((p5 &&& (3 : Int32)) % (3 : Int32))), .val (.int ((((p5.toUInt32 >>> ((2 : Int32) &&& 31).toUInt32).toInt32) &&& (3 : Int32)) % (3 : Int32))), .val (.ref r1_), .val (.ref r3_), .val (.ref ea5), .val (.ref er5), .val (.int ((0 + 2 + (n1_) + 2 + (n3_) : Nat).toInt32))]) (S' := [(.ref er5)]) (fun t_ k_ => XS.aload X10.here hx rfl (hb hby at_111) rfl rfl  k_) ?_
  obtain ⟨cq11, kq11, q11a, q11b, q11c⟩ := isOf hZ e10 Er5
  obtain ⟨_, _, ⟨T11, L11, k11, n11⟩, -, X11, ⟨Lc11, hQ11, l11, y11, z11⟩, st11⟩ := X10.virtualBack hx (y := (⟨"java/lang/String", "length", "()I"⟩ : MethodName)) (z := (⟨"java/lang/String", "length", "()I"⟩ : MethodName)) hown (mvT hZ (hw _ (List.mem_of_getElem? (i := 208) rfl))) (mvT hZ (hw _ (List.mem_of_getElem? (i := 62) rfl))) (notFace_of_selects (args := #[]) (mvT hZ (hw _ (List.mem_of_getElem? (i := 64) rfl)))) (mvT hZ (hw _ (List.mem_of_getElem? (i := 64) rfl))) (mvT hZ (hw _ (List.mem_of_getElem? (i := 63) rfl))) (by decide) (backOf (W := 0) (rm10 l Z a0 hw [] er5 et5 _ gC ((0 + 2 + (n1_) + 2 + (n3_) : Nat).toInt32) ((((([] ++ ([45, 45] : List Int32)) ++ (A1_)) ++ ([58, 32] : List Int32)) ++ (A3_))) h5 n0 Z0 SC PC O0 Er5 Co5 Va5 Vt5) hZ (hw _ (List.mem_of_getElem? (i := 65) rfl)) (hw _ (List.mem_of_getElem? (i := 6) rfl)) (by decide) (by decide)) q11a q11c (g := (mkF m 113 #[.val (.int p1), .val (.int p2), .val (.int p3), .val (.int p4), .val (.int p5), .val (.int ((p5 &&& (3 : Int32)) % (3 : Int32))), .val (.int ((((p5.toUInt32 >>> ((2 : Int32) &&& 31).toUInt32).toInt32) &&& (3 : Int32)) % (3 : Int32))), .val (.ref r1_), .val (.ref r3_), .val (.ref ea5), .val (.ref er5), .val (.int ((0 + 2 + (n1_) + 2 + (n3_) : Nat).toInt32))] [(.ref er5)])) rfl (by rw [hml]; rfl) (Steps.refl _) (argsL := []) (rest := []) (lenOf pd_4 rfl) rfl (by show 2 * 0 + _ ≤ _; exact Nat.le_of_eq rfl) (hb hby at_113) (fun _ _ => ⟨rfl, e10, (by decide : 22 + 0 ≤ _), (by decide : 2846 + 0 ≤ _)⟩)
  dsimp only [Pt.U, Pt.locs, Pt.cells, Pt.slots] at X11 l11 y11 z11 st11 hQ11
  subst l11 y11 z11
  obtain ⟨rfl, N11q, e11⟩ := hQ11
  have N11 := Fr.app N10 N11q
  refine GoH.tr (T' := T11) (pc' := 116) (L' := #[.val (.int p1), .val (.int p2), .val (.int p3), .val (.int p4), .val (.int p5), .val (.int ((p5 &&& (3 : Int32)) % (3 : Int32))), .val (.int ((((p5.toUInt32 >>> ((2 : Int32) &&& 31).toUInt32).toInt32) &&& (3 : Int32)) % (3 : Int32))), .val (.ref r1_), .val (.ref r3_), .val (.ref ea5), .val (.ref er5), .val (.int ((0 + 2 + (n1_) + 2 + (n3_) : Nat).toInt32))]) (S' := [(.int ((0 + 2 + (n1_) + 2 + (n3_) : Nat).toInt32))]) st11 ?_
  refine GoH.st (T' := T11) (pc' := 118) (L' := #[.val (.int p1), .val (.int p2), .val (.int p3), .val (.int p4), .val (.int p5), .val (.int ((p5 &&& (3 : Int32)) % (3 : Int32))), .val (.int ((((p5.toUInt32 >>> ((2 : Int32) &&& 31).toUInt32).toInt32) &&& (3 : Int32)) % (3 : Int32))), .val (.ref r1_), .val (.ref r3_), .val (.ref ea5), .val (.ref er5), .val (.int ((0 + 2 + (n1_) + 2 + (n3_) : Nat).toInt32))]) (S' := [(.int ((0 + 2 + (n1_) + 2 + (n3_) : Nat).toInt32)), (.int ((0 + 2 + (n1_) + 2 + (n3_) : Nat).toInt32))]) (fun t_ k_ => XS.iload X11.here hx rfl (hb hby at_116) rfl  k_) ?_
  refine GoH.st (T' := T11) (pc' := 123) (L' := #[.val (.int p1), .val (.int p2), .val (.int p3), .val (.int p4), .val (.int p5), .val (.int ((p5 &&& (3 : Int32)) % (3 : Int32))), .val (.int ((((p5.toUInt32 >>> ((2 : Int32) &&& 31).toUInt32).toInt32) &&& (3 : Int32)) % (3 : Int32))), .val (.ref r1_), .val (.ref r3_), .val (.ref ea5), .val (.ref er5), .val (.int ((0 + 2 + (n1_) + 2 + (n3_) : Nat).toInt32))]) (S' := []) (fun t_ k_ => XS.icmpYes X11.here hx rfl (pc0 := 118) (pc' := 123) rfl (hb hby at_118) rfl (teq (rfl : (((0 + 2 + (n1_) + 2 + (n3_) : Nat).toInt32) = ((0 + 2 + (n1_) + 2 + (n3_) : Nat).toInt32)))).1 (by decide) (by decide) k_) ?_
  refine GoH.st (T' := T11) (pc' := 125) (L' := #[.val (.int p1), .val (.int p2), .val (.int p3), .val (.int p4), .val (.int p5), .val (.int ((p5 &&& (3 : Int32)) % (3 : Int32))), .val (.int ((((p5.toUInt32 >>> ((2 : Int32) &&& 31).toUInt32).toInt32) &&& (3 : Int32)) % (3 : Int32))), .val (.ref r1_), .val (.ref r3_), .val (.ref ea5), .val (.ref er5), .val (.int ((0 + 2 + (n1_) + 2 + (n3_) : Nat).toInt32))]) (S' := [(.ref er5)]) (fun t_ k_ => XS.aload X11.here hx rfl (hb hby at_123) rfl rfl  k_) ?_
  refine GoH.st (T' := T11) (pc' := 127) (L' := #[.val (.int p1), .val (.int p2), .val (.int p3), .val (.int p4), .val (.int p5), .val (.int ((p5 &&& (3 : Int32)) % (3 : Int32))), .val (.int ((((p5.toUInt32 >>> ((2 : Int32) &&& 31).toUInt32).toInt32) &&& (3 : Int32)) % (3 : Int32))), .val (.ref r1_), .val (.ref r3_), .val (.ref ea5), .val (.ref er5), .val (.int ((0 + 2 + (n1_) + 2 + (n3_) : Nat).toInt32))]) (S' := [(.int ((0 + 2 + (n1_) + 2 + (n3_) : Nat).toInt32)), (.ref er5)]) (fun t_ k_ => XS.iload X11.here hx rfl (hb hby at_125) rfl  k_) ?_
  refine GoH.st (T' := T11) (pc' := 128) (L' := #[.val (.int p1), .val (.int p2), .val (.int p3), .val (.int p4), .val (.int p5), .val (.int ((p5 &&& (3 : Int32)) % (3 : Int32))), .val (.int ((((p5.toUInt32 >>> ((2 : Int32) &&& 31).toUInt32).toInt32) &&& (3 : Int32)) % (3 : Int32))), .val (.ref r1_), .val (.ref r3_), .val (.ref ea5), .val (.ref er5), .val (.int ((0 + 2 + (n1_) + 2 + (n3_) : Nat).toInt32))]) (S' := [(.int (0 : Int32)), (.int ((0 + 2 + (n1_) + 2 + (n3_) : Nat).toInt32)), (.ref er5)]) (fun t_ k_ => XS.iconst X11.here hx rfl (hb hby at_127) k_) ?_
  refine GoH.st (T' := T11) (pc' := 130) (L' := #[.val (.int p1), .val (.int p2), .val (.int p3), .val (.int p4), .val (.int p5), .val (.int ((p5 &&& (3 : Int32)) % (3 : Int32))), .val (.int ((((p5.toUInt32 >>> ((2 : Int32) &&& 31).toUInt32).toInt32) &&& (3 : Int32)) % (3 : Int32))), .val (.ref r1_), .val (.ref r3_), .val (.ref ea5), .val (.ref er5), .val (.int ((0 + 2 + (n1_) + 2 + (n3_) : Nat).toInt32))]) (S' := [(.ref r1_), (.int (0 : Int32)), (.int ((0 + 2 + (n1_) + 2 + (n3_) : Nat).toInt32)), (.ref er5)]) (fun t_ k_ => XS.aload X11.here hx rfl (hb hby at_128) rfl rfl  k_) ?_
  refine GoH.st (T' := T11) (pc' := 132) (L' := #[.val (.int p1), .val (.int p2), .val (.int p3), .val (.int p4), .val (.int p5), .val (.int ((p5 &&& (3 : Int32)) % (3 : Int32))), .val (.int ((((p5.toUInt32 >>> ((2 : Int32) &&& 31).toUInt32).toInt32) &&& (3 : Int32)) % (3 : Int32))), .val (.ref r1_), .val (.ref r3_), .val (.ref ea5), .val (.ref er5), .val (.int ((0 + 2 + (n1_) + 2 + (n3_) : Nat).toInt32))]) (S' := [(.ref r3_), (.ref r1_), (.int (0 : Int32)), (.int ((0 + 2 + (n1_) + 2 + (n3_) : Nat).toInt32)), (.ref er5)]) (fun t_ k_ => XS.aload X11.here hx rfl (hb hby at_130) rfl rfl  k_) ?_
  obtain ⟨_, _, ⟨T12, L12, k12, n12⟩, -, X12, ⟨Lc12, hQ12, l12, y12, z12⟩, st12⟩ := Jvm.LawKit.callS X11 hx (y := (⟨"com/example/yusenkabu/yusenkabu/cli/InputExceptionOptionPinLaw", "at", "(Ljava/lang/String;IILjava/lang/String;Ljava/lang/String;)Z"⟩ : MethodName)) hown (mvT hZ (hw _ (List.mem_of_getElem? (i := 209) rfl))) (mvT hZ (hw _ (List.mem_of_getElem? (i := 210) rfl))) (mvT hZ (hw _ (List.mem_of_getElem? (i := 2) rfl))) (mvT hZ (hw _ (List.mem_of_getElem? (i := 211) rfl))) (by decide) (backOf (W := 0) (rmat l Z a0 hw [] er5 et5 _ ((((([] ++ ([45, 45] : List Int32)) ++ (A1_)) ++ ([58, 32] : List Int32)) ++ (A3_))) ((0 + 2 + (n1_) + 2 + (n3_) : Nat)) (0) r1_ tr1_ _ (A1_) (n1_) r3_ tr3_ _ (A3_) (n3_) fm gC h5 n0 Z0 SC PC O0 hfm SF Er5 Co5 Va5 Vt5 (own_la (own_la (own_la (own_la rfl rfl) lA1) rfl) lA3) rfl (by decide) Er1 Co1 Va1 Vt1 lA1 (by omega) Er3 Co3 Va3 Vt3 lA3 (by omega) (fun i hi => own_mm lA1 lA3 (by omega))) hZ (hw _ (List.mem_of_getElem? (i := 211) rfl)) (hw _ (List.mem_of_getElem? (i := 2) rfl)) (by decide) (by decide)) (g := (mkF m 132 #[.val (.int p1), .val (.int p2), .val (.int p3), .val (.int p4), .val (.int p5), .val (.int ((p5 &&& (3 : Int32)) % (3 : Int32))), .val (.int ((((p5.toUInt32 >>> ((2 : Int32) &&& 31).toUInt32).toInt32) &&& (3 : Int32)) % (3 : Int32))), .val (.ref r1_), .val (.ref r3_), .val (.ref ea5), .val (.ref er5), .val (.int ((0 + 2 + (n1_) + 2 + (n3_) : Nat).toInt32))] [(.ref r3_), (.ref r1_), (.int (0 : Int32)), (.int ((0 + 2 + (n1_) + 2 + (n3_) : Nat).toInt32)), (.ref er5)])) rfl (by rw [hml]; rfl) (argsL := [(.ref er5), (.int ((0 + 2 + (n1_) + 2 + (n3_) : Nat).toInt32)), (.int (0 : Int32)), (.ref r1_), (.ref r3_)]) (rest := []) (lenOf pd_27 rfl) rfl (by show 2 * 0 + _ ≤ _; exact Nat.le_of_eq rfl) (hb hby at_132) (fun _ _ => ⟨rfl, e11, (by decide : 22 + 0 ≤ _), (by decide : 2846 + 0 ≤ _)⟩)
  dsimp only [Pt.U, Pt.locs, Pt.cells, Pt.slots] at X12 l12 y12 z12 st12 hQ12
  subst l12 y12 z12
  obtain ⟨rfl, N12q, e12⟩ := hQ12
  have N12 := Fr.app N11 N12q
  refine GoH.st (T' := T12) (pc' := 135) (L' := #[.val (.int p1), .val (.int p2), .val (.int p3), .val (.int p4), .val (.int p5), .val (.int ((p5 &&& (3 : Int32)) % (3 : Int32))), .val (.int ((((p5.toUInt32 >>> ((2 : Int32) &&& 31).toUInt32).toInt32) &&& (3 : Int32)) % (3 : Int32))), .val (.ref r1_), .val (.ref r3_), .val (.ref ea5), .val (.ref er5), .val (.int ((0 + 2 + (n1_) + 2 + (n3_) : Nat).toInt32))]) (S' := [(.int (1 : Int32))]) st12 ?_
  refine GoH.st (T' := T12) (pc' := 138) (L' := #[.val (.int p1), .val (.int p2), .val (.int p3), .val (.int p4), .val (.int p5), .val (.int ((p5 &&& (3 : Int32)) % (3 : Int32))), .val (.int ((((p5.toUInt32 >>> ((2 : Int32) &&& 31).toUInt32).toInt32) &&& (3 : Int32)) % (3 : Int32))), .val (.ref r1_), .val (.ref r3_), .val (.ref ea5), .val (.ref er5), .val (.int ((0 + 2 + (n1_) + 2 + (n3_) : Nat).toInt32))]) (S' := []) (fun t_ k_ => XS.ifNo X12.here hx rfl (hb hby at_135) rfl ((if0 _ _).trans (feq (by decide : ¬ ((1 : Int32) = (0 : Int32)))).1) k_) ?_
  refine GoH.st (T' := T12) (pc' := 140) (L' := #[.val (.int p1), .val (.int p2), .val (.int p3), .val (.int p4), .val (.int p5), .val (.int ((p5 &&& (3 : Int32)) % (3 : Int32))), .val (.int ((((p5.toUInt32 >>> ((2 : Int32) &&& 31).toUInt32).toInt32) &&& (3 : Int32)) % (3 : Int32))), .val (.ref r1_), .val (.ref r3_), .val (.ref ea5), .val (.ref er5), .val (.int ((0 + 2 + (n1_) + 2 + (n3_) : Nat).toInt32))]) (S' := [(.ref er5)]) (fun t_ k_ => XS.aload X12.here hx rfl (hb hby at_138) rfl rfl  k_) ?_
  refine GoH.st (T' := T12) (pc' := 142) (L' := #[.val (.int p1), .val (.int p2), .val (.int p3), .val (.int p4), .val (.int p5), .val (.int ((p5 &&& (3 : Int32)) % (3 : Int32))), .val (.int ((((p5.toUInt32 >>> ((2 : Int32) &&& 31).toUInt32).toInt32) &&& (3 : Int32)) % (3 : Int32))), .val (.ref r1_), .val (.ref r3_), .val (.ref ea5), .val (.ref er5), .val (.int ((0 + 2 + (n1_) + 2 + (n3_) : Nat).toInt32))]) (S' := [(.int ((0 + 2 + (n1_) + 2 + (n3_) : Nat).toInt32)), (.ref er5)]) (fun t_ k_ => XS.iload X12.here hx rfl (hb hby at_140) rfl  k_) ?_
  refine GoH.st (T' := T12) (pc' := 143) (L' := #[.val (.int p1), .val (.int p2), .val (.int p3), .val (.int p4), .val (.int p5), .val (.int ((p5 &&& (3 : Int32)) % (3 : Int32))), .val (.int ((((p5.toUInt32 >>> ((2 : Int32) &&& 31).toUInt32).toInt32) &&& (3 : Int32)) % (3 : Int32))), .val (.ref r1_), .val (.ref r3_), .val (.ref ea5), .val (.ref er5), .val (.int ((0 + 2 + (n1_) + 2 + (n3_) : Nat).toInt32))]) (S' := [(.int (1 : Int32)), (.int ((0 + 2 + (n1_) + 2 + (n3_) : Nat).toInt32)), (.ref er5)]) (fun t_ k_ => XS.iconst X12.here hx rfl (hb hby at_142) k_) ?_
  refine GoH.st (T' := T12) (pc' := 145) (L' := #[.val (.int p1), .val (.int p2), .val (.int p3), .val (.int p4), .val (.int p5), .val (.int ((p5 &&& (3 : Int32)) % (3 : Int32))), .val (.int ((((p5.toUInt32 >>> ((2 : Int32) &&& 31).toUInt32).toInt32) &&& (3 : Int32)) % (3 : Int32))), .val (.ref r1_), .val (.ref r3_), .val (.ref ea5), .val (.ref er5), .val (.int ((0 + 2 + (n1_) + 2 + (n3_) : Nat).toInt32))]) (S' := [(.ref r1_), (.int (1 : Int32)), (.int ((0 + 2 + (n1_) + 2 + (n3_) : Nat).toInt32)), (.ref er5)]) (fun t_ k_ => XS.aload X12.here hx rfl (hb hby at_143) rfl rfl  k_) ?_
  refine GoH.st (T' := T12) (pc' := 147) (L' := #[.val (.int p1), .val (.int p2), .val (.int p3), .val (.int p4), .val (.int p5), .val (.int ((p5 &&& (3 : Int32)) % (3 : Int32))), .val (.int ((((p5.toUInt32 >>> ((2 : Int32) &&& 31).toUInt32).toInt32) &&& (3 : Int32)) % (3 : Int32))), .val (.ref r1_), .val (.ref r3_), .val (.ref ea5), .val (.ref er5), .val (.int ((0 + 2 + (n1_) + 2 + (n3_) : Nat).toInt32))]) (S' := [(.ref r3_), (.ref r1_), (.int (1 : Int32)), (.int ((0 + 2 + (n1_) + 2 + (n3_) : Nat).toInt32)), (.ref er5)]) (fun t_ k_ => XS.aload X12.here hx rfl (hb hby at_145) rfl rfl  k_) ?_
  obtain ⟨_, _, ⟨T13, L13, k13, n13⟩, -, X13, ⟨Lc13, hQ13, l13, y13, z13⟩, st13⟩ := Jvm.LawKit.callS X12 hx (y := (⟨"com/example/yusenkabu/yusenkabu/cli/InputExceptionOptionPinLaw", "at", "(Ljava/lang/String;IILjava/lang/String;Ljava/lang/String;)Z"⟩ : MethodName)) hown (mvT hZ (hw _ (List.mem_of_getElem? (i := 209) rfl))) (mvT hZ (hw _ (List.mem_of_getElem? (i := 210) rfl))) (mvT hZ (hw _ (List.mem_of_getElem? (i := 2) rfl))) (mvT hZ (hw _ (List.mem_of_getElem? (i := 211) rfl))) (by decide) (backOf (W := 0) (rmat l Z a0 hw [] er5 et5 _ ((((([] ++ ([45, 45] : List Int32)) ++ (A1_)) ++ ([58, 32] : List Int32)) ++ (A3_))) ((0 + 2 + (n1_) + 2 + (n3_) : Nat)) (1) r1_ tr1_ _ (A1_) (n1_) r3_ tr3_ _ (A3_) (n3_) fm gC h5 n0 Z0 SC PC O0 hfm SF Er5 Co5 Va5 Vt5 (own_la (own_la (own_la (own_la rfl rfl) lA1) rfl) lA3) rfl (by decide) Er1 Co1 Va1 Vt1 lA1 (by omega) Er3 Co3 Va3 Vt3 lA3 (by omega) (fun i hi => own_mm lA1 lA3 (by omega))) hZ (hw _ (List.mem_of_getElem? (i := 211) rfl)) (hw _ (List.mem_of_getElem? (i := 2) rfl)) (by decide) (by decide)) (g := (mkF m 147 #[.val (.int p1), .val (.int p2), .val (.int p3), .val (.int p4), .val (.int p5), .val (.int ((p5 &&& (3 : Int32)) % (3 : Int32))), .val (.int ((((p5.toUInt32 >>> ((2 : Int32) &&& 31).toUInt32).toInt32) &&& (3 : Int32)) % (3 : Int32))), .val (.ref r1_), .val (.ref r3_), .val (.ref ea5), .val (.ref er5), .val (.int ((0 + 2 + (n1_) + 2 + (n3_) : Nat).toInt32))] [(.ref r3_), (.ref r1_), (.int (1 : Int32)), (.int ((0 + 2 + (n1_) + 2 + (n3_) : Nat).toInt32)), (.ref er5)])) rfl (by rw [hml]; rfl) (argsL := [(.ref er5), (.int ((0 + 2 + (n1_) + 2 + (n3_) : Nat).toInt32)), (.int (1 : Int32)), (.ref r1_), (.ref r3_)]) (rest := []) (lenOf pd_27 rfl) rfl (by show 2 * 0 + _ ≤ _; exact Nat.le_of_eq rfl) (hb hby at_147) (fun _ _ => ⟨rfl, e12, (by decide : 22 + 0 ≤ _), (by decide : 2846 + 0 ≤ _)⟩)
  dsimp only [Pt.U, Pt.locs, Pt.cells, Pt.slots] at X13 l13 y13 z13 st13 hQ13
  subst l13 y13 z13
  obtain ⟨rfl, N13q, e13⟩ := hQ13
  have N13 := Fr.app N12 N13q
  refine GoH.st (T' := T13) (pc' := 150) (L' := #[.val (.int p1), .val (.int p2), .val (.int p3), .val (.int p4), .val (.int p5), .val (.int ((p5 &&& (3 : Int32)) % (3 : Int32))), .val (.int ((((p5.toUInt32 >>> ((2 : Int32) &&& 31).toUInt32).toInt32) &&& (3 : Int32)) % (3 : Int32))), .val (.ref r1_), .val (.ref r3_), .val (.ref ea5), .val (.ref er5), .val (.int ((0 + 2 + (n1_) + 2 + (n3_) : Nat).toInt32))]) (S' := [(.int (1 : Int32))]) st13 ?_
  refine GoH.st (T' := T13) (pc' := 153) (L' := #[.val (.int p1), .val (.int p2), .val (.int p3), .val (.int p4), .val (.int p5), .val (.int ((p5 &&& (3 : Int32)) % (3 : Int32))), .val (.int ((((p5.toUInt32 >>> ((2 : Int32) &&& 31).toUInt32).toInt32) &&& (3 : Int32)) % (3 : Int32))), .val (.ref r1_), .val (.ref r3_), .val (.ref ea5), .val (.ref er5), .val (.int ((0 + 2 + (n1_) + 2 + (n3_) : Nat).toInt32))]) (S' := []) (fun t_ k_ => XS.ifNo X13.here hx rfl (hb hby at_150) rfl ((if0 _ _).trans (feq (by decide : ¬ ((1 : Int32) = (0 : Int32)))).1) k_) ?_
  refine GoH.st (T' := T13) (pc' := 155) (L' := #[.val (.int p1), .val (.int p2), .val (.int p3), .val (.int p4), .val (.int p5), .val (.int ((p5 &&& (3 : Int32)) % (3 : Int32))), .val (.int ((((p5.toUInt32 >>> ((2 : Int32) &&& 31).toUInt32).toInt32) &&& (3 : Int32)) % (3 : Int32))), .val (.ref r1_), .val (.ref r3_), .val (.ref ea5), .val (.ref er5), .val (.int ((0 + 2 + (n1_) + 2 + (n3_) : Nat).toInt32))]) (S' := [(.ref er5)]) (fun t_ k_ => XS.aload X13.here hx rfl (hb hby at_153) rfl rfl  k_) ?_
  refine GoH.st (T' := T13) (pc' := 157) (L' := #[.val (.int p1), .val (.int p2), .val (.int p3), .val (.int p4), .val (.int p5), .val (.int ((p5 &&& (3 : Int32)) % (3 : Int32))), .val (.int ((((p5.toUInt32 >>> ((2 : Int32) &&& 31).toUInt32).toInt32) &&& (3 : Int32)) % (3 : Int32))), .val (.ref r1_), .val (.ref r3_), .val (.ref ea5), .val (.ref er5), .val (.int ((0 + 2 + (n1_) + 2 + (n3_) : Nat).toInt32))]) (S' := [(.int ((0 + 2 + (n1_) + 2 + (n3_) : Nat).toInt32)), (.ref er5)]) (fun t_ k_ => XS.iload X13.here hx rfl (hb hby at_155) rfl  k_) ?_
  refine GoH.st (T' := T13) (pc' := 158) (L' := #[.val (.int p1), .val (.int p2), .val (.int p3), .val (.int p4), .val (.int p5), .val (.int ((p5 &&& (3 : Int32)) % (3 : Int32))), .val (.int ((((p5.toUInt32 >>> ((2 : Int32) &&& 31).toUInt32).toInt32) &&& (3 : Int32)) % (3 : Int32))), .val (.ref r1_), .val (.ref r3_), .val (.ref ea5), .val (.ref er5), .val (.int ((0 + 2 + (n1_) + 2 + (n3_) : Nat).toInt32))]) (S' := [(.int (2 : Int32)), (.int ((0 + 2 + (n1_) + 2 + (n3_) : Nat).toInt32)), (.ref er5)]) (fun t_ k_ => XS.iconst X13.here hx rfl (hb hby at_157) k_) ?_
  refine GoH.st (T' := T13) (pc' := 160) (L' := #[.val (.int p1), .val (.int p2), .val (.int p3), .val (.int p4), .val (.int p5), .val (.int ((p5 &&& (3 : Int32)) % (3 : Int32))), .val (.int ((((p5.toUInt32 >>> ((2 : Int32) &&& 31).toUInt32).toInt32) &&& (3 : Int32)) % (3 : Int32))), .val (.ref r1_), .val (.ref r3_), .val (.ref ea5), .val (.ref er5), .val (.int ((0 + 2 + (n1_) + 2 + (n3_) : Nat).toInt32))]) (S' := [(.ref r1_), (.int (2 : Int32)), (.int ((0 + 2 + (n1_) + 2 + (n3_) : Nat).toInt32)), (.ref er5)]) (fun t_ k_ => XS.aload X13.here hx rfl (hb hby at_158) rfl rfl  k_) ?_
  refine GoH.st (T' := T13) (pc' := 162) (L' := #[.val (.int p1), .val (.int p2), .val (.int p3), .val (.int p4), .val (.int p5), .val (.int ((p5 &&& (3 : Int32)) % (3 : Int32))), .val (.int ((((p5.toUInt32 >>> ((2 : Int32) &&& 31).toUInt32).toInt32) &&& (3 : Int32)) % (3 : Int32))), .val (.ref r1_), .val (.ref r3_), .val (.ref ea5), .val (.ref er5), .val (.int ((0 + 2 + (n1_) + 2 + (n3_) : Nat).toInt32))]) (S' := [(.ref r3_), (.ref r1_), (.int (2 : Int32)), (.int ((0 + 2 + (n1_) + 2 + (n3_) : Nat).toInt32)), (.ref er5)]) (fun t_ k_ => XS.aload X13.here hx rfl (hb hby at_160) rfl rfl  k_) ?_
  obtain ⟨_, _, ⟨T14, L14, k14, n14⟩, -, X14, ⟨Lc14, hQ14, l14, y14, z14⟩, st14⟩ := Jvm.LawKit.callS X13 hx (y := (⟨"com/example/yusenkabu/yusenkabu/cli/InputExceptionOptionPinLaw", "at", "(Ljava/lang/String;IILjava/lang/String;Ljava/lang/String;)Z"⟩ : MethodName)) hown (mvT hZ (hw _ (List.mem_of_getElem? (i := 209) rfl))) (mvT hZ (hw _ (List.mem_of_getElem? (i := 210) rfl))) (mvT hZ (hw _ (List.mem_of_getElem? (i := 2) rfl))) (mvT hZ (hw _ (List.mem_of_getElem? (i := 211) rfl))) (by decide) (backOf (W := 0) (rmat l Z a0 hw [] er5 et5 _ ((((([] ++ ([45, 45] : List Int32)) ++ (A1_)) ++ ([58, 32] : List Int32)) ++ (A3_))) ((0 + 2 + (n1_) + 2 + (n3_) : Nat)) (2) r1_ tr1_ _ (A1_) (n1_) r3_ tr3_ _ (A3_) (n3_) fm gC h5 n0 Z0 SC PC O0 hfm SF Er5 Co5 Va5 Vt5 (own_la (own_la (own_la (own_la rfl rfl) lA1) rfl) lA3) rfl (by decide) Er1 Co1 Va1 Vt1 lA1 (by omega) Er3 Co3 Va3 Vt3 lA3 (by omega) (fun i hi => own_mm lA1 lA3 (by omega))) hZ (hw _ (List.mem_of_getElem? (i := 211) rfl)) (hw _ (List.mem_of_getElem? (i := 2) rfl)) (by decide) (by decide)) (g := (mkF m 162 #[.val (.int p1), .val (.int p2), .val (.int p3), .val (.int p4), .val (.int p5), .val (.int ((p5 &&& (3 : Int32)) % (3 : Int32))), .val (.int ((((p5.toUInt32 >>> ((2 : Int32) &&& 31).toUInt32).toInt32) &&& (3 : Int32)) % (3 : Int32))), .val (.ref r1_), .val (.ref r3_), .val (.ref ea5), .val (.ref er5), .val (.int ((0 + 2 + (n1_) + 2 + (n3_) : Nat).toInt32))] [(.ref r3_), (.ref r1_), (.int (2 : Int32)), (.int ((0 + 2 + (n1_) + 2 + (n3_) : Nat).toInt32)), (.ref er5)])) rfl (by rw [hml]; rfl) (argsL := [(.ref er5), (.int ((0 + 2 + (n1_) + 2 + (n3_) : Nat).toInt32)), (.int (2 : Int32)), (.ref r1_), (.ref r3_)]) (rest := []) (lenOf pd_27 rfl) rfl (by show 2 * 0 + _ ≤ _; exact Nat.le_of_eq rfl) (hb hby at_162) (fun _ _ => ⟨rfl, e13, (by decide : 22 + 0 ≤ _), (by decide : 2846 + 0 ≤ _)⟩)
  dsimp only [Pt.U, Pt.locs, Pt.cells, Pt.slots] at X14 l14 y14 z14 st14 hQ14
  subst l14 y14 z14
  obtain ⟨rfl, N14q, e14⟩ := hQ14
  have N14 := Fr.app N13 N14q
  refine GoH.st (T' := T14) (pc' := 165) (L' := #[.val (.int p1), .val (.int p2), .val (.int p3), .val (.int p4), .val (.int p5), .val (.int ((p5 &&& (3 : Int32)) % (3 : Int32))), .val (.int ((((p5.toUInt32 >>> ((2 : Int32) &&& 31).toUInt32).toInt32) &&& (3 : Int32)) % (3 : Int32))), .val (.ref r1_), .val (.ref r3_), .val (.ref ea5), .val (.ref er5), .val (.int ((0 + 2 + (n1_) + 2 + (n3_) : Nat).toInt32))]) (S' := [(.int (1 : Int32))]) st14 ?_
  refine GoH.st (T' := T14) (pc' := 168) (L' := #[.val (.int p1), .val (.int p2), .val (.int p3), .val (.int p4), .val (.int p5), .val (.int ((p5 &&& (3 : Int32)) % (3 : Int32))), .val (.int ((((p5.toUInt32 >>> ((2 : Int32) &&& 31).toUInt32).toInt32) &&& (3 : Int32)) % (3 : Int32))), .val (.ref r1_), .val (.ref r3_), .val (.ref ea5), .val (.ref er5), .val (.int ((0 + 2 + (n1_) + 2 + (n3_) : Nat).toInt32))]) (S' := []) (fun t_ k_ => XS.ifNo X14.here hx rfl (hb hby at_165) rfl ((if0 _ _).trans (feq (by decide : ¬ ((1 : Int32) = (0 : Int32)))).1) k_) ?_
  refine GoH.st (T' := T14) (pc' := 170) (L' := #[.val (.int p1), .val (.int p2), .val (.int p3), .val (.int p4), .val (.int p5), .val (.int ((p5 &&& (3 : Int32)) % (3 : Int32))), .val (.int ((((p5.toUInt32 >>> ((2 : Int32) &&& 31).toUInt32).toInt32) &&& (3 : Int32)) % (3 : Int32))), .val (.ref r1_), .val (.ref r3_), .val (.ref ea5), .val (.ref er5), .val (.int ((0 + 2 + (n1_) + 2 + (n3_) : Nat).toInt32))]) (S' := [(.ref er5)]) (fun t_ k_ => XS.aload X14.here hx rfl (hb hby at_168) rfl rfl  k_) ?_
  refine GoH.st (T' := T14) (pc' := 172) (L' := #[.val (.int p1), .val (.int p2), .val (.int p3), .val (.int p4), .val (.int p5), .val (.int ((p5 &&& (3 : Int32)) % (3 : Int32))), .val (.int ((((p5.toUInt32 >>> ((2 : Int32) &&& 31).toUInt32).toInt32) &&& (3 : Int32)) % (3 : Int32))), .val (.ref r1_), .val (.ref r3_), .val (.ref ea5), .val (.ref er5), .val (.int ((0 + 2 + (n1_) + 2 + (n3_) : Nat).toInt32))]) (S' := [(.int ((0 + 2 + (n1_) + 2 + (n3_) : Nat).toInt32)), (.ref er5)]) (fun t_ k_ => XS.iload X14.here hx rfl (hb hby at_170) rfl  k_) ?_
  refine GoH.st (T' := T14) (pc' := 173) (L' := #[.val (.int p1), .val (.int p2), .val (.int p3), .val (.int p4), .val (.int p5), .val (.int ((p5 &&& (3 : Int32)) % (3 : Int32))), .val (.int ((((p5.toUInt32 >>> ((2 : Int32) &&& 31).toUInt32).toInt32) &&& (3 : Int32)) % (3 : Int32))), .val (.ref r1_), .val (.ref r3_), .val (.ref ea5), .val (.ref er5), .val (.int ((0 + 2 + (n1_) + 2 + (n3_) : Nat).toInt32))]) (S' := [(.int (3 : Int32)), (.int ((0 + 2 + (n1_) + 2 + (n3_) : Nat).toInt32)), (.ref er5)]) (fun t_ k_ => XS.iconst X14.here hx rfl (hb hby at_172) k_) ?_
  refine GoH.st (T' := T14) (pc' := 175) (L' := #[.val (.int p1), .val (.int p2), .val (.int p3), .val (.int p4), .val (.int p5), .val (.int ((p5 &&& (3 : Int32)) % (3 : Int32))), .val (.int ((((p5.toUInt32 >>> ((2 : Int32) &&& 31).toUInt32).toInt32) &&& (3 : Int32)) % (3 : Int32))), .val (.ref r1_), .val (.ref r3_), .val (.ref ea5), .val (.ref er5), .val (.int ((0 + 2 + (n1_) + 2 + (n3_) : Nat).toInt32))]) (S' := [(.ref r1_), (.int (3 : Int32)), (.int ((0 + 2 + (n1_) + 2 + (n3_) : Nat).toInt32)), (.ref er5)]) (fun t_ k_ => XS.aload X14.here hx rfl (hb hby at_173) rfl rfl  k_) ?_
  refine GoH.st (T' := T14) (pc' := 177) (L' := #[.val (.int p1), .val (.int p2), .val (.int p3), .val (.int p4), .val (.int p5), .val (.int ((p5 &&& (3 : Int32)) % (3 : Int32))), .val (.int ((((p5.toUInt32 >>> ((2 : Int32) &&& 31).toUInt32).toInt32) &&& (3 : Int32)) % (3 : Int32))), .val (.ref r1_), .val (.ref r3_), .val (.ref ea5), .val (.ref er5), .val (.int ((0 + 2 + (n1_) + 2 + (n3_) : Nat).toInt32))]) (S' := [(.ref r3_), (.ref r1_), (.int (3 : Int32)), (.int ((0 + 2 + (n1_) + 2 + (n3_) : Nat).toInt32)), (.ref er5)]) (fun t_ k_ => XS.aload X14.here hx rfl (hb hby at_175) rfl rfl  k_) ?_
  obtain ⟨_, _, ⟨T15, L15, k15, n15⟩, -, X15, ⟨Lc15, hQ15, l15, y15, z15⟩, st15⟩ := Jvm.LawKit.callS X14 hx (y := (⟨"com/example/yusenkabu/yusenkabu/cli/InputExceptionOptionPinLaw", "at", "(Ljava/lang/String;IILjava/lang/String;Ljava/lang/String;)Z"⟩ : MethodName)) hown (mvT hZ (hw _ (List.mem_of_getElem? (i := 209) rfl))) (mvT hZ (hw _ (List.mem_of_getElem? (i := 210) rfl))) (mvT hZ (hw _ (List.mem_of_getElem? (i := 2) rfl))) (mvT hZ (hw _ (List.mem_of_getElem? (i := 211) rfl))) (by decide) (backOf (W := 0) (rmat l Z a0 hw [] er5 et5 _ ((((([] ++ ([45, 45] : List Int32)) ++ (A1_)) ++ ([58, 32] : List Int32)) ++ (A3_))) ((0 + 2 + (n1_) + 2 + (n3_) : Nat)) (3) r1_ tr1_ _ (A1_) (n1_) r3_ tr3_ _ (A3_) (n3_) fm gC h5 n0 Z0 SC PC O0 hfm SF Er5 Co5 Va5 Vt5 (own_la (own_la (own_la (own_la rfl rfl) lA1) rfl) lA3) rfl (by decide) Er1 Co1 Va1 Vt1 lA1 (by omega) Er3 Co3 Va3 Vt3 lA3 (by omega) (fun i hi => own_mm lA1 lA3 (by omega))) hZ (hw _ (List.mem_of_getElem? (i := 211) rfl)) (hw _ (List.mem_of_getElem? (i := 2) rfl)) (by decide) (by decide)) (g := (mkF m 177 #[.val (.int p1), .val (.int p2), .val (.int p3), .val (.int p4), .val (.int p5), .val (.int ((p5 &&& (3 : Int32)) % (3 : Int32))), .val (.int ((((p5.toUInt32 >>> ((2 : Int32) &&& 31).toUInt32).toInt32) &&& (3 : Int32)) % (3 : Int32))), .val (.ref r1_), .val (.ref r3_), .val (.ref ea5), .val (.ref er5), .val (.int ((0 + 2 + (n1_) + 2 + (n3_) : Nat).toInt32))] [(.ref r3_), (.ref r1_), (.int (3 : Int32)), (.int ((0 + 2 + (n1_) + 2 + (n3_) : Nat).toInt32)), (.ref er5)])) rfl (by rw [hml]; rfl) (argsL := [(.ref er5), (.int ((0 + 2 + (n1_) + 2 + (n3_) : Nat).toInt32)), (.int (3 : Int32)), (.ref r1_), (.ref r3_)]) (rest := []) (lenOf pd_27 rfl) rfl (by show 2 * 0 + _ ≤ _; exact Nat.le_of_eq rfl) (hb hby at_177) (fun _ _ => ⟨rfl, e14, (by decide : 22 + 0 ≤ _), (by decide : 2846 + 0 ≤ _)⟩)
  dsimp only [Pt.U, Pt.locs, Pt.cells, Pt.slots] at X15 l15 y15 z15 st15 hQ15
  subst l15 y15 z15
  obtain ⟨rfl, N15q, e15⟩ := hQ15
  have N15 := Fr.app N14 N15q
  refine GoH.st (T' := T15) (pc' := 180) (L' := #[.val (.int p1), .val (.int p2), .val (.int p3), .val (.int p4), .val (.int p5), .val (.int ((p5 &&& (3 : Int32)) % (3 : Int32))), .val (.int ((((p5.toUInt32 >>> ((2 : Int32) &&& 31).toUInt32).toInt32) &&& (3 : Int32)) % (3 : Int32))), .val (.ref r1_), .val (.ref r3_), .val (.ref ea5), .val (.ref er5), .val (.int ((0 + 2 + (n1_) + 2 + (n3_) : Nat).toInt32))]) (S' := [(.int (1 : Int32))]) st15 ?_
  refine GoH.st (T' := T15) (pc' := 183) (L' := #[.val (.int p1), .val (.int p2), .val (.int p3), .val (.int p4), .val (.int p5), .val (.int ((p5 &&& (3 : Int32)) % (3 : Int32))), .val (.int ((((p5.toUInt32 >>> ((2 : Int32) &&& 31).toUInt32).toInt32) &&& (3 : Int32)) % (3 : Int32))), .val (.ref r1_), .val (.ref r3_), .val (.ref ea5), .val (.ref er5), .val (.int ((0 + 2 + (n1_) + 2 + (n3_) : Nat).toInt32))]) (S' := []) (fun t_ k_ => XS.ifNo X15.here hx rfl (hb hby at_180) rfl ((if0 _ _).trans (feq (by decide : ¬ ((1 : Int32) = (0 : Int32)))).1) k_) ?_
  refine GoH.st (T' := T15) (pc' := 185) (L' := #[.val (.int p1), .val (.int p2), .val (.int p3), .val (.int p4), .val (.int p5), .val (.int ((p5 &&& (3 : Int32)) % (3 : Int32))), .val (.int ((((p5.toUInt32 >>> ((2 : Int32) &&& 31).toUInt32).toInt32) &&& (3 : Int32)) % (3 : Int32))), .val (.ref r1_), .val (.ref r3_), .val (.ref ea5), .val (.ref er5), .val (.int ((0 + 2 + (n1_) + 2 + (n3_) : Nat).toInt32))]) (S' := [(.ref er5)]) (fun t_ k_ => XS.aload X15.here hx rfl (hb hby at_183) rfl rfl  k_) ?_
  refine GoH.st (T' := T15) (pc' := 187) (L' := #[.val (.int p1), .val (.int p2), .val (.int p3), .val (.int p4), .val (.int p5), .val (.int ((p5 &&& (3 : Int32)) % (3 : Int32))), .val (.int ((((p5.toUInt32 >>> ((2 : Int32) &&& 31).toUInt32).toInt32) &&& (3 : Int32)) % (3 : Int32))), .val (.ref r1_), .val (.ref r3_), .val (.ref ea5), .val (.ref er5), .val (.int ((0 + 2 + (n1_) + 2 + (n3_) : Nat).toInt32))]) (S' := [(.int ((0 + 2 + (n1_) + 2 + (n3_) : Nat).toInt32)), (.ref er5)]) (fun t_ k_ => XS.iload X15.here hx rfl (hb hby at_185) rfl  k_) ?_
  refine GoH.st (T' := T15) (pc' := 188) (L' := #[.val (.int p1), .val (.int p2), .val (.int p3), .val (.int p4), .val (.int p5), .val (.int ((p5 &&& (3 : Int32)) % (3 : Int32))), .val (.int ((((p5.toUInt32 >>> ((2 : Int32) &&& 31).toUInt32).toInt32) &&& (3 : Int32)) % (3 : Int32))), .val (.ref r1_), .val (.ref r3_), .val (.ref ea5), .val (.ref er5), .val (.int ((0 + 2 + (n1_) + 2 + (n3_) : Nat).toInt32))]) (S' := [(.int (4 : Int32)), (.int ((0 + 2 + (n1_) + 2 + (n3_) : Nat).toInt32)), (.ref er5)]) (fun t_ k_ => XS.iconst X15.here hx rfl (hb hby at_187) k_) ?_
  refine GoH.st (T' := T15) (pc' := 190) (L' := #[.val (.int p1), .val (.int p2), .val (.int p3), .val (.int p4), .val (.int p5), .val (.int ((p5 &&& (3 : Int32)) % (3 : Int32))), .val (.int ((((p5.toUInt32 >>> ((2 : Int32) &&& 31).toUInt32).toInt32) &&& (3 : Int32)) % (3 : Int32))), .val (.ref r1_), .val (.ref r3_), .val (.ref ea5), .val (.ref er5), .val (.int ((0 + 2 + (n1_) + 2 + (n3_) : Nat).toInt32))]) (S' := [(.ref r1_), (.int (4 : Int32)), (.int ((0 + 2 + (n1_) + 2 + (n3_) : Nat).toInt32)), (.ref er5)]) (fun t_ k_ => XS.aload X15.here hx rfl (hb hby at_188) rfl rfl  k_) ?_
  refine GoH.st (T' := T15) (pc' := 192) (L' := #[.val (.int p1), .val (.int p2), .val (.int p3), .val (.int p4), .val (.int p5), .val (.int ((p5 &&& (3 : Int32)) % (3 : Int32))), .val (.int ((((p5.toUInt32 >>> ((2 : Int32) &&& 31).toUInt32).toInt32) &&& (3 : Int32)) % (3 : Int32))), .val (.ref r1_), .val (.ref r3_), .val (.ref ea5), .val (.ref er5), .val (.int ((0 + 2 + (n1_) + 2 + (n3_) : Nat).toInt32))]) (S' := [(.ref r3_), (.ref r1_), (.int (4 : Int32)), (.int ((0 + 2 + (n1_) + 2 + (n3_) : Nat).toInt32)), (.ref er5)]) (fun t_ k_ => XS.aload X15.here hx rfl (hb hby at_190) rfl rfl  k_) ?_
  obtain ⟨_, _, ⟨T16, L16, k16, n16⟩, -, X16, ⟨Lc16, hQ16, l16, y16, z16⟩, st16⟩ := Jvm.LawKit.callS X15 hx (y := (⟨"com/example/yusenkabu/yusenkabu/cli/InputExceptionOptionPinLaw", "at", "(Ljava/lang/String;IILjava/lang/String;Ljava/lang/String;)Z"⟩ : MethodName)) hown (mvT hZ (hw _ (List.mem_of_getElem? (i := 209) rfl))) (mvT hZ (hw _ (List.mem_of_getElem? (i := 210) rfl))) (mvT hZ (hw _ (List.mem_of_getElem? (i := 2) rfl))) (mvT hZ (hw _ (List.mem_of_getElem? (i := 211) rfl))) (by decide) (backOf (W := 0) (rmat l Z a0 hw [] er5 et5 _ ((((([] ++ ([45, 45] : List Int32)) ++ (A1_)) ++ ([58, 32] : List Int32)) ++ (A3_))) ((0 + 2 + (n1_) + 2 + (n3_) : Nat)) (4) r1_ tr1_ _ (A1_) (n1_) r3_ tr3_ _ (A3_) (n3_) fm gC h5 n0 Z0 SC PC O0 hfm SF Er5 Co5 Va5 Vt5 (own_la (own_la (own_la (own_la rfl rfl) lA1) rfl) lA3) rfl (by decide) Er1 Co1 Va1 Vt1 lA1 (by omega) Er3 Co3 Va3 Vt3 lA3 (by omega) (fun i hi => own_mm lA1 lA3 (by omega))) hZ (hw _ (List.mem_of_getElem? (i := 211) rfl)) (hw _ (List.mem_of_getElem? (i := 2) rfl)) (by decide) (by decide)) (g := (mkF m 192 #[.val (.int p1), .val (.int p2), .val (.int p3), .val (.int p4), .val (.int p5), .val (.int ((p5 &&& (3 : Int32)) % (3 : Int32))), .val (.int ((((p5.toUInt32 >>> ((2 : Int32) &&& 31).toUInt32).toInt32) &&& (3 : Int32)) % (3 : Int32))), .val (.ref r1_), .val (.ref r3_), .val (.ref ea5), .val (.ref er5), .val (.int ((0 + 2 + (n1_) + 2 + (n3_) : Nat).toInt32))] [(.ref r3_), (.ref r1_), (.int (4 : Int32)), (.int ((0 + 2 + (n1_) + 2 + (n3_) : Nat).toInt32)), (.ref er5)])) rfl (by rw [hml]; rfl) (argsL := [(.ref er5), (.int ((0 + 2 + (n1_) + 2 + (n3_) : Nat).toInt32)), (.int (4 : Int32)), (.ref r1_), (.ref r3_)]) (rest := []) (lenOf pd_27 rfl) rfl (by show 2 * 0 + _ ≤ _; exact Nat.le_of_eq rfl) (hb hby at_192) (fun _ _ => ⟨rfl, e15, (by decide : 22 + 0 ≤ _), (by decide : 2846 + 0 ≤ _)⟩)
  dsimp only [Pt.U, Pt.locs, Pt.cells, Pt.slots] at X16 l16 y16 z16 st16 hQ16
  subst l16 y16 z16
  obtain ⟨rfl, N16q, e16⟩ := hQ16
  have N16 := Fr.app N15 N16q
  refine GoH.st (T' := T16) (pc' := 195) (L' := #[.val (.int p1), .val (.int p2), .val (.int p3), .val (.int p4), .val (.int p5), .val (.int ((p5 &&& (3 : Int32)) % (3 : Int32))), .val (.int ((((p5.toUInt32 >>> ((2 : Int32) &&& 31).toUInt32).toInt32) &&& (3 : Int32)) % (3 : Int32))), .val (.ref r1_), .val (.ref r3_), .val (.ref ea5), .val (.ref er5), .val (.int ((0 + 2 + (n1_) + 2 + (n3_) : Nat).toInt32))]) (S' := [(.int (1 : Int32))]) st16 ?_
  refine GoH.st (T' := T16) (pc' := 198) (L' := #[.val (.int p1), .val (.int p2), .val (.int p3), .val (.int p4), .val (.int p5), .val (.int ((p5 &&& (3 : Int32)) % (3 : Int32))), .val (.int ((((p5.toUInt32 >>> ((2 : Int32) &&& 31).toUInt32).toInt32) &&& (3 : Int32)) % (3 : Int32))), .val (.ref r1_), .val (.ref r3_), .val (.ref ea5), .val (.ref er5), .val (.int ((0 + 2 + (n1_) + 2 + (n3_) : Nat).toInt32))]) (S' := []) (fun t_ k_ => XS.ifNo X16.here hx rfl (hb hby at_195) rfl ((if0 _ _).trans (feq (by decide : ¬ ((1 : Int32) = (0 : Int32)))).1) k_) ?_
  refine GoH.st (T' := T16) (pc' := 200) (L' := #[.val (.int p1), .val (.int p2), .val (.int p3), .val (.int p4), .val (.int p5), .val (.int ((p5 &&& (3 : Int32)) % (3 : Int32))), .val (.int ((((p5.toUInt32 >>> ((2 : Int32) &&& 31).toUInt32).toInt32) &&& (3 : Int32)) % (3 : Int32))), .val (.ref r1_), .val (.ref r3_), .val (.ref ea5), .val (.ref er5), .val (.int ((0 + 2 + (n1_) + 2 + (n3_) : Nat).toInt32))]) (S' := [(.ref er5)]) (fun t_ k_ => XS.aload X16.here hx rfl (hb hby at_198) rfl rfl  k_) ?_
  refine GoH.st (T' := T16) (pc' := 202) (L' := #[.val (.int p1), .val (.int p2), .val (.int p3), .val (.int p4), .val (.int p5), .val (.int ((p5 &&& (3 : Int32)) % (3 : Int32))), .val (.int ((((p5.toUInt32 >>> ((2 : Int32) &&& 31).toUInt32).toInt32) &&& (3 : Int32)) % (3 : Int32))), .val (.ref r1_), .val (.ref r3_), .val (.ref ea5), .val (.ref er5), .val (.int ((0 + 2 + (n1_) + 2 + (n3_) : Nat).toInt32))]) (S' := [(.int ((0 + 2 + (n1_) + 2 + (n3_) : Nat).toInt32)), (.ref er5)]) (fun t_ k_ => XS.iload X16.here hx rfl (hb hby at_200) rfl  k_) ?_
  refine GoH.st (T' := T16) (pc' := 203) (L' := #[.val (.int p1), .val (.int p2), .val (.int p3), .val (.int p4), .val (.int p5), .val (.int ((p5 &&& (3 : Int32)) % (3 : Int32))), .val (.int ((((p5.toUInt32 >>> ((2 : Int32) &&& 31).toUInt32).toInt32) &&& (3 : Int32)) % (3 : Int32))), .val (.ref r1_), .val (.ref r3_), .val (.ref ea5), .val (.ref er5), .val (.int ((0 + 2 + (n1_) + 2 + (n3_) : Nat).toInt32))]) (S' := [(.int (5 : Int32)), (.int ((0 + 2 + (n1_) + 2 + (n3_) : Nat).toInt32)), (.ref er5)]) (fun t_ k_ => XS.iconst X16.here hx rfl (hb hby at_202) k_) ?_
  refine GoH.st (T' := T16) (pc' := 205) (L' := #[.val (.int p1), .val (.int p2), .val (.int p3), .val (.int p4), .val (.int p5), .val (.int ((p5 &&& (3 : Int32)) % (3 : Int32))), .val (.int ((((p5.toUInt32 >>> ((2 : Int32) &&& 31).toUInt32).toInt32) &&& (3 : Int32)) % (3 : Int32))), .val (.ref r1_), .val (.ref r3_), .val (.ref ea5), .val (.ref er5), .val (.int ((0 + 2 + (n1_) + 2 + (n3_) : Nat).toInt32))]) (S' := [(.ref r1_), (.int (5 : Int32)), (.int ((0 + 2 + (n1_) + 2 + (n3_) : Nat).toInt32)), (.ref er5)]) (fun t_ k_ => XS.aload X16.here hx rfl (hb hby at_203) rfl rfl  k_) ?_
  refine GoH.st (T' := T16) (pc' := 207) (L' := #[.val (.int p1), .val (.int p2), .val (.int p3), .val (.int p4), .val (.int p5), .val (.int ((p5 &&& (3 : Int32)) % (3 : Int32))), .val (.int ((((p5.toUInt32 >>> ((2 : Int32) &&& 31).toUInt32).toInt32) &&& (3 : Int32)) % (3 : Int32))), .val (.ref r1_), .val (.ref r3_), .val (.ref ea5), .val (.ref er5), .val (.int ((0 + 2 + (n1_) + 2 + (n3_) : Nat).toInt32))]) (S' := [(.ref r3_), (.ref r1_), (.int (5 : Int32)), (.int ((0 + 2 + (n1_) + 2 + (n3_) : Nat).toInt32)), (.ref er5)]) (fun t_ k_ => XS.aload X16.here hx rfl (hb hby at_205) rfl rfl  k_) ?_
  obtain ⟨_, _, ⟨T17, L17, k17, n17⟩, -, X17, ⟨Lc17, hQ17, l17, y17, z17⟩, st17⟩ := Jvm.LawKit.callS X16 hx (y := (⟨"com/example/yusenkabu/yusenkabu/cli/InputExceptionOptionPinLaw", "at", "(Ljava/lang/String;IILjava/lang/String;Ljava/lang/String;)Z"⟩ : MethodName)) hown (mvT hZ (hw _ (List.mem_of_getElem? (i := 209) rfl))) (mvT hZ (hw _ (List.mem_of_getElem? (i := 210) rfl))) (mvT hZ (hw _ (List.mem_of_getElem? (i := 2) rfl))) (mvT hZ (hw _ (List.mem_of_getElem? (i := 211) rfl))) (by decide) (backOf (W := 0) (rmat l Z a0 hw [] er5 et5 _ ((((([] ++ ([45, 45] : List Int32)) ++ (A1_)) ++ ([58, 32] : List Int32)) ++ (A3_))) ((0 + 2 + (n1_) + 2 + (n3_) : Nat)) (5) r1_ tr1_ _ (A1_) (n1_) r3_ tr3_ _ (A3_) (n3_) fm gC h5 n0 Z0 SC PC O0 hfm SF Er5 Co5 Va5 Vt5 (own_la (own_la (own_la (own_la rfl rfl) lA1) rfl) lA3) rfl (by decide) Er1 Co1 Va1 Vt1 lA1 (by omega) Er3 Co3 Va3 Vt3 lA3 (by omega) (fun i hi => own_mm lA1 lA3 (by omega))) hZ (hw _ (List.mem_of_getElem? (i := 211) rfl)) (hw _ (List.mem_of_getElem? (i := 2) rfl)) (by decide) (by decide)) (g := (mkF m 207 #[.val (.int p1), .val (.int p2), .val (.int p3), .val (.int p4), .val (.int p5), .val (.int ((p5 &&& (3 : Int32)) % (3 : Int32))), .val (.int ((((p5.toUInt32 >>> ((2 : Int32) &&& 31).toUInt32).toInt32) &&& (3 : Int32)) % (3 : Int32))), .val (.ref r1_), .val (.ref r3_), .val (.ref ea5), .val (.ref er5), .val (.int ((0 + 2 + (n1_) + 2 + (n3_) : Nat).toInt32))] [(.ref r3_), (.ref r1_), (.int (5 : Int32)), (.int ((0 + 2 + (n1_) + 2 + (n3_) : Nat).toInt32)), (.ref er5)])) rfl (by rw [hml]; rfl) (argsL := [(.ref er5), (.int ((0 + 2 + (n1_) + 2 + (n3_) : Nat).toInt32)), (.int (5 : Int32)), (.ref r1_), (.ref r3_)]) (rest := []) (lenOf pd_27 rfl) rfl (by show 2 * 0 + _ ≤ _; exact Nat.le_of_eq rfl) (hb hby at_207) (fun _ _ => ⟨rfl, e16, (by decide : 22 + 0 ≤ _), (by decide : 2846 + 0 ≤ _)⟩)
  dsimp only [Pt.U, Pt.locs, Pt.cells, Pt.slots] at X17 l17 y17 z17 st17 hQ17
  subst l17 y17 z17
  obtain ⟨rfl, N17q, e17⟩ := hQ17
  have N17 := Fr.app N16 N17q
  refine GoH.st (T' := T17) (pc' := 210) (L' := #[.val (.int p1), .val (.int p2), .val (.int p3), .val (.int p4), .val (.int p5), .val (.int ((p5 &&& (3 : Int32)) % (3 : Int32))), .val (.int ((((p5.toUInt32 >>> ((2 : Int32) &&& 31).toUInt32).toInt32) &&& (3 : Int32)) % (3 : Int32))), .val (.ref r1_), .val (.ref r3_), .val (.ref ea5), .val (.ref er5), .val (.int ((0 + 2 + (n1_) + 2 + (n3_) : Nat).toInt32))]) (S' := [(.int (1 : Int32))]) st17 ?_
  refine GoH.st (T' := T17) (pc' := 213) (L' := #[.val (.int p1), .val (.int p2), .val (.int p3), .val (.int p4), .val (.int p5), .val (.int ((p5 &&& (3 : Int32)) % (3 : Int32))), .val (.int ((((p5.toUInt32 >>> ((2 : Int32) &&& 31).toUInt32).toInt32) &&& (3 : Int32)) % (3 : Int32))), .val (.ref r1_), .val (.ref r3_), .val (.ref ea5), .val (.ref er5), .val (.int ((0 + 2 + (n1_) + 2 + (n3_) : Nat).toInt32))]) (S' := []) (fun t_ k_ => XS.ifNo X17.here hx rfl (hb hby at_210) rfl ((if0 _ _).trans (feq (by decide : ¬ ((1 : Int32) = (0 : Int32)))).1) k_) ?_
  refine GoH.st (T' := T17) (pc' := 215) (L' := #[.val (.int p1), .val (.int p2), .val (.int p3), .val (.int p4), .val (.int p5), .val (.int ((p5 &&& (3 : Int32)) % (3 : Int32))), .val (.int ((((p5.toUInt32 >>> ((2 : Int32) &&& 31).toUInt32).toInt32) &&& (3 : Int32)) % (3 : Int32))), .val (.ref r1_), .val (.ref r3_), .val (.ref ea5), .val (.ref er5), .val (.int ((0 + 2 + (n1_) + 2 + (n3_) : Nat).toInt32))]) (S' := [(.ref er5)]) (fun t_ k_ => XS.aload X17.here hx rfl (hb hby at_213) rfl rfl  k_) ?_
  refine GoH.st (T' := T17) (pc' := 217) (L' := #[.val (.int p1), .val (.int p2), .val (.int p3), .val (.int p4), .val (.int p5), .val (.int ((p5 &&& (3 : Int32)) % (3 : Int32))), .val (.int ((((p5.toUInt32 >>> ((2 : Int32) &&& 31).toUInt32).toInt32) &&& (3 : Int32)) % (3 : Int32))), .val (.ref r1_), .val (.ref r3_), .val (.ref ea5), .val (.ref er5), .val (.int ((0 + 2 + (n1_) + 2 + (n3_) : Nat).toInt32))]) (S' := [(.int ((0 + 2 + (n1_) + 2 + (n3_) : Nat).toInt32)), (.ref er5)]) (fun t_ k_ => XS.iload X17.here hx rfl (hb hby at_215) rfl  k_) ?_
  refine GoH.st (T' := T17) (pc' := 219) (L' := #[.val (.int p1), .val (.int p2), .val (.int p3), .val (.int p4), .val (.int p5), .val (.int ((p5 &&& (3 : Int32)) % (3 : Int32))), .val (.int ((((p5.toUInt32 >>> ((2 : Int32) &&& 31).toUInt32).toInt32) &&& (3 : Int32)) % (3 : Int32))), .val (.ref r1_), .val (.ref r3_), .val (.ref ea5), .val (.ref er5), .val (.int ((0 + 2 + (n1_) + 2 + (n3_) : Nat).toInt32))]) (S' := [(.int (6 : Int32)), (.int ((0 + 2 + (n1_) + 2 + (n3_) : Nat).toInt32)), (.ref er5)]) (fun t_ k_ => XS.bipush X17.here hx rfl (hb hby at_217) k_) ?_
  refine GoH.st (T' := T17) (pc' := 221) (L' := #[.val (.int p1), .val (.int p2), .val (.int p3), .val (.int p4), .val (.int p5), .val (.int ((p5 &&& (3 : Int32)) % (3 : Int32))), .val (.int ((((p5.toUInt32 >>> ((2 : Int32) &&& 31).toUInt32).toInt32) &&& (3 : Int32)) % (3 : Int32))), .val (.ref r1_), .val (.ref r3_), .val (.ref ea5), .val (.ref er5), .val (.int ((0 + 2 + (n1_) + 2 + (n3_) : Nat).toInt32))]) (S' := [(.ref r1_), (.int (6 : Int32)), (.int ((0 + 2 + (n1_) + 2 + (n3_) : Nat).toInt32)), (.ref er5)]) (fun t_ k_ => XS.aload X17.here hx rfl (hb hby at_219) rfl rfl  k_) ?_
  refine GoH.st (T' := T17) (pc' := 223) (L' := #[.val (.int p1), .val (.int p2), .val (.int p3), .val (.int p4), .val (.int p5), .val (.int ((p5 &&& (3 : Int32)) % (3 : Int32))), .val (.int ((((p5.toUInt32 >>> ((2 : Int32) &&& 31).toUInt32).toInt32) &&& (3 : Int32)) % (3 : Int32))), .val (.ref r1_), .val (.ref r3_), .val (.ref ea5), .val (.ref er5), .val (.int ((0 + 2 + (n1_) + 2 + (n3_) : Nat).toInt32))]) (S' := [(.ref r3_), (.ref r1_), (.int (6 : Int32)), (.int ((0 + 2 + (n1_) + 2 + (n3_) : Nat).toInt32)), (.ref er5)]) (fun t_ k_ => XS.aload X17.here hx rfl (hb hby at_221) rfl rfl  k_) ?_
  obtain ⟨_, _, ⟨T18, L18, k18, n18⟩, -, X18, ⟨Lc18, hQ18, l18, y18, z18⟩, st18⟩ := Jvm.LawKit.callS X17 hx (y := (⟨"com/example/yusenkabu/yusenkabu/cli/InputExceptionOptionPinLaw", "at", "(Ljava/lang/String;IILjava/lang/String;Ljava/lang/String;)Z"⟩ : MethodName)) hown (mvT hZ (hw _ (List.mem_of_getElem? (i := 209) rfl))) (mvT hZ (hw _ (List.mem_of_getElem? (i := 210) rfl))) (mvT hZ (hw _ (List.mem_of_getElem? (i := 2) rfl))) (mvT hZ (hw _ (List.mem_of_getElem? (i := 211) rfl))) (by decide) (backOf (W := 0) (rmat l Z a0 hw [] er5 et5 _ ((((([] ++ ([45, 45] : List Int32)) ++ (A1_)) ++ ([58, 32] : List Int32)) ++ (A3_))) ((0 + 2 + (n1_) + 2 + (n3_) : Nat)) (6) r1_ tr1_ _ (A1_) (n1_) r3_ tr3_ _ (A3_) (n3_) fm gC h5 n0 Z0 SC PC O0 hfm SF Er5 Co5 Va5 Vt5 (own_la (own_la (own_la (own_la rfl rfl) lA1) rfl) lA3) rfl (by decide) Er1 Co1 Va1 Vt1 lA1 (by omega) Er3 Co3 Va3 Vt3 lA3 (by omega) (fun i hi => own_mm lA1 lA3 (by omega))) hZ (hw _ (List.mem_of_getElem? (i := 211) rfl)) (hw _ (List.mem_of_getElem? (i := 2) rfl)) (by decide) (by decide)) (g := (mkF m 223 #[.val (.int p1), .val (.int p2), .val (.int p3), .val (.int p4), .val (.int p5), .val (.int ((p5 &&& (3 : Int32)) % (3 : Int32))), .val (.int ((((p5.toUInt32 >>> ((2 : Int32) &&& 31).toUInt32).toInt32) &&& (3 : Int32)) % (3 : Int32))), .val (.ref r1_), .val (.ref r3_), .val (.ref ea5), .val (.ref er5), .val (.int ((0 + 2 + (n1_) + 2 + (n3_) : Nat).toInt32))] [(.ref r3_), (.ref r1_), (.int (6 : Int32)), (.int ((0 + 2 + (n1_) + 2 + (n3_) : Nat).toInt32)), (.ref er5)])) rfl (by rw [hml]; rfl) (argsL := [(.ref er5), (.int ((0 + 2 + (n1_) + 2 + (n3_) : Nat).toInt32)), (.int (6 : Int32)), (.ref r1_), (.ref r3_)]) (rest := []) (lenOf pd_27 rfl) rfl (by show 2 * 0 + _ ≤ _; exact Nat.le_of_eq rfl) (hb hby at_223) (fun _ _ => ⟨rfl, e17, (by decide : 22 + 0 ≤ _), (by decide : 2846 + 0 ≤ _)⟩)
  dsimp only [Pt.U, Pt.locs, Pt.cells, Pt.slots] at X18 l18 y18 z18 st18 hQ18
  subst l18 y18 z18
  obtain ⟨rfl, N18q, e18⟩ := hQ18
  have N18 := Fr.app N17 N18q
  refine GoH.st (T' := T18) (pc' := 226) (L' := #[.val (.int p1), .val (.int p2), .val (.int p3), .val (.int p4), .val (.int p5), .val (.int ((p5 &&& (3 : Int32)) % (3 : Int32))), .val (.int ((((p5.toUInt32 >>> ((2 : Int32) &&& 31).toUInt32).toInt32) &&& (3 : Int32)) % (3 : Int32))), .val (.ref r1_), .val (.ref r3_), .val (.ref ea5), .val (.ref er5), .val (.int ((0 + 2 + (n1_) + 2 + (n3_) : Nat).toInt32))]) (S' := [(.int (1 : Int32))]) st18 ?_
  refine GoH.st (T' := T18) (pc' := 229) (L' := #[.val (.int p1), .val (.int p2), .val (.int p3), .val (.int p4), .val (.int p5), .val (.int ((p5 &&& (3 : Int32)) % (3 : Int32))), .val (.int ((((p5.toUInt32 >>> ((2 : Int32) &&& 31).toUInt32).toInt32) &&& (3 : Int32)) % (3 : Int32))), .val (.ref r1_), .val (.ref r3_), .val (.ref ea5), .val (.ref er5), .val (.int ((0 + 2 + (n1_) + 2 + (n3_) : Nat).toInt32))]) (S' := []) (fun t_ k_ => XS.ifNo X18.here hx rfl (hb hby at_226) rfl ((if0 _ _).trans (feq (by decide : ¬ ((1 : Int32) = (0 : Int32)))).1) k_) ?_
  refine GoH.st (T' := T18) (pc' := 231) (L' := #[.val (.int p1), .val (.int p2), .val (.int p3), .val (.int p4), .val (.int p5), .val (.int ((p5 &&& (3 : Int32)) % (3 : Int32))), .val (.int ((((p5.toUInt32 >>> ((2 : Int32) &&& 31).toUInt32).toInt32) &&& (3 : Int32)) % (3 : Int32))), .val (.ref r1_), .val (.ref r3_), .val (.ref ea5), .val (.ref er5), .val (.int ((0 + 2 + (n1_) + 2 + (n3_) : Nat).toInt32))]) (S' := [(.ref er5)]) (fun t_ k_ => XS.aload X18.here hx rfl (hb hby at_229) rfl rfl  k_) ?_
  refine GoH.st (T' := T18) (pc' := 233) (L' := #[.val (.int p1), .val (.int p2), .val (.int p3), .val (.int p4), .val (.int p5), .val (.int ((p5 &&& (3 : Int32)) % (3 : Int32))), .val (.int ((((p5.toUInt32 >>> ((2 : Int32) &&& 31).toUInt32).toInt32) &&& (3 : Int32)) % (3 : Int32))), .val (.ref r1_), .val (.ref r3_), .val (.ref ea5), .val (.ref er5), .val (.int ((0 + 2 + (n1_) + 2 + (n3_) : Nat).toInt32))]) (S' := [(.int ((0 + 2 + (n1_) + 2 + (n3_) : Nat).toInt32)), (.ref er5)]) (fun t_ k_ => XS.iload X18.here hx rfl (hb hby at_231) rfl  k_) ?_
  refine GoH.st (T' := T18) (pc' := 235) (L' := #[.val (.int p1), .val (.int p2), .val (.int p3), .val (.int p4), .val (.int p5), .val (.int ((p5 &&& (3 : Int32)) % (3 : Int32))), .val (.int ((((p5.toUInt32 >>> ((2 : Int32) &&& 31).toUInt32).toInt32) &&& (3 : Int32)) % (3 : Int32))), .val (.ref r1_), .val (.ref r3_), .val (.ref ea5), .val (.ref er5), .val (.int ((0 + 2 + (n1_) + 2 + (n3_) : Nat).toInt32))]) (S' := [(.int (7 : Int32)), (.int ((0 + 2 + (n1_) + 2 + (n3_) : Nat).toInt32)), (.ref er5)]) (fun t_ k_ => XS.bipush X18.here hx rfl (hb hby at_233) k_) ?_
  refine GoH.st (T' := T18) (pc' := 237) (L' := #[.val (.int p1), .val (.int p2), .val (.int p3), .val (.int p4), .val (.int p5), .val (.int ((p5 &&& (3 : Int32)) % (3 : Int32))), .val (.int ((((p5.toUInt32 >>> ((2 : Int32) &&& 31).toUInt32).toInt32) &&& (3 : Int32)) % (3 : Int32))), .val (.ref r1_), .val (.ref r3_), .val (.ref ea5), .val (.ref er5), .val (.int ((0 + 2 + (n1_) + 2 + (n3_) : Nat).toInt32))]) (S' := [(.ref r1_), (.int (7 : Int32)), (.int ((0 + 2 + (n1_) + 2 + (n3_) : Nat).toInt32)), (.ref er5)]) (fun t_ k_ => XS.aload X18.here hx rfl (hb hby at_235) rfl rfl  k_) ?_
  refine GoH.st (T' := T18) (pc' := 239) (L' := #[.val (.int p1), .val (.int p2), .val (.int p3), .val (.int p4), .val (.int p5), .val (.int ((p5 &&& (3 : Int32)) % (3 : Int32))), .val (.int ((((p5.toUInt32 >>> ((2 : Int32) &&& 31).toUInt32).toInt32) &&& (3 : Int32)) % (3 : Int32))), .val (.ref r1_), .val (.ref r3_), .val (.ref ea5), .val (.ref er5), .val (.int ((0 + 2 + (n1_) + 2 + (n3_) : Nat).toInt32))]) (S' := [(.ref r3_), (.ref r1_), (.int (7 : Int32)), (.int ((0 + 2 + (n1_) + 2 + (n3_) : Nat).toInt32)), (.ref er5)]) (fun t_ k_ => XS.aload X18.here hx rfl (hb hby at_237) rfl rfl  k_) ?_
  obtain ⟨_, _, ⟨T19, L19, k19, n19⟩, -, X19, ⟨Lc19, hQ19, l19, y19, z19⟩, st19⟩ := Jvm.LawKit.callS X18 hx (y := (⟨"com/example/yusenkabu/yusenkabu/cli/InputExceptionOptionPinLaw", "at", "(Ljava/lang/String;IILjava/lang/String;Ljava/lang/String;)Z"⟩ : MethodName)) hown (mvT hZ (hw _ (List.mem_of_getElem? (i := 209) rfl))) (mvT hZ (hw _ (List.mem_of_getElem? (i := 210) rfl))) (mvT hZ (hw _ (List.mem_of_getElem? (i := 2) rfl))) (mvT hZ (hw _ (List.mem_of_getElem? (i := 211) rfl))) (by decide) (backOf (W := 0) (rmat l Z a0 hw [] er5 et5 _ ((((([] ++ ([45, 45] : List Int32)) ++ (A1_)) ++ ([58, 32] : List Int32)) ++ (A3_))) ((0 + 2 + (n1_) + 2 + (n3_) : Nat)) (7) r1_ tr1_ _ (A1_) (n1_) r3_ tr3_ _ (A3_) (n3_) fm gC h5 n0 Z0 SC PC O0 hfm SF Er5 Co5 Va5 Vt5 (own_la (own_la (own_la (own_la rfl rfl) lA1) rfl) lA3) rfl (by decide) Er1 Co1 Va1 Vt1 lA1 (by omega) Er3 Co3 Va3 Vt3 lA3 (by omega) (fun i hi => own_mm lA1 lA3 (by omega))) hZ (hw _ (List.mem_of_getElem? (i := 211) rfl)) (hw _ (List.mem_of_getElem? (i := 2) rfl)) (by decide) (by decide)) (g := (mkF m 239 #[.val (.int p1), .val (.int p2), .val (.int p3), .val (.int p4), .val (.int p5), .val (.int ((p5 &&& (3 : Int32)) % (3 : Int32))), .val (.int ((((p5.toUInt32 >>> ((2 : Int32) &&& 31).toUInt32).toInt32) &&& (3 : Int32)) % (3 : Int32))), .val (.ref r1_), .val (.ref r3_), .val (.ref ea5), .val (.ref er5), .val (.int ((0 + 2 + (n1_) + 2 + (n3_) : Nat).toInt32))] [(.ref r3_), (.ref r1_), (.int (7 : Int32)), (.int ((0 + 2 + (n1_) + 2 + (n3_) : Nat).toInt32)), (.ref er5)])) rfl (by rw [hml]; rfl) (argsL := [(.ref er5), (.int ((0 + 2 + (n1_) + 2 + (n3_) : Nat).toInt32)), (.int (7 : Int32)), (.ref r1_), (.ref r3_)]) (rest := []) (lenOf pd_27 rfl) rfl (by show 2 * 0 + _ ≤ _; exact Nat.le_of_eq rfl) (hb hby at_239) (fun _ _ => ⟨rfl, e18, (by decide : 22 + 0 ≤ _), (by decide : 2846 + 0 ≤ _)⟩)
  dsimp only [Pt.U, Pt.locs, Pt.cells, Pt.slots] at X19 l19 y19 z19 st19 hQ19
  subst l19 y19 z19
  obtain ⟨rfl, N19q, e19⟩ := hQ19
  have N19 := Fr.app N18 N19q
  refine GoH.st (T' := T19) (pc' := 242) (L' := #[.val (.int p1), .val (.int p2), .val (.int p3), .val (.int p4), .val (.int p5), .val (.int ((p5 &&& (3 : Int32)) % (3 : Int32))), .val (.int ((((p5.toUInt32 >>> ((2 : Int32) &&& 31).toUInt32).toInt32) &&& (3 : Int32)) % (3 : Int32))), .val (.ref r1_), .val (.ref r3_), .val (.ref ea5), .val (.ref er5), .val (.int ((0 + 2 + (n1_) + 2 + (n3_) : Nat).toInt32))]) (S' := [(.int (1 : Int32))]) st19 ?_
  refine GoH.st (T' := T19) (pc' := 245) (L' := #[.val (.int p1), .val (.int p2), .val (.int p3), .val (.int p4), .val (.int p5), .val (.int ((p5 &&& (3 : Int32)) % (3 : Int32))), .val (.int ((((p5.toUInt32 >>> ((2 : Int32) &&& 31).toUInt32).toInt32) &&& (3 : Int32)) % (3 : Int32))), .val (.ref r1_), .val (.ref r3_), .val (.ref ea5), .val (.ref er5), .val (.int ((0 + 2 + (n1_) + 2 + (n3_) : Nat).toInt32))]) (S' := []) (fun t_ k_ => XS.ifNo X19.here hx rfl (hb hby at_242) rfl ((if0 _ _).trans (feq (by decide : ¬ ((1 : Int32) = (0 : Int32)))).1) k_) ?_
  refine GoH.st (T' := T19) (pc' := 246) (L' := #[.val (.int p1), .val (.int p2), .val (.int p3), .val (.int p4), .val (.int p5), .val (.int ((p5 &&& (3 : Int32)) % (3 : Int32))), .val (.int ((((p5.toUInt32 >>> ((2 : Int32) &&& 31).toUInt32).toInt32) &&& (3 : Int32)) % (3 : Int32))), .val (.ref r1_), .val (.ref r3_), .val (.ref ea5), .val (.ref er5), .val (.int ((0 + 2 + (n1_) + 2 + (n3_) : Nat).toInt32))]) (S' := [(.int (1 : Int32))]) (fun t_ k_ => XS.iconst X19.here hx rfl (hb hby at_245) k_) ?_
  refine GoH.st (T' := T19) (pc' := 250) (L' := #[.val (.int p1), .val (.int p2), .val (.int p3), .val (.int p4), .val (.int p5), .val (.int ((p5 &&& (3 : Int32)) % (3 : Int32))), .val (.int ((((p5.toUInt32 >>> ((2 : Int32) &&& 31).toUInt32).toInt32) &&& (3 : Int32)) % (3 : Int32))), .val (.ref r1_), .val (.ref r3_), .val (.ref ea5), .val (.ref er5), .val (.int ((0 + 2 + (n1_) + 2 + (n3_) : Nat).toInt32))]) (S' := [(.int (1 : Int32))]) (fun t_ k_ => XS.goto X19.here hx rfl (pc0 := 246) (pc' := 250) rfl (hb hby at_246) (by decide) (by decide) k_) ?_
  exact GoH.retN X19 hx hlk hret (by simp) (hb hby at_250) (by decide) (by decide) hS hk e19 hs0 hZ (own_EW hw) CR (by rw [e19]; exact ⟨rfl, N19⟩)
theorem own_sub : ∀ q ∈ EL, q ∈ consts_1 := by decide
set_option maxRecDepth 65536 in
set_option maxHeartbeats 40000000 in
theorem comes_1 {Post : Tables → Env → Array Value → State → Outcome → State → Prop} (hpost : ∀ tb e args s v u, (limb_1_1.after args s (.returned v) u = true ∧ limb_1_2.after args s (.returned v) u = true ∧ True) → Jvm.D.FramedW s (.returned v) u (Jvm.fieldLocs frame_1_writes args s ++ Jvm.arrayLocs frame_1_arrays args s ++ Jvm.staticLocs frame_1_statics s) 40 8768 → Post tb e args s (.returned v) u) :
    ArmFor flags0 classFile x code maxLocals ret World_1 tables_1 room_1 Calls_1 rest_1 Pre_1 Post := by
  intro l hfl _ _ p e ha hc hk s m args below hf hA hF happ hP
  obtain ⟨hcalls, hrest, hpre⟩ := hP
  obtain ⟨-, -, -, hnamed, -, -, -, hat⟩ := (Spec.applies_iff hf).mp happ
  obtain ⟨hg, hn⟩ := and_e (Cond.before_iff.mp (show (Jvm.Cond.and given_1 narrow_1).before args s = true from hpre))
  obtain ⟨gc, gr0⟩ := and_e hg
  obtain ⟨ga0, gr1⟩ := and_e gr0
  obtain ⟨ga1, gr2⟩ := and_e gr1
  obtain ⟨ga2, gr3⟩ := and_e gr2
  obtain ⟨ga3, gr4⟩ := and_e gr3
  have ga4 := gr4
  obtain ⟨w0, w1, w2, w3, w4, rfl⟩ : ∃ w0 w1 w2 w3 w4 : Value, args = #[w0, w1, w2, w3, w4] := by
    have hs : args.size = 5 := by simpa [Cond.value, given_1] using gc
    obtain ⟨L⟩ := args
    match L, hs with
    | [w0, w1, w2, w3, w4], _ => exact ⟨w0, w1, w2, w3, w4, rfl⟩
  have hw := fun d (hd : d ∈ tables_1) => atoms_spec (ws := Jvm.Cond.code x code maxLocals ret :: tables_1) hat d (List.mem_cons_of_mem _ hd)
  have hfit : Fit s := fun {y c} hc i hi => by
    obtain ⟨ha, rfl⟩ := Array.getElem?_eq_some_iff.mp hc
    have q := List.all_eq_true.mp ((Array.all_eq_true_iff_forall_mem.mp hF) _ (Array.getElem_mem ha)) i (List.mem_range.mpr hi)
    simpa [Array.getElem?_eq_getElem hi] using q
  obtain ⟨hsets, hown0⟩ := atoms_of _ (rest_1_c_eq ▸ (show rest_1_c.before _ s = true from hrest))
  obtain ⟨i0, ei0⟩ := is_v ga0
  obtain rfl : w0 = (.int i0) := Option.some.inj ei0
  obtain ⟨i1, ei1⟩ := is_v ga1
  obtain rfl : w1 = (.int i1) := Option.some.inj ei1
  obtain ⟨i2, ei2⟩ := is_v ga2
  obtain rfl : w2 = (.int i2) := Option.some.inj ei2
  obtain ⟨i3, ei3⟩ := is_v ga3
  obtain rfl : w3 = (.int i3) := Option.some.inj ei3
  obtain ⟨i4, ei4⟩ := is_v ga4
  obtain rfl : w4 = (.int i4) := Option.some.inj ei4
  have nc0 := not_v (Cond.before_iff.mp (hsets _ (List.mem_of_getElem? (i := 2) rfl)))
  obtain ⟨gC, eC⟩ := is_v (Cond.before_iff.mp (hsets _ (List.mem_of_getElem? (i := 1) rfl)))
  have SC : Sta s s.heap "java/lang/String" "COMPACT_STRINGS" "Z" (.int gC) := Sta.start eC (Or.inl (hsets _ (List.mem_of_getElem? (i := 0) rfl)))
  have PC : ¬ (gC = (0 : Int32)) := gotF (Cond.eq_ints eC (Term.int_eval (0))) nc0
  have wX := Cond.before_iff.mp (hsets _ (List.mem_of_getElem? (i := 8) rfl))
  obtain ⟨fm, eE, hfm⟩ := isR_v wX
  have SF : Sta s s.heap "jdk/internal/util/Preconditions" "SIOOBE_FORMATTER" "Ljava/util/function/BiFunction;" fm := Sta.start eE (Or.inl (hsets _ (List.mem_of_getElem? (i := 7) rfl)))
  have hl : l.stackTraces = true := by unfold Launch.stackTraces; rw [hfl]; decide
  have r2 := two_refs hfit (hw _ (List.mem_of_getElem? (i := 188) rfl)) (hw _ (List.mem_of_getElem? (i := 189) rfl))
  obtain ⟨vU, eU, hvU⟩ := isR_v (Cond.before_iff.mp (r2 _ (List.mem_of_getElem? (i := 0) rfl)))
  obtain ⟨vS, eS, hvS⟩ := isR_v (Cond.before_iff.mp (r2 _ (List.mem_of_getElem? (i := 1) rfl)))
  have SU : Sta s s.heap "java/lang/Throwable" "UNASSIGNED_STACK" "[Ljava/lang/StackTraceElement;" vU := Sta.start eU (Or.inr ⟨hw _ (List.mem_of_getElem? (i := 157) rfl), hw _ (List.mem_of_getElem? (i := 188) rfl)⟩)
  have SS : Sta s s.heap "java/lang/Throwable" "SUPPRESSED_SENTINEL" "Ljava/util/List;" vS := Sta.start eS (Or.inr ⟨hw _ (List.mem_of_getElem? (i := 157) rfl), hw _ (List.mem_of_getElem? (i := 189) rfl)⟩)
  have hH0 : CHv s EL s.vm s.heap := CHv.start (own_EW hw) (fun q hq => hcalls.2.2.1 q (own_sub q hq)) (hsets _ (List.mem_of_getElem? (i := 2) rfl)) (own_wS hw _ (by simp [Bundle.stringAtoms])) (own_wS hw _ (by simp [Bundle.stringAtoms, Bundle.sN]))
  obtain ⟨n, o, h1, h2, h3, _, L, rfl, ⟨rfl, N⟩, -, hq⟩ := rm0 l s _ hw tables_1 i0 i1 i2 i3 i4 vU vS gC fm s.heap s.heap.size (Nat.le_refl _) SC PC (Old.start s) hfm SF hvU hvS SU SS hl p e ha hc hk s m _ below hf ((Spec.applies_iff_loose hf).mp happ).1 ⟨rfl, State.Warmed39.refl s, rfl, hH0⟩ ⟨own_mk0 hcalls.2.1, own_fk0 hf hcalls.1⟩
  refine ⟨n, _, h1, h2, h3, hpost _ _ _ _ _ _ ⟨Cond.after_iff.mpr rfl, Cond.after_iff.mpr (eq_i res_at (Term.int_eval (1)) rfl), trivial⟩ ⟨hq.1, hq.2.1, hq.2.2.1, (hq.2.2.2.sift fun y hy => Or.inr (N y hy)).mono (by decide) (by decide)⟩⟩
theorem main_1_1 : Claimed_1_1 := comes_1 fun _ _ _ _ _ _ h hF => ⟨h.1, hF⟩
theorem main_1_2 : Claimed_1_2 := comes_1 fun _ _ _ _ _ _ h hF => ⟨h.2.1, hF⟩
end Jvm.Pilot.@@N@@
namespace Jvm.Pilot.@@N@@
open Jvm Jvm.ClassFile Sem Op Lib Jvm.Free Jvm.Stand Jvm.Pilot.@@N@@.Jvm.D
/-! MADE BY PROGRAM (witnessworld.py) out of the Statement's table words and the real class files: 41 classes; the members and pool entries that the words name. The judged class is class 1, her method 4. -/
namespace start1
open Jvm.ClassFile
def u (s : String) : CpInfo := .utf8 (stringToUtf16 s)
/-- a pool by its gaps: so many unusable entries, then the entry; so many at the end -/
def gap : Nat → List CpInfo → List CpInfo
  | 0, r => r
  | n + 1, r => .unusable :: gap n r
def poolList (es : List (Nat × CpInfo)) (last : Nat) : List CpInfo := es.foldr (fun e r => gap e.1 (e.2 :: r)) (gap last [])
def pool (es : List (Nat × CpInfo)) (last : Nat) : Array CpInfo := ⟨poolList es last⟩
def fileOf (pool : Array CpInfo) (this : Nat) (attrs : Array Attribute := #[]) (ms : Array MethodInfo := #[]) (fl : Nat := 33) (sup : Nat := 0) (ifs : Array Nat := #[]) (fds : Array FieldInfo := #[]) : ClassFile where
  minorVersion := 0
  majorVersion := 65
  constantPool := pool
  accessFlags := fl
  thisClass := this
  superClass := sup
  interfaces := ifs
  fields := fds
  methods := ms
  attributes := attrs
def plain (name : String) (sup : Option ClassId) : Class where
  name := name
  kind := .ordinary
  loader := none
  accessFlags := 33
  super := sup
  interfaces := #[]
  cf := none
  fields := #[]
  methods := #[]
  instanceTypes := #[]
  staticTypes := #[]
  resolved := #[]
  callSites := []
  init := .initialized
  statics := none
  mirror := none

def pool0 : Array CpInfo := pool [(5, u "<init>"), (0, u "()V"), (1, .class_ 10), (1, u "java/lang/Object")] 113

def k0c0 : Code := { maxStack := 0, maxLocals := 1, code := object_method_1_code, exceptionTable := #[], attributes := #[] }
def k0m0 : Method := { name := "<init>", desc := "()V", sig := { parameters := [], returnType := none }, accessFlags := 1, code := some k0c0 }
/-- java/lang/Object -/
def k0 : Class := { plain "java/lang/Object" none with
  accessFlags := 33
  interfaces := #[]
  cf := some (fileOf pool0 8 #[] #[{ accessFlags := 1, nameIndex := 5, descriptorIndex := 6, attributes := #[] }] 33 0 #[] #[])
  fields := #[]
  methods := #[k0m0]
  instanceTypes := #[]
  staticTypes := #[]
  resolved := Array.replicate 124 none
  statics := none }

def pool1 : Array CpInfo := pool [(2, .class_ 4), (1, u "java/lang/Object"), (0, u "<init>"), (0, u "()V"), (0, .class_ 8), (0, u "java/lang/String"), (0, .methodref 7 10), (0, .nameAndType 5 11), (0, u "([C)V"), (0, .methodref 7 13), (0, .nameAndType 14 15), (0, u "length"), (0, u "()I"), (0, .methodref 7 17), (0, .nameAndType 18 19), (0, u "charAt"), (0, u "(I)C"), (0, .methodref 21 22), (0, .class_ 23), (0, .nameAndType 24 25), (0, u "com/example/yusenkabu/yusenkabu/cli/InputExceptionOptionPinLaw"), (0, u "expectedAt"), (0, u "(ILjava/lang/String;Ljava/lang/String;)C"), (0, .methodref 21 27), (0, .nameAndType 28 29), (0, u "mk"), (0, u "(CCI)Ljava/lang/String;"), (0, .methodref 31 32), (0, .class_ 33), (0, .nameAndType 34 35), (0, u "com/example/yusenkabu/yusenkabu/cli/InputException"), (0, u "option"), (0, u "(Ljava/lang/String;Ljava/lang/String;)Lcom/example/yusenkabu/yusenkabu/cli/InputException;"), (0, .methodref 31 37), (0, .nameAndType 38 39), (0, u "getCause"), (0, u "()Ljava/lang/Throwable;"), (0, .methodref 31 41), (0, .nameAndType 42 43), (0, u "getMessage"), (0, u "()Ljava/lang/String;"), (0, .methodref 21 45), (0, .nameAndType 46 47), (0, u "at"), (0, u "(Ljava/lang/String;IILjava/lang/String;Ljava/lang/String;)Z"), (3, u "law"), (0, u "(IIIII)Z")] 2

def k1m0 : Method := { name := "<init>", desc := "()V", sig := { parameters := [], returnType := none }, accessFlags := 2, code := none }
def k1c1 : Code := { maxStack := 6, maxLocals := 3, code := method_2_code, exceptionTable := #[], attributes := #[] }
def k1m1 : Method := { name := "mk", desc := "(CCI)Ljava/lang/String;", sig := { parameters := [.char, .char, .int], returnType := some (.object "java/lang/String") }, accessFlags := 10, code := some k1c1 }
def k1c2 : Code := { maxStack := 3, maxLocals := 4, code := method_3_code, exceptionTable := #[], attributes := #[] }
def k1m2 : Method := { name := "expectedAt", desc := "(ILjava/lang/String;Ljava/lang/String;)C", sig := { parameters := [.int, (.object "java/lang/String"), (.object "java/lang/String")], returnType := some .char }, accessFlags := 10, code := some k1c2 }
def k1c3 : Code := { maxStack := 4, maxLocals := 5, code := method_4_code, exceptionTable := #[], attributes := #[] }
def k1m3 : Method := { name := "at", desc := "(Ljava/lang/String;IILjava/lang/String;Ljava/lang/String;)Z", sig := { parameters := [(.object "java/lang/String"), .int, .int, (.object "java/lang/String"), (.object "java/lang/String")], returnType := some .boolean }, accessFlags := 10, code := some k1c3 }
def k1c4 : Code := { maxStack := 5, maxLocals := 12, code := code, exceptionTable := #[], attributes := #[] }
def k1m4 : Method := { name := "law", desc := "(IIIII)Z", sig := { parameters := [.int, .int, .int, .int, .int], returnType := some .boolean }, accessFlags := 9, code := some k1c4 }
/-- com/example/yusenkabu/yusenkabu/cli/InputExceptionOptionPinLaw -/
def k1 : Class := { plain "com/example/yusenkabu/yusenkabu/cli/InputExceptionOptionPinLaw" (some 0) with
  accessFlags := 49
  interfaces := #[]
  cf := some (fileOf pool1 21 #[] #[{ accessFlags := 2, nameIndex := 5, descriptorIndex := 6, attributes := #[] }, { accessFlags := 10, nameIndex := 28, descriptorIndex := 29, attributes := #[] }, { accessFlags := 10, nameIndex := 24, descriptorIndex := 25, attributes := #[] }, { accessFlags := 10, nameIndex := 46, descriptorIndex := 47, attributes := #[] }, { accessFlags := 9, nameIndex := 51, descriptorIndex := 52, attributes := #[] }] 49 2 #[] #[])
  fields := #[]
  methods := #[k1m0, k1m1, k1m2, k1m3, k1m4]
  instanceTypes := #[]
  staticTypes := #[]
  resolved := Array.replicate 55 none
  statics := none }

def pool2 : Array CpInfo := pool [(1, .class_ 2), (0, u "java/io/Serializable"), (0, .class_ 4), (0, u "java/lang/Object")] 2

/-- java/io/Serializable -/
def k2 : Class := { plain "java/io/Serializable" (some 0) with
  accessFlags := 1537
  interfaces := #[]
  cf := some (fileOf pool2 1 #[] #[] 1537 3 #[] #[])
  fields := #[]
  methods := #[]
  instanceTypes := #[]
  staticTypes := #[]
  resolved := Array.replicate 7 none
  statics := none }

def pool3 : Array CpInfo := pool [(1, .class_ 2), (0, u "java/lang/Comparable"), (0, .class_ 4), (0, u "java/lang/Object")] 7

/-- java/lang/Comparable -/
def k3 : Class := { plain "java/lang/Comparable" (some 0) with
  accessFlags := 1537
  interfaces := #[]
  cf := some (fileOf pool3 1 #[] #[] 1537 3 #[] #[])
  fields := #[]
  methods := #[]
  instanceTypes := #[]
  staticTypes := #[]
  resolved := Array.replicate 12 none
  statics := none }

def pool4 : Array CpInfo := pool [(2, .class_ 4), (1, u "java/lang/CharSequence"), (42, .class_ 48), (0, u "java/lang/CharSequence$1CodePointIterator"), (10, .class_ 60), (0, u "java/lang/CharSequence$1CharIterator"), (5, .class_ 67), (0, u "java/lang/Object")] 63

/-- java/lang/CharSequence -/
def k4 : Class := { plain "java/lang/CharSequence" (some 0) with
  accessFlags := 1537
  interfaces := #[]
  cf := some (fileOf pool4 2 #[.nestMembers #[47, 59]] #[] 1537 66 #[] #[])
  fields := #[]
  methods := #[]
  instanceTypes := #[]
  staticTypes := #[]
  resolved := Array.replicate 131 none
  statics := none }

def pool5 : Array CpInfo := pool [(1, .class_ 2), (0, u "java/lang/constant/Constable"), (0, .class_ 4), (0, u "java/lang/Object")] 6

/-- java/lang/constant/Constable -/
def k5 : Class := { plain "java/lang/constant/Constable" (some 0) with
  accessFlags := 1537
  interfaces := #[]
  cf := some (fileOf pool5 1 #[] #[] 1537 3 #[] #[])
  fields := #[]
  methods := #[]
  instanceTypes := #[]
  staticTypes := #[]
  resolved := Array.replicate 11 none
  statics := none }

def pool6 : Array CpInfo := pool [(1, .class_ 2), (0, u "java/lang/constant/ConstantDesc"), (0, .class_ 4), (0, u "java/lang/Object")] 32

/-- java/lang/constant/ConstantDesc -/
def k6 : Class := { plain "java/lang/constant/ConstantDesc" (some 0) with
  accessFlags := 1537
  interfaces := #[]
  cf := some (fileOf pool6 1 #[] #[] 1537 3 #[] #[])
  fields := #[]
  methods := #[]
  instanceTypes := #[]
  staticTypes := #[]
  resolved := Array.replicate 37 none
  statics := none }

def pool7 : Array CpInfo := pool [(1, .methodref 2 3), (0, .class_ 4), (0, .nameAndType 5 6), (0, u "java/lang/Object"), (0, u "<init>"), (0, u "()V"), (0, .string 8), (0, u ""), (0, .fieldref 10 11), (0, .class_ 12), (0, .nameAndType 13 14), (0, u "java/lang/String"), (0, u "value"), (0, u "[B"), (0, .fieldref 10 16), (0, .nameAndType 17 18), (0, u "coder"), (0, u "B"), (2, u "hash"), (0, u "I"), (2, u "hashIsZero"), (0, u "Z"), (0, .methodref 10 28), (0, .nameAndType 5 29), (0, u "([CIILjava/lang/Void;)V"), (8, .fieldref 10 39), (0, .nameAndType 40 26), (0, u "COMPACT_STRINGS"), (1, .class_ 44), (1, u "java/lang/StringUTF16"), (0, u "compress"), (1, .methodref 42 48), (0, .nameAndType 49 50), (0, u "coderFromArrayLen"), (0, u "([BI)B"), (3, .methodref 55 56), (0, .class_ 57), (0, .nameAndType 58 59), (0, u "java/util/Arrays"), (0, u "copyOfRange"), (0, u "([BII)[B"), (47, .class_ 109), (1, u "java/lang/StringLatin1"), (32, u "()Z"), (34, .methodref 42 178), (0, .nameAndType 45 179), (0, u "([CII)[B"), (13, .class_ 195), (1, u "java/lang/System"), (16, .methodref 193 213), (0, .nameAndType 214 215), (0, u "arraycopy"), (0, u "(Ljava/lang/Object;ILjava/lang/Object;II)V"), (118, u "()I"), (0, .methodref 10 336), (0, .nameAndType 17 337), (0, u "()B"), (2, u "()[B"), (22, u "([BI)C"), (27, u "(II)V"), (35, u "(I)C"), (61, .methodref 10 490), (0, .nameAndType 5 491), (0, u "(Ljava/lang/AbstractStringBuilder;Ljava/lang/Void;)V"), (0, .methodref 10 493), (0, .nameAndType 494 142), (0, u "isLatin1"), (0, .methodref 107 496), (0, .nameAndType 497 363), (0, u "charAt"), (3, u "checkIndex"), (4, .nameAndType 507 334), (0, u "length"), (24, u "getBytes"), (16, .methodref 550 506), (0, .class_ 551), (0, u "java/lang/AbstractStringBuilder"), (0, .methodref 550 553), (0, .nameAndType 554 340), (0, u "getValue"), (20, .class_ 576), (0, u "java/lang/CharSequence"), (22, u "CASE_INSENSITIVE_ORDER"), (0, u "Ljava/util/Comparator;"), (220, u "([BIB)V"), (188, u "([C)V"), (36, .methodref 550 493), (5, .fieldref 1054 1055), (0, .class_ 1056), (0, .nameAndType 1057 1058), (0, u "jdk/internal/util/Preconditions"), (0, u "SIOOBE_FORMATTER"), (0, u "Ljava/util/function/BiFunction;"), (0, .methodref 1054 1060), (0, .nameAndType 501 1061), (0, u "(IILjava/util/function/BiFunction;)I"), (39, u "serialPersistentFields"), (0, u "[Ljava/io/ObjectStreamField;"), (0, .class_ 1104), (0, u "java/lang/String$CaseInsensitiveComparator"), (1, .class_ 1107), (0, u "java/io/Serializable"), (0, .class_ 1109), (0, u "java/lang/Comparable"), (0, .class_ 1111), (0, u "java/lang/constant/Constable"), (0, .class_ 1113), (0, u "java/lang/constant/ConstantDesc"), (2, u "serialVersionUID"), (0, u "J"), (3, u "REPL"), (0, u "C"), (2, u "LATIN1"), (1, u "UTF16"), (105, u "(Ljava/lang/StringBuilder;)V")] 217

def k7m0 : Method := { name := "<init>", desc := "()V", sig := { parameters := [], returnType := none }, accessFlags := 1, code := none }
def k7c1 : Code := { maxStack := 5, maxLocals := 2, code := jdk_42_method_3_code, exceptionTable := #[], attributes := #[] }
def k7m1 : Method := { name := "<init>", desc := "([C)V", sig := { parameters := [(.array .char)], returnType := none }, accessFlags := 1, code := some k7c1 }
def k7c2 : Code := { maxStack := 3, maxLocals := 2, code := jdk_42_method_53_code, exceptionTable := #[], attributes := #[] }
def k7m2 : Method := { name := "<init>", desc := "(Ljava/lang/StringBuilder;)V", sig := { parameters := [(.object "java/lang/StringBuilder")], returnType := none }, accessFlags := 1, code := some k7c2 }
def k7c3 : Code := { maxStack := 2, maxLocals := 1, code := jdk_42_method_54_code, exceptionTable := #[], attributes := #[] }
def k7m3 : Method := { name := "length", desc := "()I", sig := { parameters := [], returnType := some .int }, accessFlags := 1, code := some k7c3 }
def k7c4 : Code := { maxStack := 2, maxLocals := 2, code := jdk_42_method_56_code, exceptionTable := #[], attributes := #[] }
def k7m4 : Method := { name := "charAt", desc := "(I)C", sig := { parameters := [.int], returnType := some .char }, accessFlags := 1, code := some k7c4 }
def k7c5 : Code := { maxStack := 5, maxLocals := 4, code := jdk_42_method_147_code, exceptionTable := #[], attributes := #[] }
def k7m5 : Method := { name := "getBytes", desc := "([BIB)V", sig := { parameters := [(.array .byte), .int, .byte], returnType := none }, accessFlags := 0, code := some k7c5 }
def k7c6 : Code := { maxStack := 4, maxLocals := 6, code := jdk_42_method_149_code, exceptionTable := #[], attributes := #[] }
def k7m6 : Method := { name := "<init>", desc := "([CIILjava/lang/Void;)V", sig := { parameters := [(.array .char), .int, .int, (.object "java/lang/Void")], returnType := none }, accessFlags := 2, code := some k7c6 }
def k7c7 : Code := { maxStack := 5, maxLocals := 5, code := jdk_42_method_150_code, exceptionTable := #[], attributes := #[] }
def k7m7 : Method := { name := "<init>", desc := "(Ljava/lang/AbstractStringBuilder;Ljava/lang/Void;)V", sig := { parameters := [(.object "java/lang/AbstractStringBuilder"), (.object "java/lang/Void")], returnType := none }, accessFlags := 0, code := some k7c7 }
def k7c8 : Code := { maxStack := 1, maxLocals := 1, code := jdk_42_method_152_code, exceptionTable := #[], attributes := #[] }
def k7m8 : Method := { name := "coder", desc := "()B", sig := { parameters := [], returnType := some .byte }, accessFlags := 0, code := some k7c8 }
def k7c9 : Code := { maxStack := 1, maxLocals := 1, code := jdk_42_method_154_code, exceptionTable := #[], attributes := #[] }
def k7m9 : Method := { name := "isLatin1", desc := "()Z", sig := { parameters := [], returnType := some .boolean }, accessFlags := 0, code := some k7c9 }
def k7c10 : Code := { maxStack := 3, maxLocals := 2, code := jdk_42_method_155_code, exceptionTable := #[], attributes := #[] }
def k7m10 : Method := { name := "checkIndex", desc := "(II)V", sig := { parameters := [.int, .int], returnType := none }, accessFlags := 8, code := some k7c10 }
/-- java/lang/String -/
def k7 : Class := { plain "java/lang/String" (some 0) with
  accessFlags := 49
  interfaces := #[2, 3, 4, 5, 6]
  cf := some (fileOf pool7 10 #[.nestMembers #[1103]] #[{ accessFlags := 1, nameIndex := 5, descriptorIndex := 6, attributes := #[] }, { accessFlags := 1, nameIndex := 5, descriptorIndex := 1010, attributes := #[] }, { accessFlags := 1, nameIndex := 5, descriptorIndex := 1233, attributes := #[] }, { accessFlags := 1, nameIndex := 507, descriptorIndex := 334, attributes := #[] }, { accessFlags := 1, nameIndex := 497, descriptorIndex := 427, attributes := #[] }, { accessFlags := 0, nameIndex := 532, descriptorIndex := 821, attributes := #[] }, { accessFlags := 2, nameIndex := 5, descriptorIndex := 29, attributes := #[] }, { accessFlags := 0, nameIndex := 5, descriptorIndex := 491, attributes := #[] }, { accessFlags := 0, nameIndex := 17, descriptorIndex := 337, attributes := #[] }, { accessFlags := 0, nameIndex := 494, descriptorIndex := 142, attributes := #[] }, { accessFlags := 8, nameIndex := 501, descriptorIndex := 391, attributes := #[] }] 49 2 #[1106, 1108, 575, 1110, 1112] #[{ accessFlags := 18, nameIndex := 13, descriptorIndex := 14, attributes := #[] }, { accessFlags := 18, nameIndex := 17, descriptorIndex := 18, attributes := #[] }, { accessFlags := 2, nameIndex := 21, descriptorIndex := 22, attributes := #[] }, { accessFlags := 2, nameIndex := 25, descriptorIndex := 26, attributes := #[] }, { accessFlags := 26, nameIndex := 1116, descriptorIndex := 1117, attributes := #[] }, { accessFlags := 24, nameIndex := 40, descriptorIndex := 26, attributes := #[] }, { accessFlags := 26, nameIndex := 1101, descriptorIndex := 1102, attributes := #[] }, { accessFlags := 26, nameIndex := 1121, descriptorIndex := 1122, attributes := #[] }, { accessFlags := 25, nameIndex := 599, descriptorIndex := 600, attributes := #[] }, { accessFlags := 24, nameIndex := 1125, descriptorIndex := 18, attributes := #[] }, { accessFlags := 24, nameIndex := 1127, descriptorIndex := 18, attributes := #[] }])
  fields := #[{ name := "value", type := (.array .byte), accessFlags := 18, slot := 0, constantValue := 0 }, { name := "coder", type := .byte, accessFlags := 18, slot := 1, constantValue := 0 }, { name := "hash", type := .int, accessFlags := 2, slot := 2, constantValue := 0 }, { name := "hashIsZero", type := .boolean, accessFlags := 2, slot := 3, constantValue := 0 }, { name := "serialVersionUID", type := .long, accessFlags := 26, slot := 0, constantValue := 0 }, { name := "COMPACT_STRINGS", type := .boolean, accessFlags := 24, slot := 1, constantValue := 0 }, { name := "serialPersistentFields", type := (.array (.object "java/io/ObjectStreamField")), accessFlags := 26, slot := 2, constantValue := 0 }, { name := "REPL", type := .char, accessFlags := 26, slot := 3, constantValue := 0 }, { name := "CASE_INSENSITIVE_ORDER", type := (.object "java/util/Comparator"), accessFlags := 25, slot := 4, constantValue := 0 }, { name := "LATIN1", type := .byte, accessFlags := 24, slot := 5, constantValue := 0 }, { name := "UTF16", type := .byte, accessFlags := 24, slot := 6, constantValue := 0 }]
  methods := #[k7m0, k7m1, k7m2, k7m3, k7m4, k7m5, k7m6, k7m7, k7m8, k7m9, k7m10]
  instanceTypes := #[(.array .byte), .byte, .int, .boolean]
  staticTypes := #[.long, .boolean, (.array (.object "java/io/ObjectStreamField")), .char, (.object "java/util/Comparator"), .byte, .byte]
  resolved := Array.replicate 1451 none
  statics := some 0 }

def pool8 : Array CpInfo := pool [(1, .methodref 2 3), (0, .class_ 4), (0, .nameAndType 5 6), (0, u "java/lang/Object"), (0, u "<init>"), (0, u "()V"), (0, .fieldref 8 9), (0, .class_ 10), (0, .nameAndType 11 12), (0, u "java/lang/Throwable"), (0, u "cause"), (0, u "Ljava/lang/Throwable;"), (0, .fieldref 8 14), (0, .nameAndType 15 16), (0, u "UNASSIGNED_STACK"), (0, u "[Ljava/lang/StackTraceElement;"), (0, .fieldref 8 18), (0, .nameAndType 19 16), (0, u "stackTrace"), (0, .fieldref 8 21), (0, .nameAndType 22 23), (0, u "SUPPRESSED_SENTINEL"), (0, u "Ljava/util/List;"), (0, .fieldref 8 25), (0, .nameAndType 26 23), (0, u "suppressedExceptions"), (0, .methodref 8 28), (0, .nameAndType 29 30), (0, u "fillInStackTrace"), (0, u "()Ljava/lang/Throwable;"), (0, .fieldref 8 32), (0, .nameAndType 33 34), (0, u "detailMessage"), (0, u "Ljava/lang/String;"), (3, u "()Ljava/lang/String;"), (2, u "getMessage"), (21, u "(Ljava/lang/String;Ljava/lang/Throwable;)V"), (29, .class_ 94), (0, u "java/lang/Throwable$WrappedPrintStream"), (6, .class_ 103), (1, u "java/lang/Throwable$PrintStreamOrWriter"), (54, u "getCause"), (6, u "$assertionsDisabled"), (0, u "Z"), (26, .class_ 194), (0, u "java/lang/Throwable$WrappedPrintWriter"), (3, .fieldref 8 199), (0, .nameAndType 200 201), (0, u "backtrace"), (0, u "Ljava/lang/Object;"), (0, .methodref 8 203), (0, .nameAndType 29 204), (0, u "(I)Ljava/lang/Throwable;"), (6, u "depth"), (0, u "I"), (56, .class_ 271), (1, u "java/lang/Throwable$SentinelHolder"), (32, u "EMPTY_THROWABLE_ARRAY"), (0, u "[Ljava/lang/Throwable;"), (12, .class_ 319), (0, u "java/io/Serializable"), (0, u "serialVersionUID"), (0, u "J"), (5, u "NULL_CAUSE_MESSAGE"), (0, u "SELF_SUPPRESSION_MESSAGE"), (0, u "CAUSE_CAPTION"), (0, u "SUPPRESSED_CAPTION")] 73

def k8c0 : Code := { maxStack := 2, maxLocals := 1, code := jdk_78_method_1_code, exceptionTable := #[], attributes := #[] }
def k8m0 : Method := { name := "<init>", desc := "()V", sig := { parameters := [], returnType := none }, accessFlags := 1, code := some k8c0 }
def k8c1 : Code := { maxStack := 2, maxLocals := 3, code := jdk_78_method_3_code, exceptionTable := #[], attributes := #[] }
def k8m1 : Method := { name := "<init>", desc := "(Ljava/lang/String;Ljava/lang/Throwable;)V", sig := { parameters := [(.object "java/lang/String"), (.object "java/lang/Throwable")], returnType := none }, accessFlags := 1, code := some k8c1 }
def k8c2 : Code := { maxStack := 1, maxLocals := 1, code := jdk_78_method_6_code, exceptionTable := #[], attributes := #[] }
def k8m2 : Method := { name := "getMessage", desc := "()Ljava/lang/String;", sig := { parameters := [], returnType := some (.object "java/lang/String") }, accessFlags := 1, code := some k8c2 }
def k8c3 : Code := { maxStack := 2, maxLocals := 1, code := jdk_78_method_8_code, exceptionTable := #[], attributes := #[] }
def k8m3 : Method := { name := "getCause", desc := "()Ljava/lang/Throwable;", sig := { parameters := [], returnType := some (.object "java/lang/Throwable") }, accessFlags := 33, code := some k8c3 }
def k8c4 : Code := { maxStack := 2, maxLocals := 1, code := jdk_78_method_18_code, exceptionTable := #[], attributes := #[] }
def k8m4 : Method := { name := "fillInStackTrace", desc := "()Ljava/lang/Throwable;", sig := { parameters := [], returnType := some (.object "java/lang/Throwable") }, accessFlags := 33, code := some k8c4 }
def k8m5 : Method := { name := "fillInStackTrace", desc := "(I)Ljava/lang/Throwable;", sig := { parameters := [.int], returnType := some (.object "java/lang/Throwable") }, accessFlags := 258, code := none }
/-- java/lang/Throwable -/
def k8 : Class := { plain "java/lang/Throwable" (some 0) with
  accessFlags := 33
  interfaces := #[2]
  cf := some (fileOf pool8 8 #[.nestMembers #[193, 93, 101, 269]] #[{ accessFlags := 1, nameIndex := 5, descriptorIndex := 6, attributes := #[] }, { accessFlags := 1, nameIndex := 5, descriptorIndex := 63, attributes := #[] }, { accessFlags := 1, nameIndex := 41, descriptorIndex := 38, attributes := #[] }, { accessFlags := 33, nameIndex := 158, descriptorIndex := 30, attributes := #[] }, { accessFlags := 33, nameIndex := 29, descriptorIndex := 30, attributes := #[] }, { accessFlags := 258, nameIndex := 29, descriptorIndex := 204, attributes := #[] }] 33 2 #[318] #[{ accessFlags := 26, nameIndex := 320, descriptorIndex := 321, attributes := #[] }, { accessFlags := 130, nameIndex := 200, descriptorIndex := 201, attributes := #[] }, { accessFlags := 2, nameIndex := 33, descriptorIndex := 34, attributes := #[] }, { accessFlags := 26, nameIndex := 15, descriptorIndex := 16, attributes := #[] }, { accessFlags := 2, nameIndex := 11, descriptorIndex := 12, attributes := #[] }, { accessFlags := 2, nameIndex := 19, descriptorIndex := 16, attributes := #[] }, { accessFlags := 130, nameIndex := 211, descriptorIndex := 212, attributes := #[] }, { accessFlags := 26, nameIndex := 22, descriptorIndex := 23, attributes := #[] }, { accessFlags := 2, nameIndex := 26, descriptorIndex := 23, attributes := #[] }, { accessFlags := 26, nameIndex := 327, descriptorIndex := 34, attributes := #[] }, { accessFlags := 26, nameIndex := 328, descriptorIndex := 34, attributes := #[] }, { accessFlags := 26, nameIndex := 329, descriptorIndex := 34, attributes := #[] }, { accessFlags := 26, nameIndex := 330, descriptorIndex := 34, attributes := #[] }, { accessFlags := 26, nameIndex := 304, descriptorIndex := 305, attributes := #[] }, { accessFlags := 4120, nameIndex := 165, descriptorIndex := 166, attributes := #[] }])
  fields := #[{ name := "serialVersionUID", type := .long, accessFlags := 26, slot := 0, constantValue := 0 }, { name := "backtrace", type := (.object "java/lang/Object"), accessFlags := 130, slot := 0, constantValue := 0 }, { name := "detailMessage", type := (.object "java/lang/String"), accessFlags := 2, slot := 1, constantValue := 0 }, { name := "UNASSIGNED_STACK", type := (.array (.object "java/lang/StackTraceElement")), accessFlags := 26, slot := 1, constantValue := 0 }, { name := "cause", type := (.object "java/lang/Throwable"), accessFlags := 2, slot := 2, constantValue := 0 }, { name := "stackTrace", type := (.array (.object "java/lang/StackTraceElement")), accessFlags := 2, slot := 3, constantValue := 0 }, { name := "depth", type := .int, accessFlags := 130, slot := 4, constantValue := 0 }, { name := "SUPPRESSED_SENTINEL", type := (.object "java/util/List"), accessFlags := 26, slot := 2, constantValue := 0 }, { name := "suppressedExceptions", type := (.object "java/util/List"), accessFlags := 2, slot := 5, constantValue := 0 }, { name := "NULL_CAUSE_MESSAGE", type := (.object "java/lang/String"), accessFlags := 26, slot := 3, constantValue := 0 }, { name := "SELF_SUPPRESSION_MESSAGE", type := (.object "java/lang/String"), accessFlags := 26, slot := 4, constantValue := 0 }, { name := "CAUSE_CAPTION", type := (.object "java/lang/String"), accessFlags := 26, slot := 5, constantValue := 0 }, { name := "SUPPRESSED_CAPTION", type := (.object "java/lang/String"), accessFlags := 26, slot := 6, constantValue := 0 }, { name := "EMPTY_THROWABLE_ARRAY", type := (.array (.object "java/lang/Throwable")), accessFlags := 26, slot := 7, constantValue := 0 }, { name := "$assertionsDisabled", type := .boolean, accessFlags := 4120, slot := 8, constantValue := 0 }]
  methods := #[k8m0, k8m1, k8m2, k8m3, k8m4, k8m5]
  instanceTypes := #[(.object "java/lang/Object"), (.object "java/lang/String"), (.object "java/lang/Throwable"), (.array (.object "java/lang/StackTraceElement")), .int, (.object "java/util/List")]
  staticTypes := #[.long, (.array (.object "java/lang/StackTraceElement")), (.object "java/util/List"), (.object "java/lang/String"), (.object "java/lang/String"), (.object "java/lang/String"), (.object "java/lang/String"), (.array (.object "java/lang/Throwable")), .boolean]
  resolved := Array.replicate 404 none
  statics := some 1 }

def pool9 : Array CpInfo := pool [(2, .class_ 4), (1, u "java/lang/Throwable"), (0, u "<init>"), (0, u "()V"), (3, .methodref 2 11), (0, .nameAndType 5 12), (0, u "(Ljava/lang/String;Ljava/lang/Throwable;)V"), (6, .class_ 20), (0, u "java/lang/Exception"), (0, u "serialVersionUID"), (0, u "J")] 17

def k9m0 : Method := { name := "<init>", desc := "()V", sig := { parameters := [], returnType := none }, accessFlags := 1, code := none }
def k9c1 : Code := { maxStack := 3, maxLocals := 3, code := jdk_59_method_3_code, exceptionTable := #[], attributes := #[] }
def k9m1 : Method := { name := "<init>", desc := "(Ljava/lang/String;Ljava/lang/Throwable;)V", sig := { parameters := [(.object "java/lang/String"), (.object "java/lang/Throwable")], returnType := none }, accessFlags := 1, code := some k9c1 }
/-- java/lang/Exception -/
def k9 : Class := { plain "java/lang/Exception" (some 8) with
  accessFlags := 33
  interfaces := #[]
  cf := some (fileOf pool9 19 #[] #[{ accessFlags := 1, nameIndex := 5, descriptorIndex := 6, attributes := #[] }, { accessFlags := 1, nameIndex := 5, descriptorIndex := 12, attributes := #[] }] 33 2 #[] #[{ accessFlags := 24, nameIndex := 21, descriptorIndex := 22, attributes := #[] }])
  fields := #[{ name := "serialVersionUID", type := .long, accessFlags := 24, slot := 0, constantValue := 0 }]
  methods := #[k9m0, k9m1]
  instanceTypes := #[(.object "java/lang/Object"), (.object "java/lang/String"), (.object "java/lang/Throwable"), (.array (.object "java/lang/StackTraceElement")), .int, (.object "java/util/List")]
  staticTypes := #[.long]
  resolved := Array.replicate 40 none
  statics := none }

def pool10 : Array CpInfo := pool [(1, .methodref 2 3), (0, .class_ 4), (0, .nameAndType 5 6), (0, u "java/lang/Exception"), (0, u "<init>"), (0, u "(Ljava/lang/String;Ljava/lang/Throwable;)V"), (0, .class_ 8), (0, u "java/lang/StringBuilder"), (0, .methodref 7 10), (0, .nameAndType 5 11), (0, u "()V"), (2, u "append"), (1, .string 17), (0, u ": "), (0, .methodref 7 19), (0, .nameAndType 14 20), (0, u "(Ljava/lang/String;)Ljava/lang/StringBuilder;"), (0, .methodref 7 22), (0, .nameAndType 23 24), (0, u "toString"), (0, u "()Ljava/lang/String;"), (0, .methodref 26 3), (0, .class_ 27), (0, u "com/example/yusenkabu/yusenkabu/cli/InputException"), (11, .string 40), (0, u "--"), (19, u "serialVersionUID"), (0, u "J"), (11, u "option"), (0, u "(Ljava/lang/String;Ljava/lang/String;)Lcom/example/yusenkabu/yusenkabu/cli/InputException;")] 9

def k10c0 : Code := { maxStack := 3, maxLocals := 3, code := prog_38_method_1_code, exceptionTable := #[], attributes := #[] }
def k10m0 : Method := { name := "<init>", desc := "(Ljava/lang/String;Ljava/lang/Throwable;)V", sig := { parameters := [(.object "java/lang/String"), (.object "java/lang/Throwable")], returnType := none }, accessFlags := 2, code := some k10c0 }
def k10c1 : Code := { maxStack := 4, maxLocals := 2, code := prog_38_method_6_code, exceptionTable := #[], attributes := #[] }
def k10m1 : Method := { name := "option", desc := "(Ljava/lang/String;Ljava/lang/String;)Lcom/example/yusenkabu/yusenkabu/cli/InputException;", sig := { parameters := [(.object "java/lang/String"), (.object "java/lang/String")], returnType := some (.object "com/example/yusenkabu/yusenkabu/cli/InputException") }, accessFlags := 8, code := some k10c1 }
/-- com/example/yusenkabu/yusenkabu/cli/InputException -/
def k10 : Class := { plain "com/example/yusenkabu/yusenkabu/cli/InputException" (some 9) with
  accessFlags := 48
  interfaces := #[]
  cf := some (fileOf pool10 26 #[] #[{ accessFlags := 2, nameIndex := 5, descriptorIndex := 6, attributes := #[] }, { accessFlags := 8, nameIndex := 73, descriptorIndex := 74, attributes := #[] }] 48 2 #[] #[{ accessFlags := 26, nameIndex := 60, descriptorIndex := 61, attributes := #[] }])
  fields := #[{ name := "serialVersionUID", type := .long, accessFlags := 26, slot := 0, constantValue := 0 }]
  methods := #[k10m0, k10m1]
  instanceTypes := #[(.object "java/lang/Object"), (.object "java/lang/String"), (.object "java/lang/Throwable"), (.array (.object "java/lang/StackTraceElement")), .int, (.object "java/util/List")]
  staticTypes := #[.long]
  resolved := Array.replicate 84 none
  statics := none }

def pool11 : Array CpInfo := pool [(1, .class_ 2), (0, u "java/lang/Appendable"), (0, .class_ 4), (0, u "java/lang/Object")] 9

/-- java/lang/Appendable -/
def k11 : Class := { plain "java/lang/Appendable" (some 0) with
  accessFlags := 1537
  interfaces := #[]
  cf := some (fileOf pool11 1 #[] #[] 1537 3 #[] #[])
  fields := #[]
  methods := #[]
  instanceTypes := #[]
  staticTypes := #[]
  resolved := Array.replicate 14 none
  statics := none }

def pool12 : Array CpInfo := pool [(1, .class_ 2), (0, u "java/lang/String"), (0, .methodref 4 5), (0, .class_ 6), (0, .nameAndType 7 8), (0, u "java/lang/Object"), (0, u "<init>"), (0, u "()V"), (1, .class_ 12), (1, u "java/lang/AbstractStringBuilder"), (0, u "EMPTYVALUE"), (0, u "[B"), (0, .fieldref 10 16), (0, .nameAndType 17 14), (0, u "value"), (0, .fieldref 1 19), (0, .nameAndType 20 21), (0, u "COMPACT_STRINGS"), (0, u "Z"), (0, .fieldref 10 23), (0, .nameAndType 24 25), (0, u "coder"), (0, u "B"), (6, .methodref 1 33), (0, .nameAndType 34 35), (0, u "length"), (0, u "()I"), (4, .methodref 1 41), (0, .nameAndType 24 42), (0, u "()B"), (2, u "append"), (0, u "(Ljava/lang/String;)Ljava/lang/AbstractStringBuilder;"), (1, .class_ 49), (0, u "java/lang/CharSequence"), (19, u "(Ljava/lang/String;)V"), (5, u "maybeLatin1"), (3, .fieldref 10 80), (0, .nameAndType 81 82), (0, u "count"), (0, u "I"), (2, u "isLatin1"), (0, u "()Z"), (13, .methodref 10 101), (0, .nameAndType 102 103), (0, u "ensureCapacityInternal"), (0, u "(I)V"), (104, .methodref 10 209), (0, .nameAndType 210 211), (0, u "putStringAt"), (0, u "(ILjava/lang/String;)V"), (5, u "inflateIfNeededFor"), (2, .nameAndType 221 222), (0, u "getBytes"), (0, u "([BIB)V"), (174, .methodref 10 398), (0, .nameAndType 217 69), (0, .methodref 1 220), (3, u "()[B"), (40, .class_ 445), (0, u "java/lang/Appendable"), (106, u "getValue")] 56

def k12m0 : Method := { name := "<init>", desc := "()V", sig := { parameters := [], returnType := none }, accessFlags := 0, code := none }
def k12c1 : Code := { maxStack := 2, maxLocals := 2, code := jdk_68_method_2_code, exceptionTable := #[], attributes := #[] }
def k12m1 : Method := { name := "<init>", desc := "(I)V", sig := { parameters := [.int], returnType := none }, accessFlags := 0, code := some k12c1 }
def k12c2 : Code := { maxStack := 1, maxLocals := 1, code := jdk_68_method_6_code, exceptionTable := #[], attributes := #[] }
def k12m2 : Method := { name := "length", desc := "()I", sig := { parameters := [], returnType := some .int }, accessFlags := 1, code := some k12c2 }
def k12c3 : Code := { maxStack := 4, maxLocals := 3, code := jdk_68_method_9_code, exceptionTable := #[], attributes := #[] }
def k12m3 : Method := { name := "ensureCapacityInternal", desc := "(I)V", sig := { parameters := [.int], returnType := none }, accessFlags := 2, code := some k12c3 }
def k12c4 : Code := { maxStack := 3, maxLocals := 3, code := jdk_68_method_22_code, exceptionTable := #[], attributes := #[] }
def k12m4 : Method := { name := "append", desc := "(Ljava/lang/String;)Ljava/lang/AbstractStringBuilder;", sig := { parameters := [(.object "java/lang/String")], returnType := some (.object "java/lang/AbstractStringBuilder") }, accessFlags := 1, code := some k12c4 }
def k12c5 : Code := { maxStack := 1, maxLocals := 1, code := jdk_68_method_64_code, exceptionTable := #[], attributes := #[] }
def k12m5 : Method := { name := "getValue", desc := "()[B", sig := { parameters := [], returnType := some (.array .byte) }, accessFlags := 16, code := some k12c5 }
def k12c6 : Code := { maxStack := 1, maxLocals := 1, code := jdk_68_method_68_code, exceptionTable := #[], attributes := #[] }
def k12m6 : Method := { name := "isLatin1", desc := "()Z", sig := { parameters := [], returnType := some .boolean }, accessFlags := 16, code := some k12c6 }
def k12c7 : Code := { maxStack := 2, maxLocals := 2, code := jdk_68_method_71_code, exceptionTable := #[], attributes := #[] }
def k12m7 : Method := { name := "inflateIfNeededFor", desc := "(Ljava/lang/String;)V", sig := { parameters := [(.object "java/lang/String")], returnType := none }, accessFlags := 2, code := some k12c7 }
def k12c8 : Code := { maxStack := 4, maxLocals := 3, code := jdk_68_method_73_code, exceptionTable := #[], attributes := #[] }
def k12m8 : Method := { name := "putStringAt", desc := "(ILjava/lang/String;)V", sig := { parameters := [.int, (.object "java/lang/String")], returnType := none }, accessFlags := 2, code := some k12c8 }
/-- java/lang/AbstractStringBuilder -/
def k12 : Class := { plain "java/lang/AbstractStringBuilder" (some 0) with
  accessFlags := 1056
  interfaces := #[11, 4]
  cf := some (fileOf pool12 10 #[] #[{ accessFlags := 0, nameIndex := 7, descriptorIndex := 8, attributes := #[] }, { accessFlags := 0, nameIndex := 7, descriptorIndex := 103, attributes := #[] }, { accessFlags := 1, nameIndex := 34, descriptorIndex := 35, attributes := #[] }, { accessFlags := 2, nameIndex := 102, descriptorIndex := 103, attributes := #[] }, { accessFlags := 1, nameIndex := 45, descriptorIndex := 46, attributes := #[] }, { accessFlags := 16, nameIndex := 552, descriptorIndex := 403, attributes := #[] }, { accessFlags := 16, nameIndex := 85, descriptorIndex := 86, attributes := #[] }, { accessFlags := 2, nameIndex := 217, descriptorIndex := 69, attributes := #[] }, { accessFlags := 2, nameIndex := 210, descriptorIndex := 211, attributes := #[] }] 1056 4 #[444, 48] #[{ accessFlags := 0, nameIndex := 17, descriptorIndex := 14, attributes := #[] }, { accessFlags := 0, nameIndex := 24, descriptorIndex := 25, attributes := #[] }, { accessFlags := 0, nameIndex := 75, descriptorIndex := 21, attributes := #[] }, { accessFlags := 0, nameIndex := 81, descriptorIndex := 82, attributes := #[] }, { accessFlags := 26, nameIndex := 13, descriptorIndex := 14, attributes := #[] }])
  fields := #[{ name := "value", type := (.array .byte), accessFlags := 0, slot := 0, constantValue := 0 }, { name := "coder", type := .byte, accessFlags := 0, slot := 1, constantValue := 0 }, { name := "maybeLatin1", type := .boolean, accessFlags := 0, slot := 2, constantValue := 0 }, { name := "count", type := .int, accessFlags := 0, slot := 3, constantValue := 0 }, { name := "EMPTYVALUE", type := (.array .byte), accessFlags := 26, slot := 0, constantValue := 0 }]
  methods := #[k12m0, k12m1, k12m2, k12m3, k12m4, k12m5, k12m6, k12m7, k12m8]
  instanceTypes := #[(.array .byte), .byte, .boolean, .int]
  staticTypes := #[(.array .byte)]
  resolved := Array.replicate 609 none
  statics := none }

def pool13 : Array CpInfo := pool [(1, .methodref 2 3), (0, .class_ 4), (0, .nameAndType 5 6), (0, u "java/lang/AbstractStringBuilder"), (0, u "<init>"), (0, u "(I)V"), (11, .class_ 20), (1, u "java/lang/String"), (3, .class_ 26), (1, u "java/lang/StringBuilder"), (0, u "append"), (0, u "(Ljava/lang/String;)Ljava/lang/StringBuilder;"), (0, .methodref 2 30), (0, .nameAndType 27 31), (0, u "(Ljava/lang/String;)Ljava/lang/AbstractStringBuilder;"), (105, .methodref 18 138), (0, .nameAndType 5 139), (0, u "(Ljava/lang/StringBuilder;)V"), (5, u "()V"), (10, u "()I"), (186, .methodref 2 344), (0, .nameAndType 345 156), (0, u "length"), (3, .class_ 350), (0, u "java/lang/Appendable"), (0, .class_ 352), (0, u "java/io/Serializable"), (0, .class_ 354), (0, u "java/lang/Comparable"), (0, .class_ 356), (0, u "java/lang/CharSequence"), (0, u "serialVersionUID"), (0, u "J"), (40, u "toString"), (0, u "()Ljava/lang/String;")] 21

def k13c0 : Code := { maxStack := 2, maxLocals := 1, code := jdk_67_method_1_code, exceptionTable := #[], attributes := #[] }
def k13m0 : Method := { name := "<init>", desc := "()V", sig := { parameters := [], returnType := none }, accessFlags := 1, code := some k13c0 }
def k13c1 : Code := { maxStack := 2, maxLocals := 2, code := jdk_67_method_7_code, exceptionTable := #[], attributes := #[] }
def k13m1 : Method := { name := "append", desc := "(Ljava/lang/String;)Ljava/lang/StringBuilder;", sig := { parameters := [(.object "java/lang/String")], returnType := some (.object "java/lang/StringBuilder") }, accessFlags := 1, code := some k13c1 }
def k13c2 : Code := { maxStack := 3, maxLocals := 1, code := jdk_67_method_42_code, exceptionTable := #[], attributes := #[] }
def k13m2 : Method := { name := "toString", desc := "()Ljava/lang/String;", sig := { parameters := [], returnType := some (.object "java/lang/String") }, accessFlags := 1, code := some k13c2 }
def k13c3 : Code := { maxStack := 1, maxLocals := 1, code := jdk_67_method_93_code, exceptionTable := #[], attributes := #[] }
def k13m3 : Method := { name := "length", desc := "()I", sig := { parameters := [], returnType := some .int }, accessFlags := 4161, code := some k13c3 }
/-- java/lang/StringBuilder -/
def k13 : Class := { plain "java/lang/StringBuilder" (some 12) with
  accessFlags := 49
  interfaces := #[11, 2, 3, 4]
  cf := some (fileOf pool13 24 #[] #[{ accessFlags := 1, nameIndex := 5, descriptorIndex := 145, attributes := #[] }, { accessFlags := 1, nameIndex := 27, descriptorIndex := 28, attributes := #[] }, { accessFlags := 1, nameIndex := 399, descriptorIndex := 400, attributes := #[] }, { accessFlags := 4161, nameIndex := 345, descriptorIndex := 156, attributes := #[] }] 49 2 #[349, 351, 353, 355] #[{ accessFlags := 24, nameIndex := 357, descriptorIndex := 358, attributes := #[] }])
  fields := #[{ name := "serialVersionUID", type := .long, accessFlags := 24, slot := 0, constantValue := 0 }]
  methods := #[k13m0, k13m1, k13m2, k13m3]
  instanceTypes := #[(.array .byte), .byte, .boolean, .int]
  staticTypes := #[.long]
  resolved := Array.replicate 422 none
  statics := none }

def pool14 : Array CpInfo := pool [(2, .class_ 4), (1, u "java/lang/Object"), (0, u "<init>"), (0, u "()V"), (1, .class_ 10), (1, u "java/lang/System"), (0, u "allowSecurityManager"), (0, u "I"), (16, u "cons"), (0, u "Ljava/io/Console;"), (77, .class_ 110), (1, u "java/lang/System$CallersHolder"), (43, u "initialErrStream"), (0, u "Ljava/io/PrintStream;"), (19, u "security"), (0, u "Ljava/lang/SecurityManager;"), (31, .class_ 209), (0, u "java/lang/System$1"), (7, u "props"), (0, u "Ljava/util/Properties;"), (2, u "lineSeparator"), (0, u "Ljava/lang/String;"), (96, .class_ 321), (1, u "java/lang/System$LoggerFinder"), (5, .class_ 328), (0, u "java/lang/System$Logger"), (67, u "err"), (2, u "out"), (91, u "notSupportedJnuEncoding"), (15, u "in"), (17, u "initialIn"), (0, u "Ljava/io/InputStream;"), (35, u "bootLayer"), (0, u "Ljava/lang/ModuleLayer;"), (99, .class_ 664), (0, u "java/lang/System$2"), (9, u "NEVER"), (2, u "MAYBE"), (49, u "arraycopy"), (0, u "(Ljava/lang/Object;ILjava/lang/Object;II)V"), (72, .class_ 802), (0, u "java/lang/System$Logger$Level")] 31

def k14m0 : Method := { name := "<init>", desc := "()V", sig := { parameters := [], returnType := none }, accessFlags := 2, code := none }
def k14m1 : Method := { name := "arraycopy", desc := "(Ljava/lang/Object;ILjava/lang/Object;II)V", sig := { parameters := [(.object "java/lang/Object"), .int, (.object "java/lang/Object"), .int, .int], returnType := none }, accessFlags := 265, code := none }
/-- java/lang/System -/
def k14 : Class := { plain "java/lang/System" (some 0) with
  accessFlags := 49
  interfaces := #[]
  cf := some (fileOf pool14 8 #[.nestMembers #[319, 327, 801, 108, 663, 208]] #[{ accessFlags := 2, nameIndex := 5, descriptorIndex := 6, attributes := #[] }, { accessFlags := 265, nameIndex := 727, descriptorIndex := 728, attributes := #[] }] 49 2 #[] #[{ accessFlags := 25, nameIndex := 507, descriptorIndex := 526, attributes := #[] }, { accessFlags := 25, nameIndex := 399, descriptorIndex := 155, attributes := #[] }, { accessFlags := 25, nameIndex := 396, descriptorIndex := 155, attributes := #[] }, { accessFlags := 10, nameIndex := 525, descriptorIndex := 526, attributes := #[] }, { accessFlags := 26, nameIndex := 674, descriptorIndex := 12, attributes := #[] }, { accessFlags := 26, nameIndex := 677, descriptorIndex := 12, attributes := #[] }, { accessFlags := 10, nameIndex := 11, descriptorIndex := 12, attributes := #[] }, { accessFlags := 74, nameIndex := 175, descriptorIndex := 176, attributes := #[] }, { accessFlags := 10, nameIndex := 491, descriptorIndex := 222, attributes := #[] }, { accessFlags := 74, nameIndex := 29, descriptorIndex := 30, attributes := #[] }, { accessFlags := 74, nameIndex := 154, descriptorIndex := 155, attributes := #[] }, { accessFlags := 10, nameIndex := 217, descriptorIndex := 218, attributes := #[] }, { accessFlags := 10, nameIndex := 221, descriptorIndex := 222, attributes := #[] }, { accessFlags := 8, nameIndex := 562, descriptorIndex := 563, attributes := #[] }])
  fields := #[{ name := "in", type := (.object "java/io/InputStream"), accessFlags := 25, slot := 0, constantValue := 0 }, { name := "out", type := (.object "java/io/PrintStream"), accessFlags := 25, slot := 1, constantValue := 0 }, { name := "err", type := (.object "java/io/PrintStream"), accessFlags := 25, slot := 2, constantValue := 0 }, { name := "initialIn", type := (.object "java/io/InputStream"), accessFlags := 10, slot := 3, constantValue := 0 }, { name := "NEVER", type := .int, accessFlags := 26, slot := 4, constantValue := 0 }, { name := "MAYBE", type := .int, accessFlags := 26, slot := 5, constantValue := 0 }, { name := "allowSecurityManager", type := .int, accessFlags := 10, slot := 6, constantValue := 0 }, { name := "security", type := (.object "java/lang/SecurityManager"), accessFlags := 74, slot := 7, constantValue := 0 }, { name := "notSupportedJnuEncoding", type := (.object "java/lang/String"), accessFlags := 10, slot := 8, constantValue := 0 }, { name := "cons", type := (.object "java/io/Console"), accessFlags := 74, slot := 9, constantValue := 0 }, { name := "initialErrStream", type := (.object "java/io/PrintStream"), accessFlags := 74, slot := 10, constantValue := 0 }, { name := "props", type := (.object "java/util/Properties"), accessFlags := 10, slot := 11, constantValue := 0 }, { name := "lineSeparator", type := (.object "java/lang/String"), accessFlags := 10, slot := 12, constantValue := 0 }, { name := "bootLayer", type := (.object "java/lang/ModuleLayer"), accessFlags := 8, slot := 13, constantValue := 0 }]
  methods := #[k14m0, k14m1]
  instanceTypes := #[]
  staticTypes := #[(.object "java/io/InputStream"), (.object "java/io/PrintStream"), (.object "java/io/PrintStream"), (.object "java/io/InputStream"), .int, .int, .int, (.object "java/lang/SecurityManager"), (.object "java/lang/String"), (.object "java/io/Console"), (.object "java/io/PrintStream"), (.object "java/util/Properties"), (.object "java/lang/String"), (.object "java/lang/ModuleLayer")]
  resolved := Array.replicate 834 none
  statics := none }

def pool15 : Array CpInfo := pool [(2, .class_ 4), (1, u "java/lang/Object"), (0, u "<init>"), (0, u "()V"), (7, .class_ 16), (1, u "java/util/Arrays"), (57, .class_ 76), (1, u "java/util/Arrays$NaturalOrder"), (36, .class_ 115), (1, u "java/util/Arrays$LegacyMergeSort"), (1, u "Z"), (21, u "copyOfRange"), (10, .methodref 151 152), (0, .class_ 153), (0, .nameAndType 154 155), (0, u "java/lang/System"), (0, u "arraycopy"), (0, u "(Ljava/lang/Object;ILjava/lang/Object;II)V"), (148, .methodref 305 306), (0, .class_ 307), (0, .nameAndType 308 309), (0, u "java/lang/Math"), (0, u "min"), (0, u "(II)I"), (29, .methodref 14 340), (0, .nameAndType 341 342), (0, u "copyOfRangeByte"), (0, u "([BII)[B"), (0, .methodref 14 344), (0, .nameAndType 345 346), (0, u "checkLength"), (0, u "(II)V"), (28, .class_ 376), (0, u "java/util/Arrays$ArrayList"), (68, u "$assertionsDisabled"), (269, u "MIN_ARRAY_SORT_GRAN"), (0, u "I"), (2, u "INSERTIONSORT_THRESHOLD"), (255, .class_ 976), (0, u "java/util/Arrays$ArrayItr")] 52

def k15m0 : Method := { name := "<init>", desc := "()V", sig := { parameters := [], returnType := none }, accessFlags := 2, code := none }
def k15c1 : Code := { maxStack := 4, maxLocals := 2, code := jdk_65_method_131_code, exceptionTable := #[], attributes := #[] }
def k15m1 : Method := { name := "checkLength", desc := "(II)V", sig := { parameters := [.int, .int], returnType := none }, accessFlags := 10, code := some k15c1 }
def k15c2 : Code := { maxStack := 3, maxLocals := 3, code := jdk_65_method_132_code, exceptionTable := #[], attributes := #[] }
def k15m2 : Method := { name := "copyOfRange", desc := "([BII)[B", sig := { parameters := [(.array .byte), .int, .int], returnType := some (.array .byte) }, accessFlags := 9, code := some k15c2 }
def k15c3 : Code := { maxStack := 6, maxLocals := 5, code := jdk_65_method_133_code, exceptionTable := #[], attributes := #[] }
def k15m3 : Method := { name := "copyOfRangeByte", desc := "([BII)[B", sig := { parameters := [(.array .byte), .int, .int], returnType := some (.array .byte) }, accessFlags := 10, code := some k15c3 }
/-- java/util/Arrays -/
def k15 : Class := { plain "java/util/Arrays" (some 0) with
  accessFlags := 49
  interfaces := #[]
  cf := some (fileOf pool15 14 #[.nestMembers #[975, 375, 113, 74]] #[{ accessFlags := 2, nameIndex := 5, descriptorIndex := 6, attributes := #[] }, { accessFlags := 10, nameIndex := 345, descriptorIndex := 346, attributes := #[] }, { accessFlags := 9, nameIndex := 139, descriptorIndex := 342, attributes := #[] }, { accessFlags := 10, nameIndex := 341, descriptorIndex := 342, attributes := #[] }] 49 2 #[] #[{ accessFlags := 26, nameIndex := 715, descriptorIndex := 716, attributes := #[] }, { accessFlags := 26, nameIndex := 719, descriptorIndex := 716, attributes := #[] }, { accessFlags := 4120, nameIndex := 445, descriptorIndex := 117, attributes := #[] }])
  fields := #[{ name := "MIN_ARRAY_SORT_GRAN", type := .int, accessFlags := 26, slot := 0, constantValue := 0 }, { name := "INSERTIONSORT_THRESHOLD", type := .int, accessFlags := 26, slot := 1, constantValue := 0 }, { name := "$assertionsDisabled", type := .boolean, accessFlags := 4120, slot := 2, constantValue := 0 }]
  methods := #[k15m0, k15m1, k15m2, k15m3]
  instanceTypes := #[]
  staticTypes := #[.int, .int, .boolean]
  resolved := Array.replicate 1029 none
  statics := none }

def pool16 : Array CpInfo := pool [(1, .class_ 2), (0, u "java/lang/Math"), (1, .class_ 6), (1, u "java/lang/Object"), (0, u "<init>"), (0, u "()V"), (89, .class_ 100), (1, u "java/lang/Math$RandomNumberGeneratorHolder"), (71, u "negativeZeroFloatBits"), (0, u "J"), (2, u "negativeZeroDoubleBits"), (24, u "min"), (43, u "$assertionsDisabled"), (0, u "Z"), (88, u "(II)I"), (2, u "twoToTheDoubleScaleDown"), (0, u "D"), (4, u "twoToTheDoubleScaleUp"), (9, u "E"), (3, u "PI"), (2, u "TAU"), (2, u "DEGREES_TO_RADIANS"), (0, u "RADIANS_TO_DEGREES")] 94

def k16m0 : Method := { name := "<init>", desc := "()V", sig := { parameters := [], returnType := none }, accessFlags := 2, code := none }
def k16c1 : Code := { maxStack := 2, maxLocals := 2, code := jdk_29_method_69_code, exceptionTable := #[], attributes := #[] }
def k16m1 : Method := { name := "min", desc := "(II)I", sig := { parameters := [.int, .int], returnType := some .int }, accessFlags := 9, code := some k16c1 }
/-- java/lang/Math -/
def k16 : Class := { plain "java/lang/Math" (some 0) with
  accessFlags := 49
  interfaces := #[]
  cf := some (fileOf pool16 1 #[.nestMembers #[98]] #[{ accessFlags := 2, nameIndex := 7, descriptorIndex := 8, attributes := #[] }, { accessFlags := 9, nameIndex := 201, descriptorIndex := 335, attributes := #[] }] 49 4 #[] #[{ accessFlags := 25, nameIndex := 354, descriptorIndex := 339, attributes := #[] }, { accessFlags := 25, nameIndex := 358, descriptorIndex := 339, attributes := #[] }, { accessFlags := 25, nameIndex := 361, descriptorIndex := 339, attributes := #[] }, { accessFlags := 26, nameIndex := 364, descriptorIndex := 339, attributes := #[] }, { accessFlags := 26, nameIndex := 365, descriptorIndex := 339, attributes := #[] }, { accessFlags := 26, nameIndex := 172, descriptorIndex := 173, attributes := #[] }, { accessFlags := 26, nameIndex := 176, descriptorIndex := 173, attributes := #[] }, { accessFlags := 8, nameIndex := 344, descriptorIndex := 339, attributes := #[] }, { accessFlags := 8, nameIndex := 338, descriptorIndex := 339, attributes := #[] }, { accessFlags := 4120, nameIndex := 245, descriptorIndex := 246, attributes := #[] }])
  fields := #[{ name := "E", type := .double, accessFlags := 25, slot := 0, constantValue := 0 }, { name := "PI", type := .double, accessFlags := 25, slot := 1, constantValue := 0 }, { name := "TAU", type := .double, accessFlags := 25, slot := 2, constantValue := 0 }, { name := "DEGREES_TO_RADIANS", type := .double, accessFlags := 26, slot := 3, constantValue := 0 }, { name := "RADIANS_TO_DEGREES", type := .double, accessFlags := 26, slot := 4, constantValue := 0 }, { name := "negativeZeroFloatBits", type := .long, accessFlags := 26, slot := 5, constantValue := 0 }, { name := "negativeZeroDoubleBits", type := .long, accessFlags := 26, slot := 6, constantValue := 0 }, { name := "twoToTheDoubleScaleUp", type := .double, accessFlags := 8, slot := 7, constantValue := 0 }, { name := "twoToTheDoubleScaleDown", type := .double, accessFlags := 8, slot := 8, constantValue := 0 }, { name := "$assertionsDisabled", type := .boolean, accessFlags := 4120, slot := 9, constantValue := 0 }]
  methods := #[k16m0, k16m1]
  instanceTypes := #[]
  staticTypes := #[.double, .double, .double, .double, .double, .long, .long, .double, .double, .boolean]
  resolved := Array.replicate 460 none
  statics := none }

def pool17 : Array CpInfo := pool [(1, .class_ 2), (0, u "java/lang/String"), (1, .class_ 6), (1, u "java/lang/Object"), (0, u "<init>"), (0, u "()V"), (0, .methodref 1 10), (0, .nameAndType 11 12), (0, u "checkIndex"), (0, u "(II)V"), (1, .class_ 16), (1, u "java/lang/StringLatin1"), (36, u "([BI)C"), (67, u "$assertionsDisabled"), (0, u "Z"), (98, .class_ 223), (1, u "java/lang/StringLatin1$LinesSpliterator"), (28, u "charAt"), (137, .class_ 391), (0, u "java/lang/StringLatin1$CharsSpliterator")] 3

def k17m0 : Method := { name := "<init>", desc := "()V", sig := { parameters := [], returnType := none }, accessFlags := 0, code := none }
def k17c1 : Code := { maxStack := 2, maxLocals := 2, code := jdk_43_method_2_code, exceptionTable := #[], attributes := #[] }
def k17m1 : Method := { name := "charAt", desc := "([BI)C", sig := { parameters := [(.array .byte), .int], returnType := some .char }, accessFlags := 9, code := some k17c1 }
/-- java/lang/StringLatin1 -/
def k17 : Class := { plain "java/lang/StringLatin1" (some 0) with
  accessFlags := 48
  interfaces := #[]
  cf := some (fileOf pool17 14 #[.nestMembers #[390, 221]] #[{ accessFlags := 0, nameIndex := 7, descriptorIndex := 8, attributes := #[] }, { accessFlags := 9, nameIndex := 252, descriptorIndex := 53, attributes := #[] }] 48 4 #[] #[{ accessFlags := 4120, nameIndex := 121, descriptorIndex := 122, attributes := #[] }])
  fields := #[{ name := "$assertionsDisabled", type := .boolean, accessFlags := 4120, slot := 0, constantValue := 0 }]
  methods := #[k17m0, k17m1]
  instanceTypes := #[]
  staticTypes := #[.boolean]
  resolved := Array.replicate 395 none
  statics := none }

def pool18 : Array CpInfo := pool [(2, .class_ 4), (1, u "java/lang/Object"), (0, u "<init>"), (0, u "()V"), (17, .class_ 26), (1, u "jdk/internal/util/Preconditions"), (6, u "checkIndex"), (21, .class_ 56), (0, u "jdk/internal/util/Preconditions$4"), (57, .class_ 115), (0, u "jdk/internal/util/Preconditions$1"), (7, u "SIOOBE_FORMATTER"), (0, u "Ljava/util/function/BiFunction;"), (0, .class_ 126), (0, u "jdk/internal/util/Preconditions$2"), (3, u "AIOOBE_FORMATTER"), (0, .class_ 132), (0, u "jdk/internal/util/Preconditions$3"), (3, u "IOOBE_FORMATTER"), (41, u "(IILjava/util/function/BiFunction;)I")] 15

def k18m0 : Method := { name := "<init>", desc := "()V", sig := { parameters := [], returnType := none }, accessFlags := 1, code := none }
def k18c1 : Code := { maxStack := 3, maxLocals := 3, code := jdk_41_method_11_code, exceptionTable := #[], attributes := #[] }
def k18m1 : Method := { name := "checkIndex", desc := "(IILjava/util/function/BiFunction;)I", sig := { parameters := [.int, .int, (.object "java/util/function/BiFunction")], returnType := some .int }, accessFlags := 9, code := some k18c1 }
/-- jdk/internal/util/Preconditions -/
def k18 : Class := { plain "jdk/internal/util/Preconditions" (some 0) with
  accessFlags := 33
  interfaces := #[]
  cf := some (fileOf pool18 24 #[.nestMembers #[55, 131, 125, 114]] #[{ accessFlags := 1, nameIndex := 5, descriptorIndex := 6, attributes := #[] }, { accessFlags := 9, nameIndex := 33, descriptorIndex := 178, attributes := #[] }] 33 2 #[] #[{ accessFlags := 25, nameIndex := 123, descriptorIndex := 124, attributes := #[] }, { accessFlags := 25, nameIndex := 130, descriptorIndex := 124, attributes := #[] }, { accessFlags := 25, nameIndex := 136, descriptorIndex := 124, attributes := #[] }])
  fields := #[{ name := "SIOOBE_FORMATTER", type := (.object "java/util/function/BiFunction"), accessFlags := 25, slot := 0, constantValue := 0 }, { name := "AIOOBE_FORMATTER", type := (.object "java/util/function/BiFunction"), accessFlags := 25, slot := 1, constantValue := 0 }, { name := "IOOBE_FORMATTER", type := (.object "java/util/function/BiFunction"), accessFlags := 25, slot := 2, constantValue := 0 }]
  methods := #[k18m0, k18m1]
  instanceTypes := #[]
  staticTypes := #[(.object "java/util/function/BiFunction"), (.object "java/util/function/BiFunction"), (.object "java/util/function/BiFunction")]
  resolved := Array.replicate 194 none
  statics := some 2 }

def pool19 : Array CpInfo := pool [(6, .class_ 8), (1, u "java/lang/Object"), (0, u "<init>"), (0, u "()V"), (1, .class_ 14), (1, u "java/lang/StringUTF16"), (31, u "$assertionsDisabled"), (0, u "Z"), (13, u "HI_BYTE_SHIFT"), (0, u "I"), (2, u "LO_BYTE_SHIFT"), (49, .methodref 12 116), (0, .nameAndType 117 118), (0, u "compress"), (0, u "([CI[BII)I"), (3, u "([CII)[B"), (138, u "coderFromArrayLen"), (0, u "([BI)B"), (106, .class_ 371), (1, u "java/lang/StringUTF16$LinesSpliterator"), (58, u "MAX_LENGTH"), (196, .class_ 628), (0, u "java/lang/StringUTF16$CodePointsSpliterator"), (0, .class_ 630), (0, u "java/lang/StringUTF16$CharsSpliterator")] 4

def k19m0 : Method := { name := "<init>", desc := "()V", sig := { parameters := [], returnType := none }, accessFlags := 0, code := none }
def k19c1 : Code := { maxStack := 2, maxLocals := 2, code := jdk_52_method_15_code, exceptionTable := #[], attributes := #[] }
def k19m1 : Method := { name := "coderFromArrayLen", desc := "([BI)B", sig := { parameters := [(.array .byte), .int], returnType := some .byte }, accessFlags := 8, code := some k19c1 }
def k19c2 : Code := { maxStack := 5, maxLocals := 6, code := jdk_52_method_16_code, exceptionTable := #[], attributes := #[] }
def k19m2 : Method := { name := "compress", desc := "([CII)[B", sig := { parameters := [(.array .char), .int, .int], returnType := some (.array .byte) }, accessFlags := 9, code := some k19c2 }
def k19c3 : Code := { maxStack := 3, maxLocals := 7, code := jdk_52_method_21_code, exceptionTable := #[], attributes := #[] }
def k19m3 : Method := { name := "compress", desc := "([CI[BII)I", sig := { parameters := [(.array .char), .int, (.array .byte), .int, .int], returnType := some .int }, accessFlags := 9, code := some k19c3 }
/-- java/lang/StringUTF16 -/
def k19 : Class := { plain "java/lang/StringUTF16" (some 0) with
  accessFlags := 48
  interfaces := #[]
  cf := some (fileOf pool19 12 #[.nestMembers #[627, 629, 369]] #[{ accessFlags := 0, nameIndex := 9, descriptorIndex := 10, attributes := #[] }, { accessFlags := 8, nameIndex := 261, descriptorIndex := 262, attributes := #[] }, { accessFlags := 9, nameIndex := 117, descriptorIndex := 122, attributes := #[] }, { accessFlags := 9, nameIndex := 117, descriptorIndex := 118, attributes := #[] }] 48 6 #[] #[{ accessFlags := 26, nameIndex := 61, descriptorIndex := 62, attributes := #[] }, { accessFlags := 26, nameIndex := 65, descriptorIndex := 62, attributes := #[] }, { accessFlags := 24, nameIndex := 430, descriptorIndex := 62, attributes := #[] }, { accessFlags := 4120, nameIndex := 46, descriptorIndex := 47, attributes := #[] }])
  fields := #[{ name := "HI_BYTE_SHIFT", type := .int, accessFlags := 26, slot := 0, constantValue := 0 }, { name := "LO_BYTE_SHIFT", type := .int, accessFlags := 26, slot := 1, constantValue := 0 }, { name := "MAX_LENGTH", type := .int, accessFlags := 24, slot := 2, constantValue := 0 }, { name := "$assertionsDisabled", type := .boolean, accessFlags := 4120, slot := 3, constantValue := 0 }]
  methods := #[k19m0, k19m1, k19m2, k19m3]
  instanceTypes := #[]
  staticTypes := #[.int, .int, .int, .boolean]
  resolved := Array.replicate 635 none
  statics := none }

def pool20 : Array CpInfo := pool [(9, u "<init>"), (6, .class_ 18), (1, u "java/lang/Object"), (0, u "()V"), (1, .class_ 23), (1, u "jdk/internal/util/ArraysSupport"), (0, u "LOG2_ARRAY_LONG_INDEX_SCALE"), (0, u "I"), (2, u "U"), (0, u "Ljdk/internal/misc/Unsafe;"), (8, u "BIG_ENDIAN"), (0, u "Z"), (8, u "LOG2_BYTE_BIT_SIZE"), (4, u "LOG2_ARRAY_INT_INDEX_SCALE"), (54, u "JLA"), (0, u "Ljdk/internal/access/JavaLangAccess;"), (11, u "LOG2_ARRAY_BOOLEAN_INDEX_SCALE"), (9, u "LOG2_ARRAY_BYTE_INDEX_SCALE"), (5, u "LOG2_ARRAY_CHAR_INDEX_SCALE"), (5, u "LOG2_ARRAY_SHORT_INDEX_SCALE"), (18, u "LOG2_ARRAY_FLOAT_INDEX_SCALE"), (24, u "LOG2_ARRAY_DOUBLE_INDEX_SCALE"), (89, u "T_BOOLEAN"), (2, u "T_CHAR"), (1, u "T_FLOAT"), (1, u "T_DOUBLE"), (1, u "T_BYTE"), (1, u "T_SHORT"), (1, u "T_INT"), (1, u "T_LONG"), (1, u "SOFT_MAX_ARRAY_LENGTH")] 83

def k20m0 : Method := { name := "<init>", desc := "()V", sig := { parameters := [], returnType := none }, accessFlags := 2, code := none }
/-- jdk/internal/util/ArraysSupport -/
def k20 : Class := { plain "jdk/internal/util/ArraysSupport" (some 0) with
  accessFlags := 33
  interfaces := #[]
  cf := some (fileOf pool20 21 #[] #[{ accessFlags := 2, nameIndex := 9, descriptorIndex := 19, attributes := #[] }] 33 16 #[] #[{ accessFlags := 24, nameIndex := 28, descriptorIndex := 29, attributes := #[] }, { accessFlags := 26, nameIndex := 38, descriptorIndex := 39, attributes := #[] }, { accessFlags := 25, nameIndex := 121, descriptorIndex := 25, attributes := #[] }, { accessFlags := 25, nameIndex := 131, descriptorIndex := 25, attributes := #[] }, { accessFlags := 25, nameIndex := 137, descriptorIndex := 25, attributes := #[] }, { accessFlags := 25, nameIndex := 143, descriptorIndex := 25, attributes := #[] }, { accessFlags := 25, nameIndex := 53, descriptorIndex := 25, attributes := #[] }, { accessFlags := 25, nameIndex := 24, descriptorIndex := 25, attributes := #[] }, { accessFlags := 25, nameIndex := 162, descriptorIndex := 25, attributes := #[] }, { accessFlags := 25, nameIndex := 187, descriptorIndex := 25, attributes := #[] }, { accessFlags := 26, nameIndex := 48, descriptorIndex := 25, attributes := #[] }, { accessFlags := 25, nameIndex := 277, descriptorIndex := 25, attributes := #[] }, { accessFlags := 25, nameIndex := 280, descriptorIndex := 25, attributes := #[] }, { accessFlags := 25, nameIndex := 282, descriptorIndex := 25, attributes := #[] }, { accessFlags := 25, nameIndex := 284, descriptorIndex := 25, attributes := #[] }, { accessFlags := 25, nameIndex := 286, descriptorIndex := 25, attributes := #[] }, { accessFlags := 25, nameIndex := 288, descriptorIndex := 25, attributes := #[] }, { accessFlags := 25, nameIndex := 290, descriptorIndex := 25, attributes := #[] }, { accessFlags := 25, nameIndex := 292, descriptorIndex := 25, attributes := #[] }, { accessFlags := 26, nameIndex := 108, descriptorIndex := 109, attributes := #[] }, { accessFlags := 25, nameIndex := 294, descriptorIndex := 25, attributes := #[] }])
  fields := #[{ name := "U", type := (.object "jdk/internal/misc/Unsafe"), accessFlags := 24, slot := 0, constantValue := 0 }, { name := "BIG_ENDIAN", type := .boolean, accessFlags := 26, slot := 1, constantValue := 0 }, { name := "LOG2_ARRAY_BOOLEAN_INDEX_SCALE", type := .int, accessFlags := 25, slot := 2, constantValue := 0 }, { name := "LOG2_ARRAY_BYTE_INDEX_SCALE", type := .int, accessFlags := 25, slot := 3, constantValue := 0 }, { name := "LOG2_ARRAY_CHAR_INDEX_SCALE", type := .int, accessFlags := 25, slot := 4, constantValue := 0 }, { name := "LOG2_ARRAY_SHORT_INDEX_SCALE", type := .int, accessFlags := 25, slot := 5, constantValue := 0 }, { name := "LOG2_ARRAY_INT_INDEX_SCALE", type := .int, accessFlags := 25, slot := 6, constantValue := 0 }, { name := "LOG2_ARRAY_LONG_INDEX_SCALE", type := .int, accessFlags := 25, slot := 7, constantValue := 0 }, { name := "LOG2_ARRAY_FLOAT_INDEX_SCALE", type := .int, accessFlags := 25, slot := 8, constantValue := 0 }, { name := "LOG2_ARRAY_DOUBLE_INDEX_SCALE", type := .int, accessFlags := 25, slot := 9, constantValue := 0 }, { name := "LOG2_BYTE_BIT_SIZE", type := .int, accessFlags := 26, slot := 10, constantValue := 0 }, { name := "T_BOOLEAN", type := .int, accessFlags := 25, slot := 11, constantValue := 0 }, { name := "T_CHAR", type := .int, accessFlags := 25, slot := 12, constantValue := 0 }, { name := "T_FLOAT", type := .int, accessFlags := 25, slot := 13, constantValue := 0 }, { name := "T_DOUBLE", type := .int, accessFlags := 25, slot := 14, constantValue := 0 }, { name := "T_BYTE", type := .int, accessFlags := 25, slot := 15, constantValue := 0 }, { name := "T_SHORT", type := .int, accessFlags := 25, slot := 16, constantValue := 0 }, { name := "T_INT", type := .int, accessFlags := 25, slot := 17, constantValue := 0 }, { name := "T_LONG", type := .int, accessFlags := 25, slot := 18, constantValue := 0 }, { name := "JLA", type := (.object "jdk/internal/access/JavaLangAccess"), accessFlags := 26, slot := 19, constantValue := 0 }, { name := "SOFT_MAX_ARRAY_LENGTH", type := .int, accessFlags := 25, slot := 20, constantValue := 0 }]
  methods := #[k20m0]
  instanceTypes := #[]
  staticTypes := #[(.object "jdk/internal/misc/Unsafe"), .boolean, .int, .int, .int, .int, .int, .int, .int, .int, .int, .int, .int, .int, .int, .int, .int, .int, .int, (.object "jdk/internal/access/JavaLangAccess"), .int]
  resolved := Array.replicate 378 none
  statics := none }

def pool21 : Array CpInfo := pool [(2, .class_ 4), (1, u "java/lang/Object"), (0, u "<init>"), (0, u "()V"), (12, .class_ 20), (0, u "java/util/Collections"), (63, u "r"), (0, u "Ljava/util/Random;"), (80, .class_ 167), (0, u "java/util/Collections$UnmodifiableCollection"), (6, .class_ 175), (0, u "java/util/Collections$UnmodifiableSequencedCollection"), (6, .class_ 183), (0, u "java/util/Collections$UnmodifiableSet"), (6, .class_ 191), (0, u "java/util/Collections$UnmodifiableSequencedSet"), (6, .class_ 199), (0, u "java/util/Collections$UnmodifiableSortedSet"), (6, .class_ 207), (0, u "java/util/Collections$UnmodifiableNavigableSet"), (4, .class_ 213), (0, u "java/util/Collections$UnmodifiableList"), (1, .class_ 216), (0, u "java/util/Collections$UnmodifiableRandomAccessList"), (6, .class_ 224), (0, u "java/util/Collections$UnmodifiableMap"), (6, .class_ 232), (0, u "java/util/Collections$UnmodifiableSequencedMap"), (4, .class_ 238), (0, u "java/util/Collections$UnmodifiableSortedMap"), (6, .class_ 246), (0, u "java/util/Collections$UnmodifiableNavigableMap"), (3, .class_ 251), (0, u "java/util/Collections$SynchronizedCollection"), (4, .class_ 257), (0, u "java/util/Collections$SynchronizedSet"), (4, .class_ 263), (0, u "java/util/Collections$SynchronizedSortedSet"), (1, .class_ 266), (0, u "java/util/Collections$SynchronizedNavigableSet"), (1, .class_ 269), (0, u "java/util/Collections$SynchronizedRandomAccessList"), (1, .class_ 272), (0, u "java/util/Collections$SynchronizedList"), (5, .class_ 279), (0, u "java/util/Collections$SynchronizedMap"), (1, .class_ 282), (0, u "java/util/Collections$SynchronizedSortedMap"), (1, .class_ 285), (0, u "java/util/Collections$SynchronizedNavigableMap"), (1, .class_ 288), (0, u "java/util/Collections$CheckedCollection"), (11, .class_ 301), (0, u "java/util/Collections$CheckedQueue"), (3, .class_ 306), (0, u "java/util/Collections$CheckedSet"), (3, .class_ 311), (0, u "java/util/Collections$CheckedSortedSet"), (3, .class_ 316), (0, u "java/util/Collections$CheckedNavigableSet"), (3, .class_ 321), (0, u "java/util/Collections$CheckedRandomAccessList"), (3, .class_ 326), (0, u "java/util/Collections$CheckedList"), (1, .class_ 329), (0, u "java/util/Collections$CheckedMap"), (3, .class_ 334), (0, u "java/util/Collections$CheckedSortedMap"), (3, .class_ 339), (0, u "java/util/Collections$CheckedNavigableMap"), (4, .class_ 346), (1, u "java/util/Collections$EmptyIterator"), (3, .class_ 352), (1, u "java/util/Collections$EmptyListIterator"), (2, .class_ 357), (1, u "java/util/Collections$EmptyEnumeration"), (4, u "EMPTY_SET"), (0, u "Ljava/util/Set;"), (6, u "EMPTY_LIST"), (0, u "Ljava/util/List;"), (2, u "EMPTY_MAP"), (0, u "Ljava/util/Map;"), (4, .class_ 381), (0, u "java/util/Collections$SingletonSet"), (2, .class_ 385), (0, u "java/util/Collections$1"), (1, .class_ 388), (0, u "java/util/Collections$2"), (1, .class_ 391), (0, u "java/util/Collections$SingletonList"), (1, .class_ 394), (0, u "java/util/Collections$SingletonMap"), (22, .class_ 418), (0, u "java/util/Collections$CopiesList"), (4, .class_ 425), (1, u "java/util/Collections$ReverseComparator"), (8, .class_ 435), (0, u "java/util/Collections$ReverseComparator2"), (6, .class_ 443), (0, u "java/util/Collections$3"), (25, .class_ 470), (0, u "java/util/Collections$SetFromMap"), (2, .class_ 474), (0, u "java/util/Collections$SequencedSetFromMap"), (3, .class_ 479), (0, u "java/util/Collections$AsLIFOQueue"), (11, .class_ 492), (0, u "java/util/Collections$EmptySet"), (1, .class_ 495), (0, u "java/util/Collections$EmptyList"), (1, .class_ 498), (0, u "java/util/Collections$EmptyMap"), (1, u "BINARYSEARCH_THRESHOLD"), (0, u "I"), (2, u "REVERSE_THRESHOLD"), (1, u "SHUFFLE_THRESHOLD"), (1, u "FILL_THRESHOLD"), (1, u "ROTATE_THRESHOLD"), (1, u "COPY_THRESHOLD"), (1, u "REPLACEALL_THRESHOLD"), (1, u "INDEXOFSUBLIST_THRESHOLD"), (333, .class_ 851), (0, u "java/util/Collections$CheckedMap$CheckedEntrySet"), (0, .class_ 853), (0, u "java/util/Collections$CheckedMap$CheckedEntrySet$CheckedEntry"), (0, .class_ 855), (0, u "java/util/Collections$CheckedMap$CheckedEntrySet$1"), (0, .class_ 857), (0, u "java/util/Collections$CheckedList$1"), (0, .class_ 859), (0, u "java/util/Collections$CheckedCollection$1"), (0, .class_ 861), (0, u "java/util/Collections$UnmodifiableNavigableMap$EmptyNavigableMap"), (0, .class_ 863), (0, u "java/util/Collections$UnmodifiableMap$UnmodifiableEntrySet"), (0, .class_ 865), (0, u "java/util/Collections$UnmodifiableMap$UnmodifiableEntrySet$UnmodifiableEntry"), (0, .class_ 867), (0, u "java/util/Collections$UnmodifiableMap$UnmodifiableEntrySet$UnmodifiableEntrySetSpliterator"), (0, .class_ 869), (0, u "java/util/Collections$UnmodifiableMap$UnmodifiableEntrySet$1"), (0, .class_ 871), (0, u "java/util/Collections$UnmodifiableList$1"), (0, .class_ 873), (0, u "java/util/Collections$UnmodifiableNavigableSet$EmptyNavigableSet"), (0, .class_ 875), (0, u "java/util/Collections$UnmodifiableCollection$1")] 57

def k21m0 : Method := { name := "<init>", desc := "()V", sig := { parameters := [], returnType := none }, accessFlags := 2, code := none }
/-- java/util/Collections -/
def k21 : Class := { plain "java/util/Collections" (some 0) with
  accessFlags := 33
  interfaces := #[]
  cf := some (fileOf pool21 19 #[.nestMembers #[478, 473, 469, 434, 423, 417, 393, 390, 380, 497, 494, 491, 355, 350, 344, 338, 333, 328, 850, 852, 854, 320, 325, 856, 315, 310, 305, 300, 287, 858, 284, 281, 278, 268, 271, 265, 262, 256, 250, 245, 860, 237, 231, 223, 862, 864, 866, 868, 215, 212, 870, 206, 872, 198, 190, 182, 174, 166, 874, 442, 387, 384]] #[{ accessFlags := 2, nameIndex := 5, descriptorIndex := 6, attributes := #[] }] 33 2 #[] #[{ accessFlags := 26, nameIndex := 500, descriptorIndex := 501, attributes := #[] }, { accessFlags := 26, nameIndex := 504, descriptorIndex := 501, attributes := #[] }, { accessFlags := 26, nameIndex := 506, descriptorIndex := 501, attributes := #[] }, { accessFlags := 26, nameIndex := 508, descriptorIndex := 501, attributes := #[] }, { accessFlags := 26, nameIndex := 510, descriptorIndex := 501, attributes := #[] }, { accessFlags := 26, nameIndex := 512, descriptorIndex := 501, attributes := #[] }, { accessFlags := 26, nameIndex := 514, descriptorIndex := 501, attributes := #[] }, { accessFlags := 26, nameIndex := 516, descriptorIndex := 501, attributes := #[] }, { accessFlags := 10, nameIndex := 84, descriptorIndex := 85, attributes := #[] }, { accessFlags := 25, nameIndex := 362, descriptorIndex := 363, attributes := #[] }, { accessFlags := 25, nameIndex := 370, descriptorIndex := 371, attributes := #[] }, { accessFlags := 25, nameIndex := 374, descriptorIndex := 375, attributes := #[] }])
  fields := #[{ name := "BINARYSEARCH_THRESHOLD", type := .int, accessFlags := 26, slot := 0, constantValue := 0 }, { name := "REVERSE_THRESHOLD", type := .int, accessFlags := 26, slot := 1, constantValue := 0 }, { name := "SHUFFLE_THRESHOLD", type := .int, accessFlags := 26, slot := 2, constantValue := 0 }, { name := "FILL_THRESHOLD", type := .int, accessFlags := 26, slot := 3, constantValue := 0 }, { name := "ROTATE_THRESHOLD", type := .int, accessFlags := 26, slot := 4, constantValue := 0 }, { name := "COPY_THRESHOLD", type := .int, accessFlags := 26, slot := 5, constantValue := 0 }, { name := "REPLACEALL_THRESHOLD", type := .int, accessFlags := 26, slot := 6, constantValue := 0 }, { name := "INDEXOFSUBLIST_THRESHOLD", type := .int, accessFlags := 26, slot := 7, constantValue := 0 }, { name := "r", type := (.object "java/util/Random"), accessFlags := 10, slot := 8, constantValue := 0 }, { name := "EMPTY_SET", type := (.object "java/util/Set"), accessFlags := 25, slot := 9, constantValue := 0 }, { name := "EMPTY_LIST", type := (.object "java/util/List"), accessFlags := 25, slot := 10, constantValue := 0 }, { name := "EMPTY_MAP", type := (.object "java/util/Map"), accessFlags := 25, slot := 11, constantValue := 0 }]
  methods := #[k21m0]
  instanceTypes := #[]
  staticTypes := #[.int, .int, .int, .int, .int, .int, .int, .int, (.object "java/util/Random"), (.object "java/util/Set"), (.object "java/util/List"), (.object "java/util/Map")]
  resolved := Array.replicate 933 none
  statics := some 3 }

def pool22 : Array CpInfo := pool [(8, .class_ 10), (1, u "java/lang/Iterable"), (24, .class_ 36), (0, u "java/lang/Object")] 25

/-- java/lang/Iterable -/
def k22 : Class := { plain "java/lang/Iterable" (some 0) with
  accessFlags := 1537
  interfaces := #[]
  cf := some (fileOf pool22 8 #[] #[] 1537 35 #[] #[])
  fields := #[]
  methods := #[]
  instanceTypes := #[]
  staticTypes := #[]
  resolved := Array.replicate 62 none
  statics := none }

def pool23 : Array CpInfo := pool [(10, .class_ 12), (1, u "java/util/Collection"), (47, .class_ 61), (0, u "java/lang/Object"), (0, .class_ 63), (0, u "java/lang/Iterable")] 51

/-- java/util/Collection -/
def k23 : Class := { plain "java/util/Collection" (some 0) with
  accessFlags := 1537
  interfaces := #[22]
  cf := some (fileOf pool23 10 #[] #[] 1537 60 #[62] #[])
  fields := #[]
  methods := #[]
  instanceTypes := #[]
  staticTypes := #[]
  resolved := Array.replicate 115 none
  statics := none }

def pool24 : Array CpInfo := pool [(2, .class_ 4), (1, u "java/lang/Object"), (0, u "<init>"), (0, u "()V"), (1, .class_ 10), (1, u "java/util/AbstractCollection"), (66, .class_ 78), (0, u "java/util/Collection")] 81

def k24m0 : Method := { name := "<init>", desc := "()V", sig := { parameters := [], returnType := none }, accessFlags := 4, code := none }
/-- java/util/AbstractCollection -/
def k24 : Class := { plain "java/util/AbstractCollection" (some 0) with
  accessFlags := 1057
  interfaces := #[23]
  cf := some (fileOf pool24 8 #[] #[{ accessFlags := 4, nameIndex := 5, descriptorIndex := 6, attributes := #[] }] 1057 2 #[77] #[])
  fields := #[]
  methods := #[k24m0]
  instanceTypes := #[]
  staticTypes := #[]
  resolved := Array.replicate 160 none
  statics := none }

def pool25 : Array CpInfo := pool [(8, .class_ 10), (1, u "java/util/SequencedCollection"), (15, .class_ 27), (0, u "java/lang/Object"), (0, .class_ 29), (0, u "java/util/Collection")] 27

/-- java/util/SequencedCollection -/
def k25 : Class := { plain "java/util/SequencedCollection" (some 0) with
  accessFlags := 1537
  interfaces := #[23]
  cf := some (fileOf pool25 8 #[] #[] 1537 26 #[28] #[])
  fields := #[]
  methods := #[]
  instanceTypes := #[]
  staticTypes := #[]
  resolved := Array.replicate 57 none
  statics := none }

def pool26 : Array CpInfo := pool [(8, .class_ 10), (1, u "java/util/List"), (92, .class_ 104), (0, u "java/lang/Object"), (15, .class_ 121), (0, u "java/util/SequencedCollection")] 129

/-- java/util/List -/
def k26 : Class := { plain "java/util/List" (some 0) with
  accessFlags := 1537
  interfaces := #[25]
  cf := some (fileOf pool26 8 #[] #[] 1537 103 #[120] #[])
  fields := #[]
  methods := #[]
  instanceTypes := #[]
  staticTypes := #[]
  resolved := Array.replicate 251 none
  statics := none }

def pool27 : Array CpInfo := pool [(2, .class_ 4), (1, u "java/util/AbstractCollection"), (0, u "<init>"), (0, u "()V"), (1, .class_ 10), (1, u "java/util/AbstractList"), (0, u "modCount"), (0, u "I"), (64, .class_ 78), (0, u "java/util/AbstractList$Itr"), (3, .class_ 83), (0, u "java/util/AbstractList$ListItr"), (9, .class_ 94), (0, u "java/util/AbstractList$RandomAccessSubList"), (3, .class_ 99), (0, u "java/util/AbstractList$SubList"), (33, .class_ 134), (0, u "java/util/List"), (73, .class_ 209), (0, u "java/util/AbstractList$SubList$1"), (0, .class_ 211), (0, u "java/util/AbstractList$RandomAccessSpliterator")] 6

def k27m0 : Method := { name := "<init>", desc := "()V", sig := { parameters := [], returnType := none }, accessFlags := 4, code := none }
/-- java/util/AbstractList -/
def k27 : Class := { plain "java/util/AbstractList" (some 24) with
  accessFlags := 1057
  interfaces := #[26]
  cf := some (fileOf pool27 8 #[.nestMembers #[93, 98, 208, 210, 82, 77]] #[{ accessFlags := 4, nameIndex := 5, descriptorIndex := 6, attributes := #[] }] 1057 2 #[133] #[{ accessFlags := 132, nameIndex := 11, descriptorIndex := 12, attributes := #[] }])
  fields := #[{ name := "modCount", type := .int, accessFlags := 132, slot := 0, constantValue := 0 }]
  methods := #[k27m0]
  instanceTypes := #[.int]
  staticTypes := #[]
  resolved := Array.replicate 218 none
  statics := none }

def pool28 : Array CpInfo := pool [(1, .class_ 2), (0, u "java/util/RandomAccess"), (0, .class_ 4), (0, u "java/lang/Object")] 2

/-- java/util/RandomAccess -/
def k28 : Class := { plain "java/util/RandomAccess" (some 0) with
  accessFlags := 1537
  interfaces := #[]
  cf := some (fileOf pool28 1 #[] #[] 1537 3 #[] #[])
  fields := #[]
  methods := #[]
  instanceTypes := #[]
  staticTypes := #[]
  resolved := Array.replicate 7 none
  statics := none }

def pool29 : Array CpInfo := pool [(2, .class_ 4), (1, u "java/util/AbstractList"), (0, u "<init>"), (0, u "()V"), (1, .class_ 10), (1, u "java/util/Collections"), (54, .class_ 66), (0, u "java/util/Collections$EmptyList"), (0, .class_ 68), (0, u "java/util/RandomAccess"), (0, .class_ 70), (0, u "java/io/Serializable"), (0, u "serialVersionUID"), (0, u "J")] 77

def k29m0 : Method := { name := "<init>", desc := "()V", sig := { parameters := [], returnType := none }, accessFlags := 2, code := none }
/-- java/util/Collections$EmptyList -/
def k29 : Class := { plain "java/util/Collections$EmptyList" (some 27) with
  accessFlags := 32
  interfaces := #[28, 2]
  cf := some (fileOf pool29 65 #[.nestHost 8] #[{ accessFlags := 2, nameIndex := 5, descriptorIndex := 6, attributes := #[] }] 32 2 #[67, 69] #[{ accessFlags := 26, nameIndex := 71, descriptorIndex := 72, attributes := #[] }])
  fields := #[{ name := "serialVersionUID", type := .long, accessFlags := 26, slot := 0, constantValue := 0 }]
  methods := #[k29m0]
  instanceTypes := #[.int]
  staticTypes := #[.long]
  resolved := Array.replicate 150 none
  statics := none }

def pool30 : Array CpInfo := pool [(2, .class_ 4), (1, u "java/lang/StackTraceElement"), (0, u "<init>"), (2, .class_ 10), (1, u "java/lang/Object"), (0, u "()V"), (2, u "format"), (0, u "B"), (2, u "classLoaderName"), (0, u "Ljava/lang/String;"), (2, u "moduleName"), (2, u "moduleVersion"), (12, u "declaringClass"), (4, u "methodName"), (2, u "fileName"), (2, u "lineNumber"), (0, u "I"), (65, u "declaringClassObject"), (0, u "Ljava/lang/Class;"), (33, .class_ 153), (1, u "java/lang/StackTraceElement$HashedModules"), (17, .class_ 172), (0, u "java/io/Serializable"), (0, u "NATIVE_METHOD"), (1, u "UNKNOWN_SOURCE"), (2, u "BUILTIN_CLASS_LOADER"), (1, u "JDK_NON_UPGRADEABLE_MODULE"), (1, u "serialVersionUID"), (0, u "J")] 51

def k30m0 : Method := { name := "<init>", desc := "()V", sig := { parameters := [], returnType := none }, accessFlags := 2, code := none }
/-- java/lang/StackTraceElement -/
def k30 : Class := { plain "java/lang/StackTraceElement" (some 0) with
  accessFlags := 49
  interfaces := #[2]
  cf := some (fileOf pool30 2 #[.nestMembers #[151]] #[{ accessFlags := 2, nameIndex := 5, descriptorIndex := 11, attributes := #[] }] 49 8 #[171] #[{ accessFlags := 26, nameIndex := 173, descriptorIndex := 19, attributes := #[] }, { accessFlags := 26, nameIndex := 175, descriptorIndex := 19, attributes := #[] }, { accessFlags := 130, nameIndex := 116, descriptorIndex := 117, attributes := #[] }, { accessFlags := 2, nameIndex := 18, descriptorIndex := 19, attributes := #[] }, { accessFlags := 2, nameIndex := 22, descriptorIndex := 19, attributes := #[] }, { accessFlags := 2, nameIndex := 25, descriptorIndex := 19, attributes := #[] }, { accessFlags := 2, nameIndex := 38, descriptorIndex := 19, attributes := #[] }, { accessFlags := 2, nameIndex := 43, descriptorIndex := 19, attributes := #[] }, { accessFlags := 2, nameIndex := 46, descriptorIndex := 19, attributes := #[] }, { accessFlags := 2, nameIndex := 49, descriptorIndex := 50, attributes := #[] }, { accessFlags := 2, nameIndex := 14, descriptorIndex := 15, attributes := #[] }, { accessFlags := 26, nameIndex := 178, descriptorIndex := 15, attributes := #[] }, { accessFlags := 26, nameIndex := 180, descriptorIndex := 15, attributes := #[] }, { accessFlags := 26, nameIndex := 182, descriptorIndex := 183, attributes := #[] }])
  fields := #[{ name := "NATIVE_METHOD", type := (.object "java/lang/String"), accessFlags := 26, slot := 0, constantValue := 0 }, { name := "UNKNOWN_SOURCE", type := (.object "java/lang/String"), accessFlags := 26, slot := 1, constantValue := 0 }, { name := "declaringClassObject", type := (.object "java/lang/Class"), accessFlags := 130, slot := 0, constantValue := 0 }, { name := "classLoaderName", type := (.object "java/lang/String"), accessFlags := 2, slot := 1, constantValue := 0 }, { name := "moduleName", type := (.object "java/lang/String"), accessFlags := 2, slot := 2, constantValue := 0 }, { name := "moduleVersion", type := (.object "java/lang/String"), accessFlags := 2, slot := 3, constantValue := 0 }, { name := "declaringClass", type := (.object "java/lang/String"), accessFlags := 2, slot := 4, constantValue := 0 }, { name := "methodName", type := (.object "java/lang/String"), accessFlags := 2, slot := 5, constantValue := 0 }, { name := "fileName", type := (.object "java/lang/String"), accessFlags := 2, slot := 6, constantValue := 0 }, { name := "lineNumber", type := .int, accessFlags := 2, slot := 7, constantValue := 0 }, { name := "format", type := .byte, accessFlags := 2, slot := 8, constantValue := 0 }, { name := "BUILTIN_CLASS_LOADER", type := .byte, accessFlags := 26, slot := 2, constantValue := 0 }, { name := "JDK_NON_UPGRADEABLE_MODULE", type := .byte, accessFlags := 26, slot := 3, constantValue := 0 }, { name := "serialVersionUID", type := .long, accessFlags := 26, slot := 4, constantValue := 0 }]
  methods := #[k30m0]
  instanceTypes := #[(.object "java/lang/Class"), (.object "java/lang/String"), (.object "java/lang/String"), (.object "java/lang/String"), (.object "java/lang/String"), (.object "java/lang/String"), (.object "java/lang/String"), .int, .byte]
  staticTypes := #[(.object "java/lang/String"), (.object "java/lang/String"), .byte, .byte, .long]
  resolved := Array.replicate 235 none
  statics := none }

def pool31 : Array CpInfo := pool [(1, u "java/lang/Cloneable"), (0, .class_ 1), (0, u "java/lang/Object"), (0, .class_ 3)] 3

/-- java/lang/Cloneable -/
def k31 : Class := { plain "java/lang/Cloneable" (some 0) with
  accessFlags := 1537
  interfaces := #[]
  cf := some (fileOf pool31 2 #[] #[] 1537 4 #[] #[])
  fields := #[]
  methods := #[]
  instanceTypes := #[]
  staticTypes := #[]
  resolved := Array.replicate 8 none
  statics := none }

/-- the primitive byte -/
def k32 : Class := { plain "byte" none with kind := .primitive 'B', accessFlags := 0x411 }
/-- [B -/
def k33 : Class := { plain "[B" (some 0) with kind := .array 32 .byte, interfaces := #[31, 2], accessFlags := 1041 }

/-- the primitive char -/
def k34 : Class := { plain "char" none with kind := .primitive 'C', accessFlags := 0x411 }
/-- [C -/
def k35 : Class := { plain "[C" (some 0) with kind := .array 34 .char, interfaces := #[31, 2], accessFlags := 1041 }

/-- the primitive int -/
def k36 : Class := { plain "int" none with kind := .primitive 'I', accessFlags := 0x411 }
/-- [I -/
def k37 : Class := { plain "[I" (some 0) with kind := .array 36 .int, interfaces := #[31, 2], accessFlags := 1041 }

/-- [Ljava/lang/Object; -/
def k38 : Class := { plain "[Ljava/lang/Object;" (some 0) with kind := .array 0 (.object "java/lang/Object"), interfaces := #[31, 2], accessFlags := 1041 }

/-- [Ljava/lang/StackTraceElement; -/
def k39 : Class := { plain "[Ljava/lang/StackTraceElement;" (some 0) with kind := .array 30 (.object "java/lang/StackTraceElement"), interfaces := #[31, 2], accessFlags := 1041 }

/-- [Ljava/lang/Throwable; -/
def k40 : Class := { plain "[Ljava/lang/Throwable;" (some 0) with kind := .array 8 (.object "java/lang/Throwable"), interfaces := #[31, 2], accessFlags := 1041 }

def heap : Heap := #[{ cls := 7, slots := #[.long 0, .int 1, .null, .int 0, .null, .int 0, .int 0], vm := .statics 7 },
  { cls := 8, slots := #[.long 0, .ref 4, .ref 5, .null, .null, .null, .null, .ref 6, .int 1], vm := .statics 8 },
  { cls := 18, slots := #[.null, .null, .null], vm := .statics 18 },
  { cls := 21, slots := #[.int 0, .int 0, .int 0, .int 0, .int 0, .int 0, .int 0, .int 0, .null, .null, .ref 5, .null], vm := .statics 21 },
  { cls := 39, slots := #[], vm := .none },
  { cls := 29, slots := #[.int 0], vm := .none },
  { cls := 40, slots := #[], vm := .none }]
def classes : Array Class := #[k0, k1, k2, k3, k4, k5, k6, k7, k8, k9, k10, k11, k12, k13, k14, k15, k16, k17, k18, k19, k20, k21, k22, k23, k24, k25, k26, k27, k28, k29, k30, k31, k32, k33, k34, k35, k36, k37, k38, k39, k40]
def interned : List (Array UInt16 × Addr) := []
def slotsUsed : Nat := 32
def theMethod : MethodId := ⟨1, 4⟩
def args0 : Array Value := #[.int 65, .int 66, .int 67, .int 68, .int 6]
def aboutOver (below : List Frame) : State where
  vm := { classes := classes, interned := interned.toArray }
  heap := heap
  slotsUsed := slotsUsed
  threads := #[{ frames := .invoking theMethod args0 :: below }]
def below0 : List Frame := [.native { method := ⟨0, 0⟩, args := #[] }]
def about1 : State := aboutOver below0
def p0 : Program := .bare "" "" ""
def e0 : Env := launch0.env 0 0 0
theorem w_frames : about1.frames = Frame.invoking theMethod args0 :: below0 := rfl
set_option maxRecDepth 65536 in
theorem w_args : argsFit about1.vm theMethod args0 = true := by decide +kernel
set_option maxRecDepth 65536 in
theorem w_heap : heapFits about1 = true := by decide +kernel
set_option maxRecDepth 65536 in
theorem w_runnable : about1.curStatus? = some .runnable := by decide +kernel
set_option maxRecDepth 65536 in
theorem w_alone : about1.alone = true := by decide +kernel
set_option maxRecDepth 65536 in
theorem w_named : about1.methodNamed? x = some theMethod := by decide +kernel
set_option maxRecDepth 65536 in
theorem w_hears : about1.hears theMethod below0 = true := by decide +kernel
set_option maxRecDepth 65536 in
theorem w_ripe : about1.ripe theMethod args0 below0 = true := by decide +kernel
theorem w_running : about1.status = .running := rfl
set_option maxRecDepth 65536 in
theorem w_room : about1.hasRoom e0.platform room_1 = true :=
  launch0.hasRoom_least _ room_1 (by decide +kernel) (by decide +kernel) (by decide +kernel) (by decide +kernel) (by decide +kernel) (by decide +kernel)
theorem allAtoms_all (ts : List Jvm.Cond) (a : Array Jvm.Value) (st : Jvm.State) : (allAtoms ts).before a st = ts.all (fun c => c.before a st) := by
  induction ts with
  | nil => rfl
  | cons c t ih =>
    show (Jvm.Cond.and c (allAtoms t)).before a st = _
    rw [Jvm.Cond.before_and, ih, List.all_cons]
def words1 : List Jvm.Cond := Jvm.Cond.code x code maxLocals ret :: tables_1
/-- a 'code' word, met by the world's own term for the bytes: nothing is compared byte by byte -/
theorem code_word {y : MethodName} {bytes : ByteArray} {mx : Nat} {rt : Option FieldType} {a : Array Value} {s : State} {m : MethodId} {meth : Method} {c : Code} (h1 : s.methodNamed? y = some m) (h2 : s.vm.method? m = some meth) (h3 : meth.code = some c) (h4 : c.code = bytes)
    (h5 : (c.maxLocals == mx && c.exceptionTable.isEmpty && decide (c.maxStack ≤ mostOperands) && decide (meth.sig.returnType = rt) && !meth.locks && decide (parseMethodDescriptor y.desc = some meth.sig)) = true) : (Jvm.Cond.code y bytes mx rt).before a s = true := by
  simp only [Bool.and_eq_true, beq_iff_eq, Bool.not_eq_true', decide_eq_true_eq] at h5
  obtain ⟨⟨⟨⟨⟨g1, g2⟩, g3⟩, g4⟩, g5⟩, g6⟩ := h5
  simp [Cond.before, Cond.holds, Cond.value, h1, h2, h3, h4, g1, g2, g3, g4, g5, g6]
def isCode : Jvm.Cond → Bool
  | .code _ _ _ _ => true
  | _ => false
theorem all_split {L : List Jvm.Cond} {P : Jvm.Cond → Bool} (h1 : L.all (fun c => isCode c || P c) = true) (h2 : ∀ c ∈ L.filter isCode, P c = true) : L.all P = true := by
  refine List.all_eq_true.mpr fun c hc => ?_
  have h := List.all_eq_true.mp h1 c hc
  rcases Bool.eq_false_or_eq_true (isCode c) with hi | hi
  · exact h2 c (List.mem_filter.mpr ⟨hc, hi⟩)
  · simpa [hi] using h
set_option maxRecDepth 65536 in
theorem w_c0 : (Jvm.Cond.code x code maxLocals ret).before args0 about1 = true := code_word (m := ⟨1, 4⟩) (meth := k1m4) (c := k1c4) (by decide +kernel) rfl rfl rfl (by decide +kernel)
set_option maxRecDepth 65536 in
theorem w_c1 : (Jvm.Cond.code ({ cls := "com/example/yusenkabu/yusenkabu/cli/InputExceptionOptionPinLaw", name := "mk", desc := "(CCI)Ljava/lang/String;" } : Jvm.MethodName) method_2_code (3 : Nat) (Option.some (Jvm.ClassFile.FieldType.object "java/lang/String"))).before args0 about1 = true := code_word (m := ⟨1, 1⟩) (meth := k1m1) (c := k1c1) (by decide +kernel) rfl rfl rfl (by decide +kernel)
set_option maxRecDepth 65536 in
theorem w_c2 : (Jvm.Cond.code ({ cls := "java/lang/String", name := "<init>", desc := "([C)V" } : Jvm.MethodName) jdk_42_method_3_code (2 : Nat) (Option.none : Option Jvm.ClassFile.FieldType)).before args0 about1 = true := code_word (m := ⟨7, 1⟩) (meth := k7m1) (c := k7c1) (by decide +kernel) rfl rfl rfl (by decide +kernel)
set_option maxRecDepth 65536 in
theorem w_c3 : (Jvm.Cond.code ({ cls := "java/lang/String", name := "<init>", desc := "([CIILjava/lang/Void;)V" } : Jvm.MethodName) jdk_42_method_149_code (6 : Nat) (Option.none : Option Jvm.ClassFile.FieldType)).before args0 about1 = true := code_word (m := ⟨7, 6⟩) (meth := k7m6) (c := k7c6) (by decide +kernel) rfl rfl rfl (by decide +kernel)
set_option maxRecDepth 65536 in
theorem w_c4 : (Jvm.Cond.code ({ cls := "java/lang/Object", name := "<init>", desc := "()V" } : Jvm.MethodName) object_method_1_code (1 : Nat) (Option.none : Option Jvm.ClassFile.FieldType)).before args0 about1 = true := code_word (m := ⟨0, 0⟩) (meth := k0m0) (c := k0c0) (by decide +kernel) rfl rfl rfl (by decide +kernel)
set_option maxRecDepth 65536 in
theorem w_c5 : (Jvm.Cond.code ({ cls := "com/example/yusenkabu/yusenkabu/cli/InputException", name := "option", desc := "(Ljava/lang/String;Ljava/lang/String;)Lcom/example/yusenkabu/yusenkabu/cli/InputException;" } : Jvm.MethodName) prog_38_method_6_code (2 : Nat) (Option.some (Jvm.ClassFile.FieldType.object "com/example/yusenkabu/yusenkabu/cli/InputException"))).before args0 about1 = true := code_word (m := ⟨10, 1⟩) (meth := k10m1) (c := k10c1) (by decide +kernel) rfl rfl rfl (by decide +kernel)
set_option maxRecDepth 65536 in
theorem w_c6 : (Jvm.Cond.code ({ cls := "java/lang/StringBuilder", name := "<init>", desc := "()V" } : Jvm.MethodName) jdk_67_method_1_code (1 : Nat) (Option.none : Option Jvm.ClassFile.FieldType)).before args0 about1 = true := code_word (m := ⟨13, 0⟩) (meth := k13m0) (c := k13c0) (by decide +kernel) rfl rfl rfl (by decide +kernel)
set_option maxRecDepth 65536 in
theorem w_c7 : (Jvm.Cond.code ({ cls := "java/lang/AbstractStringBuilder", name := "<init>", desc := "(I)V" } : Jvm.MethodName) jdk_68_method_2_code (2 : Nat) (Option.none : Option Jvm.ClassFile.FieldType)).before args0 about1 = true := code_word (m := ⟨12, 1⟩) (meth := k12m1) (c := k12c1) (by decide +kernel) rfl rfl rfl (by decide +kernel)
set_option maxRecDepth 65536 in
theorem w_c8 : (Jvm.Cond.code ({ cls := "java/lang/StringBuilder", name := "append", desc := "(Ljava/lang/String;)Ljava/lang/StringBuilder;" } : Jvm.MethodName) jdk_67_method_7_code (2 : Nat) (Option.some (Jvm.ClassFile.FieldType.object "java/lang/StringBuilder"))).before args0 about1 = true := code_word (m := ⟨13, 1⟩) (meth := k13m1) (c := k13c1) (by decide +kernel) rfl rfl rfl (by decide +kernel)
set_option maxRecDepth 65536 in
theorem w_c9 : (Jvm.Cond.code ({ cls := "java/lang/AbstractStringBuilder", name := "append", desc := "(Ljava/lang/String;)Ljava/lang/AbstractStringBuilder;" } : Jvm.MethodName) jdk_68_method_22_code (3 : Nat) (Option.some (Jvm.ClassFile.FieldType.object "java/lang/AbstractStringBuilder"))).before args0 about1 = true := code_word (m := ⟨12, 4⟩) (meth := k12m4) (c := k12c4) (by decide +kernel) rfl rfl rfl (by decide +kernel)
set_option maxRecDepth 65536 in
theorem w_c10 : (Jvm.Cond.code ({ cls := "java/lang/String", name := "length", desc := "()I" } : Jvm.MethodName) jdk_42_method_54_code (1 : Nat) (Option.some Jvm.ClassFile.FieldType.int)).before args0 about1 = true := code_word (m := ⟨7, 3⟩) (meth := k7m3) (c := k7c3) (by decide +kernel) rfl rfl rfl (by decide +kernel)
set_option maxRecDepth 65536 in
theorem w_c11 : (Jvm.Cond.code ({ cls := "java/lang/String", name := "coder", desc := "()B" } : Jvm.MethodName) jdk_42_method_152_code (1 : Nat) (Option.some Jvm.ClassFile.FieldType.byte)).before args0 about1 = true := code_word (m := ⟨7, 8⟩) (meth := k7m8) (c := k7c8) (by decide +kernel) rfl rfl rfl (by decide +kernel)
set_option maxRecDepth 65536 in
theorem w_c12 : (Jvm.Cond.code ({ cls := "java/lang/AbstractStringBuilder", name := "ensureCapacityInternal", desc := "(I)V" } : Jvm.MethodName) jdk_68_method_9_code (3 : Nat) (Option.none : Option Jvm.ClassFile.FieldType)).before args0 about1 = true := code_word (m := ⟨12, 3⟩) (meth := k12m3) (c := k12c3) (by decide +kernel) rfl rfl rfl (by decide +kernel)
set_option maxRecDepth 65536 in
theorem w_c13 : (Jvm.Cond.code ({ cls := "java/lang/AbstractStringBuilder", name := "putStringAt", desc := "(ILjava/lang/String;)V" } : Jvm.MethodName) jdk_68_method_73_code (3 : Nat) (Option.none : Option Jvm.ClassFile.FieldType)).before args0 about1 = true := code_word (m := ⟨12, 8⟩) (meth := k12m8) (c := k12c8) (by decide +kernel) rfl rfl rfl (by decide +kernel)
set_option maxRecDepth 65536 in
theorem w_c14 : (Jvm.Cond.code ({ cls := "java/lang/AbstractStringBuilder", name := "inflateIfNeededFor", desc := "(Ljava/lang/String;)V" } : Jvm.MethodName) jdk_68_method_71_code (2 : Nat) (Option.none : Option Jvm.ClassFile.FieldType)).before args0 about1 = true := code_word (m := ⟨12, 7⟩) (meth := k12m7) (c := k12c7) (by decide +kernel) rfl rfl rfl (by decide +kernel)
set_option maxRecDepth 65536 in
theorem w_c15 : (Jvm.Cond.code ({ cls := "java/lang/String", name := "getBytes", desc := "([BIB)V" } : Jvm.MethodName) jdk_42_method_147_code (4 : Nat) (Option.none : Option Jvm.ClassFile.FieldType)).before args0 about1 = true := code_word (m := ⟨7, 5⟩) (meth := k7m5) (c := k7c5) (by decide +kernel) rfl rfl rfl (by decide +kernel)
set_option maxRecDepth 65536 in
theorem w_c16 : (Jvm.Cond.code ({ cls := "java/lang/StringBuilder", name := "toString", desc := "()Ljava/lang/String;" } : Jvm.MethodName) jdk_67_method_42_code (1 : Nat) (Option.some (Jvm.ClassFile.FieldType.object "java/lang/String"))).before args0 about1 = true := code_word (m := ⟨13, 2⟩) (meth := k13m2) (c := k13c2) (by decide +kernel) rfl rfl rfl (by decide +kernel)
set_option maxRecDepth 65536 in
theorem w_c17 : (Jvm.Cond.code ({ cls := "java/lang/String", name := "<init>", desc := "(Ljava/lang/StringBuilder;)V" } : Jvm.MethodName) jdk_42_method_53_code (2 : Nat) (Option.none : Option Jvm.ClassFile.FieldType)).before args0 about1 = true := code_word (m := ⟨7, 2⟩) (meth := k7m2) (c := k7c2) (by decide +kernel) rfl rfl rfl (by decide +kernel)
set_option maxRecDepth 65536 in
theorem w_c18 : (Jvm.Cond.code ({ cls := "java/lang/String", name := "<init>", desc := "(Ljava/lang/AbstractStringBuilder;Ljava/lang/Void;)V" } : Jvm.MethodName) jdk_42_method_150_code (5 : Nat) (Option.none : Option Jvm.ClassFile.FieldType)).before args0 about1 = true := code_word (m := ⟨7, 7⟩) (meth := k7m7) (c := k7c7) (by decide +kernel) rfl rfl rfl (by decide +kernel)
set_option maxRecDepth 65536 in
theorem w_c19 : (Jvm.Cond.code ({ cls := "java/lang/AbstractStringBuilder", name := "getValue", desc := "()[B" } : Jvm.MethodName) jdk_68_method_64_code (1 : Nat) (Option.some (Jvm.ClassFile.FieldType.array Jvm.ClassFile.FieldType.byte))).before args0 about1 = true := code_word (m := ⟨12, 5⟩) (meth := k12m5) (c := k12c5) (by decide +kernel) rfl rfl rfl (by decide +kernel)
set_option maxRecDepth 65536 in
theorem w_c20 : (Jvm.Cond.code ({ cls := "java/lang/StringBuilder", name := "length", desc := "()I" } : Jvm.MethodName) jdk_67_method_93_code (1 : Nat) (Option.some Jvm.ClassFile.FieldType.int)).before args0 about1 = true := code_word (m := ⟨13, 3⟩) (meth := k13m3) (c := k13c3) (by decide +kernel) rfl rfl rfl (by decide +kernel)
set_option maxRecDepth 65536 in
theorem w_c21 : (Jvm.Cond.code ({ cls := "java/lang/AbstractStringBuilder", name := "length", desc := "()I" } : Jvm.MethodName) jdk_68_method_6_code (1 : Nat) (Option.some Jvm.ClassFile.FieldType.int)).before args0 about1 = true := code_word (m := ⟨12, 2⟩) (meth := k12m2) (c := k12c2) (by decide +kernel) rfl rfl rfl (by decide +kernel)
set_option maxRecDepth 65536 in
theorem w_c22 : (Jvm.Cond.code ({ cls := "java/lang/AbstractStringBuilder", name := "isLatin1", desc := "()Z" } : Jvm.MethodName) jdk_68_method_68_code (1 : Nat) (Option.some Jvm.ClassFile.FieldType.boolean)).before args0 about1 = true := code_word (m := ⟨12, 6⟩) (meth := k12m6) (c := k12c6) (by decide +kernel) rfl rfl rfl (by decide +kernel)
set_option maxRecDepth 65536 in
theorem w_c23 : (Jvm.Cond.code ({ cls := "java/util/Arrays", name := "copyOfRange", desc := "([BII)[B" } : Jvm.MethodName) jdk_65_method_132_code (3 : Nat) (Option.some (Jvm.ClassFile.FieldType.array Jvm.ClassFile.FieldType.byte))).before args0 about1 = true := code_word (m := ⟨15, 2⟩) (meth := k15m2) (c := k15c2) (by decide +kernel) rfl rfl rfl (by decide +kernel)
set_option maxRecDepth 65536 in
theorem w_c24 : (Jvm.Cond.code ({ cls := "java/util/Arrays", name := "copyOfRangeByte", desc := "([BII)[B" } : Jvm.MethodName) jdk_65_method_133_code (5 : Nat) (Option.some (Jvm.ClassFile.FieldType.array Jvm.ClassFile.FieldType.byte))).before args0 about1 = true := code_word (m := ⟨15, 3⟩) (meth := k15m3) (c := k15c3) (by decide +kernel) rfl rfl rfl (by decide +kernel)
set_option maxRecDepth 65536 in
theorem w_c25 : (Jvm.Cond.code ({ cls := "java/util/Arrays", name := "checkLength", desc := "(II)V" } : Jvm.MethodName) jdk_65_method_131_code (2 : Nat) (Option.none : Option Jvm.ClassFile.FieldType)).before args0 about1 = true := code_word (m := ⟨15, 1⟩) (meth := k15m1) (c := k15c1) (by decide +kernel) rfl rfl rfl (by decide +kernel)
set_option maxRecDepth 65536 in
theorem w_c26 : (Jvm.Cond.code ({ cls := "java/lang/Math", name := "min", desc := "(II)I" } : Jvm.MethodName) jdk_29_method_69_code (2 : Nat) (Option.some Jvm.ClassFile.FieldType.int)).before args0 about1 = true := code_word (m := ⟨16, 1⟩) (meth := k16m1) (c := k16c1) (by decide +kernel) rfl rfl rfl (by decide +kernel)
set_option maxRecDepth 65536 in
theorem w_c27 : (Jvm.Cond.code ({ cls := "com/example/yusenkabu/yusenkabu/cli/InputException", name := "<init>", desc := "(Ljava/lang/String;Ljava/lang/Throwable;)V" } : Jvm.MethodName) prog_38_method_1_code (3 : Nat) (Option.none : Option Jvm.ClassFile.FieldType)).before args0 about1 = true := code_word (m := ⟨10, 0⟩) (meth := k10m0) (c := k10c0) (by decide +kernel) rfl rfl rfl (by decide +kernel)
set_option maxRecDepth 65536 in
theorem w_c28 : (Jvm.Cond.code ({ cls := "java/lang/Exception", name := "<init>", desc := "(Ljava/lang/String;Ljava/lang/Throwable;)V" } : Jvm.MethodName) jdk_59_method_3_code (3 : Nat) (Option.none : Option Jvm.ClassFile.FieldType)).before args0 about1 = true := code_word (m := ⟨9, 1⟩) (meth := k9m1) (c := k9c1) (by decide +kernel) rfl rfl rfl (by decide +kernel)
set_option maxRecDepth 65536 in
theorem w_c29 : (Jvm.Cond.code ({ cls := "java/lang/Throwable", name := "<init>", desc := "(Ljava/lang/String;Ljava/lang/Throwable;)V" } : Jvm.MethodName) jdk_78_method_3_code (3 : Nat) (Option.none : Option Jvm.ClassFile.FieldType)).before args0 about1 = true := code_word (m := ⟨8, 1⟩) (meth := k8m1) (c := k8c1) (by decide +kernel) rfl rfl rfl (by decide +kernel)
set_option maxRecDepth 65536 in
theorem w_c30 : (Jvm.Cond.code ({ cls := "java/lang/Throwable", name := "<init>", desc := "()V" } : Jvm.MethodName) jdk_78_method_1_code (1 : Nat) (Option.none : Option Jvm.ClassFile.FieldType)).before args0 about1 = true := code_word (m := ⟨8, 0⟩) (meth := k8m0) (c := k8c0) (by decide +kernel) rfl rfl rfl (by decide +kernel)
set_option maxRecDepth 65536 in
theorem w_c31 : (Jvm.Cond.code ({ cls := "java/lang/Throwable", name := "getMessage", desc := "()Ljava/lang/String;" } : Jvm.MethodName) jdk_78_method_6_code (1 : Nat) (Option.some (Jvm.ClassFile.FieldType.object "java/lang/String"))).before args0 about1 = true := code_word (m := ⟨8, 2⟩) (meth := k8m2) (c := k8c2) (by decide +kernel) rfl rfl rfl (by decide +kernel)
set_option maxRecDepth 65536 in
theorem w_c32 : (Jvm.Cond.code ({ cls := "com/example/yusenkabu/yusenkabu/cli/InputExceptionOptionPinLaw", name := "at", desc := "(Ljava/lang/String;IILjava/lang/String;Ljava/lang/String;)Z" } : Jvm.MethodName) method_4_code (5 : Nat) (Option.some Jvm.ClassFile.FieldType.boolean)).before args0 about1 = true := code_word (m := ⟨1, 3⟩) (meth := k1m3) (c := k1c3) (by decide +kernel) rfl rfl rfl (by decide +kernel)
set_option maxRecDepth 65536 in
theorem w_c33 : (Jvm.Cond.code ({ cls := "java/lang/String", name := "charAt", desc := "(I)C" } : Jvm.MethodName) jdk_42_method_56_code (2 : Nat) (Option.some Jvm.ClassFile.FieldType.char)).before args0 about1 = true := code_word (m := ⟨7, 4⟩) (meth := k7m4) (c := k7c4) (by decide +kernel) rfl rfl rfl (by decide +kernel)
set_option maxRecDepth 65536 in
theorem w_c34 : (Jvm.Cond.code ({ cls := "java/lang/String", name := "isLatin1", desc := "()Z" } : Jvm.MethodName) jdk_42_method_154_code (1 : Nat) (Option.some Jvm.ClassFile.FieldType.boolean)).before args0 about1 = true := code_word (m := ⟨7, 9⟩) (meth := k7m9) (c := k7c9) (by decide +kernel) rfl rfl rfl (by decide +kernel)
set_option maxRecDepth 65536 in
theorem w_c35 : (Jvm.Cond.code ({ cls := "java/lang/StringLatin1", name := "charAt", desc := "([BI)C" } : Jvm.MethodName) jdk_43_method_2_code (2 : Nat) (Option.some Jvm.ClassFile.FieldType.char)).before args0 about1 = true := code_word (m := ⟨17, 1⟩) (meth := k17m1) (c := k17c1) (by decide +kernel) rfl rfl rfl (by decide +kernel)
set_option maxRecDepth 65536 in
theorem w_c36 : (Jvm.Cond.code ({ cls := "java/lang/String", name := "checkIndex", desc := "(II)V" } : Jvm.MethodName) jdk_42_method_155_code (2 : Nat) (Option.none : Option Jvm.ClassFile.FieldType)).before args0 about1 = true := code_word (m := ⟨7, 10⟩) (meth := k7m10) (c := k7c10) (by decide +kernel) rfl rfl rfl (by decide +kernel)
set_option maxRecDepth 65536 in
theorem w_c37 : (Jvm.Cond.code ({ cls := "jdk/internal/util/Preconditions", name := "checkIndex", desc := "(IILjava/util/function/BiFunction;)I" } : Jvm.MethodName) jdk_41_method_11_code (3 : Nat) (Option.some Jvm.ClassFile.FieldType.int)).before args0 about1 = true := code_word (m := ⟨18, 1⟩) (meth := k18m1) (c := k18c1) (by decide +kernel) rfl rfl rfl (by decide +kernel)
set_option maxRecDepth 65536 in
theorem w_c38 : (Jvm.Cond.code ({ cls := "com/example/yusenkabu/yusenkabu/cli/InputExceptionOptionPinLaw", name := "expectedAt", desc := "(ILjava/lang/String;Ljava/lang/String;)C" } : Jvm.MethodName) method_3_code (4 : Nat) (Option.some Jvm.ClassFile.FieldType.char)).before args0 about1 = true := code_word (m := ⟨1, 2⟩) (meth := k1m2) (c := k1c2) (by decide +kernel) rfl rfl rfl (by decide +kernel)
set_option maxRecDepth 65536 in
theorem w_c39 : (Jvm.Cond.code ({ cls := "java/lang/StringUTF16", name := "compress", desc := "([CII)[B" } : Jvm.MethodName) jdk_52_method_16_code (6 : Nat) (Option.some (Jvm.ClassFile.FieldType.array Jvm.ClassFile.FieldType.byte))).before args0 about1 = true := code_word (m := ⟨19, 2⟩) (meth := k19m2) (c := k19c2) (by decide +kernel) rfl rfl rfl (by decide +kernel)
set_option maxRecDepth 65536 in
theorem w_c40 : (Jvm.Cond.code ({ cls := "java/lang/StringUTF16", name := "compress", desc := "([CI[BII)I" } : Jvm.MethodName) jdk_52_method_21_code (7 : Nat) (Option.some Jvm.ClassFile.FieldType.int)).before args0 about1 = true := code_word (m := ⟨19, 3⟩) (meth := k19m3) (c := k19c3) (by decide +kernel) rfl rfl rfl (by decide +kernel)
set_option maxRecDepth 65536 in
theorem w_c41 : (Jvm.Cond.code ({ cls := "java/lang/StringUTF16", name := "coderFromArrayLen", desc := "([BI)B" } : Jvm.MethodName) jdk_52_method_15_code (2 : Nat) (Option.some Jvm.ClassFile.FieldType.byte)).before args0 about1 = true := code_word (m := ⟨19, 1⟩) (meth := k19m1) (c := k19c1) (by decide +kernel) rfl rfl rfl (by decide +kernel)
def codes1 : List Jvm.Cond := [Jvm.Cond.code x code maxLocals ret, Jvm.Cond.code ({ cls := "com/example/yusenkabu/yusenkabu/cli/InputExceptionOptionPinLaw", name := "mk", desc := "(CCI)Ljava/lang/String;" } : Jvm.MethodName) method_2_code (3 : Nat) (Option.some (Jvm.ClassFile.FieldType.object "java/lang/String")), Jvm.Cond.code ({ cls := "java/lang/String", name := "<init>", desc := "([C)V" } : Jvm.MethodName) jdk_42_method_3_code (2 : Nat) (Option.none : Option Jvm.ClassFile.FieldType), Jvm.Cond.code ({ cls := "java/lang/String", name := "<init>", desc := "([CIILjava/lang/Void;)V" } : Jvm.MethodName) jdk_42_method_149_code (6 : Nat) (Option.none : Option Jvm.ClassFile.FieldType), Jvm.Cond.code ({ cls := "java/lang/Object", name := "<init>", desc := "()V" } : Jvm.MethodName) object_method_1_code (1 : Nat) (Option.none : Option Jvm.ClassFile.FieldType), Jvm.Cond.code ({ cls := "com/example/yusenkabu/yusenkabu/cli/InputException", name := "option", desc := "(Ljava/lang/String;Ljava/lang/String;)Lcom/example/yusenkabu/yusenkabu/cli/InputException;" } : Jvm.MethodName) prog_38_method_6_code (2 : Nat) (Option.some (Jvm.ClassFile.FieldType.object "com/example/yusenkabu/yusenkabu/cli/InputException")), Jvm.Cond.code ({ cls := "java/lang/StringBuilder", name := "<init>", desc := "()V" } : Jvm.MethodName) jdk_67_method_1_code (1 : Nat) (Option.none : Option Jvm.ClassFile.FieldType), Jvm.Cond.code ({ cls := "java/lang/AbstractStringBuilder", name := "<init>", desc := "(I)V" } : Jvm.MethodName) jdk_68_method_2_code (2 : Nat) (Option.none : Option Jvm.ClassFile.FieldType), Jvm.Cond.code ({ cls := "java/lang/StringBuilder", name := "append", desc := "(Ljava/lang/String;)Ljava/lang/StringBuilder;" } : Jvm.MethodName) jdk_67_method_7_code (2 : Nat) (Option.some (Jvm.ClassFile.FieldType.object "java/lang/StringBuilder")), Jvm.Cond.code ({ cls := "java/lang/AbstractStringBuilder", name := "append", desc := "(Ljava/lang/String;)Ljava/lang/AbstractStringBuilder;" } : Jvm.MethodName) jdk_68_method_22_code (3 : Nat) (Option.some (Jvm.ClassFile.FieldType.object "java/lang/AbstractStringBuilder")), Jvm.Cond.code ({ cls := "java/lang/String", name := "length", desc := "()I" } : Jvm.MethodName) jdk_42_method_54_code (1 : Nat) (Option.some Jvm.ClassFile.FieldType.int), Jvm.Cond.code ({ cls := "java/lang/String", name := "coder", desc := "()B" } : Jvm.MethodName) jdk_42_method_152_code (1 : Nat) (Option.some Jvm.ClassFile.FieldType.byte), Jvm.Cond.code ({ cls := "java/lang/AbstractStringBuilder", name := "ensureCapacityInternal", desc := "(I)V" } : Jvm.MethodName) jdk_68_method_9_code (3 : Nat) (Option.none : Option Jvm.ClassFile.FieldType), Jvm.Cond.code ({ cls := "java/lang/AbstractStringBuilder", name := "putStringAt", desc := "(ILjava/lang/String;)V" } : Jvm.MethodName) jdk_68_method_73_code (3 : Nat) (Option.none : Option Jvm.ClassFile.FieldType), Jvm.Cond.code ({ cls := "java/lang/AbstractStringBuilder", name := "inflateIfNeededFor", desc := "(Ljava/lang/String;)V" } : Jvm.MethodName) jdk_68_method_71_code (2 : Nat) (Option.none : Option Jvm.ClassFile.FieldType), Jvm.Cond.code ({ cls := "java/lang/String", name := "getBytes", desc := "([BIB)V" } : Jvm.MethodName) jdk_42_method_147_code (4 : Nat) (Option.none : Option Jvm.ClassFile.FieldType), Jvm.Cond.code ({ cls := "java/lang/StringBuilder", name := "toString", desc := "()Ljava/lang/String;" } : Jvm.MethodName) jdk_67_method_42_code (1 : Nat) (Option.some (Jvm.ClassFile.FieldType.object "java/lang/String")), Jvm.Cond.code ({ cls := "java/lang/String", name := "<init>", desc := "(Ljava/lang/StringBuilder;)V" } : Jvm.MethodName) jdk_42_method_53_code (2 : Nat) (Option.none : Option Jvm.ClassFile.FieldType), Jvm.Cond.code ({ cls := "java/lang/String", name := "<init>", desc := "(Ljava/lang/AbstractStringBuilder;Ljava/lang/Void;)V" } : Jvm.MethodName) jdk_42_method_150_code (5 : Nat) (Option.none : Option Jvm.ClassFile.FieldType), Jvm.Cond.code ({ cls := "java/lang/AbstractStringBuilder", name := "getValue", desc := "()[B" } : Jvm.MethodName) jdk_68_method_64_code (1 : Nat) (Option.some (Jvm.ClassFile.FieldType.array Jvm.ClassFile.FieldType.byte)), Jvm.Cond.code ({ cls := "java/lang/StringBuilder", name := "length", desc := "()I" } : Jvm.MethodName) jdk_67_method_93_code (1 : Nat) (Option.some Jvm.ClassFile.FieldType.int), Jvm.Cond.code ({ cls := "java/lang/AbstractStringBuilder", name := "length", desc := "()I" } : Jvm.MethodName) jdk_68_method_6_code (1 : Nat) (Option.some Jvm.ClassFile.FieldType.int), Jvm.Cond.code ({ cls := "java/lang/AbstractStringBuilder", name := "isLatin1", desc := "()Z" } : Jvm.MethodName) jdk_68_method_68_code (1 : Nat) (Option.some Jvm.ClassFile.FieldType.boolean), Jvm.Cond.code ({ cls := "java/util/Arrays", name := "copyOfRange", desc := "([BII)[B" } : Jvm.MethodName) jdk_65_method_132_code (3 : Nat) (Option.some (Jvm.ClassFile.FieldType.array Jvm.ClassFile.FieldType.byte)), Jvm.Cond.code ({ cls := "java/util/Arrays", name := "copyOfRangeByte", desc := "([BII)[B" } : Jvm.MethodName) jdk_65_method_133_code (5 : Nat) (Option.some (Jvm.ClassFile.FieldType.array Jvm.ClassFile.FieldType.byte)), Jvm.Cond.code ({ cls := "java/util/Arrays", name := "checkLength", desc := "(II)V" } : Jvm.MethodName) jdk_65_method_131_code (2 : Nat) (Option.none : Option Jvm.ClassFile.FieldType), Jvm.Cond.code ({ cls := "java/lang/Math", name := "min", desc := "(II)I" } : Jvm.MethodName) jdk_29_method_69_code (2 : Nat) (Option.some Jvm.ClassFile.FieldType.int), Jvm.Cond.code ({ cls := "com/example/yusenkabu/yusenkabu/cli/InputException", name := "<init>", desc := "(Ljava/lang/String;Ljava/lang/Throwable;)V" } : Jvm.MethodName) prog_38_method_1_code (3 : Nat) (Option.none : Option Jvm.ClassFile.FieldType), Jvm.Cond.code ({ cls := "java/lang/Exception", name := "<init>", desc := "(Ljava/lang/String;Ljava/lang/Throwable;)V" } : Jvm.MethodName) jdk_59_method_3_code (3 : Nat) (Option.none : Option Jvm.ClassFile.FieldType), Jvm.Cond.code ({ cls := "java/lang/Throwable", name := "<init>", desc := "(Ljava/lang/String;Ljava/lang/Throwable;)V" } : Jvm.MethodName) jdk_78_method_3_code (3 : Nat) (Option.none : Option Jvm.ClassFile.FieldType), Jvm.Cond.code ({ cls := "java/lang/Throwable", name := "<init>", desc := "()V" } : Jvm.MethodName) jdk_78_method_1_code (1 : Nat) (Option.none : Option Jvm.ClassFile.FieldType), Jvm.Cond.code ({ cls := "java/lang/Throwable", name := "getMessage", desc := "()Ljava/lang/String;" } : Jvm.MethodName) jdk_78_method_6_code (1 : Nat) (Option.some (Jvm.ClassFile.FieldType.object "java/lang/String")), Jvm.Cond.code ({ cls := "com/example/yusenkabu/yusenkabu/cli/InputExceptionOptionPinLaw", name := "at", desc := "(Ljava/lang/String;IILjava/lang/String;Ljava/lang/String;)Z" } : Jvm.MethodName) method_4_code (5 : Nat) (Option.some Jvm.ClassFile.FieldType.boolean), Jvm.Cond.code ({ cls := "java/lang/String", name := "charAt", desc := "(I)C" } : Jvm.MethodName) jdk_42_method_56_code (2 : Nat) (Option.some Jvm.ClassFile.FieldType.char), Jvm.Cond.code ({ cls := "java/lang/String", name := "isLatin1", desc := "()Z" } : Jvm.MethodName) jdk_42_method_154_code (1 : Nat) (Option.some Jvm.ClassFile.FieldType.boolean), Jvm.Cond.code ({ cls := "java/lang/StringLatin1", name := "charAt", desc := "([BI)C" } : Jvm.MethodName) jdk_43_method_2_code (2 : Nat) (Option.some Jvm.ClassFile.FieldType.char), Jvm.Cond.code ({ cls := "java/lang/String", name := "checkIndex", desc := "(II)V" } : Jvm.MethodName) jdk_42_method_155_code (2 : Nat) (Option.none : Option Jvm.ClassFile.FieldType), Jvm.Cond.code ({ cls := "jdk/internal/util/Preconditions", name := "checkIndex", desc := "(IILjava/util/function/BiFunction;)I" } : Jvm.MethodName) jdk_41_method_11_code (3 : Nat) (Option.some Jvm.ClassFile.FieldType.int), Jvm.Cond.code ({ cls := "com/example/yusenkabu/yusenkabu/cli/InputExceptionOptionPinLaw", name := "expectedAt", desc := "(ILjava/lang/String;Ljava/lang/String;)C" } : Jvm.MethodName) method_3_code (4 : Nat) (Option.some Jvm.ClassFile.FieldType.char), Jvm.Cond.code ({ cls := "java/lang/StringUTF16", name := "compress", desc := "([CII)[B" } : Jvm.MethodName) jdk_52_method_16_code (6 : Nat) (Option.some (Jvm.ClassFile.FieldType.array Jvm.ClassFile.FieldType.byte)), Jvm.Cond.code ({ cls := "java/lang/StringUTF16", name := "compress", desc := "([CI[BII)I" } : Jvm.MethodName) jdk_52_method_21_code (7 : Nat) (Option.some Jvm.ClassFile.FieldType.int), Jvm.Cond.code ({ cls := "java/lang/StringUTF16", name := "coderFromArrayLen", desc := "([BI)B" } : Jvm.MethodName) jdk_52_method_15_code (2 : Nat) (Option.some Jvm.ClassFile.FieldType.byte)]
set_option maxRecDepth 65536 in
theorem codes_eq : words1.filter isCode = codes1 := rfl
theorem w_codes : ∀ c ∈ words1.filter isCode, c.before args0 about1 = true := by
  rw [codes_eq]
  intro c hc
  simp only [codes1, List.mem_cons, List.not_mem_nil, or_false] at hc
  rcases hc with rfl | rfl | rfl | rfl | rfl | rfl | rfl | rfl | rfl | rfl | rfl | rfl | rfl | rfl | rfl | rfl | rfl | rfl | rfl | rfl | rfl | rfl | rfl | rfl | rfl | rfl | rfl | rfl | rfl | rfl | rfl | rfl | rfl | rfl | rfl | rfl | rfl | rfl | rfl | rfl | rfl | rfl
  · exact w_c0
  · exact w_c1
  · exact w_c2
  · exact w_c3
  · exact w_c4
  · exact w_c5
  · exact w_c6
  · exact w_c7
  · exact w_c8
  · exact w_c9
  · exact w_c10
  · exact w_c11
  · exact w_c12
  · exact w_c13
  · exact w_c14
  · exact w_c15
  · exact w_c16
  · exact w_c17
  · exact w_c18
  · exact w_c19
  · exact w_c20
  · exact w_c21
  · exact w_c22
  · exact w_c23
  · exact w_c24
  · exact w_c25
  · exact w_c26
  · exact w_c27
  · exact w_c28
  · exact w_c29
  · exact w_c30
  · exact w_c31
  · exact w_c32
  · exact w_c33
  · exact w_c34
  · exact w_c35
  · exact w_c36
  · exact w_c37
  · exact w_c38
  · exact w_c39
  · exact w_c40
  · exact w_c41
set_option maxRecDepth 65536 in
theorem w_t1 : (words1.take 24).all (fun c => isCode c || c.before args0 about1) = true := by decide +kernel
set_option maxRecDepth 65536 in
theorem w_t2 : ((words1.drop 24).take 24).all (fun c => isCode c || c.before args0 about1) = true := by decide +kernel
set_option maxRecDepth 65536 in
theorem w_t3 : (((words1.drop 24).drop 24).take 24).all (fun c => isCode c || c.before args0 about1) = true := by decide +kernel
set_option maxRecDepth 65536 in
theorem w_t4 : ((((words1.drop 24).drop 24).drop 24).take 24).all (fun c => isCode c || c.before args0 about1) = true := by decide +kernel
set_option maxRecDepth 65536 in
theorem w_t5 : (((((words1.drop 24).drop 24).drop 24).drop 24).take 24).all (fun c => isCode c || c.before args0 about1) = true := by decide +kernel
set_option maxRecDepth 65536 in
theorem w_t6 : ((((((words1.drop 24).drop 24).drop 24).drop 24).drop 24).take 24).all (fun c => isCode c || c.before args0 about1) = true := by decide +kernel
set_option maxRecDepth 65536 in
theorem w_t7 : (((((((words1.drop 24).drop 24).drop 24).drop 24).drop 24).drop 24).take 24).all (fun c => isCode c || c.before args0 about1) = true := by decide +kernel
set_option maxRecDepth 65536 in
theorem w_t8 : ((((((((words1.drop 24).drop 24).drop 24).drop 24).drop 24).drop 24).drop 24).take 24).all (fun c => isCode c || c.before args0 about1) = true := by decide +kernel
set_option maxRecDepth 65536 in
theorem w_t9 : (((((((((words1.drop 24).drop 24).drop 24).drop 24).drop 24).drop 24).drop 24).drop 24).take 24).all (fun c => isCode c || c.before args0 about1) = true := by decide +kernel
set_option maxRecDepth 65536 in
theorem w_t10 : ((((((((((words1.drop 24).drop 24).drop 24).drop 24).drop 24).drop 24).drop 24).drop 24).drop 24).take 24).all (fun c => isCode c || c.before args0 about1) = true := by decide +kernel
set_option maxRecDepth 65536 in
theorem w_t11 : ((((((((((words1.drop 24).drop 24).drop 24).drop 24).drop 24).drop 24).drop 24).drop 24).drop 24).drop 24).all (fun c => isCode c || c.before args0 about1) = true := by decide +kernel
theorem w_tables : (allAtoms (Jvm.Cond.code x code maxLocals ret :: tables_1)).before args0 about1 = true := by
  rw [allAtoms_all]
  show words1.all (fun c => c.before args0 about1) = true
  refine all_split ?_ w_codes
  rw [← List.take_append_drop 24 words1, List.all_append, w_t1, ← List.take_append_drop 24 (words1.drop 24), List.all_append, w_t2, ← List.take_append_drop 24 ((words1.drop 24).drop 24), List.all_append, w_t3, ← List.take_append_drop 24 (((words1.drop 24).drop 24).drop 24), List.all_append, w_t4, ← List.take_append_drop 24 ((((words1.drop 24).drop 24).drop 24).drop 24), List.all_append, w_t5, ← List.take_append_drop 24 (((((words1.drop 24).drop 24).drop 24).drop 24).drop 24), List.all_append, w_t6, ← List.take_append_drop 24 ((((((words1.drop 24).drop 24).drop 24).drop 24).drop 24).drop 24), List.all_append, w_t7, ← List.take_append_drop 24 (((((((words1.drop 24).drop 24).drop 24).drop 24).drop 24).drop 24).drop 24), List.all_append, w_t8, ← List.take_append_drop 24 ((((((((words1.drop 24).drop 24).drop 24).drop 24).drop 24).drop 24).drop 24).drop 24), List.all_append, w_t9, ← List.take_append_drop 24 (((((((((words1.drop 24).drop 24).drop 24).drop 24).drop 24).drop 24).drop 24).drop 24).drop 24), List.all_append, w_t10, w_t11]
  rfl
set_option maxRecDepth 65536 in
theorem w_rest : rest_1_c.before args0 about1 = true := by decide +kernel
set_option maxRecDepth 65536 in
theorem w_case : (Jvm.Cond.and given_1 narrow_1).before args0 about1 = true := by decide +kernel
set_option maxRecDepth 65536 in
theorem w_consts : constsHeld consts_1 about1 := Jvm.Lit.constsHeldB_iff.mp (by decide +kernel)
theorem w_applies : (headSpec (Jvm.Cond.code x code maxLocals ret :: tables_1) room_1).applies x e0.platform about1 = true :=
  (Spec.applies_iff w_frames).mpr ⟨w_running, w_runnable, w_alone, w_named, w_hears, w_ripe, w_room, w_tables⟩
theorem atStart : AtStart classFile x code maxLocals ret World_1 tables_1 room_1 Calls_1 rest_1 Pre_1 launch0 p0 e0 about1 theMethod args0 below0 :=
  ⟨lists_1, trivial, launch0.admits_env _ _ _, launch0.least_env, fairChoices_fair.cas, fairChoices_fair.clock, w_frames, w_args, w_heap, w_applies, ⟨(by decide +kernel : framesKnown about1 = true), ⟨(by decide +kernel : tablesKnown about1 = true), ⟨w_consts, trivial⟩⟩⟩, w_rest, w_case⟩
end start1
theorem witness_1 : WitnessClaimed_1 := ⟨start1.p0, start1.e0, start1.about1, start1.theMethod, start1.args0, start1.below0, start1.atStart⟩
end Jvm.Pilot.@@N@@
