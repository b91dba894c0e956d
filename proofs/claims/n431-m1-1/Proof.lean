import JvmDerived
import JvmDerived.Pilot.@@N@@Statement
import JvmDerived.Pilot.@@N@@Code
set_option linter.unusedVariables false
set_option linter.unusedSimpArgs false
namespace Jvm.Pilot.@@N@@
open Jvm Jvm.ClassFile Sem Op Lib Jvm.Free Jvm.Stand Jvm.LawKit Jvm.RoadKit Bundle Jvm.Pilot.@@N@@.Jvm.D
section OwnGo
/-- from this frame the run ends, and leaves what Q says -/
def Go (p : Program) (e : Env) (below : List Frame) (s : State) (k n : Nat) (Q : Option Value → Heap → List Loc → Prop) (m : MethodId) (T : State) (pc : Nat) (L : Array Slot) (S : List Value) : Prop :=
  ∃ s₂ o, Steps p.tables e below (T.setTop (mkF m pc L S)) s₂ ∧ s₂.status = .running ∧ Ended s₂ below o ∧ ∃ v Ls, o = .returned v ∧ Q v s₂.heap Ls ∧ FrameEnd s o s₂ Ls k n
variable {p : Program} {l : Launch} {e : Env} {R : Room} {s : State} {m : MethodId} {args : Array Value} {below : List Frame} {meth : Method} {c : Code} {T T' : State} {locs : List Loc} {cells slots k n : Nat} {Z : State} {h : Heap} {Q : Option Value → Heap → List Loc → Prop} {pc pc' : Nat} {L L' : Array Slot} {S S' : List Value}
theorem Go.st (h : ∀ t, Steps p.tables e below (T'.setTop (mkF m pc' L' S')) t → Steps p.tables e below (T.setTop (mkF m pc L S)) t) (g : Go p e below s k n Q m T' pc' L' S') : Go p e below s k n Q m T pc L S := by
  obtain ⟨a, b, c, d⟩ := g; exact ⟨a, b, h _ c, d⟩
theorem Go.tr (h : Steps p.tables e below (T.setTop (mkF m pc L S)) (T'.setTop (mkF m pc' L' S'))) (g : Go p e below s k n Q m T' pc' L' S') : Go p e below s k n Q m T pc L S := Go.st (fun _ q => h.trans q) g
theorem Go.retV (X : Stand p l e R s m args below meth c T locs cells slots) (hx : p.tables.exec = Jvm.exec) (hlk : meth.locks = false) (hret : meth.sig.returnType = none) (hd : decode c.code pc = .ok (.return_, 1)) (hk : cells ≤ k) (hn : slots ≤ n) (hq : Q none T.heap locs) : Go p e below s k n Q m T pc L [] := by
  obtain ⟨fs, hr, hrun, hended, hW, hsame⟩ := X.leave (v := none) (fun _ => rfl) hlk
  exact ⟨_, _, X.returnOut hx hret hd hr, hrun, hended, _, _, rfl, hq, ⟨_, rfl⟩, hW, hsame.mono hk hn⟩
theorem Go.retN (X : Stand p l e R s m args below meth c T locs cells slots) (hx : p.tables.exec = Jvm.exec) (hlk : meth.locks = false) {t : FieldType} {z : Int32} {rest : List Value} (hret : meth.sig.returnType = some t) (ht : t = .boolean ∨ t = .byte ∨ t = .char ∨ t = .short) (hd : decode c.code pc = .ok (.ireturn, 1)) (hk : cells ≤ k) (hn : slots ≤ n) (hq : Q (some (.int (nar t z))) T.heap locs) : Go p e below s k n Q m T pc L (.int z :: rest) := by
  obtain ⟨fs, hr, hrun, hended, hW, hsame⟩ := X.leave (v := some (.int (nar t z))) (fun h => by rw [hret] at h; cases h) hlk
  exact ⟨_, _, Jvm.RoadKit.retN X hx hret ht hd hr, hrun, hended, _, _, rfl, hq, ⟨_, rfl⟩, hW, hsame.mono hk hn⟩
theorem Go.retO (X : Stand p l e R s m args below meth c T locs cells slots) (hx : p.tables.exec = Jvm.exec) (hlk : meth.locks = false) {t : FieldType} {w : Value} {i : Instr} {rest : List Value} (hret : meth.sig.returnType = some t) (hw : narrow t w = w) (hi : (i = .ireturn ∧ (t = .int ∨ t = .boolean ∨ t = .byte ∨ t = .char ∨ t = .short) ∧ ∃ z, w = .int z) ∨ (i = .lreturn ∧ t = .long ∧ ∃ z, w = .long z) ∨ (i = .dreturn ∧ t = .double ∧ ∃ z, w = .double z) ∨ (i = .freturn ∧ t = .float ∧ ∃ z, w = .float z) ∨ (i = .areturn ∧ t.isReference = true ∧ w.isRef = true)) (hd : decode c.code pc = .ok (i, 1)) (hk : cells ≤ k) (hn : slots ≤ n) (hq : Q (some w) T.heap locs) : Go p e below s k n Q m T pc L (w :: rest) := by
  obtain ⟨fs, hr, hrun, hended, hW, hsame⟩ := X.leave (v := some w) (fun h => by rw [hret] at h; cases h) hlk
  exact ⟨_, _, retOut X hx hret hw hi hd hr, hrun, hended, _, _, rfl, hq, ⟨_, rfl⟩, hW, hsame.mono hk hn⟩
theorem Stand.up (X : Stand p l e R s m args below meth c T locs cells slots) (hk : cells ≤ k) (hn : slots ≤ n) : Stand p l e R s m args below meth c T locs k n :=
  ⟨X.admits, X.cas, X.clock, X.frames, X.room, X.hears, X.method, X.code, X.here, X.tail, X.warmed, X.limits, X.bytes, X.same.mono hk hn⟩
theorem own_len (X : Stand p l e R s m args below meth c T locs cells slots) (hx : p.tables.exec = Jvm.exec) (hZ : Z.Warmed39 s.vm) (eT : T.heap = h) {a : Addr} {cl : Cell} {ty : FieldType} {z : Int32} (A : Arr Z h a cl ty) (S : cl.slots.size = z.toNatClampNeg) (q : ¬ z < 0) {g : JFrame} (hg : g.method = m) {rest : List Value} (hs : g.stack = .ref a :: rest) (hd : decode c.code g.pc = .ok (.arraylength, 1)) (t : State)
    (k : Steps p.tables e below (T.setTop { g with pc := g.pc + 1, stack := .int z :: rest }) t) : Steps p.tables e below (T.setTop g) t := by
  refine X.arraylength hx (by rw [eT]; exact A.1) (State.isArrayOf_alike hZ.alike A.2.1) (g := g) hg hs hd _ ?_
  rw [len_of S q]; exact k
theorem own_met {l : Launch} {y : MethodName} {bytes : ByteArray} {maxL : Nat} {ret : Option FieldType} {ws : List Jvm.Cond} {rm : Room} {A : Array Value} {Z : State} {h0 : Heap} {Q : Option Value → Heap → List Loc → Prop} {L0 : Array Slot} {K N : Nat} (hpl : plainFor y = true) (hef : ∀ m, entryFrame m A maxL = mkF m 0 L0 [])
    (body : ∀ (p : Program) (e : Env) (s : State) (m : MethodId) (below : List Frame) (meth : Method) (c : Code) (s₁ : State), Stand p l e rm s m A below meth c s₁ [] 0 0 → p.tables.exec = Jvm.exec → c.code = bytes → c.maxLocals = maxL → s.vm.findClass y.cls = some m.cls → meth.name = y.name → meth.sig.returnType = ret → meth.locks = false → Z.Warmed39 s.vm → s₁.heap = h0 → Go p e below s K N Q m s₁ 0 L0 []) :
    MetFree l y (head1 (Jvm.Cond.code y bytes maxL ret :: ws) rm) (fun a U => a = A ∧ Z.Warmed39 U.vm ∧ U.heap = h0) (fun _ _ _ _ _ => True) (fun _ U o U' => ∃ v L, o = .returned v ∧ Q v U'.heap L ∧ FrameEnd U o U' L K N) := by
  refine MetFree.of_bodySF hpl hisR ?_
  intro p e s m args below meth c s₁ Bd hml0 hP hK
  obtain ⟨rfl, hZ, hh⟩ := hP
  obtain ⟨s₂, o, h1, h2⟩ := body p e s m below meth c s₁ (Stand.of_body Bd) Bd.exec Bd.bytes hml0 (findClass_of_methodNamed Bd.named) (name_of_methodNamed Bd.named Bd.method).1 Bd.returns Bd.notSynchronized hZ (by rw [← hh, Bd.state]; rfl)
  exact ⟨s₂, o, castTop (hef m) h1, h2⟩
end OwnGo
section OwnArr
theorem own_tn {i : Nat} (h : i < 2147483648) : i.toInt32.toNatClampNeg = i := by
  simp only [Int32.toNatClampNeg, len_toInt (n := i) h]; rfl
theorem own_inb {c : Cell} {z : Int32} {i N : Nat} (S : c.slots.size = z.toNatClampNeg) (hz : z.toNatClampNeg = N) (hi : i < N) (hN : N < 2147483648) : ¬ (i.toInt32 < 0 ∨ c.slots.size ≤ i.toInt32.toNatClampNeg) := by
  rw [S, hz]; exact idx_in hi hN
theorem own_getI (M : List Int32) (i : Nat) : (M.map Value.int).getD i (.int 0) = .int (M.getD i 0) := by
  simp only [List.getD_eq_getElem?_getD, List.getElem?_map]; cases M[i]? <;> rfl
theorem own_getD (M : List UInt64) (i : Nat) : (M.map Value.double).getD i (.double 0) = .double (M.getD i 0) := by
  simp only [List.getD_eq_getElem?_getD, List.getElem?_map]; cases M[i]? <;> rfl
theorem own_atI (M : List Int32) {i : Nat} (h : i < 2147483648) : (M.map Value.int).getD i.toInt32.toNatClampNeg (.int 0) = .int (M.getD i 0) := by rw [own_tn h, own_getI]
theorem own_atD (M : List UInt64) {i : Nat} (h : i < 2147483648) : (M.map Value.double).getD i.toInt32.toNatClampNeg (.double 0) = .double (M.getD i 0) := by rw [own_tn h, own_getD]
theorem own_setI (M : List Int32) (i : Nat) (v : Int32) : (M.map Value.int).set i (.int v) = (M.set i v).map Value.int := by rw [List.map_set]
theorem own_setD (M : List UInt64) (i : Nat) (v : UInt64) : (M.map Value.double).set i (.double v) = (M.set i v).map Value.double := by rw [List.map_set]
theorem own_next {n : Nat} (h : n < 2147483647) : n.toInt32 + 1 = (n + 1).toInt32 := by
  apply Int32.toInt_inj.mp
  have h1 := c_iadd n.toInt32 1
  rw [len_toInt (n := n) (by omega)] at h1
  rw [len_toInt (n := n + 1) (by omega)]
  have h2 := rng32 (n.toInt32 + 1)
  have e1 : (1 : Int32).toInt = 1 := rfl
  omega
theorem own_inj {m n : Nat} (hm : m < 2147483648) (hn : n < 2147483648) : m.toInt32 = n.toInt32 ↔ m = n := by
  rw [← Int32.toInt_inj, len_toInt (n := m) hm, len_toInt (n := n) hn]; omega
theorem own_ltI {m n : Nat} (hm : m < 2147483648) (hn : n < 2147483648) : m.toInt32 < n.toInt32 ↔ m < n := by
  rw [Int32.lt_iff_toInt_lt, len_toInt (n := m) hm, len_toInt (n := n) hn]; omega
end OwnArr

def IA (Z : State) (h : Heap) (b : Addr) : Prop := ∃ k vs, Arv Z h b k .int (4 : Int32) vs (.int (0 : Int32)) ∧ List.length vs = 4
theorem own_elt {Z : State} {h : Heap} {a : Addr} {k : ClassId} {vs : List Value} {dv : Value} {z : Int32} {i : Nat} (F : Arv Z h a k .int z vs dv) (hi : i < z.toNatClampNeg) : ∃ x, vs.getD i dv = .int x := by
  obtain ⟨c, A, -, q2, -, -, q5⟩ := F
  exact fit_I (q5 i (by rw [q2]; exact hi)) (by simp)
theorem own_fromI {n : Nat} (h : n < 2147483648) : n.toInt32.toInt = n := len_toInt (n := n) h
theorem own_mid {lo hi : Nat} (h1 : lo < hi) (h2 : hi ≤ 4) : ∃ m : Nat, lo ≤ m ∧ m < hi ∧ (((lo.toInt32) + ((hi.toInt32) - (1 : Int32))).toUInt32 >>> ((1 : Int32) &&& 31).toUInt32).toInt32 = m.toInt32 := by
  have e1 := own_fromI (n := lo) (by omega)
  have e2 := own_fromI (n := hi) (by omega)
  have h3 := c_isub hi.toInt32 1
  have h4 := c_iadd lo.toInt32 (hi.toInt32 - 1)
  have h5 := rng32 (hi.toInt32 - 1)
  have h6 := rng32 (lo.toInt32 + (hi.toInt32 - 1))
  have e3 : (1 : Int32).toInt = 1 := rfl
  have h7 := c_iushr (lo.toInt32 + (hi.toInt32 - 1)) 1 1 (by decide) (by decide)
  refine ⟨(lo + (hi - 1)) / 2, by omega, by omega, ?_⟩
  apply Int32.toInt_inj.mp
  rw [h7, own_fromI (n := (lo + (hi - 1)) / 2) (by omega)]
  omega
theorem own_gt {lo hi : Nat} (h1 : lo ≤ 4) (h2 : hi ≤ 4) : ((hi.toInt32) - (1 : Int32)) < (lo.toInt32) ↔ hi ≤ lo := by
  have e1 := own_fromI (n := lo) (by omega)
  have e2 := own_fromI (n := hi) (by omega)
  have h3 := c_isub hi.toInt32 1
  have h5 := rng32 (hi.toInt32 - 1)
  have e3 : (1 : Int32).toInt = 1 := rfl
  rw [Int32.lt_iff_toInt_lt]; omega
theorem own_nn {n : Nat} (h : n < 2147483648) : ¬ n.toInt32 < 0 := by
  rw [Int32.lt_iff_toInt_lt, own_fromI h]; have e : (0 : Int32).toInt = 0 := rfl; omega
theorem own_neg {n : Nat} (h : n < 100) : -((n.toInt32) + (1 : Int32)) < 0 := by
  rw [own_next (by omega), Int32.lt_iff_toInt_lt]
  have h1 := c_ineg (n + 1).toInt32
  have h2 := rng32 (-(n + 1).toInt32)
  rw [own_fromI (by omega)] at h1
  have e : (0 : Int32).toInt = 0 := rfl
  omega
theorem own_nega {n : Nat} : (-(-((n.toInt32) + (1 : Int32)))) - (1 : Int32) = n.toInt32 := by
  rw [Int32.neg_neg, Int32.add_sub_cancel]
theorem own_sub {m n : Nat} (h : n ≤ m) (hm : m < 2147483648) : (m.toInt32) - (n.toInt32) = (m - n).toInt32 := by
  apply Int32.toInt_inj.mp
  have h1 := c_isub m.toInt32 n.toInt32
  have h2 := rng32 (m.toInt32 - n.toInt32)
  rw [own_fromI hm, own_fromI (by omega)] at h1
  rw [own_fromI (n := m - n) (by omega)]
  omega
theorem own_pos {n : Nat} (h : 0 < n) (h2 : n < 100) : ¬ (n.toInt32 = (0 : Int32)) := fun e => by
  have := congrArg Int32.toInt e; rw [own_fromI (by omega)] at this; have e0 : (0 : Int32).toInt = 0 := rfl; omega
def IS (Z : State) (h : Heap) (a b : Addr) (n : Nat) : Prop := Exa Z h a "org/concordat/analysis/IntSet" ∧ Fld Z h a "org/concordat/analysis/IntSet" "items" "[I" (.ref b) ∧ Fld Z h a "org/concordat/analysis/IntSet" "size" "I" (.int n.toInt32) ∧ Fld Z h a "org/concordat/analysis/IntSet" "bits" "Ljava/util/BitSet;" .null ∧ IA Z h b
theorem d1_0 : decode prog_3_method_1_code 0 = .ok (.aload_n 0, 1) := by decide +kernel
theorem d1_1 : decode prog_3_method_1_code 1 = .ok (.invokespecial 1, 3) := by decide +kernel
theorem d1_4 : decode prog_3_method_1_code 4 = .ok (.aload_n 0, 1) := by decide +kernel
theorem d1_5 : decode prog_3_method_1_code 5 = .ok (.iconst 4, 1) := by decide +kernel
theorem d1_6 : decode prog_3_method_1_code 6 = .ok (.newarray .int, 2) := by decide +kernel
theorem d1_8 : decode prog_3_method_1_code 8 = .ok (.putfield 7, 3) := by decide +kernel
theorem d1_11 : decode prog_3_method_1_code 11 = .ok (.return_, 1) := by decide +kernel
theorem pn_0 : plainName "org/concordat/analysis/IntSet" = true := by first | (simp [plainName, overriddenIn]; done) | decide +kernel
def Q1 (Z : State) (a : Addr) (h0 : Heap) (n0 : Nat) (v : Option Value) (h : Heap) (L : List Loc) : Prop := ∃ b : Addr, v = none ∧ Fr n0 L ∧ n0 ≤ h.size ∧ n0 ≤ b ∧ a ≠ b ∧ IS Z h a b 0
def room1 : Room := { frames := 1, cells := 1, slots := 4, locals := 12 }
set_option maxRecDepth 65536 in
set_option maxHeartbeats 40000000 in
theorem rm1 (l : Launch) (Z : State) (a0 : Array Value) (hw : ∀ d ∈ tables_1, d.before a0 Z = true) (ws : List Jvm.Cond) (a : Addr) (h0 : Heap) (n0 : Nat) (Z0 : n0 ≤ h0.size) (E_a : Exa Z h0 a "org/concordat/analysis/IntSet") (g_a : n0 ≤ a) (F_items : Fld Z h0 a "org/concordat/analysis/IntSet" "items" "[I" .null) (F_size : Fld Z h0 a "org/concordat/analysis/IntSet" "size" "I" (.int (0 : Int32))) (F_bits : Fld Z h0 a "org/concordat/analysis/IntSet" "bits" "Ljava/util/BitSet;" .null) :
    MetFree l (⟨"org/concordat/analysis/IntSet", "<init>", "()V"⟩ : MethodName) (head1 (Jvm.Cond.code (⟨"org/concordat/analysis/IntSet", "<init>", "()V"⟩ : MethodName) prog_3_method_1_code 1 none :: ws) room1) (fun aa_ U_ => aa_ = #[(.ref a)] ∧ Z.Warmed39 U_.vm ∧ U_.heap = h0) (fun _ _ _ _ _ => True) (fun _ U_ o_ W_ => ∃ v_ L_, o_ = .returned v_ ∧ (Q1 Z a h0 n0) v_ W_.heap L_ ∧ FrameEnd U_ o_ W_ L_ room1.cells room1.slots) := by
  refine own_met (Q := (Q1 Z a h0 n0)) (L0 := #[.val (.ref a)]) (plainFor_of_name pn_0) (fun m => by first | (simp [entryFrame, mkF, argsToLocals, Value.category]; done) | rfl) ?_
  intro p e s m below meth c T0 X0 hx hby hml hown hnm hret hlk hZ e0
  have N0 := Fr.nil n0
  refine Go.st (T' := T0) (pc' := 1) (L' := #[.val (.ref a)]) (S' := [(.ref a)]) (fun t k => XS.aloadN X0.here hx rfl (hb hby d1_0) rfl rfl  k) ?_
  obtain ⟨T1, X1, e1, st1⟩ := initO X0 hx hZ hown (hw _ (List.mem_of_getElem? (i := 7) rfl)) (hw _ (List.mem_of_getElem? (i := 8) rfl)) (hw _ (List.mem_of_getElem? (i := 9) rfl)) e0 (g := (mkF m 1 #[.val (.ref a)] [(.ref a)])) rfl (by rw [hml]; rfl) rfl (hb hby d1_1) (by decide) (W := 0) (by show 2 * 0 + _ ≤ _; exact Nat.le_of_eq rfl) (by decide)
  refine Go.st (T' := T1) (pc' := 4) (L' := #[.val (.ref a)]) (S' := []) st1 ?_
  refine Go.st (T' := T1) (pc' := 5) (L' := #[.val (.ref a)]) (S' := [(.ref a)]) (fun t k => XS.aloadN X1.here hx rfl (hb hby d1_4) rfl rfl  k) ?_
  refine Go.st (T' := T1) (pc' := 6) (L' := #[.val (.ref a)]) (S' := [(.int (4 : Int32)), (.ref a)]) (fun t k => XS.iconst X1.here hx rfl (hb hby d1_5) k) ?_
  obtain ⟨T2, h2, k2, X2, e2, E2, A2, st2⟩ := newP X1 hx hZ (hw _ (List.mem_of_getElem? (i := 10) rfl)) e1 (g := (mkF m 6 #[.val (.ref a)] [(.int (4 : Int32)), (.ref a)])) rfl (hb hby d1_6) rfl (by decide) (cap := 4) (by decide) (by decide) (by decide) (by decide)
  obtain ⟨b2, g2⟩ : ∃ z, z = h0.size := ⟨_, rfl⟩
  rw [← g2] at A2 st2
  have ne_a_b2 : a ≠ b2 := Nat.ne_of_lt (Nat.lt_of_lt_of_le E_a.lt (Nat.le_of_eq g2.symm))
  have g_b2 : n0 ≤ b2 := Nat.le_trans Z0 (Nat.le_of_eq g2.symm)
  replace Z0 := Nat.le_trans Z0 E2.1
  replace E_a := E_a.ext E2
  replace F_items := F_items.ext E2
  replace F_size := F_size.ext E2
  replace F_bits := F_bits.ext E2
  have V_b2 : Arv Z h2 b2 k2 .int (4 : Int32) [(.int (0 : Int32)), (.int (0 : Int32)), (.int (0 : Int32)), (.int (0 : Int32))] (.int (0 : Int32)) := (Arv.new A2 (by decide)).pad (pad_rep [] (.int (0 : Int32)) 4)
  refine Go.st (T' := T2) (pc' := 8) (L' := #[.val (.ref a)]) (S' := [(.ref b2), (.ref a)]) st2 ?_
  obtain ⟨T3, h3, X3, e3, W3, st3⟩ := putF X2 hx hZ hown (host := "") (Or.inl (hw _ (List.mem_of_getElem? (i := 11) rfl))) Via.refl e2 F_items E_a (Or.inl (hw _ (List.mem_of_getElem? (i := 12) rfl))) (hw _ (List.mem_of_getElem? (i := 2) rfl)) (ty := (.array .int)) (by decide) rfl rfl (g := (mkF m 8 #[.val (.ref a)] [(.ref b2), (.ref a)])) rfl rfl (hb hby d1_8)
  replace Z0 := Nat.le_trans Z0 (Keep.of_wr W3).1
  replace E_a := E_a.wr W3
  replace F_size := F_size.other W3 (Or.inr (slot_ne (Or.inl (hw _ (List.mem_of_getElem? (i := 19) rfl))) (Or.inl (hw _ (List.mem_of_getElem? (i := 12) rfl))) (by decide) (t := .int) (t' := (.array .int)) (by decide) (by decide)))
  replace F_bits := F_bits.other W3 (Or.inr (slot_ne (Or.inl (hw _ (List.mem_of_getElem? (i := 31) rfl))) (Or.inl (hw _ (List.mem_of_getElem? (i := 12) rfl))) (by decide) (t := (.object "java/util/BitSet")) (t' := (.array .int)) (by decide) (by decide)))
  replace V_b2 := V_b2.other W3 (Ne.symm ne_a_b2)
  replace F_items := F_items.same W3
  have N3 := Fr.snoc X3 N0 g_a
  refine Go.st (T' := T3) (pc' := 11) (L' := #[.val (.ref a)]) (S' := []) st3 ?_
  exact Go.retV X3 hx hlk hret (hb hby d1_11) (by decide) (by decide) (by rw [e3]; exact ⟨b2, rfl, N3, Z0, g_b2, ne_a_b2, E_a, F_items, F_size, F_bits, _, _, V_b2, rfl⟩)
theorem d3_0 : decode prog_3_method_4_code 0 = .ok (.aload_n 0, 1) := by decide +kernel
theorem d3_1 : decode prog_3_method_4_code 1 = .ok (.getfield 18, 3) := by decide +kernel
theorem d3_4 : decode prog_3_method_4_code 4 = .ok (.ifCond .ne 7, 3) := by decide +kernel
theorem d3_7 : decode prog_3_method_4_code 7 = .ok (.iconst 1, 1) := by decide +kernel
theorem d3_8 : decode prog_3_method_4_code 8 = .ok (.goto 4, 3) := by decide +kernel
theorem d3_11 : decode prog_3_method_4_code 11 = .ok (.iconst 0, 1) := by decide +kernel
theorem d3_12 : decode prog_3_method_4_code 12 = .ok (.ireturn, 1) := by decide +kernel
def Q3 (Z : State) (q : Int32) (h0 : Heap) (n0 : Nat) (v : Option Value) (h : Heap) (L : List Loc) : Prop := v = some (.int (if q = (0 : Int32) then (1 : Int32) else (0 : Int32))) ∧ Fr n0 L ∧ h = h0
def room3 : Room := { frames := 0, cells := 0, slots := 0, locals := 0 }
set_option maxRecDepth 65536 in
set_option maxHeartbeats 40000000 in
theorem rm3 (l : Launch) (Z : State) (a0 : Array Value) (hw : ∀ d ∈ tables_1, d.before a0 Z = true) (ws : List Jvm.Cond) (a : Addr) (q : Int32) (h0 : Heap) (n0 : Nat) (Z0 : n0 ≤ h0.size) (F1 : Fld Z h0 a "org/concordat/analysis/IntSet" "size" "I" (.int q)) :
    MetFree l (⟨"org/concordat/analysis/IntSet", "isEmpty", "()Z"⟩ : MethodName) (head1 (Jvm.Cond.code (⟨"org/concordat/analysis/IntSet", "isEmpty", "()Z"⟩ : MethodName) prog_3_method_4_code 1 (some .boolean) :: ws) room3) (fun aa_ U_ => aa_ = #[(.ref a)] ∧ Z.Warmed39 U_.vm ∧ U_.heap = h0) (fun _ _ _ _ _ => True) (fun _ U_ o_ W_ => ∃ v_ L_, o_ = .returned v_ ∧ (Q3 Z q h0 n0) v_ W_.heap L_ ∧ FrameEnd U_ o_ W_ L_ room3.cells room3.slots) := by
  refine own_met (Q := (Q3 Z q h0 n0)) (L0 := #[.val (.ref a)]) (plainFor_of_name pn_0) (fun m => by first | (simp [entryFrame, mkF, argsToLocals, Value.category]; done) | rfl) ?_
  intro p e s m below meth c T0 X0 hx hby hml hown hnm hret hlk hZ e0
  have N0 := Fr.nil n0
  refine Go.st (T' := T0) (pc' := 1) (L' := #[.val (.ref a)]) (S' := [(.ref a)]) (fun t k => XS.aloadN X0.here hx rfl (hb hby d3_0) rfl rfl  k) ?_
  obtain ⟨T1, X1, e1, st1⟩ := getF X0 hx hZ hown (host := "") (Or.inl (hw _ (List.mem_of_getElem? (i := 18) rfl))) Via.refl e0 F1 (g := (mkF m 1 #[.val (.ref a)] [(.ref a)])) rfl rfl (hb hby d3_1)
  refine Go.st (T' := T1) (pc' := 4) (L' := #[.val (.ref a)]) (S' := [(.int q)]) st1 ?_
  by_cases hc4_2 : q = (0 : Int32)
  · refine Go.st (T' := T1) (pc' := 7) (L' := #[.val (.ref a)]) (S' := []) (fun t k => XS.ifNo X1.here hx rfl (hb hby d3_4) rfl ((if0 _ _).trans (teq hc4_2).2) k) ?_
    refine Go.st (T' := T1) (pc' := 8) (L' := #[.val (.ref a)]) (S' := [(.int (1 : Int32))]) (fun t k => XS.iconst X1.here hx rfl (hb hby d3_7) k) ?_
    refine Go.st (T' := T1) (pc' := 12) (L' := #[.val (.ref a)]) (S' := [(.int (1 : Int32))]) (fun t k => XS.goto X1.here hx rfl (pc0 := 8) (pc' := 12) rfl (hb hby d3_8) (by decide) (by decide) k) ?_
    exact Go.retN X1 hx hlk hret (by simp) (hb hby d3_12) (by decide) (by decide) (by rw [e1]; exact ⟨by rw [if_pos hc4_2]; rfl, N0, rfl⟩)
  · refine Go.st (T' := T1) (pc' := 11) (L' := #[.val (.ref a)]) (S' := []) (fun t k => XS.ifYes X1.here hx rfl (pc0 := 4) (pc' := 11) rfl (hb hby d3_4) rfl ((if0 _ _).trans (feq hc4_2).2) (by decide) (by decide) k) ?_
    refine Go.st (T' := T1) (pc' := 12) (L' := #[.val (.ref a)]) (S' := [(.int (0 : Int32))]) (fun t k => XS.iconst X1.here hx rfl (hb hby d3_11) k) ?_
    exact Go.retN X1 hx hlk hret (by simp) (hb hby d3_12) (by decide) (by decide) (by rw [e1]; exact ⟨by rw [if_neg hc4_2]; rfl, N0, rfl⟩)
theorem d4_0 : decode prog_3_method_3_code 0 = .ok (.aload_n 0, 1) := by decide +kernel
theorem d4_1 : decode prog_3_method_3_code 1 = .ok (.getfield 18, 3) := by decide +kernel
theorem d4_4 : decode prog_3_method_3_code 4 = .ok (.ireturn, 1) := by decide +kernel
def Q4 (Z : State) (a1 : Addr) (x1 : Int32) (h0 : Heap) (n0 : Nat) (v : Option Value) (h : Heap) (L : List Loc) : Prop := v = some (.int x1) ∧ Fr n0 L ∧ h = h0
def room4 : Room := { frames := 0, cells := 0, slots := 0, locals := 0 }
set_option maxRecDepth 65536 in
set_option maxHeartbeats 40000000 in
theorem rm4 (l : Launch) (Z : State) (a0 : Array Value) (hw : ∀ d ∈ tables_1, d.before a0 Z = true) (ws : List Jvm.Cond) (a1 : Addr) (x1 : Int32) (h0 : Heap) (n0 : Nat) (Z0 : n0 ≤ h0.size) (F1 : Fld Z h0 a1 "org/concordat/analysis/IntSet" "size" "I" (.int x1)) :
    MetFree l (⟨"org/concordat/analysis/IntSet", "size", "()I"⟩ : MethodName) (head1 (Jvm.Cond.code (⟨"org/concordat/analysis/IntSet", "size", "()I"⟩ : MethodName) prog_3_method_3_code 1 (some .int) :: ws) room4) (fun aa_ U_ => aa_ = #[(.ref a1)] ∧ Z.Warmed39 U_.vm ∧ U_.heap = h0) (fun _ _ _ _ _ => True) (fun _ U_ o_ W_ => ∃ v_ L_, o_ = .returned v_ ∧ (Q4 Z a1 x1 h0 n0) v_ W_.heap L_ ∧ FrameEnd U_ o_ W_ L_ room4.cells room4.slots) := by
  refine own_met (Q := (Q4 Z a1 x1 h0 n0)) (L0 := #[.val (.ref a1)]) (plainFor_of_name pn_0) (fun m => by first | (simp [entryFrame, mkF, argsToLocals, Value.category]; done) | rfl) ?_
  intro p e s m below meth c T0 X0 hx hby hml hown hnm hret hlk hZ e0
  have N0 := Fr.nil n0
  refine Go.st (T' := T0) (pc' := 1) (L' := #[.val (.ref a1)]) (S' := [(.ref a1)]) (fun t k => XS.aloadN X0.here hx rfl (hb hby d4_0) rfl rfl  k) ?_
  obtain ⟨T1, X1, e1, st1⟩ := getF X0 hx hZ hown (host := "") (Or.inl (hw _ (List.mem_of_getElem? (i := 18) rfl))) Via.refl e0 F1 (g := (mkF m 1 #[.val (.ref a1)] [(.ref a1)])) rfl rfl (hb hby d4_1)
  refine Go.st (T' := T1) (pc' := 4) (L' := #[.val (.ref a1)]) (S' := [(.int x1)]) st1 ?_
  exact Go.retO X1 hx hlk hret rfl (by simp [FieldType.isReference, Value.isRef]) (hb hby d4_4) (by decide) (by decide) (by rw [e1]; exact ⟨rfl, N0, rfl⟩)
theorem d7_0 : decode jdk_65_method_30_code 0 = .ok (.iload_n 1, 1) := by decide +kernel
theorem d7_1 : decode jdk_65_method_30_code 1 = .ok (.iload_n 2, 1) := by decide +kernel
theorem d7_2 : decode jdk_65_method_30_code 2 = .ok (.if_icmp .le 44, 3) := by decide +kernel
theorem d7_46 : decode jdk_65_method_30_code 46 = .ok (.iload_n 1, 1) := by decide +kernel
theorem d7_47 : decode jdk_65_method_30_code 47 = .ok (.ifCond .ge 12, 3) := by decide +kernel
theorem d7_59 : decode jdk_65_method_30_code 59 = .ok (.iload_n 2, 1) := by decide +kernel
theorem d7_60 : decode jdk_65_method_30_code 60 = .ok (.iload_n 0, 1) := by decide +kernel
theorem d7_61 : decode jdk_65_method_30_code 61 = .ok (.if_icmp .le 12, 3) := by decide +kernel
theorem d7_73 : decode jdk_65_method_30_code 73 = .ok (.return_, 1) := by decide +kernel
theorem pn_1 : plainName "java/util/Arrays" = true := by first | (simp [plainName, overriddenIn]; done) | decide +kernel
def Q7 (Z : State)  (h0 : Heap) (n0 : Nat) (v : Option Value) (h : Heap) (L : List Loc) : Prop := v = none ∧ Fr n0 L ∧ h = h0
def room7 : Room := { frames := 0, cells := 0, slots := 0, locals := 0 }
set_option maxRecDepth 65536 in
set_option maxHeartbeats 40000000 in
theorem rm7 (l : Launch) (Z : State) (a0 : Array Value) (hw : ∀ d ∈ tables_1, d.before a0 Z = true) (ws : List Jvm.Cond) (n : Nat) (h0 : Heap) (n0 : Nat) (Z0 : n0 ≤ h0.size) (hn : n ≤ 3) :
    MetFree l (⟨"java/util/Arrays", "rangeCheck", "(III)V"⟩ : MethodName) (head1 (Jvm.Cond.code (⟨"java/util/Arrays", "rangeCheck", "(III)V"⟩ : MethodName) jdk_65_method_30_code 3 none :: ws) room7) (fun aa_ U_ => aa_ = #[(.int (4 : Int32)), (.int (0 : Int32)), (.int (n.toInt32))] ∧ Z.Warmed39 U_.vm ∧ U_.heap = h0) (fun _ _ _ _ _ => True) (fun _ U_ o_ W_ => ∃ v_ L_, o_ = .returned v_ ∧ (Q7 Z  h0 n0) v_ W_.heap L_ ∧ FrameEnd U_ o_ W_ L_ room7.cells room7.slots) := by
  refine own_met (Q := (Q7 Z  h0 n0)) (L0 := #[.val (.int (4 : Int32)), .val (.int (0 : Int32)), .val (.int (n.toInt32))]) (plainFor_of_name pn_1) (fun m => by first | (simp [entryFrame, mkF, argsToLocals, Value.category]; done) | rfl) ?_
  intro p e s m below meth c T0 X0 hx hby hml hown hnm hret hlk hZ e0
  have N0 := Fr.nil n0
  refine Go.st (T' := T0) (pc' := 1) (L' := #[.val (.int (4 : Int32)), .val (.int (0 : Int32)), .val (.int (n.toInt32))]) (S' := [(.int (0 : Int32))]) (fun t k => XS.iloadN X0.here hx rfl (hb hby d7_0) rfl  k) ?_
  refine Go.st (T' := T0) (pc' := 2) (L' := #[.val (.int (4 : Int32)), .val (.int (0 : Int32)), .val (.int (n.toInt32))]) (S' := [(.int (n.toInt32)), (.int (0 : Int32))]) (fun t k => XS.iloadN X0.here hx rfl (hb hby d7_1) rfl  k) ?_
  refine Go.st (T' := T0) (pc' := 46) (L' := #[.val (.int (4 : Int32)), .val (.int (0 : Int32)), .val (.int (n.toInt32))]) (S' := []) (fun t k => XS.icmpYes X0.here hx rfl (pc0 := 2) (pc' := 46) rfl (hb hby d7_2) rfl (flt (own_nn (by omega) : ¬ ((n.toInt32) < (0 : Int32)))).2.2.2 (by decide) (by decide) k) ?_
  refine Go.st (T' := T0) (pc' := 47) (L' := #[.val (.int (4 : Int32)), .val (.int (0 : Int32)), .val (.int (n.toInt32))]) (S' := [(.int (0 : Int32))]) (fun t k => XS.iloadN X0.here hx rfl (hb hby d7_46) rfl  k) ?_
  refine Go.st (T' := T0) (pc' := 59) (L' := #[.val (.int (4 : Int32)), .val (.int (0 : Int32)), .val (.int (n.toInt32))]) (S' := []) (fun t k => XS.ifYes X0.here hx rfl (pc0 := 47) (pc' := 59) rfl (hb hby d7_47) rfl ((if0 _ _).trans (flt (by decide : ¬ ((0 : Int32) < (0 : Int32)))).2.1) (by decide) (by decide) k) ?_
  refine Go.st (T' := T0) (pc' := 60) (L' := #[.val (.int (4 : Int32)), .val (.int (0 : Int32)), .val (.int (n.toInt32))]) (S' := [(.int (n.toInt32))]) (fun t k => XS.iloadN X0.here hx rfl (hb hby d7_59) rfl  k) ?_
  refine Go.st (T' := T0) (pc' := 61) (L' := #[.val (.int (4 : Int32)), .val (.int (0 : Int32)), .val (.int (n.toInt32))]) (S' := [(.int (4 : Int32)), (.int (n.toInt32))]) (fun t k => XS.iloadN X0.here hx rfl (hb hby d7_60) rfl  k) ?_
  refine Go.st (T' := T0) (pc' := 73) (L' := #[.val (.int (4 : Int32)), .val (.int (0 : Int32)), .val (.int (n.toInt32))]) (S' := []) (fun t k => XS.icmpYes X0.here hx rfl (pc0 := 61) (pc' := 73) rfl (hb hby d7_61) rfl (flt (fun z => absurd ((own_ltI (m := 4) (by decide) (by omega)).mp z) (by omega) : ¬ ((4 : Int32) < (n.toInt32)))).2.2.2 (by decide) (by decide) k) ?_
  exact Go.retV X0 hx hlk hret (hb hby d7_73) (by decide) (by decide) (by rw [e0]; exact ⟨rfl, N0, rfl⟩)
def Q8 (Z : State) (n : Nat) (h0 : Heap) (n0 : Nat) (v : Option Value) (h : Heap) (L : List Loc) : Prop := ∃ r : Int32, v = some (.int r) ∧ Fr n0 L ∧ h = h0 ∧ ((∃ i : Nat, i < n ∧ r = i.toInt32) ∨ (∃ i : Nat, i ≤ n ∧ r = -((i.toInt32) + (1 : Int32))))
theorem d8_0 : decode jdk_65_method_59_code 0 = .ok (.iload_n 1, 1) := by decide +kernel
theorem d8_1 : decode jdk_65_method_59_code 1 = .ok (.istore 4, 2) := by decide +kernel
theorem d8_3 : decode jdk_65_method_59_code 3 = .ok (.iload_n 2, 1) := by decide +kernel
theorem d8_4 : decode jdk_65_method_59_code 4 = .ok (.iconst 1, 1) := by decide +kernel
theorem d8_5 : decode jdk_65_method_59_code 5 = .ok (.isub, 1) := by decide +kernel
theorem d8_6 : decode jdk_65_method_59_code 6 = .ok (.istore 5, 2) := by decide +kernel
theorem d8_8 : decode jdk_65_method_59_code 8 = .ok (.iload 4, 2) := by decide +kernel
theorem d8_10 : decode jdk_65_method_59_code 10 = .ok (.iload 5, 2) := by decide +kernel
theorem d8_12 : decode jdk_65_method_59_code 12 = .ok (.if_icmp .gt 54, 3) := by decide +kernel
theorem d8_15 : decode jdk_65_method_59_code 15 = .ok (.iload 4, 2) := by decide +kernel
theorem d8_17 : decode jdk_65_method_59_code 17 = .ok (.iload 5, 2) := by decide +kernel
theorem d8_19 : decode jdk_65_method_59_code 19 = .ok (.iadd, 1) := by decide +kernel
theorem d8_20 : decode jdk_65_method_59_code 20 = .ok (.iconst 1, 1) := by decide +kernel
theorem d8_21 : decode jdk_65_method_59_code 21 = .ok (.iushr, 1) := by decide +kernel
theorem d8_22 : decode jdk_65_method_59_code 22 = .ok (.istore 6, 2) := by decide +kernel
theorem d8_24 : decode jdk_65_method_59_code 24 = .ok (.aload_n 0, 1) := by decide +kernel
theorem d8_25 : decode jdk_65_method_59_code 25 = .ok (.iload 6, 2) := by decide +kernel
theorem d8_27 : decode jdk_65_method_59_code 27 = .ok (.iaload, 1) := by decide +kernel
theorem d8_28 : decode jdk_65_method_59_code 28 = .ok (.istore 7, 2) := by decide +kernel
theorem d8_30 : decode jdk_65_method_59_code 30 = .ok (.iload 7, 2) := by decide +kernel
theorem d8_32 : decode jdk_65_method_59_code 32 = .ok (.iload_n 3, 1) := by decide +kernel
theorem d8_33 : decode jdk_65_method_59_code 33 = .ok (.if_icmp .ge 12, 3) := by decide +kernel
theorem d8_36 : decode jdk_65_method_59_code 36 = .ok (.iload 6, 2) := by decide +kernel
theorem d8_38 : decode jdk_65_method_59_code 38 = .ok (.iconst 1, 1) := by decide +kernel
theorem d8_39 : decode jdk_65_method_59_code 39 = .ok (.iadd, 1) := by decide +kernel
theorem d8_40 : decode jdk_65_method_59_code 40 = .ok (.istore 4, 2) := by decide +kernel
theorem d8_42 : decode jdk_65_method_59_code 42 = .ok (.goto 21, 3) := by decide +kernel
theorem d8_45 : decode jdk_65_method_59_code 45 = .ok (.iload 7, 2) := by decide +kernel
theorem d8_47 : decode jdk_65_method_59_code 47 = .ok (.iload_n 3, 1) := by decide +kernel
theorem d8_48 : decode jdk_65_method_59_code 48 = .ok (.if_icmp .le 12, 3) := by decide +kernel
theorem d8_51 : decode jdk_65_method_59_code 51 = .ok (.iload 6, 2) := by decide +kernel
theorem d8_53 : decode jdk_65_method_59_code 53 = .ok (.iconst 1, 1) := by decide +kernel
theorem d8_54 : decode jdk_65_method_59_code 54 = .ok (.isub, 1) := by decide +kernel
theorem d8_55 : decode jdk_65_method_59_code 55 = .ok (.istore 5, 2) := by decide +kernel
theorem d8_57 : decode jdk_65_method_59_code 57 = .ok (.goto 6, 3) := by decide +kernel
theorem d8_60 : decode jdk_65_method_59_code 60 = .ok (.iload 6, 2) := by decide +kernel
theorem d8_62 : decode jdk_65_method_59_code 62 = .ok (.ireturn, 1) := by decide +kernel
theorem d8_63 : decode jdk_65_method_59_code 63 = .ok (.goto (-55), 3) := by decide +kernel
theorem d8_66 : decode jdk_65_method_59_code 66 = .ok (.iload 4, 2) := by decide +kernel
theorem d8_68 : decode jdk_65_method_59_code 68 = .ok (.iconst 1, 1) := by decide +kernel
theorem d8_69 : decode jdk_65_method_59_code 69 = .ok (.iadd, 1) := by decide +kernel
theorem d8_70 : decode jdk_65_method_59_code 70 = .ok (.ineg, 1) := by decide +kernel
theorem d8_71 : decode jdk_65_method_59_code 71 = .ok (.ireturn, 1) := by decide +kernel
def room8 : Room := { frames := 0, cells := 0, slots := 0, locals := 0 }
set_option maxRecDepth 65536 in
set_option maxHeartbeats 40000000 in
theorem loop8 {p : Program} {l : Launch} {e : Env} {s : State} {m : MethodId} {args : Array Value} {below : List Frame} {meth : Method} {c : Code} {T0 : State} {locs : List Loc} {Z : State} {a0 : Array Value} {n0 : Nat} {hh : Heap} {kI : ClassId} {vs : List Value} (b : Addr) (n : Nat) (key : Int32) (hn : n ≤ 3) (V_b : Arv Z hh b kI .int (4 : Int32) vs (.int (0 : Int32))) (k : Nat)
    (X0 : Stand p l e room8 s m args below meth c T0 locs 0 0) (hx : p.tables.exec = Jvm.exec) (hZ : Z.Warmed39 s.vm) (hw : ∀ d ∈ tables_1, d.before a0 Z = true) (hby : c.code = jdk_65_method_59_code) (hml : c.maxLocals = 8) (hown : s.vm.findClass "java/util/Arrays" = some m.cls) (hnm : meth.name = "binarySearch0") (hret : meth.sig.returnType = some .int) (hlk : meth.locks = false) (e0 : T0.heap = hh) (N0 : Fr n0 locs) :
    ∀ (lo hi : Nat) (s6 s7 : Slot), One s6 → One s7 → lo ≤ hi → hi ≤ n → hi - lo < k → Go p e below s room8.cells room8.slots (Q8 Z n hh n0) m T0 8 #[.val (.ref b), .val (.int (0 : Int32)), .val (.int (n.toInt32)), .val (.int key), .val (.int (lo.toInt32)), .val (.int ((hi.toInt32) - (1 : Int32))), s6, s7] [] := by
  induction k with
  | zero => intro lo hi s6 s7 o6 o7 h1 h2 h3; exact absurd h3 (by omega)
  | succ k ih =>
    intro lo hi s6 s7 o6 o7 h1 h2 h3
    refine Go.st (T' := T0) (pc' := 10) (L' := #[.val (.ref b), .val (.int (0 : Int32)), .val (.int (n.toInt32)), .val (.int key), .val (.int (lo.toInt32)), .val (.int ((hi.toInt32) - (1 : Int32))), s6, s7]) (S' := [(.int (lo.toInt32))]) (fun t k => XS.iload X0.here hx rfl (hb hby d8_8) rfl  k) ?_
    refine Go.st (T' := T0) (pc' := 12) (L' := #[.val (.ref b), .val (.int (0 : Int32)), .val (.int (n.toInt32)), .val (.int key), .val (.int (lo.toInt32)), .val (.int ((hi.toInt32) - (1 : Int32))), s6, s7]) (S' := [(.int ((hi.toInt32) - (1 : Int32))), (.int (lo.toInt32))]) (fun t k => XS.iload X0.here hx rfl (hb hby d8_10) rfl  k) ?_
    by_cases hc12_1 : ((hi.toInt32) - (1 : Int32)) < (lo.toInt32)
    · refine Go.st (T' := T0) (pc' := 66) (L' := #[.val (.ref b), .val (.int (0 : Int32)), .val (.int (n.toInt32)), .val (.int key), .val (.int (lo.toInt32)), .val (.int ((hi.toInt32) - (1 : Int32))), s6, s7]) (S' := []) (fun t k => XS.icmpYes X0.here hx rfl (pc0 := 12) (pc' := 66) rfl (hb hby d8_12) rfl (tlt hc12_1).2.2.1 (by decide) (by decide) k) ?_
      refine Go.st (T' := T0) (pc' := 68) (L' := #[.val (.ref b), .val (.int (0 : Int32)), .val (.int (n.toInt32)), .val (.int key), .val (.int (lo.toInt32)), .val (.int ((hi.toInt32) - (1 : Int32))), s6, s7]) (S' := [(.int (lo.toInt32))]) (fun t k => XS.iload X0.here hx rfl (hb hby d8_66) rfl  k) ?_
      refine Go.st (T' := T0) (pc' := 69) (L' := #[.val (.ref b), .val (.int (0 : Int32)), .val (.int (n.toInt32)), .val (.int key), .val (.int (lo.toInt32)), .val (.int ((hi.toInt32) - (1 : Int32))), s6, s7]) (S' := [(.int (1 : Int32)), (.int (lo.toInt32))]) (fun t k => XS.iconst X0.here hx rfl (hb hby d8_68) k) ?_
      refine Go.st (T' := T0) (pc' := 70) (L' := #[.val (.ref b), .val (.int (0 : Int32)), .val (.int (n.toInt32)), .val (.int key), .val (.int (lo.toInt32)), .val (.int ((hi.toInt32) - (1 : Int32))), s6, s7]) (S' := [(.int ((lo.toInt32) + (1 : Int32)))]) (fun t k => XS.iadd X0.here hx rfl (hb hby d8_69) rfl k) ?_
      refine Go.st (T' := T0) (pc' := 71) (L' := #[.val (.ref b), .val (.int (0 : Int32)), .val (.int (n.toInt32)), .val (.int key), .val (.int (lo.toInt32)), .val (.int ((hi.toInt32) - (1 : Int32))), s6, s7]) (S' := [(.int (-((lo.toInt32) + (1 : Int32))))]) (fun t k => XS.ineg X0.here hx rfl (hb hby d8_70) rfl k) ?_
      exact Go.retO X0 hx hlk hret rfl (by simp [FieldType.isReference, Value.isRef]) (hb hby d8_71) (by decide) (by decide) (by rw [e0]; exact ⟨_, rfl, N0, rfl, Or.inr ⟨lo, by omega, rfl⟩⟩)
    · refine Go.st (T' := T0) (pc' := 15) (L' := #[.val (.ref b), .val (.int (0 : Int32)), .val (.int (n.toInt32)), .val (.int key), .val (.int (lo.toInt32)), .val (.int ((hi.toInt32) - (1 : Int32))), s6, s7]) (S' := []) (fun t k => XS.icmpNo X0.here hx rfl (hb hby d8_12) rfl (flt hc12_1).2.2.1 k) ?_
      have hlt : lo < hi := by have := mt (own_gt (lo := lo) (hi := hi) (by omega) (by omega)).mpr hc12_1; omega
      refine Go.st (T' := T0) (pc' := 17) (L' := #[.val (.ref b), .val (.int (0 : Int32)), .val (.int (n.toInt32)), .val (.int key), .val (.int (lo.toInt32)), .val (.int ((hi.toInt32) - (1 : Int32))), s6, s7]) (S' := [(.int (lo.toInt32))]) (fun t k => XS.iload X0.here hx rfl (hb hby d8_15) rfl  k) ?_
      refine Go.st (T' := T0) (pc' := 19) (L' := #[.val (.ref b), .val (.int (0 : Int32)), .val (.int (n.toInt32)), .val (.int key), .val (.int (lo.toInt32)), .val (.int ((hi.toInt32) - (1 : Int32))), s6, s7]) (S' := [(.int ((hi.toInt32) - (1 : Int32))), (.int (lo.toInt32))]) (fun t k => XS.iload X0.here hx rfl (hb hby d8_17) rfl  k) ?_
      refine Go.st (T' := T0) (pc' := 20) (L' := #[.val (.ref b), .val (.int (0 : Int32)), .val (.int (n.toInt32)), .val (.int key), .val (.int (lo.toInt32)), .val (.int ((hi.toInt32) - (1 : Int32))), s6, s7]) (S' := [(.int ((lo.toInt32) + ((hi.toInt32) - (1 : Int32))))]) (fun t k => XS.iadd X0.here hx rfl (hb hby d8_19) rfl k) ?_
      refine Go.st (T' := T0) (pc' := 21) (L' := #[.val (.ref b), .val (.int (0 : Int32)), .val (.int (n.toInt32)), .val (.int key), .val (.int (lo.toInt32)), .val (.int ((hi.toInt32) - (1 : Int32))), s6, s7]) (S' := [(.int (1 : Int32)), (.int ((lo.toInt32) + ((hi.toInt32) - (1 : Int32))))]) (fun t k => XS.iconst X0.here hx rfl (hb hby d8_20) k) ?_
      refine Go.st (T' := T0) (pc' := 22) (L' := #[.val (.ref b), .val (.int (0 : Int32)), .val (.int (n.toInt32)), .val (.int key), .val (.int (lo.toInt32)), .val (.int ((hi.toInt32) - (1 : Int32))), s6, s7]) (S' := [(.int ((((lo.toInt32) + ((hi.toInt32) - (1 : Int32))).toUInt32 >>> ((1 : Int32) &&& 31).toUInt32).toInt32))]) (fun t k => XS.iushr X0.here hx rfl (hb hby d8_21) rfl k) ?_
      obtain ⟨mid, hm1, hm2, em⟩ := own_mid (lo := lo) (hi := hi) hlt (by omega)
      rw [em]
      refine Go.st (T' := T0) (pc' := 24) (L' := #[.val (.ref b), .val (.int (0 : Int32)), .val (.int (n.toInt32)), .val (.int key), .val (.int (lo.toInt32)), .val (.int ((hi.toInt32) - (1 : Int32))), .val (.int (mid.toInt32)), s7]) (S' := []) (fun t k => XS.istoreS X0.here hx rfl (hb hby d8_22) rfl rfl o6 k) ?_
      refine Go.st (T' := T0) (pc' := 25) (L' := #[.val (.ref b), .val (.int (0 : Int32)), .val (.int (n.toInt32)), .val (.int key), .val (.int (lo.toInt32)), .val (.int ((hi.toInt32) - (1 : Int32))), .val (.int (mid.toInt32)), s7]) (S' := [(.ref b)]) (fun t k => XS.aloadN X0.here hx rfl (hb hby d8_24) rfl rfl  k) ?_
      refine Go.st (T' := T0) (pc' := 27) (L' := #[.val (.ref b), .val (.int (0 : Int32)), .val (.int (n.toInt32)), .val (.int key), .val (.int (lo.toInt32)), .val (.int ((hi.toInt32) - (1 : Int32))), .val (.int (mid.toInt32)), s7]) (S' := [(.int (mid.toInt32)), (.ref b)]) (fun t k => XS.iload X0.here hx rfl (hb hby d8_25) rfl  k) ?_
      obtain ⟨x7, ex7⟩ := own_elt (i := mid) V_b (Nat.lt_of_lt_of_eq (by omega : mid < 4) rfl)
      obtain ⟨cl2, Ar2, -, q2a, q2b, q2c, q2d⟩ := id V_b
      refine Go.st (T' := T0) (pc' := 28) (L' := #[.val (.ref b), .val (.int (0 : Int32)), .val (.int (n.toInt32)), .val (.int key), .val (.int (lo.toInt32)), .val (.int ((hi.toInt32) - (1 : Int32))), .val (.int (mid.toInt32)), s7]) (S' := [(.int x7)]) (fun t k => X0.iaload hx (j := (mid.toInt32)) (v := (.int x7)) (by rw [e0]; exact Ar2.1) (State.isArrayOf_alike hZ.alike Ar2.2.1) Ar2.2.2 (own_inb q2a (N := 4) (by decide) (by omega) (by decide)) (q2c.at (own_inb q2a (N := 4) (by decide) (by omega) (by decide)) (by rw [own_tn (by omega)]; exact ex7)) (g := (mkF m 27 #[.val (.ref b), .val (.int (0 : Int32)), .val (.int (n.toInt32)), .val (.int key), .val (.int (lo.toInt32)), .val (.int ((hi.toInt32) - (1 : Int32))), .val (.int (mid.toInt32)), s7] [(.int (mid.toInt32)), (.ref b)])) rfl rfl (hb hby d8_27) t k) ?_
      refine Go.st (T' := T0) (pc' := 30) (L' := #[.val (.ref b), .val (.int (0 : Int32)), .val (.int (n.toInt32)), .val (.int key), .val (.int (lo.toInt32)), .val (.int ((hi.toInt32) - (1 : Int32))), .val (.int (mid.toInt32)), .val (.int x7)]) (S' := []) (fun t k => XS.istoreS X0.here hx rfl (hb hby d8_28) rfl rfl o7 k) ?_
      refine Go.st (T' := T0) (pc' := 32) (L' := #[.val (.ref b), .val (.int (0 : Int32)), .val (.int (n.toInt32)), .val (.int key), .val (.int (lo.toInt32)), .val (.int ((hi.toInt32) - (1 : Int32))), .val (.int (mid.toInt32)), .val (.int x7)]) (S' := [(.int x7)]) (fun t k => XS.iload X0.here hx rfl (hb hby d8_30) rfl  k) ?_
      refine Go.st (T' := T0) (pc' := 33) (L' := #[.val (.ref b), .val (.int (0 : Int32)), .val (.int (n.toInt32)), .val (.int key), .val (.int (lo.toInt32)), .val (.int ((hi.toInt32) - (1 : Int32))), .val (.int (mid.toInt32)), .val (.int x7)]) (S' := [(.int key), (.int x7)]) (fun t k => XS.iloadN X0.here hx rfl (hb hby d8_32) rfl  k) ?_
      by_cases hc33_3 : x7 < key
      · refine Go.st (T' := T0) (pc' := 36) (L' := #[.val (.ref b), .val (.int (0 : Int32)), .val (.int (n.toInt32)), .val (.int key), .val (.int (lo.toInt32)), .val (.int ((hi.toInt32) - (1 : Int32))), .val (.int (mid.toInt32)), .val (.int x7)]) (S' := []) (fun t k => XS.icmpNo X0.here hx rfl (hb hby d8_33) rfl (tlt hc33_3).2.1 k) ?_
        refine Go.st (T' := T0) (pc' := 38) (L' := #[.val (.ref b), .val (.int (0 : Int32)), .val (.int (n.toInt32)), .val (.int key), .val (.int (lo.toInt32)), .val (.int ((hi.toInt32) - (1 : Int32))), .val (.int (mid.toInt32)), .val (.int x7)]) (S' := [(.int (mid.toInt32))]) (fun t k => XS.iload X0.here hx rfl (hb hby d8_36) rfl  k) ?_
        refine Go.st (T' := T0) (pc' := 39) (L' := #[.val (.ref b), .val (.int (0 : Int32)), .val (.int (n.toInt32)), .val (.int key), .val (.int (lo.toInt32)), .val (.int ((hi.toInt32) - (1 : Int32))), .val (.int (mid.toInt32)), .val (.int x7)]) (S' := [(.int (1 : Int32)), (.int (mid.toInt32))]) (fun t k => XS.iconst X0.here hx rfl (hb hby d8_38) k) ?_
        refine Go.st (T' := T0) (pc' := 40) (L' := #[.val (.ref b), .val (.int (0 : Int32)), .val (.int (n.toInt32)), .val (.int key), .val (.int (lo.toInt32)), .val (.int ((hi.toInt32) - (1 : Int32))), .val (.int (mid.toInt32)), .val (.int x7)]) (S' := [(.int ((mid.toInt32) + (1 : Int32)))]) (fun t k => XS.iadd X0.here hx rfl (hb hby d8_39) rfl k) ?_
        rw [own_next (n := mid) (by omega)]
        refine Go.st (T' := T0) (pc' := 42) (L' := #[.val (.ref b), .val (.int (0 : Int32)), .val (.int (n.toInt32)), .val (.int key), .val (.int ((mid + 1).toInt32)), .val (.int ((hi.toInt32) - (1 : Int32))), .val (.int (mid.toInt32)), .val (.int x7)]) (S' := []) (fun t k => XS.istore X0.here hx rfl (hb hby d8_40) rfl (l' := #[.val (.ref b), .val (.int (0 : Int32)), .val (.int (n.toInt32)), .val (.int key), .val (.int ((mid + 1).toInt32)), .val (.int ((hi.toInt32) - (1 : Int32))), .val (.int (mid.toInt32)), .val (.int x7)]) rfl k) ?_
        refine Go.st (T' := T0) (pc' := 63) (L' := #[.val (.ref b), .val (.int (0 : Int32)), .val (.int (n.toInt32)), .val (.int key), .val (.int ((mid + 1).toInt32)), .val (.int ((hi.toInt32) - (1 : Int32))), .val (.int (mid.toInt32)), .val (.int x7)]) (S' := []) (fun t k => XS.goto X0.here hx rfl (pc0 := 42) (pc' := 63) rfl (hb hby d8_42) (by decide) (by decide) k) ?_
        refine Go.st (T' := T0) (pc' := 8) (L' := #[.val (.ref b), .val (.int (0 : Int32)), .val (.int (n.toInt32)), .val (.int key), .val (.int ((mid + 1).toInt32)), .val (.int ((hi.toInt32) - (1 : Int32))), .val (.int (mid.toInt32)), .val (.int x7)]) (S' := []) (fun t k => XS.goto X0.here hx rfl (pc0 := 63) (pc' := 8) rfl (hb hby d8_63) (by decide) (by decide) k) ?_
        exact ih (mid + 1) hi _ _ (One.val rfl) (One.val rfl) (by omega) (by omega) (by omega)
      · refine Go.st (T' := T0) (pc' := 45) (L' := #[.val (.ref b), .val (.int (0 : Int32)), .val (.int (n.toInt32)), .val (.int key), .val (.int (lo.toInt32)), .val (.int ((hi.toInt32) - (1 : Int32))), .val (.int (mid.toInt32)), .val (.int x7)]) (S' := []) (fun t k => XS.icmpYes X0.here hx rfl (pc0 := 33) (pc' := 45) rfl (hb hby d8_33) rfl (flt hc33_3).2.1 (by decide) (by decide) k) ?_
        refine Go.st (T' := T0) (pc' := 47) (L' := #[.val (.ref b), .val (.int (0 : Int32)), .val (.int (n.toInt32)), .val (.int key), .val (.int (lo.toInt32)), .val (.int ((hi.toInt32) - (1 : Int32))), .val (.int (mid.toInt32)), .val (.int x7)]) (S' := [(.int x7)]) (fun t k => XS.iload X0.here hx rfl (hb hby d8_45) rfl  k) ?_
        refine Go.st (T' := T0) (pc' := 48) (L' := #[.val (.ref b), .val (.int (0 : Int32)), .val (.int (n.toInt32)), .val (.int key), .val (.int (lo.toInt32)), .val (.int ((hi.toInt32) - (1 : Int32))), .val (.int (mid.toInt32)), .val (.int x7)]) (S' := [(.int key), (.int x7)]) (fun t k => XS.iloadN X0.here hx rfl (hb hby d8_47) rfl  k) ?_
        by_cases hc48_4 : key < x7
        · refine Go.st (T' := T0) (pc' := 51) (L' := #[.val (.ref b), .val (.int (0 : Int32)), .val (.int (n.toInt32)), .val (.int key), .val (.int (lo.toInt32)), .val (.int ((hi.toInt32) - (1 : Int32))), .val (.int (mid.toInt32)), .val (.int x7)]) (S' := []) (fun t k => XS.icmpNo X0.here hx rfl (hb hby d8_48) rfl (tlt hc48_4).2.2.2 k) ?_
          refine Go.st (T' := T0) (pc' := 53) (L' := #[.val (.ref b), .val (.int (0 : Int32)), .val (.int (n.toInt32)), .val (.int key), .val (.int (lo.toInt32)), .val (.int ((hi.toInt32) - (1 : Int32))), .val (.int (mid.toInt32)), .val (.int x7)]) (S' := [(.int (mid.toInt32))]) (fun t k => XS.iload X0.here hx rfl (hb hby d8_51) rfl  k) ?_
          refine Go.st (T' := T0) (pc' := 54) (L' := #[.val (.ref b), .val (.int (0 : Int32)), .val (.int (n.toInt32)), .val (.int key), .val (.int (lo.toInt32)), .val (.int ((hi.toInt32) - (1 : Int32))), .val (.int (mid.toInt32)), .val (.int x7)]) (S' := [(.int (1 : Int32)), (.int (mid.toInt32))]) (fun t k => XS.iconst X0.here hx rfl (hb hby d8_53) k) ?_
          refine Go.st (T' := T0) (pc' := 55) (L' := #[.val (.ref b), .val (.int (0 : Int32)), .val (.int (n.toInt32)), .val (.int key), .val (.int (lo.toInt32)), .val (.int ((hi.toInt32) - (1 : Int32))), .val (.int (mid.toInt32)), .val (.int x7)]) (S' := [(.int ((mid.toInt32) - (1 : Int32)))]) (fun t k => XS.isub X0.here hx rfl (hb hby d8_54) rfl k) ?_
          refine Go.st (T' := T0) (pc' := 57) (L' := #[.val (.ref b), .val (.int (0 : Int32)), .val (.int (n.toInt32)), .val (.int key), .val (.int (lo.toInt32)), .val (.int ((mid.toInt32) - (1 : Int32))), .val (.int (mid.toInt32)), .val (.int x7)]) (S' := []) (fun t k => XS.istore X0.here hx rfl (hb hby d8_55) rfl (l' := #[.val (.ref b), .val (.int (0 : Int32)), .val (.int (n.toInt32)), .val (.int key), .val (.int (lo.toInt32)), .val (.int ((mid.toInt32) - (1 : Int32))), .val (.int (mid.toInt32)), .val (.int x7)]) rfl k) ?_
          refine Go.st (T' := T0) (pc' := 63) (L' := #[.val (.ref b), .val (.int (0 : Int32)), .val (.int (n.toInt32)), .val (.int key), .val (.int (lo.toInt32)), .val (.int ((mid.toInt32) - (1 : Int32))), .val (.int (mid.toInt32)), .val (.int x7)]) (S' := []) (fun t k => XS.goto X0.here hx rfl (pc0 := 57) (pc' := 63) rfl (hb hby d8_57) (by decide) (by decide) k) ?_
          refine Go.st (T' := T0) (pc' := 8) (L' := #[.val (.ref b), .val (.int (0 : Int32)), .val (.int (n.toInt32)), .val (.int key), .val (.int (lo.toInt32)), .val (.int ((mid.toInt32) - (1 : Int32))), .val (.int (mid.toInt32)), .val (.int x7)]) (S' := []) (fun t k => XS.goto X0.here hx rfl (pc0 := 63) (pc' := 8) rfl (hb hby d8_63) (by decide) (by decide) k) ?_
          exact ih lo mid _ _ (One.val rfl) (One.val rfl) (by omega) (by omega) (by omega)
        · refine Go.st (T' := T0) (pc' := 60) (L' := #[.val (.ref b), .val (.int (0 : Int32)), .val (.int (n.toInt32)), .val (.int key), .val (.int (lo.toInt32)), .val (.int ((hi.toInt32) - (1 : Int32))), .val (.int (mid.toInt32)), .val (.int x7)]) (S' := []) (fun t k => XS.icmpYes X0.here hx rfl (pc0 := 48) (pc' := 60) rfl (hb hby d8_48) rfl (flt hc48_4).2.2.2 (by decide) (by decide) k) ?_
          refine Go.st (T' := T0) (pc' := 62) (L' := #[.val (.ref b), .val (.int (0 : Int32)), .val (.int (n.toInt32)), .val (.int key), .val (.int (lo.toInt32)), .val (.int ((hi.toInt32) - (1 : Int32))), .val (.int (mid.toInt32)), .val (.int x7)]) (S' := [(.int (mid.toInt32))]) (fun t k => XS.iload X0.here hx rfl (hb hby d8_60) rfl  k) ?_
          exact Go.retO X0 hx hlk hret rfl (by simp [FieldType.isReference, Value.isRef]) (hb hby d8_62) (by decide) (by decide) (by rw [e0]; exact ⟨_, rfl, N0, rfl, Or.inl ⟨mid, by omega, rfl⟩⟩)
set_option maxRecDepth 65536 in
set_option maxHeartbeats 40000000 in
theorem rm8 (l : Launch) (Z : State) (a0 : Array Value) (hw : ∀ d ∈ tables_1, d.before a0 Z = true) (ws : List Jvm.Cond) (b : Addr) (n : Nat) (key : Int32) (kI : ClassId) (vs : List Value) (h0 : Heap) (n0 : Nat) (Z0 : n0 ≤ h0.size) (hn : n ≤ 3) (V_b : Arv Z h0 b kI .int (4 : Int32) vs (.int (0 : Int32))) :
    MetFree l (⟨"java/util/Arrays", "binarySearch0", "([IIII)I"⟩ : MethodName) (head1 (Jvm.Cond.code (⟨"java/util/Arrays", "binarySearch0", "([IIII)I"⟩ : MethodName) jdk_65_method_59_code 8 (some .int) :: ws) room8) (fun aa_ U_ => aa_ = #[(.ref b), (.int (0 : Int32)), (.int (n.toInt32)), (.int key)] ∧ Z.Warmed39 U_.vm ∧ U_.heap = h0) (fun _ _ _ _ _ => True) (fun _ U_ o_ W_ => ∃ v_ L_, o_ = .returned v_ ∧ (Q8 Z n h0 n0) v_ W_.heap L_ ∧ FrameEnd U_ o_ W_ L_ room8.cells room8.slots) := by
  refine own_met (Q := (Q8 Z n h0 n0)) (L0 := #[.val (.ref b), .val (.int (0 : Int32)), .val (.int (n.toInt32)), .val (.int key), .unset, .unset, .unset, .unset]) (plainFor_of_name pn_1) (fun m => by first | (simp [entryFrame, mkF, argsToLocals, Value.category]; done) | rfl) ?_
  intro p e s m below meth c T0 X0 hx hby hml hown hnm hret hlk hZ e0
  have N0 := Fr.nil n0
  refine Go.st (T' := T0) (pc' := 1) (L' := #[.val (.ref b), .val (.int (0 : Int32)), .val (.int (n.toInt32)), .val (.int key), .unset, .unset, .unset, .unset]) (S' := [(.int (0 : Int32))]) (fun t k => XS.iloadN X0.here hx rfl (hb hby d8_0) rfl  k) ?_
  refine Go.st (T' := T0) (pc' := 3) (L' := #[.val (.ref b), .val (.int (0 : Int32)), .val (.int (n.toInt32)), .val (.int key), .val (.int (0 : Int32)), .unset, .unset, .unset]) (S' := []) (fun t k => XS.istore X0.here hx rfl (hb hby d8_1) rfl (l' := #[.val (.ref b), .val (.int (0 : Int32)), .val (.int (n.toInt32)), .val (.int key), .val (.int (0 : Int32)), .unset, .unset, .unset]) rfl k) ?_
  refine Go.st (T' := T0) (pc' := 4) (L' := #[.val (.ref b), .val (.int (0 : Int32)), .val (.int (n.toInt32)), .val (.int key), .val (.int (0 : Int32)), .unset, .unset, .unset]) (S' := [(.int (n.toInt32))]) (fun t k => XS.iloadN X0.here hx rfl (hb hby d8_3) rfl  k) ?_
  refine Go.st (T' := T0) (pc' := 5) (L' := #[.val (.ref b), .val (.int (0 : Int32)), .val (.int (n.toInt32)), .val (.int key), .val (.int (0 : Int32)), .unset, .unset, .unset]) (S' := [(.int (1 : Int32)), (.int (n.toInt32))]) (fun t k => XS.iconst X0.here hx rfl (hb hby d8_4) k) ?_
  refine Go.st (T' := T0) (pc' := 6) (L' := #[.val (.ref b), .val (.int (0 : Int32)), .val (.int (n.toInt32)), .val (.int key), .val (.int (0 : Int32)), .unset, .unset, .unset]) (S' := [(.int ((n.toInt32) - (1 : Int32)))]) (fun t k => XS.isub X0.here hx rfl (hb hby d8_5) rfl k) ?_
  refine Go.st (T' := T0) (pc' := 8) (L' := #[.val (.ref b), .val (.int (0 : Int32)), .val (.int (n.toInt32)), .val (.int key), .val (.int (0 : Int32)), .val (.int ((n.toInt32) - (1 : Int32))), .unset, .unset]) (S' := []) (fun t k => XS.istore X0.here hx rfl (hb hby d8_6) rfl (l' := #[.val (.ref b), .val (.int (0 : Int32)), .val (.int (n.toInt32)), .val (.int key), .val (.int (0 : Int32)), .val (.int ((n.toInt32) - (1 : Int32))), .unset, .unset]) rfl k) ?_
  exact loop8 b n key hn V_b (n + 1) X0 hx hZ hw hby hml hown hnm hret hlk e0 N0 0 n _ _ One.u One.u (by omega) (by omega) (by omega)
theorem d6_0 : decode jdk_65_method_58_code 0 = .ok (.aload_n 0, 1) := by decide +kernel
theorem d6_1 : decode jdk_65_method_58_code 1 = .ok (.arraylength, 1) := by decide +kernel
theorem d6_2 : decode jdk_65_method_58_code 2 = .ok (.iload_n 1, 1) := by decide +kernel
theorem d6_3 : decode jdk_65_method_58_code 3 = .ok (.iload_n 2, 1) := by decide +kernel
theorem d6_4 : decode jdk_65_method_58_code 4 = .ok (.invokestatic 13, 3) := by decide +kernel
theorem d6_7 : decode jdk_65_method_58_code 7 = .ok (.aload_n 0, 1) := by decide +kernel
theorem d6_8 : decode jdk_65_method_58_code 8 = .ok (.iload_n 1, 1) := by decide +kernel
theorem d6_9 : decode jdk_65_method_58_code 9 = .ok (.iload_n 2, 1) := by decide +kernel
theorem d6_10 : decode jdk_65_method_58_code 10 = .ok (.iload_n 3, 1) := by decide +kernel
theorem d6_11 : decode jdk_65_method_58_code 11 = .ok (.invokestatic 209, 3) := by decide +kernel
theorem d6_14 : decode jdk_65_method_58_code 14 = .ok (.ireturn, 1) := by decide +kernel
theorem pd_0 : parseMethodDescriptor "(III)V" = some ⟨[.int, .int, .int], none⟩ := by decide +kernel
theorem pd_1 : parseMethodDescriptor "([IIII)I" = some ⟨[(.array .int), .int, .int, .int], some .int⟩ := by decide +kernel
def Q6 (Z : State) (n : Nat) (h0 : Heap) (n0 : Nat) (v : Option Value) (h : Heap) (L : List Loc) : Prop := ∃ r : Int32, v = some (.int r) ∧ Fr n0 L ∧ h = h0 ∧ ((∃ i : Nat, i < n ∧ r = i.toInt32) ∨ (∃ i : Nat, i ≤ n ∧ r = -((i.toInt32) + (1 : Int32))))
def room6 : Room := { frames := 1, cells := 0, slots := 0, locals := 19 }
set_option maxRecDepth 65536 in
set_option maxHeartbeats 40000000 in
theorem rm6 (l : Launch) (Z : State) (a0 : Array Value) (hw : ∀ d ∈ tables_1, d.before a0 Z = true) (ws : List Jvm.Cond) (b : Addr) (n : Nat) (key : Int32) (kI : ClassId) (vs : List Value) (h0 : Heap) (n0 : Nat) (Z0 : n0 ≤ h0.size) (hn : n ≤ 3) (V_b : Arv Z h0 b kI .int (4 : Int32) vs (.int (0 : Int32))) :
    MetFree l (⟨"java/util/Arrays", "binarySearch", "([IIII)I"⟩ : MethodName) (head1 (Jvm.Cond.code (⟨"java/util/Arrays", "binarySearch", "([IIII)I"⟩ : MethodName) jdk_65_method_58_code 4 (some .int) :: ws) room6) (fun aa_ U_ => aa_ = #[(.ref b), (.int (0 : Int32)), (.int (n.toInt32)), (.int key)] ∧ Z.Warmed39 U_.vm ∧ U_.heap = h0) (fun _ _ _ _ _ => True) (fun _ U_ o_ W_ => ∃ v_ L_, o_ = .returned v_ ∧ (Q6 Z n h0 n0) v_ W_.heap L_ ∧ FrameEnd U_ o_ W_ L_ room6.cells room6.slots) := by
  refine own_met (Q := (Q6 Z n h0 n0)) (L0 := #[.val (.ref b), .val (.int (0 : Int32)), .val (.int (n.toInt32)), .val (.int key)]) (plainFor_of_name pn_1) (fun m => by first | (simp [entryFrame, mkF, argsToLocals, Value.category]; done) | rfl) ?_
  intro p e s m below meth c T0 X0 hx hby hml hown hnm hret hlk hZ e0
  have N0 := Fr.nil n0
  refine Go.st (T' := T0) (pc' := 1) (L' := #[.val (.ref b), .val (.int (0 : Int32)), .val (.int (n.toInt32)), .val (.int key)]) (S' := [(.ref b)]) (fun t k => XS.aloadN X0.here hx rfl (hb hby d6_0) rfl rfl  k) ?_
  obtain ⟨cl1, Ar1, -, q1a, q1b, -, -⟩ := id V_b
  refine Go.st (T' := T0) (pc' := 2) (L' := #[.val (.ref b), .val (.int (0 : Int32)), .val (.int (n.toInt32)), .val (.int key)]) (S' := [(.int (4 : Int32))]) (fun t k => own_len X0 hx hZ e0 Ar1 q1a q1b (g := (mkF m 1 #[.val (.ref b), .val (.int (0 : Int32)), .val (.int (n.toInt32)), .val (.int key)] [(.ref b)])) rfl rfl (hb hby d6_1) t k) ?_
  refine Go.st (T' := T0) (pc' := 3) (L' := #[.val (.ref b), .val (.int (0 : Int32)), .val (.int (n.toInt32)), .val (.int key)]) (S' := [(.int (0 : Int32)), (.int (4 : Int32))]) (fun t k => XS.iloadN X0.here hx rfl (hb hby d6_2) rfl  k) ?_
  refine Go.st (T' := T0) (pc' := 4) (L' := #[.val (.ref b), .val (.int (0 : Int32)), .val (.int (n.toInt32)), .val (.int key)]) (S' := [(.int (n.toInt32)), (.int (0 : Int32)), (.int (4 : Int32))]) (fun t k => XS.iloadN X0.here hx rfl (hb hby d6_3) rfl  k) ?_
  obtain ⟨_, _, ⟨T2, L2, k2, n2⟩, -, X2, ⟨Lc2, hQ2, l2, y2, z2⟩, st2⟩ := Jvm.LawKit.callS X0 hx (y := (⟨"java/util/Arrays", "rangeCheck", "(III)V"⟩ : MethodName)) hown (mvT hZ (hw _ (List.mem_of_getElem? (i := 36) rfl))) (mvT hZ (hw _ (List.mem_of_getElem? (i := 37) rfl))) (mvT hZ (hw _ (List.mem_of_getElem? (i := 34) rfl))) (mvT hZ (hw _ (List.mem_of_getElem? (i := 38) rfl))) (by decide) (backOf (W := 0) (rm7 l Z a0 hw [] n h0 n0 Z0 hn) hZ (hw _ (List.mem_of_getElem? (i := 38) rfl)) (hw _ (List.mem_of_getElem? (i := 34) rfl)) (by decide) (by decide)) (g := (mkF m 4 #[.val (.ref b), .val (.int (0 : Int32)), .val (.int (n.toInt32)), .val (.int key)] [(.int (n.toInt32)), (.int (0 : Int32)), (.int (4 : Int32))])) rfl (by rw [hml]; rfl) (argsL := [(.int (4 : Int32)), (.int (0 : Int32)), (.int (n.toInt32))]) (rest := []) (lenOf pd_0 rfl) rfl (by show 2 * 0 + _ ≤ _; exact Nat.le_of_eq rfl) (hb hby d6_4) (fun _ _ => ⟨rfl, e0, (by decide : 0 + 0 ≤ _), (by decide : 0 + 0 ≤ _)⟩)
  dsimp only [Pt.U, Pt.locs, Pt.cells, Pt.slots] at X2 l2 y2 z2 st2 hQ2
  subst l2 y2 z2
  obtain ⟨rfl, N2q, e2⟩ := hQ2
  have N2 := Fr.app N0 N2q
  refine Go.st (T' := T2) (pc' := 7) (L' := #[.val (.ref b), .val (.int (0 : Int32)), .val (.int (n.toInt32)), .val (.int key)]) (S' := []) st2 ?_
  refine Go.st (T' := T2) (pc' := 8) (L' := #[.val (.ref b), .val (.int (0 : Int32)), .val (.int (n.toInt32)), .val (.int key)]) (S' := [(.ref b)]) (fun t k => XS.aloadN X2.here hx rfl (hb hby d6_7) rfl rfl  k) ?_
  refine Go.st (T' := T2) (pc' := 9) (L' := #[.val (.ref b), .val (.int (0 : Int32)), .val (.int (n.toInt32)), .val (.int key)]) (S' := [(.int (0 : Int32)), (.ref b)]) (fun t k => XS.iloadN X2.here hx rfl (hb hby d6_8) rfl  k) ?_
  refine Go.st (T' := T2) (pc' := 10) (L' := #[.val (.ref b), .val (.int (0 : Int32)), .val (.int (n.toInt32)), .val (.int key)]) (S' := [(.int (n.toInt32)), (.int (0 : Int32)), (.ref b)]) (fun t k => XS.iloadN X2.here hx rfl (hb hby d6_9) rfl  k) ?_
  refine Go.st (T' := T2) (pc' := 11) (L' := #[.val (.ref b), .val (.int (0 : Int32)), .val (.int (n.toInt32)), .val (.int key)]) (S' := [(.int key), (.int (n.toInt32)), (.int (0 : Int32)), (.ref b)]) (fun t k => XS.iloadN X2.here hx rfl (hb hby d6_10) rfl  k) ?_
  obtain ⟨_, _, ⟨T3, L3, k3, n3⟩, -, X3, ⟨Lc3, hQ3, l3, y3, z3⟩, st3⟩ := Jvm.LawKit.callS X2 hx (y := (⟨"java/util/Arrays", "binarySearch0", "([IIII)I"⟩ : MethodName)) hown (mvT hZ (hw _ (List.mem_of_getElem? (i := 39) rfl))) (mvT hZ (hw _ (List.mem_of_getElem? (i := 40) rfl))) (mvT hZ (hw _ (List.mem_of_getElem? (i := 34) rfl))) (mvT hZ (hw _ (List.mem_of_getElem? (i := 41) rfl))) (by decide) (backOf (W := 0) (rm8 l Z a0 hw [] b n key _ _ h0 n0 Z0 hn V_b) hZ (hw _ (List.mem_of_getElem? (i := 41) rfl)) (hw _ (List.mem_of_getElem? (i := 34) rfl)) (by decide) (by decide)) (g := (mkF m 11 #[.val (.ref b), .val (.int (0 : Int32)), .val (.int (n.toInt32)), .val (.int key)] [(.int key), (.int (n.toInt32)), (.int (0 : Int32)), (.ref b)])) rfl (by rw [hml]; rfl) (argsL := [(.ref b), (.int (0 : Int32)), (.int (n.toInt32)), (.int key)]) (rest := []) (lenOf pd_1 rfl) rfl (by show 2 * 0 + _ ≤ _; exact Nat.le_of_eq rfl) (hb hby d6_11) (fun _ _ => ⟨rfl, e2, (by decide : 0 + 0 ≤ _), (by decide : 0 + 0 ≤ _)⟩)
  dsimp only [Pt.U, Pt.locs, Pt.cells, Pt.slots] at X3 l3 y3 z3 st3 hQ3
  subst l3 y3 z3
  obtain ⟨r3, rfl, N3q, e3, hr3⟩ := hQ3
  have N3 := Fr.app N2 N3q
  refine Go.st (T' := T3) (pc' := 14) (L' := #[.val (.ref b), .val (.int (0 : Int32)), .val (.int (n.toInt32)), .val (.int key)]) (S' := [(.int r3)]) st3 ?_
  exact Go.retO X3 hx hlk hret rfl (by simp [FieldType.isReference, Value.isRef]) (hb hby d6_14) (by decide) (by decide) (by rw [e3]; exact ⟨_, rfl, N3, rfl, hr3⟩)
theorem d5_0 : decode prog_3_method_5_code 0 = .ok (.aload_n 0, 1) := by decide +kernel
theorem d5_1 : decode prog_3_method_5_code 1 = .ok (.getfield 22, 3) := by decide +kernel
theorem d5_4 : decode prog_3_method_5_code 4 = .ok (.ifnull 14, 3) := by decide +kernel
theorem d5_18 : decode prog_3_method_5_code 18 = .ok (.aload_n 0, 1) := by decide +kernel
theorem d5_19 : decode prog_3_method_5_code 19 = .ok (.getfield 7, 3) := by decide +kernel
theorem d5_22 : decode prog_3_method_5_code 22 = .ok (.iconst 0, 1) := by decide +kernel
theorem d5_23 : decode prog_3_method_5_code 23 = .ok (.aload_n 0, 1) := by decide +kernel
theorem d5_24 : decode prog_3_method_5_code 24 = .ok (.getfield 18, 3) := by decide +kernel
theorem d5_27 : decode prog_3_method_5_code 27 = .ok (.iload_n 1, 1) := by decide +kernel
theorem d5_28 : decode prog_3_method_5_code 28 = .ok (.invokestatic 31, 3) := by decide +kernel
theorem d5_31 : decode prog_3_method_5_code 31 = .ok (.ifCond .lt 7, 3) := by decide +kernel
theorem d5_38 : decode prog_3_method_5_code 38 = .ok (.iconst 0, 1) := by decide +kernel
theorem d5_39 : decode prog_3_method_5_code 39 = .ok (.ireturn, 1) := by decide +kernel
def Q5 (Z : State)  (h0 : Heap) (n0 : Nat) (v : Option Value) (h : Heap) (L : List Loc) : Prop := v = some (.int 0) ∧ Fr n0 L ∧ h = h0
def room5 : Room := { frames := 2, cells := 0, slots := 0, locals := 34 }
set_option maxRecDepth 65536 in
set_option maxHeartbeats 40000000 in
theorem rm5 (l : Launch) (Z : State) (a0 : Array Value) (hw : ∀ d ∈ tables_1, d.before a0 Z = true) (ws : List Jvm.Cond) (a : Addr) (b : Addr) (key : Int32) (h0 : Heap) (n0 : Nat) (Z0 : n0 ≤ h0.size) (g_a : n0 ≤ a) (g_b : n0 ≤ b) (hne : a ≠ b) (hS : IS Z h0 a b 0) :
    MetFree l (⟨"org/concordat/analysis/IntSet", "contains", "(I)Z"⟩ : MethodName) (head1 (Jvm.Cond.code (⟨"org/concordat/analysis/IntSet", "contains", "(I)Z"⟩ : MethodName) prog_3_method_5_code 2 (some .boolean) :: ws) room5) (fun aa_ U_ => aa_ = #[(.ref a), (.int key)] ∧ Z.Warmed39 U_.vm ∧ U_.heap = h0) (fun _ _ _ _ _ => True) (fun _ U_ o_ W_ => ∃ v_ L_, o_ = .returned v_ ∧ (Q5 Z  h0 n0) v_ W_.heap L_ ∧ FrameEnd U_ o_ W_ L_ room5.cells room5.slots) := by
  refine own_met (Q := (Q5 Z  h0 n0)) (L0 := #[.val (.ref a), .val (.int key)]) (plainFor_of_name pn_0) (fun m => by first | (simp [entryFrame, mkF, argsToLocals, Value.category]; done) | rfl) ?_
  intro p e s m below meth c T0 X0 hx hby hml hown hnm hret hlk hZ e0
  have N0 := Fr.nil n0
  obtain ⟨E_a, F_items, F_size, F_bits, kI, vs, V_b, lV⟩ := hS
  refine Go.st (T' := T0) (pc' := 1) (L' := #[.val (.ref a), .val (.int key)]) (S' := [(.ref a)]) (fun t k => XS.aloadN X0.here hx rfl (hb hby d5_0) rfl rfl  k) ?_
  obtain ⟨T1, X1, e1, st1⟩ := getF X0 hx hZ hown (host := "") (Or.inl (hw _ (List.mem_of_getElem? (i := 30) rfl))) Via.refl e0 F_bits (g := (mkF m 1 #[.val (.ref a), .val (.int key)] [(.ref a)])) rfl rfl (hb hby d5_1)
  refine Go.st (T' := T1) (pc' := 4) (L' := #[.val (.ref a), .val (.int key)]) (S' := [.null]) st1 ?_
  refine Go.st (T' := T1) (pc' := 18) (L' := #[.val (.ref a), .val (.int key)]) (S' := []) (fun t k => XS.ifnullYes X1.here hx rfl (pc0 := 4) (pc' := 18) rfl (hb hby d5_4) rfl (by decide) (by decide) k) ?_
  refine Go.st (T' := T1) (pc' := 19) (L' := #[.val (.ref a), .val (.int key)]) (S' := [(.ref a)]) (fun t k => XS.aloadN X1.here hx rfl (hb hby d5_18) rfl rfl  k) ?_
  obtain ⟨T2, X2, e2, st2⟩ := getF X1 hx hZ hown (host := "") (Or.inl (hw _ (List.mem_of_getElem? (i := 11) rfl))) Via.refl e1 F_items (g := (mkF m 19 #[.val (.ref a), .val (.int key)] [(.ref a)])) rfl rfl (hb hby d5_19)
  refine Go.st (T' := T2) (pc' := 22) (L' := #[.val (.ref a), .val (.int key)]) (S' := [(.ref b)]) st2 ?_
  refine Go.st (T' := T2) (pc' := 23) (L' := #[.val (.ref a), .val (.int key)]) (S' := [(.int (0 : Int32)), (.ref b)]) (fun t k => XS.iconst X2.here hx rfl (hb hby d5_22) k) ?_
  refine Go.st (T' := T2) (pc' := 24) (L' := #[.val (.ref a), .val (.int key)]) (S' := [(.ref a), (.int (0 : Int32)), (.ref b)]) (fun t k => XS.aloadN X2.here hx rfl (hb hby d5_23) rfl rfl  k) ?_
  obtain ⟨T3, X3, e3, st3⟩ := getF X2 hx hZ hown (host := "") (Or.inl (hw _ (List.mem_of_getElem? (i := 18) rfl))) Via.refl e2 F_size (g := (mkF m 24 #[.val (.ref a), .val (.int key)] [(.ref a), (.int (0 : Int32)), (.ref b)])) rfl rfl (hb hby d5_24)
  refine Go.st (T' := T3) (pc' := 27) (L' := #[.val (.ref a), .val (.int key)]) (S' := [(.int (Nat.toInt32 0)), (.int (0 : Int32)), (.ref b)]) st3 ?_
  refine Go.st (T' := T3) (pc' := 28) (L' := #[.val (.ref a), .val (.int key)]) (S' := [(.int key), (.int (Nat.toInt32 0)), (.int (0 : Int32)), (.ref b)]) (fun t k => XS.iloadN X3.here hx rfl (hb hby d5_27) rfl  k) ?_
  obtain ⟨_, _, ⟨T4, L4, k4, n4⟩, -, X4, ⟨Lc4, hQ4, l4, y4, z4⟩, st4⟩ := Jvm.LawKit.callS X3 hx (y := (⟨"java/util/Arrays", "binarySearch", "([IIII)I"⟩ : MethodName)) hown (mvT hZ (hw _ (List.mem_of_getElem? (i := 32) rfl))) (mvT hZ (hw _ (List.mem_of_getElem? (i := 33) rfl))) (mvT hZ (hw _ (List.mem_of_getElem? (i := 34) rfl))) (mvT hZ (hw _ (List.mem_of_getElem? (i := 35) rfl))) (by decide) (backOf (W := 0) (rm6 l Z a0 hw [] b 0 key _ _ h0 n0 Z0 (by omega) V_b) hZ (hw _ (List.mem_of_getElem? (i := 35) rfl)) (hw _ (List.mem_of_getElem? (i := 34) rfl)) (by decide) (by decide)) (g := (mkF m 28 #[.val (.ref a), .val (.int key)] [(.int key), (.int (Nat.toInt32 0)), (.int (0 : Int32)), (.ref b)])) rfl (by rw [hml]; rfl) (argsL := [(.ref b), (.int (0 : Int32)), (.int (Nat.toInt32 0)), (.int key)]) (rest := []) (lenOf pd_1 rfl) rfl (by show 2 * 0 + _ ≤ _; exact Nat.le_of_eq rfl) (hb hby d5_28) (fun _ _ => ⟨rfl, e3, (by decide : 0 + 0 ≤ _), (by decide : 0 + 0 ≤ _)⟩)
  dsimp only [Pt.U, Pt.locs, Pt.cells, Pt.slots] at X4 l4 y4 z4 st4 hQ4
  subst l4 y4 z4
  obtain ⟨r4, rfl, N4q, e4, hr4⟩ := hQ4
  have N4 := Fr.app N0 N4q
  refine Go.st (T' := T4) (pc' := 31) (L' := #[.val (.ref a), .val (.int key)]) (S' := [(.int r4)]) st4 ?_
  refine Go.st (T' := T4) (pc' := 38) (L' := #[.val (.ref a), .val (.int key)]) (S' := []) (fun t k => XS.ifYes X4.here hx rfl (pc0 := 31) (pc' := 38) rfl (hb hby d5_31) rfl ((if0 _ _).trans (tlt (by rcases hr4 with ⟨i, h1, -⟩ | ⟨i, h1, rfl⟩; exact absurd h1 (by omega); exact own_neg (by omega) : (r4 < (0 : Int32)))).1) (by decide) (by decide) k) ?_
  refine Go.st (T' := T4) (pc' := 39) (L' := #[.val (.ref a), .val (.int key)]) (S' := [(.int (0 : Int32))]) (fun t k => XS.iconst X4.here hx rfl (hb hby d5_38) k) ?_
  exact Go.retN X4 hx hlk hret (by simp) (hb hby d5_39) (by decide) (by decide) (by rw [e4]; exact ⟨rfl, N4, rfl⟩)
theorem d9_0 : decode prog_3_method_6_code 0 = .ok (.aload_n 0, 1) := by decide +kernel
theorem d9_1 : decode prog_3_method_6_code 1 = .ok (.getfield 22, 3) := by decide +kernel
theorem d9_4 : decode prog_3_method_6_code 4 = .ok (.ifnull 36, 3) := by decide +kernel
theorem d9_40 : decode prog_3_method_6_code 40 = .ok (.aload_n 0, 1) := by decide +kernel
theorem d9_41 : decode prog_3_method_6_code 41 = .ok (.getfield 7, 3) := by decide +kernel
theorem d9_44 : decode prog_3_method_6_code 44 = .ok (.iconst 0, 1) := by decide +kernel
theorem d9_45 : decode prog_3_method_6_code 45 = .ok (.aload_n 0, 1) := by decide +kernel
theorem d9_46 : decode prog_3_method_6_code 46 = .ok (.getfield 18, 3) := by decide +kernel
theorem d9_49 : decode prog_3_method_6_code 49 = .ok (.iload_n 1, 1) := by decide +kernel
theorem d9_50 : decode prog_3_method_6_code 50 = .ok (.invokestatic 31, 3) := by decide +kernel
theorem d9_53 : decode prog_3_method_6_code 53 = .ok (.istore_n 2, 1) := by decide +kernel
theorem d9_54 : decode prog_3_method_6_code 54 = .ok (.iload_n 2, 1) := by decide +kernel
theorem d9_55 : decode prog_3_method_6_code 55 = .ok (.ifCond .lt 5, 3) := by decide +kernel
theorem d9_58 : decode prog_3_method_6_code 58 = .ok (.iconst 0, 1) := by decide +kernel
theorem d9_59 : decode prog_3_method_6_code 59 = .ok (.ireturn, 1) := by decide +kernel
theorem d9_60 : decode prog_3_method_6_code 60 = .ok (.iload_n 2, 1) := by decide +kernel
theorem d9_61 : decode prog_3_method_6_code 61 = .ok (.ineg, 1) := by decide +kernel
theorem d9_62 : decode prog_3_method_6_code 62 = .ok (.iconst 1, 1) := by decide +kernel
theorem d9_63 : decode prog_3_method_6_code 63 = .ok (.isub, 1) := by decide +kernel
theorem d9_64 : decode prog_3_method_6_code 64 = .ok (.istore_n 2, 1) := by decide +kernel
theorem d9_65 : decode prog_3_method_6_code 65 = .ok (.aload_n 0, 1) := by decide +kernel
theorem d9_66 : decode prog_3_method_6_code 66 = .ok (.getfield 18, 3) := by decide +kernel
theorem d9_69 : decode prog_3_method_6_code 69 = .ok (.bipush 64, 2) := by decide +kernel
theorem d9_71 : decode prog_3_method_6_code 71 = .ok (.if_icmp .ne 67, 3) := by decide +kernel
theorem d9_138 : decode prog_3_method_6_code 138 = .ok (.aload_n 0, 1) := by decide +kernel
theorem d9_139 : decode prog_3_method_6_code 139 = .ok (.getfield 18, 3) := by decide +kernel
theorem d9_142 : decode prog_3_method_6_code 142 = .ok (.aload_n 0, 1) := by decide +kernel
theorem d9_143 : decode prog_3_method_6_code 143 = .ok (.getfield 7, 3) := by decide +kernel
theorem d9_146 : decode prog_3_method_6_code 146 = .ok (.arraylength, 1) := by decide +kernel
theorem d9_147 : decode prog_3_method_6_code 147 = .ok (.if_icmp .ne 20, 3) := by decide +kernel
theorem d9_167 : decode prog_3_method_6_code 167 = .ok (.aload_n 0, 1) := by decide +kernel
theorem d9_168 : decode prog_3_method_6_code 168 = .ok (.getfield 7, 3) := by decide +kernel
theorem d9_171 : decode prog_3_method_6_code 171 = .ok (.iload_n 2, 1) := by decide +kernel
theorem d9_172 : decode prog_3_method_6_code 172 = .ok (.aload_n 0, 1) := by decide +kernel
theorem d9_173 : decode prog_3_method_6_code 173 = .ok (.getfield 7, 3) := by decide +kernel
theorem d9_176 : decode prog_3_method_6_code 176 = .ok (.iload_n 2, 1) := by decide +kernel
theorem d9_177 : decode prog_3_method_6_code 177 = .ok (.iconst 1, 1) := by decide +kernel
theorem d9_178 : decode prog_3_method_6_code 178 = .ok (.iadd, 1) := by decide +kernel
theorem d9_179 : decode prog_3_method_6_code 179 = .ok (.aload_n 0, 1) := by decide +kernel
theorem d9_180 : decode prog_3_method_6_code 180 = .ok (.getfield 18, 3) := by decide +kernel
theorem d9_183 : decode prog_3_method_6_code 183 = .ok (.iload_n 2, 1) := by decide +kernel
theorem d9_184 : decode prog_3_method_6_code 184 = .ok (.isub, 1) := by decide +kernel
theorem d9_185 : decode prog_3_method_6_code 185 = .ok (.invokestatic 46, 3) := by decide +kernel
theorem d9_188 : decode prog_3_method_6_code 188 = .ok (.aload_n 0, 1) := by decide +kernel
theorem d9_189 : decode prog_3_method_6_code 189 = .ok (.getfield 7, 3) := by decide +kernel
theorem d9_192 : decode prog_3_method_6_code 192 = .ok (.iload_n 2, 1) := by decide +kernel
theorem d9_193 : decode prog_3_method_6_code 193 = .ok (.iload_n 1, 1) := by decide +kernel
theorem d9_194 : decode prog_3_method_6_code 194 = .ok (.iastore, 1) := by decide +kernel
theorem d9_195 : decode prog_3_method_6_code 195 = .ok (.aload_n 0, 1) := by decide +kernel
theorem d9_196 : decode prog_3_method_6_code 196 = .ok (.dup, 1) := by decide +kernel
theorem d9_197 : decode prog_3_method_6_code 197 = .ok (.getfield 18, 3) := by decide +kernel
theorem d9_200 : decode prog_3_method_6_code 200 = .ok (.iconst 1, 1) := by decide +kernel
theorem d9_201 : decode prog_3_method_6_code 201 = .ok (.iadd, 1) := by decide +kernel
theorem d9_202 : decode prog_3_method_6_code 202 = .ok (.putfield 18, 3) := by decide +kernel
theorem d9_205 : decode prog_3_method_6_code 205 = .ok (.iconst 1, 1) := by decide +kernel
theorem d9_206 : decode prog_3_method_6_code 206 = .ok (.ireturn, 1) := by decide +kernel
def Q9 (Z : State) (a : Addr) (b : Addr) (n : Nat) (h0 : Heap) (n0 : Nat) (v : Option Value) (h : Heap) (L : List Loc) : Prop := ∃ (r : Int32) (n' : Nat), v = some (.int r) ∧ Fr n0 L ∧ n0 ≤ h.size ∧ ((0 < n ∧ n' = n) ∨ n' = n + 1) ∧ IS Z h a b n'
def room9 : Room := { frames := 2, cells := 0, slots := 0, locals := 40 }
set_option maxRecDepth 65536 in
set_option maxHeartbeats 40000000 in
theorem rm9 (l : Launch) (Z : State) (a0 : Array Value) (hw : ∀ d ∈ tables_1, d.before a0 Z = true) (ws : List Jvm.Cond) (a : Addr) (b : Addr) (n : Nat) (key : Int32) (h0 : Heap) (n0 : Nat) (Z0 : n0 ≤ h0.size) (g_a : n0 ≤ a) (g_b : n0 ≤ b) (hne : a ≠ b) (hS : IS Z h0 a b n) (hn : n ≤ 3) :
    MetFree l (⟨"org/concordat/analysis/IntSet", "add", "(I)Z"⟩ : MethodName) (head1 (Jvm.Cond.code (⟨"org/concordat/analysis/IntSet", "add", "(I)Z"⟩ : MethodName) prog_3_method_6_code 5 (some .boolean) :: ws) room9) (fun aa_ U_ => aa_ = #[(.ref a), (.int key)] ∧ Z.Warmed39 U_.vm ∧ U_.heap = h0) (fun _ _ _ _ _ => True) (fun _ U_ o_ W_ => ∃ v_ L_, o_ = .returned v_ ∧ (Q9 Z a b n h0 n0) v_ W_.heap L_ ∧ FrameEnd U_ o_ W_ L_ room9.cells room9.slots) := by
  refine own_met (Q := (Q9 Z a b n h0 n0)) (L0 := #[.val (.ref a), .val (.int key), .unset, .unset, .unset]) (plainFor_of_name pn_0) (fun m => by first | (simp [entryFrame, mkF, argsToLocals, Value.category]; done) | rfl) ?_
  intro p e s m below meth c T0 X0 hx hby hml hown hnm hret hlk hZ e0
  have N0 := Fr.nil n0
  obtain ⟨E_a, F_items, F_size, F_bits, kI, vs, V_b, lV⟩ := hS
  refine Go.st (T' := T0) (pc' := 1) (L' := #[.val (.ref a), .val (.int key), .unset, .unset, .unset]) (S' := [(.ref a)]) (fun t k => XS.aloadN X0.here hx rfl (hb hby d9_0) rfl rfl  k) ?_
  obtain ⟨T1, X1, e1, st1⟩ := getF X0 hx hZ hown (host := "") (Or.inl (hw _ (List.mem_of_getElem? (i := 30) rfl))) Via.refl e0 F_bits (g := (mkF m 1 #[.val (.ref a), .val (.int key), .unset, .unset, .unset] [(.ref a)])) rfl rfl (hb hby d9_1)
  refine Go.st (T' := T1) (pc' := 4) (L' := #[.val (.ref a), .val (.int key), .unset, .unset, .unset]) (S' := [.null]) st1 ?_
  refine Go.st (T' := T1) (pc' := 40) (L' := #[.val (.ref a), .val (.int key), .unset, .unset, .unset]) (S' := []) (fun t k => XS.ifnullYes X1.here hx rfl (pc0 := 4) (pc' := 40) rfl (hb hby d9_4) rfl (by decide) (by decide) k) ?_
  refine Go.st (T' := T1) (pc' := 41) (L' := #[.val (.ref a), .val (.int key), .unset, .unset, .unset]) (S' := [(.ref a)]) (fun t k => XS.aloadN X1.here hx rfl (hb hby d9_40) rfl rfl  k) ?_
  obtain ⟨T2, X2, e2, st2⟩ := getF X1 hx hZ hown (host := "") (Or.inl (hw _ (List.mem_of_getElem? (i := 11) rfl))) Via.refl e1 F_items (g := (mkF m 41 #[.val (.ref a), .val (.int key), .unset, .unset, .unset] [(.ref a)])) rfl rfl (hb hby d9_41)
  refine Go.st (T' := T2) (pc' := 44) (L' := #[.val (.ref a), .val (.int key), .unset, .unset, .unset]) (S' := [(.ref b)]) st2 ?_
  refine Go.st (T' := T2) (pc' := 45) (L' := #[.val (.ref a), .val (.int key), .unset, .unset, .unset]) (S' := [(.int (0 : Int32)), (.ref b)]) (fun t k => XS.iconst X2.here hx rfl (hb hby d9_44) k) ?_
  refine Go.st (T' := T2) (pc' := 46) (L' := #[.val (.ref a), .val (.int key), .unset, .unset, .unset]) (S' := [(.ref a), (.int (0 : Int32)), (.ref b)]) (fun t k => XS.aloadN X2.here hx rfl (hb hby d9_45) rfl rfl  k) ?_
  obtain ⟨T3, X3, e3, st3⟩ := getF X2 hx hZ hown (host := "") (Or.inl (hw _ (List.mem_of_getElem? (i := 18) rfl))) Via.refl e2 F_size (g := (mkF m 46 #[.val (.ref a), .val (.int key), .unset, .unset, .unset] [(.ref a), (.int (0 : Int32)), (.ref b)])) rfl rfl (hb hby d9_46)
  refine Go.st (T' := T3) (pc' := 49) (L' := #[.val (.ref a), .val (.int key), .unset, .unset, .unset]) (S' := [(.int (n.toInt32)), (.int (0 : Int32)), (.ref b)]) st3 ?_
  refine Go.st (T' := T3) (pc' := 50) (L' := #[.val (.ref a), .val (.int key), .unset, .unset, .unset]) (S' := [(.int key), (.int (n.toInt32)), (.int (0 : Int32)), (.ref b)]) (fun t k => XS.iloadN X3.here hx rfl (hb hby d9_49) rfl  k) ?_
  obtain ⟨_, _, ⟨T4, L4, k4, n4⟩, -, X4, ⟨Lc4, hQ4, l4, y4, z4⟩, st4⟩ := Jvm.LawKit.callS X3 hx (y := (⟨"java/util/Arrays", "binarySearch", "([IIII)I"⟩ : MethodName)) hown (mvT hZ (hw _ (List.mem_of_getElem? (i := 32) rfl))) (mvT hZ (hw _ (List.mem_of_getElem? (i := 33) rfl))) (mvT hZ (hw _ (List.mem_of_getElem? (i := 34) rfl))) (mvT hZ (hw _ (List.mem_of_getElem? (i := 35) rfl))) (by decide) (backOf (W := 0) (rm6 l Z a0 hw [] b n key _ _ h0 n0 Z0 hn V_b) hZ (hw _ (List.mem_of_getElem? (i := 35) rfl)) (hw _ (List.mem_of_getElem? (i := 34) rfl)) (by decide) (by decide)) (g := (mkF m 50 #[.val (.ref a), .val (.int key), .unset, .unset, .unset] [(.int key), (.int (n.toInt32)), (.int (0 : Int32)), (.ref b)])) rfl (by rw [hml]; rfl) (argsL := [(.ref b), (.int (0 : Int32)), (.int (n.toInt32)), (.int key)]) (rest := []) (lenOf pd_1 rfl) rfl (by show 2 * 0 + _ ≤ _; exact Nat.le_of_eq rfl) (hb hby d9_50) (fun _ _ => ⟨rfl, e3, (by decide : 0 + 0 ≤ _), (by decide : 0 + 0 ≤ _)⟩)
  dsimp only [Pt.U, Pt.locs, Pt.cells, Pt.slots] at X4 l4 y4 z4 st4 hQ4
  subst l4 y4 z4
  obtain ⟨r4, rfl, N4q, e4, hr4⟩ := hQ4
  have N4 := Fr.app N0 N4q
  refine Go.st (T' := T4) (pc' := 53) (L' := #[.val (.ref a), .val (.int key), .unset, .unset, .unset]) (S' := [(.int r4)]) st4 ?_
  rcases hr4 with ⟨i, hi, rfl⟩ | ⟨i, hi, rfl⟩
  · refine Go.st (T' := T4) (pc' := 54) (L' := #[.val (.ref a), .val (.int key), .val (.int (i.toInt32)), .unset, .unset]) (S' := []) (fun t k => XS.istoreN X4.here hx rfl (hb hby d9_53) rfl (l' := #[.val (.ref a), .val (.int key), .val (.int (i.toInt32)), .unset, .unset]) rfl k) ?_
    refine Go.st (T' := T4) (pc' := 55) (L' := #[.val (.ref a), .val (.int key), .val (.int (i.toInt32)), .unset, .unset]) (S' := [(.int (i.toInt32))]) (fun t k => XS.iloadN X4.here hx rfl (hb hby d9_54) rfl  k) ?_
    refine Go.st (T' := T4) (pc' := 58) (L' := #[.val (.ref a), .val (.int key), .val (.int (i.toInt32)), .unset, .unset]) (S' := []) (fun t k => XS.ifNo X4.here hx rfl (hb hby d9_55) rfl ((if0 _ _).trans (flt (own_nn (by omega) : ¬ ((i.toInt32) < (0 : Int32)))).1) k) ?_
    refine Go.st (T' := T4) (pc' := 59) (L' := #[.val (.ref a), .val (.int key), .val (.int (i.toInt32)), .unset, .unset]) (S' := [(.int (0 : Int32))]) (fun t k => XS.iconst X4.here hx rfl (hb hby d9_58) k) ?_
    exact Go.retN X4 hx hlk hret (by simp) (hb hby d9_59) (by decide) (by decide) (by rw [e4]; exact ⟨_, n, rfl, N4, Z0, Or.inl ⟨by omega, rfl⟩, E_a, F_items, F_size, F_bits, _, _, V_b, lV⟩)
  · refine Go.st (T' := T4) (pc' := 54) (L' := #[.val (.ref a), .val (.int key), .val (.int (-((i.toInt32) + (1 : Int32)))), .unset, .unset]) (S' := []) (fun t k => XS.istoreN X4.here hx rfl (hb hby d9_53) rfl (l' := #[.val (.ref a), .val (.int key), .val (.int (-((i.toInt32) + (1 : Int32)))), .unset, .unset]) rfl k) ?_
    refine Go.st (T' := T4) (pc' := 55) (L' := #[.val (.ref a), .val (.int key), .val (.int (-((i.toInt32) + (1 : Int32)))), .unset, .unset]) (S' := [(.int (-((i.toInt32) + (1 : Int32))))]) (fun t k => XS.iloadN X4.here hx rfl (hb hby d9_54) rfl  k) ?_
    refine Go.st (T' := T4) (pc' := 60) (L' := #[.val (.ref a), .val (.int key), .val (.int (-((i.toInt32) + (1 : Int32)))), .unset, .unset]) (S' := []) (fun t k => XS.ifYes X4.here hx rfl (pc0 := 55) (pc' := 60) rfl (hb hby d9_55) rfl ((if0 _ _).trans (tlt (own_neg (by omega) : ((-((i.toInt32) + (1 : Int32))) < (0 : Int32)))).1) (by decide) (by decide) k) ?_
    refine Go.st (T' := T4) (pc' := 61) (L' := #[.val (.ref a), .val (.int key), .val (.int (-((i.toInt32) + (1 : Int32)))), .unset, .unset]) (S' := [(.int (-((i.toInt32) + (1 : Int32))))]) (fun t k => XS.iloadN X4.here hx rfl (hb hby d9_60) rfl  k) ?_
    refine Go.st (T' := T4) (pc' := 62) (L' := #[.val (.ref a), .val (.int key), .val (.int (-((i.toInt32) + (1 : Int32)))), .unset, .unset]) (S' := [(.int (-(-((i.toInt32) + (1 : Int32)))))]) (fun t k => XS.ineg X4.here hx rfl (hb hby d9_61) rfl k) ?_
    refine Go.st (T' := T4) (pc' := 63) (L' := #[.val (.ref a), .val (.int key), .val (.int (-((i.toInt32) + (1 : Int32)))), .unset, .unset]) (S' := [(.int (1 : Int32)), (.int (-(-((i.toInt32) + (1 : Int32)))))]) (fun t k => XS.iconst X4.here hx rfl (hb hby d9_62) k) ?_
    refine Go.st (T' := T4) (pc' := 64) (L' := #[.val (.ref a), .val (.int key), .val (.int (-((i.toInt32) + (1 : Int32)))), .unset, .unset]) (S' := [(.int ((-(-((i.toInt32) + (1 : Int32)))) - (1 : Int32)))]) (fun t k => XS.isub X4.here hx rfl (hb hby d9_63) rfl k) ?_
    rw [own_nega]
    refine Go.st (T' := T4) (pc' := 65) (L' := #[.val (.ref a), .val (.int key), .val (.int (i.toInt32)), .unset, .unset]) (S' := []) (fun t k => XS.istoreN X4.here hx rfl (hb hby d9_64) rfl (l' := #[.val (.ref a), .val (.int key), .val (.int (i.toInt32)), .unset, .unset]) rfl k) ?_
    refine Go.st (T' := T4) (pc' := 66) (L' := #[.val (.ref a), .val (.int key), .val (.int (i.toInt32)), .unset, .unset]) (S' := [(.ref a)]) (fun t k => XS.aloadN X4.here hx rfl (hb hby d9_65) rfl rfl  k) ?_
    obtain ⟨T5, X5, e5, st5⟩ := getF X4 hx hZ hown (host := "") (Or.inl (hw _ (List.mem_of_getElem? (i := 18) rfl))) Via.refl e4 F_size (g := (mkF m 66 #[.val (.ref a), .val (.int key), .val (.int (i.toInt32)), .unset, .unset] [(.ref a)])) rfl rfl (hb hby d9_66)
    refine Go.st (T' := T5) (pc' := 69) (L' := #[.val (.ref a), .val (.int key), .val (.int (i.toInt32)), .unset, .unset]) (S' := [(.int (n.toInt32))]) st5 ?_
    refine Go.st (T' := T5) (pc' := 71) (L' := #[.val (.ref a), .val (.int key), .val (.int (i.toInt32)), .unset, .unset]) (S' := [(.int (64 : Int32)), (.int (n.toInt32))]) (fun t k => XS.bipush X5.here hx rfl (hb hby d9_69) k) ?_
    refine Go.st (T' := T5) (pc' := 138) (L' := #[.val (.ref a), .val (.int key), .val (.int (i.toInt32)), .unset, .unset]) (S' := []) (fun t k => XS.icmpYes X5.here hx rfl (pc0 := 71) (pc' := 138) rfl (hb hby d9_71) rfl (feq (fun z => absurd ((own_inj (n := 64) (by omega) (by decide)).mp z) (by omega) : ¬ ((n.toInt32) = (64 : Int32)))).2 (by decide) (by decide) k) ?_
    refine Go.st (T' := T5) (pc' := 139) (L' := #[.val (.ref a), .val (.int key), .val (.int (i.toInt32)), .unset, .unset]) (S' := [(.ref a)]) (fun t k => XS.aloadN X5.here hx rfl (hb hby d9_138) rfl rfl  k) ?_
    obtain ⟨T6, X6, e6, st6⟩ := getF X5 hx hZ hown (host := "") (Or.inl (hw _ (List.mem_of_getElem? (i := 18) rfl))) Via.refl e5 F_size (g := (mkF m 139 #[.val (.ref a), .val (.int key), .val (.int (i.toInt32)), .unset, .unset] [(.ref a)])) rfl rfl (hb hby d9_139)
    refine Go.st (T' := T6) (pc' := 142) (L' := #[.val (.ref a), .val (.int key), .val (.int (i.toInt32)), .unset, .unset]) (S' := [(.int (n.toInt32))]) st6 ?_
    refine Go.st (T' := T6) (pc' := 143) (L' := #[.val (.ref a), .val (.int key), .val (.int (i.toInt32)), .unset, .unset]) (S' := [(.ref a), (.int (n.toInt32))]) (fun t k => XS.aloadN X6.here hx rfl (hb hby d9_142) rfl rfl  k) ?_
    obtain ⟨T7, X7, e7, st7⟩ := getF X6 hx hZ hown (host := "") (Or.inl (hw _ (List.mem_of_getElem? (i := 11) rfl))) Via.refl e6 F_items (g := (mkF m 143 #[.val (.ref a), .val (.int key), .val (.int (i.toInt32)), .unset, .unset] [(.ref a), (.int (n.toInt32))])) rfl rfl (hb hby d9_143)
    refine Go.st (T' := T7) (pc' := 146) (L' := #[.val (.ref a), .val (.int key), .val (.int (i.toInt32)), .unset, .unset]) (S' := [(.ref b), (.int (n.toInt32))]) st7 ?_
    obtain ⟨cl8, Ar8, -, q8a, q8b, -, -⟩ := id V_b
    refine Go.st (T' := T7) (pc' := 147) (L' := #[.val (.ref a), .val (.int key), .val (.int (i.toInt32)), .unset, .unset]) (S' := [(.int (4 : Int32)), (.int (n.toInt32))]) (fun t k => own_len X7 hx hZ e7 Ar8 q8a q8b (g := (mkF m 146 #[.val (.ref a), .val (.int key), .val (.int (i.toInt32)), .unset, .unset] [(.ref b), (.int (n.toInt32))])) rfl rfl (hb hby d9_146) t k) ?_
    refine Go.st (T' := T7) (pc' := 167) (L' := #[.val (.ref a), .val (.int key), .val (.int (i.toInt32)), .unset, .unset]) (S' := []) (fun t k => XS.icmpYes X7.here hx rfl (pc0 := 147) (pc' := 167) rfl (hb hby d9_147) rfl (feq (fun z => absurd ((own_inj (n := 4) (by omega) (by decide)).mp z) (by omega) : ¬ ((n.toInt32) = (4 : Int32)))).2 (by decide) (by decide) k) ?_
    refine Go.st (T' := T7) (pc' := 168) (L' := #[.val (.ref a), .val (.int key), .val (.int (i.toInt32)), .unset, .unset]) (S' := [(.ref a)]) (fun t k => XS.aloadN X7.here hx rfl (hb hby d9_167) rfl rfl  k) ?_
    obtain ⟨T9, X9, e9, st9⟩ := getF X7 hx hZ hown (host := "") (Or.inl (hw _ (List.mem_of_getElem? (i := 11) rfl))) Via.refl e7 F_items (g := (mkF m 168 #[.val (.ref a), .val (.int key), .val (.int (i.toInt32)), .unset, .unset] [(.ref a)])) rfl rfl (hb hby d9_168)
    refine Go.st (T' := T9) (pc' := 171) (L' := #[.val (.ref a), .val (.int key), .val (.int (i.toInt32)), .unset, .unset]) (S' := [(.ref b)]) st9 ?_
    refine Go.st (T' := T9) (pc' := 172) (L' := #[.val (.ref a), .val (.int key), .val (.int (i.toInt32)), .unset, .unset]) (S' := [(.int (i.toInt32)), (.ref b)]) (fun t k => XS.iloadN X9.here hx rfl (hb hby d9_171) rfl  k) ?_
    refine Go.st (T' := T9) (pc' := 173) (L' := #[.val (.ref a), .val (.int key), .val (.int (i.toInt32)), .unset, .unset]) (S' := [(.ref a), (.int (i.toInt32)), (.ref b)]) (fun t k => XS.aloadN X9.here hx rfl (hb hby d9_172) rfl rfl  k) ?_
    obtain ⟨T10, X10, e10, st10⟩ := getF X9 hx hZ hown (host := "") (Or.inl (hw _ (List.mem_of_getElem? (i := 11) rfl))) Via.refl e9 F_items (g := (mkF m 173 #[.val (.ref a), .val (.int key), .val (.int (i.toInt32)), .unset, .unset] [(.ref a), (.int (i.toInt32)), (.ref b)])) rfl rfl (hb hby d9_173)
    refine Go.st (T' := T10) (pc' := 176) (L' := #[.val (.ref a), .val (.int key), .val (.int (i.toInt32)), .unset, .unset]) (S' := [(.ref b), (.int (i.toInt32)), (.ref b)]) st10 ?_
    refine Go.st (T' := T10) (pc' := 177) (L' := #[.val (.ref a), .val (.int key), .val (.int (i.toInt32)), .unset, .unset]) (S' := [(.int (i.toInt32)), (.ref b), (.int (i.toInt32)), (.ref b)]) (fun t k => XS.iloadN X10.here hx rfl (hb hby d9_176) rfl  k) ?_
    refine Go.st (T' := T10) (pc' := 178) (L' := #[.val (.ref a), .val (.int key), .val (.int (i.toInt32)), .unset, .unset]) (S' := [(.int (1 : Int32)), (.int (i.toInt32)), (.ref b), (.int (i.toInt32)), (.ref b)]) (fun t k => XS.iconst X10.here hx rfl (hb hby d9_177) k) ?_
    refine Go.st (T' := T10) (pc' := 179) (L' := #[.val (.ref a), .val (.int key), .val (.int (i.toInt32)), .unset, .unset]) (S' := [(.int ((i.toInt32) + (1 : Int32))), (.ref b), (.int (i.toInt32)), (.ref b)]) (fun t k => XS.iadd X10.here hx rfl (hb hby d9_178) rfl k) ?_
    rw [own_next (n := i) (by omega)]
    refine Go.st (T' := T10) (pc' := 180) (L' := #[.val (.ref a), .val (.int key), .val (.int (i.toInt32)), .unset, .unset]) (S' := [(.ref a), (.int ((i + 1).toInt32)), (.ref b), (.int (i.toInt32)), (.ref b)]) (fun t k => XS.aloadN X10.here hx rfl (hb hby d9_179) rfl rfl  k) ?_
    obtain ⟨T11, X11, e11, st11⟩ := getF X10 hx hZ hown (host := "") (Or.inl (hw _ (List.mem_of_getElem? (i := 18) rfl))) Via.refl e10 F_size (g := (mkF m 180 #[.val (.ref a), .val (.int key), .val (.int (i.toInt32)), .unset, .unset] [(.ref a), (.int ((i + 1).toInt32)), (.ref b), (.int (i.toInt32)), (.ref b)])) rfl rfl (hb hby d9_180)
    refine Go.st (T' := T11) (pc' := 183) (L' := #[.val (.ref a), .val (.int key), .val (.int (i.toInt32)), .unset, .unset]) (S' := [(.int (n.toInt32)), (.int ((i + 1).toInt32)), (.ref b), (.int (i.toInt32)), (.ref b)]) st11 ?_
    refine Go.st (T' := T11) (pc' := 184) (L' := #[.val (.ref a), .val (.int key), .val (.int (i.toInt32)), .unset, .unset]) (S' := [(.int (i.toInt32)), (.int (n.toInt32)), (.int ((i + 1).toInt32)), (.ref b), (.int (i.toInt32)), (.ref b)]) (fun t k => XS.iloadN X11.here hx rfl (hb hby d9_183) rfl  k) ?_
    refine Go.st (T' := T11) (pc' := 185) (L' := #[.val (.ref a), .val (.int key), .val (.int (i.toInt32)), .unset, .unset]) (S' := [(.int ((n.toInt32) - (i.toInt32))), (.int ((i + 1).toInt32)), (.ref b), (.int (i.toInt32)), (.ref b)]) (fun t k => XS.isub X11.here hx rfl (hb hby d9_184) rfl k) ?_
    rw [own_sub (m := n) (n := i) (by omega) (by omega)]
    have t1 := own_tn (i := i) (by omega)
    have t2 := own_tn (i := i + 1) (by omega)
    have t3 := own_tn (i := n - i) (by omega)
    obtain ⟨T12, h12, L12, X12, e12, N12, K12, V12, st12⟩ := cpA X11 hx hZ hown (hw _ (List.mem_of_getElem? (i := 47) rfl)) (hw _ (List.mem_of_getElem? (i := 50) rfl)) (hw _ (List.mem_of_getElem? (i := 48) rfl)) (hw _ (List.mem_of_getElem? (i := 49) rfl)) e11 V_b V_b (Or.inl ⟨rfl, rfl⟩) (own_nn (by omega)) (own_nn (by omega)) (own_nn (by omega)) (by rw [t1, t3]; exact Nat.le_trans (by omega : i + (n - i) ≤ 4) (Nat.le_of_eq rfl)) (by rw [t2, t3]; exact Nat.le_trans (by omega : i + 1 + (n - i) ≤ 4) (Nat.le_of_eq rfl)) rfl (by rw [t2, t3, lV]; omega) N4 g_b (g := (mkF m 185 #[.val (.ref a), .val (.int key), .val (.int (i.toInt32)), .unset, .unset] [(.int ((n - i).toInt32)), (.int ((i + 1).toInt32)), (.ref b), (.int (i.toInt32)), (.ref b)])) rfl (by rw [hml]; rfl) rfl (hb hby d9_185) (by decide) (W := 0) (by show 2 * 0 + _ ≤ _; exact Nat.le_of_eq rfl) (by decide)
    replace Z0 := Nat.le_trans Z0 K12.1
    replace E_a := E_a.keep K12
    replace F_items := F_items.keep K12 (ninS hne nin0)
    replace F_size := F_size.keep K12 (ninS hne nin0)
    replace F_bits := F_bits.keep K12 (ninS hne nin0)
    obtain ⟨vs12, l12, V_b⟩ : ∃ z : List Value, z.length = 4 ∧ Arv Z h12 b kI .int (4 : Int32) z (.int (0 : Int32)) := ⟨_, by simp only [List.length_append, List.length_take, List.length_drop, List.length_map, List.length_range, t1, t2, t3, lV]; omega, V12⟩
    refine Go.st (T' := T12) (pc' := 188) (L' := #[.val (.ref a), .val (.int key), .val (.int (i.toInt32)), .unset, .unset]) (S' := []) st12 ?_
    refine Go.st (T' := T12) (pc' := 189) (L' := #[.val (.ref a), .val (.int key), .val (.int (i.toInt32)), .unset, .unset]) (S' := [(.ref a)]) (fun t k => XS.aloadN X12.here hx rfl (hb hby d9_188) rfl rfl  k) ?_
    obtain ⟨T13, X13, e13, st13⟩ := getF X12 hx hZ hown (host := "") (Or.inl (hw _ (List.mem_of_getElem? (i := 11) rfl))) Via.refl e12 F_items (g := (mkF m 189 #[.val (.ref a), .val (.int key), .val (.int (i.toInt32)), .unset, .unset] [(.ref a)])) rfl rfl (hb hby d9_189)
    refine Go.st (T' := T13) (pc' := 192) (L' := #[.val (.ref a), .val (.int key), .val (.int (i.toInt32)), .unset, .unset]) (S' := [(.ref b)]) st13 ?_
    refine Go.st (T' := T13) (pc' := 193) (L' := #[.val (.ref a), .val (.int key), .val (.int (i.toInt32)), .unset, .unset]) (S' := [(.int (i.toInt32)), (.ref b)]) (fun t k => XS.iloadN X13.here hx rfl (hb hby d9_192) rfl  k) ?_
    refine Go.st (T' := T13) (pc' := 194) (L' := #[.val (.ref a), .val (.int key), .val (.int (i.toInt32)), .unset, .unset]) (S' := [(.int key), (.int (i.toInt32)), (.ref b)]) (fun t k => XS.iloadN X13.here hx rfl (hb hby d9_193) rfl  k) ?_
    obtain ⟨cl14, Ar14, q141, q142, q143, q144, q145⟩ := V_b
    obtain ⟨T14, h14, X14, e14, W14, st14⟩ := stI X13 hx hZ e13 Ar14 (j := (i.toInt32)) (own_inb q142 (N := 4) (by decide) (by omega) (by decide)) (g := (mkF m 194 #[.val (.ref a), .val (.int key), .val (.int (i.toInt32)), .unset, .unset] [(.int key), (.int (i.toInt32)), (.ref b)])) rfl rfl (hb hby d9_194)
    replace V_b := Arv.set Ar14 q141 q142 q143 q144 q145 rfl W14 (i) (own_tn (by omega)) (by rw [l12]; omega)
    replace Z0 := Nat.le_trans Z0 (Keep.of_wr W14).1
    replace E_a := E_a.wr W14
    replace F_items := F_items.other W14 (Or.inl hne)
    replace F_size := F_size.other W14 (Or.inl hne)
    replace F_bits := F_bits.other W14 (Or.inl hne)
    have N14 := Fr.snoc X14 N12 g_b
    refine Go.st (T' := T14) (pc' := 195) (L' := #[.val (.ref a), .val (.int key), .val (.int (i.toInt32)), .unset, .unset]) (S' := []) st14 ?_
    refine Go.st (T' := T14) (pc' := 196) (L' := #[.val (.ref a), .val (.int key), .val (.int (i.toInt32)), .unset, .unset]) (S' := [(.ref a)]) (fun t k => XS.aloadN X14.here hx rfl (hb hby d9_195) rfl rfl  k) ?_
    refine Go.st (T' := T14) (pc' := 197) (L' := #[.val (.ref a), .val (.int key), .val (.int (i.toInt32)), .unset, .unset]) (S' := [(.ref a), (.ref a)]) (fun t k => XS.dup X14.here hx rfl (hb hby d9_196) rfl rfl k) ?_
    obtain ⟨T15, X15, e15, st15⟩ := getF X14 hx hZ hown (host := "") (Or.inl (hw _ (List.mem_of_getElem? (i := 18) rfl))) Via.refl e14 F_size (g := (mkF m 197 #[.val (.ref a), .val (.int key), .val (.int (i.toInt32)), .unset, .unset] [(.ref a), (.ref a)])) rfl rfl (hb hby d9_197)
    refine Go.st (T' := T15) (pc' := 200) (L' := #[.val (.ref a), .val (.int key), .val (.int (i.toInt32)), .unset, .unset]) (S' := [(.int (n.toInt32)), (.ref a)]) st15 ?_
    refine Go.st (T' := T15) (pc' := 201) (L' := #[.val (.ref a), .val (.int key), .val (.int (i.toInt32)), .unset, .unset]) (S' := [(.int (1 : Int32)), (.int (n.toInt32)), (.ref a)]) (fun t k => XS.iconst X15.here hx rfl (hb hby d9_200) k) ?_
    refine Go.st (T' := T15) (pc' := 202) (L' := #[.val (.ref a), .val (.int key), .val (.int (i.toInt32)), .unset, .unset]) (S' := [(.int ((n.toInt32) + (1 : Int32))), (.ref a)]) (fun t k => XS.iadd X15.here hx rfl (hb hby d9_201) rfl k) ?_
    rw [own_next (n := n) (by omega)]
    obtain ⟨T16, h16, X16, e16, W16, st16⟩ := putF X15 hx hZ hown (host := "") (Or.inl (hw _ (List.mem_of_getElem? (i := 18) rfl))) Via.refl e15 F_size E_a (Or.inl (hw _ (List.mem_of_getElem? (i := 19) rfl))) (hw _ (List.mem_of_getElem? (i := 2) rfl)) (ty := .int) (by decide) rfl rfl (g := (mkF m 202 #[.val (.ref a), .val (.int key), .val (.int (i.toInt32)), .unset, .unset] [(.int ((n + 1).toInt32)), (.ref a)])) rfl rfl (hb hby d9_202)
    replace Z0 := Nat.le_trans Z0 (Keep.of_wr W16).1
    replace E_a := E_a.wr W16
    replace F_items := F_items.other W16 (Or.inr (slot_ne (Or.inl (hw _ (List.mem_of_getElem? (i := 12) rfl))) (Or.inl (hw _ (List.mem_of_getElem? (i := 19) rfl))) (by decide) (t := (.array .int)) (t' := .int) (by decide) (by decide)))
    replace F_bits := F_bits.other W16 (Or.inr (slot_ne (Or.inl (hw _ (List.mem_of_getElem? (i := 31) rfl))) (Or.inl (hw _ (List.mem_of_getElem? (i := 19) rfl))) (by decide) (t := (.object "java/util/BitSet")) (t' := .int) (by decide) (by decide)))
    replace V_b := V_b.other W16 (Ne.symm hne)
    replace F_size := F_size.same W16
    have N16 := Fr.snoc X16 N14 g_a
    refine Go.st (T' := T16) (pc' := 205) (L' := #[.val (.ref a), .val (.int key), .val (.int (i.toInt32)), .unset, .unset]) (S' := []) st16 ?_
    refine Go.st (T' := T16) (pc' := 206) (L' := #[.val (.ref a), .val (.int key), .val (.int (i.toInt32)), .unset, .unset]) (S' := [(.int (1 : Int32))]) (fun t k => XS.iconst X16.here hx rfl (hb hby d9_205) k) ?_
    exact Go.retN X16 hx hlk hret (by simp) (hb hby d9_206) (by decide) (by decide) (by rw [e16]; exact ⟨_, n + 1, rfl, N16, Z0, Or.inr rfl, E_a, F_items, F_size, F_bits, _, _, V_b, (by rw [List.length_set]; exact l12)⟩)
theorem pd_2 : parseMethodDescriptor "()V" = some ⟨[], none⟩ := by decide +kernel
theorem pd_3 : parseMethodDescriptor "()Z" = some ⟨[], some .boolean⟩ := by decide +kernel
theorem pd_4 : parseMethodDescriptor "()I" = some ⟨[], some .int⟩ := by decide +kernel
theorem pd_5 : parseMethodDescriptor "(I)Z" = some ⟨[.int], some .boolean⟩ := by decide +kernel
theorem pn_2 : plainName "org/concordat/analysis/IntSetIsEmptyPinLaw" = true := by first | (simp [plainName, overriddenIn]; done) | decide +kernel
def Q0_0 (Z : State)  (h0 : Heap) (n0 : Nat) (v : Option Value) (h : Heap) (L : List Loc) : Prop := v = some (.int 1) ∧ Fr n0 L
set_option maxRecDepth 65536 in
set_option maxHeartbeats 40000000 in
theorem rm0_0 (l : Launch) (Z : State) (a0 : Array Value) (hw : ∀ d ∈ tables_1, d.before a0 Z = true) (ws : List Jvm.Cond) (p1 : Int32) (p2 : Int32) (p3 : Int32) (p4 : Int32) (h0 : Heap) (n0 : Nat) (Z0 : n0 ≤ h0.size) (hk : p1 &&& (3 : Int32) = (0 : Int32)) :
    MetFree l x (head1 (Jvm.Cond.code x code maxLocals ret :: ws) room_1) (fun aa_ U_ => aa_ = #[(.int p1), (.int p2), (.int p3), (.int p4)] ∧ Z.Warmed39 U_.vm ∧ U_.heap = h0) (fun _ _ _ _ _ => True) (fun _ U_ o_ W_ => ∃ v_ L_, o_ = .returned v_ ∧ (Q0_0 Z  h0 n0) v_ W_.heap L_ ∧ FrameEnd U_ o_ W_ L_ room_1.cells room_1.slots) := by
  refine own_met (Q := (Q0_0 Z  h0 n0)) (L0 := #[.val (.int p1), .val (.int p2), .val (.int p3), .val (.int p4), .unset, .unset, .unset, .unset, .unset, .unset, .unset, .unset]) (plainFor_of_name pn_2) (fun m => by first | (simp [entryFrame, mkF, argsToLocals, Value.category, maxLocals]; done) | rfl) ?_
  intro p e s m below meth c T0 X0 hx hby hml hown hnm hret hlk hZ e0
  have N0 := Fr.nil n0
  refine Go.st (T' := T0) (pc' := 1) (L' := #[.val (.int p1), .val (.int p2), .val (.int p3), .val (.int p4), .unset, .unset, .unset, .unset, .unset, .unset, .unset, .unset]) (S' := [(.int p1)]) (fun t k => XS.iloadN X0.here hx rfl (hb hby at_0) rfl  k) ?_
  refine Go.st (T' := T0) (pc' := 2) (L' := #[.val (.int p1), .val (.int p2), .val (.int p3), .val (.int p4), .unset, .unset, .unset, .unset, .unset, .unset, .unset, .unset]) (S' := [(.int (3 : Int32)), (.int p1)]) (fun t k => XS.iconst X0.here hx rfl (hb hby at_1) k) ?_
  refine Go.st (T' := T0) (pc' := 3) (L' := #[.val (.int p1), .val (.int p2), .val (.int p3), .val (.int p4), .unset, .unset, .unset, .unset, .unset, .unset, .unset, .unset]) (S' := [(.int (p1 &&& (3 : Int32)))]) (fun t k => XS.iand X0.here hx rfl (hb hby at_2) rfl k) ?_
  rw [hk]
  refine Go.st (T' := T0) (pc' := 5) (L' := #[.val (.int p1), .val (.int p2), .val (.int p3), .val (.int p4), .val (.int (0 : Int32)), .unset, .unset, .unset, .unset, .unset, .unset, .unset]) (S' := []) (fun t k => XS.istore X0.here hx rfl (hb hby at_3) rfl (l' := #[.val (.int p1), .val (.int p2), .val (.int p3), .val (.int p4), .val (.int (0 : Int32)), .unset, .unset, .unset, .unset, .unset, .unset, .unset]) rfl k) ?_
  refine Go.st (T' := T0) (pc' := 6) (L' := #[.val (.int p1), .val (.int p2), .val (.int p3), .val (.int p4), .val (.int (0 : Int32)), .unset, .unset, .unset, .unset, .unset, .unset, .unset]) (S' := [(.int p2)]) (fun t k => XS.iloadN X0.here hx rfl (hb hby at_5) rfl  k) ?_
  refine Go.st (T' := T0) (pc' := 8) (L' := #[.val (.int p1), .val (.int p2), .val (.int p3), .val (.int p4), .val (.int (0 : Int32)), .unset, .unset, .unset, .unset, .unset, .unset, .unset]) (S' := [(.int (2147483647 : Int32)), (.int p2)]) (fun t k => X0.ldcInt hx hown (mvT hZ (hw _ (List.mem_of_getElem? (i := 0) rfl))) (g := (mkF m 6 #[.val (.int p1), .val (.int p2), .val (.int p3), .val (.int p4), .val (.int (0 : Int32)), .unset, .unset, .unset, .unset, .unset, .unset, .unset] [(.int p2)])) rfl (hb hby at_6) t k) ?_
  refine Go.st (T' := T0) (pc' := 9) (L' := #[.val (.int p1), .val (.int p2), .val (.int p3), .val (.int p4), .val (.int (0 : Int32)), .unset, .unset, .unset, .unset, .unset, .unset, .unset]) (S' := [(.int (p2 &&& (2147483647 : Int32)))]) (fun t k => XS.iand X0.here hx rfl (hb hby at_8) rfl k) ?_
  refine Go.st (T' := T0) (pc' := 11) (L' := #[.val (.int p1), .val (.int p2), .val (.int p3), .val (.int p4), .val (.int (0 : Int32)), .val (.int (p2 &&& (2147483647 : Int32))), .unset, .unset, .unset, .unset, .unset, .unset]) (S' := []) (fun t k => XS.istore X0.here hx rfl (hb hby at_9) rfl (l' := #[.val (.int p1), .val (.int p2), .val (.int p3), .val (.int p4), .val (.int (0 : Int32)), .val (.int (p2 &&& (2147483647 : Int32))), .unset, .unset, .unset, .unset, .unset, .unset]) rfl k) ?_
  refine Go.st (T' := T0) (pc' := 12) (L' := #[.val (.int p1), .val (.int p2), .val (.int p3), .val (.int p4), .val (.int (0 : Int32)), .val (.int (p2 &&& (2147483647 : Int32))), .unset, .unset, .unset, .unset, .unset, .unset]) (S' := [(.int p3)]) (fun t k => XS.iloadN X0.here hx rfl (hb hby at_11) rfl  k) ?_
  refine Go.st (T' := T0) (pc' := 14) (L' := #[.val (.int p1), .val (.int p2), .val (.int p3), .val (.int p4), .val (.int (0 : Int32)), .val (.int (p2 &&& (2147483647 : Int32))), .unset, .unset, .unset, .unset, .unset, .unset]) (S' := [(.int (2147483647 : Int32)), (.int p3)]) (fun t k => X0.ldcInt hx hown (mvT hZ (hw _ (List.mem_of_getElem? (i := 0) rfl))) (g := (mkF m 12 #[.val (.int p1), .val (.int p2), .val (.int p3), .val (.int p4), .val (.int (0 : Int32)), .val (.int (p2 &&& (2147483647 : Int32))), .unset, .unset, .unset, .unset, .unset, .unset] [(.int p3)])) rfl (hb hby at_12) t k) ?_
  refine Go.st (T' := T0) (pc' := 15) (L' := #[.val (.int p1), .val (.int p2), .val (.int p3), .val (.int p4), .val (.int (0 : Int32)), .val (.int (p2 &&& (2147483647 : Int32))), .unset, .unset, .unset, .unset, .unset, .unset]) (S' := [(.int (p3 &&& (2147483647 : Int32)))]) (fun t k => XS.iand X0.here hx rfl (hb hby at_14) rfl k) ?_
  refine Go.st (T' := T0) (pc' := 17) (L' := #[.val (.int p1), .val (.int p2), .val (.int p3), .val (.int p4), .val (.int (0 : Int32)), .val (.int (p2 &&& (2147483647 : Int32))), .val (.int (p3 &&& (2147483647 : Int32))), .unset, .unset, .unset, .unset, .unset]) (S' := []) (fun t k => XS.istore X0.here hx rfl (hb hby at_15) rfl (l' := #[.val (.int p1), .val (.int p2), .val (.int p3), .val (.int p4), .val (.int (0 : Int32)), .val (.int (p2 &&& (2147483647 : Int32))), .val (.int (p3 &&& (2147483647 : Int32))), .unset, .unset, .unset, .unset, .unset]) rfl k) ?_
  refine Go.st (T' := T0) (pc' := 18) (L' := #[.val (.int p1), .val (.int p2), .val (.int p3), .val (.int p4), .val (.int (0 : Int32)), .val (.int (p2 &&& (2147483647 : Int32))), .val (.int (p3 &&& (2147483647 : Int32))), .unset, .unset, .unset, .unset, .unset]) (S' := [(.int p4)]) (fun t k => XS.iloadN X0.here hx rfl (hb hby at_17) rfl  k) ?_
  refine Go.st (T' := T0) (pc' := 20) (L' := #[.val (.int p1), .val (.int p2), .val (.int p3), .val (.int p4), .val (.int (0 : Int32)), .val (.int (p2 &&& (2147483647 : Int32))), .val (.int (p3 &&& (2147483647 : Int32))), .unset, .unset, .unset, .unset, .unset]) (S' := [(.int (2147483647 : Int32)), (.int p4)]) (fun t k => X0.ldcInt hx hown (mvT hZ (hw _ (List.mem_of_getElem? (i := 0) rfl))) (g := (mkF m 18 #[.val (.int p1), .val (.int p2), .val (.int p3), .val (.int p4), .val (.int (0 : Int32)), .val (.int (p2 &&& (2147483647 : Int32))), .val (.int (p3 &&& (2147483647 : Int32))), .unset, .unset, .unset, .unset, .unset] [(.int p4)])) rfl (hb hby at_18) t k) ?_
  refine Go.st (T' := T0) (pc' := 21) (L' := #[.val (.int p1), .val (.int p2), .val (.int p3), .val (.int p4), .val (.int (0 : Int32)), .val (.int (p2 &&& (2147483647 : Int32))), .val (.int (p3 &&& (2147483647 : Int32))), .unset, .unset, .unset, .unset, .unset]) (S' := [(.int (p4 &&& (2147483647 : Int32)))]) (fun t k => XS.iand X0.here hx rfl (hb hby at_20) rfl k) ?_
  refine Go.st (T' := T0) (pc' := 23) (L' := #[.val (.int p1), .val (.int p2), .val (.int p3), .val (.int p4), .val (.int (0 : Int32)), .val (.int (p2 &&& (2147483647 : Int32))), .val (.int (p3 &&& (2147483647 : Int32))), .val (.int (p4 &&& (2147483647 : Int32))), .unset, .unset, .unset, .unset]) (S' := []) (fun t k => XS.istore X0.here hx rfl (hb hby at_21) rfl (l' := #[.val (.int p1), .val (.int p2), .val (.int p3), .val (.int p4), .val (.int (0 : Int32)), .val (.int (p2 &&& (2147483647 : Int32))), .val (.int (p3 &&& (2147483647 : Int32))), .val (.int (p4 &&& (2147483647 : Int32))), .unset, .unset, .unset, .unset]) rfl k) ?_
  obtain ⟨T1, h1, X1, e1, E1, A1, D1, U1, st1⟩ := newO X0 hx hZ hown (hw _ (List.mem_of_getElem? (i := 1) rfl)) (hw _ (List.mem_of_getElem? (i := 2) rfl)) (hw _ (List.mem_of_getElem? (i := 3) rfl)) e0 (g := (mkF m 23 #[.val (.int p1), .val (.int p2), .val (.int p3), .val (.int p4), .val (.int (0 : Int32)), .val (.int (p2 &&& (2147483647 : Int32))), .val (.int (p3 &&& (2147483647 : Int32))), .val (.int (p4 &&& (2147483647 : Int32))), .unset, .unset, .unset, .unset] [])) rfl (hb hby at_23) (by decide) (by decide)
  obtain ⟨b1, g1⟩ : ∃ z, z = h0.size := ⟨_, rfl⟩
  rw [← g1] at A1 D1 U1 st1
  have g_b1 : n0 ≤ b1 := Nat.le_trans Z0 (Nat.le_of_eq g1.symm)
  replace Z0 := Nat.le_trans Z0 E1.1
  have E_b1 := A1
  have F_b1_items : Fld Z h1 b1 "org/concordat/analysis/IntSet" "items" "[I" .null := D1 (Or.inl (hw _ (List.mem_of_getElem? (i := 12) rfl))) (ty := (.array .int)) (by decide)
  have F_b1_size : Fld Z h1 b1 "org/concordat/analysis/IntSet" "size" "I" (.int (0 : Int32)) := D1 (Or.inl (hw _ (List.mem_of_getElem? (i := 19) rfl))) (ty := .int) (by decide)
  have F_b1_bits : Fld Z h1 b1 "org/concordat/analysis/IntSet" "bits" "Ljava/util/BitSet;" .null := D1 (Or.inl (hw _ (List.mem_of_getElem? (i := 31) rfl))) (ty := (.object "java/util/BitSet")) (by decide)
  refine Go.st (T' := T1) (pc' := 26) (L' := #[.val (.int p1), .val (.int p2), .val (.int p3), .val (.int p4), .val (.int (0 : Int32)), .val (.int (p2 &&& (2147483647 : Int32))), .val (.int (p3 &&& (2147483647 : Int32))), .val (.int (p4 &&& (2147483647 : Int32))), .unset, .unset, .unset, .unset]) (S' := [(.ref b1)]) st1 ?_
  refine Go.st (T' := T1) (pc' := 27) (L' := #[.val (.int p1), .val (.int p2), .val (.int p3), .val (.int p4), .val (.int (0 : Int32)), .val (.int (p2 &&& (2147483647 : Int32))), .val (.int (p3 &&& (2147483647 : Int32))), .val (.int (p4 &&& (2147483647 : Int32))), .unset, .unset, .unset, .unset]) (S' := [(.ref b1), (.ref b1)]) (fun t k => XS.dup X1.here hx rfl (hb hby at_26) rfl rfl k) ?_
  obtain ⟨_, _, ⟨T2, L2, k2, n2⟩, -, X2, ⟨Lc2, hQ2, l2, y2, z2⟩, st2⟩ := X1.specialBack hx (y := (⟨"org/concordat/analysis/IntSet", "<init>", "()V"⟩ : MethodName)) rfl hown (mvT hZ (hw _ (List.mem_of_getElem? (i := 4) rfl))) (mvT hZ (hw _ (List.mem_of_getElem? (i := 5) rfl))) (mvT hZ (hw _ (List.mem_of_getElem? (i := 6) rfl))) (by decide) (backOf (W := 1) (rm1 l Z a0 hw [] b1 h1 n0 Z0 E_b1 g_b1 F_b1_items F_b1_size F_b1_bits) hZ (hw _ (List.mem_of_getElem? (i := 6) rfl)) (hw _ (List.mem_of_getElem? (i := 3) rfl)) (by decide) (by decide)) (g := (mkF m 27 #[.val (.int p1), .val (.int p2), .val (.int p3), .val (.int p4), .val (.int (0 : Int32)), .val (.int (p2 &&& (2147483647 : Int32))), .val (.int (p3 &&& (2147483647 : Int32))), .val (.int (p4 &&& (2147483647 : Int32))), .unset, .unset, .unset, .unset] [(.ref b1), (.ref b1)])) rfl (by rw [hml]; rfl) (Steps.refl _) (a := b1) (argsL := []) (rest := [(.ref b1)]) (lenOf pd_2 rfl) rfl (by show 2 * 0 + _ ≤ _; exact Nat.le_of_eq rfl) (hb hby at_27) (fun _ _ => ⟨rfl, e1, (by decide : 1 + 1 ≤ _), (by decide : 3 + 4 ≤ _)⟩)
  dsimp only [Pt.U, Pt.locs, Pt.cells, Pt.slots] at X2 l2 y2 z2 st2 hQ2
  subst l2 y2 z2
  obtain ⟨b, rfl, N2q, Zh2, g_b, hne, S2⟩ := hQ2
  have N2 := Fr.app N0 N2q
  obtain ⟨h2, e2⟩ : ∃ z, T2.heap = z := ⟨_, rfl⟩
  rw [e2] at Zh2 S2
  replace Z0 := Zh2
  have E_b1 := S2.1
  have F_sz := S2.2.2.1
  refine Go.tr (T' := T2) (pc' := 30) (L' := #[.val (.int p1), .val (.int p2), .val (.int p3), .val (.int p4), .val (.int (0 : Int32)), .val (.int (p2 &&& (2147483647 : Int32))), .val (.int (p3 &&& (2147483647 : Int32))), .val (.int (p4 &&& (2147483647 : Int32))), .unset, .unset, .unset, .unset]) (S' := [(.ref b1)]) st2 ?_
  refine Go.st (T' := T2) (pc' := 32) (L' := #[.val (.int p1), .val (.int p2), .val (.int p3), .val (.int p4), .val (.int (0 : Int32)), .val (.int (p2 &&& (2147483647 : Int32))), .val (.int (p3 &&& (2147483647 : Int32))), .val (.int (p4 &&& (2147483647 : Int32))), .val (.ref b1), .unset, .unset, .unset]) (S' := []) (fun t k => XS.astore X2.here hx rfl (hb hby at_30) rfl rfl (l' := #[.val (.int p1), .val (.int p2), .val (.int p3), .val (.int p4), .val (.int (0 : Int32)), .val (.int (p2 &&& (2147483647 : Int32))), .val (.int (p3 &&& (2147483647 : Int32))), .val (.int (p4 &&& (2147483647 : Int32))), .val (.ref b1), .unset, .unset, .unset]) rfl k) ?_
  refine Go.st (T' := T2) (pc' := 34) (L' := #[.val (.int p1), .val (.int p2), .val (.int p3), .val (.int p4), .val (.int (0 : Int32)), .val (.int (p2 &&& (2147483647 : Int32))), .val (.int (p3 &&& (2147483647 : Int32))), .val (.int (p4 &&& (2147483647 : Int32))), .val (.ref b1), .unset, .unset, .unset]) (S' := [(.ref b1)]) (fun t k => XS.aload X2.here hx rfl (hb hby at_32) rfl rfl  k) ?_
  obtain ⟨cq3, kq3, q3a, q3b, q3c⟩ := isOf hZ e2 E_b1
  obtain ⟨_, _, ⟨T3, L3, k3, n3⟩, -, X3, ⟨Lc3, hQ3, l3, y3, z3⟩, st3⟩ := X2.virtualBack hx (y := (⟨"org/concordat/analysis/IntSet", "isEmpty", "()Z"⟩ : MethodName)) (z := (⟨"org/concordat/analysis/IntSet", "isEmpty", "()Z"⟩ : MethodName)) hown (mvT hZ (hw _ (List.mem_of_getElem? (i := 13) rfl))) (mvT hZ (hw _ (List.mem_of_getElem? (i := 14) rfl))) (notFace_of_selects (args := #[]) (mvT hZ (hw _ (List.mem_of_getElem? (i := 16) rfl)))) (mvT hZ (hw _ (List.mem_of_getElem? (i := 16) rfl))) (mvT hZ (hw _ (List.mem_of_getElem? (i := 15) rfl))) (by decide) (backOf (W := 0) (rm3 l Z a0 hw [] b1 (Nat.toInt32 0) h2 n0 Z0 F_sz) hZ (hw _ (List.mem_of_getElem? (i := 17) rfl)) (hw _ (List.mem_of_getElem? (i := 3) rfl)) (by decide) (by decide)) q3a q3c (g := (mkF m 34 #[.val (.int p1), .val (.int p2), .val (.int p3), .val (.int p4), .val (.int (0 : Int32)), .val (.int (p2 &&& (2147483647 : Int32))), .val (.int (p3 &&& (2147483647 : Int32))), .val (.int (p4 &&& (2147483647 : Int32))), .val (.ref b1), .unset, .unset, .unset] [(.ref b1)])) rfl (by rw [hml]; rfl) (Steps.refl _) (argsL := []) (rest := []) (lenOf pd_3 rfl) rfl (by show 2 * 0 + _ ≤ _; exact Nat.le_of_eq rfl) (hb hby at_34) (fun _ _ => ⟨rfl, e2, (by decide : 2 + 0 ≤ _), (by decide : 7 + 0 ≤ _)⟩)
  dsimp only [Pt.U, Pt.locs, Pt.cells, Pt.slots] at X3 l3 y3 z3 st3 hQ3
  subst l3 y3 z3
  obtain ⟨rfl, N3q, e3⟩ := hQ3
  have N3 := Fr.app N2 N3q
  refine Go.tr (T' := T3) (pc' := 37) (L' := #[.val (.int p1), .val (.int p2), .val (.int p3), .val (.int p4), .val (.int (0 : Int32)), .val (.int (p2 &&& (2147483647 : Int32))), .val (.int (p3 &&& (2147483647 : Int32))), .val (.int (p4 &&& (2147483647 : Int32))), .val (.ref b1), .unset, .unset, .unset]) (S' := [(.int (if (Nat.toInt32 0) = (0 : Int32) then (1 : Int32) else (0 : Int32)))]) st3 ?_
  rw [if_pos (by decide : Nat.toInt32 0 = (0 : Int32))]
  refine Go.st (T' := T3) (pc' := 39) (L' := #[.val (.int p1), .val (.int p2), .val (.int p3), .val (.int p4), .val (.int (0 : Int32)), .val (.int (p2 &&& (2147483647 : Int32))), .val (.int (p3 &&& (2147483647 : Int32))), .val (.int (p4 &&& (2147483647 : Int32))), .val (.ref b1), .val (.int (1 : Int32)), .unset, .unset]) (S' := []) (fun t k => XS.istore X3.here hx rfl (hb hby at_37) rfl (l' := #[.val (.int p1), .val (.int p2), .val (.int p3), .val (.int p4), .val (.int (0 : Int32)), .val (.int (p2 &&& (2147483647 : Int32))), .val (.int (p3 &&& (2147483647 : Int32))), .val (.int (p4 &&& (2147483647 : Int32))), .val (.ref b1), .val (.int (1 : Int32)), .unset, .unset]) rfl k) ?_
  refine Go.st (T' := T3) (pc' := 41) (L' := #[.val (.int p1), .val (.int p2), .val (.int p3), .val (.int p4), .val (.int (0 : Int32)), .val (.int (p2 &&& (2147483647 : Int32))), .val (.int (p3 &&& (2147483647 : Int32))), .val (.int (p4 &&& (2147483647 : Int32))), .val (.ref b1), .val (.int (1 : Int32)), .unset, .unset]) (S' := [(.int (0 : Int32))]) (fun t k => XS.iload X3.here hx rfl (hb hby at_39) rfl  k) ?_
  refine Go.st (T' := T3) (pc' := 42) (L' := #[.val (.int p1), .val (.int p2), .val (.int p3), .val (.int p4), .val (.int (0 : Int32)), .val (.int (p2 &&& (2147483647 : Int32))), .val (.int (p3 &&& (2147483647 : Int32))), .val (.int (p4 &&& (2147483647 : Int32))), .val (.ref b1), .val (.int (1 : Int32)), .unset, .unset]) (S' := [(.int (1 : Int32)), (.int (0 : Int32))]) (fun t k => XS.iconst X3.here hx rfl (hb hby at_41) k) ?_
  refine Go.st (T' := T3) (pc' := 53) (L' := #[.val (.int p1), .val (.int p2), .val (.int p3), .val (.int p4), .val (.int (0 : Int32)), .val (.int (p2 &&& (2147483647 : Int32))), .val (.int (p3 &&& (2147483647 : Int32))), .val (.int (p4 &&& (2147483647 : Int32))), .val (.ref b1), .val (.int (1 : Int32)), .unset, .unset]) (S' := []) (fun t k => XS.icmpYes X3.here hx rfl (pc0 := 42) (pc' := 53) rfl (hb hby at_42) rfl (tlt (by decide : ((0 : Int32) < (1 : Int32)))).1 (by decide) (by decide) k) ?_
  refine Go.st (T' := T3) (pc' := 55) (L' := #[.val (.int p1), .val (.int p2), .val (.int p3), .val (.int p4), .val (.int (0 : Int32)), .val (.int (p2 &&& (2147483647 : Int32))), .val (.int (p3 &&& (2147483647 : Int32))), .val (.int (p4 &&& (2147483647 : Int32))), .val (.ref b1), .val (.int (1 : Int32)), .unset, .unset]) (S' := [(.int (0 : Int32))]) (fun t k => XS.iload X3.here hx rfl (hb hby at_53) rfl  k) ?_
  refine Go.st (T' := T3) (pc' := 56) (L' := #[.val (.int p1), .val (.int p2), .val (.int p3), .val (.int p4), .val (.int (0 : Int32)), .val (.int (p2 &&& (2147483647 : Int32))), .val (.int (p3 &&& (2147483647 : Int32))), .val (.int (p4 &&& (2147483647 : Int32))), .val (.ref b1), .val (.int (1 : Int32)), .unset, .unset]) (S' := [(.int (2 : Int32)), (.int (0 : Int32))]) (fun t k => XS.iconst X3.here hx rfl (hb hby at_55) k) ?_
  refine Go.st (T' := T3) (pc' := 67) (L' := #[.val (.int p1), .val (.int p2), .val (.int p3), .val (.int p4), .val (.int (0 : Int32)), .val (.int (p2 &&& (2147483647 : Int32))), .val (.int (p3 &&& (2147483647 : Int32))), .val (.int (p4 &&& (2147483647 : Int32))), .val (.ref b1), .val (.int (1 : Int32)), .unset, .unset]) (S' := []) (fun t k => XS.icmpYes X3.here hx rfl (pc0 := 56) (pc' := 67) rfl (hb hby at_56) rfl (tlt (by decide : ((0 : Int32) < (2 : Int32)))).1 (by decide) (by decide) k) ?_
  refine Go.st (T' := T3) (pc' := 69) (L' := #[.val (.int p1), .val (.int p2), .val (.int p3), .val (.int p4), .val (.int (0 : Int32)), .val (.int (p2 &&& (2147483647 : Int32))), .val (.int (p3 &&& (2147483647 : Int32))), .val (.int (p4 &&& (2147483647 : Int32))), .val (.ref b1), .val (.int (1 : Int32)), .unset, .unset]) (S' := [(.int (0 : Int32))]) (fun t k => XS.iload X3.here hx rfl (hb hby at_67) rfl  k) ?_
  refine Go.st (T' := T3) (pc' := 70) (L' := #[.val (.int p1), .val (.int p2), .val (.int p3), .val (.int p4), .val (.int (0 : Int32)), .val (.int (p2 &&& (2147483647 : Int32))), .val (.int (p3 &&& (2147483647 : Int32))), .val (.int (p4 &&& (2147483647 : Int32))), .val (.ref b1), .val (.int (1 : Int32)), .unset, .unset]) (S' := [(.int (3 : Int32)), (.int (0 : Int32))]) (fun t k => XS.iconst X3.here hx rfl (hb hby at_69) k) ?_
  refine Go.st (T' := T3) (pc' := 81) (L' := #[.val (.int p1), .val (.int p2), .val (.int p3), .val (.int p4), .val (.int (0 : Int32)), .val (.int (p2 &&& (2147483647 : Int32))), .val (.int (p3 &&& (2147483647 : Int32))), .val (.int (p4 &&& (2147483647 : Int32))), .val (.ref b1), .val (.int (1 : Int32)), .unset, .unset]) (S' := []) (fun t k => XS.icmpYes X3.here hx rfl (pc0 := 70) (pc' := 81) rfl (hb hby at_70) rfl (tlt (by decide : ((0 : Int32) < (3 : Int32)))).1 (by decide) (by decide) k) ?_
  refine Go.st (T' := T3) (pc' := 83) (L' := #[.val (.int p1), .val (.int p2), .val (.int p3), .val (.int p4), .val (.int (0 : Int32)), .val (.int (p2 &&& (2147483647 : Int32))), .val (.int (p3 &&& (2147483647 : Int32))), .val (.int (p4 &&& (2147483647 : Int32))), .val (.ref b1), .val (.int (1 : Int32)), .unset, .unset]) (S' := [(.ref b1)]) (fun t k => XS.aload X3.here hx rfl (hb hby at_81) rfl rfl  k) ?_
  obtain ⟨cq4, kq4, q4a, q4b, q4c⟩ := isOf hZ e3 E_b1
  obtain ⟨_, _, ⟨T4, L4, k4, n4⟩, -, X4, ⟨Lc4, hQ4, l4, y4, z4⟩, st4⟩ := X3.virtualBack hx (y := (⟨"org/concordat/analysis/IntSet", "isEmpty", "()Z"⟩ : MethodName)) (z := (⟨"org/concordat/analysis/IntSet", "isEmpty", "()Z"⟩ : MethodName)) hown (mvT hZ (hw _ (List.mem_of_getElem? (i := 13) rfl))) (mvT hZ (hw _ (List.mem_of_getElem? (i := 14) rfl))) (notFace_of_selects (args := #[]) (mvT hZ (hw _ (List.mem_of_getElem? (i := 16) rfl)))) (mvT hZ (hw _ (List.mem_of_getElem? (i := 16) rfl))) (mvT hZ (hw _ (List.mem_of_getElem? (i := 15) rfl))) (by decide) (backOf (W := 0) (rm3 l Z a0 hw [] b1 (Nat.toInt32 0) h2 n0 Z0 F_sz) hZ (hw _ (List.mem_of_getElem? (i := 17) rfl)) (hw _ (List.mem_of_getElem? (i := 3) rfl)) (by decide) (by decide)) q4a q4c (g := (mkF m 83 #[.val (.int p1), .val (.int p2), .val (.int p3), .val (.int p4), .val (.int (0 : Int32)), .val (.int (p2 &&& (2147483647 : Int32))), .val (.int (p3 &&& (2147483647 : Int32))), .val (.int (p4 &&& (2147483647 : Int32))), .val (.ref b1), .val (.int (1 : Int32)), .unset, .unset] [(.ref b1)])) rfl (by rw [hml]; rfl) (Steps.refl _) (argsL := []) (rest := []) (lenOf pd_3 rfl) rfl (by show 2 * 0 + _ ≤ _; exact Nat.le_of_eq rfl) (hb hby at_83) (fun _ _ => ⟨rfl, e3, (by decide : 2 + 0 ≤ _), (by decide : 7 + 0 ≤ _)⟩)
  dsimp only [Pt.U, Pt.locs, Pt.cells, Pt.slots] at X4 l4 y4 z4 st4 hQ4
  subst l4 y4 z4
  obtain ⟨rfl, N4q, e4⟩ := hQ4
  have N4 := Fr.app N3 N4q
  refine Go.tr (T' := T4) (pc' := 86) (L' := #[.val (.int p1), .val (.int p2), .val (.int p3), .val (.int p4), .val (.int (0 : Int32)), .val (.int (p2 &&& (2147483647 : Int32))), .val (.int (p3 &&& (2147483647 : Int32))), .val (.int (p4 &&& (2147483647 : Int32))), .val (.ref b1), .val (.int (1 : Int32)), .unset, .unset]) (S' := [(.int (if (Nat.toInt32 0) = (0 : Int32) then (1 : Int32) else (0 : Int32)))]) st4 ?_
  rw [if_pos (by decide : Nat.toInt32 0 = (0 : Int32))]
  refine Go.st (T' := T4) (pc' := 88) (L' := #[.val (.int p1), .val (.int p2), .val (.int p3), .val (.int p4), .val (.int (0 : Int32)), .val (.int (p2 &&& (2147483647 : Int32))), .val (.int (p3 &&& (2147483647 : Int32))), .val (.int (p4 &&& (2147483647 : Int32))), .val (.ref b1), .val (.int (1 : Int32)), .val (.int (1 : Int32)), .unset]) (S' := []) (fun t k => XS.istore X4.here hx rfl (hb hby at_86) rfl (l' := #[.val (.int p1), .val (.int p2), .val (.int p3), .val (.int p4), .val (.int (0 : Int32)), .val (.int (p2 &&& (2147483647 : Int32))), .val (.int (p3 &&& (2147483647 : Int32))), .val (.int (p4 &&& (2147483647 : Int32))), .val (.ref b1), .val (.int (1 : Int32)), .val (.int (1 : Int32)), .unset]) rfl k) ?_
  refine Go.st (T' := T4) (pc' := 90) (L' := #[.val (.int p1), .val (.int p2), .val (.int p3), .val (.int p4), .val (.int (0 : Int32)), .val (.int (p2 &&& (2147483647 : Int32))), .val (.int (p3 &&& (2147483647 : Int32))), .val (.int (p4 &&& (2147483647 : Int32))), .val (.ref b1), .val (.int (1 : Int32)), .val (.int (1 : Int32)), .unset]) (S' := [(.int (0 : Int32))]) (fun t k => XS.iload X4.here hx rfl (hb hby at_88) rfl  k) ?_
  refine Go.st (T' := T4) (pc' := 93) (L' := #[.val (.int p1), .val (.int p2), .val (.int p3), .val (.int p4), .val (.int (0 : Int32)), .val (.int (p2 &&& (2147483647 : Int32))), .val (.int (p3 &&& (2147483647 : Int32))), .val (.int (p4 &&& (2147483647 : Int32))), .val (.ref b1), .val (.int (1 : Int32)), .val (.int (1 : Int32)), .unset]) (S' := []) (fun t k => XS.ifNo X4.here hx rfl (hb hby at_90) rfl ((if0 _ _).trans (teq (by decide : ((0 : Int32) = (0 : Int32)))).2) k) ?_
  refine Go.st (T' := T4) (pc' := 94) (L' := #[.val (.int p1), .val (.int p2), .val (.int p3), .val (.int p4), .val (.int (0 : Int32)), .val (.int (p2 &&& (2147483647 : Int32))), .val (.int (p3 &&& (2147483647 : Int32))), .val (.int (p4 &&& (2147483647 : Int32))), .val (.ref b1), .val (.int (1 : Int32)), .val (.int (1 : Int32)), .unset]) (S' := [(.int (1 : Int32))]) (fun t k => XS.iconst X4.here hx rfl (hb hby at_93) k) ?_
  refine Go.st (T' := T4) (pc' := 98) (L' := #[.val (.int p1), .val (.int p2), .val (.int p3), .val (.int p4), .val (.int (0 : Int32)), .val (.int (p2 &&& (2147483647 : Int32))), .val (.int (p3 &&& (2147483647 : Int32))), .val (.int (p4 &&& (2147483647 : Int32))), .val (.ref b1), .val (.int (1 : Int32)), .val (.int (1 : Int32)), .unset]) (S' := [(.int (1 : Int32))]) (fun t k => XS.goto X4.here hx rfl (pc0 := 94) (pc' := 98) rfl (hb hby at_94) (by decide) (by decide) k) ?_
  refine Go.st (T' := T4) (pc' := 100) (L' := #[.val (.int p1), .val (.int p2), .val (.int p3), .val (.int p4), .val (.int (0 : Int32)), .val (.int (p2 &&& (2147483647 : Int32))), .val (.int (p3 &&& (2147483647 : Int32))), .val (.int (p4 &&& (2147483647 : Int32))), .val (.ref b1), .val (.int (1 : Int32)), .val (.int (1 : Int32)), .val (.int (1 : Int32))]) (S' := []) (fun t k => XS.istore X4.here hx rfl (hb hby at_98) rfl (l' := #[.val (.int p1), .val (.int p2), .val (.int p3), .val (.int p4), .val (.int (0 : Int32)), .val (.int (p2 &&& (2147483647 : Int32))), .val (.int (p3 &&& (2147483647 : Int32))), .val (.int (p4 &&& (2147483647 : Int32))), .val (.ref b1), .val (.int (1 : Int32)), .val (.int (1 : Int32)), .val (.int (1 : Int32))]) rfl k) ?_
  refine Go.st (T' := T4) (pc' := 102) (L' := #[.val (.int p1), .val (.int p2), .val (.int p3), .val (.int p4), .val (.int (0 : Int32)), .val (.int (p2 &&& (2147483647 : Int32))), .val (.int (p3 &&& (2147483647 : Int32))), .val (.int (p4 &&& (2147483647 : Int32))), .val (.ref b1), .val (.int (1 : Int32)), .val (.int (1 : Int32)), .val (.int (1 : Int32))]) (S' := [(.int (1 : Int32))]) (fun t k => XS.iload X4.here hx rfl (hb hby at_100) rfl  k) ?_
  refine Go.st (T' := T4) (pc' := 105) (L' := #[.val (.int p1), .val (.int p2), .val (.int p3), .val (.int p4), .val (.int (0 : Int32)), .val (.int (p2 &&& (2147483647 : Int32))), .val (.int (p3 &&& (2147483647 : Int32))), .val (.int (p4 &&& (2147483647 : Int32))), .val (.ref b1), .val (.int (1 : Int32)), .val (.int (1 : Int32)), .val (.int (1 : Int32))]) (S' := []) (fun t k => XS.ifNo X4.here hx rfl (hb hby at_102) rfl ((if0 _ _).trans (feq (by decide : ¬ ((1 : Int32) = (0 : Int32)))).1) k) ?_
  refine Go.st (T' := T4) (pc' := 107) (L' := #[.val (.int p1), .val (.int p2), .val (.int p3), .val (.int p4), .val (.int (0 : Int32)), .val (.int (p2 &&& (2147483647 : Int32))), .val (.int (p3 &&& (2147483647 : Int32))), .val (.int (p4 &&& (2147483647 : Int32))), .val (.ref b1), .val (.int (1 : Int32)), .val (.int (1 : Int32)), .val (.int (1 : Int32))]) (S' := [(.int (1 : Int32))]) (fun t k => XS.iload X4.here hx rfl (hb hby at_105) rfl  k) ?_
  refine Go.st (T' := T4) (pc' := 109) (L' := #[.val (.int p1), .val (.int p2), .val (.int p3), .val (.int p4), .val (.int (0 : Int32)), .val (.int (p2 &&& (2147483647 : Int32))), .val (.int (p3 &&& (2147483647 : Int32))), .val (.int (p4 &&& (2147483647 : Int32))), .val (.ref b1), .val (.int (1 : Int32)), .val (.int (1 : Int32)), .val (.int (1 : Int32))]) (S' := [(.int (1 : Int32)), (.int (1 : Int32))]) (fun t k => XS.iload X4.here hx rfl (hb hby at_107) rfl  k) ?_
  refine Go.st (T' := T4) (pc' := 112) (L' := #[.val (.int p1), .val (.int p2), .val (.int p3), .val (.int p4), .val (.int (0 : Int32)), .val (.int (p2 &&& (2147483647 : Int32))), .val (.int (p3 &&& (2147483647 : Int32))), .val (.int (p4 &&& (2147483647 : Int32))), .val (.ref b1), .val (.int (1 : Int32)), .val (.int (1 : Int32)), .val (.int (1 : Int32))]) (S' := []) (fun t k => XS.icmpNo X4.here hx rfl (hb hby at_109) rfl (teq (by decide : ((1 : Int32) = (1 : Int32)))).2 k) ?_
  refine Go.st (T' := T4) (pc' := 114) (L' := #[.val (.int p1), .val (.int p2), .val (.int p3), .val (.int p4), .val (.int (0 : Int32)), .val (.int (p2 &&& (2147483647 : Int32))), .val (.int (p3 &&& (2147483647 : Int32))), .val (.int (p4 &&& (2147483647 : Int32))), .val (.ref b1), .val (.int (1 : Int32)), .val (.int (1 : Int32)), .val (.int (1 : Int32))]) (S' := [(.int (1 : Int32))]) (fun t k => XS.iload X4.here hx rfl (hb hby at_112) rfl  k) ?_
  refine Go.st (T' := T4) (pc' := 116) (L' := #[.val (.int p1), .val (.int p2), .val (.int p3), .val (.int p4), .val (.int (0 : Int32)), .val (.int (p2 &&& (2147483647 : Int32))), .val (.int (p3 &&& (2147483647 : Int32))), .val (.int (p4 &&& (2147483647 : Int32))), .val (.ref b1), .val (.int (1 : Int32)), .val (.int (1 : Int32)), .val (.int (1 : Int32))]) (S' := [(.ref b1), (.int (1 : Int32))]) (fun t k => XS.aload X4.here hx rfl (hb hby at_114) rfl rfl  k) ?_
  obtain ⟨cq5, kq5, q5a, q5b, q5c⟩ := isOf hZ e4 E_b1
  obtain ⟨_, _, ⟨T5, L5, k5, n5⟩, -, X5, ⟨Lc5, hQ5, l5, y5, z5⟩, st5⟩ := X4.virtualBack hx (y := (⟨"org/concordat/analysis/IntSet", "size", "()I"⟩ : MethodName)) (z := (⟨"org/concordat/analysis/IntSet", "size", "()I"⟩ : MethodName)) hown (mvT hZ (hw _ (List.mem_of_getElem? (i := 20) rfl))) (mvT hZ (hw _ (List.mem_of_getElem? (i := 21) rfl))) (notFace_of_selects (args := #[]) (mvT hZ (hw _ (List.mem_of_getElem? (i := 23) rfl)))) (mvT hZ (hw _ (List.mem_of_getElem? (i := 23) rfl))) (mvT hZ (hw _ (List.mem_of_getElem? (i := 22) rfl))) (by decide) (backOf (W := 1) (rm4 l Z a0 hw [] b1 (Nat.toInt32 0) h2 n0 Z0 F_sz) hZ (hw _ (List.mem_of_getElem? (i := 24) rfl)) (hw _ (List.mem_of_getElem? (i := 3) rfl)) (by decide) (by decide)) q5a q5c (g := (mkF m 116 #[.val (.int p1), .val (.int p2), .val (.int p3), .val (.int p4), .val (.int (0 : Int32)), .val (.int (p2 &&& (2147483647 : Int32))), .val (.int (p3 &&& (2147483647 : Int32))), .val (.int (p4 &&& (2147483647 : Int32))), .val (.ref b1), .val (.int (1 : Int32)), .val (.int (1 : Int32)), .val (.int (1 : Int32))] [(.ref b1), (.int (1 : Int32))])) rfl (by rw [hml]; rfl) (Steps.refl _) (argsL := []) (rest := [(.int (1 : Int32))]) (lenOf pd_4 rfl) rfl (by show 2 * 0 + _ ≤ _; exact Nat.le_of_eq rfl) (hb hby at_116) (fun _ _ => ⟨rfl, e4, (by decide : 2 + 0 ≤ _), (by decide : 7 + 0 ≤ _)⟩)
  dsimp only [Pt.U, Pt.locs, Pt.cells, Pt.slots] at X5 l5 y5 z5 st5 hQ5
  subst l5 y5 z5
  obtain ⟨rfl, N5q, e5⟩ := hQ5
  have N5 := Fr.app N4 N5q
  refine Go.tr (T' := T5) (pc' := 119) (L' := #[.val (.int p1), .val (.int p2), .val (.int p3), .val (.int p4), .val (.int (0 : Int32)), .val (.int (p2 &&& (2147483647 : Int32))), .val (.int (p3 &&& (2147483647 : Int32))), .val (.int (p4 &&& (2147483647 : Int32))), .val (.ref b1), .val (.int (1 : Int32)), .val (.int (1 : Int32)), .val (.int (1 : Int32))]) (S' := [(.int (Nat.toInt32 0)), (.int (1 : Int32))]) st5 ?_
  refine Go.st (T' := T5) (pc' := 122) (L' := #[.val (.int p1), .val (.int p2), .val (.int p3), .val (.int p4), .val (.int (0 : Int32)), .val (.int (p2 &&& (2147483647 : Int32))), .val (.int (p3 &&& (2147483647 : Int32))), .val (.int (p4 &&& (2147483647 : Int32))), .val (.ref b1), .val (.int (1 : Int32)), .val (.int (1 : Int32)), .val (.int (1 : Int32))]) (S' := [(.int (1 : Int32))]) (fun t k => XS.ifNo X5.here hx rfl (hb hby at_119) rfl ((if0 _ _).trans (teq (by decide : ((Nat.toInt32 0) = (0 : Int32)))).2) k) ?_
  refine Go.st (T' := T5) (pc' := 123) (L' := #[.val (.int p1), .val (.int p2), .val (.int p3), .val (.int p4), .val (.int (0 : Int32)), .val (.int (p2 &&& (2147483647 : Int32))), .val (.int (p3 &&& (2147483647 : Int32))), .val (.int (p4 &&& (2147483647 : Int32))), .val (.ref b1), .val (.int (1 : Int32)), .val (.int (1 : Int32)), .val (.int (1 : Int32))]) (S' := [(.int (1 : Int32)), (.int (1 : Int32))]) (fun t k => XS.iconst X5.here hx rfl (hb hby at_122) k) ?_
  refine Go.st (T' := T5) (pc' := 127) (L' := #[.val (.int p1), .val (.int p2), .val (.int p3), .val (.int p4), .val (.int (0 : Int32)), .val (.int (p2 &&& (2147483647 : Int32))), .val (.int (p3 &&& (2147483647 : Int32))), .val (.int (p4 &&& (2147483647 : Int32))), .val (.ref b1), .val (.int (1 : Int32)), .val (.int (1 : Int32)), .val (.int (1 : Int32))]) (S' := [(.int (1 : Int32)), (.int (1 : Int32))]) (fun t k => XS.goto X5.here hx rfl (pc0 := 123) (pc' := 127) rfl (hb hby at_123) (by decide) (by decide) k) ?_
  refine Go.st (T' := T5) (pc' := 130) (L' := #[.val (.int p1), .val (.int p2), .val (.int p3), .val (.int p4), .val (.int (0 : Int32)), .val (.int (p2 &&& (2147483647 : Int32))), .val (.int (p3 &&& (2147483647 : Int32))), .val (.int (p4 &&& (2147483647 : Int32))), .val (.ref b1), .val (.int (1 : Int32)), .val (.int (1 : Int32)), .val (.int (1 : Int32))]) (S' := []) (fun t k => XS.icmpNo X5.here hx rfl (hb hby at_127) rfl (teq (by decide : ((1 : Int32) = (1 : Int32)))).2 k) ?_
  refine Go.st (T' := T5) (pc' := 132) (L' := #[.val (.int p1), .val (.int p2), .val (.int p3), .val (.int p4), .val (.int (0 : Int32)), .val (.int (p2 &&& (2147483647 : Int32))), .val (.int (p3 &&& (2147483647 : Int32))), .val (.int (p4 &&& (2147483647 : Int32))), .val (.ref b1), .val (.int (1 : Int32)), .val (.int (1 : Int32)), .val (.int (1 : Int32))]) (S' := [(.int (1 : Int32))]) (fun t k => XS.iload X5.here hx rfl (hb hby at_130) rfl  k) ?_
  refine Go.st (T' := T5) (pc' := 135) (L' := #[.val (.int p1), .val (.int p2), .val (.int p3), .val (.int p4), .val (.int (0 : Int32)), .val (.int (p2 &&& (2147483647 : Int32))), .val (.int (p3 &&& (2147483647 : Int32))), .val (.int (p4 &&& (2147483647 : Int32))), .val (.ref b1), .val (.int (1 : Int32)), .val (.int (1 : Int32)), .val (.int (1 : Int32))]) (S' := []) (fun t k => XS.ifNo X5.here hx rfl (hb hby at_132) rfl ((if0 _ _).trans (feq (by decide : ¬ ((1 : Int32) = (0 : Int32)))).1) k) ?_
  refine Go.st (T' := T5) (pc' := 137) (L' := #[.val (.int p1), .val (.int p2), .val (.int p3), .val (.int p4), .val (.int (0 : Int32)), .val (.int (p2 &&& (2147483647 : Int32))), .val (.int (p3 &&& (2147483647 : Int32))), .val (.int (p4 &&& (2147483647 : Int32))), .val (.ref b1), .val (.int (1 : Int32)), .val (.int (1 : Int32)), .val (.int (1 : Int32))]) (S' := [(.ref b1)]) (fun t k => XS.aload X5.here hx rfl (hb hby at_135) rfl rfl  k) ?_
  refine Go.st (T' := T5) (pc' := 139) (L' := #[.val (.int p1), .val (.int p2), .val (.int p3), .val (.int p4), .val (.int (0 : Int32)), .val (.int (p2 &&& (2147483647 : Int32))), .val (.int (p3 &&& (2147483647 : Int32))), .val (.int (p4 &&& (2147483647 : Int32))), .val (.ref b1), .val (.int (1 : Int32)), .val (.int (1 : Int32)), .val (.int (1 : Int32))]) (S' := [(.int (p2 &&& (2147483647 : Int32))), (.ref b1)]) (fun t k => XS.iload X5.here hx rfl (hb hby at_137) rfl  k) ?_
  obtain ⟨cq6, kq6, q6a, q6b, q6c⟩ := isOf hZ e5 E_b1
  obtain ⟨_, _, ⟨T6, L6, k6, n6⟩, -, X6, ⟨Lc6, hQ6, l6, y6, z6⟩, st6⟩ := X5.virtualBack hx (y := (⟨"org/concordat/analysis/IntSet", "contains", "(I)Z"⟩ : MethodName)) (z := (⟨"org/concordat/analysis/IntSet", "contains", "(I)Z"⟩ : MethodName)) hown (mvT hZ (hw _ (List.mem_of_getElem? (i := 25) rfl))) (mvT hZ (hw _ (List.mem_of_getElem? (i := 26) rfl))) (notFace_of_selects (args := #[]) (mvT hZ (hw _ (List.mem_of_getElem? (i := 28) rfl)))) (mvT hZ (hw _ (List.mem_of_getElem? (i := 28) rfl))) (mvT hZ (hw _ (List.mem_of_getElem? (i := 27) rfl))) (by decide) (backOf (W := 0) (rm5 l Z a0 hw [] b1 b (p2 &&& (2147483647 : Int32)) h2 n0 Z0 g_b1 g_b hne S2) hZ (hw _ (List.mem_of_getElem? (i := 29) rfl)) (hw _ (List.mem_of_getElem? (i := 3) rfl)) (by decide) (by decide)) q6a q6c (g := (mkF m 139 #[.val (.int p1), .val (.int p2), .val (.int p3), .val (.int p4), .val (.int (0 : Int32)), .val (.int (p2 &&& (2147483647 : Int32))), .val (.int (p3 &&& (2147483647 : Int32))), .val (.int (p4 &&& (2147483647 : Int32))), .val (.ref b1), .val (.int (1 : Int32)), .val (.int (1 : Int32)), .val (.int (1 : Int32))] [(.int (p2 &&& (2147483647 : Int32))), (.ref b1)])) rfl (by rw [hml]; rfl) (Steps.refl _) (argsL := [(.int (p2 &&& (2147483647 : Int32)))]) (rest := []) (lenOf pd_5 rfl) rfl (by show 2 * 0 + _ ≤ _; exact Nat.le_of_eq rfl) (hb hby at_139) (fun _ _ => ⟨rfl, e5, (by decide : 2 + 0 ≤ _), (by decide : 7 + 0 ≤ _)⟩)
  dsimp only [Pt.U, Pt.locs, Pt.cells, Pt.slots] at X6 l6 y6 z6 st6 hQ6
  subst l6 y6 z6
  obtain ⟨rfl, N6q, e6⟩ := hQ6
  have N6 := Fr.app N5 N6q
  refine Go.tr (T' := T6) (pc' := 142) (L' := #[.val (.int p1), .val (.int p2), .val (.int p3), .val (.int p4), .val (.int (0 : Int32)), .val (.int (p2 &&& (2147483647 : Int32))), .val (.int (p3 &&& (2147483647 : Int32))), .val (.int (p4 &&& (2147483647 : Int32))), .val (.ref b1), .val (.int (1 : Int32)), .val (.int (1 : Int32)), .val (.int (1 : Int32))]) (S' := [(.int 0)]) st6 ?_
  refine Go.st (T' := T6) (pc' := 145) (L' := #[.val (.int p1), .val (.int p2), .val (.int p3), .val (.int p4), .val (.int (0 : Int32)), .val (.int (p2 &&& (2147483647 : Int32))), .val (.int (p3 &&& (2147483647 : Int32))), .val (.int (p4 &&& (2147483647 : Int32))), .val (.ref b1), .val (.int (1 : Int32)), .val (.int (1 : Int32)), .val (.int (1 : Int32))]) (S' := []) (fun t k => XS.ifNo X6.here hx rfl (hb hby at_142) rfl ((if0 _ _).trans (teq (by decide : ((0 : Int32) = (0 : Int32)))).2) k) ?_
  refine Go.st (T' := T6) (pc' := 146) (L' := #[.val (.int p1), .val (.int p2), .val (.int p3), .val (.int p4), .val (.int (0 : Int32)), .val (.int (p2 &&& (2147483647 : Int32))), .val (.int (p3 &&& (2147483647 : Int32))), .val (.int (p4 &&& (2147483647 : Int32))), .val (.ref b1), .val (.int (1 : Int32)), .val (.int (1 : Int32)), .val (.int (1 : Int32))]) (S' := [(.int (1 : Int32))]) (fun t k => XS.iconst X6.here hx rfl (hb hby at_145) k) ?_
  refine Go.st (T' := T6) (pc' := 150) (L' := #[.val (.int p1), .val (.int p2), .val (.int p3), .val (.int p4), .val (.int (0 : Int32)), .val (.int (p2 &&& (2147483647 : Int32))), .val (.int (p3 &&& (2147483647 : Int32))), .val (.int (p4 &&& (2147483647 : Int32))), .val (.ref b1), .val (.int (1 : Int32)), .val (.int (1 : Int32)), .val (.int (1 : Int32))]) (S' := [(.int (1 : Int32))]) (fun t k => XS.goto X6.here hx rfl (pc0 := 146) (pc' := 150) rfl (hb hby at_146) (by decide) (by decide) k) ?_
  exact Go.retN X6 hx hlk hret (by simp) (hb hby at_150) (by decide) (by decide) (by rw [e6]; exact ⟨rfl, N6⟩)

def Q0_1 (Z : State)  (h0 : Heap) (n0 : Nat) (v : Option Value) (h : Heap) (L : List Loc) : Prop := v = some (.int 1) ∧ Fr n0 L
set_option maxRecDepth 65536 in
set_option maxHeartbeats 40000000 in
theorem rm0_1 (l : Launch) (Z : State) (a0 : Array Value) (hw : ∀ d ∈ tables_1, d.before a0 Z = true) (ws : List Jvm.Cond) (p1 : Int32) (p2 : Int32) (p3 : Int32) (p4 : Int32) (h0 : Heap) (n0 : Nat) (Z0 : n0 ≤ h0.size) (hk : p1 &&& (3 : Int32) = (1 : Int32)) :
    MetFree l x (head1 (Jvm.Cond.code x code maxLocals ret :: ws) room_1) (fun aa_ U_ => aa_ = #[(.int p1), (.int p2), (.int p3), (.int p4)] ∧ Z.Warmed39 U_.vm ∧ U_.heap = h0) (fun _ _ _ _ _ => True) (fun _ U_ o_ W_ => ∃ v_ L_, o_ = .returned v_ ∧ (Q0_1 Z  h0 n0) v_ W_.heap L_ ∧ FrameEnd U_ o_ W_ L_ room_1.cells room_1.slots) := by
  refine own_met (Q := (Q0_1 Z  h0 n0)) (L0 := #[.val (.int p1), .val (.int p2), .val (.int p3), .val (.int p4), .unset, .unset, .unset, .unset, .unset, .unset, .unset, .unset]) (plainFor_of_name pn_2) (fun m => by first | (simp [entryFrame, mkF, argsToLocals, Value.category, maxLocals]; done) | rfl) ?_
  intro p e s m below meth c T0 X0 hx hby hml hown hnm hret hlk hZ e0
  have N0 := Fr.nil n0
  refine Go.st (T' := T0) (pc' := 1) (L' := #[.val (.int p1), .val (.int p2), .val (.int p3), .val (.int p4), .unset, .unset, .unset, .unset, .unset, .unset, .unset, .unset]) (S' := [(.int p1)]) (fun t k => XS.iloadN X0.here hx rfl (hb hby at_0) rfl  k) ?_
  refine Go.st (T' := T0) (pc' := 2) (L' := #[.val (.int p1), .val (.int p2), .val (.int p3), .val (.int p4), .unset, .unset, .unset, .unset, .unset, .unset, .unset, .unset]) (S' := [(.int (3 : Int32)), (.int p1)]) (fun t k => XS.iconst X0.here hx rfl (hb hby at_1) k) ?_
  refine Go.st (T' := T0) (pc' := 3) (L' := #[.val (.int p1), .val (.int p2), .val (.int p3), .val (.int p4), .unset, .unset, .unset, .unset, .unset, .unset, .unset, .unset]) (S' := [(.int (p1 &&& (3 : Int32)))]) (fun t k => XS.iand X0.here hx rfl (hb hby at_2) rfl k) ?_
  rw [hk]
  refine Go.st (T' := T0) (pc' := 5) (L' := #[.val (.int p1), .val (.int p2), .val (.int p3), .val (.int p4), .val (.int (1 : Int32)), .unset, .unset, .unset, .unset, .unset, .unset, .unset]) (S' := []) (fun t k => XS.istore X0.here hx rfl (hb hby at_3) rfl (l' := #[.val (.int p1), .val (.int p2), .val (.int p3), .val (.int p4), .val (.int (1 : Int32)), .unset, .unset, .unset, .unset, .unset, .unset, .unset]) rfl k) ?_
  refine Go.st (T' := T0) (pc' := 6) (L' := #[.val (.int p1), .val (.int p2), .val (.int p3), .val (.int p4), .val (.int (1 : Int32)), .unset, .unset, .unset, .unset, .unset, .unset, .unset]) (S' := [(.int p2)]) (fun t k => XS.iloadN X0.here hx rfl (hb hby at_5) rfl  k) ?_
  refine Go.st (T' := T0) (pc' := 8) (L' := #[.val (.int p1), .val (.int p2), .val (.int p3), .val (.int p4), .val (.int (1 : Int32)), .unset, .unset, .unset, .unset, .unset, .unset, .unset]) (S' := [(.int (2147483647 : Int32)), (.int p2)]) (fun t k => X0.ldcInt hx hown (mvT hZ (hw _ (List.mem_of_getElem? (i := 0) rfl))) (g := (mkF m 6 #[.val (.int p1), .val (.int p2), .val (.int p3), .val (.int p4), .val (.int (1 : Int32)), .unset, .unset, .unset, .unset, .unset, .unset, .unset] [(.int p2)])) rfl (hb hby at_6) t k) ?_
  refine Go.st (T' := T0) (pc' := 9) (L' := #[.val (.int p1), .val (.int p2), .val (.int p3), .val (.int p4), .val (.int (1 : Int32)), .unset, .unset, .unset, .unset, .unset, .unset, .unset]) (S' := [(.int (p2 &&& (2147483647 : Int32)))]) (fun t k => XS.iand X0.here hx rfl (hb hby at_8) rfl k) ?_
  refine Go.st (T' := T0) (pc' := 11) (L' := #[.val (.int p1), .val (.int p2), .val (.int p3), .val (.int p4), .val (.int (1 : Int32)), .val (.int (p2 &&& (2147483647 : Int32))), .unset, .unset, .unset, .unset, .unset, .unset]) (S' := []) (fun t k => XS.istore X0.here hx rfl (hb hby at_9) rfl (l' := #[.val (.int p1), .val (.int p2), .val (.int p3), .val (.int p4), .val (.int (1 : Int32)), .val (.int (p2 &&& (2147483647 : Int32))), .unset, .unset, .unset, .unset, .unset, .unset]) rfl k) ?_
  refine Go.st (T' := T0) (pc' := 12) (L' := #[.val (.int p1), .val (.int p2), .val (.int p3), .val (.int p4), .val (.int (1 : Int32)), .val (.int (p2 &&& (2147483647 : Int32))), .unset, .unset, .unset, .unset, .unset, .unset]) (S' := [(.int p3)]) (fun t k => XS.iloadN X0.here hx rfl (hb hby at_11) rfl  k) ?_
  refine Go.st (T' := T0) (pc' := 14) (L' := #[.val (.int p1), .val (.int p2), .val (.int p3), .val (.int p4), .val (.int (1 : Int32)), .val (.int (p2 &&& (2147483647 : Int32))), .unset, .unset, .unset, .unset, .unset, .unset]) (S' := [(.int (2147483647 : Int32)), (.int p3)]) (fun t k => X0.ldcInt hx hown (mvT hZ (hw _ (List.mem_of_getElem? (i := 0) rfl))) (g := (mkF m 12 #[.val (.int p1), .val (.int p2), .val (.int p3), .val (.int p4), .val (.int (1 : Int32)), .val (.int (p2 &&& (2147483647 : Int32))), .unset, .unset, .unset, .unset, .unset, .unset] [(.int p3)])) rfl (hb hby at_12) t k) ?_
  refine Go.st (T' := T0) (pc' := 15) (L' := #[.val (.int p1), .val (.int p2), .val (.int p3), .val (.int p4), .val (.int (1 : Int32)), .val (.int (p2 &&& (2147483647 : Int32))), .unset, .unset, .unset, .unset, .unset, .unset]) (S' := [(.int (p3 &&& (2147483647 : Int32)))]) (fun t k => XS.iand X0.here hx rfl (hb hby at_14) rfl k) ?_
  refine Go.st (T' := T0) (pc' := 17) (L' := #[.val (.int p1), .val (.int p2), .val (.int p3), .val (.int p4), .val (.int (1 : Int32)), .val (.int (p2 &&& (2147483647 : Int32))), .val (.int (p3 &&& (2147483647 : Int32))), .unset, .unset, .unset, .unset, .unset]) (S' := []) (fun t k => XS.istore X0.here hx rfl (hb hby at_15) rfl (l' := #[.val (.int p1), .val (.int p2), .val (.int p3), .val (.int p4), .val (.int (1 : Int32)), .val (.int (p2 &&& (2147483647 : Int32))), .val (.int (p3 &&& (2147483647 : Int32))), .unset, .unset, .unset, .unset, .unset]) rfl k) ?_
  refine Go.st (T' := T0) (pc' := 18) (L' := #[.val (.int p1), .val (.int p2), .val (.int p3), .val (.int p4), .val (.int (1 : Int32)), .val (.int (p2 &&& (2147483647 : Int32))), .val (.int (p3 &&& (2147483647 : Int32))), .unset, .unset, .unset, .unset, .unset]) (S' := [(.int p4)]) (fun t k => XS.iloadN X0.here hx rfl (hb hby at_17) rfl  k) ?_
  refine Go.st (T' := T0) (pc' := 20) (L' := #[.val (.int p1), .val (.int p2), .val (.int p3), .val (.int p4), .val (.int (1 : Int32)), .val (.int (p2 &&& (2147483647 : Int32))), .val (.int (p3 &&& (2147483647 : Int32))), .unset, .unset, .unset, .unset, .unset]) (S' := [(.int (2147483647 : Int32)), (.int p4)]) (fun t k => X0.ldcInt hx hown (mvT hZ (hw _ (List.mem_of_getElem? (i := 0) rfl))) (g := (mkF m 18 #[.val (.int p1), .val (.int p2), .val (.int p3), .val (.int p4), .val (.int (1 : Int32)), .val (.int (p2 &&& (2147483647 : Int32))), .val (.int (p3 &&& (2147483647 : Int32))), .unset, .unset, .unset, .unset, .unset] [(.int p4)])) rfl (hb hby at_18) t k) ?_
  refine Go.st (T' := T0) (pc' := 21) (L' := #[.val (.int p1), .val (.int p2), .val (.int p3), .val (.int p4), .val (.int (1 : Int32)), .val (.int (p2 &&& (2147483647 : Int32))), .val (.int (p3 &&& (2147483647 : Int32))), .unset, .unset, .unset, .unset, .unset]) (S' := [(.int (p4 &&& (2147483647 : Int32)))]) (fun t k => XS.iand X0.here hx rfl (hb hby at_20) rfl k) ?_
  refine Go.st (T' := T0) (pc' := 23) (L' := #[.val (.int p1), .val (.int p2), .val (.int p3), .val (.int p4), .val (.int (1 : Int32)), .val (.int (p2 &&& (2147483647 : Int32))), .val (.int (p3 &&& (2147483647 : Int32))), .val (.int (p4 &&& (2147483647 : Int32))), .unset, .unset, .unset, .unset]) (S' := []) (fun t k => XS.istore X0.here hx rfl (hb hby at_21) rfl (l' := #[.val (.int p1), .val (.int p2), .val (.int p3), .val (.int p4), .val (.int (1 : Int32)), .val (.int (p2 &&& (2147483647 : Int32))), .val (.int (p3 &&& (2147483647 : Int32))), .val (.int (p4 &&& (2147483647 : Int32))), .unset, .unset, .unset, .unset]) rfl k) ?_
  obtain ⟨T1, h1, X1, e1, E1, A1, D1, U1, st1⟩ := newO X0 hx hZ hown (hw _ (List.mem_of_getElem? (i := 1) rfl)) (hw _ (List.mem_of_getElem? (i := 2) rfl)) (hw _ (List.mem_of_getElem? (i := 3) rfl)) e0 (g := (mkF m 23 #[.val (.int p1), .val (.int p2), .val (.int p3), .val (.int p4), .val (.int (1 : Int32)), .val (.int (p2 &&& (2147483647 : Int32))), .val (.int (p3 &&& (2147483647 : Int32))), .val (.int (p4 &&& (2147483647 : Int32))), .unset, .unset, .unset, .unset] [])) rfl (hb hby at_23) (by decide) (by decide)
  obtain ⟨b1, g1⟩ : ∃ z, z = h0.size := ⟨_, rfl⟩
  rw [← g1] at A1 D1 U1 st1
  have g_b1 : n0 ≤ b1 := Nat.le_trans Z0 (Nat.le_of_eq g1.symm)
  replace Z0 := Nat.le_trans Z0 E1.1
  have E_b1 := A1
  have F_b1_items : Fld Z h1 b1 "org/concordat/analysis/IntSet" "items" "[I" .null := D1 (Or.inl (hw _ (List.mem_of_getElem? (i := 12) rfl))) (ty := (.array .int)) (by decide)
  have F_b1_size : Fld Z h1 b1 "org/concordat/analysis/IntSet" "size" "I" (.int (0 : Int32)) := D1 (Or.inl (hw _ (List.mem_of_getElem? (i := 19) rfl))) (ty := .int) (by decide)
  have F_b1_bits : Fld Z h1 b1 "org/concordat/analysis/IntSet" "bits" "Ljava/util/BitSet;" .null := D1 (Or.inl (hw _ (List.mem_of_getElem? (i := 31) rfl))) (ty := (.object "java/util/BitSet")) (by decide)
  refine Go.st (T' := T1) (pc' := 26) (L' := #[.val (.int p1), .val (.int p2), .val (.int p3), .val (.int p4), .val (.int (1 : Int32)), .val (.int (p2 &&& (2147483647 : Int32))), .val (.int (p3 &&& (2147483647 : Int32))), .val (.int (p4 &&& (2147483647 : Int32))), .unset, .unset, .unset, .unset]) (S' := [(.ref b1)]) st1 ?_
  refine Go.st (T' := T1) (pc' := 27) (L' := #[.val (.int p1), .val (.int p2), .val (.int p3), .val (.int p4), .val (.int (1 : Int32)), .val (.int (p2 &&& (2147483647 : Int32))), .val (.int (p3 &&& (2147483647 : Int32))), .val (.int (p4 &&& (2147483647 : Int32))), .unset, .unset, .unset, .unset]) (S' := [(.ref b1), (.ref b1)]) (fun t k => XS.dup X1.here hx rfl (hb hby at_26) rfl rfl k) ?_
  obtain ⟨_, _, ⟨T2, L2, k2, n2⟩, -, X2, ⟨Lc2, hQ2, l2, y2, z2⟩, st2⟩ := X1.specialBack hx (y := (⟨"org/concordat/analysis/IntSet", "<init>", "()V"⟩ : MethodName)) rfl hown (mvT hZ (hw _ (List.mem_of_getElem? (i := 4) rfl))) (mvT hZ (hw _ (List.mem_of_getElem? (i := 5) rfl))) (mvT hZ (hw _ (List.mem_of_getElem? (i := 6) rfl))) (by decide) (backOf (W := 1) (rm1 l Z a0 hw [] b1 h1 n0 Z0 E_b1 g_b1 F_b1_items F_b1_size F_b1_bits) hZ (hw _ (List.mem_of_getElem? (i := 6) rfl)) (hw _ (List.mem_of_getElem? (i := 3) rfl)) (by decide) (by decide)) (g := (mkF m 27 #[.val (.int p1), .val (.int p2), .val (.int p3), .val (.int p4), .val (.int (1 : Int32)), .val (.int (p2 &&& (2147483647 : Int32))), .val (.int (p3 &&& (2147483647 : Int32))), .val (.int (p4 &&& (2147483647 : Int32))), .unset, .unset, .unset, .unset] [(.ref b1), (.ref b1)])) rfl (by rw [hml]; rfl) (Steps.refl _) (a := b1) (argsL := []) (rest := [(.ref b1)]) (lenOf pd_2 rfl) rfl (by show 2 * 0 + _ ≤ _; exact Nat.le_of_eq rfl) (hb hby at_27) (fun _ _ => ⟨rfl, e1, (by decide : 1 + 1 ≤ _), (by decide : 3 + 4 ≤ _)⟩)
  dsimp only [Pt.U, Pt.locs, Pt.cells, Pt.slots] at X2 l2 y2 z2 st2 hQ2
  subst l2 y2 z2
  obtain ⟨b, rfl, N2q, Zh2, g_b, hne, S2⟩ := hQ2
  have N2 := Fr.app N0 N2q
  obtain ⟨h2, e2⟩ : ∃ z, T2.heap = z := ⟨_, rfl⟩
  rw [e2] at Zh2 S2
  replace Z0 := Zh2
  have E_b1 := S2.1
  have F_sz := S2.2.2.1
  refine Go.tr (T' := T2) (pc' := 30) (L' := #[.val (.int p1), .val (.int p2), .val (.int p3), .val (.int p4), .val (.int (1 : Int32)), .val (.int (p2 &&& (2147483647 : Int32))), .val (.int (p3 &&& (2147483647 : Int32))), .val (.int (p4 &&& (2147483647 : Int32))), .unset, .unset, .unset, .unset]) (S' := [(.ref b1)]) st2 ?_
  refine Go.st (T' := T2) (pc' := 32) (L' := #[.val (.int p1), .val (.int p2), .val (.int p3), .val (.int p4), .val (.int (1 : Int32)), .val (.int (p2 &&& (2147483647 : Int32))), .val (.int (p3 &&& (2147483647 : Int32))), .val (.int (p4 &&& (2147483647 : Int32))), .val (.ref b1), .unset, .unset, .unset]) (S' := []) (fun t k => XS.astore X2.here hx rfl (hb hby at_30) rfl rfl (l' := #[.val (.int p1), .val (.int p2), .val (.int p3), .val (.int p4), .val (.int (1 : Int32)), .val (.int (p2 &&& (2147483647 : Int32))), .val (.int (p3 &&& (2147483647 : Int32))), .val (.int (p4 &&& (2147483647 : Int32))), .val (.ref b1), .unset, .unset, .unset]) rfl k) ?_
  refine Go.st (T' := T2) (pc' := 34) (L' := #[.val (.int p1), .val (.int p2), .val (.int p3), .val (.int p4), .val (.int (1 : Int32)), .val (.int (p2 &&& (2147483647 : Int32))), .val (.int (p3 &&& (2147483647 : Int32))), .val (.int (p4 &&& (2147483647 : Int32))), .val (.ref b1), .unset, .unset, .unset]) (S' := [(.ref b1)]) (fun t k => XS.aload X2.here hx rfl (hb hby at_32) rfl rfl  k) ?_
  obtain ⟨cq3, kq3, q3a, q3b, q3c⟩ := isOf hZ e2 E_b1
  obtain ⟨_, _, ⟨T3, L3, k3, n3⟩, -, X3, ⟨Lc3, hQ3, l3, y3, z3⟩, st3⟩ := X2.virtualBack hx (y := (⟨"org/concordat/analysis/IntSet", "isEmpty", "()Z"⟩ : MethodName)) (z := (⟨"org/concordat/analysis/IntSet", "isEmpty", "()Z"⟩ : MethodName)) hown (mvT hZ (hw _ (List.mem_of_getElem? (i := 13) rfl))) (mvT hZ (hw _ (List.mem_of_getElem? (i := 14) rfl))) (notFace_of_selects (args := #[]) (mvT hZ (hw _ (List.mem_of_getElem? (i := 16) rfl)))) (mvT hZ (hw _ (List.mem_of_getElem? (i := 16) rfl))) (mvT hZ (hw _ (List.mem_of_getElem? (i := 15) rfl))) (by decide) (backOf (W := 0) (rm3 l Z a0 hw [] b1 (Nat.toInt32 0) h2 n0 Z0 F_sz) hZ (hw _ (List.mem_of_getElem? (i := 17) rfl)) (hw _ (List.mem_of_getElem? (i := 3) rfl)) (by decide) (by decide)) q3a q3c (g := (mkF m 34 #[.val (.int p1), .val (.int p2), .val (.int p3), .val (.int p4), .val (.int (1 : Int32)), .val (.int (p2 &&& (2147483647 : Int32))), .val (.int (p3 &&& (2147483647 : Int32))), .val (.int (p4 &&& (2147483647 : Int32))), .val (.ref b1), .unset, .unset, .unset] [(.ref b1)])) rfl (by rw [hml]; rfl) (Steps.refl _) (argsL := []) (rest := []) (lenOf pd_3 rfl) rfl (by show 2 * 0 + _ ≤ _; exact Nat.le_of_eq rfl) (hb hby at_34) (fun _ _ => ⟨rfl, e2, (by decide : 2 + 0 ≤ _), (by decide : 7 + 0 ≤ _)⟩)
  dsimp only [Pt.U, Pt.locs, Pt.cells, Pt.slots] at X3 l3 y3 z3 st3 hQ3
  subst l3 y3 z3
  obtain ⟨rfl, N3q, e3⟩ := hQ3
  have N3 := Fr.app N2 N3q
  refine Go.tr (T' := T3) (pc' := 37) (L' := #[.val (.int p1), .val (.int p2), .val (.int p3), .val (.int p4), .val (.int (1 : Int32)), .val (.int (p2 &&& (2147483647 : Int32))), .val (.int (p3 &&& (2147483647 : Int32))), .val (.int (p4 &&& (2147483647 : Int32))), .val (.ref b1), .unset, .unset, .unset]) (S' := [(.int (if (Nat.toInt32 0) = (0 : Int32) then (1 : Int32) else (0 : Int32)))]) st3 ?_
  rw [if_pos (by decide : Nat.toInt32 0 = (0 : Int32))]
  refine Go.st (T' := T3) (pc' := 39) (L' := #[.val (.int p1), .val (.int p2), .val (.int p3), .val (.int p4), .val (.int (1 : Int32)), .val (.int (p2 &&& (2147483647 : Int32))), .val (.int (p3 &&& (2147483647 : Int32))), .val (.int (p4 &&& (2147483647 : Int32))), .val (.ref b1), .val (.int (1 : Int32)), .unset, .unset]) (S' := []) (fun t k => XS.istore X3.here hx rfl (hb hby at_37) rfl (l' := #[.val (.int p1), .val (.int p2), .val (.int p3), .val (.int p4), .val (.int (1 : Int32)), .val (.int (p2 &&& (2147483647 : Int32))), .val (.int (p3 &&& (2147483647 : Int32))), .val (.int (p4 &&& (2147483647 : Int32))), .val (.ref b1), .val (.int (1 : Int32)), .unset, .unset]) rfl k) ?_
  refine Go.st (T' := T3) (pc' := 41) (L' := #[.val (.int p1), .val (.int p2), .val (.int p3), .val (.int p4), .val (.int (1 : Int32)), .val (.int (p2 &&& (2147483647 : Int32))), .val (.int (p3 &&& (2147483647 : Int32))), .val (.int (p4 &&& (2147483647 : Int32))), .val (.ref b1), .val (.int (1 : Int32)), .unset, .unset]) (S' := [(.int (1 : Int32))]) (fun t k => XS.iload X3.here hx rfl (hb hby at_39) rfl  k) ?_
  refine Go.st (T' := T3) (pc' := 42) (L' := #[.val (.int p1), .val (.int p2), .val (.int p3), .val (.int p4), .val (.int (1 : Int32)), .val (.int (p2 &&& (2147483647 : Int32))), .val (.int (p3 &&& (2147483647 : Int32))), .val (.int (p4 &&& (2147483647 : Int32))), .val (.ref b1), .val (.int (1 : Int32)), .unset, .unset]) (S' := [(.int (1 : Int32)), (.int (1 : Int32))]) (fun t k => XS.iconst X3.here hx rfl (hb hby at_41) k) ?_
  refine Go.st (T' := T3) (pc' := 45) (L' := #[.val (.int p1), .val (.int p2), .val (.int p3), .val (.int p4), .val (.int (1 : Int32)), .val (.int (p2 &&& (2147483647 : Int32))), .val (.int (p3 &&& (2147483647 : Int32))), .val (.int (p4 &&& (2147483647 : Int32))), .val (.ref b1), .val (.int (1 : Int32)), .unset, .unset]) (S' := []) (fun t k => XS.icmpNo X3.here hx rfl (hb hby at_42) rfl (flt (by decide : ¬ ((1 : Int32) < (1 : Int32)))).1 k) ?_
  refine Go.st (T' := T3) (pc' := 47) (L' := #[.val (.int p1), .val (.int p2), .val (.int p3), .val (.int p4), .val (.int (1 : Int32)), .val (.int (p2 &&& (2147483647 : Int32))), .val (.int (p3 &&& (2147483647 : Int32))), .val (.int (p4 &&& (2147483647 : Int32))), .val (.ref b1), .val (.int (1 : Int32)), .unset, .unset]) (S' := [(.ref b1)]) (fun t k => XS.aload X3.here hx rfl (hb hby at_45) rfl rfl  k) ?_
  refine Go.st (T' := T3) (pc' := 49) (L' := #[.val (.int p1), .val (.int p2), .val (.int p3), .val (.int p4), .val (.int (1 : Int32)), .val (.int (p2 &&& (2147483647 : Int32))), .val (.int (p3 &&& (2147483647 : Int32))), .val (.int (p4 &&& (2147483647 : Int32))), .val (.ref b1), .val (.int (1 : Int32)), .unset, .unset]) (S' := [(.int (p2 &&& (2147483647 : Int32))), (.ref b1)]) (fun t k => XS.iload X3.here hx rfl (hb hby at_47) rfl  k) ?_
  obtain ⟨cq4, kq4, q4a, q4b, q4c⟩ := isOf hZ e3 E_b1
  obtain ⟨_, _, ⟨T4, L4, k4, n4⟩, -, X4, ⟨Lc4, hQ4, l4, y4, z4⟩, st4⟩ := X3.virtualBack hx (y := (⟨"org/concordat/analysis/IntSet", "add", "(I)Z"⟩ : MethodName)) (z := (⟨"org/concordat/analysis/IntSet", "add", "(I)Z"⟩ : MethodName)) hown (mvT hZ (hw _ (List.mem_of_getElem? (i := 42) rfl))) (mvT hZ (hw _ (List.mem_of_getElem? (i := 43) rfl))) (notFace_of_selects (args := #[]) (mvT hZ (hw _ (List.mem_of_getElem? (i := 45) rfl)))) (mvT hZ (hw _ (List.mem_of_getElem? (i := 45) rfl))) (mvT hZ (hw _ (List.mem_of_getElem? (i := 44) rfl))) (by decide) (backOf (W := 0) (rm9 l Z a0 hw [] b1 b 0 (p2 &&& (2147483647 : Int32)) h2 n0 Z0 g_b1 g_b hne S2 (by omega)) hZ (hw _ (List.mem_of_getElem? (i := 46) rfl)) (hw _ (List.mem_of_getElem? (i := 3) rfl)) (by decide) (by decide)) q4a q4c (g := (mkF m 49 #[.val (.int p1), .val (.int p2), .val (.int p3), .val (.int p4), .val (.int (1 : Int32)), .val (.int (p2 &&& (2147483647 : Int32))), .val (.int (p3 &&& (2147483647 : Int32))), .val (.int (p4 &&& (2147483647 : Int32))), .val (.ref b1), .val (.int (1 : Int32)), .unset, .unset] [(.int (p2 &&& (2147483647 : Int32))), (.ref b1)])) rfl (by rw [hml]; rfl) (Steps.refl _) (argsL := [(.int (p2 &&& (2147483647 : Int32)))]) (rest := []) (lenOf pd_5 rfl) rfl (by show 2 * 0 + _ ≤ _; exact Nat.le_of_eq rfl) (hb hby at_49) (fun _ _ => ⟨rfl, e3, (by decide : 2 + 0 ≤ _), (by decide : 7 + 0 ≤ _)⟩)
  dsimp only [Pt.U, Pt.locs, Pt.cells, Pt.slots] at X4 l4 y4 z4 st4 hQ4
  subst l4 y4 z4
  obtain ⟨r4, m4, rfl, N4q, Zh4, hm4, S4⟩ := hQ4
  have N4 := Fr.app N3 N4q
  obtain ⟨h4, e4⟩ : ∃ z, T4.heap = z := ⟨_, rfl⟩
  rw [e4] at Zh4 S4
  replace Z0 := Zh4
  have E_b1 := S4.1
  have F_sz := S4.2.2.1
  refine Go.tr (T' := T4) (pc' := 52) (L' := #[.val (.int p1), .val (.int p2), .val (.int p3), .val (.int p4), .val (.int (1 : Int32)), .val (.int (p2 &&& (2147483647 : Int32))), .val (.int (p3 &&& (2147483647 : Int32))), .val (.int (p4 &&& (2147483647 : Int32))), .val (.ref b1), .val (.int (1 : Int32)), .unset, .unset]) (S' := [(.int r4)]) st4 ?_
  refine Go.st (T' := T4) (pc' := 53) (L' := #[.val (.int p1), .val (.int p2), .val (.int p3), .val (.int p4), .val (.int (1 : Int32)), .val (.int (p2 &&& (2147483647 : Int32))), .val (.int (p3 &&& (2147483647 : Int32))), .val (.int (p4 &&& (2147483647 : Int32))), .val (.ref b1), .val (.int (1 : Int32)), .unset, .unset]) (S' := []) (fun t k => XS.pop X4.here hx rfl (hb hby at_52) rfl rfl k) ?_
  refine Go.st (T' := T4) (pc' := 55) (L' := #[.val (.int p1), .val (.int p2), .val (.int p3), .val (.int p4), .val (.int (1 : Int32)), .val (.int (p2 &&& (2147483647 : Int32))), .val (.int (p3 &&& (2147483647 : Int32))), .val (.int (p4 &&& (2147483647 : Int32))), .val (.ref b1), .val (.int (1 : Int32)), .unset, .unset]) (S' := [(.int (1 : Int32))]) (fun t k => XS.iload X4.here hx rfl (hb hby at_53) rfl  k) ?_
  refine Go.st (T' := T4) (pc' := 56) (L' := #[.val (.int p1), .val (.int p2), .val (.int p3), .val (.int p4), .val (.int (1 : Int32)), .val (.int (p2 &&& (2147483647 : Int32))), .val (.int (p3 &&& (2147483647 : Int32))), .val (.int (p4 &&& (2147483647 : Int32))), .val (.ref b1), .val (.int (1 : Int32)), .unset, .unset]) (S' := [(.int (2 : Int32)), (.int (1 : Int32))]) (fun t k => XS.iconst X4.here hx rfl (hb hby at_55) k) ?_
  refine Go.st (T' := T4) (pc' := 67) (L' := #[.val (.int p1), .val (.int p2), .val (.int p3), .val (.int p4), .val (.int (1 : Int32)), .val (.int (p2 &&& (2147483647 : Int32))), .val (.int (p3 &&& (2147483647 : Int32))), .val (.int (p4 &&& (2147483647 : Int32))), .val (.ref b1), .val (.int (1 : Int32)), .unset, .unset]) (S' := []) (fun t k => XS.icmpYes X4.here hx rfl (pc0 := 56) (pc' := 67) rfl (hb hby at_56) rfl (tlt (by decide : ((1 : Int32) < (2 : Int32)))).1 (by decide) (by decide) k) ?_
  refine Go.st (T' := T4) (pc' := 69) (L' := #[.val (.int p1), .val (.int p2), .val (.int p3), .val (.int p4), .val (.int (1 : Int32)), .val (.int (p2 &&& (2147483647 : Int32))), .val (.int (p3 &&& (2147483647 : Int32))), .val (.int (p4 &&& (2147483647 : Int32))), .val (.ref b1), .val (.int (1 : Int32)), .unset, .unset]) (S' := [(.int (1 : Int32))]) (fun t k => XS.iload X4.here hx rfl (hb hby at_67) rfl  k) ?_
  refine Go.st (T' := T4) (pc' := 70) (L' := #[.val (.int p1), .val (.int p2), .val (.int p3), .val (.int p4), .val (.int (1 : Int32)), .val (.int (p2 &&& (2147483647 : Int32))), .val (.int (p3 &&& (2147483647 : Int32))), .val (.int (p4 &&& (2147483647 : Int32))), .val (.ref b1), .val (.int (1 : Int32)), .unset, .unset]) (S' := [(.int (3 : Int32)), (.int (1 : Int32))]) (fun t k => XS.iconst X4.here hx rfl (hb hby at_69) k) ?_
  refine Go.st (T' := T4) (pc' := 81) (L' := #[.val (.int p1), .val (.int p2), .val (.int p3), .val (.int p4), .val (.int (1 : Int32)), .val (.int (p2 &&& (2147483647 : Int32))), .val (.int (p3 &&& (2147483647 : Int32))), .val (.int (p4 &&& (2147483647 : Int32))), .val (.ref b1), .val (.int (1 : Int32)), .unset, .unset]) (S' := []) (fun t k => XS.icmpYes X4.here hx rfl (pc0 := 70) (pc' := 81) rfl (hb hby at_70) rfl (tlt (by decide : ((1 : Int32) < (3 : Int32)))).1 (by decide) (by decide) k) ?_
  refine Go.st (T' := T4) (pc' := 83) (L' := #[.val (.int p1), .val (.int p2), .val (.int p3), .val (.int p4), .val (.int (1 : Int32)), .val (.int (p2 &&& (2147483647 : Int32))), .val (.int (p3 &&& (2147483647 : Int32))), .val (.int (p4 &&& (2147483647 : Int32))), .val (.ref b1), .val (.int (1 : Int32)), .unset, .unset]) (S' := [(.ref b1)]) (fun t k => XS.aload X4.here hx rfl (hb hby at_81) rfl rfl  k) ?_
  obtain ⟨cq5, kq5, q5a, q5b, q5c⟩ := isOf hZ e4 E_b1
  obtain ⟨_, _, ⟨T5, L5, k5, n5⟩, -, X5, ⟨Lc5, hQ5, l5, y5, z5⟩, st5⟩ := X4.virtualBack hx (y := (⟨"org/concordat/analysis/IntSet", "isEmpty", "()Z"⟩ : MethodName)) (z := (⟨"org/concordat/analysis/IntSet", "isEmpty", "()Z"⟩ : MethodName)) hown (mvT hZ (hw _ (List.mem_of_getElem? (i := 13) rfl))) (mvT hZ (hw _ (List.mem_of_getElem? (i := 14) rfl))) (notFace_of_selects (args := #[]) (mvT hZ (hw _ (List.mem_of_getElem? (i := 16) rfl)))) (mvT hZ (hw _ (List.mem_of_getElem? (i := 16) rfl))) (mvT hZ (hw _ (List.mem_of_getElem? (i := 15) rfl))) (by decide) (backOf (W := 0) (rm3 l Z a0 hw [] b1 (m4.toInt32) h4 n0 Z0 F_sz) hZ (hw _ (List.mem_of_getElem? (i := 17) rfl)) (hw _ (List.mem_of_getElem? (i := 3) rfl)) (by decide) (by decide)) q5a q5c (g := (mkF m 83 #[.val (.int p1), .val (.int p2), .val (.int p3), .val (.int p4), .val (.int (1 : Int32)), .val (.int (p2 &&& (2147483647 : Int32))), .val (.int (p3 &&& (2147483647 : Int32))), .val (.int (p4 &&& (2147483647 : Int32))), .val (.ref b1), .val (.int (1 : Int32)), .unset, .unset] [(.ref b1)])) rfl (by rw [hml]; rfl) (Steps.refl _) (argsL := []) (rest := []) (lenOf pd_3 rfl) rfl (by show 2 * 0 + _ ≤ _; exact Nat.le_of_eq rfl) (hb hby at_83) (fun _ _ => ⟨rfl, e4, (by decide : 2 + 0 ≤ _), (by decide : 7 + 0 ≤ _)⟩)
  dsimp only [Pt.U, Pt.locs, Pt.cells, Pt.slots] at X5 l5 y5 z5 st5 hQ5
  subst l5 y5 z5
  obtain ⟨rfl, N5q, e5⟩ := hQ5
  have N5 := Fr.app N4 N5q
  refine Go.tr (T' := T5) (pc' := 86) (L' := #[.val (.int p1), .val (.int p2), .val (.int p3), .val (.int p4), .val (.int (1 : Int32)), .val (.int (p2 &&& (2147483647 : Int32))), .val (.int (p3 &&& (2147483647 : Int32))), .val (.int (p4 &&& (2147483647 : Int32))), .val (.ref b1), .val (.int (1 : Int32)), .unset, .unset]) (S' := [(.int (if (m4.toInt32) = (0 : Int32) then (1 : Int32) else (0 : Int32)))]) st5 ?_
  rw [if_neg (own_pos (by omega) (by omega))]
  refine Go.st (T' := T5) (pc' := 88) (L' := #[.val (.int p1), .val (.int p2), .val (.int p3), .val (.int p4), .val (.int (1 : Int32)), .val (.int (p2 &&& (2147483647 : Int32))), .val (.int (p3 &&& (2147483647 : Int32))), .val (.int (p4 &&& (2147483647 : Int32))), .val (.ref b1), .val (.int (1 : Int32)), .val (.int (0 : Int32)), .unset]) (S' := []) (fun t k => XS.istore X5.here hx rfl (hb hby at_86) rfl (l' := #[.val (.int p1), .val (.int p2), .val (.int p3), .val (.int p4), .val (.int (1 : Int32)), .val (.int (p2 &&& (2147483647 : Int32))), .val (.int (p3 &&& (2147483647 : Int32))), .val (.int (p4 &&& (2147483647 : Int32))), .val (.ref b1), .val (.int (1 : Int32)), .val (.int (0 : Int32)), .unset]) rfl k) ?_
  refine Go.st (T' := T5) (pc' := 90) (L' := #[.val (.int p1), .val (.int p2), .val (.int p3), .val (.int p4), .val (.int (1 : Int32)), .val (.int (p2 &&& (2147483647 : Int32))), .val (.int (p3 &&& (2147483647 : Int32))), .val (.int (p4 &&& (2147483647 : Int32))), .val (.ref b1), .val (.int (1 : Int32)), .val (.int (0 : Int32)), .unset]) (S' := [(.int (1 : Int32))]) (fun t k => XS.iload X5.here hx rfl (hb hby at_88) rfl  k) ?_
  refine Go.st (T' := T5) (pc' := 97) (L' := #[.val (.int p1), .val (.int p2), .val (.int p3), .val (.int p4), .val (.int (1 : Int32)), .val (.int (p2 &&& (2147483647 : Int32))), .val (.int (p3 &&& (2147483647 : Int32))), .val (.int (p4 &&& (2147483647 : Int32))), .val (.ref b1), .val (.int (1 : Int32)), .val (.int (0 : Int32)), .unset]) (S' := []) (fun t k => XS.ifYes X5.here hx rfl (pc0 := 90) (pc' := 97) rfl (hb hby at_90) rfl ((if0 _ _).trans (feq (by decide : ¬ ((1 : Int32) = (0 : Int32)))).2) (by decide) (by decide) k) ?_
  refine Go.st (T' := T5) (pc' := 98) (L' := #[.val (.int p1), .val (.int p2), .val (.int p3), .val (.int p4), .val (.int (1 : Int32)), .val (.int (p2 &&& (2147483647 : Int32))), .val (.int (p3 &&& (2147483647 : Int32))), .val (.int (p4 &&& (2147483647 : Int32))), .val (.ref b1), .val (.int (1 : Int32)), .val (.int (0 : Int32)), .unset]) (S' := [(.int (0 : Int32))]) (fun t k => XS.iconst X5.here hx rfl (hb hby at_97) k) ?_
  refine Go.st (T' := T5) (pc' := 100) (L' := #[.val (.int p1), .val (.int p2), .val (.int p3), .val (.int p4), .val (.int (1 : Int32)), .val (.int (p2 &&& (2147483647 : Int32))), .val (.int (p3 &&& (2147483647 : Int32))), .val (.int (p4 &&& (2147483647 : Int32))), .val (.ref b1), .val (.int (1 : Int32)), .val (.int (0 : Int32)), .val (.int (0 : Int32))]) (S' := []) (fun t k => XS.istore X5.here hx rfl (hb hby at_98) rfl (l' := #[.val (.int p1), .val (.int p2), .val (.int p3), .val (.int p4), .val (.int (1 : Int32)), .val (.int (p2 &&& (2147483647 : Int32))), .val (.int (p3 &&& (2147483647 : Int32))), .val (.int (p4 &&& (2147483647 : Int32))), .val (.ref b1), .val (.int (1 : Int32)), .val (.int (0 : Int32)), .val (.int (0 : Int32))]) rfl k) ?_
  refine Go.st (T' := T5) (pc' := 102) (L' := #[.val (.int p1), .val (.int p2), .val (.int p3), .val (.int p4), .val (.int (1 : Int32)), .val (.int (p2 &&& (2147483647 : Int32))), .val (.int (p3 &&& (2147483647 : Int32))), .val (.int (p4 &&& (2147483647 : Int32))), .val (.ref b1), .val (.int (1 : Int32)), .val (.int (0 : Int32)), .val (.int (0 : Int32))]) (S' := [(.int (1 : Int32))]) (fun t k => XS.iload X5.here hx rfl (hb hby at_100) rfl  k) ?_
  refine Go.st (T' := T5) (pc' := 105) (L' := #[.val (.int p1), .val (.int p2), .val (.int p3), .val (.int p4), .val (.int (1 : Int32)), .val (.int (p2 &&& (2147483647 : Int32))), .val (.int (p3 &&& (2147483647 : Int32))), .val (.int (p4 &&& (2147483647 : Int32))), .val (.ref b1), .val (.int (1 : Int32)), .val (.int (0 : Int32)), .val (.int (0 : Int32))]) (S' := []) (fun t k => XS.ifNo X5.here hx rfl (hb hby at_102) rfl ((if0 _ _).trans (feq (by decide : ¬ ((1 : Int32) = (0 : Int32)))).1) k) ?_
  refine Go.st (T' := T5) (pc' := 107) (L' := #[.val (.int p1), .val (.int p2), .val (.int p3), .val (.int p4), .val (.int (1 : Int32)), .val (.int (p2 &&& (2147483647 : Int32))), .val (.int (p3 &&& (2147483647 : Int32))), .val (.int (p4 &&& (2147483647 : Int32))), .val (.ref b1), .val (.int (1 : Int32)), .val (.int (0 : Int32)), .val (.int (0 : Int32))]) (S' := [(.int (0 : Int32))]) (fun t k => XS.iload X5.here hx rfl (hb hby at_105) rfl  k) ?_
  refine Go.st (T' := T5) (pc' := 109) (L' := #[.val (.int p1), .val (.int p2), .val (.int p3), .val (.int p4), .val (.int (1 : Int32)), .val (.int (p2 &&& (2147483647 : Int32))), .val (.int (p3 &&& (2147483647 : Int32))), .val (.int (p4 &&& (2147483647 : Int32))), .val (.ref b1), .val (.int (1 : Int32)), .val (.int (0 : Int32)), .val (.int (0 : Int32))]) (S' := [(.int (0 : Int32)), (.int (0 : Int32))]) (fun t k => XS.iload X5.here hx rfl (hb hby at_107) rfl  k) ?_
  refine Go.st (T' := T5) (pc' := 112) (L' := #[.val (.int p1), .val (.int p2), .val (.int p3), .val (.int p4), .val (.int (1 : Int32)), .val (.int (p2 &&& (2147483647 : Int32))), .val (.int (p3 &&& (2147483647 : Int32))), .val (.int (p4 &&& (2147483647 : Int32))), .val (.ref b1), .val (.int (1 : Int32)), .val (.int (0 : Int32)), .val (.int (0 : Int32))]) (S' := []) (fun t k => XS.icmpNo X5.here hx rfl (hb hby at_109) rfl (teq (by decide : ((0 : Int32) = (0 : Int32)))).2 k) ?_
  refine Go.st (T' := T5) (pc' := 114) (L' := #[.val (.int p1), .val (.int p2), .val (.int p3), .val (.int p4), .val (.int (1 : Int32)), .val (.int (p2 &&& (2147483647 : Int32))), .val (.int (p3 &&& (2147483647 : Int32))), .val (.int (p4 &&& (2147483647 : Int32))), .val (.ref b1), .val (.int (1 : Int32)), .val (.int (0 : Int32)), .val (.int (0 : Int32))]) (S' := [(.int (0 : Int32))]) (fun t k => XS.iload X5.here hx rfl (hb hby at_112) rfl  k) ?_
  refine Go.st (T' := T5) (pc' := 116) (L' := #[.val (.int p1), .val (.int p2), .val (.int p3), .val (.int p4), .val (.int (1 : Int32)), .val (.int (p2 &&& (2147483647 : Int32))), .val (.int (p3 &&& (2147483647 : Int32))), .val (.int (p4 &&& (2147483647 : Int32))), .val (.ref b1), .val (.int (1 : Int32)), .val (.int (0 : Int32)), .val (.int (0 : Int32))]) (S' := [(.ref b1), (.int (0 : Int32))]) (fun t k => XS.aload X5.here hx rfl (hb hby at_114) rfl rfl  k) ?_
  obtain ⟨cq6, kq6, q6a, q6b, q6c⟩ := isOf hZ e5 E_b1
  obtain ⟨_, _, ⟨T6, L6, k6, n6⟩, -, X6, ⟨Lc6, hQ6, l6, y6, z6⟩, st6⟩ := X5.virtualBack hx (y := (⟨"org/concordat/analysis/IntSet", "size", "()I"⟩ : MethodName)) (z := (⟨"org/concordat/analysis/IntSet", "size", "()I"⟩ : MethodName)) hown (mvT hZ (hw _ (List.mem_of_getElem? (i := 20) rfl))) (mvT hZ (hw _ (List.mem_of_getElem? (i := 21) rfl))) (notFace_of_selects (args := #[]) (mvT hZ (hw _ (List.mem_of_getElem? (i := 23) rfl)))) (mvT hZ (hw _ (List.mem_of_getElem? (i := 23) rfl))) (mvT hZ (hw _ (List.mem_of_getElem? (i := 22) rfl))) (by decide) (backOf (W := 1) (rm4 l Z a0 hw [] b1 (m4.toInt32) h4 n0 Z0 F_sz) hZ (hw _ (List.mem_of_getElem? (i := 24) rfl)) (hw _ (List.mem_of_getElem? (i := 3) rfl)) (by decide) (by decide)) q6a q6c (g := (mkF m 116 #[.val (.int p1), .val (.int p2), .val (.int p3), .val (.int p4), .val (.int (1 : Int32)), .val (.int (p2 &&& (2147483647 : Int32))), .val (.int (p3 &&& (2147483647 : Int32))), .val (.int (p4 &&& (2147483647 : Int32))), .val (.ref b1), .val (.int (1 : Int32)), .val (.int (0 : Int32)), .val (.int (0 : Int32))] [(.ref b1), (.int (0 : Int32))])) rfl (by rw [hml]; rfl) (Steps.refl _) (argsL := []) (rest := [(.int (0 : Int32))]) (lenOf pd_4 rfl) rfl (by show 2 * 0 + _ ≤ _; exact Nat.le_of_eq rfl) (hb hby at_116) (fun _ _ => ⟨rfl, e5, (by decide : 2 + 0 ≤ _), (by decide : 7 + 0 ≤ _)⟩)
  dsimp only [Pt.U, Pt.locs, Pt.cells, Pt.slots] at X6 l6 y6 z6 st6 hQ6
  subst l6 y6 z6
  obtain ⟨rfl, N6q, e6⟩ := hQ6
  have N6 := Fr.app N5 N6q
  refine Go.tr (T' := T6) (pc' := 119) (L' := #[.val (.int p1), .val (.int p2), .val (.int p3), .val (.int p4), .val (.int (1 : Int32)), .val (.int (p2 &&& (2147483647 : Int32))), .val (.int (p3 &&& (2147483647 : Int32))), .val (.int (p4 &&& (2147483647 : Int32))), .val (.ref b1), .val (.int (1 : Int32)), .val (.int (0 : Int32)), .val (.int (0 : Int32))]) (S' := [(.int (m4.toInt32)), (.int (0 : Int32))]) st6 ?_
  refine Go.st (T' := T6) (pc' := 126) (L' := #[.val (.int p1), .val (.int p2), .val (.int p3), .val (.int p4), .val (.int (1 : Int32)), .val (.int (p2 &&& (2147483647 : Int32))), .val (.int (p3 &&& (2147483647 : Int32))), .val (.int (p4 &&& (2147483647 : Int32))), .val (.ref b1), .val (.int (1 : Int32)), .val (.int (0 : Int32)), .val (.int (0 : Int32))]) (S' := [(.int (0 : Int32))]) (fun t k => XS.ifYes X6.here hx rfl (pc0 := 119) (pc' := 126) rfl (hb hby at_119) rfl ((if0 _ _).trans (feq (own_pos (by omega) (by omega) : ¬ ((m4.toInt32) = (0 : Int32)))).2) (by decide) (by decide) k) ?_
  refine Go.st (T' := T6) (pc' := 127) (L' := #[.val (.int p1), .val (.int p2), .val (.int p3), .val (.int p4), .val (.int (1 : Int32)), .val (.int (p2 &&& (2147483647 : Int32))), .val (.int (p3 &&& (2147483647 : Int32))), .val (.int (p4 &&& (2147483647 : Int32))), .val (.ref b1), .val (.int (1 : Int32)), .val (.int (0 : Int32)), .val (.int (0 : Int32))]) (S' := [(.int (0 : Int32)), (.int (0 : Int32))]) (fun t k => XS.iconst X6.here hx rfl (hb hby at_126) k) ?_
  refine Go.st (T' := T6) (pc' := 130) (L' := #[.val (.int p1), .val (.int p2), .val (.int p3), .val (.int p4), .val (.int (1 : Int32)), .val (.int (p2 &&& (2147483647 : Int32))), .val (.int (p3 &&& (2147483647 : Int32))), .val (.int (p4 &&& (2147483647 : Int32))), .val (.ref b1), .val (.int (1 : Int32)), .val (.int (0 : Int32)), .val (.int (0 : Int32))]) (S' := []) (fun t k => XS.icmpNo X6.here hx rfl (hb hby at_127) rfl (teq (by decide : ((0 : Int32) = (0 : Int32)))).2 k) ?_
  refine Go.st (T' := T6) (pc' := 132) (L' := #[.val (.int p1), .val (.int p2), .val (.int p3), .val (.int p4), .val (.int (1 : Int32)), .val (.int (p2 &&& (2147483647 : Int32))), .val (.int (p3 &&& (2147483647 : Int32))), .val (.int (p4 &&& (2147483647 : Int32))), .val (.ref b1), .val (.int (1 : Int32)), .val (.int (0 : Int32)), .val (.int (0 : Int32))]) (S' := [(.int (0 : Int32))]) (fun t k => XS.iload X6.here hx rfl (hb hby at_130) rfl  k) ?_
  refine Go.st (T' := T6) (pc' := 145) (L' := #[.val (.int p1), .val (.int p2), .val (.int p3), .val (.int p4), .val (.int (1 : Int32)), .val (.int (p2 &&& (2147483647 : Int32))), .val (.int (p3 &&& (2147483647 : Int32))), .val (.int (p4 &&& (2147483647 : Int32))), .val (.ref b1), .val (.int (1 : Int32)), .val (.int (0 : Int32)), .val (.int (0 : Int32))]) (S' := []) (fun t k => XS.ifYes X6.here hx rfl (pc0 := 132) (pc' := 145) rfl (hb hby at_132) rfl ((if0 _ _).trans (teq (by decide : ((0 : Int32) = (0 : Int32)))).1) (by decide) (by decide) k) ?_
  refine Go.st (T' := T6) (pc' := 146) (L' := #[.val (.int p1), .val (.int p2), .val (.int p3), .val (.int p4), .val (.int (1 : Int32)), .val (.int (p2 &&& (2147483647 : Int32))), .val (.int (p3 &&& (2147483647 : Int32))), .val (.int (p4 &&& (2147483647 : Int32))), .val (.ref b1), .val (.int (1 : Int32)), .val (.int (0 : Int32)), .val (.int (0 : Int32))]) (S' := [(.int (1 : Int32))]) (fun t k => XS.iconst X6.here hx rfl (hb hby at_145) k) ?_
  refine Go.st (T' := T6) (pc' := 150) (L' := #[.val (.int p1), .val (.int p2), .val (.int p3), .val (.int p4), .val (.int (1 : Int32)), .val (.int (p2 &&& (2147483647 : Int32))), .val (.int (p3 &&& (2147483647 : Int32))), .val (.int (p4 &&& (2147483647 : Int32))), .val (.ref b1), .val (.int (1 : Int32)), .val (.int (0 : Int32)), .val (.int (0 : Int32))]) (S' := [(.int (1 : Int32))]) (fun t k => XS.goto X6.here hx rfl (pc0 := 146) (pc' := 150) rfl (hb hby at_146) (by decide) (by decide) k) ?_
  exact Go.retN X6 hx hlk hret (by simp) (hb hby at_150) (by decide) (by decide) (by rw [e6]; exact ⟨rfl, N6⟩)

def Q0_2 (Z : State)  (h0 : Heap) (n0 : Nat) (v : Option Value) (h : Heap) (L : List Loc) : Prop := v = some (.int 1) ∧ Fr n0 L
set_option maxRecDepth 65536 in
set_option maxHeartbeats 40000000 in
theorem rm0_2 (l : Launch) (Z : State) (a0 : Array Value) (hw : ∀ d ∈ tables_1, d.before a0 Z = true) (ws : List Jvm.Cond) (p1 : Int32) (p2 : Int32) (p3 : Int32) (p4 : Int32) (h0 : Heap) (n0 : Nat) (Z0 : n0 ≤ h0.size) (hk : p1 &&& (3 : Int32) = (2 : Int32)) :
    MetFree l x (head1 (Jvm.Cond.code x code maxLocals ret :: ws) room_1) (fun aa_ U_ => aa_ = #[(.int p1), (.int p2), (.int p3), (.int p4)] ∧ Z.Warmed39 U_.vm ∧ U_.heap = h0) (fun _ _ _ _ _ => True) (fun _ U_ o_ W_ => ∃ v_ L_, o_ = .returned v_ ∧ (Q0_2 Z  h0 n0) v_ W_.heap L_ ∧ FrameEnd U_ o_ W_ L_ room_1.cells room_1.slots) := by
  refine own_met (Q := (Q0_2 Z  h0 n0)) (L0 := #[.val (.int p1), .val (.int p2), .val (.int p3), .val (.int p4), .unset, .unset, .unset, .unset, .unset, .unset, .unset, .unset]) (plainFor_of_name pn_2) (fun m => by first | (simp [entryFrame, mkF, argsToLocals, Value.category, maxLocals]; done) | rfl) ?_
  intro p e s m below meth c T0 X0 hx hby hml hown hnm hret hlk hZ e0
  have N0 := Fr.nil n0
  refine Go.st (T' := T0) (pc' := 1) (L' := #[.val (.int p1), .val (.int p2), .val (.int p3), .val (.int p4), .unset, .unset, .unset, .unset, .unset, .unset, .unset, .unset]) (S' := [(.int p1)]) (fun t k => XS.iloadN X0.here hx rfl (hb hby at_0) rfl  k) ?_
  refine Go.st (T' := T0) (pc' := 2) (L' := #[.val (.int p1), .val (.int p2), .val (.int p3), .val (.int p4), .unset, .unset, .unset, .unset, .unset, .unset, .unset, .unset]) (S' := [(.int (3 : Int32)), (.int p1)]) (fun t k => XS.iconst X0.here hx rfl (hb hby at_1) k) ?_
  refine Go.st (T' := T0) (pc' := 3) (L' := #[.val (.int p1), .val (.int p2), .val (.int p3), .val (.int p4), .unset, .unset, .unset, .unset, .unset, .unset, .unset, .unset]) (S' := [(.int (p1 &&& (3 : Int32)))]) (fun t k => XS.iand X0.here hx rfl (hb hby at_2) rfl k) ?_
  rw [hk]
  refine Go.st (T' := T0) (pc' := 5) (L' := #[.val (.int p1), .val (.int p2), .val (.int p3), .val (.int p4), .val (.int (2 : Int32)), .unset, .unset, .unset, .unset, .unset, .unset, .unset]) (S' := []) (fun t k => XS.istore X0.here hx rfl (hb hby at_3) rfl (l' := #[.val (.int p1), .val (.int p2), .val (.int p3), .val (.int p4), .val (.int (2 : Int32)), .unset, .unset, .unset, .unset, .unset, .unset, .unset]) rfl k) ?_
  refine Go.st (T' := T0) (pc' := 6) (L' := #[.val (.int p1), .val (.int p2), .val (.int p3), .val (.int p4), .val (.int (2 : Int32)), .unset, .unset, .unset, .unset, .unset, .unset, .unset]) (S' := [(.int p2)]) (fun t k => XS.iloadN X0.here hx rfl (hb hby at_5) rfl  k) ?_
  refine Go.st (T' := T0) (pc' := 8) (L' := #[.val (.int p1), .val (.int p2), .val (.int p3), .val (.int p4), .val (.int (2 : Int32)), .unset, .unset, .unset, .unset, .unset, .unset, .unset]) (S' := [(.int (2147483647 : Int32)), (.int p2)]) (fun t k => X0.ldcInt hx hown (mvT hZ (hw _ (List.mem_of_getElem? (i := 0) rfl))) (g := (mkF m 6 #[.val (.int p1), .val (.int p2), .val (.int p3), .val (.int p4), .val (.int (2 : Int32)), .unset, .unset, .unset, .unset, .unset, .unset, .unset] [(.int p2)])) rfl (hb hby at_6) t k) ?_
  refine Go.st (T' := T0) (pc' := 9) (L' := #[.val (.int p1), .val (.int p2), .val (.int p3), .val (.int p4), .val (.int (2 : Int32)), .unset, .unset, .unset, .unset, .unset, .unset, .unset]) (S' := [(.int (p2 &&& (2147483647 : Int32)))]) (fun t k => XS.iand X0.here hx rfl (hb hby at_8) rfl k) ?_
  refine Go.st (T' := T0) (pc' := 11) (L' := #[.val (.int p1), .val (.int p2), .val (.int p3), .val (.int p4), .val (.int (2 : Int32)), .val (.int (p2 &&& (2147483647 : Int32))), .unset, .unset, .unset, .unset, .unset, .unset]) (S' := []) (fun t k => XS.istore X0.here hx rfl (hb hby at_9) rfl (l' := #[.val (.int p1), .val (.int p2), .val (.int p3), .val (.int p4), .val (.int (2 : Int32)), .val (.int (p2 &&& (2147483647 : Int32))), .unset, .unset, .unset, .unset, .unset, .unset]) rfl k) ?_
  refine Go.st (T' := T0) (pc' := 12) (L' := #[.val (.int p1), .val (.int p2), .val (.int p3), .val (.int p4), .val (.int (2 : Int32)), .val (.int (p2 &&& (2147483647 : Int32))), .unset, .unset, .unset, .unset, .unset, .unset]) (S' := [(.int p3)]) (fun t k => XS.iloadN X0.here hx rfl (hb hby at_11) rfl  k) ?_
  refine Go.st (T' := T0) (pc' := 14) (L' := #[.val (.int p1), .val (.int p2), .val (.int p3), .val (.int p4), .val (.int (2 : Int32)), .val (.int (p2 &&& (2147483647 : Int32))), .unset, .unset, .unset, .unset, .unset, .unset]) (S' := [(.int (2147483647 : Int32)), (.int p3)]) (fun t k => X0.ldcInt hx hown (mvT hZ (hw _ (List.mem_of_getElem? (i := 0) rfl))) (g := (mkF m 12 #[.val (.int p1), .val (.int p2), .val (.int p3), .val (.int p4), .val (.int (2 : Int32)), .val (.int (p2 &&& (2147483647 : Int32))), .unset, .unset, .unset, .unset, .unset, .unset] [(.int p3)])) rfl (hb hby at_12) t k) ?_
  refine Go.st (T' := T0) (pc' := 15) (L' := #[.val (.int p1), .val (.int p2), .val (.int p3), .val (.int p4), .val (.int (2 : Int32)), .val (.int (p2 &&& (2147483647 : Int32))), .unset, .unset, .unset, .unset, .unset, .unset]) (S' := [(.int (p3 &&& (2147483647 : Int32)))]) (fun t k => XS.iand X0.here hx rfl (hb hby at_14) rfl k) ?_
  refine Go.st (T' := T0) (pc' := 17) (L' := #[.val (.int p1), .val (.int p2), .val (.int p3), .val (.int p4), .val (.int (2 : Int32)), .val (.int (p2 &&& (2147483647 : Int32))), .val (.int (p3 &&& (2147483647 : Int32))), .unset, .unset, .unset, .unset, .unset]) (S' := []) (fun t k => XS.istore X0.here hx rfl (hb hby at_15) rfl (l' := #[.val (.int p1), .val (.int p2), .val (.int p3), .val (.int p4), .val (.int (2 : Int32)), .val (.int (p2 &&& (2147483647 : Int32))), .val (.int (p3 &&& (2147483647 : Int32))), .unset, .unset, .unset, .unset, .unset]) rfl k) ?_
  refine Go.st (T' := T0) (pc' := 18) (L' := #[.val (.int p1), .val (.int p2), .val (.int p3), .val (.int p4), .val (.int (2 : Int32)), .val (.int (p2 &&& (2147483647 : Int32))), .val (.int (p3 &&& (2147483647 : Int32))), .unset, .unset, .unset, .unset, .unset]) (S' := [(.int p4)]) (fun t k => XS.iloadN X0.here hx rfl (hb hby at_17) rfl  k) ?_
  refine Go.st (T' := T0) (pc' := 20) (L' := #[.val (.int p1), .val (.int p2), .val (.int p3), .val (.int p4), .val (.int (2 : Int32)), .val (.int (p2 &&& (2147483647 : Int32))), .val (.int (p3 &&& (2147483647 : Int32))), .unset, .unset, .unset, .unset, .unset]) (S' := [(.int (2147483647 : Int32)), (.int p4)]) (fun t k => X0.ldcInt hx hown (mvT hZ (hw _ (List.mem_of_getElem? (i := 0) rfl))) (g := (mkF m 18 #[.val (.int p1), .val (.int p2), .val (.int p3), .val (.int p4), .val (.int (2 : Int32)), .val (.int (p2 &&& (2147483647 : Int32))), .val (.int (p3 &&& (2147483647 : Int32))), .unset, .unset, .unset, .unset, .unset] [(.int p4)])) rfl (hb hby at_18) t k) ?_
  refine Go.st (T' := T0) (pc' := 21) (L' := #[.val (.int p1), .val (.int p2), .val (.int p3), .val (.int p4), .val (.int (2 : Int32)), .val (.int (p2 &&& (2147483647 : Int32))), .val (.int (p3 &&& (2147483647 : Int32))), .unset, .unset, .unset, .unset, .unset]) (S' := [(.int (p4 &&& (2147483647 : Int32)))]) (fun t k => XS.iand X0.here hx rfl (hb hby at_20) rfl k) ?_
  refine Go.st (T' := T0) (pc' := 23) (L' := #[.val (.int p1), .val (.int p2), .val (.int p3), .val (.int p4), .val (.int (2 : Int32)), .val (.int (p2 &&& (2147483647 : Int32))), .val (.int (p3 &&& (2147483647 : Int32))), .val (.int (p4 &&& (2147483647 : Int32))), .unset, .unset, .unset, .unset]) (S' := []) (fun t k => XS.istore X0.here hx rfl (hb hby at_21) rfl (l' := #[.val (.int p1), .val (.int p2), .val (.int p3), .val (.int p4), .val (.int (2 : Int32)), .val (.int (p2 &&& (2147483647 : Int32))), .val (.int (p3 &&& (2147483647 : Int32))), .val (.int (p4 &&& (2147483647 : Int32))), .unset, .unset, .unset, .unset]) rfl k) ?_
  obtain ⟨T1, h1, X1, e1, E1, A1, D1, U1, st1⟩ := newO X0 hx hZ hown (hw _ (List.mem_of_getElem? (i := 1) rfl)) (hw _ (List.mem_of_getElem? (i := 2) rfl)) (hw _ (List.mem_of_getElem? (i := 3) rfl)) e0 (g := (mkF m 23 #[.val (.int p1), .val (.int p2), .val (.int p3), .val (.int p4), .val (.int (2 : Int32)), .val (.int (p2 &&& (2147483647 : Int32))), .val (.int (p3 &&& (2147483647 : Int32))), .val (.int (p4 &&& (2147483647 : Int32))), .unset, .unset, .unset, .unset] [])) rfl (hb hby at_23) (by decide) (by decide)
  obtain ⟨b1, g1⟩ : ∃ z, z = h0.size := ⟨_, rfl⟩
  rw [← g1] at A1 D1 U1 st1
  have g_b1 : n0 ≤ b1 := Nat.le_trans Z0 (Nat.le_of_eq g1.symm)
  replace Z0 := Nat.le_trans Z0 E1.1
  have E_b1 := A1
  have F_b1_items : Fld Z h1 b1 "org/concordat/analysis/IntSet" "items" "[I" .null := D1 (Or.inl (hw _ (List.mem_of_getElem? (i := 12) rfl))) (ty := (.array .int)) (by decide)
  have F_b1_size : Fld Z h1 b1 "org/concordat/analysis/IntSet" "size" "I" (.int (0 : Int32)) := D1 (Or.inl (hw _ (List.mem_of_getElem? (i := 19) rfl))) (ty := .int) (by decide)
  have F_b1_bits : Fld Z h1 b1 "org/concordat/analysis/IntSet" "bits" "Ljava/util/BitSet;" .null := D1 (Or.inl (hw _ (List.mem_of_getElem? (i := 31) rfl))) (ty := (.object "java/util/BitSet")) (by decide)
  refine Go.st (T' := T1) (pc' := 26) (L' := #[.val (.int p1), .val (.int p2), .val (.int p3), .val (.int p4), .val (.int (2 : Int32)), .val (.int (p2 &&& (2147483647 : Int32))), .val (.int (p3 &&& (2147483647 : Int32))), .val (.int (p4 &&& (2147483647 : Int32))), .unset, .unset, .unset, .unset]) (S' := [(.ref b1)]) st1 ?_
  refine Go.st (T' := T1) (pc' := 27) (L' := #[.val (.int p1), .val (.int p2), .val (.int p3), .val (.int p4), .val (.int (2 : Int32)), .val (.int (p2 &&& (2147483647 : Int32))), .val (.int (p3 &&& (2147483647 : Int32))), .val (.int (p4 &&& (2147483647 : Int32))), .unset, .unset, .unset, .unset]) (S' := [(.ref b1), (.ref b1)]) (fun t k => XS.dup X1.here hx rfl (hb hby at_26) rfl rfl k) ?_
  obtain ⟨_, _, ⟨T2, L2, k2, n2⟩, -, X2, ⟨Lc2, hQ2, l2, y2, z2⟩, st2⟩ := X1.specialBack hx (y := (⟨"org/concordat/analysis/IntSet", "<init>", "()V"⟩ : MethodName)) rfl hown (mvT hZ (hw _ (List.mem_of_getElem? (i := 4) rfl))) (mvT hZ (hw _ (List.mem_of_getElem? (i := 5) rfl))) (mvT hZ (hw _ (List.mem_of_getElem? (i := 6) rfl))) (by decide) (backOf (W := 1) (rm1 l Z a0 hw [] b1 h1 n0 Z0 E_b1 g_b1 F_b1_items F_b1_size F_b1_bits) hZ (hw _ (List.mem_of_getElem? (i := 6) rfl)) (hw _ (List.mem_of_getElem? (i := 3) rfl)) (by decide) (by decide)) (g := (mkF m 27 #[.val (.int p1), .val (.int p2), .val (.int p3), .val (.int p4), .val (.int (2 : Int32)), .val (.int (p2 &&& (2147483647 : Int32))), .val (.int (p3 &&& (2147483647 : Int32))), .val (.int (p4 &&& (2147483647 : Int32))), .unset, .unset, .unset, .unset] [(.ref b1), (.ref b1)])) rfl (by rw [hml]; rfl) (Steps.refl _) (a := b1) (argsL := []) (rest := [(.ref b1)]) (lenOf pd_2 rfl) rfl (by show 2 * 0 + _ ≤ _; exact Nat.le_of_eq rfl) (hb hby at_27) (fun _ _ => ⟨rfl, e1, (by decide : 1 + 1 ≤ _), (by decide : 3 + 4 ≤ _)⟩)
  dsimp only [Pt.U, Pt.locs, Pt.cells, Pt.slots] at X2 l2 y2 z2 st2 hQ2
  subst l2 y2 z2
  obtain ⟨b, rfl, N2q, Zh2, g_b, hne, S2⟩ := hQ2
  have N2 := Fr.app N0 N2q
  obtain ⟨h2, e2⟩ : ∃ z, T2.heap = z := ⟨_, rfl⟩
  rw [e2] at Zh2 S2
  replace Z0 := Zh2
  have E_b1 := S2.1
  have F_sz := S2.2.2.1
  refine Go.tr (T' := T2) (pc' := 30) (L' := #[.val (.int p1), .val (.int p2), .val (.int p3), .val (.int p4), .val (.int (2 : Int32)), .val (.int (p2 &&& (2147483647 : Int32))), .val (.int (p3 &&& (2147483647 : Int32))), .val (.int (p4 &&& (2147483647 : Int32))), .unset, .unset, .unset, .unset]) (S' := [(.ref b1)]) st2 ?_
  refine Go.st (T' := T2) (pc' := 32) (L' := #[.val (.int p1), .val (.int p2), .val (.int p3), .val (.int p4), .val (.int (2 : Int32)), .val (.int (p2 &&& (2147483647 : Int32))), .val (.int (p3 &&& (2147483647 : Int32))), .val (.int (p4 &&& (2147483647 : Int32))), .val (.ref b1), .unset, .unset, .unset]) (S' := []) (fun t k => XS.astore X2.here hx rfl (hb hby at_30) rfl rfl (l' := #[.val (.int p1), .val (.int p2), .val (.int p3), .val (.int p4), .val (.int (2 : Int32)), .val (.int (p2 &&& (2147483647 : Int32))), .val (.int (p3 &&& (2147483647 : Int32))), .val (.int (p4 &&& (2147483647 : Int32))), .val (.ref b1), .unset, .unset, .unset]) rfl k) ?_
  refine Go.st (T' := T2) (pc' := 34) (L' := #[.val (.int p1), .val (.int p2), .val (.int p3), .val (.int p4), .val (.int (2 : Int32)), .val (.int (p2 &&& (2147483647 : Int32))), .val (.int (p3 &&& (2147483647 : Int32))), .val (.int (p4 &&& (2147483647 : Int32))), .val (.ref b1), .unset, .unset, .unset]) (S' := [(.ref b1)]) (fun t k => XS.aload X2.here hx rfl (hb hby at_32) rfl rfl  k) ?_
  obtain ⟨cq3, kq3, q3a, q3b, q3c⟩ := isOf hZ e2 E_b1
  obtain ⟨_, _, ⟨T3, L3, k3, n3⟩, -, X3, ⟨Lc3, hQ3, l3, y3, z3⟩, st3⟩ := X2.virtualBack hx (y := (⟨"org/concordat/analysis/IntSet", "isEmpty", "()Z"⟩ : MethodName)) (z := (⟨"org/concordat/analysis/IntSet", "isEmpty", "()Z"⟩ : MethodName)) hown (mvT hZ (hw _ (List.mem_of_getElem? (i := 13) rfl))) (mvT hZ (hw _ (List.mem_of_getElem? (i := 14) rfl))) (notFace_of_selects (args := #[]) (mvT hZ (hw _ (List.mem_of_getElem? (i := 16) rfl)))) (mvT hZ (hw _ (List.mem_of_getElem? (i := 16) rfl))) (mvT hZ (hw _ (List.mem_of_getElem? (i := 15) rfl))) (by decide) (backOf (W := 0) (rm3 l Z a0 hw [] b1 (Nat.toInt32 0) h2 n0 Z0 F_sz) hZ (hw _ (List.mem_of_getElem? (i := 17) rfl)) (hw _ (List.mem_of_getElem? (i := 3) rfl)) (by decide) (by decide)) q3a q3c (g := (mkF m 34 #[.val (.int p1), .val (.int p2), .val (.int p3), .val (.int p4), .val (.int (2 : Int32)), .val (.int (p2 &&& (2147483647 : Int32))), .val (.int (p3 &&& (2147483647 : Int32))), .val (.int (p4 &&& (2147483647 : Int32))), .val (.ref b1), .unset, .unset, .unset] [(.ref b1)])) rfl (by rw [hml]; rfl) (Steps.refl _) (argsL := []) (rest := []) (lenOf pd_3 rfl) rfl (by show 2 * 0 + _ ≤ _; exact Nat.le_of_eq rfl) (hb hby at_34) (fun _ _ => ⟨rfl, e2, (by decide : 2 + 0 ≤ _), (by decide : 7 + 0 ≤ _)⟩)
  dsimp only [Pt.U, Pt.locs, Pt.cells, Pt.slots] at X3 l3 y3 z3 st3 hQ3
  subst l3 y3 z3
  obtain ⟨rfl, N3q, e3⟩ := hQ3
  have N3 := Fr.app N2 N3q
  refine Go.tr (T' := T3) (pc' := 37) (L' := #[.val (.int p1), .val (.int p2), .val (.int p3), .val (.int p4), .val (.int (2 : Int32)), .val (.int (p2 &&& (2147483647 : Int32))), .val (.int (p3 &&& (2147483647 : Int32))), .val (.int (p4 &&& (2147483647 : Int32))), .val (.ref b1), .unset, .unset, .unset]) (S' := [(.int (if (Nat.toInt32 0) = (0 : Int32) then (1 : Int32) else (0 : Int32)))]) st3 ?_
  rw [if_pos (by decide : Nat.toInt32 0 = (0 : Int32))]
  refine Go.st (T' := T3) (pc' := 39) (L' := #[.val (.int p1), .val (.int p2), .val (.int p3), .val (.int p4), .val (.int (2 : Int32)), .val (.int (p2 &&& (2147483647 : Int32))), .val (.int (p3 &&& (2147483647 : Int32))), .val (.int (p4 &&& (2147483647 : Int32))), .val (.ref b1), .val (.int (1 : Int32)), .unset, .unset]) (S' := []) (fun t k => XS.istore X3.here hx rfl (hb hby at_37) rfl (l' := #[.val (.int p1), .val (.int p2), .val (.int p3), .val (.int p4), .val (.int (2 : Int32)), .val (.int (p2 &&& (2147483647 : Int32))), .val (.int (p3 &&& (2147483647 : Int32))), .val (.int (p4 &&& (2147483647 : Int32))), .val (.ref b1), .val (.int (1 : Int32)), .unset, .unset]) rfl k) ?_
  refine Go.st (T' := T3) (pc' := 41) (L' := #[.val (.int p1), .val (.int p2), .val (.int p3), .val (.int p4), .val (.int (2 : Int32)), .val (.int (p2 &&& (2147483647 : Int32))), .val (.int (p3 &&& (2147483647 : Int32))), .val (.int (p4 &&& (2147483647 : Int32))), .val (.ref b1), .val (.int (1 : Int32)), .unset, .unset]) (S' := [(.int (2 : Int32))]) (fun t k => XS.iload X3.here hx rfl (hb hby at_39) rfl  k) ?_
  refine Go.st (T' := T3) (pc' := 42) (L' := #[.val (.int p1), .val (.int p2), .val (.int p3), .val (.int p4), .val (.int (2 : Int32)), .val (.int (p2 &&& (2147483647 : Int32))), .val (.int (p3 &&& (2147483647 : Int32))), .val (.int (p4 &&& (2147483647 : Int32))), .val (.ref b1), .val (.int (1 : Int32)), .unset, .unset]) (S' := [(.int (1 : Int32)), (.int (2 : Int32))]) (fun t k => XS.iconst X3.here hx rfl (hb hby at_41) k) ?_
  refine Go.st (T' := T3) (pc' := 45) (L' := #[.val (.int p1), .val (.int p2), .val (.int p3), .val (.int p4), .val (.int (2 : Int32)), .val (.int (p2 &&& (2147483647 : Int32))), .val (.int (p3 &&& (2147483647 : Int32))), .val (.int (p4 &&& (2147483647 : Int32))), .val (.ref b1), .val (.int (1 : Int32)), .unset, .unset]) (S' := []) (fun t k => XS.icmpNo X3.here hx rfl (hb hby at_42) rfl (flt (by decide : ¬ ((2 : Int32) < (1 : Int32)))).1 k) ?_
  refine Go.st (T' := T3) (pc' := 47) (L' := #[.val (.int p1), .val (.int p2), .val (.int p3), .val (.int p4), .val (.int (2 : Int32)), .val (.int (p2 &&& (2147483647 : Int32))), .val (.int (p3 &&& (2147483647 : Int32))), .val (.int (p4 &&& (2147483647 : Int32))), .val (.ref b1), .val (.int (1 : Int32)), .unset, .unset]) (S' := [(.ref b1)]) (fun t k => XS.aload X3.here hx rfl (hb hby at_45) rfl rfl  k) ?_
  refine Go.st (T' := T3) (pc' := 49) (L' := #[.val (.int p1), .val (.int p2), .val (.int p3), .val (.int p4), .val (.int (2 : Int32)), .val (.int (p2 &&& (2147483647 : Int32))), .val (.int (p3 &&& (2147483647 : Int32))), .val (.int (p4 &&& (2147483647 : Int32))), .val (.ref b1), .val (.int (1 : Int32)), .unset, .unset]) (S' := [(.int (p2 &&& (2147483647 : Int32))), (.ref b1)]) (fun t k => XS.iload X3.here hx rfl (hb hby at_47) rfl  k) ?_
  obtain ⟨cq4, kq4, q4a, q4b, q4c⟩ := isOf hZ e3 E_b1
  obtain ⟨_, _, ⟨T4, L4, k4, n4⟩, -, X4, ⟨Lc4, hQ4, l4, y4, z4⟩, st4⟩ := X3.virtualBack hx (y := (⟨"org/concordat/analysis/IntSet", "add", "(I)Z"⟩ : MethodName)) (z := (⟨"org/concordat/analysis/IntSet", "add", "(I)Z"⟩ : MethodName)) hown (mvT hZ (hw _ (List.mem_of_getElem? (i := 42) rfl))) (mvT hZ (hw _ (List.mem_of_getElem? (i := 43) rfl))) (notFace_of_selects (args := #[]) (mvT hZ (hw _ (List.mem_of_getElem? (i := 45) rfl)))) (mvT hZ (hw _ (List.mem_of_getElem? (i := 45) rfl))) (mvT hZ (hw _ (List.mem_of_getElem? (i := 44) rfl))) (by decide) (backOf (W := 0) (rm9 l Z a0 hw [] b1 b 0 (p2 &&& (2147483647 : Int32)) h2 n0 Z0 g_b1 g_b hne S2 (by omega)) hZ (hw _ (List.mem_of_getElem? (i := 46) rfl)) (hw _ (List.mem_of_getElem? (i := 3) rfl)) (by decide) (by decide)) q4a q4c (g := (mkF m 49 #[.val (.int p1), .val (.int p2), .val (.int p3), .val (.int p4), .val (.int (2 : Int32)), .val (.int (p2 &&& (2147483647 : Int32))), .val (.int (p3 &&& (2147483647 : Int32))), .val (.int (p4 &&& (2147483647 : Int32))), .val (.ref b1), .val (.int (1 : Int32)), .unset, .unset] [(.int (p2 &&& (2147483647 : Int32))), (.ref b1)])) rfl (by rw [hml]; rfl) (Steps.refl _) (argsL := [(.int (p2 &&& (2147483647 : Int32)))]) (rest := []) (lenOf pd_5 rfl) rfl (by show 2 * 0 + _ ≤ _; exact Nat.le_of_eq rfl) (hb hby at_49) (fun _ _ => ⟨rfl, e3, (by decide : 2 + 0 ≤ _), (by decide : 7 + 0 ≤ _)⟩)
  dsimp only [Pt.U, Pt.locs, Pt.cells, Pt.slots] at X4 l4 y4 z4 st4 hQ4
  subst l4 y4 z4
  obtain ⟨r4, m4, rfl, N4q, Zh4, hm4, S4⟩ := hQ4
  have N4 := Fr.app N3 N4q
  obtain ⟨h4, e4⟩ : ∃ z, T4.heap = z := ⟨_, rfl⟩
  rw [e4] at Zh4 S4
  replace Z0 := Zh4
  have E_b1 := S4.1
  have F_sz := S4.2.2.1
  refine Go.tr (T' := T4) (pc' := 52) (L' := #[.val (.int p1), .val (.int p2), .val (.int p3), .val (.int p4), .val (.int (2 : Int32)), .val (.int (p2 &&& (2147483647 : Int32))), .val (.int (p3 &&& (2147483647 : Int32))), .val (.int (p4 &&& (2147483647 : Int32))), .val (.ref b1), .val (.int (1 : Int32)), .unset, .unset]) (S' := [(.int r4)]) st4 ?_
  refine Go.st (T' := T4) (pc' := 53) (L' := #[.val (.int p1), .val (.int p2), .val (.int p3), .val (.int p4), .val (.int (2 : Int32)), .val (.int (p2 &&& (2147483647 : Int32))), .val (.int (p3 &&& (2147483647 : Int32))), .val (.int (p4 &&& (2147483647 : Int32))), .val (.ref b1), .val (.int (1 : Int32)), .unset, .unset]) (S' := []) (fun t k => XS.pop X4.here hx rfl (hb hby at_52) rfl rfl k) ?_
  refine Go.st (T' := T4) (pc' := 55) (L' := #[.val (.int p1), .val (.int p2), .val (.int p3), .val (.int p4), .val (.int (2 : Int32)), .val (.int (p2 &&& (2147483647 : Int32))), .val (.int (p3 &&& (2147483647 : Int32))), .val (.int (p4 &&& (2147483647 : Int32))), .val (.ref b1), .val (.int (1 : Int32)), .unset, .unset]) (S' := [(.int (2 : Int32))]) (fun t k => XS.iload X4.here hx rfl (hb hby at_53) rfl  k) ?_
  refine Go.st (T' := T4) (pc' := 56) (L' := #[.val (.int p1), .val (.int p2), .val (.int p3), .val (.int p4), .val (.int (2 : Int32)), .val (.int (p2 &&& (2147483647 : Int32))), .val (.int (p3 &&& (2147483647 : Int32))), .val (.int (p4 &&& (2147483647 : Int32))), .val (.ref b1), .val (.int (1 : Int32)), .unset, .unset]) (S' := [(.int (2 : Int32)), (.int (2 : Int32))]) (fun t k => XS.iconst X4.here hx rfl (hb hby at_55) k) ?_
  refine Go.st (T' := T4) (pc' := 59) (L' := #[.val (.int p1), .val (.int p2), .val (.int p3), .val (.int p4), .val (.int (2 : Int32)), .val (.int (p2 &&& (2147483647 : Int32))), .val (.int (p3 &&& (2147483647 : Int32))), .val (.int (p4 &&& (2147483647 : Int32))), .val (.ref b1), .val (.int (1 : Int32)), .unset, .unset]) (S' := []) (fun t k => XS.icmpNo X4.here hx rfl (hb hby at_56) rfl (flt (by decide : ¬ ((2 : Int32) < (2 : Int32)))).1 k) ?_
  refine Go.st (T' := T4) (pc' := 61) (L' := #[.val (.int p1), .val (.int p2), .val (.int p3), .val (.int p4), .val (.int (2 : Int32)), .val (.int (p2 &&& (2147483647 : Int32))), .val (.int (p3 &&& (2147483647 : Int32))), .val (.int (p4 &&& (2147483647 : Int32))), .val (.ref b1), .val (.int (1 : Int32)), .unset, .unset]) (S' := [(.ref b1)]) (fun t k => XS.aload X4.here hx rfl (hb hby at_59) rfl rfl  k) ?_
  refine Go.st (T' := T4) (pc' := 63) (L' := #[.val (.int p1), .val (.int p2), .val (.int p3), .val (.int p4), .val (.int (2 : Int32)), .val (.int (p2 &&& (2147483647 : Int32))), .val (.int (p3 &&& (2147483647 : Int32))), .val (.int (p4 &&& (2147483647 : Int32))), .val (.ref b1), .val (.int (1 : Int32)), .unset, .unset]) (S' := [(.int (p3 &&& (2147483647 : Int32))), (.ref b1)]) (fun t k => XS.iload X4.here hx rfl (hb hby at_61) rfl  k) ?_
  obtain ⟨cq5, kq5, q5a, q5b, q5c⟩ := isOf hZ e4 E_b1
  obtain ⟨_, _, ⟨T5, L5, k5, n5⟩, -, X5, ⟨Lc5, hQ5, l5, y5, z5⟩, st5⟩ := X4.virtualBack hx (y := (⟨"org/concordat/analysis/IntSet", "add", "(I)Z"⟩ : MethodName)) (z := (⟨"org/concordat/analysis/IntSet", "add", "(I)Z"⟩ : MethodName)) hown (mvT hZ (hw _ (List.mem_of_getElem? (i := 42) rfl))) (mvT hZ (hw _ (List.mem_of_getElem? (i := 43) rfl))) (notFace_of_selects (args := #[]) (mvT hZ (hw _ (List.mem_of_getElem? (i := 45) rfl)))) (mvT hZ (hw _ (List.mem_of_getElem? (i := 45) rfl))) (mvT hZ (hw _ (List.mem_of_getElem? (i := 44) rfl))) (by decide) (backOf (W := 0) (rm9 l Z a0 hw [] b1 b m4 (p3 &&& (2147483647 : Int32)) h4 n0 Z0 g_b1 g_b hne S4 (by omega)) hZ (hw _ (List.mem_of_getElem? (i := 46) rfl)) (hw _ (List.mem_of_getElem? (i := 3) rfl)) (by decide) (by decide)) q5a q5c (g := (mkF m 63 #[.val (.int p1), .val (.int p2), .val (.int p3), .val (.int p4), .val (.int (2 : Int32)), .val (.int (p2 &&& (2147483647 : Int32))), .val (.int (p3 &&& (2147483647 : Int32))), .val (.int (p4 &&& (2147483647 : Int32))), .val (.ref b1), .val (.int (1 : Int32)), .unset, .unset] [(.int (p3 &&& (2147483647 : Int32))), (.ref b1)])) rfl (by rw [hml]; rfl) (Steps.refl _) (argsL := [(.int (p3 &&& (2147483647 : Int32)))]) (rest := []) (lenOf pd_5 rfl) rfl (by show 2 * 0 + _ ≤ _; exact Nat.le_of_eq rfl) (hb hby at_63) (fun _ _ => ⟨rfl, e4, (by decide : 2 + 0 ≤ _), (by decide : 7 + 0 ≤ _)⟩)
  dsimp only [Pt.U, Pt.locs, Pt.cells, Pt.slots] at X5 l5 y5 z5 st5 hQ5
  subst l5 y5 z5
  obtain ⟨r5, m5, rfl, N5q, Zh5, hm5, S5⟩ := hQ5
  have N5 := Fr.app N4 N5q
  obtain ⟨h5, e5⟩ : ∃ z, T5.heap = z := ⟨_, rfl⟩
  rw [e5] at Zh5 S5
  replace Z0 := Zh5
  have E_b1 := S5.1
  have F_sz := S5.2.2.1
  refine Go.tr (T' := T5) (pc' := 66) (L' := #[.val (.int p1), .val (.int p2), .val (.int p3), .val (.int p4), .val (.int (2 : Int32)), .val (.int (p2 &&& (2147483647 : Int32))), .val (.int (p3 &&& (2147483647 : Int32))), .val (.int (p4 &&& (2147483647 : Int32))), .val (.ref b1), .val (.int (1 : Int32)), .unset, .unset]) (S' := [(.int r5)]) st5 ?_
  refine Go.st (T' := T5) (pc' := 67) (L' := #[.val (.int p1), .val (.int p2), .val (.int p3), .val (.int p4), .val (.int (2 : Int32)), .val (.int (p2 &&& (2147483647 : Int32))), .val (.int (p3 &&& (2147483647 : Int32))), .val (.int (p4 &&& (2147483647 : Int32))), .val (.ref b1), .val (.int (1 : Int32)), .unset, .unset]) (S' := []) (fun t k => XS.pop X5.here hx rfl (hb hby at_66) rfl rfl k) ?_
  refine Go.st (T' := T5) (pc' := 69) (L' := #[.val (.int p1), .val (.int p2), .val (.int p3), .val (.int p4), .val (.int (2 : Int32)), .val (.int (p2 &&& (2147483647 : Int32))), .val (.int (p3 &&& (2147483647 : Int32))), .val (.int (p4 &&& (2147483647 : Int32))), .val (.ref b1), .val (.int (1 : Int32)), .unset, .unset]) (S' := [(.int (2 : Int32))]) (fun t k => XS.iload X5.here hx rfl (hb hby at_67) rfl  k) ?_
  refine Go.st (T' := T5) (pc' := 70) (L' := #[.val (.int p1), .val (.int p2), .val (.int p3), .val (.int p4), .val (.int (2 : Int32)), .val (.int (p2 &&& (2147483647 : Int32))), .val (.int (p3 &&& (2147483647 : Int32))), .val (.int (p4 &&& (2147483647 : Int32))), .val (.ref b1), .val (.int (1 : Int32)), .unset, .unset]) (S' := [(.int (3 : Int32)), (.int (2 : Int32))]) (fun t k => XS.iconst X5.here hx rfl (hb hby at_69) k) ?_
  refine Go.st (T' := T5) (pc' := 81) (L' := #[.val (.int p1), .val (.int p2), .val (.int p3), .val (.int p4), .val (.int (2 : Int32)), .val (.int (p2 &&& (2147483647 : Int32))), .val (.int (p3 &&& (2147483647 : Int32))), .val (.int (p4 &&& (2147483647 : Int32))), .val (.ref b1), .val (.int (1 : Int32)), .unset, .unset]) (S' := []) (fun t k => XS.icmpYes X5.here hx rfl (pc0 := 70) (pc' := 81) rfl (hb hby at_70) rfl (tlt (by decide : ((2 : Int32) < (3 : Int32)))).1 (by decide) (by decide) k) ?_
  refine Go.st (T' := T5) (pc' := 83) (L' := #[.val (.int p1), .val (.int p2), .val (.int p3), .val (.int p4), .val (.int (2 : Int32)), .val (.int (p2 &&& (2147483647 : Int32))), .val (.int (p3 &&& (2147483647 : Int32))), .val (.int (p4 &&& (2147483647 : Int32))), .val (.ref b1), .val (.int (1 : Int32)), .unset, .unset]) (S' := [(.ref b1)]) (fun t k => XS.aload X5.here hx rfl (hb hby at_81) rfl rfl  k) ?_
  obtain ⟨cq6, kq6, q6a, q6b, q6c⟩ := isOf hZ e5 E_b1
  obtain ⟨_, _, ⟨T6, L6, k6, n6⟩, -, X6, ⟨Lc6, hQ6, l6, y6, z6⟩, st6⟩ := X5.virtualBack hx (y := (⟨"org/concordat/analysis/IntSet", "isEmpty", "()Z"⟩ : MethodName)) (z := (⟨"org/concordat/analysis/IntSet", "isEmpty", "()Z"⟩ : MethodName)) hown (mvT hZ (hw _ (List.mem_of_getElem? (i := 13) rfl))) (mvT hZ (hw _ (List.mem_of_getElem? (i := 14) rfl))) (notFace_of_selects (args := #[]) (mvT hZ (hw _ (List.mem_of_getElem? (i := 16) rfl)))) (mvT hZ (hw _ (List.mem_of_getElem? (i := 16) rfl))) (mvT hZ (hw _ (List.mem_of_getElem? (i := 15) rfl))) (by decide) (backOf (W := 0) (rm3 l Z a0 hw [] b1 (m5.toInt32) h5 n0 Z0 F_sz) hZ (hw _ (List.mem_of_getElem? (i := 17) rfl)) (hw _ (List.mem_of_getElem? (i := 3) rfl)) (by decide) (by decide)) q6a q6c (g := (mkF m 83 #[.val (.int p1), .val (.int p2), .val (.int p3), .val (.int p4), .val (.int (2 : Int32)), .val (.int (p2 &&& (2147483647 : Int32))), .val (.int (p3 &&& (2147483647 : Int32))), .val (.int (p4 &&& (2147483647 : Int32))), .val (.ref b1), .val (.int (1 : Int32)), .unset, .unset] [(.ref b1)])) rfl (by rw [hml]; rfl) (Steps.refl _) (argsL := []) (rest := []) (lenOf pd_3 rfl) rfl (by show 2 * 0 + _ ≤ _; exact Nat.le_of_eq rfl) (hb hby at_83) (fun _ _ => ⟨rfl, e5, (by decide : 2 + 0 ≤ _), (by decide : 7 + 0 ≤ _)⟩)
  dsimp only [Pt.U, Pt.locs, Pt.cells, Pt.slots] at X6 l6 y6 z6 st6 hQ6
  subst l6 y6 z6
  obtain ⟨rfl, N6q, e6⟩ := hQ6
  have N6 := Fr.app N5 N6q
  refine Go.tr (T' := T6) (pc' := 86) (L' := #[.val (.int p1), .val (.int p2), .val (.int p3), .val (.int p4), .val (.int (2 : Int32)), .val (.int (p2 &&& (2147483647 : Int32))), .val (.int (p3 &&& (2147483647 : Int32))), .val (.int (p4 &&& (2147483647 : Int32))), .val (.ref b1), .val (.int (1 : Int32)), .unset, .unset]) (S' := [(.int (if (m5.toInt32) = (0 : Int32) then (1 : Int32) else (0 : Int32)))]) st6 ?_
  rw [if_neg (own_pos (by omega) (by omega))]
  refine Go.st (T' := T6) (pc' := 88) (L' := #[.val (.int p1), .val (.int p2), .val (.int p3), .val (.int p4), .val (.int (2 : Int32)), .val (.int (p2 &&& (2147483647 : Int32))), .val (.int (p3 &&& (2147483647 : Int32))), .val (.int (p4 &&& (2147483647 : Int32))), .val (.ref b1), .val (.int (1 : Int32)), .val (.int (0 : Int32)), .unset]) (S' := []) (fun t k => XS.istore X6.here hx rfl (hb hby at_86) rfl (l' := #[.val (.int p1), .val (.int p2), .val (.int p3), .val (.int p4), .val (.int (2 : Int32)), .val (.int (p2 &&& (2147483647 : Int32))), .val (.int (p3 &&& (2147483647 : Int32))), .val (.int (p4 &&& (2147483647 : Int32))), .val (.ref b1), .val (.int (1 : Int32)), .val (.int (0 : Int32)), .unset]) rfl k) ?_
  refine Go.st (T' := T6) (pc' := 90) (L' := #[.val (.int p1), .val (.int p2), .val (.int p3), .val (.int p4), .val (.int (2 : Int32)), .val (.int (p2 &&& (2147483647 : Int32))), .val (.int (p3 &&& (2147483647 : Int32))), .val (.int (p4 &&& (2147483647 : Int32))), .val (.ref b1), .val (.int (1 : Int32)), .val (.int (0 : Int32)), .unset]) (S' := [(.int (2 : Int32))]) (fun t k => XS.iload X6.here hx rfl (hb hby at_88) rfl  k) ?_
  refine Go.st (T' := T6) (pc' := 97) (L' := #[.val (.int p1), .val (.int p2), .val (.int p3), .val (.int p4), .val (.int (2 : Int32)), .val (.int (p2 &&& (2147483647 : Int32))), .val (.int (p3 &&& (2147483647 : Int32))), .val (.int (p4 &&& (2147483647 : Int32))), .val (.ref b1), .val (.int (1 : Int32)), .val (.int (0 : Int32)), .unset]) (S' := []) (fun t k => XS.ifYes X6.here hx rfl (pc0 := 90) (pc' := 97) rfl (hb hby at_90) rfl ((if0 _ _).trans (feq (by decide : ¬ ((2 : Int32) = (0 : Int32)))).2) (by decide) (by decide) k) ?_
  refine Go.st (T' := T6) (pc' := 98) (L' := #[.val (.int p1), .val (.int p2), .val (.int p3), .val (.int p4), .val (.int (2 : Int32)), .val (.int (p2 &&& (2147483647 : Int32))), .val (.int (p3 &&& (2147483647 : Int32))), .val (.int (p4 &&& (2147483647 : Int32))), .val (.ref b1), .val (.int (1 : Int32)), .val (.int (0 : Int32)), .unset]) (S' := [(.int (0 : Int32))]) (fun t k => XS.iconst X6.here hx rfl (hb hby at_97) k) ?_
  refine Go.st (T' := T6) (pc' := 100) (L' := #[.val (.int p1), .val (.int p2), .val (.int p3), .val (.int p4), .val (.int (2 : Int32)), .val (.int (p2 &&& (2147483647 : Int32))), .val (.int (p3 &&& (2147483647 : Int32))), .val (.int (p4 &&& (2147483647 : Int32))), .val (.ref b1), .val (.int (1 : Int32)), .val (.int (0 : Int32)), .val (.int (0 : Int32))]) (S' := []) (fun t k => XS.istore X6.here hx rfl (hb hby at_98) rfl (l' := #[.val (.int p1), .val (.int p2), .val (.int p3), .val (.int p4), .val (.int (2 : Int32)), .val (.int (p2 &&& (2147483647 : Int32))), .val (.int (p3 &&& (2147483647 : Int32))), .val (.int (p4 &&& (2147483647 : Int32))), .val (.ref b1), .val (.int (1 : Int32)), .val (.int (0 : Int32)), .val (.int (0 : Int32))]) rfl k) ?_
  refine Go.st (T' := T6) (pc' := 102) (L' := #[.val (.int p1), .val (.int p2), .val (.int p3), .val (.int p4), .val (.int (2 : Int32)), .val (.int (p2 &&& (2147483647 : Int32))), .val (.int (p3 &&& (2147483647 : Int32))), .val (.int (p4 &&& (2147483647 : Int32))), .val (.ref b1), .val (.int (1 : Int32)), .val (.int (0 : Int32)), .val (.int (0 : Int32))]) (S' := [(.int (1 : Int32))]) (fun t k => XS.iload X6.here hx rfl (hb hby at_100) rfl  k) ?_
  refine Go.st (T' := T6) (pc' := 105) (L' := #[.val (.int p1), .val (.int p2), .val (.int p3), .val (.int p4), .val (.int (2 : Int32)), .val (.int (p2 &&& (2147483647 : Int32))), .val (.int (p3 &&& (2147483647 : Int32))), .val (.int (p4 &&& (2147483647 : Int32))), .val (.ref b1), .val (.int (1 : Int32)), .val (.int (0 : Int32)), .val (.int (0 : Int32))]) (S' := []) (fun t k => XS.ifNo X6.here hx rfl (hb hby at_102) rfl ((if0 _ _).trans (feq (by decide : ¬ ((1 : Int32) = (0 : Int32)))).1) k) ?_
  refine Go.st (T' := T6) (pc' := 107) (L' := #[.val (.int p1), .val (.int p2), .val (.int p3), .val (.int p4), .val (.int (2 : Int32)), .val (.int (p2 &&& (2147483647 : Int32))), .val (.int (p3 &&& (2147483647 : Int32))), .val (.int (p4 &&& (2147483647 : Int32))), .val (.ref b1), .val (.int (1 : Int32)), .val (.int (0 : Int32)), .val (.int (0 : Int32))]) (S' := [(.int (0 : Int32))]) (fun t k => XS.iload X6.here hx rfl (hb hby at_105) rfl  k) ?_
  refine Go.st (T' := T6) (pc' := 109) (L' := #[.val (.int p1), .val (.int p2), .val (.int p3), .val (.int p4), .val (.int (2 : Int32)), .val (.int (p2 &&& (2147483647 : Int32))), .val (.int (p3 &&& (2147483647 : Int32))), .val (.int (p4 &&& (2147483647 : Int32))), .val (.ref b1), .val (.int (1 : Int32)), .val (.int (0 : Int32)), .val (.int (0 : Int32))]) (S' := [(.int (0 : Int32)), (.int (0 : Int32))]) (fun t k => XS.iload X6.here hx rfl (hb hby at_107) rfl  k) ?_
  refine Go.st (T' := T6) (pc' := 112) (L' := #[.val (.int p1), .val (.int p2), .val (.int p3), .val (.int p4), .val (.int (2 : Int32)), .val (.int (p2 &&& (2147483647 : Int32))), .val (.int (p3 &&& (2147483647 : Int32))), .val (.int (p4 &&& (2147483647 : Int32))), .val (.ref b1), .val (.int (1 : Int32)), .val (.int (0 : Int32)), .val (.int (0 : Int32))]) (S' := []) (fun t k => XS.icmpNo X6.here hx rfl (hb hby at_109) rfl (teq (by decide : ((0 : Int32) = (0 : Int32)))).2 k) ?_
  refine Go.st (T' := T6) (pc' := 114) (L' := #[.val (.int p1), .val (.int p2), .val (.int p3), .val (.int p4), .val (.int (2 : Int32)), .val (.int (p2 &&& (2147483647 : Int32))), .val (.int (p3 &&& (2147483647 : Int32))), .val (.int (p4 &&& (2147483647 : Int32))), .val (.ref b1), .val (.int (1 : Int32)), .val (.int (0 : Int32)), .val (.int (0 : Int32))]) (S' := [(.int (0 : Int32))]) (fun t k => XS.iload X6.here hx rfl (hb hby at_112) rfl  k) ?_
  refine Go.st (T' := T6) (pc' := 116) (L' := #[.val (.int p1), .val (.int p2), .val (.int p3), .val (.int p4), .val (.int (2 : Int32)), .val (.int (p2 &&& (2147483647 : Int32))), .val (.int (p3 &&& (2147483647 : Int32))), .val (.int (p4 &&& (2147483647 : Int32))), .val (.ref b1), .val (.int (1 : Int32)), .val (.int (0 : Int32)), .val (.int (0 : Int32))]) (S' := [(.ref b1), (.int (0 : Int32))]) (fun t k => XS.aload X6.here hx rfl (hb hby at_114) rfl rfl  k) ?_
  obtain ⟨cq7, kq7, q7a, q7b, q7c⟩ := isOf hZ e6 E_b1
  obtain ⟨_, _, ⟨T7, L7, k7, n7⟩, -, X7, ⟨Lc7, hQ7, l7, y7, z7⟩, st7⟩ := X6.virtualBack hx (y := (⟨"org/concordat/analysis/IntSet", "size", "()I"⟩ : MethodName)) (z := (⟨"org/concordat/analysis/IntSet", "size", "()I"⟩ : MethodName)) hown (mvT hZ (hw _ (List.mem_of_getElem? (i := 20) rfl))) (mvT hZ (hw _ (List.mem_of_getElem? (i := 21) rfl))) (notFace_of_selects (args := #[]) (mvT hZ (hw _ (List.mem_of_getElem? (i := 23) rfl)))) (mvT hZ (hw _ (List.mem_of_getElem? (i := 23) rfl))) (mvT hZ (hw _ (List.mem_of_getElem? (i := 22) rfl))) (by decide) (backOf (W := 1) (rm4 l Z a0 hw [] b1 (m5.toInt32) h5 n0 Z0 F_sz) hZ (hw _ (List.mem_of_getElem? (i := 24) rfl)) (hw _ (List.mem_of_getElem? (i := 3) rfl)) (by decide) (by decide)) q7a q7c (g := (mkF m 116 #[.val (.int p1), .val (.int p2), .val (.int p3), .val (.int p4), .val (.int (2 : Int32)), .val (.int (p2 &&& (2147483647 : Int32))), .val (.int (p3 &&& (2147483647 : Int32))), .val (.int (p4 &&& (2147483647 : Int32))), .val (.ref b1), .val (.int (1 : Int32)), .val (.int (0 : Int32)), .val (.int (0 : Int32))] [(.ref b1), (.int (0 : Int32))])) rfl (by rw [hml]; rfl) (Steps.refl _) (argsL := []) (rest := [(.int (0 : Int32))]) (lenOf pd_4 rfl) rfl (by show 2 * 0 + _ ≤ _; exact Nat.le_of_eq rfl) (hb hby at_116) (fun _ _ => ⟨rfl, e6, (by decide : 2 + 0 ≤ _), (by decide : 7 + 0 ≤ _)⟩)
  dsimp only [Pt.U, Pt.locs, Pt.cells, Pt.slots] at X7 l7 y7 z7 st7 hQ7
  subst l7 y7 z7
  obtain ⟨rfl, N7q, e7⟩ := hQ7
  have N7 := Fr.app N6 N7q
  refine Go.tr (T' := T7) (pc' := 119) (L' := #[.val (.int p1), .val (.int p2), .val (.int p3), .val (.int p4), .val (.int (2 : Int32)), .val (.int (p2 &&& (2147483647 : Int32))), .val (.int (p3 &&& (2147483647 : Int32))), .val (.int (p4 &&& (2147483647 : Int32))), .val (.ref b1), .val (.int (1 : Int32)), .val (.int (0 : Int32)), .val (.int (0 : Int32))]) (S' := [(.int (m5.toInt32)), (.int (0 : Int32))]) st7 ?_
  refine Go.st (T' := T7) (pc' := 126) (L' := #[.val (.int p1), .val (.int p2), .val (.int p3), .val (.int p4), .val (.int (2 : Int32)), .val (.int (p2 &&& (2147483647 : Int32))), .val (.int (p3 &&& (2147483647 : Int32))), .val (.int (p4 &&& (2147483647 : Int32))), .val (.ref b1), .val (.int (1 : Int32)), .val (.int (0 : Int32)), .val (.int (0 : Int32))]) (S' := [(.int (0 : Int32))]) (fun t k => XS.ifYes X7.here hx rfl (pc0 := 119) (pc' := 126) rfl (hb hby at_119) rfl ((if0 _ _).trans (feq (own_pos (by omega) (by omega) : ¬ ((m5.toInt32) = (0 : Int32)))).2) (by decide) (by decide) k) ?_
  refine Go.st (T' := T7) (pc' := 127) (L' := #[.val (.int p1), .val (.int p2), .val (.int p3), .val (.int p4), .val (.int (2 : Int32)), .val (.int (p2 &&& (2147483647 : Int32))), .val (.int (p3 &&& (2147483647 : Int32))), .val (.int (p4 &&& (2147483647 : Int32))), .val (.ref b1), .val (.int (1 : Int32)), .val (.int (0 : Int32)), .val (.int (0 : Int32))]) (S' := [(.int (0 : Int32)), (.int (0 : Int32))]) (fun t k => XS.iconst X7.here hx rfl (hb hby at_126) k) ?_
  refine Go.st (T' := T7) (pc' := 130) (L' := #[.val (.int p1), .val (.int p2), .val (.int p3), .val (.int p4), .val (.int (2 : Int32)), .val (.int (p2 &&& (2147483647 : Int32))), .val (.int (p3 &&& (2147483647 : Int32))), .val (.int (p4 &&& (2147483647 : Int32))), .val (.ref b1), .val (.int (1 : Int32)), .val (.int (0 : Int32)), .val (.int (0 : Int32))]) (S' := []) (fun t k => XS.icmpNo X7.here hx rfl (hb hby at_127) rfl (teq (by decide : ((0 : Int32) = (0 : Int32)))).2 k) ?_
  refine Go.st (T' := T7) (pc' := 132) (L' := #[.val (.int p1), .val (.int p2), .val (.int p3), .val (.int p4), .val (.int (2 : Int32)), .val (.int (p2 &&& (2147483647 : Int32))), .val (.int (p3 &&& (2147483647 : Int32))), .val (.int (p4 &&& (2147483647 : Int32))), .val (.ref b1), .val (.int (1 : Int32)), .val (.int (0 : Int32)), .val (.int (0 : Int32))]) (S' := [(.int (0 : Int32))]) (fun t k => XS.iload X7.here hx rfl (hb hby at_130) rfl  k) ?_
  refine Go.st (T' := T7) (pc' := 145) (L' := #[.val (.int p1), .val (.int p2), .val (.int p3), .val (.int p4), .val (.int (2 : Int32)), .val (.int (p2 &&& (2147483647 : Int32))), .val (.int (p3 &&& (2147483647 : Int32))), .val (.int (p4 &&& (2147483647 : Int32))), .val (.ref b1), .val (.int (1 : Int32)), .val (.int (0 : Int32)), .val (.int (0 : Int32))]) (S' := []) (fun t k => XS.ifYes X7.here hx rfl (pc0 := 132) (pc' := 145) rfl (hb hby at_132) rfl ((if0 _ _).trans (teq (by decide : ((0 : Int32) = (0 : Int32)))).1) (by decide) (by decide) k) ?_
  refine Go.st (T' := T7) (pc' := 146) (L' := #[.val (.int p1), .val (.int p2), .val (.int p3), .val (.int p4), .val (.int (2 : Int32)), .val (.int (p2 &&& (2147483647 : Int32))), .val (.int (p3 &&& (2147483647 : Int32))), .val (.int (p4 &&& (2147483647 : Int32))), .val (.ref b1), .val (.int (1 : Int32)), .val (.int (0 : Int32)), .val (.int (0 : Int32))]) (S' := [(.int (1 : Int32))]) (fun t k => XS.iconst X7.here hx rfl (hb hby at_145) k) ?_
  refine Go.st (T' := T7) (pc' := 150) (L' := #[.val (.int p1), .val (.int p2), .val (.int p3), .val (.int p4), .val (.int (2 : Int32)), .val (.int (p2 &&& (2147483647 : Int32))), .val (.int (p3 &&& (2147483647 : Int32))), .val (.int (p4 &&& (2147483647 : Int32))), .val (.ref b1), .val (.int (1 : Int32)), .val (.int (0 : Int32)), .val (.int (0 : Int32))]) (S' := [(.int (1 : Int32))]) (fun t k => XS.goto X7.here hx rfl (pc0 := 146) (pc' := 150) rfl (hb hby at_146) (by decide) (by decide) k) ?_
  exact Go.retN X7 hx hlk hret (by simp) (hb hby at_150) (by decide) (by decide) (by rw [e7]; exact ⟨rfl, N7⟩)

def Q0_3 (Z : State)  (h0 : Heap) (n0 : Nat) (v : Option Value) (h : Heap) (L : List Loc) : Prop := v = some (.int 1) ∧ Fr n0 L
set_option maxRecDepth 65536 in
set_option maxHeartbeats 40000000 in
theorem rm0_3 (l : Launch) (Z : State) (a0 : Array Value) (hw : ∀ d ∈ tables_1, d.before a0 Z = true) (ws : List Jvm.Cond) (p1 : Int32) (p2 : Int32) (p3 : Int32) (p4 : Int32) (h0 : Heap) (n0 : Nat) (Z0 : n0 ≤ h0.size) (hk : p1 &&& (3 : Int32) = (3 : Int32)) :
    MetFree l x (head1 (Jvm.Cond.code x code maxLocals ret :: ws) room_1) (fun aa_ U_ => aa_ = #[(.int p1), (.int p2), (.int p3), (.int p4)] ∧ Z.Warmed39 U_.vm ∧ U_.heap = h0) (fun _ _ _ _ _ => True) (fun _ U_ o_ W_ => ∃ v_ L_, o_ = .returned v_ ∧ (Q0_3 Z  h0 n0) v_ W_.heap L_ ∧ FrameEnd U_ o_ W_ L_ room_1.cells room_1.slots) := by
  refine own_met (Q := (Q0_3 Z  h0 n0)) (L0 := #[.val (.int p1), .val (.int p2), .val (.int p3), .val (.int p4), .unset, .unset, .unset, .unset, .unset, .unset, .unset, .unset]) (plainFor_of_name pn_2) (fun m => by first | (simp [entryFrame, mkF, argsToLocals, Value.category, maxLocals]; done) | rfl) ?_
  intro p e s m below meth c T0 X0 hx hby hml hown hnm hret hlk hZ e0
  have N0 := Fr.nil n0
  refine Go.st (T' := T0) (pc' := 1) (L' := #[.val (.int p1), .val (.int p2), .val (.int p3), .val (.int p4), .unset, .unset, .unset, .unset, .unset, .unset, .unset, .unset]) (S' := [(.int p1)]) (fun t k => XS.iloadN X0.here hx rfl (hb hby at_0) rfl  k) ?_
  refine Go.st (T' := T0) (pc' := 2) (L' := #[.val (.int p1), .val (.int p2), .val (.int p3), .val (.int p4), .unset, .unset, .unset, .unset, .unset, .unset, .unset, .unset]) (S' := [(.int (3 : Int32)), (.int p1)]) (fun t k => XS.iconst X0.here hx rfl (hb hby at_1) k) ?_
  refine Go.st (T' := T0) (pc' := 3) (L' := #[.val (.int p1), .val (.int p2), .val (.int p3), .val (.int p4), .unset, .unset, .unset, .unset, .unset, .unset, .unset, .unset]) (S' := [(.int (p1 &&& (3 : Int32)))]) (fun t k => XS.iand X0.here hx rfl (hb hby at_2) rfl k) ?_
  rw [hk]
  refine Go.st (T' := T0) (pc' := 5) (L' := #[.val (.int p1), .val (.int p2), .val (.int p3), .val (.int p4), .val (.int (3 : Int32)), .unset, .unset, .unset, .unset, .unset, .unset, .unset]) (S' := []) (fun t k => XS.istore X0.here hx rfl (hb hby at_3) rfl (l' := #[.val (.int p1), .val (.int p2), .val (.int p3), .val (.int p4), .val (.int (3 : Int32)), .unset, .unset, .unset, .unset, .unset, .unset, .unset]) rfl k) ?_
  refine Go.st (T' := T0) (pc' := 6) (L' := #[.val (.int p1), .val (.int p2), .val (.int p3), .val (.int p4), .val (.int (3 : Int32)), .unset, .unset, .unset, .unset, .unset, .unset, .unset]) (S' := [(.int p2)]) (fun t k => XS.iloadN X0.here hx rfl (hb hby at_5) rfl  k) ?_
  refine Go.st (T' := T0) (pc' := 8) (L' := #[.val (.int p1), .val (.int p2), .val (.int p3), .val (.int p4), .val (.int (3 : Int32)), .unset, .unset, .unset, .unset, .unset, .unset, .unset]) (S' := [(.int (2147483647 : Int32)), (.int p2)]) (fun t k => X0.ldcInt hx hown (mvT hZ (hw _ (List.mem_of_getElem? (i := 0) rfl))) (g := (mkF m 6 #[.val (.int p1), .val (.int p2), .val (.int p3), .val (.int p4), .val (.int (3 : Int32)), .unset, .unset, .unset, .unset, .unset, .unset, .unset] [(.int p2)])) rfl (hb hby at_6) t k) ?_
  refine Go.st (T' := T0) (pc' := 9) (L' := #[.val (.int p1), .val (.int p2), .val (.int p3), .val (.int p4), .val (.int (3 : Int32)), .unset, .unset, .unset, .unset, .unset, .unset, .unset]) (S' := [(.int (p2 &&& (2147483647 : Int32)))]) (fun t k => XS.iand X0.here hx rfl (hb hby at_8) rfl k) ?_
  refine Go.st (T' := T0) (pc' := 11) (L' := #[.val (.int p1), .val (.int p2), .val (.int p3), .val (.int p4), .val (.int (3 : Int32)), .val (.int (p2 &&& (2147483647 : Int32))), .unset, .unset, .unset, .unset, .unset, .unset]) (S' := []) (fun t k => XS.istore X0.here hx rfl (hb hby at_9) rfl (l' := #[.val (.int p1), .val (.int p2), .val (.int p3), .val (.int p4), .val (.int (3 : Int32)), .val (.int (p2 &&& (2147483647 : Int32))), .unset, .unset, .unset, .unset, .unset, .unset]) rfl k) ?_
  refine Go.st (T' := T0) (pc' := 12) (L' := #[.val (.int p1), .val (.int p2), .val (.int p3), .val (.int p4), .val (.int (3 : Int32)), .val (.int (p2 &&& (2147483647 : Int32))), .unset, .unset, .unset, .unset, .unset, .unset]) (S' := [(.int p3)]) (fun t k => XS.iloadN X0.here hx rfl (hb hby at_11) rfl  k) ?_
  refine Go.st (T' := T0) (pc' := 14) (L' := #[.val (.int p1), .val (.int p2), .val (.int p3), .val (.int p4), .val (.int (3 : Int32)), .val (.int (p2 &&& (2147483647 : Int32))), .unset, .unset, .unset, .unset, .unset, .unset]) (S' := [(.int (2147483647 : Int32)), (.int p3)]) (fun t k => X0.ldcInt hx hown (mvT hZ (hw _ (List.mem_of_getElem? (i := 0) rfl))) (g := (mkF m 12 #[.val (.int p1), .val (.int p2), .val (.int p3), .val (.int p4), .val (.int (3 : Int32)), .val (.int (p2 &&& (2147483647 : Int32))), .unset, .unset, .unset, .unset, .unset, .unset] [(.int p3)])) rfl (hb hby at_12) t k) ?_
  refine Go.st (T' := T0) (pc' := 15) (L' := #[.val (.int p1), .val (.int p2), .val (.int p3), .val (.int p4), .val (.int (3 : Int32)), .val (.int (p2 &&& (2147483647 : Int32))), .unset, .unset, .unset, .unset, .unset, .unset]) (S' := [(.int (p3 &&& (2147483647 : Int32)))]) (fun t k => XS.iand X0.here hx rfl (hb hby at_14) rfl k) ?_
  refine Go.st (T' := T0) (pc' := 17) (L' := #[.val (.int p1), .val (.int p2), .val (.int p3), .val (.int p4), .val (.int (3 : Int32)), .val (.int (p2 &&& (2147483647 : Int32))), .val (.int (p3 &&& (2147483647 : Int32))), .unset, .unset, .unset, .unset, .unset]) (S' := []) (fun t k => XS.istore X0.here hx rfl (hb hby at_15) rfl (l' := #[.val (.int p1), .val (.int p2), .val (.int p3), .val (.int p4), .val (.int (3 : Int32)), .val (.int (p2 &&& (2147483647 : Int32))), .val (.int (p3 &&& (2147483647 : Int32))), .unset, .unset, .unset, .unset, .unset]) rfl k) ?_
  refine Go.st (T' := T0) (pc' := 18) (L' := #[.val (.int p1), .val (.int p2), .val (.int p3), .val (.int p4), .val (.int (3 : Int32)), .val (.int (p2 &&& (2147483647 : Int32))), .val (.int (p3 &&& (2147483647 : Int32))), .unset, .unset, .unset, .unset, .unset]) (S' := [(.int p4)]) (fun t k => XS.iloadN X0.here hx rfl (hb hby at_17) rfl  k) ?_
  refine Go.st (T' := T0) (pc' := 20) (L' := #[.val (.int p1), .val (.int p2), .val (.int p3), .val (.int p4), .val (.int (3 : Int32)), .val (.int (p2 &&& (2147483647 : Int32))), .val (.int (p3 &&& (2147483647 : Int32))), .unset, .unset, .unset, .unset, .unset]) (S' := [(.int (2147483647 : Int32)), (.int p4)]) (fun t k => X0.ldcInt hx hown (mvT hZ (hw _ (List.mem_of_getElem? (i := 0) rfl))) (g := (mkF m 18 #[.val (.int p1), .val (.int p2), .val (.int p3), .val (.int p4), .val (.int (3 : Int32)), .val (.int (p2 &&& (2147483647 : Int32))), .val (.int (p3 &&& (2147483647 : Int32))), .unset, .unset, .unset, .unset, .unset] [(.int p4)])) rfl (hb hby at_18) t k) ?_
  refine Go.st (T' := T0) (pc' := 21) (L' := #[.val (.int p1), .val (.int p2), .val (.int p3), .val (.int p4), .val (.int (3 : Int32)), .val (.int (p2 &&& (2147483647 : Int32))), .val (.int (p3 &&& (2147483647 : Int32))), .unset, .unset, .unset, .unset, .unset]) (S' := [(.int (p4 &&& (2147483647 : Int32)))]) (fun t k => XS.iand X0.here hx rfl (hb hby at_20) rfl k) ?_
  refine Go.st (T' := T0) (pc' := 23) (L' := #[.val (.int p1), .val (.int p2), .val (.int p3), .val (.int p4), .val (.int (3 : Int32)), .val (.int (p2 &&& (2147483647 : Int32))), .val (.int (p3 &&& (2147483647 : Int32))), .val (.int (p4 &&& (2147483647 : Int32))), .unset, .unset, .unset, .unset]) (S' := []) (fun t k => XS.istore X0.here hx rfl (hb hby at_21) rfl (l' := #[.val (.int p1), .val (.int p2), .val (.int p3), .val (.int p4), .val (.int (3 : Int32)), .val (.int (p2 &&& (2147483647 : Int32))), .val (.int (p3 &&& (2147483647 : Int32))), .val (.int (p4 &&& (2147483647 : Int32))), .unset, .unset, .unset, .unset]) rfl k) ?_
  obtain ⟨T1, h1, X1, e1, E1, A1, D1, U1, st1⟩ := newO X0 hx hZ hown (hw _ (List.mem_of_getElem? (i := 1) rfl)) (hw _ (List.mem_of_getElem? (i := 2) rfl)) (hw _ (List.mem_of_getElem? (i := 3) rfl)) e0 (g := (mkF m 23 #[.val (.int p1), .val (.int p2), .val (.int p3), .val (.int p4), .val (.int (3 : Int32)), .val (.int (p2 &&& (2147483647 : Int32))), .val (.int (p3 &&& (2147483647 : Int32))), .val (.int (p4 &&& (2147483647 : Int32))), .unset, .unset, .unset, .unset] [])) rfl (hb hby at_23) (by decide) (by decide)
  obtain ⟨b1, g1⟩ : ∃ z, z = h0.size := ⟨_, rfl⟩
  rw [← g1] at A1 D1 U1 st1
  have g_b1 : n0 ≤ b1 := Nat.le_trans Z0 (Nat.le_of_eq g1.symm)
  replace Z0 := Nat.le_trans Z0 E1.1
  have E_b1 := A1
  have F_b1_items : Fld Z h1 b1 "org/concordat/analysis/IntSet" "items" "[I" .null := D1 (Or.inl (hw _ (List.mem_of_getElem? (i := 12) rfl))) (ty := (.array .int)) (by decide)
  have F_b1_size : Fld Z h1 b1 "org/concordat/analysis/IntSet" "size" "I" (.int (0 : Int32)) := D1 (Or.inl (hw _ (List.mem_of_getElem? (i := 19) rfl))) (ty := .int) (by decide)
  have F_b1_bits : Fld Z h1 b1 "org/concordat/analysis/IntSet" "bits" "Ljava/util/BitSet;" .null := D1 (Or.inl (hw _ (List.mem_of_getElem? (i := 31) rfl))) (ty := (.object "java/util/BitSet")) (by decide)
  refine Go.st (T' := T1) (pc' := 26) (L' := #[.val (.int p1), .val (.int p2), .val (.int p3), .val (.int p4), .val (.int (3 : Int32)), .val (.int (p2 &&& (2147483647 : Int32))), .val (.int (p3 &&& (2147483647 : Int32))), .val (.int (p4 &&& (2147483647 : Int32))), .unset, .unset, .unset, .unset]) (S' := [(.ref b1)]) st1 ?_
  refine Go.st (T' := T1) (pc' := 27) (L' := #[.val (.int p1), .val (.int p2), .val (.int p3), .val (.int p4), .val (.int (3 : Int32)), .val (.int (p2 &&& (2147483647 : Int32))), .val (.int (p3 &&& (2147483647 : Int32))), .val (.int (p4 &&& (2147483647 : Int32))), .unset, .unset, .unset, .unset]) (S' := [(.ref b1), (.ref b1)]) (fun t k => XS.dup X1.here hx rfl (hb hby at_26) rfl rfl k) ?_
  obtain ⟨_, _, ⟨T2, L2, k2, n2⟩, -, X2, ⟨Lc2, hQ2, l2, y2, z2⟩, st2⟩ := X1.specialBack hx (y := (⟨"org/concordat/analysis/IntSet", "<init>", "()V"⟩ : MethodName)) rfl hown (mvT hZ (hw _ (List.mem_of_getElem? (i := 4) rfl))) (mvT hZ (hw _ (List.mem_of_getElem? (i := 5) rfl))) (mvT hZ (hw _ (List.mem_of_getElem? (i := 6) rfl))) (by decide) (backOf (W := 1) (rm1 l Z a0 hw [] b1 h1 n0 Z0 E_b1 g_b1 F_b1_items F_b1_size F_b1_bits) hZ (hw _ (List.mem_of_getElem? (i := 6) rfl)) (hw _ (List.mem_of_getElem? (i := 3) rfl)) (by decide) (by decide)) (g := (mkF m 27 #[.val (.int p1), .val (.int p2), .val (.int p3), .val (.int p4), .val (.int (3 : Int32)), .val (.int (p2 &&& (2147483647 : Int32))), .val (.int (p3 &&& (2147483647 : Int32))), .val (.int (p4 &&& (2147483647 : Int32))), .unset, .unset, .unset, .unset] [(.ref b1), (.ref b1)])) rfl (by rw [hml]; rfl) (Steps.refl _) (a := b1) (argsL := []) (rest := [(.ref b1)]) (lenOf pd_2 rfl) rfl (by show 2 * 0 + _ ≤ _; exact Nat.le_of_eq rfl) (hb hby at_27) (fun _ _ => ⟨rfl, e1, (by decide : 1 + 1 ≤ _), (by decide : 3 + 4 ≤ _)⟩)
  dsimp only [Pt.U, Pt.locs, Pt.cells, Pt.slots] at X2 l2 y2 z2 st2 hQ2
  subst l2 y2 z2
  obtain ⟨b, rfl, N2q, Zh2, g_b, hne, S2⟩ := hQ2
  have N2 := Fr.app N0 N2q
  obtain ⟨h2, e2⟩ : ∃ z, T2.heap = z := ⟨_, rfl⟩
  rw [e2] at Zh2 S2
  replace Z0 := Zh2
  have E_b1 := S2.1
  have F_sz := S2.2.2.1
  refine Go.tr (T' := T2) (pc' := 30) (L' := #[.val (.int p1), .val (.int p2), .val (.int p3), .val (.int p4), .val (.int (3 : Int32)), .val (.int (p2 &&& (2147483647 : Int32))), .val (.int (p3 &&& (2147483647 : Int32))), .val (.int (p4 &&& (2147483647 : Int32))), .unset, .unset, .unset, .unset]) (S' := [(.ref b1)]) st2 ?_
  refine Go.st (T' := T2) (pc' := 32) (L' := #[.val (.int p1), .val (.int p2), .val (.int p3), .val (.int p4), .val (.int (3 : Int32)), .val (.int (p2 &&& (2147483647 : Int32))), .val (.int (p3 &&& (2147483647 : Int32))), .val (.int (p4 &&& (2147483647 : Int32))), .val (.ref b1), .unset, .unset, .unset]) (S' := []) (fun t k => XS.astore X2.here hx rfl (hb hby at_30) rfl rfl (l' := #[.val (.int p1), .val (.int p2), .val (.int p3), .val (.int p4), .val (.int (3 : Int32)), .val (.int (p2 &&& (2147483647 : Int32))), .val (.int (p3 &&& (2147483647 : Int32))), .val (.int (p4 &&& (2147483647 : Int32))), .val (.ref b1), .unset, .unset, .unset]) rfl k) ?_
  refine Go.st (T' := T2) (pc' := 34) (L' := #[.val (.int p1), .val (.int p2), .val (.int p3), .val (.int p4), .val (.int (3 : Int32)), .val (.int (p2 &&& (2147483647 : Int32))), .val (.int (p3 &&& (2147483647 : Int32))), .val (.int (p4 &&& (2147483647 : Int32))), .val (.ref b1), .unset, .unset, .unset]) (S' := [(.ref b1)]) (fun t k => XS.aload X2.here hx rfl (hb hby at_32) rfl rfl  k) ?_
  obtain ⟨cq3, kq3, q3a, q3b, q3c⟩ := isOf hZ e2 E_b1
  obtain ⟨_, _, ⟨T3, L3, k3, n3⟩, -, X3, ⟨Lc3, hQ3, l3, y3, z3⟩, st3⟩ := X2.virtualBack hx (y := (⟨"org/concordat/analysis/IntSet", "isEmpty", "()Z"⟩ : MethodName)) (z := (⟨"org/concordat/analysis/IntSet", "isEmpty", "()Z"⟩ : MethodName)) hown (mvT hZ (hw _ (List.mem_of_getElem? (i := 13) rfl))) (mvT hZ (hw _ (List.mem_of_getElem? (i := 14) rfl))) (notFace_of_selects (args := #[]) (mvT hZ (hw _ (List.mem_of_getElem? (i := 16) rfl)))) (mvT hZ (hw _ (List.mem_of_getElem? (i := 16) rfl))) (mvT hZ (hw _ (List.mem_of_getElem? (i := 15) rfl))) (by decide) (backOf (W := 0) (rm3 l Z a0 hw [] b1 (Nat.toInt32 0) h2 n0 Z0 F_sz) hZ (hw _ (List.mem_of_getElem? (i := 17) rfl)) (hw _ (List.mem_of_getElem? (i := 3) rfl)) (by decide) (by decide)) q3a q3c (g := (mkF m 34 #[.val (.int p1), .val (.int p2), .val (.int p3), .val (.int p4), .val (.int (3 : Int32)), .val (.int (p2 &&& (2147483647 : Int32))), .val (.int (p3 &&& (2147483647 : Int32))), .val (.int (p4 &&& (2147483647 : Int32))), .val (.ref b1), .unset, .unset, .unset] [(.ref b1)])) rfl (by rw [hml]; rfl) (Steps.refl _) (argsL := []) (rest := []) (lenOf pd_3 rfl) rfl (by show 2 * 0 + _ ≤ _; exact Nat.le_of_eq rfl) (hb hby at_34) (fun _ _ => ⟨rfl, e2, (by decide : 2 + 0 ≤ _), (by decide : 7 + 0 ≤ _)⟩)
  dsimp only [Pt.U, Pt.locs, Pt.cells, Pt.slots] at X3 l3 y3 z3 st3 hQ3
  subst l3 y3 z3
  obtain ⟨rfl, N3q, e3⟩ := hQ3
  have N3 := Fr.app N2 N3q
  refine Go.tr (T' := T3) (pc' := 37) (L' := #[.val (.int p1), .val (.int p2), .val (.int p3), .val (.int p4), .val (.int (3 : Int32)), .val (.int (p2 &&& (2147483647 : Int32))), .val (.int (p3 &&& (2147483647 : Int32))), .val (.int (p4 &&& (2147483647 : Int32))), .val (.ref b1), .unset, .unset, .unset]) (S' := [(.int (if (Nat.toInt32 0) = (0 : Int32) then (1 : Int32) else (0 : Int32)))]) st3 ?_
  rw [if_pos (by decide : Nat.toInt32 0 = (0 : Int32))]
  refine Go.st (T' := T3) (pc' := 39) (L' := #[.val (.int p1), .val (.int p2), .val (.int p3), .val (.int p4), .val (.int (3 : Int32)), .val (.int (p2 &&& (2147483647 : Int32))), .val (.int (p3 &&& (2147483647 : Int32))), .val (.int (p4 &&& (2147483647 : Int32))), .val (.ref b1), .val (.int (1 : Int32)), .unset, .unset]) (S' := []) (fun t k => XS.istore X3.here hx rfl (hb hby at_37) rfl (l' := #[.val (.int p1), .val (.int p2), .val (.int p3), .val (.int p4), .val (.int (3 : Int32)), .val (.int (p2 &&& (2147483647 : Int32))), .val (.int (p3 &&& (2147483647 : Int32))), .val (.int (p4 &&& (2147483647 : Int32))), .val (.ref b1), .val (.int (1 : Int32)), .unset, .unset]) rfl k) ?_
  refine Go.st (T' := T3) (pc' := 41) (L' := #[.val (.int p1), .val (.int p2), .val (.int p3), .val (.int p4), .val (.int (3 : Int32)), .val (.int (p2 &&& (2147483647 : Int32))), .val (.int (p3 &&& (2147483647 : Int32))), .val (.int (p4 &&& (2147483647 : Int32))), .val (.ref b1), .val (.int (1 : Int32)), .unset, .unset]) (S' := [(.int (3 : Int32))]) (fun t k => XS.iload X3.here hx rfl (hb hby at_39) rfl  k) ?_
  refine Go.st (T' := T3) (pc' := 42) (L' := #[.val (.int p1), .val (.int p2), .val (.int p3), .val (.int p4), .val (.int (3 : Int32)), .val (.int (p2 &&& (2147483647 : Int32))), .val (.int (p3 &&& (2147483647 : Int32))), .val (.int (p4 &&& (2147483647 : Int32))), .val (.ref b1), .val (.int (1 : Int32)), .unset, .unset]) (S' := [(.int (1 : Int32)), (.int (3 : Int32))]) (fun t k => XS.iconst X3.here hx rfl (hb hby at_41) k) ?_
  refine Go.st (T' := T3) (pc' := 45) (L' := #[.val (.int p1), .val (.int p2), .val (.int p3), .val (.int p4), .val (.int (3 : Int32)), .val (.int (p2 &&& (2147483647 : Int32))), .val (.int (p3 &&& (2147483647 : Int32))), .val (.int (p4 &&& (2147483647 : Int32))), .val (.ref b1), .val (.int (1 : Int32)), .unset, .unset]) (S' := []) (fun t k => XS.icmpNo X3.here hx rfl (hb hby at_42) rfl (flt (by decide : ¬ ((3 : Int32) < (1 : Int32)))).1 k) ?_
  refine Go.st (T' := T3) (pc' := 47) (L' := #[.val (.int p1), .val (.int p2), .val (.int p3), .val (.int p4), .val (.int (3 : Int32)), .val (.int (p2 &&& (2147483647 : Int32))), .val (.int (p3 &&& (2147483647 : Int32))), .val (.int (p4 &&& (2147483647 : Int32))), .val (.ref b1), .val (.int (1 : Int32)), .unset, .unset]) (S' := [(.ref b1)]) (fun t k => XS.aload X3.here hx rfl (hb hby at_45) rfl rfl  k) ?_
  refine Go.st (T' := T3) (pc' := 49) (L' := #[.val (.int p1), .val (.int p2), .val (.int p3), .val (.int p4), .val (.int (3 : Int32)), .val (.int (p2 &&& (2147483647 : Int32))), .val (.int (p3 &&& (2147483647 : Int32))), .val (.int (p4 &&& (2147483647 : Int32))), .val (.ref b1), .val (.int (1 : Int32)), .unset, .unset]) (S' := [(.int (p2 &&& (2147483647 : Int32))), (.ref b1)]) (fun t k => XS.iload X3.here hx rfl (hb hby at_47) rfl  k) ?_
  obtain ⟨cq4, kq4, q4a, q4b, q4c⟩ := isOf hZ e3 E_b1
  obtain ⟨_, _, ⟨T4, L4, k4, n4⟩, -, X4, ⟨Lc4, hQ4, l4, y4, z4⟩, st4⟩ := X3.virtualBack hx (y := (⟨"org/concordat/analysis/IntSet", "add", "(I)Z"⟩ : MethodName)) (z := (⟨"org/concordat/analysis/IntSet", "add", "(I)Z"⟩ : MethodName)) hown (mvT hZ (hw _ (List.mem_of_getElem? (i := 42) rfl))) (mvT hZ (hw _ (List.mem_of_getElem? (i := 43) rfl))) (notFace_of_selects (args := #[]) (mvT hZ (hw _ (List.mem_of_getElem? (i := 45) rfl)))) (mvT hZ (hw _ (List.mem_of_getElem? (i := 45) rfl))) (mvT hZ (hw _ (List.mem_of_getElem? (i := 44) rfl))) (by decide) (backOf (W := 0) (rm9 l Z a0 hw [] b1 b 0 (p2 &&& (2147483647 : Int32)) h2 n0 Z0 g_b1 g_b hne S2 (by omega)) hZ (hw _ (List.mem_of_getElem? (i := 46) rfl)) (hw _ (List.mem_of_getElem? (i := 3) rfl)) (by decide) (by decide)) q4a q4c (g := (mkF m 49 #[.val (.int p1), .val (.int p2), .val (.int p3), .val (.int p4), .val (.int (3 : Int32)), .val (.int (p2 &&& (2147483647 : Int32))), .val (.int (p3 &&& (2147483647 : Int32))), .val (.int (p4 &&& (2147483647 : Int32))), .val (.ref b1), .val (.int (1 : Int32)), .unset, .unset] [(.int (p2 &&& (2147483647 : Int32))), (.ref b1)])) rfl (by rw [hml]; rfl) (Steps.refl _) (argsL := [(.int (p2 &&& (2147483647 : Int32)))]) (rest := []) (lenOf pd_5 rfl) rfl (by show 2 * 0 + _ ≤ _; exact Nat.le_of_eq rfl) (hb hby at_49) (fun _ _ => ⟨rfl, e3, (by decide : 2 + 0 ≤ _), (by decide : 7 + 0 ≤ _)⟩)
  dsimp only [Pt.U, Pt.locs, Pt.cells, Pt.slots] at X4 l4 y4 z4 st4 hQ4
  subst l4 y4 z4
  obtain ⟨r4, m4, rfl, N4q, Zh4, hm4, S4⟩ := hQ4
  have N4 := Fr.app N3 N4q
  obtain ⟨h4, e4⟩ : ∃ z, T4.heap = z := ⟨_, rfl⟩
  rw [e4] at Zh4 S4
  replace Z0 := Zh4
  have E_b1 := S4.1
  have F_sz := S4.2.2.1
  refine Go.tr (T' := T4) (pc' := 52) (L' := #[.val (.int p1), .val (.int p2), .val (.int p3), .val (.int p4), .val (.int (3 : Int32)), .val (.int (p2 &&& (2147483647 : Int32))), .val (.int (p3 &&& (2147483647 : Int32))), .val (.int (p4 &&& (2147483647 : Int32))), .val (.ref b1), .val (.int (1 : Int32)), .unset, .unset]) (S' := [(.int r4)]) st4 ?_
  refine Go.st (T' := T4) (pc' := 53) (L' := #[.val (.int p1), .val (.int p2), .val (.int p3), .val (.int p4), .val (.int (3 : Int32)), .val (.int (p2 &&& (2147483647 : Int32))), .val (.int (p3 &&& (2147483647 : Int32))), .val (.int (p4 &&& (2147483647 : Int32))), .val (.ref b1), .val (.int (1 : Int32)), .unset, .unset]) (S' := []) (fun t k => XS.pop X4.here hx rfl (hb hby at_52) rfl rfl k) ?_
  refine Go.st (T' := T4) (pc' := 55) (L' := #[.val (.int p1), .val (.int p2), .val (.int p3), .val (.int p4), .val (.int (3 : Int32)), .val (.int (p2 &&& (2147483647 : Int32))), .val (.int (p3 &&& (2147483647 : Int32))), .val (.int (p4 &&& (2147483647 : Int32))), .val (.ref b1), .val (.int (1 : Int32)), .unset, .unset]) (S' := [(.int (3 : Int32))]) (fun t k => XS.iload X4.here hx rfl (hb hby at_53) rfl  k) ?_
  refine Go.st (T' := T4) (pc' := 56) (L' := #[.val (.int p1), .val (.int p2), .val (.int p3), .val (.int p4), .val (.int (3 : Int32)), .val (.int (p2 &&& (2147483647 : Int32))), .val (.int (p3 &&& (2147483647 : Int32))), .val (.int (p4 &&& (2147483647 : Int32))), .val (.ref b1), .val (.int (1 : Int32)), .unset, .unset]) (S' := [(.int (2 : Int32)), (.int (3 : Int32))]) (fun t k => XS.iconst X4.here hx rfl (hb hby at_55) k) ?_
  refine Go.st (T' := T4) (pc' := 59) (L' := #[.val (.int p1), .val (.int p2), .val (.int p3), .val (.int p4), .val (.int (3 : Int32)), .val (.int (p2 &&& (2147483647 : Int32))), .val (.int (p3 &&& (2147483647 : Int32))), .val (.int (p4 &&& (2147483647 : Int32))), .val (.ref b1), .val (.int (1 : Int32)), .unset, .unset]) (S' := []) (fun t k => XS.icmpNo X4.here hx rfl (hb hby at_56) rfl (flt (by decide : ¬ ((3 : Int32) < (2 : Int32)))).1 k) ?_
  refine Go.st (T' := T4) (pc' := 61) (L' := #[.val (.int p1), .val (.int p2), .val (.int p3), .val (.int p4), .val (.int (3 : Int32)), .val (.int (p2 &&& (2147483647 : Int32))), .val (.int (p3 &&& (2147483647 : Int32))), .val (.int (p4 &&& (2147483647 : Int32))), .val (.ref b1), .val (.int (1 : Int32)), .unset, .unset]) (S' := [(.ref b1)]) (fun t k => XS.aload X4.here hx rfl (hb hby at_59) rfl rfl  k) ?_
  refine Go.st (T' := T4) (pc' := 63) (L' := #[.val (.int p1), .val (.int p2), .val (.int p3), .val (.int p4), .val (.int (3 : Int32)), .val (.int (p2 &&& (2147483647 : Int32))), .val (.int (p3 &&& (2147483647 : Int32))), .val (.int (p4 &&& (2147483647 : Int32))), .val (.ref b1), .val (.int (1 : Int32)), .unset, .unset]) (S' := [(.int (p3 &&& (2147483647 : Int32))), (.ref b1)]) (fun t k => XS.iload X4.here hx rfl (hb hby at_61) rfl  k) ?_
  obtain ⟨cq5, kq5, q5a, q5b, q5c⟩ := isOf hZ e4 E_b1
  obtain ⟨_, _, ⟨T5, L5, k5, n5⟩, -, X5, ⟨Lc5, hQ5, l5, y5, z5⟩, st5⟩ := X4.virtualBack hx (y := (⟨"org/concordat/analysis/IntSet", "add", "(I)Z"⟩ : MethodName)) (z := (⟨"org/concordat/analysis/IntSet", "add", "(I)Z"⟩ : MethodName)) hown (mvT hZ (hw _ (List.mem_of_getElem? (i := 42) rfl))) (mvT hZ (hw _ (List.mem_of_getElem? (i := 43) rfl))) (notFace_of_selects (args := #[]) (mvT hZ (hw _ (List.mem_of_getElem? (i := 45) rfl)))) (mvT hZ (hw _ (List.mem_of_getElem? (i := 45) rfl))) (mvT hZ (hw _ (List.mem_of_getElem? (i := 44) rfl))) (by decide) (backOf (W := 0) (rm9 l Z a0 hw [] b1 b m4 (p3 &&& (2147483647 : Int32)) h4 n0 Z0 g_b1 g_b hne S4 (by omega)) hZ (hw _ (List.mem_of_getElem? (i := 46) rfl)) (hw _ (List.mem_of_getElem? (i := 3) rfl)) (by decide) (by decide)) q5a q5c (g := (mkF m 63 #[.val (.int p1), .val (.int p2), .val (.int p3), .val (.int p4), .val (.int (3 : Int32)), .val (.int (p2 &&& (2147483647 : Int32))), .val (.int (p3 &&& (2147483647 : Int32))), .val (.int (p4 &&& (2147483647 : Int32))), .val (.ref b1), .val (.int (1 : Int32)), .unset, .unset] [(.int (p3 &&& (2147483647 : Int32))), (.ref b1)])) rfl (by rw [hml]; rfl) (Steps.refl _) (argsL := [(.int (p3 &&& (2147483647 : Int32)))]) (rest := []) (lenOf pd_5 rfl) rfl (by show 2 * 0 + _ ≤ _; exact Nat.le_of_eq rfl) (hb hby at_63) (fun _ _ => ⟨rfl, e4, (by decide : 2 + 0 ≤ _), (by decide : 7 + 0 ≤ _)⟩)
  dsimp only [Pt.U, Pt.locs, Pt.cells, Pt.slots] at X5 l5 y5 z5 st5 hQ5
  subst l5 y5 z5
  obtain ⟨r5, m5, rfl, N5q, Zh5, hm5, S5⟩ := hQ5
  have N5 := Fr.app N4 N5q
  obtain ⟨h5, e5⟩ : ∃ z, T5.heap = z := ⟨_, rfl⟩
  rw [e5] at Zh5 S5
  replace Z0 := Zh5
  have E_b1 := S5.1
  have F_sz := S5.2.2.1
  refine Go.tr (T' := T5) (pc' := 66) (L' := #[.val (.int p1), .val (.int p2), .val (.int p3), .val (.int p4), .val (.int (3 : Int32)), .val (.int (p2 &&& (2147483647 : Int32))), .val (.int (p3 &&& (2147483647 : Int32))), .val (.int (p4 &&& (2147483647 : Int32))), .val (.ref b1), .val (.int (1 : Int32)), .unset, .unset]) (S' := [(.int r5)]) st5 ?_
  refine Go.st (T' := T5) (pc' := 67) (L' := #[.val (.int p1), .val (.int p2), .val (.int p3), .val (.int p4), .val (.int (3 : Int32)), .val (.int (p2 &&& (2147483647 : Int32))), .val (.int (p3 &&& (2147483647 : Int32))), .val (.int (p4 &&& (2147483647 : Int32))), .val (.ref b1), .val (.int (1 : Int32)), .unset, .unset]) (S' := []) (fun t k => XS.pop X5.here hx rfl (hb hby at_66) rfl rfl k) ?_
  refine Go.st (T' := T5) (pc' := 69) (L' := #[.val (.int p1), .val (.int p2), .val (.int p3), .val (.int p4), .val (.int (3 : Int32)), .val (.int (p2 &&& (2147483647 : Int32))), .val (.int (p3 &&& (2147483647 : Int32))), .val (.int (p4 &&& (2147483647 : Int32))), .val (.ref b1), .val (.int (1 : Int32)), .unset, .unset]) (S' := [(.int (3 : Int32))]) (fun t k => XS.iload X5.here hx rfl (hb hby at_67) rfl  k) ?_
  refine Go.st (T' := T5) (pc' := 70) (L' := #[.val (.int p1), .val (.int p2), .val (.int p3), .val (.int p4), .val (.int (3 : Int32)), .val (.int (p2 &&& (2147483647 : Int32))), .val (.int (p3 &&& (2147483647 : Int32))), .val (.int (p4 &&& (2147483647 : Int32))), .val (.ref b1), .val (.int (1 : Int32)), .unset, .unset]) (S' := [(.int (3 : Int32)), (.int (3 : Int32))]) (fun t k => XS.iconst X5.here hx rfl (hb hby at_69) k) ?_
  refine Go.st (T' := T5) (pc' := 73) (L' := #[.val (.int p1), .val (.int p2), .val (.int p3), .val (.int p4), .val (.int (3 : Int32)), .val (.int (p2 &&& (2147483647 : Int32))), .val (.int (p3 &&& (2147483647 : Int32))), .val (.int (p4 &&& (2147483647 : Int32))), .val (.ref b1), .val (.int (1 : Int32)), .unset, .unset]) (S' := []) (fun t k => XS.icmpNo X5.here hx rfl (hb hby at_70) rfl (flt (by decide : ¬ ((3 : Int32) < (3 : Int32)))).1 k) ?_
  refine Go.st (T' := T5) (pc' := 75) (L' := #[.val (.int p1), .val (.int p2), .val (.int p3), .val (.int p4), .val (.int (3 : Int32)), .val (.int (p2 &&& (2147483647 : Int32))), .val (.int (p3 &&& (2147483647 : Int32))), .val (.int (p4 &&& (2147483647 : Int32))), .val (.ref b1), .val (.int (1 : Int32)), .unset, .unset]) (S' := [(.ref b1)]) (fun t k => XS.aload X5.here hx rfl (hb hby at_73) rfl rfl  k) ?_
  refine Go.st (T' := T5) (pc' := 77) (L' := #[.val (.int p1), .val (.int p2), .val (.int p3), .val (.int p4), .val (.int (3 : Int32)), .val (.int (p2 &&& (2147483647 : Int32))), .val (.int (p3 &&& (2147483647 : Int32))), .val (.int (p4 &&& (2147483647 : Int32))), .val (.ref b1), .val (.int (1 : Int32)), .unset, .unset]) (S' := [(.int (p4 &&& (2147483647 : Int32))), (.ref b1)]) (fun t k => XS.iload X5.here hx rfl (hb hby at_75) rfl  k) ?_
  obtain ⟨cq6, kq6, q6a, q6b, q6c⟩ := isOf hZ e5 E_b1
  obtain ⟨_, _, ⟨T6, L6, k6, n6⟩, -, X6, ⟨Lc6, hQ6, l6, y6, z6⟩, st6⟩ := X5.virtualBack hx (y := (⟨"org/concordat/analysis/IntSet", "add", "(I)Z"⟩ : MethodName)) (z := (⟨"org/concordat/analysis/IntSet", "add", "(I)Z"⟩ : MethodName)) hown (mvT hZ (hw _ (List.mem_of_getElem? (i := 42) rfl))) (mvT hZ (hw _ (List.mem_of_getElem? (i := 43) rfl))) (notFace_of_selects (args := #[]) (mvT hZ (hw _ (List.mem_of_getElem? (i := 45) rfl)))) (mvT hZ (hw _ (List.mem_of_getElem? (i := 45) rfl))) (mvT hZ (hw _ (List.mem_of_getElem? (i := 44) rfl))) (by decide) (backOf (W := 0) (rm9 l Z a0 hw [] b1 b m5 (p4 &&& (2147483647 : Int32)) h5 n0 Z0 g_b1 g_b hne S5 (by omega)) hZ (hw _ (List.mem_of_getElem? (i := 46) rfl)) (hw _ (List.mem_of_getElem? (i := 3) rfl)) (by decide) (by decide)) q6a q6c (g := (mkF m 77 #[.val (.int p1), .val (.int p2), .val (.int p3), .val (.int p4), .val (.int (3 : Int32)), .val (.int (p2 &&& (2147483647 : Int32))), .val (.int (p3 &&& (2147483647 : Int32))), .val (.int (p4 &&& (2147483647 : Int32))), .val (.ref b1), .val (.int (1 : Int32)), .unset, .unset] [(.int (p4 &&& (2147483647 : Int32))), (.ref b1)])) rfl (by rw [hml]; rfl) (Steps.refl _) (argsL := [(.int (p4 &&& (2147483647 : Int32)))]) (rest := []) (lenOf pd_5 rfl) rfl (by show 2 * 0 + _ ≤ _; exact Nat.le_of_eq rfl) (hb hby at_77) (fun _ _ => ⟨rfl, e5, (by decide : 2 + 0 ≤ _), (by decide : 7 + 0 ≤ _)⟩)
  dsimp only [Pt.U, Pt.locs, Pt.cells, Pt.slots] at X6 l6 y6 z6 st6 hQ6
  subst l6 y6 z6
  obtain ⟨r6, m6, rfl, N6q, Zh6, hm6, S6⟩ := hQ6
  have N6 := Fr.app N5 N6q
  obtain ⟨h6, e6⟩ : ∃ z, T6.heap = z := ⟨_, rfl⟩
  rw [e6] at Zh6 S6
  replace Z0 := Zh6
  have E_b1 := S6.1
  have F_sz := S6.2.2.1
  refine Go.tr (T' := T6) (pc' := 80) (L' := #[.val (.int p1), .val (.int p2), .val (.int p3), .val (.int p4), .val (.int (3 : Int32)), .val (.int (p2 &&& (2147483647 : Int32))), .val (.int (p3 &&& (2147483647 : Int32))), .val (.int (p4 &&& (2147483647 : Int32))), .val (.ref b1), .val (.int (1 : Int32)), .unset, .unset]) (S' := [(.int r6)]) st6 ?_
  refine Go.st (T' := T6) (pc' := 81) (L' := #[.val (.int p1), .val (.int p2), .val (.int p3), .val (.int p4), .val (.int (3 : Int32)), .val (.int (p2 &&& (2147483647 : Int32))), .val (.int (p3 &&& (2147483647 : Int32))), .val (.int (p4 &&& (2147483647 : Int32))), .val (.ref b1), .val (.int (1 : Int32)), .unset, .unset]) (S' := []) (fun t k => XS.pop X6.here hx rfl (hb hby at_80) rfl rfl k) ?_
  refine Go.st (T' := T6) (pc' := 83) (L' := #[.val (.int p1), .val (.int p2), .val (.int p3), .val (.int p4), .val (.int (3 : Int32)), .val (.int (p2 &&& (2147483647 : Int32))), .val (.int (p3 &&& (2147483647 : Int32))), .val (.int (p4 &&& (2147483647 : Int32))), .val (.ref b1), .val (.int (1 : Int32)), .unset, .unset]) (S' := [(.ref b1)]) (fun t k => XS.aload X6.here hx rfl (hb hby at_81) rfl rfl  k) ?_
  obtain ⟨cq7, kq7, q7a, q7b, q7c⟩ := isOf hZ e6 E_b1
  obtain ⟨_, _, ⟨T7, L7, k7, n7⟩, -, X7, ⟨Lc7, hQ7, l7, y7, z7⟩, st7⟩ := X6.virtualBack hx (y := (⟨"org/concordat/analysis/IntSet", "isEmpty", "()Z"⟩ : MethodName)) (z := (⟨"org/concordat/analysis/IntSet", "isEmpty", "()Z"⟩ : MethodName)) hown (mvT hZ (hw _ (List.mem_of_getElem? (i := 13) rfl))) (mvT hZ (hw _ (List.mem_of_getElem? (i := 14) rfl))) (notFace_of_selects (args := #[]) (mvT hZ (hw _ (List.mem_of_getElem? (i := 16) rfl)))) (mvT hZ (hw _ (List.mem_of_getElem? (i := 16) rfl))) (mvT hZ (hw _ (List.mem_of_getElem? (i := 15) rfl))) (by decide) (backOf (W := 0) (rm3 l Z a0 hw [] b1 (m6.toInt32) h6 n0 Z0 F_sz) hZ (hw _ (List.mem_of_getElem? (i := 17) rfl)) (hw _ (List.mem_of_getElem? (i := 3) rfl)) (by decide) (by decide)) q7a q7c (g := (mkF m 83 #[.val (.int p1), .val (.int p2), .val (.int p3), .val (.int p4), .val (.int (3 : Int32)), .val (.int (p2 &&& (2147483647 : Int32))), .val (.int (p3 &&& (2147483647 : Int32))), .val (.int (p4 &&& (2147483647 : Int32))), .val (.ref b1), .val (.int (1 : Int32)), .unset, .unset] [(.ref b1)])) rfl (by rw [hml]; rfl) (Steps.refl _) (argsL := []) (rest := []) (lenOf pd_3 rfl) rfl (by show 2 * 0 + _ ≤ _; exact Nat.le_of_eq rfl) (hb hby at_83) (fun _ _ => ⟨rfl, e6, (by decide : 2 + 0 ≤ _), (by decide : 7 + 0 ≤ _)⟩)
  dsimp only [Pt.U, Pt.locs, Pt.cells, Pt.slots] at X7 l7 y7 z7 st7 hQ7
  subst l7 y7 z7
  obtain ⟨rfl, N7q, e7⟩ := hQ7
  have N7 := Fr.app N6 N7q
  refine Go.tr (T' := T7) (pc' := 86) (L' := #[.val (.int p1), .val (.int p2), .val (.int p3), .val (.int p4), .val (.int (3 : Int32)), .val (.int (p2 &&& (2147483647 : Int32))), .val (.int (p3 &&& (2147483647 : Int32))), .val (.int (p4 &&& (2147483647 : Int32))), .val (.ref b1), .val (.int (1 : Int32)), .unset, .unset]) (S' := [(.int (if (m6.toInt32) = (0 : Int32) then (1 : Int32) else (0 : Int32)))]) st7 ?_
  rw [if_neg (own_pos (by omega) (by omega))]
  refine Go.st (T' := T7) (pc' := 88) (L' := #[.val (.int p1), .val (.int p2), .val (.int p3), .val (.int p4), .val (.int (3 : Int32)), .val (.int (p2 &&& (2147483647 : Int32))), .val (.int (p3 &&& (2147483647 : Int32))), .val (.int (p4 &&& (2147483647 : Int32))), .val (.ref b1), .val (.int (1 : Int32)), .val (.int (0 : Int32)), .unset]) (S' := []) (fun t k => XS.istore X7.here hx rfl (hb hby at_86) rfl (l' := #[.val (.int p1), .val (.int p2), .val (.int p3), .val (.int p4), .val (.int (3 : Int32)), .val (.int (p2 &&& (2147483647 : Int32))), .val (.int (p3 &&& (2147483647 : Int32))), .val (.int (p4 &&& (2147483647 : Int32))), .val (.ref b1), .val (.int (1 : Int32)), .val (.int (0 : Int32)), .unset]) rfl k) ?_
  refine Go.st (T' := T7) (pc' := 90) (L' := #[.val (.int p1), .val (.int p2), .val (.int p3), .val (.int p4), .val (.int (3 : Int32)), .val (.int (p2 &&& (2147483647 : Int32))), .val (.int (p3 &&& (2147483647 : Int32))), .val (.int (p4 &&& (2147483647 : Int32))), .val (.ref b1), .val (.int (1 : Int32)), .val (.int (0 : Int32)), .unset]) (S' := [(.int (3 : Int32))]) (fun t k => XS.iload X7.here hx rfl (hb hby at_88) rfl  k) ?_
  refine Go.st (T' := T7) (pc' := 97) (L' := #[.val (.int p1), .val (.int p2), .val (.int p3), .val (.int p4), .val (.int (3 : Int32)), .val (.int (p2 &&& (2147483647 : Int32))), .val (.int (p3 &&& (2147483647 : Int32))), .val (.int (p4 &&& (2147483647 : Int32))), .val (.ref b1), .val (.int (1 : Int32)), .val (.int (0 : Int32)), .unset]) (S' := []) (fun t k => XS.ifYes X7.here hx rfl (pc0 := 90) (pc' := 97) rfl (hb hby at_90) rfl ((if0 _ _).trans (feq (by decide : ¬ ((3 : Int32) = (0 : Int32)))).2) (by decide) (by decide) k) ?_
  refine Go.st (T' := T7) (pc' := 98) (L' := #[.val (.int p1), .val (.int p2), .val (.int p3), .val (.int p4), .val (.int (3 : Int32)), .val (.int (p2 &&& (2147483647 : Int32))), .val (.int (p3 &&& (2147483647 : Int32))), .val (.int (p4 &&& (2147483647 : Int32))), .val (.ref b1), .val (.int (1 : Int32)), .val (.int (0 : Int32)), .unset]) (S' := [(.int (0 : Int32))]) (fun t k => XS.iconst X7.here hx rfl (hb hby at_97) k) ?_
  refine Go.st (T' := T7) (pc' := 100) (L' := #[.val (.int p1), .val (.int p2), .val (.int p3), .val (.int p4), .val (.int (3 : Int32)), .val (.int (p2 &&& (2147483647 : Int32))), .val (.int (p3 &&& (2147483647 : Int32))), .val (.int (p4 &&& (2147483647 : Int32))), .val (.ref b1), .val (.int (1 : Int32)), .val (.int (0 : Int32)), .val (.int (0 : Int32))]) (S' := []) (fun t k => XS.istore X7.here hx rfl (hb hby at_98) rfl (l' := #[.val (.int p1), .val (.int p2), .val (.int p3), .val (.int p4), .val (.int (3 : Int32)), .val (.int (p2 &&& (2147483647 : Int32))), .val (.int (p3 &&& (2147483647 : Int32))), .val (.int (p4 &&& (2147483647 : Int32))), .val (.ref b1), .val (.int (1 : Int32)), .val (.int (0 : Int32)), .val (.int (0 : Int32))]) rfl k) ?_
  refine Go.st (T' := T7) (pc' := 102) (L' := #[.val (.int p1), .val (.int p2), .val (.int p3), .val (.int p4), .val (.int (3 : Int32)), .val (.int (p2 &&& (2147483647 : Int32))), .val (.int (p3 &&& (2147483647 : Int32))), .val (.int (p4 &&& (2147483647 : Int32))), .val (.ref b1), .val (.int (1 : Int32)), .val (.int (0 : Int32)), .val (.int (0 : Int32))]) (S' := [(.int (1 : Int32))]) (fun t k => XS.iload X7.here hx rfl (hb hby at_100) rfl  k) ?_
  refine Go.st (T' := T7) (pc' := 105) (L' := #[.val (.int p1), .val (.int p2), .val (.int p3), .val (.int p4), .val (.int (3 : Int32)), .val (.int (p2 &&& (2147483647 : Int32))), .val (.int (p3 &&& (2147483647 : Int32))), .val (.int (p4 &&& (2147483647 : Int32))), .val (.ref b1), .val (.int (1 : Int32)), .val (.int (0 : Int32)), .val (.int (0 : Int32))]) (S' := []) (fun t k => XS.ifNo X7.here hx rfl (hb hby at_102) rfl ((if0 _ _).trans (feq (by decide : ¬ ((1 : Int32) = (0 : Int32)))).1) k) ?_
  refine Go.st (T' := T7) (pc' := 107) (L' := #[.val (.int p1), .val (.int p2), .val (.int p3), .val (.int p4), .val (.int (3 : Int32)), .val (.int (p2 &&& (2147483647 : Int32))), .val (.int (p3 &&& (2147483647 : Int32))), .val (.int (p4 &&& (2147483647 : Int32))), .val (.ref b1), .val (.int (1 : Int32)), .val (.int (0 : Int32)), .val (.int (0 : Int32))]) (S' := [(.int (0 : Int32))]) (fun t k => XS.iload X7.here hx rfl (hb hby at_105) rfl  k) ?_
  refine Go.st (T' := T7) (pc' := 109) (L' := #[.val (.int p1), .val (.int p2), .val (.int p3), .val (.int p4), .val (.int (3 : Int32)), .val (.int (p2 &&& (2147483647 : Int32))), .val (.int (p3 &&& (2147483647 : Int32))), .val (.int (p4 &&& (2147483647 : Int32))), .val (.ref b1), .val (.int (1 : Int32)), .val (.int (0 : Int32)), .val (.int (0 : Int32))]) (S' := [(.int (0 : Int32)), (.int (0 : Int32))]) (fun t k => XS.iload X7.here hx rfl (hb hby at_107) rfl  k) ?_
  refine Go.st (T' := T7) (pc' := 112) (L' := #[.val (.int p1), .val (.int p2), .val (.int p3), .val (.int p4), .val (.int (3 : Int32)), .val (.int (p2 &&& (2147483647 : Int32))), .val (.int (p3 &&& (2147483647 : Int32))), .val (.int (p4 &&& (2147483647 : Int32))), .val (.ref b1), .val (.int (1 : Int32)), .val (.int (0 : Int32)), .val (.int (0 : Int32))]) (S' := []) (fun t k => XS.icmpNo X7.here hx rfl (hb hby at_109) rfl (teq (by decide : ((0 : Int32) = (0 : Int32)))).2 k) ?_
  refine Go.st (T' := T7) (pc' := 114) (L' := #[.val (.int p1), .val (.int p2), .val (.int p3), .val (.int p4), .val (.int (3 : Int32)), .val (.int (p2 &&& (2147483647 : Int32))), .val (.int (p3 &&& (2147483647 : Int32))), .val (.int (p4 &&& (2147483647 : Int32))), .val (.ref b1), .val (.int (1 : Int32)), .val (.int (0 : Int32)), .val (.int (0 : Int32))]) (S' := [(.int (0 : Int32))]) (fun t k => XS.iload X7.here hx rfl (hb hby at_112) rfl  k) ?_
  refine Go.st (T' := T7) (pc' := 116) (L' := #[.val (.int p1), .val (.int p2), .val (.int p3), .val (.int p4), .val (.int (3 : Int32)), .val (.int (p2 &&& (2147483647 : Int32))), .val (.int (p3 &&& (2147483647 : Int32))), .val (.int (p4 &&& (2147483647 : Int32))), .val (.ref b1), .val (.int (1 : Int32)), .val (.int (0 : Int32)), .val (.int (0 : Int32))]) (S' := [(.ref b1), (.int (0 : Int32))]) (fun t k => XS.aload X7.here hx rfl (hb hby at_114) rfl rfl  k) ?_
  obtain ⟨cq8, kq8, q8a, q8b, q8c⟩ := isOf hZ e7 E_b1
  obtain ⟨_, _, ⟨T8, L8, k8, n8⟩, -, X8, ⟨Lc8, hQ8, l8, y8, z8⟩, st8⟩ := X7.virtualBack hx (y := (⟨"org/concordat/analysis/IntSet", "size", "()I"⟩ : MethodName)) (z := (⟨"org/concordat/analysis/IntSet", "size", "()I"⟩ : MethodName)) hown (mvT hZ (hw _ (List.mem_of_getElem? (i := 20) rfl))) (mvT hZ (hw _ (List.mem_of_getElem? (i := 21) rfl))) (notFace_of_selects (args := #[]) (mvT hZ (hw _ (List.mem_of_getElem? (i := 23) rfl)))) (mvT hZ (hw _ (List.mem_of_getElem? (i := 23) rfl))) (mvT hZ (hw _ (List.mem_of_getElem? (i := 22) rfl))) (by decide) (backOf (W := 1) (rm4 l Z a0 hw [] b1 (m6.toInt32) h6 n0 Z0 F_sz) hZ (hw _ (List.mem_of_getElem? (i := 24) rfl)) (hw _ (List.mem_of_getElem? (i := 3) rfl)) (by decide) (by decide)) q8a q8c (g := (mkF m 116 #[.val (.int p1), .val (.int p2), .val (.int p3), .val (.int p4), .val (.int (3 : Int32)), .val (.int (p2 &&& (2147483647 : Int32))), .val (.int (p3 &&& (2147483647 : Int32))), .val (.int (p4 &&& (2147483647 : Int32))), .val (.ref b1), .val (.int (1 : Int32)), .val (.int (0 : Int32)), .val (.int (0 : Int32))] [(.ref b1), (.int (0 : Int32))])) rfl (by rw [hml]; rfl) (Steps.refl _) (argsL := []) (rest := [(.int (0 : Int32))]) (lenOf pd_4 rfl) rfl (by show 2 * 0 + _ ≤ _; exact Nat.le_of_eq rfl) (hb hby at_116) (fun _ _ => ⟨rfl, e7, (by decide : 2 + 0 ≤ _), (by decide : 7 + 0 ≤ _)⟩)
  dsimp only [Pt.U, Pt.locs, Pt.cells, Pt.slots] at X8 l8 y8 z8 st8 hQ8
  subst l8 y8 z8
  obtain ⟨rfl, N8q, e8⟩ := hQ8
  have N8 := Fr.app N7 N8q
  refine Go.tr (T' := T8) (pc' := 119) (L' := #[.val (.int p1), .val (.int p2), .val (.int p3), .val (.int p4), .val (.int (3 : Int32)), .val (.int (p2 &&& (2147483647 : Int32))), .val (.int (p3 &&& (2147483647 : Int32))), .val (.int (p4 &&& (2147483647 : Int32))), .val (.ref b1), .val (.int (1 : Int32)), .val (.int (0 : Int32)), .val (.int (0 : Int32))]) (S' := [(.int (m6.toInt32)), (.int (0 : Int32))]) st8 ?_
  refine Go.st (T' := T8) (pc' := 126) (L' := #[.val (.int p1), .val (.int p2), .val (.int p3), .val (.int p4), .val (.int (3 : Int32)), .val (.int (p2 &&& (2147483647 : Int32))), .val (.int (p3 &&& (2147483647 : Int32))), .val (.int (p4 &&& (2147483647 : Int32))), .val (.ref b1), .val (.int (1 : Int32)), .val (.int (0 : Int32)), .val (.int (0 : Int32))]) (S' := [(.int (0 : Int32))]) (fun t k => XS.ifYes X8.here hx rfl (pc0 := 119) (pc' := 126) rfl (hb hby at_119) rfl ((if0 _ _).trans (feq (own_pos (by omega) (by omega) : ¬ ((m6.toInt32) = (0 : Int32)))).2) (by decide) (by decide) k) ?_
  refine Go.st (T' := T8) (pc' := 127) (L' := #[.val (.int p1), .val (.int p2), .val (.int p3), .val (.int p4), .val (.int (3 : Int32)), .val (.int (p2 &&& (2147483647 : Int32))), .val (.int (p3 &&& (2147483647 : Int32))), .val (.int (p4 &&& (2147483647 : Int32))), .val (.ref b1), .val (.int (1 : Int32)), .val (.int (0 : Int32)), .val (.int (0 : Int32))]) (S' := [(.int (0 : Int32)), (.int (0 : Int32))]) (fun t k => XS.iconst X8.here hx rfl (hb hby at_126) k) ?_
  refine Go.st (T' := T8) (pc' := 130) (L' := #[.val (.int p1), .val (.int p2), .val (.int p3), .val (.int p4), .val (.int (3 : Int32)), .val (.int (p2 &&& (2147483647 : Int32))), .val (.int (p3 &&& (2147483647 : Int32))), .val (.int (p4 &&& (2147483647 : Int32))), .val (.ref b1), .val (.int (1 : Int32)), .val (.int (0 : Int32)), .val (.int (0 : Int32))]) (S' := []) (fun t k => XS.icmpNo X8.here hx rfl (hb hby at_127) rfl (teq (by decide : ((0 : Int32) = (0 : Int32)))).2 k) ?_
  refine Go.st (T' := T8) (pc' := 132) (L' := #[.val (.int p1), .val (.int p2), .val (.int p3), .val (.int p4), .val (.int (3 : Int32)), .val (.int (p2 &&& (2147483647 : Int32))), .val (.int (p3 &&& (2147483647 : Int32))), .val (.int (p4 &&& (2147483647 : Int32))), .val (.ref b1), .val (.int (1 : Int32)), .val (.int (0 : Int32)), .val (.int (0 : Int32))]) (S' := [(.int (0 : Int32))]) (fun t k => XS.iload X8.here hx rfl (hb hby at_130) rfl  k) ?_
  refine Go.st (T' := T8) (pc' := 145) (L' := #[.val (.int p1), .val (.int p2), .val (.int p3), .val (.int p4), .val (.int (3 : Int32)), .val (.int (p2 &&& (2147483647 : Int32))), .val (.int (p3 &&& (2147483647 : Int32))), .val (.int (p4 &&& (2147483647 : Int32))), .val (.ref b1), .val (.int (1 : Int32)), .val (.int (0 : Int32)), .val (.int (0 : Int32))]) (S' := []) (fun t k => XS.ifYes X8.here hx rfl (pc0 := 132) (pc' := 145) rfl (hb hby at_132) rfl ((if0 _ _).trans (teq (by decide : ((0 : Int32) = (0 : Int32)))).1) (by decide) (by decide) k) ?_
  refine Go.st (T' := T8) (pc' := 146) (L' := #[.val (.int p1), .val (.int p2), .val (.int p3), .val (.int p4), .val (.int (3 : Int32)), .val (.int (p2 &&& (2147483647 : Int32))), .val (.int (p3 &&& (2147483647 : Int32))), .val (.int (p4 &&& (2147483647 : Int32))), .val (.ref b1), .val (.int (1 : Int32)), .val (.int (0 : Int32)), .val (.int (0 : Int32))]) (S' := [(.int (1 : Int32))]) (fun t k => XS.iconst X8.here hx rfl (hb hby at_145) k) ?_
  refine Go.st (T' := T8) (pc' := 150) (L' := #[.val (.int p1), .val (.int p2), .val (.int p3), .val (.int p4), .val (.int (3 : Int32)), .val (.int (p2 &&& (2147483647 : Int32))), .val (.int (p3 &&& (2147483647 : Int32))), .val (.int (p4 &&& (2147483647 : Int32))), .val (.ref b1), .val (.int (1 : Int32)), .val (.int (0 : Int32)), .val (.int (0 : Int32))]) (S' := [(.int (1 : Int32))]) (fun t k => XS.goto X8.here hx rfl (pc0 := 146) (pc' := 150) rfl (hb hby at_146) (by decide) (by decide) k) ?_
  exact Go.retN X8 hx hlk hret (by simp) (hb hby at_150) (by decide) (by decide) (by rw [e8]; exact ⟨rfl, N8⟩)
theorem own_m3 (x : Int32) : x &&& (3 : Int32) = 0 ∨ x &&& (3 : Int32) = 1 ∨ x &&& (3 : Int32) = 2 ∨ x &&& (3 : Int32) = 3 := by
  have h := c_mask x 3 2 (by decide) (by decide)
  simp only [← Int32.toInt_inj, h]
  have e0 : (0 : Int32).toInt = 0 := rfl
  have e1 : (1 : Int32).toInt = 1 := rfl
  have e2 : (2 : Int32).toInt = 2 := rfl
  have e3 : (3 : Int32).toInt = 3 := rfl
  omega
theorem rm0 (l : Launch) (Z : State) (a0 : Array Value) (hw : ∀ d ∈ tables_1, d.before a0 Z = true) (ws : List Jvm.Cond) (p1 p2 p3 p4 : Int32) (h0 : Heap) (n0 : Nat) (Z0 : n0 ≤ h0.size) :
    MetFree l x (head1 (Jvm.Cond.code x code maxLocals ret :: ws) room_1) (fun a U => a = #[(.int p1), (.int p2), (.int p3), (.int p4)] ∧ Z.Warmed39 U.vm ∧ U.heap = h0) (fun _ _ _ _ _ => True) (fun _ U o U' => ∃ v L, o = .returned v ∧ (v = some (.int 1) ∧ Fr n0 L) ∧ FrameEnd U o U' L room_1.cells room_1.slots) := by
  rcases own_m3 p1 with h | h | h | h
  · exact rm0_0 l Z a0 hw ws p1 p2 p3 p4 h0 n0 Z0 h
  · exact rm0_1 l Z a0 hw ws p1 p2 p3 p4 h0 n0 Z0 h
  · exact rm0_2 l Z a0 hw ws p1 p2 p3 p4 h0 n0 Z0 h
  · exact rm0_3 l Z a0 hw ws p1 p2 p3 p4 h0 n0 Z0 h
set_option maxRecDepth 65536 in
set_option maxHeartbeats 40000000 in
theorem comes_1 {Post : Tables → Env → Array Value → State → Outcome → State → Prop} (hpost : ∀ tb e args s v u, (limb_1_1.after args s (.returned v) u = true ∧ limb_1_2.after args s (.returned v) u = true ∧ True) → FrameEnd s (.returned v) u (Jvm.fieldLocs frame_1_writes args s ++ Jvm.arrayLocs frame_1_arrays args s ++ Jvm.staticLocs frame_1_statics s) 16 128 → Post tb e args s (.returned v) u) :
    ArmFor flags0 classFile x code maxLocals ret World_1 tables_1 room_1 Calls_1 rest_1 Pre_1 Post := by
  intro l hfl _ _ p e ha hc hk s m args below hf hA hF happ hP
  obtain ⟨hcalls, hrest, hpre⟩ := hP
  obtain ⟨-, -, -, hnamed, -, -, -, hat⟩ := (Spec.applies_iff hf).mp happ
  obtain ⟨hg, hn⟩ := and_e (Cond.before_iff.mp (show (Jvm.Cond.and given_1 narrow_1).before args s = true from hpre))
  obtain ⟨gc, gr0⟩ := and_e hg
  obtain ⟨ga0, gr1⟩ := and_e gr0
  obtain ⟨ga1, gr2⟩ := and_e gr1
  obtain ⟨ga2, gr3⟩ := and_e gr2
  have ga3 := gr3
  obtain ⟨w0, w1, w2, w3, rfl⟩ : ∃ w0 w1 w2 w3 : Value, args = #[w0, w1, w2, w3] := by
    have hs : args.size = 4 := by simpa [Cond.value, given_1] using gc
    obtain ⟨L⟩ := args
    match L, hs with
    | [w0, w1, w2, w3], _ => exact ⟨w0, w1, w2, w3, rfl⟩
  have hw := fun d (hd : d ∈ tables_1) => atoms_spec (ws := Jvm.Cond.code x code maxLocals ret :: tables_1) hat d (List.mem_cons_of_mem _ hd)
  have hfit : Fit s := fun {y c} hc i hi => by
    obtain ⟨ha, rfl⟩ := Array.getElem?_eq_some_iff.mp hc
    have q := List.all_eq_true.mp ((Array.all_eq_true_iff_forall_mem.mp hF) _ (Array.getElem_mem ha)) i (List.mem_range.mpr hi)
    simpa [Array.getElem?_eq_getElem hi] using q
  obtain ⟨i0, ei0⟩ := is_v ga0
  obtain rfl : w0 = (.int i0) := Option.some.inj ei0
  obtain ⟨i1, ei1⟩ := is_v ga1
  obtain rfl : w1 = (.int i1) := Option.some.inj ei1
  obtain ⟨i2, ei2⟩ := is_v ga2
  obtain rfl : w2 = (.int i2) := Option.some.inj ei2
  obtain ⟨i3, ei3⟩ := is_v ga3
  obtain rfl : w3 = (.int i3) := Option.some.inj ei3
  obtain ⟨n, o, h1, h2, h3, _, L, rfl, ⟨rfl, N⟩, hq⟩ := rm0 l s _ hw tables_1 i0 i1 i2 i3 s.heap s.heap.size (Nat.le_refl _) p e ha hc hk s m _ below hf ((Spec.applies_iff_loose hf).mp happ).1 ⟨rfl, State.Warmed39.refl s, rfl⟩ trivial
  refine ⟨n, _, h1, h2, h3, hpost _ _ _ _ _ _ ⟨Cond.after_iff.mpr rfl, Cond.after_iff.mpr (eq_i res_at (Term.int_eval (1)) rfl), trivial⟩ ⟨hq.1, hq.2.1, (hq.2.2.sift fun y hy => Or.inr (N y hy)).mono (by decide) (by decide)⟩⟩
theorem main_1_1 : Claimed_1_1 := comes_1 fun _ _ _ _ _ _ h hF => ⟨h.1, hF⟩
theorem main_1_2 : Claimed_1_2 := comes_1 fun _ _ _ _ _ _ h hF => ⟨h.2.1, hF⟩
end Jvm.Pilot.@@N@@
namespace Jvm.Pilot.@@N@@
open Jvm Jvm.ClassFile Sem Op Lib Jvm.Free Jvm.Stand Jvm.Pilot.@@N@@.Jvm.D
/-! MADE BY PROGRAM (witnessworld.py) out of the Statement's table words and the real class files: 11 classes; the members and pool entries that the words name. The judged class is class 1, her method 1. -/
namespace start1
open Jvm.ClassFile
def u (s : String) : CpInfo := .utf8 (stringToUtf16 s)
/-- a pool by its gaps: so many unusable entries, then the entry; so many at the end -/
def gap : Nat → List CpInfo → List CpInfo
  | 0, r => r
  | n + 1, r => .unusable :: gap n r
def poolList (es : List (Nat × CpInfo)) (last : Nat) : List CpInfo := es.foldr (fun e r => gap e.1 (e.2 :: r)) (gap last [])
def pool (es : List (Nat × CpInfo)) (last : Nat) : Array CpInfo := ⟨poolList es last⟩
def fileOf (pool : Array CpInfo) (this : Nat) (attrs : Array Attribute := #[]) (ms : Array MethodInfo := #[]) (fl : Nat := 33) (sup : Nat := 0) (ifs : Array Nat := #[]) (fds : Array FieldInfo := #[]) : ClassFile where
  minorVersion := 0
  majorVersion := 65
  constantPool := pool
  accessFlags := fl
  thisClass := this
  superClass := sup
  interfaces := ifs
  fields := fds
  methods := ms
  attributes := attrs
def plain (name : String) (sup : Option ClassId) : Class where
  name := name
  kind := .ordinary
  loader := none
  accessFlags := 33
  super := sup
  interfaces := #[]
  cf := none
  fields := #[]
  methods := #[]
  instanceTypes := #[]
  staticTypes := #[]
  resolved := #[]
  callSites := []
  init := .initialized
  statics := none
  mirror := none

def pool0 : Array CpInfo := pool [(5, u "<init>"), (0, u "()V"), (1, .class_ 10), (1, u "java/lang/Object")] 113

def k0c0 : Code := { maxStack := 0, maxLocals := 1, code := object_method_1_code, exceptionTable := #[], attributes := #[] }
def k0m0 : Method := { name := "<init>", desc := "()V", sig := { parameters := [], returnType := none }, accessFlags := 1, code := some k0c0 }
/-- java/lang/Object -/
def k0 : Class := { plain "java/lang/Object" none with
  accessFlags := 33
  interfaces := #[]
  cf := some (fileOf pool0 8 #[] #[{ accessFlags := 1, nameIndex := 5, descriptorIndex := 6, attributes := #[] }] 33 0 #[] #[])
  fields := #[]
  methods := #[k0m0]
  instanceTypes := #[]
  staticTypes := #[]
  resolved := Array.replicate 124 none
  statics := none }

def pool1 : Array CpInfo := pool [(2, .class_ 4), (0, .nameAndType 5 6), (0, u "java/lang/Object"), (0, u "<init>"), (0, u "()V"), (0, .integer 2147483647), (0, .class_ 9), (0, u "org/concordat/analysis/IntSet"), (0, .methodref 8 3), (0, .methodref 8 12), (0, .nameAndType 13 14), (0, u "isEmpty"), (0, u "()Z"), (0, .methodref 8 16), (0, .nameAndType 17 18), (0, u "add"), (0, u "(I)Z"), (0, .methodref 8 20), (0, .nameAndType 21 22), (0, u "size"), (0, u "()I"), (0, .methodref 8 24), (0, .nameAndType 25 18), (0, u "contains"), (0, .class_ 27), (0, u "org/concordat/analysis/IntSetIsEmptyPinLaw"), (2, u "law"), (0, u "(IIII)Z")] 3

def k1m0 : Method := { name := "<init>", desc := "()V", sig := { parameters := [], returnType := none }, accessFlags := 1, code := none }
def k1c1 : Code := { maxStack := 2, maxLocals := 12, code := code, exceptionTable := #[], attributes := #[] }
def k1m1 : Method := { name := "law", desc := "(IIII)Z", sig := { parameters := [.int, .int, .int, .int], returnType := some .boolean }, accessFlags := 9, code := some k1c1 }
/-- org/concordat/analysis/IntSetIsEmptyPinLaw -/
def k1 : Class := { plain "org/concordat/analysis/IntSetIsEmptyPinLaw" (some 0) with
  accessFlags := 49
  interfaces := #[]
  cf := some (fileOf pool1 26 #[] #[{ accessFlags := 1, nameIndex := 5, descriptorIndex := 6, attributes := #[] }, { accessFlags := 9, nameIndex := 30, descriptorIndex := 31, attributes := #[] }] 49 2 #[] #[])
  fields := #[]
  methods := #[k1m0, k1m1]
  instanceTypes := #[]
  staticTypes := #[]
  resolved := Array.replicate 35 none
  statics := none }

def pool2 : Array CpInfo := pool [(1, .methodref 2 3), (0, .class_ 4), (0, .nameAndType 5 6), (0, u "java/lang/Object"), (0, u "<init>"), (0, u "()V"), (0, .fieldref 8 9), (0, .class_ 10), (0, .nameAndType 11 12), (0, u "org/concordat/analysis/IntSet"), (0, u "items"), (0, u "[I"), (3, u "add"), (0, u "(I)Z"), (0, .fieldref 8 19), (0, .nameAndType 20 21), (0, u "size"), (0, u "I"), (0, .fieldref 8 23), (0, .nameAndType 24 25), (0, u "bits"), (0, u "Ljava/util/BitSet;"), (5, .methodref 32 33), (0, .class_ 34), (0, .nameAndType 35 36), (0, u "java/util/Arrays"), (0, u "binarySearch"), (0, u "([IIII)I"), (9, .methodref 47 48), (0, .class_ 49), (0, .nameAndType 50 51), (0, u "java/lang/System"), (0, u "arraycopy"), (0, u "(Ljava/lang/Object;ILjava/lang/Object;II)V"), (31, u "contains"), (0, u "SMALL"), (8, u "()I"), (0, u "isEmpty"), (0, u "()Z")] 31

def k2c0 : Code := { maxStack := 2, maxLocals := 1, code := prog_3_method_1_code, exceptionTable := #[], attributes := #[] }
def k2m0 : Method := { name := "<init>", desc := "()V", sig := { parameters := [], returnType := none }, accessFlags := 0, code := some k2c0 }
def k2c1 : Code := { maxStack := 1, maxLocals := 1, code := prog_3_method_3_code, exceptionTable := #[], attributes := #[] }
def k2m1 : Method := { name := "size", desc := "()I", sig := { parameters := [], returnType := some .int }, accessFlags := 0, code := some k2c1 }
def k2c2 : Code := { maxStack := 1, maxLocals := 1, code := prog_3_method_4_code, exceptionTable := #[], attributes := #[] }
def k2m2 : Method := { name := "isEmpty", desc := "()Z", sig := { parameters := [], returnType := some .boolean }, accessFlags := 0, code := some k2c2 }
def k2c3 : Code := { maxStack := 4, maxLocals := 2, code := prog_3_method_5_code, exceptionTable := #[], attributes := #[] }
def k2m3 : Method := { name := "contains", desc := "(I)Z", sig := { parameters := [.int], returnType := some .boolean }, accessFlags := 0, code := some k2c3 }
def k2c4 : Code := { maxStack := 6, maxLocals := 5, code := prog_3_method_6_code, exceptionTable := #[], attributes := #[] }
def k2m4 : Method := { name := "add", desc := "(I)Z", sig := { parameters := [.int], returnType := some .boolean }, accessFlags := 0, code := some k2c4 }
/-- org/concordat/analysis/IntSet -/
def k2 : Class := { plain "org/concordat/analysis/IntSet" (some 0) with
  accessFlags := 48
  interfaces := #[]
  cf := some (fileOf pool2 8 #[] #[{ accessFlags := 0, nameIndex := 5, descriptorIndex := 6, attributes := #[] }, { accessFlags := 0, nameIndex := 20, descriptorIndex := 93, attributes := #[] }, { accessFlags := 0, nameIndex := 94, descriptorIndex := 95, attributes := #[] }, { accessFlags := 0, nameIndex := 83, descriptorIndex := 17, attributes := #[] }, { accessFlags := 0, nameIndex := 16, descriptorIndex := 17, attributes := #[] }] 48 2 #[] #[{ accessFlags := 26, nameIndex := 84, descriptorIndex := 21, attributes := #[] }, { accessFlags := 2, nameIndex := 11, descriptorIndex := 12, attributes := #[] }, { accessFlags := 2, nameIndex := 20, descriptorIndex := 21, attributes := #[] }, { accessFlags := 2, nameIndex := 24, descriptorIndex := 25, attributes := #[] }])
  fields := #[{ name := "SMALL", type := .int, accessFlags := 26, slot := 0, constantValue := 0 }, { name := "items", type := (.array .int), accessFlags := 2, slot := 0, constantValue := 0 }, { name := "size", type := .int, accessFlags := 2, slot := 1, constantValue := 0 }, { name := "bits", type := (.object "java/util/BitSet"), accessFlags := 2, slot := 2, constantValue := 0 }]
  methods := #[k2m0, k2m1, k2m2, k2m3, k2m4]
  instanceTypes := #[(.array .int), .int, (.object "java/util/BitSet")]
  staticTypes := #[.int]
  resolved := Array.replicate 127 none
  statics := none }

def pool3 : Array CpInfo := pool [(2, .class_ 4), (1, u "java/lang/Object"), (0, u "<init>"), (0, u "()V"), (6, .methodref 14 15), (0, .class_ 16), (0, .nameAndType 17 18), (0, u "java/util/Arrays"), (0, u "rangeCheck"), (0, u "(III)V"), (55, .class_ 76), (1, u "java/util/Arrays$NaturalOrder"), (36, .class_ 115), (1, u "java/util/Arrays$LegacyMergeSort"), (1, u "Z"), (89, u "binarySearch0"), (1, .methodref 14 210), (0, .nameAndType 207 211), (0, u "([IIII)I"), (163, .class_ 376), (0, u "java/util/Arrays$ArrayList"), (68, u "$assertionsDisabled"), (269, u "MIN_ARRAY_SORT_GRAN"), (0, u "I"), (2, u "INSERTIONSORT_THRESHOLD"), (74, u "binarySearch"), (180, .class_ 976), (0, u "java/util/Arrays$ArrayItr")] 52

def k3m0 : Method := { name := "<init>", desc := "()V", sig := { parameters := [], returnType := none }, accessFlags := 2, code := none }
def k3c1 : Code := { maxStack := 4, maxLocals := 3, code := jdk_65_method_30_code, exceptionTable := #[], attributes := #[] }
def k3m1 : Method := { name := "rangeCheck", desc := "(III)V", sig := { parameters := [.int, .int, .int], returnType := none }, accessFlags := 8, code := some k3c1 }
def k3c2 : Code := { maxStack := 4, maxLocals := 4, code := jdk_65_method_58_code, exceptionTable := #[], attributes := #[] }
def k3m2 : Method := { name := "binarySearch", desc := "([IIII)I", sig := { parameters := [(.array .int), .int, .int, .int], returnType := some .int }, accessFlags := 9, code := some k3c2 }
def k3c3 : Code := { maxStack := 2, maxLocals := 8, code := jdk_65_method_59_code, exceptionTable := #[], attributes := #[] }
def k3m3 : Method := { name := "binarySearch0", desc := "([IIII)I", sig := { parameters := [(.array .int), .int, .int, .int], returnType := some .int }, accessFlags := 10, code := some k3c3 }
/-- java/util/Arrays -/
def k3 : Class := { plain "java/util/Arrays" (some 0) with
  accessFlags := 49
  interfaces := #[]
  cf := some (fileOf pool3 14 #[.nestMembers #[975, 375, 113, 74]] #[{ accessFlags := 2, nameIndex := 5, descriptorIndex := 6, attributes := #[] }, { accessFlags := 8, nameIndex := 17, descriptorIndex := 18, attributes := #[] }, { accessFlags := 9, nameIndex := 794, descriptorIndex := 211, attributes := #[] }, { accessFlags := 10, nameIndex := 207, descriptorIndex := 211, attributes := #[] }] 49 2 #[] #[{ accessFlags := 26, nameIndex := 715, descriptorIndex := 716, attributes := #[] }, { accessFlags := 26, nameIndex := 719, descriptorIndex := 716, attributes := #[] }, { accessFlags := 4120, nameIndex := 445, descriptorIndex := 117, attributes := #[] }])
  fields := #[{ name := "MIN_ARRAY_SORT_GRAN", type := .int, accessFlags := 26, slot := 0, constantValue := 0 }, { name := "INSERTIONSORT_THRESHOLD", type := .int, accessFlags := 26, slot := 1, constantValue := 0 }, { name := "$assertionsDisabled", type := .boolean, accessFlags := 4120, slot := 2, constantValue := 0 }]
  methods := #[k3m0, k3m1, k3m2, k3m3]
  instanceTypes := #[]
  staticTypes := #[.int, .int, .boolean]
  resolved := Array.replicate 1029 none
  statics := none }

def pool4 : Array CpInfo := pool [(2, .class_ 4), (1, u "java/lang/Object"), (0, u "<init>"), (0, u "()V"), (1, .class_ 10), (1, u "java/lang/System"), (0, u "allowSecurityManager"), (0, u "I"), (16, u "cons"), (0, u "Ljava/io/Console;"), (77, .class_ 110), (1, u "java/lang/System$CallersHolder"), (43, u "initialErrStream"), (0, u "Ljava/io/PrintStream;"), (19, u "security"), (0, u "Ljava/lang/SecurityManager;"), (31, .class_ 209), (0, u "java/lang/System$1"), (7, u "props"), (0, u "Ljava/util/Properties;"), (2, u "lineSeparator"), (0, u "Ljava/lang/String;"), (96, .class_ 321), (1, u "java/lang/System$LoggerFinder"), (5, .class_ 328), (0, u "java/lang/System$Logger"), (67, u "err"), (2, u "out"), (91, u "notSupportedJnuEncoding"), (15, u "in"), (17, u "initialIn"), (0, u "Ljava/io/InputStream;"), (35, u "bootLayer"), (0, u "Ljava/lang/ModuleLayer;"), (99, .class_ 664), (0, u "java/lang/System$2"), (9, u "NEVER"), (2, u "MAYBE"), (49, u "arraycopy"), (0, u "(Ljava/lang/Object;ILjava/lang/Object;II)V"), (72, .class_ 802), (0, u "java/lang/System$Logger$Level")] 31

def k4m0 : Method := { name := "<init>", desc := "()V", sig := { parameters := [], returnType := none }, accessFlags := 2, code := none }
def k4m1 : Method := { name := "arraycopy", desc := "(Ljava/lang/Object;ILjava/lang/Object;II)V", sig := { parameters := [(.object "java/lang/Object"), .int, (.object "java/lang/Object"), .int, .int], returnType := none }, accessFlags := 265, code := none }
/-- java/lang/System -/
def k4 : Class := { plain "java/lang/System" (some 0) with
  accessFlags := 49
  interfaces := #[]
  cf := some (fileOf pool4 8 #[.nestMembers #[319, 327, 801, 108, 663, 208]] #[{ accessFlags := 2, nameIndex := 5, descriptorIndex := 6, attributes := #[] }, { accessFlags := 265, nameIndex := 727, descriptorIndex := 728, attributes := #[] }] 49 2 #[] #[{ accessFlags := 25, nameIndex := 507, descriptorIndex := 526, attributes := #[] }, { accessFlags := 25, nameIndex := 399, descriptorIndex := 155, attributes := #[] }, { accessFlags := 25, nameIndex := 396, descriptorIndex := 155, attributes := #[] }, { accessFlags := 10, nameIndex := 525, descriptorIndex := 526, attributes := #[] }, { accessFlags := 26, nameIndex := 674, descriptorIndex := 12, attributes := #[] }, { accessFlags := 26, nameIndex := 677, descriptorIndex := 12, attributes := #[] }, { accessFlags := 10, nameIndex := 11, descriptorIndex := 12, attributes := #[] }, { accessFlags := 74, nameIndex := 175, descriptorIndex := 176, attributes := #[] }, { accessFlags := 10, nameIndex := 491, descriptorIndex := 222, attributes := #[] }, { accessFlags := 74, nameIndex := 29, descriptorIndex := 30, attributes := #[] }, { accessFlags := 74, nameIndex := 154, descriptorIndex := 155, attributes := #[] }, { accessFlags := 10, nameIndex := 217, descriptorIndex := 218, attributes := #[] }, { accessFlags := 10, nameIndex := 221, descriptorIndex := 222, attributes := #[] }, { accessFlags := 8, nameIndex := 562, descriptorIndex := 563, attributes := #[] }])
  fields := #[{ name := "in", type := (.object "java/io/InputStream"), accessFlags := 25, slot := 0, constantValue := 0 }, { name := "out", type := (.object "java/io/PrintStream"), accessFlags := 25, slot := 1, constantValue := 0 }, { name := "err", type := (.object "java/io/PrintStream"), accessFlags := 25, slot := 2, constantValue := 0 }, { name := "initialIn", type := (.object "java/io/InputStream"), accessFlags := 10, slot := 3, constantValue := 0 }, { name := "NEVER", type := .int, accessFlags := 26, slot := 4, constantValue := 0 }, { name := "MAYBE", type := .int, accessFlags := 26, slot := 5, constantValue := 0 }, { name := "allowSecurityManager", type := .int, accessFlags := 10, slot := 6, constantValue := 0 }, { name := "security", type := (.object "java/lang/SecurityManager"), accessFlags := 74, slot := 7, constantValue := 0 }, { name := "notSupportedJnuEncoding", type := (.object "java/lang/String"), accessFlags := 10, slot := 8, constantValue := 0 }, { name := "cons", type := (.object "java/io/Console"), accessFlags := 74, slot := 9, constantValue := 0 }, { name := "initialErrStream", type := (.object "java/io/PrintStream"), accessFlags := 74, slot := 10, constantValue := 0 }, { name := "props", type := (.object "java/util/Properties"), accessFlags := 10, slot := 11, constantValue := 0 }, { name := "lineSeparator", type := (.object "java/lang/String"), accessFlags := 10, slot := 12, constantValue := 0 }, { name := "bootLayer", type := (.object "java/lang/ModuleLayer"), accessFlags := 8, slot := 13, constantValue := 0 }]
  methods := #[k4m0, k4m1]
  instanceTypes := #[]
  staticTypes := #[(.object "java/io/InputStream"), (.object "java/io/PrintStream"), (.object "java/io/PrintStream"), (.object "java/io/InputStream"), .int, .int, .int, (.object "java/lang/SecurityManager"), (.object "java/lang/String"), (.object "java/io/Console"), (.object "java/io/PrintStream"), (.object "java/util/Properties"), (.object "java/lang/String"), (.object "java/lang/ModuleLayer")]
  resolved := Array.replicate 834 none
  statics := none }

def pool5 : Array CpInfo := pool [(1, u "java/lang/Cloneable"), (0, .class_ 1), (0, u "java/lang/Object"), (0, .class_ 3)] 3

/-- java/lang/Cloneable -/
def k5 : Class := { plain "java/lang/Cloneable" (some 0) with
  accessFlags := 1537
  interfaces := #[]
  cf := some (fileOf pool5 2 #[] #[] 1537 4 #[] #[])
  fields := #[]
  methods := #[]
  instanceTypes := #[]
  staticTypes := #[]
  resolved := Array.replicate 8 none
  statics := none }

def pool6 : Array CpInfo := pool [(1, u "java/io/Serializable"), (0, .class_ 1), (0, u "java/lang/Object"), (0, .class_ 3)] 3

/-- java/io/Serializable -/
def k6 : Class := { plain "java/io/Serializable" (some 0) with
  accessFlags := 1537
  interfaces := #[]
  cf := some (fileOf pool6 2 #[] #[] 1537 4 #[] #[])
  fields := #[]
  methods := #[]
  instanceTypes := #[]
  staticTypes := #[]
  resolved := Array.replicate 8 none
  statics := none }

/-- the primitive byte -/
def k7 : Class := { plain "byte" none with kind := .primitive 'B', accessFlags := 0x411 }
/-- [B -/
def k8 : Class := { plain "[B" (some 0) with kind := .array 7 .byte, interfaces := #[5, 6], accessFlags := 1041 }

/-- the primitive int -/
def k9 : Class := { plain "int" none with kind := .primitive 'I', accessFlags := 0x411 }
/-- [I -/
def k10 : Class := { plain "[I" (some 0) with kind := .array 9 .int, interfaces := #[5, 6], accessFlags := 1041 }

def heap : Heap := #[]
def classes : Array Class := #[k0, k1, k2, k3, k4, k5, k6, k7, k8, k9, k10]
def interned : List (Array UInt16 × Addr) := []
def slotsUsed : Nat := 0
def theMethod : MethodId := ⟨1, 1⟩
def args0 : Array Value := #[.int 3, .int 7, .int 3, .int 65]
def aboutOver (below : List Frame) : State where
  vm := { classes := classes, interned := interned.toArray }
  heap := heap
  slotsUsed := slotsUsed
  threads := #[{ frames := .invoking theMethod args0 :: below }]
def below0 : List Frame := [.native { method := ⟨0, 0⟩, args := #[] }]
def about1 : State := aboutOver below0
def p0 : Program := .bare "" "" ""
def e0 : Env := launch0.env 0 0 0
theorem w_frames : about1.frames = Frame.invoking theMethod args0 :: below0 := rfl
set_option maxRecDepth 65536 in
theorem w_args : argsFit about1.vm theMethod args0 = true := by decide +kernel
set_option maxRecDepth 65536 in
theorem w_heap : heapFits about1 = true := by decide +kernel
set_option maxRecDepth 65536 in
theorem w_runnable : about1.curStatus? = some .runnable := by decide +kernel
set_option maxRecDepth 65536 in
theorem w_alone : about1.alone = true := by decide +kernel
set_option maxRecDepth 65536 in
theorem w_named : about1.methodNamed? x = some theMethod := by decide +kernel
set_option maxRecDepth 65536 in
theorem w_hears : about1.hears theMethod below0 = true := by decide +kernel
set_option maxRecDepth 65536 in
theorem w_ripe : about1.ripe theMethod args0 below0 = true := by decide +kernel
theorem w_running : about1.status = .running := rfl
set_option maxRecDepth 65536 in
theorem w_room : about1.hasRoom e0.platform room_1 = true :=
  launch0.hasRoom_least _ room_1 (by decide +kernel) (by decide +kernel) (by decide +kernel) (by decide +kernel) (by decide +kernel) (by decide +kernel)
theorem allAtoms_all (ts : List Jvm.Cond) (a : Array Jvm.Value) (st : Jvm.State) : (allAtoms ts).before a st = ts.all (fun c => c.before a st) := by
  induction ts with
  | nil => rfl
  | cons c t ih =>
    show (Jvm.Cond.and c (allAtoms t)).before a st = _
    rw [Jvm.Cond.before_and, ih, List.all_cons]
def words1 : List Jvm.Cond := Jvm.Cond.code x code maxLocals ret :: tables_1
/-- a 'code' word, met by the world's own term for the bytes: nothing is compared byte by byte -/
theorem code_word {y : MethodName} {bytes : ByteArray} {mx : Nat} {rt : Option FieldType} {a : Array Value} {s : State} {m : MethodId} {meth : Method} {c : Code} (h1 : s.methodNamed? y = some m) (h2 : s.vm.method? m = some meth) (h3 : meth.code = some c) (h4 : c.code = bytes)
    (h5 : (c.maxLocals == mx && c.exceptionTable.isEmpty && decide (c.maxStack ≤ mostOperands) && decide (meth.sig.returnType = rt) && !meth.locks && decide (parseMethodDescriptor y.desc = some meth.sig)) = true) : (Jvm.Cond.code y bytes mx rt).before a s = true := by
  simp only [Bool.and_eq_true, beq_iff_eq, Bool.not_eq_true', decide_eq_true_eq] at h5
  obtain ⟨⟨⟨⟨⟨g1, g2⟩, g3⟩, g4⟩, g5⟩, g6⟩ := h5
  simp [Cond.before, Cond.holds, Cond.value, h1, h2, h3, h4, g1, g2, g3, g4, g5, g6]
def isCode : Jvm.Cond → Bool
  | .code _ _ _ _ => true
  | _ => false
theorem all_split {L : List Jvm.Cond} {P : Jvm.Cond → Bool} (h1 : L.all (fun c => isCode c || P c) = true) (h2 : ∀ c ∈ L.filter isCode, P c = true) : L.all P = true := by
  refine List.all_eq_true.mpr fun c hc => ?_
  have h := List.all_eq_true.mp h1 c hc
  rcases Bool.eq_false_or_eq_true (isCode c) with hi | hi
  · exact h2 c (List.mem_filter.mpr ⟨hc, hi⟩)
  · simpa [hi] using h
set_option maxRecDepth 65536 in
theorem w_c0 : (Jvm.Cond.code x code maxLocals ret).before args0 about1 = true := code_word (m := ⟨1, 1⟩) (meth := k1m1) (c := k1c1) (by decide +kernel) rfl rfl rfl (by decide +kernel)
set_option maxRecDepth 65536 in
theorem w_c1 : (Jvm.Cond.code ({ cls := "org/concordat/analysis/IntSet", name := "<init>", desc := "()V" } : Jvm.MethodName) prog_3_method_1_code (1 : Nat) (Option.none : Option Jvm.ClassFile.FieldType)).before args0 about1 = true := code_word (m := ⟨2, 0⟩) (meth := k2m0) (c := k2c0) (by decide +kernel) rfl rfl rfl (by decide +kernel)
set_option maxRecDepth 65536 in
theorem w_c2 : (Jvm.Cond.code ({ cls := "java/lang/Object", name := "<init>", desc := "()V" } : Jvm.MethodName) object_method_1_code (1 : Nat) (Option.none : Option Jvm.ClassFile.FieldType)).before args0 about1 = true := code_word (m := ⟨0, 0⟩) (meth := k0m0) (c := k0c0) (by decide +kernel) rfl rfl rfl (by decide +kernel)
set_option maxRecDepth 65536 in
theorem w_c3 : (Jvm.Cond.code ({ cls := "org/concordat/analysis/IntSet", name := "isEmpty", desc := "()Z" } : Jvm.MethodName) prog_3_method_4_code (1 : Nat) (Option.some Jvm.ClassFile.FieldType.boolean)).before args0 about1 = true := code_word (m := ⟨2, 2⟩) (meth := k2m2) (c := k2c2) (by decide +kernel) rfl rfl rfl (by decide +kernel)
set_option maxRecDepth 65536 in
theorem w_c4 : (Jvm.Cond.code ({ cls := "org/concordat/analysis/IntSet", name := "size", desc := "()I" } : Jvm.MethodName) prog_3_method_3_code (1 : Nat) (Option.some Jvm.ClassFile.FieldType.int)).before args0 about1 = true := code_word (m := ⟨2, 1⟩) (meth := k2m1) (c := k2c1) (by decide +kernel) rfl rfl rfl (by decide +kernel)
set_option maxRecDepth 65536 in
theorem w_c5 : (Jvm.Cond.code ({ cls := "org/concordat/analysis/IntSet", name := "contains", desc := "(I)Z" } : Jvm.MethodName) prog_3_method_5_code (2 : Nat) (Option.some Jvm.ClassFile.FieldType.boolean)).before args0 about1 = true := code_word (m := ⟨2, 3⟩) (meth := k2m3) (c := k2c3) (by decide +kernel) rfl rfl rfl (by decide +kernel)
set_option maxRecDepth 65536 in
theorem w_c6 : (Jvm.Cond.code ({ cls := "java/util/Arrays", name := "binarySearch", desc := "([IIII)I" } : Jvm.MethodName) jdk_65_method_58_code (4 : Nat) (Option.some Jvm.ClassFile.FieldType.int)).before args0 about1 = true := code_word (m := ⟨3, 2⟩) (meth := k3m2) (c := k3c2) (by decide +kernel) rfl rfl rfl (by decide +kernel)
set_option maxRecDepth 65536 in
theorem w_c7 : (Jvm.Cond.code ({ cls := "java/util/Arrays", name := "rangeCheck", desc := "(III)V" } : Jvm.MethodName) jdk_65_method_30_code (3 : Nat) (Option.none : Option Jvm.ClassFile.FieldType)).before args0 about1 = true := code_word (m := ⟨3, 1⟩) (meth := k3m1) (c := k3c1) (by decide +kernel) rfl rfl rfl (by decide +kernel)
set_option maxRecDepth 65536 in
theorem w_c8 : (Jvm.Cond.code ({ cls := "java/util/Arrays", name := "binarySearch0", desc := "([IIII)I" } : Jvm.MethodName) jdk_65_method_59_code (8 : Nat) (Option.some Jvm.ClassFile.FieldType.int)).before args0 about1 = true := code_word (m := ⟨3, 3⟩) (meth := k3m3) (c := k3c3) (by decide +kernel) rfl rfl rfl (by decide +kernel)
set_option maxRecDepth 65536 in
theorem w_c9 : (Jvm.Cond.code ({ cls := "org/concordat/analysis/IntSet", name := "add", desc := "(I)Z" } : Jvm.MethodName) prog_3_method_6_code (5 : Nat) (Option.some Jvm.ClassFile.FieldType.boolean)).before args0 about1 = true := code_word (m := ⟨2, 4⟩) (meth := k2m4) (c := k2c4) (by decide +kernel) rfl rfl rfl (by decide +kernel)
def codes1 : List Jvm.Cond := [Jvm.Cond.code x code maxLocals ret, Jvm.Cond.code ({ cls := "org/concordat/analysis/IntSet", name := "<init>", desc := "()V" } : Jvm.MethodName) prog_3_method_1_code (1 : Nat) (Option.none : Option Jvm.ClassFile.FieldType), Jvm.Cond.code ({ cls := "java/lang/Object", name := "<init>", desc := "()V" } : Jvm.MethodName) object_method_1_code (1 : Nat) (Option.none : Option Jvm.ClassFile.FieldType), Jvm.Cond.code ({ cls := "org/concordat/analysis/IntSet", name := "isEmpty", desc := "()Z" } : Jvm.MethodName) prog_3_method_4_code (1 : Nat) (Option.some Jvm.ClassFile.FieldType.boolean), Jvm.Cond.code ({ cls := "org/concordat/analysis/IntSet", name := "size", desc := "()I" } : Jvm.MethodName) prog_3_method_3_code (1 : Nat) (Option.some Jvm.ClassFile.FieldType.int), Jvm.Cond.code ({ cls := "org/concordat/analysis/IntSet", name := "contains", desc := "(I)Z" } : Jvm.MethodName) prog_3_method_5_code (2 : Nat) (Option.some Jvm.ClassFile.FieldType.boolean), Jvm.Cond.code ({ cls := "java/util/Arrays", name := "binarySearch", desc := "([IIII)I" } : Jvm.MethodName) jdk_65_method_58_code (4 : Nat) (Option.some Jvm.ClassFile.FieldType.int), Jvm.Cond.code ({ cls := "java/util/Arrays", name := "rangeCheck", desc := "(III)V" } : Jvm.MethodName) jdk_65_method_30_code (3 : Nat) (Option.none : Option Jvm.ClassFile.FieldType), Jvm.Cond.code ({ cls := "java/util/Arrays", name := "binarySearch0", desc := "([IIII)I" } : Jvm.MethodName) jdk_65_method_59_code (8 : Nat) (Option.some Jvm.ClassFile.FieldType.int), Jvm.Cond.code ({ cls := "org/concordat/analysis/IntSet", name := "add", desc := "(I)Z" } : Jvm.MethodName) prog_3_method_6_code (5 : Nat) (Option.some Jvm.ClassFile.FieldType.boolean)]
set_option maxRecDepth 65536 in
theorem codes_eq : words1.filter isCode = codes1 := rfl
theorem w_codes : ∀ c ∈ words1.filter isCode, c.before args0 about1 = true := by
  rw [codes_eq]
  intro c hc
  simp only [codes1, List.mem_cons, List.not_mem_nil, or_false] at hc
  rcases hc with rfl | rfl | rfl | rfl | rfl | rfl | rfl | rfl | rfl | rfl
  · exact w_c0
  · exact w_c1
  · exact w_c2
  · exact w_c3
  · exact w_c4
  · exact w_c5
  · exact w_c6
  · exact w_c7
  · exact w_c8
  · exact w_c9
set_option maxRecDepth 65536 in
theorem w_t1 : (words1.take 24).all (fun c => isCode c || c.before args0 about1) = true := by decide +kernel
set_option maxRecDepth 65536 in
theorem w_t2 : ((words1.drop 24).take 24).all (fun c => isCode c || c.before args0 about1) = true := by decide +kernel
set_option maxRecDepth 65536 in
theorem w_t3 : ((words1.drop 24).drop 24).all (fun c => isCode c || c.before args0 about1) = true := by decide +kernel
theorem w_tables : (allAtoms (Jvm.Cond.code x code maxLocals ret :: tables_1)).before args0 about1 = true := by
  rw [allAtoms_all]
  show words1.all (fun c => c.before args0 about1) = true
  refine all_split ?_ w_codes
  rw [← List.take_append_drop 24 words1, List.all_append, w_t1, ← List.take_append_drop 24 (words1.drop 24), List.all_append, w_t2, w_t3]
  rfl
set_option maxRecDepth 65536 in
theorem w_case : (Jvm.Cond.and given_1 narrow_1).before args0 about1 = true := by decide +kernel
theorem w_applies : (headSpec (Jvm.Cond.code x code maxLocals ret :: tables_1) room_1).applies x e0.platform about1 = true :=
  (Spec.applies_iff w_frames).mpr ⟨w_running, w_runnable, w_alone, w_named, w_hears, w_ripe, w_room, w_tables⟩
theorem atStart : AtStart classFile x code maxLocals ret World_1 tables_1 room_1 Calls_1 rest_1 Pre_1 launch0 p0 e0 about1 theMethod args0 below0 :=
  ⟨lists_1, trivial, launch0.admits_env _ _ _, launch0.least_env, fairChoices_fair.cas, fairChoices_fair.clock, w_frames, w_args, w_heap, w_applies, trivial, trivial, w_case⟩
end start1
theorem witness_1 : WitnessClaimed_1 := ⟨start1.p0, start1.e0, start1.about1, start1.theMethod, start1.args0, start1.below0, start1.atStart⟩
end Jvm.Pilot.@@N@@
