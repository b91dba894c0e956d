import JvmDerived
import JvmDerived.Pilot.@@N@@Statement
import JvmDerived.Pilot.@@N@@Code
set_option linter.unusedVariables false
set_option maxRecDepth 65536
set_option maxHeartbeats 40000000
set_option linter.unusedSimpArgs false
namespace Jvm.Pilot.@@N@@
open Jvm Jvm.ClassFile Sem Op Lib Jvm.Free Jvm.Stand Jvm.LawKit Jvm.RoadKit Bundle Jvm.Pilot.@@N@@.Jvm.D
theorem wd {Z : State} {a0 : Array Value} (hw : ∀ d ∈ tables_1, d.before a0 Z = true) (i : Nat) {d : Jvm.Cond} (h : tables_1[i]? = some d) : d.before a0 Z = true := hw _ (List.mem_of_getElem? h)
section OwnGo
/-- from this frame the run ends, and leaves what Q says -/
def Go (p : Program) (e : Env) (below : List Frame) (s : State) (k n : Nat) (Q : Option Value → Heap → List Loc → Prop) (m : MethodId) (T : State) (pc : Nat) (L : Array Slot) (S : List Value) : Prop :=
  ∃ s₂ o, Steps p.tables e below (T.setTop (mkF m pc L S)) s₂ ∧ s₂.status = .running ∧ Ended s₂ below o ∧ ∃ v Ls, o = .returned v ∧ Q v s₂.heap Ls ∧ FrameEnd s o s₂ Ls k n
variable {p : Program} {l : Launch} {e : Env} {R : Room} {s : State} {m : MethodId} {args : Array Value} {below : List Frame} {meth : Method} {c : Code} {T T' : State} {locs : List Loc} {cells slots k n : Nat} {Z : State} {h : Heap} {Q : Option Value → Heap → List Loc → Prop} {pc pc' : Nat} {L L' : Array Slot} {S S' : List Value}
theorem Go.st (h : ∀ t, Steps p.tables e below (T'.setTop (mkF m pc' L' S')) t → Steps p.tables e below (T.setTop (mkF m pc L S)) t) (g : Go p e below s k n Q m T' pc' L' S') : Go p e below s k n Q m T pc L S := by
  obtain ⟨a, b, c, d⟩ := g; exact ⟨a, b, h _ c, d⟩
theorem Go.tr (h : Steps p.tables e below (T.setTop (mkF m pc L S)) (T'.setTop (mkF m pc' L' S'))) (g : Go p e below s k n Q m T' pc' L' S') : Go p e below s k n Q m T pc L S := Go.st (fun _ q => h.trans q) g
theorem Go.retV (X : Stand p l e R s m args below meth c T locs cells slots) (hx : p.tables.exec = Jvm.exec) (hlk : meth.locks = false) (hret : meth.sig.returnType = none) (hd : decode c.code pc = .ok (.return_, 1)) (hk : cells ≤ k) (hn : slots ≤ n) (hq : Q none T.heap locs) : Go p e below s k n Q m T pc L [] := by
  obtain ⟨fs, hr, hrun, hended, hW, hsame⟩ := X.leave (v := none) (fun _ => rfl) hlk
  exact ⟨_, _, X.returnOut hx hret hd hr, hrun, hended, _, _, rfl, hq, ⟨_, rfl⟩, hW, hsame.mono hk hn⟩
theorem Go.retN (X : Stand p l e R s m args below meth c T locs cells slots) (hx : p.tables.exec = Jvm.exec) (hlk : meth.locks = false) {t : FieldType} {z : Int32} {rest : List Value} (hret : meth.sig.returnType = some t) (ht : t = .boolean ∨ t = .byte ∨ t = .char ∨ t = .short) (hd : decode c.code pc = .ok (.ireturn, 1)) (hk : cells ≤ k) (hn : slots ≤ n) (hq : Q (some (.int (nar t z))) T.heap locs) : Go p e below s k n Q m T pc L (.int z :: rest) := by
  obtain ⟨fs, hr, hrun, hended, hW, hsame⟩ := X.leave (v := some (.int (nar t z))) (fun h => by rw [hret] at h; cases h) hlk
  exact ⟨_, _, Jvm.RoadKit.retN X hx hret ht hd hr, hrun, hended, _, _, rfl, hq, ⟨_, rfl⟩, hW, hsame.mono hk hn⟩
theorem Go.retO (X : Stand p l e R s m args below meth c T locs cells slots) (hx : p.tables.exec = Jvm.exec) (hlk : meth.locks = false) {t : FieldType} {w : Value} {i : Instr} {rest : List Value} (hret : meth.sig.returnType = some t) (hw : narrow t w = w) (hi : (i = .ireturn ∧ (t = .int ∨ t = .boolean ∨ t = .byte ∨ t = .char ∨ t = .short) ∧ ∃ z, w = .int z) ∨ (i = .lreturn ∧ t = .long ∧ ∃ z, w = .long z) ∨ (i = .dreturn ∧ t = .double ∧ ∃ z, w = .double z) ∨ (i = .freturn ∧ t = .float ∧ ∃ z, w = .float z) ∨ (i = .areturn ∧ t.isReference = true ∧ w.isRef = true)) (hd : decode c.code pc = .ok (i, 1)) (hk : cells ≤ k) (hn : slots ≤ n) (hq : Q (some w) T.heap locs) : Go p e below s k n Q m T pc L (w :: rest) := by
  obtain ⟨fs, hr, hrun, hended, hW, hsame⟩ := X.leave (v := some w) (fun h => by rw [hret] at h; cases h) hlk
  exact ⟨_, _, retOut X hx hret hw hi hd hr, hrun, hended, _, _, rfl, hq, ⟨_, rfl⟩, hW, hsame.mono hk hn⟩
theorem Stand.up (X : Stand p l e R s m args below meth c T locs cells slots) (hk : cells ≤ k) (hn : slots ≤ n) : Stand p l e R s m args below meth c T locs k n :=
  ⟨X.admits, X.cas, X.clock, X.frames, X.room, X.hears, X.method, X.code, X.here, X.tail, X.warmed, X.limits, X.bytes, X.same.mono hk hn⟩
theorem own_len (X : Stand p l e R s m args below meth c T locs cells slots) (hx : p.tables.exec = Jvm.exec) (hZ : Z.Warmed39 s.vm) (eT : T.heap = h) {a : Addr} {cl : Cell} {ty : FieldType} {z : Int32} (A : Arr Z h a cl ty) (S : cl.slots.size = z.toNatClampNeg) (q : ¬ z < 0) {g : JFrame} (hg : g.method = m) {rest : List Value} (hs : g.stack = .ref a :: rest) (hd : decode c.code g.pc = .ok (.arraylength, 1)) (t : State)
    (k : Steps p.tables e below (T.setTop { g with pc := g.pc + 1, stack := .int z :: rest }) t) : Steps p.tables e below (T.setTop g) t := by
  refine X.arraylength hx (by rw [eT]; exact A.1) (State.isArrayOf_alike hZ.alike A.2.1) (g := g) hg hs hd _ ?_
  rw [len_of S q]; exact k
theorem own_met {l : Launch} {y : MethodName} {bytes : ByteArray} {maxL : Nat} {ret : Option FieldType} {ws : List Jvm.Cond} {rm : Room} {A : Array Value} {Z : State} {h0 : Heap} {Q : Option Value → Heap → List Loc → Prop} {L0 : Array Slot} {K N : Nat} (hpl : plainFor y = true) (hef : ∀ m, entryFrame m A maxL = mkF m 0 L0 [])
    (body : ∀ (p : Program) (e : Env) (s : State) (m : MethodId) (below : List Frame) (meth : Method) (c : Code) (s₁ : State), Stand p l e rm s m A below meth c s₁ [] 0 0 → p.tables.exec = Jvm.exec → c.code = bytes → c.maxLocals = maxL → s.vm.findClass y.cls = some m.cls → meth.name = y.name → meth.sig.returnType = ret → meth.locks = false → Z.Warmed39 s.vm → s₁.heap = h0 → Go p e below s K N Q m s₁ 0 L0 []) :
    MetFree l y (head1 (Jvm.Cond.code y bytes maxL ret :: ws) rm) (fun a U => a = A ∧ Z.Warmed39 U.vm ∧ U.heap = h0) (fun _ _ _ _ _ => True) (fun _ U o U' => ∃ v L, o = .returned v ∧ Q v U'.heap L ∧ FrameEnd U o U' L K N) := by
  refine MetFree.of_bodySF hpl hisR ?_
  intro p e s m args below meth c s₁ Bd hml0 hP hK
  obtain ⟨rfl, hZ, hh⟩ := hP
  obtain ⟨s₂, o, h1, h2⟩ := body p e s m below meth c s₁ (Stand.of_body Bd) Bd.exec Bd.bytes hml0 (findClass_of_methodNamed Bd.named) (name_of_methodNamed Bd.named Bd.method).1 Bd.returns Bd.notSynchronized hZ (by rw [← hh, Bd.state]; rfl)
  exact ⟨s₂, o, castTop (hef m) h1, h2⟩
end OwnGo
section OwnDbl
/-- a whole number of at most k in absolute value -/
def own_b (k : Nat) (n : Int64) : Prop := n.toInt.natAbs ≤ k
theorem own_b.mono {k k' : Nat} {n : Int64} (h : own_b k n) (hk : k ≤ k') : own_b k' n := Nat.le_trans h hk
theorem own_B {k : Nat} {n : Int64} (h : own_b k n) (hk : k < 9007199254740992) : B53 n := by
  unfold own_b at h; exact ⟨by omega, by omega⟩
theorem own_mulI {x y : Int64} {X Y P : Nat} (hx : own_b X x) (hy : own_b Y y) (hP : X * Y = P) (hp : P < 9223372036854775808) : (x * y).toInt = x.toInt * y.toInt ∧ own_b P (x * y) ∧ (x.toInt * y.toInt).natAbs ≤ P := by
  unfold own_b at hx hy
  have h1 : (x.toInt * y.toInt).natAbs ≤ P := by rw [Int.natAbs_mul, ← hP]; exact Nat.mul_le_mul hx hy
  have h2 : (x * y).toInt = x.toInt * y.toInt := by
    rw [Int64.toInt_mul]; generalize x.toInt * y.toInt = w at h1; exact Int.bmod_eq_of_le (by omega) (by omega)
  exact ⟨h2, by unfold own_b; rw [h2]; exact h1, h1⟩
theorem own_addI {a b : Int64} {A P : Nat} (ha : own_b A a) (hb : own_b P b) (h : A + P < 9007199254740992) : own_b (A + P) (a + b) := by
  have q := add64 (own_B ha (by omega)) (own_B hb (by omega))
  unfold own_b at *; rw [q]; omega
theorem own_mz (x : UInt64) : FP.dadd x 9223372036854775808 = FP.dsub x (FP.l2d 0) :=
  congrArg (fun d => UInt64.ofNat (FP.Core.encode FP.Core.b64 (FP.Core.round FP.Core.b64 (FP.Core.exactSum (FP.Core.decode FP.Core.b64 x.toNat) d)))) (by decide +kernel : FP.Core.decode FP.Core.b64 (9223372036854775808 : UInt64).toNat = FP.Core.negate (FP.Core.decode FP.Core.b64 (FP.l2d 0).toNat))
theorem own_z0 : own_b 0 0 := (by decide : (0 : Int64).toInt.natAbs ≤ 0)
theorem own_nz : Jvm.Free.Fl.NoNaN64 9223372036854775808 := (by decide +kernel : (9223372036854775808 : UInt64) &&& 0x7fffffffffffffff ≤ 0x7ff0000000000000)
/-- one product and one sum, exact -/
theorem own_fma {a x y : Int64} {A X Y P : Nat} (ha : own_b A a) (hx : own_b X x) (hy : own_b Y y) (hX : X < 9007199254740992) (hY : Y < 9007199254740992) (hP : X * Y = P) (hA : A + P < 9007199254740992) :
    FP.dadd (FP.l2d a) (FP.dmul (FP.l2d x) (FP.l2d y)) = FP.l2d (a + x * y) ∧ Jvm.Free.Fl.NoNaN64 (FP.dmul (FP.l2d x) (FP.l2d y)) ∧ own_b (A + P) (a + x * y) := by
  obtain ⟨m1, m2, m3⟩ := own_mulI hx hy hP (by omega)
  have Ba := own_B ha (by omega)
  have Bx := own_B hx hX
  have By := own_B hy hY
  refine ⟨?_, ?_, own_addI ha m2 hA⟩
  · by_cases zx : x = 0 ∨ y = 0
    · have z : x * y = 0 := by rcases zx with z | z <;> rw [z] <;> simp
      rw [z, dmul_z Bx By zx]
      split
      · rw [own_mz, dsub_w Ba (own_B own_z0 (by decide))]; simp
      · rw [dadd_w Ba (own_B own_z0 (by decide))]
    · rw [dmul_w Bx By (fun z => zx (Or.inl z)) (fun z => zx (Or.inr z)) (by generalize x.toInt * y.toInt = w at m3; omega) (by generalize x.toInt * y.toInt = w at m3; omega), dadd_w Ba (own_B m2 (by omega))]
  · by_cases zx : x = 0 ∨ y = 0
    · rw [dmul_z Bx By zx]
      split
      · exact own_nz
      · exact nn_w rfl
    · rw [dmul_w Bx By (fun z => zx (Or.inl z)) (fun z => zx (Or.inr z)) (by generalize x.toInt * y.toInt = w at m3; omega) (by generalize x.toInt * y.toInt = w at m3; omega)]; exact nn_w rfl
/-- q to the c-th -/
def own_e (q : Int64) (c : Int32) : Int64 := if c = 0 then 1 else if c = 1 then q else if c = 2 then q * q else if c = 3 then (q * q) * q else ((q * q) * q) * q
theorem own_eb {q : Int64} (hq : own_b 4 q) (c : Int32) : own_b 256 (own_e q c) := by
  have h2 := (own_mulI hq hq rfl (by decide)).2.1
  have h3 := (own_mulI h2 hq rfl (by decide)).2.1
  have h4 := (own_mulI h3 hq rfl (by decide)).2.1
  unfold own_e
  split
  · exact (by decide : (1 : Int64).toInt.natAbs ≤ 256)
  split
  · exact hq.mono (by decide)
  split
  · exact h2.mono (by decide)
  split
  · exact h3.mono (by decide)
  · exact h4.mono (by decide)
theorem own_nb {q n0 n1 : Int64} (hq : own_b 4 q) (c : Int32) (h0 : own_b 2147483648 n0) (h1 : own_b 2147483648 n1) : own_b 1099511627776 (n0 + (own_e q c) * n1) := (own_fma h0 (own_eb hq c) h1 (by decide) (by decide) rfl (by decide)).2.2.mono (by decide)
theorem own_c5 {c : Int32} (h : c = 0 ∨ c = 1 ∨ c = 2 ∨ c = 3) : ¬ c < 0 ∧ c < (5 : Int32) := by rcases h with rfl | rfl | rfl | rfl <;> decide
def own_dv (q : Int64) : List Value := [.double (FP.l2d 1), .double (FP.l2d q), .double (FP.l2d (q * q)), .double (FP.l2d ((q * q) * q)), .double (FP.l2d (((q * q) * q) * q))]
theorem own_dat {q : Int64} {c : Int32} (h : c = 0 ∨ c = 1 ∨ c = 2 ∨ c = 3) : (own_dv q).getD c.toNatClampNeg (.double (0 : UInt64)) = .double (FP.l2d (own_e q c)) := by rcases h with rfl | rfl | rfl | rfl <;> rfl
theorem own_h1 {c : Int32} (h : c = 0 ∨ c = 1) : c = 0 ∨ c = 1 ∨ c = 2 ∨ c = 3 := h.elim Or.inl (fun z => Or.inr (Or.inl z))
theorem own_hs {b c : Int32} (h : b = 0 ∨ b = 1) (g : c = 0 ∨ c = 1) : b + c = 0 ∨ b + c = 1 ∨ b + c = 2 ∨ b + c = 3 := by rcases h with rfl | rfl <;> rcases g with rfl | rfl <;> decide
theorem own_ib (x : Int32) : own_b 2147483648 x.toInt64 := by
  unfold own_b; rw [c_i2l]; have := rng32 x; omega
theorem own_q4 (x : Int32) : own_b 4 ((x &&& (7 : Int32)) - (4 : Int32)).toInt64 := by
  unfold own_b; rw [c_i2l]
  have h := c_mask x 7 3 (by decide) (by decide)
  have h1 := c_isub (x &&& 7) 4
  have e4 : (4 : Int32).toInt = 4 := rfl
  have h2 := rng32 ((x &&& 7) - 4)
  omega
/-- products of powers: no zero meets a negative number there -/
theorem own_pw {q r : Int64} {K : Nat} (hr : own_b K r) (hq : own_b 4 q) (hK : K < 1000) (hz : r = 0 ↔ q = 0) : FP.dmul (FP.l2d r) (FP.l2d q) = FP.l2d (r * q) ∧ Jvm.Free.Fl.NoNaN64 (FP.dmul (FP.l2d r) (FP.l2d q)) ∧ own_b (K * 4) (r * q) ∧ (r * q = 0 ↔ q = 0) := by
  obtain ⟨m1, m2, -⟩ := own_mulI hr hq rfl (by omega)
  have e0 : (0 : Int64).toInt = 0 := rfl
  have h : FP.dmul (FP.l2d r) (FP.l2d q) = FP.l2d (r * q) := by
    unfold own_b at hr hq
    refine dmul_k (A := (K : Int)) (B := 4) (by omega) (by omega) (by omega) (by omega) (by omega) (by decide) (by omega) (fun z => ?_) (fun z => ?_)
    · rw [hz.mp z.1, Int64.lt_iff_toInt_lt] at z; omega
    · rw [hz.mpr z.1, Int64.lt_iff_toInt_lt] at z; omega
  refine ⟨h, by rw [h]; exact nn_w rfl, m2, fun z => ?_, fun z => ?_⟩
  · rw [← Int64.toInt_inj, m1, e0] at z
    rcases Int.mul_eq_zero.mp z with z | z
    · exact hz.mp (Int64.toInt_inj.mp z)
    · exact Int64.toInt_inj.mp z
  · rw [z]; simp
theorem own_r24 (x : Int32) : ∃ r : Int32, (x &&& (2147483647 : Int32)) % (24 : Int32) = r ∧ (r % 4 = 0 ∨ r % 4 = 1 ∨ r % 4 = 2 ∨ r % 4 = 3) ∧ ((r / 4) % 3 = 0 ∨ (r / 4) % 3 = 1 ∨ (r / 4) % 3 = 2) ∧ ((r / 12) % 2 = 0 ∨ (r / 12) % 2 = 1) := by
  have h := c_mask x 2147483647 31 (by decide) (by decide)
  have hr := (c_irem (x &&& 2147483647) 24 24 rfl).1 (by omega)
  refine ⟨_, rfl, ?_⟩
  generalize (x &&& (2147483647 : Int32)) % (24 : Int32) = r at hr
  have h0 : 0 ≤ r.toInt ∧ r.toInt < 24 := by omega
  obtain ⟨i, hi⟩ : ∃ i : Fin 24, r = Nat.toInt32 i.val := ⟨⟨r.toInt.toNat, by omega⟩, by
    apply Int32.toInt_inj.mp
    rw [len_toInt (n := r.toInt.toNat) (by omega)]; omega⟩
  subst hi
  exact (by decide +kernel : ∀ i : Fin 24, ((Nat.toInt32 i.val) % 4 = 0 ∨ (Nat.toInt32 i.val) % 4 = 1 ∨ (Nat.toInt32 i.val) % 4 = 2 ∨ (Nat.toInt32 i.val) % 4 = 3) ∧ (((Nat.toInt32 i.val) / 4) % 3 = 0 ∨ ((Nat.toInt32 i.val) / 4) % 3 = 1 ∨ ((Nat.toInt32 i.val) / 4) % 3 = 2) ∧ (((Nat.toInt32 i.val) / 12) % 2 = 0 ∨ ((Nat.toInt32 i.val) / 12) % 2 = 1)) i
/-- four different places -/
def own_pm (a b c d : Int32) : Prop := (a = 0 ∨ a = 1 ∨ a = 2 ∨ a = 3) ∧ (b = 0 ∨ b = 1 ∨ b = 2 ∨ b = 3) ∧ (c = 0 ∨ c = 1 ∨ c = 2 ∨ c = 3) ∧ (d = 0 ∨ d = 1 ∨ d = 2 ∨ d = 3) ∧ a ≠ b ∧ a ≠ c ∧ a ≠ d ∧ b ≠ c ∧ b ≠ d ∧ c ≠ d
theorem own_pm.s3 {a b c d : Int32} (h : own_pm a b c d) : own_pm a d c b := ⟨h.1, h.2.2.2.1, h.2.2.1, h.2.1, h.2.2.2.2.2.2.1, h.2.2.2.2.2.1, h.2.2.2.2.1, h.2.2.2.2.2.2.2.2.2.symm, h.2.2.2.2.2.2.2.2.1.symm, h.2.2.2.2.2.2.2.1.symm⟩
theorem own_pm.s2 {a b c d : Int32} (h : own_pm a b c d) : own_pm a c b d := ⟨h.1, h.2.2.1, h.2.1, h.2.2.2.1, h.2.2.2.2.2.1, h.2.2.2.2.1, h.2.2.2.2.2.2.1, h.2.2.2.2.2.2.2.1.symm, h.2.2.2.2.2.2.2.2.2, h.2.2.2.2.2.2.2.2.1⟩
theorem own_pm.s1 {a b c d : Int32} (h : own_pm a b c d) : own_pm a b d c := ⟨h.1, h.2.1, h.2.2.2.1, h.2.2.1, h.2.2.2.2.1, h.2.2.2.2.2.2.1, h.2.2.2.2.2.1, h.2.2.2.2.2.2.2.2.1, h.2.2.2.2.2.2.2.1, h.2.2.2.2.2.2.2.2.2.symm⟩
def own_fin4 (s : Int64) : Int64 := s
def own_fin3 (q : Int64) (b3 : Int32) (n3 : Int64) (s : Int64) (m : Int32) : Int64 := if b3 = 0 then s else s + n3 * own_e q m
def own_fin2 (q : Int64) (b2 b3 : Int32) (n2 n3 : Int64) (s : Int64) (m : Int32) : Int64 := if b2 = 0 then own_fin3 q b3 n3 s m else own_fin3 q b3 n3 (s + n2 * own_e q m) (m + 1)
def own_fin1 (q : Int64) (b1 b2 b3 : Int32) (n1 n2 n3 : Int64) (s : Int64) (m : Int32) : Int64 := if b1 = 0 then own_fin2 q b2 b3 n2 n3 s m else own_fin2 q b2 b3 n2 n3 (s + n1 * own_e q m) (m + 1)
def own_fin0 (q : Int64) (b0 b1 b2 b3 : Int32) (n0 n1 n2 n3 : Int64) (s : Int64) (m : Int32) : Int64 := if b0 = 0 then own_fin1 q b1 b2 b3 n1 n2 n3 s m else own_fin1 q b1 b2 b3 n1 n2 n3 (s + n0 * own_e q m) (m + 1)
theorem own_e0 (q : Int64) : own_e q 0 = 1 ∧ own_e q 1 = q ∧ own_e q 2 = q * q ∧ own_e q 3 = (q * q) * q := ⟨rfl, rfl, rfl, rfl⟩
theorem own_same0 {q n0 n1 n2 n3 : Int64} {b0 b1 b2 b3 : Int32} (h0 : (b0 = 0 ∧ n0 = 0) ∨ b0 = 1) (h1 : (b1 = 0 ∧ n1 = 0) ∨ b1 = 1) (h2 : (b2 = 0 ∧ n2 = 0) ∨ b2 = 1) (h3 : (b3 = 0 ∧ n3 = 0) ∨ b3 = 1) :
    ((n0 + (own_e q b0) * n1) + (own_e q (b0 + b1)) * (n2 + (own_e q b2) * n3)) = own_fin0 q b0 b1 b2 b3 n0 n1 n2 n3 0 0 := by
  obtain ⟨e0, e1, e2, e3⟩ := own_e0 q
  have s1 : (0 : Int32) + 1 = 1 := by decide
  have s2 : (1 : Int32) + 0 = 1 := by decide
  have s3 : (1 : Int32) + 1 = 2 := by decide
  have s4 : (0 : Int32) + 0 = 0 := by decide
  have s5 : (2 : Int32) + 1 = 3 := by decide
  have z1 : ¬ (1 : Int32) = 0 := by decide
  rcases h0 with ⟨rfl, rfl⟩ | rfl <;> rcases h1 with ⟨rfl, rfl⟩ | rfl <;> rcases h2 with ⟨rfl, rfl⟩ | rfl <;> rcases h3 with ⟨rfl, rfl⟩ | rfl <;>
    simp only [own_fin0, own_fin1, own_fin2, own_fin3, s1, s2, s3, s4, s5, e0, e1, e2, e3, if_true, if_neg z1] <;> grind
end OwnDbl

theorem own_selQ {s : State} {args : Array Value} {K : String} {y z : MethodName} (hp : s.PrivateAt y) (hi : (Cond.instanceMethod y).before args s = true) (hne : y.cls ≠ "java/lang/invoke/MethodHandle" ∧ y.cls ≠ "java/lang/invoke/VarHandle") (h : (Cond.selects K z z).before args s = true) (hz : z.cls = y.cls) : (Cond.selects y.cls y y).before args s = true := by
  obtain ⟨c, r, m, h1, h2, h3, h4, k, h5, h6⟩ := Cond.selects_spec h
  obtain ⟨m', meth, g1, g2, g3, g4⟩ := Cond.instanceMethod_spec hi
  have hc := findClass_of_methodNamed g1
  have hd := findClass_of_methodNamed h3
  rw [hz] at hd
  have e : m.cls = m'.cls := Option.some.inj (hd.symm.trans hc)
  rw [e] at h5
  have hf := State.methodFound?_of_named g1 hne
  show (Cond.selects y.cls y y).holds _ _ _ _ _ = true
  simp only [Cond.holds, Cond.value, hc, hf, g1, selectMethod_private g2 (hp _ _ g1 g2), h5]
  simp [h6]
theorem own_zc : ([(.int (0 : Int32)), (.int (((0 : Int32) + (0 : Int32)) + ((0 : Int32) + (0 : Int32)))), (.int ((0 : Int32) + (0 : Int32))), (.int ((0 : Int32) + (0 : Int32))), (.int (0 : Int32)), (.int (0 : Int32)), (.int (0 : Int32)), (.int (0 : Int32))] : List Value) = [.int 0, .int 0, .int 0, .int 0, .int 0, .int 0, .int 0, .int 0] := by decide
theorem own_zw (q : Int64) : ([(.double (0 : UInt64)), (.double (FP.l2d (((0 : Int64) + (own_e q (0 : Int32)) * (0 : Int64)) + (own_e q ((0 : Int32) + (0 : Int32))) * ((0 : Int64) + (own_e q (0 : Int32)) * (0 : Int64))))), (.double (FP.l2d ((0 : Int64) + (own_e q (0 : Int32)) * (0 : Int64)))), (.double (FP.l2d ((0 : Int64) + (own_e q (0 : Int32)) * (0 : Int64)))), (.double (FP.l2d (0 : Int64))), (.double (FP.l2d (0 : Int64))), (.double (FP.l2d (0 : Int64))), (.double (FP.l2d (0 : Int64)))] : List Value) = [.double 0, .double 0, .double 0, .double 0, .double 0, .double 0, .double 0, .double 0] := by simp only [Int64.mul_zero, Int64.add_zero, l2d_zero]
theorem d5_0 : decode prog_20_method_5_code 0 = .ok (.aload_n 0, 1) := by decide +kernel
theorem d5_1 : decode prog_20_method_5_code 1 = .ok (.getfield 21, 3) := by decide +kernel
theorem d5_4 : decode prog_20_method_5_code 4 = .ok (.iload_n 1, 1) := by decide +kernel
theorem d5_5 : decode prog_20_method_5_code 5 = .ok (.dload_n 2, 1) := by decide +kernel
theorem d5_6 : decode prog_20_method_5_code 6 = .ok (.dastore, 1) := by decide +kernel
theorem d5_7 : decode prog_20_method_5_code 7 = .ok (.iload_n 1, 1) := by decide +kernel
theorem d5_8 : decode prog_20_method_5_code 8 = .ok (.iconst 2, 1) := by decide +kernel
theorem d5_9 : decode prog_20_method_5_code 9 = .ok (.idiv, 1) := by decide +kernel
theorem d5_10 : decode prog_20_method_5_code 10 = .ok (.istore 4, 2) := by decide +kernel
theorem d5_12 : decode prog_20_method_5_code 12 = .ok (.iload 4, 2) := by decide +kernel
theorem d5_14 : decode prog_20_method_5_code 14 = .ok (.iconst 1, 1) := by decide +kernel
theorem d5_15 : decode prog_20_method_5_code 15 = .ok (.if_icmp .lt 79, 3) := by decide +kernel
theorem d5_18 : decode prog_20_method_5_code 18 = .ok (.iconst 2, 1) := by decide +kernel
theorem d5_19 : decode prog_20_method_5_code 19 = .ok (.iload 4, 2) := by decide +kernel
theorem d5_21 : decode prog_20_method_5_code 21 = .ok (.imul, 1) := by decide +kernel
theorem d5_22 : decode prog_20_method_5_code 22 = .ok (.istore 5, 2) := by decide +kernel
theorem d5_24 : decode prog_20_method_5_code 24 = .ok (.aload_n 0, 1) := by decide +kernel
theorem d5_25 : decode prog_20_method_5_code 25 = .ok (.getfield 17, 3) := by decide +kernel
theorem d5_28 : decode prog_20_method_5_code 28 = .ok (.iload 4, 2) := by decide +kernel
theorem d5_30 : decode prog_20_method_5_code 30 = .ok (.aload_n 0, 1) := by decide +kernel
theorem d5_31 : decode prog_20_method_5_code 31 = .ok (.getfield 17, 3) := by decide +kernel
theorem d5_34 : decode prog_20_method_5_code 34 = .ok (.iload 5, 2) := by decide +kernel
theorem d5_36 : decode prog_20_method_5_code 36 = .ok (.iaload, 1) := by decide +kernel
theorem d5_37 : decode prog_20_method_5_code 37 = .ok (.aload_n 0, 1) := by decide +kernel
theorem d5_38 : decode prog_20_method_5_code 38 = .ok (.getfield 17, 3) := by decide +kernel
theorem d5_41 : decode prog_20_method_5_code 41 = .ok (.iload 5, 2) := by decide +kernel
theorem d5_43 : decode prog_20_method_5_code 43 = .ok (.iconst 1, 1) := by decide +kernel
theorem d5_44 : decode prog_20_method_5_code 44 = .ok (.iadd, 1) := by decide +kernel
theorem d5_45 : decode prog_20_method_5_code 45 = .ok (.iaload, 1) := by decide +kernel
theorem d5_46 : decode prog_20_method_5_code 46 = .ok (.iadd, 1) := by decide +kernel
theorem d5_47 : decode prog_20_method_5_code 47 = .ok (.iastore, 1) := by decide +kernel
theorem d5_48 : decode prog_20_method_5_code 48 = .ok (.aload_n 0, 1) := by decide +kernel
theorem d5_49 : decode prog_20_method_5_code 49 = .ok (.getfield 21, 3) := by decide +kernel
theorem d5_52 : decode prog_20_method_5_code 52 = .ok (.iload 4, 2) := by decide +kernel
theorem d5_54 : decode prog_20_method_5_code 54 = .ok (.aload_n 0, 1) := by decide +kernel
theorem d5_55 : decode prog_20_method_5_code 55 = .ok (.getfield 21, 3) := by decide +kernel
theorem d5_58 : decode prog_20_method_5_code 58 = .ok (.iload 5, 2) := by decide +kernel
theorem d5_60 : decode prog_20_method_5_code 60 = .ok (.daload, 1) := by decide +kernel
theorem d5_61 : decode prog_20_method_5_code 61 = .ok (.aload_n 0, 1) := by decide +kernel
theorem d5_62 : decode prog_20_method_5_code 62 = .ok (.getfield 7, 3) := by decide +kernel
theorem d5_65 : decode prog_20_method_5_code 65 = .ok (.aload_n 0, 1) := by decide +kernel
theorem d5_66 : decode prog_20_method_5_code 66 = .ok (.getfield 17, 3) := by decide +kernel
theorem d5_69 : decode prog_20_method_5_code 69 = .ok (.iload 5, 2) := by decide +kernel
theorem d5_71 : decode prog_20_method_5_code 71 = .ok (.iaload, 1) := by decide +kernel
theorem d5_72 : decode prog_20_method_5_code 72 = .ok (.daload, 1) := by decide +kernel
theorem d5_73 : decode prog_20_method_5_code 73 = .ok (.aload_n 0, 1) := by decide +kernel
theorem d5_74 : decode prog_20_method_5_code 74 = .ok (.getfield 21, 3) := by decide +kernel
theorem d5_77 : decode prog_20_method_5_code 77 = .ok (.iload 5, 2) := by decide +kernel
theorem d5_79 : decode prog_20_method_5_code 79 = .ok (.iconst 1, 1) := by decide +kernel
theorem d5_80 : decode prog_20_method_5_code 80 = .ok (.iadd, 1) := by decide +kernel
theorem d5_81 : decode prog_20_method_5_code 81 = .ok (.daload, 1) := by decide +kernel
theorem d5_82 : decode prog_20_method_5_code 82 = .ok (.dmul, 1) := by decide +kernel
theorem d5_83 : decode prog_20_method_5_code 83 = .ok (.dadd, 1) := by decide +kernel
theorem d5_84 : decode prog_20_method_5_code 84 = .ok (.dastore, 1) := by decide +kernel
theorem d5_85 : decode prog_20_method_5_code 85 = .ok (.iload 4, 2) := by decide +kernel
theorem d5_87 : decode prog_20_method_5_code 87 = .ok (.iconst 2, 1) := by decide +kernel
theorem d5_88 : decode prog_20_method_5_code 88 = .ok (.idiv, 1) := by decide +kernel
theorem d5_89 : decode prog_20_method_5_code 89 = .ok (.istore 4, 2) := by decide +kernel
theorem d5_91 : decode prog_20_method_5_code 91 = .ok (.goto (-79), 3) := by decide +kernel
theorem d5_94 : decode prog_20_method_5_code 94 = .ok (.return_, 1) := by decide +kernel
theorem pn_0 : plainName "com/example/placewright/placewright/GrowingRanks" = true := by first | (simp [plainName, overriddenIn]; done) | decide +kernel
def Qset0 (Z : State) (tc tw : Addr) (kc kw : ClassId) (q x va vb vc vd : Int64) (bb bc bd : Int32) (h0 : Heap) (n0 : Nat) (v : Option Value) (h : Heap) (L : List Loc) : Prop := v = none ∧ Fr n0 L ∧ Keep h0 h [tc, tw] ∧ Arv Z h tc kc .int (8 : Int32) [(.int (0 : Int32)), (.int (((1 : Int32) + bb) + (bc + bd))), (.int ((1 : Int32) + bb)), (.int (bc + bd)), (.int (1 : Int32)), (.int bb), (.int bc), (.int bd)] (.int (0 : Int32)) ∧ Arv Z h tw kw .double (8 : Int32) [(.double (0 : UInt64)), (.double (FP.l2d ((x + (own_e q (1 : Int32)) * vb) + (own_e q ((1 : Int32) + bb)) * (vc + (own_e q bc) * vd)))), (.double (FP.l2d (x + (own_e q (1 : Int32)) * vb))), (.double (FP.l2d (vc + (own_e q bc) * vd))), (.double (FP.l2d x)), (.double (FP.l2d vb)), (.double (FP.l2d vc)), (.double (FP.l2d vd))] (.double (0 : UInt64))
def roomset0 : Room := { frames := 0, cells := 0, slots := 0, locals := 0 }
theorem rmset0 (l : Launch) (Z : State) (a0 : Array Value) (hw : ∀ d ∈ tables_1, d.before a0 Z = true) (ws : List Jvm.Cond) (a1 td tc tw : Addr) (kd kc kw : ClassId) (q x va vb vc vd : Int64) (bb bc bd : Int32) (o1 o2 : Int32) (r1 r2 r3 : UInt64) (h0 : Heap) (n0 : Nat) (Z0 : n0 ≤ h0.size) (E_a1 : Exa Z h0 a1 "com/example/placewright/placewright/GrowingRanks") (F_discounts : Fld Z h0 a1 "com/example/placewright/placewright/GrowingRanks" "discounts" "[D" (.ref td)) (F_leaves : Fld Z h0 a1 "com/example/placewright/placewright/GrowingRanks" "leaves" "I" (.int (4 : Int32))) (F_count : Fld Z h0 a1 "com/example/placewright/placewright/GrowingRanks" "count" "[I" (.ref tc)) (F_worth : Fld Z h0 a1 "com/example/placewright/placewright/GrowingRanks" "worth" "[D" (.ref tw)) (V_td : Arv Z h0 td kd .double (5 : Int32) [(.double (FP.l2d 1)), (.double (FP.l2d q)), (.double (FP.l2d (q * q))), (.double (FP.l2d ((q * q) * q))), (.double (FP.l2d (((q * q) * q) * q)))] (.double (0 : UInt64))) (V_tc : Arv Z h0 tc kc .int (8 : Int32) [(.int (0 : Int32)), (.int o1), (.int o2), (.int (bc + bd)), (.int (1 : Int32)), (.int bb), (.int bc), (.int bd)] (.int (0 : Int32))) (V_tw : Arv Z h0 tw kw .double (8 : Int32) [(.double (0 : UInt64)), (.double r1), (.double r2), (.double (FP.l2d (vc + (own_e q bc) * vd))), (.double r3), (.double (FP.l2d vb)), (.double (FP.l2d vc)), (.double (FP.l2d vd))] (.double (0 : UInt64))) (ne5 : a1 ≠ tc ∧ a1 ≠ tw ∧ tc ≠ tw ∧ td ≠ tc ∧ td ≠ tw) (g_tc : n0 ≤ tc) (g_tw : n0 ≤ tw) (hq : own_b 4 q) (hxb : own_b 2147483648 x) (hva : own_b 2147483648 va) (hvb : own_b 2147483648 vb) (hvc : own_b 2147483648 vc) (hvd : own_b 2147483648 vd) (hbb : bb = 0 ∨ bb = 1) (hbc : bc = 0 ∨ bc = 1) (hbd : bd = 0 ∨ bd = 1) :
    MetFree l (⟨"com/example/placewright/placewright/GrowingRanks", "set", "(ID)V"⟩ : MethodName) (head1 (Jvm.Cond.code (⟨"com/example/placewright/placewright/GrowingRanks", "set", "(ID)V"⟩ : MethodName) prog_20_method_5_code 6 none :: ws) roomset0) (fun aa_ U_ => aa_ = #[(.ref a1), (.int (4 : Int32)), (.double (FP.l2d x))] ∧ Z.Warmed39 U_.vm ∧ U_.heap = h0) (fun _ _ _ _ _ => True) (fun _ U_ o_ W_ => ∃ v_ L_, o_ = .returned v_ ∧ (Qset0 Z tc tw kc kw q x va vb vc vd bb bc bd h0 n0) v_ W_.heap L_ ∧ FrameEnd U_ o_ W_ L_ roomset0.cells roomset0.slots) := by
  refine own_met (Q := (Qset0 Z tc tw kc kw q x va vb vc vd bb bc bd h0 n0)) (L0 := #[.val (.ref a1), .val (.int (4 : Int32)), .val (.double (FP.l2d x)), .second, .unset, .unset]) (plainFor_of_name pn_0) (fun m => by first | (simp [entryFrame, mkF, argsToLocals, Value.category]; done) | rfl) ?_
  intro p e s m below meth c T0 X0 hx hby hml hown hnm hret hlk hZ e0
  have N0 := Fr.nil n0
  have K0 := Keep.refl h0 [tc, tw]
  refine Go.st (pc' := 1) (S' := [(.ref a1)]) (fun t_ k_ => XS.aloadN X0.here hx rfl (hb hby d5_0) rfl rfl k_) ?_
  obtain ⟨T1, X1, e1, st1⟩ := getF X0 hx hZ hown (host := "") (Or.inl (wd hw 17 rfl)) Via.refl e0 F_worth (g := (mkF m 1 #[.val (.ref a1), .val (.int (4 : Int32)), .val (.double (FP.l2d x)), .second, .unset, .unset] [(.ref a1)])) rfl rfl (hb hby d5_1)
  refine Go.st (pc' := 4) (S' := [(.ref tw)]) st1 ?_
  refine Go.st (pc' := 5) (S' := [(.int (4 : Int32)), (.ref tw)]) (fun t_ k_ => XS.iloadN X1.here hx rfl (hb hby d5_4) rfl k_) ?_
  refine Go.st (pc' := 6) (S' := [(.double (FP.l2d x)), (.int (4 : Int32)), (.ref tw)]) (fun t_ k_ => XS.dloadN X1.here hx rfl (hb hby d5_5) rfl k_) ?_
  obtain ⟨cl2, Ar2, q21, q22, q23, q24, q25⟩ := V_tw
  obtain ⟨T2, h2, X2, e2, W2, st2⟩ := stD X1 hx hZ e1 Ar2 (j := (4 : Int32)) (inb_of q22 ⟨by decide, by decide⟩) (g := (mkF m 6 #[.val (.ref a1), .val (.int (4 : Int32)), .val (.double (FP.l2d x)), .second, .unset, .unset] [(.double (FP.l2d x)), (.int (4 : Int32)), (.ref tw)])) rfl rfl (hb hby d5_6)
  replace V_tw := Arv.set Ar2 q21 q22 q23 q24 q25 rfl W2 4 rfl (Nat.le_of_ble_eq_true rfl)
  have V_tw : Arv Z h2 tw kw .double (8 : Int32) [(.double (0 : UInt64)), (.double r1), (.double r2), (.double (FP.l2d (vc + (own_e q bc) * vd))), (.double (FP.l2d x)), (.double (FP.l2d vb)), (.double (FP.l2d vc)), (.double (FP.l2d vd))] (.double (0 : UInt64)) := V_tw
  replace Z0 := Nat.le_trans Z0 (Keep.of_wr W2).1
  replace K0 := K0.wr W2 (Or.inl (List.mem_of_getElem? (i := 1) rfl))
  replace E_a1 := E_a1.wr W2
  replace F_discounts := F_discounts.other W2 (Or.inl ne5.2.1)
  replace F_leaves := F_leaves.other W2 (Or.inl ne5.2.1)
  replace F_count := F_count.other W2 (Or.inl ne5.2.1)
  replace F_worth := F_worth.other W2 (Or.inl ne5.2.1)
  replace V_td := V_td.other W2 ne5.2.2.2.2
  replace V_tc := V_tc.other W2 ne5.2.2.1
  have N2 := Fr.snoc X2 N0 g_tw
  refine Go.st (pc' := 7) (S' := []) st2 ?_
  refine Go.st (pc' := 8) (S' := [(.int (4 : Int32))]) (fun t_ k_ => XS.iloadN X2.here hx rfl (hb hby d5_7) rfl k_) ?_
  refine Go.st (pc' := 9) (S' := [(.int (2 : Int32)), (.int (4 : Int32))]) (fun t_ k_ => XS.iconst X2.here hx rfl (hb hby d5_8) k_) ?_
  refine Go.st (pc' := 10) (S' := [(.int ((4 : Int32) / (2 : Int32)))]) (fun t_ k_ => XS.idiv X2.here hx rfl (hb hby d5_9) rfl (by decide) k_) ?_
  rw [show ((4 : Int32) / (2 : Int32)) = (2 : Int32) from by decide]
  refine Go.st (pc' := 12) (S' := []) (fun t_ k_ => XS.istore X2.here hx rfl (hb hby d5_10) rfl (l' := #[.val (.ref a1), .val (.int (4 : Int32)), .val (.double (FP.l2d x)), .second, .val (.int (2 : Int32)), .unset]) rfl k_) ?_
  refine Go.st (pc' := 14) (S' := [(.int (2 : Int32))]) (fun t_ k_ => XS.iload X2.here hx rfl (hb hby d5_12) rfl k_) ?_
  refine Go.st (pc' := 15) (S' := [(.int (1 : Int32)), (.int (2 : Int32))]) (fun t_ k_ => XS.iconst X2.here hx rfl (hb hby d5_14) k_) ?_
  refine Go.st (pc' := 18) (S' := []) (fun t_ k_ => XS.icmpNo X2.here hx rfl (hb hby d5_15) rfl (flt (by decide : ¬ ((2 : Int32) < (1 : Int32)))).1 k_) ?_
  refine Go.st (pc' := 19) (S' := [(.int (2 : Int32))]) (fun t_ k_ => XS.iconst X2.here hx rfl (hb hby d5_18) k_) ?_
  refine Go.st (pc' := 21) (S' := [(.int (2 : Int32)), (.int (2 : Int32))]) (fun t_ k_ => XS.iload X2.here hx rfl (hb hby d5_19) rfl k_) ?_
  refine Go.st (pc' := 22) (S' := [(.int ((2 : Int32) * (2 : Int32)))]) (fun t_ k_ => XS.imul X2.here hx rfl (hb hby d5_21) rfl k_) ?_
  rw [show ((2 : Int32) * (2 : Int32)) = (4 : Int32) from by decide]
  refine Go.st (pc' := 24) (S' := []) (fun t_ k_ => XS.istore X2.here hx rfl (hb hby d5_22) rfl (l' := #[.val (.ref a1), .val (.int (4 : Int32)), .val (.double (FP.l2d x)), .second, .val (.int (2 : Int32)), .val (.int (4 : Int32))]) rfl k_) ?_
  refine Go.st (pc' := 25) (S' := [(.ref a1)]) (fun t_ k_ => XS.aloadN X2.here hx rfl (hb hby d5_24) rfl rfl k_) ?_
  obtain ⟨T3, X3, e3, st3⟩ := getF X2 hx hZ hown (host := "") (Or.inl (wd hw 15 rfl)) Via.refl e2 F_count (g := (mkF m 25 #[.val (.ref a1), .val (.int (4 : Int32)), .val (.double (FP.l2d x)), .second, .val (.int (2 : Int32)), .val (.int (4 : Int32))] [(.ref a1)])) rfl rfl (hb hby d5_25)
  refine Go.st (pc' := 28) (S' := [(.ref tc)]) st3 ?_
  refine Go.st (pc' := 30) (S' := [(.int (2 : Int32)), (.ref tc)]) (fun t_ k_ => XS.iload X3.here hx rfl (hb hby d5_28) rfl k_) ?_
  refine Go.st (pc' := 31) (S' := [(.ref a1), (.int (2 : Int32)), (.ref tc)]) (fun t_ k_ => XS.aloadN X3.here hx rfl (hb hby d5_30) rfl rfl k_) ?_
  obtain ⟨T4, X4, e4, st4⟩ := getF X3 hx hZ hown (host := "") (Or.inl (wd hw 15 rfl)) Via.refl e3 F_count (g := (mkF m 31 #[.val (.ref a1), .val (.int (4 : Int32)), .val (.double (FP.l2d x)), .second, .val (.int (2 : Int32)), .val (.int (4 : Int32))] [(.ref a1), (.int (2 : Int32)), (.ref tc)])) rfl rfl (hb hby d5_31)
  refine Go.st (pc' := 34) (S' := [(.ref tc), (.int (2 : Int32)), (.ref tc)]) st4 ?_
  refine Go.st (pc' := 36) (S' := [(.int (4 : Int32)), (.ref tc), (.int (2 : Int32)), (.ref tc)]) (fun t_ k_ => XS.iload X4.here hx rfl (hb hby d5_34) rfl k_) ?_
  obtain ⟨cl5, Ar5, -, q5a, q5b, q5c, q5d⟩ := id V_tc
  refine Go.st (pc' := 37) (S' := [(.int (1 : Int32)), (.int (2 : Int32)), (.ref tc)]) (fun t_ k_ => X4.iaload hx (j := (4 : Int32)) (v := (.int (1 : Int32))) (by rw [e4]; exact Ar5.1) (State.isArrayOf_alike hZ.alike Ar5.2.1) Ar5.2.2 (inb_of q5a ⟨by decide, by decide⟩) (q5c.at (inb_of q5a ⟨by decide, by decide⟩) rfl) (g := (mkF m 36 #[.val (.ref a1), .val (.int (4 : Int32)), .val (.double (FP.l2d x)), .second, .val (.int (2 : Int32)), .val (.int (4 : Int32))] [(.int (4 : Int32)), (.ref tc), (.int (2 : Int32)), (.ref tc)])) rfl rfl (hb hby d5_36) t_ k_) ?_
  refine Go.st (pc' := 38) (S' := [(.ref a1), (.int (1 : Int32)), (.int (2 : Int32)), (.ref tc)]) (fun t_ k_ => XS.aloadN X4.here hx rfl (hb hby d5_37) rfl rfl k_) ?_
  obtain ⟨T6, X6, e6, st6⟩ := getF X4 hx hZ hown (host := "") (Or.inl (wd hw 15 rfl)) Via.refl e4 F_count (g := (mkF m 38 #[.val (.ref a1), .val (.int (4 : Int32)), .val (.double (FP.l2d x)), .second, .val (.int (2 : Int32)), .val (.int (4 : Int32))] [(.ref a1), (.int (1 : Int32)), (.int (2 : Int32)), (.ref tc)])) rfl rfl (hb hby d5_38)
  refine Go.st (pc' := 41) (S' := [(.ref tc), (.int (1 : Int32)), (.int (2 : Int32)), (.ref tc)]) st6 ?_
  refine Go.st (pc' := 43) (S' := [(.int (4 : Int32)), (.ref tc), (.int (1 : Int32)), (.int (2 : Int32)), (.ref tc)]) (fun t_ k_ => XS.iload X6.here hx rfl (hb hby d5_41) rfl k_) ?_
  refine Go.st (pc' := 44) (S' := [(.int (1 : Int32)), (.int (4 : Int32)), (.ref tc), (.int (1 : Int32)), (.int (2 : Int32)), (.ref tc)]) (fun t_ k_ => XS.iconst X6.here hx rfl (hb hby d5_43) k_) ?_
  refine Go.st (pc' := 45) (S' := [(.int ((4 : Int32) + (1 : Int32))), (.ref tc), (.int (1 : Int32)), (.int (2 : Int32)), (.ref tc)]) (fun t_ k_ => XS.iadd X6.here hx rfl (hb hby d5_44) rfl k_) ?_
  rw [show ((4 : Int32) + (1 : Int32)) = (5 : Int32) from by decide]
  obtain ⟨cl7, Ar7, -, q7a, q7b, q7c, q7d⟩ := id V_tc
  refine Go.st (pc' := 46) (S' := [(.int bb), (.int (1 : Int32)), (.int (2 : Int32)), (.ref tc)]) (fun t_ k_ => X6.iaload hx (j := (5 : Int32)) (v := (.int bb)) (by rw [e6]; exact Ar7.1) (State.isArrayOf_alike hZ.alike Ar7.2.1) Ar7.2.2 (inb_of q7a ⟨by decide, by decide⟩) (q7c.at (inb_of q7a ⟨by decide, by decide⟩) rfl) (g := (mkF m 45 #[.val (.ref a1), .val (.int (4 : Int32)), .val (.double (FP.l2d x)), .second, .val (.int (2 : Int32)), .val (.int (4 : Int32))] [(.int (5 : Int32)), (.ref tc), (.int (1 : Int32)), (.int (2 : Int32)), (.ref tc)])) rfl rfl (hb hby d5_45) t_ k_) ?_
  refine Go.st (pc' := 47) (S' := [(.int ((1 : Int32) + bb)), (.int (2 : Int32)), (.ref tc)]) (fun t_ k_ => XS.iadd X6.here hx rfl (hb hby d5_46) rfl k_) ?_
  obtain ⟨cl8, Ar8, q81, q82, q83, q84, q85⟩ := V_tc
  obtain ⟨T8, h8, X8, e8, W8, st8⟩ := stI X6 hx hZ e6 Ar8 (j := (2 : Int32)) (inb_of q82 ⟨by decide, by decide⟩) (g := (mkF m 47 #[.val (.ref a1), .val (.int (4 : Int32)), .val (.double (FP.l2d x)), .second, .val (.int (2 : Int32)), .val (.int (4 : Int32))] [(.int ((1 : Int32) + bb)), (.int (2 : Int32)), (.ref tc)])) rfl rfl (hb hby d5_47)
  replace V_tc := Arv.set Ar8 q81 q82 q83 q84 q85 rfl W8 2 rfl (Nat.le_of_ble_eq_true rfl)
  have V_tc : Arv Z h8 tc kc .int (8 : Int32) [(.int (0 : Int32)), (.int o1), (.int ((1 : Int32) + bb)), (.int (bc + bd)), (.int (1 : Int32)), (.int bb), (.int bc), (.int bd)] (.int (0 : Int32)) := V_tc
  replace Z0 := Nat.le_trans Z0 (Keep.of_wr W8).1
  replace K0 := K0.wr W8 (Or.inl (List.mem_of_getElem? (i := 0) rfl))
  replace E_a1 := E_a1.wr W8
  replace F_discounts := F_discounts.other W8 (Or.inl ne5.1)
  replace F_leaves := F_leaves.other W8 (Or.inl ne5.1)
  replace F_count := F_count.other W8 (Or.inl ne5.1)
  replace F_worth := F_worth.other W8 (Or.inl ne5.1)
  replace V_td := V_td.other W8 ne5.2.2.2.1
  replace V_tw := V_tw.other W8 (Ne.symm ne5.2.2.1)
  have N8 := Fr.snoc X8 N2 g_tc
  refine Go.st (pc' := 48) (S' := []) st8 ?_
  refine Go.st (pc' := 49) (S' := [(.ref a1)]) (fun t_ k_ => XS.aloadN X8.here hx rfl (hb hby d5_48) rfl rfl k_) ?_
  obtain ⟨T9, X9, e9, st9⟩ := getF X8 hx hZ hown (host := "") (Or.inl (wd hw 17 rfl)) Via.refl e8 F_worth (g := (mkF m 49 #[.val (.ref a1), .val (.int (4 : Int32)), .val (.double (FP.l2d x)), .second, .val (.int (2 : Int32)), .val (.int (4 : Int32))] [(.ref a1)])) rfl rfl (hb hby d5_49)
  refine Go.st (pc' := 52) (S' := [(.ref tw)]) st9 ?_
  refine Go.st (pc' := 54) (S' := [(.int (2 : Int32)), (.ref tw)]) (fun t_ k_ => XS.iload X9.here hx rfl (hb hby d5_52) rfl k_) ?_
  refine Go.st (pc' := 55) (S' := [(.ref a1), (.int (2 : Int32)), (.ref tw)]) (fun t_ k_ => XS.aloadN X9.here hx rfl (hb hby d5_54) rfl rfl k_) ?_
  obtain ⟨T10, X10, e10, st10⟩ := getF X9 hx hZ hown (host := "") (Or.inl (wd hw 17 rfl)) Via.refl e9 F_worth (g := (mkF m 55 #[.val (.ref a1), .val (.int (4 : Int32)), .val (.double (FP.l2d x)), .second, .val (.int (2 : Int32)), .val (.int (4 : Int32))] [(.ref a1), (.int (2 : Int32)), (.ref tw)])) rfl rfl (hb hby d5_55)
  refine Go.st (pc' := 58) (S' := [(.ref tw), (.int (2 : Int32)), (.ref tw)]) st10 ?_
  refine Go.st (pc' := 60) (S' := [(.int (4 : Int32)), (.ref tw), (.int (2 : Int32)), (.ref tw)]) (fun t_ k_ => XS.iload X10.here hx rfl (hb hby d5_58) rfl k_) ?_
  obtain ⟨cl11, Ar11, -, q11a, q11b, q11c, q11d⟩ := id V_tw
  refine Go.st (pc' := 61) (S' := [(.double (FP.l2d x)), (.int (2 : Int32)), (.ref tw)]) (fun t_ k_ => X10.daload hx (j := (4 : Int32)) (v := (.double (FP.l2d x))) (by rw [e10]; exact Ar11.1) (State.isArrayOf_alike hZ.alike Ar11.2.1) Ar11.2.2 (inb_of q11a ⟨by decide, by decide⟩) (q11c.at (inb_of q11a ⟨by decide, by decide⟩) rfl) (g := (mkF m 60 #[.val (.ref a1), .val (.int (4 : Int32)), .val (.double (FP.l2d x)), .second, .val (.int (2 : Int32)), .val (.int (4 : Int32))] [(.int (4 : Int32)), (.ref tw), (.int (2 : Int32)), (.ref tw)])) rfl rfl (hb hby d5_60) t_ k_) ?_
  refine Go.st (pc' := 62) (S' := [(.ref a1), (.double (FP.l2d x)), (.int (2 : Int32)), (.ref tw)]) (fun t_ k_ => XS.aloadN X10.here hx rfl (hb hby d5_61) rfl rfl k_) ?_
  obtain ⟨T12, X12, e12, st12⟩ := getF X10 hx hZ hown (host := "") (Or.inl (wd hw 10 rfl)) Via.refl e10 F_discounts (g := (mkF m 62 #[.val (.ref a1), .val (.int (4 : Int32)), .val (.double (FP.l2d x)), .second, .val (.int (2 : Int32)), .val (.int (4 : Int32))] [(.ref a1), (.double (FP.l2d x)), (.int (2 : Int32)), (.ref tw)])) rfl rfl (hb hby d5_62)
  refine Go.st (pc' := 65) (S' := [(.ref td), (.double (FP.l2d x)), (.int (2 : Int32)), (.ref tw)]) st12 ?_
  refine Go.st (pc' := 66) (S' := [(.ref a1), (.ref td), (.double (FP.l2d x)), (.int (2 : Int32)), (.ref tw)]) (fun t_ k_ => XS.aloadN X12.here hx rfl (hb hby d5_65) rfl rfl k_) ?_
  obtain ⟨T13, X13, e13, st13⟩ := getF X12 hx hZ hown (host := "") (Or.inl (wd hw 15 rfl)) Via.refl e12 F_count (g := (mkF m 66 #[.val (.ref a1), .val (.int (4 : Int32)), .val (.double (FP.l2d x)), .second, .val (.int (2 : Int32)), .val (.int (4 : Int32))] [(.ref a1), (.ref td), (.double (FP.l2d x)), (.int (2 : Int32)), (.ref tw)])) rfl rfl (hb hby d5_66)
  refine Go.st (pc' := 69) (S' := [(.ref tc), (.ref td), (.double (FP.l2d x)), (.int (2 : Int32)), (.ref tw)]) st13 ?_
  refine Go.st (pc' := 71) (S' := [(.int (4 : Int32)), (.ref tc), (.ref td), (.double (FP.l2d x)), (.int (2 : Int32)), (.ref tw)]) (fun t_ k_ => XS.iload X13.here hx rfl (hb hby d5_69) rfl k_) ?_
  obtain ⟨cl14, Ar14, -, q14a, q14b, q14c, q14d⟩ := id V_tc
  refine Go.st (pc' := 72) (S' := [(.int (1 : Int32)), (.ref td), (.double (FP.l2d x)), (.int (2 : Int32)), (.ref tw)]) (fun t_ k_ => X13.iaload hx (j := (4 : Int32)) (v := (.int (1 : Int32))) (by rw [e13]; exact Ar14.1) (State.isArrayOf_alike hZ.alike Ar14.2.1) Ar14.2.2 (inb_of q14a ⟨by decide, by decide⟩) (q14c.at (inb_of q14a ⟨by decide, by decide⟩) rfl) (g := (mkF m 71 #[.val (.ref a1), .val (.int (4 : Int32)), .val (.double (FP.l2d x)), .second, .val (.int (2 : Int32)), .val (.int (4 : Int32))] [(.int (4 : Int32)), (.ref tc), (.ref td), (.double (FP.l2d x)), (.int (2 : Int32)), (.ref tw)])) rfl rfl (hb hby d5_71) t_ k_) ?_
  obtain ⟨cl15, Ar15, -, q15a, q15b, q15c, q15d⟩ := id V_td
  refine Go.st (pc' := 73) (S' := [(.double (FP.l2d (own_e q (1 : Int32)))), (.double (FP.l2d x)), (.int (2 : Int32)), (.ref tw)]) (fun t_ k_ => X13.daload hx (j := (1 : Int32)) (v := (.double (FP.l2d (own_e q (1 : Int32))))) (by rw [e13]; exact Ar15.1) (State.isArrayOf_alike hZ.alike Ar15.2.1) Ar15.2.2 (inb_of q15a (own_c5 (own_h1 (Or.inr rfl)))) (q15c.at (inb_of q15a (own_c5 (own_h1 (Or.inr rfl)))) (own_dat (own_h1 (Or.inr rfl)))) (g := (mkF m 72 #[.val (.ref a1), .val (.int (4 : Int32)), .val (.double (FP.l2d x)), .second, .val (.int (2 : Int32)), .val (.int (4 : Int32))] [(.int (1 : Int32)), (.ref td), (.double (FP.l2d x)), (.int (2 : Int32)), (.ref tw)])) rfl rfl (hb hby d5_72) t_ k_) ?_
  refine Go.st (pc' := 74) (S' := [(.ref a1), (.double (FP.l2d (own_e q (1 : Int32)))), (.double (FP.l2d x)), (.int (2 : Int32)), (.ref tw)]) (fun t_ k_ => XS.aloadN X13.here hx rfl (hb hby d5_73) rfl rfl k_) ?_
  obtain ⟨T16, X16, e16, st16⟩ := getF X13 hx hZ hown (host := "") (Or.inl (wd hw 17 rfl)) Via.refl e13 F_worth (g := (mkF m 74 #[.val (.ref a1), .val (.int (4 : Int32)), .val (.double (FP.l2d x)), .second, .val (.int (2 : Int32)), .val (.int (4 : Int32))] [(.ref a1), (.double (FP.l2d (own_e q (1 : Int32)))), (.double (FP.l2d x)), (.int (2 : Int32)), (.ref tw)])) rfl rfl (hb hby d5_74)
  refine Go.st (pc' := 77) (S' := [(.ref tw), (.double (FP.l2d (own_e q (1 : Int32)))), (.double (FP.l2d x)), (.int (2 : Int32)), (.ref tw)]) st16 ?_
  refine Go.st (pc' := 79) (S' := [(.int (4 : Int32)), (.ref tw), (.double (FP.l2d (own_e q (1 : Int32)))), (.double (FP.l2d x)), (.int (2 : Int32)), (.ref tw)]) (fun t_ k_ => XS.iload X16.here hx rfl (hb hby d5_77) rfl k_) ?_
  refine Go.st (pc' := 80) (S' := [(.int (1 : Int32)), (.int (4 : Int32)), (.ref tw), (.double (FP.l2d (own_e q (1 : Int32)))), (.double (FP.l2d x)), (.int (2 : Int32)), (.ref tw)]) (fun t_ k_ => XS.iconst X16.here hx rfl (hb hby d5_79) k_) ?_
  refine Go.st (pc' := 81) (S' := [(.int ((4 : Int32) + (1 : Int32))), (.ref tw), (.double (FP.l2d (own_e q (1 : Int32)))), (.double (FP.l2d x)), (.int (2 : Int32)), (.ref tw)]) (fun t_ k_ => XS.iadd X16.here hx rfl (hb hby d5_80) rfl k_) ?_
  rw [show ((4 : Int32) + (1 : Int32)) = (5 : Int32) from by decide]
  obtain ⟨cl17, Ar17, -, q17a, q17b, q17c, q17d⟩ := id V_tw
  refine Go.st (pc' := 82) (S' := [(.double (FP.l2d vb)), (.double (FP.l2d (own_e q (1 : Int32)))), (.double (FP.l2d x)), (.int (2 : Int32)), (.ref tw)]) (fun t_ k_ => X16.daload hx (j := (5 : Int32)) (v := (.double (FP.l2d vb))) (by rw [e16]; exact Ar17.1) (State.isArrayOf_alike hZ.alike Ar17.2.1) Ar17.2.2 (inb_of q17a ⟨by decide, by decide⟩) (q17c.at (inb_of q17a ⟨by decide, by decide⟩) rfl) (g := (mkF m 81 #[.val (.ref a1), .val (.int (4 : Int32)), .val (.double (FP.l2d x)), .second, .val (.int (2 : Int32)), .val (.int (4 : Int32))] [(.int (5 : Int32)), (.ref tw), (.double (FP.l2d (own_e q (1 : Int32)))), (.double (FP.l2d x)), (.int (2 : Int32)), (.ref tw)])) rfl rfl (hb hby d5_81) t_ k_) ?_
  have fm18 := own_fma (a := x) (x := (own_e q (1 : Int32))) (y := vb) (A := 2147483648) (X := 256) (Y := 2147483648) hxb (own_eb hq (1 : Int32)) hvb (by decide) (by decide) rfl (by decide)
  refine Go.st (pc' := 83) (S' := [(.double (FP.dmul (FP.l2d (own_e q (1 : Int32))) (FP.l2d vb))), (.double (FP.l2d x)), (.int (2 : Int32)), (.ref tw)]) (fun t_ k_ => XS.dmulS X16.here hx rfl (hb hby d5_82) rfl fm18.2.1 rfl k_) ?_
  refine Go.st (pc' := 84) (S' := [(.double (FP.l2d (x + (own_e q (1 : Int32)) * vb))), (.int (2 : Int32)), (.ref tw)]) (fun t_ k_ => XS.daddS X16.here hx rfl (hb hby d5_83) rfl (nn_w fm18.1) fm18.1 k_) ?_
  obtain ⟨cl19, Ar19, q191, q192, q193, q194, q195⟩ := V_tw
  obtain ⟨T19, h19, X19, e19, W19, st19⟩ := stD X16 hx hZ e16 Ar19 (j := (2 : Int32)) (inb_of q192 ⟨by decide, by decide⟩) (g := (mkF m 84 #[.val (.ref a1), .val (.int (4 : Int32)), .val (.double (FP.l2d x)), .second, .val (.int (2 : Int32)), .val (.int (4 : Int32))] [(.double (FP.l2d (x + (own_e q (1 : Int32)) * vb))), (.int (2 : Int32)), (.ref tw)])) rfl rfl (hb hby d5_84)
  replace V_tw := Arv.set Ar19 q191 q192 q193 q194 q195 rfl W19 2 rfl (Nat.le_of_ble_eq_true rfl)
  have V_tw : Arv Z h19 tw kw .double (8 : Int32) [(.double (0 : UInt64)), (.double r1), (.double (FP.l2d (x + (own_e q (1 : Int32)) * vb))), (.double (FP.l2d (vc + (own_e q bc) * vd))), (.double (FP.l2d x)), (.double (FP.l2d vb)), (.double (FP.l2d vc)), (.double (FP.l2d vd))] (.double (0 : UInt64)) := V_tw
  replace Z0 := Nat.le_trans Z0 (Keep.of_wr W19).1
  replace K0 := K0.wr W19 (Or.inl (List.mem_of_getElem? (i := 1) rfl))
  replace E_a1 := E_a1.wr W19
  replace F_discounts := F_discounts.other W19 (Or.inl ne5.2.1)
  replace F_leaves := F_leaves.other W19 (Or.inl ne5.2.1)
  replace F_count := F_count.other W19 (Or.inl ne5.2.1)
  replace F_worth := F_worth.other W19 (Or.inl ne5.2.1)
  replace V_td := V_td.other W19 ne5.2.2.2.2
  replace V_tc := V_tc.other W19 ne5.2.2.1
  have N19 := Fr.snoc X19 N8 g_tw
  refine Go.st (pc' := 85) (S' := []) st19 ?_
  refine Go.st (pc' := 87) (S' := [(.int (2 : Int32))]) (fun t_ k_ => XS.iload X19.here hx rfl (hb hby d5_85) rfl k_) ?_
  refine Go.st (pc' := 88) (S' := [(.int (2 : Int32)), (.int (2 : Int32))]) (fun t_ k_ => XS.iconst X19.here hx rfl (hb hby d5_87) k_) ?_
  refine Go.st (pc' := 89) (S' := [(.int ((2 : Int32) / (2 : Int32)))]) (fun t_ k_ => XS.idiv X19.here hx rfl (hb hby d5_88) rfl (by decide) k_) ?_
  rw [show ((2 : Int32) / (2 : Int32)) = (1 : Int32) from by decide]
  refine Go.st (pc' := 91) (S' := []) (fun t_ k_ => XS.istore X19.here hx rfl (hb hby d5_89) rfl (l' := #[.val (.ref a1), .val (.int (4 : Int32)), .val (.double (FP.l2d x)), .second, .val (.int (1 : Int32)), .val (.int (4 : Int32))]) rfl k_) ?_
  refine Go.st (pc' := 12) (S' := []) (fun t_ k_ => XS.goto X19.here hx rfl (pc0 := 91) (pc' := 12) rfl (hb hby d5_91) (by decide) (by decide) k_) ?_
  refine Go.st (pc' := 14) (S' := [(.int (1 : Int32))]) (fun t_ k_ => XS.iload X19.here hx rfl (hb hby d5_12) rfl k_) ?_
  refine Go.st (pc' := 15) (S' := [(.int (1 : Int32)), (.int (1 : Int32))]) (fun t_ k_ => XS.iconst X19.here hx rfl (hb hby d5_14) k_) ?_
  refine Go.st (pc' := 18) (S' := []) (fun t_ k_ => XS.icmpNo X19.here hx rfl (hb hby d5_15) rfl (flt (by decide : ¬ ((1 : Int32) < (1 : Int32)))).1 k_) ?_
  refine Go.st (pc' := 19) (S' := [(.int (2 : Int32))]) (fun t_ k_ => XS.iconst X19.here hx rfl (hb hby d5_18) k_) ?_
  refine Go.st (pc' := 21) (S' := [(.int (1 : Int32)), (.int (2 : Int32))]) (fun t_ k_ => XS.iload X19.here hx rfl (hb hby d5_19) rfl k_) ?_
  refine Go.st (pc' := 22) (S' := [(.int ((2 : Int32) * (1 : Int32)))]) (fun t_ k_ => XS.imul X19.here hx rfl (hb hby d5_21) rfl k_) ?_
  rw [show ((2 : Int32) * (1 : Int32)) = (2 : Int32) from by decide]
  refine Go.st (pc' := 24) (S' := []) (fun t_ k_ => XS.istore X19.here hx rfl (hb hby d5_22) rfl (l' := #[.val (.ref a1), .val (.int (4 : Int32)), .val (.double (FP.l2d x)), .second, .val (.int (1 : Int32)), .val (.int (2 : Int32))]) rfl k_) ?_
  refine Go.st (pc' := 25) (S' := [(.ref a1)]) (fun t_ k_ => XS.aloadN X19.here hx rfl (hb hby d5_24) rfl rfl k_) ?_
  obtain ⟨T20, X20, e20, st20⟩ := getF X19 hx hZ hown (host := "") (Or.inl (wd hw 15 rfl)) Via.refl e19 F_count (g := (mkF m 25 #[.val (.ref a1), .val (.int (4 : Int32)), .val (.double (FP.l2d x)), .second, .val (.int (1 : Int32)), .val (.int (2 : Int32))] [(.ref a1)])) rfl rfl (hb hby d5_25)
  refine Go.st (pc' := 28) (S' := [(.ref tc)]) st20 ?_
  refine Go.st (pc' := 30) (S' := [(.int (1 : Int32)), (.ref tc)]) (fun t_ k_ => XS.iload X20.here hx rfl (hb hby d5_28) rfl k_) ?_
  refine Go.st (pc' := 31) (S' := [(.ref a1), (.int (1 : Int32)), (.ref tc)]) (fun t_ k_ => XS.aloadN X20.here hx rfl (hb hby d5_30) rfl rfl k_) ?_
  obtain ⟨T21, X21, e21, st21⟩ := getF X20 hx hZ hown (host := "") (Or.inl (wd hw 15 rfl)) Via.refl e20 F_count (g := (mkF m 31 #[.val (.ref a1), .val (.int (4 : Int32)), .val (.double (FP.l2d x)), .second, .val (.int (1 : Int32)), .val (.int (2 : Int32))] [(.ref a1), (.int (1 : Int32)), (.ref tc)])) rfl rfl (hb hby d5_31)
  refine Go.st (pc' := 34) (S' := [(.ref tc), (.int (1 : Int32)), (.ref tc)]) st21 ?_
  refine Go.st (pc' := 36) (S' := [(.int (2 : Int32)), (.ref tc), (.int (1 : Int32)), (.ref tc)]) (fun t_ k_ => XS.iload X21.here hx rfl (hb hby d5_34) rfl k_) ?_
  obtain ⟨cl22, Ar22, -, q22a, q22b, q22c, q22d⟩ := id V_tc
  refine Go.st (pc' := 37) (S' := [(.int ((1 : Int32) + bb)), (.int (1 : Int32)), (.ref tc)]) (fun t_ k_ => X21.iaload hx (j := (2 : Int32)) (v := (.int ((1 : Int32) + bb))) (by rw [e21]; exact Ar22.1) (State.isArrayOf_alike hZ.alike Ar22.2.1) Ar22.2.2 (inb_of q22a ⟨by decide, by decide⟩) (q22c.at (inb_of q22a ⟨by decide, by decide⟩) rfl) (g := (mkF m 36 #[.val (.ref a1), .val (.int (4 : Int32)), .val (.double (FP.l2d x)), .second, .val (.int (1 : Int32)), .val (.int (2 : Int32))] [(.int (2 : Int32)), (.ref tc), (.int (1 : Int32)), (.ref tc)])) rfl rfl (hb hby d5_36) t_ k_) ?_
  refine Go.st (pc' := 38) (S' := [(.ref a1), (.int ((1 : Int32) + bb)), (.int (1 : Int32)), (.ref tc)]) (fun t_ k_ => XS.aloadN X21.here hx rfl (hb hby d5_37) rfl rfl k_) ?_
  obtain ⟨T23, X23, e23, st23⟩ := getF X21 hx hZ hown (host := "") (Or.inl (wd hw 15 rfl)) Via.refl e21 F_count (g := (mkF m 38 #[.val (.ref a1), .val (.int (4 : Int32)), .val (.double (FP.l2d x)), .second, .val (.int (1 : Int32)), .val (.int (2 : Int32))] [(.ref a1), (.int ((1 : Int32) + bb)), (.int (1 : Int32)), (.ref tc)])) rfl rfl (hb hby d5_38)
  refine Go.st (pc' := 41) (S' := [(.ref tc), (.int ((1 : Int32) + bb)), (.int (1 : Int32)), (.ref tc)]) st23 ?_
  refine Go.st (pc' := 43) (S' := [(.int (2 : Int32)), (.ref tc), (.int ((1 : Int32) + bb)), (.int (1 : Int32)), (.ref tc)]) (fun t_ k_ => XS.iload X23.here hx rfl (hb hby d5_41) rfl k_) ?_
  refine Go.st (pc' := 44) (S' := [(.int (1 : Int32)), (.int (2 : Int32)), (.ref tc), (.int ((1 : Int32) + bb)), (.int (1 : Int32)), (.ref tc)]) (fun t_ k_ => XS.iconst X23.here hx rfl (hb hby d5_43) k_) ?_
  refine Go.st (pc' := 45) (S' := [(.int ((2 : Int32) + (1 : Int32))), (.ref tc), (.int ((1 : Int32) + bb)), (.int (1 : Int32)), (.ref tc)]) (fun t_ k_ => XS.iadd X23.here hx rfl (hb hby d5_44) rfl k_) ?_
  rw [show ((2 : Int32) + (1 : Int32)) = (3 : Int32) from by decide]
  obtain ⟨cl24, Ar24, -, q24a, q24b, q24c, q24d⟩ := id V_tc
  refine Go.st (pc' := 46) (S' := [(.int (bc + bd)), (.int ((1 : Int32) + bb)), (.int (1 : Int32)), (.ref tc)]) (fun t_ k_ => X23.iaload hx (j := (3 : Int32)) (v := (.int (bc + bd))) (by rw [e23]; exact Ar24.1) (State.isArrayOf_alike hZ.alike Ar24.2.1) Ar24.2.2 (inb_of q24a ⟨by decide, by decide⟩) (q24c.at (inb_of q24a ⟨by decide, by decide⟩) rfl) (g := (mkF m 45 #[.val (.ref a1), .val (.int (4 : Int32)), .val (.double (FP.l2d x)), .second, .val (.int (1 : Int32)), .val (.int (2 : Int32))] [(.int (3 : Int32)), (.ref tc), (.int ((1 : Int32) + bb)), (.int (1 : Int32)), (.ref tc)])) rfl rfl (hb hby d5_45) t_ k_) ?_
  refine Go.st (pc' := 47) (S' := [(.int (((1 : Int32) + bb) + (bc + bd))), (.int (1 : Int32)), (.ref tc)]) (fun t_ k_ => XS.iadd X23.here hx rfl (hb hby d5_46) rfl k_) ?_
  obtain ⟨cl25, Ar25, q251, q252, q253, q254, q255⟩ := V_tc
  obtain ⟨T25, h25, X25, e25, W25, st25⟩ := stI X23 hx hZ e23 Ar25 (j := (1 : Int32)) (inb_of q252 ⟨by decide, by decide⟩) (g := (mkF m 47 #[.val (.ref a1), .val (.int (4 : Int32)), .val (.double (FP.l2d x)), .second, .val (.int (1 : Int32)), .val (.int (2 : Int32))] [(.int (((1 : Int32) + bb) + (bc + bd))), (.int (1 : Int32)), (.ref tc)])) rfl rfl (hb hby d5_47)
  replace V_tc := Arv.set Ar25 q251 q252 q253 q254 q255 rfl W25 1 rfl (Nat.le_of_ble_eq_true rfl)
  have V_tc : Arv Z h25 tc kc .int (8 : Int32) [(.int (0 : Int32)), (.int (((1 : Int32) + bb) + (bc + bd))), (.int ((1 : Int32) + bb)), (.int (bc + bd)), (.int (1 : Int32)), (.int bb), (.int bc), (.int bd)] (.int (0 : Int32)) := V_tc
  replace Z0 := Nat.le_trans Z0 (Keep.of_wr W25).1
  replace K0 := K0.wr W25 (Or.inl (List.mem_of_getElem? (i := 0) rfl))
  replace E_a1 := E_a1.wr W25
  replace F_discounts := F_discounts.other W25 (Or.inl ne5.1)
  replace F_leaves := F_leaves.other W25 (Or.inl ne5.1)
  replace F_count := F_count.other W25 (Or.inl ne5.1)
  replace F_worth := F_worth.other W25 (Or.inl ne5.1)
  replace V_td := V_td.other W25 ne5.2.2.2.1
  replace V_tw := V_tw.other W25 (Ne.symm ne5.2.2.1)
  have N25 := Fr.snoc X25 N19 g_tc
  refine Go.st (pc' := 48) (S' := []) st25 ?_
  refine Go.st (pc' := 49) (S' := [(.ref a1)]) (fun t_ k_ => XS.aloadN X25.here hx rfl (hb hby d5_48) rfl rfl k_) ?_
  obtain ⟨T26, X26, e26, st26⟩ := getF X25 hx hZ hown (host := "") (Or.inl (wd hw 17 rfl)) Via.refl e25 F_worth (g := (mkF m 49 #[.val (.ref a1), .val (.int (4 : Int32)), .val (.double (FP.l2d x)), .second, .val (.int (1 : Int32)), .val (.int (2 : Int32))] [(.ref a1)])) rfl rfl (hb hby d5_49)
  refine Go.st (pc' := 52) (S' := [(.ref tw)]) st26 ?_
  refine Go.st (pc' := 54) (S' := [(.int (1 : Int32)), (.ref tw)]) (fun t_ k_ => XS.iload X26.here hx rfl (hb hby d5_52) rfl k_) ?_
  refine Go.st (pc' := 55) (S' := [(.ref a1), (.int (1 : Int32)), (.ref tw)]) (fun t_ k_ => XS.aloadN X26.here hx rfl (hb hby d5_54) rfl rfl k_) ?_
  obtain ⟨T27, X27, e27, st27⟩ := getF X26 hx hZ hown (host := "") (Or.inl (wd hw 17 rfl)) Via.refl e26 F_worth (g := (mkF m 55 #[.val (.ref a1), .val (.int (4 : Int32)), .val (.double (FP.l2d x)), .second, .val (.int (1 : Int32)), .val (.int (2 : Int32))] [(.ref a1), (.int (1 : Int32)), (.ref tw)])) rfl rfl (hb hby d5_55)
  refine Go.st (pc' := 58) (S' := [(.ref tw), (.int (1 : Int32)), (.ref tw)]) st27 ?_
  refine Go.st (pc' := 60) (S' := [(.int (2 : Int32)), (.ref tw), (.int (1 : Int32)), (.ref tw)]) (fun t_ k_ => XS.iload X27.here hx rfl (hb hby d5_58) rfl k_) ?_
  obtain ⟨cl28, Ar28, -, q28a, q28b, q28c, q28d⟩ := id V_tw
  refine Go.st (pc' := 61) (S' := [(.double (FP.l2d (x + (own_e q (1 : Int32)) * vb))), (.int (1 : Int32)), (.ref tw)]) (fun t_ k_ => X27.daload hx (j := (2 : Int32)) (v := (.double (FP.l2d (x + (own_e q (1 : Int32)) * vb)))) (by rw [e27]; exact Ar28.1) (State.isArrayOf_alike hZ.alike Ar28.2.1) Ar28.2.2 (inb_of q28a ⟨by decide, by decide⟩) (q28c.at (inb_of q28a ⟨by decide, by decide⟩) rfl) (g := (mkF m 60 #[.val (.ref a1), .val (.int (4 : Int32)), .val (.double (FP.l2d x)), .second, .val (.int (1 : Int32)), .val (.int (2 : Int32))] [(.int (2 : Int32)), (.ref tw), (.int (1 : Int32)), (.ref tw)])) rfl rfl (hb hby d5_60) t_ k_) ?_
  refine Go.st (pc' := 62) (S' := [(.ref a1), (.double (FP.l2d (x + (own_e q (1 : Int32)) * vb))), (.int (1 : Int32)), (.ref tw)]) (fun t_ k_ => XS.aloadN X27.here hx rfl (hb hby d5_61) rfl rfl k_) ?_
  obtain ⟨T29, X29, e29, st29⟩ := getF X27 hx hZ hown (host := "") (Or.inl (wd hw 10 rfl)) Via.refl e27 F_discounts (g := (mkF m 62 #[.val (.ref a1), .val (.int (4 : Int32)), .val (.double (FP.l2d x)), .second, .val (.int (1 : Int32)), .val (.int (2 : Int32))] [(.ref a1), (.double (FP.l2d (x + (own_e q (1 : Int32)) * vb))), (.int (1 : Int32)), (.ref tw)])) rfl rfl (hb hby d5_62)
  refine Go.st (pc' := 65) (S' := [(.ref td), (.double (FP.l2d (x + (own_e q (1 : Int32)) * vb))), (.int (1 : Int32)), (.ref tw)]) st29 ?_
  refine Go.st (pc' := 66) (S' := [(.ref a1), (.ref td), (.double (FP.l2d (x + (own_e q (1 : Int32)) * vb))), (.int (1 : Int32)), (.ref tw)]) (fun t_ k_ => XS.aloadN X29.here hx rfl (hb hby d5_65) rfl rfl k_) ?_
  obtain ⟨T30, X30, e30, st30⟩ := getF X29 hx hZ hown (host := "") (Or.inl (wd hw 15 rfl)) Via.refl e29 F_count (g := (mkF m 66 #[.val (.ref a1), .val (.int (4 : Int32)), .val (.double (FP.l2d x)), .second, .val (.int (1 : Int32)), .val (.int (2 : Int32))] [(.ref a1), (.ref td), (.double (FP.l2d (x + (own_e q (1 : Int32)) * vb))), (.int (1 : Int32)), (.ref tw)])) rfl rfl (hb hby d5_66)
  refine Go.st (pc' := 69) (S' := [(.ref tc), (.ref td), (.double (FP.l2d (x + (own_e q (1 : Int32)) * vb))), (.int (1 : Int32)), (.ref tw)]) st30 ?_
  refine Go.st (pc' := 71) (S' := [(.int (2 : Int32)), (.ref tc), (.ref td), (.double (FP.l2d (x + (own_e q (1 : Int32)) * vb))), (.int (1 : Int32)), (.ref tw)]) (fun t_ k_ => XS.iload X30.here hx rfl (hb hby d5_69) rfl k_) ?_
  obtain ⟨cl31, Ar31, -, q31a, q31b, q31c, q31d⟩ := id V_tc
  refine Go.st (pc' := 72) (S' := [(.int ((1 : Int32) + bb)), (.ref td), (.double (FP.l2d (x + (own_e q (1 : Int32)) * vb))), (.int (1 : Int32)), (.ref tw)]) (fun t_ k_ => X30.iaload hx (j := (2 : Int32)) (v := (.int ((1 : Int32) + bb))) (by rw [e30]; exact Ar31.1) (State.isArrayOf_alike hZ.alike Ar31.2.1) Ar31.2.2 (inb_of q31a ⟨by decide, by decide⟩) (q31c.at (inb_of q31a ⟨by decide, by decide⟩) rfl) (g := (mkF m 71 #[.val (.ref a1), .val (.int (4 : Int32)), .val (.double (FP.l2d x)), .second, .val (.int (1 : Int32)), .val (.int (2 : Int32))] [(.int (2 : Int32)), (.ref tc), (.ref td), (.double (FP.l2d (x + (own_e q (1 : Int32)) * vb))), (.int (1 : Int32)), (.ref tw)])) rfl rfl (hb hby d5_71) t_ k_) ?_
  obtain ⟨cl32, Ar32, -, q32a, q32b, q32c, q32d⟩ := id V_td
  refine Go.st (pc' := 73) (S' := [(.double (FP.l2d (own_e q ((1 : Int32) + bb)))), (.double (FP.l2d (x + (own_e q (1 : Int32)) * vb))), (.int (1 : Int32)), (.ref tw)]) (fun t_ k_ => X30.daload hx (j := ((1 : Int32) + bb)) (v := (.double (FP.l2d (own_e q ((1 : Int32) + bb))))) (by rw [e30]; exact Ar32.1) (State.isArrayOf_alike hZ.alike Ar32.2.1) Ar32.2.2 (inb_of q32a (own_c5 (own_hs (Or.inr rfl) hbb))) (q32c.at (inb_of q32a (own_c5 (own_hs (Or.inr rfl) hbb))) (own_dat (own_hs (Or.inr rfl) hbb))) (g := (mkF m 72 #[.val (.ref a1), .val (.int (4 : Int32)), .val (.double (FP.l2d x)), .second, .val (.int (1 : Int32)), .val (.int (2 : Int32))] [(.int ((1 : Int32) + bb)), (.ref td), (.double (FP.l2d (x + (own_e q (1 : Int32)) * vb))), (.int (1 : Int32)), (.ref tw)])) rfl rfl (hb hby d5_72) t_ k_) ?_
  refine Go.st (pc' := 74) (S' := [(.ref a1), (.double (FP.l2d (own_e q ((1 : Int32) + bb)))), (.double (FP.l2d (x + (own_e q (1 : Int32)) * vb))), (.int (1 : Int32)), (.ref tw)]) (fun t_ k_ => XS.aloadN X30.here hx rfl (hb hby d5_73) rfl rfl k_) ?_
  obtain ⟨T33, X33, e33, st33⟩ := getF X30 hx hZ hown (host := "") (Or.inl (wd hw 17 rfl)) Via.refl e30 F_worth (g := (mkF m 74 #[.val (.ref a1), .val (.int (4 : Int32)), .val (.double (FP.l2d x)), .second, .val (.int (1 : Int32)), .val (.int (2 : Int32))] [(.ref a1), (.double (FP.l2d (own_e q ((1 : Int32) + bb)))), (.double (FP.l2d (x + (own_e q (1 : Int32)) * vb))), (.int (1 : Int32)), (.ref tw)])) rfl rfl (hb hby d5_74)
  refine Go.st (pc' := 77) (S' := [(.ref tw), (.double (FP.l2d (own_e q ((1 : Int32) + bb)))), (.double (FP.l2d (x + (own_e q (1 : Int32)) * vb))), (.int (1 : Int32)), (.ref tw)]) st33 ?_
  refine Go.st (pc' := 79) (S' := [(.int (2 : Int32)), (.ref tw), (.double (FP.l2d (own_e q ((1 : Int32) + bb)))), (.double (FP.l2d (x + (own_e q (1 : Int32)) * vb))), (.int (1 : Int32)), (.ref tw)]) (fun t_ k_ => XS.iload X33.here hx rfl (hb hby d5_77) rfl k_) ?_
  refine Go.st (pc' := 80) (S' := [(.int (1 : Int32)), (.int (2 : Int32)), (.ref tw), (.double (FP.l2d (own_e q ((1 : Int32) + bb)))), (.double (FP.l2d (x + (own_e q (1 : Int32)) * vb))), (.int (1 : Int32)), (.ref tw)]) (fun t_ k_ => XS.iconst X33.here hx rfl (hb hby d5_79) k_) ?_
  refine Go.st (pc' := 81) (S' := [(.int ((2 : Int32) + (1 : Int32))), (.ref tw), (.double (FP.l2d (own_e q ((1 : Int32) + bb)))), (.double (FP.l2d (x + (own_e q (1 : Int32)) * vb))), (.int (1 : Int32)), (.ref tw)]) (fun t_ k_ => XS.iadd X33.here hx rfl (hb hby d5_80) rfl k_) ?_
  rw [show ((2 : Int32) + (1 : Int32)) = (3 : Int32) from by decide]
  obtain ⟨cl34, Ar34, -, q34a, q34b, q34c, q34d⟩ := id V_tw
  refine Go.st (pc' := 82) (S' := [(.double (FP.l2d (vc + (own_e q bc) * vd))), (.double (FP.l2d (own_e q ((1 : Int32) + bb)))), (.double (FP.l2d (x + (own_e q (1 : Int32)) * vb))), (.int (1 : Int32)), (.ref tw)]) (fun t_ k_ => X33.daload hx (j := (3 : Int32)) (v := (.double (FP.l2d (vc + (own_e q bc) * vd)))) (by rw [e33]; exact Ar34.1) (State.isArrayOf_alike hZ.alike Ar34.2.1) Ar34.2.2 (inb_of q34a ⟨by decide, by decide⟩) (q34c.at (inb_of q34a ⟨by decide, by decide⟩) rfl) (g := (mkF m 81 #[.val (.ref a1), .val (.int (4 : Int32)), .val (.double (FP.l2d x)), .second, .val (.int (1 : Int32)), .val (.int (2 : Int32))] [(.int (3 : Int32)), (.ref tw), (.double (FP.l2d (own_e q ((1 : Int32) + bb)))), (.double (FP.l2d (x + (own_e q (1 : Int32)) * vb))), (.int (1 : Int32)), (.ref tw)])) rfl rfl (hb hby d5_81) t_ k_) ?_
  have fm35 := own_fma (a := (x + (own_e q (1 : Int32)) * vb)) (x := (own_e q ((1 : Int32) + bb))) (y := (vc + (own_e q bc) * vd)) (A := 551903297536) (X := 256) (Y := 1099511627776) fm18.2.2 (own_eb hq ((1 : Int32) + bb)) (own_nb hq bc hvc hvd) (by decide) (by decide) rfl (by decide)
  refine Go.st (pc' := 83) (S' := [(.double (FP.dmul (FP.l2d (own_e q ((1 : Int32) + bb))) (FP.l2d (vc + (own_e q bc) * vd)))), (.double (FP.l2d (x + (own_e q (1 : Int32)) * vb))), (.int (1 : Int32)), (.ref tw)]) (fun t_ k_ => XS.dmulS X33.here hx rfl (hb hby d5_82) rfl fm35.2.1 rfl k_) ?_
  refine Go.st (pc' := 84) (S' := [(.double (FP.l2d ((x + (own_e q (1 : Int32)) * vb) + (own_e q ((1 : Int32) + bb)) * (vc + (own_e q bc) * vd)))), (.int (1 : Int32)), (.ref tw)]) (fun t_ k_ => XS.daddS X33.here hx rfl (hb hby d5_83) rfl (nn_w fm35.1) fm35.1 k_) ?_
  obtain ⟨cl36, Ar36, q361, q362, q363, q364, q365⟩ := V_tw
  obtain ⟨T36, h36, X36, e36, W36, st36⟩ := stD X33 hx hZ e33 Ar36 (j := (1 : Int32)) (inb_of q362 ⟨by decide, by decide⟩) (g := (mkF m 84 #[.val (.ref a1), .val (.int (4 : Int32)), .val (.double (FP.l2d x)), .second, .val (.int (1 : Int32)), .val (.int (2 : Int32))] [(.double (FP.l2d ((x + (own_e q (1 : Int32)) * vb) + (own_e q ((1 : Int32) + bb)) * (vc + (own_e q bc) * vd)))), (.int (1 : Int32)), (.ref tw)])) rfl rfl (hb hby d5_84)
  replace V_tw := Arv.set Ar36 q361 q362 q363 q364 q365 rfl W36 1 rfl (Nat.le_of_ble_eq_true rfl)
  have V_tw : Arv Z h36 tw kw .double (8 : Int32) [(.double (0 : UInt64)), (.double (FP.l2d ((x + (own_e q (1 : Int32)) * vb) + (own_e q ((1 : Int32) + bb)) * (vc + (own_e q bc) * vd)))), (.double (FP.l2d (x + (own_e q (1 : Int32)) * vb))), (.double (FP.l2d (vc + (own_e q bc) * vd))), (.double (FP.l2d x)), (.double (FP.l2d vb)), (.double (FP.l2d vc)), (.double (FP.l2d vd))] (.double (0 : UInt64)) := V_tw
  replace Z0 := Nat.le_trans Z0 (Keep.of_wr W36).1
  replace K0 := K0.wr W36 (Or.inl (List.mem_of_getElem? (i := 1) rfl))
  replace E_a1 := E_a1.wr W36
  replace F_discounts := F_discounts.other W36 (Or.inl ne5.2.1)
  replace F_leaves := F_leaves.other W36 (Or.inl ne5.2.1)
  replace F_count := F_count.other W36 (Or.inl ne5.2.1)
  replace F_worth := F_worth.other W36 (Or.inl ne5.2.1)
  replace V_td := V_td.other W36 ne5.2.2.2.2
  replace V_tc := V_tc.other W36 ne5.2.2.1
  have N36 := Fr.snoc X36 N25 g_tw
  refine Go.st (pc' := 85) (S' := []) st36 ?_
  refine Go.st (pc' := 87) (S' := [(.int (1 : Int32))]) (fun t_ k_ => XS.iload X36.here hx rfl (hb hby d5_85) rfl k_) ?_
  refine Go.st (pc' := 88) (S' := [(.int (2 : Int32)), (.int (1 : Int32))]) (fun t_ k_ => XS.iconst X36.here hx rfl (hb hby d5_87) k_) ?_
  refine Go.st (pc' := 89) (S' := [(.int ((1 : Int32) / (2 : Int32)))]) (fun t_ k_ => XS.idiv X36.here hx rfl (hb hby d5_88) rfl (by decide) k_) ?_
  rw [show ((1 : Int32) / (2 : Int32)) = (0 : Int32) from by decide]
  refine Go.st (pc' := 91) (S' := []) (fun t_ k_ => XS.istore X36.here hx rfl (hb hby d5_89) rfl (l' := #[.val (.ref a1), .val (.int (4 : Int32)), .val (.double (FP.l2d x)), .second, .val (.int (0 : Int32)), .val (.int (2 : Int32))]) rfl k_) ?_
  refine Go.st (pc' := 12) (S' := []) (fun t_ k_ => XS.goto X36.here hx rfl (pc0 := 91) (pc' := 12) rfl (hb hby d5_91) (by decide) (by decide) k_) ?_
  refine Go.st (pc' := 14) (S' := [(.int (0 : Int32))]) (fun t_ k_ => XS.iload X36.here hx rfl (hb hby d5_12) rfl k_) ?_
  refine Go.st (pc' := 15) (S' := [(.int (1 : Int32)), (.int (0 : Int32))]) (fun t_ k_ => XS.iconst X36.here hx rfl (hb hby d5_14) k_) ?_
  refine Go.st (pc' := 94) (S' := []) (fun t_ k_ => XS.icmpYes X36.here hx rfl (pc0 := 15) (pc' := 94) rfl (hb hby d5_15) rfl (tlt (by decide : ((0 : Int32) < (1 : Int32)))).1 (by decide) (by decide) k_) ?_
  exact Go.retV X36 hx hlk hret (hb hby d5_94) (by decide) (by decide) (by rw [e36]; exact ⟨rfl, N36, K0, V_tc, V_tw⟩)
theorem d4_0 : decode prog_20_method_3_code 0 = .ok (.aload_n 0, 1) := by decide +kernel
theorem d4_1 : decode prog_20_method_3_code 1 = .ok (.getfield 13, 3) := by decide +kernel
theorem d4_4 : decode prog_20_method_3_code 4 = .ok (.iload_n 1, 1) := by decide +kernel
theorem d4_5 : decode prog_20_method_3_code 5 = .ok (.iadd, 1) := by decide +kernel
theorem d4_6 : decode prog_20_method_3_code 6 = .ok (.istore 4, 2) := by decide +kernel
theorem d4_8 : decode prog_20_method_3_code 8 = .ok (.aload_n 0, 1) := by decide +kernel
theorem d4_9 : decode prog_20_method_3_code 9 = .ok (.getfield 17, 3) := by decide +kernel
theorem d4_12 : decode prog_20_method_3_code 12 = .ok (.iload 4, 2) := by decide +kernel
theorem d4_14 : decode prog_20_method_3_code 14 = .ok (.iaload, 1) := by decide +kernel
theorem d4_15 : decode prog_20_method_3_code 15 = .ok (.ifCond .eq 17, 3) := by decide +kernel
theorem d4_32 : decode prog_20_method_3_code 32 = .ok (.aload_n 0, 1) := by decide +kernel
theorem d4_33 : decode prog_20_method_3_code 33 = .ok (.getfield 17, 3) := by decide +kernel
theorem d4_36 : decode prog_20_method_3_code 36 = .ok (.iload 4, 2) := by decide +kernel
theorem d4_38 : decode prog_20_method_3_code 38 = .ok (.iconst 1, 1) := by decide +kernel
theorem d4_39 : decode prog_20_method_3_code 39 = .ok (.iastore, 1) := by decide +kernel
theorem d4_40 : decode prog_20_method_3_code 40 = .ok (.aload_n 0, 1) := by decide +kernel
theorem d4_41 : decode prog_20_method_3_code 41 = .ok (.iload 4, 2) := by decide +kernel
theorem d4_43 : decode prog_20_method_3_code 43 = .ok (.dload_n 2, 1) := by decide +kernel
theorem d4_44 : decode prog_20_method_3_code 44 = .ok (.invokevirtual 42, 3) := by decide +kernel
theorem d4_47 : decode prog_20_method_3_code 47 = .ok (.return_, 1) := by decide +kernel
theorem pd_0 : parseMethodDescriptor "(ID)V" = some ⟨[.int, .double], none⟩ := by decide +kernel
def Qadd0 (Z : State) (tc tw : Addr) (kc kw : ClassId) (q x va vb vc vd : Int64) (bb bc bd : Int32) (h0 : Heap) (n0 : Nat) (v : Option Value) (h : Heap) (L : List Loc) : Prop := v = none ∧ Fr n0 L ∧ Keep h0 h [tc, tw] ∧ Arv Z h tc kc .int (8 : Int32) [(.int (0 : Int32)), (.int (((1 : Int32) + bb) + (bc + bd))), (.int ((1 : Int32) + bb)), (.int (bc + bd)), (.int (1 : Int32)), (.int bb), (.int bc), (.int bd)] (.int (0 : Int32)) ∧ Arv Z h tw kw .double (8 : Int32) [(.double (0 : UInt64)), (.double (FP.l2d ((x + (own_e q (1 : Int32)) * vb) + (own_e q ((1 : Int32) + bb)) * (vc + (own_e q bc) * vd)))), (.double (FP.l2d (x + (own_e q (1 : Int32)) * vb))), (.double (FP.l2d (vc + (own_e q bc) * vd))), (.double (FP.l2d x)), (.double (FP.l2d vb)), (.double (FP.l2d vc)), (.double (FP.l2d vd))] (.double (0 : UInt64))
def roomadd0 : Room := { frames := 1, cells := 0, slots := 0, locals := 17 }
theorem rmadd0 (l : Launch) (Z : State) (a0 : Array Value) (hw : ∀ d ∈ tables_1, d.before a0 Z = true) (ws : List Jvm.Cond) (a1 td tc tw : Addr) (kd kc kw : ClassId) (q x va vb vc vd : Int64) (bb bc bd : Int32) (h0 : Heap) (n0 : Nat) (Z0 : n0 ≤ h0.size) (E_a1 : Exa Z h0 a1 "com/example/placewright/placewright/GrowingRanks") (F_discounts : Fld Z h0 a1 "com/example/placewright/placewright/GrowingRanks" "discounts" "[D" (.ref td)) (F_leaves : Fld Z h0 a1 "com/example/placewright/placewright/GrowingRanks" "leaves" "I" (.int (4 : Int32))) (F_count : Fld Z h0 a1 "com/example/placewright/placewright/GrowingRanks" "count" "[I" (.ref tc)) (F_worth : Fld Z h0 a1 "com/example/placewright/placewright/GrowingRanks" "worth" "[D" (.ref tw)) (V_td : Arv Z h0 td kd .double (5 : Int32) [(.double (FP.l2d 1)), (.double (FP.l2d q)), (.double (FP.l2d (q * q))), (.double (FP.l2d ((q * q) * q))), (.double (FP.l2d (((q * q) * q) * q)))] (.double (0 : UInt64))) (V_tc : Arv Z h0 tc kc .int (8 : Int32) [(.int (0 : Int32)), (.int (((0 : Int32) + bb) + (bc + bd))), (.int ((0 : Int32) + bb)), (.int (bc + bd)), (.int (0 : Int32)), (.int bb), (.int bc), (.int bd)] (.int (0 : Int32))) (V_tw : Arv Z h0 tw kw .double (8 : Int32) [(.double (0 : UInt64)), (.double (FP.l2d ((va + (own_e q (0 : Int32)) * vb) + (own_e q ((0 : Int32) + bb)) * (vc + (own_e q bc) * vd)))), (.double (FP.l2d (va + (own_e q (0 : Int32)) * vb))), (.double (FP.l2d (vc + (own_e q bc) * vd))), (.double (FP.l2d va)), (.double (FP.l2d vb)), (.double (FP.l2d vc)), (.double (FP.l2d vd))] (.double (0 : UInt64))) (ne5 : a1 ≠ tc ∧ a1 ≠ tw ∧ tc ≠ tw ∧ td ≠ tc ∧ td ≠ tw) (g_tc : n0 ≤ tc) (g_tw : n0 ≤ tw) (hq : own_b 4 q) (hxb : own_b 2147483648 x) (hva : own_b 2147483648 va) (hvb : own_b 2147483648 vb) (hvc : own_b 2147483648 vc) (hvd : own_b 2147483648 vd) (hbb : bb = 0 ∨ bb = 1) (hbc : bc = 0 ∨ bc = 1) (hbd : bd = 0 ∨ bd = 1) :
    MetFree l (⟨"com/example/placewright/placewright/GrowingRanks", "add", "(ID)V"⟩ : MethodName) (head1 (Jvm.Cond.code (⟨"com/example/placewright/placewright/GrowingRanks", "add", "(ID)V"⟩ : MethodName) prog_20_method_3_code 5 none :: ws) roomadd0) (fun aa_ U_ => aa_ = #[(.ref a1), (.int (0 : Int32)), (.double (FP.l2d x))] ∧ Z.Warmed39 U_.vm ∧ U_.heap = h0) (fun _ _ _ _ _ => True) (fun _ U_ o_ W_ => ∃ v_ L_, o_ = .returned v_ ∧ (Qadd0 Z tc tw kc kw q x va vb vc vd bb bc bd h0 n0) v_ W_.heap L_ ∧ FrameEnd U_ o_ W_ L_ roomadd0.cells roomadd0.slots) := by
  refine own_met (Q := (Qadd0 Z tc tw kc kw q x va vb vc vd bb bc bd h0 n0)) (L0 := #[.val (.ref a1), .val (.int (0 : Int32)), .val (.double (FP.l2d x)), .second, .unset]) (plainFor_of_name pn_0) (fun m => by first | (simp [entryFrame, mkF, argsToLocals, Value.category]; done) | rfl) ?_
  intro p e s m below meth c T0 X0 hx hby hml hown hnm hret hlk hZ e0
  have N0 := Fr.nil n0
  have K0 := Keep.refl h0 [tc, tw]
  refine Go.st (pc' := 1) (S' := [(.ref a1)]) (fun t_ k_ => XS.aloadN X0.here hx rfl (hb hby d4_0) rfl rfl k_) ?_
  obtain ⟨T1, X1, e1, st1⟩ := getF X0 hx hZ hown (host := "") (Or.inl (wd hw 12 rfl)) Via.refl e0 F_leaves (g := (mkF m 1 #[.val (.ref a1), .val (.int (0 : Int32)), .val (.double (FP.l2d x)), .second, .unset] [(.ref a1)])) rfl rfl (hb hby d4_1)
  refine Go.st (pc' := 4) (S' := [(.int (4 : Int32))]) st1 ?_
  refine Go.st (pc' := 5) (S' := [(.int (0 : Int32)), (.int (4 : Int32))]) (fun t_ k_ => XS.iloadN X1.here hx rfl (hb hby d4_4) rfl k_) ?_
  refine Go.st (pc' := 6) (S' := [(.int ((4 : Int32) + (0 : Int32)))]) (fun t_ k_ => XS.iadd X1.here hx rfl (hb hby d4_5) rfl k_) ?_
  rw [show ((4 : Int32) + (0 : Int32)) = (4 : Int32) from by decide]
  refine Go.st (pc' := 8) (S' := []) (fun t_ k_ => XS.istore X1.here hx rfl (hb hby d4_6) rfl (l' := #[.val (.ref a1), .val (.int (0 : Int32)), .val (.double (FP.l2d x)), .second, .val (.int (4 : Int32))]) rfl k_) ?_
  refine Go.st (pc' := 9) (S' := [(.ref a1)]) (fun t_ k_ => XS.aloadN X1.here hx rfl (hb hby d4_8) rfl rfl k_) ?_
  obtain ⟨T2, X2, e2, st2⟩ := getF X1 hx hZ hown (host := "") (Or.inl (wd hw 15 rfl)) Via.refl e1 F_count (g := (mkF m 9 #[.val (.ref a1), .val (.int (0 : Int32)), .val (.double (FP.l2d x)), .second, .val (.int (4 : Int32))] [(.ref a1)])) rfl rfl (hb hby d4_9)
  refine Go.st (pc' := 12) (S' := [(.ref tc)]) st2 ?_
  refine Go.st (pc' := 14) (S' := [(.int (4 : Int32)), (.ref tc)]) (fun t_ k_ => XS.iload X2.here hx rfl (hb hby d4_12) rfl k_) ?_
  obtain ⟨cl3, Ar3, -, q3a, q3b, q3c, q3d⟩ := id V_tc
  refine Go.st (pc' := 15) (S' := [(.int (0 : Int32))]) (fun t_ k_ => X2.iaload hx (j := (4 : Int32)) (v := (.int (0 : Int32))) (by rw [e2]; exact Ar3.1) (State.isArrayOf_alike hZ.alike Ar3.2.1) Ar3.2.2 (inb_of q3a ⟨by decide, by decide⟩) (q3c.at (inb_of q3a ⟨by decide, by decide⟩) rfl) (g := (mkF m 14 #[.val (.ref a1), .val (.int (0 : Int32)), .val (.double (FP.l2d x)), .second, .val (.int (4 : Int32))] [(.int (4 : Int32)), (.ref tc)])) rfl rfl (hb hby d4_14) t_ k_) ?_
  refine Go.st (pc' := 32) (S' := []) (fun t_ k_ => XS.ifYes X2.here hx rfl (pc0 := 15) (pc' := 32) rfl (hb hby d4_15) rfl ((if0 _ _).trans (teq (by decide : ((0 : Int32) = (0 : Int32)))).1) (by decide) (by decide) k_) ?_
  refine Go.st (pc' := 33) (S' := [(.ref a1)]) (fun t_ k_ => XS.aloadN X2.here hx rfl (hb hby d4_32) rfl rfl k_) ?_
  obtain ⟨T4, X4, e4, st4⟩ := getF X2 hx hZ hown (host := "") (Or.inl (wd hw 15 rfl)) Via.refl e2 F_count (g := (mkF m 33 #[.val (.ref a1), .val (.int (0 : Int32)), .val (.double (FP.l2d x)), .second, .val (.int (4 : Int32))] [(.ref a1)])) rfl rfl (hb hby d4_33)
  refine Go.st (pc' := 36) (S' := [(.ref tc)]) st4 ?_
  refine Go.st (pc' := 38) (S' := [(.int (4 : Int32)), (.ref tc)]) (fun t_ k_ => XS.iload X4.here hx rfl (hb hby d4_36) rfl k_) ?_
  refine Go.st (pc' := 39) (S' := [(.int (1 : Int32)), (.int (4 : Int32)), (.ref tc)]) (fun t_ k_ => XS.iconst X4.here hx rfl (hb hby d4_38) k_) ?_
  obtain ⟨cl5, Ar5, q51, q52, q53, q54, q55⟩ := V_tc
  obtain ⟨T5, h5, X5, e5, W5, st5⟩ := stI X4 hx hZ e4 Ar5 (j := (4 : Int32)) (inb_of q52 ⟨by decide, by decide⟩) (g := (mkF m 39 #[.val (.ref a1), .val (.int (0 : Int32)), .val (.double (FP.l2d x)), .second, .val (.int (4 : Int32))] [(.int (1 : Int32)), (.int (4 : Int32)), (.ref tc)])) rfl rfl (hb hby d4_39)
  replace V_tc := Arv.set Ar5 q51 q52 q53 q54 q55 rfl W5 4 rfl (Nat.le_of_ble_eq_true rfl)
  have V_tc : Arv Z h5 tc kc .int (8 : Int32) [(.int (0 : Int32)), (.int (((0 : Int32) + bb) + (bc + bd))), (.int ((0 : Int32) + bb)), (.int (bc + bd)), (.int (1 : Int32)), (.int bb), (.int bc), (.int bd)] (.int (0 : Int32)) := V_tc
  replace Z0 := Nat.le_trans Z0 (Keep.of_wr W5).1
  replace K0 := K0.wr W5 (Or.inl (List.mem_of_getElem? (i := 0) rfl))
  replace E_a1 := E_a1.wr W5
  replace F_discounts := F_discounts.other W5 (Or.inl ne5.1)
  replace F_leaves := F_leaves.other W5 (Or.inl ne5.1)
  replace F_count := F_count.other W5 (Or.inl ne5.1)
  replace F_worth := F_worth.other W5 (Or.inl ne5.1)
  replace V_td := V_td.other W5 ne5.2.2.2.1
  replace V_tw := V_tw.other W5 (Ne.symm ne5.2.2.1)
  have N5 := Fr.snoc X5 N0 g_tc
  refine Go.st (pc' := 40) (S' := []) st5 ?_
  refine Go.st (pc' := 41) (S' := [(.ref a1)]) (fun t_ k_ => XS.aloadN X5.here hx rfl (hb hby d4_40) rfl rfl k_) ?_
  refine Go.st (pc' := 43) (S' := [(.int (4 : Int32)), (.ref a1)]) (fun t_ k_ => XS.iload X5.here hx rfl (hb hby d4_41) rfl k_) ?_
  refine Go.st (pc' := 44) (S' := [(.double (FP.l2d x)), (.int (4 : Int32)), (.ref a1)]) (fun t_ k_ => XS.dloadN X5.here hx rfl (hb hby d4_43) rfl k_) ?_
  obtain ⟨cq6, q6, q6'⟩ := E_a1.cell
  obtain ⟨_, _, ⟨T6, L6, k6, n6⟩, -, X6, ⟨Lc6, hQ6, l6, y6, z6⟩, st6⟩ := X5.privateBack hx (y := (⟨"com/example/placewright/placewright/GrowingRanks", "set", "(ID)V"⟩ : MethodName)) hown (mvT hZ (wd hw 31 rfl)) (mvT hZ (wd hw 32 rfl)) (own_selQ (Cond.privateMethod_at (mvP hZ (wd hw 33 rfl) (args := #[]))) (mvT hZ (wd hw 32 rfl)) (by decide) (mvT hZ (wd hw 22 rfl)) rfl) (Cond.privateMethod_at (mvP hZ (wd hw 33 rfl) (args := #[]))) (mvT hZ (wd hw 34 rfl)) (by decide) (backOf (W := 0) (rmset0 l Z a0 hw [] a1 td tc tw _ _ _ q x va vb vc vd bb bc bd _ _ _ _ _ h5 n0 Z0 E_a1 F_discounts F_leaves F_count F_worth V_td V_tc V_tw ⟨ne5.1, ne5.2.1, ne5.2.2.1, ne5.2.2.2.1, ne5.2.2.2.2⟩ g_tc g_tw hq hxb hva hvb hvc hvd hbb hbc hbd) hZ (wd hw 34 rfl) (wd hw 3 rfl) (by decide) (by decide)) (g := (mkF m 44 #[.val (.ref a1), .val (.int (0 : Int32)), .val (.double (FP.l2d x)), .second, .val (.int (4 : Int32))] [(.double (FP.l2d x)), (.int (4 : Int32)), (.ref a1)])) rfl (by rw [hml]; rfl) (Steps.refl _) (a := a1) (by rw [e5]; exact q6) q6' (argsL := [(.int (4 : Int32)), (.double (FP.l2d x))]) (rest := []) (lenOf pd_0 rfl) rfl (by show 2 * 0 + _ ≤ _; exact Nat.le_of_eq rfl) (hb hby d4_44) (fun _ _ => ⟨rfl, e5, (by decide : 0 + 0 ≤ _), (by decide : 0 + 0 ≤ _)⟩)
  dsimp only [Pt.U, Pt.locs, Pt.cells, Pt.slots] at X6 l6 y6 z6 st6 hQ6
  subst l6 y6 z6
  obtain ⟨rfl, N6q, K6, Vc6, Vw6⟩ := hQ6
  have N6 := Fr.app N5 N6q
  obtain ⟨h6, e6⟩ : ∃ z, T6.heap = z := ⟨_, rfl⟩
  rw [e6] at K6 Vc6 Vw6
  replace Z0 := Nat.le_trans Z0 K6.1
  replace K0 := K0.trans K6 (allS (Or.inl (List.mem_of_getElem? (i := 0) rfl)) (allS (Or.inl (List.mem_of_getElem? (i := 1) rfl)) all0))
  replace E_a1 := E_a1.keep K6
  replace F_discounts := F_discounts.keep K6 (ninS ne5.1 (ninS ne5.2.1 nin0))
  replace F_leaves := F_leaves.keep K6 (ninS ne5.1 (ninS ne5.2.1 nin0))
  replace F_count := F_count.keep K6 (ninS ne5.1 (ninS ne5.2.1 nin0))
  replace F_worth := F_worth.keep K6 (ninS ne5.1 (ninS ne5.2.1 nin0))
  replace V_td := V_td.keep K6 (ninS ne5.2.2.2.1 (ninS ne5.2.2.2.2 nin0))
  refine Go.tr (pc' := 47) (S' := []) st6 ?_
  exact Go.retV X6 hx hlk hret (hb hby d4_47) (by decide) (by decide) (by rw [e6]; exact ⟨rfl, N6, K0, Vc6, Vw6⟩)

def Qset1 (Z : State) (tc tw : Addr) (kc kw : ClassId) (q x va vb vc vd : Int64) (ba bc bd : Int32) (h0 : Heap) (n0 : Nat) (v : Option Value) (h : Heap) (L : List Loc) : Prop := v = none ∧ Fr n0 L ∧ Keep h0 h [tc, tw] ∧ Arv Z h tc kc .int (8 : Int32) [(.int (0 : Int32)), (.int ((ba + (1 : Int32)) + (bc + bd))), (.int (ba + (1 : Int32))), (.int (bc + bd)), (.int ba), (.int (1 : Int32)), (.int bc), (.int bd)] (.int (0 : Int32)) ∧ Arv Z h tw kw .double (8 : Int32) [(.double (0 : UInt64)), (.double (FP.l2d ((va + (own_e q ba) * x) + (own_e q (ba + (1 : Int32))) * (vc + (own_e q bc) * vd)))), (.double (FP.l2d (va + (own_e q ba) * x))), (.double (FP.l2d (vc + (own_e q bc) * vd))), (.double (FP.l2d va)), (.double (FP.l2d x)), (.double (FP.l2d vc)), (.double (FP.l2d vd))] (.double (0 : UInt64))
def roomset1 : Room := { frames := 0, cells := 0, slots := 0, locals := 0 }
theorem rmset1 (l : Launch) (Z : State) (a0 : Array Value) (hw : ∀ d ∈ tables_1, d.before a0 Z = true) (ws : List Jvm.Cond) (a1 td tc tw : Addr) (kd kc kw : ClassId) (q x va vb vc vd : Int64) (ba bc bd : Int32) (o1 o2 : Int32) (r1 r2 r3 : UInt64) (h0 : Heap) (n0 : Nat) (Z0 : n0 ≤ h0.size) (E_a1 : Exa Z h0 a1 "com/example/placewright/placewright/GrowingRanks") (F_discounts : Fld Z h0 a1 "com/example/placewright/placewright/GrowingRanks" "discounts" "[D" (.ref td)) (F_leaves : Fld Z h0 a1 "com/example/placewright/placewright/GrowingRanks" "leaves" "I" (.int (4 : Int32))) (F_count : Fld Z h0 a1 "com/example/placewright/placewright/GrowingRanks" "count" "[I" (.ref tc)) (F_worth : Fld Z h0 a1 "com/example/placewright/placewright/GrowingRanks" "worth" "[D" (.ref tw)) (V_td : Arv Z h0 td kd .double (5 : Int32) [(.double (FP.l2d 1)), (.double (FP.l2d q)), (.double (FP.l2d (q * q))), (.double (FP.l2d ((q * q) * q))), (.double (FP.l2d (((q * q) * q) * q)))] (.double (0 : UInt64))) (V_tc : Arv Z h0 tc kc .int (8 : Int32) [(.int (0 : Int32)), (.int o1), (.int o2), (.int (bc + bd)), (.int ba), (.int (1 : Int32)), (.int bc), (.int bd)] (.int (0 : Int32))) (V_tw : Arv Z h0 tw kw .double (8 : Int32) [(.double (0 : UInt64)), (.double r1), (.double r2), (.double (FP.l2d (vc + (own_e q bc) * vd))), (.double (FP.l2d va)), (.double r3), (.double (FP.l2d vc)), (.double (FP.l2d vd))] (.double (0 : UInt64))) (ne5 : a1 ≠ tc ∧ a1 ≠ tw ∧ tc ≠ tw ∧ td ≠ tc ∧ td ≠ tw) (g_tc : n0 ≤ tc) (g_tw : n0 ≤ tw) (hq : own_b 4 q) (hxb : own_b 2147483648 x) (hva : own_b 2147483648 va) (hvb : own_b 2147483648 vb) (hvc : own_b 2147483648 vc) (hvd : own_b 2147483648 vd) (hba : ba = 0 ∨ ba = 1) (hbc : bc = 0 ∨ bc = 1) (hbd : bd = 0 ∨ bd = 1) :
    MetFree l (⟨"com/example/placewright/placewright/GrowingRanks", "set", "(ID)V"⟩ : MethodName) (head1 (Jvm.Cond.code (⟨"com/example/placewright/placewright/GrowingRanks", "set", "(ID)V"⟩ : MethodName) prog_20_method_5_code 6 none :: ws) roomset1) (fun aa_ U_ => aa_ = #[(.ref a1), (.int (5 : Int32)), (.double (FP.l2d x))] ∧ Z.Warmed39 U_.vm ∧ U_.heap = h0) (fun _ _ _ _ _ => True) (fun _ U_ o_ W_ => ∃ v_ L_, o_ = .returned v_ ∧ (Qset1 Z tc tw kc kw q x va vb vc vd ba bc bd h0 n0) v_ W_.heap L_ ∧ FrameEnd U_ o_ W_ L_ roomset1.cells roomset1.slots) := by
  refine own_met (Q := (Qset1 Z tc tw kc kw q x va vb vc vd ba bc bd h0 n0)) (L0 := #[.val (.ref a1), .val (.int (5 : Int32)), .val (.double (FP.l2d x)), .second, .unset, .unset]) (plainFor_of_name pn_0) (fun m => by first | (simp [entryFrame, mkF, argsToLocals, Value.category]; done) | rfl) ?_
  intro p e s m below meth c T0 X0 hx hby hml hown hnm hret hlk hZ e0
  have N0 := Fr.nil n0
  have K0 := Keep.refl h0 [tc, tw]
  refine Go.st (pc' := 1) (S' := [(.ref a1)]) (fun t_ k_ => XS.aloadN X0.here hx rfl (hb hby d5_0) rfl rfl k_) ?_
  obtain ⟨T1, X1, e1, st1⟩ := getF X0 hx hZ hown (host := "") (Or.inl (wd hw 17 rfl)) Via.refl e0 F_worth (g := (mkF m 1 #[.val (.ref a1), .val (.int (5 : Int32)), .val (.double (FP.l2d x)), .second, .unset, .unset] [(.ref a1)])) rfl rfl (hb hby d5_1)
  refine Go.st (pc' := 4) (S' := [(.ref tw)]) st1 ?_
  refine Go.st (pc' := 5) (S' := [(.int (5 : Int32)), (.ref tw)]) (fun t_ k_ => XS.iloadN X1.here hx rfl (hb hby d5_4) rfl k_) ?_
  refine Go.st (pc' := 6) (S' := [(.double (FP.l2d x)), (.int (5 : Int32)), (.ref tw)]) (fun t_ k_ => XS.dloadN X1.here hx rfl (hb hby d5_5) rfl k_) ?_
  obtain ⟨cl2, Ar2, q21, q22, q23, q24, q25⟩ := V_tw
  obtain ⟨T2, h2, X2, e2, W2, st2⟩ := stD X1 hx hZ e1 Ar2 (j := (5 : Int32)) (inb_of q22 ⟨by decide, by decide⟩) (g := (mkF m 6 #[.val (.ref a1), .val (.int (5 : Int32)), .val (.double (FP.l2d x)), .second, .unset, .unset] [(.double (FP.l2d x)), (.int (5 : Int32)), (.ref tw)])) rfl rfl (hb hby d5_6)
  replace V_tw := Arv.set Ar2 q21 q22 q23 q24 q25 rfl W2 5 rfl (Nat.le_of_ble_eq_true rfl)
  have V_tw : Arv Z h2 tw kw .double (8 : Int32) [(.double (0 : UInt64)), (.double r1), (.double r2), (.double (FP.l2d (vc + (own_e q bc) * vd))), (.double (FP.l2d va)), (.double (FP.l2d x)), (.double (FP.l2d vc)), (.double (FP.l2d vd))] (.double (0 : UInt64)) := V_tw
  replace Z0 := Nat.le_trans Z0 (Keep.of_wr W2).1
  replace K0 := K0.wr W2 (Or.inl (List.mem_of_getElem? (i := 1) rfl))
  replace E_a1 := E_a1.wr W2
  replace F_discounts := F_discounts.other W2 (Or.inl ne5.2.1)
  replace F_leaves := F_leaves.other W2 (Or.inl ne5.2.1)
  replace F_count := F_count.other W2 (Or.inl ne5.2.1)
  replace F_worth := F_worth.other W2 (Or.inl ne5.2.1)
  replace V_td := V_td.other W2 ne5.2.2.2.2
  replace V_tc := V_tc.other W2 ne5.2.2.1
  have N2 := Fr.snoc X2 N0 g_tw
  refine Go.st (pc' := 7) (S' := []) st2 ?_
  refine Go.st (pc' := 8) (S' := [(.int (5 : Int32))]) (fun t_ k_ => XS.iloadN X2.here hx rfl (hb hby d5_7) rfl k_) ?_
  refine Go.st (pc' := 9) (S' := [(.int (2 : Int32)), (.int (5 : Int32))]) (fun t_ k_ => XS.iconst X2.here hx rfl (hb hby d5_8) k_) ?_
  refine Go.st (pc' := 10) (S' := [(.int ((5 : Int32) / (2 : Int32)))]) (fun t_ k_ => XS.idiv X2.here hx rfl (hb hby d5_9) rfl (by decide) k_) ?_
  rw [show ((5 : Int32) / (2 : Int32)) = (2 : Int32) from by decide]
  refine Go.st (pc' := 12) (S' := []) (fun t_ k_ => XS.istore X2.here hx rfl (hb hby d5_10) rfl (l' := #[.val (.ref a1), .val (.int (5 : Int32)), .val (.double (FP.l2d x)), .second, .val (.int (2 : Int32)), .unset]) rfl k_) ?_
  refine Go.st (pc' := 14) (S' := [(.int (2 : Int32))]) (fun t_ k_ => XS.iload X2.here hx rfl (hb hby d5_12) rfl k_) ?_
  refine Go.st (pc' := 15) (S' := [(.int (1 : Int32)), (.int (2 : Int32))]) (fun t_ k_ => XS.iconst X2.here hx rfl (hb hby d5_14) k_) ?_
  refine Go.st (pc' := 18) (S' := []) (fun t_ k_ => XS.icmpNo X2.here hx rfl (hb hby d5_15) rfl (flt (by decide : ¬ ((2 : Int32) < (1 : Int32)))).1 k_) ?_
  refine Go.st (pc' := 19) (S' := [(.int (2 : Int32))]) (fun t_ k_ => XS.iconst X2.here hx rfl (hb hby d5_18) k_) ?_
  refine Go.st (pc' := 21) (S' := [(.int (2 : Int32)), (.int (2 : Int32))]) (fun t_ k_ => XS.iload X2.here hx rfl (hb hby d5_19) rfl k_) ?_
  refine Go.st (pc' := 22) (S' := [(.int ((2 : Int32) * (2 : Int32)))]) (fun t_ k_ => XS.imul X2.here hx rfl (hb hby d5_21) rfl k_) ?_
  rw [show ((2 : Int32) * (2 : Int32)) = (4 : Int32) from by decide]
  refine Go.st (pc' := 24) (S' := []) (fun t_ k_ => XS.istore X2.here hx rfl (hb hby d5_22) rfl (l' := #[.val (.ref a1), .val (.int (5 : Int32)), .val (.double (FP.l2d x)), .second, .val (.int (2 : Int32)), .val (.int (4 : Int32))]) rfl k_) ?_
  refine Go.st (pc' := 25) (S' := [(.ref a1)]) (fun t_ k_ => XS.aloadN X2.here hx rfl (hb hby d5_24) rfl rfl k_) ?_
  obtain ⟨T3, X3, e3, st3⟩ := getF X2 hx hZ hown (host := "") (Or.inl (wd hw 15 rfl)) Via.refl e2 F_count (g := (mkF m 25 #[.val (.ref a1), .val (.int (5 : Int32)), .val (.double (FP.l2d x)), .second, .val (.int (2 : Int32)), .val (.int (4 : Int32))] [(.ref a1)])) rfl rfl (hb hby d5_25)
  refine Go.st (pc' := 28) (S' := [(.ref tc)]) st3 ?_
  refine Go.st (pc' := 30) (S' := [(.int (2 : Int32)), (.ref tc)]) (fun t_ k_ => XS.iload X3.here hx rfl (hb hby d5_28) rfl k_) ?_
  refine Go.st (pc' := 31) (S' := [(.ref a1), (.int (2 : Int32)), (.ref tc)]) (fun t_ k_ => XS.aloadN X3.here hx rfl (hb hby d5_30) rfl rfl k_) ?_
  obtain ⟨T4, X4, e4, st4⟩ := getF X3 hx hZ hown (host := "") (Or.inl (wd hw 15 rfl)) Via.refl e3 F_count (g := (mkF m 31 #[.val (.ref a1), .val (.int (5 : Int32)), .val (.double (FP.l2d x)), .second, .val (.int (2 : Int32)), .val (.int (4 : Int32))] [(.ref a1), (.int (2 : Int32)), (.ref tc)])) rfl rfl (hb hby d5_31)
  refine Go.st (pc' := 34) (S' := [(.ref tc), (.int (2 : Int32)), (.ref tc)]) st4 ?_
  refine Go.st (pc' := 36) (S' := [(.int (4 : Int32)), (.ref tc), (.int (2 : Int32)), (.ref tc)]) (fun t_ k_ => XS.iload X4.here hx rfl (hb hby d5_34) rfl k_) ?_
  obtain ⟨cl5, Ar5, -, q5a, q5b, q5c, q5d⟩ := id V_tc
  refine Go.st (pc' := 37) (S' := [(.int ba), (.int (2 : Int32)), (.ref tc)]) (fun t_ k_ => X4.iaload hx (j := (4 : Int32)) (v := (.int ba)) (by rw [e4]; exact Ar5.1) (State.isArrayOf_alike hZ.alike Ar5.2.1) Ar5.2.2 (inb_of q5a ⟨by decide, by decide⟩) (q5c.at (inb_of q5a ⟨by decide, by decide⟩) rfl) (g := (mkF m 36 #[.val (.ref a1), .val (.int (5 : Int32)), .val (.double (FP.l2d x)), .second, .val (.int (2 : Int32)), .val (.int (4 : Int32))] [(.int (4 : Int32)), (.ref tc), (.int (2 : Int32)), (.ref tc)])) rfl rfl (hb hby d5_36) t_ k_) ?_
  refine Go.st (pc' := 38) (S' := [(.ref a1), (.int ba), (.int (2 : Int32)), (.ref tc)]) (fun t_ k_ => XS.aloadN X4.here hx rfl (hb hby d5_37) rfl rfl k_) ?_
  obtain ⟨T6, X6, e6, st6⟩ := getF X4 hx hZ hown (host := "") (Or.inl (wd hw 15 rfl)) Via.refl e4 F_count (g := (mkF m 38 #[.val (.ref a1), .val (.int (5 : Int32)), .val (.double (FP.l2d x)), .second, .val (.int (2 : Int32)), .val (.int (4 : Int32))] [(.ref a1), (.int ba), (.int (2 : Int32)), (.ref tc)])) rfl rfl (hb hby d5_38)
  refine Go.st (pc' := 41) (S' := [(.ref tc), (.int ba), (.int (2 : Int32)), (.ref tc)]) st6 ?_
  refine Go.st (pc' := 43) (S' := [(.int (4 : Int32)), (.ref tc), (.int ba), (.int (2 : Int32)), (.ref tc)]) (fun t_ k_ => XS.iload X6.here hx rfl (hb hby d5_41) rfl k_) ?_
  refine Go.st (pc' := 44) (S' := [(.int (1 : Int32)), (.int (4 : Int32)), (.ref tc), (.int ba), (.int (2 : Int32)), (.ref tc)]) (fun t_ k_ => XS.iconst X6.here hx rfl (hb hby d5_43) k_) ?_
  refine Go.st (pc' := 45) (S' := [(.int ((4 : Int32) + (1 : Int32))), (.ref tc), (.int ba), (.int (2 : Int32)), (.ref tc)]) (fun t_ k_ => XS.iadd X6.here hx rfl (hb hby d5_44) rfl k_) ?_
  rw [show ((4 : Int32) + (1 : Int32)) = (5 : Int32) from by decide]
  obtain ⟨cl7, Ar7, -, q7a, q7b, q7c, q7d⟩ := id V_tc
  refine Go.st (pc' := 46) (S' := [(.int (1 : Int32)), (.int ba), (.int (2 : Int32)), (.ref tc)]) (fun t_ k_ => X6.iaload hx (j := (5 : Int32)) (v := (.int (1 : Int32))) (by rw [e6]; exact Ar7.1) (State.isArrayOf_alike hZ.alike Ar7.2.1) Ar7.2.2 (inb_of q7a ⟨by decide, by decide⟩) (q7c.at (inb_of q7a ⟨by decide, by decide⟩) rfl) (g := (mkF m 45 #[.val (.ref a1), .val (.int (5 : Int32)), .val (.double (FP.l2d x)), .second, .val (.int (2 : Int32)), .val (.int (4 : Int32))] [(.int (5 : Int32)), (.ref tc), (.int ba), (.int (2 : Int32)), (.ref tc)])) rfl rfl (hb hby d5_45) t_ k_) ?_
  refine Go.st (pc' := 47) (S' := [(.int (ba + (1 : Int32))), (.int (2 : Int32)), (.ref tc)]) (fun t_ k_ => XS.iadd X6.here hx rfl (hb hby d5_46) rfl k_) ?_
  obtain ⟨cl8, Ar8, q81, q82, q83, q84, q85⟩ := V_tc
  obtain ⟨T8, h8, X8, e8, W8, st8⟩ := stI X6 hx hZ e6 Ar8 (j := (2 : Int32)) (inb_of q82 ⟨by decide, by decide⟩) (g := (mkF m 47 #[.val (.ref a1), .val (.int (5 : Int32)), .val (.double (FP.l2d x)), .second, .val (.int (2 : Int32)), .val (.int (4 : Int32))] [(.int (ba + (1 : Int32))), (.int (2 : Int32)), (.ref tc)])) rfl rfl (hb hby d5_47)
  replace V_tc := Arv.set Ar8 q81 q82 q83 q84 q85 rfl W8 2 rfl (Nat.le_of_ble_eq_true rfl)
  have V_tc : Arv Z h8 tc kc .int (8 : Int32) [(.int (0 : Int32)), (.int o1), (.int (ba + (1 : Int32))), (.int (bc + bd)), (.int ba), (.int (1 : Int32)), (.int bc), (.int bd)] (.int (0 : Int32)) := V_tc
  replace Z0 := Nat.le_trans Z0 (Keep.of_wr W8).1
  replace K0 := K0.wr W8 (Or.inl (List.mem_of_getElem? (i := 0) rfl))
  replace E_a1 := E_a1.wr W8
  replace F_discounts := F_discounts.other W8 (Or.inl ne5.1)
  replace F_leaves := F_leaves.other W8 (Or.inl ne5.1)
  replace F_count := F_count.other W8 (Or.inl ne5.1)
  replace F_worth := F_worth.other W8 (Or.inl ne5.1)
  replace V_td := V_td.other W8 ne5.2.2.2.1
  replace V_tw := V_tw.other W8 (Ne.symm ne5.2.2.1)
  have N8 := Fr.snoc X8 N2 g_tc
  refine Go.st (pc' := 48) (S' := []) st8 ?_
  refine Go.st (pc' := 49) (S' := [(.ref a1)]) (fun t_ k_ => XS.aloadN X8.here hx rfl (hb hby d5_48) rfl rfl k_) ?_
  obtain ⟨T9, X9, e9, st9⟩ := getF X8 hx hZ hown (host := "") (Or.inl (wd hw 17 rfl)) Via.refl e8 F_worth (g := (mkF m 49 #[.val (.ref a1), .val (.int (5 : Int32)), .val (.double (FP.l2d x)), .second, .val (.int (2 : Int32)), .val (.int (4 : Int32))] [(.ref a1)])) rfl rfl (hb hby d5_49)
  refine Go.st (pc' := 52) (S' := [(.ref tw)]) st9 ?_
  refine Go.st (pc' := 54) (S' := [(.int (2 : Int32)), (.ref tw)]) (fun t_ k_ => XS.iload X9.here hx rfl (hb hby d5_52) rfl k_) ?_
  refine Go.st (pc' := 55) (S' := [(.ref a1), (.int (2 : Int32)), (.ref tw)]) (fun t_ k_ => XS.aloadN X9.here hx rfl (hb hby d5_54) rfl rfl k_) ?_
  obtain ⟨T10, X10, e10, st10⟩ := getF X9 hx hZ hown (host := "") (Or.inl (wd hw 17 rfl)) Via.refl e9 F_worth (g := (mkF m 55 #[.val (.ref a1), .val (.int (5 : Int32)), .val (.double (FP.l2d x)), .second, .val (.int (2 : Int32)), .val (.int (4 : Int32))] [(.ref a1), (.int (2 : Int32)), (.ref tw)])) rfl rfl (hb hby d5_55)
  refine Go.st (pc' := 58) (S' := [(.ref tw), (.int (2 : Int32)), (.ref tw)]) st10 ?_
  refine Go.st (pc' := 60) (S' := [(.int (4 : Int32)), (.ref tw), (.int (2 : Int32)), (.ref tw)]) (fun t_ k_ => XS.iload X10.here hx rfl (hb hby d5_58) rfl k_) ?_
  obtain ⟨cl11, Ar11, -, q11a, q11b, q11c, q11d⟩ := id V_tw
  refine Go.st (pc' := 61) (S' := [(.double (FP.l2d va)), (.int (2 : Int32)), (.ref tw)]) (fun t_ k_ => X10.daload hx (j := (4 : Int32)) (v := (.double (FP.l2d va))) (by rw [e10]; exact Ar11.1) (State.isArrayOf_alike hZ.alike Ar11.2.1) Ar11.2.2 (inb_of q11a ⟨by decide, by decide⟩) (q11c.at (inb_of q11a ⟨by decide, by decide⟩) rfl) (g := (mkF m 60 #[.val (.ref a1), .val (.int (5 : Int32)), .val (.double (FP.l2d x)), .second, .val (.int (2 : Int32)), .val (.int (4 : Int32))] [(.int (4 : Int32)), (.ref tw), (.int (2 : Int32)), (.ref tw)])) rfl rfl (hb hby d5_60) t_ k_) ?_
  refine Go.st (pc' := 62) (S' := [(.ref a1), (.double (FP.l2d va)), (.int (2 : Int32)), (.ref tw)]) (fun t_ k_ => XS.aloadN X10.here hx rfl (hb hby d5_61) rfl rfl k_) ?_
  obtain ⟨T12, X12, e12, st12⟩ := getF X10 hx hZ hown (host := "") (Or.inl (wd hw 10 rfl)) Via.refl e10 F_discounts (g := (mkF m 62 #[.val (.ref a1), .val (.int (5 : Int32)), .val (.double (FP.l2d x)), .second, .val (.int (2 : Int32)), .val (.int (4 : Int32))] [(.ref a1), (.double (FP.l2d va)), (.int (2 : Int32)), (.ref tw)])) rfl rfl (hb hby d5_62)
  refine Go.st (pc' := 65) (S' := [(.ref td), (.double (FP.l2d va)), (.int (2 : Int32)), (.ref tw)]) st12 ?_
  refine Go.st (pc' := 66) (S' := [(.ref a1), (.ref td), (.double (FP.l2d va)), (.int (2 : Int32)), (.ref tw)]) (fun t_ k_ => XS.aloadN X12.here hx rfl (hb hby d5_65) rfl rfl k_) ?_
  obtain ⟨T13, X13, e13, st13⟩ := getF X12 hx hZ hown (host := "") (Or.inl (wd hw 15 rfl)) Via.refl e12 F_count (g := (mkF m 66 #[.val (.ref a1), .val (.int (5 : Int32)), .val (.double (FP.l2d x)), .second, .val (.int (2 : Int32)), .val (.int (4 : Int32))] [(.ref a1), (.ref td), (.double (FP.l2d va)), (.int (2 : Int32)), (.ref tw)])) rfl rfl (hb hby d5_66)
  refine Go.st (pc' := 69) (S' := [(.ref tc), (.ref td), (.double (FP.l2d va)), (.int (2 : Int32)), (.ref tw)]) st13 ?_
  refine Go.st (pc' := 71) (S' := [(.int (4 : Int32)), (.ref tc), (.ref td), (.double (FP.l2d va)), (.int (2 : Int32)), (.ref tw)]) (fun t_ k_ => XS.iload X13.here hx rfl (hb hby d5_69) rfl k_) ?_
  obtain ⟨cl14, Ar14, -, q14a, q14b, q14c, q14d⟩ := id V_tc
  refine Go.st (pc' := 72) (S' := [(.int ba), (.ref td), (.double (FP.l2d va)), (.int (2 : Int32)), (.ref tw)]) (fun t_ k_ => X13.iaload hx (j := (4 : Int32)) (v := (.int ba)) (by rw [e13]; exact Ar14.1) (State.isArrayOf_alike hZ.alike Ar14.2.1) Ar14.2.2 (inb_of q14a ⟨by decide, by decide⟩) (q14c.at (inb_of q14a ⟨by decide, by decide⟩) rfl) (g := (mkF m 71 #[.val (.ref a1), .val (.int (5 : Int32)), .val (.double (FP.l2d x)), .second, .val (.int (2 : Int32)), .val (.int (4 : Int32))] [(.int (4 : Int32)), (.ref tc), (.ref td), (.double (FP.l2d va)), (.int (2 : Int32)), (.ref tw)])) rfl rfl (hb hby d5_71) t_ k_) ?_
  obtain ⟨cl15, Ar15, -, q15a, q15b, q15c, q15d⟩ := id V_td
  refine Go.st (pc' := 73) (S' := [(.double (FP.l2d (own_e q ba))), (.double (FP.l2d va)), (.int (2 : Int32)), (.ref tw)]) (fun t_ k_ => X13.daload hx (j := ba) (v := (.double (FP.l2d (own_e q ba)))) (by rw [e13]; exact Ar15.1) (State.isArrayOf_alike hZ.alike Ar15.2.1) Ar15.2.2 (inb_of q15a (own_c5 (own_h1 hba))) (q15c.at (inb_of q15a (own_c5 (own_h1 hba))) (own_dat (own_h1 hba))) (g := (mkF m 72 #[.val (.ref a1), .val (.int (5 : Int32)), .val (.double (FP.l2d x)), .second, .val (.int (2 : Int32)), .val (.int (4 : Int32))] [(.int ba), (.ref td), (.double (FP.l2d va)), (.int (2 : Int32)), (.ref tw)])) rfl rfl (hb hby d5_72) t_ k_) ?_
  refine Go.st (pc' := 74) (S' := [(.ref a1), (.double (FP.l2d (own_e q ba))), (.double (FP.l2d va)), (.int (2 : Int32)), (.ref tw)]) (fun t_ k_ => XS.aloadN X13.here hx rfl (hb hby d5_73) rfl rfl k_) ?_
  obtain ⟨T16, X16, e16, st16⟩ := getF X13 hx hZ hown (host := "") (Or.inl (wd hw 17 rfl)) Via.refl e13 F_worth (g := (mkF m 74 #[.val (.ref a1), .val (.int (5 : Int32)), .val (.double (FP.l2d x)), .second, .val (.int (2 : Int32)), .val (.int (4 : Int32))] [(.ref a1), (.double (FP.l2d (own_e q ba))), (.double (FP.l2d va)), (.int (2 : Int32)), (.ref tw)])) rfl rfl (hb hby d5_74)
  refine Go.st (pc' := 77) (S' := [(.ref tw), (.double (FP.l2d (own_e q ba))), (.double (FP.l2d va)), (.int (2 : Int32)), (.ref tw)]) st16 ?_
  refine Go.st (pc' := 79) (S' := [(.int (4 : Int32)), (.ref tw), (.double (FP.l2d (own_e q ba))), (.double (FP.l2d va)), (.int (2 : Int32)), (.ref tw)]) (fun t_ k_ => XS.iload X16.here hx rfl (hb hby d5_77) rfl k_) ?_
  refine Go.st (pc' := 80) (S' := [(.int (1 : Int32)), (.int (4 : Int32)), (.ref tw), (.double (FP.l2d (own_e q ba))), (.double (FP.l2d va)), (.int (2 : Int32)), (.ref tw)]) (fun t_ k_ => XS.iconst X16.here hx rfl (hb hby d5_79) k_) ?_
  refine Go.st (pc' := 81) (S' := [(.int ((4 : Int32) + (1 : Int32))), (.ref tw), (.double (FP.l2d (own_e q ba))), (.double (FP.l2d va)), (.int (2 : Int32)), (.ref tw)]) (fun t_ k_ => XS.iadd X16.here hx rfl (hb hby d5_80) rfl k_) ?_
  rw [show ((4 : Int32) + (1 : Int32)) = (5 : Int32) from by decide]
  obtain ⟨cl17, Ar17, -, q17a, q17b, q17c, q17d⟩ := id V_tw
  refine Go.st (pc' := 82) (S' := [(.double (FP.l2d x)), (.double (FP.l2d (own_e q ba))), (.double (FP.l2d va)), (.int (2 : Int32)), (.ref tw)]) (fun t_ k_ => X16.daload hx (j := (5 : Int32)) (v := (.double (FP.l2d x))) (by rw [e16]; exact Ar17.1) (State.isArrayOf_alike hZ.alike Ar17.2.1) Ar17.2.2 (inb_of q17a ⟨by decide, by decide⟩) (q17c.at (inb_of q17a ⟨by decide, by decide⟩) rfl) (g := (mkF m 81 #[.val (.ref a1), .val (.int (5 : Int32)), .val (.double (FP.l2d x)), .second, .val (.int (2 : Int32)), .val (.int (4 : Int32))] [(.int (5 : Int32)), (.ref tw), (.double (FP.l2d (own_e q ba))), (.double (FP.l2d va)), (.int (2 : Int32)), (.ref tw)])) rfl rfl (hb hby d5_81) t_ k_) ?_
  have fm18 := own_fma (a := va) (x := (own_e q ba)) (y := x) (A := 2147483648) (X := 256) (Y := 2147483648) hva (own_eb hq ba) hxb (by decide) (by decide) rfl (by decide)
  refine Go.st (pc' := 83) (S' := [(.double (FP.dmul (FP.l2d (own_e q ba)) (FP.l2d x))), (.double (FP.l2d va)), (.int (2 : Int32)), (.ref tw)]) (fun t_ k_ => XS.dmulS X16.here hx rfl (hb hby d5_82) rfl fm18.2.1 rfl k_) ?_
  refine Go.st (pc' := 84) (S' := [(.double (FP.l2d (va + (own_e q ba) * x))), (.int (2 : Int32)), (.ref tw)]) (fun t_ k_ => XS.daddS X16.here hx rfl (hb hby d5_83) rfl (nn_w fm18.1) fm18.1 k_) ?_
  obtain ⟨cl19, Ar19, q191, q192, q193, q194, q195⟩ := V_tw
  obtain ⟨T19, h19, X19, e19, W19, st19⟩ := stD X16 hx hZ e16 Ar19 (j := (2 : Int32)) (inb_of q192 ⟨by decide, by decide⟩) (g := (mkF m 84 #[.val (.ref a1), .val (.int (5 : Int32)), .val (.double (FP.l2d x)), .second, .val (.int (2 : Int32)), .val (.int (4 : Int32))] [(.double (FP.l2d (va + (own_e q ba) * x))), (.int (2 : Int32)), (.ref tw)])) rfl rfl (hb hby d5_84)
  replace V_tw := Arv.set Ar19 q191 q192 q193 q194 q195 rfl W19 2 rfl (Nat.le_of_ble_eq_true rfl)
  have V_tw : Arv Z h19 tw kw .double (8 : Int32) [(.double (0 : UInt64)), (.double r1), (.double (FP.l2d (va + (own_e q ba) * x))), (.double (FP.l2d (vc + (own_e q bc) * vd))), (.double (FP.l2d va)), (.double (FP.l2d x)), (.double (FP.l2d vc)), (.double (FP.l2d vd))] (.double (0 : UInt64)) := V_tw
  replace Z0 := Nat.le_trans Z0 (Keep.of_wr W19).1
  replace K0 := K0.wr W19 (Or.inl (List.mem_of_getElem? (i := 1) rfl))
  replace E_a1 := E_a1.wr W19
  replace F_discounts := F_discounts.other W19 (Or.inl ne5.2.1)
  replace F_leaves := F_leaves.other W19 (Or.inl ne5.2.1)
  replace F_count := F_count.other W19 (Or.inl ne5.2.1)
  replace F_worth := F_worth.other W19 (Or.inl ne5.2.1)
  replace V_td := V_td.other W19 ne5.2.2.2.2
  replace V_tc := V_tc.other W19 ne5.2.2.1
  have N19 := Fr.snoc X19 N8 g_tw
  refine Go.st (pc' := 85) (S' := []) st19 ?_
  refine Go.st (pc' := 87) (S' := [(.int (2 : Int32))]) (fun t_ k_ => XS.iload X19.here hx rfl (hb hby d5_85) rfl k_) ?_
  refine Go.st (pc' := 88) (S' := [(.int (2 : Int32)), (.int (2 : Int32))]) (fun t_ k_ => XS.iconst X19.here hx rfl (hb hby d5_87) k_) ?_
  refine Go.st (pc' := 89) (S' := [(.int ((2 : Int32) / (2 : Int32)))]) (fun t_ k_ => XS.idiv X19.here hx rfl (hb hby d5_88) rfl (by decide) k_) ?_
  rw [show ((2 : Int32) / (2 : Int32)) = (1 : Int32) from by decide]
  refine Go.st (pc' := 91) (S' := []) (fun t_ k_ => XS.istore X19.here hx rfl (hb hby d5_89) rfl (l' := #[.val (.ref a1), .val (.int (5 : Int32)), .val (.double (FP.l2d x)), .second, .val (.int (1 : Int32)), .val (.int (4 : Int32))]) rfl k_) ?_
  refine Go.st (pc' := 12) (S' := []) (fun t_ k_ => XS.goto X19.here hx rfl (pc0 := 91) (pc' := 12) rfl (hb hby d5_91) (by decide) (by decide) k_) ?_
  refine Go.st (pc' := 14) (S' := [(.int (1 : Int32))]) (fun t_ k_ => XS.iload X19.here hx rfl (hb hby d5_12) rfl k_) ?_
  refine Go.st (pc' := 15) (S' := [(.int (1 : Int32)), (.int (1 : Int32))]) (fun t_ k_ => XS.iconst X19.here hx rfl (hb hby d5_14) k_) ?_
  refine Go.st (pc' := 18) (S' := []) (fun t_ k_ => XS.icmpNo X19.here hx rfl (hb hby d5_15) rfl (flt (by decide : ¬ ((1 : Int32) < (1 : Int32)))).1 k_) ?_
  refine Go.st (pc' := 19) (S' := [(.int (2 : Int32))]) (fun t_ k_ => XS.iconst X19.here hx rfl (hb hby d5_18) k_) ?_
  refine Go.st (pc' := 21) (S' := [(.int (1 : Int32)), (.int (2 : Int32))]) (fun t_ k_ => XS.iload X19.here hx rfl (hb hby d5_19) rfl k_) ?_
  refine Go.st (pc' := 22) (S' := [(.int ((2 : Int32) * (1 : Int32)))]) (fun t_ k_ => XS.imul X19.here hx rfl (hb hby d5_21) rfl k_) ?_
  rw [show ((2 : Int32) * (1 : Int32)) = (2 : Int32) from by decide]
  refine Go.st (pc' := 24) (S' := []) (fun t_ k_ => XS.istore X19.here hx rfl (hb hby d5_22) rfl (l' := #[.val (.ref a1), .val (.int (5 : Int32)), .val (.double (FP.l2d x)), .second, .val (.int (1 : Int32)), .val (.int (2 : Int32))]) rfl k_) ?_
  refine Go.st (pc' := 25) (S' := [(.ref a1)]) (fun t_ k_ => XS.aloadN X19.here hx rfl (hb hby d5_24) rfl rfl k_) ?_
  obtain ⟨T20, X20, e20, st20⟩ := getF X19 hx hZ hown (host := "") (Or.inl (wd hw 15 rfl)) Via.refl e19 F_count (g := (mkF m 25 #[.val (.ref a1), .val (.int (5 : Int32)), .val (.double (FP.l2d x)), .second, .val (.int (1 : Int32)), .val (.int (2 : Int32))] [(.ref a1)])) rfl rfl (hb hby d5_25)
  refine Go.st (pc' := 28) (S' := [(.ref tc)]) st20 ?_
  refine Go.st (pc' := 30) (S' := [(.int (1 : Int32)), (.ref tc)]) (fun t_ k_ => XS.iload X20.here hx rfl (hb hby d5_28) rfl k_) ?_
  refine Go.st (pc' := 31) (S' := [(.ref a1), (.int (1 : Int32)), (.ref tc)]) (fun t_ k_ => XS.aloadN X20.here hx rfl (hb hby d5_30) rfl rfl k_) ?_
  obtain ⟨T21, X21, e21, st21⟩ := getF X20 hx hZ hown (host := "") (Or.inl (wd hw 15 rfl)) Via.refl e20 F_count (g := (mkF m 31 #[.val (.ref a1), .val (.int (5 : Int32)), .val (.double (FP.l2d x)), .second, .val (.int (1 : Int32)), .val (.int (2 : Int32))] [(.ref a1), (.int (1 : Int32)), (.ref tc)])) rfl rfl (hb hby d5_31)
  refine Go.st (pc' := 34) (S' := [(.ref tc), (.int (1 : Int32)), (.ref tc)]) st21 ?_
  refine Go.st (pc' := 36) (S' := [(.int (2 : Int32)), (.ref tc), (.int (1 : Int32)), (.ref tc)]) (fun t_ k_ => XS.iload X21.here hx rfl (hb hby d5_34) rfl k_) ?_
  obtain ⟨cl22, Ar22, -, q22a, q22b, q22c, q22d⟩ := id V_tc
  refine Go.st (pc' := 37) (S' := [(.int (ba + (1 : Int32))), (.int (1 : Int32)), (.ref tc)]) (fun t_ k_ => X21.iaload hx (j := (2 : Int32)) (v := (.int (ba + (1 : Int32)))) (by rw [e21]; exact Ar22.1) (State.isArrayOf_alike hZ.alike Ar22.2.1) Ar22.2.2 (inb_of q22a ⟨by decide, by decide⟩) (q22c.at (inb_of q22a ⟨by decide, by decide⟩) rfl) (g := (mkF m 36 #[.val (.ref a1), .val (.int (5 : Int32)), .val (.double (FP.l2d x)), .second, .val (.int (1 : Int32)), .val (.int (2 : Int32))] [(.int (2 : Int32)), (.ref tc), (.int (1 : Int32)), (.ref tc)])) rfl rfl (hb hby d5_36) t_ k_) ?_
  refine Go.st (pc' := 38) (S' := [(.ref a1), (.int (ba + (1 : Int32))), (.int (1 : Int32)), (.ref tc)]) (fun t_ k_ => XS.aloadN X21.here hx rfl (hb hby d5_37) rfl rfl k_) ?_
  obtain ⟨T23, X23, e23, st23⟩ := getF X21 hx hZ hown (host := "") (Or.inl (wd hw 15 rfl)) Via.refl e21 F_count (g := (mkF m 38 #[.val (.ref a1), .val (.int (5 : Int32)), .val (.double (FP.l2d x)), .second, .val (.int (1 : Int32)), .val (.int (2 : Int32))] [(.ref a1), (.int (ba + (1 : Int32))), (.int (1 : Int32)), (.ref tc)])) rfl rfl (hb hby d5_38)
  refine Go.st (pc' := 41) (S' := [(.ref tc), (.int (ba + (1 : Int32))), (.int (1 : Int32)), (.ref tc)]) st23 ?_
  refine Go.st (pc' := 43) (S' := [(.int (2 : Int32)), (.ref tc), (.int (ba + (1 : Int32))), (.int (1 : Int32)), (.ref tc)]) (fun t_ k_ => XS.iload X23.here hx rfl (hb hby d5_41) rfl k_) ?_
  refine Go.st (pc' := 44) (S' := [(.int (1 : Int32)), (.int (2 : Int32)), (.ref tc), (.int (ba + (1 : Int32))), (.int (1 : Int32)), (.ref tc)]) (fun t_ k_ => XS.iconst X23.here hx rfl (hb hby d5_43) k_) ?_
  refine Go.st (pc' := 45) (S' := [(.int ((2 : Int32) + (1 : Int32))), (.ref tc), (.int (ba + (1 : Int32))), (.int (1 : Int32)), (.ref tc)]) (fun t_ k_ => XS.iadd X23.here hx rfl (hb hby d5_44) rfl k_) ?_
  rw [show ((2 : Int32) + (1 : Int32)) = (3 : Int32) from by decide]
  obtain ⟨cl24, Ar24, -, q24a, q24b, q24c, q24d⟩ := id V_tc
  refine Go.st (pc' := 46) (S' := [(.int (bc + bd)), (.int (ba + (1 : Int32))), (.int (1 : Int32)), (.ref tc)]) (fun t_ k_ => X23.iaload hx (j := (3 : Int32)) (v := (.int (bc + bd))) (by rw [e23]; exact Ar24.1) (State.isArrayOf_alike hZ.alike Ar24.2.1) Ar24.2.2 (inb_of q24a ⟨by decide, by decide⟩) (q24c.at (inb_of q24a ⟨by decide, by decide⟩) rfl) (g := (mkF m 45 #[.val (.ref a1), .val (.int (5 : Int32)), .val (.double (FP.l2d x)), .second, .val (.int (1 : Int32)), .val (.int (2 : Int32))] [(.int (3 : Int32)), (.ref tc), (.int (ba + (1 : Int32))), (.int (1 : Int32)), (.ref tc)])) rfl rfl (hb hby d5_45) t_ k_) ?_
  refine Go.st (pc' := 47) (S' := [(.int ((ba + (1 : Int32)) + (bc + bd))), (.int (1 : Int32)), (.ref tc)]) (fun t_ k_ => XS.iadd X23.here hx rfl (hb hby d5_46) rfl k_) ?_
  obtain ⟨cl25, Ar25, q251, q252, q253, q254, q255⟩ := V_tc
  obtain ⟨T25, h25, X25, e25, W25, st25⟩ := stI X23 hx hZ e23 Ar25 (j := (1 : Int32)) (inb_of q252 ⟨by decide, by decide⟩) (g := (mkF m 47 #[.val (.ref a1), .val (.int (5 : Int32)), .val (.double (FP.l2d x)), .second, .val (.int (1 : Int32)), .val (.int (2 : Int32))] [(.int ((ba + (1 : Int32)) + (bc + bd))), (.int (1 : Int32)), (.ref tc)])) rfl rfl (hb hby d5_47)
  replace V_tc := Arv.set Ar25 q251 q252 q253 q254 q255 rfl W25 1 rfl (Nat.le_of_ble_eq_true rfl)
  have V_tc : Arv Z h25 tc kc .int (8 : Int32) [(.int (0 : Int32)), (.int ((ba + (1 : Int32)) + (bc + bd))), (.int (ba + (1 : Int32))), (.int (bc + bd)), (.int ba), (.int (1 : Int32)), (.int bc), (.int bd)] (.int (0 : Int32)) := V_tc
  replace Z0 := Nat.le_trans Z0 (Keep.of_wr W25).1
  replace K0 := K0.wr W25 (Or.inl (List.mem_of_getElem? (i := 0) rfl))
  replace E_a1 := E_a1.wr W25
  replace F_discounts := F_discounts.other W25 (Or.inl ne5.1)
  replace F_leaves := F_leaves.other W25 (Or.inl ne5.1)
  replace F_count := F_count.other W25 (Or.inl ne5.1)
  replace F_worth := F_worth.other W25 (Or.inl ne5.1)
  replace V_td := V_td.other W25 ne5.2.2.2.1
  replace V_tw := V_tw.other W25 (Ne.symm ne5.2.2.1)
  have N25 := Fr.snoc X25 N19 g_tc
  refine Go.st (pc' := 48) (S' := []) st25 ?_
  refine Go.st (pc' := 49) (S' := [(.ref a1)]) (fun t_ k_ => XS.aloadN X25.here hx rfl (hb hby d5_48) rfl rfl k_) ?_
  obtain ⟨T26, X26, e26, st26⟩ := getF X25 hx hZ hown (host := "") (Or.inl (wd hw 17 rfl)) Via.refl e25 F_worth (g := (mkF m 49 #[.val (.ref a1), .val (.int (5 : Int32)), .val (.double (FP.l2d x)), .second, .val (.int (1 : Int32)), .val (.int (2 : Int32))] [(.ref a1)])) rfl rfl (hb hby d5_49)
  refine Go.st (pc' := 52) (S' := [(.ref tw)]) st26 ?_
  refine Go.st (pc' := 54) (S' := [(.int (1 : Int32)), (.ref tw)]) (fun t_ k_ => XS.iload X26.here hx rfl (hb hby d5_52) rfl k_) ?_
  refine Go.st (pc' := 55) (S' := [(.ref a1), (.int (1 : Int32)), (.ref tw)]) (fun t_ k_ => XS.aloadN X26.here hx rfl (hb hby d5_54) rfl rfl k_) ?_
  obtain ⟨T27, X27, e27, st27⟩ := getF X26 hx hZ hown (host := "") (Or.inl (wd hw 17 rfl)) Via.refl e26 F_worth (g := (mkF m 55 #[.val (.ref a1), .val (.int (5 : Int32)), .val (.double (FP.l2d x)), .second, .val (.int (1 : Int32)), .val (.int (2 : Int32))] [(.ref a1), (.int (1 : Int32)), (.ref tw)])) rfl rfl (hb hby d5_55)
  refine Go.st (pc' := 58) (S' := [(.ref tw), (.int (1 : Int32)), (.ref tw)]) st27 ?_
  refine Go.st (pc' := 60) (S' := [(.int (2 : Int32)), (.ref tw), (.int (1 : Int32)), (.ref tw)]) (fun t_ k_ => XS.iload X27.here hx rfl (hb hby d5_58) rfl k_) ?_
  obtain ⟨cl28, Ar28, -, q28a, q28b, q28c, q28d⟩ := id V_tw
  refine Go.st (pc' := 61) (S' := [(.double (FP.l2d (va + (own_e q ba) * x))), (.int (1 : Int32)), (.ref tw)]) (fun t_ k_ => X27.daload hx (j := (2 : Int32)) (v := (.double (FP.l2d (va + (own_e q ba) * x)))) (by rw [e27]; exact Ar28.1) (State.isArrayOf_alike hZ.alike Ar28.2.1) Ar28.2.2 (inb_of q28a ⟨by decide, by decide⟩) (q28c.at (inb_of q28a ⟨by decide, by decide⟩) rfl) (g := (mkF m 60 #[.val (.ref a1), .val (.int (5 : Int32)), .val (.double (FP.l2d x)), .second, .val (.int (1 : Int32)), .val (.int (2 : Int32))] [(.int (2 : Int32)), (.ref tw), (.int (1 : Int32)), (.ref tw)])) rfl rfl (hb hby d5_60) t_ k_) ?_
  refine Go.st (pc' := 62) (S' := [(.ref a1), (.double (FP.l2d (va + (own_e q ba) * x))), (.int (1 : Int32)), (.ref tw)]) (fun t_ k_ => XS.aloadN X27.here hx rfl (hb hby d5_61) rfl rfl k_) ?_
  obtain ⟨T29, X29, e29, st29⟩ := getF X27 hx hZ hown (host := "") (Or.inl (wd hw 10 rfl)) Via.refl e27 F_discounts (g := (mkF m 62 #[.val (.ref a1), .val (.int (5 : Int32)), .val (.double (FP.l2d x)), .second, .val (.int (1 : Int32)), .val (.int (2 : Int32))] [(.ref a1), (.double (FP.l2d (va + (own_e q ba) * x))), (.int (1 : Int32)), (.ref tw)])) rfl rfl (hb hby d5_62)
  refine Go.st (pc' := 65) (S' := [(.ref td), (.double (FP.l2d (va + (own_e q ba) * x))), (.int (1 : Int32)), (.ref tw)]) st29 ?_
  refine Go.st (pc' := 66) (S' := [(.ref a1), (.ref td), (.double (FP.l2d (va + (own_e q ba) * x))), (.int (1 : Int32)), (.ref tw)]) (fun t_ k_ => XS.aloadN X29.here hx rfl (hb hby d5_65) rfl rfl k_) ?_
  obtain ⟨T30, X30, e30, st30⟩ := getF X29 hx hZ hown (host := "") (Or.inl (wd hw 15 rfl)) Via.refl e29 F_count (g := (mkF m 66 #[.val (.ref a1), .val (.int (5 : Int32)), .val (.double (FP.l2d x)), .second, .val (.int (1 : Int32)), .val (.int (2 : Int32))] [(.ref a1), (.ref td), (.double (FP.l2d (va + (own_e q ba) * x))), (.int (1 : Int32)), (.ref tw)])) rfl rfl (hb hby d5_66)
  refine Go.st (pc' := 69) (S' := [(.ref tc), (.ref td), (.double (FP.l2d (va + (own_e q ba) * x))), (.int (1 : Int32)), (.ref tw)]) st30 ?_
  refine Go.st (pc' := 71) (S' := [(.int (2 : Int32)), (.ref tc), (.ref td), (.double (FP.l2d (va + (own_e q ba) * x))), (.int (1 : Int32)), (.ref tw)]) (fun t_ k_ => XS.iload X30.here hx rfl (hb hby d5_69) rfl k_) ?_
  obtain ⟨cl31, Ar31, -, q31a, q31b, q31c, q31d⟩ := id V_tc
  refine Go.st (pc' := 72) (S' := [(.int (ba + (1 : Int32))), (.ref td), (.double (FP.l2d (va + (own_e q ba) * x))), (.int (1 : Int32)), (.ref tw)]) (fun t_ k_ => X30.iaload hx (j := (2 : Int32)) (v := (.int (ba + (1 : Int32)))) (by rw [e30]; exact Ar31.1) (State.isArrayOf_alike hZ.alike Ar31.2.1) Ar31.2.2 (inb_of q31a ⟨by decide, by decide⟩) (q31c.at (inb_of q31a ⟨by decide, by decide⟩) rfl) (g := (mkF m 71 #[.val (.ref a1), .val (.int (5 : Int32)), .val (.double (FP.l2d x)), .second, .val (.int (1 : Int32)), .val (.int (2 : Int32))] [(.int (2 : Int32)), (.ref tc), (.ref td), (.double (FP.l2d (va + (own_e q ba) * x))), (.int (1 : Int32)), (.ref tw)])) rfl rfl (hb hby d5_71) t_ k_) ?_
  obtain ⟨cl32, Ar32, -, q32a, q32b, q32c, q32d⟩ := id V_td
  refine Go.st (pc' := 73) (S' := [(.double (FP.l2d (own_e q (ba + (1 : Int32))))), (.double (FP.l2d (va + (own_e q ba) * x))), (.int (1 : Int32)), (.ref tw)]) (fun t_ k_ => X30.daload hx (j := (ba + (1 : Int32))) (v := (.double (FP.l2d (own_e q (ba + (1 : Int32)))))) (by rw [e30]; exact Ar32.1) (State.isArrayOf_alike hZ.alike Ar32.2.1) Ar32.2.2 (inb_of q32a (own_c5 (own_hs hba (Or.inr rfl)))) (q32c.at (inb_of q32a (own_c5 (own_hs hba (Or.inr rfl)))) (own_dat (own_hs hba (Or.inr rfl)))) (g := (mkF m 72 #[.val (.ref a1), .val (.int (5 : Int32)), .val (.double (FP.l2d x)), .second, .val (.int (1 : Int32)), .val (.int (2 : Int32))] [(.int (ba + (1 : Int32))), (.ref td), (.double (FP.l2d (va + (own_e q ba) * x))), (.int (1 : Int32)), (.ref tw)])) rfl rfl (hb hby d5_72) t_ k_) ?_
  refine Go.st (pc' := 74) (S' := [(.ref a1), (.double (FP.l2d (own_e q (ba + (1 : Int32))))), (.double (FP.l2d (va + (own_e q ba) * x))), (.int (1 : Int32)), (.ref tw)]) (fun t_ k_ => XS.aloadN X30.here hx rfl (hb hby d5_73) rfl rfl k_) ?_
  obtain ⟨T33, X33, e33, st33⟩ := getF X30 hx hZ hown (host := "") (Or.inl (wd hw 17 rfl)) Via.refl e30 F_worth (g := (mkF m 74 #[.val (.ref a1), .val (.int (5 : Int32)), .val (.double (FP.l2d x)), .second, .val (.int (1 : Int32)), .val (.int (2 : Int32))] [(.ref a1), (.double (FP.l2d (own_e q (ba + (1 : Int32))))), (.double (FP.l2d (va + (own_e q ba) * x))), (.int (1 : Int32)), (.ref tw)])) rfl rfl (hb hby d5_74)
  refine Go.st (pc' := 77) (S' := [(.ref tw), (.double (FP.l2d (own_e q (ba + (1 : Int32))))), (.double (FP.l2d (va + (own_e q ba) * x))), (.int (1 : Int32)), (.ref tw)]) st33 ?_
  refine Go.st (pc' := 79) (S' := [(.int (2 : Int32)), (.ref tw), (.double (FP.l2d (own_e q (ba + (1 : Int32))))), (.double (FP.l2d (va + (own_e q ba) * x))), (.int (1 : Int32)), (.ref tw)]) (fun t_ k_ => XS.iload X33.here hx rfl (hb hby d5_77) rfl k_) ?_
  refine Go.st (pc' := 80) (S' := [(.int (1 : Int32)), (.int (2 : Int32)), (.ref tw), (.double (FP.l2d (own_e q (ba + (1 : Int32))))), (.double (FP.l2d (va + (own_e q ba) * x))), (.int (1 : Int32)), (.ref tw)]) (fun t_ k_ => XS.iconst X33.here hx rfl (hb hby d5_79) k_) ?_
  refine Go.st (pc' := 81) (S' := [(.int ((2 : Int32) + (1 : Int32))), (.ref tw), (.double (FP.l2d (own_e q (ba + (1 : Int32))))), (.double (FP.l2d (va + (own_e q ba) * x))), (.int (1 : Int32)), (.ref tw)]) (fun t_ k_ => XS.iadd X33.here hx rfl (hb hby d5_80) rfl k_) ?_
  rw [show ((2 : Int32) + (1 : Int32)) = (3 : Int32) from by decide]
  obtain ⟨cl34, Ar34, -, q34a, q34b, q34c, q34d⟩ := id V_tw
  refine Go.st (pc' := 82) (S' := [(.double (FP.l2d (vc + (own_e q bc) * vd))), (.double (FP.l2d (own_e q (ba + (1 : Int32))))), (.double (FP.l2d (va + (own_e q ba) * x))), (.int (1 : Int32)), (.ref tw)]) (fun t_ k_ => X33.daload hx (j := (3 : Int32)) (v := (.double (FP.l2d (vc + (own_e q bc) * vd)))) (by rw [e33]; exact Ar34.1) (State.isArrayOf_alike hZ.alike Ar34.2.1) Ar34.2.2 (inb_of q34a ⟨by decide, by decide⟩) (q34c.at (inb_of q34a ⟨by decide, by decide⟩) rfl) (g := (mkF m 81 #[.val (.ref a1), .val (.int (5 : Int32)), .val (.double (FP.l2d x)), .second, .val (.int (1 : Int32)), .val (.int (2 : Int32))] [(.int (3 : Int32)), (.ref tw), (.double (FP.l2d (own_e q (ba + (1 : Int32))))), (.double (FP.l2d (va + (own_e q ba) * x))), (.int (1 : Int32)), (.ref tw)])) rfl rfl (hb hby d5_81) t_ k_) ?_
  have fm35 := own_fma (a := (va + (own_e q ba) * x)) (x := (own_e q (ba + (1 : Int32)))) (y := (vc + (own_e q bc) * vd)) (A := 551903297536) (X := 256) (Y := 1099511627776) fm18.2.2 (own_eb hq (ba + (1 : Int32))) (own_nb hq bc hvc hvd) (by decide) (by decide) rfl (by decide)
  refine Go.st (pc' := 83) (S' := [(.double (FP.dmul (FP.l2d (own_e q (ba + (1 : Int32)))) (FP.l2d (vc + (own_e q bc) * vd)))), (.double (FP.l2d (va + (own_e q ba) * x))), (.int (1 : Int32)), (.ref tw)]) (fun t_ k_ => XS.dmulS X33.here hx rfl (hb hby d5_82) rfl fm35.2.1 rfl k_) ?_
  refine Go.st (pc' := 84) (S' := [(.double (FP.l2d ((va + (own_e q ba) * x) + (own_e q (ba + (1 : Int32))) * (vc + (own_e q bc) * vd)))), (.int (1 : Int32)), (.ref tw)]) (fun t_ k_ => XS.daddS X33.here hx rfl (hb hby d5_83) rfl (nn_w fm35.1) fm35.1 k_) ?_
  obtain ⟨cl36, Ar36, q361, q362, q363, q364, q365⟩ := V_tw
  obtain ⟨T36, h36, X36, e36, W36, st36⟩ := stD X33 hx hZ e33 Ar36 (j := (1 : Int32)) (inb_of q362 ⟨by decide, by decide⟩) (g := (mkF m 84 #[.val (.ref a1), .val (.int (5 : Int32)), .val (.double (FP.l2d x)), .second, .val (.int (1 : Int32)), .val (.int (2 : Int32))] [(.double (FP.l2d ((va + (own_e q ba) * x) + (own_e q (ba + (1 : Int32))) * (vc + (own_e q bc) * vd)))), (.int (1 : Int32)), (.ref tw)])) rfl rfl (hb hby d5_84)
  replace V_tw := Arv.set Ar36 q361 q362 q363 q364 q365 rfl W36 1 rfl (Nat.le_of_ble_eq_true rfl)
  have V_tw : Arv Z h36 tw kw .double (8 : Int32) [(.double (0 : UInt64)), (.double (FP.l2d ((va + (own_e q ba) * x) + (own_e q (ba + (1 : Int32))) * (vc + (own_e q bc) * vd)))), (.double (FP.l2d (va + (own_e q ba) * x))), (.double (FP.l2d (vc + (own_e q bc) * vd))), (.double (FP.l2d va)), (.double (FP.l2d x)), (.double (FP.l2d vc)), (.double (FP.l2d vd))] (.double (0 : UInt64)) := V_tw
  replace Z0 := Nat.le_trans Z0 (Keep.of_wr W36).1
  replace K0 := K0.wr W36 (Or.inl (List.mem_of_getElem? (i := 1) rfl))
  replace E_a1 := E_a1.wr W36
  replace F_discounts := F_discounts.other W36 (Or.inl ne5.2.1)
  replace F_leaves := F_leaves.other W36 (Or.inl ne5.2.1)
  replace F_count := F_count.other W36 (Or.inl ne5.2.1)
  replace F_worth := F_worth.other W36 (Or.inl ne5.2.1)
  replace V_td := V_td.other W36 ne5.2.2.2.2
  replace V_tc := V_tc.other W36 ne5.2.2.1
  have N36 := Fr.snoc X36 N25 g_tw
  refine Go.st (pc' := 85) (S' := []) st36 ?_
  refine Go.st (pc' := 87) (S' := [(.int (1 : Int32))]) (fun t_ k_ => XS.iload X36.here hx rfl (hb hby d5_85) rfl k_) ?_
  refine Go.st (pc' := 88) (S' := [(.int (2 : Int32)), (.int (1 : Int32))]) (fun t_ k_ => XS.iconst X36.here hx rfl (hb hby d5_87) k_) ?_
  refine Go.st (pc' := 89) (S' := [(.int ((1 : Int32) / (2 : Int32)))]) (fun t_ k_ => XS.idiv X36.here hx rfl (hb hby d5_88) rfl (by decide) k_) ?_
  rw [show ((1 : Int32) / (2 : Int32)) = (0 : Int32) from by decide]
  refine Go.st (pc' := 91) (S' := []) (fun t_ k_ => XS.istore X36.here hx rfl (hb hby d5_89) rfl (l' := #[.val (.ref a1), .val (.int (5 : Int32)), .val (.double (FP.l2d x)), .second, .val (.int (0 : Int32)), .val (.int (2 : Int32))]) rfl k_) ?_
  refine Go.st (pc' := 12) (S' := []) (fun t_ k_ => XS.goto X36.here hx rfl (pc0 := 91) (pc' := 12) rfl (hb hby d5_91) (by decide) (by decide) k_) ?_
  refine Go.st (pc' := 14) (S' := [(.int (0 : Int32))]) (fun t_ k_ => XS.iload X36.here hx rfl (hb hby d5_12) rfl k_) ?_
  refine Go.st (pc' := 15) (S' := [(.int (1 : Int32)), (.int (0 : Int32))]) (fun t_ k_ => XS.iconst X36.here hx rfl (hb hby d5_14) k_) ?_
  refine Go.st (pc' := 94) (S' := []) (fun t_ k_ => XS.icmpYes X36.here hx rfl (pc0 := 15) (pc' := 94) rfl (hb hby d5_15) rfl (tlt (by decide : ((0 : Int32) < (1 : Int32)))).1 (by decide) (by decide) k_) ?_
  exact Go.retV X36 hx hlk hret (hb hby d5_94) (by decide) (by decide) (by rw [e36]; exact ⟨rfl, N36, K0, V_tc, V_tw⟩)

def Qadd1 (Z : State) (tc tw : Addr) (kc kw : ClassId) (q x va vb vc vd : Int64) (ba bc bd : Int32) (h0 : Heap) (n0 : Nat) (v : Option Value) (h : Heap) (L : List Loc) : Prop := v = none ∧ Fr n0 L ∧ Keep h0 h [tc, tw] ∧ Arv Z h tc kc .int (8 : Int32) [(.int (0 : Int32)), (.int ((ba + (1 : Int32)) + (bc + bd))), (.int (ba + (1 : Int32))), (.int (bc + bd)), (.int ba), (.int (1 : Int32)), (.int bc), (.int bd)] (.int (0 : Int32)) ∧ Arv Z h tw kw .double (8 : Int32) [(.double (0 : UInt64)), (.double (FP.l2d ((va + (own_e q ba) * x) + (own_e q (ba + (1 : Int32))) * (vc + (own_e q bc) * vd)))), (.double (FP.l2d (va + (own_e q ba) * x))), (.double (FP.l2d (vc + (own_e q bc) * vd))), (.double (FP.l2d va)), (.double (FP.l2d x)), (.double (FP.l2d vc)), (.double (FP.l2d vd))] (.double (0 : UInt64))
def roomadd1 : Room := { frames := 1, cells := 0, slots := 0, locals := 17 }
theorem rmadd1 (l : Launch) (Z : State) (a0 : Array Value) (hw : ∀ d ∈ tables_1, d.before a0 Z = true) (ws : List Jvm.Cond) (a1 td tc tw : Addr) (kd kc kw : ClassId) (q x va vb vc vd : Int64) (ba bc bd : Int32) (h0 : Heap) (n0 : Nat) (Z0 : n0 ≤ h0.size) (E_a1 : Exa Z h0 a1 "com/example/placewright/placewright/GrowingRanks") (F_discounts : Fld Z h0 a1 "com/example/placewright/placewright/GrowingRanks" "discounts" "[D" (.ref td)) (F_leaves : Fld Z h0 a1 "com/example/placewright/placewright/GrowingRanks" "leaves" "I" (.int (4 : Int32))) (F_count : Fld Z h0 a1 "com/example/placewright/placewright/GrowingRanks" "count" "[I" (.ref tc)) (F_worth : Fld Z h0 a1 "com/example/placewright/placewright/GrowingRanks" "worth" "[D" (.ref tw)) (V_td : Arv Z h0 td kd .double (5 : Int32) [(.double (FP.l2d 1)), (.double (FP.l2d q)), (.double (FP.l2d (q * q))), (.double (FP.l2d ((q * q) * q))), (.double (FP.l2d (((q * q) * q) * q)))] (.double (0 : UInt64))) (V_tc : Arv Z h0 tc kc .int (8 : Int32) [(.int (0 : Int32)), (.int ((ba + (0 : Int32)) + (bc + bd))), (.int (ba + (0 : Int32))), (.int (bc + bd)), (.int ba), (.int (0 : Int32)), (.int bc), (.int bd)] (.int (0 : Int32))) (V_tw : Arv Z h0 tw kw .double (8 : Int32) [(.double (0 : UInt64)), (.double (FP.l2d ((va + (own_e q ba) * vb) + (own_e q (ba + (0 : Int32))) * (vc + (own_e q bc) * vd)))), (.double (FP.l2d (va + (own_e q ba) * vb))), (.double (FP.l2d (vc + (own_e q bc) * vd))), (.double (FP.l2d va)), (.double (FP.l2d vb)), (.double (FP.l2d vc)), (.double (FP.l2d vd))] (.double (0 : UInt64))) (ne5 : a1 ≠ tc ∧ a1 ≠ tw ∧ tc ≠ tw ∧ td ≠ tc ∧ td ≠ tw) (g_tc : n0 ≤ tc) (g_tw : n0 ≤ tw) (hq : own_b 4 q) (hxb : own_b 2147483648 x) (hva : own_b 2147483648 va) (hvb : own_b 2147483648 vb) (hvc : own_b 2147483648 vc) (hvd : own_b 2147483648 vd) (hba : ba = 0 ∨ ba = 1) (hbc : bc = 0 ∨ bc = 1) (hbd : bd = 0 ∨ bd = 1) :
    MetFree l (⟨"com/example/placewright/placewright/GrowingRanks", "add", "(ID)V"⟩ : MethodName) (head1 (Jvm.Cond.code (⟨"com/example/placewright/placewright/GrowingRanks", "add", "(ID)V"⟩ : MethodName) prog_20_method_3_code 5 none :: ws) roomadd1) (fun aa_ U_ => aa_ = #[(.ref a1), (.int (1 : Int32)), (.double (FP.l2d x))] ∧ Z.Warmed39 U_.vm ∧ U_.heap = h0) (fun _ _ _ _ _ => True) (fun _ U_ o_ W_ => ∃ v_ L_, o_ = .returned v_ ∧ (Qadd1 Z tc tw kc kw q x va vb vc vd ba bc bd h0 n0) v_ W_.heap L_ ∧ FrameEnd U_ o_ W_ L_ roomadd1.cells roomadd1.slots) := by
  refine own_met (Q := (Qadd1 Z tc tw kc kw q x va vb vc vd ba bc bd h0 n0)) (L0 := #[.val (.ref a1), .val (.int (1 : Int32)), .val (.double (FP.l2d x)), .second, .unset]) (plainFor_of_name pn_0) (fun m => by first | (simp [entryFrame, mkF, argsToLocals, Value.category]; done) | rfl) ?_
  intro p e s m below meth c T0 X0 hx hby hml hown hnm hret hlk hZ e0
  have N0 := Fr.nil n0
  have K0 := Keep.refl h0 [tc, tw]
  refine Go.st (pc' := 1) (S' := [(.ref a1)]) (fun t_ k_ => XS.aloadN X0.here hx rfl (hb hby d4_0) rfl rfl k_) ?_
  obtain ⟨T1, X1, e1, st1⟩ := getF X0 hx hZ hown (host := "") (Or.inl (wd hw 12 rfl)) Via.refl e0 F_leaves (g := (mkF m 1 #[.val (.ref a1), .val (.int (1 : Int32)), .val (.double (FP.l2d x)), .second, .unset] [(.ref a1)])) rfl rfl (hb hby d4_1)
  refine Go.st (pc' := 4) (S' := [(.int (4 : Int32))]) st1 ?_
  refine Go.st (pc' := 5) (S' := [(.int (1 : Int32)), (.int (4 : Int32))]) (fun t_ k_ => XS.iloadN X1.here hx rfl (hb hby d4_4) rfl k_) ?_
  refine Go.st (pc' := 6) (S' := [(.int ((4 : Int32) + (1 : Int32)))]) (fun t_ k_ => XS.iadd X1.here hx rfl (hb hby d4_5) rfl k_) ?_
  rw [show ((4 : Int32) + (1 : Int32)) = (5 : Int32) from by decide]
  refine Go.st (pc' := 8) (S' := []) (fun t_ k_ => XS.istore X1.here hx rfl (hb hby d4_6) rfl (l' := #[.val (.ref a1), .val (.int (1 : Int32)), .val (.double (FP.l2d x)), .second, .val (.int (5 : Int32))]) rfl k_) ?_
  refine Go.st (pc' := 9) (S' := [(.ref a1)]) (fun t_ k_ => XS.aloadN X1.here hx rfl (hb hby d4_8) rfl rfl k_) ?_
  obtain ⟨T2, X2, e2, st2⟩ := getF X1 hx hZ hown (host := "") (Or.inl (wd hw 15 rfl)) Via.refl e1 F_count (g := (mkF m 9 #[.val (.ref a1), .val (.int (1 : Int32)), .val (.double (FP.l2d x)), .second, .val (.int (5 : Int32))] [(.ref a1)])) rfl rfl (hb hby d4_9)
  refine Go.st (pc' := 12) (S' := [(.ref tc)]) st2 ?_
  refine Go.st (pc' := 14) (S' := [(.int (5 : Int32)), (.ref tc)]) (fun t_ k_ => XS.iload X2.here hx rfl (hb hby d4_12) rfl k_) ?_
  obtain ⟨cl3, Ar3, -, q3a, q3b, q3c, q3d⟩ := id V_tc
  refine Go.st (pc' := 15) (S' := [(.int (0 : Int32))]) (fun t_ k_ => X2.iaload hx (j := (5 : Int32)) (v := (.int (0 : Int32))) (by rw [e2]; exact Ar3.1) (State.isArrayOf_alike hZ.alike Ar3.2.1) Ar3.2.2 (inb_of q3a ⟨by decide, by decide⟩) (q3c.at (inb_of q3a ⟨by decide, by decide⟩) rfl) (g := (mkF m 14 #[.val (.ref a1), .val (.int (1 : Int32)), .val (.double (FP.l2d x)), .second, .val (.int (5 : Int32))] [(.int (5 : Int32)), (.ref tc)])) rfl rfl (hb hby d4_14) t_ k_) ?_
  refine Go.st (pc' := 32) (S' := []) (fun t_ k_ => XS.ifYes X2.here hx rfl (pc0 := 15) (pc' := 32) rfl (hb hby d4_15) rfl ((if0 _ _).trans (teq (by decide : ((0 : Int32) = (0 : Int32)))).1) (by decide) (by decide) k_) ?_
  refine Go.st (pc' := 33) (S' := [(.ref a1)]) (fun t_ k_ => XS.aloadN X2.here hx rfl (hb hby d4_32) rfl rfl k_) ?_
  obtain ⟨T4, X4, e4, st4⟩ := getF X2 hx hZ hown (host := "") (Or.inl (wd hw 15 rfl)) Via.refl e2 F_count (g := (mkF m 33 #[.val (.ref a1), .val (.int (1 : Int32)), .val (.double (FP.l2d x)), .second, .val (.int (5 : Int32))] [(.ref a1)])) rfl rfl (hb hby d4_33)
  refine Go.st (pc' := 36) (S' := [(.ref tc)]) st4 ?_
  refine Go.st (pc' := 38) (S' := [(.int (5 : Int32)), (.ref tc)]) (fun t_ k_ => XS.iload X4.here hx rfl (hb hby d4_36) rfl k_) ?_
  refine Go.st (pc' := 39) (S' := [(.int (1 : Int32)), (.int (5 : Int32)), (.ref tc)]) (fun t_ k_ => XS.iconst X4.here hx rfl (hb hby d4_38) k_) ?_
  obtain ⟨cl5, Ar5, q51, q52, q53, q54, q55⟩ := V_tc
  obtain ⟨T5, h5, X5, e5, W5, st5⟩ := stI X4 hx hZ e4 Ar5 (j := (5 : Int32)) (inb_of q52 ⟨by decide, by decide⟩) (g := (mkF m 39 #[.val (.ref a1), .val (.int (1 : Int32)), .val (.double (FP.l2d x)), .second, .val (.int (5 : Int32))] [(.int (1 : Int32)), (.int (5 : Int32)), (.ref tc)])) rfl rfl (hb hby d4_39)
  replace V_tc := Arv.set Ar5 q51 q52 q53 q54 q55 rfl W5 5 rfl (Nat.le_of_ble_eq_true rfl)
  have V_tc : Arv Z h5 tc kc .int (8 : Int32) [(.int (0 : Int32)), (.int ((ba + (0 : Int32)) + (bc + bd))), (.int (ba + (0 : Int32))), (.int (bc + bd)), (.int ba), (.int (1 : Int32)), (.int bc), (.int bd)] (.int (0 : Int32)) := V_tc
  replace Z0 := Nat.le_trans Z0 (Keep.of_wr W5).1
  replace K0 := K0.wr W5 (Or.inl (List.mem_of_getElem? (i := 0) rfl))
  replace E_a1 := E_a1.wr W5
  replace F_discounts := F_discounts.other W5 (Or.inl ne5.1)
  replace F_leaves := F_leaves.other W5 (Or.inl ne5.1)
  replace F_count := F_count.other W5 (Or.inl ne5.1)
  replace F_worth := F_worth.other W5 (Or.inl ne5.1)
  replace V_td := V_td.other W5 ne5.2.2.2.1
  replace V_tw := V_tw.other W5 (Ne.symm ne5.2.2.1)
  have N5 := Fr.snoc X5 N0 g_tc
  refine Go.st (pc' := 40) (S' := []) st5 ?_
  refine Go.st (pc' := 41) (S' := [(.ref a1)]) (fun t_ k_ => XS.aloadN X5.here hx rfl (hb hby d4_40) rfl rfl k_) ?_
  refine Go.st (pc' := 43) (S' := [(.int (5 : Int32)), (.ref a1)]) (fun t_ k_ => XS.iload X5.here hx rfl (hb hby d4_41) rfl k_) ?_
  refine Go.st (pc' := 44) (S' := [(.double (FP.l2d x)), (.int (5 : Int32)), (.ref a1)]) (fun t_ k_ => XS.dloadN X5.here hx rfl (hb hby d4_43) rfl k_) ?_
  obtain ⟨cq6, q6, q6'⟩ := E_a1.cell
  obtain ⟨_, _, ⟨T6, L6, k6, n6⟩, -, X6, ⟨Lc6, hQ6, l6, y6, z6⟩, st6⟩ := X5.privateBack hx (y := (⟨"com/example/placewright/placewright/GrowingRanks", "set", "(ID)V"⟩ : MethodName)) hown (mvT hZ (wd hw 31 rfl)) (mvT hZ (wd hw 32 rfl)) (own_selQ (Cond.privateMethod_at (mvP hZ (wd hw 33 rfl) (args := #[]))) (mvT hZ (wd hw 32 rfl)) (by decide) (mvT hZ (wd hw 22 rfl)) rfl) (Cond.privateMethod_at (mvP hZ (wd hw 33 rfl) (args := #[]))) (mvT hZ (wd hw 34 rfl)) (by decide) (backOf (W := 0) (rmset1 l Z a0 hw [] a1 td tc tw _ _ _ q x va vb vc vd ba bc bd _ _ _ _ _ h5 n0 Z0 E_a1 F_discounts F_leaves F_count F_worth V_td V_tc V_tw ⟨ne5.1, ne5.2.1, ne5.2.2.1, ne5.2.2.2.1, ne5.2.2.2.2⟩ g_tc g_tw hq hxb hva hvb hvc hvd hba hbc hbd) hZ (wd hw 34 rfl) (wd hw 3 rfl) (by decide) (by decide)) (g := (mkF m 44 #[.val (.ref a1), .val (.int (1 : Int32)), .val (.double (FP.l2d x)), .second, .val (.int (5 : Int32))] [(.double (FP.l2d x)), (.int (5 : Int32)), (.ref a1)])) rfl (by rw [hml]; rfl) (Steps.refl _) (a := a1) (by rw [e5]; exact q6) q6' (argsL := [(.int (5 : Int32)), (.double (FP.l2d x))]) (rest := []) (lenOf pd_0 rfl) rfl (by show 2 * 0 + _ ≤ _; exact Nat.le_of_eq rfl) (hb hby d4_44) (fun _ _ => ⟨rfl, e5, (by decide : 0 + 0 ≤ _), (by decide : 0 + 0 ≤ _)⟩)
  dsimp only [Pt.U, Pt.locs, Pt.cells, Pt.slots] at X6 l6 y6 z6 st6 hQ6
  subst l6 y6 z6
  obtain ⟨rfl, N6q, K6, Vc6, Vw6⟩ := hQ6
  have N6 := Fr.app N5 N6q
  obtain ⟨h6, e6⟩ : ∃ z, T6.heap = z := ⟨_, rfl⟩
  rw [e6] at K6 Vc6 Vw6
  replace Z0 := Nat.le_trans Z0 K6.1
  replace K0 := K0.trans K6 (allS (Or.inl (List.mem_of_getElem? (i := 0) rfl)) (allS (Or.inl (List.mem_of_getElem? (i := 1) rfl)) all0))
  replace E_a1 := E_a1.keep K6
  replace F_discounts := F_discounts.keep K6 (ninS ne5.1 (ninS ne5.2.1 nin0))
  replace F_leaves := F_leaves.keep K6 (ninS ne5.1 (ninS ne5.2.1 nin0))
  replace F_count := F_count.keep K6 (ninS ne5.1 (ninS ne5.2.1 nin0))
  replace F_worth := F_worth.keep K6 (ninS ne5.1 (ninS ne5.2.1 nin0))
  replace V_td := V_td.keep K6 (ninS ne5.2.2.2.1 (ninS ne5.2.2.2.2 nin0))
  refine Go.tr (pc' := 47) (S' := []) st6 ?_
  exact Go.retV X6 hx hlk hret (hb hby d4_47) (by decide) (by decide) (by rw [e6]; exact ⟨rfl, N6, K0, Vc6, Vw6⟩)

def Qset2 (Z : State) (tc tw : Addr) (kc kw : ClassId) (q x va vb vc vd : Int64) (ba bb bd : Int32) (h0 : Heap) (n0 : Nat) (v : Option Value) (h : Heap) (L : List Loc) : Prop := v = none ∧ Fr n0 L ∧ Keep h0 h [tc, tw] ∧ Arv Z h tc kc .int (8 : Int32) [(.int (0 : Int32)), (.int ((ba + bb) + ((1 : Int32) + bd))), (.int (ba + bb)), (.int ((1 : Int32) + bd)), (.int ba), (.int bb), (.int (1 : Int32)), (.int bd)] (.int (0 : Int32)) ∧ Arv Z h tw kw .double (8 : Int32) [(.double (0 : UInt64)), (.double (FP.l2d ((va + (own_e q ba) * vb) + (own_e q (ba + bb)) * (x + (own_e q (1 : Int32)) * vd)))), (.double (FP.l2d (va + (own_e q ba) * vb))), (.double (FP.l2d (x + (own_e q (1 : Int32)) * vd))), (.double (FP.l2d va)), (.double (FP.l2d vb)), (.double (FP.l2d x)), (.double (FP.l2d vd))] (.double (0 : UInt64))
def roomset2 : Room := { frames := 0, cells := 0, slots := 0, locals := 0 }
theorem rmset2 (l : Launch) (Z : State) (a0 : Array Value) (hw : ∀ d ∈ tables_1, d.before a0 Z = true) (ws : List Jvm.Cond) (a1 td tc tw : Addr) (kd kc kw : ClassId) (q x va vb vc vd : Int64) (ba bb bd : Int32) (o1 o2 : Int32) (r1 r2 r3 : UInt64) (h0 : Heap) (n0 : Nat) (Z0 : n0 ≤ h0.size) (E_a1 : Exa Z h0 a1 "com/example/placewright/placewright/GrowingRanks") (F_discounts : Fld Z h0 a1 "com/example/placewright/placewright/GrowingRanks" "discounts" "[D" (.ref td)) (F_leaves : Fld Z h0 a1 "com/example/placewright/placewright/GrowingRanks" "leaves" "I" (.int (4 : Int32))) (F_count : Fld Z h0 a1 "com/example/placewright/placewright/GrowingRanks" "count" "[I" (.ref tc)) (F_worth : Fld Z h0 a1 "com/example/placewright/placewright/GrowingRanks" "worth" "[D" (.ref tw)) (V_td : Arv Z h0 td kd .double (5 : Int32) [(.double (FP.l2d 1)), (.double (FP.l2d q)), (.double (FP.l2d (q * q))), (.double (FP.l2d ((q * q) * q))), (.double (FP.l2d (((q * q) * q) * q)))] (.double (0 : UInt64))) (V_tc : Arv Z h0 tc kc .int (8 : Int32) [(.int (0 : Int32)), (.int o1), (.int (ba + bb)), (.int o2), (.int ba), (.int bb), (.int (1 : Int32)), (.int bd)] (.int (0 : Int32))) (V_tw : Arv Z h0 tw kw .double (8 : Int32) [(.double (0 : UInt64)), (.double r1), (.double (FP.l2d (va + (own_e q ba) * vb))), (.double r2), (.double (FP.l2d va)), (.double (FP.l2d vb)), (.double r3), (.double (FP.l2d vd))] (.double (0 : UInt64))) (ne5 : a1 ≠ tc ∧ a1 ≠ tw ∧ tc ≠ tw ∧ td ≠ tc ∧ td ≠ tw) (g_tc : n0 ≤ tc) (g_tw : n0 ≤ tw) (hq : own_b 4 q) (hxb : own_b 2147483648 x) (hva : own_b 2147483648 va) (hvb : own_b 2147483648 vb) (hvc : own_b 2147483648 vc) (hvd : own_b 2147483648 vd) (hba : ba = 0 ∨ ba = 1) (hbb : bb = 0 ∨ bb = 1) (hbd : bd = 0 ∨ bd = 1) :
    MetFree l (⟨"com/example/placewright/placewright/GrowingRanks", "set", "(ID)V"⟩ : MethodName) (head1 (Jvm.Cond.code (⟨"com/example/placewright/placewright/GrowingRanks", "set", "(ID)V"⟩ : MethodName) prog_20_method_5_code 6 none :: ws) roomset2) (fun aa_ U_ => aa_ = #[(.ref a1), (.int (6 : Int32)), (.double (FP.l2d x))] ∧ Z.Warmed39 U_.vm ∧ U_.heap = h0) (fun _ _ _ _ _ => True) (fun _ U_ o_ W_ => ∃ v_ L_, o_ = .returned v_ ∧ (Qset2 Z tc tw kc kw q x va vb vc vd ba bb bd h0 n0) v_ W_.heap L_ ∧ FrameEnd U_ o_ W_ L_ roomset2.cells roomset2.slots) := by
  refine own_met (Q := (Qset2 Z tc tw kc kw q x va vb vc vd ba bb bd h0 n0)) (L0 := #[.val (.ref a1), .val (.int (6 : Int32)), .val (.double (FP.l2d x)), .second, .unset, .unset]) (plainFor_of_name pn_0) (fun m => by first | (simp [entryFrame, mkF, argsToLocals, Value.category]; done) | rfl) ?_
  intro p e s m below meth c T0 X0 hx hby hml hown hnm hret hlk hZ e0
  have N0 := Fr.nil n0
  have K0 := Keep.refl h0 [tc, tw]
  refine Go.st (pc' := 1) (S' := [(.ref a1)]) (fun t_ k_ => XS.aloadN X0.here hx rfl (hb hby d5_0) rfl rfl k_) ?_
  obtain ⟨T1, X1, e1, st1⟩ := getF X0 hx hZ hown (host := "") (Or.inl (wd hw 17 rfl)) Via.refl e0 F_worth (g := (mkF m 1 #[.val (.ref a1), .val (.int (6 : Int32)), .val (.double (FP.l2d x)), .second, .unset, .unset] [(.ref a1)])) rfl rfl (hb hby d5_1)
  refine Go.st (pc' := 4) (S' := [(.ref tw)]) st1 ?_
  refine Go.st (pc' := 5) (S' := [(.int (6 : Int32)), (.ref tw)]) (fun t_ k_ => XS.iloadN X1.here hx rfl (hb hby d5_4) rfl k_) ?_
  refine Go.st (pc' := 6) (S' := [(.double (FP.l2d x)), (.int (6 : Int32)), (.ref tw)]) (fun t_ k_ => XS.dloadN X1.here hx rfl (hb hby d5_5) rfl k_) ?_
  obtain ⟨cl2, Ar2, q21, q22, q23, q24, q25⟩ := V_tw
  obtain ⟨T2, h2, X2, e2, W2, st2⟩ := stD X1 hx hZ e1 Ar2 (j := (6 : Int32)) (inb_of q22 ⟨by decide, by decide⟩) (g := (mkF m 6 #[.val (.ref a1), .val (.int (6 : Int32)), .val (.double (FP.l2d x)), .second, .unset, .unset] [(.double (FP.l2d x)), (.int (6 : Int32)), (.ref tw)])) rfl rfl (hb hby d5_6)
  replace V_tw := Arv.set Ar2 q21 q22 q23 q24 q25 rfl W2 6 rfl (Nat.le_of_ble_eq_true rfl)
  have V_tw : Arv Z h2 tw kw .double (8 : Int32) [(.double (0 : UInt64)), (.double r1), (.double (FP.l2d (va + (own_e q ba) * vb))), (.double r2), (.double (FP.l2d va)), (.double (FP.l2d vb)), (.double (FP.l2d x)), (.double (FP.l2d vd))] (.double (0 : UInt64)) := V_tw
  replace Z0 := Nat.le_trans Z0 (Keep.of_wr W2).1
  replace K0 := K0.wr W2 (Or.inl (List.mem_of_getElem? (i := 1) rfl))
  replace E_a1 := E_a1.wr W2
  replace F_discounts := F_discounts.other W2 (Or.inl ne5.2.1)
  replace F_leaves := F_leaves.other W2 (Or.inl ne5.2.1)
  replace F_count := F_count.other W2 (Or.inl ne5.2.1)
  replace F_worth := F_worth.other W2 (Or.inl ne5.2.1)
  replace V_td := V_td.other W2 ne5.2.2.2.2
  replace V_tc := V_tc.other W2 ne5.2.2.1
  have N2 := Fr.snoc X2 N0 g_tw
  refine Go.st (pc' := 7) (S' := []) st2 ?_
  refine Go.st (pc' := 8) (S' := [(.int (6 : Int32))]) (fun t_ k_ => XS.iloadN X2.here hx rfl (hb hby d5_7) rfl k_) ?_
  refine Go.st (pc' := 9) (S' := [(.int (2 : Int32)), (.int (6 : Int32))]) (fun t_ k_ => XS.iconst X2.here hx rfl (hb hby d5_8) k_) ?_
  refine Go.st (pc' := 10) (S' := [(.int ((6 : Int32) / (2 : Int32)))]) (fun t_ k_ => XS.idiv X2.here hx rfl (hb hby d5_9) rfl (by decide) k_) ?_
  rw [show ((6 : Int32) / (2 : Int32)) = (3 : Int32) from by decide]
  refine Go.st (pc' := 12) (S' := []) (fun t_ k_ => XS.istore X2.here hx rfl (hb hby d5_10) rfl (l' := #[.val (.ref a1), .val (.int (6 : Int32)), .val (.double (FP.l2d x)), .second, .val (.int (3 : Int32)), .unset]) rfl k_) ?_
  refine Go.st (pc' := 14) (S' := [(.int (3 : Int32))]) (fun t_ k_ => XS.iload X2.here hx rfl (hb hby d5_12) rfl k_) ?_
  refine Go.st (pc' := 15) (S' := [(.int (1 : Int32)), (.int (3 : Int32))]) (fun t_ k_ => XS.iconst X2.here hx rfl (hb hby d5_14) k_) ?_
  refine Go.st (pc' := 18) (S' := []) (fun t_ k_ => XS.icmpNo X2.here hx rfl (hb hby d5_15) rfl (flt (by decide : ¬ ((3 : Int32) < (1 : Int32)))).1 k_) ?_
  refine Go.st (pc' := 19) (S' := [(.int (2 : Int32))]) (fun t_ k_ => XS.iconst X2.here hx rfl (hb hby d5_18) k_) ?_
  refine Go.st (pc' := 21) (S' := [(.int (3 : Int32)), (.int (2 : Int32))]) (fun t_ k_ => XS.iload X2.here hx rfl (hb hby d5_19) rfl k_) ?_
  refine Go.st (pc' := 22) (S' := [(.int ((2 : Int32) * (3 : Int32)))]) (fun t_ k_ => XS.imul X2.here hx rfl (hb hby d5_21) rfl k_) ?_
  rw [show ((2 : Int32) * (3 : Int32)) = (6 : Int32) from by decide]
  refine Go.st (pc' := 24) (S' := []) (fun t_ k_ => XS.istore X2.here hx rfl (hb hby d5_22) rfl (l' := #[.val (.ref a1), .val (.int (6 : Int32)), .val (.double (FP.l2d x)), .second, .val (.int (3 : Int32)), .val (.int (6 : Int32))]) rfl k_) ?_
  refine Go.st (pc' := 25) (S' := [(.ref a1)]) (fun t_ k_ => XS.aloadN X2.here hx rfl (hb hby d5_24) rfl rfl k_) ?_
  obtain ⟨T3, X3, e3, st3⟩ := getF X2 hx hZ hown (host := "") (Or.inl (wd hw 15 rfl)) Via.refl e2 F_count (g := (mkF m 25 #[.val (.ref a1), .val (.int (6 : Int32)), .val (.double (FP.l2d x)), .second, .val (.int (3 : Int32)), .val (.int (6 : Int32))] [(.ref a1)])) rfl rfl (hb hby d5_25)
  refine Go.st (pc' := 28) (S' := [(.ref tc)]) st3 ?_
  refine Go.st (pc' := 30) (S' := [(.int (3 : Int32)), (.ref tc)]) (fun t_ k_ => XS.iload X3.here hx rfl (hb hby d5_28) rfl k_) ?_
  refine Go.st (pc' := 31) (S' := [(.ref a1), (.int (3 : Int32)), (.ref tc)]) (fun t_ k_ => XS.aloadN X3.here hx rfl (hb hby d5_30) rfl rfl k_) ?_
  obtain ⟨T4, X4, e4, st4⟩ := getF X3 hx hZ hown (host := "") (Or.inl (wd hw 15 rfl)) Via.refl e3 F_count (g := (mkF m 31 #[.val (.ref a1), .val (.int (6 : Int32)), .val (.double (FP.l2d x)), .second, .val (.int (3 : Int32)), .val (.int (6 : Int32))] [(.ref a1), (.int (3 : Int32)), (.ref tc)])) rfl rfl (hb hby d5_31)
  refine Go.st (pc' := 34) (S' := [(.ref tc), (.int (3 : Int32)), (.ref tc)]) st4 ?_
  refine Go.st (pc' := 36) (S' := [(.int (6 : Int32)), (.ref tc), (.int (3 : Int32)), (.ref tc)]) (fun t_ k_ => XS.iload X4.here hx rfl (hb hby d5_34) rfl k_) ?_
  obtain ⟨cl5, Ar5, -, q5a, q5b, q5c, q5d⟩ := id V_tc
  refine Go.st (pc' := 37) (S' := [(.int (1 : Int32)), (.int (3 : Int32)), (.ref tc)]) (fun t_ k_ => X4.iaload hx (j := (6 : Int32)) (v := (.int (1 : Int32))) (by rw [e4]; exact Ar5.1) (State.isArrayOf_alike hZ.alike Ar5.2.1) Ar5.2.2 (inb_of q5a ⟨by decide, by decide⟩) (q5c.at (inb_of q5a ⟨by decide, by decide⟩) rfl) (g := (mkF m 36 #[.val (.ref a1), .val (.int (6 : Int32)), .val (.double (FP.l2d x)), .second, .val (.int (3 : Int32)), .val (.int (6 : Int32))] [(.int (6 : Int32)), (.ref tc), (.int (3 : Int32)), (.ref tc)])) rfl rfl (hb hby d5_36) t_ k_) ?_
  refine Go.st (pc' := 38) (S' := [(.ref a1), (.int (1 : Int32)), (.int (3 : Int32)), (.ref tc)]) (fun t_ k_ => XS.aloadN X4.here hx rfl (hb hby d5_37) rfl rfl k_) ?_
  obtain ⟨T6, X6, e6, st6⟩ := getF X4 hx hZ hown (host := "") (Or.inl (wd hw 15 rfl)) Via.refl e4 F_count (g := (mkF m 38 #[.val (.ref a1), .val (.int (6 : Int32)), .val (.double (FP.l2d x)), .second, .val (.int (3 : Int32)), .val (.int (6 : Int32))] [(.ref a1), (.int (1 : Int32)), (.int (3 : Int32)), (.ref tc)])) rfl rfl (hb hby d5_38)
  refine Go.st (pc' := 41) (S' := [(.ref tc), (.int (1 : Int32)), (.int (3 : Int32)), (.ref tc)]) st6 ?_
  refine Go.st (pc' := 43) (S' := [(.int (6 : Int32)), (.ref tc), (.int (1 : Int32)), (.int (3 : Int32)), (.ref tc)]) (fun t_ k_ => XS.iload X6.here hx rfl (hb hby d5_41) rfl k_) ?_
  refine Go.st (pc' := 44) (S' := [(.int (1 : Int32)), (.int (6 : Int32)), (.ref tc), (.int (1 : Int32)), (.int (3 : Int32)), (.ref tc)]) (fun t_ k_ => XS.iconst X6.here hx rfl (hb hby d5_43) k_) ?_
  refine Go.st (pc' := 45) (S' := [(.int ((6 : Int32) + (1 : Int32))), (.ref tc), (.int (1 : Int32)), (.int (3 : Int32)), (.ref tc)]) (fun t_ k_ => XS.iadd X6.here hx rfl (hb hby d5_44) rfl k_) ?_
  rw [show ((6 : Int32) + (1 : Int32)) = (7 : Int32) from by decide]
  obtain ⟨cl7, Ar7, -, q7a, q7b, q7c, q7d⟩ := id V_tc
  refine Go.st (pc' := 46) (S' := [(.int bd), (.int (1 : Int32)), (.int (3 : Int32)), (.ref tc)]) (fun t_ k_ => X6.iaload hx (j := (7 : Int32)) (v := (.int bd)) (by rw [e6]; exact Ar7.1) (State.isArrayOf_alike hZ.alike Ar7.2.1) Ar7.2.2 (inb_of q7a ⟨by decide, by decide⟩) (q7c.at (inb_of q7a ⟨by decide, by decide⟩) rfl) (g := (mkF m 45 #[.val (.ref a1), .val (.int (6 : Int32)), .val (.double (FP.l2d x)), .second, .val (.int (3 : Int32)), .val (.int (6 : Int32))] [(.int (7 : Int32)), (.ref tc), (.int (1 : Int32)), (.int (3 : Int32)), (.ref tc)])) rfl rfl (hb hby d5_45) t_ k_) ?_
  refine Go.st (pc' := 47) (S' := [(.int ((1 : Int32) + bd)), (.int (3 : Int32)), (.ref tc)]) (fun t_ k_ => XS.iadd X6.here hx rfl (hb hby d5_46) rfl k_) ?_
  obtain ⟨cl8, Ar8, q81, q82, q83, q84, q85⟩ := V_tc
  obtain ⟨T8, h8, X8, e8, W8, st8⟩ := stI X6 hx hZ e6 Ar8 (j := (3 : Int32)) (inb_of q82 ⟨by decide, by decide⟩) (g := (mkF m 47 #[.val (.ref a1), .val (.int (6 : Int32)), .val (.double (FP.l2d x)), .second, .val (.int (3 : Int32)), .val (.int (6 : Int32))] [(.int ((1 : Int32) + bd)), (.int (3 : Int32)), (.ref tc)])) rfl rfl (hb hby d5_47)
  replace V_tc := Arv.set Ar8 q81 q82 q83 q84 q85 rfl W8 3 rfl (Nat.le_of_ble_eq_true rfl)
  have V_tc : Arv Z h8 tc kc .int (8 : Int32) [(.int (0 : Int32)), (.int o1), (.int (ba + bb)), (.int ((1 : Int32) + bd)), (.int ba), (.int bb), (.int (1 : Int32)), (.int bd)] (.int (0 : Int32)) := V_tc
  replace Z0 := Nat.le_trans Z0 (Keep.of_wr W8).1
  replace K0 := K0.wr W8 (Or.inl (List.mem_of_getElem? (i := 0) rfl))
  replace E_a1 := E_a1.wr W8
  replace F_discounts := F_discounts.other W8 (Or.inl ne5.1)
  replace F_leaves := F_leaves.other W8 (Or.inl ne5.1)
  replace F_count := F_count.other W8 (Or.inl ne5.1)
  replace F_worth := F_worth.other W8 (Or.inl ne5.1)
  replace V_td := V_td.other W8 ne5.2.2.2.1
  replace V_tw := V_tw.other W8 (Ne.symm ne5.2.2.1)
  have N8 := Fr.snoc X8 N2 g_tc
  refine Go.st (pc' := 48) (S' := []) st8 ?_
  refine Go.st (pc' := 49) (S' := [(.ref a1)]) (fun t_ k_ => XS.aloadN X8.here hx rfl (hb hby d5_48) rfl rfl k_) ?_
  obtain ⟨T9, X9, e9, st9⟩ := getF X8 hx hZ hown (host := "") (Or.inl (wd hw 17 rfl)) Via.refl e8 F_worth (g := (mkF m 49 #[.val (.ref a1), .val (.int (6 : Int32)), .val (.double (FP.l2d x)), .second, .val (.int (3 : Int32)), .val (.int (6 : Int32))] [(.ref a1)])) rfl rfl (hb hby d5_49)
  refine Go.st (pc' := 52) (S' := [(.ref tw)]) st9 ?_
  refine Go.st (pc' := 54) (S' := [(.int (3 : Int32)), (.ref tw)]) (fun t_ k_ => XS.iload X9.here hx rfl (hb hby d5_52) rfl k_) ?_
  refine Go.st (pc' := 55) (S' := [(.ref a1), (.int (3 : Int32)), (.ref tw)]) (fun t_ k_ => XS.aloadN X9.here hx rfl (hb hby d5_54) rfl rfl k_) ?_
  obtain ⟨T10, X10, e10, st10⟩ := getF X9 hx hZ hown (host := "") (Or.inl (wd hw 17 rfl)) Via.refl e9 F_worth (g := (mkF m 55 #[.val (.ref a1), .val (.int (6 : Int32)), .val (.double (FP.l2d x)), .second, .val (.int (3 : Int32)), .val (.int (6 : Int32))] [(.ref a1), (.int (3 : Int32)), (.ref tw)])) rfl rfl (hb hby d5_55)
  refine Go.st (pc' := 58) (S' := [(.ref tw), (.int (3 : Int32)), (.ref tw)]) st10 ?_
  refine Go.st (pc' := 60) (S' := [(.int (6 : Int32)), (.ref tw), (.int (3 : Int32)), (.ref tw)]) (fun t_ k_ => XS.iload X10.here hx rfl (hb hby d5_58) rfl k_) ?_
  obtain ⟨cl11, Ar11, -, q11a, q11b, q11c, q11d⟩ := id V_tw
  refine Go.st (pc' := 61) (S' := [(.double (FP.l2d x)), (.int (3 : Int32)), (.ref tw)]) (fun t_ k_ => X10.daload hx (j := (6 : Int32)) (v := (.double (FP.l2d x))) (by rw [e10]; exact Ar11.1) (State.isArrayOf_alike hZ.alike Ar11.2.1) Ar11.2.2 (inb_of q11a ⟨by decide, by decide⟩) (q11c.at (inb_of q11a ⟨by decide, by decide⟩) rfl) (g := (mkF m 60 #[.val (.ref a1), .val (.int (6 : Int32)), .val (.double (FP.l2d x)), .second, .val (.int (3 : Int32)), .val (.int (6 : Int32))] [(.int (6 : Int32)), (.ref tw), (.int (3 : Int32)), (.ref tw)])) rfl rfl (hb hby d5_60) t_ k_) ?_
  refine Go.st (pc' := 62) (S' := [(.ref a1), (.double (FP.l2d x)), (.int (3 : Int32)), (.ref tw)]) (fun t_ k_ => XS.aloadN X10.here hx rfl (hb hby d5_61) rfl rfl k_) ?_
  obtain ⟨T12, X12, e12, st12⟩ := getF X10 hx hZ hown (host := "") (Or.inl (wd hw 10 rfl)) Via.refl e10 F_discounts (g := (mkF m 62 #[.val (.ref a1), .val (.int (6 : Int32)), .val (.double (FP.l2d x)), .second, .val (.int (3 : Int32)), .val (.int (6 : Int32))] [(.ref a1), (.double (FP.l2d x)), (.int (3 : Int32)), (.ref tw)])) rfl rfl (hb hby d5_62)
  refine Go.st (pc' := 65) (S' := [(.ref td), (.double (FP.l2d x)), (.int (3 : Int32)), (.ref tw)]) st12 ?_
  refine Go.st (pc' := 66) (S' := [(.ref a1), (.ref td), (.double (FP.l2d x)), (.int (3 : Int32)), (.ref tw)]) (fun t_ k_ => XS.aloadN X12.here hx rfl (hb hby d5_65) rfl rfl k_) ?_
  obtain ⟨T13, X13, e13, st13⟩ := getF X12 hx hZ hown (host := "") (Or.inl (wd hw 15 rfl)) Via.refl e12 F_count (g := (mkF m 66 #[.val (.ref a1), .val (.int (6 : Int32)), .val (.double (FP.l2d x)), .second, .val (.int (3 : Int32)), .val (.int (6 : Int32))] [(.ref a1), (.ref td), (.double (FP.l2d x)), (.int (3 : Int32)), (.ref tw)])) rfl rfl (hb hby d5_66)
  refine Go.st (pc' := 69) (S' := [(.ref tc), (.ref td), (.double (FP.l2d x)), (.int (3 : Int32)), (.ref tw)]) st13 ?_
  refine Go.st (pc' := 71) (S' := [(.int (6 : Int32)), (.ref tc), (.ref td), (.double (FP.l2d x)), (.int (3 : Int32)), (.ref tw)]) (fun t_ k_ => XS.iload X13.here hx rfl (hb hby d5_69) rfl k_) ?_
  obtain ⟨cl14, Ar14, -, q14a, q14b, q14c, q14d⟩ := id V_tc
  refine Go.st (pc' := 72) (S' := [(.int (1 : Int32)), (.ref td), (.double (FP.l2d x)), (.int (3 : Int32)), (.ref tw)]) (fun t_ k_ => X13.iaload hx (j := (6 : Int32)) (v := (.int (1 : Int32))) (by rw [e13]; exact Ar14.1) (State.isArrayOf_alike hZ.alike Ar14.2.1) Ar14.2.2 (inb_of q14a ⟨by decide, by decide⟩) (q14c.at (inb_of q14a ⟨by decide, by decide⟩) rfl) (g := (mkF m 71 #[.val (.ref a1), .val (.int (6 : Int32)), .val (.double (FP.l2d x)), .second, .val (.int (3 : Int32)), .val (.int (6 : Int32))] [(.int (6 : Int32)), (.ref tc), (.ref td), (.double (FP.l2d x)), (.int (3 : Int32)), (.ref tw)])) rfl rfl (hb hby d5_71) t_ k_) ?_
  obtain ⟨cl15, Ar15, -, q15a, q15b, q15c, q15d⟩ := id V_td
  refine Go.st (pc' := 73) (S' := [(.double (FP.l2d (own_e q (1 : Int32)))), (.double (FP.l2d x)), (.int (3 : Int32)), (.ref tw)]) (fun t_ k_ => X13.daload hx (j := (1 : Int32)) (v := (.double (FP.l2d (own_e q (1 : Int32))))) (by rw [e13]; exact Ar15.1) (State.isArrayOf_alike hZ.alike Ar15.2.1) Ar15.2.2 (inb_of q15a (own_c5 (own_h1 (Or.inr rfl)))) (q15c.at (inb_of q15a (own_c5 (own_h1 (Or.inr rfl)))) (own_dat (own_h1 (Or.inr rfl)))) (g := (mkF m 72 #[.val (.ref a1), .val (.int (6 : Int32)), .val (.double (FP.l2d x)), .second, .val (.int (3 : Int32)), .val (.int (6 : Int32))] [(.int (1 : Int32)), (.ref td), (.double (FP.l2d x)), (.int (3 : Int32)), (.ref tw)])) rfl rfl (hb hby d5_72) t_ k_) ?_
  refine Go.st (pc' := 74) (S' := [(.ref a1), (.double (FP.l2d (own_e q (1 : Int32)))), (.double (FP.l2d x)), (.int (3 : Int32)), (.ref tw)]) (fun t_ k_ => XS.aloadN X13.here hx rfl (hb hby d5_73) rfl rfl k_) ?_
  obtain ⟨T16, X16, e16, st16⟩ := getF X13 hx hZ hown (host := "") (Or.inl (wd hw 17 rfl)) Via.refl e13 F_worth (g := (mkF m 74 #[.val (.ref a1), .val (.int (6 : Int32)), .val (.double (FP.l2d x)), .second, .val (.int (3 : Int32)), .val (.int (6 : Int32))] [(.ref a1), (.double (FP.l2d (own_e q (1 : Int32)))), (.double (FP.l2d x)), (.int (3 : Int32)), (.ref tw)])) rfl rfl (hb hby d5_74)
  refine Go.st (pc' := 77) (S' := [(.ref tw), (.double (FP.l2d (own_e q (1 : Int32)))), (.double (FP.l2d x)), (.int (3 : Int32)), (.ref tw)]) st16 ?_
  refine Go.st (pc' := 79) (S' := [(.int (6 : Int32)), (.ref tw), (.double (FP.l2d (own_e q (1 : Int32)))), (.double (FP.l2d x)), (.int (3 : Int32)), (.ref tw)]) (fun t_ k_ => XS.iload X16.here hx rfl (hb hby d5_77) rfl k_) ?_
  refine Go.st (pc' := 80) (S' := [(.int (1 : Int32)), (.int (6 : Int32)), (.ref tw), (.double (FP.l2d (own_e q (1 : Int32)))), (.double (FP.l2d x)), (.int (3 : Int32)), (.ref tw)]) (fun t_ k_ => XS.iconst X16.here hx rfl (hb hby d5_79) k_) ?_
  refine Go.st (pc' := 81) (S' := [(.int ((6 : Int32) + (1 : Int32))), (.ref tw), (.double (FP.l2d (own_e q (1 : Int32)))), (.double (FP.l2d x)), (.int (3 : Int32)), (.ref tw)]) (fun t_ k_ => XS.iadd X16.here hx rfl (hb hby d5_80) rfl k_) ?_
  rw [show ((6 : Int32) + (1 : Int32)) = (7 : Int32) from by decide]
  obtain ⟨cl17, Ar17, -, q17a, q17b, q17c, q17d⟩ := id V_tw
  refine Go.st (pc' := 82) (S' := [(.double (FP.l2d vd)), (.double (FP.l2d (own_e q (1 : Int32)))), (.double (FP.l2d x)), (.int (3 : Int32)), (.ref tw)]) (fun t_ k_ => X16.daload hx (j := (7 : Int32)) (v := (.double (FP.l2d vd))) (by rw [e16]; exact Ar17.1) (State.isArrayOf_alike hZ.alike Ar17.2.1) Ar17.2.2 (inb_of q17a ⟨by decide, by decide⟩) (q17c.at (inb_of q17a ⟨by decide, by decide⟩) rfl) (g := (mkF m 81 #[.val (.ref a1), .val (.int (6 : Int32)), .val (.double (FP.l2d x)), .second, .val (.int (3 : Int32)), .val (.int (6 : Int32))] [(.int (7 : Int32)), (.ref tw), (.double (FP.l2d (own_e q (1 : Int32)))), (.double (FP.l2d x)), (.int (3 : Int32)), (.ref tw)])) rfl rfl (hb hby d5_81) t_ k_) ?_
  have fm18 := own_fma (a := x) (x := (own_e q (1 : Int32))) (y := vd) (A := 2147483648) (X := 256) (Y := 2147483648) hxb (own_eb hq (1 : Int32)) hvd (by decide) (by decide) rfl (by decide)
  refine Go.st (pc' := 83) (S' := [(.double (FP.dmul (FP.l2d (own_e q (1 : Int32))) (FP.l2d vd))), (.double (FP.l2d x)), (.int (3 : Int32)), (.ref tw)]) (fun t_ k_ => XS.dmulS X16.here hx rfl (hb hby d5_82) rfl fm18.2.1 rfl k_) ?_
  refine Go.st (pc' := 84) (S' := [(.double (FP.l2d (x + (own_e q (1 : Int32)) * vd))), (.int (3 : Int32)), (.ref tw)]) (fun t_ k_ => XS.daddS X16.here hx rfl (hb hby d5_83) rfl (nn_w fm18.1) fm18.1 k_) ?_
  obtain ⟨cl19, Ar19, q191, q192, q193, q194, q195⟩ := V_tw
  obtain ⟨T19, h19, X19, e19, W19, st19⟩ := stD X16 hx hZ e16 Ar19 (j := (3 : Int32)) (inb_of q192 ⟨by decide, by decide⟩) (g := (mkF m 84 #[.val (.ref a1), .val (.int (6 : Int32)), .val (.double (FP.l2d x)), .second, .val (.int (3 : Int32)), .val (.int (6 : Int32))] [(.double (FP.l2d (x + (own_e q (1 : Int32)) * vd))), (.int (3 : Int32)), (.ref tw)])) rfl rfl (hb hby d5_84)
  replace V_tw := Arv.set Ar19 q191 q192 q193 q194 q195 rfl W19 3 rfl (Nat.le_of_ble_eq_true rfl)
  have V_tw : Arv Z h19 tw kw .double (8 : Int32) [(.double (0 : UInt64)), (.double r1), (.double (FP.l2d (va + (own_e q ba) * vb))), (.double (FP.l2d (x + (own_e q (1 : Int32)) * vd))), (.double (FP.l2d va)), (.double (FP.l2d vb)), (.double (FP.l2d x)), (.double (FP.l2d vd))] (.double (0 : UInt64)) := V_tw
  replace Z0 := Nat.le_trans Z0 (Keep.of_wr W19).1
  replace K0 := K0.wr W19 (Or.inl (List.mem_of_getElem? (i := 1) rfl))
  replace E_a1 := E_a1.wr W19
  replace F_discounts := F_discounts.other W19 (Or.inl ne5.2.1)
  replace F_leaves := F_leaves.other W19 (Or.inl ne5.2.1)
  replace F_count := F_count.other W19 (Or.inl ne5.2.1)
  replace F_worth := F_worth.other W19 (Or.inl ne5.2.1)
  replace V_td := V_td.other W19 ne5.2.2.2.2
  replace V_tc := V_tc.other W19 ne5.2.2.1
  have N19 := Fr.snoc X19 N8 g_tw
  refine Go.st (pc' := 85) (S' := []) st19 ?_
  refine Go.st (pc' := 87) (S' := [(.int (3 : Int32))]) (fun t_ k_ => XS.iload X19.here hx rfl (hb hby d5_85) rfl k_) ?_
  refine Go.st (pc' := 88) (S' := [(.int (2 : Int32)), (.int (3 : Int32))]) (fun t_ k_ => XS.iconst X19.here hx rfl (hb hby d5_87) k_) ?_
  refine Go.st (pc' := 89) (S' := [(.int ((3 : Int32) / (2 : Int32)))]) (fun t_ k_ => XS.idiv X19.here hx rfl (hb hby d5_88) rfl (by decide) k_) ?_
  rw [show ((3 : Int32) / (2 : Int32)) = (1 : Int32) from by decide]
  refine Go.st (pc' := 91) (S' := []) (fun t_ k_ => XS.istore X19.here hx rfl (hb hby d5_89) rfl (l' := #[.val (.ref a1), .val (.int (6 : Int32)), .val (.double (FP.l2d x)), .second, .val (.int (1 : Int32)), .val (.int (6 : Int32))]) rfl k_) ?_
  refine Go.st (pc' := 12) (S' := []) (fun t_ k_ => XS.goto X19.here hx rfl (pc0 := 91) (pc' := 12) rfl (hb hby d5_91) (by decide) (by decide) k_) ?_
  refine Go.st (pc' := 14) (S' := [(.int (1 : Int32))]) (fun t_ k_ => XS.iload X19.here hx rfl (hb hby d5_12) rfl k_) ?_
  refine Go.st (pc' := 15) (S' := [(.int (1 : Int32)), (.int (1 : Int32))]) (fun t_ k_ => XS.iconst X19.here hx rfl (hb hby d5_14) k_) ?_
  refine Go.st (pc' := 18) (S' := []) (fun t_ k_ => XS.icmpNo X19.here hx rfl (hb hby d5_15) rfl (flt (by decide : ¬ ((1 : Int32) < (1 : Int32)))).1 k_) ?_
  refine Go.st (pc' := 19) (S' := [(.int (2 : Int32))]) (fun t_ k_ => XS.iconst X19.here hx rfl (hb hby d5_18) k_) ?_
  refine Go.st (pc' := 21) (S' := [(.int (1 : Int32)), (.int (2 : Int32))]) (fun t_ k_ => XS.iload X19.here hx rfl (hb hby d5_19) rfl k_) ?_
  refine Go.st (pc' := 22) (S' := [(.int ((2 : Int32) * (1 : Int32)))]) (fun t_ k_ => XS.imul X19.here hx rfl (hb hby d5_21) rfl k_) ?_
  rw [show ((2 : Int32) * (1 : Int32)) = (2 : Int32) from by decide]
  refine Go.st (pc' := 24) (S' := []) (fun t_ k_ => XS.istore X19.here hx rfl (hb hby d5_22) rfl (l' := #[.val (.ref a1), .val (.int (6 : Int32)), .val (.double (FP.l2d x)), .second, .val (.int (1 : Int32)), .val (.int (2 : Int32))]) rfl k_) ?_
  refine Go.st (pc' := 25) (S' := [(.ref a1)]) (fun t_ k_ => XS.aloadN X19.here hx rfl (hb hby d5_24) rfl rfl k_) ?_
  obtain ⟨T20, X20, e20, st20⟩ := getF X19 hx hZ hown (host := "") (Or.inl (wd hw 15 rfl)) Via.refl e19 F_count (g := (mkF m 25 #[.val (.ref a1), .val (.int (6 : Int32)), .val (.double (FP.l2d x)), .second, .val (.int (1 : Int32)), .val (.int (2 : Int32))] [(.ref a1)])) rfl rfl (hb hby d5_25)
  refine Go.st (pc' := 28) (S' := [(.ref tc)]) st20 ?_
  refine Go.st (pc' := 30) (S' := [(.int (1 : Int32)), (.ref tc)]) (fun t_ k_ => XS.iload X20.here hx rfl (hb hby d5_28) rfl k_) ?_
  refine Go.st (pc' := 31) (S' := [(.ref a1), (.int (1 : Int32)), (.ref tc)]) (fun t_ k_ => XS.aloadN X20.here hx rfl (hb hby d5_30) rfl rfl k_) ?_
  obtain ⟨T21, X21, e21, st21⟩ := getF X20 hx hZ hown (host := "") (Or.inl (wd hw 15 rfl)) Via.refl e20 F_count (g := (mkF m 31 #[.val (.ref a1), .val (.int (6 : Int32)), .val (.double (FP.l2d x)), .second, .val (.int (1 : Int32)), .val (.int (2 : Int32))] [(.ref a1), (.int (1 : Int32)), (.ref tc)])) rfl rfl (hb hby d5_31)
  refine Go.st (pc' := 34) (S' := [(.ref tc), (.int (1 : Int32)), (.ref tc)]) st21 ?_
  refine Go.st (pc' := 36) (S' := [(.int (2 : Int32)), (.ref tc), (.int (1 : Int32)), (.ref tc)]) (fun t_ k_ => XS.iload X21.here hx rfl (hb hby d5_34) rfl k_) ?_
  obtain ⟨cl22, Ar22, -, q22a, q22b, q22c, q22d⟩ := id V_tc
  refine Go.st (pc' := 37) (S' := [(.int (ba + bb)), (.int (1 : Int32)), (.ref tc)]) (fun t_ k_ => X21.iaload hx (j := (2 : Int32)) (v := (.int (ba + bb))) (by rw [e21]; exact Ar22.1) (State.isArrayOf_alike hZ.alike Ar22.2.1) Ar22.2.2 (inb_of q22a ⟨by decide, by decide⟩) (q22c.at (inb_of q22a ⟨by decide, by decide⟩) rfl) (g := (mkF m 36 #[.val (.ref a1), .val (.int (6 : Int32)), .val (.double (FP.l2d x)), .second, .val (.int (1 : Int32)), .val (.int (2 : Int32))] [(.int (2 : Int32)), (.ref tc), (.int (1 : Int32)), (.ref tc)])) rfl rfl (hb hby d5_36) t_ k_) ?_
  refine Go.st (pc' := 38) (S' := [(.ref a1), (.int (ba + bb)), (.int (1 : Int32)), (.ref tc)]) (fun t_ k_ => XS.aloadN X21.here hx rfl (hb hby d5_37) rfl rfl k_) ?_
  obtain ⟨T23, X23, e23, st23⟩ := getF X21 hx hZ hown (host := "") (Or.inl (wd hw 15 rfl)) Via.refl e21 F_count (g := (mkF m 38 #[.val (.ref a1), .val (.int (6 : Int32)), .val (.double (FP.l2d x)), .second, .val (.int (1 : Int32)), .val (.int (2 : Int32))] [(.ref a1), (.int (ba + bb)), (.int (1 : Int32)), (.ref tc)])) rfl rfl (hb hby d5_38)
  refine Go.st (pc' := 41) (S' := [(.ref tc), (.int (ba + bb)), (.int (1 : Int32)), (.ref tc)]) st23 ?_
  refine Go.st (pc' := 43) (S' := [(.int (2 : Int32)), (.ref tc), (.int (ba + bb)), (.int (1 : Int32)), (.ref tc)]) (fun t_ k_ => XS.iload X23.here hx rfl (hb hby d5_41) rfl k_) ?_
  refine Go.st (pc' := 44) (S' := [(.int (1 : Int32)), (.int (2 : Int32)), (.ref tc), (.int (ba + bb)), (.int (1 : Int32)), (.ref tc)]) (fun t_ k_ => XS.iconst X23.here hx rfl (hb hby d5_43) k_) ?_
  refine Go.st (pc' := 45) (S' := [(.int ((2 : Int32) + (1 : Int32))), (.ref tc), (.int (ba + bb)), (.int (1 : Int32)), (.ref tc)]) (fun t_ k_ => XS.iadd X23.here hx rfl (hb hby d5_44) rfl k_) ?_
  rw [show ((2 : Int32) + (1 : Int32)) = (3 : Int32) from by decide]
  obtain ⟨cl24, Ar24, -, q24a, q24b, q24c, q24d⟩ := id V_tc
  refine Go.st (pc' := 46) (S' := [(.int ((1 : Int32) + bd)), (.int (ba + bb)), (.int (1 : Int32)), (.ref tc)]) (fun t_ k_ => X23.iaload hx (j := (3 : Int32)) (v := (.int ((1 : Int32) + bd))) (by rw [e23]; exact Ar24.1) (State.isArrayOf_alike hZ.alike Ar24.2.1) Ar24.2.2 (inb_of q24a ⟨by decide, by decide⟩) (q24c.at (inb_of q24a ⟨by decide, by decide⟩) rfl) (g := (mkF m 45 #[.val (.ref a1), .val (.int (6 : Int32)), .val (.double (FP.l2d x)), .second, .val (.int (1 : Int32)), .val (.int (2 : Int32))] [(.int (3 : Int32)), (.ref tc), (.int (ba + bb)), (.int (1 : Int32)), (.ref tc)])) rfl rfl (hb hby d5_45) t_ k_) ?_
  refine Go.st (pc' := 47) (S' := [(.int ((ba + bb) + ((1 : Int32) + bd))), (.int (1 : Int32)), (.ref tc)]) (fun t_ k_ => XS.iadd X23.here hx rfl (hb hby d5_46) rfl k_) ?_
  obtain ⟨cl25, Ar25, q251, q252, q253, q254, q255⟩ := V_tc
  obtain ⟨T25, h25, X25, e25, W25, st25⟩ := stI X23 hx hZ e23 Ar25 (j := (1 : Int32)) (inb_of q252 ⟨by decide, by decide⟩) (g := (mkF m 47 #[.val (.ref a1), .val (.int (6 : Int32)), .val (.double (FP.l2d x)), .second, .val (.int (1 : Int32)), .val (.int (2 : Int32))] [(.int ((ba + bb) + ((1 : Int32) + bd))), (.int (1 : Int32)), (.ref tc)])) rfl rfl (hb hby d5_47)
  replace V_tc := Arv.set Ar25 q251 q252 q253 q254 q255 rfl W25 1 rfl (Nat.le_of_ble_eq_true rfl)
  have V_tc : Arv Z h25 tc kc .int (8 : Int32) [(.int (0 : Int32)), (.int ((ba + bb) + ((1 : Int32) + bd))), (.int (ba + bb)), (.int ((1 : Int32) + bd)), (.int ba), (.int bb), (.int (1 : Int32)), (.int bd)] (.int (0 : Int32)) := V_tc
  replace Z0 := Nat.le_trans Z0 (Keep.of_wr W25).1
  replace K0 := K0.wr W25 (Or.inl (List.mem_of_getElem? (i := 0) rfl))
  replace E_a1 := E_a1.wr W25
  replace F_discounts := F_discounts.other W25 (Or.inl ne5.1)
  replace F_leaves := F_leaves.other W25 (Or.inl ne5.1)
  replace F_count := F_count.other W25 (Or.inl ne5.1)
  replace F_worth := F_worth.other W25 (Or.inl ne5.1)
  replace V_td := V_td.other W25 ne5.2.2.2.1
  replace V_tw := V_tw.other W25 (Ne.symm ne5.2.2.1)
  have N25 := Fr.snoc X25 N19 g_tc
  refine Go.st (pc' := 48) (S' := []) st25 ?_
  refine Go.st (pc' := 49) (S' := [(.ref a1)]) (fun t_ k_ => XS.aloadN X25.here hx rfl (hb hby d5_48) rfl rfl k_) ?_
  obtain ⟨T26, X26, e26, st26⟩ := getF X25 hx hZ hown (host := "") (Or.inl (wd hw 17 rfl)) Via.refl e25 F_worth (g := (mkF m 49 #[.val (.ref a1), .val (.int (6 : Int32)), .val (.double (FP.l2d x)), .second, .val (.int (1 : Int32)), .val (.int (2 : Int32))] [(.ref a1)])) rfl rfl (hb hby d5_49)
  refine Go.st (pc' := 52) (S' := [(.ref tw)]) st26 ?_
  refine Go.st (pc' := 54) (S' := [(.int (1 : Int32)), (.ref tw)]) (fun t_ k_ => XS.iload X26.here hx rfl (hb hby d5_52) rfl k_) ?_
  refine Go.st (pc' := 55) (S' := [(.ref a1), (.int (1 : Int32)), (.ref tw)]) (fun t_ k_ => XS.aloadN X26.here hx rfl (hb hby d5_54) rfl rfl k_) ?_
  obtain ⟨T27, X27, e27, st27⟩ := getF X26 hx hZ hown (host := "") (Or.inl (wd hw 17 rfl)) Via.refl e26 F_worth (g := (mkF m 55 #[.val (.ref a1), .val (.int (6 : Int32)), .val (.double (FP.l2d x)), .second, .val (.int (1 : Int32)), .val (.int (2 : Int32))] [(.ref a1), (.int (1 : Int32)), (.ref tw)])) rfl rfl (hb hby d5_55)
  refine Go.st (pc' := 58) (S' := [(.ref tw), (.int (1 : Int32)), (.ref tw)]) st27 ?_
  refine Go.st (pc' := 60) (S' := [(.int (2 : Int32)), (.ref tw), (.int (1 : Int32)), (.ref tw)]) (fun t_ k_ => XS.iload X27.here hx rfl (hb hby d5_58) rfl k_) ?_
  obtain ⟨cl28, Ar28, -, q28a, q28b, q28c, q28d⟩ := id V_tw
  refine Go.st (pc' := 61) (S' := [(.double (FP.l2d (va + (own_e q ba) * vb))), (.int (1 : Int32)), (.ref tw)]) (fun t_ k_ => X27.daload hx (j := (2 : Int32)) (v := (.double (FP.l2d (va + (own_e q ba) * vb)))) (by rw [e27]; exact Ar28.1) (State.isArrayOf_alike hZ.alike Ar28.2.1) Ar28.2.2 (inb_of q28a ⟨by decide, by decide⟩) (q28c.at (inb_of q28a ⟨by decide, by decide⟩) rfl) (g := (mkF m 60 #[.val (.ref a1), .val (.int (6 : Int32)), .val (.double (FP.l2d x)), .second, .val (.int (1 : Int32)), .val (.int (2 : Int32))] [(.int (2 : Int32)), (.ref tw), (.int (1 : Int32)), (.ref tw)])) rfl rfl (hb hby d5_60) t_ k_) ?_
  refine Go.st (pc' := 62) (S' := [(.ref a1), (.double (FP.l2d (va + (own_e q ba) * vb))), (.int (1 : Int32)), (.ref tw)]) (fun t_ k_ => XS.aloadN X27.here hx rfl (hb hby d5_61) rfl rfl k_) ?_
  obtain ⟨T29, X29, e29, st29⟩ := getF X27 hx hZ hown (host := "") (Or.inl (wd hw 10 rfl)) Via.refl e27 F_discounts (g := (mkF m 62 #[.val (.ref a1), .val (.int (6 : Int32)), .val (.double (FP.l2d x)), .second, .val (.int (1 : Int32)), .val (.int (2 : Int32))] [(.ref a1), (.double (FP.l2d (va + (own_e q ba) * vb))), (.int (1 : Int32)), (.ref tw)])) rfl rfl (hb hby d5_62)
  refine Go.st (pc' := 65) (S' := [(.ref td), (.double (FP.l2d (va + (own_e q ba) * vb))), (.int (1 : Int32)), (.ref tw)]) st29 ?_
  refine Go.st (pc' := 66) (S' := [(.ref a1), (.ref td), (.double (FP.l2d (va + (own_e q ba) * vb))), (.int (1 : Int32)), (.ref tw)]) (fun t_ k_ => XS.aloadN X29.here hx rfl (hb hby d5_65) rfl rfl k_) ?_
  obtain ⟨T30, X30, e30, st30⟩ := getF X29 hx hZ hown (host := "") (Or.inl (wd hw 15 rfl)) Via.refl e29 F_count (g := (mkF m 66 #[.val (.ref a1), .val (.int (6 : Int32)), .val (.double (FP.l2d x)), .second, .val (.int (1 : Int32)), .val (.int (2 : Int32))] [(.ref a1), (.ref td), (.double (FP.l2d (va + (own_e q ba) * vb))), (.int (1 : Int32)), (.ref tw)])) rfl rfl (hb hby d5_66)
  refine Go.st (pc' := 69) (S' := [(.ref tc), (.ref td), (.double (FP.l2d (va + (own_e q ba) * vb))), (.int (1 : Int32)), (.ref tw)]) st30 ?_
  refine Go.st (pc' := 71) (S' := [(.int (2 : Int32)), (.ref tc), (.ref td), (.double (FP.l2d (va + (own_e q ba) * vb))), (.int (1 : Int32)), (.ref tw)]) (fun t_ k_ => XS.iload X30.here hx rfl (hb hby d5_69) rfl k_) ?_
  obtain ⟨cl31, Ar31, -, q31a, q31b, q31c, q31d⟩ := id V_tc
  refine Go.st (pc' := 72) (S' := [(.int (ba + bb)), (.ref td), (.double (FP.l2d (va + (own_e q ba) * vb))), (.int (1 : Int32)), (.ref tw)]) (fun t_ k_ => X30.iaload hx (j := (2 : Int32)) (v := (.int (ba + bb))) (by rw [e30]; exact Ar31.1) (State.isArrayOf_alike hZ.alike Ar31.2.1) Ar31.2.2 (inb_of q31a ⟨by decide, by decide⟩) (q31c.at (inb_of q31a ⟨by decide, by decide⟩) rfl) (g := (mkF m 71 #[.val (.ref a1), .val (.int (6 : Int32)), .val (.double (FP.l2d x)), .second, .val (.int (1 : Int32)), .val (.int (2 : Int32))] [(.int (2 : Int32)), (.ref tc), (.ref td), (.double (FP.l2d (va + (own_e q ba) * vb))), (.int (1 : Int32)), (.ref tw)])) rfl rfl (hb hby d5_71) t_ k_) ?_
  obtain ⟨cl32, Ar32, -, q32a, q32b, q32c, q32d⟩ := id V_td
  refine Go.st (pc' := 73) (S' := [(.double (FP.l2d (own_e q (ba + bb)))), (.double (FP.l2d (va + (own_e q ba) * vb))), (.int (1 : Int32)), (.ref tw)]) (fun t_ k_ => X30.daload hx (j := (ba + bb)) (v := (.double (FP.l2d (own_e q (ba + bb))))) (by rw [e30]; exact Ar32.1) (State.isArrayOf_alike hZ.alike Ar32.2.1) Ar32.2.2 (inb_of q32a (own_c5 (own_hs hba hbb))) (q32c.at (inb_of q32a (own_c5 (own_hs hba hbb))) (own_dat (own_hs hba hbb))) (g := (mkF m 72 #[.val (.ref a1), .val (.int (6 : Int32)), .val (.double (FP.l2d x)), .second, .val (.int (1 : Int32)), .val (.int (2 : Int32))] [(.int (ba + bb)), (.ref td), (.double (FP.l2d (va + (own_e q ba) * vb))), (.int (1 : Int32)), (.ref tw)])) rfl rfl (hb hby d5_72) t_ k_) ?_
  refine Go.st (pc' := 74) (S' := [(.ref a1), (.double (FP.l2d (own_e q (ba + bb)))), (.double (FP.l2d (va + (own_e q ba) * vb))), (.int (1 : Int32)), (.ref tw)]) (fun t_ k_ => XS.aloadN X30.here hx rfl (hb hby d5_73) rfl rfl k_) ?_
  obtain ⟨T33, X33, e33, st33⟩ := getF X30 hx hZ hown (host := "") (Or.inl (wd hw 17 rfl)) Via.refl e30 F_worth (g := (mkF m 74 #[.val (.ref a1), .val (.int (6 : Int32)), .val (.double (FP.l2d x)), .second, .val (.int (1 : Int32)), .val (.int (2 : Int32))] [(.ref a1), (.double (FP.l2d (own_e q (ba + bb)))), (.double (FP.l2d (va + (own_e q ba) * vb))), (.int (1 : Int32)), (.ref tw)])) rfl rfl (hb hby d5_74)
  refine Go.st (pc' := 77) (S' := [(.ref tw), (.double (FP.l2d (own_e q (ba + bb)))), (.double (FP.l2d (va + (own_e q ba) * vb))), (.int (1 : Int32)), (.ref tw)]) st33 ?_
  refine Go.st (pc' := 79) (S' := [(.int (2 : Int32)), (.ref tw), (.double (FP.l2d (own_e q (ba + bb)))), (.double (FP.l2d (va + (own_e q ba) * vb))), (.int (1 : Int32)), (.ref tw)]) (fun t_ k_ => XS.iload X33.here hx rfl (hb hby d5_77) rfl k_) ?_
  refine Go.st (pc' := 80) (S' := [(.int (1 : Int32)), (.int (2 : Int32)), (.ref tw), (.double (FP.l2d (own_e q (ba + bb)))), (.double (FP.l2d (va + (own_e q ba) * vb))), (.int (1 : Int32)), (.ref tw)]) (fun t_ k_ => XS.iconst X33.here hx rfl (hb hby d5_79) k_) ?_
  refine Go.st (pc' := 81) (S' := [(.int ((2 : Int32) + (1 : Int32))), (.ref tw), (.double (FP.l2d (own_e q (ba + bb)))), (.double (FP.l2d (va + (own_e q ba) * vb))), (.int (1 : Int32)), (.ref tw)]) (fun t_ k_ => XS.iadd X33.here hx rfl (hb hby d5_80) rfl k_) ?_
  rw [show ((2 : Int32) + (1 : Int32)) = (3 : Int32) from by decide]
  obtain ⟨cl34, Ar34, -, q34a, q34b, q34c, q34d⟩ := id V_tw
  refine Go.st (pc' := 82) (S' := [(.double (FP.l2d (x + (own_e q (1 : Int32)) * vd))), (.double (FP.l2d (own_e q (ba + bb)))), (.double (FP.l2d (va + (own_e q ba) * vb))), (.int (1 : Int32)), (.ref tw)]) (fun t_ k_ => X33.daload hx (j := (3 : Int32)) (v := (.double (FP.l2d (x + (own_e q (1 : Int32)) * vd)))) (by rw [e33]; exact Ar34.1) (State.isArrayOf_alike hZ.alike Ar34.2.1) Ar34.2.2 (inb_of q34a ⟨by decide, by decide⟩) (q34c.at (inb_of q34a ⟨by decide, by decide⟩) rfl) (g := (mkF m 81 #[.val (.ref a1), .val (.int (6 : Int32)), .val (.double (FP.l2d x)), .second, .val (.int (1 : Int32)), .val (.int (2 : Int32))] [(.int (3 : Int32)), (.ref tw), (.double (FP.l2d (own_e q (ba + bb)))), (.double (FP.l2d (va + (own_e q ba) * vb))), (.int (1 : Int32)), (.ref tw)])) rfl rfl (hb hby d5_81) t_ k_) ?_
  have fm35 := own_fma (a := (va + (own_e q ba) * vb)) (x := (own_e q (ba + bb))) (y := (x + (own_e q (1 : Int32)) * vd)) (A := 1099511627776) (X := 256) (Y := 551903297536) (own_nb hq ba hva hvb) (own_eb hq (ba + bb)) fm18.2.2 (by decide) (by decide) rfl (by decide)
  refine Go.st (pc' := 83) (S' := [(.double (FP.dmul (FP.l2d (own_e q (ba + bb))) (FP.l2d (x + (own_e q (1 : Int32)) * vd)))), (.double (FP.l2d (va + (own_e q ba) * vb))), (.int (1 : Int32)), (.ref tw)]) (fun t_ k_ => XS.dmulS X33.here hx rfl (hb hby d5_82) rfl fm35.2.1 rfl k_) ?_
  refine Go.st (pc' := 84) (S' := [(.double (FP.l2d ((va + (own_e q ba) * vb) + (own_e q (ba + bb)) * (x + (own_e q (1 : Int32)) * vd)))), (.int (1 : Int32)), (.ref tw)]) (fun t_ k_ => XS.daddS X33.here hx rfl (hb hby d5_83) rfl (nn_w fm35.1) fm35.1 k_) ?_
  obtain ⟨cl36, Ar36, q361, q362, q363, q364, q365⟩ := V_tw
  obtain ⟨T36, h36, X36, e36, W36, st36⟩ := stD X33 hx hZ e33 Ar36 (j := (1 : Int32)) (inb_of q362 ⟨by decide, by decide⟩) (g := (mkF m 84 #[.val (.ref a1), .val (.int (6 : Int32)), .val (.double (FP.l2d x)), .second, .val (.int (1 : Int32)), .val (.int (2 : Int32))] [(.double (FP.l2d ((va + (own_e q ba) * vb) + (own_e q (ba + bb)) * (x + (own_e q (1 : Int32)) * vd)))), (.int (1 : Int32)), (.ref tw)])) rfl rfl (hb hby d5_84)
  replace V_tw := Arv.set Ar36 q361 q362 q363 q364 q365 rfl W36 1 rfl (Nat.le_of_ble_eq_true rfl)
  have V_tw : Arv Z h36 tw kw .double (8 : Int32) [(.double (0 : UInt64)), (.double (FP.l2d ((va + (own_e q ba) * vb) + (own_e q (ba + bb)) * (x + (own_e q (1 : Int32)) * vd)))), (.double (FP.l2d (va + (own_e q ba) * vb))), (.double (FP.l2d (x + (own_e q (1 : Int32)) * vd))), (.double (FP.l2d va)), (.double (FP.l2d vb)), (.double (FP.l2d x)), (.double (FP.l2d vd))] (.double (0 : UInt64)) := V_tw
  replace Z0 := Nat.le_trans Z0 (Keep.of_wr W36).1
  replace K0 := K0.wr W36 (Or.inl (List.mem_of_getElem? (i := 1) rfl))
  replace E_a1 := E_a1.wr W36
  replace F_discounts := F_discounts.other W36 (Or.inl ne5.2.1)
  replace F_leaves := F_leaves.other W36 (Or.inl ne5.2.1)
  replace F_count := F_count.other W36 (Or.inl ne5.2.1)
  replace F_worth := F_worth.other W36 (Or.inl ne5.2.1)
  replace V_td := V_td.other W36 ne5.2.2.2.2
  replace V_tc := V_tc.other W36 ne5.2.2.1
  have N36 := Fr.snoc X36 N25 g_tw
  refine Go.st (pc' := 85) (S' := []) st36 ?_
  refine Go.st (pc' := 87) (S' := [(.int (1 : Int32))]) (fun t_ k_ => XS.iload X36.here hx rfl (hb hby d5_85) rfl k_) ?_
  refine Go.st (pc' := 88) (S' := [(.int (2 : Int32)), (.int (1 : Int32))]) (fun t_ k_ => XS.iconst X36.here hx rfl (hb hby d5_87) k_) ?_
  refine Go.st (pc' := 89) (S' := [(.int ((1 : Int32) / (2 : Int32)))]) (fun t_ k_ => XS.idiv X36.here hx rfl (hb hby d5_88) rfl (by decide) k_) ?_
  rw [show ((1 : Int32) / (2 : Int32)) = (0 : Int32) from by decide]
  refine Go.st (pc' := 91) (S' := []) (fun t_ k_ => XS.istore X36.here hx rfl (hb hby d5_89) rfl (l' := #[.val (.ref a1), .val (.int (6 : Int32)), .val (.double (FP.l2d x)), .second, .val (.int (0 : Int32)), .val (.int (2 : Int32))]) rfl k_) ?_
  refine Go.st (pc' := 12) (S' := []) (fun t_ k_ => XS.goto X36.here hx rfl (pc0 := 91) (pc' := 12) rfl (hb hby d5_91) (by decide) (by decide) k_) ?_
  refine Go.st (pc' := 14) (S' := [(.int (0 : Int32))]) (fun t_ k_ => XS.iload X36.here hx rfl (hb hby d5_12) rfl k_) ?_
  refine Go.st (pc' := 15) (S' := [(.int (1 : Int32)), (.int (0 : Int32))]) (fun t_ k_ => XS.iconst X36.here hx rfl (hb hby d5_14) k_) ?_
  refine Go.st (pc' := 94) (S' := []) (fun t_ k_ => XS.icmpYes X36.here hx rfl (pc0 := 15) (pc' := 94) rfl (hb hby d5_15) rfl (tlt (by decide : ((0 : Int32) < (1 : Int32)))).1 (by decide) (by decide) k_) ?_
  exact Go.retV X36 hx hlk hret (hb hby d5_94) (by decide) (by decide) (by rw [e36]; exact ⟨rfl, N36, K0, V_tc, V_tw⟩)

def Qadd2 (Z : State) (tc tw : Addr) (kc kw : ClassId) (q x va vb vc vd : Int64) (ba bb bd : Int32) (h0 : Heap) (n0 : Nat) (v : Option Value) (h : Heap) (L : List Loc) : Prop := v = none ∧ Fr n0 L ∧ Keep h0 h [tc, tw] ∧ Arv Z h tc kc .int (8 : Int32) [(.int (0 : Int32)), (.int ((ba + bb) + ((1 : Int32) + bd))), (.int (ba + bb)), (.int ((1 : Int32) + bd)), (.int ba), (.int bb), (.int (1 : Int32)), (.int bd)] (.int (0 : Int32)) ∧ Arv Z h tw kw .double (8 : Int32) [(.double (0 : UInt64)), (.double (FP.l2d ((va + (own_e q ba) * vb) + (own_e q (ba + bb)) * (x + (own_e q (1 : Int32)) * vd)))), (.double (FP.l2d (va + (own_e q ba) * vb))), (.double (FP.l2d (x + (own_e q (1 : Int32)) * vd))), (.double (FP.l2d va)), (.double (FP.l2d vb)), (.double (FP.l2d x)), (.double (FP.l2d vd))] (.double (0 : UInt64))
def roomadd2 : Room := { frames := 1, cells := 0, slots := 0, locals := 17 }
theorem rmadd2 (l : Launch) (Z : State) (a0 : Array Value) (hw : ∀ d ∈ tables_1, d.before a0 Z = true) (ws : List Jvm.Cond) (a1 td tc tw : Addr) (kd kc kw : ClassId) (q x va vb vc vd : Int64) (ba bb bd : Int32) (h0 : Heap) (n0 : Nat) (Z0 : n0 ≤ h0.size) (E_a1 : Exa Z h0 a1 "com/example/placewright/placewright/GrowingRanks") (F_discounts : Fld Z h0 a1 "com/example/placewright/placewright/GrowingRanks" "discounts" "[D" (.ref td)) (F_leaves : Fld Z h0 a1 "com/example/placewright/placewright/GrowingRanks" "leaves" "I" (.int (4 : Int32))) (F_count : Fld Z h0 a1 "com/example/placewright/placewright/GrowingRanks" "count" "[I" (.ref tc)) (F_worth : Fld Z h0 a1 "com/example/placewright/placewright/GrowingRanks" "worth" "[D" (.ref tw)) (V_td : Arv Z h0 td kd .double (5 : Int32) [(.double (FP.l2d 1)), (.double (FP.l2d q)), (.double (FP.l2d (q * q))), (.double (FP.l2d ((q * q) * q))), (.double (FP.l2d (((q * q) * q) * q)))] (.double (0 : UInt64))) (V_tc : Arv Z h0 tc kc .int (8 : Int32) [(.int (0 : Int32)), (.int ((ba + bb) + ((0 : Int32) + bd))), (.int (ba + bb)), (.int ((0 : Int32) + bd)), (.int ba), (.int bb), (.int (0 : Int32)), (.int bd)] (.int (0 : Int32))) (V_tw : Arv Z h0 tw kw .double (8 : Int32) [(.double (0 : UInt64)), (.double (FP.l2d ((va + (own_e q ba) * vb) + (own_e q (ba + bb)) * (vc + (own_e q (0 : Int32)) * vd)))), (.double (FP.l2d (va + (own_e q ba) * vb))), (.double (FP.l2d (vc + (own_e q (0 : Int32)) * vd))), (.double (FP.l2d va)), (.double (FP.l2d vb)), (.double (FP.l2d vc)), (.double (FP.l2d vd))] (.double (0 : UInt64))) (ne5 : a1 ≠ tc ∧ a1 ≠ tw ∧ tc ≠ tw ∧ td ≠ tc ∧ td ≠ tw) (g_tc : n0 ≤ tc) (g_tw : n0 ≤ tw) (hq : own_b 4 q) (hxb : own_b 2147483648 x) (hva : own_b 2147483648 va) (hvb : own_b 2147483648 vb) (hvc : own_b 2147483648 vc) (hvd : own_b 2147483648 vd) (hba : ba = 0 ∨ ba = 1) (hbb : bb = 0 ∨ bb = 1) (hbd : bd = 0 ∨ bd = 1) :
    MetFree l (⟨"com/example/placewright/placewright/GrowingRanks", "add", "(ID)V"⟩ : MethodName) (head1 (Jvm.Cond.code (⟨"com/example/placewright/placewright/GrowingRanks", "add", "(ID)V"⟩ : MethodName) prog_20_method_3_code 5 none :: ws) roomadd2) (fun aa_ U_ => aa_ = #[(.ref a1), (.int (2 : Int32)), (.double (FP.l2d x))] ∧ Z.Warmed39 U_.vm ∧ U_.heap = h0) (fun _ _ _ _ _ => True) (fun _ U_ o_ W_ => ∃ v_ L_, o_ = .returned v_ ∧ (Qadd2 Z tc tw kc kw q x va vb vc vd ba bb bd h0 n0) v_ W_.heap L_ ∧ FrameEnd U_ o_ W_ L_ roomadd2.cells roomadd2.slots) := by
  refine own_met (Q := (Qadd2 Z tc tw kc kw q x va vb vc vd ba bb bd h0 n0)) (L0 := #[.val (.ref a1), .val (.int (2 : Int32)), .val (.double (FP.l2d x)), .second, .unset]) (plainFor_of_name pn_0) (fun m => by first | (simp [entryFrame, mkF, argsToLocals, Value.category]; done) | rfl) ?_
  intro p e s m below meth c T0 X0 hx hby hml hown hnm hret hlk hZ e0
  have N0 := Fr.nil n0
  have K0 := Keep.refl h0 [tc, tw]
  refine Go.st (pc' := 1) (S' := [(.ref a1)]) (fun t_ k_ => XS.aloadN X0.here hx rfl (hb hby d4_0) rfl rfl k_) ?_
  obtain ⟨T1, X1, e1, st1⟩ := getF X0 hx hZ hown (host := "") (Or.inl (wd hw 12 rfl)) Via.refl e0 F_leaves (g := (mkF m 1 #[.val (.ref a1), .val (.int (2 : Int32)), .val (.double (FP.l2d x)), .second, .unset] [(.ref a1)])) rfl rfl (hb hby d4_1)
  refine Go.st (pc' := 4) (S' := [(.int (4 : Int32))]) st1 ?_
  refine Go.st (pc' := 5) (S' := [(.int (2 : Int32)), (.int (4 : Int32))]) (fun t_ k_ => XS.iloadN X1.here hx rfl (hb hby d4_4) rfl k_) ?_
  refine Go.st (pc' := 6) (S' := [(.int ((4 : Int32) + (2 : Int32)))]) (fun t_ k_ => XS.iadd X1.here hx rfl (hb hby d4_5) rfl k_) ?_
  rw [show ((4 : Int32) + (2 : Int32)) = (6 : Int32) from by decide]
  refine Go.st (pc' := 8) (S' := []) (fun t_ k_ => XS.istore X1.here hx rfl (hb hby d4_6) rfl (l' := #[.val (.ref a1), .val (.int (2 : Int32)), .val (.double (FP.l2d x)), .second, .val (.int (6 : Int32))]) rfl k_) ?_
  refine Go.st (pc' := 9) (S' := [(.ref a1)]) (fun t_ k_ => XS.aloadN X1.here hx rfl (hb hby d4_8) rfl rfl k_) ?_
  obtain ⟨T2, X2, e2, st2⟩ := getF X1 hx hZ hown (host := "") (Or.inl (wd hw 15 rfl)) Via.refl e1 F_count (g := (mkF m 9 #[.val (.ref a1), .val (.int (2 : Int32)), .val (.double (FP.l2d x)), .second, .val (.int (6 : Int32))] [(.ref a1)])) rfl rfl (hb hby d4_9)
  refine Go.st (pc' := 12) (S' := [(.ref tc)]) st2 ?_
  refine Go.st (pc' := 14) (S' := [(.int (6 : Int32)), (.ref tc)]) (fun t_ k_ => XS.iload X2.here hx rfl (hb hby d4_12) rfl k_) ?_
  obtain ⟨cl3, Ar3, -, q3a, q3b, q3c, q3d⟩ := id V_tc
  refine Go.st (pc' := 15) (S' := [(.int (0 : Int32))]) (fun t_ k_ => X2.iaload hx (j := (6 : Int32)) (v := (.int (0 : Int32))) (by rw [e2]; exact Ar3.1) (State.isArrayOf_alike hZ.alike Ar3.2.1) Ar3.2.2 (inb_of q3a ⟨by decide, by decide⟩) (q3c.at (inb_of q3a ⟨by decide, by decide⟩) rfl) (g := (mkF m 14 #[.val (.ref a1), .val (.int (2 : Int32)), .val (.double (FP.l2d x)), .second, .val (.int (6 : Int32))] [(.int (6 : Int32)), (.ref tc)])) rfl rfl (hb hby d4_14) t_ k_) ?_
  refine Go.st (pc' := 32) (S' := []) (fun t_ k_ => XS.ifYes X2.here hx rfl (pc0 := 15) (pc' := 32) rfl (hb hby d4_15) rfl ((if0 _ _).trans (teq (by decide : ((0 : Int32) = (0 : Int32)))).1) (by decide) (by decide) k_) ?_
  refine Go.st (pc' := 33) (S' := [(.ref a1)]) (fun t_ k_ => XS.aloadN X2.here hx rfl (hb hby d4_32) rfl rfl k_) ?_
  obtain ⟨T4, X4, e4, st4⟩ := getF X2 hx hZ hown (host := "") (Or.inl (wd hw 15 rfl)) Via.refl e2 F_count (g := (mkF m 33 #[.val (.ref a1), .val (.int (2 : Int32)), .val (.double (FP.l2d x)), .second, .val (.int (6 : Int32))] [(.ref a1)])) rfl rfl (hb hby d4_33)
  refine Go.st (pc' := 36) (S' := [(.ref tc)]) st4 ?_
  refine Go.st (pc' := 38) (S' := [(.int (6 : Int32)), (.ref tc)]) (fun t_ k_ => XS.iload X4.here hx rfl (hb hby d4_36) rfl k_) ?_
  refine Go.st (pc' := 39) (S' := [(.int (1 : Int32)), (.int (6 : Int32)), (.ref tc)]) (fun t_ k_ => XS.iconst X4.here hx rfl (hb hby d4_38) k_) ?_
  obtain ⟨cl5, Ar5, q51, q52, q53, q54, q55⟩ := V_tc
  obtain ⟨T5, h5, X5, e5, W5, st5⟩ := stI X4 hx hZ e4 Ar5 (j := (6 : Int32)) (inb_of q52 ⟨by decide, by decide⟩) (g := (mkF m 39 #[.val (.ref a1), .val (.int (2 : Int32)), .val (.double (FP.l2d x)), .second, .val (.int (6 : Int32))] [(.int (1 : Int32)), (.int (6 : Int32)), (.ref tc)])) rfl rfl (hb hby d4_39)
  replace V_tc := Arv.set Ar5 q51 q52 q53 q54 q55 rfl W5 6 rfl (Nat.le_of_ble_eq_true rfl)
  have V_tc : Arv Z h5 tc kc .int (8 : Int32) [(.int (0 : Int32)), (.int ((ba + bb) + ((0 : Int32) + bd))), (.int (ba + bb)), (.int ((0 : Int32) + bd)), (.int ba), (.int bb), (.int (1 : Int32)), (.int bd)] (.int (0 : Int32)) := V_tc
  replace Z0 := Nat.le_trans Z0 (Keep.of_wr W5).1
  replace K0 := K0.wr W5 (Or.inl (List.mem_of_getElem? (i := 0) rfl))
  replace E_a1 := E_a1.wr W5
  replace F_discounts := F_discounts.other W5 (Or.inl ne5.1)
  replace F_leaves := F_leaves.other W5 (Or.inl ne5.1)
  replace F_count := F_count.other W5 (Or.inl ne5.1)
  replace F_worth := F_worth.other W5 (Or.inl ne5.1)
  replace V_td := V_td.other W5 ne5.2.2.2.1
  replace V_tw := V_tw.other W5 (Ne.symm ne5.2.2.1)
  have N5 := Fr.snoc X5 N0 g_tc
  refine Go.st (pc' := 40) (S' := []) st5 ?_
  refine Go.st (pc' := 41) (S' := [(.ref a1)]) (fun t_ k_ => XS.aloadN X5.here hx rfl (hb hby d4_40) rfl rfl k_) ?_
  refine Go.st (pc' := 43) (S' := [(.int (6 : Int32)), (.ref a1)]) (fun t_ k_ => XS.iload X5.here hx rfl (hb hby d4_41) rfl k_) ?_
  refine Go.st (pc' := 44) (S' := [(.double (FP.l2d x)), (.int (6 : Int32)), (.ref a1)]) (fun t_ k_ => XS.dloadN X5.here hx rfl (hb hby d4_43) rfl k_) ?_
  obtain ⟨cq6, q6, q6'⟩ := E_a1.cell
  obtain ⟨_, _, ⟨T6, L6, k6, n6⟩, -, X6, ⟨Lc6, hQ6, l6, y6, z6⟩, st6⟩ := X5.privateBack hx (y := (⟨"com/example/placewright/placewright/GrowingRanks", "set", "(ID)V"⟩ : MethodName)) hown (mvT hZ (wd hw 31 rfl)) (mvT hZ (wd hw 32 rfl)) (own_selQ (Cond.privateMethod_at (mvP hZ (wd hw 33 rfl) (args := #[]))) (mvT hZ (wd hw 32 rfl)) (by decide) (mvT hZ (wd hw 22 rfl)) rfl) (Cond.privateMethod_at (mvP hZ (wd hw 33 rfl) (args := #[]))) (mvT hZ (wd hw 34 rfl)) (by decide) (backOf (W := 0) (rmset2 l Z a0 hw [] a1 td tc tw _ _ _ q x va vb vc vd ba bb bd _ _ _ _ _ h5 n0 Z0 E_a1 F_discounts F_leaves F_count F_worth V_td V_tc V_tw ⟨ne5.1, ne5.2.1, ne5.2.2.1, ne5.2.2.2.1, ne5.2.2.2.2⟩ g_tc g_tw hq hxb hva hvb hvc hvd hba hbb hbd) hZ (wd hw 34 rfl) (wd hw 3 rfl) (by decide) (by decide)) (g := (mkF m 44 #[.val (.ref a1), .val (.int (2 : Int32)), .val (.double (FP.l2d x)), .second, .val (.int (6 : Int32))] [(.double (FP.l2d x)), (.int (6 : Int32)), (.ref a1)])) rfl (by rw [hml]; rfl) (Steps.refl _) (a := a1) (by rw [e5]; exact q6) q6' (argsL := [(.int (6 : Int32)), (.double (FP.l2d x))]) (rest := []) (lenOf pd_0 rfl) rfl (by show 2 * 0 + _ ≤ _; exact Nat.le_of_eq rfl) (hb hby d4_44) (fun _ _ => ⟨rfl, e5, (by decide : 0 + 0 ≤ _), (by decide : 0 + 0 ≤ _)⟩)
  dsimp only [Pt.U, Pt.locs, Pt.cells, Pt.slots] at X6 l6 y6 z6 st6 hQ6
  subst l6 y6 z6
  obtain ⟨rfl, N6q, K6, Vc6, Vw6⟩ := hQ6
  have N6 := Fr.app N5 N6q
  obtain ⟨h6, e6⟩ : ∃ z, T6.heap = z := ⟨_, rfl⟩
  rw [e6] at K6 Vc6 Vw6
  replace Z0 := Nat.le_trans Z0 K6.1
  replace K0 := K0.trans K6 (allS (Or.inl (List.mem_of_getElem? (i := 0) rfl)) (allS (Or.inl (List.mem_of_getElem? (i := 1) rfl)) all0))
  replace E_a1 := E_a1.keep K6
  replace F_discounts := F_discounts.keep K6 (ninS ne5.1 (ninS ne5.2.1 nin0))
  replace F_leaves := F_leaves.keep K6 (ninS ne5.1 (ninS ne5.2.1 nin0))
  replace F_count := F_count.keep K6 (ninS ne5.1 (ninS ne5.2.1 nin0))
  replace F_worth := F_worth.keep K6 (ninS ne5.1 (ninS ne5.2.1 nin0))
  replace V_td := V_td.keep K6 (ninS ne5.2.2.2.1 (ninS ne5.2.2.2.2 nin0))
  refine Go.tr (pc' := 47) (S' := []) st6 ?_
  exact Go.retV X6 hx hlk hret (hb hby d4_47) (by decide) (by decide) (by rw [e6]; exact ⟨rfl, N6, K0, Vc6, Vw6⟩)

def Qset3 (Z : State) (tc tw : Addr) (kc kw : ClassId) (q x va vb vc vd : Int64) (ba bb bc : Int32) (h0 : Heap) (n0 : Nat) (v : Option Value) (h : Heap) (L : List Loc) : Prop := v = none ∧ Fr n0 L ∧ Keep h0 h [tc, tw] ∧ Arv Z h tc kc .int (8 : Int32) [(.int (0 : Int32)), (.int ((ba + bb) + (bc + (1 : Int32)))), (.int (ba + bb)), (.int (bc + (1 : Int32))), (.int ba), (.int bb), (.int bc), (.int (1 : Int32))] (.int (0 : Int32)) ∧ Arv Z h tw kw .double (8 : Int32) [(.double (0 : UInt64)), (.double (FP.l2d ((va + (own_e q ba) * vb) + (own_e q (ba + bb)) * (vc + (own_e q bc) * x)))), (.double (FP.l2d (va + (own_e q ba) * vb))), (.double (FP.l2d (vc + (own_e q bc) * x))), (.double (FP.l2d va)), (.double (FP.l2d vb)), (.double (FP.l2d vc)), (.double (FP.l2d x))] (.double (0 : UInt64))
def roomset3 : Room := { frames := 0, cells := 0, slots := 0, locals := 0 }
theorem rmset3 (l : Launch) (Z : State) (a0 : Array Value) (hw : ∀ d ∈ tables_1, d.before a0 Z = true) (ws : List Jvm.Cond) (a1 td tc tw : Addr) (kd kc kw : ClassId) (q x va vb vc vd : Int64) (ba bb bc : Int32) (o1 o2 : Int32) (r1 r2 r3 : UInt64) (h0 : Heap) (n0 : Nat) (Z0 : n0 ≤ h0.size) (E_a1 : Exa Z h0 a1 "com/example/placewright/placewright/GrowingRanks") (F_discounts : Fld Z h0 a1 "com/example/placewright/placewright/GrowingRanks" "discounts" "[D" (.ref td)) (F_leaves : Fld Z h0 a1 "com/example/placewright/placewright/GrowingRanks" "leaves" "I" (.int (4 : Int32))) (F_count : Fld Z h0 a1 "com/example/placewright/placewright/GrowingRanks" "count" "[I" (.ref tc)) (F_worth : Fld Z h0 a1 "com/example/placewright/placewright/GrowingRanks" "worth" "[D" (.ref tw)) (V_td : Arv Z h0 td kd .double (5 : Int32) [(.double (FP.l2d 1)), (.double (FP.l2d q)), (.double (FP.l2d (q * q))), (.double (FP.l2d ((q * q) * q))), (.double (FP.l2d (((q * q) * q) * q)))] (.double (0 : UInt64))) (V_tc : Arv Z h0 tc kc .int (8 : Int32) [(.int (0 : Int32)), (.int o1), (.int (ba + bb)), (.int o2), (.int ba), (.int bb), (.int bc), (.int (1 : Int32))] (.int (0 : Int32))) (V_tw : Arv Z h0 tw kw .double (8 : Int32) [(.double (0 : UInt64)), (.double r1), (.double (FP.l2d (va + (own_e q ba) * vb))), (.double r2), (.double (FP.l2d va)), (.double (FP.l2d vb)), (.double (FP.l2d vc)), (.double r3)] (.double (0 : UInt64))) (ne5 : a1 ≠ tc ∧ a1 ≠ tw ∧ tc ≠ tw ∧ td ≠ tc ∧ td ≠ tw) (g_tc : n0 ≤ tc) (g_tw : n0 ≤ tw) (hq : own_b 4 q) (hxb : own_b 2147483648 x) (hva : own_b 2147483648 va) (hvb : own_b 2147483648 vb) (hvc : own_b 2147483648 vc) (hvd : own_b 2147483648 vd) (hba : ba = 0 ∨ ba = 1) (hbb : bb = 0 ∨ bb = 1) (hbc : bc = 0 ∨ bc = 1) :
    MetFree l (⟨"com/example/placewright/placewright/GrowingRanks", "set", "(ID)V"⟩ : MethodName) (head1 (Jvm.Cond.code (⟨"com/example/placewright/placewright/GrowingRanks", "set", "(ID)V"⟩ : MethodName) prog_20_method_5_code 6 none :: ws) roomset3) (fun aa_ U_ => aa_ = #[(.ref a1), (.int (7 : Int32)), (.double (FP.l2d x))] ∧ Z.Warmed39 U_.vm ∧ U_.heap = h0) (fun _ _ _ _ _ => True) (fun _ U_ o_ W_ => ∃ v_ L_, o_ = .returned v_ ∧ (Qset3 Z tc tw kc kw q x va vb vc vd ba bb bc h0 n0) v_ W_.heap L_ ∧ FrameEnd U_ o_ W_ L_ roomset3.cells roomset3.slots) := by
  refine own_met (Q := (Qset3 Z tc tw kc kw q x va vb vc vd ba bb bc h0 n0)) (L0 := #[.val (.ref a1), .val (.int (7 : Int32)), .val (.double (FP.l2d x)), .second, .unset, .unset]) (plainFor_of_name pn_0) (fun m => by first | (simp [entryFrame, mkF, argsToLocals, Value.category]; done) | rfl) ?_
  intro p e s m below meth c T0 X0 hx hby hml hown hnm hret hlk hZ e0
  have N0 := Fr.nil n0
  have K0 := Keep.refl h0 [tc, tw]
  refine Go.st (pc' := 1) (S' := [(.ref a1)]) (fun t_ k_ => XS.aloadN X0.here hx rfl (hb hby d5_0) rfl rfl k_) ?_
  obtain ⟨T1, X1, e1, st1⟩ := getF X0 hx hZ hown (host := "") (Or.inl (wd hw 17 rfl)) Via.refl e0 F_worth (g := (mkF m 1 #[.val (.ref a1), .val (.int (7 : Int32)), .val (.double (FP.l2d x)), .second, .unset, .unset] [(.ref a1)])) rfl rfl (hb hby d5_1)
  refine Go.st (pc' := 4) (S' := [(.ref tw)]) st1 ?_
  refine Go.st (pc' := 5) (S' := [(.int (7 : Int32)), (.ref tw)]) (fun t_ k_ => XS.iloadN X1.here hx rfl (hb hby d5_4) rfl k_) ?_
  refine Go.st (pc' := 6) (S' := [(.double (FP.l2d x)), (.int (7 : Int32)), (.ref tw)]) (fun t_ k_ => XS.dloadN X1.here hx rfl (hb hby d5_5) rfl k_) ?_
  obtain ⟨cl2, Ar2, q21, q22, q23, q24, q25⟩ := V_tw
  obtain ⟨T2, h2, X2, e2, W2, st2⟩ := stD X1 hx hZ e1 Ar2 (j := (7 : Int32)) (inb_of q22 ⟨by decide, by decide⟩) (g := (mkF m 6 #[.val (.ref a1), .val (.int (7 : Int32)), .val (.double (FP.l2d x)), .second, .unset, .unset] [(.double (FP.l2d x)), (.int (7 : Int32)), (.ref tw)])) rfl rfl (hb hby d5_6)
  replace V_tw := Arv.set Ar2 q21 q22 q23 q24 q25 rfl W2 7 rfl (Nat.le_of_ble_eq_true rfl)
  have V_tw : Arv Z h2 tw kw .double (8 : Int32) [(.double (0 : UInt64)), (.double r1), (.double (FP.l2d (va + (own_e q ba) * vb))), (.double r2), (.double (FP.l2d va)), (.double (FP.l2d vb)), (.double (FP.l2d vc)), (.double (FP.l2d x))] (.double (0 : UInt64)) := V_tw
  replace Z0 := Nat.le_trans Z0 (Keep.of_wr W2).1
  replace K0 := K0.wr W2 (Or.inl (List.mem_of_getElem? (i := 1) rfl))
  replace E_a1 := E_a1.wr W2
  replace F_discounts := F_discounts.other W2 (Or.inl ne5.2.1)
  replace F_leaves := F_leaves.other W2 (Or.inl ne5.2.1)
  replace F_count := F_count.other W2 (Or.inl ne5.2.1)
  replace F_worth := F_worth.other W2 (Or.inl ne5.2.1)
  replace V_td := V_td.other W2 ne5.2.2.2.2
  replace V_tc := V_tc.other W2 ne5.2.2.1
  have N2 := Fr.snoc X2 N0 g_tw
  refine Go.st (pc' := 7) (S' := []) st2 ?_
  refine Go.st (pc' := 8) (S' := [(.int (7 : Int32))]) (fun t_ k_ => XS.iloadN X2.here hx rfl (hb hby d5_7) rfl k_) ?_
  refine Go.st (pc' := 9) (S' := [(.int (2 : Int32)), (.int (7 : Int32))]) (fun t_ k_ => XS.iconst X2.here hx rfl (hb hby d5_8) k_) ?_
  refine Go.st (pc' := 10) (S' := [(.int ((7 : Int32) / (2 : Int32)))]) (fun t_ k_ => XS.idiv X2.here hx rfl (hb hby d5_9) rfl (by decide) k_) ?_
  rw [show ((7 : Int32) / (2 : Int32)) = (3 : Int32) from by decide]
  refine Go.st (pc' := 12) (S' := []) (fun t_ k_ => XS.istore X2.here hx rfl (hb hby d5_10) rfl (l' := #[.val (.ref a1), .val (.int (7 : Int32)), .val (.double (FP.l2d x)), .second, .val (.int (3 : Int32)), .unset]) rfl k_) ?_
  refine Go.st (pc' := 14) (S' := [(.int (3 : Int32))]) (fun t_ k_ => XS.iload X2.here hx rfl (hb hby d5_12) rfl k_) ?_
  refine Go.st (pc' := 15) (S' := [(.int (1 : Int32)), (.int (3 : Int32))]) (fun t_ k_ => XS.iconst X2.here hx rfl (hb hby d5_14) k_) ?_
  refine Go.st (pc' := 18) (S' := []) (fun t_ k_ => XS.icmpNo X2.here hx rfl (hb hby d5_15) rfl (flt (by decide : ¬ ((3 : Int32) < (1 : Int32)))).1 k_) ?_
  refine Go.st (pc' := 19) (S' := [(.int (2 : Int32))]) (fun t_ k_ => XS.iconst X2.here hx rfl (hb hby d5_18) k_) ?_
  refine Go.st (pc' := 21) (S' := [(.int (3 : Int32)), (.int (2 : Int32))]) (fun t_ k_ => XS.iload X2.here hx rfl (hb hby d5_19) rfl k_) ?_
  refine Go.st (pc' := 22) (S' := [(.int ((2 : Int32) * (3 : Int32)))]) (fun t_ k_ => XS.imul X2.here hx rfl (hb hby d5_21) rfl k_) ?_
  rw [show ((2 : Int32) * (3 : Int32)) = (6 : Int32) from by decide]
  refine Go.st (pc' := 24) (S' := []) (fun t_ k_ => XS.istore X2.here hx rfl (hb hby d5_22) rfl (l' := #[.val (.ref a1), .val (.int (7 : Int32)), .val (.double (FP.l2d x)), .second, .val (.int (3 : Int32)), .val (.int (6 : Int32))]) rfl k_) ?_
  refine Go.st (pc' := 25) (S' := [(.ref a1)]) (fun t_ k_ => XS.aloadN X2.here hx rfl (hb hby d5_24) rfl rfl k_) ?_
  obtain ⟨T3, X3, e3, st3⟩ := getF X2 hx hZ hown (host := "") (Or.inl (wd hw 15 rfl)) Via.refl e2 F_count (g := (mkF m 25 #[.val (.ref a1), .val (.int (7 : Int32)), .val (.double (FP.l2d x)), .second, .val (.int (3 : Int32)), .val (.int (6 : Int32))] [(.ref a1)])) rfl rfl (hb hby d5_25)
  refine Go.st (pc' := 28) (S' := [(.ref tc)]) st3 ?_
  refine Go.st (pc' := 30) (S' := [(.int (3 : Int32)), (.ref tc)]) (fun t_ k_ => XS.iload X3.here hx rfl (hb hby d5_28) rfl k_) ?_
  refine Go.st (pc' := 31) (S' := [(.ref a1), (.int (3 : Int32)), (.ref tc)]) (fun t_ k_ => XS.aloadN X3.here hx rfl (hb hby d5_30) rfl rfl k_) ?_
  obtain ⟨T4, X4, e4, st4⟩ := getF X3 hx hZ hown (host := "") (Or.inl (wd hw 15 rfl)) Via.refl e3 F_count (g := (mkF m 31 #[.val (.ref a1), .val (.int (7 : Int32)), .val (.double (FP.l2d x)), .second, .val (.int (3 : Int32)), .val (.int (6 : Int32))] [(.ref a1), (.int (3 : Int32)), (.ref tc)])) rfl rfl (hb hby d5_31)
  refine Go.st (pc' := 34) (S' := [(.ref tc), (.int (3 : Int32)), (.ref tc)]) st4 ?_
  refine Go.st (pc' := 36) (S' := [(.int (6 : Int32)), (.ref tc), (.int (3 : Int32)), (.ref tc)]) (fun t_ k_ => XS.iload X4.here hx rfl (hb hby d5_34) rfl k_) ?_
  obtain ⟨cl5, Ar5, -, q5a, q5b, q5c, q5d⟩ := id V_tc
  refine Go.st (pc' := 37) (S' := [(.int bc), (.int (3 : Int32)), (.ref tc)]) (fun t_ k_ => X4.iaload hx (j := (6 : Int32)) (v := (.int bc)) (by rw [e4]; exact Ar5.1) (State.isArrayOf_alike hZ.alike Ar5.2.1) Ar5.2.2 (inb_of q5a ⟨by decide, by decide⟩) (q5c.at (inb_of q5a ⟨by decide, by decide⟩) rfl) (g := (mkF m 36 #[.val (.ref a1), .val (.int (7 : Int32)), .val (.double (FP.l2d x)), .second, .val (.int (3 : Int32)), .val (.int (6 : Int32))] [(.int (6 : Int32)), (.ref tc), (.int (3 : Int32)), (.ref tc)])) rfl rfl (hb hby d5_36) t_ k_) ?_
  refine Go.st (pc' := 38) (S' := [(.ref a1), (.int bc), (.int (3 : Int32)), (.ref tc)]) (fun t_ k_ => XS.aloadN X4.here hx rfl (hb hby d5_37) rfl rfl k_) ?_
  obtain ⟨T6, X6, e6, st6⟩ := getF X4 hx hZ hown (host := "") (Or.inl (wd hw 15 rfl)) Via.refl e4 F_count (g := (mkF m 38 #[.val (.ref a1), .val (.int (7 : Int32)), .val (.double (FP.l2d x)), .second, .val (.int (3 : Int32)), .val (.int (6 : Int32))] [(.ref a1), (.int bc), (.int (3 : Int32)), (.ref tc)])) rfl rfl (hb hby d5_38)
  refine Go.st (pc' := 41) (S' := [(.ref tc), (.int bc), (.int (3 : Int32)), (.ref tc)]) st6 ?_
  refine Go.st (pc' := 43) (S' := [(.int (6 : Int32)), (.ref tc), (.int bc), (.int (3 : Int32)), (.ref tc)]) (fun t_ k_ => XS.iload X6.here hx rfl (hb hby d5_41) rfl k_) ?_
  refine Go.st (pc' := 44) (S' := [(.int (1 : Int32)), (.int (6 : Int32)), (.ref tc), (.int bc), (.int (3 : Int32)), (.ref tc)]) (fun t_ k_ => XS.iconst X6.here hx rfl (hb hby d5_43) k_) ?_
  refine Go.st (pc' := 45) (S' := [(.int ((6 : Int32) + (1 : Int32))), (.ref tc), (.int bc), (.int (3 : Int32)), (.ref tc)]) (fun t_ k_ => XS.iadd X6.here hx rfl (hb hby d5_44) rfl k_) ?_
  rw [show ((6 : Int32) + (1 : Int32)) = (7 : Int32) from by decide]
  obtain ⟨cl7, Ar7, -, q7a, q7b, q7c, q7d⟩ := id V_tc
  refine Go.st (pc' := 46) (S' := [(.int (1 : Int32)), (.int bc), (.int (3 : Int32)), (.ref tc)]) (fun t_ k_ => X6.iaload hx (j := (7 : Int32)) (v := (.int (1 : Int32))) (by rw [e6]; exact Ar7.1) (State.isArrayOf_alike hZ.alike Ar7.2.1) Ar7.2.2 (inb_of q7a ⟨by decide, by decide⟩) (q7c.at (inb_of q7a ⟨by decide, by decide⟩) rfl) (g := (mkF m 45 #[.val (.ref a1), .val (.int (7 : Int32)), .val (.double (FP.l2d x)), .second, .val (.int (3 : Int32)), .val (.int (6 : Int32))] [(.int (7 : Int32)), (.ref tc), (.int bc), (.int (3 : Int32)), (.ref tc)])) rfl rfl (hb hby d5_45) t_ k_) ?_
  refine Go.st (pc' := 47) (S' := [(.int (bc + (1 : Int32))), (.int (3 : Int32)), (.ref tc)]) (fun t_ k_ => XS.iadd X6.here hx rfl (hb hby d5_46) rfl k_) ?_
  obtain ⟨cl8, Ar8, q81, q82, q83, q84, q85⟩ := V_tc
  obtain ⟨T8, h8, X8, e8, W8, st8⟩ := stI X6 hx hZ e6 Ar8 (j := (3 : Int32)) (inb_of q82 ⟨by decide, by decide⟩) (g := (mkF m 47 #[.val (.ref a1), .val (.int (7 : Int32)), .val (.double (FP.l2d x)), .second, .val (.int (3 : Int32)), .val (.int (6 : Int32))] [(.int (bc + (1 : Int32))), (.int (3 : Int32)), (.ref tc)])) rfl rfl (hb hby d5_47)
  replace V_tc := Arv.set Ar8 q81 q82 q83 q84 q85 rfl W8 3 rfl (Nat.le_of_ble_eq_true rfl)
  have V_tc : Arv Z h8 tc kc .int (8 : Int32) [(.int (0 : Int32)), (.int o1), (.int (ba + bb)), (.int (bc + (1 : Int32))), (.int ba), (.int bb), (.int bc), (.int (1 : Int32))] (.int (0 : Int32)) := V_tc
  replace Z0 := Nat.le_trans Z0 (Keep.of_wr W8).1
  replace K0 := K0.wr W8 (Or.inl (List.mem_of_getElem? (i := 0) rfl))
  replace E_a1 := E_a1.wr W8
  replace F_discounts := F_discounts.other W8 (Or.inl ne5.1)
  replace F_leaves := F_leaves.other W8 (Or.inl ne5.1)
  replace F_count := F_count.other W8 (Or.inl ne5.1)
  replace F_worth := F_worth.other W8 (Or.inl ne5.1)
  replace V_td := V_td.other W8 ne5.2.2.2.1
  replace V_tw := V_tw.other W8 (Ne.symm ne5.2.2.1)
  have N8 := Fr.snoc X8 N2 g_tc
  refine Go.st (pc' := 48) (S' := []) st8 ?_
  refine Go.st (pc' := 49) (S' := [(.ref a1)]) (fun t_ k_ => XS.aloadN X8.here hx rfl (hb hby d5_48) rfl rfl k_) ?_
  obtain ⟨T9, X9, e9, st9⟩ := getF X8 hx hZ hown (host := "") (Or.inl (wd hw 17 rfl)) Via.refl e8 F_worth (g := (mkF m 49 #[.val (.ref a1), .val (.int (7 : Int32)), .val (.double (FP.l2d x)), .second, .val (.int (3 : Int32)), .val (.int (6 : Int32))] [(.ref a1)])) rfl rfl (hb hby d5_49)
  refine Go.st (pc' := 52) (S' := [(.ref tw)]) st9 ?_
  refine Go.st (pc' := 54) (S' := [(.int (3 : Int32)), (.ref tw)]) (fun t_ k_ => XS.iload X9.here hx rfl (hb hby d5_52) rfl k_) ?_
  refine Go.st (pc' := 55) (S' := [(.ref a1), (.int (3 : Int32)), (.ref tw)]) (fun t_ k_ => XS.aloadN X9.here hx rfl (hb hby d5_54) rfl rfl k_) ?_
  obtain ⟨T10, X10, e10, st10⟩ := getF X9 hx hZ hown (host := "") (Or.inl (wd hw 17 rfl)) Via.refl e9 F_worth (g := (mkF m 55 #[.val (.ref a1), .val (.int (7 : Int32)), .val (.double (FP.l2d x)), .second, .val (.int (3 : Int32)), .val (.int (6 : Int32))] [(.ref a1), (.int (3 : Int32)), (.ref tw)])) rfl rfl (hb hby d5_55)
  refine Go.st (pc' := 58) (S' := [(.ref tw), (.int (3 : Int32)), (.ref tw)]) st10 ?_
  refine Go.st (pc' := 60) (S' := [(.int (6 : Int32)), (.ref tw), (.int (3 : Int32)), (.ref tw)]) (fun t_ k_ => XS.iload X10.here hx rfl (hb hby d5_58) rfl k_) ?_
  obtain ⟨cl11, Ar11, -, q11a, q11b, q11c, q11d⟩ := id V_tw
  refine Go.st (pc' := 61) (S' := [(.double (FP.l2d vc)), (.int (3 : Int32)), (.ref tw)]) (fun t_ k_ => X10.daload hx (j := (6 : Int32)) (v := (.double (FP.l2d vc))) (by rw [e10]; exact Ar11.1) (State.isArrayOf_alike hZ.alike Ar11.2.1) Ar11.2.2 (inb_of q11a ⟨by decide, by decide⟩) (q11c.at (inb_of q11a ⟨by decide, by decide⟩) rfl) (g := (mkF m 60 #[.val (.ref a1), .val (.int (7 : Int32)), .val (.double (FP.l2d x)), .second, .val (.int (3 : Int32)), .val (.int (6 : Int32))] [(.int (6 : Int32)), (.ref tw), (.int (3 : Int32)), (.ref tw)])) rfl rfl (hb hby d5_60) t_ k_) ?_
  refine Go.st (pc' := 62) (S' := [(.ref a1), (.double (FP.l2d vc)), (.int (3 : Int32)), (.ref tw)]) (fun t_ k_ => XS.aloadN X10.here hx rfl (hb hby d5_61) rfl rfl k_) ?_
  obtain ⟨T12, X12, e12, st12⟩ := getF X10 hx hZ hown (host := "") (Or.inl (wd hw 10 rfl)) Via.refl e10 F_discounts (g := (mkF m 62 #[.val (.ref a1), .val (.int (7 : Int32)), .val (.double (FP.l2d x)), .second, .val (.int (3 : Int32)), .val (.int (6 : Int32))] [(.ref a1), (.double (FP.l2d vc)), (.int (3 : Int32)), (.ref tw)])) rfl rfl (hb hby d5_62)
  refine Go.st (pc' := 65) (S' := [(.ref td), (.double (FP.l2d vc)), (.int (3 : Int32)), (.ref tw)]) st12 ?_
  refine Go.st (pc' := 66) (S' := [(.ref a1), (.ref td), (.double (FP.l2d vc)), (.int (3 : Int32)), (.ref tw)]) (fun t_ k_ => XS.aloadN X12.here hx rfl (hb hby d5_65) rfl rfl k_) ?_
  obtain ⟨T13, X13, e13, st13⟩ := getF X12 hx hZ hown (host := "") (Or.inl (wd hw 15 rfl)) Via.refl e12 F_count (g := (mkF m 66 #[.val (.ref a1), .val (.int (7 : Int32)), .val (.double (FP.l2d x)), .second, .val (.int (3 : Int32)), .val (.int (6 : Int32))] [(.ref a1), (.ref td), (.double (FP.l2d vc)), (.int (3 : Int32)), (.ref tw)])) rfl rfl (hb hby d5_66)
  refine Go.st (pc' := 69) (S' := [(.ref tc), (.ref td), (.double (FP.l2d vc)), (.int (3 : Int32)), (.ref tw)]) st13 ?_
  refine Go.st (pc' := 71) (S' := [(.int (6 : Int32)), (.ref tc), (.ref td), (.double (FP.l2d vc)), (.int (3 : Int32)), (.ref tw)]) (fun t_ k_ => XS.iload X13.here hx rfl (hb hby d5_69) rfl k_) ?_
  obtain ⟨cl14, Ar14, -, q14a, q14b, q14c, q14d⟩ := id V_tc
  refine Go.st (pc' := 72) (S' := [(.int bc), (.ref td), (.double (FP.l2d vc)), (.int (3 : Int32)), (.ref tw)]) (fun t_ k_ => X13.iaload hx (j := (6 : Int32)) (v := (.int bc)) (by rw [e13]; exact Ar14.1) (State.isArrayOf_alike hZ.alike Ar14.2.1) Ar14.2.2 (inb_of q14a ⟨by decide, by decide⟩) (q14c.at (inb_of q14a ⟨by decide, by decide⟩) rfl) (g := (mkF m 71 #[.val (.ref a1), .val (.int (7 : Int32)), .val (.double (FP.l2d x)), .second, .val (.int (3 : Int32)), .val (.int (6 : Int32))] [(.int (6 : Int32)), (.ref tc), (.ref td), (.double (FP.l2d vc)), (.int (3 : Int32)), (.ref tw)])) rfl rfl (hb hby d5_71) t_ k_) ?_
  obtain ⟨cl15, Ar15, -, q15a, q15b, q15c, q15d⟩ := id V_td
  refine Go.st (pc' := 73) (S' := [(.double (FP.l2d (own_e q bc))), (.double (FP.l2d vc)), (.int (3 : Int32)), (.ref tw)]) (fun t_ k_ => X13.daload hx (j := bc) (v := (.double (FP.l2d (own_e q bc)))) (by rw [e13]; exact Ar15.1) (State.isArrayOf_alike hZ.alike Ar15.2.1) Ar15.2.2 (inb_of q15a (own_c5 (own_h1 hbc))) (q15c.at (inb_of q15a (own_c5 (own_h1 hbc))) (own_dat (own_h1 hbc))) (g := (mkF m 72 #[.val (.ref a1), .val (.int (7 : Int32)), .val (.double (FP.l2d x)), .second, .val (.int (3 : Int32)), .val (.int (6 : Int32))] [(.int bc), (.ref td), (.double (FP.l2d vc)), (.int (3 : Int32)), (.ref tw)])) rfl rfl (hb hby d5_72) t_ k_) ?_
  refine Go.st (pc' := 74) (S' := [(.ref a1), (.double (FP.l2d (own_e q bc))), (.double (FP.l2d vc)), (.int (3 : Int32)), (.ref tw)]) (fun t_ k_ => XS.aloadN X13.here hx rfl (hb hby d5_73) rfl rfl k_) ?_
  obtain ⟨T16, X16, e16, st16⟩ := getF X13 hx hZ hown (host := "") (Or.inl (wd hw 17 rfl)) Via.refl e13 F_worth (g := (mkF m 74 #[.val (.ref a1), .val (.int (7 : Int32)), .val (.double (FP.l2d x)), .second, .val (.int (3 : Int32)), .val (.int (6 : Int32))] [(.ref a1), (.double (FP.l2d (own_e q bc))), (.double (FP.l2d vc)), (.int (3 : Int32)), (.ref tw)])) rfl rfl (hb hby d5_74)
  refine Go.st (pc' := 77) (S' := [(.ref tw), (.double (FP.l2d (own_e q bc))), (.double (FP.l2d vc)), (.int (3 : Int32)), (.ref tw)]) st16 ?_
  refine Go.st (pc' := 79) (S' := [(.int (6 : Int32)), (.ref tw), (.double (FP.l2d (own_e q bc))), (.double (FP.l2d vc)), (.int (3 : Int32)), (.ref tw)]) (fun t_ k_ => XS.iload X16.here hx rfl (hb hby d5_77) rfl k_) ?_
  refine Go.st (pc' := 80) (S' := [(.int (1 : Int32)), (.int (6 : Int32)), (.ref tw), (.double (FP.l2d (own_e q bc))), (.double (FP.l2d vc)), (.int (3 : Int32)), (.ref tw)]) (fun t_ k_ => XS.iconst X16.here hx rfl (hb hby d5_79) k_) ?_
  refine Go.st (pc' := 81) (S' := [(.int ((6 : Int32) + (1 : Int32))), (.ref tw), (.double (FP.l2d (own_e q bc))), (.double (FP.l2d vc)), (.int (3 : Int32)), (.ref tw)]) (fun t_ k_ => XS.iadd X16.here hx rfl (hb hby d5_80) rfl k_) ?_
  rw [show ((6 : Int32) + (1 : Int32)) = (7 : Int32) from by decide]
  obtain ⟨cl17, Ar17, -, q17a, q17b, q17c, q17d⟩ := id V_tw
  refine Go.st (pc' := 82) (S' := [(.double (FP.l2d x)), (.double (FP.l2d (own_e q bc))), (.double (FP.l2d vc)), (.int (3 : Int32)), (.ref tw)]) (fun t_ k_ => X16.daload hx (j := (7 : Int32)) (v := (.double (FP.l2d x))) (by rw [e16]; exact Ar17.1) (State.isArrayOf_alike hZ.alike Ar17.2.1) Ar17.2.2 (inb_of q17a ⟨by decide, by decide⟩) (q17c.at (inb_of q17a ⟨by decide, by decide⟩) rfl) (g := (mkF m 81 #[.val (.ref a1), .val (.int (7 : Int32)), .val (.double (FP.l2d x)), .second, .val (.int (3 : Int32)), .val (.int (6 : Int32))] [(.int (7 : Int32)), (.ref tw), (.double (FP.l2d (own_e q bc))), (.double (FP.l2d vc)), (.int (3 : Int32)), (.ref tw)])) rfl rfl (hb hby d5_81) t_ k_) ?_
  have fm18 := own_fma (a := vc) (x := (own_e q bc)) (y := x) (A := 2147483648) (X := 256) (Y := 2147483648) hvc (own_eb hq bc) hxb (by decide) (by decide) rfl (by decide)
  refine Go.st (pc' := 83) (S' := [(.double (FP.dmul (FP.l2d (own_e q bc)) (FP.l2d x))), (.double (FP.l2d vc)), (.int (3 : Int32)), (.ref tw)]) (fun t_ k_ => XS.dmulS X16.here hx rfl (hb hby d5_82) rfl fm18.2.1 rfl k_) ?_
  refine Go.st (pc' := 84) (S' := [(.double (FP.l2d (vc + (own_e q bc) * x))), (.int (3 : Int32)), (.ref tw)]) (fun t_ k_ => XS.daddS X16.here hx rfl (hb hby d5_83) rfl (nn_w fm18.1) fm18.1 k_) ?_
  obtain ⟨cl19, Ar19, q191, q192, q193, q194, q195⟩ := V_tw
  obtain ⟨T19, h19, X19, e19, W19, st19⟩ := stD X16 hx hZ e16 Ar19 (j := (3 : Int32)) (inb_of q192 ⟨by decide, by decide⟩) (g := (mkF m 84 #[.val (.ref a1), .val (.int (7 : Int32)), .val (.double (FP.l2d x)), .second, .val (.int (3 : Int32)), .val (.int (6 : Int32))] [(.double (FP.l2d (vc + (own_e q bc) * x))), (.int (3 : Int32)), (.ref tw)])) rfl rfl (hb hby d5_84)
  replace V_tw := Arv.set Ar19 q191 q192 q193 q194 q195 rfl W19 3 rfl (Nat.le_of_ble_eq_true rfl)
  have V_tw : Arv Z h19 tw kw .double (8 : Int32) [(.double (0 : UInt64)), (.double r1), (.double (FP.l2d (va + (own_e q ba) * vb))), (.double (FP.l2d (vc + (own_e q bc) * x))), (.double (FP.l2d va)), (.double (FP.l2d vb)), (.double (FP.l2d vc)), (.double (FP.l2d x))] (.double (0 : UInt64)) := V_tw
  replace Z0 := Nat.le_trans Z0 (Keep.of_wr W19).1
  replace K0 := K0.wr W19 (Or.inl (List.mem_of_getElem? (i := 1) rfl))
  replace E_a1 := E_a1.wr W19
  replace F_discounts := F_discounts.other W19 (Or.inl ne5.2.1)
  replace F_leaves := F_leaves.other W19 (Or.inl ne5.2.1)
  replace F_count := F_count.other W19 (Or.inl ne5.2.1)
  replace F_worth := F_worth.other W19 (Or.inl ne5.2.1)
  replace V_td := V_td.other W19 ne5.2.2.2.2
  replace V_tc := V_tc.other W19 ne5.2.2.1
  have N19 := Fr.snoc X19 N8 g_tw
  refine Go.st (pc' := 85) (S' := []) st19 ?_
  refine Go.st (pc' := 87) (S' := [(.int (3 : Int32))]) (fun t_ k_ => XS.iload X19.here hx rfl (hb hby d5_85) rfl k_) ?_
  refine Go.st (pc' := 88) (S' := [(.int (2 : Int32)), (.int (3 : Int32))]) (fun t_ k_ => XS.iconst X19.here hx rfl (hb hby d5_87) k_) ?_
  refine Go.st (pc' := 89) (S' := [(.int ((3 : Int32) / (2 : Int32)))]) (fun t_ k_ => XS.idiv X19.here hx rfl (hb hby d5_88) rfl (by decide) k_) ?_
  rw [show ((3 : Int32) / (2 : Int32)) = (1 : Int32) from by decide]
  refine Go.st (pc' := 91) (S' := []) (fun t_ k_ => XS.istore X19.here hx rfl (hb hby d5_89) rfl (l' := #[.val (.ref a1), .val (.int (7 : Int32)), .val (.double (FP.l2d x)), .second, .val (.int (1 : Int32)), .val (.int (6 : Int32))]) rfl k_) ?_
  refine Go.st (pc' := 12) (S' := []) (fun t_ k_ => XS.goto X19.here hx rfl (pc0 := 91) (pc' := 12) rfl (hb hby d5_91) (by decide) (by decide) k_) ?_
  refine Go.st (pc' := 14) (S' := [(.int (1 : Int32))]) (fun t_ k_ => XS.iload X19.here hx rfl (hb hby d5_12) rfl k_) ?_
  refine Go.st (pc' := 15) (S' := [(.int (1 : Int32)), (.int (1 : Int32))]) (fun t_ k_ => XS.iconst X19.here hx rfl (hb hby d5_14) k_) ?_
  refine Go.st (pc' := 18) (S' := []) (fun t_ k_ => XS.icmpNo X19.here hx rfl (hb hby d5_15) rfl (flt (by decide : ¬ ((1 : Int32) < (1 : Int32)))).1 k_) ?_
  refine Go.st (pc' := 19) (S' := [(.int (2 : Int32))]) (fun t_ k_ => XS.iconst X19.here hx rfl (hb hby d5_18) k_) ?_
  refine Go.st (pc' := 21) (S' := [(.int (1 : Int32)), (.int (2 : Int32))]) (fun t_ k_ => XS.iload X19.here hx rfl (hb hby d5_19) rfl k_) ?_
  refine Go.st (pc' := 22) (S' := [(.int ((2 : Int32) * (1 : Int32)))]) (fun t_ k_ => XS.imul X19.here hx rfl (hb hby d5_21) rfl k_) ?_
  rw [show ((2 : Int32) * (1 : Int32)) = (2 : Int32) from by decide]
  refine Go.st (pc' := 24) (S' := []) (fun t_ k_ => XS.istore X19.here hx rfl (hb hby d5_22) rfl (l' := #[.val (.ref a1), .val (.int (7 : Int32)), .val (.double (FP.l2d x)), .second, .val (.int (1 : Int32)), .val (.int (2 : Int32))]) rfl k_) ?_
  refine Go.st (pc' := 25) (S' := [(.ref a1)]) (fun t_ k_ => XS.aloadN X19.here hx rfl (hb hby d5_24) rfl rfl k_) ?_
  obtain ⟨T20, X20, e20, st20⟩ := getF X19 hx hZ hown (host := "") (Or.inl (wd hw 15 rfl)) Via.refl e19 F_count (g := (mkF m 25 #[.val (.ref a1), .val (.int (7 : Int32)), .val (.double (FP.l2d x)), .second, .val (.int (1 : Int32)), .val (.int (2 : Int32))] [(.ref a1)])) rfl rfl (hb hby d5_25)
  refine Go.st (pc' := 28) (S' := [(.ref tc)]) st20 ?_
  refine Go.st (pc' := 30) (S' := [(.int (1 : Int32)), (.ref tc)]) (fun t_ k_ => XS.iload X20.here hx rfl (hb hby d5_28) rfl k_) ?_
  refine Go.st (pc' := 31) (S' := [(.ref a1), (.int (1 : Int32)), (.ref tc)]) (fun t_ k_ => XS.aloadN X20.here hx rfl (hb hby d5_30) rfl rfl k_) ?_
  obtain ⟨T21, X21, e21, st21⟩ := getF X20 hx hZ hown (host := "") (Or.inl (wd hw 15 rfl)) Via.refl e20 F_count (g := (mkF m 31 #[.val (.ref a1), .val (.int (7 : Int32)), .val (.double (FP.l2d x)), .second, .val (.int (1 : Int32)), .val (.int (2 : Int32))] [(.ref a1), (.int (1 : Int32)), (.ref tc)])) rfl rfl (hb hby d5_31)
  refine Go.st (pc' := 34) (S' := [(.ref tc), (.int (1 : Int32)), (.ref tc)]) st21 ?_
  refine Go.st (pc' := 36) (S' := [(.int (2 : Int32)), (.ref tc), (.int (1 : Int32)), (.ref tc)]) (fun t_ k_ => XS.iload X21.here hx rfl (hb hby d5_34) rfl k_) ?_
  obtain ⟨cl22, Ar22, -, q22a, q22b, q22c, q22d⟩ := id V_tc
  refine Go.st (pc' := 37) (S' := [(.int (ba + bb)), (.int (1 : Int32)), (.ref tc)]) (fun t_ k_ => X21.iaload hx (j := (2 : Int32)) (v := (.int (ba + bb))) (by rw [e21]; exact Ar22.1) (State.isArrayOf_alike hZ.alike Ar22.2.1) Ar22.2.2 (inb_of q22a ⟨by decide, by decide⟩) (q22c.at (inb_of q22a ⟨by decide, by decide⟩) rfl) (g := (mkF m 36 #[.val (.ref a1), .val (.int (7 : Int32)), .val (.double (FP.l2d x)), .second, .val (.int (1 : Int32)), .val (.int (2 : Int32))] [(.int (2 : Int32)), (.ref tc), (.int (1 : Int32)), (.ref tc)])) rfl rfl (hb hby d5_36) t_ k_) ?_
  refine Go.st (pc' := 38) (S' := [(.ref a1), (.int (ba + bb)), (.int (1 : Int32)), (.ref tc)]) (fun t_ k_ => XS.aloadN X21.here hx rfl (hb hby d5_37) rfl rfl k_) ?_
  obtain ⟨T23, X23, e23, st23⟩ := getF X21 hx hZ hown (host := "") (Or.inl (wd hw 15 rfl)) Via.refl e21 F_count (g := (mkF m 38 #[.val (.ref a1), .val (.int (7 : Int32)), .val (.double (FP.l2d x)), .second, .val (.int (1 : Int32)), .val (.int (2 : Int32))] [(.ref a1), (.int (ba + bb)), (.int (1 : Int32)), (.ref tc)])) rfl rfl (hb hby d5_38)
  refine Go.st (pc' := 41) (S' := [(.ref tc), (.int (ba + bb)), (.int (1 : Int32)), (.ref tc)]) st23 ?_
  refine Go.st (pc' := 43) (S' := [(.int (2 : Int32)), (.ref tc), (.int (ba + bb)), (.int (1 : Int32)), (.ref tc)]) (fun t_ k_ => XS.iload X23.here hx rfl (hb hby d5_41) rfl k_) ?_
  refine Go.st (pc' := 44) (S' := [(.int (1 : Int32)), (.int (2 : Int32)), (.ref tc), (.int (ba + bb)), (.int (1 : Int32)), (.ref tc)]) (fun t_ k_ => XS.iconst X23.here hx rfl (hb hby d5_43) k_) ?_
  refine Go.st (pc' := 45) (S' := [(.int ((2 : Int32) + (1 : Int32))), (.ref tc), (.int (ba + bb)), (.int (1 : Int32)), (.ref tc)]) (fun t_ k_ => XS.iadd X23.here hx rfl (hb hby d5_44) rfl k_) ?_
  rw [show ((2 : Int32) + (1 : Int32)) = (3 : Int32) from by decide]
  obtain ⟨cl24, Ar24, -, q24a, q24b, q24c, q24d⟩ := id V_tc
  refine Go.st (pc' := 46) (S' := [(.int (bc + (1 : Int32))), (.int (ba + bb)), (.int (1 : Int32)), (.ref tc)]) (fun t_ k_ => X23.iaload hx (j := (3 : Int32)) (v := (.int (bc + (1 : Int32)))) (by rw [e23]; exact Ar24.1) (State.isArrayOf_alike hZ.alike Ar24.2.1) Ar24.2.2 (inb_of q24a ⟨by decide, by decide⟩) (q24c.at (inb_of q24a ⟨by decide, by decide⟩) rfl) (g := (mkF m 45 #[.val (.ref a1), .val (.int (7 : Int32)), .val (.double (FP.l2d x)), .second, .val (.int (1 : Int32)), .val (.int (2 : Int32))] [(.int (3 : Int32)), (.ref tc), (.int (ba + bb)), (.int (1 : Int32)), (.ref tc)])) rfl rfl (hb hby d5_45) t_ k_) ?_
  refine Go.st (pc' := 47) (S' := [(.int ((ba + bb) + (bc + (1 : Int32)))), (.int (1 : Int32)), (.ref tc)]) (fun t_ k_ => XS.iadd X23.here hx rfl (hb hby d5_46) rfl k_) ?_
  obtain ⟨cl25, Ar25, q251, q252, q253, q254, q255⟩ := V_tc
  obtain ⟨T25, h25, X25, e25, W25, st25⟩ := stI X23 hx hZ e23 Ar25 (j := (1 : Int32)) (inb_of q252 ⟨by decide, by decide⟩) (g := (mkF m 47 #[.val (.ref a1), .val (.int (7 : Int32)), .val (.double (FP.l2d x)), .second, .val (.int (1 : Int32)), .val (.int (2 : Int32))] [(.int ((ba + bb) + (bc + (1 : Int32)))), (.int (1 : Int32)), (.ref tc)])) rfl rfl (hb hby d5_47)
  replace V_tc := Arv.set Ar25 q251 q252 q253 q254 q255 rfl W25 1 rfl (Nat.le_of_ble_eq_true rfl)
  have V_tc : Arv Z h25 tc kc .int (8 : Int32) [(.int (0 : Int32)), (.int ((ba + bb) + (bc + (1 : Int32)))), (.int (ba + bb)), (.int (bc + (1 : Int32))), (.int ba), (.int bb), (.int bc), (.int (1 : Int32))] (.int (0 : Int32)) := V_tc
  replace Z0 := Nat.le_trans Z0 (Keep.of_wr W25).1
  replace K0 := K0.wr W25 (Or.inl (List.mem_of_getElem? (i := 0) rfl))
  replace E_a1 := E_a1.wr W25
  replace F_discounts := F_discounts.other W25 (Or.inl ne5.1)
  replace F_leaves := F_leaves.other W25 (Or.inl ne5.1)
  replace F_count := F_count.other W25 (Or.inl ne5.1)
  replace F_worth := F_worth.other W25 (Or.inl ne5.1)
  replace V_td := V_td.other W25 ne5.2.2.2.1
  replace V_tw := V_tw.other W25 (Ne.symm ne5.2.2.1)
  have N25 := Fr.snoc X25 N19 g_tc
  refine Go.st (pc' := 48) (S' := []) st25 ?_
  refine Go.st (pc' := 49) (S' := [(.ref a1)]) (fun t_ k_ => XS.aloadN X25.here hx rfl (hb hby d5_48) rfl rfl k_) ?_
  obtain ⟨T26, X26, e26, st26⟩ := getF X25 hx hZ hown (host := "") (Or.inl (wd hw 17 rfl)) Via.refl e25 F_worth (g := (mkF m 49 #[.val (.ref a1), .val (.int (7 : Int32)), .val (.double (FP.l2d x)), .second, .val (.int (1 : Int32)), .val (.int (2 : Int32))] [(.ref a1)])) rfl rfl (hb hby d5_49)
  refine Go.st (pc' := 52) (S' := [(.ref tw)]) st26 ?_
  refine Go.st (pc' := 54) (S' := [(.int (1 : Int32)), (.ref tw)]) (fun t_ k_ => XS.iload X26.here hx rfl (hb hby d5_52) rfl k_) ?_
  refine Go.st (pc' := 55) (S' := [(.ref a1), (.int (1 : Int32)), (.ref tw)]) (fun t_ k_ => XS.aloadN X26.here hx rfl (hb hby d5_54) rfl rfl k_) ?_
  obtain ⟨T27, X27, e27, st27⟩ := getF X26 hx hZ hown (host := "") (Or.inl (wd hw 17 rfl)) Via.refl e26 F_worth (g := (mkF m 55 #[.val (.ref a1), .val (.int (7 : Int32)), .val (.double (FP.l2d x)), .second, .val (.int (1 : Int32)), .val (.int (2 : Int32))] [(.ref a1), (.int (1 : Int32)), (.ref tw)])) rfl rfl (hb hby d5_55)
  refine Go.st (pc' := 58) (S' := [(.ref tw), (.int (1 : Int32)), (.ref tw)]) st27 ?_
  refine Go.st (pc' := 60) (S' := [(.int (2 : Int32)), (.ref tw), (.int (1 : Int32)), (.ref tw)]) (fun t_ k_ => XS.iload X27.here hx rfl (hb hby d5_58) rfl k_) ?_
  obtain ⟨cl28, Ar28, -, q28a, q28b, q28c, q28d⟩ := id V_tw
  refine Go.st (pc' := 61) (S' := [(.double (FP.l2d (va + (own_e q ba) * vb))), (.int (1 : Int32)), (.ref tw)]) (fun t_ k_ => X27.daload hx (j := (2 : Int32)) (v := (.double (FP.l2d (va + (own_e q ba) * vb)))) (by rw [e27]; exact Ar28.1) (State.isArrayOf_alike hZ.alike Ar28.2.1) Ar28.2.2 (inb_of q28a ⟨by decide, by decide⟩) (q28c.at (inb_of q28a ⟨by decide, by decide⟩) rfl) (g := (mkF m 60 #[.val (.ref a1), .val (.int (7 : Int32)), .val (.double (FP.l2d x)), .second, .val (.int (1 : Int32)), .val (.int (2 : Int32))] [(.int (2 : Int32)), (.ref tw), (.int (1 : Int32)), (.ref tw)])) rfl rfl (hb hby d5_60) t_ k_) ?_
  refine Go.st (pc' := 62) (S' := [(.ref a1), (.double (FP.l2d (va + (own_e q ba) * vb))), (.int (1 : Int32)), (.ref tw)]) (fun t_ k_ => XS.aloadN X27.here hx rfl (hb hby d5_61) rfl rfl k_) ?_
  obtain ⟨T29, X29, e29, st29⟩ := getF X27 hx hZ hown (host := "") (Or.inl (wd hw 10 rfl)) Via.refl e27 F_discounts (g := (mkF m 62 #[.val (.ref a1), .val (.int (7 : Int32)), .val (.double (FP.l2d x)), .second, .val (.int (1 : Int32)), .val (.int (2 : Int32))] [(.ref a1), (.double (FP.l2d (va + (own_e q ba) * vb))), (.int (1 : Int32)), (.ref tw)])) rfl rfl (hb hby d5_62)
  refine Go.st (pc' := 65) (S' := [(.ref td), (.double (FP.l2d (va + (own_e q ba) * vb))), (.int (1 : Int32)), (.ref tw)]) st29 ?_
  refine Go.st (pc' := 66) (S' := [(.ref a1), (.ref td), (.double (FP.l2d (va + (own_e q ba) * vb))), (.int (1 : Int32)), (.ref tw)]) (fun t_ k_ => XS.aloadN X29.here hx rfl (hb hby d5_65) rfl rfl k_) ?_
  obtain ⟨T30, X30, e30, st30⟩ := getF X29 hx hZ hown (host := "") (Or.inl (wd hw 15 rfl)) Via.refl e29 F_count (g := (mkF m 66 #[.val (.ref a1), .val (.int (7 : Int32)), .val (.double (FP.l2d x)), .second, .val (.int (1 : Int32)), .val (.int (2 : Int32))] [(.ref a1), (.ref td), (.double (FP.l2d (va + (own_e q ba) * vb))), (.int (1 : Int32)), (.ref tw)])) rfl rfl (hb hby d5_66)
  refine Go.st (pc' := 69) (S' := [(.ref tc), (.ref td), (.double (FP.l2d (va + (own_e q ba) * vb))), (.int (1 : Int32)), (.ref tw)]) st30 ?_
  refine Go.st (pc' := 71) (S' := [(.int (2 : Int32)), (.ref tc), (.ref td), (.double (FP.l2d (va + (own_e q ba) * vb))), (.int (1 : Int32)), (.ref tw)]) (fun t_ k_ => XS.iload X30.here hx rfl (hb hby d5_69) rfl k_) ?_
  obtain ⟨cl31, Ar31, -, q31a, q31b, q31c, q31d⟩ := id V_tc
  refine Go.st (pc' := 72) (S' := [(.int (ba + bb)), (.ref td), (.double (FP.l2d (va + (own_e q ba) * vb))), (.int (1 : Int32)), (.ref tw)]) (fun t_ k_ => X30.iaload hx (j := (2 : Int32)) (v := (.int (ba + bb))) (by rw [e30]; exact Ar31.1) (State.isArrayOf_alike hZ.alike Ar31.2.1) Ar31.2.2 (inb_of q31a ⟨by decide, by decide⟩) (q31c.at (inb_of q31a ⟨by decide, by decide⟩) rfl) (g := (mkF m 71 #[.val (.ref a1), .val (.int (7 : Int32)), .val (.double (FP.l2d x)), .second, .val (.int (1 : Int32)), .val (.int (2 : Int32))] [(.int (2 : Int32)), (.ref tc), (.ref td), (.double (FP.l2d (va + (own_e q ba) * vb))), (.int (1 : Int32)), (.ref tw)])) rfl rfl (hb hby d5_71) t_ k_) ?_
  obtain ⟨cl32, Ar32, -, q32a, q32b, q32c, q32d⟩ := id V_td
  refine Go.st (pc' := 73) (S' := [(.double (FP.l2d (own_e q (ba + bb)))), (.double (FP.l2d (va + (own_e q ba) * vb))), (.int (1 : Int32)), (.ref tw)]) (fun t_ k_ => X30.daload hx (j := (ba + bb)) (v := (.double (FP.l2d (own_e q (ba + bb))))) (by rw [e30]; exact Ar32.1) (State.isArrayOf_alike hZ.alike Ar32.2.1) Ar32.2.2 (inb_of q32a (own_c5 (own_hs hba hbb))) (q32c.at (inb_of q32a (own_c5 (own_hs hba hbb))) (own_dat (own_hs hba hbb))) (g := (mkF m 72 #[.val (.ref a1), .val (.int (7 : Int32)), .val (.double (FP.l2d x)), .second, .val (.int (1 : Int32)), .val (.int (2 : Int32))] [(.int (ba + bb)), (.ref td), (.double (FP.l2d (va + (own_e q ba) * vb))), (.int (1 : Int32)), (.ref tw)])) rfl rfl (hb hby d5_72) t_ k_) ?_
  refine Go.st (pc' := 74) (S' := [(.ref a1), (.double (FP.l2d (own_e q (ba + bb)))), (.double (FP.l2d (va + (own_e q ba) * vb))), (.int (1 : Int32)), (.ref tw)]) (fun t_ k_ => XS.aloadN X30.here hx rfl (hb hby d5_73) rfl rfl k_) ?_
  obtain ⟨T33, X33, e33, st33⟩ := getF X30 hx hZ hown (host := "") (Or.inl (wd hw 17 rfl)) Via.refl e30 F_worth (g := (mkF m 74 #[.val (.ref a1), .val (.int (7 : Int32)), .val (.double (FP.l2d x)), .second, .val (.int (1 : Int32)), .val (.int (2 : Int32))] [(.ref a1), (.double (FP.l2d (own_e q (ba + bb)))), (.double (FP.l2d (va + (own_e q ba) * vb))), (.int (1 : Int32)), (.ref tw)])) rfl rfl (hb hby d5_74)
  refine Go.st (pc' := 77) (S' := [(.ref tw), (.double (FP.l2d (own_e q (ba + bb)))), (.double (FP.l2d (va + (own_e q ba) * vb))), (.int (1 : Int32)), (.ref tw)]) st33 ?_
  refine Go.st (pc' := 79) (S' := [(.int (2 : Int32)), (.ref tw), (.double (FP.l2d (own_e q (ba + bb)))), (.double (FP.l2d (va + (own_e q ba) * vb))), (.int (1 : Int32)), (.ref tw)]) (fun t_ k_ => XS.iload X33.here hx rfl (hb hby d5_77) rfl k_) ?_
  refine Go.st (pc' := 80) (S' := [(.int (1 : Int32)), (.int (2 : Int32)), (.ref tw), (.double (FP.l2d (own_e q (ba + bb)))), (.double (FP.l2d (va + (own_e q ba) * vb))), (.int (1 : Int32)), (.ref tw)]) (fun t_ k_ => XS.iconst X33.here hx rfl (hb hby d5_79) k_) ?_
  refine Go.st (pc' := 81) (S' := [(.int ((2 : Int32) + (1 : Int32))), (.ref tw), (.double (FP.l2d (own_e q (ba + bb)))), (.double (FP.l2d (va + (own_e q ba) * vb))), (.int (1 : Int32)), (.ref tw)]) (fun t_ k_ => XS.iadd X33.here hx rfl (hb hby d5_80) rfl k_) ?_
  rw [show ((2 : Int32) + (1 : Int32)) = (3 : Int32) from by decide]
  obtain ⟨cl34, Ar34, -, q34a, q34b, q34c, q34d⟩ := id V_tw
  refine Go.st (pc' := 82) (S' := [(.double (FP.l2d (vc + (own_e q bc) * x))), (.double (FP.l2d (own_e q (ba + bb)))), (.double (FP.l2d (va + (own_e q ba) * vb))), (.int (1 : Int32)), (.ref tw)]) (fun t_ k_ => X33.daload hx (j := (3 : Int32)) (v := (.double (FP.l2d (vc + (own_e q bc) * x)))) (by rw [e33]; exact Ar34.1) (State.isArrayOf_alike hZ.alike Ar34.2.1) Ar34.2.2 (inb_of q34a ⟨by decide, by decide⟩) (q34c.at (inb_of q34a ⟨by decide, by decide⟩) rfl) (g := (mkF m 81 #[.val (.ref a1), .val (.int (7 : Int32)), .val (.double (FP.l2d x)), .second, .val (.int (1 : Int32)), .val (.int (2 : Int32))] [(.int (3 : Int32)), (.ref tw), (.double (FP.l2d (own_e q (ba + bb)))), (.double (FP.l2d (va + (own_e q ba) * vb))), (.int (1 : Int32)), (.ref tw)])) rfl rfl (hb hby d5_81) t_ k_) ?_
  have fm35 := own_fma (a := (va + (own_e q ba) * vb)) (x := (own_e q (ba + bb))) (y := (vc + (own_e q bc) * x)) (A := 1099511627776) (X := 256) (Y := 551903297536) (own_nb hq ba hva hvb) (own_eb hq (ba + bb)) fm18.2.2 (by decide) (by decide) rfl (by decide)
  refine Go.st (pc' := 83) (S' := [(.double (FP.dmul (FP.l2d (own_e q (ba + bb))) (FP.l2d (vc + (own_e q bc) * x)))), (.double (FP.l2d (va + (own_e q ba) * vb))), (.int (1 : Int32)), (.ref tw)]) (fun t_ k_ => XS.dmulS X33.here hx rfl (hb hby d5_82) rfl fm35.2.1 rfl k_) ?_
  refine Go.st (pc' := 84) (S' := [(.double (FP.l2d ((va + (own_e q ba) * vb) + (own_e q (ba + bb)) * (vc + (own_e q bc) * x)))), (.int (1 : Int32)), (.ref tw)]) (fun t_ k_ => XS.daddS X33.here hx rfl (hb hby d5_83) rfl (nn_w fm35.1) fm35.1 k_) ?_
  obtain ⟨cl36, Ar36, q361, q362, q363, q364, q365⟩ := V_tw
  obtain ⟨T36, h36, X36, e36, W36, st36⟩ := stD X33 hx hZ e33 Ar36 (j := (1 : Int32)) (inb_of q362 ⟨by decide, by decide⟩) (g := (mkF m 84 #[.val (.ref a1), .val (.int (7 : Int32)), .val (.double (FP.l2d x)), .second, .val (.int (1 : Int32)), .val (.int (2 : Int32))] [(.double (FP.l2d ((va + (own_e q ba) * vb) + (own_e q (ba + bb)) * (vc + (own_e q bc) * x)))), (.int (1 : Int32)), (.ref tw)])) rfl rfl (hb hby d5_84)
  replace V_tw := Arv.set Ar36 q361 q362 q363 q364 q365 rfl W36 1 rfl (Nat.le_of_ble_eq_true rfl)
  have V_tw : Arv Z h36 tw kw .double (8 : Int32) [(.double (0 : UInt64)), (.double (FP.l2d ((va + (own_e q ba) * vb) + (own_e q (ba + bb)) * (vc + (own_e q bc) * x)))), (.double (FP.l2d (va + (own_e q ba) * vb))), (.double (FP.l2d (vc + (own_e q bc) * x))), (.double (FP.l2d va)), (.double (FP.l2d vb)), (.double (FP.l2d vc)), (.double (FP.l2d x))] (.double (0 : UInt64)) := V_tw
  replace Z0 := Nat.le_trans Z0 (Keep.of_wr W36).1
  replace K0 := K0.wr W36 (Or.inl (List.mem_of_getElem? (i := 1) rfl))
  replace E_a1 := E_a1.wr W36
  replace F_discounts := F_discounts.other W36 (Or.inl ne5.2.1)
  replace F_leaves := F_leaves.other W36 (Or.inl ne5.2.1)
  replace F_count := F_count.other W36 (Or.inl ne5.2.1)
  replace F_worth := F_worth.other W36 (Or.inl ne5.2.1)
  replace V_td := V_td.other W36 ne5.2.2.2.2
  replace V_tc := V_tc.other W36 ne5.2.2.1
  have N36 := Fr.snoc X36 N25 g_tw
  refine Go.st (pc' := 85) (S' := []) st36 ?_
  refine Go.st (pc' := 87) (S' := [(.int (1 : Int32))]) (fun t_ k_ => XS.iload X36.here hx rfl (hb hby d5_85) rfl k_) ?_
  refine Go.st (pc' := 88) (S' := [(.int (2 : Int32)), (.int (1 : Int32))]) (fun t_ k_ => XS.iconst X36.here hx rfl (hb hby d5_87) k_) ?_
  refine Go.st (pc' := 89) (S' := [(.int ((1 : Int32) / (2 : Int32)))]) (fun t_ k_ => XS.idiv X36.here hx rfl (hb hby d5_88) rfl (by decide) k_) ?_
  rw [show ((1 : Int32) / (2 : Int32)) = (0 : Int32) from by decide]
  refine Go.st (pc' := 91) (S' := []) (fun t_ k_ => XS.istore X36.here hx rfl (hb hby d5_89) rfl (l' := #[.val (.ref a1), .val (.int (7 : Int32)), .val (.double (FP.l2d x)), .second, .val (.int (0 : Int32)), .val (.int (2 : Int32))]) rfl k_) ?_
  refine Go.st (pc' := 12) (S' := []) (fun t_ k_ => XS.goto X36.here hx rfl (pc0 := 91) (pc' := 12) rfl (hb hby d5_91) (by decide) (by decide) k_) ?_
  refine Go.st (pc' := 14) (S' := [(.int (0 : Int32))]) (fun t_ k_ => XS.iload X36.here hx rfl (hb hby d5_12) rfl k_) ?_
  refine Go.st (pc' := 15) (S' := [(.int (1 : Int32)), (.int (0 : Int32))]) (fun t_ k_ => XS.iconst X36.here hx rfl (hb hby d5_14) k_) ?_
  refine Go.st (pc' := 94) (S' := []) (fun t_ k_ => XS.icmpYes X36.here hx rfl (pc0 := 15) (pc' := 94) rfl (hb hby d5_15) rfl (tlt (by decide : ((0 : Int32) < (1 : Int32)))).1 (by decide) (by decide) k_) ?_
  exact Go.retV X36 hx hlk hret (hb hby d5_94) (by decide) (by decide) (by rw [e36]; exact ⟨rfl, N36, K0, V_tc, V_tw⟩)

def Qadd3 (Z : State) (tc tw : Addr) (kc kw : ClassId) (q x va vb vc vd : Int64) (ba bb bc : Int32) (h0 : Heap) (n0 : Nat) (v : Option Value) (h : Heap) (L : List Loc) : Prop := v = none ∧ Fr n0 L ∧ Keep h0 h [tc, tw] ∧ Arv Z h tc kc .int (8 : Int32) [(.int (0 : Int32)), (.int ((ba + bb) + (bc + (1 : Int32)))), (.int (ba + bb)), (.int (bc + (1 : Int32))), (.int ba), (.int bb), (.int bc), (.int (1 : Int32))] (.int (0 : Int32)) ∧ Arv Z h tw kw .double (8 : Int32) [(.double (0 : UInt64)), (.double (FP.l2d ((va + (own_e q ba) * vb) + (own_e q (ba + bb)) * (vc + (own_e q bc) * x)))), (.double (FP.l2d (va + (own_e q ba) * vb))), (.double (FP.l2d (vc + (own_e q bc) * x))), (.double (FP.l2d va)), (.double (FP.l2d vb)), (.double (FP.l2d vc)), (.double (FP.l2d x))] (.double (0 : UInt64))
def roomadd3 : Room := { frames := 1, cells := 0, slots := 0, locals := 17 }
theorem rmadd3 (l : Launch) (Z : State) (a0 : Array Value) (hw : ∀ d ∈ tables_1, d.before a0 Z = true) (ws : List Jvm.Cond) (a1 td tc tw : Addr) (kd kc kw : ClassId) (q x va vb vc vd : Int64) (ba bb bc : Int32) (h0 : Heap) (n0 : Nat) (Z0 : n0 ≤ h0.size) (E_a1 : Exa Z h0 a1 "com/example/placewright/placewright/GrowingRanks") (F_discounts : Fld Z h0 a1 "com/example/placewright/placewright/GrowingRanks" "discounts" "[D" (.ref td)) (F_leaves : Fld Z h0 a1 "com/example/placewright/placewright/GrowingRanks" "leaves" "I" (.int (4 : Int32))) (F_count : Fld Z h0 a1 "com/example/placewright/placewright/GrowingRanks" "count" "[I" (.ref tc)) (F_worth : Fld Z h0 a1 "com/example/placewright/placewright/GrowingRanks" "worth" "[D" (.ref tw)) (V_td : Arv Z h0 td kd .double (5 : Int32) [(.double (FP.l2d 1)), (.double (FP.l2d q)), (.double (FP.l2d (q * q))), (.double (FP.l2d ((q * q) * q))), (.double (FP.l2d (((q * q) * q) * q)))] (.double (0 : UInt64))) (V_tc : Arv Z h0 tc kc .int (8 : Int32) [(.int (0 : Int32)), (.int ((ba + bb) + (bc + (0 : Int32)))), (.int (ba + bb)), (.int (bc + (0 : Int32))), (.int ba), (.int bb), (.int bc), (.int (0 : Int32))] (.int (0 : Int32))) (V_tw : Arv Z h0 tw kw .double (8 : Int32) [(.double (0 : UInt64)), (.double (FP.l2d ((va + (own_e q ba) * vb) + (own_e q (ba + bb)) * (vc + (own_e q bc) * vd)))), (.double (FP.l2d (va + (own_e q ba) * vb))), (.double (FP.l2d (vc + (own_e q bc) * vd))), (.double (FP.l2d va)), (.double (FP.l2d vb)), (.double (FP.l2d vc)), (.double (FP.l2d vd))] (.double (0 : UInt64))) (ne5 : a1 ≠ tc ∧ a1 ≠ tw ∧ tc ≠ tw ∧ td ≠ tc ∧ td ≠ tw) (g_tc : n0 ≤ tc) (g_tw : n0 ≤ tw) (hq : own_b 4 q) (hxb : own_b 2147483648 x) (hva : own_b 2147483648 va) (hvb : own_b 2147483648 vb) (hvc : own_b 2147483648 vc) (hvd : own_b 2147483648 vd) (hba : ba = 0 ∨ ba = 1) (hbb : bb = 0 ∨ bb = 1) (hbc : bc = 0 ∨ bc = 1) :
    MetFree l (⟨"com/example/placewright/placewright/GrowingRanks", "add", "(ID)V"⟩ : MethodName) (head1 (Jvm.Cond.code (⟨"com/example/placewright/placewright/GrowingRanks", "add", "(ID)V"⟩ : MethodName) prog_20_method_3_code 5 none :: ws) roomadd3) (fun aa_ U_ => aa_ = #[(.ref a1), (.int (3 : Int32)), (.double (FP.l2d x))] ∧ Z.Warmed39 U_.vm ∧ U_.heap = h0) (fun _ _ _ _ _ => True) (fun _ U_ o_ W_ => ∃ v_ L_, o_ = .returned v_ ∧ (Qadd3 Z tc tw kc kw q x va vb vc vd ba bb bc h0 n0) v_ W_.heap L_ ∧ FrameEnd U_ o_ W_ L_ roomadd3.cells roomadd3.slots) := by
  refine own_met (Q := (Qadd3 Z tc tw kc kw q x va vb vc vd ba bb bc h0 n0)) (L0 := #[.val (.ref a1), .val (.int (3 : Int32)), .val (.double (FP.l2d x)), .second, .unset]) (plainFor_of_name pn_0) (fun m => by first | (simp [entryFrame, mkF, argsToLocals, Value.category]; done) | rfl) ?_
  intro p e s m below meth c T0 X0 hx hby hml hown hnm hret hlk hZ e0
  have N0 := Fr.nil n0
  have K0 := Keep.refl h0 [tc, tw]
  refine Go.st (pc' := 1) (S' := [(.ref a1)]) (fun t_ k_ => XS.aloadN X0.here hx rfl (hb hby d4_0) rfl rfl k_) ?_
  obtain ⟨T1, X1, e1, st1⟩ := getF X0 hx hZ hown (host := "") (Or.inl (wd hw 12 rfl)) Via.refl e0 F_leaves (g := (mkF m 1 #[.val (.ref a1), .val (.int (3 : Int32)), .val (.double (FP.l2d x)), .second, .unset] [(.ref a1)])) rfl rfl (hb hby d4_1)
  refine Go.st (pc' := 4) (S' := [(.int (4 : Int32))]) st1 ?_
  refine Go.st (pc' := 5) (S' := [(.int (3 : Int32)), (.int (4 : Int32))]) (fun t_ k_ => XS.iloadN X1.here hx rfl (hb hby d4_4) rfl k_) ?_
  refine Go.st (pc' := 6) (S' := [(.int ((4 : Int32) + (3 : Int32)))]) (fun t_ k_ => XS.iadd X1.here hx rfl (hb hby d4_5) rfl k_) ?_
  rw [show ((4 : Int32) + (3 : Int32)) = (7 : Int32) from by decide]
  refine Go.st (pc' := 8) (S' := []) (fun t_ k_ => XS.istore X1.here hx rfl (hb hby d4_6) rfl (l' := #[.val (.ref a1), .val (.int (3 : Int32)), .val (.double (FP.l2d x)), .second, .val (.int (7 : Int32))]) rfl k_) ?_
  refine Go.st (pc' := 9) (S' := [(.ref a1)]) (fun t_ k_ => XS.aloadN X1.here hx rfl (hb hby d4_8) rfl rfl k_) ?_
  obtain ⟨T2, X2, e2, st2⟩ := getF X1 hx hZ hown (host := "") (Or.inl (wd hw 15 rfl)) Via.refl e1 F_count (g := (mkF m 9 #[.val (.ref a1), .val (.int (3 : Int32)), .val (.double (FP.l2d x)), .second, .val (.int (7 : Int32))] [(.ref a1)])) rfl rfl (hb hby d4_9)
  refine Go.st (pc' := 12) (S' := [(.ref tc)]) st2 ?_
  refine Go.st (pc' := 14) (S' := [(.int (7 : Int32)), (.ref tc)]) (fun t_ k_ => XS.iload X2.here hx rfl (hb hby d4_12) rfl k_) ?_
  obtain ⟨cl3, Ar3, -, q3a, q3b, q3c, q3d⟩ := id V_tc
  refine Go.st (pc' := 15) (S' := [(.int (0 : Int32))]) (fun t_ k_ => X2.iaload hx (j := (7 : Int32)) (v := (.int (0 : Int32))) (by rw [e2]; exact Ar3.1) (State.isArrayOf_alike hZ.alike Ar3.2.1) Ar3.2.2 (inb_of q3a ⟨by decide, by decide⟩) (q3c.at (inb_of q3a ⟨by decide, by decide⟩) rfl) (g := (mkF m 14 #[.val (.ref a1), .val (.int (3 : Int32)), .val (.double (FP.l2d x)), .second, .val (.int (7 : Int32))] [(.int (7 : Int32)), (.ref tc)])) rfl rfl (hb hby d4_14) t_ k_) ?_
  refine Go.st (pc' := 32) (S' := []) (fun t_ k_ => XS.ifYes X2.here hx rfl (pc0 := 15) (pc' := 32) rfl (hb hby d4_15) rfl ((if0 _ _).trans (teq (by decide : ((0 : Int32) = (0 : Int32)))).1) (by decide) (by decide) k_) ?_
  refine Go.st (pc' := 33) (S' := [(.ref a1)]) (fun t_ k_ => XS.aloadN X2.here hx rfl (hb hby d4_32) rfl rfl k_) ?_
  obtain ⟨T4, X4, e4, st4⟩ := getF X2 hx hZ hown (host := "") (Or.inl (wd hw 15 rfl)) Via.refl e2 F_count (g := (mkF m 33 #[.val (.ref a1), .val (.int (3 : Int32)), .val (.double (FP.l2d x)), .second, .val (.int (7 : Int32))] [(.ref a1)])) rfl rfl (hb hby d4_33)
  refine Go.st (pc' := 36) (S' := [(.ref tc)]) st4 ?_
  refine Go.st (pc' := 38) (S' := [(.int (7 : Int32)), (.ref tc)]) (fun t_ k_ => XS.iload X4.here hx rfl (hb hby d4_36) rfl k_) ?_
  refine Go.st (pc' := 39) (S' := [(.int (1 : Int32)), (.int (7 : Int32)), (.ref tc)]) (fun t_ k_ => XS.iconst X4.here hx rfl (hb hby d4_38) k_) ?_
  obtain ⟨cl5, Ar5, q51, q52, q53, q54, q55⟩ := V_tc
  obtain ⟨T5, h5, X5, e5, W5, st5⟩ := stI X4 hx hZ e4 Ar5 (j := (7 : Int32)) (inb_of q52 ⟨by decide, by decide⟩) (g := (mkF m 39 #[.val (.ref a1), .val (.int (3 : Int32)), .val (.double (FP.l2d x)), .second, .val (.int (7 : Int32))] [(.int (1 : Int32)), (.int (7 : Int32)), (.ref tc)])) rfl rfl (hb hby d4_39)
  replace V_tc := Arv.set Ar5 q51 q52 q53 q54 q55 rfl W5 7 rfl (Nat.le_of_ble_eq_true rfl)
  have V_tc : Arv Z h5 tc kc .int (8 : Int32) [(.int (0 : Int32)), (.int ((ba + bb) + (bc + (0 : Int32)))), (.int (ba + bb)), (.int (bc + (0 : Int32))), (.int ba), (.int bb), (.int bc), (.int (1 : Int32))] (.int (0 : Int32)) := V_tc
  replace Z0 := Nat.le_trans Z0 (Keep.of_wr W5).1
  replace K0 := K0.wr W5 (Or.inl (List.mem_of_getElem? (i := 0) rfl))
  replace E_a1 := E_a1.wr W5
  replace F_discounts := F_discounts.other W5 (Or.inl ne5.1)
  replace F_leaves := F_leaves.other W5 (Or.inl ne5.1)
  replace F_count := F_count.other W5 (Or.inl ne5.1)
  replace F_worth := F_worth.other W5 (Or.inl ne5.1)
  replace V_td := V_td.other W5 ne5.2.2.2.1
  replace V_tw := V_tw.other W5 (Ne.symm ne5.2.2.1)
  have N5 := Fr.snoc X5 N0 g_tc
  refine Go.st (pc' := 40) (S' := []) st5 ?_
  refine Go.st (pc' := 41) (S' := [(.ref a1)]) (fun t_ k_ => XS.aloadN X5.here hx rfl (hb hby d4_40) rfl rfl k_) ?_
  refine Go.st (pc' := 43) (S' := [(.int (7 : Int32)), (.ref a1)]) (fun t_ k_ => XS.iload X5.here hx rfl (hb hby d4_41) rfl k_) ?_
  refine Go.st (pc' := 44) (S' := [(.double (FP.l2d x)), (.int (7 : Int32)), (.ref a1)]) (fun t_ k_ => XS.dloadN X5.here hx rfl (hb hby d4_43) rfl k_) ?_
  obtain ⟨cq6, q6, q6'⟩ := E_a1.cell
  obtain ⟨_, _, ⟨T6, L6, k6, n6⟩, -, X6, ⟨Lc6, hQ6, l6, y6, z6⟩, st6⟩ := X5.privateBack hx (y := (⟨"com/example/placewright/placewright/GrowingRanks", "set", "(ID)V"⟩ : MethodName)) hown (mvT hZ (wd hw 31 rfl)) (mvT hZ (wd hw 32 rfl)) (own_selQ (Cond.privateMethod_at (mvP hZ (wd hw 33 rfl) (args := #[]))) (mvT hZ (wd hw 32 rfl)) (by decide) (mvT hZ (wd hw 22 rfl)) rfl) (Cond.privateMethod_at (mvP hZ (wd hw 33 rfl) (args := #[]))) (mvT hZ (wd hw 34 rfl)) (by decide) (backOf (W := 0) (rmset3 l Z a0 hw [] a1 td tc tw _ _ _ q x va vb vc vd ba bb bc _ _ _ _ _ h5 n0 Z0 E_a1 F_discounts F_leaves F_count F_worth V_td V_tc V_tw ⟨ne5.1, ne5.2.1, ne5.2.2.1, ne5.2.2.2.1, ne5.2.2.2.2⟩ g_tc g_tw hq hxb hva hvb hvc hvd hba hbb hbc) hZ (wd hw 34 rfl) (wd hw 3 rfl) (by decide) (by decide)) (g := (mkF m 44 #[.val (.ref a1), .val (.int (3 : Int32)), .val (.double (FP.l2d x)), .second, .val (.int (7 : Int32))] [(.double (FP.l2d x)), (.int (7 : Int32)), (.ref a1)])) rfl (by rw [hml]; rfl) (Steps.refl _) (a := a1) (by rw [e5]; exact q6) q6' (argsL := [(.int (7 : Int32)), (.double (FP.l2d x))]) (rest := []) (lenOf pd_0 rfl) rfl (by show 2 * 0 + _ ≤ _; exact Nat.le_of_eq rfl) (hb hby d4_44) (fun _ _ => ⟨rfl, e5, (by decide : 0 + 0 ≤ _), (by decide : 0 + 0 ≤ _)⟩)
  dsimp only [Pt.U, Pt.locs, Pt.cells, Pt.slots] at X6 l6 y6 z6 st6 hQ6
  subst l6 y6 z6
  obtain ⟨rfl, N6q, K6, Vc6, Vw6⟩ := hQ6
  have N6 := Fr.app N5 N6q
  obtain ⟨h6, e6⟩ : ∃ z, T6.heap = z := ⟨_, rfl⟩
  rw [e6] at K6 Vc6 Vw6
  replace Z0 := Nat.le_trans Z0 K6.1
  replace K0 := K0.trans K6 (allS (Or.inl (List.mem_of_getElem? (i := 0) rfl)) (allS (Or.inl (List.mem_of_getElem? (i := 1) rfl)) all0))
  replace E_a1 := E_a1.keep K6
  replace F_discounts := F_discounts.keep K6 (ninS ne5.1 (ninS ne5.2.1 nin0))
  replace F_leaves := F_leaves.keep K6 (ninS ne5.1 (ninS ne5.2.1 nin0))
  replace F_count := F_count.keep K6 (ninS ne5.1 (ninS ne5.2.1 nin0))
  replace F_worth := F_worth.keep K6 (ninS ne5.1 (ninS ne5.2.1 nin0))
  replace V_td := V_td.keep K6 (ninS ne5.2.2.2.1 (ninS ne5.2.2.2.2 nin0))
  refine Go.tr (pc' := 47) (S' := []) st6 ?_
  exact Go.retV X6 hx hlk hret (hb hby d4_47) (by decide) (by decide) (by rw [e6]; exact ⟨rfl, N6, K0, Vc6, Vw6⟩)
theorem d3_0 : decode prog_20_method_6_code 0 = .ok (.aload_n 0, 1) := by decide +kernel
theorem d3_1 : decode prog_20_method_6_code 1 = .ok (.getfield 21, 3) := by decide +kernel
theorem d3_4 : decode prog_20_method_6_code 4 = .ok (.iconst 1, 1) := by decide +kernel
theorem d3_5 : decode prog_20_method_6_code 5 = .ok (.daload, 1) := by decide +kernel
theorem d3_6 : decode prog_20_method_6_code 6 = .ok (.dreturn, 1) := by decide +kernel
def Qval (Z : State) (y1 : UInt64) (h0 : Heap) (n0 : Nat) (v : Option Value) (h : Heap) (L : List Loc) : Prop := v = some (.double y1) ∧ Fr n0 L ∧ h = h0
def roomval : Room := { frames := 0, cells := 0, slots := 0, locals := 0 }
theorem rmval (l : Launch) (Z : State) (a0 : Array Value) (hw : ∀ d ∈ tables_1, d.before a0 Z = true) (ws : List Jvm.Cond) (a1 tw : Addr) (kw : ClassId) (y0 y1 y2 y3 y4 y5 y6 y7 : UInt64) (h0 : Heap) (n0 : Nat) (Z0 : n0 ≤ h0.size) (F1 : Fld Z h0 a1 "com/example/placewright/placewright/GrowingRanks" "worth" "[D" (.ref tw)) (V_tw : Arv Z h0 tw kw .double (8 : Int32) [(.double y0), (.double y1), (.double y2), (.double y3), (.double y4), (.double y5), (.double y6), (.double y7)] (.double (0 : UInt64))) :
    MetFree l (⟨"com/example/placewright/placewright/GrowingRanks", "value", "()D"⟩ : MethodName) (head1 (Jvm.Cond.code (⟨"com/example/placewright/placewright/GrowingRanks", "value", "()D"⟩ : MethodName) prog_20_method_6_code 1 (some .double) :: ws) roomval) (fun aa_ U_ => aa_ = #[(.ref a1)] ∧ Z.Warmed39 U_.vm ∧ U_.heap = h0) (fun _ _ _ _ _ => True) (fun _ U_ o_ W_ => ∃ v_ L_, o_ = .returned v_ ∧ (Qval Z y1 h0 n0) v_ W_.heap L_ ∧ FrameEnd U_ o_ W_ L_ roomval.cells roomval.slots) := by
  refine own_met (Q := (Qval Z y1 h0 n0)) (L0 := #[.val (.ref a1)]) (plainFor_of_name pn_0) (fun m => by first | (simp [entryFrame, mkF, argsToLocals, Value.category]; done) | rfl) ?_
  intro p e s m below meth c T0 X0 hx hby hml hown hnm hret hlk hZ e0
  have N0 := Fr.nil n0
  refine Go.st (pc' := 1) (S' := [(.ref a1)]) (fun t_ k_ => XS.aloadN X0.here hx rfl (hb hby d3_0) rfl rfl k_) ?_
  obtain ⟨T1, X1, e1, st1⟩ := getF X0 hx hZ hown (host := "") (Or.inl (wd hw 17 rfl)) Via.refl e0 F1 (g := (mkF m 1 #[.val (.ref a1)] [(.ref a1)])) rfl rfl (hb hby d3_1)
  refine Go.st (pc' := 4) (S' := [(.ref tw)]) st1 ?_
  refine Go.st (pc' := 5) (S' := [(.int (1 : Int32)), (.ref tw)]) (fun t_ k_ => XS.iconst X1.here hx rfl (hb hby d3_4) k_) ?_
  obtain ⟨cl2, Ar2, -, q2a, q2b, q2c, q2d⟩ := id V_tw
  refine Go.st (pc' := 6) (S' := [(.double y1)]) (fun t_ k_ => X1.daload hx (j := (1 : Int32)) (v := (.double y1)) (by rw [e1]; exact Ar2.1) (State.isArrayOf_alike hZ.alike Ar2.2.1) Ar2.2.2 (inb_of q2a ⟨by decide, by decide⟩) (q2c.at (inb_of q2a ⟨by decide, by decide⟩) rfl) (g := (mkF m 5 #[.val (.ref a1)] [(.int (1 : Int32)), (.ref tw)])) rfl rfl (hb hby d3_5) t_ k_) ?_
  exact Go.retO X1 hx hlk hret rfl (by simp [FieldType.isReference, Value.isRef]) (hb hby d3_6) (by decide) (by decide) (by rw [e1]; exact ⟨rfl, N0, rfl⟩)
def Qref (Z : State) (r : Int64) (h0 : Heap) (n0 : Nat) (v : Option Value) (h : Heap) (L : List Loc) : Prop := v = some (.double (FP.l2d r)) ∧ Fr n0 L ∧ h = h0
theorem d6_97 : decode method_3_code 97 = .ok (.dload_n 3, 1) := by decide +kernel
theorem d6_98 : decode method_3_code 98 = .ok (.dreturn, 1) := by decide +kernel
theorem pn_1 : plainName "com/example/placewright/placewright/GrowingRanksAddPinLaw" = true := by first | (simp [plainName, overriddenIn]; done) | decide +kernel
theorem d6_74 : decode method_3_code 74 = .ok (.aload_n 0, 1) := by decide +kernel
theorem d6_75 : decode method_3_code 75 = .ok (.iconst 3, 1) := by decide +kernel
theorem d6_76 : decode method_3_code 76 = .ok (.baload, 1) := by decide +kernel
theorem d6_77 : decode method_3_code 77 = .ok (.ifCond .eq 20, 3) := by decide +kernel
theorem d6_80 : decode method_3_code 80 = .ok (.dload_n 3, 1) := by decide +kernel
theorem d6_81 : decode method_3_code 81 = .ok (.aload_n 1, 1) := by decide +kernel
theorem d6_82 : decode method_3_code 82 = .ok (.iconst 3, 1) := by decide +kernel
theorem d6_83 : decode method_3_code 83 = .ok (.daload, 1) := by decide +kernel
theorem d6_84 : decode method_3_code 84 = .ok (.aload_n 2, 1) := by decide +kernel
theorem d6_85 : decode method_3_code 85 = .ok (.iload 5, 2) := by decide +kernel
theorem d6_87 : decode method_3_code 87 = .ok (.daload, 1) := by decide +kernel
theorem d6_88 : decode method_3_code 88 = .ok (.dmul, 1) := by decide +kernel
theorem d6_89 : decode method_3_code 89 = .ok (.dadd, 1) := by decide +kernel
theorem d6_90 : decode method_3_code 90 = .ok (.dstore_n 3, 1) := by decide +kernel
theorem d6_91 : decode method_3_code 91 = .ok (.iload 5, 2) := by decide +kernel
theorem d6_93 : decode method_3_code 93 = .ok (.iconst 1, 1) := by decide +kernel
theorem d6_94 : decode method_3_code 94 = .ok (.iadd, 1) := by decide +kernel
theorem d6_95 : decode method_3_code 95 = .ok (.istore 5, 2) := by decide +kernel
theorem d6_51 : decode method_3_code 51 = .ok (.aload_n 0, 1) := by decide +kernel
theorem d6_52 : decode method_3_code 52 = .ok (.iconst 2, 1) := by decide +kernel
theorem d6_53 : decode method_3_code 53 = .ok (.baload, 1) := by decide +kernel
theorem d6_54 : decode method_3_code 54 = .ok (.ifCond .eq 20, 3) := by decide +kernel
theorem d6_57 : decode method_3_code 57 = .ok (.dload_n 3, 1) := by decide +kernel
theorem d6_58 : decode method_3_code 58 = .ok (.aload_n 1, 1) := by decide +kernel
theorem d6_59 : decode method_3_code 59 = .ok (.iconst 2, 1) := by decide +kernel
theorem d6_60 : decode method_3_code 60 = .ok (.daload, 1) := by decide +kernel
theorem d6_61 : decode method_3_code 61 = .ok (.aload_n 2, 1) := by decide +kernel
theorem d6_62 : decode method_3_code 62 = .ok (.iload 5, 2) := by decide +kernel
theorem d6_64 : decode method_3_code 64 = .ok (.daload, 1) := by decide +kernel
theorem d6_65 : decode method_3_code 65 = .ok (.dmul, 1) := by decide +kernel
theorem d6_66 : decode method_3_code 66 = .ok (.dadd, 1) := by decide +kernel
theorem d6_67 : decode method_3_code 67 = .ok (.dstore_n 3, 1) := by decide +kernel
theorem d6_68 : decode method_3_code 68 = .ok (.iload 5, 2) := by decide +kernel
theorem d6_70 : decode method_3_code 70 = .ok (.iconst 1, 1) := by decide +kernel
theorem d6_71 : decode method_3_code 71 = .ok (.iadd, 1) := by decide +kernel
theorem d6_72 : decode method_3_code 72 = .ok (.istore 5, 2) := by decide +kernel
theorem d6_28 : decode method_3_code 28 = .ok (.aload_n 0, 1) := by decide +kernel
theorem d6_29 : decode method_3_code 29 = .ok (.iconst 1, 1) := by decide +kernel
theorem d6_30 : decode method_3_code 30 = .ok (.baload, 1) := by decide +kernel
theorem d6_31 : decode method_3_code 31 = .ok (.ifCond .eq 20, 3) := by decide +kernel
theorem d6_34 : decode method_3_code 34 = .ok (.dload_n 3, 1) := by decide +kernel
theorem d6_35 : decode method_3_code 35 = .ok (.aload_n 1, 1) := by decide +kernel
theorem d6_36 : decode method_3_code 36 = .ok (.iconst 1, 1) := by decide +kernel
theorem d6_37 : decode method_3_code 37 = .ok (.daload, 1) := by decide +kernel
theorem d6_38 : decode method_3_code 38 = .ok (.aload_n 2, 1) := by decide +kernel
theorem d6_39 : decode method_3_code 39 = .ok (.iload 5, 2) := by decide +kernel
theorem d6_41 : decode method_3_code 41 = .ok (.daload, 1) := by decide +kernel
theorem d6_42 : decode method_3_code 42 = .ok (.dmul, 1) := by decide +kernel
theorem d6_43 : decode method_3_code 43 = .ok (.dadd, 1) := by decide +kernel
theorem d6_44 : decode method_3_code 44 = .ok (.dstore_n 3, 1) := by decide +kernel
theorem d6_45 : decode method_3_code 45 = .ok (.iload 5, 2) := by decide +kernel
theorem d6_47 : decode method_3_code 47 = .ok (.iconst 1, 1) := by decide +kernel
theorem d6_48 : decode method_3_code 48 = .ok (.iadd, 1) := by decide +kernel
theorem d6_49 : decode method_3_code 49 = .ok (.istore 5, 2) := by decide +kernel
theorem d6_0 : decode method_3_code 0 = .ok (.dconst 0, 1) := by decide +kernel
theorem d6_1 : decode method_3_code 1 = .ok (.dstore_n 3, 1) := by decide +kernel
theorem d6_2 : decode method_3_code 2 = .ok (.iconst 0, 1) := by decide +kernel
theorem d6_3 : decode method_3_code 3 = .ok (.istore 5, 2) := by decide +kernel
theorem d6_5 : decode method_3_code 5 = .ok (.aload_n 0, 1) := by decide +kernel
theorem d6_6 : decode method_3_code 6 = .ok (.iconst 0, 1) := by decide +kernel
theorem d6_7 : decode method_3_code 7 = .ok (.baload, 1) := by decide +kernel
theorem d6_8 : decode method_3_code 8 = .ok (.ifCond .eq 20, 3) := by decide +kernel
theorem d6_11 : decode method_3_code 11 = .ok (.dload_n 3, 1) := by decide +kernel
theorem d6_12 : decode method_3_code 12 = .ok (.aload_n 1, 1) := by decide +kernel
theorem d6_13 : decode method_3_code 13 = .ok (.iconst 0, 1) := by decide +kernel
theorem d6_14 : decode method_3_code 14 = .ok (.daload, 1) := by decide +kernel
theorem d6_15 : decode method_3_code 15 = .ok (.aload_n 2, 1) := by decide +kernel
theorem d6_16 : decode method_3_code 16 = .ok (.iload 5, 2) := by decide +kernel
theorem d6_18 : decode method_3_code 18 = .ok (.daload, 1) := by decide +kernel
theorem d6_19 : decode method_3_code 19 = .ok (.dmul, 1) := by decide +kernel
theorem d6_20 : decode method_3_code 20 = .ok (.dadd, 1) := by decide +kernel
theorem d6_21 : decode method_3_code 21 = .ok (.dstore_n 3, 1) := by decide +kernel
theorem d6_22 : decode method_3_code 22 = .ok (.iload 5, 2) := by decide +kernel
theorem d6_24 : decode method_3_code 24 = .ok (.iconst 1, 1) := by decide +kernel
theorem d6_25 : decode method_3_code 25 = .ok (.iadd, 1) := by decide +kernel
theorem d6_26 : decode method_3_code 26 = .ok (.istore 5, 2) := by decide +kernel
def roomref : Room := { frames := 0, cells := 0, slots := 0, locals := 0 }
theorem sr4 {p : Program} {l : Launch} {e : Env} {s : State} {m : MethodId} {args : Array Value} {below : List Frame} {meth : Method} {c : Code} {T0 : State} {locs : List Loc} {Z : State} {a0 : Array Value} {n0 : Nat} {h0 hh : Heap} (ti tv td : Addr) (ki kv kd : ClassId) (q va vb vc vd : Int64) (ba bb bc bd : Int32) (r si : Int64) (mi : Int32)
    (X0 : Stand p l e roomref s m args below meth c T0 locs 0 0) (hx : p.tables.exec = Jvm.exec) (hZ : Z.Warmed39 s.vm) (hw : ∀ d ∈ tables_1, d.before a0 Z = true) (hby : c.code = method_3_code) (hml : c.maxLocals = 6) (hown : s.vm.findClass "com/example/placewright/placewright/GrowingRanksAddPinLaw" = some m.cls) (hnm : meth.name = "ref") (hret : meth.sig.returnType = (some .double)) (hlk : meth.locks = false) (e0 : T0.heap = hh) (N0 : Fr n0 locs) (Z0 : n0 ≤ hh.size) (V_ti : Arv Z hh ti ki .boolean (4 : Int32) [(.int ba), (.int bb), (.int bc), (.int bd)] (.int (0 : Int32))) (V_tv : Arv Z hh tv kv .double (4 : Int32) [(.double (FP.l2d va)), (.double (FP.l2d vb)), (.double (FP.l2d vc)), (.double (FP.l2d vd))] (.double (0 : UInt64))) (V_td : Arv Z hh td kd .double (5 : Int32) [(.double (FP.l2d 1)), (.double (FP.l2d q)), (.double (FP.l2d (q * q))), (.double (FP.l2d ((q * q) * q))), (.double (FP.l2d (((q * q) * q) * q)))] (.double (0 : UInt64))) (hq : own_b 4 q) (hva : own_b 2147483648 va) (hvb : own_b 2147483648 vb) (hvc : own_b 2147483648 vc) (hvd : own_b 2147483648 vd) (hs : own_b 2199023255552 si) (hr : si = r) (heq : hh = h0) :
    Go p e below s roomref.cells roomref.slots (Qref Z r h0 n0) m T0 97 #[.val (.ref ti), .val (.ref tv), .val (.ref td), .val (.double (FP.l2d si)), .second, .val (.int mi)] [] := by
  refine Go.st (pc' := 98) (S' := [(.double (FP.l2d si))]) (fun t_ k_ => XS.dloadN X0.here hx rfl (hb hby d6_97) rfl k_) ?_
  exact Go.retO X0 hx hlk hret rfl (by simp [FieldType.isReference, Value.isRef]) (hb hby d6_98) (by decide) (by decide) (by rw [e0]; exact ⟨by rw [← hr], N0, heq⟩)
theorem sr3 {p : Program} {l : Launch} {e : Env} {s : State} {m : MethodId} {args : Array Value} {below : List Frame} {meth : Method} {c : Code} {T0 : State} {locs : List Loc} {Z : State} {a0 : Array Value} {n0 : Nat} {h0 hh : Heap} (ti tv td : Addr) (ki kv kd : ClassId) (q va vb vc vd : Int64) (ba bb bc bd : Int32) (r si : Int64) (mi : Int32)
    (X0 : Stand p l e roomref s m args below meth c T0 locs 0 0) (hx : p.tables.exec = Jvm.exec) (hZ : Z.Warmed39 s.vm) (hw : ∀ d ∈ tables_1, d.before a0 Z = true) (hby : c.code = method_3_code) (hml : c.maxLocals = 6) (hown : s.vm.findClass "com/example/placewright/placewright/GrowingRanksAddPinLaw" = some m.cls) (hnm : meth.name = "ref") (hret : meth.sig.returnType = (some .double)) (hlk : meth.locks = false) (e0 : T0.heap = hh) (N0 : Fr n0 locs) (Z0 : n0 ≤ hh.size) (V_ti : Arv Z hh ti ki .boolean (4 : Int32) [(.int ba), (.int bb), (.int bc), (.int bd)] (.int (0 : Int32))) (V_tv : Arv Z hh tv kv .double (4 : Int32) [(.double (FP.l2d va)), (.double (FP.l2d vb)), (.double (FP.l2d vc)), (.double (FP.l2d vd))] (.double (0 : UInt64))) (V_td : Arv Z hh td kd .double (5 : Int32) [(.double (FP.l2d 1)), (.double (FP.l2d q)), (.double (FP.l2d (q * q))), (.double (FP.l2d ((q * q) * q))), (.double (FP.l2d (((q * q) * q) * q)))] (.double (0 : UInt64))) (hq : own_b 4 q) (hva : own_b 2147483648 va) (hvb : own_b 2147483648 vb) (hvc : own_b 2147483648 vc) (hvd : own_b 2147483648 vd) (hs : own_b 1649267441664 si) (hm : mi = 0 ∨ mi = 1 ∨ mi = 2 ∨ mi = 3) (hr : own_fin3 q bd vd si mi = r) (heq : hh = h0) :
    Go p e below s roomref.cells roomref.slots (Qref Z r h0 n0) m T0 74 #[.val (.ref ti), .val (.ref tv), .val (.ref td), .val (.double (FP.l2d si)), .second, .val (.int mi)] [] := by
  refine Go.st (pc' := 75) (S' := [(.ref ti)]) (fun t_ k_ => XS.aloadN X0.here hx rfl (hb hby d6_74) rfl rfl k_) ?_
  refine Go.st (pc' := 76) (S' := [(.int (3 : Int32)), (.ref ti)]) (fun t_ k_ => XS.iconst X0.here hx rfl (hb hby d6_75) k_) ?_
  obtain ⟨cl1, Ar1, -, q1a, q1b, q1c, q1d⟩ := id V_ti
  refine Go.st (pc' := 77) (S' := [(.int bd)]) (fun t_ k_ => X0.baloadBooleans hx (j := (3 : Int32)) (v := (.int bd)) (by rw [e0]; exact Ar1.1) (State.isArrayOf_alike hZ.alike Ar1.2.1) Ar1.2.2 (inb_of q1a ⟨by decide, by decide⟩) (q1c.at (inb_of q1a ⟨by decide, by decide⟩) rfl) (g := (mkF m 76 #[.val (.ref ti), .val (.ref tv), .val (.ref td), .val (.double (FP.l2d si)), .second, .val (.int mi)] [(.int (3 : Int32)), (.ref ti)])) rfl rfl (hb hby d6_76) t_ k_) ?_
  by_cases hc77_2 : bd = (0 : Int32)
  · refine Go.st (pc' := 97) (S' := []) (fun t_ k_ => XS.ifYes X0.here hx rfl (pc0 := 77) (pc' := 97) rfl (hb hby d6_77) rfl ((if0 _ _).trans (teq hc77_2).1) (by decide) (by decide) k_) ?_
    exact sr4 ti tv td _ _ _ q va vb vc vd ba bb bc bd r si mi (Stand.up X0 (by decide) (by decide)) hx hZ hw hby hml hown hnm hret hlk e0 N0 Z0 V_ti V_tv V_td hq hva hvb hvc hvd (hs.mono (by decide))  (by rw [← hr, own_fin3, if_pos hc77_2]) heq
  · refine Go.st (pc' := 80) (S' := []) (fun t_ k_ => XS.ifNo X0.here hx rfl (hb hby d6_77) rfl ((if0 _ _).trans (feq hc77_2).1) k_) ?_
    refine Go.st (pc' := 81) (S' := [(.double (FP.l2d si))]) (fun t_ k_ => XS.dloadN X0.here hx rfl (hb hby d6_80) rfl k_) ?_
    refine Go.st (pc' := 82) (S' := [(.ref tv), (.double (FP.l2d si))]) (fun t_ k_ => XS.aloadN X0.here hx rfl (hb hby d6_81) rfl rfl k_) ?_
    refine Go.st (pc' := 83) (S' := [(.int (3 : Int32)), (.ref tv), (.double (FP.l2d si))]) (fun t_ k_ => XS.iconst X0.here hx rfl (hb hby d6_82) k_) ?_
    obtain ⟨cl3, Ar3, -, q3a, q3b, q3c, q3d⟩ := id V_tv
    refine Go.st (pc' := 84) (S' := [(.double (FP.l2d vd)), (.double (FP.l2d si))]) (fun t_ k_ => X0.daload hx (j := (3 : Int32)) (v := (.double (FP.l2d vd))) (by rw [e0]; exact Ar3.1) (State.isArrayOf_alike hZ.alike Ar3.2.1) Ar3.2.2 (inb_of q3a ⟨by decide, by decide⟩) (q3c.at (inb_of q3a ⟨by decide, by decide⟩) rfl) (g := (mkF m 83 #[.val (.ref ti), .val (.ref tv), .val (.ref td), .val (.double (FP.l2d si)), .second, .val (.int mi)] [(.int (3 : Int32)), (.ref tv), (.double (FP.l2d si))])) rfl rfl (hb hby d6_83) t_ k_) ?_
    refine Go.st (pc' := 85) (S' := [(.ref td), (.double (FP.l2d vd)), (.double (FP.l2d si))]) (fun t_ k_ => XS.aloadN X0.here hx rfl (hb hby d6_84) rfl rfl k_) ?_
    refine Go.st (pc' := 87) (S' := [(.int mi), (.ref td), (.double (FP.l2d vd)), (.double (FP.l2d si))]) (fun t_ k_ => XS.iload X0.here hx rfl (hb hby d6_85) rfl k_) ?_
    obtain ⟨cl4, Ar4, -, q4a, q4b, q4c, q4d⟩ := id V_td
    refine Go.st (pc' := 88) (S' := [(.double (FP.l2d (own_e q mi))), (.double (FP.l2d vd)), (.double (FP.l2d si))]) (fun t_ k_ => X0.daload hx (j := mi) (v := (.double (FP.l2d (own_e q mi)))) (by rw [e0]; exact Ar4.1) (State.isArrayOf_alike hZ.alike Ar4.2.1) Ar4.2.2 (inb_of q4a (own_c5 hm)) (q4c.at (inb_of q4a (own_c5 hm)) (own_dat hm)) (g := (mkF m 87 #[.val (.ref ti), .val (.ref tv), .val (.ref td), .val (.double (FP.l2d si)), .second, .val (.int mi)] [(.int mi), (.ref td), (.double (FP.l2d vd)), (.double (FP.l2d si))])) rfl rfl (hb hby d6_87) t_ k_) ?_
    have fm5 := own_fma (a := si) (x := vd) (y := (own_e q mi)) (A := 1649267441664) (X := 2147483648) (Y := 256) hs hvd (own_eb hq mi) (by decide) (by decide) rfl (by decide)
    refine Go.st (pc' := 89) (S' := [(.double (FP.dmul (FP.l2d vd) (FP.l2d (own_e q mi)))), (.double (FP.l2d si))]) (fun t_ k_ => XS.dmulS X0.here hx rfl (hb hby d6_88) rfl fm5.2.1 rfl k_) ?_
    refine Go.st (pc' := 90) (S' := [(.double (FP.l2d (si + vd * (own_e q mi))))]) (fun t_ k_ => XS.daddS X0.here hx rfl (hb hby d6_89) rfl (nn_w fm5.1) fm5.1 k_) ?_
    refine Go.st (pc' := 91) (S' := []) (fun t_ k_ => XS.dstoreN X0.here hx rfl (hb hby d6_90) rfl (l' := #[.val (.ref ti), .val (.ref tv), .val (.ref td), .val (.double (FP.l2d (si + vd * (own_e q mi)))), .second, .val (.int mi)]) rfl k_) ?_
    refine Go.st (pc' := 93) (S' := [(.int mi)]) (fun t_ k_ => XS.iload X0.here hx rfl (hb hby d6_91) rfl k_) ?_
    refine Go.st (pc' := 94) (S' := [(.int (1 : Int32)), (.int mi)]) (fun t_ k_ => XS.iconst X0.here hx rfl (hb hby d6_93) k_) ?_
    refine Go.st (pc' := 95) (S' := [(.int (mi + (1 : Int32)))]) (fun t_ k_ => XS.iadd X0.here hx rfl (hb hby d6_94) rfl k_) ?_
    refine Go.st (pc' := 97) (S' := []) (fun t_ k_ => XS.istore X0.here hx rfl (hb hby d6_95) rfl (l' := #[.val (.ref ti), .val (.ref tv), .val (.ref td), .val (.double (FP.l2d (si + vd * (own_e q mi)))), .second, .val (.int (mi + (1 : Int32)))]) rfl k_) ?_
    exact sr4 ti tv td _ _ _ q va vb vc vd ba bb bc bd r (si + vd * (own_e q mi)) (mi + (1 : Int32)) (Stand.up X0 (by decide) (by decide)) hx hZ hw hby hml hown hnm hret hlk e0 N0 Z0 V_ti V_tv V_td hq hva hvb hvc hvd (fm5.2.2.mono (by decide))  (by rw [← hr, own_fin3, if_neg hc77_2]) heq
theorem sr2 {p : Program} {l : Launch} {e : Env} {s : State} {m : MethodId} {args : Array Value} {below : List Frame} {meth : Method} {c : Code} {T0 : State} {locs : List Loc} {Z : State} {a0 : Array Value} {n0 : Nat} {h0 hh : Heap} (ti tv td : Addr) (ki kv kd : ClassId) (q va vb vc vd : Int64) (ba bb bc bd : Int32) (r si : Int64) (mi : Int32)
    (X0 : Stand p l e roomref s m args below meth c T0 locs 0 0) (hx : p.tables.exec = Jvm.exec) (hZ : Z.Warmed39 s.vm) (hw : ∀ d ∈ tables_1, d.before a0 Z = true) (hby : c.code = method_3_code) (hml : c.maxLocals = 6) (hown : s.vm.findClass "com/example/placewright/placewright/GrowingRanksAddPinLaw" = some m.cls) (hnm : meth.name = "ref") (hret : meth.sig.returnType = (some .double)) (hlk : meth.locks = false) (e0 : T0.heap = hh) (N0 : Fr n0 locs) (Z0 : n0 ≤ hh.size) (V_ti : Arv Z hh ti ki .boolean (4 : Int32) [(.int ba), (.int bb), (.int bc), (.int bd)] (.int (0 : Int32))) (V_tv : Arv Z hh tv kv .double (4 : Int32) [(.double (FP.l2d va)), (.double (FP.l2d vb)), (.double (FP.l2d vc)), (.double (FP.l2d vd))] (.double (0 : UInt64))) (V_td : Arv Z hh td kd .double (5 : Int32) [(.double (FP.l2d 1)), (.double (FP.l2d q)), (.double (FP.l2d (q * q))), (.double (FP.l2d ((q * q) * q))), (.double (FP.l2d (((q * q) * q) * q)))] (.double (0 : UInt64))) (hq : own_b 4 q) (hva : own_b 2147483648 va) (hvb : own_b 2147483648 vb) (hvc : own_b 2147483648 vc) (hvd : own_b 2147483648 vd) (hs : own_b 1099511627776 si) (hm : mi = 0 ∨ mi = 1 ∨ mi = 2) (hr : own_fin2 q bc bd vc vd si mi = r) (heq : hh = h0) :
    Go p e below s roomref.cells roomref.slots (Qref Z r h0 n0) m T0 51 #[.val (.ref ti), .val (.ref tv), .val (.ref td), .val (.double (FP.l2d si)), .second, .val (.int mi)] [] := by
  refine Go.st (pc' := 52) (S' := [(.ref ti)]) (fun t_ k_ => XS.aloadN X0.here hx rfl (hb hby d6_51) rfl rfl k_) ?_
  refine Go.st (pc' := 53) (S' := [(.int (2 : Int32)), (.ref ti)]) (fun t_ k_ => XS.iconst X0.here hx rfl (hb hby d6_52) k_) ?_
  obtain ⟨cl1, Ar1, -, q1a, q1b, q1c, q1d⟩ := id V_ti
  refine Go.st (pc' := 54) (S' := [(.int bc)]) (fun t_ k_ => X0.baloadBooleans hx (j := (2 : Int32)) (v := (.int bc)) (by rw [e0]; exact Ar1.1) (State.isArrayOf_alike hZ.alike Ar1.2.1) Ar1.2.2 (inb_of q1a ⟨by decide, by decide⟩) (q1c.at (inb_of q1a ⟨by decide, by decide⟩) rfl) (g := (mkF m 53 #[.val (.ref ti), .val (.ref tv), .val (.ref td), .val (.double (FP.l2d si)), .second, .val (.int mi)] [(.int (2 : Int32)), (.ref ti)])) rfl rfl (hb hby d6_53) t_ k_) ?_
  by_cases hc54_2 : bc = (0 : Int32)
  · refine Go.st (pc' := 74) (S' := []) (fun t_ k_ => XS.ifYes X0.here hx rfl (pc0 := 54) (pc' := 74) rfl (hb hby d6_54) rfl ((if0 _ _).trans (teq hc54_2).1) (by decide) (by decide) k_) ?_
    exact sr3 ti tv td _ _ _ q va vb vc vd ba bb bc bd r si mi (Stand.up X0 (by decide) (by decide)) hx hZ hw hby hml hown hnm hret hlk e0 N0 Z0 V_ti V_tv V_td hq hva hvb hvc hvd (hs.mono (by decide)) (by rcases hm with rfl | rfl | rfl <;> decide) (by rw [← hr, own_fin2, if_pos hc54_2]) heq
  · refine Go.st (pc' := 57) (S' := []) (fun t_ k_ => XS.ifNo X0.here hx rfl (hb hby d6_54) rfl ((if0 _ _).trans (feq hc54_2).1) k_) ?_
    refine Go.st (pc' := 58) (S' := [(.double (FP.l2d si))]) (fun t_ k_ => XS.dloadN X0.here hx rfl (hb hby d6_57) rfl k_) ?_
    refine Go.st (pc' := 59) (S' := [(.ref tv), (.double (FP.l2d si))]) (fun t_ k_ => XS.aloadN X0.here hx rfl (hb hby d6_58) rfl rfl k_) ?_
    refine Go.st (pc' := 60) (S' := [(.int (2 : Int32)), (.ref tv), (.double (FP.l2d si))]) (fun t_ k_ => XS.iconst X0.here hx rfl (hb hby d6_59) k_) ?_
    obtain ⟨cl3, Ar3, -, q3a, q3b, q3c, q3d⟩ := id V_tv
    refine Go.st (pc' := 61) (S' := [(.double (FP.l2d vc)), (.double (FP.l2d si))]) (fun t_ k_ => X0.daload hx (j := (2 : Int32)) (v := (.double (FP.l2d vc))) (by rw [e0]; exact Ar3.1) (State.isArrayOf_alike hZ.alike Ar3.2.1) Ar3.2.2 (inb_of q3a ⟨by decide, by decide⟩) (q3c.at (inb_of q3a ⟨by decide, by decide⟩) rfl) (g := (mkF m 60 #[.val (.ref ti), .val (.ref tv), .val (.ref td), .val (.double (FP.l2d si)), .second, .val (.int mi)] [(.int (2 : Int32)), (.ref tv), (.double (FP.l2d si))])) rfl rfl (hb hby d6_60) t_ k_) ?_
    refine Go.st (pc' := 62) (S' := [(.ref td), (.double (FP.l2d vc)), (.double (FP.l2d si))]) (fun t_ k_ => XS.aloadN X0.here hx rfl (hb hby d6_61) rfl rfl k_) ?_
    refine Go.st (pc' := 64) (S' := [(.int mi), (.ref td), (.double (FP.l2d vc)), (.double (FP.l2d si))]) (fun t_ k_ => XS.iload X0.here hx rfl (hb hby d6_62) rfl k_) ?_
    obtain ⟨cl4, Ar4, -, q4a, q4b, q4c, q4d⟩ := id V_td
    refine Go.st (pc' := 65) (S' := [(.double (FP.l2d (own_e q mi))), (.double (FP.l2d vc)), (.double (FP.l2d si))]) (fun t_ k_ => X0.daload hx (j := mi) (v := (.double (FP.l2d (own_e q mi)))) (by rw [e0]; exact Ar4.1) (State.isArrayOf_alike hZ.alike Ar4.2.1) Ar4.2.2 (inb_of q4a (own_c5 (by rcases hm with rfl | rfl | rfl <;> decide))) (q4c.at (inb_of q4a (own_c5 (by rcases hm with rfl | rfl | rfl <;> decide))) (own_dat (by rcases hm with rfl | rfl | rfl <;> decide))) (g := (mkF m 64 #[.val (.ref ti), .val (.ref tv), .val (.ref td), .val (.double (FP.l2d si)), .second, .val (.int mi)] [(.int mi), (.ref td), (.double (FP.l2d vc)), (.double (FP.l2d si))])) rfl rfl (hb hby d6_64) t_ k_) ?_
    have fm5 := own_fma (a := si) (x := vc) (y := (own_e q mi)) (A := 1099511627776) (X := 2147483648) (Y := 256) hs hvc (own_eb hq mi) (by decide) (by decide) rfl (by decide)
    refine Go.st (pc' := 66) (S' := [(.double (FP.dmul (FP.l2d vc) (FP.l2d (own_e q mi)))), (.double (FP.l2d si))]) (fun t_ k_ => XS.dmulS X0.here hx rfl (hb hby d6_65) rfl fm5.2.1 rfl k_) ?_
    refine Go.st (pc' := 67) (S' := [(.double (FP.l2d (si + vc * (own_e q mi))))]) (fun t_ k_ => XS.daddS X0.here hx rfl (hb hby d6_66) rfl (nn_w fm5.1) fm5.1 k_) ?_
    refine Go.st (pc' := 68) (S' := []) (fun t_ k_ => XS.dstoreN X0.here hx rfl (hb hby d6_67) rfl (l' := #[.val (.ref ti), .val (.ref tv), .val (.ref td), .val (.double (FP.l2d (si + vc * (own_e q mi)))), .second, .val (.int mi)]) rfl k_) ?_
    refine Go.st (pc' := 70) (S' := [(.int mi)]) (fun t_ k_ => XS.iload X0.here hx rfl (hb hby d6_68) rfl k_) ?_
    refine Go.st (pc' := 71) (S' := [(.int (1 : Int32)), (.int mi)]) (fun t_ k_ => XS.iconst X0.here hx rfl (hb hby d6_70) k_) ?_
    refine Go.st (pc' := 72) (S' := [(.int (mi + (1 : Int32)))]) (fun t_ k_ => XS.iadd X0.here hx rfl (hb hby d6_71) rfl k_) ?_
    refine Go.st (pc' := 74) (S' := []) (fun t_ k_ => XS.istore X0.here hx rfl (hb hby d6_72) rfl (l' := #[.val (.ref ti), .val (.ref tv), .val (.ref td), .val (.double (FP.l2d (si + vc * (own_e q mi)))), .second, .val (.int (mi + (1 : Int32)))]) rfl k_) ?_
    exact sr3 ti tv td _ _ _ q va vb vc vd ba bb bc bd r (si + vc * (own_e q mi)) (mi + (1 : Int32)) (Stand.up X0 (by decide) (by decide)) hx hZ hw hby hml hown hnm hret hlk e0 N0 Z0 V_ti V_tv V_td hq hva hvb hvc hvd (fm5.2.2.mono (by decide)) (by rcases hm with rfl | rfl | rfl <;> decide) (by rw [← hr, own_fin2, if_neg hc54_2]) heq
theorem sr1 {p : Program} {l : Launch} {e : Env} {s : State} {m : MethodId} {args : Array Value} {below : List Frame} {meth : Method} {c : Code} {T0 : State} {locs : List Loc} {Z : State} {a0 : Array Value} {n0 : Nat} {h0 hh : Heap} (ti tv td : Addr) (ki kv kd : ClassId) (q va vb vc vd : Int64) (ba bb bc bd : Int32) (r si : Int64) (mi : Int32)
    (X0 : Stand p l e roomref s m args below meth c T0 locs 0 0) (hx : p.tables.exec = Jvm.exec) (hZ : Z.Warmed39 s.vm) (hw : ∀ d ∈ tables_1, d.before a0 Z = true) (hby : c.code = method_3_code) (hml : c.maxLocals = 6) (hown : s.vm.findClass "com/example/placewright/placewright/GrowingRanksAddPinLaw" = some m.cls) (hnm : meth.name = "ref") (hret : meth.sig.returnType = (some .double)) (hlk : meth.locks = false) (e0 : T0.heap = hh) (N0 : Fr n0 locs) (Z0 : n0 ≤ hh.size) (V_ti : Arv Z hh ti ki .boolean (4 : Int32) [(.int ba), (.int bb), (.int bc), (.int bd)] (.int (0 : Int32))) (V_tv : Arv Z hh tv kv .double (4 : Int32) [(.double (FP.l2d va)), (.double (FP.l2d vb)), (.double (FP.l2d vc)), (.double (FP.l2d vd))] (.double (0 : UInt64))) (V_td : Arv Z hh td kd .double (5 : Int32) [(.double (FP.l2d 1)), (.double (FP.l2d q)), (.double (FP.l2d (q * q))), (.double (FP.l2d ((q * q) * q))), (.double (FP.l2d (((q * q) * q) * q)))] (.double (0 : UInt64))) (hq : own_b 4 q) (hva : own_b 2147483648 va) (hvb : own_b 2147483648 vb) (hvc : own_b 2147483648 vc) (hvd : own_b 2147483648 vd) (hs : own_b 549755813888 si) (hm : mi = 0 ∨ mi = 1) (hr : own_fin1 q bb bc bd vb vc vd si mi = r) (heq : hh = h0) :
    Go p e below s roomref.cells roomref.slots (Qref Z r h0 n0) m T0 28 #[.val (.ref ti), .val (.ref tv), .val (.ref td), .val (.double (FP.l2d si)), .second, .val (.int mi)] [] := by
  refine Go.st (pc' := 29) (S' := [(.ref ti)]) (fun t_ k_ => XS.aloadN X0.here hx rfl (hb hby d6_28) rfl rfl k_) ?_
  refine Go.st (pc' := 30) (S' := [(.int (1 : Int32)), (.ref ti)]) (fun t_ k_ => XS.iconst X0.here hx rfl (hb hby d6_29) k_) ?_
  obtain ⟨cl1, Ar1, -, q1a, q1b, q1c, q1d⟩ := id V_ti
  refine Go.st (pc' := 31) (S' := [(.int bb)]) (fun t_ k_ => X0.baloadBooleans hx (j := (1 : Int32)) (v := (.int bb)) (by rw [e0]; exact Ar1.1) (State.isArrayOf_alike hZ.alike Ar1.2.1) Ar1.2.2 (inb_of q1a ⟨by decide, by decide⟩) (q1c.at (inb_of q1a ⟨by decide, by decide⟩) rfl) (g := (mkF m 30 #[.val (.ref ti), .val (.ref tv), .val (.ref td), .val (.double (FP.l2d si)), .second, .val (.int mi)] [(.int (1 : Int32)), (.ref ti)])) rfl rfl (hb hby d6_30) t_ k_) ?_
  by_cases hc31_2 : bb = (0 : Int32)
  · refine Go.st (pc' := 51) (S' := []) (fun t_ k_ => XS.ifYes X0.here hx rfl (pc0 := 31) (pc' := 51) rfl (hb hby d6_31) rfl ((if0 _ _).trans (teq hc31_2).1) (by decide) (by decide) k_) ?_
    exact sr2 ti tv td _ _ _ q va vb vc vd ba bb bc bd r si mi (Stand.up X0 (by decide) (by decide)) hx hZ hw hby hml hown hnm hret hlk e0 N0 Z0 V_ti V_tv V_td hq hva hvb hvc hvd (hs.mono (by decide)) (by rcases hm with rfl | rfl <;> decide) (by rw [← hr, own_fin1, if_pos hc31_2]) heq
  · refine Go.st (pc' := 34) (S' := []) (fun t_ k_ => XS.ifNo X0.here hx rfl (hb hby d6_31) rfl ((if0 _ _).trans (feq hc31_2).1) k_) ?_
    refine Go.st (pc' := 35) (S' := [(.double (FP.l2d si))]) (fun t_ k_ => XS.dloadN X0.here hx rfl (hb hby d6_34) rfl k_) ?_
    refine Go.st (pc' := 36) (S' := [(.ref tv), (.double (FP.l2d si))]) (fun t_ k_ => XS.aloadN X0.here hx rfl (hb hby d6_35) rfl rfl k_) ?_
    refine Go.st (pc' := 37) (S' := [(.int (1 : Int32)), (.ref tv), (.double (FP.l2d si))]) (fun t_ k_ => XS.iconst X0.here hx rfl (hb hby d6_36) k_) ?_
    obtain ⟨cl3, Ar3, -, q3a, q3b, q3c, q3d⟩ := id V_tv
    refine Go.st (pc' := 38) (S' := [(.double (FP.l2d vb)), (.double (FP.l2d si))]) (fun t_ k_ => X0.daload hx (j := (1 : Int32)) (v := (.double (FP.l2d vb))) (by rw [e0]; exact Ar3.1) (State.isArrayOf_alike hZ.alike Ar3.2.1) Ar3.2.2 (inb_of q3a ⟨by decide, by decide⟩) (q3c.at (inb_of q3a ⟨by decide, by decide⟩) rfl) (g := (mkF m 37 #[.val (.ref ti), .val (.ref tv), .val (.ref td), .val (.double (FP.l2d si)), .second, .val (.int mi)] [(.int (1 : Int32)), (.ref tv), (.double (FP.l2d si))])) rfl rfl (hb hby d6_37) t_ k_) ?_
    refine Go.st (pc' := 39) (S' := [(.ref td), (.double (FP.l2d vb)), (.double (FP.l2d si))]) (fun t_ k_ => XS.aloadN X0.here hx rfl (hb hby d6_38) rfl rfl k_) ?_
    refine Go.st (pc' := 41) (S' := [(.int mi), (.ref td), (.double (FP.l2d vb)), (.double (FP.l2d si))]) (fun t_ k_ => XS.iload X0.here hx rfl (hb hby d6_39) rfl k_) ?_
    obtain ⟨cl4, Ar4, -, q4a, q4b, q4c, q4d⟩ := id V_td
    refine Go.st (pc' := 42) (S' := [(.double (FP.l2d (own_e q mi))), (.double (FP.l2d vb)), (.double (FP.l2d si))]) (fun t_ k_ => X0.daload hx (j := mi) (v := (.double (FP.l2d (own_e q mi)))) (by rw [e0]; exact Ar4.1) (State.isArrayOf_alike hZ.alike Ar4.2.1) Ar4.2.2 (inb_of q4a (own_c5 (by rcases hm with rfl | rfl <;> decide))) (q4c.at (inb_of q4a (own_c5 (by rcases hm with rfl | rfl <;> decide))) (own_dat (by rcases hm with rfl | rfl <;> decide))) (g := (mkF m 41 #[.val (.ref ti), .val (.ref tv), .val (.ref td), .val (.double (FP.l2d si)), .second, .val (.int mi)] [(.int mi), (.ref td), (.double (FP.l2d vb)), (.double (FP.l2d si))])) rfl rfl (hb hby d6_41) t_ k_) ?_
    have fm5 := own_fma (a := si) (x := vb) (y := (own_e q mi)) (A := 549755813888) (X := 2147483648) (Y := 256) hs hvb (own_eb hq mi) (by decide) (by decide) rfl (by decide)
    refine Go.st (pc' := 43) (S' := [(.double (FP.dmul (FP.l2d vb) (FP.l2d (own_e q mi)))), (.double (FP.l2d si))]) (fun t_ k_ => XS.dmulS X0.here hx rfl (hb hby d6_42) rfl fm5.2.1 rfl k_) ?_
    refine Go.st (pc' := 44) (S' := [(.double (FP.l2d (si + vb * (own_e q mi))))]) (fun t_ k_ => XS.daddS X0.here hx rfl (hb hby d6_43) rfl (nn_w fm5.1) fm5.1 k_) ?_
    refine Go.st (pc' := 45) (S' := []) (fun t_ k_ => XS.dstoreN X0.here hx rfl (hb hby d6_44) rfl (l' := #[.val (.ref ti), .val (.ref tv), .val (.ref td), .val (.double (FP.l2d (si + vb * (own_e q mi)))), .second, .val (.int mi)]) rfl k_) ?_
    refine Go.st (pc' := 47) (S' := [(.int mi)]) (fun t_ k_ => XS.iload X0.here hx rfl (hb hby d6_45) rfl k_) ?_
    refine Go.st (pc' := 48) (S' := [(.int (1 : Int32)), (.int mi)]) (fun t_ k_ => XS.iconst X0.here hx rfl (hb hby d6_47) k_) ?_
    refine Go.st (pc' := 49) (S' := [(.int (mi + (1 : Int32)))]) (fun t_ k_ => XS.iadd X0.here hx rfl (hb hby d6_48) rfl k_) ?_
    refine Go.st (pc' := 51) (S' := []) (fun t_ k_ => XS.istore X0.here hx rfl (hb hby d6_49) rfl (l' := #[.val (.ref ti), .val (.ref tv), .val (.ref td), .val (.double (FP.l2d (si + vb * (own_e q mi)))), .second, .val (.int (mi + (1 : Int32)))]) rfl k_) ?_
    exact sr2 ti tv td _ _ _ q va vb vc vd ba bb bc bd r (si + vb * (own_e q mi)) (mi + (1 : Int32)) (Stand.up X0 (by decide) (by decide)) hx hZ hw hby hml hown hnm hret hlk e0 N0 Z0 V_ti V_tv V_td hq hva hvb hvc hvd (fm5.2.2.mono (by decide)) (by rcases hm with rfl | rfl <;> decide) (by rw [← hr, own_fin1, if_neg hc31_2]) heq
theorem rmref (l : Launch) (Z : State) (a0 : Array Value) (hw : ∀ d ∈ tables_1, d.before a0 Z = true) (ws : List Jvm.Cond) (ti tv td : Addr) (ki kv kd : ClassId) (q va vb vc vd : Int64) (ba bb bc bd : Int32) (h0 : Heap) (n0 : Nat) (Z0 : n0 ≤ h0.size) (V_ti : Arv Z h0 ti ki .boolean (4 : Int32) [(.int ba), (.int bb), (.int bc), (.int bd)] (.int (0 : Int32))) (V_tv : Arv Z h0 tv kv .double (4 : Int32) [(.double (FP.l2d va)), (.double (FP.l2d vb)), (.double (FP.l2d vc)), (.double (FP.l2d vd))] (.double (0 : UInt64))) (V_td : Arv Z h0 td kd .double (5 : Int32) [(.double (FP.l2d 1)), (.double (FP.l2d q)), (.double (FP.l2d (q * q))), (.double (FP.l2d ((q * q) * q))), (.double (FP.l2d (((q * q) * q) * q)))] (.double (0 : UInt64))) (hq : own_b 4 q) (hva : own_b 2147483648 va) (hvb : own_b 2147483648 vb) (hvc : own_b 2147483648 vc) (hvd : own_b 2147483648 vd) :
    MetFree l (⟨"com/example/placewright/placewright/GrowingRanksAddPinLaw", "ref", "([Z[D[D)D"⟩ : MethodName) (head1 (Jvm.Cond.code (⟨"com/example/placewright/placewright/GrowingRanksAddPinLaw", "ref", "([Z[D[D)D"⟩ : MethodName) method_3_code 6 (some .double) :: ws) roomref) (fun aa_ U_ => aa_ = #[(.ref ti), (.ref tv), (.ref td)] ∧ Z.Warmed39 U_.vm ∧ U_.heap = h0) (fun _ _ _ _ _ => True) (fun _ U_ o_ W_ => ∃ v_ L_, o_ = .returned v_ ∧ (Qref Z (own_fin0 q ba bb bc bd va vb vc vd 0 0) h0 n0) v_ W_.heap L_ ∧ FrameEnd U_ o_ W_ L_ roomref.cells roomref.slots) := by
  refine own_met (Q := (Qref Z (own_fin0 q ba bb bc bd va vb vc vd 0 0) h0 n0)) (L0 := #[.val (.ref ti), .val (.ref tv), .val (.ref td), .unset, .unset, .unset]) (plainFor_of_name pn_1) (fun m => by first | (simp [entryFrame, mkF, argsToLocals, Value.category]; done) | rfl) ?_
  intro p e s m below meth c T0 X0 hx hby hml hown hnm hret hlk hZ e0
  have N0 := Fr.nil n0
  refine Go.st (pc' := 1) (S' := [(.double (FP.l2d 0))]) (fun t_ k_ => XS.dconst0 X0.here hx rfl (hb hby d6_0) (by decide +kernel) k_) ?_
  refine Go.st (pc' := 2) (S' := []) (fun t_ k_ => XS.dstoreN X0.here hx rfl (hb hby d6_1) rfl (l' := #[.val (.ref ti), .val (.ref tv), .val (.ref td), .val (.double (FP.l2d 0)), .second, .unset]) rfl k_) ?_
  refine Go.st (pc' := 3) (S' := [(.int (0 : Int32))]) (fun t_ k_ => XS.iconst X0.here hx rfl (hb hby d6_2) k_) ?_
  refine Go.st (pc' := 5) (S' := []) (fun t_ k_ => XS.istore X0.here hx rfl (hb hby d6_3) rfl (l' := #[.val (.ref ti), .val (.ref tv), .val (.ref td), .val (.double (FP.l2d 0)), .second, .val (.int (0 : Int32))]) rfl k_) ?_
  refine Go.st (pc' := 6) (S' := [(.ref ti)]) (fun t_ k_ => XS.aloadN X0.here hx rfl (hb hby d6_5) rfl rfl k_) ?_
  refine Go.st (pc' := 7) (S' := [(.int (0 : Int32)), (.ref ti)]) (fun t_ k_ => XS.iconst X0.here hx rfl (hb hby d6_6) k_) ?_
  obtain ⟨cl1, Ar1, -, q1a, q1b, q1c, q1d⟩ := id V_ti
  refine Go.st (pc' := 8) (S' := [(.int ba)]) (fun t_ k_ => X0.baloadBooleans hx (j := (0 : Int32)) (v := (.int ba)) (by rw [e0]; exact Ar1.1) (State.isArrayOf_alike hZ.alike Ar1.2.1) Ar1.2.2 (inb_of q1a ⟨by decide, by decide⟩) (q1c.at (inb_of q1a ⟨by decide, by decide⟩) rfl) (g := (mkF m 7 #[.val (.ref ti), .val (.ref tv), .val (.ref td), .val (.double (FP.l2d 0)), .second, .val (.int (0 : Int32))] [(.int (0 : Int32)), (.ref ti)])) rfl rfl (hb hby d6_7) t_ k_) ?_
  by_cases hc8_2 : ba = (0 : Int32)
  · refine Go.st (pc' := 28) (S' := []) (fun t_ k_ => XS.ifYes X0.here hx rfl (pc0 := 8) (pc' := 28) rfl (hb hby d6_8) rfl ((if0 _ _).trans (teq hc8_2).1) (by decide) (by decide) k_) ?_
    exact sr1 ti tv td _ _ _ q va vb vc vd ba bb bc bd _ 0 (0 : Int32) (Stand.up X0 (by decide) (by decide)) hx hZ hw hby hml hown hnm hret hlk e0 N0 Z0 V_ti V_tv V_td hq hva hvb hvc hvd (own_z0.mono (by decide)) (Or.inl rfl) (by rw [own_fin0, if_pos hc8_2]) rfl
  · refine Go.st (pc' := 11) (S' := []) (fun t_ k_ => XS.ifNo X0.here hx rfl (hb hby d6_8) rfl ((if0 _ _).trans (feq hc8_2).1) k_) ?_
    refine Go.st (pc' := 12) (S' := [(.double (FP.l2d 0))]) (fun t_ k_ => XS.dloadN X0.here hx rfl (hb hby d6_11) rfl k_) ?_
    refine Go.st (pc' := 13) (S' := [(.ref tv), (.double (FP.l2d 0))]) (fun t_ k_ => XS.aloadN X0.here hx rfl (hb hby d6_12) rfl rfl k_) ?_
    refine Go.st (pc' := 14) (S' := [(.int (0 : Int32)), (.ref tv), (.double (FP.l2d 0))]) (fun t_ k_ => XS.iconst X0.here hx rfl (hb hby d6_13) k_) ?_
    obtain ⟨cl3, Ar3, -, q3a, q3b, q3c, q3d⟩ := id V_tv
    refine Go.st (pc' := 15) (S' := [(.double (FP.l2d va)), (.double (FP.l2d 0))]) (fun t_ k_ => X0.daload hx (j := (0 : Int32)) (v := (.double (FP.l2d va))) (by rw [e0]; exact Ar3.1) (State.isArrayOf_alike hZ.alike Ar3.2.1) Ar3.2.2 (inb_of q3a ⟨by decide, by decide⟩) (q3c.at (inb_of q3a ⟨by decide, by decide⟩) rfl) (g := (mkF m 14 #[.val (.ref ti), .val (.ref tv), .val (.ref td), .val (.double (FP.l2d 0)), .second, .val (.int (0 : Int32))] [(.int (0 : Int32)), (.ref tv), (.double (FP.l2d 0))])) rfl rfl (hb hby d6_14) t_ k_) ?_
    refine Go.st (pc' := 16) (S' := [(.ref td), (.double (FP.l2d va)), (.double (FP.l2d 0))]) (fun t_ k_ => XS.aloadN X0.here hx rfl (hb hby d6_15) rfl rfl k_) ?_
    refine Go.st (pc' := 18) (S' := [(.int (0 : Int32)), (.ref td), (.double (FP.l2d va)), (.double (FP.l2d 0))]) (fun t_ k_ => XS.iload X0.here hx rfl (hb hby d6_16) rfl k_) ?_
    obtain ⟨cl4, Ar4, -, q4a, q4b, q4c, q4d⟩ := id V_td
    refine Go.st (pc' := 19) (S' := [(.double (FP.l2d (own_e q (0 : Int32)))), (.double (FP.l2d va)), (.double (FP.l2d 0))]) (fun t_ k_ => X0.daload hx (j := (0 : Int32)) (v := (.double (FP.l2d (own_e q (0 : Int32))))) (by rw [e0]; exact Ar4.1) (State.isArrayOf_alike hZ.alike Ar4.2.1) Ar4.2.2 (inb_of q4a (own_c5 (Or.inl rfl))) (q4c.at (inb_of q4a (own_c5 (Or.inl rfl))) (own_dat (Or.inl rfl))) (g := (mkF m 18 #[.val (.ref ti), .val (.ref tv), .val (.ref td), .val (.double (FP.l2d 0)), .second, .val (.int (0 : Int32))] [(.int (0 : Int32)), (.ref td), (.double (FP.l2d va)), (.double (FP.l2d 0))])) rfl rfl (hb hby d6_18) t_ k_) ?_
    have fm5 := own_fma (a := 0) (x := va) (y := (own_e q (0 : Int32))) (A := 0) (X := 2147483648) (Y := 256) own_z0 hva (own_eb hq (0 : Int32)) (by decide) (by decide) rfl (by decide)
    refine Go.st (pc' := 20) (S' := [(.double (FP.dmul (FP.l2d va) (FP.l2d (own_e q (0 : Int32))))), (.double (FP.l2d 0))]) (fun t_ k_ => XS.dmulS X0.here hx rfl (hb hby d6_19) rfl fm5.2.1 rfl k_) ?_
    refine Go.st (pc' := 21) (S' := [(.double (FP.l2d (0 + va * (own_e q (0 : Int32)))))]) (fun t_ k_ => XS.daddS X0.here hx rfl (hb hby d6_20) rfl (nn_w fm5.1) fm5.1 k_) ?_
    refine Go.st (pc' := 22) (S' := []) (fun t_ k_ => XS.dstoreN X0.here hx rfl (hb hby d6_21) rfl (l' := #[.val (.ref ti), .val (.ref tv), .val (.ref td), .val (.double (FP.l2d (0 + va * (own_e q (0 : Int32))))), .second, .val (.int (0 : Int32))]) rfl k_) ?_
    refine Go.st (pc' := 24) (S' := [(.int (0 : Int32))]) (fun t_ k_ => XS.iload X0.here hx rfl (hb hby d6_22) rfl k_) ?_
    refine Go.st (pc' := 25) (S' := [(.int (1 : Int32)), (.int (0 : Int32))]) (fun t_ k_ => XS.iconst X0.here hx rfl (hb hby d6_24) k_) ?_
    refine Go.st (pc' := 26) (S' := [(.int ((0 : Int32) + (1 : Int32)))]) (fun t_ k_ => XS.iadd X0.here hx rfl (hb hby d6_25) rfl k_) ?_
    rw [show ((0 : Int32) + (1 : Int32)) = (1 : Int32) from by decide]
    refine Go.st (pc' := 28) (S' := []) (fun t_ k_ => XS.istore X0.here hx rfl (hb hby d6_26) rfl (l' := #[.val (.ref ti), .val (.ref tv), .val (.ref td), .val (.double (FP.l2d (0 + va * (own_e q (0 : Int32))))), .second, .val (.int (1 : Int32))]) rfl k_) ?_
    exact sr1 ti tv td _ _ _ q va vb vc vd ba bb bc bd _ (0 + va * (own_e q (0 : Int32))) (1 : Int32) (Stand.up X0 (by decide) (by decide)) hx hZ hw hby hml hown hnm hret hlk e0 N0 Z0 V_ti V_tv V_td hq hva hvb hvc hvd (fm5.2.2.mono (by decide)) (Or.inr rfl) (by rw [own_fin0, if_neg hc8_2]; rfl) rfl
theorem d1_0 : decode prog_20_method_1_code 0 = .ok (.aload_n 0, 1) := by decide +kernel
theorem d1_1 : decode prog_20_method_1_code 1 = .ok (.invokespecial 1, 3) := by decide +kernel
theorem d1_4 : decode prog_20_method_1_code 4 = .ok (.aload_n 0, 1) := by decide +kernel
theorem d1_5 : decode prog_20_method_1_code 5 = .ok (.aload_n 1, 1) := by decide +kernel
theorem d1_6 : decode prog_20_method_1_code 6 = .ok (.putfield 7, 3) := by decide +kernel
theorem d1_9 : decode prog_20_method_1_code 9 = .ok (.aload_n 1, 1) := by decide +kernel
theorem d1_10 : decode prog_20_method_1_code 10 = .ok (.arraylength, 1) := by decide +kernel
theorem d1_11 : decode prog_20_method_1_code 11 = .ok (.iconst 1, 1) := by decide +kernel
theorem d1_12 : decode prog_20_method_1_code 12 = .ok (.isub, 1) := by decide +kernel
theorem d1_13 : decode prog_20_method_1_code 13 = .ok (.istore_n 2, 1) := by decide +kernel
theorem d1_14 : decode prog_20_method_1_code 14 = .ok (.iconst 1, 1) := by decide +kernel
theorem d1_15 : decode prog_20_method_1_code 15 = .ok (.istore_n 3, 1) := by decide +kernel
theorem d1_16 : decode prog_20_method_1_code 16 = .ok (.iload_n 3, 1) := by decide +kernel
theorem d1_17 : decode prog_20_method_1_code 17 = .ok (.iload_n 2, 1) := by decide +kernel
theorem d1_18 : decode prog_20_method_1_code 18 = .ok (.if_icmp .ge 10, 3) := by decide +kernel
theorem d1_21 : decode prog_20_method_1_code 21 = .ok (.iload_n 3, 1) := by decide +kernel
theorem d1_22 : decode prog_20_method_1_code 22 = .ok (.iconst 2, 1) := by decide +kernel
theorem d1_23 : decode prog_20_method_1_code 23 = .ok (.imul, 1) := by decide +kernel
theorem d1_24 : decode prog_20_method_1_code 24 = .ok (.istore_n 3, 1) := by decide +kernel
theorem d1_25 : decode prog_20_method_1_code 25 = .ok (.goto (-9), 3) := by decide +kernel
theorem d1_28 : decode prog_20_method_1_code 28 = .ok (.aload_n 0, 1) := by decide +kernel
theorem d1_29 : decode prog_20_method_1_code 29 = .ok (.iload_n 3, 1) := by decide +kernel
theorem d1_30 : decode prog_20_method_1_code 30 = .ok (.putfield 13, 3) := by decide +kernel
theorem d1_33 : decode prog_20_method_1_code 33 = .ok (.aload_n 0, 1) := by decide +kernel
theorem d1_34 : decode prog_20_method_1_code 34 = .ok (.iconst 2, 1) := by decide +kernel
theorem d1_35 : decode prog_20_method_1_code 35 = .ok (.aload_n 0, 1) := by decide +kernel
theorem d1_36 : decode prog_20_method_1_code 36 = .ok (.getfield 13, 3) := by decide +kernel
theorem d1_39 : decode prog_20_method_1_code 39 = .ok (.imul, 1) := by decide +kernel
theorem d1_40 : decode prog_20_method_1_code 40 = .ok (.newarray .int, 2) := by decide +kernel
theorem d1_42 : decode prog_20_method_1_code 42 = .ok (.putfield 17, 3) := by decide +kernel
theorem d1_45 : decode prog_20_method_1_code 45 = .ok (.aload_n 0, 1) := by decide +kernel
theorem d1_46 : decode prog_20_method_1_code 46 = .ok (.iconst 2, 1) := by decide +kernel
theorem d1_47 : decode prog_20_method_1_code 47 = .ok (.aload_n 0, 1) := by decide +kernel
theorem d1_48 : decode prog_20_method_1_code 48 = .ok (.getfield 13, 3) := by decide +kernel
theorem d1_51 : decode prog_20_method_1_code 51 = .ok (.imul, 1) := by decide +kernel
theorem d1_52 : decode prog_20_method_1_code 52 = .ok (.newarray .double, 2) := by decide +kernel
theorem d1_54 : decode prog_20_method_1_code 54 = .ok (.putfield 21, 3) := by decide +kernel
theorem d1_57 : decode prog_20_method_1_code 57 = .ok (.return_, 1) := by decide +kernel
def Qini (Z : State) (a1 td : Addr) (h0 : Heap) (n0 : Nat) (v : Option Value) (h : Heap) (L : List Loc) : Prop := ∃ (tc : Addr) (kc : ClassId) (tw : Addr) (kw : ClassId), v = none ∧ Fr n0 L ∧ Keep h0 h [a1] ∧ n0 ≤ tc ∧ n0 ≤ tw ∧ h0.size ≤ tc ∧ h0.size ≤ tw ∧ tc ≠ tw ∧ Fld Z h a1 "com/example/placewright/placewright/GrowingRanks" "discounts" "[D" (.ref td) ∧ Fld Z h a1 "com/example/placewright/placewright/GrowingRanks" "leaves" "I" (.int (4 : Int32)) ∧ Fld Z h a1 "com/example/placewright/placewright/GrowingRanks" "count" "[I" (.ref tc) ∧ Fld Z h a1 "com/example/placewright/placewright/GrowingRanks" "worth" "[D" (.ref tw) ∧ Arv Z h tc kc .int (8 : Int32) [(.int (0 : Int32)), (.int (0 : Int32)), (.int (0 : Int32)), (.int (0 : Int32)), (.int (0 : Int32)), (.int (0 : Int32)), (.int (0 : Int32)), (.int (0 : Int32))] (.int (0 : Int32)) ∧ Arv Z h tw kw .double (8 : Int32) [(.double (0 : UInt64)), (.double (0 : UInt64)), (.double (0 : UInt64)), (.double (0 : UInt64)), (.double (0 : UInt64)), (.double (0 : UInt64)), (.double (0 : UInt64)), (.double (0 : UInt64))] (.double (0 : UInt64))
def roomini : Room := { frames := 1, cells := 2, slots := 16, locals := 12 }
theorem rmini (l : Launch) (Z : State) (a0 : Array Value) (hw : ∀ d ∈ tables_1, d.before a0 Z = true) (ws : List Jvm.Cond) (a1 td : Addr) (kd : ClassId) (q : Int64) (h0 : Heap) (n0 : Nat) (Z0 : n0 ≤ h0.size) (E_a1 : Exa Z h0 a1 "com/example/placewright/placewright/GrowingRanks") (g_a1 : n0 ≤ a1) (ne1 : a1 ≠ td) (F_discounts : Fld Z h0 a1 "com/example/placewright/placewright/GrowingRanks" "discounts" "[D" .null) (F_leaves : Fld Z h0 a1 "com/example/placewright/placewright/GrowingRanks" "leaves" "I" (.int (0 : Int32))) (F_count : Fld Z h0 a1 "com/example/placewright/placewright/GrowingRanks" "count" "[I" .null) (F_worth : Fld Z h0 a1 "com/example/placewright/placewright/GrowingRanks" "worth" "[D" .null) (V_td : Arv Z h0 td kd .double (5 : Int32) [(.double (FP.l2d 1)), (.double (FP.l2d q)), (.double (FP.l2d (q * q))), (.double (FP.l2d ((q * q) * q))), (.double (FP.l2d (((q * q) * q) * q)))] (.double (0 : UInt64))) :
    MetFree l (⟨"com/example/placewright/placewright/GrowingRanks", "<init>", "([D)V"⟩ : MethodName) (head1 (Jvm.Cond.code (⟨"com/example/placewright/placewright/GrowingRanks", "<init>", "([D)V"⟩ : MethodName) prog_20_method_1_code 4 none :: ws) roomini) (fun aa_ U_ => aa_ = #[(.ref a1), (.ref td)] ∧ Z.Warmed39 U_.vm ∧ U_.heap = h0) (fun _ _ _ _ _ => True) (fun _ U_ o_ W_ => ∃ v_ L_, o_ = .returned v_ ∧ (Qini Z a1 td h0 n0) v_ W_.heap L_ ∧ FrameEnd U_ o_ W_ L_ roomini.cells roomini.slots) := by
  refine own_met (Q := (Qini Z a1 td h0 n0)) (L0 := #[.val (.ref a1), .val (.ref td), .unset, .unset]) (plainFor_of_name pn_0) (fun m => by first | (simp [entryFrame, mkF, argsToLocals, Value.category]; done) | rfl) ?_
  intro p e s m below meth c T0 X0 hx hby hml hown hnm hret hlk hZ e0
  have N0 := Fr.nil n0
  have K0 := Keep.refl h0 [a1]
  refine Go.st (pc' := 1) (S' := [(.ref a1)]) (fun t_ k_ => XS.aloadN X0.here hx rfl (hb hby d1_0) rfl rfl k_) ?_
  obtain ⟨T1, X1, e1, st1⟩ := initO X0 hx hZ hown (wd hw 7 rfl) (wd hw 8 rfl) (wd hw 9 rfl) e0 (g := (mkF m 1 #[.val (.ref a1), .val (.ref td), .unset, .unset] [(.ref a1)])) rfl (by rw [hml]; rfl) rfl (hb hby d1_1) (by decide) (W := 0) (by show 2 * 0 + _ ≤ _; exact Nat.le_of_eq rfl) (by decide)
  refine Go.st (pc' := 4) (S' := []) st1 ?_
  refine Go.st (pc' := 5) (S' := [(.ref a1)]) (fun t_ k_ => XS.aloadN X1.here hx rfl (hb hby d1_4) rfl rfl k_) ?_
  refine Go.st (pc' := 6) (S' := [(.ref td), (.ref a1)]) (fun t_ k_ => XS.aloadN X1.here hx rfl (hb hby d1_5) rfl rfl k_) ?_
  obtain ⟨T2, h2, X2, e2, W2, st2⟩ := putF X1 hx hZ hown (host := "") (Or.inl (wd hw 10 rfl)) Via.refl e1 F_discounts E_a1 (Or.inr ⟨(wd hw 11 rfl), rfl, hnm⟩) (wd hw 2 rfl) (ty := (.array .double)) (by decide) rfl rfl (g := (mkF m 6 #[.val (.ref a1), .val (.ref td), .unset, .unset] [(.ref td), (.ref a1)])) rfl rfl (hb hby d1_6)
  replace Z0 := Nat.le_trans Z0 (Keep.of_wr W2).1
  replace K0 := K0.wr W2 (Or.inl (List.mem_of_getElem? (i := 0) rfl))
  replace E_a1 := E_a1.wr W2
  replace F_leaves := F_leaves.other W2 (Or.inr (slot_ne (Or.inr (wd hw 13 rfl)) (Or.inr (wd hw 11 rfl)) (by decide) (t := .int) (t' := (.array .double)) (by decide) (by decide)))
  replace F_count := F_count.other W2 (Or.inr (slot_ne (Or.inr (wd hw 16 rfl)) (Or.inr (wd hw 11 rfl)) (by decide) (t := (.array .int)) (t' := (.array .double)) (by decide) (by decide)))
  replace F_worth := F_worth.other W2 (Or.inr (slot_ne (Or.inr (wd hw 18 rfl)) (Or.inr (wd hw 11 rfl)) (by decide) (t := (.array .double)) (t' := (.array .double)) (by decide) (by decide)))
  replace V_td := V_td.other W2 (Ne.symm ne1)
  replace F_discounts := F_discounts.same W2
  have N2 := Fr.snoc X2 N0 g_a1
  refine Go.st (pc' := 9) (S' := []) st2 ?_
  refine Go.st (pc' := 10) (S' := [(.ref td)]) (fun t_ k_ => XS.aloadN X2.here hx rfl (hb hby d1_9) rfl rfl k_) ?_
  obtain ⟨cl3, Ar3, -, q3a, q3b, -, -⟩ := id V_td
  refine Go.st (pc' := 11) (S' := [(.int (5 : Int32))]) (fun t_ k_ => own_len X2 hx hZ e2 Ar3 q3a q3b (g := (mkF m 10 #[.val (.ref a1), .val (.ref td), .unset, .unset] [(.ref td)])) rfl rfl (hb hby d1_10) t_ k_) ?_
  refine Go.st (pc' := 12) (S' := [(.int (1 : Int32)), (.int (5 : Int32))]) (fun t_ k_ => XS.iconst X2.here hx rfl (hb hby d1_11) k_) ?_
  refine Go.st (pc' := 13) (S' := [(.int ((5 : Int32) - (1 : Int32)))]) (fun t_ k_ => XS.isub X2.here hx rfl (hb hby d1_12) rfl k_) ?_
  rw [show ((5 : Int32) - (1 : Int32)) = (4 : Int32) from by decide]
  refine Go.st (pc' := 14) (S' := []) (fun t_ k_ => XS.istoreN X2.here hx rfl (hb hby d1_13) rfl (l' := #[.val (.ref a1), .val (.ref td), .val (.int (4 : Int32)), .unset]) rfl k_) ?_
  refine Go.st (pc' := 15) (S' := [(.int (1 : Int32))]) (fun t_ k_ => XS.iconst X2.here hx rfl (hb hby d1_14) k_) ?_
  refine Go.st (pc' := 16) (S' := []) (fun t_ k_ => XS.istoreN X2.here hx rfl (hb hby d1_15) rfl (l' := #[.val (.ref a1), .val (.ref td), .val (.int (4 : Int32)), .val (.int (1 : Int32))]) rfl k_) ?_
  refine Go.st (pc' := 17) (S' := [(.int (1 : Int32))]) (fun t_ k_ => XS.iloadN X2.here hx rfl (hb hby d1_16) rfl k_) ?_
  refine Go.st (pc' := 18) (S' := [(.int (4 : Int32)), (.int (1 : Int32))]) (fun t_ k_ => XS.iloadN X2.here hx rfl (hb hby d1_17) rfl k_) ?_
  refine Go.st (pc' := 21) (S' := []) (fun t_ k_ => XS.icmpNo X2.here hx rfl (hb hby d1_18) rfl (tlt (by decide : ((1 : Int32) < (4 : Int32)))).2.1 k_) ?_
  refine Go.st (pc' := 22) (S' := [(.int (1 : Int32))]) (fun t_ k_ => XS.iloadN X2.here hx rfl (hb hby d1_21) rfl k_) ?_
  refine Go.st (pc' := 23) (S' := [(.int (2 : Int32)), (.int (1 : Int32))]) (fun t_ k_ => XS.iconst X2.here hx rfl (hb hby d1_22) k_) ?_
  refine Go.st (pc' := 24) (S' := [(.int ((1 : Int32) * (2 : Int32)))]) (fun t_ k_ => XS.imul X2.here hx rfl (hb hby d1_23) rfl k_) ?_
  rw [show ((1 : Int32) * (2 : Int32)) = (2 : Int32) from by decide]
  refine Go.st (pc' := 25) (S' := []) (fun t_ k_ => XS.istoreN X2.here hx rfl (hb hby d1_24) rfl (l' := #[.val (.ref a1), .val (.ref td), .val (.int (4 : Int32)), .val (.int (2 : Int32))]) rfl k_) ?_
  refine Go.st (pc' := 16) (S' := []) (fun t_ k_ => XS.goto X2.here hx rfl (pc0 := 25) (pc' := 16) rfl (hb hby d1_25) (by decide) (by decide) k_) ?_
  refine Go.st (pc' := 17) (S' := [(.int (2 : Int32))]) (fun t_ k_ => XS.iloadN X2.here hx rfl (hb hby d1_16) rfl k_) ?_
  refine Go.st (pc' := 18) (S' := [(.int (4 : Int32)), (.int (2 : Int32))]) (fun t_ k_ => XS.iloadN X2.here hx rfl (hb hby d1_17) rfl k_) ?_
  refine Go.st (pc' := 21) (S' := []) (fun t_ k_ => XS.icmpNo X2.here hx rfl (hb hby d1_18) rfl (tlt (by decide : ((2 : Int32) < (4 : Int32)))).2.1 k_) ?_
  refine Go.st (pc' := 22) (S' := [(.int (2 : Int32))]) (fun t_ k_ => XS.iloadN X2.here hx rfl (hb hby d1_21) rfl k_) ?_
  refine Go.st (pc' := 23) (S' := [(.int (2 : Int32)), (.int (2 : Int32))]) (fun t_ k_ => XS.iconst X2.here hx rfl (hb hby d1_22) k_) ?_
  refine Go.st (pc' := 24) (S' := [(.int ((2 : Int32) * (2 : Int32)))]) (fun t_ k_ => XS.imul X2.here hx rfl (hb hby d1_23) rfl k_) ?_
  rw [show ((2 : Int32) * (2 : Int32)) = (4 : Int32) from by decide]
  refine Go.st (pc' := 25) (S' := []) (fun t_ k_ => XS.istoreN X2.here hx rfl (hb hby d1_24) rfl (l' := #[.val (.ref a1), .val (.ref td), .val (.int (4 : Int32)), .val (.int (4 : Int32))]) rfl k_) ?_
  refine Go.st (pc' := 16) (S' := []) (fun t_ k_ => XS.goto X2.here hx rfl (pc0 := 25) (pc' := 16) rfl (hb hby d1_25) (by decide) (by decide) k_) ?_
  refine Go.st (pc' := 17) (S' := [(.int (4 : Int32))]) (fun t_ k_ => XS.iloadN X2.here hx rfl (hb hby d1_16) rfl k_) ?_
  refine Go.st (pc' := 18) (S' := [(.int (4 : Int32)), (.int (4 : Int32))]) (fun t_ k_ => XS.iloadN X2.here hx rfl (hb hby d1_17) rfl k_) ?_
  refine Go.st (pc' := 28) (S' := []) (fun t_ k_ => XS.icmpYes X2.here hx rfl (pc0 := 18) (pc' := 28) rfl (hb hby d1_18) rfl (flt (by decide : ¬ ((4 : Int32) < (4 : Int32)))).2.1 (by decide) (by decide) k_) ?_
  refine Go.st (pc' := 29) (S' := [(.ref a1)]) (fun t_ k_ => XS.aloadN X2.here hx rfl (hb hby d1_28) rfl rfl k_) ?_
  refine Go.st (pc' := 30) (S' := [(.int (4 : Int32)), (.ref a1)]) (fun t_ k_ => XS.iloadN X2.here hx rfl (hb hby d1_29) rfl k_) ?_
  obtain ⟨T4, h4, X4, e4, W4, st4⟩ := putF X2 hx hZ hown (host := "") (Or.inl (wd hw 12 rfl)) Via.refl e2 F_leaves E_a1 (Or.inr ⟨(wd hw 13 rfl), rfl, hnm⟩) (wd hw 2 rfl) (ty := .int) (by decide) rfl rfl (g := (mkF m 30 #[.val (.ref a1), .val (.ref td), .val (.int (4 : Int32)), .val (.int (4 : Int32))] [(.int (4 : Int32)), (.ref a1)])) rfl rfl (hb hby d1_30)
  replace Z0 := Nat.le_trans Z0 (Keep.of_wr W4).1
  replace K0 := K0.wr W4 (Or.inl (List.mem_of_getElem? (i := 0) rfl))
  replace E_a1 := E_a1.wr W4
  replace F_discounts := F_discounts.other W4 (Or.inr (slot_ne (Or.inr (wd hw 11 rfl)) (Or.inr (wd hw 13 rfl)) (by decide) (t := (.array .double)) (t' := .int) (by decide) (by decide)))
  replace F_count := F_count.other W4 (Or.inr (slot_ne (Or.inr (wd hw 16 rfl)) (Or.inr (wd hw 13 rfl)) (by decide) (t := (.array .int)) (t' := .int) (by decide) (by decide)))
  replace F_worth := F_worth.other W4 (Or.inr (slot_ne (Or.inr (wd hw 18 rfl)) (Or.inr (wd hw 13 rfl)) (by decide) (t := (.array .double)) (t' := .int) (by decide) (by decide)))
  replace V_td := V_td.other W4 (Ne.symm ne1)
  replace F_leaves := F_leaves.same W4
  have N4 := Fr.snoc X4 N2 g_a1
  refine Go.st (pc' := 33) (S' := []) st4 ?_
  refine Go.st (pc' := 34) (S' := [(.ref a1)]) (fun t_ k_ => XS.aloadN X4.here hx rfl (hb hby d1_33) rfl rfl k_) ?_
  refine Go.st (pc' := 35) (S' := [(.int (2 : Int32)), (.ref a1)]) (fun t_ k_ => XS.iconst X4.here hx rfl (hb hby d1_34) k_) ?_
  refine Go.st (pc' := 36) (S' := [(.ref a1), (.int (2 : Int32)), (.ref a1)]) (fun t_ k_ => XS.aloadN X4.here hx rfl (hb hby d1_35) rfl rfl k_) ?_
  obtain ⟨T5, X5, e5, st5⟩ := getF X4 hx hZ hown (host := "") (Or.inl (wd hw 12 rfl)) Via.refl e4 F_leaves (g := (mkF m 36 #[.val (.ref a1), .val (.ref td), .val (.int (4 : Int32)), .val (.int (4 : Int32))] [(.ref a1), (.int (2 : Int32)), (.ref a1)])) rfl rfl (hb hby d1_36)
  refine Go.st (pc' := 39) (S' := [(.int (4 : Int32)), (.int (2 : Int32)), (.ref a1)]) st5 ?_
  refine Go.st (pc' := 40) (S' := [(.int ((2 : Int32) * (4 : Int32))), (.ref a1)]) (fun t_ k_ => XS.imul X5.here hx rfl (hb hby d1_39) rfl k_) ?_
  rw [show ((2 : Int32) * (4 : Int32)) = (8 : Int32) from by decide]
  obtain ⟨T6, h6, k6, X6, e6, E6, A6, st6⟩ := newP X5 hx hZ (wd hw 14 rfl) e5 (g := (mkF m 40 #[.val (.ref a1), .val (.ref td), .val (.int (4 : Int32)), .val (.int (4 : Int32))] [(.int (8 : Int32)), (.ref a1)])) rfl (hb hby d1_40) rfl (by decide) (cap := 8) (by decide) (by decide) (by decide) (by decide)
  obtain ⟨b6, g6⟩ : ∃ z, z = h4.size := ⟨_, rfl⟩
  rw [← g6] at A6 st6
  have ne_a1_b6 : a1 ≠ b6 := Nat.ne_of_lt (Nat.lt_of_lt_of_le E_a1.lt (Nat.le_of_eq g6.symm))
  have ne_td_b6 : td ≠ b6 := Nat.ne_of_lt (Nat.lt_of_lt_of_le V_td.lt (Nat.le_of_eq g6.symm))
  have g_b6 : n0 ≤ b6 := Nat.le_trans Z0 (Nat.le_of_eq g6.symm)
  have sz_b6 : h0.size ≤ b6 := Nat.le_trans K0.1 (Nat.le_of_eq g6.symm)
  replace Z0 := Nat.le_trans Z0 E6.1
  replace K0 := K0.ext E6
  replace E_a1 := E_a1.ext E6
  replace F_discounts := F_discounts.ext E6
  replace F_leaves := F_leaves.ext E6
  replace F_count := F_count.ext E6
  replace F_worth := F_worth.ext E6
  replace V_td := V_td.ext E6
  have V_b6 : Arv Z h6 b6 k6 .int (8 : Int32) [(.int (0 : Int32)), (.int (0 : Int32)), (.int (0 : Int32)), (.int (0 : Int32)), (.int (0 : Int32)), (.int (0 : Int32)), (.int (0 : Int32)), (.int (0 : Int32))] (.int (0 : Int32)) := (Arv.new A6 (by decide)).pad (pad_rep [] (.int (0 : Int32)) 8)
  refine Go.st (pc' := 42) (S' := [(.ref b6), (.ref a1)]) st6 ?_
  obtain ⟨T7, h7, X7, e7, W7, st7⟩ := putF X6 hx hZ hown (host := "") (Or.inl (wd hw 15 rfl)) Via.refl e6 F_count E_a1 (Or.inr ⟨(wd hw 16 rfl), rfl, hnm⟩) (wd hw 2 rfl) (ty := (.array .int)) (by decide) rfl rfl (g := (mkF m 42 #[.val (.ref a1), .val (.ref td), .val (.int (4 : Int32)), .val (.int (4 : Int32))] [(.ref b6), (.ref a1)])) rfl rfl (hb hby d1_42)
  replace Z0 := Nat.le_trans Z0 (Keep.of_wr W7).1
  replace K0 := K0.wr W7 (Or.inl (List.mem_of_getElem? (i := 0) rfl))
  replace E_a1 := E_a1.wr W7
  replace F_discounts := F_discounts.other W7 (Or.inr (slot_ne (Or.inr (wd hw 11 rfl)) (Or.inr (wd hw 16 rfl)) (by decide) (t := (.array .double)) (t' := (.array .int)) (by decide) (by decide)))
  replace F_leaves := F_leaves.other W7 (Or.inr (slot_ne (Or.inr (wd hw 13 rfl)) (Or.inr (wd hw 16 rfl)) (by decide) (t := .int) (t' := (.array .int)) (by decide) (by decide)))
  replace F_worth := F_worth.other W7 (Or.inr (slot_ne (Or.inr (wd hw 18 rfl)) (Or.inr (wd hw 16 rfl)) (by decide) (t := (.array .double)) (t' := (.array .int)) (by decide) (by decide)))
  replace V_td := V_td.other W7 (Ne.symm ne1)
  replace V_b6 := V_b6.other W7 (Ne.symm ne_a1_b6)
  replace F_count := F_count.same W7
  have N7 := Fr.snoc X7 N4 g_a1
  refine Go.st (pc' := 45) (S' := []) st7 ?_
  refine Go.st (pc' := 46) (S' := [(.ref a1)]) (fun t_ k_ => XS.aloadN X7.here hx rfl (hb hby d1_45) rfl rfl k_) ?_
  refine Go.st (pc' := 47) (S' := [(.int (2 : Int32)), (.ref a1)]) (fun t_ k_ => XS.iconst X7.here hx rfl (hb hby d1_46) k_) ?_
  refine Go.st (pc' := 48) (S' := [(.ref a1), (.int (2 : Int32)), (.ref a1)]) (fun t_ k_ => XS.aloadN X7.here hx rfl (hb hby d1_47) rfl rfl k_) ?_
  obtain ⟨T8, X8, e8, st8⟩ := getF X7 hx hZ hown (host := "") (Or.inl (wd hw 12 rfl)) Via.refl e7 F_leaves (g := (mkF m 48 #[.val (.ref a1), .val (.ref td), .val (.int (4 : Int32)), .val (.int (4 : Int32))] [(.ref a1), (.int (2 : Int32)), (.ref a1)])) rfl rfl (hb hby d1_48)
  refine Go.st (pc' := 51) (S' := [(.int (4 : Int32)), (.int (2 : Int32)), (.ref a1)]) st8 ?_
  refine Go.st (pc' := 52) (S' := [(.int ((2 : Int32) * (4 : Int32))), (.ref a1)]) (fun t_ k_ => XS.imul X8.here hx rfl (hb hby d1_51) rfl k_) ?_
  rw [show ((2 : Int32) * (4 : Int32)) = (8 : Int32) from by decide]
  obtain ⟨T9, h9, k9, X9, e9, E9, A9, st9⟩ := newP X8 hx hZ (wd hw 0 rfl) e8 (g := (mkF m 52 #[.val (.ref a1), .val (.ref td), .val (.int (4 : Int32)), .val (.int (4 : Int32))] [(.int (8 : Int32)), (.ref a1)])) rfl (hb hby d1_52) rfl (by decide) (cap := 8) (by decide) (by decide) (by decide) (by decide)
  obtain ⟨b9, g9⟩ : ∃ z, z = h7.size := ⟨_, rfl⟩
  rw [← g9] at A9 st9
  have ne_a1_b9 : a1 ≠ b9 := Nat.ne_of_lt (Nat.lt_of_lt_of_le E_a1.lt (Nat.le_of_eq g9.symm))
  have ne_td_b9 : td ≠ b9 := Nat.ne_of_lt (Nat.lt_of_lt_of_le V_td.lt (Nat.le_of_eq g9.symm))
  have ne_b6_b9 : b6 ≠ b9 := Nat.ne_of_lt (Nat.lt_of_lt_of_le V_b6.lt (Nat.le_of_eq g9.symm))
  have g_b9 : n0 ≤ b9 := Nat.le_trans Z0 (Nat.le_of_eq g9.symm)
  have sz_b9 : h0.size ≤ b9 := Nat.le_trans K0.1 (Nat.le_of_eq g9.symm)
  replace Z0 := Nat.le_trans Z0 E9.1
  replace K0 := K0.ext E9
  replace E_a1 := E_a1.ext E9
  replace F_discounts := F_discounts.ext E9
  replace F_leaves := F_leaves.ext E9
  replace F_count := F_count.ext E9
  replace F_worth := F_worth.ext E9
  replace V_td := V_td.ext E9
  replace V_b6 := V_b6.ext E9
  have V_b9 : Arv Z h9 b9 k9 .double (8 : Int32) [(.double (0 : UInt64)), (.double (0 : UInt64)), (.double (0 : UInt64)), (.double (0 : UInt64)), (.double (0 : UInt64)), (.double (0 : UInt64)), (.double (0 : UInt64)), (.double (0 : UInt64))] (.double (0 : UInt64)) := (Arv.new A9 (by decide)).pad (pad_rep [] (.double (0 : UInt64)) 8)
  refine Go.st (pc' := 54) (S' := [(.ref b9), (.ref a1)]) st9 ?_
  obtain ⟨T10, h10, X10, e10, W10, st10⟩ := putF X9 hx hZ hown (host := "") (Or.inl (wd hw 17 rfl)) Via.refl e9 F_worth E_a1 (Or.inr ⟨(wd hw 18 rfl), rfl, hnm⟩) (wd hw 2 rfl) (ty := (.array .double)) (by decide) rfl rfl (g := (mkF m 54 #[.val (.ref a1), .val (.ref td), .val (.int (4 : Int32)), .val (.int (4 : Int32))] [(.ref b9), (.ref a1)])) rfl rfl (hb hby d1_54)
  replace Z0 := Nat.le_trans Z0 (Keep.of_wr W10).1
  replace K0 := K0.wr W10 (Or.inl (List.mem_of_getElem? (i := 0) rfl))
  replace E_a1 := E_a1.wr W10
  replace F_discounts := F_discounts.other W10 (Or.inr (slot_ne (Or.inr (wd hw 11 rfl)) (Or.inr (wd hw 18 rfl)) (by decide) (t := (.array .double)) (t' := (.array .double)) (by decide) (by decide)))
  replace F_leaves := F_leaves.other W10 (Or.inr (slot_ne (Or.inr (wd hw 13 rfl)) (Or.inr (wd hw 18 rfl)) (by decide) (t := .int) (t' := (.array .double)) (by decide) (by decide)))
  replace F_count := F_count.other W10 (Or.inr (slot_ne (Or.inr (wd hw 16 rfl)) (Or.inr (wd hw 18 rfl)) (by decide) (t := (.array .int)) (t' := (.array .double)) (by decide) (by decide)))
  replace V_td := V_td.other W10 (Ne.symm ne1)
  replace V_b6 := V_b6.other W10 (Ne.symm ne_a1_b6)
  replace V_b9 := V_b9.other W10 (Ne.symm ne_a1_b9)
  replace F_worth := F_worth.same W10
  have N10 := Fr.snoc X10 N7 g_a1
  refine Go.st (pc' := 57) (S' := []) st10 ?_
  exact Go.retV X10 hx hlk hret (hb hby d1_57) (by decide) (by decide) (by rw [e10]; exact ⟨b6, _, b9, _, rfl, N10, K0, g_b6, g_b9, sz_b6, sz_b9, ne_b6_b9, F_discounts, F_leaves, F_count, F_worth, V_b6, V_b9⟩)
def Q0 (Z : State)  (h0 : Heap) (n0 : Nat) (v : Option Value) (h : Heap) (L : List Loc) : Prop := v = some (.int 1) ∧ Fr n0 L
def own_fr (p a b c d : Int32) : Prop := (p = 0 → a = 0) ∧ (p = 1 → b = 0) ∧ (p = 2 → c = 0) ∧ (p = 3 → d = 0)
theorem own_01 {b : Int32} {v : Int64} (h : (b = 0 ∧ v = 0) ∨ b = 1) : b = 0 ∨ b = 1 := h.imp And.left id
def own_ne9 (a1 td tc tw ti tv : Addr) : Prop := a1 ≠ ti ∧ td ≠ ti ∧ tc ≠ ti ∧ tw ≠ ti ∧ a1 ≠ tv ∧ td ≠ tv ∧ tc ≠ tv ∧ tw ≠ tv ∧ ti ≠ tv
theorem own_dc {a b : Int64} (h : a = b) : cmpValue (FP.dcmp (FP.l2d a) (FP.l2d b)) .l = 0 := by subst h; exact dcmpV_self (nn_w rfl) _
theorem own_z0' : own_b 2147483648 0 := own_z0.mono (by decide)

theorem sl440 {p : Program} {l : Launch} {e : Env} {s : State} {m : MethodId} {args : Array Value} {below : List Frame} {meth : Method} {c : Code} {T0 : State} {locs : List Loc} {Z : State} {a0 : Array Value} {n0 : Nat} {h0 hh : Heap} (p1 p2 p3 p4 p5 p6 kk_ : Int32) (q : Int64) (a1 td tc tw : Addr) (kd kc kw : ClassId) (ti tv : Addr) (ki kv : ClassId) (cx cy cz pa pb pc_ pd_ : Int32) (ta : Addr) (rr : Int32) (ba bb bc bd : Int32) (va vb vc vd : Int64)
    (X0 : Stand p l e room_1 s m args below meth c T0 locs 7 40) (hx : p.tables.exec = Jvm.exec) (hZ : Z.Warmed39 s.vm) (hw : ∀ d ∈ tables_1, d.before a0 Z = true) (hby : c.code = code) (hml : c.maxLocals = 23) (hown : s.vm.findClass "com/example/placewright/placewright/GrowingRanksAddPinLaw" = some m.cls) (hnm : meth.name = "law") (hret : meth.sig.returnType = (some .boolean)) (hlk : meth.locks = false) (e0 : T0.heap = hh) (N0 : Fr n0 locs) (Z0 : n0 ≤ hh.size) (E_a1 : Exa Z hh a1 "com/example/placewright/placewright/GrowingRanks") (F_discounts : Fld Z hh a1 "com/example/placewright/placewright/GrowingRanks" "discounts" "[D" (.ref td)) (F_leaves : Fld Z hh a1 "com/example/placewright/placewright/GrowingRanks" "leaves" "I" (.int (4 : Int32))) (F_count : Fld Z hh a1 "com/example/placewright/placewright/GrowingRanks" "count" "[I" (.ref tc)) (F_worth : Fld Z hh a1 "com/example/placewright/placewright/GrowingRanks" "worth" "[D" (.ref tw)) (V_td : Arv Z hh td kd .double (5 : Int32) [(.double (FP.l2d 1)), (.double (FP.l2d q)), (.double (FP.l2d (q * q))), (.double (FP.l2d ((q * q) * q))), (.double (FP.l2d (((q * q) * q) * q)))] (.double (0 : UInt64))) (V_tc : Arv Z hh tc kc .int (8 : Int32) [(.int (0 : Int32)), (.int ((ba + bb) + (bc + bd))), (.int (ba + bb)), (.int (bc + bd)), (.int ba), (.int bb), (.int bc), (.int bd)] (.int (0 : Int32))) (V_tw : Arv Z hh tw kw .double (8 : Int32) [(.double (0 : UInt64)), (.double (FP.l2d ((va + (own_e q ba) * vb) + (own_e q (ba + bb)) * (vc + (own_e q bc) * vd)))), (.double (FP.l2d (va + (own_e q ba) * vb))), (.double (FP.l2d (vc + (own_e q bc) * vd))), (.double (FP.l2d va)), (.double (FP.l2d vb)), (.double (FP.l2d vc)), (.double (FP.l2d vd))] (.double (0 : UInt64))) (ne5 : a1 ≠ tc ∧ a1 ≠ tw ∧ tc ≠ tw ∧ td ≠ tc ∧ td ≠ tw) (g_tc : n0 ≤ tc) (g_tw : n0 ≤ tw) (V_ti : Arv Z hh ti ki .boolean (4 : Int32) [(.int ba), (.int bb), (.int bc), (.int bd)] (.int (0 : Int32))) (V_tv : Arv Z hh tv kv .double (4 : Int32) [(.double (FP.l2d va)), (.double (FP.l2d vb)), (.double (FP.l2d vc)), (.double (FP.l2d vd))] (.double (0 : UInt64))) (ne9 : own_ne9 a1 td tc tw ti tv) (g_ti : n0 ≤ ti) (g_tv : n0 ≤ tv) (hba : (ba = 0 ∧ va = 0) ∨ ba = 1) (hbb : (bb = 0 ∧ vb = 0) ∨ bb = 1) (hbc : (bc = 0 ∧ vc = 0) ∨ bc = 1) (hbd : (bd = 0 ∧ vd = 0) ∨ bd = 1) (hq : own_b 4 q) (hva : own_b 2147483648 va) (hvb : own_b 2147483648 vb) (hvc : own_b 2147483648 vc) (hvd : own_b 2147483648 vd) (hpm : own_pm pa pb pc_ pd_) :
    Go p e below s room_1.cells room_1.slots (Q0 Z h0 n0) m T0 440 #[.val (.int p1), .val (.int p2), .val (.int p3), .val (.int p4), .val (.int p5), .val (.int p6), .val (.double (FP.l2d q)), .second, .val (.int kk_), .val (.ref td), .val (.ref a1), .val (.int (1 : Int32)), .val (.ref ta), .val (.int rr), .val (.int cx), .val (.int pa), .val (.int cy), .val (.int pb), .val (.int cz), .val (.int pc_), .val (.int pd_), .val (.ref ti), .val (.ref tv)] [] := by
  refine Go.st (pc' := 442) (S' := [(.int (1 : Int32))]) (fun t_ k_ => XS.iload X0.here hx rfl (hb hby at_440) rfl k_) ?_
  exact Go.retN X0 hx hlk hret (by simp) (hb hby at_442) (by decide) (by decide) (by rw [e0]; exact ⟨rfl, N0⟩)
theorem pd_1 : parseMethodDescriptor "()D" = some ⟨[], some .double⟩ := by decide +kernel
theorem pd_2 : parseMethodDescriptor "([Z[D[D)D" = some ⟨[(.array .boolean), (.array .double), (.array .double)], some .double⟩ := by decide +kernel
theorem sl380 {p : Program} {l : Launch} {e : Env} {s : State} {m : MethodId} {args : Array Value} {below : List Frame} {meth : Method} {c : Code} {T0 : State} {locs : List Loc} {Z : State} {a0 : Array Value} {n0 : Nat} {h0 hh : Heap} (p1 p2 p3 p4 p5 p6 kk_ : Int32) (q : Int64) (a1 td tc tw : Addr) (kd kc kw : ClassId) (ti tv : Addr) (ki kv : ClassId) (cx cy cz pa pb pc_ pd_ : Int32) (ta : Addr) (rr : Int32) (ba bb bc bd : Int32) (va vb vc vd : Int64)
    (X0 : Stand p l e room_1 s m args below meth c T0 locs 7 40) (hx : p.tables.exec = Jvm.exec) (hZ : Z.Warmed39 s.vm) (hw : ∀ d ∈ tables_1, d.before a0 Z = true) (hby : c.code = code) (hml : c.maxLocals = 23) (hown : s.vm.findClass "com/example/placewright/placewright/GrowingRanksAddPinLaw" = some m.cls) (hnm : meth.name = "law") (hret : meth.sig.returnType = (some .boolean)) (hlk : meth.locks = false) (e0 : T0.heap = hh) (N0 : Fr n0 locs) (Z0 : n0 ≤ hh.size) (E_a1 : Exa Z hh a1 "com/example/placewright/placewright/GrowingRanks") (F_discounts : Fld Z hh a1 "com/example/placewright/placewright/GrowingRanks" "discounts" "[D" (.ref td)) (F_leaves : Fld Z hh a1 "com/example/placewright/placewright/GrowingRanks" "leaves" "I" (.int (4 : Int32))) (F_count : Fld Z hh a1 "com/example/placewright/placewright/GrowingRanks" "count" "[I" (.ref tc)) (F_worth : Fld Z hh a1 "com/example/placewright/placewright/GrowingRanks" "worth" "[D" (.ref tw)) (V_td : Arv Z hh td kd .double (5 : Int32) [(.double (FP.l2d 1)), (.double (FP.l2d q)), (.double (FP.l2d (q * q))), (.double (FP.l2d ((q * q) * q))), (.double (FP.l2d (((q * q) * q) * q)))] (.double (0 : UInt64))) (V_tc : Arv Z hh tc kc .int (8 : Int32) [(.int (0 : Int32)), (.int ((ba + bb) + (bc + bd))), (.int (ba + bb)), (.int (bc + bd)), (.int ba), (.int bb), (.int bc), (.int bd)] (.int (0 : Int32))) (V_tw : Arv Z hh tw kw .double (8 : Int32) [(.double (0 : UInt64)), (.double (FP.l2d ((va + (own_e q ba) * vb) + (own_e q (ba + bb)) * (vc + (own_e q bc) * vd)))), (.double (FP.l2d (va + (own_e q ba) * vb))), (.double (FP.l2d (vc + (own_e q bc) * vd))), (.double (FP.l2d va)), (.double (FP.l2d vb)), (.double (FP.l2d vc)), (.double (FP.l2d vd))] (.double (0 : UInt64))) (ne5 : a1 ≠ tc ∧ a1 ≠ tw ∧ tc ≠ tw ∧ td ≠ tc ∧ td ≠ tw) (g_tc : n0 ≤ tc) (g_tw : n0 ≤ tw) (V_ti : Arv Z hh ti ki .boolean (4 : Int32) [(.int ba), (.int bb), (.int bc), (.int bd)] (.int (0 : Int32))) (V_tv : Arv Z hh tv kv .double (4 : Int32) [(.double (FP.l2d va)), (.double (FP.l2d vb)), (.double (FP.l2d vc)), (.double (FP.l2d vd))] (.double (0 : UInt64))) (ne9 : own_ne9 a1 td tc tw ti tv) (g_ti : n0 ≤ ti) (g_tv : n0 ≤ tv) (hba : (ba = 0 ∧ va = 0) ∨ ba = 1) (hbb : (bb = 0 ∧ vb = 0) ∨ bb = 1) (hbc : (bc = 0 ∧ vc = 0) ∨ bc = 1) (hbd : (bd = 0 ∧ vd = 0) ∨ bd = 1) (hq : own_b 4 q) (hva : own_b 2147483648 va) (hvb : own_b 2147483648 vb) (hvc : own_b 2147483648 vc) (hvd : own_b 2147483648 vd) (hpm : own_pm pa pb pc_ pd_) (hf3 : own_fr pd_ ba bb bc bd) :
    Go p e below s room_1.cells room_1.slots (Q0 Z h0 n0) m T0 380 #[.val (.int p1), .val (.int p2), .val (.int p3), .val (.int p4), .val (.int p5), .val (.int p6), .val (.double (FP.l2d q)), .second, .val (.int kk_), .val (.ref td), .val (.ref a1), .val (.int (1 : Int32)), .val (.ref ta), .val (.int rr), .val (.int cx), .val (.int pa), .val (.int cy), .val (.int pb), .val (.int cz), .val (.int pc_), .val (.int pd_), .val (.ref ti), .val (.ref tv)] [] := by
  refine Go.st (pc' := 382) (S' := [(.int kk_)]) (fun t_ k_ => XS.iload X0.here hx rfl (hb hby at_380) rfl k_) ?_
  refine Go.st (pc' := 383) (S' := [(.int (4 : Int32)), (.int kk_)]) (fun t_ k_ => XS.iconst X0.here hx rfl (hb hby at_382) k_) ?_
  by_cases hc383_1 : kk_ < (4 : Int32)
  · refine Go.st (pc' := 440) (S' := []) (fun t_ k_ => XS.icmpYes X0.here hx rfl (pc0 := 383) (pc' := 440) rfl (hb hby at_383) rfl (tlt hc383_1).1 (by decide) (by decide) k_) ?_
    exact sl440 p1 p2 p3 p4 p5 p6 kk_ q a1 td tc tw _ _ _ ti tv _ _ cx cy cz pa pb pc_ pd_ ta rr ba bb bc bd va vb vc vd (Stand.up X0 (by decide) (by decide)) hx hZ hw hby hml hown hnm hret hlk e0 N0 Z0 E_a1 F_discounts F_leaves F_count F_worth V_td V_tc V_tw ⟨ne5.1, ne5.2.1, ne5.2.2.1, ne5.2.2.2.1, ne5.2.2.2.2⟩ g_tc g_tw  V_ti V_tv ne9 g_ti g_tv hba hbb hbc hbd hq hva hvb hvc hvd hpm 
  · refine Go.st (pc' := 386) (S' := []) (fun t_ k_ => XS.icmpNo X0.here hx rfl (hb hby at_383) rfl (flt hc383_1).1 k_) ?_
    rcases hpm.2.2.2.1 with rfl | rfl | rfl | rfl
    · have z_ := (hf3).1 rfl
      subst z_
      have zv_ : va = 0 := hba.elim And.right (fun z => absurd z (by decide))
      subst zv_
      have hbb_ := own_01 hbb
      have hbc_ := own_01 hbc
      have hbd_ := own_01 hbd
      refine Go.st (pc' := 388) (S' := [(.ref a1)]) (fun t_ k_ => XS.aload X0.here hx rfl (hb hby at_386) rfl rfl k_) ?_
      refine Go.st (pc' := 390) (S' := [(.int (0 : Int32)), (.ref a1)]) (fun t_ k_ => XS.iload X0.here hx rfl (hb hby at_388) rfl k_) ?_
      refine Go.st (pc' := 392) (S' := [(.int p6), (.int (0 : Int32)), (.ref a1)]) (fun t_ k_ => XS.iload X0.here hx rfl (hb hby at_390) rfl k_) ?_
      refine Go.st (pc' := 393) (S' := [(.double (FP.l2d (p6.toInt64))), (.int (0 : Int32)), (.ref a1)]) (fun t_ k_ => XS.i2dS X0.here hx rfl (hb hby at_392) rfl (i2d_w _) k_) ?_
      obtain ⟨cq2, kq2, q2a, q2b, q2c⟩ := isOf hZ e0 E_a1
      obtain ⟨_, _, ⟨T2, L2, k2, n2⟩, -, X2, ⟨Lc2, hQ2, l2, y2, z2⟩, st2⟩ := X0.virtualBack hx (y := (⟨"com/example/placewright/placewright/GrowingRanks", "add", "(ID)V"⟩ : MethodName)) (z := (⟨"com/example/placewright/placewright/GrowingRanks", "add", "(ID)V"⟩ : MethodName)) hown (mvT hZ (wd hw 26 rfl)) (mvT hZ (wd hw 27 rfl)) (notFace_of_selects (args := #[]) (mvT hZ (wd hw 29 rfl))) (mvT hZ (wd hw 29 rfl)) (mvT hZ (wd hw 28 rfl)) (by decide) (backOf (W := 0) (rmadd0 l Z a0 hw [] a1 td tc tw _ _ _ q (p6.toInt64) (0 : Int64) vb vc vd bb bc bd hh n0 Z0 E_a1 F_discounts F_leaves F_count F_worth V_td V_tc V_tw ⟨ne5.1, ne5.2.1, ne5.2.2.1, ne5.2.2.2.1, ne5.2.2.2.2⟩ g_tc g_tw hq (own_ib p6) own_z0' hvb hvc hvd hbb_ hbc_ hbd_) hZ (wd hw 30 rfl) (wd hw 3 rfl) (by decide) (by decide)) q2a q2c (g := (mkF m 393 #[.val (.int p1), .val (.int p2), .val (.int p3), .val (.int p4), .val (.int p5), .val (.int p6), .val (.double (FP.l2d q)), .second, .val (.int kk_), .val (.ref td), .val (.ref a1), .val (.int (1 : Int32)), .val (.ref ta), .val (.int rr), .val (.int cx), .val (.int pa), .val (.int cy), .val (.int pb), .val (.int cz), .val (.int pc_), .val (.int (0 : Int32)), .val (.ref ti), .val (.ref tv)] [(.double (FP.l2d (p6.toInt64))), (.int (0 : Int32)), (.ref a1)])) rfl (by rw [hml]; rfl) (Steps.refl _) (argsL := [(.int (0 : Int32)), (.double (FP.l2d (p6.toInt64)))]) (rest := []) (lenOf pd_0 rfl) rfl (by show 2 * 0 + _ ≤ _; exact Nat.le_of_eq rfl) (hb hby at_393) (fun _ _ => ⟨rfl, e0, (by decide : 7 + 0 ≤ _), (by decide : 40 + 0 ≤ _)⟩)
      dsimp only [Pt.U, Pt.locs, Pt.cells, Pt.slots] at X2 l2 y2 z2 st2 hQ2
      subst l2 y2 z2
      obtain ⟨rfl, N2q, K2, Vc2, Vw2⟩ := hQ2
      have N2 := Fr.app N0 N2q
      obtain ⟨h2, e2⟩ : ∃ z, T2.heap = z := ⟨_, rfl⟩
      rw [e2] at K2 Vc2 Vw2
      replace Z0 := Nat.le_trans Z0 K2.1
      replace E_a1 := E_a1.keep K2
      replace F_discounts := F_discounts.keep K2 (ninS ne5.1 (ninS ne5.2.1 nin0))
      replace F_leaves := F_leaves.keep K2 (ninS ne5.1 (ninS ne5.2.1 nin0))
      replace F_count := F_count.keep K2 (ninS ne5.1 (ninS ne5.2.1 nin0))
      replace F_worth := F_worth.keep K2 (ninS ne5.1 (ninS ne5.2.1 nin0))
      replace V_td := V_td.keep K2 (ninS ne5.2.2.2.1 (ninS ne5.2.2.2.2 nin0))
      replace V_ti := V_ti.keep K2 (ninS (Ne.symm ne9.2.2.1) (ninS (Ne.symm ne9.2.2.2.1) nin0))
      replace V_tv := V_tv.keep K2 (ninS (Ne.symm ne9.2.2.2.2.2.2.1) (ninS (Ne.symm ne9.2.2.2.2.2.2.2.1) nin0))
      refine Go.tr (pc' := 396) (S' := []) st2 ?_
      refine Go.st (pc' := 398) (S' := [(.ref ti)]) (fun t_ k_ => XS.aload X2.here hx rfl (hb hby at_396) rfl rfl k_) ?_
      refine Go.st (pc' := 400) (S' := [(.int (0 : Int32)), (.ref ti)]) (fun t_ k_ => XS.iload X2.here hx rfl (hb hby at_398) rfl k_) ?_
      refine Go.st (pc' := 401) (S' := [(.int (1 : Int32)), (.int (0 : Int32)), (.ref ti)]) (fun t_ k_ => XS.iconst X2.here hx rfl (hb hby at_400) k_) ?_
      obtain ⟨cl3, Ar3, q31, q32, q33, q34, q35⟩ := V_ti
      obtain ⟨T3, h3, X3, e3, W3, st3⟩ := stZ X2 hx hZ e2 Ar3 (j := (0 : Int32)) (inb_of q32 ⟨by decide, by decide⟩) (g := (mkF m 401 #[.val (.int p1), .val (.int p2), .val (.int p3), .val (.int p4), .val (.int p5), .val (.int p6), .val (.double (FP.l2d q)), .second, .val (.int kk_), .val (.ref td), .val (.ref a1), .val (.int (1 : Int32)), .val (.ref ta), .val (.int rr), .val (.int cx), .val (.int pa), .val (.int cy), .val (.int pb), .val (.int cz), .val (.int pc_), .val (.int (0 : Int32)), .val (.ref ti), .val (.ref tv)] [(.int (1 : Int32)), (.int (0 : Int32)), (.ref ti)])) rfl rfl (hb hby at_401)
      replace V_ti := Arv.set Ar3 q31 q32 q33 q34 q35 (fits_nar_bool _) W3 0 rfl (Nat.le_of_ble_eq_true rfl)
      have V_ti : Arv Z h3 ti ki .boolean (4 : Int32) [(.int (nar .boolean (1 : Int32))), (.int bb), (.int bc), (.int bd)] (.int (0 : Int32)) := V_ti
      replace Z0 := Nat.le_trans Z0 (Keep.of_wr W3).1
      replace E_a1 := E_a1.wr W3
      replace F_discounts := F_discounts.other W3 (Or.inl ne9.1)
      replace F_leaves := F_leaves.other W3 (Or.inl ne9.1)
      replace F_count := F_count.other W3 (Or.inl ne9.1)
      replace F_worth := F_worth.other W3 (Or.inl ne9.1)
      replace V_td := V_td.other W3 ne9.2.1
      replace V_tv := V_tv.other W3 (Ne.symm ne9.2.2.2.2.2.2.2.2)
      replace Vc2 := Vc2.other W3 ne9.2.2.1
      replace Vw2 := Vw2.other W3 ne9.2.2.2.1
      have N3 := Fr.snoc X3 N2 g_ti
      refine Go.st (pc' := 402) (S' := []) st3 ?_
      refine Go.st (pc' := 404) (S' := [(.ref tv)]) (fun t_ k_ => XS.aload X3.here hx rfl (hb hby at_402) rfl rfl k_) ?_
      refine Go.st (pc' := 406) (S' := [(.int (0 : Int32)), (.ref tv)]) (fun t_ k_ => XS.iload X3.here hx rfl (hb hby at_404) rfl k_) ?_
      refine Go.st (pc' := 408) (S' := [(.int p6), (.int (0 : Int32)), (.ref tv)]) (fun t_ k_ => XS.iload X3.here hx rfl (hb hby at_406) rfl k_) ?_
      refine Go.st (pc' := 409) (S' := [(.double (FP.l2d (p6.toInt64))), (.int (0 : Int32)), (.ref tv)]) (fun t_ k_ => XS.i2dS X3.here hx rfl (hb hby at_408) rfl (i2d_w _) k_) ?_
      obtain ⟨cl4, Ar4, q41, q42, q43, q44, q45⟩ := V_tv
      obtain ⟨T4, h4, X4, e4, W4, st4⟩ := stD X3 hx hZ e3 Ar4 (j := (0 : Int32)) (inb_of q42 ⟨by decide, by decide⟩) (g := (mkF m 409 #[.val (.int p1), .val (.int p2), .val (.int p3), .val (.int p4), .val (.int p5), .val (.int p6), .val (.double (FP.l2d q)), .second, .val (.int kk_), .val (.ref td), .val (.ref a1), .val (.int (1 : Int32)), .val (.ref ta), .val (.int rr), .val (.int cx), .val (.int pa), .val (.int cy), .val (.int pb), .val (.int cz), .val (.int pc_), .val (.int (0 : Int32)), .val (.ref ti), .val (.ref tv)] [(.double (FP.l2d (p6.toInt64))), (.int (0 : Int32)), (.ref tv)])) rfl rfl (hb hby at_409)
      replace V_tv := Arv.set Ar4 q41 q42 q43 q44 q45 rfl W4 0 rfl (Nat.le_of_ble_eq_true rfl)
      have V_tv : Arv Z h4 tv kv .double (4 : Int32) [(.double (FP.l2d (p6.toInt64))), (.double (FP.l2d vb)), (.double (FP.l2d vc)), (.double (FP.l2d vd))] (.double (0 : UInt64)) := V_tv
      replace Z0 := Nat.le_trans Z0 (Keep.of_wr W4).1
      replace E_a1 := E_a1.wr W4
      replace F_discounts := F_discounts.other W4 (Or.inl ne9.2.2.2.2.1)
      replace F_leaves := F_leaves.other W4 (Or.inl ne9.2.2.2.2.1)
      replace F_count := F_count.other W4 (Or.inl ne9.2.2.2.2.1)
      replace F_worth := F_worth.other W4 (Or.inl ne9.2.2.2.2.1)
      replace V_td := V_td.other W4 ne9.2.2.2.2.2.1
      replace V_ti := V_ti.other W4 ne9.2.2.2.2.2.2.2.2
      replace Vc2 := Vc2.other W4 ne9.2.2.2.2.2.2.1
      replace Vw2 := Vw2.other W4 ne9.2.2.2.2.2.2.2.1
      have N4 := Fr.snoc X4 N3 g_tv
      refine Go.st (pc' := 410) (S' := []) st4 ?_
      refine Go.st (pc' := 412) (S' := [(.int (1 : Int32))]) (fun t_ k_ => XS.iload X4.here hx rfl (hb hby at_410) rfl k_) ?_
      refine Go.st (pc' := 415) (S' := []) (fun t_ k_ => XS.ifNo X4.here hx rfl (hb hby at_412) rfl ((if0 _ _).trans (feq (by decide : ¬ ((1 : Int32) = (0 : Int32)))).1) k_) ?_
      refine Go.st (pc' := 417) (S' := [(.ref a1)]) (fun t_ k_ => XS.aload X4.here hx rfl (hb hby at_415) rfl rfl k_) ?_
      obtain ⟨cq5, kq5, q5a, q5b, q5c⟩ := isOf hZ e4 E_a1
      obtain ⟨_, _, ⟨T5, L5, k5, n5⟩, -, X5, ⟨Lc5, hQ5, l5, y5, z5⟩, st5⟩ := X4.virtualBack hx (y := (⟨"com/example/placewright/placewright/GrowingRanks", "value", "()D"⟩ : MethodName)) (z := (⟨"com/example/placewright/placewright/GrowingRanks", "value", "()D"⟩ : MethodName)) hown (mvT hZ (wd hw 19 rfl)) (mvT hZ (wd hw 20 rfl)) (notFace_of_selects (args := #[]) (mvT hZ (wd hw 22 rfl))) (mvT hZ (wd hw 22 rfl)) (mvT hZ (wd hw 21 rfl)) (by decide) (backOf (W := 0) (rmval l Z a0 hw [] a1 tw _ (0 : UInt64) (FP.l2d (((p6.toInt64) + (own_e q (1 : Int32)) * vb) + (own_e q ((1 : Int32) + bb)) * (vc + (own_e q bc) * vd))) (FP.l2d ((p6.toInt64) + (own_e q (1 : Int32)) * vb)) (FP.l2d (vc + (own_e q bc) * vd)) (FP.l2d (p6.toInt64)) (FP.l2d vb) (FP.l2d vc) (FP.l2d vd) h4 n0 Z0 F_worth Vw2) hZ (wd hw 23 rfl) (wd hw 3 rfl) (by decide) (by decide)) q5a q5c (g := (mkF m 417 #[.val (.int p1), .val (.int p2), .val (.int p3), .val (.int p4), .val (.int p5), .val (.int p6), .val (.double (FP.l2d q)), .second, .val (.int kk_), .val (.ref td), .val (.ref a1), .val (.int (1 : Int32)), .val (.ref ta), .val (.int rr), .val (.int cx), .val (.int pa), .val (.int cy), .val (.int pb), .val (.int cz), .val (.int pc_), .val (.int (0 : Int32)), .val (.ref ti), .val (.ref tv)] [(.ref a1)])) rfl (by rw [hml]; rfl) (Steps.refl _) (argsL := []) (rest := []) (lenOf pd_1 rfl) rfl (by show 2 * 0 + _ ≤ _; exact Nat.le_of_eq rfl) (hb hby at_417) (fun _ _ => ⟨rfl, e4, (by decide : 7 + 0 ≤ _), (by decide : 40 + 0 ≤ _)⟩)
      dsimp only [Pt.U, Pt.locs, Pt.cells, Pt.slots] at X5 l5 y5 z5 st5 hQ5
      subst l5 y5 z5
      obtain ⟨rfl, N5q, e5⟩ := hQ5
      have N5 := Fr.app N4 N5q
      refine Go.tr (pc' := 420) (S' := [(.double (FP.l2d (((p6.toInt64) + (own_e q (1 : Int32)) * vb) + (own_e q ((1 : Int32) + bb)) * (vc + (own_e q bc) * vd))))]) st5 ?_
      refine Go.st (pc' := 422) (S' := [(.ref ti), (.double (FP.l2d (((p6.toInt64) + (own_e q (1 : Int32)) * vb) + (own_e q ((1 : Int32) + bb)) * (vc + (own_e q bc) * vd))))]) (fun t_ k_ => XS.aload X5.here hx rfl (hb hby at_420) rfl rfl k_) ?_
      refine Go.st (pc' := 424) (S' := [(.ref tv), (.ref ti), (.double (FP.l2d (((p6.toInt64) + (own_e q (1 : Int32)) * vb) + (own_e q ((1 : Int32) + bb)) * (vc + (own_e q bc) * vd))))]) (fun t_ k_ => XS.aload X5.here hx rfl (hb hby at_422) rfl rfl k_) ?_
      refine Go.st (pc' := 426) (S' := [(.ref td), (.ref tv), (.ref ti), (.double (FP.l2d (((p6.toInt64) + (own_e q (1 : Int32)) * vb) + (own_e q ((1 : Int32) + bb)) * (vc + (own_e q bc) * vd))))]) (fun t_ k_ => XS.aload X5.here hx rfl (hb hby at_424) rfl rfl k_) ?_
      obtain ⟨_, _, ⟨T6, L6, k6, n6⟩, -, X6, ⟨Lc6, hQ6, l6, y6, z6⟩, st6⟩ := Jvm.LawKit.callS X5 hx (y := (⟨"com/example/placewright/placewright/GrowingRanksAddPinLaw", "ref", "([Z[D[D)D"⟩ : MethodName)) hown (mvT hZ (wd hw 35 rfl)) (mvT hZ (wd hw 36 rfl)) (mvT hZ (wd hw 37 rfl)) (mvT hZ (wd hw 38 rfl)) (by decide) (backOf (W := 2) (rmref l Z a0 hw [] ti tv td _ _ _ q (p6.toInt64) vb vc vd (1 : Int32) bb bc bd h4 n0 Z0 V_ti V_tv V_td hq (own_ib p6) hvb hvc hvd) hZ (wd hw 38 rfl) (wd hw 37 rfl) (by decide) (by decide)) (g := (mkF m 426 #[.val (.int p1), .val (.int p2), .val (.int p3), .val (.int p4), .val (.int p5), .val (.int p6), .val (.double (FP.l2d q)), .second, .val (.int kk_), .val (.ref td), .val (.ref a1), .val (.int (1 : Int32)), .val (.ref ta), .val (.int rr), .val (.int cx), .val (.int pa), .val (.int cy), .val (.int pb), .val (.int cz), .val (.int pc_), .val (.int (0 : Int32)), .val (.ref ti), .val (.ref tv)] [(.ref td), (.ref tv), (.ref ti), (.double (FP.l2d (((p6.toInt64) + (own_e q (1 : Int32)) * vb) + (own_e q ((1 : Int32) + bb)) * (vc + (own_e q bc) * vd))))])) rfl (by rw [hml]; rfl) (argsL := [(.ref ti), (.ref tv), (.ref td)]) (rest := [(.double (FP.l2d (((p6.toInt64) + (own_e q (1 : Int32)) * vb) + (own_e q ((1 : Int32) + bb)) * (vc + (own_e q bc) * vd))))]) (lenOf pd_2 rfl) rfl (by show 2 * 0 + _ ≤ _; exact Nat.le_of_eq rfl) (hb hby at_426) (fun _ _ => ⟨rfl, e5, (by decide : 7 + 0 ≤ _), (by decide : 40 + 0 ≤ _)⟩)
      dsimp only [Pt.U, Pt.locs, Pt.cells, Pt.slots] at X6 l6 y6 z6 st6 hQ6
      subst l6 y6 z6
      obtain ⟨rfl, N6q, e6⟩ := hQ6
      have N6 := Fr.app N5 N6q
      refine Go.st (pc' := 429) (S' := [(.double (FP.l2d (own_fin0 q (1 : Int32) bb bc bd (p6.toInt64) vb vc vd 0 0))), (.double (FP.l2d (((p6.toInt64) + (own_e q (1 : Int32)) * vb) + (own_e q ((1 : Int32) + bb)) * (vc + (own_e q bc) * vd))))]) st6 ?_
      refine Go.st (pc' := 430) (S' := [(.int (cmpValue (FP.dcmp (FP.l2d (((p6.toInt64) + (own_e q (1 : Int32)) * vb) + (own_e q ((1 : Int32) + bb)) * (vc + (own_e q bc) * vd))) (FP.l2d (own_fin0 q (1 : Int32) bb bc bd (p6.toInt64) vb vc vd 0 0))) .l))]) (fun t_ k_ => XS.dcmpS X6.here hx rfl (hb hby at_429) rfl rfl k_) ?_
      refine Go.st (pc' := 433) (S' := []) (fun t_ k_ => XS.ifNo X6.here hx rfl (hb hby at_430) rfl ((if0 _ _).trans (teq (own_dc (own_same0 (Or.inr rfl) hbb hbc hbd) : ((cmpValue (FP.dcmp (FP.l2d (((p6.toInt64) + (own_e q (1 : Int32)) * vb) + (own_e q ((1 : Int32) + bb)) * (vc + (own_e q bc) * vd))) (FP.l2d (own_fin0 q (1 : Int32) bb bc bd (p6.toInt64) vb vc vd 0 0))) .l) = (0 : Int32)))).2) k_) ?_
      refine Go.st (pc' := 434) (S' := [(.int (1 : Int32))]) (fun t_ k_ => XS.iconst X6.here hx rfl (hb hby at_433) k_) ?_
      refine Go.st (pc' := 438) (S' := [(.int (1 : Int32))]) (fun t_ k_ => XS.goto X6.here hx rfl (pc0 := 434) (pc' := 438) rfl (hb hby at_434) (by decide) (by decide) k_) ?_
      refine Go.st (pc' := 440) (S' := []) (fun t_ k_ => XS.istore X6.here hx rfl (hb hby at_438) rfl (l' := #[.val (.int p1), .val (.int p2), .val (.int p3), .val (.int p4), .val (.int p5), .val (.int p6), .val (.double (FP.l2d q)), .second, .val (.int kk_), .val (.ref td), .val (.ref a1), .val (.int (1 : Int32)), .val (.ref ta), .val (.int rr), .val (.int cx), .val (.int pa), .val (.int cy), .val (.int pb), .val (.int cz), .val (.int pc_), .val (.int (0 : Int32)), .val (.ref ti), .val (.ref tv)]) rfl k_) ?_
      exact sl440 p1 p2 p3 p4 p5 p6 kk_ q a1 td tc tw _ _ _ ti tv _ _ cx cy cz pa pb pc_ (0 : Int32) ta rr (1 : Int32) bb bc bd (p6.toInt64) vb vc vd (Stand.up X6 (by decide) (by decide)) hx hZ hw hby hml hown hnm hret hlk e6 N6 Z0 E_a1 F_discounts F_leaves F_count F_worth V_td Vc2 Vw2 ⟨ne5.1, ne5.2.1, ne5.2.2.1, ne5.2.2.2.1, ne5.2.2.2.2⟩ g_tc g_tw  V_ti V_tv ne9 g_ti g_tv (Or.inr rfl) hbb hbc hbd hq (own_ib p6) hvb hvc hvd hpm 
    · have z_ := (hf3).2.1 rfl
      subst z_
      have zv_ : vb = 0 := hbb.elim And.right (fun z => absurd z (by decide))
      subst zv_
      have hba_ := own_01 hba
      have hbc_ := own_01 hbc
      have hbd_ := own_01 hbd
      refine Go.st (pc' := 388) (S' := [(.ref a1)]) (fun t_ k_ => XS.aload X0.here hx rfl (hb hby at_386) rfl rfl k_) ?_
      refine Go.st (pc' := 390) (S' := [(.int (1 : Int32)), (.ref a1)]) (fun t_ k_ => XS.iload X0.here hx rfl (hb hby at_388) rfl k_) ?_
      refine Go.st (pc' := 392) (S' := [(.int p6), (.int (1 : Int32)), (.ref a1)]) (fun t_ k_ => XS.iload X0.here hx rfl (hb hby at_390) rfl k_) ?_
      refine Go.st (pc' := 393) (S' := [(.double (FP.l2d (p6.toInt64))), (.int (1 : Int32)), (.ref a1)]) (fun t_ k_ => XS.i2dS X0.here hx rfl (hb hby at_392) rfl (i2d_w _) k_) ?_
      obtain ⟨cq7, kq7, q7a, q7b, q7c⟩ := isOf hZ e0 E_a1
      obtain ⟨_, _, ⟨T7, L7, k7, n7⟩, -, X7, ⟨Lc7, hQ7, l7, y7, z7⟩, st7⟩ := X0.virtualBack hx (y := (⟨"com/example/placewright/placewright/GrowingRanks", "add", "(ID)V"⟩ : MethodName)) (z := (⟨"com/example/placewright/placewright/GrowingRanks", "add", "(ID)V"⟩ : MethodName)) hown (mvT hZ (wd hw 26 rfl)) (mvT hZ (wd hw 27 rfl)) (notFace_of_selects (args := #[]) (mvT hZ (wd hw 29 rfl))) (mvT hZ (wd hw 29 rfl)) (mvT hZ (wd hw 28 rfl)) (by decide) (backOf (W := 0) (rmadd1 l Z a0 hw [] a1 td tc tw _ _ _ q (p6.toInt64) va (0 : Int64) vc vd ba bc bd hh n0 Z0 E_a1 F_discounts F_leaves F_count F_worth V_td V_tc V_tw ⟨ne5.1, ne5.2.1, ne5.2.2.1, ne5.2.2.2.1, ne5.2.2.2.2⟩ g_tc g_tw hq (own_ib p6) hva own_z0' hvc hvd hba_ hbc_ hbd_) hZ (wd hw 30 rfl) (wd hw 3 rfl) (by decide) (by decide)) q7a q7c (g := (mkF m 393 #[.val (.int p1), .val (.int p2), .val (.int p3), .val (.int p4), .val (.int p5), .val (.int p6), .val (.double (FP.l2d q)), .second, .val (.int kk_), .val (.ref td), .val (.ref a1), .val (.int (1 : Int32)), .val (.ref ta), .val (.int rr), .val (.int cx), .val (.int pa), .val (.int cy), .val (.int pb), .val (.int cz), .val (.int pc_), .val (.int (1 : Int32)), .val (.ref ti), .val (.ref tv)] [(.double (FP.l2d (p6.toInt64))), (.int (1 : Int32)), (.ref a1)])) rfl (by rw [hml]; rfl) (Steps.refl _) (argsL := [(.int (1 : Int32)), (.double (FP.l2d (p6.toInt64)))]) (rest := []) (lenOf pd_0 rfl) rfl (by show 2 * 0 + _ ≤ _; exact Nat.le_of_eq rfl) (hb hby at_393) (fun _ _ => ⟨rfl, e0, (by decide : 7 + 0 ≤ _), (by decide : 40 + 0 ≤ _)⟩)
      dsimp only [Pt.U, Pt.locs, Pt.cells, Pt.slots] at X7 l7 y7 z7 st7 hQ7
      subst l7 y7 z7
      obtain ⟨rfl, N7q, K7, Vc7, Vw7⟩ := hQ7
      have N7 := Fr.app N0 N7q
      obtain ⟨h7, e7⟩ : ∃ z, T7.heap = z := ⟨_, rfl⟩
      rw [e7] at K7 Vc7 Vw7
      replace Z0 := Nat.le_trans Z0 K7.1
      replace E_a1 := E_a1.keep K7
      replace F_discounts := F_discounts.keep K7 (ninS ne5.1 (ninS ne5.2.1 nin0))
      replace F_leaves := F_leaves.keep K7 (ninS ne5.1 (ninS ne5.2.1 nin0))
      replace F_count := F_count.keep K7 (ninS ne5.1 (ninS ne5.2.1 nin0))
      replace F_worth := F_worth.keep K7 (ninS ne5.1 (ninS ne5.2.1 nin0))
      replace V_td := V_td.keep K7 (ninS ne5.2.2.2.1 (ninS ne5.2.2.2.2 nin0))
      replace V_ti := V_ti.keep K7 (ninS (Ne.symm ne9.2.2.1) (ninS (Ne.symm ne9.2.2.2.1) nin0))
      replace V_tv := V_tv.keep K7 (ninS (Ne.symm ne9.2.2.2.2.2.2.1) (ninS (Ne.symm ne9.2.2.2.2.2.2.2.1) nin0))
      refine Go.tr (pc' := 396) (S' := []) st7 ?_
      refine Go.st (pc' := 398) (S' := [(.ref ti)]) (fun t_ k_ => XS.aload X7.here hx rfl (hb hby at_396) rfl rfl k_) ?_
      refine Go.st (pc' := 400) (S' := [(.int (1 : Int32)), (.ref ti)]) (fun t_ k_ => XS.iload X7.here hx rfl (hb hby at_398) rfl k_) ?_
      refine Go.st (pc' := 401) (S' := [(.int (1 : Int32)), (.int (1 : Int32)), (.ref ti)]) (fun t_ k_ => XS.iconst X7.here hx rfl (hb hby at_400) k_) ?_
      obtain ⟨cl8, Ar8, q81, q82, q83, q84, q85⟩ := V_ti
      obtain ⟨T8, h8, X8, e8, W8, st8⟩ := stZ X7 hx hZ e7 Ar8 (j := (1 : Int32)) (inb_of q82 ⟨by decide, by decide⟩) (g := (mkF m 401 #[.val (.int p1), .val (.int p2), .val (.int p3), .val (.int p4), .val (.int p5), .val (.int p6), .val (.double (FP.l2d q)), .second, .val (.int kk_), .val (.ref td), .val (.ref a1), .val (.int (1 : Int32)), .val (.ref ta), .val (.int rr), .val (.int cx), .val (.int pa), .val (.int cy), .val (.int pb), .val (.int cz), .val (.int pc_), .val (.int (1 : Int32)), .val (.ref ti), .val (.ref tv)] [(.int (1 : Int32)), (.int (1 : Int32)), (.ref ti)])) rfl rfl (hb hby at_401)
      replace V_ti := Arv.set Ar8 q81 q82 q83 q84 q85 (fits_nar_bool _) W8 1 rfl (Nat.le_of_ble_eq_true rfl)
      have V_ti : Arv Z h8 ti ki .boolean (4 : Int32) [(.int ba), (.int (nar .boolean (1 : Int32))), (.int bc), (.int bd)] (.int (0 : Int32)) := V_ti
      replace Z0 := Nat.le_trans Z0 (Keep.of_wr W8).1
      replace E_a1 := E_a1.wr W8
      replace F_discounts := F_discounts.other W8 (Or.inl ne9.1)
      replace F_leaves := F_leaves.other W8 (Or.inl ne9.1)
      replace F_count := F_count.other W8 (Or.inl ne9.1)
      replace F_worth := F_worth.other W8 (Or.inl ne9.1)
      replace V_td := V_td.other W8 ne9.2.1
      replace V_tv := V_tv.other W8 (Ne.symm ne9.2.2.2.2.2.2.2.2)
      replace Vc7 := Vc7.other W8 ne9.2.2.1
      replace Vw7 := Vw7.other W8 ne9.2.2.2.1
      have N8 := Fr.snoc X8 N7 g_ti
      refine Go.st (pc' := 402) (S' := []) st8 ?_
      refine Go.st (pc' := 404) (S' := [(.ref tv)]) (fun t_ k_ => XS.aload X8.here hx rfl (hb hby at_402) rfl rfl k_) ?_
      refine Go.st (pc' := 406) (S' := [(.int (1 : Int32)), (.ref tv)]) (fun t_ k_ => XS.iload X8.here hx rfl (hb hby at_404) rfl k_) ?_
      refine Go.st (pc' := 408) (S' := [(.int p6), (.int (1 : Int32)), (.ref tv)]) (fun t_ k_ => XS.iload X8.here hx rfl (hb hby at_406) rfl k_) ?_
      refine Go.st (pc' := 409) (S' := [(.double (FP.l2d (p6.toInt64))), (.int (1 : Int32)), (.ref tv)]) (fun t_ k_ => XS.i2dS X8.here hx rfl (hb hby at_408) rfl (i2d_w _) k_) ?_
      obtain ⟨cl9, Ar9, q91, q92, q93, q94, q95⟩ := V_tv
      obtain ⟨T9, h9, X9, e9, W9, st9⟩ := stD X8 hx hZ e8 Ar9 (j := (1 : Int32)) (inb_of q92 ⟨by decide, by decide⟩) (g := (mkF m 409 #[.val (.int p1), .val (.int p2), .val (.int p3), .val (.int p4), .val (.int p5), .val (.int p6), .val (.double (FP.l2d q)), .second, .val (.int kk_), .val (.ref td), .val (.ref a1), .val (.int (1 : Int32)), .val (.ref ta), .val (.int rr), .val (.int cx), .val (.int pa), .val (.int cy), .val (.int pb), .val (.int cz), .val (.int pc_), .val (.int (1 : Int32)), .val (.ref ti), .val (.ref tv)] [(.double (FP.l2d (p6.toInt64))), (.int (1 : Int32)), (.ref tv)])) rfl rfl (hb hby at_409)
      replace V_tv := Arv.set Ar9 q91 q92 q93 q94 q95 rfl W9 1 rfl (Nat.le_of_ble_eq_true rfl)
      have V_tv : Arv Z h9 tv kv .double (4 : Int32) [(.double (FP.l2d va)), (.double (FP.l2d (p6.toInt64))), (.double (FP.l2d vc)), (.double (FP.l2d vd))] (.double (0 : UInt64)) := V_tv
      replace Z0 := Nat.le_trans Z0 (Keep.of_wr W9).1
      replace E_a1 := E_a1.wr W9
      replace F_discounts := F_discounts.other W9 (Or.inl ne9.2.2.2.2.1)
      replace F_leaves := F_leaves.other W9 (Or.inl ne9.2.2.2.2.1)
      replace F_count := F_count.other W9 (Or.inl ne9.2.2.2.2.1)
      replace F_worth := F_worth.other W9 (Or.inl ne9.2.2.2.2.1)
      replace V_td := V_td.other W9 ne9.2.2.2.2.2.1
      replace V_ti := V_ti.other W9 ne9.2.2.2.2.2.2.2.2
      replace Vc7 := Vc7.other W9 ne9.2.2.2.2.2.2.1
      replace Vw7 := Vw7.other W9 ne9.2.2.2.2.2.2.2.1
      have N9 := Fr.snoc X9 N8 g_tv
      refine Go.st (pc' := 410) (S' := []) st9 ?_
      refine Go.st (pc' := 412) (S' := [(.int (1 : Int32))]) (fun t_ k_ => XS.iload X9.here hx rfl (hb hby at_410) rfl k_) ?_
      refine Go.st (pc' := 415) (S' := []) (fun t_ k_ => XS.ifNo X9.here hx rfl (hb hby at_412) rfl ((if0 _ _).trans (feq (by decide : ¬ ((1 : Int32) = (0 : Int32)))).1) k_) ?_
      refine Go.st (pc' := 417) (S' := [(.ref a1)]) (fun t_ k_ => XS.aload X9.here hx rfl (hb hby at_415) rfl rfl k_) ?_
      obtain ⟨cq10, kq10, q10a, q10b, q10c⟩ := isOf hZ e9 E_a1
      obtain ⟨_, _, ⟨T10, L10, k10, n10⟩, -, X10, ⟨Lc10, hQ10, l10, y10, z10⟩, st10⟩ := X9.virtualBack hx (y := (⟨"com/example/placewright/placewright/GrowingRanks", "value", "()D"⟩ : MethodName)) (z := (⟨"com/example/placewright/placewright/GrowingRanks", "value", "()D"⟩ : MethodName)) hown (mvT hZ (wd hw 19 rfl)) (mvT hZ (wd hw 20 rfl)) (notFace_of_selects (args := #[]) (mvT hZ (wd hw 22 rfl))) (mvT hZ (wd hw 22 rfl)) (mvT hZ (wd hw 21 rfl)) (by decide) (backOf (W := 0) (rmval l Z a0 hw [] a1 tw _ (0 : UInt64) (FP.l2d ((va + (own_e q ba) * (p6.toInt64)) + (own_e q (ba + (1 : Int32))) * (vc + (own_e q bc) * vd))) (FP.l2d (va + (own_e q ba) * (p6.toInt64))) (FP.l2d (vc + (own_e q bc) * vd)) (FP.l2d va) (FP.l2d (p6.toInt64)) (FP.l2d vc) (FP.l2d vd) h9 n0 Z0 F_worth Vw7) hZ (wd hw 23 rfl) (wd hw 3 rfl) (by decide) (by decide)) q10a q10c (g := (mkF m 417 #[.val (.int p1), .val (.int p2), .val (.int p3), .val (.int p4), .val (.int p5), .val (.int p6), .val (.double (FP.l2d q)), .second, .val (.int kk_), .val (.ref td), .val (.ref a1), .val (.int (1 : Int32)), .val (.ref ta), .val (.int rr), .val (.int cx), .val (.int pa), .val (.int cy), .val (.int pb), .val (.int cz), .val (.int pc_), .val (.int (1 : Int32)), .val (.ref ti), .val (.ref tv)] [(.ref a1)])) rfl (by rw [hml]; rfl) (Steps.refl _) (argsL := []) (rest := []) (lenOf pd_1 rfl) rfl (by show 2 * 0 + _ ≤ _; exact Nat.le_of_eq rfl) (hb hby at_417) (fun _ _ => ⟨rfl, e9, (by decide : 7 + 0 ≤ _), (by decide : 40 + 0 ≤ _)⟩)
      dsimp only [Pt.U, Pt.locs, Pt.cells, Pt.slots] at X10 l10 y10 z10 st10 hQ10
      subst l10 y10 z10
      obtain ⟨rfl, N10q, e10⟩ := hQ10
      have N10 := Fr.app N9 N10q
      refine Go.tr (pc' := 420) (S' := [(.double (FP.l2d ((va + (own_e q ba) * (p6.toInt64)) + (own_e q (ba + (1 : Int32))) * (vc + (own_e q bc) * vd))))]) st10 ?_
      refine Go.st (pc' := 422) (S' := [(.ref ti), (.double (FP.l2d ((va + (own_e q ba) * (p6.toInt64)) + (own_e q (ba + (1 : Int32))) * (vc + (own_e q bc) * vd))))]) (fun t_ k_ => XS.aload X10.here hx rfl (hb hby at_420) rfl rfl k_) ?_
      refine Go.st (pc' := 424) (S' := [(.ref tv), (.ref ti), (.double (FP.l2d ((va + (own_e q ba) * (p6.toInt64)) + (own_e q (ba + (1 : Int32))) * (vc + (own_e q bc) * vd))))]) (fun t_ k_ => XS.aload X10.here hx rfl (hb hby at_422) rfl rfl k_) ?_
      refine Go.st (pc' := 426) (S' := [(.ref td), (.ref tv), (.ref ti), (.double (FP.l2d ((va + (own_e q ba) * (p6.toInt64)) + (own_e q (ba + (1 : Int32))) * (vc + (own_e q bc) * vd))))]) (fun t_ k_ => XS.aload X10.here hx rfl (hb hby at_424) rfl rfl k_) ?_
      obtain ⟨_, _, ⟨T11, L11, k11, n11⟩, -, X11, ⟨Lc11, hQ11, l11, y11, z11⟩, st11⟩ := Jvm.LawKit.callS X10 hx (y := (⟨"com/example/placewright/placewright/GrowingRanksAddPinLaw", "ref", "([Z[D[D)D"⟩ : MethodName)) hown (mvT hZ (wd hw 35 rfl)) (mvT hZ (wd hw 36 rfl)) (mvT hZ (wd hw 37 rfl)) (mvT hZ (wd hw 38 rfl)) (by decide) (backOf (W := 2) (rmref l Z a0 hw [] ti tv td _ _ _ q va (p6.toInt64) vc vd ba (1 : Int32) bc bd h9 n0 Z0 V_ti V_tv V_td hq hva (own_ib p6) hvc hvd) hZ (wd hw 38 rfl) (wd hw 37 rfl) (by decide) (by decide)) (g := (mkF m 426 #[.val (.int p1), .val (.int p2), .val (.int p3), .val (.int p4), .val (.int p5), .val (.int p6), .val (.double (FP.l2d q)), .second, .val (.int kk_), .val (.ref td), .val (.ref a1), .val (.int (1 : Int32)), .val (.ref ta), .val (.int rr), .val (.int cx), .val (.int pa), .val (.int cy), .val (.int pb), .val (.int cz), .val (.int pc_), .val (.int (1 : Int32)), .val (.ref ti), .val (.ref tv)] [(.ref td), (.ref tv), (.ref ti), (.double (FP.l2d ((va + (own_e q ba) * (p6.toInt64)) + (own_e q (ba + (1 : Int32))) * (vc + (own_e q bc) * vd))))])) rfl (by rw [hml]; rfl) (argsL := [(.ref ti), (.ref tv), (.ref td)]) (rest := [(.double (FP.l2d ((va + (own_e q ba) * (p6.toInt64)) + (own_e q (ba + (1 : Int32))) * (vc + (own_e q bc) * vd))))]) (lenOf pd_2 rfl) rfl (by show 2 * 0 + _ ≤ _; exact Nat.le_of_eq rfl) (hb hby at_426) (fun _ _ => ⟨rfl, e10, (by decide : 7 + 0 ≤ _), (by decide : 40 + 0 ≤ _)⟩)
      dsimp only [Pt.U, Pt.locs, Pt.cells, Pt.slots] at X11 l11 y11 z11 st11 hQ11
      subst l11 y11 z11
      obtain ⟨rfl, N11q, e11⟩ := hQ11
      have N11 := Fr.app N10 N11q
      refine Go.st (pc' := 429) (S' := [(.double (FP.l2d (own_fin0 q ba (1 : Int32) bc bd va (p6.toInt64) vc vd 0 0))), (.double (FP.l2d ((va + (own_e q ba) * (p6.toInt64)) + (own_e q (ba + (1 : Int32))) * (vc + (own_e q bc) * vd))))]) st11 ?_
      refine Go.st (pc' := 430) (S' := [(.int (cmpValue (FP.dcmp (FP.l2d ((va + (own_e q ba) * (p6.toInt64)) + (own_e q (ba + (1 : Int32))) * (vc + (own_e q bc) * vd))) (FP.l2d (own_fin0 q ba (1 : Int32) bc bd va (p6.toInt64) vc vd 0 0))) .l))]) (fun t_ k_ => XS.dcmpS X11.here hx rfl (hb hby at_429) rfl rfl k_) ?_
      refine Go.st (pc' := 433) (S' := []) (fun t_ k_ => XS.ifNo X11.here hx rfl (hb hby at_430) rfl ((if0 _ _).trans (teq (own_dc (own_same0 hba (Or.inr rfl) hbc hbd) : ((cmpValue (FP.dcmp (FP.l2d ((va + (own_e q ba) * (p6.toInt64)) + (own_e q (ba + (1 : Int32))) * (vc + (own_e q bc) * vd))) (FP.l2d (own_fin0 q ba (1 : Int32) bc bd va (p6.toInt64) vc vd 0 0))) .l) = (0 : Int32)))).2) k_) ?_
      refine Go.st (pc' := 434) (S' := [(.int (1 : Int32))]) (fun t_ k_ => XS.iconst X11.here hx rfl (hb hby at_433) k_) ?_
      refine Go.st (pc' := 438) (S' := [(.int (1 : Int32))]) (fun t_ k_ => XS.goto X11.here hx rfl (pc0 := 434) (pc' := 438) rfl (hb hby at_434) (by decide) (by decide) k_) ?_
      refine Go.st (pc' := 440) (S' := []) (fun t_ k_ => XS.istore X11.here hx rfl (hb hby at_438) rfl (l' := #[.val (.int p1), .val (.int p2), .val (.int p3), .val (.int p4), .val (.int p5), .val (.int p6), .val (.double (FP.l2d q)), .second, .val (.int kk_), .val (.ref td), .val (.ref a1), .val (.int (1 : Int32)), .val (.ref ta), .val (.int rr), .val (.int cx), .val (.int pa), .val (.int cy), .val (.int pb), .val (.int cz), .val (.int pc_), .val (.int (1 : Int32)), .val (.ref ti), .val (.ref tv)]) rfl k_) ?_
      exact sl440 p1 p2 p3 p4 p5 p6 kk_ q a1 td tc tw _ _ _ ti tv _ _ cx cy cz pa pb pc_ (1 : Int32) ta rr ba (1 : Int32) bc bd va (p6.toInt64) vc vd (Stand.up X11 (by decide) (by decide)) hx hZ hw hby hml hown hnm hret hlk e11 N11 Z0 E_a1 F_discounts F_leaves F_count F_worth V_td Vc7 Vw7 ⟨ne5.1, ne5.2.1, ne5.2.2.1, ne5.2.2.2.1, ne5.2.2.2.2⟩ g_tc g_tw  V_ti V_tv ne9 g_ti g_tv hba (Or.inr rfl) hbc hbd hq hva (own_ib p6) hvc hvd hpm 
    · have z_ := (hf3).2.2.1 rfl
      subst z_
      have zv_ : vc = 0 := hbc.elim And.right (fun z => absurd z (by decide))
      subst zv_
      have hba_ := own_01 hba
      have hbb_ := own_01 hbb
      have hbd_ := own_01 hbd
      refine Go.st (pc' := 388) (S' := [(.ref a1)]) (fun t_ k_ => XS.aload X0.here hx rfl (hb hby at_386) rfl rfl k_) ?_
      refine Go.st (pc' := 390) (S' := [(.int (2 : Int32)), (.ref a1)]) (fun t_ k_ => XS.iload X0.here hx rfl (hb hby at_388) rfl k_) ?_
      refine Go.st (pc' := 392) (S' := [(.int p6), (.int (2 : Int32)), (.ref a1)]) (fun t_ k_ => XS.iload X0.here hx rfl (hb hby at_390) rfl k_) ?_
      refine Go.st (pc' := 393) (S' := [(.double (FP.l2d (p6.toInt64))), (.int (2 : Int32)), (.ref a1)]) (fun t_ k_ => XS.i2dS X0.here hx rfl (hb hby at_392) rfl (i2d_w _) k_) ?_
      obtain ⟨cq12, kq12, q12a, q12b, q12c⟩ := isOf hZ e0 E_a1
      obtain ⟨_, _, ⟨T12, L12, k12, n12⟩, -, X12, ⟨Lc12, hQ12, l12, y12, z12⟩, st12⟩ := X0.virtualBack hx (y := (⟨"com/example/placewright/placewright/GrowingRanks", "add", "(ID)V"⟩ : MethodName)) (z := (⟨"com/example/placewright/placewright/GrowingRanks", "add", "(ID)V"⟩ : MethodName)) hown (mvT hZ (wd hw 26 rfl)) (mvT hZ (wd hw 27 rfl)) (notFace_of_selects (args := #[]) (mvT hZ (wd hw 29 rfl))) (mvT hZ (wd hw 29 rfl)) (mvT hZ (wd hw 28 rfl)) (by decide) (backOf (W := 0) (rmadd2 l Z a0 hw [] a1 td tc tw _ _ _ q (p6.toInt64) va vb (0 : Int64) vd ba bb bd hh n0 Z0 E_a1 F_discounts F_leaves F_count F_worth V_td V_tc V_tw ⟨ne5.1, ne5.2.1, ne5.2.2.1, ne5.2.2.2.1, ne5.2.2.2.2⟩ g_tc g_tw hq (own_ib p6) hva hvb own_z0' hvd hba_ hbb_ hbd_) hZ (wd hw 30 rfl) (wd hw 3 rfl) (by decide) (by decide)) q12a q12c (g := (mkF m 393 #[.val (.int p1), .val (.int p2), .val (.int p3), .val (.int p4), .val (.int p5), .val (.int p6), .val (.double (FP.l2d q)), .second, .val (.int kk_), .val (.ref td), .val (.ref a1), .val (.int (1 : Int32)), .val (.ref ta), .val (.int rr), .val (.int cx), .val (.int pa), .val (.int cy), .val (.int pb), .val (.int cz), .val (.int pc_), .val (.int (2 : Int32)), .val (.ref ti), .val (.ref tv)] [(.double (FP.l2d (p6.toInt64))), (.int (2 : Int32)), (.ref a1)])) rfl (by rw [hml]; rfl) (Steps.refl _) (argsL := [(.int (2 : Int32)), (.double (FP.l2d (p6.toInt64)))]) (rest := []) (lenOf pd_0 rfl) rfl (by show 2 * 0 + _ ≤ _; exact Nat.le_of_eq rfl) (hb hby at_393) (fun _ _ => ⟨rfl, e0, (by decide : 7 + 0 ≤ _), (by decide : 40 + 0 ≤ _)⟩)
      dsimp only [Pt.U, Pt.locs, Pt.cells, Pt.slots] at X12 l12 y12 z12 st12 hQ12
      subst l12 y12 z12
      obtain ⟨rfl, N12q, K12, Vc12, Vw12⟩ := hQ12
      have N12 := Fr.app N0 N12q
      obtain ⟨h12, e12⟩ : ∃ z, T12.heap = z := ⟨_, rfl⟩
      rw [e12] at K12 Vc12 Vw12
      replace Z0 := Nat.le_trans Z0 K12.1
      replace E_a1 := E_a1.keep K12
      replace F_discounts := F_discounts.keep K12 (ninS ne5.1 (ninS ne5.2.1 nin0))
      replace F_leaves := F_leaves.keep K12 (ninS ne5.1 (ninS ne5.2.1 nin0))
      replace F_count := F_count.keep K12 (ninS ne5.1 (ninS ne5.2.1 nin0))
      replace F_worth := F_worth.keep K12 (ninS ne5.1 (ninS ne5.2.1 nin0))
      replace V_td := V_td.keep K12 (ninS ne5.2.2.2.1 (ninS ne5.2.2.2.2 nin0))
      replace V_ti := V_ti.keep K12 (ninS (Ne.symm ne9.2.2.1) (ninS (Ne.symm ne9.2.2.2.1) nin0))
      replace V_tv := V_tv.keep K12 (ninS (Ne.symm ne9.2.2.2.2.2.2.1) (ninS (Ne.symm ne9.2.2.2.2.2.2.2.1) nin0))
      refine Go.tr (pc' := 396) (S' := []) st12 ?_
      refine Go.st (pc' := 398) (S' := [(.ref ti)]) (fun t_ k_ => XS.aload X12.here hx rfl (hb hby at_396) rfl rfl k_) ?_
      refine Go.st (pc' := 400) (S' := [(.int (2 : Int32)), (.ref ti)]) (fun t_ k_ => XS.iload X12.here hx rfl (hb hby at_398) rfl k_) ?_
      refine Go.st (pc' := 401) (S' := [(.int (1 : Int32)), (.int (2 : Int32)), (.ref ti)]) (fun t_ k_ => XS.iconst X12.here hx rfl (hb hby at_400) k_) ?_
      obtain ⟨cl13, Ar13, q131, q132, q133, q134, q135⟩ := V_ti
      obtain ⟨T13, h13, X13, e13, W13, st13⟩ := stZ X12 hx hZ e12 Ar13 (j := (2 : Int32)) (inb_of q132 ⟨by decide, by decide⟩) (g := (mkF m 401 #[.val (.int p1), .val (.int p2), .val (.int p3), .val (.int p4), .val (.int p5), .val (.int p6), .val (.double (FP.l2d q)), .second, .val (.int kk_), .val (.ref td), .val (.ref a1), .val (.int (1 : Int32)), .val (.ref ta), .val (.int rr), .val (.int cx), .val (.int pa), .val (.int cy), .val (.int pb), .val (.int cz), .val (.int pc_), .val (.int (2 : Int32)), .val (.ref ti), .val (.ref tv)] [(.int (1 : Int32)), (.int (2 : Int32)), (.ref ti)])) rfl rfl (hb hby at_401)
      replace V_ti := Arv.set Ar13 q131 q132 q133 q134 q135 (fits_nar_bool _) W13 2 rfl (Nat.le_of_ble_eq_true rfl)
      have V_ti : Arv Z h13 ti ki .boolean (4 : Int32) [(.int ba), (.int bb), (.int (nar .boolean (1 : Int32))), (.int bd)] (.int (0 : Int32)) := V_ti
      replace Z0 := Nat.le_trans Z0 (Keep.of_wr W13).1
      replace E_a1 := E_a1.wr W13
      replace F_discounts := F_discounts.other W13 (Or.inl ne9.1)
      replace F_leaves := F_leaves.other W13 (Or.inl ne9.1)
      replace F_count := F_count.other W13 (Or.inl ne9.1)
      replace F_worth := F_worth.other W13 (Or.inl ne9.1)
      replace V_td := V_td.other W13 ne9.2.1
      replace V_tv := V_tv.other W13 (Ne.symm ne9.2.2.2.2.2.2.2.2)
      replace Vc12 := Vc12.other W13 ne9.2.2.1
      replace Vw12 := Vw12.other W13 ne9.2.2.2.1
      have N13 := Fr.snoc X13 N12 g_ti
      refine Go.st (pc' := 402) (S' := []) st13 ?_
      refine Go.st (pc' := 404) (S' := [(.ref tv)]) (fun t_ k_ => XS.aload X13.here hx rfl (hb hby at_402) rfl rfl k_) ?_
      refine Go.st (pc' := 406) (S' := [(.int (2 : Int32)), (.ref tv)]) (fun t_ k_ => XS.iload X13.here hx rfl (hb hby at_404) rfl k_) ?_
      refine Go.st (pc' := 408) (S' := [(.int p6), (.int (2 : Int32)), (.ref tv)]) (fun t_ k_ => XS.iload X13.here hx rfl (hb hby at_406) rfl k_) ?_
      refine Go.st (pc' := 409) (S' := [(.double (FP.l2d (p6.toInt64))), (.int (2 : Int32)), (.ref tv)]) (fun t_ k_ => XS.i2dS X13.here hx rfl (hb hby at_408) rfl (i2d_w _) k_) ?_
      obtain ⟨cl14, Ar14, q141, q142, q143, q144, q145⟩ := V_tv
      obtain ⟨T14, h14, X14, e14, W14, st14⟩ := stD X13 hx hZ e13 Ar14 (j := (2 : Int32)) (inb_of q142 ⟨by decide, by decide⟩) (g := (mkF m 409 #[.val (.int p1), .val (.int p2), .val (.int p3), .val (.int p4), .val (.int p5), .val (.int p6), .val (.double (FP.l2d q)), .second, .val (.int kk_), .val (.ref td), .val (.ref a1), .val (.int (1 : Int32)), .val (.ref ta), .val (.int rr), .val (.int cx), .val (.int pa), .val (.int cy), .val (.int pb), .val (.int cz), .val (.int pc_), .val (.int (2 : Int32)), .val (.ref ti), .val (.ref tv)] [(.double (FP.l2d (p6.toInt64))), (.int (2 : Int32)), (.ref tv)])) rfl rfl (hb hby at_409)
      replace V_tv := Arv.set Ar14 q141 q142 q143 q144 q145 rfl W14 2 rfl (Nat.le_of_ble_eq_true rfl)
      have V_tv : Arv Z h14 tv kv .double (4 : Int32) [(.double (FP.l2d va)), (.double (FP.l2d vb)), (.double (FP.l2d (p6.toInt64))), (.double (FP.l2d vd))] (.double (0 : UInt64)) := V_tv
      replace Z0 := Nat.le_trans Z0 (Keep.of_wr W14).1
      replace E_a1 := E_a1.wr W14
      replace F_discounts := F_discounts.other W14 (Or.inl ne9.2.2.2.2.1)
      replace F_leaves := F_leaves.other W14 (Or.inl ne9.2.2.2.2.1)
      replace F_count := F_count.other W14 (Or.inl ne9.2.2.2.2.1)
      replace F_worth := F_worth.other W14 (Or.inl ne9.2.2.2.2.1)
      replace V_td := V_td.other W14 ne9.2.2.2.2.2.1
      replace V_ti := V_ti.other W14 ne9.2.2.2.2.2.2.2.2
      replace Vc12 := Vc12.other W14 ne9.2.2.2.2.2.2.1
      replace Vw12 := Vw12.other W14 ne9.2.2.2.2.2.2.2.1
      have N14 := Fr.snoc X14 N13 g_tv
      refine Go.st (pc' := 410) (S' := []) st14 ?_
      refine Go.st (pc' := 412) (S' := [(.int (1 : Int32))]) (fun t_ k_ => XS.iload X14.here hx rfl (hb hby at_410) rfl k_) ?_
      refine Go.st (pc' := 415) (S' := []) (fun t_ k_ => XS.ifNo X14.here hx rfl (hb hby at_412) rfl ((if0 _ _).trans (feq (by decide : ¬ ((1 : Int32) = (0 : Int32)))).1) k_) ?_
      refine Go.st (pc' := 417) (S' := [(.ref a1)]) (fun t_ k_ => XS.aload X14.here hx rfl (hb hby at_415) rfl rfl k_) ?_
      obtain ⟨cq15, kq15, q15a, q15b, q15c⟩ := isOf hZ e14 E_a1
      obtain ⟨_, _, ⟨T15, L15, k15, n15⟩, -, X15, ⟨Lc15, hQ15, l15, y15, z15⟩, st15⟩ := X14.virtualBack hx (y := (⟨"com/example/placewright/placewright/GrowingRanks", "value", "()D"⟩ : MethodName)) (z := (⟨"com/example/placewright/placewright/GrowingRanks", "value", "()D"⟩ : MethodName)) hown (mvT hZ (wd hw 19 rfl)) (mvT hZ (wd hw 20 rfl)) (notFace_of_selects (args := #[]) (mvT hZ (wd hw 22 rfl))) (mvT hZ (wd hw 22 rfl)) (mvT hZ (wd hw 21 rfl)) (by decide) (backOf (W := 0) (rmval l Z a0 hw [] a1 tw _ (0 : UInt64) (FP.l2d ((va + (own_e q ba) * vb) + (own_e q (ba + bb)) * ((p6.toInt64) + (own_e q (1 : Int32)) * vd))) (FP.l2d (va + (own_e q ba) * vb)) (FP.l2d ((p6.toInt64) + (own_e q (1 : Int32)) * vd)) (FP.l2d va) (FP.l2d vb) (FP.l2d (p6.toInt64)) (FP.l2d vd) h14 n0 Z0 F_worth Vw12) hZ (wd hw 23 rfl) (wd hw 3 rfl) (by decide) (by decide)) q15a q15c (g := (mkF m 417 #[.val (.int p1), .val (.int p2), .val (.int p3), .val (.int p4), .val (.int p5), .val (.int p6), .val (.double (FP.l2d q)), .second, .val (.int kk_), .val (.ref td), .val (.ref a1), .val (.int (1 : Int32)), .val (.ref ta), .val (.int rr), .val (.int cx), .val (.int pa), .val (.int cy), .val (.int pb), .val (.int cz), .val (.int pc_), .val (.int (2 : Int32)), .val (.ref ti), .val (.ref tv)] [(.ref a1)])) rfl (by rw [hml]; rfl) (Steps.refl _) (argsL := []) (rest := []) (lenOf pd_1 rfl) rfl (by show 2 * 0 + _ ≤ _; exact Nat.le_of_eq rfl) (hb hby at_417) (fun _ _ => ⟨rfl, e14, (by decide : 7 + 0 ≤ _), (by decide : 40 + 0 ≤ _)⟩)
      dsimp only [Pt.U, Pt.locs, Pt.cells, Pt.slots] at X15 l15 y15 z15 st15 hQ15
      subst l15 y15 z15
      obtain ⟨rfl, N15q, e15⟩ := hQ15
      have N15 := Fr.app N14 N15q
      refine Go.tr (pc' := 420) (S' := [(.double (FP.l2d ((va + (own_e q ba) * vb) + (own_e q (ba + bb)) * ((p6.toInt64) + (own_e q (1 : Int32)) * vd))))]) st15 ?_
      refine Go.st (pc' := 422) (S' := [(.ref ti), (.double (FP.l2d ((va + (own_e q ba) * vb) + (own_e q (ba + bb)) * ((p6.toInt64) + (own_e q (1 : Int32)) * vd))))]) (fun t_ k_ => XS.aload X15.here hx rfl (hb hby at_420) rfl rfl k_) ?_
      refine Go.st (pc' := 424) (S' := [(.ref tv), (.ref ti), (.double (FP.l2d ((va + (own_e q ba) * vb) + (own_e q (ba + bb)) * ((p6.toInt64) + (own_e q (1 : Int32)) * vd))))]) (fun t_ k_ => XS.aload X15.here hx rfl (hb hby at_422) rfl rfl k_) ?_
      refine Go.st (pc' := 426) (S' := [(.ref td), (.ref tv), (.ref ti), (.double (FP.l2d ((va + (own_e q ba) * vb) + (own_e q (ba + bb)) * ((p6.toInt64) + (own_e q (1 : Int32)) * vd))))]) (fun t_ k_ => XS.aload X15.here hx rfl (hb hby at_424) rfl rfl k_) ?_
      obtain ⟨_, _, ⟨T16, L16, k16, n16⟩, -, X16, ⟨Lc16, hQ16, l16, y16, z16⟩, st16⟩ := Jvm.LawKit.callS X15 hx (y := (⟨"com/example/placewright/placewright/GrowingRanksAddPinLaw", "ref", "([Z[D[D)D"⟩ : MethodName)) hown (mvT hZ (wd hw 35 rfl)) (mvT hZ (wd hw 36 rfl)) (mvT hZ (wd hw 37 rfl)) (mvT hZ (wd hw 38 rfl)) (by decide) (backOf (W := 2) (rmref l Z a0 hw [] ti tv td _ _ _ q va vb (p6.toInt64) vd ba bb (1 : Int32) bd h14 n0 Z0 V_ti V_tv V_td hq hva hvb (own_ib p6) hvd) hZ (wd hw 38 rfl) (wd hw 37 rfl) (by decide) (by decide)) (g := (mkF m 426 #[.val (.int p1), .val (.int p2), .val (.int p3), .val (.int p4), .val (.int p5), .val (.int p6), .val (.double (FP.l2d q)), .second, .val (.int kk_), .val (.ref td), .val (.ref a1), .val (.int (1 : Int32)), .val (.ref ta), .val (.int rr), .val (.int cx), .val (.int pa), .val (.int cy), .val (.int pb), .val (.int cz), .val (.int pc_), .val (.int (2 : Int32)), .val (.ref ti), .val (.ref tv)] [(.ref td), (.ref tv), (.ref ti), (.double (FP.l2d ((va + (own_e q ba) * vb) + (own_e q (ba + bb)) * ((p6.toInt64) + (own_e q (1 : Int32)) * vd))))])) rfl (by rw [hml]; rfl) (argsL := [(.ref ti), (.ref tv), (.ref td)]) (rest := [(.double (FP.l2d ((va + (own_e q ba) * vb) + (own_e q (ba + bb)) * ((p6.toInt64) + (own_e q (1 : Int32)) * vd))))]) (lenOf pd_2 rfl) rfl (by show 2 * 0 + _ ≤ _; exact Nat.le_of_eq rfl) (hb hby at_426) (fun _ _ => ⟨rfl, e15, (by decide : 7 + 0 ≤ _), (by decide : 40 + 0 ≤ _)⟩)
      dsimp only [Pt.U, Pt.locs, Pt.cells, Pt.slots] at X16 l16 y16 z16 st16 hQ16
      subst l16 y16 z16
      obtain ⟨rfl, N16q, e16⟩ := hQ16
      have N16 := Fr.app N15 N16q
      refine Go.st (pc' := 429) (S' := [(.double (FP.l2d (own_fin0 q ba bb (1 : Int32) bd va vb (p6.toInt64) vd 0 0))), (.double (FP.l2d ((va + (own_e q ba) * vb) + (own_e q (ba + bb)) * ((p6.toInt64) + (own_e q (1 : Int32)) * vd))))]) st16 ?_
      refine Go.st (pc' := 430) (S' := [(.int (cmpValue (FP.dcmp (FP.l2d ((va + (own_e q ba) * vb) + (own_e q (ba + bb)) * ((p6.toInt64) + (own_e q (1 : Int32)) * vd))) (FP.l2d (own_fin0 q ba bb (1 : Int32) bd va vb (p6.toInt64) vd 0 0))) .l))]) (fun t_ k_ => XS.dcmpS X16.here hx rfl (hb hby at_429) rfl rfl k_) ?_
      refine Go.st (pc' := 433) (S' := []) (fun t_ k_ => XS.ifNo X16.here hx rfl (hb hby at_430) rfl ((if0 _ _).trans (teq (own_dc (own_same0 hba hbb (Or.inr rfl) hbd) : ((cmpValue (FP.dcmp (FP.l2d ((va + (own_e q ba) * vb) + (own_e q (ba + bb)) * ((p6.toInt64) + (own_e q (1 : Int32)) * vd))) (FP.l2d (own_fin0 q ba bb (1 : Int32) bd va vb (p6.toInt64) vd 0 0))) .l) = (0 : Int32)))).2) k_) ?_
      refine Go.st (pc' := 434) (S' := [(.int (1 : Int32))]) (fun t_ k_ => XS.iconst X16.here hx rfl (hb hby at_433) k_) ?_
      refine Go.st (pc' := 438) (S' := [(.int (1 : Int32))]) (fun t_ k_ => XS.goto X16.here hx rfl (pc0 := 434) (pc' := 438) rfl (hb hby at_434) (by decide) (by decide) k_) ?_
      refine Go.st (pc' := 440) (S' := []) (fun t_ k_ => XS.istore X16.here hx rfl (hb hby at_438) rfl (l' := #[.val (.int p1), .val (.int p2), .val (.int p3), .val (.int p4), .val (.int p5), .val (.int p6), .val (.double (FP.l2d q)), .second, .val (.int kk_), .val (.ref td), .val (.ref a1), .val (.int (1 : Int32)), .val (.ref ta), .val (.int rr), .val (.int cx), .val (.int pa), .val (.int cy), .val (.int pb), .val (.int cz), .val (.int pc_), .val (.int (2 : Int32)), .val (.ref ti), .val (.ref tv)]) rfl k_) ?_
      exact sl440 p1 p2 p3 p4 p5 p6 kk_ q a1 td tc tw _ _ _ ti tv _ _ cx cy cz pa pb pc_ (2 : Int32) ta rr ba bb (1 : Int32) bd va vb (p6.toInt64) vd (Stand.up X16 (by decide) (by decide)) hx hZ hw hby hml hown hnm hret hlk e16 N16 Z0 E_a1 F_discounts F_leaves F_count F_worth V_td Vc12 Vw12 ⟨ne5.1, ne5.2.1, ne5.2.2.1, ne5.2.2.2.1, ne5.2.2.2.2⟩ g_tc g_tw  V_ti V_tv ne9 g_ti g_tv hba hbb (Or.inr rfl) hbd hq hva hvb (own_ib p6) hvd hpm 
    · have z_ := (hf3).2.2.2 rfl
      subst z_
      have zv_ : vd = 0 := hbd.elim And.right (fun z => absurd z (by decide))
      subst zv_
      have hba_ := own_01 hba
      have hbb_ := own_01 hbb
      have hbc_ := own_01 hbc
      refine Go.st (pc' := 388) (S' := [(.ref a1)]) (fun t_ k_ => XS.aload X0.here hx rfl (hb hby at_386) rfl rfl k_) ?_
      refine Go.st (pc' := 390) (S' := [(.int (3 : Int32)), (.ref a1)]) (fun t_ k_ => XS.iload X0.here hx rfl (hb hby at_388) rfl k_) ?_
      refine Go.st (pc' := 392) (S' := [(.int p6), (.int (3 : Int32)), (.ref a1)]) (fun t_ k_ => XS.iload X0.here hx rfl (hb hby at_390) rfl k_) ?_
      refine Go.st (pc' := 393) (S' := [(.double (FP.l2d (p6.toInt64))), (.int (3 : Int32)), (.ref a1)]) (fun t_ k_ => XS.i2dS X0.here hx rfl (hb hby at_392) rfl (i2d_w _) k_) ?_
      obtain ⟨cq17, kq17, q17a, q17b, q17c⟩ := isOf hZ e0 E_a1
      obtain ⟨_, _, ⟨T17, L17, k17, n17⟩, -, X17, ⟨Lc17, hQ17, l17, y17, z17⟩, st17⟩ := X0.virtualBack hx (y := (⟨"com/example/placewright/placewright/GrowingRanks", "add", "(ID)V"⟩ : MethodName)) (z := (⟨"com/example/placewright/placewright/GrowingRanks", "add", "(ID)V"⟩ : MethodName)) hown (mvT hZ (wd hw 26 rfl)) (mvT hZ (wd hw 27 rfl)) (notFace_of_selects (args := #[]) (mvT hZ (wd hw 29 rfl))) (mvT hZ (wd hw 29 rfl)) (mvT hZ (wd hw 28 rfl)) (by decide) (backOf (W := 0) (rmadd3 l Z a0 hw [] a1 td tc tw _ _ _ q (p6.toInt64) va vb vc (0 : Int64) ba bb bc hh n0 Z0 E_a1 F_discounts F_leaves F_count F_worth V_td V_tc V_tw ⟨ne5.1, ne5.2.1, ne5.2.2.1, ne5.2.2.2.1, ne5.2.2.2.2⟩ g_tc g_tw hq (own_ib p6) hva hvb hvc own_z0' hba_ hbb_ hbc_) hZ (wd hw 30 rfl) (wd hw 3 rfl) (by decide) (by decide)) q17a q17c (g := (mkF m 393 #[.val (.int p1), .val (.int p2), .val (.int p3), .val (.int p4), .val (.int p5), .val (.int p6), .val (.double (FP.l2d q)), .second, .val (.int kk_), .val (.ref td), .val (.ref a1), .val (.int (1 : Int32)), .val (.ref ta), .val (.int rr), .val (.int cx), .val (.int pa), .val (.int cy), .val (.int pb), .val (.int cz), .val (.int pc_), .val (.int (3 : Int32)), .val (.ref ti), .val (.ref tv)] [(.double (FP.l2d (p6.toInt64))), (.int (3 : Int32)), (.ref a1)])) rfl (by rw [hml]; rfl) (Steps.refl _) (argsL := [(.int (3 : Int32)), (.double (FP.l2d (p6.toInt64)))]) (rest := []) (lenOf pd_0 rfl) rfl (by show 2 * 0 + _ ≤ _; exact Nat.le_of_eq rfl) (hb hby at_393) (fun _ _ => ⟨rfl, e0, (by decide : 7 + 0 ≤ _), (by decide : 40 + 0 ≤ _)⟩)
      dsimp only [Pt.U, Pt.locs, Pt.cells, Pt.slots] at X17 l17 y17 z17 st17 hQ17
      subst l17 y17 z17
      obtain ⟨rfl, N17q, K17, Vc17, Vw17⟩ := hQ17
      have N17 := Fr.app N0 N17q
      obtain ⟨h17, e17⟩ : ∃ z, T17.heap = z := ⟨_, rfl⟩
      rw [e17] at K17 Vc17 Vw17
      replace Z0 := Nat.le_trans Z0 K17.1
      replace E_a1 := E_a1.keep K17
      replace F_discounts := F_discounts.keep K17 (ninS ne5.1 (ninS ne5.2.1 nin0))
      replace F_leaves := F_leaves.keep K17 (ninS ne5.1 (ninS ne5.2.1 nin0))
      replace F_count := F_count.keep K17 (ninS ne5.1 (ninS ne5.2.1 nin0))
      replace F_worth := F_worth.keep K17 (ninS ne5.1 (ninS ne5.2.1 nin0))
      replace V_td := V_td.keep K17 (ninS ne5.2.2.2.1 (ninS ne5.2.2.2.2 nin0))
      replace V_ti := V_ti.keep K17 (ninS (Ne.symm ne9.2.2.1) (ninS (Ne.symm ne9.2.2.2.1) nin0))
      replace V_tv := V_tv.keep K17 (ninS (Ne.symm ne9.2.2.2.2.2.2.1) (ninS (Ne.symm ne9.2.2.2.2.2.2.2.1) nin0))
      refine Go.tr (pc' := 396) (S' := []) st17 ?_
      refine Go.st (pc' := 398) (S' := [(.ref ti)]) (fun t_ k_ => XS.aload X17.here hx rfl (hb hby at_396) rfl rfl k_) ?_
      refine Go.st (pc' := 400) (S' := [(.int (3 : Int32)), (.ref ti)]) (fun t_ k_ => XS.iload X17.here hx rfl (hb hby at_398) rfl k_) ?_
      refine Go.st (pc' := 401) (S' := [(.int (1 : Int32)), (.int (3 : Int32)), (.ref ti)]) (fun t_ k_ => XS.iconst X17.here hx rfl (hb hby at_400) k_) ?_
      obtain ⟨cl18, Ar18, q181, q182, q183, q184, q185⟩ := V_ti
      obtain ⟨T18, h18, X18, e18, W18, st18⟩ := stZ X17 hx hZ e17 Ar18 (j := (3 : Int32)) (inb_of q182 ⟨by decide, by decide⟩) (g := (mkF m 401 #[.val (.int p1), .val (.int p2), .val (.int p3), .val (.int p4), .val (.int p5), .val (.int p6), .val (.double (FP.l2d q)), .second, .val (.int kk_), .val (.ref td), .val (.ref a1), .val (.int (1 : Int32)), .val (.ref ta), .val (.int rr), .val (.int cx), .val (.int pa), .val (.int cy), .val (.int pb), .val (.int cz), .val (.int pc_), .val (.int (3 : Int32)), .val (.ref ti), .val (.ref tv)] [(.int (1 : Int32)), (.int (3 : Int32)), (.ref ti)])) rfl rfl (hb hby at_401)
      replace V_ti := Arv.set Ar18 q181 q182 q183 q184 q185 (fits_nar_bool _) W18 3 rfl (Nat.le_of_ble_eq_true rfl)
      have V_ti : Arv Z h18 ti ki .boolean (4 : Int32) [(.int ba), (.int bb), (.int bc), (.int (nar .boolean (1 : Int32)))] (.int (0 : Int32)) := V_ti
      replace Z0 := Nat.le_trans Z0 (Keep.of_wr W18).1
      replace E_a1 := E_a1.wr W18
      replace F_discounts := F_discounts.other W18 (Or.inl ne9.1)
      replace F_leaves := F_leaves.other W18 (Or.inl ne9.1)
      replace F_count := F_count.other W18 (Or.inl ne9.1)
      replace F_worth := F_worth.other W18 (Or.inl ne9.1)
      replace V_td := V_td.other W18 ne9.2.1
      replace V_tv := V_tv.other W18 (Ne.symm ne9.2.2.2.2.2.2.2.2)
      replace Vc17 := Vc17.other W18 ne9.2.2.1
      replace Vw17 := Vw17.other W18 ne9.2.2.2.1
      have N18 := Fr.snoc X18 N17 g_ti
      refine Go.st (pc' := 402) (S' := []) st18 ?_
      refine Go.st (pc' := 404) (S' := [(.ref tv)]) (fun t_ k_ => XS.aload X18.here hx rfl (hb hby at_402) rfl rfl k_) ?_
      refine Go.st (pc' := 406) (S' := [(.int (3 : Int32)), (.ref tv)]) (fun t_ k_ => XS.iload X18.here hx rfl (hb hby at_404) rfl k_) ?_
      refine Go.st (pc' := 408) (S' := [(.int p6), (.int (3 : Int32)), (.ref tv)]) (fun t_ k_ => XS.iload X18.here hx rfl (hb hby at_406) rfl k_) ?_
      refine Go.st (pc' := 409) (S' := [(.double (FP.l2d (p6.toInt64))), (.int (3 : Int32)), (.ref tv)]) (fun t_ k_ => XS.i2dS X18.here hx rfl (hb hby at_408) rfl (i2d_w _) k_) ?_
      obtain ⟨cl19, Ar19, q191, q192, q193, q194, q195⟩ := V_tv
      obtain ⟨T19, h19, X19, e19, W19, st19⟩ := stD X18 hx hZ e18 Ar19 (j := (3 : Int32)) (inb_of q192 ⟨by decide, by decide⟩) (g := (mkF m 409 #[.val (.int p1), .val (.int p2), .val (.int p3), .val (.int p4), .val (.int p5), .val (.int p6), .val (.double (FP.l2d q)), .second, .val (.int kk_), .val (.ref td), .val (.ref a1), .val (.int (1 : Int32)), .val (.ref ta), .val (.int rr), .val (.int cx), .val (.int pa), .val (.int cy), .val (.int pb), .val (.int cz), .val (.int pc_), .val (.int (3 : Int32)), .val (.ref ti), .val (.ref tv)] [(.double (FP.l2d (p6.toInt64))), (.int (3 : Int32)), (.ref tv)])) rfl rfl (hb hby at_409)
      replace V_tv := Arv.set Ar19 q191 q192 q193 q194 q195 rfl W19 3 rfl (Nat.le_of_ble_eq_true rfl)
      have V_tv : Arv Z h19 tv kv .double (4 : Int32) [(.double (FP.l2d va)), (.double (FP.l2d vb)), (.double (FP.l2d vc)), (.double (FP.l2d (p6.toInt64)))] (.double (0 : UInt64)) := V_tv
      replace Z0 := Nat.le_trans Z0 (Keep.of_wr W19).1
      replace E_a1 := E_a1.wr W19
      replace F_discounts := F_discounts.other W19 (Or.inl ne9.2.2.2.2.1)
      replace F_leaves := F_leaves.other W19 (Or.inl ne9.2.2.2.2.1)
      replace F_count := F_count.other W19 (Or.inl ne9.2.2.2.2.1)
      replace F_worth := F_worth.other W19 (Or.inl ne9.2.2.2.2.1)
      replace V_td := V_td.other W19 ne9.2.2.2.2.2.1
      replace V_ti := V_ti.other W19 ne9.2.2.2.2.2.2.2.2
      replace Vc17 := Vc17.other W19 ne9.2.2.2.2.2.2.1
      replace Vw17 := Vw17.other W19 ne9.2.2.2.2.2.2.2.1
      have N19 := Fr.snoc X19 N18 g_tv
      refine Go.st (pc' := 410) (S' := []) st19 ?_
      refine Go.st (pc' := 412) (S' := [(.int (1 : Int32))]) (fun t_ k_ => XS.iload X19.here hx rfl (hb hby at_410) rfl k_) ?_
      refine Go.st (pc' := 415) (S' := []) (fun t_ k_ => XS.ifNo X19.here hx rfl (hb hby at_412) rfl ((if0 _ _).trans (feq (by decide : ¬ ((1 : Int32) = (0 : Int32)))).1) k_) ?_
      refine Go.st (pc' := 417) (S' := [(.ref a1)]) (fun t_ k_ => XS.aload X19.here hx rfl (hb hby at_415) rfl rfl k_) ?_
      obtain ⟨cq20, kq20, q20a, q20b, q20c⟩ := isOf hZ e19 E_a1
      obtain ⟨_, _, ⟨T20, L20, k20, n20⟩, -, X20, ⟨Lc20, hQ20, l20, y20, z20⟩, st20⟩ := X19.virtualBack hx (y := (⟨"com/example/placewright/placewright/GrowingRanks", "value", "()D"⟩ : MethodName)) (z := (⟨"com/example/placewright/placewright/GrowingRanks", "value", "()D"⟩ : MethodName)) hown (mvT hZ (wd hw 19 rfl)) (mvT hZ (wd hw 20 rfl)) (notFace_of_selects (args := #[]) (mvT hZ (wd hw 22 rfl))) (mvT hZ (wd hw 22 rfl)) (mvT hZ (wd hw 21 rfl)) (by decide) (backOf (W := 0) (rmval l Z a0 hw [] a1 tw _ (0 : UInt64) (FP.l2d ((va + (own_e q ba) * vb) + (own_e q (ba + bb)) * (vc + (own_e q bc) * (p6.toInt64)))) (FP.l2d (va + (own_e q ba) * vb)) (FP.l2d (vc + (own_e q bc) * (p6.toInt64))) (FP.l2d va) (FP.l2d vb) (FP.l2d vc) (FP.l2d (p6.toInt64)) h19 n0 Z0 F_worth Vw17) hZ (wd hw 23 rfl) (wd hw 3 rfl) (by decide) (by decide)) q20a q20c (g := (mkF m 417 #[.val (.int p1), .val (.int p2), .val (.int p3), .val (.int p4), .val (.int p5), .val (.int p6), .val (.double (FP.l2d q)), .second, .val (.int kk_), .val (.ref td), .val (.ref a1), .val (.int (1 : Int32)), .val (.ref ta), .val (.int rr), .val (.int cx), .val (.int pa), .val (.int cy), .val (.int pb), .val (.int cz), .val (.int pc_), .val (.int (3 : Int32)), .val (.ref ti), .val (.ref tv)] [(.ref a1)])) rfl (by rw [hml]; rfl) (Steps.refl _) (argsL := []) (rest := []) (lenOf pd_1 rfl) rfl (by show 2 * 0 + _ ≤ _; exact Nat.le_of_eq rfl) (hb hby at_417) (fun _ _ => ⟨rfl, e19, (by decide : 7 + 0 ≤ _), (by decide : 40 + 0 ≤ _)⟩)
      dsimp only [Pt.U, Pt.locs, Pt.cells, Pt.slots] at X20 l20 y20 z20 st20 hQ20
      subst l20 y20 z20
      obtain ⟨rfl, N20q, e20⟩ := hQ20
      have N20 := Fr.app N19 N20q
      refine Go.tr (pc' := 420) (S' := [(.double (FP.l2d ((va + (own_e q ba) * vb) + (own_e q (ba + bb)) * (vc + (own_e q bc) * (p6.toInt64)))))]) st20 ?_
      refine Go.st (pc' := 422) (S' := [(.ref ti), (.double (FP.l2d ((va + (own_e q ba) * vb) + (own_e q (ba + bb)) * (vc + (own_e q bc) * (p6.toInt64)))))]) (fun t_ k_ => XS.aload X20.here hx rfl (hb hby at_420) rfl rfl k_) ?_
      refine Go.st (pc' := 424) (S' := [(.ref tv), (.ref ti), (.double (FP.l2d ((va + (own_e q ba) * vb) + (own_e q (ba + bb)) * (vc + (own_e q bc) * (p6.toInt64)))))]) (fun t_ k_ => XS.aload X20.here hx rfl (hb hby at_422) rfl rfl k_) ?_
      refine Go.st (pc' := 426) (S' := [(.ref td), (.ref tv), (.ref ti), (.double (FP.l2d ((va + (own_e q ba) * vb) + (own_e q (ba + bb)) * (vc + (own_e q bc) * (p6.toInt64)))))]) (fun t_ k_ => XS.aload X20.here hx rfl (hb hby at_424) rfl rfl k_) ?_
      obtain ⟨_, _, ⟨T21, L21, k21, n21⟩, -, X21, ⟨Lc21, hQ21, l21, y21, z21⟩, st21⟩ := Jvm.LawKit.callS X20 hx (y := (⟨"com/example/placewright/placewright/GrowingRanksAddPinLaw", "ref", "([Z[D[D)D"⟩ : MethodName)) hown (mvT hZ (wd hw 35 rfl)) (mvT hZ (wd hw 36 rfl)) (mvT hZ (wd hw 37 rfl)) (mvT hZ (wd hw 38 rfl)) (by decide) (backOf (W := 2) (rmref l Z a0 hw [] ti tv td _ _ _ q va vb vc (p6.toInt64) ba bb bc (1 : Int32) h19 n0 Z0 V_ti V_tv V_td hq hva hvb hvc (own_ib p6)) hZ (wd hw 38 rfl) (wd hw 37 rfl) (by decide) (by decide)) (g := (mkF m 426 #[.val (.int p1), .val (.int p2), .val (.int p3), .val (.int p4), .val (.int p5), .val (.int p6), .val (.double (FP.l2d q)), .second, .val (.int kk_), .val (.ref td), .val (.ref a1), .val (.int (1 : Int32)), .val (.ref ta), .val (.int rr), .val (.int cx), .val (.int pa), .val (.int cy), .val (.int pb), .val (.int cz), .val (.int pc_), .val (.int (3 : Int32)), .val (.ref ti), .val (.ref tv)] [(.ref td), (.ref tv), (.ref ti), (.double (FP.l2d ((va + (own_e q ba) * vb) + (own_e q (ba + bb)) * (vc + (own_e q bc) * (p6.toInt64)))))])) rfl (by rw [hml]; rfl) (argsL := [(.ref ti), (.ref tv), (.ref td)]) (rest := [(.double (FP.l2d ((va + (own_e q ba) * vb) + (own_e q (ba + bb)) * (vc + (own_e q bc) * (p6.toInt64)))))]) (lenOf pd_2 rfl) rfl (by show 2 * 0 + _ ≤ _; exact Nat.le_of_eq rfl) (hb hby at_426) (fun _ _ => ⟨rfl, e20, (by decide : 7 + 0 ≤ _), (by decide : 40 + 0 ≤ _)⟩)
      dsimp only [Pt.U, Pt.locs, Pt.cells, Pt.slots] at X21 l21 y21 z21 st21 hQ21
      subst l21 y21 z21
      obtain ⟨rfl, N21q, e21⟩ := hQ21
      have N21 := Fr.app N20 N21q
      refine Go.st (pc' := 429) (S' := [(.double (FP.l2d (own_fin0 q ba bb bc (1 : Int32) va vb vc (p6.toInt64) 0 0))), (.double (FP.l2d ((va + (own_e q ba) * vb) + (own_e q (ba + bb)) * (vc + (own_e q bc) * (p6.toInt64)))))]) st21 ?_
      refine Go.st (pc' := 430) (S' := [(.int (cmpValue (FP.dcmp (FP.l2d ((va + (own_e q ba) * vb) + (own_e q (ba + bb)) * (vc + (own_e q bc) * (p6.toInt64)))) (FP.l2d (own_fin0 q ba bb bc (1 : Int32) va vb vc (p6.toInt64) 0 0))) .l))]) (fun t_ k_ => XS.dcmpS X21.here hx rfl (hb hby at_429) rfl rfl k_) ?_
      refine Go.st (pc' := 433) (S' := []) (fun t_ k_ => XS.ifNo X21.here hx rfl (hb hby at_430) rfl ((if0 _ _).trans (teq (own_dc (own_same0 hba hbb hbc (Or.inr rfl)) : ((cmpValue (FP.dcmp (FP.l2d ((va + (own_e q ba) * vb) + (own_e q (ba + bb)) * (vc + (own_e q bc) * (p6.toInt64)))) (FP.l2d (own_fin0 q ba bb bc (1 : Int32) va vb vc (p6.toInt64) 0 0))) .l) = (0 : Int32)))).2) k_) ?_
      refine Go.st (pc' := 434) (S' := [(.int (1 : Int32))]) (fun t_ k_ => XS.iconst X21.here hx rfl (hb hby at_433) k_) ?_
      refine Go.st (pc' := 438) (S' := [(.int (1 : Int32))]) (fun t_ k_ => XS.goto X21.here hx rfl (pc0 := 434) (pc' := 438) rfl (hb hby at_434) (by decide) (by decide) k_) ?_
      refine Go.st (pc' := 440) (S' := []) (fun t_ k_ => XS.istore X21.here hx rfl (hb hby at_438) rfl (l' := #[.val (.int p1), .val (.int p2), .val (.int p3), .val (.int p4), .val (.int p5), .val (.int p6), .val (.double (FP.l2d q)), .second, .val (.int kk_), .val (.ref td), .val (.ref a1), .val (.int (1 : Int32)), .val (.ref ta), .val (.int rr), .val (.int cx), .val (.int pa), .val (.int cy), .val (.int pb), .val (.int cz), .val (.int pc_), .val (.int (3 : Int32)), .val (.ref ti), .val (.ref tv)]) rfl k_) ?_
      exact sl440 p1 p2 p3 p4 p5 p6 kk_ q a1 td tc tw _ _ _ ti tv _ _ cx cy cz pa pb pc_ (3 : Int32) ta rr ba bb bc (1 : Int32) va vb vc (p6.toInt64) (Stand.up X21 (by decide) (by decide)) hx hZ hw hby hml hown hnm hret hlk e21 N21 Z0 E_a1 F_discounts F_leaves F_count F_worth V_td Vc17 Vw17 ⟨ne5.1, ne5.2.1, ne5.2.2.1, ne5.2.2.2.1, ne5.2.2.2.2⟩ g_tc g_tw  V_ti V_tv ne9 g_ti g_tv hba hbb hbc (Or.inr rfl) hq hva hvb hvc (own_ib p6) hpm 

theorem sl320 {p : Program} {l : Launch} {e : Env} {s : State} {m : MethodId} {args : Array Value} {below : List Frame} {meth : Method} {c : Code} {T0 : State} {locs : List Loc} {Z : State} {a0 : Array Value} {n0 : Nat} {h0 hh : Heap} (p1 p2 p3 p4 p5 p6 kk_ : Int32) (q : Int64) (a1 td tc tw : Addr) (kd kc kw : ClassId) (ti tv : Addr) (ki kv : ClassId) (cx cy cz pa pb pc_ pd_ : Int32) (ta : Addr) (rr : Int32) (ba bb bc bd : Int32) (va vb vc vd : Int64)
    (X0 : Stand p l e room_1 s m args below meth c T0 locs 7 40) (hx : p.tables.exec = Jvm.exec) (hZ : Z.Warmed39 s.vm) (hw : ∀ d ∈ tables_1, d.before a0 Z = true) (hby : c.code = code) (hml : c.maxLocals = 23) (hown : s.vm.findClass "com/example/placewright/placewright/GrowingRanksAddPinLaw" = some m.cls) (hnm : meth.name = "law") (hret : meth.sig.returnType = (some .boolean)) (hlk : meth.locks = false) (e0 : T0.heap = hh) (N0 : Fr n0 locs) (Z0 : n0 ≤ hh.size) (E_a1 : Exa Z hh a1 "com/example/placewright/placewright/GrowingRanks") (F_discounts : Fld Z hh a1 "com/example/placewright/placewright/GrowingRanks" "discounts" "[D" (.ref td)) (F_leaves : Fld Z hh a1 "com/example/placewright/placewright/GrowingRanks" "leaves" "I" (.int (4 : Int32))) (F_count : Fld Z hh a1 "com/example/placewright/placewright/GrowingRanks" "count" "[I" (.ref tc)) (F_worth : Fld Z hh a1 "com/example/placewright/placewright/GrowingRanks" "worth" "[D" (.ref tw)) (V_td : Arv Z hh td kd .double (5 : Int32) [(.double (FP.l2d 1)), (.double (FP.l2d q)), (.double (FP.l2d (q * q))), (.double (FP.l2d ((q * q) * q))), (.double (FP.l2d (((q * q) * q) * q)))] (.double (0 : UInt64))) (V_tc : Arv Z hh tc kc .int (8 : Int32) [(.int (0 : Int32)), (.int ((ba + bb) + (bc + bd))), (.int (ba + bb)), (.int (bc + bd)), (.int ba), (.int bb), (.int bc), (.int bd)] (.int (0 : Int32))) (V_tw : Arv Z hh tw kw .double (8 : Int32) [(.double (0 : UInt64)), (.double (FP.l2d ((va + (own_e q ba) * vb) + (own_e q (ba + bb)) * (vc + (own_e q bc) * vd)))), (.double (FP.l2d (va + (own_e q ba) * vb))), (.double (FP.l2d (vc + (own_e q bc) * vd))), (.double (FP.l2d va)), (.double (FP.l2d vb)), (.double (FP.l2d vc)), (.double (FP.l2d vd))] (.double (0 : UInt64))) (ne5 : a1 ≠ tc ∧ a1 ≠ tw ∧ tc ≠ tw ∧ td ≠ tc ∧ td ≠ tw) (g_tc : n0 ≤ tc) (g_tw : n0 ≤ tw) (V_ti : Arv Z hh ti ki .boolean (4 : Int32) [(.int ba), (.int bb), (.int bc), (.int bd)] (.int (0 : Int32))) (V_tv : Arv Z hh tv kv .double (4 : Int32) [(.double (FP.l2d va)), (.double (FP.l2d vb)), (.double (FP.l2d vc)), (.double (FP.l2d vd))] (.double (0 : UInt64))) (ne9 : own_ne9 a1 td tc tw ti tv) (g_ti : n0 ≤ ti) (g_tv : n0 ≤ tv) (hba : (ba = 0 ∧ va = 0) ∨ ba = 1) (hbb : (bb = 0 ∧ vb = 0) ∨ bb = 1) (hbc : (bc = 0 ∧ vc = 0) ∨ bc = 1) (hbd : (bd = 0 ∧ vd = 0) ∨ bd = 1) (hq : own_b 4 q) (hva : own_b 2147483648 va) (hvb : own_b 2147483648 vb) (hvc : own_b 2147483648 vc) (hvd : own_b 2147483648 vd) (hpm : own_pm pa pb pc_ pd_) (hf2 : own_fr pc_ ba bb bc bd) (hf3 : own_fr pd_ ba bb bc bd) :
    Go p e below s room_1.cells room_1.slots (Q0 Z h0 n0) m T0 320 #[.val (.int p1), .val (.int p2), .val (.int p3), .val (.int p4), .val (.int p5), .val (.int p6), .val (.double (FP.l2d q)), .second, .val (.int kk_), .val (.ref td), .val (.ref a1), .val (.int (1 : Int32)), .val (.ref ta), .val (.int rr), .val (.int cx), .val (.int pa), .val (.int cy), .val (.int pb), .val (.int cz), .val (.int pc_), .val (.int pd_), .val (.ref ti), .val (.ref tv)] [] := by
  refine Go.st (pc' := 322) (S' := [(.int kk_)]) (fun t_ k_ => XS.iload X0.here hx rfl (hb hby at_320) rfl k_) ?_
  refine Go.st (pc' := 323) (S' := [(.int (3 : Int32)), (.int kk_)]) (fun t_ k_ => XS.iconst X0.here hx rfl (hb hby at_322) k_) ?_
  by_cases hc323_1 : kk_ < (3 : Int32)
  · refine Go.st (pc' := 380) (S' := []) (fun t_ k_ => XS.icmpYes X0.here hx rfl (pc0 := 323) (pc' := 380) rfl (hb hby at_323) rfl (tlt hc323_1).1 (by decide) (by decide) k_) ?_
    exact sl380 p1 p2 p3 p4 p5 p6 kk_ q a1 td tc tw _ _ _ ti tv _ _ cx cy cz pa pb pc_ pd_ ta rr ba bb bc bd va vb vc vd (Stand.up X0 (by decide) (by decide)) hx hZ hw hby hml hown hnm hret hlk e0 N0 Z0 E_a1 F_discounts F_leaves F_count F_worth V_td V_tc V_tw ⟨ne5.1, ne5.2.1, ne5.2.2.1, ne5.2.2.2.1, ne5.2.2.2.2⟩ g_tc g_tw  V_ti V_tv ne9 g_ti g_tv hba hbb hbc hbd hq hva hvb hvc hvd hpm hf3
  · refine Go.st (pc' := 326) (S' := []) (fun t_ k_ => XS.icmpNo X0.here hx rfl (hb hby at_323) rfl (flt hc323_1).1 k_) ?_
    rcases hpm.2.2.1 with rfl | rfl | rfl | rfl
    · have z_ := (hf2).1 rfl
      subst z_
      have zv_ : va = 0 := hba.elim And.right (fun z => absurd z (by decide))
      subst zv_
      have hbb_ := own_01 hbb
      have hbc_ := own_01 hbc
      have hbd_ := own_01 hbd
      refine Go.st (pc' := 328) (S' := [(.ref a1)]) (fun t_ k_ => XS.aload X0.here hx rfl (hb hby at_326) rfl rfl k_) ?_
      refine Go.st (pc' := 330) (S' := [(.int (0 : Int32)), (.ref a1)]) (fun t_ k_ => XS.iload X0.here hx rfl (hb hby at_328) rfl k_) ?_
      refine Go.st (pc' := 332) (S' := [(.int p5), (.int (0 : Int32)), (.ref a1)]) (fun t_ k_ => XS.iload X0.here hx rfl (hb hby at_330) rfl k_) ?_
      refine Go.st (pc' := 333) (S' := [(.double (FP.l2d (p5.toInt64))), (.int (0 : Int32)), (.ref a1)]) (fun t_ k_ => XS.i2dS X0.here hx rfl (hb hby at_332) rfl (i2d_w _) k_) ?_
      obtain ⟨cq2, kq2, q2a, q2b, q2c⟩ := isOf hZ e0 E_a1
      obtain ⟨_, _, ⟨T2, L2, k2, n2⟩, -, X2, ⟨Lc2, hQ2, l2, y2, z2⟩, st2⟩ := X0.virtualBack hx (y := (⟨"com/example/placewright/placewright/GrowingRanks", "add", "(ID)V"⟩ : MethodName)) (z := (⟨"com/example/placewright/placewright/GrowingRanks", "add", "(ID)V"⟩ : MethodName)) hown (mvT hZ (wd hw 26 rfl)) (mvT hZ (wd hw 27 rfl)) (notFace_of_selects (args := #[]) (mvT hZ (wd hw 29 rfl))) (mvT hZ (wd hw 29 rfl)) (mvT hZ (wd hw 28 rfl)) (by decide) (backOf (W := 0) (rmadd0 l Z a0 hw [] a1 td tc tw _ _ _ q (p5.toInt64) (0 : Int64) vb vc vd bb bc bd hh n0 Z0 E_a1 F_discounts F_leaves F_count F_worth V_td V_tc V_tw ⟨ne5.1, ne5.2.1, ne5.2.2.1, ne5.2.2.2.1, ne5.2.2.2.2⟩ g_tc g_tw hq (own_ib p5) own_z0' hvb hvc hvd hbb_ hbc_ hbd_) hZ (wd hw 30 rfl) (wd hw 3 rfl) (by decide) (by decide)) q2a q2c (g := (mkF m 333 #[.val (.int p1), .val (.int p2), .val (.int p3), .val (.int p4), .val (.int p5), .val (.int p6), .val (.double (FP.l2d q)), .second, .val (.int kk_), .val (.ref td), .val (.ref a1), .val (.int (1 : Int32)), .val (.ref ta), .val (.int rr), .val (.int cx), .val (.int pa), .val (.int cy), .val (.int pb), .val (.int cz), .val (.int (0 : Int32)), .val (.int pd_), .val (.ref ti), .val (.ref tv)] [(.double (FP.l2d (p5.toInt64))), (.int (0 : Int32)), (.ref a1)])) rfl (by rw [hml]; rfl) (Steps.refl _) (argsL := [(.int (0 : Int32)), (.double (FP.l2d (p5.toInt64)))]) (rest := []) (lenOf pd_0 rfl) rfl (by show 2 * 0 + _ ≤ _; exact Nat.le_of_eq rfl) (hb hby at_333) (fun _ _ => ⟨rfl, e0, (by decide : 7 + 0 ≤ _), (by decide : 40 + 0 ≤ _)⟩)
      dsimp only [Pt.U, Pt.locs, Pt.cells, Pt.slots] at X2 l2 y2 z2 st2 hQ2
      subst l2 y2 z2
      obtain ⟨rfl, N2q, K2, Vc2, Vw2⟩ := hQ2
      have N2 := Fr.app N0 N2q
      obtain ⟨h2, e2⟩ : ∃ z, T2.heap = z := ⟨_, rfl⟩
      rw [e2] at K2 Vc2 Vw2
      replace Z0 := Nat.le_trans Z0 K2.1
      replace E_a1 := E_a1.keep K2
      replace F_discounts := F_discounts.keep K2 (ninS ne5.1 (ninS ne5.2.1 nin0))
      replace F_leaves := F_leaves.keep K2 (ninS ne5.1 (ninS ne5.2.1 nin0))
      replace F_count := F_count.keep K2 (ninS ne5.1 (ninS ne5.2.1 nin0))
      replace F_worth := F_worth.keep K2 (ninS ne5.1 (ninS ne5.2.1 nin0))
      replace V_td := V_td.keep K2 (ninS ne5.2.2.2.1 (ninS ne5.2.2.2.2 nin0))
      replace V_ti := V_ti.keep K2 (ninS (Ne.symm ne9.2.2.1) (ninS (Ne.symm ne9.2.2.2.1) nin0))
      replace V_tv := V_tv.keep K2 (ninS (Ne.symm ne9.2.2.2.2.2.2.1) (ninS (Ne.symm ne9.2.2.2.2.2.2.2.1) nin0))
      refine Go.tr (pc' := 336) (S' := []) st2 ?_
      refine Go.st (pc' := 338) (S' := [(.ref ti)]) (fun t_ k_ => XS.aload X2.here hx rfl (hb hby at_336) rfl rfl k_) ?_
      refine Go.st (pc' := 340) (S' := [(.int (0 : Int32)), (.ref ti)]) (fun t_ k_ => XS.iload X2.here hx rfl (hb hby at_338) rfl k_) ?_
      refine Go.st (pc' := 341) (S' := [(.int (1 : Int32)), (.int (0 : Int32)), (.ref ti)]) (fun t_ k_ => XS.iconst X2.here hx rfl (hb hby at_340) k_) ?_
      obtain ⟨cl3, Ar3, q31, q32, q33, q34, q35⟩ := V_ti
      obtain ⟨T3, h3, X3, e3, W3, st3⟩ := stZ X2 hx hZ e2 Ar3 (j := (0 : Int32)) (inb_of q32 ⟨by decide, by decide⟩) (g := (mkF m 341 #[.val (.int p1), .val (.int p2), .val (.int p3), .val (.int p4), .val (.int p5), .val (.int p6), .val (.double (FP.l2d q)), .second, .val (.int kk_), .val (.ref td), .val (.ref a1), .val (.int (1 : Int32)), .val (.ref ta), .val (.int rr), .val (.int cx), .val (.int pa), .val (.int cy), .val (.int pb), .val (.int cz), .val (.int (0 : Int32)), .val (.int pd_), .val (.ref ti), .val (.ref tv)] [(.int (1 : Int32)), (.int (0 : Int32)), (.ref ti)])) rfl rfl (hb hby at_341)
      replace V_ti := Arv.set Ar3 q31 q32 q33 q34 q35 (fits_nar_bool _) W3 0 rfl (Nat.le_of_ble_eq_true rfl)
      have V_ti : Arv Z h3 ti ki .boolean (4 : Int32) [(.int (nar .boolean (1 : Int32))), (.int bb), (.int bc), (.int bd)] (.int (0 : Int32)) := V_ti
      replace Z0 := Nat.le_trans Z0 (Keep.of_wr W3).1
      replace E_a1 := E_a1.wr W3
      replace F_discounts := F_discounts.other W3 (Or.inl ne9.1)
      replace F_leaves := F_leaves.other W3 (Or.inl ne9.1)
      replace F_count := F_count.other W3 (Or.inl ne9.1)
      replace F_worth := F_worth.other W3 (Or.inl ne9.1)
      replace V_td := V_td.other W3 ne9.2.1
      replace V_tv := V_tv.other W3 (Ne.symm ne9.2.2.2.2.2.2.2.2)
      replace Vc2 := Vc2.other W3 ne9.2.2.1
      replace Vw2 := Vw2.other W3 ne9.2.2.2.1
      have N3 := Fr.snoc X3 N2 g_ti
      refine Go.st (pc' := 342) (S' := []) st3 ?_
      refine Go.st (pc' := 344) (S' := [(.ref tv)]) (fun t_ k_ => XS.aload X3.here hx rfl (hb hby at_342) rfl rfl k_) ?_
      refine Go.st (pc' := 346) (S' := [(.int (0 : Int32)), (.ref tv)]) (fun t_ k_ => XS.iload X3.here hx rfl (hb hby at_344) rfl k_) ?_
      refine Go.st (pc' := 348) (S' := [(.int p5), (.int (0 : Int32)), (.ref tv)]) (fun t_ k_ => XS.iload X3.here hx rfl (hb hby at_346) rfl k_) ?_
      refine Go.st (pc' := 349) (S' := [(.double (FP.l2d (p5.toInt64))), (.int (0 : Int32)), (.ref tv)]) (fun t_ k_ => XS.i2dS X3.here hx rfl (hb hby at_348) rfl (i2d_w _) k_) ?_
      obtain ⟨cl4, Ar4, q41, q42, q43, q44, q45⟩ := V_tv
      obtain ⟨T4, h4, X4, e4, W4, st4⟩ := stD X3 hx hZ e3 Ar4 (j := (0 : Int32)) (inb_of q42 ⟨by decide, by decide⟩) (g := (mkF m 349 #[.val (.int p1), .val (.int p2), .val (.int p3), .val (.int p4), .val (.int p5), .val (.int p6), .val (.double (FP.l2d q)), .second, .val (.int kk_), .val (.ref td), .val (.ref a1), .val (.int (1 : Int32)), .val (.ref ta), .val (.int rr), .val (.int cx), .val (.int pa), .val (.int cy), .val (.int pb), .val (.int cz), .val (.int (0 : Int32)), .val (.int pd_), .val (.ref ti), .val (.ref tv)] [(.double (FP.l2d (p5.toInt64))), (.int (0 : Int32)), (.ref tv)])) rfl rfl (hb hby at_349)
      replace V_tv := Arv.set Ar4 q41 q42 q43 q44 q45 rfl W4 0 rfl (Nat.le_of_ble_eq_true rfl)
      have V_tv : Arv Z h4 tv kv .double (4 : Int32) [(.double (FP.l2d (p5.toInt64))), (.double (FP.l2d vb)), (.double (FP.l2d vc)), (.double (FP.l2d vd))] (.double (0 : UInt64)) := V_tv
      replace Z0 := Nat.le_trans Z0 (Keep.of_wr W4).1
      replace E_a1 := E_a1.wr W4
      replace F_discounts := F_discounts.other W4 (Or.inl ne9.2.2.2.2.1)
      replace F_leaves := F_leaves.other W4 (Or.inl ne9.2.2.2.2.1)
      replace F_count := F_count.other W4 (Or.inl ne9.2.2.2.2.1)
      replace F_worth := F_worth.other W4 (Or.inl ne9.2.2.2.2.1)
      replace V_td := V_td.other W4 ne9.2.2.2.2.2.1
      replace V_ti := V_ti.other W4 ne9.2.2.2.2.2.2.2.2
      replace Vc2 := Vc2.other W4 ne9.2.2.2.2.2.2.1
      replace Vw2 := Vw2.other W4 ne9.2.2.2.2.2.2.2.1
      have N4 := Fr.snoc X4 N3 g_tv
      refine Go.st (pc' := 350) (S' := []) st4 ?_
      refine Go.st (pc' := 352) (S' := [(.int (1 : Int32))]) (fun t_ k_ => XS.iload X4.here hx rfl (hb hby at_350) rfl k_) ?_
      refine Go.st (pc' := 355) (S' := []) (fun t_ k_ => XS.ifNo X4.here hx rfl (hb hby at_352) rfl ((if0 _ _).trans (feq (by decide : ¬ ((1 : Int32) = (0 : Int32)))).1) k_) ?_
      refine Go.st (pc' := 357) (S' := [(.ref a1)]) (fun t_ k_ => XS.aload X4.here hx rfl (hb hby at_355) rfl rfl k_) ?_
      obtain ⟨cq5, kq5, q5a, q5b, q5c⟩ := isOf hZ e4 E_a1
      obtain ⟨_, _, ⟨T5, L5, k5, n5⟩, -, X5, ⟨Lc5, hQ5, l5, y5, z5⟩, st5⟩ := X4.virtualBack hx (y := (⟨"com/example/placewright/placewright/GrowingRanks", "value", "()D"⟩ : MethodName)) (z := (⟨"com/example/placewright/placewright/GrowingRanks", "value", "()D"⟩ : MethodName)) hown (mvT hZ (wd hw 19 rfl)) (mvT hZ (wd hw 20 rfl)) (notFace_of_selects (args := #[]) (mvT hZ (wd hw 22 rfl))) (mvT hZ (wd hw 22 rfl)) (mvT hZ (wd hw 21 rfl)) (by decide) (backOf (W := 0) (rmval l Z a0 hw [] a1 tw _ (0 : UInt64) (FP.l2d (((p5.toInt64) + (own_e q (1 : Int32)) * vb) + (own_e q ((1 : Int32) + bb)) * (vc + (own_e q bc) * vd))) (FP.l2d ((p5.toInt64) + (own_e q (1 : Int32)) * vb)) (FP.l2d (vc + (own_e q bc) * vd)) (FP.l2d (p5.toInt64)) (FP.l2d vb) (FP.l2d vc) (FP.l2d vd) h4 n0 Z0 F_worth Vw2) hZ (wd hw 23 rfl) (wd hw 3 rfl) (by decide) (by decide)) q5a q5c (g := (mkF m 357 #[.val (.int p1), .val (.int p2), .val (.int p3), .val (.int p4), .val (.int p5), .val (.int p6), .val (.double (FP.l2d q)), .second, .val (.int kk_), .val (.ref td), .val (.ref a1), .val (.int (1 : Int32)), .val (.ref ta), .val (.int rr), .val (.int cx), .val (.int pa), .val (.int cy), .val (.int pb), .val (.int cz), .val (.int (0 : Int32)), .val (.int pd_), .val (.ref ti), .val (.ref tv)] [(.ref a1)])) rfl (by rw [hml]; rfl) (Steps.refl _) (argsL := []) (rest := []) (lenOf pd_1 rfl) rfl (by show 2 * 0 + _ ≤ _; exact Nat.le_of_eq rfl) (hb hby at_357) (fun _ _ => ⟨rfl, e4, (by decide : 7 + 0 ≤ _), (by decide : 40 + 0 ≤ _)⟩)
      dsimp only [Pt.U, Pt.locs, Pt.cells, Pt.slots] at X5 l5 y5 z5 st5 hQ5
      subst l5 y5 z5
      obtain ⟨rfl, N5q, e5⟩ := hQ5
      have N5 := Fr.app N4 N5q
      refine Go.tr (pc' := 360) (S' := [(.double (FP.l2d (((p5.toInt64) + (own_e q (1 : Int32)) * vb) + (own_e q ((1 : Int32) + bb)) * (vc + (own_e q bc) * vd))))]) st5 ?_
      refine Go.st (pc' := 362) (S' := [(.ref ti), (.double (FP.l2d (((p5.toInt64) + (own_e q (1 : Int32)) * vb) + (own_e q ((1 : Int32) + bb)) * (vc + (own_e q bc) * vd))))]) (fun t_ k_ => XS.aload X5.here hx rfl (hb hby at_360) rfl rfl k_) ?_
      refine Go.st (pc' := 364) (S' := [(.ref tv), (.ref ti), (.double (FP.l2d (((p5.toInt64) + (own_e q (1 : Int32)) * vb) + (own_e q ((1 : Int32) + bb)) * (vc + (own_e q bc) * vd))))]) (fun t_ k_ => XS.aload X5.here hx rfl (hb hby at_362) rfl rfl k_) ?_
      refine Go.st (pc' := 366) (S' := [(.ref td), (.ref tv), (.ref ti), (.double (FP.l2d (((p5.toInt64) + (own_e q (1 : Int32)) * vb) + (own_e q ((1 : Int32) + bb)) * (vc + (own_e q bc) * vd))))]) (fun t_ k_ => XS.aload X5.here hx rfl (hb hby at_364) rfl rfl k_) ?_
      obtain ⟨_, _, ⟨T6, L6, k6, n6⟩, -, X6, ⟨Lc6, hQ6, l6, y6, z6⟩, st6⟩ := Jvm.LawKit.callS X5 hx (y := (⟨"com/example/placewright/placewright/GrowingRanksAddPinLaw", "ref", "([Z[D[D)D"⟩ : MethodName)) hown (mvT hZ (wd hw 35 rfl)) (mvT hZ (wd hw 36 rfl)) (mvT hZ (wd hw 37 rfl)) (mvT hZ (wd hw 38 rfl)) (by decide) (backOf (W := 2) (rmref l Z a0 hw [] ti tv td _ _ _ q (p5.toInt64) vb vc vd (1 : Int32) bb bc bd h4 n0 Z0 V_ti V_tv V_td hq (own_ib p5) hvb hvc hvd) hZ (wd hw 38 rfl) (wd hw 37 rfl) (by decide) (by decide)) (g := (mkF m 366 #[.val (.int p1), .val (.int p2), .val (.int p3), .val (.int p4), .val (.int p5), .val (.int p6), .val (.double (FP.l2d q)), .second, .val (.int kk_), .val (.ref td), .val (.ref a1), .val (.int (1 : Int32)), .val (.ref ta), .val (.int rr), .val (.int cx), .val (.int pa), .val (.int cy), .val (.int pb), .val (.int cz), .val (.int (0 : Int32)), .val (.int pd_), .val (.ref ti), .val (.ref tv)] [(.ref td), (.ref tv), (.ref ti), (.double (FP.l2d (((p5.toInt64) + (own_e q (1 : Int32)) * vb) + (own_e q ((1 : Int32) + bb)) * (vc + (own_e q bc) * vd))))])) rfl (by rw [hml]; rfl) (argsL := [(.ref ti), (.ref tv), (.ref td)]) (rest := [(.double (FP.l2d (((p5.toInt64) + (own_e q (1 : Int32)) * vb) + (own_e q ((1 : Int32) + bb)) * (vc + (own_e q bc) * vd))))]) (lenOf pd_2 rfl) rfl (by show 2 * 0 + _ ≤ _; exact Nat.le_of_eq rfl) (hb hby at_366) (fun _ _ => ⟨rfl, e5, (by decide : 7 + 0 ≤ _), (by decide : 40 + 0 ≤ _)⟩)
      dsimp only [Pt.U, Pt.locs, Pt.cells, Pt.slots] at X6 l6 y6 z6 st6 hQ6
      subst l6 y6 z6
      obtain ⟨rfl, N6q, e6⟩ := hQ6
      have N6 := Fr.app N5 N6q
      refine Go.st (pc' := 369) (S' := [(.double (FP.l2d (own_fin0 q (1 : Int32) bb bc bd (p5.toInt64) vb vc vd 0 0))), (.double (FP.l2d (((p5.toInt64) + (own_e q (1 : Int32)) * vb) + (own_e q ((1 : Int32) + bb)) * (vc + (own_e q bc) * vd))))]) st6 ?_
      refine Go.st (pc' := 370) (S' := [(.int (cmpValue (FP.dcmp (FP.l2d (((p5.toInt64) + (own_e q (1 : Int32)) * vb) + (own_e q ((1 : Int32) + bb)) * (vc + (own_e q bc) * vd))) (FP.l2d (own_fin0 q (1 : Int32) bb bc bd (p5.toInt64) vb vc vd 0 0))) .l))]) (fun t_ k_ => XS.dcmpS X6.here hx rfl (hb hby at_369) rfl rfl k_) ?_
      refine Go.st (pc' := 373) (S' := []) (fun t_ k_ => XS.ifNo X6.here hx rfl (hb hby at_370) rfl ((if0 _ _).trans (teq (own_dc (own_same0 (Or.inr rfl) hbb hbc hbd) : ((cmpValue (FP.dcmp (FP.l2d (((p5.toInt64) + (own_e q (1 : Int32)) * vb) + (own_e q ((1 : Int32) + bb)) * (vc + (own_e q bc) * vd))) (FP.l2d (own_fin0 q (1 : Int32) bb bc bd (p5.toInt64) vb vc vd 0 0))) .l) = (0 : Int32)))).2) k_) ?_
      refine Go.st (pc' := 374) (S' := [(.int (1 : Int32))]) (fun t_ k_ => XS.iconst X6.here hx rfl (hb hby at_373) k_) ?_
      refine Go.st (pc' := 378) (S' := [(.int (1 : Int32))]) (fun t_ k_ => XS.goto X6.here hx rfl (pc0 := 374) (pc' := 378) rfl (hb hby at_374) (by decide) (by decide) k_) ?_
      refine Go.st (pc' := 380) (S' := []) (fun t_ k_ => XS.istore X6.here hx rfl (hb hby at_378) rfl (l' := #[.val (.int p1), .val (.int p2), .val (.int p3), .val (.int p4), .val (.int p5), .val (.int p6), .val (.double (FP.l2d q)), .second, .val (.int kk_), .val (.ref td), .val (.ref a1), .val (.int (1 : Int32)), .val (.ref ta), .val (.int rr), .val (.int cx), .val (.int pa), .val (.int cy), .val (.int pb), .val (.int cz), .val (.int (0 : Int32)), .val (.int pd_), .val (.ref ti), .val (.ref tv)]) rfl k_) ?_
      exact sl380 p1 p2 p3 p4 p5 p6 kk_ q a1 td tc tw _ _ _ ti tv _ _ cx cy cz pa pb (0 : Int32) pd_ ta rr (1 : Int32) bb bc bd (p5.toInt64) vb vc vd (Stand.up X6 (by decide) (by decide)) hx hZ hw hby hml hown hnm hret hlk e6 N6 Z0 E_a1 F_discounts F_leaves F_count F_worth V_td Vc2 Vw2 ⟨ne5.1, ne5.2.1, ne5.2.2.1, ne5.2.2.2.1, ne5.2.2.2.2⟩ g_tc g_tw  V_ti V_tv ne9 g_ti g_tv (Or.inr rfl) hbb hbc hbd hq (own_ib p5) hvb hvc hvd hpm ⟨(fun z => absurd z.symm hpm.2.2.2.2.2.2.2.2.2), hf3.2.1, hf3.2.2.1, hf3.2.2.2⟩
    · have z_ := (hf2).2.1 rfl
      subst z_
      have zv_ : vb = 0 := hbb.elim And.right (fun z => absurd z (by decide))
      subst zv_
      have hba_ := own_01 hba
      have hbc_ := own_01 hbc
      have hbd_ := own_01 hbd
      refine Go.st (pc' := 328) (S' := [(.ref a1)]) (fun t_ k_ => XS.aload X0.here hx rfl (hb hby at_326) rfl rfl k_) ?_
      refine Go.st (pc' := 330) (S' := [(.int (1 : Int32)), (.ref a1)]) (fun t_ k_ => XS.iload X0.here hx rfl (hb hby at_328) rfl k_) ?_
      refine Go.st (pc' := 332) (S' := [(.int p5), (.int (1 : Int32)), (.ref a1)]) (fun t_ k_ => XS.iload X0.here hx rfl (hb hby at_330) rfl k_) ?_
      refine Go.st (pc' := 333) (S' := [(.double (FP.l2d (p5.toInt64))), (.int (1 : Int32)), (.ref a1)]) (fun t_ k_ => XS.i2dS X0.here hx rfl (hb hby at_332) rfl (i2d_w _) k_) ?_
      obtain ⟨cq7, kq7, q7a, q7b, q7c⟩ := isOf hZ e0 E_a1
      obtain ⟨_, _, ⟨T7, L7, k7, n7⟩, -, X7, ⟨Lc7, hQ7, l7, y7, z7⟩, st7⟩ := X0.virtualBack hx (y := (⟨"com/example/placewright/placewright/GrowingRanks", "add", "(ID)V"⟩ : MethodName)) (z := (⟨"com/example/placewright/placewright/GrowingRanks", "add", "(ID)V"⟩ : MethodName)) hown (mvT hZ (wd hw 26 rfl)) (mvT hZ (wd hw 27 rfl)) (notFace_of_selects (args := #[]) (mvT hZ (wd hw 29 rfl))) (mvT hZ (wd hw 29 rfl)) (mvT hZ (wd hw 28 rfl)) (by decide) (backOf (W := 0) (rmadd1 l Z a0 hw [] a1 td tc tw _ _ _ q (p5.toInt64) va (0 : Int64) vc vd ba bc bd hh n0 Z0 E_a1 F_discounts F_leaves F_count F_worth V_td V_tc V_tw ⟨ne5.1, ne5.2.1, ne5.2.2.1, ne5.2.2.2.1, ne5.2.2.2.2⟩ g_tc g_tw hq (own_ib p5) hva own_z0' hvc hvd hba_ hbc_ hbd_) hZ (wd hw 30 rfl) (wd hw 3 rfl) (by decide) (by decide)) q7a q7c (g := (mkF m 333 #[.val (.int p1), .val (.int p2), .val (.int p3), .val (.int p4), .val (.int p5), .val (.int p6), .val (.double (FP.l2d q)), .second, .val (.int kk_), .val (.ref td), .val (.ref a1), .val (.int (1 : Int32)), .val (.ref ta), .val (.int rr), .val (.int cx), .val (.int pa), .val (.int cy), .val (.int pb), .val (.int cz), .val (.int (1 : Int32)), .val (.int pd_), .val (.ref ti), .val (.ref tv)] [(.double (FP.l2d (p5.toInt64))), (.int (1 : Int32)), (.ref a1)])) rfl (by rw [hml]; rfl) (Steps.refl _) (argsL := [(.int (1 : Int32)), (.double (FP.l2d (p5.toInt64)))]) (rest := []) (lenOf pd_0 rfl) rfl (by show 2 * 0 + _ ≤ _; exact Nat.le_of_eq rfl) (hb hby at_333) (fun _ _ => ⟨rfl, e0, (by decide : 7 + 0 ≤ _), (by decide : 40 + 0 ≤ _)⟩)
      dsimp only [Pt.U, Pt.locs, Pt.cells, Pt.slots] at X7 l7 y7 z7 st7 hQ7
      subst l7 y7 z7
      obtain ⟨rfl, N7q, K7, Vc7, Vw7⟩ := hQ7
      have N7 := Fr.app N0 N7q
      obtain ⟨h7, e7⟩ : ∃ z, T7.heap = z := ⟨_, rfl⟩
      rw [e7] at K7 Vc7 Vw7
      replace Z0 := Nat.le_trans Z0 K7.1
      replace E_a1 := E_a1.keep K7
      replace F_discounts := F_discounts.keep K7 (ninS ne5.1 (ninS ne5.2.1 nin0))
      replace F_leaves := F_leaves.keep K7 (ninS ne5.1 (ninS ne5.2.1 nin0))
      replace F_count := F_count.keep K7 (ninS ne5.1 (ninS ne5.2.1 nin0))
      replace F_worth := F_worth.keep K7 (ninS ne5.1 (ninS ne5.2.1 nin0))
      replace V_td := V_td.keep K7 (ninS ne5.2.2.2.1 (ninS ne5.2.2.2.2 nin0))
      replace V_ti := V_ti.keep K7 (ninS (Ne.symm ne9.2.2.1) (ninS (Ne.symm ne9.2.2.2.1) nin0))
      replace V_tv := V_tv.keep K7 (ninS (Ne.symm ne9.2.2.2.2.2.2.1) (ninS (Ne.symm ne9.2.2.2.2.2.2.2.1) nin0))
      refine Go.tr (pc' := 336) (S' := []) st7 ?_
      refine Go.st (pc' := 338) (S' := [(.ref ti)]) (fun t_ k_ => XS.aload X7.here hx rfl (hb hby at_336) rfl rfl k_) ?_
      refine Go.st (pc' := 340) (S' := [(.int (1 : Int32)), (.ref ti)]) (fun t_ k_ => XS.iload X7.here hx rfl (hb hby at_338) rfl k_) ?_
      refine Go.st (pc' := 341) (S' := [(.int (1 : Int32)), (.int (1 : Int32)), (.ref ti)]) (fun t_ k_ => XS.iconst X7.here hx rfl (hb hby at_340) k_) ?_
      obtain ⟨cl8, Ar8, q81, q82, q83, q84, q85⟩ := V_ti
      obtain ⟨T8, h8, X8, e8, W8, st8⟩ := stZ X7 hx hZ e7 Ar8 (j := (1 : Int32)) (inb_of q82 ⟨by decide, by decide⟩) (g := (mkF m 341 #[.val (.int p1), .val (.int p2), .val (.int p3), .val (.int p4), .val (.int p5), .val (.int p6), .val (.double (FP.l2d q)), .second, .val (.int kk_), .val (.ref td), .val (.ref a1), .val (.int (1 : Int32)), .val (.ref ta), .val (.int rr), .val (.int cx), .val (.int pa), .val (.int cy), .val (.int pb), .val (.int cz), .val (.int (1 : Int32)), .val (.int pd_), .val (.ref ti), .val (.ref tv)] [(.int (1 : Int32)), (.int (1 : Int32)), (.ref ti)])) rfl rfl (hb hby at_341)
      replace V_ti := Arv.set Ar8 q81 q82 q83 q84 q85 (fits_nar_bool _) W8 1 rfl (Nat.le_of_ble_eq_true rfl)
      have V_ti : Arv Z h8 ti ki .boolean (4 : Int32) [(.int ba), (.int (nar .boolean (1 : Int32))), (.int bc), (.int bd)] (.int (0 : Int32)) := V_ti
      replace Z0 := Nat.le_trans Z0 (Keep.of_wr W8).1
      replace E_a1 := E_a1.wr W8
      replace F_discounts := F_discounts.other W8 (Or.inl ne9.1)
      replace F_leaves := F_leaves.other W8 (Or.inl ne9.1)
      replace F_count := F_count.other W8 (Or.inl ne9.1)
      replace F_worth := F_worth.other W8 (Or.inl ne9.1)
      replace V_td := V_td.other W8 ne9.2.1
      replace V_tv := V_tv.other W8 (Ne.symm ne9.2.2.2.2.2.2.2.2)
      replace Vc7 := Vc7.other W8 ne9.2.2.1
      replace Vw7 := Vw7.other W8 ne9.2.2.2.1
      have N8 := Fr.snoc X8 N7 g_ti
      refine Go.st (pc' := 342) (S' := []) st8 ?_
      refine Go.st (pc' := 344) (S' := [(.ref tv)]) (fun t_ k_ => XS.aload X8.here hx rfl (hb hby at_342) rfl rfl k_) ?_
      refine Go.st (pc' := 346) (S' := [(.int (1 : Int32)), (.ref tv)]) (fun t_ k_ => XS.iload X8.here hx rfl (hb hby at_344) rfl k_) ?_
      refine Go.st (pc' := 348) (S' := [(.int p5), (.int (1 : Int32)), (.ref tv)]) (fun t_ k_ => XS.iload X8.here hx rfl (hb hby at_346) rfl k_) ?_
      refine Go.st (pc' := 349) (S' := [(.double (FP.l2d (p5.toInt64))), (.int (1 : Int32)), (.ref tv)]) (fun t_ k_ => XS.i2dS X8.here hx rfl (hb hby at_348) rfl (i2d_w _) k_) ?_
      obtain ⟨cl9, Ar9, q91, q92, q93, q94, q95⟩ := V_tv
      obtain ⟨T9, h9, X9, e9, W9, st9⟩ := stD X8 hx hZ e8 Ar9 (j := (1 : Int32)) (inb_of q92 ⟨by decide, by decide⟩) (g := (mkF m 349 #[.val (.int p1), .val (.int p2), .val (.int p3), .val (.int p4), .val (.int p5), .val (.int p6), .val (.double (FP.l2d q)), .second, .val (.int kk_), .val (.ref td), .val (.ref a1), .val (.int (1 : Int32)), .val (.ref ta), .val (.int rr), .val (.int cx), .val (.int pa), .val (.int cy), .val (.int pb), .val (.int cz), .val (.int (1 : Int32)), .val (.int pd_), .val (.ref ti), .val (.ref tv)] [(.double (FP.l2d (p5.toInt64))), (.int (1 : Int32)), (.ref tv)])) rfl rfl (hb hby at_349)
      replace V_tv := Arv.set Ar9 q91 q92 q93 q94 q95 rfl W9 1 rfl (Nat.le_of_ble_eq_true rfl)
      have V_tv : Arv Z h9 tv kv .double (4 : Int32) [(.double (FP.l2d va)), (.double (FP.l2d (p5.toInt64))), (.double (FP.l2d vc)), (.double (FP.l2d vd))] (.double (0 : UInt64)) := V_tv
      replace Z0 := Nat.le_trans Z0 (Keep.of_wr W9).1
      replace E_a1 := E_a1.wr W9
      replace F_discounts := F_discounts.other W9 (Or.inl ne9.2.2.2.2.1)
      replace F_leaves := F_leaves.other W9 (Or.inl ne9.2.2.2.2.1)
      replace F_count := F_count.other W9 (Or.inl ne9.2.2.2.2.1)
      replace F_worth := F_worth.other W9 (Or.inl ne9.2.2.2.2.1)
      replace V_td := V_td.other W9 ne9.2.2.2.2.2.1
      replace V_ti := V_ti.other W9 ne9.2.2.2.2.2.2.2.2
      replace Vc7 := Vc7.other W9 ne9.2.2.2.2.2.2.1
      replace Vw7 := Vw7.other W9 ne9.2.2.2.2.2.2.2.1
      have N9 := Fr.snoc X9 N8 g_tv
      refine Go.st (pc' := 350) (S' := []) st9 ?_
      refine Go.st (pc' := 352) (S' := [(.int (1 : Int32))]) (fun t_ k_ => XS.iload X9.here hx rfl (hb hby at_350) rfl k_) ?_
      refine Go.st (pc' := 355) (S' := []) (fun t_ k_ => XS.ifNo X9.here hx rfl (hb hby at_352) rfl ((if0 _ _).trans (feq (by decide : ¬ ((1 : Int32) = (0 : Int32)))).1) k_) ?_
      refine Go.st (pc' := 357) (S' := [(.ref a1)]) (fun t_ k_ => XS.aload X9.here hx rfl (hb hby at_355) rfl rfl k_) ?_
      obtain ⟨cq10, kq10, q10a, q10b, q10c⟩ := isOf hZ e9 E_a1
      obtain ⟨_, _, ⟨T10, L10, k10, n10⟩, -, X10, ⟨Lc10, hQ10, l10, y10, z10⟩, st10⟩ := X9.virtualBack hx (y := (⟨"com/example/placewright/placewright/GrowingRanks", "value", "()D"⟩ : MethodName)) (z := (⟨"com/example/placewright/placewright/GrowingRanks", "value", "()D"⟩ : MethodName)) hown (mvT hZ (wd hw 19 rfl)) (mvT hZ (wd hw 20 rfl)) (notFace_of_selects (args := #[]) (mvT hZ (wd hw 22 rfl))) (mvT hZ (wd hw 22 rfl)) (mvT hZ (wd hw 21 rfl)) (by decide) (backOf (W := 0) (rmval l Z a0 hw [] a1 tw _ (0 : UInt64) (FP.l2d ((va + (own_e q ba) * (p5.toInt64)) + (own_e q (ba + (1 : Int32))) * (vc + (own_e q bc) * vd))) (FP.l2d (va + (own_e q ba) * (p5.toInt64))) (FP.l2d (vc + (own_e q bc) * vd)) (FP.l2d va) (FP.l2d (p5.toInt64)) (FP.l2d vc) (FP.l2d vd) h9 n0 Z0 F_worth Vw7) hZ (wd hw 23 rfl) (wd hw 3 rfl) (by decide) (by decide)) q10a q10c (g := (mkF m 357 #[.val (.int p1), .val (.int p2), .val (.int p3), .val (.int p4), .val (.int p5), .val (.int p6), .val (.double (FP.l2d q)), .second, .val (.int kk_), .val (.ref td), .val (.ref a1), .val (.int (1 : Int32)), .val (.ref ta), .val (.int rr), .val (.int cx), .val (.int pa), .val (.int cy), .val (.int pb), .val (.int cz), .val (.int (1 : Int32)), .val (.int pd_), .val (.ref ti), .val (.ref tv)] [(.ref a1)])) rfl (by rw [hml]; rfl) (Steps.refl _) (argsL := []) (rest := []) (lenOf pd_1 rfl) rfl (by show 2 * 0 + _ ≤ _; exact Nat.le_of_eq rfl) (hb hby at_357) (fun _ _ => ⟨rfl, e9, (by decide : 7 + 0 ≤ _), (by decide : 40 + 0 ≤ _)⟩)
      dsimp only [Pt.U, Pt.locs, Pt.cells, Pt.slots] at X10 l10 y10 z10 st10 hQ10
      subst l10 y10 z10
      obtain ⟨rfl, N10q, e10⟩ := hQ10
      have N10 := Fr.app N9 N10q
      refine Go.tr (pc' := 360) (S' := [(.double (FP.l2d ((va + (own_e q ba) * (p5.toInt64)) + (own_e q (ba + (1 : Int32))) * (vc + (own_e q bc) * vd))))]) st10 ?_
      refine Go.st (pc' := 362) (S' := [(.ref ti), (.double (FP.l2d ((va + (own_e q ba) * (p5.toInt64)) + (own_e q (ba + (1 : Int32))) * (vc + (own_e q bc) * vd))))]) (fun t_ k_ => XS.aload X10.here hx rfl (hb hby at_360) rfl rfl k_) ?_
      refine Go.st (pc' := 364) (S' := [(.ref tv), (.ref ti), (.double (FP.l2d ((va + (own_e q ba) * (p5.toInt64)) + (own_e q (ba + (1 : Int32))) * (vc + (own_e q bc) * vd))))]) (fun t_ k_ => XS.aload X10.here hx rfl (hb hby at_362) rfl rfl k_) ?_
      refine Go.st (pc' := 366) (S' := [(.ref td), (.ref tv), (.ref ti), (.double (FP.l2d ((va + (own_e q ba) * (p5.toInt64)) + (own_e q (ba + (1 : Int32))) * (vc + (own_e q bc) * vd))))]) (fun t_ k_ => XS.aload X10.here hx rfl (hb hby at_364) rfl rfl k_) ?_
      obtain ⟨_, _, ⟨T11, L11, k11, n11⟩, -, X11, ⟨Lc11, hQ11, l11, y11, z11⟩, st11⟩ := Jvm.LawKit.callS X10 hx (y := (⟨"com/example/placewright/placewright/GrowingRanksAddPinLaw", "ref", "([Z[D[D)D"⟩ : MethodName)) hown (mvT hZ (wd hw 35 rfl)) (mvT hZ (wd hw 36 rfl)) (mvT hZ (wd hw 37 rfl)) (mvT hZ (wd hw 38 rfl)) (by decide) (backOf (W := 2) (rmref l Z a0 hw [] ti tv td _ _ _ q va (p5.toInt64) vc vd ba (1 : Int32) bc bd h9 n0 Z0 V_ti V_tv V_td hq hva (own_ib p5) hvc hvd) hZ (wd hw 38 rfl) (wd hw 37 rfl) (by decide) (by decide)) (g := (mkF m 366 #[.val (.int p1), .val (.int p2), .val (.int p3), .val (.int p4), .val (.int p5), .val (.int p6), .val (.double (FP.l2d q)), .second, .val (.int kk_), .val (.ref td), .val (.ref a1), .val (.int (1 : Int32)), .val (.ref ta), .val (.int rr), .val (.int cx), .val (.int pa), .val (.int cy), .val (.int pb), .val (.int cz), .val (.int (1 : Int32)), .val (.int pd_), .val (.ref ti), .val (.ref tv)] [(.ref td), (.ref tv), (.ref ti), (.double (FP.l2d ((va + (own_e q ba) * (p5.toInt64)) + (own_e q (ba + (1 : Int32))) * (vc + (own_e q bc) * vd))))])) rfl (by rw [hml]; rfl) (argsL := [(.ref ti), (.ref tv), (.ref td)]) (rest := [(.double (FP.l2d ((va + (own_e q ba) * (p5.toInt64)) + (own_e q (ba + (1 : Int32))) * (vc + (own_e q bc) * vd))))]) (lenOf pd_2 rfl) rfl (by show 2 * 0 + _ ≤ _; exact Nat.le_of_eq rfl) (hb hby at_366) (fun _ _ => ⟨rfl, e10, (by decide : 7 + 0 ≤ _), (by decide : 40 + 0 ≤ _)⟩)
      dsimp only [Pt.U, Pt.locs, Pt.cells, Pt.slots] at X11 l11 y11 z11 st11 hQ11
      subst l11 y11 z11
      obtain ⟨rfl, N11q, e11⟩ := hQ11
      have N11 := Fr.app N10 N11q
      refine Go.st (pc' := 369) (S' := [(.double (FP.l2d (own_fin0 q ba (1 : Int32) bc bd va (p5.toInt64) vc vd 0 0))), (.double (FP.l2d ((va + (own_e q ba) * (p5.toInt64)) + (own_e q (ba + (1 : Int32))) * (vc + (own_e q bc) * vd))))]) st11 ?_
      refine Go.st (pc' := 370) (S' := [(.int (cmpValue (FP.dcmp (FP.l2d ((va + (own_e q ba) * (p5.toInt64)) + (own_e q (ba + (1 : Int32))) * (vc + (own_e q bc) * vd))) (FP.l2d (own_fin0 q ba (1 : Int32) bc bd va (p5.toInt64) vc vd 0 0))) .l))]) (fun t_ k_ => XS.dcmpS X11.here hx rfl (hb hby at_369) rfl rfl k_) ?_
      refine Go.st (pc' := 373) (S' := []) (fun t_ k_ => XS.ifNo X11.here hx rfl (hb hby at_370) rfl ((if0 _ _).trans (teq (own_dc (own_same0 hba (Or.inr rfl) hbc hbd) : ((cmpValue (FP.dcmp (FP.l2d ((va + (own_e q ba) * (p5.toInt64)) + (own_e q (ba + (1 : Int32))) * (vc + (own_e q bc) * vd))) (FP.l2d (own_fin0 q ba (1 : Int32) bc bd va (p5.toInt64) vc vd 0 0))) .l) = (0 : Int32)))).2) k_) ?_
      refine Go.st (pc' := 374) (S' := [(.int (1 : Int32))]) (fun t_ k_ => XS.iconst X11.here hx rfl (hb hby at_373) k_) ?_
      refine Go.st (pc' := 378) (S' := [(.int (1 : Int32))]) (fun t_ k_ => XS.goto X11.here hx rfl (pc0 := 374) (pc' := 378) rfl (hb hby at_374) (by decide) (by decide) k_) ?_
      refine Go.st (pc' := 380) (S' := []) (fun t_ k_ => XS.istore X11.here hx rfl (hb hby at_378) rfl (l' := #[.val (.int p1), .val (.int p2), .val (.int p3), .val (.int p4), .val (.int p5), .val (.int p6), .val (.double (FP.l2d q)), .second, .val (.int kk_), .val (.ref td), .val (.ref a1), .val (.int (1 : Int32)), .val (.ref ta), .val (.int rr), .val (.int cx), .val (.int pa), .val (.int cy), .val (.int pb), .val (.int cz), .val (.int (1 : Int32)), .val (.int pd_), .val (.ref ti), .val (.ref tv)]) rfl k_) ?_
      exact sl380 p1 p2 p3 p4 p5 p6 kk_ q a1 td tc tw _ _ _ ti tv _ _ cx cy cz pa pb (1 : Int32) pd_ ta rr ba (1 : Int32) bc bd va (p5.toInt64) vc vd (Stand.up X11 (by decide) (by decide)) hx hZ hw hby hml hown hnm hret hlk e11 N11 Z0 E_a1 F_discounts F_leaves F_count F_worth V_td Vc7 Vw7 ⟨ne5.1, ne5.2.1, ne5.2.2.1, ne5.2.2.2.1, ne5.2.2.2.2⟩ g_tc g_tw  V_ti V_tv ne9 g_ti g_tv hba (Or.inr rfl) hbc hbd hq hva (own_ib p5) hvc hvd hpm ⟨hf3.1, (fun z => absurd z.symm hpm.2.2.2.2.2.2.2.2.2), hf3.2.2.1, hf3.2.2.2⟩
    · have z_ := (hf2).2.2.1 rfl
      subst z_
      have zv_ : vc = 0 := hbc.elim And.right (fun z => absurd z (by decide))
      subst zv_
      have hba_ := own_01 hba
      have hbb_ := own_01 hbb
      have hbd_ := own_01 hbd
      refine Go.st (pc' := 328) (S' := [(.ref a1)]) (fun t_ k_ => XS.aload X0.here hx rfl (hb hby at_326) rfl rfl k_) ?_
      refine Go.st (pc' := 330) (S' := [(.int (2 : Int32)), (.ref a1)]) (fun t_ k_ => XS.iload X0.here hx rfl (hb hby at_328) rfl k_) ?_
      refine Go.st (pc' := 332) (S' := [(.int p5), (.int (2 : Int32)), (.ref a1)]) (fun t_ k_ => XS.iload X0.here hx rfl (hb hby at_330) rfl k_) ?_
      refine Go.st (pc' := 333) (S' := [(.double (FP.l2d (p5.toInt64))), (.int (2 : Int32)), (.ref a1)]) (fun t_ k_ => XS.i2dS X0.here hx rfl (hb hby at_332) rfl (i2d_w _) k_) ?_
      obtain ⟨cq12, kq12, q12a, q12b, q12c⟩ := isOf hZ e0 E_a1
      obtain ⟨_, _, ⟨T12, L12, k12, n12⟩, -, X12, ⟨Lc12, hQ12, l12, y12, z12⟩, st12⟩ := X0.virtualBack hx (y := (⟨"com/example/placewright/placewright/GrowingRanks", "add", "(ID)V"⟩ : MethodName)) (z := (⟨"com/example/placewright/placewright/GrowingRanks", "add", "(ID)V"⟩ : MethodName)) hown (mvT hZ (wd hw 26 rfl)) (mvT hZ (wd hw 27 rfl)) (notFace_of_selects (args := #[]) (mvT hZ (wd hw 29 rfl))) (mvT hZ (wd hw 29 rfl)) (mvT hZ (wd hw 28 rfl)) (by decide) (backOf (W := 0) (rmadd2 l Z a0 hw [] a1 td tc tw _ _ _ q (p5.toInt64) va vb (0 : Int64) vd ba bb bd hh n0 Z0 E_a1 F_discounts F_leaves F_count F_worth V_td V_tc V_tw ⟨ne5.1, ne5.2.1, ne5.2.2.1, ne5.2.2.2.1, ne5.2.2.2.2⟩ g_tc g_tw hq (own_ib p5) hva hvb own_z0' hvd hba_ hbb_ hbd_) hZ (wd hw 30 rfl) (wd hw 3 rfl) (by decide) (by decide)) q12a q12c (g := (mkF m 333 #[.val (.int p1), .val (.int p2), .val (.int p3), .val (.int p4), .val (.int p5), .val (.int p6), .val (.double (FP.l2d q)), .second, .val (.int kk_), .val (.ref td), .val (.ref a1), .val (.int (1 : Int32)), .val (.ref ta), .val (.int rr), .val (.int cx), .val (.int pa), .val (.int cy), .val (.int pb), .val (.int cz), .val (.int (2 : Int32)), .val (.int pd_), .val (.ref ti), .val (.ref tv)] [(.double (FP.l2d (p5.toInt64))), (.int (2 : Int32)), (.ref a1)])) rfl (by rw [hml]; rfl) (Steps.refl _) (argsL := [(.int (2 : Int32)), (.double (FP.l2d (p5.toInt64)))]) (rest := []) (lenOf pd_0 rfl) rfl (by show 2 * 0 + _ ≤ _; exact Nat.le_of_eq rfl) (hb hby at_333) (fun _ _ => ⟨rfl, e0, (by decide : 7 + 0 ≤ _), (by decide : 40 + 0 ≤ _)⟩)
      dsimp only [Pt.U, Pt.locs, Pt.cells, Pt.slots] at X12 l12 y12 z12 st12 hQ12
      subst l12 y12 z12
      obtain ⟨rfl, N12q, K12, Vc12, Vw12⟩ := hQ12
      have N12 := Fr.app N0 N12q
      obtain ⟨h12, e12⟩ : ∃ z, T12.heap = z := ⟨_, rfl⟩
      rw [e12] at K12 Vc12 Vw12
      replace Z0 := Nat.le_trans Z0 K12.1
      replace E_a1 := E_a1.keep K12
      replace F_discounts := F_discounts.keep K12 (ninS ne5.1 (ninS ne5.2.1 nin0))
      replace F_leaves := F_leaves.keep K12 (ninS ne5.1 (ninS ne5.2.1 nin0))
      replace F_count := F_count.keep K12 (ninS ne5.1 (ninS ne5.2.1 nin0))
      replace F_worth := F_worth.keep K12 (ninS ne5.1 (ninS ne5.2.1 nin0))
      replace V_td := V_td.keep K12 (ninS ne5.2.2.2.1 (ninS ne5.2.2.2.2 nin0))
      replace V_ti := V_ti.keep K12 (ninS (Ne.symm ne9.2.2.1) (ninS (Ne.symm ne9.2.2.2.1) nin0))
      replace V_tv := V_tv.keep K12 (ninS (Ne.symm ne9.2.2.2.2.2.2.1) (ninS (Ne.symm ne9.2.2.2.2.2.2.2.1) nin0))
      refine Go.tr (pc' := 336) (S' := []) st12 ?_
      refine Go.st (pc' := 338) (S' := [(.ref ti)]) (fun t_ k_ => XS.aload X12.here hx rfl (hb hby at_336) rfl rfl k_) ?_
      refine Go.st (pc' := 340) (S' := [(.int (2 : Int32)), (.ref ti)]) (fun t_ k_ => XS.iload X12.here hx rfl (hb hby at_338) rfl k_) ?_
      refine Go.st (pc' := 341) (S' := [(.int (1 : Int32)), (.int (2 : Int32)), (.ref ti)]) (fun t_ k_ => XS.iconst X12.here hx rfl (hb hby at_340) k_) ?_
      obtain ⟨cl13, Ar13, q131, q132, q133, q134, q135⟩ := V_ti
      obtain ⟨T13, h13, X13, e13, W13, st13⟩ := stZ X12 hx hZ e12 Ar13 (j := (2 : Int32)) (inb_of q132 ⟨by decide, by decide⟩) (g := (mkF m 341 #[.val (.int p1), .val (.int p2), .val (.int p3), .val (.int p4), .val (.int p5), .val (.int p6), .val (.double (FP.l2d q)), .second, .val (.int kk_), .val (.ref td), .val (.ref a1), .val (.int (1 : Int32)), .val (.ref ta), .val (.int rr), .val (.int cx), .val (.int pa), .val (.int cy), .val (.int pb), .val (.int cz), .val (.int (2 : Int32)), .val (.int pd_), .val (.ref ti), .val (.ref tv)] [(.int (1 : Int32)), (.int (2 : Int32)), (.ref ti)])) rfl rfl (hb hby at_341)
      replace V_ti := Arv.set Ar13 q131 q132 q133 q134 q135 (fits_nar_bool _) W13 2 rfl (Nat.le_of_ble_eq_true rfl)
      have V_ti : Arv Z h13 ti ki .boolean (4 : Int32) [(.int ba), (.int bb), (.int (nar .boolean (1 : Int32))), (.int bd)] (.int (0 : Int32)) := V_ti
      replace Z0 := Nat.le_trans Z0 (Keep.of_wr W13).1
      replace E_a1 := E_a1.wr W13
      replace F_discounts := F_discounts.other W13 (Or.inl ne9.1)
      replace F_leaves := F_leaves.other W13 (Or.inl ne9.1)
      replace F_count := F_count.other W13 (Or.inl ne9.1)
      replace F_worth := F_worth.other W13 (Or.inl ne9.1)
      replace V_td := V_td.other W13 ne9.2.1
      replace V_tv := V_tv.other W13 (Ne.symm ne9.2.2.2.2.2.2.2.2)
      replace Vc12 := Vc12.other W13 ne9.2.2.1
      replace Vw12 := Vw12.other W13 ne9.2.2.2.1
      have N13 := Fr.snoc X13 N12 g_ti
      refine Go.st (pc' := 342) (S' := []) st13 ?_
      refine Go.st (pc' := 344) (S' := [(.ref tv)]) (fun t_ k_ => XS.aload X13.here hx rfl (hb hby at_342) rfl rfl k_) ?_
      refine Go.st (pc' := 346) (S' := [(.int (2 : Int32)), (.ref tv)]) (fun t_ k_ => XS.iload X13.here hx rfl (hb hby at_344) rfl k_) ?_
      refine Go.st (pc' := 348) (S' := [(.int p5), (.int (2 : Int32)), (.ref tv)]) (fun t_ k_ => XS.iload X13.here hx rfl (hb hby at_346) rfl k_) ?_
      refine Go.st (pc' := 349) (S' := [(.double (FP.l2d (p5.toInt64))), (.int (2 : Int32)), (.ref tv)]) (fun t_ k_ => XS.i2dS X13.here hx rfl (hb hby at_348) rfl (i2d_w _) k_) ?_
      obtain ⟨cl14, Ar14, q141, q142, q143, q144, q145⟩ := V_tv
      obtain ⟨T14, h14, X14, e14, W14, st14⟩ := stD X13 hx hZ e13 Ar14 (j := (2 : Int32)) (inb_of q142 ⟨by decide, by decide⟩) (g := (mkF m 349 #[.val (.int p1), .val (.int p2), .val (.int p3), .val (.int p4), .val (.int p5), .val (.int p6), .val (.double (FP.l2d q)), .second, .val (.int kk_), .val (.ref td), .val (.ref a1), .val (.int (1 : Int32)), .val (.ref ta), .val (.int rr), .val (.int cx), .val (.int pa), .val (.int cy), .val (.int pb), .val (.int cz), .val (.int (2 : Int32)), .val (.int pd_), .val (.ref ti), .val (.ref tv)] [(.double (FP.l2d (p5.toInt64))), (.int (2 : Int32)), (.ref tv)])) rfl rfl (hb hby at_349)
      replace V_tv := Arv.set Ar14 q141 q142 q143 q144 q145 rfl W14 2 rfl (Nat.le_of_ble_eq_true rfl)
      have V_tv : Arv Z h14 tv kv .double (4 : Int32) [(.double (FP.l2d va)), (.double (FP.l2d vb)), (.double (FP.l2d (p5.toInt64))), (.double (FP.l2d vd))] (.double (0 : UInt64)) := V_tv
      replace Z0 := Nat.le_trans Z0 (Keep.of_wr W14).1
      replace E_a1 := E_a1.wr W14
      replace F_discounts := F_discounts.other W14 (Or.inl ne9.2.2.2.2.1)
      replace F_leaves := F_leaves.other W14 (Or.inl ne9.2.2.2.2.1)
      replace F_count := F_count.other W14 (Or.inl ne9.2.2.2.2.1)
      replace F_worth := F_worth.other W14 (Or.inl ne9.2.2.2.2.1)
      replace V_td := V_td.other W14 ne9.2.2.2.2.2.1
      replace V_ti := V_ti.other W14 ne9.2.2.2.2.2.2.2.2
      replace Vc12 := Vc12.other W14 ne9.2.2.2.2.2.2.1
      replace Vw12 := Vw12.other W14 ne9.2.2.2.2.2.2.2.1
      have N14 := Fr.snoc X14 N13 g_tv
      refine Go.st (pc' := 350) (S' := []) st14 ?_
      refine Go.st (pc' := 352) (S' := [(.int (1 : Int32))]) (fun t_ k_ => XS.iload X14.here hx rfl (hb hby at_350) rfl k_) ?_
      refine Go.st (pc' := 355) (S' := []) (fun t_ k_ => XS.ifNo X14.here hx rfl (hb hby at_352) rfl ((if0 _ _).trans (feq (by decide : ¬ ((1 : Int32) = (0 : Int32)))).1) k_) ?_
      refine Go.st (pc' := 357) (S' := [(.ref a1)]) (fun t_ k_ => XS.aload X14.here hx rfl (hb hby at_355) rfl rfl k_) ?_
      obtain ⟨cq15, kq15, q15a, q15b, q15c⟩ := isOf hZ e14 E_a1
      obtain ⟨_, _, ⟨T15, L15, k15, n15⟩, -, X15, ⟨Lc15, hQ15, l15, y15, z15⟩, st15⟩ := X14.virtualBack hx (y := (⟨"com/example/placewright/placewright/GrowingRanks", "value", "()D"⟩ : MethodName)) (z := (⟨"com/example/placewright/placewright/GrowingRanks", "value", "()D"⟩ : MethodName)) hown (mvT hZ (wd hw 19 rfl)) (mvT hZ (wd hw 20 rfl)) (notFace_of_selects (args := #[]) (mvT hZ (wd hw 22 rfl))) (mvT hZ (wd hw 22 rfl)) (mvT hZ (wd hw 21 rfl)) (by decide) (backOf (W := 0) (rmval l Z a0 hw [] a1 tw _ (0 : UInt64) (FP.l2d ((va + (own_e q ba) * vb) + (own_e q (ba + bb)) * ((p5.toInt64) + (own_e q (1 : Int32)) * vd))) (FP.l2d (va + (own_e q ba) * vb)) (FP.l2d ((p5.toInt64) + (own_e q (1 : Int32)) * vd)) (FP.l2d va) (FP.l2d vb) (FP.l2d (p5.toInt64)) (FP.l2d vd) h14 n0 Z0 F_worth Vw12) hZ (wd hw 23 rfl) (wd hw 3 rfl) (by decide) (by decide)) q15a q15c (g := (mkF m 357 #[.val (.int p1), .val (.int p2), .val (.int p3), .val (.int p4), .val (.int p5), .val (.int p6), .val (.double (FP.l2d q)), .second, .val (.int kk_), .val (.ref td), .val (.ref a1), .val (.int (1 : Int32)), .val (.ref ta), .val (.int rr), .val (.int cx), .val (.int pa), .val (.int cy), .val (.int pb), .val (.int cz), .val (.int (2 : Int32)), .val (.int pd_), .val (.ref ti), .val (.ref tv)] [(.ref a1)])) rfl (by rw [hml]; rfl) (Steps.refl _) (argsL := []) (rest := []) (lenOf pd_1 rfl) rfl (by show 2 * 0 + _ ≤ _; exact Nat.le_of_eq rfl) (hb hby at_357) (fun _ _ => ⟨rfl, e14, (by decide : 7 + 0 ≤ _), (by decide : 40 + 0 ≤ _)⟩)
      dsimp only [Pt.U, Pt.locs, Pt.cells, Pt.slots] at X15 l15 y15 z15 st15 hQ15
      subst l15 y15 z15
      obtain ⟨rfl, N15q, e15⟩ := hQ15
      have N15 := Fr.app N14 N15q
      refine Go.tr (pc' := 360) (S' := [(.double (FP.l2d ((va + (own_e q ba) * vb) + (own_e q (ba + bb)) * ((p5.toInt64) + (own_e q (1 : Int32)) * vd))))]) st15 ?_
      refine Go.st (pc' := 362) (S' := [(.ref ti), (.double (FP.l2d ((va + (own_e q ba) * vb) + (own_e q (ba + bb)) * ((p5.toInt64) + (own_e q (1 : Int32)) * vd))))]) (fun t_ k_ => XS.aload X15.here hx rfl (hb hby at_360) rfl rfl k_) ?_
      refine Go.st (pc' := 364) (S' := [(.ref tv), (.ref ti), (.double (FP.l2d ((va + (own_e q ba) * vb) + (own_e q (ba + bb)) * ((p5.toInt64) + (own_e q (1 : Int32)) * vd))))]) (fun t_ k_ => XS.aload X15.here hx rfl (hb hby at_362) rfl rfl k_) ?_
      refine Go.st (pc' := 366) (S' := [(.ref td), (.ref tv), (.ref ti), (.double (FP.l2d ((va + (own_e q ba) * vb) + (own_e q (ba + bb)) * ((p5.toInt64) + (own_e q (1 : Int32)) * vd))))]) (fun t_ k_ => XS.aload X15.here hx rfl (hb hby at_364) rfl rfl k_) ?_
      obtain ⟨_, _, ⟨T16, L16, k16, n16⟩, -, X16, ⟨Lc16, hQ16, l16, y16, z16⟩, st16⟩ := Jvm.LawKit.callS X15 hx (y := (⟨"com/example/placewright/placewright/GrowingRanksAddPinLaw", "ref", "([Z[D[D)D"⟩ : MethodName)) hown (mvT hZ (wd hw 35 rfl)) (mvT hZ (wd hw 36 rfl)) (mvT hZ (wd hw 37 rfl)) (mvT hZ (wd hw 38 rfl)) (by decide) (backOf (W := 2) (rmref l Z a0 hw [] ti tv td _ _ _ q va vb (p5.toInt64) vd ba bb (1 : Int32) bd h14 n0 Z0 V_ti V_tv V_td hq hva hvb (own_ib p5) hvd) hZ (wd hw 38 rfl) (wd hw 37 rfl) (by decide) (by decide)) (g := (mkF m 366 #[.val (.int p1), .val (.int p2), .val (.int p3), .val (.int p4), .val (.int p5), .val (.int p6), .val (.double (FP.l2d q)), .second, .val (.int kk_), .val (.ref td), .val (.ref a1), .val (.int (1 : Int32)), .val (.ref ta), .val (.int rr), .val (.int cx), .val (.int pa), .val (.int cy), .val (.int pb), .val (.int cz), .val (.int (2 : Int32)), .val (.int pd_), .val (.ref ti), .val (.ref tv)] [(.ref td), (.ref tv), (.ref ti), (.double (FP.l2d ((va + (own_e q ba) * vb) + (own_e q (ba + bb)) * ((p5.toInt64) + (own_e q (1 : Int32)) * vd))))])) rfl (by rw [hml]; rfl) (argsL := [(.ref ti), (.ref tv), (.ref td)]) (rest := [(.double (FP.l2d ((va + (own_e q ba) * vb) + (own_e q (ba + bb)) * ((p5.toInt64) + (own_e q (1 : Int32)) * vd))))]) (lenOf pd_2 rfl) rfl (by show 2 * 0 + _ ≤ _; exact Nat.le_of_eq rfl) (hb hby at_366) (fun _ _ => ⟨rfl, e15, (by decide : 7 + 0 ≤ _), (by decide : 40 + 0 ≤ _)⟩)
      dsimp only [Pt.U, Pt.locs, Pt.cells, Pt.slots] at X16 l16 y16 z16 st16 hQ16
      subst l16 y16 z16
      obtain ⟨rfl, N16q, e16⟩ := hQ16
      have N16 := Fr.app N15 N16q
      refine Go.st (pc' := 369) (S' := [(.double (FP.l2d (own_fin0 q ba bb (1 : Int32) bd va vb (p5.toInt64) vd 0 0))), (.double (FP.l2d ((va + (own_e q ba) * vb) + (own_e q (ba + bb)) * ((p5.toInt64) + (own_e q (1 : Int32)) * vd))))]) st16 ?_
      refine Go.st (pc' := 370) (S' := [(.int (cmpValue (FP.dcmp (FP.l2d ((va + (own_e q ba) * vb) + (own_e q (ba + bb)) * ((p5.toInt64) + (own_e q (1 : Int32)) * vd))) (FP.l2d (own_fin0 q ba bb (1 : Int32) bd va vb (p5.toInt64) vd 0 0))) .l))]) (fun t_ k_ => XS.dcmpS X16.here hx rfl (hb hby at_369) rfl rfl k_) ?_
      refine Go.st (pc' := 373) (S' := []) (fun t_ k_ => XS.ifNo X16.here hx rfl (hb hby at_370) rfl ((if0 _ _).trans (teq (own_dc (own_same0 hba hbb (Or.inr rfl) hbd) : ((cmpValue (FP.dcmp (FP.l2d ((va + (own_e q ba) * vb) + (own_e q (ba + bb)) * ((p5.toInt64) + (own_e q (1 : Int32)) * vd))) (FP.l2d (own_fin0 q ba bb (1 : Int32) bd va vb (p5.toInt64) vd 0 0))) .l) = (0 : Int32)))).2) k_) ?_
      refine Go.st (pc' := 374) (S' := [(.int (1 : Int32))]) (fun t_ k_ => XS.iconst X16.here hx rfl (hb hby at_373) k_) ?_
      refine Go.st (pc' := 378) (S' := [(.int (1 : Int32))]) (fun t_ k_ => XS.goto X16.here hx rfl (pc0 := 374) (pc' := 378) rfl (hb hby at_374) (by decide) (by decide) k_) ?_
      refine Go.st (pc' := 380) (S' := []) (fun t_ k_ => XS.istore X16.here hx rfl (hb hby at_378) rfl (l' := #[.val (.int p1), .val (.int p2), .val (.int p3), .val (.int p4), .val (.int p5), .val (.int p6), .val (.double (FP.l2d q)), .second, .val (.int kk_), .val (.ref td), .val (.ref a1), .val (.int (1 : Int32)), .val (.ref ta), .val (.int rr), .val (.int cx), .val (.int pa), .val (.int cy), .val (.int pb), .val (.int cz), .val (.int (2 : Int32)), .val (.int pd_), .val (.ref ti), .val (.ref tv)]) rfl k_) ?_
      exact sl380 p1 p2 p3 p4 p5 p6 kk_ q a1 td tc tw _ _ _ ti tv _ _ cx cy cz pa pb (2 : Int32) pd_ ta rr ba bb (1 : Int32) bd va vb (p5.toInt64) vd (Stand.up X16 (by decide) (by decide)) hx hZ hw hby hml hown hnm hret hlk e16 N16 Z0 E_a1 F_discounts F_leaves F_count F_worth V_td Vc12 Vw12 ⟨ne5.1, ne5.2.1, ne5.2.2.1, ne5.2.2.2.1, ne5.2.2.2.2⟩ g_tc g_tw  V_ti V_tv ne9 g_ti g_tv hba hbb (Or.inr rfl) hbd hq hva hvb (own_ib p5) hvd hpm ⟨hf3.1, hf3.2.1, (fun z => absurd z.symm hpm.2.2.2.2.2.2.2.2.2), hf3.2.2.2⟩
    · have z_ := (hf2).2.2.2 rfl
      subst z_
      have zv_ : vd = 0 := hbd.elim And.right (fun z => absurd z (by decide))
      subst zv_
      have hba_ := own_01 hba
      have hbb_ := own_01 hbb
      have hbc_ := own_01 hbc
      refine Go.st (pc' := 328) (S' := [(.ref a1)]) (fun t_ k_ => XS.aload X0.here hx rfl (hb hby at_326) rfl rfl k_) ?_
      refine Go.st (pc' := 330) (S' := [(.int (3 : Int32)), (.ref a1)]) (fun t_ k_ => XS.iload X0.here hx rfl (hb hby at_328) rfl k_) ?_
      refine Go.st (pc' := 332) (S' := [(.int p5), (.int (3 : Int32)), (.ref a1)]) (fun t_ k_ => XS.iload X0.here hx rfl (hb hby at_330) rfl k_) ?_
      refine Go.st (pc' := 333) (S' := [(.double (FP.l2d (p5.toInt64))), (.int (3 : Int32)), (.ref a1)]) (fun t_ k_ => XS.i2dS X0.here hx rfl (hb hby at_332) rfl (i2d_w _) k_) ?_
      obtain ⟨cq17, kq17, q17a, q17b, q17c⟩ := isOf hZ e0 E_a1
      obtain ⟨_, _, ⟨T17, L17, k17, n17⟩, -, X17, ⟨Lc17, hQ17, l17, y17, z17⟩, st17⟩ := X0.virtualBack hx (y := (⟨"com/example/placewright/placewright/GrowingRanks", "add", "(ID)V"⟩ : MethodName)) (z := (⟨"com/example/placewright/placewright/GrowingRanks", "add", "(ID)V"⟩ : MethodName)) hown (mvT hZ (wd hw 26 rfl)) (mvT hZ (wd hw 27 rfl)) (notFace_of_selects (args := #[]) (mvT hZ (wd hw 29 rfl))) (mvT hZ (wd hw 29 rfl)) (mvT hZ (wd hw 28 rfl)) (by decide) (backOf (W := 0) (rmadd3 l Z a0 hw [] a1 td tc tw _ _ _ q (p5.toInt64) va vb vc (0 : Int64) ba bb bc hh n0 Z0 E_a1 F_discounts F_leaves F_count F_worth V_td V_tc V_tw ⟨ne5.1, ne5.2.1, ne5.2.2.1, ne5.2.2.2.1, ne5.2.2.2.2⟩ g_tc g_tw hq (own_ib p5) hva hvb hvc own_z0' hba_ hbb_ hbc_) hZ (wd hw 30 rfl) (wd hw 3 rfl) (by decide) (by decide)) q17a q17c (g := (mkF m 333 #[.val (.int p1), .val (.int p2), .val (.int p3), .val (.int p4), .val (.int p5), .val (.int p6), .val (.double (FP.l2d q)), .second, .val (.int kk_), .val (.ref td), .val (.ref a1), .val (.int (1 : Int32)), .val (.ref ta), .val (.int rr), .val (.int cx), .val (.int pa), .val (.int cy), .val (.int pb), .val (.int cz), .val (.int (3 : Int32)), .val (.int pd_), .val (.ref ti), .val (.ref tv)] [(.double (FP.l2d (p5.toInt64))), (.int (3 : Int32)), (.ref a1)])) rfl (by rw [hml]; rfl) (Steps.refl _) (argsL := [(.int (3 : Int32)), (.double (FP.l2d (p5.toInt64)))]) (rest := []) (lenOf pd_0 rfl) rfl (by show 2 * 0 + _ ≤ _; exact Nat.le_of_eq rfl) (hb hby at_333) (fun _ _ => ⟨rfl, e0, (by decide : 7 + 0 ≤ _), (by decide : 40 + 0 ≤ _)⟩)
      dsimp only [Pt.U, Pt.locs, Pt.cells, Pt.slots] at X17 l17 y17 z17 st17 hQ17
      subst l17 y17 z17
      obtain ⟨rfl, N17q, K17, Vc17, Vw17⟩ := hQ17
      have N17 := Fr.app N0 N17q
      obtain ⟨h17, e17⟩ : ∃ z, T17.heap = z := ⟨_, rfl⟩
      rw [e17] at K17 Vc17 Vw17
      replace Z0 := Nat.le_trans Z0 K17.1
      replace E_a1 := E_a1.keep K17
      replace F_discounts := F_discounts.keep K17 (ninS ne5.1 (ninS ne5.2.1 nin0))
      replace F_leaves := F_leaves.keep K17 (ninS ne5.1 (ninS ne5.2.1 nin0))
      replace F_count := F_count.keep K17 (ninS ne5.1 (ninS ne5.2.1 nin0))
      replace F_worth := F_worth.keep K17 (ninS ne5.1 (ninS ne5.2.1 nin0))
      replace V_td := V_td.keep K17 (ninS ne5.2.2.2.1 (ninS ne5.2.2.2.2 nin0))
      replace V_ti := V_ti.keep K17 (ninS (Ne.symm ne9.2.2.1) (ninS (Ne.symm ne9.2.2.2.1) nin0))
      replace V_tv := V_tv.keep K17 (ninS (Ne.symm ne9.2.2.2.2.2.2.1) (ninS (Ne.symm ne9.2.2.2.2.2.2.2.1) nin0))
      refine Go.tr (pc' := 336) (S' := []) st17 ?_
      refine Go.st (pc' := 338) (S' := [(.ref ti)]) (fun t_ k_ => XS.aload X17.here hx rfl (hb hby at_336) rfl rfl k_) ?_
      refine Go.st (pc' := 340) (S' := [(.int (3 : Int32)), (.ref ti)]) (fun t_ k_ => XS.iload X17.here hx rfl (hb hby at_338) rfl k_) ?_
      refine Go.st (pc' := 341) (S' := [(.int (1 : Int32)), (.int (3 : Int32)), (.ref ti)]) (fun t_ k_ => XS.iconst X17.here hx rfl (hb hby at_340) k_) ?_
      obtain ⟨cl18, Ar18, q181, q182, q183, q184, q185⟩ := V_ti
      obtain ⟨T18, h18, X18, e18, W18, st18⟩ := stZ X17 hx hZ e17 Ar18 (j := (3 : Int32)) (inb_of q182 ⟨by decide, by decide⟩) (g := (mkF m 341 #[.val (.int p1), .val (.int p2), .val (.int p3), .val (.int p4), .val (.int p5), .val (.int p6), .val (.double (FP.l2d q)), .second, .val (.int kk_), .val (.ref td), .val (.ref a1), .val (.int (1 : Int32)), .val (.ref ta), .val (.int rr), .val (.int cx), .val (.int pa), .val (.int cy), .val (.int pb), .val (.int cz), .val (.int (3 : Int32)), .val (.int pd_), .val (.ref ti), .val (.ref tv)] [(.int (1 : Int32)), (.int (3 : Int32)), (.ref ti)])) rfl rfl (hb hby at_341)
      replace V_ti := Arv.set Ar18 q181 q182 q183 q184 q185 (fits_nar_bool _) W18 3 rfl (Nat.le_of_ble_eq_true rfl)
      have V_ti : Arv Z h18 ti ki .boolean (4 : Int32) [(.int ba), (.int bb), (.int bc), (.int (nar .boolean (1 : Int32)))] (.int (0 : Int32)) := V_ti
      replace Z0 := Nat.le_trans Z0 (Keep.of_wr W18).1
      replace E_a1 := E_a1.wr W18
      replace F_discounts := F_discounts.other W18 (Or.inl ne9.1)
      replace F_leaves := F_leaves.other W18 (Or.inl ne9.1)
      replace F_count := F_count.other W18 (Or.inl ne9.1)
      replace F_worth := F_worth.other W18 (Or.inl ne9.1)
      replace V_td := V_td.other W18 ne9.2.1
      replace V_tv := V_tv.other W18 (Ne.symm ne9.2.2.2.2.2.2.2.2)
      replace Vc17 := Vc17.other W18 ne9.2.2.1
      replace Vw17 := Vw17.other W18 ne9.2.2.2.1
      have N18 := Fr.snoc X18 N17 g_ti
      refine Go.st (pc' := 342) (S' := []) st18 ?_
      refine Go.st (pc' := 344) (S' := [(.ref tv)]) (fun t_ k_ => XS.aload X18.here hx rfl (hb hby at_342) rfl rfl k_) ?_
      refine Go.st (pc' := 346) (S' := [(.int (3 : Int32)), (.ref tv)]) (fun t_ k_ => XS.iload X18.here hx rfl (hb hby at_344) rfl k_) ?_
      refine Go.st (pc' := 348) (S' := [(.int p5), (.int (3 : Int32)), (.ref tv)]) (fun t_ k_ => XS.iload X18.here hx rfl (hb hby at_346) rfl k_) ?_
      refine Go.st (pc' := 349) (S' := [(.double (FP.l2d (p5.toInt64))), (.int (3 : Int32)), (.ref tv)]) (fun t_ k_ => XS.i2dS X18.here hx rfl (hb hby at_348) rfl (i2d_w _) k_) ?_
      obtain ⟨cl19, Ar19, q191, q192, q193, q194, q195⟩ := V_tv
      obtain ⟨T19, h19, X19, e19, W19, st19⟩ := stD X18 hx hZ e18 Ar19 (j := (3 : Int32)) (inb_of q192 ⟨by decide, by decide⟩) (g := (mkF m 349 #[.val (.int p1), .val (.int p2), .val (.int p3), .val (.int p4), .val (.int p5), .val (.int p6), .val (.double (FP.l2d q)), .second, .val (.int kk_), .val (.ref td), .val (.ref a1), .val (.int (1 : Int32)), .val (.ref ta), .val (.int rr), .val (.int cx), .val (.int pa), .val (.int cy), .val (.int pb), .val (.int cz), .val (.int (3 : Int32)), .val (.int pd_), .val (.ref ti), .val (.ref tv)] [(.double (FP.l2d (p5.toInt64))), (.int (3 : Int32)), (.ref tv)])) rfl rfl (hb hby at_349)
      replace V_tv := Arv.set Ar19 q191 q192 q193 q194 q195 rfl W19 3 rfl (Nat.le_of_ble_eq_true rfl)
      have V_tv : Arv Z h19 tv kv .double (4 : Int32) [(.double (FP.l2d va)), (.double (FP.l2d vb)), (.double (FP.l2d vc)), (.double (FP.l2d (p5.toInt64)))] (.double (0 : UInt64)) := V_tv
      replace Z0 := Nat.le_trans Z0 (Keep.of_wr W19).1
      replace E_a1 := E_a1.wr W19
      replace F_discounts := F_discounts.other W19 (Or.inl ne9.2.2.2.2.1)
      replace F_leaves := F_leaves.other W19 (Or.inl ne9.2.2.2.2.1)
      replace F_count := F_count.other W19 (Or.inl ne9.2.2.2.2.1)
      replace F_worth := F_worth.other W19 (Or.inl ne9.2.2.2.2.1)
      replace V_td := V_td.other W19 ne9.2.2.2.2.2.1
      replace V_ti := V_ti.other W19 ne9.2.2.2.2.2.2.2.2
      replace Vc17 := Vc17.other W19 ne9.2.2.2.2.2.2.1
      replace Vw17 := Vw17.other W19 ne9.2.2.2.2.2.2.2.1
      have N19 := Fr.snoc X19 N18 g_tv
      refine Go.st (pc' := 350) (S' := []) st19 ?_
      refine Go.st (pc' := 352) (S' := [(.int (1 : Int32))]) (fun t_ k_ => XS.iload X19.here hx rfl (hb hby at_350) rfl k_) ?_
      refine Go.st (pc' := 355) (S' := []) (fun t_ k_ => XS.ifNo X19.here hx rfl (hb hby at_352) rfl ((if0 _ _).trans (feq (by decide : ¬ ((1 : Int32) = (0 : Int32)))).1) k_) ?_
      refine Go.st (pc' := 357) (S' := [(.ref a1)]) (fun t_ k_ => XS.aload X19.here hx rfl (hb hby at_355) rfl rfl k_) ?_
      obtain ⟨cq20, kq20, q20a, q20b, q20c⟩ := isOf hZ e19 E_a1
      obtain ⟨_, _, ⟨T20, L20, k20, n20⟩, -, X20, ⟨Lc20, hQ20, l20, y20, z20⟩, st20⟩ := X19.virtualBack hx (y := (⟨"com/example/placewright/placewright/GrowingRanks", "value", "()D"⟩ : MethodName)) (z := (⟨"com/example/placewright/placewright/GrowingRanks", "value", "()D"⟩ : MethodName)) hown (mvT hZ (wd hw 19 rfl)) (mvT hZ (wd hw 20 rfl)) (notFace_of_selects (args := #[]) (mvT hZ (wd hw 22 rfl))) (mvT hZ (wd hw 22 rfl)) (mvT hZ (wd hw 21 rfl)) (by decide) (backOf (W := 0) (rmval l Z a0 hw [] a1 tw _ (0 : UInt64) (FP.l2d ((va + (own_e q ba) * vb) + (own_e q (ba + bb)) * (vc + (own_e q bc) * (p5.toInt64)))) (FP.l2d (va + (own_e q ba) * vb)) (FP.l2d (vc + (own_e q bc) * (p5.toInt64))) (FP.l2d va) (FP.l2d vb) (FP.l2d vc) (FP.l2d (p5.toInt64)) h19 n0 Z0 F_worth Vw17) hZ (wd hw 23 rfl) (wd hw 3 rfl) (by decide) (by decide)) q20a q20c (g := (mkF m 357 #[.val (.int p1), .val (.int p2), .val (.int p3), .val (.int p4), .val (.int p5), .val (.int p6), .val (.double (FP.l2d q)), .second, .val (.int kk_), .val (.ref td), .val (.ref a1), .val (.int (1 : Int32)), .val (.ref ta), .val (.int rr), .val (.int cx), .val (.int pa), .val (.int cy), .val (.int pb), .val (.int cz), .val (.int (3 : Int32)), .val (.int pd_), .val (.ref ti), .val (.ref tv)] [(.ref a1)])) rfl (by rw [hml]; rfl) (Steps.refl _) (argsL := []) (rest := []) (lenOf pd_1 rfl) rfl (by show 2 * 0 + _ ≤ _; exact Nat.le_of_eq rfl) (hb hby at_357) (fun _ _ => ⟨rfl, e19, (by decide : 7 + 0 ≤ _), (by decide : 40 + 0 ≤ _)⟩)
      dsimp only [Pt.U, Pt.locs, Pt.cells, Pt.slots] at X20 l20 y20 z20 st20 hQ20
      subst l20 y20 z20
      obtain ⟨rfl, N20q, e20⟩ := hQ20
      have N20 := Fr.app N19 N20q
      refine Go.tr (pc' := 360) (S' := [(.double (FP.l2d ((va + (own_e q ba) * vb) + (own_e q (ba + bb)) * (vc + (own_e q bc) * (p5.toInt64)))))]) st20 ?_
      refine Go.st (pc' := 362) (S' := [(.ref ti), (.double (FP.l2d ((va + (own_e q ba) * vb) + (own_e q (ba + bb)) * (vc + (own_e q bc) * (p5.toInt64)))))]) (fun t_ k_ => XS.aload X20.here hx rfl (hb hby at_360) rfl rfl k_) ?_
      refine Go.st (pc' := 364) (S' := [(.ref tv), (.ref ti), (.double (FP.l2d ((va + (own_e q ba) * vb) + (own_e q (ba + bb)) * (vc + (own_e q bc) * (p5.toInt64)))))]) (fun t_ k_ => XS.aload X20.here hx rfl (hb hby at_362) rfl rfl k_) ?_
      refine Go.st (pc' := 366) (S' := [(.ref td), (.ref tv), (.ref ti), (.double (FP.l2d ((va + (own_e q ba) * vb) + (own_e q (ba + bb)) * (vc + (own_e q bc) * (p5.toInt64)))))]) (fun t_ k_ => XS.aload X20.here hx rfl (hb hby at_364) rfl rfl k_) ?_
      obtain ⟨_, _, ⟨T21, L21, k21, n21⟩, -, X21, ⟨Lc21, hQ21, l21, y21, z21⟩, st21⟩ := Jvm.LawKit.callS X20 hx (y := (⟨"com/example/placewright/placewright/GrowingRanksAddPinLaw", "ref", "([Z[D[D)D"⟩ : MethodName)) hown (mvT hZ (wd hw 35 rfl)) (mvT hZ (wd hw 36 rfl)) (mvT hZ (wd hw 37 rfl)) (mvT hZ (wd hw 38 rfl)) (by decide) (backOf (W := 2) (rmref l Z a0 hw [] ti tv td _ _ _ q va vb vc (p5.toInt64) ba bb bc (1 : Int32) h19 n0 Z0 V_ti V_tv V_td hq hva hvb hvc (own_ib p5)) hZ (wd hw 38 rfl) (wd hw 37 rfl) (by decide) (by decide)) (g := (mkF m 366 #[.val (.int p1), .val (.int p2), .val (.int p3), .val (.int p4), .val (.int p5), .val (.int p6), .val (.double (FP.l2d q)), .second, .val (.int kk_), .val (.ref td), .val (.ref a1), .val (.int (1 : Int32)), .val (.ref ta), .val (.int rr), .val (.int cx), .val (.int pa), .val (.int cy), .val (.int pb), .val (.int cz), .val (.int (3 : Int32)), .val (.int pd_), .val (.ref ti), .val (.ref tv)] [(.ref td), (.ref tv), (.ref ti), (.double (FP.l2d ((va + (own_e q ba) * vb) + (own_e q (ba + bb)) * (vc + (own_e q bc) * (p5.toInt64)))))])) rfl (by rw [hml]; rfl) (argsL := [(.ref ti), (.ref tv), (.ref td)]) (rest := [(.double (FP.l2d ((va + (own_e q ba) * vb) + (own_e q (ba + bb)) * (vc + (own_e q bc) * (p5.toInt64)))))]) (lenOf pd_2 rfl) rfl (by show 2 * 0 + _ ≤ _; exact Nat.le_of_eq rfl) (hb hby at_366) (fun _ _ => ⟨rfl, e20, (by decide : 7 + 0 ≤ _), (by decide : 40 + 0 ≤ _)⟩)
      dsimp only [Pt.U, Pt.locs, Pt.cells, Pt.slots] at X21 l21 y21 z21 st21 hQ21
      subst l21 y21 z21
      obtain ⟨rfl, N21q, e21⟩ := hQ21
      have N21 := Fr.app N20 N21q
      refine Go.st (pc' := 369) (S' := [(.double (FP.l2d (own_fin0 q ba bb bc (1 : Int32) va vb vc (p5.toInt64) 0 0))), (.double (FP.l2d ((va + (own_e q ba) * vb) + (own_e q (ba + bb)) * (vc + (own_e q bc) * (p5.toInt64)))))]) st21 ?_
      refine Go.st (pc' := 370) (S' := [(.int (cmpValue (FP.dcmp (FP.l2d ((va + (own_e q ba) * vb) + (own_e q (ba + bb)) * (vc + (own_e q bc) * (p5.toInt64)))) (FP.l2d (own_fin0 q ba bb bc (1 : Int32) va vb vc (p5.toInt64) 0 0))) .l))]) (fun t_ k_ => XS.dcmpS X21.here hx rfl (hb hby at_369) rfl rfl k_) ?_
      refine Go.st (pc' := 373) (S' := []) (fun t_ k_ => XS.ifNo X21.here hx rfl (hb hby at_370) rfl ((if0 _ _).trans (teq (own_dc (own_same0 hba hbb hbc (Or.inr rfl)) : ((cmpValue (FP.dcmp (FP.l2d ((va + (own_e q ba) * vb) + (own_e q (ba + bb)) * (vc + (own_e q bc) * (p5.toInt64)))) (FP.l2d (own_fin0 q ba bb bc (1 : Int32) va vb vc (p5.toInt64) 0 0))) .l) = (0 : Int32)))).2) k_) ?_
      refine Go.st (pc' := 374) (S' := [(.int (1 : Int32))]) (fun t_ k_ => XS.iconst X21.here hx rfl (hb hby at_373) k_) ?_
      refine Go.st (pc' := 378) (S' := [(.int (1 : Int32))]) (fun t_ k_ => XS.goto X21.here hx rfl (pc0 := 374) (pc' := 378) rfl (hb hby at_374) (by decide) (by decide) k_) ?_
      refine Go.st (pc' := 380) (S' := []) (fun t_ k_ => XS.istore X21.here hx rfl (hb hby at_378) rfl (l' := #[.val (.int p1), .val (.int p2), .val (.int p3), .val (.int p4), .val (.int p5), .val (.int p6), .val (.double (FP.l2d q)), .second, .val (.int kk_), .val (.ref td), .val (.ref a1), .val (.int (1 : Int32)), .val (.ref ta), .val (.int rr), .val (.int cx), .val (.int pa), .val (.int cy), .val (.int pb), .val (.int cz), .val (.int (3 : Int32)), .val (.int pd_), .val (.ref ti), .val (.ref tv)]) rfl k_) ?_
      exact sl380 p1 p2 p3 p4 p5 p6 kk_ q a1 td tc tw _ _ _ ti tv _ _ cx cy cz pa pb (3 : Int32) pd_ ta rr ba bb bc (1 : Int32) va vb vc (p5.toInt64) (Stand.up X21 (by decide) (by decide)) hx hZ hw hby hml hown hnm hret hlk e21 N21 Z0 E_a1 F_discounts F_leaves F_count F_worth V_td Vc17 Vw17 ⟨ne5.1, ne5.2.1, ne5.2.2.1, ne5.2.2.2.1, ne5.2.2.2.2⟩ g_tc g_tw  V_ti V_tv ne9 g_ti g_tv hba hbb hbc (Or.inr rfl) hq hva hvb hvc (own_ib p5) hpm ⟨hf3.1, hf3.2.1, hf3.2.2.1, (fun z => absurd z.symm hpm.2.2.2.2.2.2.2.2.2)⟩

theorem sl262 {p : Program} {l : Launch} {e : Env} {s : State} {m : MethodId} {args : Array Value} {below : List Frame} {meth : Method} {c : Code} {T0 : State} {locs : List Loc} {Z : State} {a0 : Array Value} {n0 : Nat} {h0 hh : Heap} (p1 p2 p3 p4 p5 p6 kk_ : Int32) (q : Int64) (a1 td tc tw : Addr) (kd kc kw : ClassId) (ti tv : Addr) (ki kv : ClassId) (cx cy cz pa pb pc_ pd_ : Int32) (ta : Addr) (rr : Int32) (ba bb bc bd : Int32) (va vb vc vd : Int64)
    (X0 : Stand p l e room_1 s m args below meth c T0 locs 7 40) (hx : p.tables.exec = Jvm.exec) (hZ : Z.Warmed39 s.vm) (hw : ∀ d ∈ tables_1, d.before a0 Z = true) (hby : c.code = code) (hml : c.maxLocals = 23) (hown : s.vm.findClass "com/example/placewright/placewright/GrowingRanksAddPinLaw" = some m.cls) (hnm : meth.name = "law") (hret : meth.sig.returnType = (some .boolean)) (hlk : meth.locks = false) (e0 : T0.heap = hh) (N0 : Fr n0 locs) (Z0 : n0 ≤ hh.size) (E_a1 : Exa Z hh a1 "com/example/placewright/placewright/GrowingRanks") (F_discounts : Fld Z hh a1 "com/example/placewright/placewright/GrowingRanks" "discounts" "[D" (.ref td)) (F_leaves : Fld Z hh a1 "com/example/placewright/placewright/GrowingRanks" "leaves" "I" (.int (4 : Int32))) (F_count : Fld Z hh a1 "com/example/placewright/placewright/GrowingRanks" "count" "[I" (.ref tc)) (F_worth : Fld Z hh a1 "com/example/placewright/placewright/GrowingRanks" "worth" "[D" (.ref tw)) (V_td : Arv Z hh td kd .double (5 : Int32) [(.double (FP.l2d 1)), (.double (FP.l2d q)), (.double (FP.l2d (q * q))), (.double (FP.l2d ((q * q) * q))), (.double (FP.l2d (((q * q) * q) * q)))] (.double (0 : UInt64))) (V_tc : Arv Z hh tc kc .int (8 : Int32) [(.int (0 : Int32)), (.int ((ba + bb) + (bc + bd))), (.int (ba + bb)), (.int (bc + bd)), (.int ba), (.int bb), (.int bc), (.int bd)] (.int (0 : Int32))) (V_tw : Arv Z hh tw kw .double (8 : Int32) [(.double (0 : UInt64)), (.double (FP.l2d ((va + (own_e q ba) * vb) + (own_e q (ba + bb)) * (vc + (own_e q bc) * vd)))), (.double (FP.l2d (va + (own_e q ba) * vb))), (.double (FP.l2d (vc + (own_e q bc) * vd))), (.double (FP.l2d va)), (.double (FP.l2d vb)), (.double (FP.l2d vc)), (.double (FP.l2d vd))] (.double (0 : UInt64))) (ne5 : a1 ≠ tc ∧ a1 ≠ tw ∧ tc ≠ tw ∧ td ≠ tc ∧ td ≠ tw) (g_tc : n0 ≤ tc) (g_tw : n0 ≤ tw) (V_ti : Arv Z hh ti ki .boolean (4 : Int32) [(.int ba), (.int bb), (.int bc), (.int bd)] (.int (0 : Int32))) (V_tv : Arv Z hh tv kv .double (4 : Int32) [(.double (FP.l2d va)), (.double (FP.l2d vb)), (.double (FP.l2d vc)), (.double (FP.l2d vd))] (.double (0 : UInt64))) (ne9 : own_ne9 a1 td tc tw ti tv) (g_ti : n0 ≤ ti) (g_tv : n0 ≤ tv) (hba : (ba = 0 ∧ va = 0) ∨ ba = 1) (hbb : (bb = 0 ∧ vb = 0) ∨ bb = 1) (hbc : (bc = 0 ∧ vc = 0) ∨ bc = 1) (hbd : (bd = 0 ∧ vd = 0) ∨ bd = 1) (hq : own_b 4 q) (hva : own_b 2147483648 va) (hvb : own_b 2147483648 vb) (hvc : own_b 2147483648 vc) (hvd : own_b 2147483648 vd) (hpm : own_pm pa pb pc_ pd_) (hf1 : own_fr pb ba bb bc bd) (hf2 : own_fr pc_ ba bb bc bd) (hf3 : own_fr pd_ ba bb bc bd) :
    Go p e below s room_1.cells room_1.slots (Q0 Z h0 n0) m T0 262 #[.val (.int p1), .val (.int p2), .val (.int p3), .val (.int p4), .val (.int p5), .val (.int p6), .val (.double (FP.l2d q)), .second, .val (.int kk_), .val (.ref td), .val (.ref a1), .val (.int (1 : Int32)), .val (.ref ta), .val (.int rr), .val (.int cx), .val (.int pa), .val (.int cy), .val (.int pb), .val (.int cz), .val (.int pc_), .val (.int pd_), .val (.ref ti), .val (.ref tv)] [] := by
  refine Go.st (pc' := 264) (S' := [(.int kk_)]) (fun t_ k_ => XS.iload X0.here hx rfl (hb hby at_262) rfl k_) ?_
  refine Go.st (pc' := 265) (S' := [(.int (2 : Int32)), (.int kk_)]) (fun t_ k_ => XS.iconst X0.here hx rfl (hb hby at_264) k_) ?_
  by_cases hc265_1 : kk_ < (2 : Int32)
  · refine Go.st (pc' := 320) (S' := []) (fun t_ k_ => XS.icmpYes X0.here hx rfl (pc0 := 265) (pc' := 320) rfl (hb hby at_265) rfl (tlt hc265_1).1 (by decide) (by decide) k_) ?_
    exact sl320 p1 p2 p3 p4 p5 p6 kk_ q a1 td tc tw _ _ _ ti tv _ _ cx cy cz pa pb pc_ pd_ ta rr ba bb bc bd va vb vc vd (Stand.up X0 (by decide) (by decide)) hx hZ hw hby hml hown hnm hret hlk e0 N0 Z0 E_a1 F_discounts F_leaves F_count F_worth V_td V_tc V_tw ⟨ne5.1, ne5.2.1, ne5.2.2.1, ne5.2.2.2.1, ne5.2.2.2.2⟩ g_tc g_tw  V_ti V_tv ne9 g_ti g_tv hba hbb hbc hbd hq hva hvb hvc hvd hpm hf2 hf3
  · refine Go.st (pc' := 268) (S' := []) (fun t_ k_ => XS.icmpNo X0.here hx rfl (hb hby at_265) rfl (flt hc265_1).1 k_) ?_
    rcases hpm.2.1 with rfl | rfl | rfl | rfl
    · have z_ := (hf1).1 rfl
      subst z_
      have zv_ : va = 0 := hba.elim And.right (fun z => absurd z (by decide))
      subst zv_
      have hbb_ := own_01 hbb
      have hbc_ := own_01 hbc
      have hbd_ := own_01 hbd
      refine Go.st (pc' := 270) (S' := [(.ref a1)]) (fun t_ k_ => XS.aload X0.here hx rfl (hb hby at_268) rfl rfl k_) ?_
      refine Go.st (pc' := 272) (S' := [(.int (0 : Int32)), (.ref a1)]) (fun t_ k_ => XS.iload X0.here hx rfl (hb hby at_270) rfl k_) ?_
      refine Go.st (pc' := 273) (S' := [(.int p4), (.int (0 : Int32)), (.ref a1)]) (fun t_ k_ => XS.iloadN X0.here hx rfl (hb hby at_272) rfl k_) ?_
      refine Go.st (pc' := 274) (S' := [(.double (FP.l2d (p4.toInt64))), (.int (0 : Int32)), (.ref a1)]) (fun t_ k_ => XS.i2dS X0.here hx rfl (hb hby at_273) rfl (i2d_w _) k_) ?_
      obtain ⟨cq2, kq2, q2a, q2b, q2c⟩ := isOf hZ e0 E_a1
      obtain ⟨_, _, ⟨T2, L2, k2, n2⟩, -, X2, ⟨Lc2, hQ2, l2, y2, z2⟩, st2⟩ := X0.virtualBack hx (y := (⟨"com/example/placewright/placewright/GrowingRanks", "add", "(ID)V"⟩ : MethodName)) (z := (⟨"com/example/placewright/placewright/GrowingRanks", "add", "(ID)V"⟩ : MethodName)) hown (mvT hZ (wd hw 26 rfl)) (mvT hZ (wd hw 27 rfl)) (notFace_of_selects (args := #[]) (mvT hZ (wd hw 29 rfl))) (mvT hZ (wd hw 29 rfl)) (mvT hZ (wd hw 28 rfl)) (by decide) (backOf (W := 0) (rmadd0 l Z a0 hw [] a1 td tc tw _ _ _ q (p4.toInt64) (0 : Int64) vb vc vd bb bc bd hh n0 Z0 E_a1 F_discounts F_leaves F_count F_worth V_td V_tc V_tw ⟨ne5.1, ne5.2.1, ne5.2.2.1, ne5.2.2.2.1, ne5.2.2.2.2⟩ g_tc g_tw hq (own_ib p4) own_z0' hvb hvc hvd hbb_ hbc_ hbd_) hZ (wd hw 30 rfl) (wd hw 3 rfl) (by decide) (by decide)) q2a q2c (g := (mkF m 274 #[.val (.int p1), .val (.int p2), .val (.int p3), .val (.int p4), .val (.int p5), .val (.int p6), .val (.double (FP.l2d q)), .second, .val (.int kk_), .val (.ref td), .val (.ref a1), .val (.int (1 : Int32)), .val (.ref ta), .val (.int rr), .val (.int cx), .val (.int pa), .val (.int cy), .val (.int (0 : Int32)), .val (.int cz), .val (.int pc_), .val (.int pd_), .val (.ref ti), .val (.ref tv)] [(.double (FP.l2d (p4.toInt64))), (.int (0 : Int32)), (.ref a1)])) rfl (by rw [hml]; rfl) (Steps.refl _) (argsL := [(.int (0 : Int32)), (.double (FP.l2d (p4.toInt64)))]) (rest := []) (lenOf pd_0 rfl) rfl (by show 2 * 0 + _ ≤ _; exact Nat.le_of_eq rfl) (hb hby at_274) (fun _ _ => ⟨rfl, e0, (by decide : 7 + 0 ≤ _), (by decide : 40 + 0 ≤ _)⟩)
      dsimp only [Pt.U, Pt.locs, Pt.cells, Pt.slots] at X2 l2 y2 z2 st2 hQ2
      subst l2 y2 z2
      obtain ⟨rfl, N2q, K2, Vc2, Vw2⟩ := hQ2
      have N2 := Fr.app N0 N2q
      obtain ⟨h2, e2⟩ : ∃ z, T2.heap = z := ⟨_, rfl⟩
      rw [e2] at K2 Vc2 Vw2
      replace Z0 := Nat.le_trans Z0 K2.1
      replace E_a1 := E_a1.keep K2
      replace F_discounts := F_discounts.keep K2 (ninS ne5.1 (ninS ne5.2.1 nin0))
      replace F_leaves := F_leaves.keep K2 (ninS ne5.1 (ninS ne5.2.1 nin0))
      replace F_count := F_count.keep K2 (ninS ne5.1 (ninS ne5.2.1 nin0))
      replace F_worth := F_worth.keep K2 (ninS ne5.1 (ninS ne5.2.1 nin0))
      replace V_td := V_td.keep K2 (ninS ne5.2.2.2.1 (ninS ne5.2.2.2.2 nin0))
      replace V_ti := V_ti.keep K2 (ninS (Ne.symm ne9.2.2.1) (ninS (Ne.symm ne9.2.2.2.1) nin0))
      replace V_tv := V_tv.keep K2 (ninS (Ne.symm ne9.2.2.2.2.2.2.1) (ninS (Ne.symm ne9.2.2.2.2.2.2.2.1) nin0))
      refine Go.tr (pc' := 277) (S' := []) st2 ?_
      refine Go.st (pc' := 279) (S' := [(.ref ti)]) (fun t_ k_ => XS.aload X2.here hx rfl (hb hby at_277) rfl rfl k_) ?_
      refine Go.st (pc' := 281) (S' := [(.int (0 : Int32)), (.ref ti)]) (fun t_ k_ => XS.iload X2.here hx rfl (hb hby at_279) rfl k_) ?_
      refine Go.st (pc' := 282) (S' := [(.int (1 : Int32)), (.int (0 : Int32)), (.ref ti)]) (fun t_ k_ => XS.iconst X2.here hx rfl (hb hby at_281) k_) ?_
      obtain ⟨cl3, Ar3, q31, q32, q33, q34, q35⟩ := V_ti
      obtain ⟨T3, h3, X3, e3, W3, st3⟩ := stZ X2 hx hZ e2 Ar3 (j := (0 : Int32)) (inb_of q32 ⟨by decide, by decide⟩) (g := (mkF m 282 #[.val (.int p1), .val (.int p2), .val (.int p3), .val (.int p4), .val (.int p5), .val (.int p6), .val (.double (FP.l2d q)), .second, .val (.int kk_), .val (.ref td), .val (.ref a1), .val (.int (1 : Int32)), .val (.ref ta), .val (.int rr), .val (.int cx), .val (.int pa), .val (.int cy), .val (.int (0 : Int32)), .val (.int cz), .val (.int pc_), .val (.int pd_), .val (.ref ti), .val (.ref tv)] [(.int (1 : Int32)), (.int (0 : Int32)), (.ref ti)])) rfl rfl (hb hby at_282)
      replace V_ti := Arv.set Ar3 q31 q32 q33 q34 q35 (fits_nar_bool _) W3 0 rfl (Nat.le_of_ble_eq_true rfl)
      have V_ti : Arv Z h3 ti ki .boolean (4 : Int32) [(.int (nar .boolean (1 : Int32))), (.int bb), (.int bc), (.int bd)] (.int (0 : Int32)) := V_ti
      replace Z0 := Nat.le_trans Z0 (Keep.of_wr W3).1
      replace E_a1 := E_a1.wr W3
      replace F_discounts := F_discounts.other W3 (Or.inl ne9.1)
      replace F_leaves := F_leaves.other W3 (Or.inl ne9.1)
      replace F_count := F_count.other W3 (Or.inl ne9.1)
      replace F_worth := F_worth.other W3 (Or.inl ne9.1)
      replace V_td := V_td.other W3 ne9.2.1
      replace V_tv := V_tv.other W3 (Ne.symm ne9.2.2.2.2.2.2.2.2)
      replace Vc2 := Vc2.other W3 ne9.2.2.1
      replace Vw2 := Vw2.other W3 ne9.2.2.2.1
      have N3 := Fr.snoc X3 N2 g_ti
      refine Go.st (pc' := 283) (S' := []) st3 ?_
      refine Go.st (pc' := 285) (S' := [(.ref tv)]) (fun t_ k_ => XS.aload X3.here hx rfl (hb hby at_283) rfl rfl k_) ?_
      refine Go.st (pc' := 287) (S' := [(.int (0 : Int32)), (.ref tv)]) (fun t_ k_ => XS.iload X3.here hx rfl (hb hby at_285) rfl k_) ?_
      refine Go.st (pc' := 288) (S' := [(.int p4), (.int (0 : Int32)), (.ref tv)]) (fun t_ k_ => XS.iloadN X3.here hx rfl (hb hby at_287) rfl k_) ?_
      refine Go.st (pc' := 289) (S' := [(.double (FP.l2d (p4.toInt64))), (.int (0 : Int32)), (.ref tv)]) (fun t_ k_ => XS.i2dS X3.here hx rfl (hb hby at_288) rfl (i2d_w _) k_) ?_
      obtain ⟨cl4, Ar4, q41, q42, q43, q44, q45⟩ := V_tv
      obtain ⟨T4, h4, X4, e4, W4, st4⟩ := stD X3 hx hZ e3 Ar4 (j := (0 : Int32)) (inb_of q42 ⟨by decide, by decide⟩) (g := (mkF m 289 #[.val (.int p1), .val (.int p2), .val (.int p3), .val (.int p4), .val (.int p5), .val (.int p6), .val (.double (FP.l2d q)), .second, .val (.int kk_), .val (.ref td), .val (.ref a1), .val (.int (1 : Int32)), .val (.ref ta), .val (.int rr), .val (.int cx), .val (.int pa), .val (.int cy), .val (.int (0 : Int32)), .val (.int cz), .val (.int pc_), .val (.int pd_), .val (.ref ti), .val (.ref tv)] [(.double (FP.l2d (p4.toInt64))), (.int (0 : Int32)), (.ref tv)])) rfl rfl (hb hby at_289)
      replace V_tv := Arv.set Ar4 q41 q42 q43 q44 q45 rfl W4 0 rfl (Nat.le_of_ble_eq_true rfl)
      have V_tv : Arv Z h4 tv kv .double (4 : Int32) [(.double (FP.l2d (p4.toInt64))), (.double (FP.l2d vb)), (.double (FP.l2d vc)), (.double (FP.l2d vd))] (.double (0 : UInt64)) := V_tv
      replace Z0 := Nat.le_trans Z0 (Keep.of_wr W4).1
      replace E_a1 := E_a1.wr W4
      replace F_discounts := F_discounts.other W4 (Or.inl ne9.2.2.2.2.1)
      replace F_leaves := F_leaves.other W4 (Or.inl ne9.2.2.2.2.1)
      replace F_count := F_count.other W4 (Or.inl ne9.2.2.2.2.1)
      replace F_worth := F_worth.other W4 (Or.inl ne9.2.2.2.2.1)
      replace V_td := V_td.other W4 ne9.2.2.2.2.2.1
      replace V_ti := V_ti.other W4 ne9.2.2.2.2.2.2.2.2
      replace Vc2 := Vc2.other W4 ne9.2.2.2.2.2.2.1
      replace Vw2 := Vw2.other W4 ne9.2.2.2.2.2.2.2.1
      have N4 := Fr.snoc X4 N3 g_tv
      refine Go.st (pc' := 290) (S' := []) st4 ?_
      refine Go.st (pc' := 292) (S' := [(.int (1 : Int32))]) (fun t_ k_ => XS.iload X4.here hx rfl (hb hby at_290) rfl k_) ?_
      refine Go.st (pc' := 295) (S' := []) (fun t_ k_ => XS.ifNo X4.here hx rfl (hb hby at_292) rfl ((if0 _ _).trans (feq (by decide : ¬ ((1 : Int32) = (0 : Int32)))).1) k_) ?_
      refine Go.st (pc' := 297) (S' := [(.ref a1)]) (fun t_ k_ => XS.aload X4.here hx rfl (hb hby at_295) rfl rfl k_) ?_
      obtain ⟨cq5, kq5, q5a, q5b, q5c⟩ := isOf hZ e4 E_a1
      obtain ⟨_, _, ⟨T5, L5, k5, n5⟩, -, X5, ⟨Lc5, hQ5, l5, y5, z5⟩, st5⟩ := X4.virtualBack hx (y := (⟨"com/example/placewright/placewright/GrowingRanks", "value", "()D"⟩ : MethodName)) (z := (⟨"com/example/placewright/placewright/GrowingRanks", "value", "()D"⟩ : MethodName)) hown (mvT hZ (wd hw 19 rfl)) (mvT hZ (wd hw 20 rfl)) (notFace_of_selects (args := #[]) (mvT hZ (wd hw 22 rfl))) (mvT hZ (wd hw 22 rfl)) (mvT hZ (wd hw 21 rfl)) (by decide) (backOf (W := 0) (rmval l Z a0 hw [] a1 tw _ (0 : UInt64) (FP.l2d (((p4.toInt64) + (own_e q (1 : Int32)) * vb) + (own_e q ((1 : Int32) + bb)) * (vc + (own_e q bc) * vd))) (FP.l2d ((p4.toInt64) + (own_e q (1 : Int32)) * vb)) (FP.l2d (vc + (own_e q bc) * vd)) (FP.l2d (p4.toInt64)) (FP.l2d vb) (FP.l2d vc) (FP.l2d vd) h4 n0 Z0 F_worth Vw2) hZ (wd hw 23 rfl) (wd hw 3 rfl) (by decide) (by decide)) q5a q5c (g := (mkF m 297 #[.val (.int p1), .val (.int p2), .val (.int p3), .val (.int p4), .val (.int p5), .val (.int p6), .val (.double (FP.l2d q)), .second, .val (.int kk_), .val (.ref td), .val (.ref a1), .val (.int (1 : Int32)), .val (.ref ta), .val (.int rr), .val (.int cx), .val (.int pa), .val (.int cy), .val (.int (0 : Int32)), .val (.int cz), .val (.int pc_), .val (.int pd_), .val (.ref ti), .val (.ref tv)] [(.ref a1)])) rfl (by rw [hml]; rfl) (Steps.refl _) (argsL := []) (rest := []) (lenOf pd_1 rfl) rfl (by show 2 * 0 + _ ≤ _; exact Nat.le_of_eq rfl) (hb hby at_297) (fun _ _ => ⟨rfl, e4, (by decide : 7 + 0 ≤ _), (by decide : 40 + 0 ≤ _)⟩)
      dsimp only [Pt.U, Pt.locs, Pt.cells, Pt.slots] at X5 l5 y5 z5 st5 hQ5
      subst l5 y5 z5
      obtain ⟨rfl, N5q, e5⟩ := hQ5
      have N5 := Fr.app N4 N5q
      refine Go.tr (pc' := 300) (S' := [(.double (FP.l2d (((p4.toInt64) + (own_e q (1 : Int32)) * vb) + (own_e q ((1 : Int32) + bb)) * (vc + (own_e q bc) * vd))))]) st5 ?_
      refine Go.st (pc' := 302) (S' := [(.ref ti), (.double (FP.l2d (((p4.toInt64) + (own_e q (1 : Int32)) * vb) + (own_e q ((1 : Int32) + bb)) * (vc + (own_e q bc) * vd))))]) (fun t_ k_ => XS.aload X5.here hx rfl (hb hby at_300) rfl rfl k_) ?_
      refine Go.st (pc' := 304) (S' := [(.ref tv), (.ref ti), (.double (FP.l2d (((p4.toInt64) + (own_e q (1 : Int32)) * vb) + (own_e q ((1 : Int32) + bb)) * (vc + (own_e q bc) * vd))))]) (fun t_ k_ => XS.aload X5.here hx rfl (hb hby at_302) rfl rfl k_) ?_
      refine Go.st (pc' := 306) (S' := [(.ref td), (.ref tv), (.ref ti), (.double (FP.l2d (((p4.toInt64) + (own_e q (1 : Int32)) * vb) + (own_e q ((1 : Int32) + bb)) * (vc + (own_e q bc) * vd))))]) (fun t_ k_ => XS.aload X5.here hx rfl (hb hby at_304) rfl rfl k_) ?_
      obtain ⟨_, _, ⟨T6, L6, k6, n6⟩, -, X6, ⟨Lc6, hQ6, l6, y6, z6⟩, st6⟩ := Jvm.LawKit.callS X5 hx (y := (⟨"com/example/placewright/placewright/GrowingRanksAddPinLaw", "ref", "([Z[D[D)D"⟩ : MethodName)) hown (mvT hZ (wd hw 35 rfl)) (mvT hZ (wd hw 36 rfl)) (mvT hZ (wd hw 37 rfl)) (mvT hZ (wd hw 38 rfl)) (by decide) (backOf (W := 2) (rmref l Z a0 hw [] ti tv td _ _ _ q (p4.toInt64) vb vc vd (1 : Int32) bb bc bd h4 n0 Z0 V_ti V_tv V_td hq (own_ib p4) hvb hvc hvd) hZ (wd hw 38 rfl) (wd hw 37 rfl) (by decide) (by decide)) (g := (mkF m 306 #[.val (.int p1), .val (.int p2), .val (.int p3), .val (.int p4), .val (.int p5), .val (.int p6), .val (.double (FP.l2d q)), .second, .val (.int kk_), .val (.ref td), .val (.ref a1), .val (.int (1 : Int32)), .val (.ref ta), .val (.int rr), .val (.int cx), .val (.int pa), .val (.int cy), .val (.int (0 : Int32)), .val (.int cz), .val (.int pc_), .val (.int pd_), .val (.ref ti), .val (.ref tv)] [(.ref td), (.ref tv), (.ref ti), (.double (FP.l2d (((p4.toInt64) + (own_e q (1 : Int32)) * vb) + (own_e q ((1 : Int32) + bb)) * (vc + (own_e q bc) * vd))))])) rfl (by rw [hml]; rfl) (argsL := [(.ref ti), (.ref tv), (.ref td)]) (rest := [(.double (FP.l2d (((p4.toInt64) + (own_e q (1 : Int32)) * vb) + (own_e q ((1 : Int32) + bb)) * (vc + (own_e q bc) * vd))))]) (lenOf pd_2 rfl) rfl (by show 2 * 0 + _ ≤ _; exact Nat.le_of_eq rfl) (hb hby at_306) (fun _ _ => ⟨rfl, e5, (by decide : 7 + 0 ≤ _), (by decide : 40 + 0 ≤ _)⟩)
      dsimp only [Pt.U, Pt.locs, Pt.cells, Pt.slots] at X6 l6 y6 z6 st6 hQ6
      subst l6 y6 z6
      obtain ⟨rfl, N6q, e6⟩ := hQ6
      have N6 := Fr.app N5 N6q
      refine Go.st (pc' := 309) (S' := [(.double (FP.l2d (own_fin0 q (1 : Int32) bb bc bd (p4.toInt64) vb vc vd 0 0))), (.double (FP.l2d (((p4.toInt64) + (own_e q (1 : Int32)) * vb) + (own_e q ((1 : Int32) + bb)) * (vc + (own_e q bc) * vd))))]) st6 ?_
      refine Go.st (pc' := 310) (S' := [(.int (cmpValue (FP.dcmp (FP.l2d (((p4.toInt64) + (own_e q (1 : Int32)) * vb) + (own_e q ((1 : Int32) + bb)) * (vc + (own_e q bc) * vd))) (FP.l2d (own_fin0 q (1 : Int32) bb bc bd (p4.toInt64) vb vc vd 0 0))) .l))]) (fun t_ k_ => XS.dcmpS X6.here hx rfl (hb hby at_309) rfl rfl k_) ?_
      refine Go.st (pc' := 313) (S' := []) (fun t_ k_ => XS.ifNo X6.here hx rfl (hb hby at_310) rfl ((if0 _ _).trans (teq (own_dc (own_same0 (Or.inr rfl) hbb hbc hbd) : ((cmpValue (FP.dcmp (FP.l2d (((p4.toInt64) + (own_e q (1 : Int32)) * vb) + (own_e q ((1 : Int32) + bb)) * (vc + (own_e q bc) * vd))) (FP.l2d (own_fin0 q (1 : Int32) bb bc bd (p4.toInt64) vb vc vd 0 0))) .l) = (0 : Int32)))).2) k_) ?_
      refine Go.st (pc' := 314) (S' := [(.int (1 : Int32))]) (fun t_ k_ => XS.iconst X6.here hx rfl (hb hby at_313) k_) ?_
      refine Go.st (pc' := 318) (S' := [(.int (1 : Int32))]) (fun t_ k_ => XS.goto X6.here hx rfl (pc0 := 314) (pc' := 318) rfl (hb hby at_314) (by decide) (by decide) k_) ?_
      refine Go.st (pc' := 320) (S' := []) (fun t_ k_ => XS.istore X6.here hx rfl (hb hby at_318) rfl (l' := #[.val (.int p1), .val (.int p2), .val (.int p3), .val (.int p4), .val (.int p5), .val (.int p6), .val (.double (FP.l2d q)), .second, .val (.int kk_), .val (.ref td), .val (.ref a1), .val (.int (1 : Int32)), .val (.ref ta), .val (.int rr), .val (.int cx), .val (.int pa), .val (.int cy), .val (.int (0 : Int32)), .val (.int cz), .val (.int pc_), .val (.int pd_), .val (.ref ti), .val (.ref tv)]) rfl k_) ?_
      exact sl320 p1 p2 p3 p4 p5 p6 kk_ q a1 td tc tw _ _ _ ti tv _ _ cx cy cz pa (0 : Int32) pc_ pd_ ta rr (1 : Int32) bb bc bd (p4.toInt64) vb vc vd (Stand.up X6 (by decide) (by decide)) hx hZ hw hby hml hown hnm hret hlk e6 N6 Z0 E_a1 F_discounts F_leaves F_count F_worth V_td Vc2 Vw2 ⟨ne5.1, ne5.2.1, ne5.2.2.1, ne5.2.2.2.1, ne5.2.2.2.2⟩ g_tc g_tw  V_ti V_tv ne9 g_ti g_tv (Or.inr rfl) hbb hbc hbd hq (own_ib p4) hvb hvc hvd hpm ⟨(fun z => absurd z.symm hpm.2.2.2.2.2.2.2.1), hf2.2.1, hf2.2.2.1, hf2.2.2.2⟩ ⟨(fun z => absurd z.symm hpm.2.2.2.2.2.2.2.2.1), hf3.2.1, hf3.2.2.1, hf3.2.2.2⟩
    · have z_ := (hf1).2.1 rfl
      subst z_
      have zv_ : vb = 0 := hbb.elim And.right (fun z => absurd z (by decide))
      subst zv_
      have hba_ := own_01 hba
      have hbc_ := own_01 hbc
      have hbd_ := own_01 hbd
      refine Go.st (pc' := 270) (S' := [(.ref a1)]) (fun t_ k_ => XS.aload X0.here hx rfl (hb hby at_268) rfl rfl k_) ?_
      refine Go.st (pc' := 272) (S' := [(.int (1 : Int32)), (.ref a1)]) (fun t_ k_ => XS.iload X0.here hx rfl (hb hby at_270) rfl k_) ?_
      refine Go.st (pc' := 273) (S' := [(.int p4), (.int (1 : Int32)), (.ref a1)]) (fun t_ k_ => XS.iloadN X0.here hx rfl (hb hby at_272) rfl k_) ?_
      refine Go.st (pc' := 274) (S' := [(.double (FP.l2d (p4.toInt64))), (.int (1 : Int32)), (.ref a1)]) (fun t_ k_ => XS.i2dS X0.here hx rfl (hb hby at_273) rfl (i2d_w _) k_) ?_
      obtain ⟨cq7, kq7, q7a, q7b, q7c⟩ := isOf hZ e0 E_a1
      obtain ⟨_, _, ⟨T7, L7, k7, n7⟩, -, X7, ⟨Lc7, hQ7, l7, y7, z7⟩, st7⟩ := X0.virtualBack hx (y := (⟨"com/example/placewright/placewright/GrowingRanks", "add", "(ID)V"⟩ : MethodName)) (z := (⟨"com/example/placewright/placewright/GrowingRanks", "add", "(ID)V"⟩ : MethodName)) hown (mvT hZ (wd hw 26 rfl)) (mvT hZ (wd hw 27 rfl)) (notFace_of_selects (args := #[]) (mvT hZ (wd hw 29 rfl))) (mvT hZ (wd hw 29 rfl)) (mvT hZ (wd hw 28 rfl)) (by decide) (backOf (W := 0) (rmadd1 l Z a0 hw [] a1 td tc tw _ _ _ q (p4.toInt64) va (0 : Int64) vc vd ba bc bd hh n0 Z0 E_a1 F_discounts F_leaves F_count F_worth V_td V_tc V_tw ⟨ne5.1, ne5.2.1, ne5.2.2.1, ne5.2.2.2.1, ne5.2.2.2.2⟩ g_tc g_tw hq (own_ib p4) hva own_z0' hvc hvd hba_ hbc_ hbd_) hZ (wd hw 30 rfl) (wd hw 3 rfl) (by decide) (by decide)) q7a q7c (g := (mkF m 274 #[.val (.int p1), .val (.int p2), .val (.int p3), .val (.int p4), .val (.int p5), .val (.int p6), .val (.double (FP.l2d q)), .second, .val (.int kk_), .val (.ref td), .val (.ref a1), .val (.int (1 : Int32)), .val (.ref ta), .val (.int rr), .val (.int cx), .val (.int pa), .val (.int cy), .val (.int (1 : Int32)), .val (.int cz), .val (.int pc_), .val (.int pd_), .val (.ref ti), .val (.ref tv)] [(.double (FP.l2d (p4.toInt64))), (.int (1 : Int32)), (.ref a1)])) rfl (by rw [hml]; rfl) (Steps.refl _) (argsL := [(.int (1 : Int32)), (.double (FP.l2d (p4.toInt64)))]) (rest := []) (lenOf pd_0 rfl) rfl (by show 2 * 0 + _ ≤ _; exact Nat.le_of_eq rfl) (hb hby at_274) (fun _ _ => ⟨rfl, e0, (by decide : 7 + 0 ≤ _), (by decide : 40 + 0 ≤ _)⟩)
      dsimp only [Pt.U, Pt.locs, Pt.cells, Pt.slots] at X7 l7 y7 z7 st7 hQ7
      subst l7 y7 z7
      obtain ⟨rfl, N7q, K7, Vc7, Vw7⟩ := hQ7
      have N7 := Fr.app N0 N7q
      obtain ⟨h7, e7⟩ : ∃ z, T7.heap = z := ⟨_, rfl⟩
      rw [e7] at K7 Vc7 Vw7
      replace Z0 := Nat.le_trans Z0 K7.1
      replace E_a1 := E_a1.keep K7
      replace F_discounts := F_discounts.keep K7 (ninS ne5.1 (ninS ne5.2.1 nin0))
      replace F_leaves := F_leaves.keep K7 (ninS ne5.1 (ninS ne5.2.1 nin0))
      replace F_count := F_count.keep K7 (ninS ne5.1 (ninS ne5.2.1 nin0))
      replace F_worth := F_worth.keep K7 (ninS ne5.1 (ninS ne5.2.1 nin0))
      replace V_td := V_td.keep K7 (ninS ne5.2.2.2.1 (ninS ne5.2.2.2.2 nin0))
      replace V_ti := V_ti.keep K7 (ninS (Ne.symm ne9.2.2.1) (ninS (Ne.symm ne9.2.2.2.1) nin0))
      replace V_tv := V_tv.keep K7 (ninS (Ne.symm ne9.2.2.2.2.2.2.1) (ninS (Ne.symm ne9.2.2.2.2.2.2.2.1) nin0))
      refine Go.tr (pc' := 277) (S' := []) st7 ?_
      refine Go.st (pc' := 279) (S' := [(.ref ti)]) (fun t_ k_ => XS.aload X7.here hx rfl (hb hby at_277) rfl rfl k_) ?_
      refine Go.st (pc' := 281) (S' := [(.int (1 : Int32)), (.ref ti)]) (fun t_ k_ => XS.iload X7.here hx rfl (hb hby at_279) rfl k_) ?_
      refine Go.st (pc' := 282) (S' := [(.int (1 : Int32)), (.int (1 : Int32)), (.ref ti)]) (fun t_ k_ => XS.iconst X7.here hx rfl (hb hby at_281) k_) ?_
      obtain ⟨cl8, Ar8, q81, q82, q83, q84, q85⟩ := V_ti
      obtain ⟨T8, h8, X8, e8, W8, st8⟩ := stZ X7 hx hZ e7 Ar8 (j := (1 : Int32)) (inb_of q82 ⟨by decide, by decide⟩) (g := (mkF m 282 #[.val (.int p1), .val (.int p2), .val (.int p3), .val (.int p4), .val (.int p5), .val (.int p6), .val (.double (FP.l2d q)), .second, .val (.int kk_), .val (.ref td), .val (.ref a1), .val (.int (1 : Int32)), .val (.ref ta), .val (.int rr), .val (.int cx), .val (.int pa), .val (.int cy), .val (.int (1 : Int32)), .val (.int cz), .val (.int pc_), .val (.int pd_), .val (.ref ti), .val (.ref tv)] [(.int (1 : Int32)), (.int (1 : Int32)), (.ref ti)])) rfl rfl (hb hby at_282)
      replace V_ti := Arv.set Ar8 q81 q82 q83 q84 q85 (fits_nar_bool _) W8 1 rfl (Nat.le_of_ble_eq_true rfl)
      have V_ti : Arv Z h8 ti ki .boolean (4 : Int32) [(.int ba), (.int (nar .boolean (1 : Int32))), (.int bc), (.int bd)] (.int (0 : Int32)) := V_ti
      replace Z0 := Nat.le_trans Z0 (Keep.of_wr W8).1
      replace E_a1 := E_a1.wr W8
      replace F_discounts := F_discounts.other W8 (Or.inl ne9.1)
      replace F_leaves := F_leaves.other W8 (Or.inl ne9.1)
      replace F_count := F_count.other W8 (Or.inl ne9.1)
      replace F_worth := F_worth.other W8 (Or.inl ne9.1)
      replace V_td := V_td.other W8 ne9.2.1
      replace V_tv := V_tv.other W8 (Ne.symm ne9.2.2.2.2.2.2.2.2)
      replace Vc7 := Vc7.other W8 ne9.2.2.1
      replace Vw7 := Vw7.other W8 ne9.2.2.2.1
      have N8 := Fr.snoc X8 N7 g_ti
      refine Go.st (pc' := 283) (S' := []) st8 ?_
      refine Go.st (pc' := 285) (S' := [(.ref tv)]) (fun t_ k_ => XS.aload X8.here hx rfl (hb hby at_283) rfl rfl k_) ?_
      refine Go.st (pc' := 287) (S' := [(.int (1 : Int32)), (.ref tv)]) (fun t_ k_ => XS.iload X8.here hx rfl (hb hby at_285) rfl k_) ?_
      refine Go.st (pc' := 288) (S' := [(.int p4), (.int (1 : Int32)), (.ref tv)]) (fun t_ k_ => XS.iloadN X8.here hx rfl (hb hby at_287) rfl k_) ?_
      refine Go.st (pc' := 289) (S' := [(.double (FP.l2d (p4.toInt64))), (.int (1 : Int32)), (.ref tv)]) (fun t_ k_ => XS.i2dS X8.here hx rfl (hb hby at_288) rfl (i2d_w _) k_) ?_
      obtain ⟨cl9, Ar9, q91, q92, q93, q94, q95⟩ := V_tv
      obtain ⟨T9, h9, X9, e9, W9, st9⟩ := stD X8 hx hZ e8 Ar9 (j := (1 : Int32)) (inb_of q92 ⟨by decide, by decide⟩) (g := (mkF m 289 #[.val (.int p1), .val (.int p2), .val (.int p3), .val (.int p4), .val (.int p5), .val (.int p6), .val (.double (FP.l2d q)), .second, .val (.int kk_), .val (.ref td), .val (.ref a1), .val (.int (1 : Int32)), .val (.ref ta), .val (.int rr), .val (.int cx), .val (.int pa), .val (.int cy), .val (.int (1 : Int32)), .val (.int cz), .val (.int pc_), .val (.int pd_), .val (.ref ti), .val (.ref tv)] [(.double (FP.l2d (p4.toInt64))), (.int (1 : Int32)), (.ref tv)])) rfl rfl (hb hby at_289)
      replace V_tv := Arv.set Ar9 q91 q92 q93 q94 q95 rfl W9 1 rfl (Nat.le_of_ble_eq_true rfl)
      have V_tv : Arv Z h9 tv kv .double (4 : Int32) [(.double (FP.l2d va)), (.double (FP.l2d (p4.toInt64))), (.double (FP.l2d vc)), (.double (FP.l2d vd))] (.double (0 : UInt64)) := V_tv
      replace Z0 := Nat.le_trans Z0 (Keep.of_wr W9).1
      replace E_a1 := E_a1.wr W9
      replace F_discounts := F_discounts.other W9 (Or.inl ne9.2.2.2.2.1)
      replace F_leaves := F_leaves.other W9 (Or.inl ne9.2.2.2.2.1)
      replace F_count := F_count.other W9 (Or.inl ne9.2.2.2.2.1)
      replace F_worth := F_worth.other W9 (Or.inl ne9.2.2.2.2.1)
      replace V_td := V_td.other W9 ne9.2.2.2.2.2.1
      replace V_ti := V_ti.other W9 ne9.2.2.2.2.2.2.2.2
      replace Vc7 := Vc7.other W9 ne9.2.2.2.2.2.2.1
      replace Vw7 := Vw7.other W9 ne9.2.2.2.2.2.2.2.1
      have N9 := Fr.snoc X9 N8 g_tv
      refine Go.st (pc' := 290) (S' := []) st9 ?_
      refine Go.st (pc' := 292) (S' := [(.int (1 : Int32))]) (fun t_ k_ => XS.iload X9.here hx rfl (hb hby at_290) rfl k_) ?_
      refine Go.st (pc' := 295) (S' := []) (fun t_ k_ => XS.ifNo X9.here hx rfl (hb hby at_292) rfl ((if0 _ _).trans (feq (by decide : ¬ ((1 : Int32) = (0 : Int32)))).1) k_) ?_
      refine Go.st (pc' := 297) (S' := [(.ref a1)]) (fun t_ k_ => XS.aload X9.here hx rfl (hb hby at_295) rfl rfl k_) ?_
      obtain ⟨cq10, kq10, q10a, q10b, q10c⟩ := isOf hZ e9 E_a1
      obtain ⟨_, _, ⟨T10, L10, k10, n10⟩, -, X10, ⟨Lc10, hQ10, l10, y10, z10⟩, st10⟩ := X9.virtualBack hx (y := (⟨"com/example/placewright/placewright/GrowingRanks", "value", "()D"⟩ : MethodName)) (z := (⟨"com/example/placewright/placewright/GrowingRanks", "value", "()D"⟩ : MethodName)) hown (mvT hZ (wd hw 19 rfl)) (mvT hZ (wd hw 20 rfl)) (notFace_of_selects (args := #[]) (mvT hZ (wd hw 22 rfl))) (mvT hZ (wd hw 22 rfl)) (mvT hZ (wd hw 21 rfl)) (by decide) (backOf (W := 0) (rmval l Z a0 hw [] a1 tw _ (0 : UInt64) (FP.l2d ((va + (own_e q ba) * (p4.toInt64)) + (own_e q (ba + (1 : Int32))) * (vc + (own_e q bc) * vd))) (FP.l2d (va + (own_e q ba) * (p4.toInt64))) (FP.l2d (vc + (own_e q bc) * vd)) (FP.l2d va) (FP.l2d (p4.toInt64)) (FP.l2d vc) (FP.l2d vd) h9 n0 Z0 F_worth Vw7) hZ (wd hw 23 rfl) (wd hw 3 rfl) (by decide) (by decide)) q10a q10c (g := (mkF m 297 #[.val (.int p1), .val (.int p2), .val (.int p3), .val (.int p4), .val (.int p5), .val (.int p6), .val (.double (FP.l2d q)), .second, .val (.int kk_), .val (.ref td), .val (.ref a1), .val (.int (1 : Int32)), .val (.ref ta), .val (.int rr), .val (.int cx), .val (.int pa), .val (.int cy), .val (.int (1 : Int32)), .val (.int cz), .val (.int pc_), .val (.int pd_), .val (.ref ti), .val (.ref tv)] [(.ref a1)])) rfl (by rw [hml]; rfl) (Steps.refl _) (argsL := []) (rest := []) (lenOf pd_1 rfl) rfl (by show 2 * 0 + _ ≤ _; exact Nat.le_of_eq rfl) (hb hby at_297) (fun _ _ => ⟨rfl, e9, (by decide : 7 + 0 ≤ _), (by decide : 40 + 0 ≤ _)⟩)
      dsimp only [Pt.U, Pt.locs, Pt.cells, Pt.slots] at X10 l10 y10 z10 st10 hQ10
      subst l10 y10 z10
      obtain ⟨rfl, N10q, e10⟩ := hQ10
      have N10 := Fr.app N9 N10q
      refine Go.tr (pc' := 300) (S' := [(.double (FP.l2d ((va + (own_e q ba) * (p4.toInt64)) + (own_e q (ba + (1 : Int32))) * (vc + (own_e q bc) * vd))))]) st10 ?_
      refine Go.st (pc' := 302) (S' := [(.ref ti), (.double (FP.l2d ((va + (own_e q ba) * (p4.toInt64)) + (own_e q (ba + (1 : Int32))) * (vc + (own_e q bc) * vd))))]) (fun t_ k_ => XS.aload X10.here hx rfl (hb hby at_300) rfl rfl k_) ?_
      refine Go.st (pc' := 304) (S' := [(.ref tv), (.ref ti), (.double (FP.l2d ((va + (own_e q ba) * (p4.toInt64)) + (own_e q (ba + (1 : Int32))) * (vc + (own_e q bc) * vd))))]) (fun t_ k_ => XS.aload X10.here hx rfl (hb hby at_302) rfl rfl k_) ?_
      refine Go.st (pc' := 306) (S' := [(.ref td), (.ref tv), (.ref ti), (.double (FP.l2d ((va + (own_e q ba) * (p4.toInt64)) + (own_e q (ba + (1 : Int32))) * (vc + (own_e q bc) * vd))))]) (fun t_ k_ => XS.aload X10.here hx rfl (hb hby at_304) rfl rfl k_) ?_
      obtain ⟨_, _, ⟨T11, L11, k11, n11⟩, -, X11, ⟨Lc11, hQ11, l11, y11, z11⟩, st11⟩ := Jvm.LawKit.callS X10 hx (y := (⟨"com/example/placewright/placewright/GrowingRanksAddPinLaw", "ref", "([Z[D[D)D"⟩ : MethodName)) hown (mvT hZ (wd hw 35 rfl)) (mvT hZ (wd hw 36 rfl)) (mvT hZ (wd hw 37 rfl)) (mvT hZ (wd hw 38 rfl)) (by decide) (backOf (W := 2) (rmref l Z a0 hw [] ti tv td _ _ _ q va (p4.toInt64) vc vd ba (1 : Int32) bc bd h9 n0 Z0 V_ti V_tv V_td hq hva (own_ib p4) hvc hvd) hZ (wd hw 38 rfl) (wd hw 37 rfl) (by decide) (by decide)) (g := (mkF m 306 #[.val (.int p1), .val (.int p2), .val (.int p3), .val (.int p4), .val (.int p5), .val (.int p6), .val (.double (FP.l2d q)), .second, .val (.int kk_), .val (.ref td), .val (.ref a1), .val (.int (1 : Int32)), .val (.ref ta), .val (.int rr), .val (.int cx), .val (.int pa), .val (.int cy), .val (.int (1 : Int32)), .val (.int cz), .val (.int pc_), .val (.int pd_), .val (.ref ti), .val (.ref tv)] [(.ref td), (.ref tv), (.ref ti), (.double (FP.l2d ((va + (own_e q ba) * (p4.toInt64)) + (own_e q (ba + (1 : Int32))) * (vc + (own_e q bc) * vd))))])) rfl (by rw [hml]; rfl) (argsL := [(.ref ti), (.ref tv), (.ref td)]) (rest := [(.double (FP.l2d ((va + (own_e q ba) * (p4.toInt64)) + (own_e q (ba + (1 : Int32))) * (vc + (own_e q bc) * vd))))]) (lenOf pd_2 rfl) rfl (by show 2 * 0 + _ ≤ _; exact Nat.le_of_eq rfl) (hb hby at_306) (fun _ _ => ⟨rfl, e10, (by decide : 7 + 0 ≤ _), (by decide : 40 + 0 ≤ _)⟩)
      dsimp only [Pt.U, Pt.locs, Pt.cells, Pt.slots] at X11 l11 y11 z11 st11 hQ11
      subst l11 y11 z11
      obtain ⟨rfl, N11q, e11⟩ := hQ11
      have N11 := Fr.app N10 N11q
      refine Go.st (pc' := 309) (S' := [(.double (FP.l2d (own_fin0 q ba (1 : Int32) bc bd va (p4.toInt64) vc vd 0 0))), (.double (FP.l2d ((va + (own_e q ba) * (p4.toInt64)) + (own_e q (ba + (1 : Int32))) * (vc + (own_e q bc) * vd))))]) st11 ?_
      refine Go.st (pc' := 310) (S' := [(.int (cmpValue (FP.dcmp (FP.l2d ((va + (own_e q ba) * (p4.toInt64)) + (own_e q (ba + (1 : Int32))) * (vc + (own_e q bc) * vd))) (FP.l2d (own_fin0 q ba (1 : Int32) bc bd va (p4.toInt64) vc vd 0 0))) .l))]) (fun t_ k_ => XS.dcmpS X11.here hx rfl (hb hby at_309) rfl rfl k_) ?_
      refine Go.st (pc' := 313) (S' := []) (fun t_ k_ => XS.ifNo X11.here hx rfl (hb hby at_310) rfl ((if0 _ _).trans (teq (own_dc (own_same0 hba (Or.inr rfl) hbc hbd) : ((cmpValue (FP.dcmp (FP.l2d ((va + (own_e q ba) * (p4.toInt64)) + (own_e q (ba + (1 : Int32))) * (vc + (own_e q bc) * vd))) (FP.l2d (own_fin0 q ba (1 : Int32) bc bd va (p4.toInt64) vc vd 0 0))) .l) = (0 : Int32)))).2) k_) ?_
      refine Go.st (pc' := 314) (S' := [(.int (1 : Int32))]) (fun t_ k_ => XS.iconst X11.here hx rfl (hb hby at_313) k_) ?_
      refine Go.st (pc' := 318) (S' := [(.int (1 : Int32))]) (fun t_ k_ => XS.goto X11.here hx rfl (pc0 := 314) (pc' := 318) rfl (hb hby at_314) (by decide) (by decide) k_) ?_
      refine Go.st (pc' := 320) (S' := []) (fun t_ k_ => XS.istore X11.here hx rfl (hb hby at_318) rfl (l' := #[.val (.int p1), .val (.int p2), .val (.int p3), .val (.int p4), .val (.int p5), .val (.int p6), .val (.double (FP.l2d q)), .second, .val (.int kk_), .val (.ref td), .val (.ref a1), .val (.int (1 : Int32)), .val (.ref ta), .val (.int rr), .val (.int cx), .val (.int pa), .val (.int cy), .val (.int (1 : Int32)), .val (.int cz), .val (.int pc_), .val (.int pd_), .val (.ref ti), .val (.ref tv)]) rfl k_) ?_
      exact sl320 p1 p2 p3 p4 p5 p6 kk_ q a1 td tc tw _ _ _ ti tv _ _ cx cy cz pa (1 : Int32) pc_ pd_ ta rr ba (1 : Int32) bc bd va (p4.toInt64) vc vd (Stand.up X11 (by decide) (by decide)) hx hZ hw hby hml hown hnm hret hlk e11 N11 Z0 E_a1 F_discounts F_leaves F_count F_worth V_td Vc7 Vw7 ⟨ne5.1, ne5.2.1, ne5.2.2.1, ne5.2.2.2.1, ne5.2.2.2.2⟩ g_tc g_tw  V_ti V_tv ne9 g_ti g_tv hba (Or.inr rfl) hbc hbd hq hva (own_ib p4) hvc hvd hpm ⟨hf2.1, (fun z => absurd z.symm hpm.2.2.2.2.2.2.2.1), hf2.2.2.1, hf2.2.2.2⟩ ⟨hf3.1, (fun z => absurd z.symm hpm.2.2.2.2.2.2.2.2.1), hf3.2.2.1, hf3.2.2.2⟩
    · have z_ := (hf1).2.2.1 rfl
      subst z_
      have zv_ : vc = 0 := hbc.elim And.right (fun z => absurd z (by decide))
      subst zv_
      have hba_ := own_01 hba
      have hbb_ := own_01 hbb
      have hbd_ := own_01 hbd
      refine Go.st (pc' := 270) (S' := [(.ref a1)]) (fun t_ k_ => XS.aload X0.here hx rfl (hb hby at_268) rfl rfl k_) ?_
      refine Go.st (pc' := 272) (S' := [(.int (2 : Int32)), (.ref a1)]) (fun t_ k_ => XS.iload X0.here hx rfl (hb hby at_270) rfl k_) ?_
      refine Go.st (pc' := 273) (S' := [(.int p4), (.int (2 : Int32)), (.ref a1)]) (fun t_ k_ => XS.iloadN X0.here hx rfl (hb hby at_272) rfl k_) ?_
      refine Go.st (pc' := 274) (S' := [(.double (FP.l2d (p4.toInt64))), (.int (2 : Int32)), (.ref a1)]) (fun t_ k_ => XS.i2dS X0.here hx rfl (hb hby at_273) rfl (i2d_w _) k_) ?_
      obtain ⟨cq12, kq12, q12a, q12b, q12c⟩ := isOf hZ e0 E_a1
      obtain ⟨_, _, ⟨T12, L12, k12, n12⟩, -, X12, ⟨Lc12, hQ12, l12, y12, z12⟩, st12⟩ := X0.virtualBack hx (y := (⟨"com/example/placewright/placewright/GrowingRanks", "add", "(ID)V"⟩ : MethodName)) (z := (⟨"com/example/placewright/placewright/GrowingRanks", "add", "(ID)V"⟩ : MethodName)) hown (mvT hZ (wd hw 26 rfl)) (mvT hZ (wd hw 27 rfl)) (notFace_of_selects (args := #[]) (mvT hZ (wd hw 29 rfl))) (mvT hZ (wd hw 29 rfl)) (mvT hZ (wd hw 28 rfl)) (by decide) (backOf (W := 0) (rmadd2 l Z a0 hw [] a1 td tc tw _ _ _ q (p4.toInt64) va vb (0 : Int64) vd ba bb bd hh n0 Z0 E_a1 F_discounts F_leaves F_count F_worth V_td V_tc V_tw ⟨ne5.1, ne5.2.1, ne5.2.2.1, ne5.2.2.2.1, ne5.2.2.2.2⟩ g_tc g_tw hq (own_ib p4) hva hvb own_z0' hvd hba_ hbb_ hbd_) hZ (wd hw 30 rfl) (wd hw 3 rfl) (by decide) (by decide)) q12a q12c (g := (mkF m 274 #[.val (.int p1), .val (.int p2), .val (.int p3), .val (.int p4), .val (.int p5), .val (.int p6), .val (.double (FP.l2d q)), .second, .val (.int kk_), .val (.ref td), .val (.ref a1), .val (.int (1 : Int32)), .val (.ref ta), .val (.int rr), .val (.int cx), .val (.int pa), .val (.int cy), .val (.int (2 : Int32)), .val (.int cz), .val (.int pc_), .val (.int pd_), .val (.ref ti), .val (.ref tv)] [(.double (FP.l2d (p4.toInt64))), (.int (2 : Int32)), (.ref a1)])) rfl (by rw [hml]; rfl) (Steps.refl _) (argsL := [(.int (2 : Int32)), (.double (FP.l2d (p4.toInt64)))]) (rest := []) (lenOf pd_0 rfl) rfl (by show 2 * 0 + _ ≤ _; exact Nat.le_of_eq rfl) (hb hby at_274) (fun _ _ => ⟨rfl, e0, (by decide : 7 + 0 ≤ _), (by decide : 40 + 0 ≤ _)⟩)
      dsimp only [Pt.U, Pt.locs, Pt.cells, Pt.slots] at X12 l12 y12 z12 st12 hQ12
      subst l12 y12 z12
      obtain ⟨rfl, N12q, K12, Vc12, Vw12⟩ := hQ12
      have N12 := Fr.app N0 N12q
      obtain ⟨h12, e12⟩ : ∃ z, T12.heap = z := ⟨_, rfl⟩
      rw [e12] at K12 Vc12 Vw12
      replace Z0 := Nat.le_trans Z0 K12.1
      replace E_a1 := E_a1.keep K12
      replace F_discounts := F_discounts.keep K12 (ninS ne5.1 (ninS ne5.2.1 nin0))
      replace F_leaves := F_leaves.keep K12 (ninS ne5.1 (ninS ne5.2.1 nin0))
      replace F_count := F_count.keep K12 (ninS ne5.1 (ninS ne5.2.1 nin0))
      replace F_worth := F_worth.keep K12 (ninS ne5.1 (ninS ne5.2.1 nin0))
      replace V_td := V_td.keep K12 (ninS ne5.2.2.2.1 (ninS ne5.2.2.2.2 nin0))
      replace V_ti := V_ti.keep K12 (ninS (Ne.symm ne9.2.2.1) (ninS (Ne.symm ne9.2.2.2.1) nin0))
      replace V_tv := V_tv.keep K12 (ninS (Ne.symm ne9.2.2.2.2.2.2.1) (ninS (Ne.symm ne9.2.2.2.2.2.2.2.1) nin0))
      refine Go.tr (pc' := 277) (S' := []) st12 ?_
      refine Go.st (pc' := 279) (S' := [(.ref ti)]) (fun t_ k_ => XS.aload X12.here hx rfl (hb hby at_277) rfl rfl k_) ?_
      refine Go.st (pc' := 281) (S' := [(.int (2 : Int32)), (.ref ti)]) (fun t_ k_ => XS.iload X12.here hx rfl (hb hby at_279) rfl k_) ?_
      refine Go.st (pc' := 282) (S' := [(.int (1 : Int32)), (.int (2 : Int32)), (.ref ti)]) (fun t_ k_ => XS.iconst X12.here hx rfl (hb hby at_281) k_) ?_
      obtain ⟨cl13, Ar13, q131, q132, q133, q134, q135⟩ := V_ti
      obtain ⟨T13, h13, X13, e13, W13, st13⟩ := stZ X12 hx hZ e12 Ar13 (j := (2 : Int32)) (inb_of q132 ⟨by decide, by decide⟩) (g := (mkF m 282 #[.val (.int p1), .val (.int p2), .val (.int p3), .val (.int p4), .val (.int p5), .val (.int p6), .val (.double (FP.l2d q)), .second, .val (.int kk_), .val (.ref td), .val (.ref a1), .val (.int (1 : Int32)), .val (.ref ta), .val (.int rr), .val (.int cx), .val (.int pa), .val (.int cy), .val (.int (2 : Int32)), .val (.int cz), .val (.int pc_), .val (.int pd_), .val (.ref ti), .val (.ref tv)] [(.int (1 : Int32)), (.int (2 : Int32)), (.ref ti)])) rfl rfl (hb hby at_282)
      replace V_ti := Arv.set Ar13 q131 q132 q133 q134 q135 (fits_nar_bool _) W13 2 rfl (Nat.le_of_ble_eq_true rfl)
      have V_ti : Arv Z h13 ti ki .boolean (4 : Int32) [(.int ba), (.int bb), (.int (nar .boolean (1 : Int32))), (.int bd)] (.int (0 : Int32)) := V_ti
      replace Z0 := Nat.le_trans Z0 (Keep.of_wr W13).1
      replace E_a1 := E_a1.wr W13
      replace F_discounts := F_discounts.other W13 (Or.inl ne9.1)
      replace F_leaves := F_leaves.other W13 (Or.inl ne9.1)
      replace F_count := F_count.other W13 (Or.inl ne9.1)
      replace F_worth := F_worth.other W13 (Or.inl ne9.1)
      replace V_td := V_td.other W13 ne9.2.1
      replace V_tv := V_tv.other W13 (Ne.symm ne9.2.2.2.2.2.2.2.2)
      replace Vc12 := Vc12.other W13 ne9.2.2.1
      replace Vw12 := Vw12.other W13 ne9.2.2.2.1
      have N13 := Fr.snoc X13 N12 g_ti
      refine Go.st (pc' := 283) (S' := []) st13 ?_
      refine Go.st (pc' := 285) (S' := [(.ref tv)]) (fun t_ k_ => XS.aload X13.here hx rfl (hb hby at_283) rfl rfl k_) ?_
      refine Go.st (pc' := 287) (S' := [(.int (2 : Int32)), (.ref tv)]) (fun t_ k_ => XS.iload X13.here hx rfl (hb hby at_285) rfl k_) ?_
      refine Go.st (pc' := 288) (S' := [(.int p4), (.int (2 : Int32)), (.ref tv)]) (fun t_ k_ => XS.iloadN X13.here hx rfl (hb hby at_287) rfl k_) ?_
      refine Go.st (pc' := 289) (S' := [(.double (FP.l2d (p4.toInt64))), (.int (2 : Int32)), (.ref tv)]) (fun t_ k_ => XS.i2dS X13.here hx rfl (hb hby at_288) rfl (i2d_w _) k_) ?_
      obtain ⟨cl14, Ar14, q141, q142, q143, q144, q145⟩ := V_tv
      obtain ⟨T14, h14, X14, e14, W14, st14⟩ := stD X13 hx hZ e13 Ar14 (j := (2 : Int32)) (inb_of q142 ⟨by decide, by decide⟩) (g := (mkF m 289 #[.val (.int p1), .val (.int p2), .val (.int p3), .val (.int p4), .val (.int p5), .val (.int p6), .val (.double (FP.l2d q)), .second, .val (.int kk_), .val (.ref td), .val (.ref a1), .val (.int (1 : Int32)), .val (.ref ta), .val (.int rr), .val (.int cx), .val (.int pa), .val (.int cy), .val (.int (2 : Int32)), .val (.int cz), .val (.int pc_), .val (.int pd_), .val (.ref ti), .val (.ref tv)] [(.double (FP.l2d (p4.toInt64))), (.int (2 : Int32)), (.ref tv)])) rfl rfl (hb hby at_289)
      replace V_tv := Arv.set Ar14 q141 q142 q143 q144 q145 rfl W14 2 rfl (Nat.le_of_ble_eq_true rfl)
      have V_tv : Arv Z h14 tv kv .double (4 : Int32) [(.double (FP.l2d va)), (.double (FP.l2d vb)), (.double (FP.l2d (p4.toInt64))), (.double (FP.l2d vd))] (.double (0 : UInt64)) := V_tv
      replace Z0 := Nat.le_trans Z0 (Keep.of_wr W14).1
      replace E_a1 := E_a1.wr W14
      replace F_discounts := F_discounts.other W14 (Or.inl ne9.2.2.2.2.1)
      replace F_leaves := F_leaves.other W14 (Or.inl ne9.2.2.2.2.1)
      replace F_count := F_count.other W14 (Or.inl ne9.2.2.2.2.1)
      replace F_worth := F_worth.other W14 (Or.inl ne9.2.2.2.2.1)
      replace V_td := V_td.other W14 ne9.2.2.2.2.2.1
      replace V_ti := V_ti.other W14 ne9.2.2.2.2.2.2.2.2
      replace Vc12 := Vc12.other W14 ne9.2.2.2.2.2.2.1
      replace Vw12 := Vw12.other W14 ne9.2.2.2.2.2.2.2.1
      have N14 := Fr.snoc X14 N13 g_tv
      refine Go.st (pc' := 290) (S' := []) st14 ?_
      refine Go.st (pc' := 292) (S' := [(.int (1 : Int32))]) (fun t_ k_ => XS.iload X14.here hx rfl (hb hby at_290) rfl k_) ?_
      refine Go.st (pc' := 295) (S' := []) (fun t_ k_ => XS.ifNo X14.here hx rfl (hb hby at_292) rfl ((if0 _ _).trans (feq (by decide : ¬ ((1 : Int32) = (0 : Int32)))).1) k_) ?_
      refine Go.st (pc' := 297) (S' := [(.ref a1)]) (fun t_ k_ => XS.aload X14.here hx rfl (hb hby at_295) rfl rfl k_) ?_
      obtain ⟨cq15, kq15, q15a, q15b, q15c⟩ := isOf hZ e14 E_a1
      obtain ⟨_, _, ⟨T15, L15, k15, n15⟩, -, X15, ⟨Lc15, hQ15, l15, y15, z15⟩, st15⟩ := X14.virtualBack hx (y := (⟨"com/example/placewright/placewright/GrowingRanks", "value", "()D"⟩ : MethodName)) (z := (⟨"com/example/placewright/placewright/GrowingRanks", "value", "()D"⟩ : MethodName)) hown (mvT hZ (wd hw 19 rfl)) (mvT hZ (wd hw 20 rfl)) (notFace_of_selects (args := #[]) (mvT hZ (wd hw 22 rfl))) (mvT hZ (wd hw 22 rfl)) (mvT hZ (wd hw 21 rfl)) (by decide) (backOf (W := 0) (rmval l Z a0 hw [] a1 tw _ (0 : UInt64) (FP.l2d ((va + (own_e q ba) * vb) + (own_e q (ba + bb)) * ((p4.toInt64) + (own_e q (1 : Int32)) * vd))) (FP.l2d (va + (own_e q ba) * vb)) (FP.l2d ((p4.toInt64) + (own_e q (1 : Int32)) * vd)) (FP.l2d va) (FP.l2d vb) (FP.l2d (p4.toInt64)) (FP.l2d vd) h14 n0 Z0 F_worth Vw12) hZ (wd hw 23 rfl) (wd hw 3 rfl) (by decide) (by decide)) q15a q15c (g := (mkF m 297 #[.val (.int p1), .val (.int p2), .val (.int p3), .val (.int p4), .val (.int p5), .val (.int p6), .val (.double (FP.l2d q)), .second, .val (.int kk_), .val (.ref td), .val (.ref a1), .val (.int (1 : Int32)), .val (.ref ta), .val (.int rr), .val (.int cx), .val (.int pa), .val (.int cy), .val (.int (2 : Int32)), .val (.int cz), .val (.int pc_), .val (.int pd_), .val (.ref ti), .val (.ref tv)] [(.ref a1)])) rfl (by rw [hml]; rfl) (Steps.refl _) (argsL := []) (rest := []) (lenOf pd_1 rfl) rfl (by show 2 * 0 + _ ≤ _; exact Nat.le_of_eq rfl) (hb hby at_297) (fun _ _ => ⟨rfl, e14, (by decide : 7 + 0 ≤ _), (by decide : 40 + 0 ≤ _)⟩)
      dsimp only [Pt.U, Pt.locs, Pt.cells, Pt.slots] at X15 l15 y15 z15 st15 hQ15
      subst l15 y15 z15
      obtain ⟨rfl, N15q, e15⟩ := hQ15
      have N15 := Fr.app N14 N15q
      refine Go.tr (pc' := 300) (S' := [(.double (FP.l2d ((va + (own_e q ba) * vb) + (own_e q (ba + bb)) * ((p4.toInt64) + (own_e q (1 : Int32)) * vd))))]) st15 ?_
      refine Go.st (pc' := 302) (S' := [(.ref ti), (.double (FP.l2d ((va + (own_e q ba) * vb) + (own_e q (ba + bb)) * ((p4.toInt64) + (own_e q (1 : Int32)) * vd))))]) (fun t_ k_ => XS.aload X15.here hx rfl (hb hby at_300) rfl rfl k_) ?_
      refine Go.st (pc' := 304) (S' := [(.ref tv), (.ref ti), (.double (FP.l2d ((va + (own_e q ba) * vb) + (own_e q (ba + bb)) * ((p4.toInt64) + (own_e q (1 : Int32)) * vd))))]) (fun t_ k_ => XS.aload X15.here hx rfl (hb hby at_302) rfl rfl k_) ?_
      refine Go.st (pc' := 306) (S' := [(.ref td), (.ref tv), (.ref ti), (.double (FP.l2d ((va + (own_e q ba) * vb) + (own_e q (ba + bb)) * ((p4.toInt64) + (own_e q (1 : Int32)) * vd))))]) (fun t_ k_ => XS.aload X15.here hx rfl (hb hby at_304) rfl rfl k_) ?_
      obtain ⟨_, _, ⟨T16, L16, k16, n16⟩, -, X16, ⟨Lc16, hQ16, l16, y16, z16⟩, st16⟩ := Jvm.LawKit.callS X15 hx (y := (⟨"com/example/placewright/placewright/GrowingRanksAddPinLaw", "ref", "([Z[D[D)D"⟩ : MethodName)) hown (mvT hZ (wd hw 35 rfl)) (mvT hZ (wd hw 36 rfl)) (mvT hZ (wd hw 37 rfl)) (mvT hZ (wd hw 38 rfl)) (by decide) (backOf (W := 2) (rmref l Z a0 hw [] ti tv td _ _ _ q va vb (p4.toInt64) vd ba bb (1 : Int32) bd h14 n0 Z0 V_ti V_tv V_td hq hva hvb (own_ib p4) hvd) hZ (wd hw 38 rfl) (wd hw 37 rfl) (by decide) (by decide)) (g := (mkF m 306 #[.val (.int p1), .val (.int p2), .val (.int p3), .val (.int p4), .val (.int p5), .val (.int p6), .val (.double (FP.l2d q)), .second, .val (.int kk_), .val (.ref td), .val (.ref a1), .val (.int (1 : Int32)), .val (.ref ta), .val (.int rr), .val (.int cx), .val (.int pa), .val (.int cy), .val (.int (2 : Int32)), .val (.int cz), .val (.int pc_), .val (.int pd_), .val (.ref ti), .val (.ref tv)] [(.ref td), (.ref tv), (.ref ti), (.double (FP.l2d ((va + (own_e q ba) * vb) + (own_e q (ba + bb)) * ((p4.toInt64) + (own_e q (1 : Int32)) * vd))))])) rfl (by rw [hml]; rfl) (argsL := [(.ref ti), (.ref tv), (.ref td)]) (rest := [(.double (FP.l2d ((va + (own_e q ba) * vb) + (own_e q (ba + bb)) * ((p4.toInt64) + (own_e q (1 : Int32)) * vd))))]) (lenOf pd_2 rfl) rfl (by show 2 * 0 + _ ≤ _; exact Nat.le_of_eq rfl) (hb hby at_306) (fun _ _ => ⟨rfl, e15, (by decide : 7 + 0 ≤ _), (by decide : 40 + 0 ≤ _)⟩)
      dsimp only [Pt.U, Pt.locs, Pt.cells, Pt.slots] at X16 l16 y16 z16 st16 hQ16
      subst l16 y16 z16
      obtain ⟨rfl, N16q, e16⟩ := hQ16
      have N16 := Fr.app N15 N16q
      refine Go.st (pc' := 309) (S' := [(.double (FP.l2d (own_fin0 q ba bb (1 : Int32) bd va vb (p4.toInt64) vd 0 0))), (.double (FP.l2d ((va + (own_e q ba) * vb) + (own_e q (ba + bb)) * ((p4.toInt64) + (own_e q (1 : Int32)) * vd))))]) st16 ?_
      refine Go.st (pc' := 310) (S' := [(.int (cmpValue (FP.dcmp (FP.l2d ((va + (own_e q ba) * vb) + (own_e q (ba + bb)) * ((p4.toInt64) + (own_e q (1 : Int32)) * vd))) (FP.l2d (own_fin0 q ba bb (1 : Int32) bd va vb (p4.toInt64) vd 0 0))) .l))]) (fun t_ k_ => XS.dcmpS X16.here hx rfl (hb hby at_309) rfl rfl k_) ?_
      refine Go.st (pc' := 313) (S' := []) (fun t_ k_ => XS.ifNo X16.here hx rfl (hb hby at_310) rfl ((if0 _ _).trans (teq (own_dc (own_same0 hba hbb (Or.inr rfl) hbd) : ((cmpValue (FP.dcmp (FP.l2d ((va + (own_e q ba) * vb) + (own_e q (ba + bb)) * ((p4.toInt64) + (own_e q (1 : Int32)) * vd))) (FP.l2d (own_fin0 q ba bb (1 : Int32) bd va vb (p4.toInt64) vd 0 0))) .l) = (0 : Int32)))).2) k_) ?_
      refine Go.st (pc' := 314) (S' := [(.int (1 : Int32))]) (fun t_ k_ => XS.iconst X16.here hx rfl (hb hby at_313) k_) ?_
      refine Go.st (pc' := 318) (S' := [(.int (1 : Int32))]) (fun t_ k_ => XS.goto X16.here hx rfl (pc0 := 314) (pc' := 318) rfl (hb hby at_314) (by decide) (by decide) k_) ?_
      refine Go.st (pc' := 320) (S' := []) (fun t_ k_ => XS.istore X16.here hx rfl (hb hby at_318) rfl (l' := #[.val (.int p1), .val (.int p2), .val (.int p3), .val (.int p4), .val (.int p5), .val (.int p6), .val (.double (FP.l2d q)), .second, .val (.int kk_), .val (.ref td), .val (.ref a1), .val (.int (1 : Int32)), .val (.ref ta), .val (.int rr), .val (.int cx), .val (.int pa), .val (.int cy), .val (.int (2 : Int32)), .val (.int cz), .val (.int pc_), .val (.int pd_), .val (.ref ti), .val (.ref tv)]) rfl k_) ?_
      exact sl320 p1 p2 p3 p4 p5 p6 kk_ q a1 td tc tw _ _ _ ti tv _ _ cx cy cz pa (2 : Int32) pc_ pd_ ta rr ba bb (1 : Int32) bd va vb (p4.toInt64) vd (Stand.up X16 (by decide) (by decide)) hx hZ hw hby hml hown hnm hret hlk e16 N16 Z0 E_a1 F_discounts F_leaves F_count F_worth V_td Vc12 Vw12 ⟨ne5.1, ne5.2.1, ne5.2.2.1, ne5.2.2.2.1, ne5.2.2.2.2⟩ g_tc g_tw  V_ti V_tv ne9 g_ti g_tv hba hbb (Or.inr rfl) hbd hq hva hvb (own_ib p4) hvd hpm ⟨hf2.1, hf2.2.1, (fun z => absurd z.symm hpm.2.2.2.2.2.2.2.1), hf2.2.2.2⟩ ⟨hf3.1, hf3.2.1, (fun z => absurd z.symm hpm.2.2.2.2.2.2.2.2.1), hf3.2.2.2⟩
    · have z_ := (hf1).2.2.2 rfl
      subst z_
      have zv_ : vd = 0 := hbd.elim And.right (fun z => absurd z (by decide))
      subst zv_
      have hba_ := own_01 hba
      have hbb_ := own_01 hbb
      have hbc_ := own_01 hbc
      refine Go.st (pc' := 270) (S' := [(.ref a1)]) (fun t_ k_ => XS.aload X0.here hx rfl (hb hby at_268) rfl rfl k_) ?_
      refine Go.st (pc' := 272) (S' := [(.int (3 : Int32)), (.ref a1)]) (fun t_ k_ => XS.iload X0.here hx rfl (hb hby at_270) rfl k_) ?_
      refine Go.st (pc' := 273) (S' := [(.int p4), (.int (3 : Int32)), (.ref a1)]) (fun t_ k_ => XS.iloadN X0.here hx rfl (hb hby at_272) rfl k_) ?_
      refine Go.st (pc' := 274) (S' := [(.double (FP.l2d (p4.toInt64))), (.int (3 : Int32)), (.ref a1)]) (fun t_ k_ => XS.i2dS X0.here hx rfl (hb hby at_273) rfl (i2d_w _) k_) ?_
      obtain ⟨cq17, kq17, q17a, q17b, q17c⟩ := isOf hZ e0 E_a1
      obtain ⟨_, _, ⟨T17, L17, k17, n17⟩, -, X17, ⟨Lc17, hQ17, l17, y17, z17⟩, st17⟩ := X0.virtualBack hx (y := (⟨"com/example/placewright/placewright/GrowingRanks", "add", "(ID)V"⟩ : MethodName)) (z := (⟨"com/example/placewright/placewright/GrowingRanks", "add", "(ID)V"⟩ : MethodName)) hown (mvT hZ (wd hw 26 rfl)) (mvT hZ (wd hw 27 rfl)) (notFace_of_selects (args := #[]) (mvT hZ (wd hw 29 rfl))) (mvT hZ (wd hw 29 rfl)) (mvT hZ (wd hw 28 rfl)) (by decide) (backOf (W := 0) (rmadd3 l Z a0 hw [] a1 td tc tw _ _ _ q (p4.toInt64) va vb vc (0 : Int64) ba bb bc hh n0 Z0 E_a1 F_discounts F_leaves F_count F_worth V_td V_tc V_tw ⟨ne5.1, ne5.2.1, ne5.2.2.1, ne5.2.2.2.1, ne5.2.2.2.2⟩ g_tc g_tw hq (own_ib p4) hva hvb hvc own_z0' hba_ hbb_ hbc_) hZ (wd hw 30 rfl) (wd hw 3 rfl) (by decide) (by decide)) q17a q17c (g := (mkF m 274 #[.val (.int p1), .val (.int p2), .val (.int p3), .val (.int p4), .val (.int p5), .val (.int p6), .val (.double (FP.l2d q)), .second, .val (.int kk_), .val (.ref td), .val (.ref a1), .val (.int (1 : Int32)), .val (.ref ta), .val (.int rr), .val (.int cx), .val (.int pa), .val (.int cy), .val (.int (3 : Int32)), .val (.int cz), .val (.int pc_), .val (.int pd_), .val (.ref ti), .val (.ref tv)] [(.double (FP.l2d (p4.toInt64))), (.int (3 : Int32)), (.ref a1)])) rfl (by rw [hml]; rfl) (Steps.refl _) (argsL := [(.int (3 : Int32)), (.double (FP.l2d (p4.toInt64)))]) (rest := []) (lenOf pd_0 rfl) rfl (by show 2 * 0 + _ ≤ _; exact Nat.le_of_eq rfl) (hb hby at_274) (fun _ _ => ⟨rfl, e0, (by decide : 7 + 0 ≤ _), (by decide : 40 + 0 ≤ _)⟩)
      dsimp only [Pt.U, Pt.locs, Pt.cells, Pt.slots] at X17 l17 y17 z17 st17 hQ17
      subst l17 y17 z17
      obtain ⟨rfl, N17q, K17, Vc17, Vw17⟩ := hQ17
      have N17 := Fr.app N0 N17q
      obtain ⟨h17, e17⟩ : ∃ z, T17.heap = z := ⟨_, rfl⟩
      rw [e17] at K17 Vc17 Vw17
      replace Z0 := Nat.le_trans Z0 K17.1
      replace E_a1 := E_a1.keep K17
      replace F_discounts := F_discounts.keep K17 (ninS ne5.1 (ninS ne5.2.1 nin0))
      replace F_leaves := F_leaves.keep K17 (ninS ne5.1 (ninS ne5.2.1 nin0))
      replace F_count := F_count.keep K17 (ninS ne5.1 (ninS ne5.2.1 nin0))
      replace F_worth := F_worth.keep K17 (ninS ne5.1 (ninS ne5.2.1 nin0))
      replace V_td := V_td.keep K17 (ninS ne5.2.2.2.1 (ninS ne5.2.2.2.2 nin0))
      replace V_ti := V_ti.keep K17 (ninS (Ne.symm ne9.2.2.1) (ninS (Ne.symm ne9.2.2.2.1) nin0))
      replace V_tv := V_tv.keep K17 (ninS (Ne.symm ne9.2.2.2.2.2.2.1) (ninS (Ne.symm ne9.2.2.2.2.2.2.2.1) nin0))
      refine Go.tr (pc' := 277) (S' := []) st17 ?_
      refine Go.st (pc' := 279) (S' := [(.ref ti)]) (fun t_ k_ => XS.aload X17.here hx rfl (hb hby at_277) rfl rfl k_) ?_
      refine Go.st (pc' := 281) (S' := [(.int (3 : Int32)), (.ref ti)]) (fun t_ k_ => XS.iload X17.here hx rfl (hb hby at_279) rfl k_) ?_
      refine Go.st (pc' := 282) (S' := [(.int (1 : Int32)), (.int (3 : Int32)), (.ref ti)]) (fun t_ k_ => XS.iconst X17.here hx rfl (hb hby at_281) k_) ?_
      obtain ⟨cl18, Ar18, q181, q182, q183, q184, q185⟩ := V_ti
      obtain ⟨T18, h18, X18, e18, W18, st18⟩ := stZ X17 hx hZ e17 Ar18 (j := (3 : Int32)) (inb_of q182 ⟨by decide, by decide⟩) (g := (mkF m 282 #[.val (.int p1), .val (.int p2), .val (.int p3), .val (.int p4), .val (.int p5), .val (.int p6), .val (.double (FP.l2d q)), .second, .val (.int kk_), .val (.ref td), .val (.ref a1), .val (.int (1 : Int32)), .val (.ref ta), .val (.int rr), .val (.int cx), .val (.int pa), .val (.int cy), .val (.int (3 : Int32)), .val (.int cz), .val (.int pc_), .val (.int pd_), .val (.ref ti), .val (.ref tv)] [(.int (1 : Int32)), (.int (3 : Int32)), (.ref ti)])) rfl rfl (hb hby at_282)
      replace V_ti := Arv.set Ar18 q181 q182 q183 q184 q185 (fits_nar_bool _) W18 3 rfl (Nat.le_of_ble_eq_true rfl)
      have V_ti : Arv Z h18 ti ki .boolean (4 : Int32) [(.int ba), (.int bb), (.int bc), (.int (nar .boolean (1 : Int32)))] (.int (0 : Int32)) := V_ti
      replace Z0 := Nat.le_trans Z0 (Keep.of_wr W18).1
      replace E_a1 := E_a1.wr W18
      replace F_discounts := F_discounts.other W18 (Or.inl ne9.1)
      replace F_leaves := F_leaves.other W18 (Or.inl ne9.1)
      replace F_count := F_count.other W18 (Or.inl ne9.1)
      replace F_worth := F_worth.other W18 (Or.inl ne9.1)
      replace V_td := V_td.other W18 ne9.2.1
      replace V_tv := V_tv.other W18 (Ne.symm ne9.2.2.2.2.2.2.2.2)
      replace Vc17 := Vc17.other W18 ne9.2.2.1
      replace Vw17 := Vw17.other W18 ne9.2.2.2.1
      have N18 := Fr.snoc X18 N17 g_ti
      refine Go.st (pc' := 283) (S' := []) st18 ?_
      refine Go.st (pc' := 285) (S' := [(.ref tv)]) (fun t_ k_ => XS.aload X18.here hx rfl (hb hby at_283) rfl rfl k_) ?_
      refine Go.st (pc' := 287) (S' := [(.int (3 : Int32)), (.ref tv)]) (fun t_ k_ => XS.iload X18.here hx rfl (hb hby at_285) rfl k_) ?_
      refine Go.st (pc' := 288) (S' := [(.int p4), (.int (3 : Int32)), (.ref tv)]) (fun t_ k_ => XS.iloadN X18.here hx rfl (hb hby at_287) rfl k_) ?_
      refine Go.st (pc' := 289) (S' := [(.double (FP.l2d (p4.toInt64))), (.int (3 : Int32)), (.ref tv)]) (fun t_ k_ => XS.i2dS X18.here hx rfl (hb hby at_288) rfl (i2d_w _) k_) ?_
      obtain ⟨cl19, Ar19, q191, q192, q193, q194, q195⟩ := V_tv
      obtain ⟨T19, h19, X19, e19, W19, st19⟩ := stD X18 hx hZ e18 Ar19 (j := (3 : Int32)) (inb_of q192 ⟨by decide, by decide⟩) (g := (mkF m 289 #[.val (.int p1), .val (.int p2), .val (.int p3), .val (.int p4), .val (.int p5), .val (.int p6), .val (.double (FP.l2d q)), .second, .val (.int kk_), .val (.ref td), .val (.ref a1), .val (.int (1 : Int32)), .val (.ref ta), .val (.int rr), .val (.int cx), .val (.int pa), .val (.int cy), .val (.int (3 : Int32)), .val (.int cz), .val (.int pc_), .val (.int pd_), .val (.ref ti), .val (.ref tv)] [(.double (FP.l2d (p4.toInt64))), (.int (3 : Int32)), (.ref tv)])) rfl rfl (hb hby at_289)
      replace V_tv := Arv.set Ar19 q191 q192 q193 q194 q195 rfl W19 3 rfl (Nat.le_of_ble_eq_true rfl)
      have V_tv : Arv Z h19 tv kv .double (4 : Int32) [(.double (FP.l2d va)), (.double (FP.l2d vb)), (.double (FP.l2d vc)), (.double (FP.l2d (p4.toInt64)))] (.double (0 : UInt64)) := V_tv
      replace Z0 := Nat.le_trans Z0 (Keep.of_wr W19).1
      replace E_a1 := E_a1.wr W19
      replace F_discounts := F_discounts.other W19 (Or.inl ne9.2.2.2.2.1)
      replace F_leaves := F_leaves.other W19 (Or.inl ne9.2.2.2.2.1)
      replace F_count := F_count.other W19 (Or.inl ne9.2.2.2.2.1)
      replace F_worth := F_worth.other W19 (Or.inl ne9.2.2.2.2.1)
      replace V_td := V_td.other W19 ne9.2.2.2.2.2.1
      replace V_ti := V_ti.other W19 ne9.2.2.2.2.2.2.2.2
      replace Vc17 := Vc17.other W19 ne9.2.2.2.2.2.2.1
      replace Vw17 := Vw17.other W19 ne9.2.2.2.2.2.2.2.1
      have N19 := Fr.snoc X19 N18 g_tv
      refine Go.st (pc' := 290) (S' := []) st19 ?_
      refine Go.st (pc' := 292) (S' := [(.int (1 : Int32))]) (fun t_ k_ => XS.iload X19.here hx rfl (hb hby at_290) rfl k_) ?_
      refine Go.st (pc' := 295) (S' := []) (fun t_ k_ => XS.ifNo X19.here hx rfl (hb hby at_292) rfl ((if0 _ _).trans (feq (by decide : ¬ ((1 : Int32) = (0 : Int32)))).1) k_) ?_
      refine Go.st (pc' := 297) (S' := [(.ref a1)]) (fun t_ k_ => XS.aload X19.here hx rfl (hb hby at_295) rfl rfl k_) ?_
      obtain ⟨cq20, kq20, q20a, q20b, q20c⟩ := isOf hZ e19 E_a1
      obtain ⟨_, _, ⟨T20, L20, k20, n20⟩, -, X20, ⟨Lc20, hQ20, l20, y20, z20⟩, st20⟩ := X19.virtualBack hx (y := (⟨"com/example/placewright/placewright/GrowingRanks", "value", "()D"⟩ : MethodName)) (z := (⟨"com/example/placewright/placewright/GrowingRanks", "value", "()D"⟩ : MethodName)) hown (mvT hZ (wd hw 19 rfl)) (mvT hZ (wd hw 20 rfl)) (notFace_of_selects (args := #[]) (mvT hZ (wd hw 22 rfl))) (mvT hZ (wd hw 22 rfl)) (mvT hZ (wd hw 21 rfl)) (by decide) (backOf (W := 0) (rmval l Z a0 hw [] a1 tw _ (0 : UInt64) (FP.l2d ((va + (own_e q ba) * vb) + (own_e q (ba + bb)) * (vc + (own_e q bc) * (p4.toInt64)))) (FP.l2d (va + (own_e q ba) * vb)) (FP.l2d (vc + (own_e q bc) * (p4.toInt64))) (FP.l2d va) (FP.l2d vb) (FP.l2d vc) (FP.l2d (p4.toInt64)) h19 n0 Z0 F_worth Vw17) hZ (wd hw 23 rfl) (wd hw 3 rfl) (by decide) (by decide)) q20a q20c (g := (mkF m 297 #[.val (.int p1), .val (.int p2), .val (.int p3), .val (.int p4), .val (.int p5), .val (.int p6), .val (.double (FP.l2d q)), .second, .val (.int kk_), .val (.ref td), .val (.ref a1), .val (.int (1 : Int32)), .val (.ref ta), .val (.int rr), .val (.int cx), .val (.int pa), .val (.int cy), .val (.int (3 : Int32)), .val (.int cz), .val (.int pc_), .val (.int pd_), .val (.ref ti), .val (.ref tv)] [(.ref a1)])) rfl (by rw [hml]; rfl) (Steps.refl _) (argsL := []) (rest := []) (lenOf pd_1 rfl) rfl (by show 2 * 0 + _ ≤ _; exact Nat.le_of_eq rfl) (hb hby at_297) (fun _ _ => ⟨rfl, e19, (by decide : 7 + 0 ≤ _), (by decide : 40 + 0 ≤ _)⟩)
      dsimp only [Pt.U, Pt.locs, Pt.cells, Pt.slots] at X20 l20 y20 z20 st20 hQ20
      subst l20 y20 z20
      obtain ⟨rfl, N20q, e20⟩ := hQ20
      have N20 := Fr.app N19 N20q
      refine Go.tr (pc' := 300) (S' := [(.double (FP.l2d ((va + (own_e q ba) * vb) + (own_e q (ba + bb)) * (vc + (own_e q bc) * (p4.toInt64)))))]) st20 ?_
      refine Go.st (pc' := 302) (S' := [(.ref ti), (.double (FP.l2d ((va + (own_e q ba) * vb) + (own_e q (ba + bb)) * (vc + (own_e q bc) * (p4.toInt64)))))]) (fun t_ k_ => XS.aload X20.here hx rfl (hb hby at_300) rfl rfl k_) ?_
      refine Go.st (pc' := 304) (S' := [(.ref tv), (.ref ti), (.double (FP.l2d ((va + (own_e q ba) * vb) + (own_e q (ba + bb)) * (vc + (own_e q bc) * (p4.toInt64)))))]) (fun t_ k_ => XS.aload X20.here hx rfl (hb hby at_302) rfl rfl k_) ?_
      refine Go.st (pc' := 306) (S' := [(.ref td), (.ref tv), (.ref ti), (.double (FP.l2d ((va + (own_e q ba) * vb) + (own_e q (ba + bb)) * (vc + (own_e q bc) * (p4.toInt64)))))]) (fun t_ k_ => XS.aload X20.here hx rfl (hb hby at_304) rfl rfl k_) ?_
      obtain ⟨_, _, ⟨T21, L21, k21, n21⟩, -, X21, ⟨Lc21, hQ21, l21, y21, z21⟩, st21⟩ := Jvm.LawKit.callS X20 hx (y := (⟨"com/example/placewright/placewright/GrowingRanksAddPinLaw", "ref", "([Z[D[D)D"⟩ : MethodName)) hown (mvT hZ (wd hw 35 rfl)) (mvT hZ (wd hw 36 rfl)) (mvT hZ (wd hw 37 rfl)) (mvT hZ (wd hw 38 rfl)) (by decide) (backOf (W := 2) (rmref l Z a0 hw [] ti tv td _ _ _ q va vb vc (p4.toInt64) ba bb bc (1 : Int32) h19 n0 Z0 V_ti V_tv V_td hq hva hvb hvc (own_ib p4)) hZ (wd hw 38 rfl) (wd hw 37 rfl) (by decide) (by decide)) (g := (mkF m 306 #[.val (.int p1), .val (.int p2), .val (.int p3), .val (.int p4), .val (.int p5), .val (.int p6), .val (.double (FP.l2d q)), .second, .val (.int kk_), .val (.ref td), .val (.ref a1), .val (.int (1 : Int32)), .val (.ref ta), .val (.int rr), .val (.int cx), .val (.int pa), .val (.int cy), .val (.int (3 : Int32)), .val (.int cz), .val (.int pc_), .val (.int pd_), .val (.ref ti), .val (.ref tv)] [(.ref td), (.ref tv), (.ref ti), (.double (FP.l2d ((va + (own_e q ba) * vb) + (own_e q (ba + bb)) * (vc + (own_e q bc) * (p4.toInt64)))))])) rfl (by rw [hml]; rfl) (argsL := [(.ref ti), (.ref tv), (.ref td)]) (rest := [(.double (FP.l2d ((va + (own_e q ba) * vb) + (own_e q (ba + bb)) * (vc + (own_e q bc) * (p4.toInt64)))))]) (lenOf pd_2 rfl) rfl (by show 2 * 0 + _ ≤ _; exact Nat.le_of_eq rfl) (hb hby at_306) (fun _ _ => ⟨rfl, e20, (by decide : 7 + 0 ≤ _), (by decide : 40 + 0 ≤ _)⟩)
      dsimp only [Pt.U, Pt.locs, Pt.cells, Pt.slots] at X21 l21 y21 z21 st21 hQ21
      subst l21 y21 z21
      obtain ⟨rfl, N21q, e21⟩ := hQ21
      have N21 := Fr.app N20 N21q
      refine Go.st (pc' := 309) (S' := [(.double (FP.l2d (own_fin0 q ba bb bc (1 : Int32) va vb vc (p4.toInt64) 0 0))), (.double (FP.l2d ((va + (own_e q ba) * vb) + (own_e q (ba + bb)) * (vc + (own_e q bc) * (p4.toInt64)))))]) st21 ?_
      refine Go.st (pc' := 310) (S' := [(.int (cmpValue (FP.dcmp (FP.l2d ((va + (own_e q ba) * vb) + (own_e q (ba + bb)) * (vc + (own_e q bc) * (p4.toInt64)))) (FP.l2d (own_fin0 q ba bb bc (1 : Int32) va vb vc (p4.toInt64) 0 0))) .l))]) (fun t_ k_ => XS.dcmpS X21.here hx rfl (hb hby at_309) rfl rfl k_) ?_
      refine Go.st (pc' := 313) (S' := []) (fun t_ k_ => XS.ifNo X21.here hx rfl (hb hby at_310) rfl ((if0 _ _).trans (teq (own_dc (own_same0 hba hbb hbc (Or.inr rfl)) : ((cmpValue (FP.dcmp (FP.l2d ((va + (own_e q ba) * vb) + (own_e q (ba + bb)) * (vc + (own_e q bc) * (p4.toInt64)))) (FP.l2d (own_fin0 q ba bb bc (1 : Int32) va vb vc (p4.toInt64) 0 0))) .l) = (0 : Int32)))).2) k_) ?_
      refine Go.st (pc' := 314) (S' := [(.int (1 : Int32))]) (fun t_ k_ => XS.iconst X21.here hx rfl (hb hby at_313) k_) ?_
      refine Go.st (pc' := 318) (S' := [(.int (1 : Int32))]) (fun t_ k_ => XS.goto X21.here hx rfl (pc0 := 314) (pc' := 318) rfl (hb hby at_314) (by decide) (by decide) k_) ?_
      refine Go.st (pc' := 320) (S' := []) (fun t_ k_ => XS.istore X21.here hx rfl (hb hby at_318) rfl (l' := #[.val (.int p1), .val (.int p2), .val (.int p3), .val (.int p4), .val (.int p5), .val (.int p6), .val (.double (FP.l2d q)), .second, .val (.int kk_), .val (.ref td), .val (.ref a1), .val (.int (1 : Int32)), .val (.ref ta), .val (.int rr), .val (.int cx), .val (.int pa), .val (.int cy), .val (.int (3 : Int32)), .val (.int cz), .val (.int pc_), .val (.int pd_), .val (.ref ti), .val (.ref tv)]) rfl k_) ?_
      exact sl320 p1 p2 p3 p4 p5 p6 kk_ q a1 td tc tw _ _ _ ti tv _ _ cx cy cz pa (3 : Int32) pc_ pd_ ta rr ba bb bc (1 : Int32) va vb vc (p4.toInt64) (Stand.up X21 (by decide) (by decide)) hx hZ hw hby hml hown hnm hret hlk e21 N21 Z0 E_a1 F_discounts F_leaves F_count F_worth V_td Vc17 Vw17 ⟨ne5.1, ne5.2.1, ne5.2.2.1, ne5.2.2.2.1, ne5.2.2.2.2⟩ g_tc g_tw  V_ti V_tv ne9 g_ti g_tv hba hbb hbc (Or.inr rfl) hq hva hvb hvc (own_ib p4) hpm ⟨hf2.1, hf2.2.1, hf2.2.2.1, (fun z => absurd z.symm hpm.2.2.2.2.2.2.2.1)⟩ ⟨hf3.1, hf3.2.1, hf3.2.2.1, (fun z => absurd z.symm hpm.2.2.2.2.2.2.2.2.1)⟩

theorem sl210 {p : Program} {l : Launch} {e : Env} {s : State} {m : MethodId} {args : Array Value} {below : List Frame} {meth : Method} {c : Code} {T0 : State} {locs : List Loc} {Z : State} {a0 : Array Value} {n0 : Nat} {h0 hh : Heap} (p1 p2 p3 p4 p5 p6 kk_ : Int32) (q : Int64) (a1 td tc tw : Addr) (kd kc kw : ClassId) (ti tv : Addr) (ki kv : ClassId) (cx cy cz pa pb pc_ pd_ : Int32) (ta : Addr) (rr : Int32) (ba bb bc bd : Int32) (va vb vc vd : Int64)
    (X0 : Stand p l e room_1 s m args below meth c T0 locs 7 40) (hx : p.tables.exec = Jvm.exec) (hZ : Z.Warmed39 s.vm) (hw : ∀ d ∈ tables_1, d.before a0 Z = true) (hby : c.code = code) (hml : c.maxLocals = 23) (hown : s.vm.findClass "com/example/placewright/placewright/GrowingRanksAddPinLaw" = some m.cls) (hnm : meth.name = "law") (hret : meth.sig.returnType = (some .boolean)) (hlk : meth.locks = false) (e0 : T0.heap = hh) (N0 : Fr n0 locs) (Z0 : n0 ≤ hh.size) (E_a1 : Exa Z hh a1 "com/example/placewright/placewright/GrowingRanks") (F_discounts : Fld Z hh a1 "com/example/placewright/placewright/GrowingRanks" "discounts" "[D" (.ref td)) (F_leaves : Fld Z hh a1 "com/example/placewright/placewright/GrowingRanks" "leaves" "I" (.int (4 : Int32))) (F_count : Fld Z hh a1 "com/example/placewright/placewright/GrowingRanks" "count" "[I" (.ref tc)) (F_worth : Fld Z hh a1 "com/example/placewright/placewright/GrowingRanks" "worth" "[D" (.ref tw)) (V_td : Arv Z hh td kd .double (5 : Int32) [(.double (FP.l2d 1)), (.double (FP.l2d q)), (.double (FP.l2d (q * q))), (.double (FP.l2d ((q * q) * q))), (.double (FP.l2d (((q * q) * q) * q)))] (.double (0 : UInt64))) (V_tc : Arv Z hh tc kc .int (8 : Int32) [(.int (0 : Int32)), (.int ((ba + bb) + (bc + bd))), (.int (ba + bb)), (.int (bc + bd)), (.int ba), (.int bb), (.int bc), (.int bd)] (.int (0 : Int32))) (V_tw : Arv Z hh tw kw .double (8 : Int32) [(.double (0 : UInt64)), (.double (FP.l2d ((va + (own_e q ba) * vb) + (own_e q (ba + bb)) * (vc + (own_e q bc) * vd)))), (.double (FP.l2d (va + (own_e q ba) * vb))), (.double (FP.l2d (vc + (own_e q bc) * vd))), (.double (FP.l2d va)), (.double (FP.l2d vb)), (.double (FP.l2d vc)), (.double (FP.l2d vd))] (.double (0 : UInt64))) (ne5 : a1 ≠ tc ∧ a1 ≠ tw ∧ tc ≠ tw ∧ td ≠ tc ∧ td ≠ tw) (g_tc : n0 ≤ tc) (g_tw : n0 ≤ tw) (V_ti : Arv Z hh ti ki .boolean (4 : Int32) [(.int ba), (.int bb), (.int bc), (.int bd)] (.int (0 : Int32))) (V_tv : Arv Z hh tv kv .double (4 : Int32) [(.double (FP.l2d va)), (.double (FP.l2d vb)), (.double (FP.l2d vc)), (.double (FP.l2d vd))] (.double (0 : UInt64))) (ne9 : own_ne9 a1 td tc tw ti tv) (g_ti : n0 ≤ ti) (g_tv : n0 ≤ tv) (hba : (ba = 0 ∧ va = 0) ∨ ba = 1) (hbb : (bb = 0 ∧ vb = 0) ∨ bb = 1) (hbc : (bc = 0 ∧ vc = 0) ∨ bc = 1) (hbd : (bd = 0 ∧ vd = 0) ∨ bd = 1) (hq : own_b 4 q) (hva : own_b 2147483648 va) (hvb : own_b 2147483648 vb) (hvc : own_b 2147483648 vc) (hvd : own_b 2147483648 vd) (hpm : own_pm pa pb pc_ pd_) (hf0 : own_fr pa ba bb bc bd) (hf1 : own_fr pb ba bb bc bd) (hf2 : own_fr pc_ ba bb bc bd) (hf3 : own_fr pd_ ba bb bc bd) :
    Go p e below s room_1.cells room_1.slots (Q0 Z h0 n0) m T0 210 #[.val (.int p1), .val (.int p2), .val (.int p3), .val (.int p4), .val (.int p5), .val (.int p6), .val (.double (FP.l2d q)), .second, .val (.int kk_), .val (.ref td), .val (.ref a1), .val (.int (1 : Int32)), .val (.ref ta), .val (.int rr), .val (.int cx), .val (.int pa), .val (.int cy), .val (.int pb), .val (.int cz), .val (.int pc_), .val (.int pd_), .val (.ref ti), .val (.ref tv)] [] := by
  rcases hpm.1 with rfl | rfl | rfl | rfl
  · have z_ := (hf0).1 rfl
    subst z_
    have zv_ : va = 0 := hba.elim And.right (fun z => absurd z (by decide))
    subst zv_
    have hbb_ := own_01 hbb
    have hbc_ := own_01 hbc
    have hbd_ := own_01 hbd
    refine Go.st (pc' := 212) (S' := [(.ref a1)]) (fun t_ k_ => XS.aload X0.here hx rfl (hb hby at_210) rfl rfl k_) ?_
    refine Go.st (pc' := 214) (S' := [(.int (0 : Int32)), (.ref a1)]) (fun t_ k_ => XS.iload X0.here hx rfl (hb hby at_212) rfl k_) ?_
    refine Go.st (pc' := 215) (S' := [(.int p3), (.int (0 : Int32)), (.ref a1)]) (fun t_ k_ => XS.iloadN X0.here hx rfl (hb hby at_214) rfl k_) ?_
    refine Go.st (pc' := 216) (S' := [(.double (FP.l2d (p3.toInt64))), (.int (0 : Int32)), (.ref a1)]) (fun t_ k_ => XS.i2dS X0.here hx rfl (hb hby at_215) rfl (i2d_w _) k_) ?_
    obtain ⟨cq1, kq1, q1a, q1b, q1c⟩ := isOf hZ e0 E_a1
    obtain ⟨_, _, ⟨T1, L1, k1, n1⟩, -, X1, ⟨Lc1, hQ1, l1, y1, z1⟩, st1⟩ := X0.virtualBack hx (y := (⟨"com/example/placewright/placewright/GrowingRanks", "add", "(ID)V"⟩ : MethodName)) (z := (⟨"com/example/placewright/placewright/GrowingRanks", "add", "(ID)V"⟩ : MethodName)) hown (mvT hZ (wd hw 26 rfl)) (mvT hZ (wd hw 27 rfl)) (notFace_of_selects (args := #[]) (mvT hZ (wd hw 29 rfl))) (mvT hZ (wd hw 29 rfl)) (mvT hZ (wd hw 28 rfl)) (by decide) (backOf (W := 0) (rmadd0 l Z a0 hw [] a1 td tc tw _ _ _ q (p3.toInt64) (0 : Int64) vb vc vd bb bc bd hh n0 Z0 E_a1 F_discounts F_leaves F_count F_worth V_td V_tc V_tw ⟨ne5.1, ne5.2.1, ne5.2.2.1, ne5.2.2.2.1, ne5.2.2.2.2⟩ g_tc g_tw hq (own_ib p3) own_z0' hvb hvc hvd hbb_ hbc_ hbd_) hZ (wd hw 30 rfl) (wd hw 3 rfl) (by decide) (by decide)) q1a q1c (g := (mkF m 216 #[.val (.int p1), .val (.int p2), .val (.int p3), .val (.int p4), .val (.int p5), .val (.int p6), .val (.double (FP.l2d q)), .second, .val (.int kk_), .val (.ref td), .val (.ref a1), .val (.int (1 : Int32)), .val (.ref ta), .val (.int rr), .val (.int cx), .val (.int (0 : Int32)), .val (.int cy), .val (.int pb), .val (.int cz), .val (.int pc_), .val (.int pd_), .val (.ref ti), .val (.ref tv)] [(.double (FP.l2d (p3.toInt64))), (.int (0 : Int32)), (.ref a1)])) rfl (by rw [hml]; rfl) (Steps.refl _) (argsL := [(.int (0 : Int32)), (.double (FP.l2d (p3.toInt64)))]) (rest := []) (lenOf pd_0 rfl) rfl (by show 2 * 0 + _ ≤ _; exact Nat.le_of_eq rfl) (hb hby at_216) (fun _ _ => ⟨rfl, e0, (by decide : 7 + 0 ≤ _), (by decide : 40 + 0 ≤ _)⟩)
    dsimp only [Pt.U, Pt.locs, Pt.cells, Pt.slots] at X1 l1 y1 z1 st1 hQ1
    subst l1 y1 z1
    obtain ⟨rfl, N1q, K1, Vc1, Vw1⟩ := hQ1
    have N1 := Fr.app N0 N1q
    obtain ⟨h1, e1⟩ : ∃ z, T1.heap = z := ⟨_, rfl⟩
    rw [e1] at K1 Vc1 Vw1
    replace Z0 := Nat.le_trans Z0 K1.1
    replace E_a1 := E_a1.keep K1
    replace F_discounts := F_discounts.keep K1 (ninS ne5.1 (ninS ne5.2.1 nin0))
    replace F_leaves := F_leaves.keep K1 (ninS ne5.1 (ninS ne5.2.1 nin0))
    replace F_count := F_count.keep K1 (ninS ne5.1 (ninS ne5.2.1 nin0))
    replace F_worth := F_worth.keep K1 (ninS ne5.1 (ninS ne5.2.1 nin0))
    replace V_td := V_td.keep K1 (ninS ne5.2.2.2.1 (ninS ne5.2.2.2.2 nin0))
    replace V_ti := V_ti.keep K1 (ninS (Ne.symm ne9.2.2.1) (ninS (Ne.symm ne9.2.2.2.1) nin0))
    replace V_tv := V_tv.keep K1 (ninS (Ne.symm ne9.2.2.2.2.2.2.1) (ninS (Ne.symm ne9.2.2.2.2.2.2.2.1) nin0))
    refine Go.tr (pc' := 219) (S' := []) st1 ?_
    refine Go.st (pc' := 221) (S' := [(.ref ti)]) (fun t_ k_ => XS.aload X1.here hx rfl (hb hby at_219) rfl rfl k_) ?_
    refine Go.st (pc' := 223) (S' := [(.int (0 : Int32)), (.ref ti)]) (fun t_ k_ => XS.iload X1.here hx rfl (hb hby at_221) rfl k_) ?_
    refine Go.st (pc' := 224) (S' := [(.int (1 : Int32)), (.int (0 : Int32)), (.ref ti)]) (fun t_ k_ => XS.iconst X1.here hx rfl (hb hby at_223) k_) ?_
    obtain ⟨cl2, Ar2, q21, q22, q23, q24, q25⟩ := V_ti
    obtain ⟨T2, h2, X2, e2, W2, st2⟩ := stZ X1 hx hZ e1 Ar2 (j := (0 : Int32)) (inb_of q22 ⟨by decide, by decide⟩) (g := (mkF m 224 #[.val (.int p1), .val (.int p2), .val (.int p3), .val (.int p4), .val (.int p5), .val (.int p6), .val (.double (FP.l2d q)), .second, .val (.int kk_), .val (.ref td), .val (.ref a1), .val (.int (1 : Int32)), .val (.ref ta), .val (.int rr), .val (.int cx), .val (.int (0 : Int32)), .val (.int cy), .val (.int pb), .val (.int cz), .val (.int pc_), .val (.int pd_), .val (.ref ti), .val (.ref tv)] [(.int (1 : Int32)), (.int (0 : Int32)), (.ref ti)])) rfl rfl (hb hby at_224)
    replace V_ti := Arv.set Ar2 q21 q22 q23 q24 q25 (fits_nar_bool _) W2 0 rfl (Nat.le_of_ble_eq_true rfl)
    have V_ti : Arv Z h2 ti ki .boolean (4 : Int32) [(.int (nar .boolean (1 : Int32))), (.int bb), (.int bc), (.int bd)] (.int (0 : Int32)) := V_ti
    replace Z0 := Nat.le_trans Z0 (Keep.of_wr W2).1
    replace E_a1 := E_a1.wr W2
    replace F_discounts := F_discounts.other W2 (Or.inl ne9.1)
    replace F_leaves := F_leaves.other W2 (Or.inl ne9.1)
    replace F_count := F_count.other W2 (Or.inl ne9.1)
    replace F_worth := F_worth.other W2 (Or.inl ne9.1)
    replace V_td := V_td.other W2 ne9.2.1
    replace V_tv := V_tv.other W2 (Ne.symm ne9.2.2.2.2.2.2.2.2)
    replace Vc1 := Vc1.other W2 ne9.2.2.1
    replace Vw1 := Vw1.other W2 ne9.2.2.2.1
    have N2 := Fr.snoc X2 N1 g_ti
    refine Go.st (pc' := 225) (S' := []) st2 ?_
    refine Go.st (pc' := 227) (S' := [(.ref tv)]) (fun t_ k_ => XS.aload X2.here hx rfl (hb hby at_225) rfl rfl k_) ?_
    refine Go.st (pc' := 229) (S' := [(.int (0 : Int32)), (.ref tv)]) (fun t_ k_ => XS.iload X2.here hx rfl (hb hby at_227) rfl k_) ?_
    refine Go.st (pc' := 230) (S' := [(.int p3), (.int (0 : Int32)), (.ref tv)]) (fun t_ k_ => XS.iloadN X2.here hx rfl (hb hby at_229) rfl k_) ?_
    refine Go.st (pc' := 231) (S' := [(.double (FP.l2d (p3.toInt64))), (.int (0 : Int32)), (.ref tv)]) (fun t_ k_ => XS.i2dS X2.here hx rfl (hb hby at_230) rfl (i2d_w _) k_) ?_
    obtain ⟨cl3, Ar3, q31, q32, q33, q34, q35⟩ := V_tv
    obtain ⟨T3, h3, X3, e3, W3, st3⟩ := stD X2 hx hZ e2 Ar3 (j := (0 : Int32)) (inb_of q32 ⟨by decide, by decide⟩) (g := (mkF m 231 #[.val (.int p1), .val (.int p2), .val (.int p3), .val (.int p4), .val (.int p5), .val (.int p6), .val (.double (FP.l2d q)), .second, .val (.int kk_), .val (.ref td), .val (.ref a1), .val (.int (1 : Int32)), .val (.ref ta), .val (.int rr), .val (.int cx), .val (.int (0 : Int32)), .val (.int cy), .val (.int pb), .val (.int cz), .val (.int pc_), .val (.int pd_), .val (.ref ti), .val (.ref tv)] [(.double (FP.l2d (p3.toInt64))), (.int (0 : Int32)), (.ref tv)])) rfl rfl (hb hby at_231)
    replace V_tv := Arv.set Ar3 q31 q32 q33 q34 q35 rfl W3 0 rfl (Nat.le_of_ble_eq_true rfl)
    have V_tv : Arv Z h3 tv kv .double (4 : Int32) [(.double (FP.l2d (p3.toInt64))), (.double (FP.l2d vb)), (.double (FP.l2d vc)), (.double (FP.l2d vd))] (.double (0 : UInt64)) := V_tv
    replace Z0 := Nat.le_trans Z0 (Keep.of_wr W3).1
    replace E_a1 := E_a1.wr W3
    replace F_discounts := F_discounts.other W3 (Or.inl ne9.2.2.2.2.1)
    replace F_leaves := F_leaves.other W3 (Or.inl ne9.2.2.2.2.1)
    replace F_count := F_count.other W3 (Or.inl ne9.2.2.2.2.1)
    replace F_worth := F_worth.other W3 (Or.inl ne9.2.2.2.2.1)
    replace V_td := V_td.other W3 ne9.2.2.2.2.2.1
    replace V_ti := V_ti.other W3 ne9.2.2.2.2.2.2.2.2
    replace Vc1 := Vc1.other W3 ne9.2.2.2.2.2.2.1
    replace Vw1 := Vw1.other W3 ne9.2.2.2.2.2.2.2.1
    have N3 := Fr.snoc X3 N2 g_tv
    refine Go.st (pc' := 232) (S' := []) st3 ?_
    refine Go.st (pc' := 234) (S' := [(.int (1 : Int32))]) (fun t_ k_ => XS.iload X3.here hx rfl (hb hby at_232) rfl k_) ?_
    refine Go.st (pc' := 237) (S' := []) (fun t_ k_ => XS.ifNo X3.here hx rfl (hb hby at_234) rfl ((if0 _ _).trans (feq (by decide : ¬ ((1 : Int32) = (0 : Int32)))).1) k_) ?_
    refine Go.st (pc' := 239) (S' := [(.ref a1)]) (fun t_ k_ => XS.aload X3.here hx rfl (hb hby at_237) rfl rfl k_) ?_
    obtain ⟨cq4, kq4, q4a, q4b, q4c⟩ := isOf hZ e3 E_a1
    obtain ⟨_, _, ⟨T4, L4, k4, n4⟩, -, X4, ⟨Lc4, hQ4, l4, y4, z4⟩, st4⟩ := X3.virtualBack hx (y := (⟨"com/example/placewright/placewright/GrowingRanks", "value", "()D"⟩ : MethodName)) (z := (⟨"com/example/placewright/placewright/GrowingRanks", "value", "()D"⟩ : MethodName)) hown (mvT hZ (wd hw 19 rfl)) (mvT hZ (wd hw 20 rfl)) (notFace_of_selects (args := #[]) (mvT hZ (wd hw 22 rfl))) (mvT hZ (wd hw 22 rfl)) (mvT hZ (wd hw 21 rfl)) (by decide) (backOf (W := 0) (rmval l Z a0 hw [] a1 tw _ (0 : UInt64) (FP.l2d (((p3.toInt64) + (own_e q (1 : Int32)) * vb) + (own_e q ((1 : Int32) + bb)) * (vc + (own_e q bc) * vd))) (FP.l2d ((p3.toInt64) + (own_e q (1 : Int32)) * vb)) (FP.l2d (vc + (own_e q bc) * vd)) (FP.l2d (p3.toInt64)) (FP.l2d vb) (FP.l2d vc) (FP.l2d vd) h3 n0 Z0 F_worth Vw1) hZ (wd hw 23 rfl) (wd hw 3 rfl) (by decide) (by decide)) q4a q4c (g := (mkF m 239 #[.val (.int p1), .val (.int p2), .val (.int p3), .val (.int p4), .val (.int p5), .val (.int p6), .val (.double (FP.l2d q)), .second, .val (.int kk_), .val (.ref td), .val (.ref a1), .val (.int (1 : Int32)), .val (.ref ta), .val (.int rr), .val (.int cx), .val (.int (0 : Int32)), .val (.int cy), .val (.int pb), .val (.int cz), .val (.int pc_), .val (.int pd_), .val (.ref ti), .val (.ref tv)] [(.ref a1)])) rfl (by rw [hml]; rfl) (Steps.refl _) (argsL := []) (rest := []) (lenOf pd_1 rfl) rfl (by show 2 * 0 + _ ≤ _; exact Nat.le_of_eq rfl) (hb hby at_239) (fun _ _ => ⟨rfl, e3, (by decide : 7 + 0 ≤ _), (by decide : 40 + 0 ≤ _)⟩)
    dsimp only [Pt.U, Pt.locs, Pt.cells, Pt.slots] at X4 l4 y4 z4 st4 hQ4
    subst l4 y4 z4
    obtain ⟨rfl, N4q, e4⟩ := hQ4
    have N4 := Fr.app N3 N4q
    refine Go.tr (pc' := 242) (S' := [(.double (FP.l2d (((p3.toInt64) + (own_e q (1 : Int32)) * vb) + (own_e q ((1 : Int32) + bb)) * (vc + (own_e q bc) * vd))))]) st4 ?_
    refine Go.st (pc' := 244) (S' := [(.ref ti), (.double (FP.l2d (((p3.toInt64) + (own_e q (1 : Int32)) * vb) + (own_e q ((1 : Int32) + bb)) * (vc + (own_e q bc) * vd))))]) (fun t_ k_ => XS.aload X4.here hx rfl (hb hby at_242) rfl rfl k_) ?_
    refine Go.st (pc' := 246) (S' := [(.ref tv), (.ref ti), (.double (FP.l2d (((p3.toInt64) + (own_e q (1 : Int32)) * vb) + (own_e q ((1 : Int32) + bb)) * (vc + (own_e q bc) * vd))))]) (fun t_ k_ => XS.aload X4.here hx rfl (hb hby at_244) rfl rfl k_) ?_
    refine Go.st (pc' := 248) (S' := [(.ref td), (.ref tv), (.ref ti), (.double (FP.l2d (((p3.toInt64) + (own_e q (1 : Int32)) * vb) + (own_e q ((1 : Int32) + bb)) * (vc + (own_e q bc) * vd))))]) (fun t_ k_ => XS.aload X4.here hx rfl (hb hby at_246) rfl rfl k_) ?_
    obtain ⟨_, _, ⟨T5, L5, k5, n5⟩, -, X5, ⟨Lc5, hQ5, l5, y5, z5⟩, st5⟩ := Jvm.LawKit.callS X4 hx (y := (⟨"com/example/placewright/placewright/GrowingRanksAddPinLaw", "ref", "([Z[D[D)D"⟩ : MethodName)) hown (mvT hZ (wd hw 35 rfl)) (mvT hZ (wd hw 36 rfl)) (mvT hZ (wd hw 37 rfl)) (mvT hZ (wd hw 38 rfl)) (by decide) (backOf (W := 2) (rmref l Z a0 hw [] ti tv td _ _ _ q (p3.toInt64) vb vc vd (1 : Int32) bb bc bd h3 n0 Z0 V_ti V_tv V_td hq (own_ib p3) hvb hvc hvd) hZ (wd hw 38 rfl) (wd hw 37 rfl) (by decide) (by decide)) (g := (mkF m 248 #[.val (.int p1), .val (.int p2), .val (.int p3), .val (.int p4), .val (.int p5), .val (.int p6), .val (.double (FP.l2d q)), .second, .val (.int kk_), .val (.ref td), .val (.ref a1), .val (.int (1 : Int32)), .val (.ref ta), .val (.int rr), .val (.int cx), .val (.int (0 : Int32)), .val (.int cy), .val (.int pb), .val (.int cz), .val (.int pc_), .val (.int pd_), .val (.ref ti), .val (.ref tv)] [(.ref td), (.ref tv), (.ref ti), (.double (FP.l2d (((p3.toInt64) + (own_e q (1 : Int32)) * vb) + (own_e q ((1 : Int32) + bb)) * (vc + (own_e q bc) * vd))))])) rfl (by rw [hml]; rfl) (argsL := [(.ref ti), (.ref tv), (.ref td)]) (rest := [(.double (FP.l2d (((p3.toInt64) + (own_e q (1 : Int32)) * vb) + (own_e q ((1 : Int32) + bb)) * (vc + (own_e q bc) * vd))))]) (lenOf pd_2 rfl) rfl (by show 2 * 0 + _ ≤ _; exact Nat.le_of_eq rfl) (hb hby at_248) (fun _ _ => ⟨rfl, e4, (by decide : 7 + 0 ≤ _), (by decide : 40 + 0 ≤ _)⟩)
    dsimp only [Pt.U, Pt.locs, Pt.cells, Pt.slots] at X5 l5 y5 z5 st5 hQ5
    subst l5 y5 z5
    obtain ⟨rfl, N5q, e5⟩ := hQ5
    have N5 := Fr.app N4 N5q
    refine Go.st (pc' := 251) (S' := [(.double (FP.l2d (own_fin0 q (1 : Int32) bb bc bd (p3.toInt64) vb vc vd 0 0))), (.double (FP.l2d (((p3.toInt64) + (own_e q (1 : Int32)) * vb) + (own_e q ((1 : Int32) + bb)) * (vc + (own_e q bc) * vd))))]) st5 ?_
    refine Go.st (pc' := 252) (S' := [(.int (cmpValue (FP.dcmp (FP.l2d (((p3.toInt64) + (own_e q (1 : Int32)) * vb) + (own_e q ((1 : Int32) + bb)) * (vc + (own_e q bc) * vd))) (FP.l2d (own_fin0 q (1 : Int32) bb bc bd (p3.toInt64) vb vc vd 0 0))) .l))]) (fun t_ k_ => XS.dcmpS X5.here hx rfl (hb hby at_251) rfl rfl k_) ?_
    refine Go.st (pc' := 255) (S' := []) (fun t_ k_ => XS.ifNo X5.here hx rfl (hb hby at_252) rfl ((if0 _ _).trans (teq (own_dc (own_same0 (Or.inr rfl) hbb hbc hbd) : ((cmpValue (FP.dcmp (FP.l2d (((p3.toInt64) + (own_e q (1 : Int32)) * vb) + (own_e q ((1 : Int32) + bb)) * (vc + (own_e q bc) * vd))) (FP.l2d (own_fin0 q (1 : Int32) bb bc bd (p3.toInt64) vb vc vd 0 0))) .l) = (0 : Int32)))).2) k_) ?_
    refine Go.st (pc' := 256) (S' := [(.int (1 : Int32))]) (fun t_ k_ => XS.iconst X5.here hx rfl (hb hby at_255) k_) ?_
    refine Go.st (pc' := 260) (S' := [(.int (1 : Int32))]) (fun t_ k_ => XS.goto X5.here hx rfl (pc0 := 256) (pc' := 260) rfl (hb hby at_256) (by decide) (by decide) k_) ?_
    refine Go.st (pc' := 262) (S' := []) (fun t_ k_ => XS.istore X5.here hx rfl (hb hby at_260) rfl (l' := #[.val (.int p1), .val (.int p2), .val (.int p3), .val (.int p4), .val (.int p5), .val (.int p6), .val (.double (FP.l2d q)), .second, .val (.int kk_), .val (.ref td), .val (.ref a1), .val (.int (1 : Int32)), .val (.ref ta), .val (.int rr), .val (.int cx), .val (.int (0 : Int32)), .val (.int cy), .val (.int pb), .val (.int cz), .val (.int pc_), .val (.int pd_), .val (.ref ti), .val (.ref tv)]) rfl k_) ?_
    exact sl262 p1 p2 p3 p4 p5 p6 kk_ q a1 td tc tw _ _ _ ti tv _ _ cx cy cz (0 : Int32) pb pc_ pd_ ta rr (1 : Int32) bb bc bd (p3.toInt64) vb vc vd (Stand.up X5 (by decide) (by decide)) hx hZ hw hby hml hown hnm hret hlk e5 N5 Z0 E_a1 F_discounts F_leaves F_count F_worth V_td Vc1 Vw1 ⟨ne5.1, ne5.2.1, ne5.2.2.1, ne5.2.2.2.1, ne5.2.2.2.2⟩ g_tc g_tw  V_ti V_tv ne9 g_ti g_tv (Or.inr rfl) hbb hbc hbd hq (own_ib p3) hvb hvc hvd hpm ⟨(fun z => absurd z.symm hpm.2.2.2.2.1), hf1.2.1, hf1.2.2.1, hf1.2.2.2⟩ ⟨(fun z => absurd z.symm hpm.2.2.2.2.2.1), hf2.2.1, hf2.2.2.1, hf2.2.2.2⟩ ⟨(fun z => absurd z.symm hpm.2.2.2.2.2.2.1), hf3.2.1, hf3.2.2.1, hf3.2.2.2⟩
  · have z_ := (hf0).2.1 rfl
    subst z_
    have zv_ : vb = 0 := hbb.elim And.right (fun z => absurd z (by decide))
    subst zv_
    have hba_ := own_01 hba
    have hbc_ := own_01 hbc
    have hbd_ := own_01 hbd
    refine Go.st (pc' := 212) (S' := [(.ref a1)]) (fun t_ k_ => XS.aload X0.here hx rfl (hb hby at_210) rfl rfl k_) ?_
    refine Go.st (pc' := 214) (S' := [(.int (1 : Int32)), (.ref a1)]) (fun t_ k_ => XS.iload X0.here hx rfl (hb hby at_212) rfl k_) ?_
    refine Go.st (pc' := 215) (S' := [(.int p3), (.int (1 : Int32)), (.ref a1)]) (fun t_ k_ => XS.iloadN X0.here hx rfl (hb hby at_214) rfl k_) ?_
    refine Go.st (pc' := 216) (S' := [(.double (FP.l2d (p3.toInt64))), (.int (1 : Int32)), (.ref a1)]) (fun t_ k_ => XS.i2dS X0.here hx rfl (hb hby at_215) rfl (i2d_w _) k_) ?_
    obtain ⟨cq6, kq6, q6a, q6b, q6c⟩ := isOf hZ e0 E_a1
    obtain ⟨_, _, ⟨T6, L6, k6, n6⟩, -, X6, ⟨Lc6, hQ6, l6, y6, z6⟩, st6⟩ := X0.virtualBack hx (y := (⟨"com/example/placewright/placewright/GrowingRanks", "add", "(ID)V"⟩ : MethodName)) (z := (⟨"com/example/placewright/placewright/GrowingRanks", "add", "(ID)V"⟩ : MethodName)) hown (mvT hZ (wd hw 26 rfl)) (mvT hZ (wd hw 27 rfl)) (notFace_of_selects (args := #[]) (mvT hZ (wd hw 29 rfl))) (mvT hZ (wd hw 29 rfl)) (mvT hZ (wd hw 28 rfl)) (by decide) (backOf (W := 0) (rmadd1 l Z a0 hw [] a1 td tc tw _ _ _ q (p3.toInt64) va (0 : Int64) vc vd ba bc bd hh n0 Z0 E_a1 F_discounts F_leaves F_count F_worth V_td V_tc V_tw ⟨ne5.1, ne5.2.1, ne5.2.2.1, ne5.2.2.2.1, ne5.2.2.2.2⟩ g_tc g_tw hq (own_ib p3) hva own_z0' hvc hvd hba_ hbc_ hbd_) hZ (wd hw 30 rfl) (wd hw 3 rfl) (by decide) (by decide)) q6a q6c (g := (mkF m 216 #[.val (.int p1), .val (.int p2), .val (.int p3), .val (.int p4), .val (.int p5), .val (.int p6), .val (.double (FP.l2d q)), .second, .val (.int kk_), .val (.ref td), .val (.ref a1), .val (.int (1 : Int32)), .val (.ref ta), .val (.int rr), .val (.int cx), .val (.int (1 : Int32)), .val (.int cy), .val (.int pb), .val (.int cz), .val (.int pc_), .val (.int pd_), .val (.ref ti), .val (.ref tv)] [(.double (FP.l2d (p3.toInt64))), (.int (1 : Int32)), (.ref a1)])) rfl (by rw [hml]; rfl) (Steps.refl _) (argsL := [(.int (1 : Int32)), (.double (FP.l2d (p3.toInt64)))]) (rest := []) (lenOf pd_0 rfl) rfl (by show 2 * 0 + _ ≤ _; exact Nat.le_of_eq rfl) (hb hby at_216) (fun _ _ => ⟨rfl, e0, (by decide : 7 + 0 ≤ _), (by decide : 40 + 0 ≤ _)⟩)
    dsimp only [Pt.U, Pt.locs, Pt.cells, Pt.slots] at X6 l6 y6 z6 st6 hQ6
    subst l6 y6 z6
    obtain ⟨rfl, N6q, K6, Vc6, Vw6⟩ := hQ6
    have N6 := Fr.app N0 N6q
    obtain ⟨h6, e6⟩ : ∃ z, T6.heap = z := ⟨_, rfl⟩
    rw [e6] at K6 Vc6 Vw6
    replace Z0 := Nat.le_trans Z0 K6.1
    replace E_a1 := E_a1.keep K6
    replace F_discounts := F_discounts.keep K6 (ninS ne5.1 (ninS ne5.2.1 nin0))
    replace F_leaves := F_leaves.keep K6 (ninS ne5.1 (ninS ne5.2.1 nin0))
    replace F_count := F_count.keep K6 (ninS ne5.1 (ninS ne5.2.1 nin0))
    replace F_worth := F_worth.keep K6 (ninS ne5.1 (ninS ne5.2.1 nin0))
    replace V_td := V_td.keep K6 (ninS ne5.2.2.2.1 (ninS ne5.2.2.2.2 nin0))
    replace V_ti := V_ti.keep K6 (ninS (Ne.symm ne9.2.2.1) (ninS (Ne.symm ne9.2.2.2.1) nin0))
    replace V_tv := V_tv.keep K6 (ninS (Ne.symm ne9.2.2.2.2.2.2.1) (ninS (Ne.symm ne9.2.2.2.2.2.2.2.1) nin0))
    refine Go.tr (pc' := 219) (S' := []) st6 ?_
    refine Go.st (pc' := 221) (S' := [(.ref ti)]) (fun t_ k_ => XS.aload X6.here hx rfl (hb hby at_219) rfl rfl k_) ?_
    refine Go.st (pc' := 223) (S' := [(.int (1 : Int32)), (.ref ti)]) (fun t_ k_ => XS.iload X6.here hx rfl (hb hby at_221) rfl k_) ?_
    refine Go.st (pc' := 224) (S' := [(.int (1 : Int32)), (.int (1 : Int32)), (.ref ti)]) (fun t_ k_ => XS.iconst X6.here hx rfl (hb hby at_223) k_) ?_
    obtain ⟨cl7, Ar7, q71, q72, q73, q74, q75⟩ := V_ti
    obtain ⟨T7, h7, X7, e7, W7, st7⟩ := stZ X6 hx hZ e6 Ar7 (j := (1 : Int32)) (inb_of q72 ⟨by decide, by decide⟩) (g := (mkF m 224 #[.val (.int p1), .val (.int p2), .val (.int p3), .val (.int p4), .val (.int p5), .val (.int p6), .val (.double (FP.l2d q)), .second, .val (.int kk_), .val (.ref td), .val (.ref a1), .val (.int (1 : Int32)), .val (.ref ta), .val (.int rr), .val (.int cx), .val (.int (1 : Int32)), .val (.int cy), .val (.int pb), .val (.int cz), .val (.int pc_), .val (.int pd_), .val (.ref ti), .val (.ref tv)] [(.int (1 : Int32)), (.int (1 : Int32)), (.ref ti)])) rfl rfl (hb hby at_224)
    replace V_ti := Arv.set Ar7 q71 q72 q73 q74 q75 (fits_nar_bool _) W7 1 rfl (Nat.le_of_ble_eq_true rfl)
    have V_ti : Arv Z h7 ti ki .boolean (4 : Int32) [(.int ba), (.int (nar .boolean (1 : Int32))), (.int bc), (.int bd)] (.int (0 : Int32)) := V_ti
    replace Z0 := Nat.le_trans Z0 (Keep.of_wr W7).1
    replace E_a1 := E_a1.wr W7
    replace F_discounts := F_discounts.other W7 (Or.inl ne9.1)
    replace F_leaves := F_leaves.other W7 (Or.inl ne9.1)
    replace F_count := F_count.other W7 (Or.inl ne9.1)
    replace F_worth := F_worth.other W7 (Or.inl ne9.1)
    replace V_td := V_td.other W7 ne9.2.1
    replace V_tv := V_tv.other W7 (Ne.symm ne9.2.2.2.2.2.2.2.2)
    replace Vc6 := Vc6.other W7 ne9.2.2.1
    replace Vw6 := Vw6.other W7 ne9.2.2.2.1
    have N7 := Fr.snoc X7 N6 g_ti
    refine Go.st (pc' := 225) (S' := []) st7 ?_
    refine Go.st (pc' := 227) (S' := [(.ref tv)]) (fun t_ k_ => XS.aload X7.here hx rfl (hb hby at_225) rfl rfl k_) ?_
    refine Go.st (pc' := 229) (S' := [(.int (1 : Int32)), (.ref tv)]) (fun t_ k_ => XS.iload X7.here hx rfl (hb hby at_227) rfl k_) ?_
    refine Go.st (pc' := 230) (S' := [(.int p3), (.int (1 : Int32)), (.ref tv)]) (fun t_ k_ => XS.iloadN X7.here hx rfl (hb hby at_229) rfl k_) ?_
    refine Go.st (pc' := 231) (S' := [(.double (FP.l2d (p3.toInt64))), (.int (1 : Int32)), (.ref tv)]) (fun t_ k_ => XS.i2dS X7.here hx rfl (hb hby at_230) rfl (i2d_w _) k_) ?_
    obtain ⟨cl8, Ar8, q81, q82, q83, q84, q85⟩ := V_tv
    obtain ⟨T8, h8, X8, e8, W8, st8⟩ := stD X7 hx hZ e7 Ar8 (j := (1 : Int32)) (inb_of q82 ⟨by decide, by decide⟩) (g := (mkF m 231 #[.val (.int p1), .val (.int p2), .val (.int p3), .val (.int p4), .val (.int p5), .val (.int p6), .val (.double (FP.l2d q)), .second, .val (.int kk_), .val (.ref td), .val (.ref a1), .val (.int (1 : Int32)), .val (.ref ta), .val (.int rr), .val (.int cx), .val (.int (1 : Int32)), .val (.int cy), .val (.int pb), .val (.int cz), .val (.int pc_), .val (.int pd_), .val (.ref ti), .val (.ref tv)] [(.double (FP.l2d (p3.toInt64))), (.int (1 : Int32)), (.ref tv)])) rfl rfl (hb hby at_231)
    replace V_tv := Arv.set Ar8 q81 q82 q83 q84 q85 rfl W8 1 rfl (Nat.le_of_ble_eq_true rfl)
    have V_tv : Arv Z h8 tv kv .double (4 : Int32) [(.double (FP.l2d va)), (.double (FP.l2d (p3.toInt64))), (.double (FP.l2d vc)), (.double (FP.l2d vd))] (.double (0 : UInt64)) := V_tv
    replace Z0 := Nat.le_trans Z0 (Keep.of_wr W8).1
    replace E_a1 := E_a1.wr W8
    replace F_discounts := F_discounts.other W8 (Or.inl ne9.2.2.2.2.1)
    replace F_leaves := F_leaves.other W8 (Or.inl ne9.2.2.2.2.1)
    replace F_count := F_count.other W8 (Or.inl ne9.2.2.2.2.1)
    replace F_worth := F_worth.other W8 (Or.inl ne9.2.2.2.2.1)
    replace V_td := V_td.other W8 ne9.2.2.2.2.2.1
    replace V_ti := V_ti.other W8 ne9.2.2.2.2.2.2.2.2
    replace Vc6 := Vc6.other W8 ne9.2.2.2.2.2.2.1
    replace Vw6 := Vw6.other W8 ne9.2.2.2.2.2.2.2.1
    have N8 := Fr.snoc X8 N7 g_tv
    refine Go.st (pc' := 232) (S' := []) st8 ?_
    refine Go.st (pc' := 234) (S' := [(.int (1 : Int32))]) (fun t_ k_ => XS.iload X8.here hx rfl (hb hby at_232) rfl k_) ?_
    refine Go.st (pc' := 237) (S' := []) (fun t_ k_ => XS.ifNo X8.here hx rfl (hb hby at_234) rfl ((if0 _ _).trans (feq (by decide : ¬ ((1 : Int32) = (0 : Int32)))).1) k_) ?_
    refine Go.st (pc' := 239) (S' := [(.ref a1)]) (fun t_ k_ => XS.aload X8.here hx rfl (hb hby at_237) rfl rfl k_) ?_
    obtain ⟨cq9, kq9, q9a, q9b, q9c⟩ := isOf hZ e8 E_a1
    obtain ⟨_, _, ⟨T9, L9, k9, n9⟩, -, X9, ⟨Lc9, hQ9, l9, y9, z9⟩, st9⟩ := X8.virtualBack hx (y := (⟨"com/example/placewright/placewright/GrowingRanks", "value", "()D"⟩ : MethodName)) (z := (⟨"com/example/placewright/placewright/GrowingRanks", "value", "()D"⟩ : MethodName)) hown (mvT hZ (wd hw 19 rfl)) (mvT hZ (wd hw 20 rfl)) (notFace_of_selects (args := #[]) (mvT hZ (wd hw 22 rfl))) (mvT hZ (wd hw 22 rfl)) (mvT hZ (wd hw 21 rfl)) (by decide) (backOf (W := 0) (rmval l Z a0 hw [] a1 tw _ (0 : UInt64) (FP.l2d ((va + (own_e q ba) * (p3.toInt64)) + (own_e q (ba + (1 : Int32))) * (vc + (own_e q bc) * vd))) (FP.l2d (va + (own_e q ba) * (p3.toInt64))) (FP.l2d (vc + (own_e q bc) * vd)) (FP.l2d va) (FP.l2d (p3.toInt64)) (FP.l2d vc) (FP.l2d vd) h8 n0 Z0 F_worth Vw6) hZ (wd hw 23 rfl) (wd hw 3 rfl) (by decide) (by decide)) q9a q9c (g := (mkF m 239 #[.val (.int p1), .val (.int p2), .val (.int p3), .val (.int p4), .val (.int p5), .val (.int p6), .val (.double (FP.l2d q)), .second, .val (.int kk_), .val (.ref td), .val (.ref a1), .val (.int (1 : Int32)), .val (.ref ta), .val (.int rr), .val (.int cx), .val (.int (1 : Int32)), .val (.int cy), .val (.int pb), .val (.int cz), .val (.int pc_), .val (.int pd_), .val (.ref ti), .val (.ref tv)] [(.ref a1)])) rfl (by rw [hml]; rfl) (Steps.refl _) (argsL := []) (rest := []) (lenOf pd_1 rfl) rfl (by show 2 * 0 + _ ≤ _; exact Nat.le_of_eq rfl) (hb hby at_239) (fun _ _ => ⟨rfl, e8, (by decide : 7 + 0 ≤ _), (by decide : 40 + 0 ≤ _)⟩)
    dsimp only [Pt.U, Pt.locs, Pt.cells, Pt.slots] at X9 l9 y9 z9 st9 hQ9
    subst l9 y9 z9
    obtain ⟨rfl, N9q, e9⟩ := hQ9
    have N9 := Fr.app N8 N9q
    refine Go.tr (pc' := 242) (S' := [(.double (FP.l2d ((va + (own_e q ba) * (p3.toInt64)) + (own_e q (ba + (1 : Int32))) * (vc + (own_e q bc) * vd))))]) st9 ?_
    refine Go.st (pc' := 244) (S' := [(.ref ti), (.double (FP.l2d ((va + (own_e q ba) * (p3.toInt64)) + (own_e q (ba + (1 : Int32))) * (vc + (own_e q bc) * vd))))]) (fun t_ k_ => XS.aload X9.here hx rfl (hb hby at_242) rfl rfl k_) ?_
    refine Go.st (pc' := 246) (S' := [(.ref tv), (.ref ti), (.double (FP.l2d ((va + (own_e q ba) * (p3.toInt64)) + (own_e q (ba + (1 : Int32))) * (vc + (own_e q bc) * vd))))]) (fun t_ k_ => XS.aload X9.here hx rfl (hb hby at_244) rfl rfl k_) ?_
    refine Go.st (pc' := 248) (S' := [(.ref td), (.ref tv), (.ref ti), (.double (FP.l2d ((va + (own_e q ba) * (p3.toInt64)) + (own_e q (ba + (1 : Int32))) * (vc + (own_e q bc) * vd))))]) (fun t_ k_ => XS.aload X9.here hx rfl (hb hby at_246) rfl rfl k_) ?_
    obtain ⟨_, _, ⟨T10, L10, k10, n10⟩, -, X10, ⟨Lc10, hQ10, l10, y10, z10⟩, st10⟩ := Jvm.LawKit.callS X9 hx (y := (⟨"com/example/placewright/placewright/GrowingRanksAddPinLaw", "ref", "([Z[D[D)D"⟩ : MethodName)) hown (mvT hZ (wd hw 35 rfl)) (mvT hZ (wd hw 36 rfl)) (mvT hZ (wd hw 37 rfl)) (mvT hZ (wd hw 38 rfl)) (by decide) (backOf (W := 2) (rmref l Z a0 hw [] ti tv td _ _ _ q va (p3.toInt64) vc vd ba (1 : Int32) bc bd h8 n0 Z0 V_ti V_tv V_td hq hva (own_ib p3) hvc hvd) hZ (wd hw 38 rfl) (wd hw 37 rfl) (by decide) (by decide)) (g := (mkF m 248 #[.val (.int p1), .val (.int p2), .val (.int p3), .val (.int p4), .val (.int p5), .val (.int p6), .val (.double (FP.l2d q)), .second, .val (.int kk_), .val (.ref td), .val (.ref a1), .val (.int (1 : Int32)), .val (.ref ta), .val (.int rr), .val (.int cx), .val (.int (1 : Int32)), .val (.int cy), .val (.int pb), .val (.int cz), .val (.int pc_), .val (.int pd_), .val (.ref ti), .val (.ref tv)] [(.ref td), (.ref tv), (.ref ti), (.double (FP.l2d ((va + (own_e q ba) * (p3.toInt64)) + (own_e q (ba + (1 : Int32))) * (vc + (own_e q bc) * vd))))])) rfl (by rw [hml]; rfl) (argsL := [(.ref ti), (.ref tv), (.ref td)]) (rest := [(.double (FP.l2d ((va + (own_e q ba) * (p3.toInt64)) + (own_e q (ba + (1 : Int32))) * (vc + (own_e q bc) * vd))))]) (lenOf pd_2 rfl) rfl (by show 2 * 0 + _ ≤ _; exact Nat.le_of_eq rfl) (hb hby at_248) (fun _ _ => ⟨rfl, e9, (by decide : 7 + 0 ≤ _), (by decide : 40 + 0 ≤ _)⟩)
    dsimp only [Pt.U, Pt.locs, Pt.cells, Pt.slots] at X10 l10 y10 z10 st10 hQ10
    subst l10 y10 z10
    obtain ⟨rfl, N10q, e10⟩ := hQ10
    have N10 := Fr.app N9 N10q
    refine Go.st (pc' := 251) (S' := [(.double (FP.l2d (own_fin0 q ba (1 : Int32) bc bd va (p3.toInt64) vc vd 0 0))), (.double (FP.l2d ((va + (own_e q ba) * (p3.toInt64)) + (own_e q (ba + (1 : Int32))) * (vc + (own_e q bc) * vd))))]) st10 ?_
    refine Go.st (pc' := 252) (S' := [(.int (cmpValue (FP.dcmp (FP.l2d ((va + (own_e q ba) * (p3.toInt64)) + (own_e q (ba + (1 : Int32))) * (vc + (own_e q bc) * vd))) (FP.l2d (own_fin0 q ba (1 : Int32) bc bd va (p3.toInt64) vc vd 0 0))) .l))]) (fun t_ k_ => XS.dcmpS X10.here hx rfl (hb hby at_251) rfl rfl k_) ?_
    refine Go.st (pc' := 255) (S' := []) (fun t_ k_ => XS.ifNo X10.here hx rfl (hb hby at_252) rfl ((if0 _ _).trans (teq (own_dc (own_same0 hba (Or.inr rfl) hbc hbd) : ((cmpValue (FP.dcmp (FP.l2d ((va + (own_e q ba) * (p3.toInt64)) + (own_e q (ba + (1 : Int32))) * (vc + (own_e q bc) * vd))) (FP.l2d (own_fin0 q ba (1 : Int32) bc bd va (p3.toInt64) vc vd 0 0))) .l) = (0 : Int32)))).2) k_) ?_
    refine Go.st (pc' := 256) (S' := [(.int (1 : Int32))]) (fun t_ k_ => XS.iconst X10.here hx rfl (hb hby at_255) k_) ?_
    refine Go.st (pc' := 260) (S' := [(.int (1 : Int32))]) (fun t_ k_ => XS.goto X10.here hx rfl (pc0 := 256) (pc' := 260) rfl (hb hby at_256) (by decide) (by decide) k_) ?_
    refine Go.st (pc' := 262) (S' := []) (fun t_ k_ => XS.istore X10.here hx rfl (hb hby at_260) rfl (l' := #[.val (.int p1), .val (.int p2), .val (.int p3), .val (.int p4), .val (.int p5), .val (.int p6), .val (.double (FP.l2d q)), .second, .val (.int kk_), .val (.ref td), .val (.ref a1), .val (.int (1 : Int32)), .val (.ref ta), .val (.int rr), .val (.int cx), .val (.int (1 : Int32)), .val (.int cy), .val (.int pb), .val (.int cz), .val (.int pc_), .val (.int pd_), .val (.ref ti), .val (.ref tv)]) rfl k_) ?_
    exact sl262 p1 p2 p3 p4 p5 p6 kk_ q a1 td tc tw _ _ _ ti tv _ _ cx cy cz (1 : Int32) pb pc_ pd_ ta rr ba (1 : Int32) bc bd va (p3.toInt64) vc vd (Stand.up X10 (by decide) (by decide)) hx hZ hw hby hml hown hnm hret hlk e10 N10 Z0 E_a1 F_discounts F_leaves F_count F_worth V_td Vc6 Vw6 ⟨ne5.1, ne5.2.1, ne5.2.2.1, ne5.2.2.2.1, ne5.2.2.2.2⟩ g_tc g_tw  V_ti V_tv ne9 g_ti g_tv hba (Or.inr rfl) hbc hbd hq hva (own_ib p3) hvc hvd hpm ⟨hf1.1, (fun z => absurd z.symm hpm.2.2.2.2.1), hf1.2.2.1, hf1.2.2.2⟩ ⟨hf2.1, (fun z => absurd z.symm hpm.2.2.2.2.2.1), hf2.2.2.1, hf2.2.2.2⟩ ⟨hf3.1, (fun z => absurd z.symm hpm.2.2.2.2.2.2.1), hf3.2.2.1, hf3.2.2.2⟩
  · have z_ := (hf0).2.2.1 rfl
    subst z_
    have zv_ : vc = 0 := hbc.elim And.right (fun z => absurd z (by decide))
    subst zv_
    have hba_ := own_01 hba
    have hbb_ := own_01 hbb
    have hbd_ := own_01 hbd
    refine Go.st (pc' := 212) (S' := [(.ref a1)]) (fun t_ k_ => XS.aload X0.here hx rfl (hb hby at_210) rfl rfl k_) ?_
    refine Go.st (pc' := 214) (S' := [(.int (2 : Int32)), (.ref a1)]) (fun t_ k_ => XS.iload X0.here hx rfl (hb hby at_212) rfl k_) ?_
    refine Go.st (pc' := 215) (S' := [(.int p3), (.int (2 : Int32)), (.ref a1)]) (fun t_ k_ => XS.iloadN X0.here hx rfl (hb hby at_214) rfl k_) ?_
    refine Go.st (pc' := 216) (S' := [(.double (FP.l2d (p3.toInt64))), (.int (2 : Int32)), (.ref a1)]) (fun t_ k_ => XS.i2dS X0.here hx rfl (hb hby at_215) rfl (i2d_w _) k_) ?_
    obtain ⟨cq11, kq11, q11a, q11b, q11c⟩ := isOf hZ e0 E_a1
    obtain ⟨_, _, ⟨T11, L11, k11, n11⟩, -, X11, ⟨Lc11, hQ11, l11, y11, z11⟩, st11⟩ := X0.virtualBack hx (y := (⟨"com/example/placewright/placewright/GrowingRanks", "add", "(ID)V"⟩ : MethodName)) (z := (⟨"com/example/placewright/placewright/GrowingRanks", "add", "(ID)V"⟩ : MethodName)) hown (mvT hZ (wd hw 26 rfl)) (mvT hZ (wd hw 27 rfl)) (notFace_of_selects (args := #[]) (mvT hZ (wd hw 29 rfl))) (mvT hZ (wd hw 29 rfl)) (mvT hZ (wd hw 28 rfl)) (by decide) (backOf (W := 0) (rmadd2 l Z a0 hw [] a1 td tc tw _ _ _ q (p3.toInt64) va vb (0 : Int64) vd ba bb bd hh n0 Z0 E_a1 F_discounts F_leaves F_count F_worth V_td V_tc V_tw ⟨ne5.1, ne5.2.1, ne5.2.2.1, ne5.2.2.2.1, ne5.2.2.2.2⟩ g_tc g_tw hq (own_ib p3) hva hvb own_z0' hvd hba_ hbb_ hbd_) hZ (wd hw 30 rfl) (wd hw 3 rfl) (by decide) (by decide)) q11a q11c (g := (mkF m 216 #[.val (.int p1), .val (.int p2), .val (.int p3), .val (.int p4), .val (.int p5), .val (.int p6), .val (.double (FP.l2d q)), .second, .val (.int kk_), .val (.ref td), .val (.ref a1), .val (.int (1 : Int32)), .val (.ref ta), .val (.int rr), .val (.int cx), .val (.int (2 : Int32)), .val (.int cy), .val (.int pb), .val (.int cz), .val (.int pc_), .val (.int pd_), .val (.ref ti), .val (.ref tv)] [(.double (FP.l2d (p3.toInt64))), (.int (2 : Int32)), (.ref a1)])) rfl (by rw [hml]; rfl) (Steps.refl _) (argsL := [(.int (2 : Int32)), (.double (FP.l2d (p3.toInt64)))]) (rest := []) (lenOf pd_0 rfl) rfl (by show 2 * 0 + _ ≤ _; exact Nat.le_of_eq rfl) (hb hby at_216) (fun _ _ => ⟨rfl, e0, (by decide : 7 + 0 ≤ _), (by decide : 40 + 0 ≤ _)⟩)
    dsimp only [Pt.U, Pt.locs, Pt.cells, Pt.slots] at X11 l11 y11 z11 st11 hQ11
    subst l11 y11 z11
    obtain ⟨rfl, N11q, K11, Vc11, Vw11⟩ := hQ11
    have N11 := Fr.app N0 N11q
    obtain ⟨h11, e11⟩ : ∃ z, T11.heap = z := ⟨_, rfl⟩
    rw [e11] at K11 Vc11 Vw11
    replace Z0 := Nat.le_trans Z0 K11.1
    replace E_a1 := E_a1.keep K11
    replace F_discounts := F_discounts.keep K11 (ninS ne5.1 (ninS ne5.2.1 nin0))
    replace F_leaves := F_leaves.keep K11 (ninS ne5.1 (ninS ne5.2.1 nin0))
    replace F_count := F_count.keep K11 (ninS ne5.1 (ninS ne5.2.1 nin0))
    replace F_worth := F_worth.keep K11 (ninS ne5.1 (ninS ne5.2.1 nin0))
    replace V_td := V_td.keep K11 (ninS ne5.2.2.2.1 (ninS ne5.2.2.2.2 nin0))
    replace V_ti := V_ti.keep K11 (ninS (Ne.symm ne9.2.2.1) (ninS (Ne.symm ne9.2.2.2.1) nin0))
    replace V_tv := V_tv.keep K11 (ninS (Ne.symm ne9.2.2.2.2.2.2.1) (ninS (Ne.symm ne9.2.2.2.2.2.2.2.1) nin0))
    refine Go.tr (pc' := 219) (S' := []) st11 ?_
    refine Go.st (pc' := 221) (S' := [(.ref ti)]) (fun t_ k_ => XS.aload X11.here hx rfl (hb hby at_219) rfl rfl k_) ?_
    refine Go.st (pc' := 223) (S' := [(.int (2 : Int32)), (.ref ti)]) (fun t_ k_ => XS.iload X11.here hx rfl (hb hby at_221) rfl k_) ?_
    refine Go.st (pc' := 224) (S' := [(.int (1 : Int32)), (.int (2 : Int32)), (.ref ti)]) (fun t_ k_ => XS.iconst X11.here hx rfl (hb hby at_223) k_) ?_
    obtain ⟨cl12, Ar12, q121, q122, q123, q124, q125⟩ := V_ti
    obtain ⟨T12, h12, X12, e12, W12, st12⟩ := stZ X11 hx hZ e11 Ar12 (j := (2 : Int32)) (inb_of q122 ⟨by decide, by decide⟩) (g := (mkF m 224 #[.val (.int p1), .val (.int p2), .val (.int p3), .val (.int p4), .val (.int p5), .val (.int p6), .val (.double (FP.l2d q)), .second, .val (.int kk_), .val (.ref td), .val (.ref a1), .val (.int (1 : Int32)), .val (.ref ta), .val (.int rr), .val (.int cx), .val (.int (2 : Int32)), .val (.int cy), .val (.int pb), .val (.int cz), .val (.int pc_), .val (.int pd_), .val (.ref ti), .val (.ref tv)] [(.int (1 : Int32)), (.int (2 : Int32)), (.ref ti)])) rfl rfl (hb hby at_224)
    replace V_ti := Arv.set Ar12 q121 q122 q123 q124 q125 (fits_nar_bool _) W12 2 rfl (Nat.le_of_ble_eq_true rfl)
    have V_ti : Arv Z h12 ti ki .boolean (4 : Int32) [(.int ba), (.int bb), (.int (nar .boolean (1 : Int32))), (.int bd)] (.int (0 : Int32)) := V_ti
    replace Z0 := Nat.le_trans Z0 (Keep.of_wr W12).1
    replace E_a1 := E_a1.wr W12
    replace F_discounts := F_discounts.other W12 (Or.inl ne9.1)
    replace F_leaves := F_leaves.other W12 (Or.inl ne9.1)
    replace F_count := F_count.other W12 (Or.inl ne9.1)
    replace F_worth := F_worth.other W12 (Or.inl ne9.1)
    replace V_td := V_td.other W12 ne9.2.1
    replace V_tv := V_tv.other W12 (Ne.symm ne9.2.2.2.2.2.2.2.2)
    replace Vc11 := Vc11.other W12 ne9.2.2.1
    replace Vw11 := Vw11.other W12 ne9.2.2.2.1
    have N12 := Fr.snoc X12 N11 g_ti
    refine Go.st (pc' := 225) (S' := []) st12 ?_
    refine Go.st (pc' := 227) (S' := [(.ref tv)]) (fun t_ k_ => XS.aload X12.here hx rfl (hb hby at_225) rfl rfl k_) ?_
    refine Go.st (pc' := 229) (S' := [(.int (2 : Int32)), (.ref tv)]) (fun t_ k_ => XS.iload X12.here hx rfl (hb hby at_227) rfl k_) ?_
    refine Go.st (pc' := 230) (S' := [(.int p3), (.int (2 : Int32)), (.ref tv)]) (fun t_ k_ => XS.iloadN X12.here hx rfl (hb hby at_229) rfl k_) ?_
    refine Go.st (pc' := 231) (S' := [(.double (FP.l2d (p3.toInt64))), (.int (2 : Int32)), (.ref tv)]) (fun t_ k_ => XS.i2dS X12.here hx rfl (hb hby at_230) rfl (i2d_w _) k_) ?_
    obtain ⟨cl13, Ar13, q131, q132, q133, q134, q135⟩ := V_tv
    obtain ⟨T13, h13, X13, e13, W13, st13⟩ := stD X12 hx hZ e12 Ar13 (j := (2 : Int32)) (inb_of q132 ⟨by decide, by decide⟩) (g := (mkF m 231 #[.val (.int p1), .val (.int p2), .val (.int p3), .val (.int p4), .val (.int p5), .val (.int p6), .val (.double (FP.l2d q)), .second, .val (.int kk_), .val (.ref td), .val (.ref a1), .val (.int (1 : Int32)), .val (.ref ta), .val (.int rr), .val (.int cx), .val (.int (2 : Int32)), .val (.int cy), .val (.int pb), .val (.int cz), .val (.int pc_), .val (.int pd_), .val (.ref ti), .val (.ref tv)] [(.double (FP.l2d (p3.toInt64))), (.int (2 : Int32)), (.ref tv)])) rfl rfl (hb hby at_231)
    replace V_tv := Arv.set Ar13 q131 q132 q133 q134 q135 rfl W13 2 rfl (Nat.le_of_ble_eq_true rfl)
    have V_tv : Arv Z h13 tv kv .double (4 : Int32) [(.double (FP.l2d va)), (.double (FP.l2d vb)), (.double (FP.l2d (p3.toInt64))), (.double (FP.l2d vd))] (.double (0 : UInt64)) := V_tv
    replace Z0 := Nat.le_trans Z0 (Keep.of_wr W13).1
    replace E_a1 := E_a1.wr W13
    replace F_discounts := F_discounts.other W13 (Or.inl ne9.2.2.2.2.1)
    replace F_leaves := F_leaves.other W13 (Or.inl ne9.2.2.2.2.1)
    replace F_count := F_count.other W13 (Or.inl ne9.2.2.2.2.1)
    replace F_worth := F_worth.other W13 (Or.inl ne9.2.2.2.2.1)
    replace V_td := V_td.other W13 ne9.2.2.2.2.2.1
    replace V_ti := V_ti.other W13 ne9.2.2.2.2.2.2.2.2
    replace Vc11 := Vc11.other W13 ne9.2.2.2.2.2.2.1
    replace Vw11 := Vw11.other W13 ne9.2.2.2.2.2.2.2.1
    have N13 := Fr.snoc X13 N12 g_tv
    refine Go.st (pc' := 232) (S' := []) st13 ?_
    refine Go.st (pc' := 234) (S' := [(.int (1 : Int32))]) (fun t_ k_ => XS.iload X13.here hx rfl (hb hby at_232) rfl k_) ?_
    refine Go.st (pc' := 237) (S' := []) (fun t_ k_ => XS.ifNo X13.here hx rfl (hb hby at_234) rfl ((if0 _ _).trans (feq (by decide : ¬ ((1 : Int32) = (0 : Int32)))).1) k_) ?_
    refine Go.st (pc' := 239) (S' := [(.ref a1)]) (fun t_ k_ => XS.aload X13.here hx rfl (hb hby at_237) rfl rfl k_) ?_
    obtain ⟨cq14, kq14, q14a, q14b, q14c⟩ := isOf hZ e13 E_a1
    obtain ⟨_, _, ⟨T14, L14, k14, n14⟩, -, X14, ⟨Lc14, hQ14, l14, y14, z14⟩, st14⟩ := X13.virtualBack hx (y := (⟨"com/example/placewright/placewright/GrowingRanks", "value", "()D"⟩ : MethodName)) (z := (⟨"com/example/placewright/placewright/GrowingRanks", "value", "()D"⟩ : MethodName)) hown (mvT hZ (wd hw 19 rfl)) (mvT hZ (wd hw 20 rfl)) (notFace_of_selects (args := #[]) (mvT hZ (wd hw 22 rfl))) (mvT hZ (wd hw 22 rfl)) (mvT hZ (wd hw 21 rfl)) (by decide) (backOf (W := 0) (rmval l Z a0 hw [] a1 tw _ (0 : UInt64) (FP.l2d ((va + (own_e q ba) * vb) + (own_e q (ba + bb)) * ((p3.toInt64) + (own_e q (1 : Int32)) * vd))) (FP.l2d (va + (own_e q ba) * vb)) (FP.l2d ((p3.toInt64) + (own_e q (1 : Int32)) * vd)) (FP.l2d va) (FP.l2d vb) (FP.l2d (p3.toInt64)) (FP.l2d vd) h13 n0 Z0 F_worth Vw11) hZ (wd hw 23 rfl) (wd hw 3 rfl) (by decide) (by decide)) q14a q14c (g := (mkF m 239 #[.val (.int p1), .val (.int p2), .val (.int p3), .val (.int p4), .val (.int p5), .val (.int p6), .val (.double (FP.l2d q)), .second, .val (.int kk_), .val (.ref td), .val (.ref a1), .val (.int (1 : Int32)), .val (.ref ta), .val (.int rr), .val (.int cx), .val (.int (2 : Int32)), .val (.int cy), .val (.int pb), .val (.int cz), .val (.int pc_), .val (.int pd_), .val (.ref ti), .val (.ref tv)] [(.ref a1)])) rfl (by rw [hml]; rfl) (Steps.refl _) (argsL := []) (rest := []) (lenOf pd_1 rfl) rfl (by show 2 * 0 + _ ≤ _; exact Nat.le_of_eq rfl) (hb hby at_239) (fun _ _ => ⟨rfl, e13, (by decide : 7 + 0 ≤ _), (by decide : 40 + 0 ≤ _)⟩)
    dsimp only [Pt.U, Pt.locs, Pt.cells, Pt.slots] at X14 l14 y14 z14 st14 hQ14
    subst l14 y14 z14
    obtain ⟨rfl, N14q, e14⟩ := hQ14
    have N14 := Fr.app N13 N14q
    refine Go.tr (pc' := 242) (S' := [(.double (FP.l2d ((va + (own_e q ba) * vb) + (own_e q (ba + bb)) * ((p3.toInt64) + (own_e q (1 : Int32)) * vd))))]) st14 ?_
    refine Go.st (pc' := 244) (S' := [(.ref ti), (.double (FP.l2d ((va + (own_e q ba) * vb) + (own_e q (ba + bb)) * ((p3.toInt64) + (own_e q (1 : Int32)) * vd))))]) (fun t_ k_ => XS.aload X14.here hx rfl (hb hby at_242) rfl rfl k_) ?_
    refine Go.st (pc' := 246) (S' := [(.ref tv), (.ref ti), (.double (FP.l2d ((va + (own_e q ba) * vb) + (own_e q (ba + bb)) * ((p3.toInt64) + (own_e q (1 : Int32)) * vd))))]) (fun t_ k_ => XS.aload X14.here hx rfl (hb hby at_244) rfl rfl k_) ?_
    refine Go.st (pc' := 248) (S' := [(.ref td), (.ref tv), (.ref ti), (.double (FP.l2d ((va + (own_e q ba) * vb) + (own_e q (ba + bb)) * ((p3.toInt64) + (own_e q (1 : Int32)) * vd))))]) (fun t_ k_ => XS.aload X14.here hx rfl (hb hby at_246) rfl rfl k_) ?_
    obtain ⟨_, _, ⟨T15, L15, k15, n15⟩, -, X15, ⟨Lc15, hQ15, l15, y15, z15⟩, st15⟩ := Jvm.LawKit.callS X14 hx (y := (⟨"com/example/placewright/placewright/GrowingRanksAddPinLaw", "ref", "([Z[D[D)D"⟩ : MethodName)) hown (mvT hZ (wd hw 35 rfl)) (mvT hZ (wd hw 36 rfl)) (mvT hZ (wd hw 37 rfl)) (mvT hZ (wd hw 38 rfl)) (by decide) (backOf (W := 2) (rmref l Z a0 hw [] ti tv td _ _ _ q va vb (p3.toInt64) vd ba bb (1 : Int32) bd h13 n0 Z0 V_ti V_tv V_td hq hva hvb (own_ib p3) hvd) hZ (wd hw 38 rfl) (wd hw 37 rfl) (by decide) (by decide)) (g := (mkF m 248 #[.val (.int p1), .val (.int p2), .val (.int p3), .val (.int p4), .val (.int p5), .val (.int p6), .val (.double (FP.l2d q)), .second, .val (.int kk_), .val (.ref td), .val (.ref a1), .val (.int (1 : Int32)), .val (.ref ta), .val (.int rr), .val (.int cx), .val (.int (2 : Int32)), .val (.int cy), .val (.int pb), .val (.int cz), .val (.int pc_), .val (.int pd_), .val (.ref ti), .val (.ref tv)] [(.ref td), (.ref tv), (.ref ti), (.double (FP.l2d ((va + (own_e q ba) * vb) + (own_e q (ba + bb)) * ((p3.toInt64) + (own_e q (1 : Int32)) * vd))))])) rfl (by rw [hml]; rfl) (argsL := [(.ref ti), (.ref tv), (.ref td)]) (rest := [(.double (FP.l2d ((va + (own_e q ba) * vb) + (own_e q (ba + bb)) * ((p3.toInt64) + (own_e q (1 : Int32)) * vd))))]) (lenOf pd_2 rfl) rfl (by show 2 * 0 + _ ≤ _; exact Nat.le_of_eq rfl) (hb hby at_248) (fun _ _ => ⟨rfl, e14, (by decide : 7 + 0 ≤ _), (by decide : 40 + 0 ≤ _)⟩)
    dsimp only [Pt.U, Pt.locs, Pt.cells, Pt.slots] at X15 l15 y15 z15 st15 hQ15
    subst l15 y15 z15
    obtain ⟨rfl, N15q, e15⟩ := hQ15
    have N15 := Fr.app N14 N15q
    refine Go.st (pc' := 251) (S' := [(.double (FP.l2d (own_fin0 q ba bb (1 : Int32) bd va vb (p3.toInt64) vd 0 0))), (.double (FP.l2d ((va + (own_e q ba) * vb) + (own_e q (ba + bb)) * ((p3.toInt64) + (own_e q (1 : Int32)) * vd))))]) st15 ?_
    refine Go.st (pc' := 252) (S' := [(.int (cmpValue (FP.dcmp (FP.l2d ((va + (own_e q ba) * vb) + (own_e q (ba + bb)) * ((p3.toInt64) + (own_e q (1 : Int32)) * vd))) (FP.l2d (own_fin0 q ba bb (1 : Int32) bd va vb (p3.toInt64) vd 0 0))) .l))]) (fun t_ k_ => XS.dcmpS X15.here hx rfl (hb hby at_251) rfl rfl k_) ?_
    refine Go.st (pc' := 255) (S' := []) (fun t_ k_ => XS.ifNo X15.here hx rfl (hb hby at_252) rfl ((if0 _ _).trans (teq (own_dc (own_same0 hba hbb (Or.inr rfl) hbd) : ((cmpValue (FP.dcmp (FP.l2d ((va + (own_e q ba) * vb) + (own_e q (ba + bb)) * ((p3.toInt64) + (own_e q (1 : Int32)) * vd))) (FP.l2d (own_fin0 q ba bb (1 : Int32) bd va vb (p3.toInt64) vd 0 0))) .l) = (0 : Int32)))).2) k_) ?_
    refine Go.st (pc' := 256) (S' := [(.int (1 : Int32))]) (fun t_ k_ => XS.iconst X15.here hx rfl (hb hby at_255) k_) ?_
    refine Go.st (pc' := 260) (S' := [(.int (1 : Int32))]) (fun t_ k_ => XS.goto X15.here hx rfl (pc0 := 256) (pc' := 260) rfl (hb hby at_256) (by decide) (by decide) k_) ?_
    refine Go.st (pc' := 262) (S' := []) (fun t_ k_ => XS.istore X15.here hx rfl (hb hby at_260) rfl (l' := #[.val (.int p1), .val (.int p2), .val (.int p3), .val (.int p4), .val (.int p5), .val (.int p6), .val (.double (FP.l2d q)), .second, .val (.int kk_), .val (.ref td), .val (.ref a1), .val (.int (1 : Int32)), .val (.ref ta), .val (.int rr), .val (.int cx), .val (.int (2 : Int32)), .val (.int cy), .val (.int pb), .val (.int cz), .val (.int pc_), .val (.int pd_), .val (.ref ti), .val (.ref tv)]) rfl k_) ?_
    exact sl262 p1 p2 p3 p4 p5 p6 kk_ q a1 td tc tw _ _ _ ti tv _ _ cx cy cz (2 : Int32) pb pc_ pd_ ta rr ba bb (1 : Int32) bd va vb (p3.toInt64) vd (Stand.up X15 (by decide) (by decide)) hx hZ hw hby hml hown hnm hret hlk e15 N15 Z0 E_a1 F_discounts F_leaves F_count F_worth V_td Vc11 Vw11 ⟨ne5.1, ne5.2.1, ne5.2.2.1, ne5.2.2.2.1, ne5.2.2.2.2⟩ g_tc g_tw  V_ti V_tv ne9 g_ti g_tv hba hbb (Or.inr rfl) hbd hq hva hvb (own_ib p3) hvd hpm ⟨hf1.1, hf1.2.1, (fun z => absurd z.symm hpm.2.2.2.2.1), hf1.2.2.2⟩ ⟨hf2.1, hf2.2.1, (fun z => absurd z.symm hpm.2.2.2.2.2.1), hf2.2.2.2⟩ ⟨hf3.1, hf3.2.1, (fun z => absurd z.symm hpm.2.2.2.2.2.2.1), hf3.2.2.2⟩
  · have z_ := (hf0).2.2.2 rfl
    subst z_
    have zv_ : vd = 0 := hbd.elim And.right (fun z => absurd z (by decide))
    subst zv_
    have hba_ := own_01 hba
    have hbb_ := own_01 hbb
    have hbc_ := own_01 hbc
    refine Go.st (pc' := 212) (S' := [(.ref a1)]) (fun t_ k_ => XS.aload X0.here hx rfl (hb hby at_210) rfl rfl k_) ?_
    refine Go.st (pc' := 214) (S' := [(.int (3 : Int32)), (.ref a1)]) (fun t_ k_ => XS.iload X0.here hx rfl (hb hby at_212) rfl k_) ?_
    refine Go.st (pc' := 215) (S' := [(.int p3), (.int (3 : Int32)), (.ref a1)]) (fun t_ k_ => XS.iloadN X0.here hx rfl (hb hby at_214) rfl k_) ?_
    refine Go.st (pc' := 216) (S' := [(.double (FP.l2d (p3.toInt64))), (.int (3 : Int32)), (.ref a1)]) (fun t_ k_ => XS.i2dS X0.here hx rfl (hb hby at_215) rfl (i2d_w _) k_) ?_
    obtain ⟨cq16, kq16, q16a, q16b, q16c⟩ := isOf hZ e0 E_a1
    obtain ⟨_, _, ⟨T16, L16, k16, n16⟩, -, X16, ⟨Lc16, hQ16, l16, y16, z16⟩, st16⟩ := X0.virtualBack hx (y := (⟨"com/example/placewright/placewright/GrowingRanks", "add", "(ID)V"⟩ : MethodName)) (z := (⟨"com/example/placewright/placewright/GrowingRanks", "add", "(ID)V"⟩ : MethodName)) hown (mvT hZ (wd hw 26 rfl)) (mvT hZ (wd hw 27 rfl)) (notFace_of_selects (args := #[]) (mvT hZ (wd hw 29 rfl))) (mvT hZ (wd hw 29 rfl)) (mvT hZ (wd hw 28 rfl)) (by decide) (backOf (W := 0) (rmadd3 l Z a0 hw [] a1 td tc tw _ _ _ q (p3.toInt64) va vb vc (0 : Int64) ba bb bc hh n0 Z0 E_a1 F_discounts F_leaves F_count F_worth V_td V_tc V_tw ⟨ne5.1, ne5.2.1, ne5.2.2.1, ne5.2.2.2.1, ne5.2.2.2.2⟩ g_tc g_tw hq (own_ib p3) hva hvb hvc own_z0' hba_ hbb_ hbc_) hZ (wd hw 30 rfl) (wd hw 3 rfl) (by decide) (by decide)) q16a q16c (g := (mkF m 216 #[.val (.int p1), .val (.int p2), .val (.int p3), .val (.int p4), .val (.int p5), .val (.int p6), .val (.double (FP.l2d q)), .second, .val (.int kk_), .val (.ref td), .val (.ref a1), .val (.int (1 : Int32)), .val (.ref ta), .val (.int rr), .val (.int cx), .val (.int (3 : Int32)), .val (.int cy), .val (.int pb), .val (.int cz), .val (.int pc_), .val (.int pd_), .val (.ref ti), .val (.ref tv)] [(.double (FP.l2d (p3.toInt64))), (.int (3 : Int32)), (.ref a1)])) rfl (by rw [hml]; rfl) (Steps.refl _) (argsL := [(.int (3 : Int32)), (.double (FP.l2d (p3.toInt64)))]) (rest := []) (lenOf pd_0 rfl) rfl (by show 2 * 0 + _ ≤ _; exact Nat.le_of_eq rfl) (hb hby at_216) (fun _ _ => ⟨rfl, e0, (by decide : 7 + 0 ≤ _), (by decide : 40 + 0 ≤ _)⟩)
    dsimp only [Pt.U, Pt.locs, Pt.cells, Pt.slots] at X16 l16 y16 z16 st16 hQ16
    subst l16 y16 z16
    obtain ⟨rfl, N16q, K16, Vc16, Vw16⟩ := hQ16
    have N16 := Fr.app N0 N16q
    obtain ⟨h16, e16⟩ : ∃ z, T16.heap = z := ⟨_, rfl⟩
    rw [e16] at K16 Vc16 Vw16
    replace Z0 := Nat.le_trans Z0 K16.1
    replace E_a1 := E_a1.keep K16
    replace F_discounts := F_discounts.keep K16 (ninS ne5.1 (ninS ne5.2.1 nin0))
    replace F_leaves := F_leaves.keep K16 (ninS ne5.1 (ninS ne5.2.1 nin0))
    replace F_count := F_count.keep K16 (ninS ne5.1 (ninS ne5.2.1 nin0))
    replace F_worth := F_worth.keep K16 (ninS ne5.1 (ninS ne5.2.1 nin0))
    replace V_td := V_td.keep K16 (ninS ne5.2.2.2.1 (ninS ne5.2.2.2.2 nin0))
    replace V_ti := V_ti.keep K16 (ninS (Ne.symm ne9.2.2.1) (ninS (Ne.symm ne9.2.2.2.1) nin0))
    replace V_tv := V_tv.keep K16 (ninS (Ne.symm ne9.2.2.2.2.2.2.1) (ninS (Ne.symm ne9.2.2.2.2.2.2.2.1) nin0))
    refine Go.tr (pc' := 219) (S' := []) st16 ?_
    refine Go.st (pc' := 221) (S' := [(.ref ti)]) (fun t_ k_ => XS.aload X16.here hx rfl (hb hby at_219) rfl rfl k_) ?_
    refine Go.st (pc' := 223) (S' := [(.int (3 : Int32)), (.ref ti)]) (fun t_ k_ => XS.iload X16.here hx rfl (hb hby at_221) rfl k_) ?_
    refine Go.st (pc' := 224) (S' := [(.int (1 : Int32)), (.int (3 : Int32)), (.ref ti)]) (fun t_ k_ => XS.iconst X16.here hx rfl (hb hby at_223) k_) ?_
    obtain ⟨cl17, Ar17, q171, q172, q173, q174, q175⟩ := V_ti
    obtain ⟨T17, h17, X17, e17, W17, st17⟩ := stZ X16 hx hZ e16 Ar17 (j := (3 : Int32)) (inb_of q172 ⟨by decide, by decide⟩) (g := (mkF m 224 #[.val (.int p1), .val (.int p2), .val (.int p3), .val (.int p4), .val (.int p5), .val (.int p6), .val (.double (FP.l2d q)), .second, .val (.int kk_), .val (.ref td), .val (.ref a1), .val (.int (1 : Int32)), .val (.ref ta), .val (.int rr), .val (.int cx), .val (.int (3 : Int32)), .val (.int cy), .val (.int pb), .val (.int cz), .val (.int pc_), .val (.int pd_), .val (.ref ti), .val (.ref tv)] [(.int (1 : Int32)), (.int (3 : Int32)), (.ref ti)])) rfl rfl (hb hby at_224)
    replace V_ti := Arv.set Ar17 q171 q172 q173 q174 q175 (fits_nar_bool _) W17 3 rfl (Nat.le_of_ble_eq_true rfl)
    have V_ti : Arv Z h17 ti ki .boolean (4 : Int32) [(.int ba), (.int bb), (.int bc), (.int (nar .boolean (1 : Int32)))] (.int (0 : Int32)) := V_ti
    replace Z0 := Nat.le_trans Z0 (Keep.of_wr W17).1
    replace E_a1 := E_a1.wr W17
    replace F_discounts := F_discounts.other W17 (Or.inl ne9.1)
    replace F_leaves := F_leaves.other W17 (Or.inl ne9.1)
    replace F_count := F_count.other W17 (Or.inl ne9.1)
    replace F_worth := F_worth.other W17 (Or.inl ne9.1)
    replace V_td := V_td.other W17 ne9.2.1
    replace V_tv := V_tv.other W17 (Ne.symm ne9.2.2.2.2.2.2.2.2)
    replace Vc16 := Vc16.other W17 ne9.2.2.1
    replace Vw16 := Vw16.other W17 ne9.2.2.2.1
    have N17 := Fr.snoc X17 N16 g_ti
    refine Go.st (pc' := 225) (S' := []) st17 ?_
    refine Go.st (pc' := 227) (S' := [(.ref tv)]) (fun t_ k_ => XS.aload X17.here hx rfl (hb hby at_225) rfl rfl k_) ?_
    refine Go.st (pc' := 229) (S' := [(.int (3 : Int32)), (.ref tv)]) (fun t_ k_ => XS.iload X17.here hx rfl (hb hby at_227) rfl k_) ?_
    refine Go.st (pc' := 230) (S' := [(.int p3), (.int (3 : Int32)), (.ref tv)]) (fun t_ k_ => XS.iloadN X17.here hx rfl (hb hby at_229) rfl k_) ?_
    refine Go.st (pc' := 231) (S' := [(.double (FP.l2d (p3.toInt64))), (.int (3 : Int32)), (.ref tv)]) (fun t_ k_ => XS.i2dS X17.here hx rfl (hb hby at_230) rfl (i2d_w _) k_) ?_
    obtain ⟨cl18, Ar18, q181, q182, q183, q184, q185⟩ := V_tv
    obtain ⟨T18, h18, X18, e18, W18, st18⟩ := stD X17 hx hZ e17 Ar18 (j := (3 : Int32)) (inb_of q182 ⟨by decide, by decide⟩) (g := (mkF m 231 #[.val (.int p1), .val (.int p2), .val (.int p3), .val (.int p4), .val (.int p5), .val (.int p6), .val (.double (FP.l2d q)), .second, .val (.int kk_), .val (.ref td), .val (.ref a1), .val (.int (1 : Int32)), .val (.ref ta), .val (.int rr), .val (.int cx), .val (.int (3 : Int32)), .val (.int cy), .val (.int pb), .val (.int cz), .val (.int pc_), .val (.int pd_), .val (.ref ti), .val (.ref tv)] [(.double (FP.l2d (p3.toInt64))), (.int (3 : Int32)), (.ref tv)])) rfl rfl (hb hby at_231)
    replace V_tv := Arv.set Ar18 q181 q182 q183 q184 q185 rfl W18 3 rfl (Nat.le_of_ble_eq_true rfl)
    have V_tv : Arv Z h18 tv kv .double (4 : Int32) [(.double (FP.l2d va)), (.double (FP.l2d vb)), (.double (FP.l2d vc)), (.double (FP.l2d (p3.toInt64)))] (.double (0 : UInt64)) := V_tv
    replace Z0 := Nat.le_trans Z0 (Keep.of_wr W18).1
    replace E_a1 := E_a1.wr W18
    replace F_discounts := F_discounts.other W18 (Or.inl ne9.2.2.2.2.1)
    replace F_leaves := F_leaves.other W18 (Or.inl ne9.2.2.2.2.1)
    replace F_count := F_count.other W18 (Or.inl ne9.2.2.2.2.1)
    replace F_worth := F_worth.other W18 (Or.inl ne9.2.2.2.2.1)
    replace V_td := V_td.other W18 ne9.2.2.2.2.2.1
    replace V_ti := V_ti.other W18 ne9.2.2.2.2.2.2.2.2
    replace Vc16 := Vc16.other W18 ne9.2.2.2.2.2.2.1
    replace Vw16 := Vw16.other W18 ne9.2.2.2.2.2.2.2.1
    have N18 := Fr.snoc X18 N17 g_tv
    refine Go.st (pc' := 232) (S' := []) st18 ?_
    refine Go.st (pc' := 234) (S' := [(.int (1 : Int32))]) (fun t_ k_ => XS.iload X18.here hx rfl (hb hby at_232) rfl k_) ?_
    refine Go.st (pc' := 237) (S' := []) (fun t_ k_ => XS.ifNo X18.here hx rfl (hb hby at_234) rfl ((if0 _ _).trans (feq (by decide : ¬ ((1 : Int32) = (0 : Int32)))).1) k_) ?_
    refine Go.st (pc' := 239) (S' := [(.ref a1)]) (fun t_ k_ => XS.aload X18.here hx rfl (hb hby at_237) rfl rfl k_) ?_
    obtain ⟨cq19, kq19, q19a, q19b, q19c⟩ := isOf hZ e18 E_a1
    obtain ⟨_, _, ⟨T19, L19, k19, n19⟩, -, X19, ⟨Lc19, hQ19, l19, y19, z19⟩, st19⟩ := X18.virtualBack hx (y := (⟨"com/example/placewright/placewright/GrowingRanks", "value", "()D"⟩ : MethodName)) (z := (⟨"com/example/placewright/placewright/GrowingRanks", "value", "()D"⟩ : MethodName)) hown (mvT hZ (wd hw 19 rfl)) (mvT hZ (wd hw 20 rfl)) (notFace_of_selects (args := #[]) (mvT hZ (wd hw 22 rfl))) (mvT hZ (wd hw 22 rfl)) (mvT hZ (wd hw 21 rfl)) (by decide) (backOf (W := 0) (rmval l Z a0 hw [] a1 tw _ (0 : UInt64) (FP.l2d ((va + (own_e q ba) * vb) + (own_e q (ba + bb)) * (vc + (own_e q bc) * (p3.toInt64)))) (FP.l2d (va + (own_e q ba) * vb)) (FP.l2d (vc + (own_e q bc) * (p3.toInt64))) (FP.l2d va) (FP.l2d vb) (FP.l2d vc) (FP.l2d (p3.toInt64)) h18 n0 Z0 F_worth Vw16) hZ (wd hw 23 rfl) (wd hw 3 rfl) (by decide) (by decide)) q19a q19c (g := (mkF m 239 #[.val (.int p1), .val (.int p2), .val (.int p3), .val (.int p4), .val (.int p5), .val (.int p6), .val (.double (FP.l2d q)), .second, .val (.int kk_), .val (.ref td), .val (.ref a1), .val (.int (1 : Int32)), .val (.ref ta), .val (.int rr), .val (.int cx), .val (.int (3 : Int32)), .val (.int cy), .val (.int pb), .val (.int cz), .val (.int pc_), .val (.int pd_), .val (.ref ti), .val (.ref tv)] [(.ref a1)])) rfl (by rw [hml]; rfl) (Steps.refl _) (argsL := []) (rest := []) (lenOf pd_1 rfl) rfl (by show 2 * 0 + _ ≤ _; exact Nat.le_of_eq rfl) (hb hby at_239) (fun _ _ => ⟨rfl, e18, (by decide : 7 + 0 ≤ _), (by decide : 40 + 0 ≤ _)⟩)
    dsimp only [Pt.U, Pt.locs, Pt.cells, Pt.slots] at X19 l19 y19 z19 st19 hQ19
    subst l19 y19 z19
    obtain ⟨rfl, N19q, e19⟩ := hQ19
    have N19 := Fr.app N18 N19q
    refine Go.tr (pc' := 242) (S' := [(.double (FP.l2d ((va + (own_e q ba) * vb) + (own_e q (ba + bb)) * (vc + (own_e q bc) * (p3.toInt64)))))]) st19 ?_
    refine Go.st (pc' := 244) (S' := [(.ref ti), (.double (FP.l2d ((va + (own_e q ba) * vb) + (own_e q (ba + bb)) * (vc + (own_e q bc) * (p3.toInt64)))))]) (fun t_ k_ => XS.aload X19.here hx rfl (hb hby at_242) rfl rfl k_) ?_
    refine Go.st (pc' := 246) (S' := [(.ref tv), (.ref ti), (.double (FP.l2d ((va + (own_e q ba) * vb) + (own_e q (ba + bb)) * (vc + (own_e q bc) * (p3.toInt64)))))]) (fun t_ k_ => XS.aload X19.here hx rfl (hb hby at_244) rfl rfl k_) ?_
    refine Go.st (pc' := 248) (S' := [(.ref td), (.ref tv), (.ref ti), (.double (FP.l2d ((va + (own_e q ba) * vb) + (own_e q (ba + bb)) * (vc + (own_e q bc) * (p3.toInt64)))))]) (fun t_ k_ => XS.aload X19.here hx rfl (hb hby at_246) rfl rfl k_) ?_
    obtain ⟨_, _, ⟨T20, L20, k20, n20⟩, -, X20, ⟨Lc20, hQ20, l20, y20, z20⟩, st20⟩ := Jvm.LawKit.callS X19 hx (y := (⟨"com/example/placewright/placewright/GrowingRanksAddPinLaw", "ref", "([Z[D[D)D"⟩ : MethodName)) hown (mvT hZ (wd hw 35 rfl)) (mvT hZ (wd hw 36 rfl)) (mvT hZ (wd hw 37 rfl)) (mvT hZ (wd hw 38 rfl)) (by decide) (backOf (W := 2) (rmref l Z a0 hw [] ti tv td _ _ _ q va vb vc (p3.toInt64) ba bb bc (1 : Int32) h18 n0 Z0 V_ti V_tv V_td hq hva hvb hvc (own_ib p3)) hZ (wd hw 38 rfl) (wd hw 37 rfl) (by decide) (by decide)) (g := (mkF m 248 #[.val (.int p1), .val (.int p2), .val (.int p3), .val (.int p4), .val (.int p5), .val (.int p6), .val (.double (FP.l2d q)), .second, .val (.int kk_), .val (.ref td), .val (.ref a1), .val (.int (1 : Int32)), .val (.ref ta), .val (.int rr), .val (.int cx), .val (.int (3 : Int32)), .val (.int cy), .val (.int pb), .val (.int cz), .val (.int pc_), .val (.int pd_), .val (.ref ti), .val (.ref tv)] [(.ref td), (.ref tv), (.ref ti), (.double (FP.l2d ((va + (own_e q ba) * vb) + (own_e q (ba + bb)) * (vc + (own_e q bc) * (p3.toInt64)))))])) rfl (by rw [hml]; rfl) (argsL := [(.ref ti), (.ref tv), (.ref td)]) (rest := [(.double (FP.l2d ((va + (own_e q ba) * vb) + (own_e q (ba + bb)) * (vc + (own_e q bc) * (p3.toInt64)))))]) (lenOf pd_2 rfl) rfl (by show 2 * 0 + _ ≤ _; exact Nat.le_of_eq rfl) (hb hby at_248) (fun _ _ => ⟨rfl, e19, (by decide : 7 + 0 ≤ _), (by decide : 40 + 0 ≤ _)⟩)
    dsimp only [Pt.U, Pt.locs, Pt.cells, Pt.slots] at X20 l20 y20 z20 st20 hQ20
    subst l20 y20 z20
    obtain ⟨rfl, N20q, e20⟩ := hQ20
    have N20 := Fr.app N19 N20q
    refine Go.st (pc' := 251) (S' := [(.double (FP.l2d (own_fin0 q ba bb bc (1 : Int32) va vb vc (p3.toInt64) 0 0))), (.double (FP.l2d ((va + (own_e q ba) * vb) + (own_e q (ba + bb)) * (vc + (own_e q bc) * (p3.toInt64)))))]) st20 ?_
    refine Go.st (pc' := 252) (S' := [(.int (cmpValue (FP.dcmp (FP.l2d ((va + (own_e q ba) * vb) + (own_e q (ba + bb)) * (vc + (own_e q bc) * (p3.toInt64)))) (FP.l2d (own_fin0 q ba bb bc (1 : Int32) va vb vc (p3.toInt64) 0 0))) .l))]) (fun t_ k_ => XS.dcmpS X20.here hx rfl (hb hby at_251) rfl rfl k_) ?_
    refine Go.st (pc' := 255) (S' := []) (fun t_ k_ => XS.ifNo X20.here hx rfl (hb hby at_252) rfl ((if0 _ _).trans (teq (own_dc (own_same0 hba hbb hbc (Or.inr rfl)) : ((cmpValue (FP.dcmp (FP.l2d ((va + (own_e q ba) * vb) + (own_e q (ba + bb)) * (vc + (own_e q bc) * (p3.toInt64)))) (FP.l2d (own_fin0 q ba bb bc (1 : Int32) va vb vc (p3.toInt64) 0 0))) .l) = (0 : Int32)))).2) k_) ?_
    refine Go.st (pc' := 256) (S' := [(.int (1 : Int32))]) (fun t_ k_ => XS.iconst X20.here hx rfl (hb hby at_255) k_) ?_
    refine Go.st (pc' := 260) (S' := [(.int (1 : Int32))]) (fun t_ k_ => XS.goto X20.here hx rfl (pc0 := 256) (pc' := 260) rfl (hb hby at_256) (by decide) (by decide) k_) ?_
    refine Go.st (pc' := 262) (S' := []) (fun t_ k_ => XS.istore X20.here hx rfl (hb hby at_260) rfl (l' := #[.val (.int p1), .val (.int p2), .val (.int p3), .val (.int p4), .val (.int p5), .val (.int p6), .val (.double (FP.l2d q)), .second, .val (.int kk_), .val (.ref td), .val (.ref a1), .val (.int (1 : Int32)), .val (.ref ta), .val (.int rr), .val (.int cx), .val (.int (3 : Int32)), .val (.int cy), .val (.int pb), .val (.int cz), .val (.int pc_), .val (.int pd_), .val (.ref ti), .val (.ref tv)]) rfl k_) ?_
    exact sl262 p1 p2 p3 p4 p5 p6 kk_ q a1 td tc tw _ _ _ ti tv _ _ cx cy cz (3 : Int32) pb pc_ pd_ ta rr ba bb bc (1 : Int32) va vb vc (p3.toInt64) (Stand.up X20 (by decide) (by decide)) hx hZ hw hby hml hown hnm hret hlk e20 N20 Z0 E_a1 F_discounts F_leaves F_count F_worth V_td Vc16 Vw16 ⟨ne5.1, ne5.2.1, ne5.2.2.1, ne5.2.2.2.1, ne5.2.2.2.2⟩ g_tc g_tw  V_ti V_tv ne9 g_ti g_tv hba hbb hbc (Or.inr rfl) hq hva hvb hvc (own_ib p3) hpm ⟨hf1.1, hf1.2.1, hf1.2.2.1, (fun z => absurd z.symm hpm.2.2.2.2.1)⟩ ⟨hf2.1, hf2.2.1, hf2.2.2.1, (fun z => absurd z.symm hpm.2.2.2.2.2.1)⟩ ⟨hf3.1, hf3.2.1, hf3.2.2.1, (fun z => absurd z.symm hpm.2.2.2.2.2.2.1)⟩

theorem sl169 {p : Program} {l : Launch} {e : Env} {s : State} {m : MethodId} {args : Array Value} {below : List Frame} {meth : Method} {c : Code} {T0 : State} {locs : List Loc} {Z : State} {a0 : Array Value} {n0 : Nat} {h0 hh : Heap} (p1 p2 p3 p4 p5 p6 kk_ : Int32) (q : Int64) (a1 td tc tw : Addr) (kd kc kw : ClassId) (ta : Addr) (ka : ClassId) (rr cx pa cy pb y0 y1 y2 y3 : Int32)
    (X0 : Stand p l e room_1 s m args below meth c T0 locs 5 29) (hx : p.tables.exec = Jvm.exec) (hZ : Z.Warmed39 s.vm) (hw : ∀ d ∈ tables_1, d.before a0 Z = true) (hby : c.code = code) (hml : c.maxLocals = 23) (hown : s.vm.findClass "com/example/placewright/placewright/GrowingRanksAddPinLaw" = some m.cls) (hnm : meth.name = "law") (hret : meth.sig.returnType = (some .boolean)) (hlk : meth.locks = false) (e0 : T0.heap = hh) (N0 : Fr n0 locs) (Z0 : n0 ≤ hh.size) (E_a1 : Exa Z hh a1 "com/example/placewright/placewright/GrowingRanks") (F_discounts : Fld Z hh a1 "com/example/placewright/placewright/GrowingRanks" "discounts" "[D" (.ref td)) (F_leaves : Fld Z hh a1 "com/example/placewright/placewright/GrowingRanks" "leaves" "I" (.int (4 : Int32))) (F_count : Fld Z hh a1 "com/example/placewright/placewright/GrowingRanks" "count" "[I" (.ref tc)) (F_worth : Fld Z hh a1 "com/example/placewright/placewright/GrowingRanks" "worth" "[D" (.ref tw)) (V_td : Arv Z hh td kd .double (5 : Int32) [(.double (FP.l2d 1)), (.double (FP.l2d q)), (.double (FP.l2d (q * q))), (.double (FP.l2d ((q * q) * q))), (.double (FP.l2d (((q * q) * q) * q)))] (.double (0 : UInt64))) (V_tc : Arv Z hh tc kc .int (8 : Int32) [(.int (0 : Int32)), (.int (((0 : Int32) + (0 : Int32)) + ((0 : Int32) + (0 : Int32)))), (.int ((0 : Int32) + (0 : Int32))), (.int ((0 : Int32) + (0 : Int32))), (.int (0 : Int32)), (.int (0 : Int32)), (.int (0 : Int32)), (.int (0 : Int32))] (.int (0 : Int32))) (V_tw : Arv Z hh tw kw .double (8 : Int32) [(.double (0 : UInt64)), (.double (FP.l2d (((0 : Int64) + (own_e q (0 : Int32)) * (0 : Int64)) + (own_e q ((0 : Int32) + (0 : Int32))) * ((0 : Int64) + (own_e q (0 : Int32)) * (0 : Int64))))), (.double (FP.l2d ((0 : Int64) + (own_e q (0 : Int32)) * (0 : Int64)))), (.double (FP.l2d ((0 : Int64) + (own_e q (0 : Int32)) * (0 : Int64)))), (.double (FP.l2d (0 : Int64))), (.double (FP.l2d (0 : Int64))), (.double (FP.l2d (0 : Int64))), (.double (FP.l2d (0 : Int64)))] (.double (0 : UInt64))) (ne5 : a1 ≠ tc ∧ a1 ≠ tw ∧ tc ≠ tw ∧ td ≠ tc ∧ td ≠ tw) (g_tc : n0 ≤ tc) (g_tw : n0 ≤ tw) (V_ta : Arv Z hh ta ka .int (4 : Int32) [(.int y0), (.int y1), (.int y2), (.int y3)] (.int (0 : Int32))) (ne4 : a1 ≠ ta ∧ td ≠ ta ∧ tc ≠ ta ∧ tw ≠ ta) (g_ta : n0 ≤ ta) (hq : own_b 4 q) (hpm : own_pm pa pb y0 y1) (hr2 : (rr / 12) % 2 = 0 ∨ (rr / 12) % 2 = 1) :
    Go p e below s room_1.cells room_1.slots (Q0 Z h0 n0) m T0 169 #[.val (.int p1), .val (.int p2), .val (.int p3), .val (.int p4), .val (.int p5), .val (.int p6), .val (.double (FP.l2d q)), .second, .val (.int kk_), .val (.ref td), .val (.ref a1), .val (.int (1 : Int32)), .val (.ref ta), .val (.int rr), .val (.int cx), .val (.int pa), .val (.int cy), .val (.int pb), .unset, .unset, .unset, .unset, .unset] [] := by
  refine Go.st (pc' := 171) (S' := [(.int rr)]) (fun t_ k_ => XS.iload X0.here hx rfl (hb hby at_169) rfl k_) ?_
  refine Go.st (pc' := 173) (S' := [(.int (12 : Int32)), (.int rr)]) (fun t_ k_ => XS.bipush X0.here hx rfl (hb hby at_171) k_) ?_
  refine Go.st (pc' := 174) (S' := [(.int (rr / (12 : Int32)))]) (fun t_ k_ => XS.idiv X0.here hx rfl (hb hby at_173) rfl (by decide) k_) ?_
  refine Go.st (pc' := 175) (S' := [(.int (2 : Int32)), (.int (rr / (12 : Int32)))]) (fun t_ k_ => XS.iconst X0.here hx rfl (hb hby at_174) k_) ?_
  refine Go.st (pc' := 176) (S' := [(.int ((rr / (12 : Int32)) % (2 : Int32)))]) (fun t_ k_ => iremM X0 hx rfl (hb hby at_175) rfl (by decide) k_) ?_
  rcases hr2 with h_ | h_
  · rw [h_]
    refine Go.st (pc' := 178) (S' := []) (fun t_ k_ => XS.istore X0.here hx rfl (hb hby at_176) rfl (l' := #[.val (.int p1), .val (.int p2), .val (.int p3), .val (.int p4), .val (.int p5), .val (.int p6), .val (.double (FP.l2d q)), .second, .val (.int kk_), .val (.ref td), .val (.ref a1), .val (.int (1 : Int32)), .val (.ref ta), .val (.int rr), .val (.int cx), .val (.int pa), .val (.int cy), .val (.int pb), .val (.int (0 : Int32)), .unset, .unset, .unset, .unset]) rfl k_) ?_
    refine Go.st (pc' := 180) (S' := [(.ref ta)]) (fun t_ k_ => XS.aload X0.here hx rfl (hb hby at_178) rfl rfl k_) ?_
    refine Go.st (pc' := 182) (S' := [(.int (0 : Int32)), (.ref ta)]) (fun t_ k_ => XS.iload X0.here hx rfl (hb hby at_180) rfl k_) ?_
    obtain ⟨cl1, Ar1, -, q1a, q1b, q1c, q1d⟩ := id V_ta
    refine Go.st (pc' := 183) (S' := [(.int y0)]) (fun t_ k_ => X0.iaload hx (j := (0 : Int32)) (v := (.int y0)) (by rw [e0]; exact Ar1.1) (State.isArrayOf_alike hZ.alike Ar1.2.1) Ar1.2.2 (inb_of q1a ⟨by decide, by decide⟩) (q1c.at (inb_of q1a ⟨by decide, by decide⟩) rfl) (g := (mkF m 182 #[.val (.int p1), .val (.int p2), .val (.int p3), .val (.int p4), .val (.int p5), .val (.int p6), .val (.double (FP.l2d q)), .second, .val (.int kk_), .val (.ref td), .val (.ref a1), .val (.int (1 : Int32)), .val (.ref ta), .val (.int rr), .val (.int cx), .val (.int pa), .val (.int cy), .val (.int pb), .val (.int (0 : Int32)), .unset, .unset, .unset, .unset] [(.int (0 : Int32)), (.ref ta)])) rfl rfl (hb hby at_182) t_ k_) ?_
    refine Go.st (pc' := 185) (S' := []) (fun t_ k_ => XS.istore X0.here hx rfl (hb hby at_183) rfl (l' := #[.val (.int p1), .val (.int p2), .val (.int p3), .val (.int p4), .val (.int p5), .val (.int p6), .val (.double (FP.l2d q)), .second, .val (.int kk_), .val (.ref td), .val (.ref a1), .val (.int (1 : Int32)), .val (.ref ta), .val (.int rr), .val (.int cx), .val (.int pa), .val (.int cy), .val (.int pb), .val (.int (0 : Int32)), .val (.int y0), .unset, .unset, .unset]) rfl k_) ?_
    refine Go.st (pc' := 187) (S' := [(.ref ta)]) (fun t_ k_ => XS.aload X0.here hx rfl (hb hby at_185) rfl rfl k_) ?_
    refine Go.st (pc' := 189) (S' := [(.int (0 : Int32)), (.ref ta)]) (fun t_ k_ => XS.iload X0.here hx rfl (hb hby at_187) rfl k_) ?_
    refine Go.st (pc' := 191) (S' := [(.ref ta), (.int (0 : Int32)), (.ref ta)]) (fun t_ k_ => XS.aload X0.here hx rfl (hb hby at_189) rfl rfl k_) ?_
    refine Go.st (pc' := 192) (S' := [(.int (1 : Int32)), (.ref ta), (.int (0 : Int32)), (.ref ta)]) (fun t_ k_ => XS.iconst X0.here hx rfl (hb hby at_191) k_) ?_
    obtain ⟨cl2, Ar2, -, q2a, q2b, q2c, q2d⟩ := id V_ta
    refine Go.st (pc' := 193) (S' := [(.int y1), (.int (0 : Int32)), (.ref ta)]) (fun t_ k_ => X0.iaload hx (j := (1 : Int32)) (v := (.int y1)) (by rw [e0]; exact Ar2.1) (State.isArrayOf_alike hZ.alike Ar2.2.1) Ar2.2.2 (inb_of q2a ⟨by decide, by decide⟩) (q2c.at (inb_of q2a ⟨by decide, by decide⟩) rfl) (g := (mkF m 192 #[.val (.int p1), .val (.int p2), .val (.int p3), .val (.int p4), .val (.int p5), .val (.int p6), .val (.double (FP.l2d q)), .second, .val (.int kk_), .val (.ref td), .val (.ref a1), .val (.int (1 : Int32)), .val (.ref ta), .val (.int rr), .val (.int cx), .val (.int pa), .val (.int cy), .val (.int pb), .val (.int (0 : Int32)), .val (.int y0), .unset, .unset, .unset] [(.int (1 : Int32)), (.ref ta), (.int (0 : Int32)), (.ref ta)])) rfl rfl (hb hby at_192) t_ k_) ?_
    obtain ⟨cl3, Ar3, q31, q32, q33, q34, q35⟩ := V_ta
    obtain ⟨T3, h3, X3, e3, W3, st3⟩ := stI X0 hx hZ e0 Ar3 (j := (0 : Int32)) (inb_of q32 ⟨by decide, by decide⟩) (g := (mkF m 193 #[.val (.int p1), .val (.int p2), .val (.int p3), .val (.int p4), .val (.int p5), .val (.int p6), .val (.double (FP.l2d q)), .second, .val (.int kk_), .val (.ref td), .val (.ref a1), .val (.int (1 : Int32)), .val (.ref ta), .val (.int rr), .val (.int cx), .val (.int pa), .val (.int cy), .val (.int pb), .val (.int (0 : Int32)), .val (.int y0), .unset, .unset, .unset] [(.int y1), (.int (0 : Int32)), (.ref ta)])) rfl rfl (hb hby at_193)
    replace V_ta := Arv.set Ar3 q31 q32 q33 q34 q35 rfl W3 0 rfl (Nat.le_of_ble_eq_true rfl)
    have V_ta : Arv Z h3 ta ka .int (4 : Int32) [(.int y1), (.int y1), (.int y2), (.int y3)] (.int (0 : Int32)) := V_ta
    replace Z0 := Nat.le_trans Z0 (Keep.of_wr W3).1
    replace E_a1 := E_a1.wr W3
    replace F_discounts := F_discounts.other W3 (Or.inl ne4.1)
    replace F_leaves := F_leaves.other W3 (Or.inl ne4.1)
    replace F_count := F_count.other W3 (Or.inl ne4.1)
    replace F_worth := F_worth.other W3 (Or.inl ne4.1)
    replace V_td := V_td.other W3 ne4.2.1
    replace V_tc := V_tc.other W3 ne4.2.2.1
    replace V_tw := V_tw.other W3 ne4.2.2.2
    have N3 := Fr.snoc X3 N0 g_ta
    refine Go.st (pc' := 194) (S' := []) st3 ?_
    refine Go.st (pc' := 196) (S' := [(.ref ta)]) (fun t_ k_ => XS.aload X3.here hx rfl (hb hby at_194) rfl rfl k_) ?_
    refine Go.st (pc' := 197) (S' := [(.int (0 : Int32)), (.ref ta)]) (fun t_ k_ => XS.iconst X3.here hx rfl (hb hby at_196) k_) ?_
    obtain ⟨cl4, Ar4, -, q4a, q4b, q4c, q4d⟩ := id V_ta
    refine Go.st (pc' := 198) (S' := [(.int y1)]) (fun t_ k_ => X3.iaload hx (j := (0 : Int32)) (v := (.int y1)) (by rw [e3]; exact Ar4.1) (State.isArrayOf_alike hZ.alike Ar4.2.1) Ar4.2.2 (inb_of q4a ⟨by decide, by decide⟩) (q4c.at (inb_of q4a ⟨by decide, by decide⟩) rfl) (g := (mkF m 197 #[.val (.int p1), .val (.int p2), .val (.int p3), .val (.int p4), .val (.int p5), .val (.int p6), .val (.double (FP.l2d q)), .second, .val (.int kk_), .val (.ref td), .val (.ref a1), .val (.int (1 : Int32)), .val (.ref ta), .val (.int rr), .val (.int cx), .val (.int pa), .val (.int cy), .val (.int pb), .val (.int (0 : Int32)), .val (.int y0), .unset, .unset, .unset] [(.int (0 : Int32)), (.ref ta)])) rfl rfl (hb hby at_197) t_ k_) ?_
    refine Go.st (pc' := 200) (S' := []) (fun t_ k_ => XS.istore X3.here hx rfl (hb hby at_198) rfl (l' := #[.val (.int p1), .val (.int p2), .val (.int p3), .val (.int p4), .val (.int p5), .val (.int p6), .val (.double (FP.l2d q)), .second, .val (.int kk_), .val (.ref td), .val (.ref a1), .val (.int (1 : Int32)), .val (.ref ta), .val (.int rr), .val (.int cx), .val (.int pa), .val (.int cy), .val (.int pb), .val (.int (0 : Int32)), .val (.int y0), .val (.int y1), .unset, .unset]) rfl k_) ?_
    refine Go.st (pc' := 201) (S' := [(.int (4 : Int32))]) (fun t_ k_ => XS.iconst X3.here hx rfl (hb hby at_200) k_) ?_
    obtain ⟨T5, h5, k5, X5, e5, E5, A5, st5⟩ := newP X3 hx hZ (wd hw 25 rfl) e3 (g := (mkF m 201 #[.val (.int p1), .val (.int p2), .val (.int p3), .val (.int p4), .val (.int p5), .val (.int p6), .val (.double (FP.l2d q)), .second, .val (.int kk_), .val (.ref td), .val (.ref a1), .val (.int (1 : Int32)), .val (.ref ta), .val (.int rr), .val (.int cx), .val (.int pa), .val (.int cy), .val (.int pb), .val (.int (0 : Int32)), .val (.int y0), .val (.int y1), .unset, .unset] [(.int (4 : Int32))])) rfl (hb hby at_201) rfl (by decide) (cap := 4) (by decide) (by decide) (by decide) (by decide)
    obtain ⟨b5, g5⟩ : ∃ z, z = h3.size := ⟨_, rfl⟩
    rw [← g5] at A5 st5
    have ne_a1_b5 : a1 ≠ b5 := Nat.ne_of_lt (Nat.lt_of_lt_of_le E_a1.lt (Nat.le_of_eq g5.symm))
    have ne_td_b5 : td ≠ b5 := Nat.ne_of_lt (Nat.lt_of_lt_of_le V_td.lt (Nat.le_of_eq g5.symm))
    have ne_tc_b5 : tc ≠ b5 := Nat.ne_of_lt (Nat.lt_of_lt_of_le V_tc.lt (Nat.le_of_eq g5.symm))
    have ne_tw_b5 : tw ≠ b5 := Nat.ne_of_lt (Nat.lt_of_lt_of_le V_tw.lt (Nat.le_of_eq g5.symm))
    have ne_ta_b5 : ta ≠ b5 := Nat.ne_of_lt (Nat.lt_of_lt_of_le V_ta.lt (Nat.le_of_eq g5.symm))
    have g_b5 : n0 ≤ b5 := Nat.le_trans Z0 (Nat.le_of_eq g5.symm)
    replace Z0 := Nat.le_trans Z0 E5.1
    replace E_a1 := E_a1.ext E5
    replace F_discounts := F_discounts.ext E5
    replace F_leaves := F_leaves.ext E5
    replace F_count := F_count.ext E5
    replace F_worth := F_worth.ext E5
    replace V_td := V_td.ext E5
    replace V_tc := V_tc.ext E5
    replace V_tw := V_tw.ext E5
    replace V_ta := V_ta.ext E5
    have V_b5 : Arv Z h5 b5 k5 .boolean (4 : Int32) [(.int (0 : Int32)), (.int (0 : Int32)), (.int (0 : Int32)), (.int (0 : Int32))] (.int (0 : Int32)) := (Arv.new A5 (by decide)).pad (pad_rep [] (.int (0 : Int32)) 4)
    refine Go.st (pc' := 203) (S' := [(.ref b5)]) st5 ?_
    refine Go.st (pc' := 205) (S' := []) (fun t_ k_ => XS.astore X5.here hx rfl (hb hby at_203) rfl rfl (l' := #[.val (.int p1), .val (.int p2), .val (.int p3), .val (.int p4), .val (.int p5), .val (.int p6), .val (.double (FP.l2d q)), .second, .val (.int kk_), .val (.ref td), .val (.ref a1), .val (.int (1 : Int32)), .val (.ref ta), .val (.int rr), .val (.int cx), .val (.int pa), .val (.int cy), .val (.int pb), .val (.int (0 : Int32)), .val (.int y0), .val (.int y1), .val (.ref b5), .unset]) rfl k_) ?_
    refine Go.st (pc' := 206) (S' := [(.int (4 : Int32))]) (fun t_ k_ => XS.iconst X5.here hx rfl (hb hby at_205) k_) ?_
    obtain ⟨T6, h6, k6, X6, e6, E6, A6, st6⟩ := newP X5 hx hZ (wd hw 0 rfl) e5 (g := (mkF m 206 #[.val (.int p1), .val (.int p2), .val (.int p3), .val (.int p4), .val (.int p5), .val (.int p6), .val (.double (FP.l2d q)), .second, .val (.int kk_), .val (.ref td), .val (.ref a1), .val (.int (1 : Int32)), .val (.ref ta), .val (.int rr), .val (.int cx), .val (.int pa), .val (.int cy), .val (.int pb), .val (.int (0 : Int32)), .val (.int y0), .val (.int y1), .val (.ref b5), .unset] [(.int (4 : Int32))])) rfl (hb hby at_206) rfl (by decide) (cap := 4) (by decide) (by decide) (by decide) (by decide)
    obtain ⟨b6, g6⟩ : ∃ z, z = h5.size := ⟨_, rfl⟩
    rw [← g6] at A6 st6
    have ne_a1_b6 : a1 ≠ b6 := Nat.ne_of_lt (Nat.lt_of_lt_of_le E_a1.lt (Nat.le_of_eq g6.symm))
    have ne_td_b6 : td ≠ b6 := Nat.ne_of_lt (Nat.lt_of_lt_of_le V_td.lt (Nat.le_of_eq g6.symm))
    have ne_tc_b6 : tc ≠ b6 := Nat.ne_of_lt (Nat.lt_of_lt_of_le V_tc.lt (Nat.le_of_eq g6.symm))
    have ne_tw_b6 : tw ≠ b6 := Nat.ne_of_lt (Nat.lt_of_lt_of_le V_tw.lt (Nat.le_of_eq g6.symm))
    have ne_ta_b6 : ta ≠ b6 := Nat.ne_of_lt (Nat.lt_of_lt_of_le V_ta.lt (Nat.le_of_eq g6.symm))
    have ne_b5_b6 : b5 ≠ b6 := Nat.ne_of_lt (Nat.lt_of_lt_of_le V_b5.lt (Nat.le_of_eq g6.symm))
    have g_b6 : n0 ≤ b6 := Nat.le_trans Z0 (Nat.le_of_eq g6.symm)
    replace Z0 := Nat.le_trans Z0 E6.1
    replace E_a1 := E_a1.ext E6
    replace F_discounts := F_discounts.ext E6
    replace F_leaves := F_leaves.ext E6
    replace F_count := F_count.ext E6
    replace F_worth := F_worth.ext E6
    replace V_td := V_td.ext E6
    replace V_tc := V_tc.ext E6
    replace V_tw := V_tw.ext E6
    replace V_ta := V_ta.ext E6
    replace V_b5 := V_b5.ext E6
    have V_b6 : Arv Z h6 b6 k6 .double (4 : Int32) [(.double (0 : UInt64)), (.double (0 : UInt64)), (.double (0 : UInt64)), (.double (0 : UInt64))] (.double (0 : UInt64)) := (Arv.new A6 (by decide)).pad (pad_rep [] (.double (0 : UInt64)) 4)
    refine Go.st (pc' := 208) (S' := [(.ref b6)]) st6 ?_
    refine Go.st (pc' := 210) (S' := []) (fun t_ k_ => XS.astore X6.here hx rfl (hb hby at_208) rfl rfl (l' := #[.val (.int p1), .val (.int p2), .val (.int p3), .val (.int p4), .val (.int p5), .val (.int p6), .val (.double (FP.l2d q)), .second, .val (.int kk_), .val (.ref td), .val (.ref a1), .val (.int (1 : Int32)), .val (.ref ta), .val (.int rr), .val (.int cx), .val (.int pa), .val (.int cy), .val (.int pb), .val (.int (0 : Int32)), .val (.int y0), .val (.int y1), .val (.ref b5), .val (.ref b6)]) rfl k_) ?_
    rw [← l2d_zero] at V_b6
    exact sl210 p1 p2 p3 p4 p5 p6 kk_ q a1 td tc tw _ _ _ b5 b6 _ _ cx cy (0 : Int32) pa pb y0 y1 ta rr (0 : Int32) (0 : Int32) (0 : Int32) (0 : Int32) (0 : Int64) (0 : Int64) (0 : Int64) (0 : Int64) (Stand.up X6 (by decide) (by decide)) hx hZ hw hby hml hown hnm hret hlk e6 N3 Z0 E_a1 F_discounts F_leaves F_count F_worth V_td V_tc V_tw ⟨ne5.1, ne5.2.1, ne5.2.2.1, ne5.2.2.2.1, ne5.2.2.2.2⟩ g_tc g_tw  V_b5 V_b6 ⟨ne_a1_b5, ne_td_b5, ne_tc_b5, ne_tw_b5, ne_a1_b6, ne_td_b6, ne_tc_b6, ne_tw_b6, ne_b5_b6⟩ g_b5 g_b6 (Or.inl ⟨rfl, rfl⟩) (Or.inl ⟨rfl, rfl⟩) (Or.inl ⟨rfl, rfl⟩) (Or.inl ⟨rfl, rfl⟩)  hq own_z0' own_z0' own_z0' own_z0' hpm ⟨fun _ => rfl, fun _ => rfl, fun _ => rfl, fun _ => rfl⟩ ⟨fun _ => rfl, fun _ => rfl, fun _ => rfl, fun _ => rfl⟩ ⟨fun _ => rfl, fun _ => rfl, fun _ => rfl, fun _ => rfl⟩ ⟨fun _ => rfl, fun _ => rfl, fun _ => rfl, fun _ => rfl⟩ 
  · rw [h_]
    refine Go.st (pc' := 178) (S' := []) (fun t_ k_ => XS.istore X0.here hx rfl (hb hby at_176) rfl (l' := #[.val (.int p1), .val (.int p2), .val (.int p3), .val (.int p4), .val (.int p5), .val (.int p6), .val (.double (FP.l2d q)), .second, .val (.int kk_), .val (.ref td), .val (.ref a1), .val (.int (1 : Int32)), .val (.ref ta), .val (.int rr), .val (.int cx), .val (.int pa), .val (.int cy), .val (.int pb), .val (.int (1 : Int32)), .unset, .unset, .unset, .unset]) rfl k_) ?_
    refine Go.st (pc' := 180) (S' := [(.ref ta)]) (fun t_ k_ => XS.aload X0.here hx rfl (hb hby at_178) rfl rfl k_) ?_
    refine Go.st (pc' := 182) (S' := [(.int (1 : Int32)), (.ref ta)]) (fun t_ k_ => XS.iload X0.here hx rfl (hb hby at_180) rfl k_) ?_
    obtain ⟨cl7, Ar7, -, q7a, q7b, q7c, q7d⟩ := id V_ta
    refine Go.st (pc' := 183) (S' := [(.int y1)]) (fun t_ k_ => X0.iaload hx (j := (1 : Int32)) (v := (.int y1)) (by rw [e0]; exact Ar7.1) (State.isArrayOf_alike hZ.alike Ar7.2.1) Ar7.2.2 (inb_of q7a ⟨by decide, by decide⟩) (q7c.at (inb_of q7a ⟨by decide, by decide⟩) rfl) (g := (mkF m 182 #[.val (.int p1), .val (.int p2), .val (.int p3), .val (.int p4), .val (.int p5), .val (.int p6), .val (.double (FP.l2d q)), .second, .val (.int kk_), .val (.ref td), .val (.ref a1), .val (.int (1 : Int32)), .val (.ref ta), .val (.int rr), .val (.int cx), .val (.int pa), .val (.int cy), .val (.int pb), .val (.int (1 : Int32)), .unset, .unset, .unset, .unset] [(.int (1 : Int32)), (.ref ta)])) rfl rfl (hb hby at_182) t_ k_) ?_
    refine Go.st (pc' := 185) (S' := []) (fun t_ k_ => XS.istore X0.here hx rfl (hb hby at_183) rfl (l' := #[.val (.int p1), .val (.int p2), .val (.int p3), .val (.int p4), .val (.int p5), .val (.int p6), .val (.double (FP.l2d q)), .second, .val (.int kk_), .val (.ref td), .val (.ref a1), .val (.int (1 : Int32)), .val (.ref ta), .val (.int rr), .val (.int cx), .val (.int pa), .val (.int cy), .val (.int pb), .val (.int (1 : Int32)), .val (.int y1), .unset, .unset, .unset]) rfl k_) ?_
    refine Go.st (pc' := 187) (S' := [(.ref ta)]) (fun t_ k_ => XS.aload X0.here hx rfl (hb hby at_185) rfl rfl k_) ?_
    refine Go.st (pc' := 189) (S' := [(.int (1 : Int32)), (.ref ta)]) (fun t_ k_ => XS.iload X0.here hx rfl (hb hby at_187) rfl k_) ?_
    refine Go.st (pc' := 191) (S' := [(.ref ta), (.int (1 : Int32)), (.ref ta)]) (fun t_ k_ => XS.aload X0.here hx rfl (hb hby at_189) rfl rfl k_) ?_
    refine Go.st (pc' := 192) (S' := [(.int (1 : Int32)), (.ref ta), (.int (1 : Int32)), (.ref ta)]) (fun t_ k_ => XS.iconst X0.here hx rfl (hb hby at_191) k_) ?_
    obtain ⟨cl8, Ar8, -, q8a, q8b, q8c, q8d⟩ := id V_ta
    refine Go.st (pc' := 193) (S' := [(.int y1), (.int (1 : Int32)), (.ref ta)]) (fun t_ k_ => X0.iaload hx (j := (1 : Int32)) (v := (.int y1)) (by rw [e0]; exact Ar8.1) (State.isArrayOf_alike hZ.alike Ar8.2.1) Ar8.2.2 (inb_of q8a ⟨by decide, by decide⟩) (q8c.at (inb_of q8a ⟨by decide, by decide⟩) rfl) (g := (mkF m 192 #[.val (.int p1), .val (.int p2), .val (.int p3), .val (.int p4), .val (.int p5), .val (.int p6), .val (.double (FP.l2d q)), .second, .val (.int kk_), .val (.ref td), .val (.ref a1), .val (.int (1 : Int32)), .val (.ref ta), .val (.int rr), .val (.int cx), .val (.int pa), .val (.int cy), .val (.int pb), .val (.int (1 : Int32)), .val (.int y1), .unset, .unset, .unset] [(.int (1 : Int32)), (.ref ta), (.int (1 : Int32)), (.ref ta)])) rfl rfl (hb hby at_192) t_ k_) ?_
    obtain ⟨cl9, Ar9, q91, q92, q93, q94, q95⟩ := V_ta
    obtain ⟨T9, h9, X9, e9, W9, st9⟩ := stI X0 hx hZ e0 Ar9 (j := (1 : Int32)) (inb_of q92 ⟨by decide, by decide⟩) (g := (mkF m 193 #[.val (.int p1), .val (.int p2), .val (.int p3), .val (.int p4), .val (.int p5), .val (.int p6), .val (.double (FP.l2d q)), .second, .val (.int kk_), .val (.ref td), .val (.ref a1), .val (.int (1 : Int32)), .val (.ref ta), .val (.int rr), .val (.int cx), .val (.int pa), .val (.int cy), .val (.int pb), .val (.int (1 : Int32)), .val (.int y1), .unset, .unset, .unset] [(.int y1), (.int (1 : Int32)), (.ref ta)])) rfl rfl (hb hby at_193)
    replace V_ta := Arv.set Ar9 q91 q92 q93 q94 q95 rfl W9 1 rfl (Nat.le_of_ble_eq_true rfl)
    have V_ta : Arv Z h9 ta ka .int (4 : Int32) [(.int y0), (.int y1), (.int y2), (.int y3)] (.int (0 : Int32)) := V_ta
    replace Z0 := Nat.le_trans Z0 (Keep.of_wr W9).1
    replace E_a1 := E_a1.wr W9
    replace F_discounts := F_discounts.other W9 (Or.inl ne4.1)
    replace F_leaves := F_leaves.other W9 (Or.inl ne4.1)
    replace F_count := F_count.other W9 (Or.inl ne4.1)
    replace F_worth := F_worth.other W9 (Or.inl ne4.1)
    replace V_td := V_td.other W9 ne4.2.1
    replace V_tc := V_tc.other W9 ne4.2.2.1
    replace V_tw := V_tw.other W9 ne4.2.2.2
    have N9 := Fr.snoc X9 N0 g_ta
    refine Go.st (pc' := 194) (S' := []) st9 ?_
    refine Go.st (pc' := 196) (S' := [(.ref ta)]) (fun t_ k_ => XS.aload X9.here hx rfl (hb hby at_194) rfl rfl k_) ?_
    refine Go.st (pc' := 197) (S' := [(.int (0 : Int32)), (.ref ta)]) (fun t_ k_ => XS.iconst X9.here hx rfl (hb hby at_196) k_) ?_
    obtain ⟨cl10, Ar10, -, q10a, q10b, q10c, q10d⟩ := id V_ta
    refine Go.st (pc' := 198) (S' := [(.int y0)]) (fun t_ k_ => X9.iaload hx (j := (0 : Int32)) (v := (.int y0)) (by rw [e9]; exact Ar10.1) (State.isArrayOf_alike hZ.alike Ar10.2.1) Ar10.2.2 (inb_of q10a ⟨by decide, by decide⟩) (q10c.at (inb_of q10a ⟨by decide, by decide⟩) rfl) (g := (mkF m 197 #[.val (.int p1), .val (.int p2), .val (.int p3), .val (.int p4), .val (.int p5), .val (.int p6), .val (.double (FP.l2d q)), .second, .val (.int kk_), .val (.ref td), .val (.ref a1), .val (.int (1 : Int32)), .val (.ref ta), .val (.int rr), .val (.int cx), .val (.int pa), .val (.int cy), .val (.int pb), .val (.int (1 : Int32)), .val (.int y1), .unset, .unset, .unset] [(.int (0 : Int32)), (.ref ta)])) rfl rfl (hb hby at_197) t_ k_) ?_
    refine Go.st (pc' := 200) (S' := []) (fun t_ k_ => XS.istore X9.here hx rfl (hb hby at_198) rfl (l' := #[.val (.int p1), .val (.int p2), .val (.int p3), .val (.int p4), .val (.int p5), .val (.int p6), .val (.double (FP.l2d q)), .second, .val (.int kk_), .val (.ref td), .val (.ref a1), .val (.int (1 : Int32)), .val (.ref ta), .val (.int rr), .val (.int cx), .val (.int pa), .val (.int cy), .val (.int pb), .val (.int (1 : Int32)), .val (.int y1), .val (.int y0), .unset, .unset]) rfl k_) ?_
    refine Go.st (pc' := 201) (S' := [(.int (4 : Int32))]) (fun t_ k_ => XS.iconst X9.here hx rfl (hb hby at_200) k_) ?_
    obtain ⟨T11, h11, k11, X11, e11, E11, A11, st11⟩ := newP X9 hx hZ (wd hw 25 rfl) e9 (g := (mkF m 201 #[.val (.int p1), .val (.int p2), .val (.int p3), .val (.int p4), .val (.int p5), .val (.int p6), .val (.double (FP.l2d q)), .second, .val (.int kk_), .val (.ref td), .val (.ref a1), .val (.int (1 : Int32)), .val (.ref ta), .val (.int rr), .val (.int cx), .val (.int pa), .val (.int cy), .val (.int pb), .val (.int (1 : Int32)), .val (.int y1), .val (.int y0), .unset, .unset] [(.int (4 : Int32))])) rfl (hb hby at_201) rfl (by decide) (cap := 4) (by decide) (by decide) (by decide) (by decide)
    obtain ⟨b11, g11⟩ : ∃ z, z = h9.size := ⟨_, rfl⟩
    rw [← g11] at A11 st11
    have ne_a1_b11 : a1 ≠ b11 := Nat.ne_of_lt (Nat.lt_of_lt_of_le E_a1.lt (Nat.le_of_eq g11.symm))
    have ne_td_b11 : td ≠ b11 := Nat.ne_of_lt (Nat.lt_of_lt_of_le V_td.lt (Nat.le_of_eq g11.symm))
    have ne_tc_b11 : tc ≠ b11 := Nat.ne_of_lt (Nat.lt_of_lt_of_le V_tc.lt (Nat.le_of_eq g11.symm))
    have ne_tw_b11 : tw ≠ b11 := Nat.ne_of_lt (Nat.lt_of_lt_of_le V_tw.lt (Nat.le_of_eq g11.symm))
    have ne_ta_b11 : ta ≠ b11 := Nat.ne_of_lt (Nat.lt_of_lt_of_le V_ta.lt (Nat.le_of_eq g11.symm))
    have g_b11 : n0 ≤ b11 := Nat.le_trans Z0 (Nat.le_of_eq g11.symm)
    replace Z0 := Nat.le_trans Z0 E11.1
    replace E_a1 := E_a1.ext E11
    replace F_discounts := F_discounts.ext E11
    replace F_leaves := F_leaves.ext E11
    replace F_count := F_count.ext E11
    replace F_worth := F_worth.ext E11
    replace V_td := V_td.ext E11
    replace V_tc := V_tc.ext E11
    replace V_tw := V_tw.ext E11
    replace V_ta := V_ta.ext E11
    have V_b11 : Arv Z h11 b11 k11 .boolean (4 : Int32) [(.int (0 : Int32)), (.int (0 : Int32)), (.int (0 : Int32)), (.int (0 : Int32))] (.int (0 : Int32)) := (Arv.new A11 (by decide)).pad (pad_rep [] (.int (0 : Int32)) 4)
    refine Go.st (pc' := 203) (S' := [(.ref b11)]) st11 ?_
    refine Go.st (pc' := 205) (S' := []) (fun t_ k_ => XS.astore X11.here hx rfl (hb hby at_203) rfl rfl (l' := #[.val (.int p1), .val (.int p2), .val (.int p3), .val (.int p4), .val (.int p5), .val (.int p6), .val (.double (FP.l2d q)), .second, .val (.int kk_), .val (.ref td), .val (.ref a1), .val (.int (1 : Int32)), .val (.ref ta), .val (.int rr), .val (.int cx), .val (.int pa), .val (.int cy), .val (.int pb), .val (.int (1 : Int32)), .val (.int y1), .val (.int y0), .val (.ref b11), .unset]) rfl k_) ?_
    refine Go.st (pc' := 206) (S' := [(.int (4 : Int32))]) (fun t_ k_ => XS.iconst X11.here hx rfl (hb hby at_205) k_) ?_
    obtain ⟨T12, h12, k12, X12, e12, E12, A12, st12⟩ := newP X11 hx hZ (wd hw 0 rfl) e11 (g := (mkF m 206 #[.val (.int p1), .val (.int p2), .val (.int p3), .val (.int p4), .val (.int p5), .val (.int p6), .val (.double (FP.l2d q)), .second, .val (.int kk_), .val (.ref td), .val (.ref a1), .val (.int (1 : Int32)), .val (.ref ta), .val (.int rr), .val (.int cx), .val (.int pa), .val (.int cy), .val (.int pb), .val (.int (1 : Int32)), .val (.int y1), .val (.int y0), .val (.ref b11), .unset] [(.int (4 : Int32))])) rfl (hb hby at_206) rfl (by decide) (cap := 4) (by decide) (by decide) (by decide) (by decide)
    obtain ⟨b12, g12⟩ : ∃ z, z = h11.size := ⟨_, rfl⟩
    rw [← g12] at A12 st12
    have ne_a1_b12 : a1 ≠ b12 := Nat.ne_of_lt (Nat.lt_of_lt_of_le E_a1.lt (Nat.le_of_eq g12.symm))
    have ne_td_b12 : td ≠ b12 := Nat.ne_of_lt (Nat.lt_of_lt_of_le V_td.lt (Nat.le_of_eq g12.symm))
    have ne_tc_b12 : tc ≠ b12 := Nat.ne_of_lt (Nat.lt_of_lt_of_le V_tc.lt (Nat.le_of_eq g12.symm))
    have ne_tw_b12 : tw ≠ b12 := Nat.ne_of_lt (Nat.lt_of_lt_of_le V_tw.lt (Nat.le_of_eq g12.symm))
    have ne_ta_b12 : ta ≠ b12 := Nat.ne_of_lt (Nat.lt_of_lt_of_le V_ta.lt (Nat.le_of_eq g12.symm))
    have ne_b11_b12 : b11 ≠ b12 := Nat.ne_of_lt (Nat.lt_of_lt_of_le V_b11.lt (Nat.le_of_eq g12.symm))
    have g_b12 : n0 ≤ b12 := Nat.le_trans Z0 (Nat.le_of_eq g12.symm)
    replace Z0 := Nat.le_trans Z0 E12.1
    replace E_a1 := E_a1.ext E12
    replace F_discounts := F_discounts.ext E12
    replace F_leaves := F_leaves.ext E12
    replace F_count := F_count.ext E12
    replace F_worth := F_worth.ext E12
    replace V_td := V_td.ext E12
    replace V_tc := V_tc.ext E12
    replace V_tw := V_tw.ext E12
    replace V_ta := V_ta.ext E12
    replace V_b11 := V_b11.ext E12
    have V_b12 : Arv Z h12 b12 k12 .double (4 : Int32) [(.double (0 : UInt64)), (.double (0 : UInt64)), (.double (0 : UInt64)), (.double (0 : UInt64))] (.double (0 : UInt64)) := (Arv.new A12 (by decide)).pad (pad_rep [] (.double (0 : UInt64)) 4)
    refine Go.st (pc' := 208) (S' := [(.ref b12)]) st12 ?_
    refine Go.st (pc' := 210) (S' := []) (fun t_ k_ => XS.astore X12.here hx rfl (hb hby at_208) rfl rfl (l' := #[.val (.int p1), .val (.int p2), .val (.int p3), .val (.int p4), .val (.int p5), .val (.int p6), .val (.double (FP.l2d q)), .second, .val (.int kk_), .val (.ref td), .val (.ref a1), .val (.int (1 : Int32)), .val (.ref ta), .val (.int rr), .val (.int cx), .val (.int pa), .val (.int cy), .val (.int pb), .val (.int (1 : Int32)), .val (.int y1), .val (.int y0), .val (.ref b11), .val (.ref b12)]) rfl k_) ?_
    rw [← l2d_zero] at V_b12
    exact sl210 p1 p2 p3 p4 p5 p6 kk_ q a1 td tc tw _ _ _ b11 b12 _ _ cx cy (1 : Int32) pa pb y1 y0 ta rr (0 : Int32) (0 : Int32) (0 : Int32) (0 : Int32) (0 : Int64) (0 : Int64) (0 : Int64) (0 : Int64) (Stand.up X12 (by decide) (by decide)) hx hZ hw hby hml hown hnm hret hlk e12 N9 Z0 E_a1 F_discounts F_leaves F_count F_worth V_td V_tc V_tw ⟨ne5.1, ne5.2.1, ne5.2.2.1, ne5.2.2.2.1, ne5.2.2.2.2⟩ g_tc g_tw  V_b11 V_b12 ⟨ne_a1_b11, ne_td_b11, ne_tc_b11, ne_tw_b11, ne_a1_b12, ne_td_b12, ne_tc_b12, ne_tw_b12, ne_b11_b12⟩ g_b11 g_b12 (Or.inl ⟨rfl, rfl⟩) (Or.inl ⟨rfl, rfl⟩) (Or.inl ⟨rfl, rfl⟩) (Or.inl ⟨rfl, rfl⟩)  hq own_z0' own_z0' own_z0' own_z0' hpm.s1 ⟨fun _ => rfl, fun _ => rfl, fun _ => rfl, fun _ => rfl⟩ ⟨fun _ => rfl, fun _ => rfl, fun _ => rfl, fun _ => rfl⟩ ⟨fun _ => rfl, fun _ => rfl, fun _ => rfl, fun _ => rfl⟩ ⟨fun _ => rfl, fun _ => rfl, fun _ => rfl, fun _ => rfl⟩ 

theorem sl145 {p : Program} {l : Launch} {e : Env} {s : State} {m : MethodId} {args : Array Value} {below : List Frame} {meth : Method} {c : Code} {T0 : State} {locs : List Loc} {Z : State} {a0 : Array Value} {n0 : Nat} {h0 hh : Heap} (p1 p2 p3 p4 p5 p6 kk_ : Int32) (q : Int64) (a1 td tc tw : Addr) (kd kc kw : ClassId) (ta : Addr) (ka : ClassId) (rr cx pa y0 y1 y2 y3 : Int32)
    (X0 : Stand p l e room_1 s m args below meth c T0 locs 5 29) (hx : p.tables.exec = Jvm.exec) (hZ : Z.Warmed39 s.vm) (hw : ∀ d ∈ tables_1, d.before a0 Z = true) (hby : c.code = code) (hml : c.maxLocals = 23) (hown : s.vm.findClass "com/example/placewright/placewright/GrowingRanksAddPinLaw" = some m.cls) (hnm : meth.name = "law") (hret : meth.sig.returnType = (some .boolean)) (hlk : meth.locks = false) (e0 : T0.heap = hh) (N0 : Fr n0 locs) (Z0 : n0 ≤ hh.size) (E_a1 : Exa Z hh a1 "com/example/placewright/placewright/GrowingRanks") (F_discounts : Fld Z hh a1 "com/example/placewright/placewright/GrowingRanks" "discounts" "[D" (.ref td)) (F_leaves : Fld Z hh a1 "com/example/placewright/placewright/GrowingRanks" "leaves" "I" (.int (4 : Int32))) (F_count : Fld Z hh a1 "com/example/placewright/placewright/GrowingRanks" "count" "[I" (.ref tc)) (F_worth : Fld Z hh a1 "com/example/placewright/placewright/GrowingRanks" "worth" "[D" (.ref tw)) (V_td : Arv Z hh td kd .double (5 : Int32) [(.double (FP.l2d 1)), (.double (FP.l2d q)), (.double (FP.l2d (q * q))), (.double (FP.l2d ((q * q) * q))), (.double (FP.l2d (((q * q) * q) * q)))] (.double (0 : UInt64))) (V_tc : Arv Z hh tc kc .int (8 : Int32) [(.int (0 : Int32)), (.int (((0 : Int32) + (0 : Int32)) + ((0 : Int32) + (0 : Int32)))), (.int ((0 : Int32) + (0 : Int32))), (.int ((0 : Int32) + (0 : Int32))), (.int (0 : Int32)), (.int (0 : Int32)), (.int (0 : Int32)), (.int (0 : Int32))] (.int (0 : Int32))) (V_tw : Arv Z hh tw kw .double (8 : Int32) [(.double (0 : UInt64)), (.double (FP.l2d (((0 : Int64) + (own_e q (0 : Int32)) * (0 : Int64)) + (own_e q ((0 : Int32) + (0 : Int32))) * ((0 : Int64) + (own_e q (0 : Int32)) * (0 : Int64))))), (.double (FP.l2d ((0 : Int64) + (own_e q (0 : Int32)) * (0 : Int64)))), (.double (FP.l2d ((0 : Int64) + (own_e q (0 : Int32)) * (0 : Int64)))), (.double (FP.l2d (0 : Int64))), (.double (FP.l2d (0 : Int64))), (.double (FP.l2d (0 : Int64))), (.double (FP.l2d (0 : Int64)))] (.double (0 : UInt64))) (ne5 : a1 ≠ tc ∧ a1 ≠ tw ∧ tc ≠ tw ∧ td ≠ tc ∧ td ≠ tw) (g_tc : n0 ≤ tc) (g_tw : n0 ≤ tw) (V_ta : Arv Z hh ta ka .int (4 : Int32) [(.int y0), (.int y1), (.int y2), (.int y3)] (.int (0 : Int32))) (ne4 : a1 ≠ ta ∧ td ≠ ta ∧ tc ≠ ta ∧ tw ≠ ta) (g_ta : n0 ≤ ta) (hq : own_b 4 q) (hpm : own_pm pa y0 y1 y2) (hr3 : (rr / 4) % 3 = 0 ∨ (rr / 4) % 3 = 1 ∨ (rr / 4) % 3 = 2) (hr2 : (rr / 12) % 2 = 0 ∨ (rr / 12) % 2 = 1) :
    Go p e below s room_1.cells room_1.slots (Q0 Z h0 n0) m T0 145 #[.val (.int p1), .val (.int p2), .val (.int p3), .val (.int p4), .val (.int p5), .val (.int p6), .val (.double (FP.l2d q)), .second, .val (.int kk_), .val (.ref td), .val (.ref a1), .val (.int (1 : Int32)), .val (.ref ta), .val (.int rr), .val (.int cx), .val (.int pa), .unset, .unset, .unset, .unset, .unset, .unset, .unset] [] := by
  refine Go.st (pc' := 147) (S' := [(.int rr)]) (fun t_ k_ => XS.iload X0.here hx rfl (hb hby at_145) rfl k_) ?_
  refine Go.st (pc' := 148) (S' := [(.int (4 : Int32)), (.int rr)]) (fun t_ k_ => XS.iconst X0.here hx rfl (hb hby at_147) k_) ?_
  refine Go.st (pc' := 149) (S' := [(.int (rr / (4 : Int32)))]) (fun t_ k_ => XS.idiv X0.here hx rfl (hb hby at_148) rfl (by decide) k_) ?_
  refine Go.st (pc' := 150) (S' := [(.int (3 : Int32)), (.int (rr / (4 : Int32)))]) (fun t_ k_ => XS.iconst X0.here hx rfl (hb hby at_149) k_) ?_
  refine Go.st (pc' := 151) (S' := [(.int ((rr / (4 : Int32)) % (3 : Int32)))]) (fun t_ k_ => iremM X0 hx rfl (hb hby at_150) rfl (by decide) k_) ?_
  rcases hr3 with h_ | h_ | h_
  · rw [h_]
    refine Go.st (pc' := 153) (S' := []) (fun t_ k_ => XS.istore X0.here hx rfl (hb hby at_151) rfl (l' := #[.val (.int p1), .val (.int p2), .val (.int p3), .val (.int p4), .val (.int p5), .val (.int p6), .val (.double (FP.l2d q)), .second, .val (.int kk_), .val (.ref td), .val (.ref a1), .val (.int (1 : Int32)), .val (.ref ta), .val (.int rr), .val (.int cx), .val (.int pa), .val (.int (0 : Int32)), .unset, .unset, .unset, .unset, .unset, .unset]) rfl k_) ?_
    refine Go.st (pc' := 155) (S' := [(.ref ta)]) (fun t_ k_ => XS.aload X0.here hx rfl (hb hby at_153) rfl rfl k_) ?_
    refine Go.st (pc' := 157) (S' := [(.int (0 : Int32)), (.ref ta)]) (fun t_ k_ => XS.iload X0.here hx rfl (hb hby at_155) rfl k_) ?_
    obtain ⟨cl1, Ar1, -, q1a, q1b, q1c, q1d⟩ := id V_ta
    refine Go.st (pc' := 158) (S' := [(.int y0)]) (fun t_ k_ => X0.iaload hx (j := (0 : Int32)) (v := (.int y0)) (by rw [e0]; exact Ar1.1) (State.isArrayOf_alike hZ.alike Ar1.2.1) Ar1.2.2 (inb_of q1a ⟨by decide, by decide⟩) (q1c.at (inb_of q1a ⟨by decide, by decide⟩) rfl) (g := (mkF m 157 #[.val (.int p1), .val (.int p2), .val (.int p3), .val (.int p4), .val (.int p5), .val (.int p6), .val (.double (FP.l2d q)), .second, .val (.int kk_), .val (.ref td), .val (.ref a1), .val (.int (1 : Int32)), .val (.ref ta), .val (.int rr), .val (.int cx), .val (.int pa), .val (.int (0 : Int32)), .unset, .unset, .unset, .unset, .unset, .unset] [(.int (0 : Int32)), (.ref ta)])) rfl rfl (hb hby at_157) t_ k_) ?_
    refine Go.st (pc' := 160) (S' := []) (fun t_ k_ => XS.istore X0.here hx rfl (hb hby at_158) rfl (l' := #[.val (.int p1), .val (.int p2), .val (.int p3), .val (.int p4), .val (.int p5), .val (.int p6), .val (.double (FP.l2d q)), .second, .val (.int kk_), .val (.ref td), .val (.ref a1), .val (.int (1 : Int32)), .val (.ref ta), .val (.int rr), .val (.int cx), .val (.int pa), .val (.int (0 : Int32)), .val (.int y0), .unset, .unset, .unset, .unset, .unset]) rfl k_) ?_
    refine Go.st (pc' := 162) (S' := [(.ref ta)]) (fun t_ k_ => XS.aload X0.here hx rfl (hb hby at_160) rfl rfl k_) ?_
    refine Go.st (pc' := 164) (S' := [(.int (0 : Int32)), (.ref ta)]) (fun t_ k_ => XS.iload X0.here hx rfl (hb hby at_162) rfl k_) ?_
    refine Go.st (pc' := 166) (S' := [(.ref ta), (.int (0 : Int32)), (.ref ta)]) (fun t_ k_ => XS.aload X0.here hx rfl (hb hby at_164) rfl rfl k_) ?_
    refine Go.st (pc' := 167) (S' := [(.int (2 : Int32)), (.ref ta), (.int (0 : Int32)), (.ref ta)]) (fun t_ k_ => XS.iconst X0.here hx rfl (hb hby at_166) k_) ?_
    obtain ⟨cl2, Ar2, -, q2a, q2b, q2c, q2d⟩ := id V_ta
    refine Go.st (pc' := 168) (S' := [(.int y2), (.int (0 : Int32)), (.ref ta)]) (fun t_ k_ => X0.iaload hx (j := (2 : Int32)) (v := (.int y2)) (by rw [e0]; exact Ar2.1) (State.isArrayOf_alike hZ.alike Ar2.2.1) Ar2.2.2 (inb_of q2a ⟨by decide, by decide⟩) (q2c.at (inb_of q2a ⟨by decide, by decide⟩) rfl) (g := (mkF m 167 #[.val (.int p1), .val (.int p2), .val (.int p3), .val (.int p4), .val (.int p5), .val (.int p6), .val (.double (FP.l2d q)), .second, .val (.int kk_), .val (.ref td), .val (.ref a1), .val (.int (1 : Int32)), .val (.ref ta), .val (.int rr), .val (.int cx), .val (.int pa), .val (.int (0 : Int32)), .val (.int y0), .unset, .unset, .unset, .unset, .unset] [(.int (2 : Int32)), (.ref ta), (.int (0 : Int32)), (.ref ta)])) rfl rfl (hb hby at_167) t_ k_) ?_
    obtain ⟨cl3, Ar3, q31, q32, q33, q34, q35⟩ := V_ta
    obtain ⟨T3, h3, X3, e3, W3, st3⟩ := stI X0 hx hZ e0 Ar3 (j := (0 : Int32)) (inb_of q32 ⟨by decide, by decide⟩) (g := (mkF m 168 #[.val (.int p1), .val (.int p2), .val (.int p3), .val (.int p4), .val (.int p5), .val (.int p6), .val (.double (FP.l2d q)), .second, .val (.int kk_), .val (.ref td), .val (.ref a1), .val (.int (1 : Int32)), .val (.ref ta), .val (.int rr), .val (.int cx), .val (.int pa), .val (.int (0 : Int32)), .val (.int y0), .unset, .unset, .unset, .unset, .unset] [(.int y2), (.int (0 : Int32)), (.ref ta)])) rfl rfl (hb hby at_168)
    replace V_ta := Arv.set Ar3 q31 q32 q33 q34 q35 rfl W3 0 rfl (Nat.le_of_ble_eq_true rfl)
    have V_ta : Arv Z h3 ta ka .int (4 : Int32) [(.int y2), (.int y1), (.int y2), (.int y3)] (.int (0 : Int32)) := V_ta
    replace Z0 := Nat.le_trans Z0 (Keep.of_wr W3).1
    replace E_a1 := E_a1.wr W3
    replace F_discounts := F_discounts.other W3 (Or.inl ne4.1)
    replace F_leaves := F_leaves.other W3 (Or.inl ne4.1)
    replace F_count := F_count.other W3 (Or.inl ne4.1)
    replace F_worth := F_worth.other W3 (Or.inl ne4.1)
    replace V_td := V_td.other W3 ne4.2.1
    replace V_tc := V_tc.other W3 ne4.2.2.1
    replace V_tw := V_tw.other W3 ne4.2.2.2
    have N3 := Fr.snoc X3 N0 g_ta
    refine Go.st (pc' := 169) (S' := []) st3 ?_
    exact sl169 p1 p2 p3 p4 p5 p6 kk_ q a1 td tc tw _ _ _ ta _ rr cx pa (0 : Int32) y0 y2 y1 y2 y3 (Stand.up X3 (by decide) (by decide)) hx hZ hw hby hml hown hnm hret hlk e3 N3 Z0 E_a1 F_discounts F_leaves F_count F_worth V_td V_tc V_tw ⟨ne5.1, ne5.2.1, ne5.2.2.1, ne5.2.2.2.1, ne5.2.2.2.2⟩ g_tc g_tw V_ta ⟨ne4.1, ne4.2.1, ne4.2.2.1, ne4.2.2.2⟩ g_ta hq (by first | exact hpm | exact hpm.s1 | exact hpm.s2 | exact hpm.s3 | exact hpm.s1.s2 | exact hpm.s2.s1 | exact hpm.s3.s1 | exact hpm.s1.s3 | exact hpm.s2.s3 | exact hpm.s3.s2) hr2
  · rw [h_]
    refine Go.st (pc' := 153) (S' := []) (fun t_ k_ => XS.istore X0.here hx rfl (hb hby at_151) rfl (l' := #[.val (.int p1), .val (.int p2), .val (.int p3), .val (.int p4), .val (.int p5), .val (.int p6), .val (.double (FP.l2d q)), .second, .val (.int kk_), .val (.ref td), .val (.ref a1), .val (.int (1 : Int32)), .val (.ref ta), .val (.int rr), .val (.int cx), .val (.int pa), .val (.int (1 : Int32)), .unset, .unset, .unset, .unset, .unset, .unset]) rfl k_) ?_
    refine Go.st (pc' := 155) (S' := [(.ref ta)]) (fun t_ k_ => XS.aload X0.here hx rfl (hb hby at_153) rfl rfl k_) ?_
    refine Go.st (pc' := 157) (S' := [(.int (1 : Int32)), (.ref ta)]) (fun t_ k_ => XS.iload X0.here hx rfl (hb hby at_155) rfl k_) ?_
    obtain ⟨cl4, Ar4, -, q4a, q4b, q4c, q4d⟩ := id V_ta
    refine Go.st (pc' := 158) (S' := [(.int y1)]) (fun t_ k_ => X0.iaload hx (j := (1 : Int32)) (v := (.int y1)) (by rw [e0]; exact Ar4.1) (State.isArrayOf_alike hZ.alike Ar4.2.1) Ar4.2.2 (inb_of q4a ⟨by decide, by decide⟩) (q4c.at (inb_of q4a ⟨by decide, by decide⟩) rfl) (g := (mkF m 157 #[.val (.int p1), .val (.int p2), .val (.int p3), .val (.int p4), .val (.int p5), .val (.int p6), .val (.double (FP.l2d q)), .second, .val (.int kk_), .val (.ref td), .val (.ref a1), .val (.int (1 : Int32)), .val (.ref ta), .val (.int rr), .val (.int cx), .val (.int pa), .val (.int (1 : Int32)), .unset, .unset, .unset, .unset, .unset, .unset] [(.int (1 : Int32)), (.ref ta)])) rfl rfl (hb hby at_157) t_ k_) ?_
    refine Go.st (pc' := 160) (S' := []) (fun t_ k_ => XS.istore X0.here hx rfl (hb hby at_158) rfl (l' := #[.val (.int p1), .val (.int p2), .val (.int p3), .val (.int p4), .val (.int p5), .val (.int p6), .val (.double (FP.l2d q)), .second, .val (.int kk_), .val (.ref td), .val (.ref a1), .val (.int (1 : Int32)), .val (.ref ta), .val (.int rr), .val (.int cx), .val (.int pa), .val (.int (1 : Int32)), .val (.int y1), .unset, .unset, .unset, .unset, .unset]) rfl k_) ?_
    refine Go.st (pc' := 162) (S' := [(.ref ta)]) (fun t_ k_ => XS.aload X0.here hx rfl (hb hby at_160) rfl rfl k_) ?_
    refine Go.st (pc' := 164) (S' := [(.int (1 : Int32)), (.ref ta)]) (fun t_ k_ => XS.iload X0.here hx rfl (hb hby at_162) rfl k_) ?_
    refine Go.st (pc' := 166) (S' := [(.ref ta), (.int (1 : Int32)), (.ref ta)]) (fun t_ k_ => XS.aload X0.here hx rfl (hb hby at_164) rfl rfl k_) ?_
    refine Go.st (pc' := 167) (S' := [(.int (2 : Int32)), (.ref ta), (.int (1 : Int32)), (.ref ta)]) (fun t_ k_ => XS.iconst X0.here hx rfl (hb hby at_166) k_) ?_
    obtain ⟨cl5, Ar5, -, q5a, q5b, q5c, q5d⟩ := id V_ta
    refine Go.st (pc' := 168) (S' := [(.int y2), (.int (1 : Int32)), (.ref ta)]) (fun t_ k_ => X0.iaload hx (j := (2 : Int32)) (v := (.int y2)) (by rw [e0]; exact Ar5.1) (State.isArrayOf_alike hZ.alike Ar5.2.1) Ar5.2.2 (inb_of q5a ⟨by decide, by decide⟩) (q5c.at (inb_of q5a ⟨by decide, by decide⟩) rfl) (g := (mkF m 167 #[.val (.int p1), .val (.int p2), .val (.int p3), .val (.int p4), .val (.int p5), .val (.int p6), .val (.double (FP.l2d q)), .second, .val (.int kk_), .val (.ref td), .val (.ref a1), .val (.int (1 : Int32)), .val (.ref ta), .val (.int rr), .val (.int cx), .val (.int pa), .val (.int (1 : Int32)), .val (.int y1), .unset, .unset, .unset, .unset, .unset] [(.int (2 : Int32)), (.ref ta), (.int (1 : Int32)), (.ref ta)])) rfl rfl (hb hby at_167) t_ k_) ?_
    obtain ⟨cl6, Ar6, q61, q62, q63, q64, q65⟩ := V_ta
    obtain ⟨T6, h6, X6, e6, W6, st6⟩ := stI X0 hx hZ e0 Ar6 (j := (1 : Int32)) (inb_of q62 ⟨by decide, by decide⟩) (g := (mkF m 168 #[.val (.int p1), .val (.int p2), .val (.int p3), .val (.int p4), .val (.int p5), .val (.int p6), .val (.double (FP.l2d q)), .second, .val (.int kk_), .val (.ref td), .val (.ref a1), .val (.int (1 : Int32)), .val (.ref ta), .val (.int rr), .val (.int cx), .val (.int pa), .val (.int (1 : Int32)), .val (.int y1), .unset, .unset, .unset, .unset, .unset] [(.int y2), (.int (1 : Int32)), (.ref ta)])) rfl rfl (hb hby at_168)
    replace V_ta := Arv.set Ar6 q61 q62 q63 q64 q65 rfl W6 1 rfl (Nat.le_of_ble_eq_true rfl)
    have V_ta : Arv Z h6 ta ka .int (4 : Int32) [(.int y0), (.int y2), (.int y2), (.int y3)] (.int (0 : Int32)) := V_ta
    replace Z0 := Nat.le_trans Z0 (Keep.of_wr W6).1
    replace E_a1 := E_a1.wr W6
    replace F_discounts := F_discounts.other W6 (Or.inl ne4.1)
    replace F_leaves := F_leaves.other W6 (Or.inl ne4.1)
    replace F_count := F_count.other W6 (Or.inl ne4.1)
    replace F_worth := F_worth.other W6 (Or.inl ne4.1)
    replace V_td := V_td.other W6 ne4.2.1
    replace V_tc := V_tc.other W6 ne4.2.2.1
    replace V_tw := V_tw.other W6 ne4.2.2.2
    have N6 := Fr.snoc X6 N0 g_ta
    refine Go.st (pc' := 169) (S' := []) st6 ?_
    exact sl169 p1 p2 p3 p4 p5 p6 kk_ q a1 td tc tw _ _ _ ta _ rr cx pa (1 : Int32) y1 y0 y2 y2 y3 (Stand.up X6 (by decide) (by decide)) hx hZ hw hby hml hown hnm hret hlk e6 N6 Z0 E_a1 F_discounts F_leaves F_count F_worth V_td V_tc V_tw ⟨ne5.1, ne5.2.1, ne5.2.2.1, ne5.2.2.2.1, ne5.2.2.2.2⟩ g_tc g_tw V_ta ⟨ne4.1, ne4.2.1, ne4.2.2.1, ne4.2.2.2⟩ g_ta hq (by first | exact hpm | exact hpm.s1 | exact hpm.s2 | exact hpm.s3 | exact hpm.s1.s2 | exact hpm.s2.s1 | exact hpm.s3.s1 | exact hpm.s1.s3 | exact hpm.s2.s3 | exact hpm.s3.s2) hr2
  · rw [h_]
    refine Go.st (pc' := 153) (S' := []) (fun t_ k_ => XS.istore X0.here hx rfl (hb hby at_151) rfl (l' := #[.val (.int p1), .val (.int p2), .val (.int p3), .val (.int p4), .val (.int p5), .val (.int p6), .val (.double (FP.l2d q)), .second, .val (.int kk_), .val (.ref td), .val (.ref a1), .val (.int (1 : Int32)), .val (.ref ta), .val (.int rr), .val (.int cx), .val (.int pa), .val (.int (2 : Int32)), .unset, .unset, .unset, .unset, .unset, .unset]) rfl k_) ?_
    refine Go.st (pc' := 155) (S' := [(.ref ta)]) (fun t_ k_ => XS.aload X0.here hx rfl (hb hby at_153) rfl rfl k_) ?_
    refine Go.st (pc' := 157) (S' := [(.int (2 : Int32)), (.ref ta)]) (fun t_ k_ => XS.iload X0.here hx rfl (hb hby at_155) rfl k_) ?_
    obtain ⟨cl7, Ar7, -, q7a, q7b, q7c, q7d⟩ := id V_ta
    refine Go.st (pc' := 158) (S' := [(.int y2)]) (fun t_ k_ => X0.iaload hx (j := (2 : Int32)) (v := (.int y2)) (by rw [e0]; exact Ar7.1) (State.isArrayOf_alike hZ.alike Ar7.2.1) Ar7.2.2 (inb_of q7a ⟨by decide, by decide⟩) (q7c.at (inb_of q7a ⟨by decide, by decide⟩) rfl) (g := (mkF m 157 #[.val (.int p1), .val (.int p2), .val (.int p3), .val (.int p4), .val (.int p5), .val (.int p6), .val (.double (FP.l2d q)), .second, .val (.int kk_), .val (.ref td), .val (.ref a1), .val (.int (1 : Int32)), .val (.ref ta), .val (.int rr), .val (.int cx), .val (.int pa), .val (.int (2 : Int32)), .unset, .unset, .unset, .unset, .unset, .unset] [(.int (2 : Int32)), (.ref ta)])) rfl rfl (hb hby at_157) t_ k_) ?_
    refine Go.st (pc' := 160) (S' := []) (fun t_ k_ => XS.istore X0.here hx rfl (hb hby at_158) rfl (l' := #[.val (.int p1), .val (.int p2), .val (.int p3), .val (.int p4), .val (.int p5), .val (.int p6), .val (.double (FP.l2d q)), .second, .val (.int kk_), .val (.ref td), .val (.ref a1), .val (.int (1 : Int32)), .val (.ref ta), .val (.int rr), .val (.int cx), .val (.int pa), .val (.int (2 : Int32)), .val (.int y2), .unset, .unset, .unset, .unset, .unset]) rfl k_) ?_
    refine Go.st (pc' := 162) (S' := [(.ref ta)]) (fun t_ k_ => XS.aload X0.here hx rfl (hb hby at_160) rfl rfl k_) ?_
    refine Go.st (pc' := 164) (S' := [(.int (2 : Int32)), (.ref ta)]) (fun t_ k_ => XS.iload X0.here hx rfl (hb hby at_162) rfl k_) ?_
    refine Go.st (pc' := 166) (S' := [(.ref ta), (.int (2 : Int32)), (.ref ta)]) (fun t_ k_ => XS.aload X0.here hx rfl (hb hby at_164) rfl rfl k_) ?_
    refine Go.st (pc' := 167) (S' := [(.int (2 : Int32)), (.ref ta), (.int (2 : Int32)), (.ref ta)]) (fun t_ k_ => XS.iconst X0.here hx rfl (hb hby at_166) k_) ?_
    obtain ⟨cl8, Ar8, -, q8a, q8b, q8c, q8d⟩ := id V_ta
    refine Go.st (pc' := 168) (S' := [(.int y2), (.int (2 : Int32)), (.ref ta)]) (fun t_ k_ => X0.iaload hx (j := (2 : Int32)) (v := (.int y2)) (by rw [e0]; exact Ar8.1) (State.isArrayOf_alike hZ.alike Ar8.2.1) Ar8.2.2 (inb_of q8a ⟨by decide, by decide⟩) (q8c.at (inb_of q8a ⟨by decide, by decide⟩) rfl) (g := (mkF m 167 #[.val (.int p1), .val (.int p2), .val (.int p3), .val (.int p4), .val (.int p5), .val (.int p6), .val (.double (FP.l2d q)), .second, .val (.int kk_), .val (.ref td), .val (.ref a1), .val (.int (1 : Int32)), .val (.ref ta), .val (.int rr), .val (.int cx), .val (.int pa), .val (.int (2 : Int32)), .val (.int y2), .unset, .unset, .unset, .unset, .unset] [(.int (2 : Int32)), (.ref ta), (.int (2 : Int32)), (.ref ta)])) rfl rfl (hb hby at_167) t_ k_) ?_
    obtain ⟨cl9, Ar9, q91, q92, q93, q94, q95⟩ := V_ta
    obtain ⟨T9, h9, X9, e9, W9, st9⟩ := stI X0 hx hZ e0 Ar9 (j := (2 : Int32)) (inb_of q92 ⟨by decide, by decide⟩) (g := (mkF m 168 #[.val (.int p1), .val (.int p2), .val (.int p3), .val (.int p4), .val (.int p5), .val (.int p6), .val (.double (FP.l2d q)), .second, .val (.int kk_), .val (.ref td), .val (.ref a1), .val (.int (1 : Int32)), .val (.ref ta), .val (.int rr), .val (.int cx), .val (.int pa), .val (.int (2 : Int32)), .val (.int y2), .unset, .unset, .unset, .unset, .unset] [(.int y2), (.int (2 : Int32)), (.ref ta)])) rfl rfl (hb hby at_168)
    replace V_ta := Arv.set Ar9 q91 q92 q93 q94 q95 rfl W9 2 rfl (Nat.le_of_ble_eq_true rfl)
    have V_ta : Arv Z h9 ta ka .int (4 : Int32) [(.int y0), (.int y1), (.int y2), (.int y3)] (.int (0 : Int32)) := V_ta
    replace Z0 := Nat.le_trans Z0 (Keep.of_wr W9).1
    replace E_a1 := E_a1.wr W9
    replace F_discounts := F_discounts.other W9 (Or.inl ne4.1)
    replace F_leaves := F_leaves.other W9 (Or.inl ne4.1)
    replace F_count := F_count.other W9 (Or.inl ne4.1)
    replace F_worth := F_worth.other W9 (Or.inl ne4.1)
    replace V_td := V_td.other W9 ne4.2.1
    replace V_tc := V_tc.other W9 ne4.2.2.1
    replace V_tw := V_tw.other W9 ne4.2.2.2
    have N9 := Fr.snoc X9 N0 g_ta
    refine Go.st (pc' := 169) (S' := []) st9 ?_
    exact sl169 p1 p2 p3 p4 p5 p6 kk_ q a1 td tc tw _ _ _ ta _ rr cx pa (2 : Int32) y2 y0 y1 y2 y3 (Stand.up X9 (by decide) (by decide)) hx hZ hw hby hml hown hnm hret hlk e9 N9 Z0 E_a1 F_discounts F_leaves F_count F_worth V_td V_tc V_tw ⟨ne5.1, ne5.2.1, ne5.2.2.1, ne5.2.2.2.1, ne5.2.2.2.2⟩ g_tc g_tw V_ta ⟨ne4.1, ne4.2.1, ne4.2.2.1, ne4.2.2.2⟩ g_ta hq (by first | exact hpm | exact hpm.s1 | exact hpm.s2 | exact hpm.s3 | exact hpm.s1.s2 | exact hpm.s2.s1 | exact hpm.s3.s1 | exact hpm.s1.s3 | exact hpm.s2.s3 | exact hpm.s3.s2) hr2
theorem own_dc0 (q : Int64) : cmpValue (FP.dcmp (FP.l2d (((0 : Int64) + (own_e q (0 : Int32)) * (0 : Int64)) + (own_e q ((0 : Int32) + (0 : Int32))) * ((0 : Int64) + (own_e q (0 : Int32)) * (0 : Int64)))) (FP.l2d 0)) .l = 0 := own_dc (by simp only [Int64.mul_zero, Int64.add_zero])
theorem pd_3 : parseMethodDescriptor "([D)V" = some ⟨[(.array .double)], none⟩ := by decide +kernel
theorem rm0 (l : Launch) (Z : State) (a0 : Array Value) (hw : ∀ d ∈ tables_1, d.before a0 Z = true) (ws : List Jvm.Cond) (p1 : Int32) (p2 : Int32) (p3 : Int32) (p4 : Int32) (p5 : Int32) (p6 : Int32) (h0 : Heap) (n0 : Nat) (Z0 : n0 ≤ h0.size)  :
    MetFree l x (head1 (Jvm.Cond.code x code maxLocals ret :: ws) room_1) (fun aa_ U_ => aa_ = #[(.int p1), (.int p2), (.int p3), (.int p4), (.int p5), (.int p6)] ∧ Z.Warmed39 U_.vm ∧ U_.heap = h0) (fun _ _ _ _ _ => True) (fun _ U_ o_ W_ => ∃ v_ L_, o_ = .returned v_ ∧ (Q0 Z  h0 n0) v_ W_.heap L_ ∧ FrameEnd U_ o_ W_ L_ room_1.cells room_1.slots) := by
  refine own_met (Q := (Q0 Z  h0 n0)) (L0 := #[.val (.int p1), .val (.int p2), .val (.int p3), .val (.int p4), .val (.int p5), .val (.int p6), .unset, .unset, .unset, .unset, .unset, .unset, .unset, .unset, .unset, .unset, .unset, .unset, .unset, .unset, .unset, .unset, .unset]) (plainFor_of_name pn_1) (fun m => by first | (simp [entryFrame, mkF, argsToLocals, Value.category, maxLocals]; done) | rfl) ?_
  intro p e s m below meth c T0 X0 hx hby hml hown hnm hret hlk hZ e0
  have N0 := Fr.nil n0
  refine Go.st (pc' := 1) (S' := [(.int p2)]) (fun t_ k_ => XS.iloadN X0.here hx rfl (hb hby at_0) rfl k_) ?_
  refine Go.st (pc' := 3) (S' := [(.int (7 : Int32)), (.int p2)]) (fun t_ k_ => XS.bipush X0.here hx rfl (hb hby at_1) k_) ?_
  refine Go.st (pc' := 4) (S' := [(.int (p2 &&& (7 : Int32)))]) (fun t_ k_ => XS.iand X0.here hx rfl (hb hby at_3) rfl k_) ?_
  refine Go.st (pc' := 5) (S' := [(.int (4 : Int32)), (.int (p2 &&& (7 : Int32)))]) (fun t_ k_ => XS.iconst X0.here hx rfl (hb hby at_4) k_) ?_
  refine Go.st (pc' := 6) (S' := [(.int ((p2 &&& (7 : Int32)) - (4 : Int32)))]) (fun t_ k_ => XS.isub X0.here hx rfl (hb hby at_5) rfl k_) ?_
  refine Go.st (pc' := 7) (S' := [(.double (FP.l2d (((p2 &&& (7 : Int32)) - (4 : Int32)).toInt64)))]) (fun t_ k_ => XS.i2dS X0.here hx rfl (hb hby at_6) rfl (i2d_w _) k_) ?_
  obtain ⟨q, hqe, hq⟩ : ∃ q, (((p2 &&& (7 : Int32)) - (4 : Int32)).toInt64) = q ∧ own_b 4 q := ⟨_, rfl, own_q4 p2⟩
  rw [hqe]
  refine Go.st (pc' := 9) (S' := []) (fun t_ k_ => XS.dstore X0.here hx rfl (hb hby at_7) rfl (l' := #[.val (.int p1), .val (.int p2), .val (.int p3), .val (.int p4), .val (.int p5), .val (.int p6), .val (.double (FP.l2d q)), .second, .unset, .unset, .unset, .unset, .unset, .unset, .unset, .unset, .unset, .unset, .unset, .unset, .unset, .unset, .unset]) rfl k_) ?_
  refine Go.st (pc' := 10) (S' := [(.int p2)]) (fun t_ k_ => XS.iloadN X0.here hx rfl (hb hby at_9) rfl k_) ?_
  refine Go.st (pc' := 11) (S' := [(.int (3 : Int32)), (.int p2)]) (fun t_ k_ => XS.iconst X0.here hx rfl (hb hby at_10) k_) ?_
  refine Go.st (pc' := 12) (S' := [(.int ((p2.toUInt32 >>> ((3 : Int32) &&& 31).toUInt32).toInt32))]) (fun t_ k_ => XS.iushr X0.here hx rfl (hb hby at_11) rfl k_) ?_
  refine Go.st (pc' := 13) (S' := [(.int (3 : Int32)), (.int ((p2.toUInt32 >>> ((3 : Int32) &&& 31).toUInt32).toInt32))]) (fun t_ k_ => XS.iconst X0.here hx rfl (hb hby at_12) k_) ?_
  refine Go.st (pc' := 14) (S' := [(.int (((p2.toUInt32 >>> ((3 : Int32) &&& 31).toUInt32).toInt32) &&& (3 : Int32)))]) (fun t_ k_ => XS.iand X0.here hx rfl (hb hby at_13) rfl k_) ?_
  refine Go.st (pc' := 15) (S' := [(.int (1 : Int32)), (.int (((p2.toUInt32 >>> ((3 : Int32) &&& 31).toUInt32).toInt32) &&& (3 : Int32)))]) (fun t_ k_ => XS.iconst X0.here hx rfl (hb hby at_14) k_) ?_
  refine Go.st (pc' := 16) (S' := [(.int ((((p2.toUInt32 >>> ((3 : Int32) &&& 31).toUInt32).toInt32) &&& (3 : Int32)) + (1 : Int32)))]) (fun t_ k_ => XS.iadd X0.here hx rfl (hb hby at_15) rfl k_) ?_
  refine Go.st (pc' := 18) (S' := []) (fun t_ k_ => XS.istore X0.here hx rfl (hb hby at_16) rfl (l' := #[.val (.int p1), .val (.int p2), .val (.int p3), .val (.int p4), .val (.int p5), .val (.int p6), .val (.double (FP.l2d q)), .second, .val (.int ((((p2.toUInt32 >>> ((3 : Int32) &&& 31).toUInt32).toInt32) &&& (3 : Int32)) + (1 : Int32))), .unset, .unset, .unset, .unset, .unset, .unset, .unset, .unset, .unset, .unset, .unset, .unset, .unset, .unset]) rfl k_) ?_
  refine Go.st (pc' := 19) (S' := [(.int (5 : Int32))]) (fun t_ k_ => XS.iconst X0.here hx rfl (hb hby at_18) k_) ?_
  obtain ⟨T1, h1, k1, X1, e1, E1, A1, st1⟩ := newP X0 hx hZ (wd hw 0 rfl) e0 (g := (mkF m 19 #[.val (.int p1), .val (.int p2), .val (.int p3), .val (.int p4), .val (.int p5), .val (.int p6), .val (.double (FP.l2d q)), .second, .val (.int ((((p2.toUInt32 >>> ((3 : Int32) &&& 31).toUInt32).toInt32) &&& (3 : Int32)) + (1 : Int32))), .unset, .unset, .unset, .unset, .unset, .unset, .unset, .unset, .unset, .unset, .unset, .unset, .unset, .unset] [(.int (5 : Int32))])) rfl (hb hby at_19) rfl (by decide) (cap := 5) (by decide) (by decide) (by decide) (by decide)
  obtain ⟨b1, g1⟩ : ∃ z, z = h0.size := ⟨_, rfl⟩
  rw [← g1] at A1 st1
  have g_b1 : n0 ≤ b1 := Nat.le_trans Z0 (Nat.le_of_eq g1.symm)
  replace Z0 := Nat.le_trans Z0 E1.1
  have V_b1 : Arv Z h1 b1 k1 .double (5 : Int32) [(.double (0 : UInt64)), (.double (0 : UInt64)), (.double (0 : UInt64)), (.double (0 : UInt64)), (.double (0 : UInt64))] (.double (0 : UInt64)) := (Arv.new A1 (by decide)).pad (pad_rep [] (.double (0 : UInt64)) 5)
  refine Go.st (pc' := 21) (S' := [(.ref b1)]) st1 ?_
  refine Go.st (pc' := 22) (S' := [(.ref b1), (.ref b1)]) (fun t_ k_ => XS.dup X1.here hx rfl (hb hby at_21) rfl rfl k_) ?_
  refine Go.st (pc' := 23) (S' := [(.int (0 : Int32)), (.ref b1), (.ref b1)]) (fun t_ k_ => XS.iconst X1.here hx rfl (hb hby at_22) k_) ?_
  refine Go.st (pc' := 24) (S' := [(.double (FP.l2d 1)), (.int (0 : Int32)), (.ref b1), (.ref b1)]) (fun t_ k_ => XS.dconst1 X1.here hx rfl (hb hby at_23) (by decide +kernel) k_) ?_
  obtain ⟨cl2, Ar2, q21, q22, q23, q24, q25⟩ := V_b1
  obtain ⟨T2, h2, X2, e2, W2, st2⟩ := stD X1 hx hZ e1 Ar2 (j := (0 : Int32)) (inb_of q22 ⟨by decide, by decide⟩) (g := (mkF m 24 #[.val (.int p1), .val (.int p2), .val (.int p3), .val (.int p4), .val (.int p5), .val (.int p6), .val (.double (FP.l2d q)), .second, .val (.int ((((p2.toUInt32 >>> ((3 : Int32) &&& 31).toUInt32).toInt32) &&& (3 : Int32)) + (1 : Int32))), .unset, .unset, .unset, .unset, .unset, .unset, .unset, .unset, .unset, .unset, .unset, .unset, .unset, .unset] [(.double (FP.l2d 1)), (.int (0 : Int32)), (.ref b1), (.ref b1)])) rfl rfl (hb hby at_24)
  replace V_b1 := Arv.set Ar2 q21 q22 q23 q24 q25 rfl W2 0 rfl (Nat.le_of_ble_eq_true rfl)
  have V_b1 : Arv Z h2 b1 k1 .double (5 : Int32) [(.double (FP.l2d 1)), (.double (0 : UInt64)), (.double (0 : UInt64)), (.double (0 : UInt64)), (.double (0 : UInt64))] (.double (0 : UInt64)) := V_b1
  replace Z0 := Nat.le_trans Z0 (Keep.of_wr W2).1
  have N2 := Fr.snoc X2 N0 g_b1
  refine Go.st (pc' := 25) (S' := [(.ref b1)]) st2 ?_
  refine Go.st (pc' := 26) (S' := [(.ref b1), (.ref b1)]) (fun t_ k_ => XS.dup X2.here hx rfl (hb hby at_25) rfl rfl k_) ?_
  refine Go.st (pc' := 27) (S' := [(.int (1 : Int32)), (.ref b1), (.ref b1)]) (fun t_ k_ => XS.iconst X2.here hx rfl (hb hby at_26) k_) ?_
  refine Go.st (pc' := 29) (S' := [(.double (FP.l2d q)), (.int (1 : Int32)), (.ref b1), (.ref b1)]) (fun t_ k_ => XS.dload X2.here hx rfl (hb hby at_27) rfl k_) ?_
  obtain ⟨cl3, Ar3, q31, q32, q33, q34, q35⟩ := V_b1
  obtain ⟨T3, h3, X3, e3, W3, st3⟩ := stD X2 hx hZ e2 Ar3 (j := (1 : Int32)) (inb_of q32 ⟨by decide, by decide⟩) (g := (mkF m 29 #[.val (.int p1), .val (.int p2), .val (.int p3), .val (.int p4), .val (.int p5), .val (.int p6), .val (.double (FP.l2d q)), .second, .val (.int ((((p2.toUInt32 >>> ((3 : Int32) &&& 31).toUInt32).toInt32) &&& (3 : Int32)) + (1 : Int32))), .unset, .unset, .unset, .unset, .unset, .unset, .unset, .unset, .unset, .unset, .unset, .unset, .unset, .unset] [(.double (FP.l2d q)), (.int (1 : Int32)), (.ref b1), (.ref b1)])) rfl rfl (hb hby at_29)
  replace V_b1 := Arv.set Ar3 q31 q32 q33 q34 q35 rfl W3 1 rfl (Nat.le_of_ble_eq_true rfl)
  have V_b1 : Arv Z h3 b1 k1 .double (5 : Int32) [(.double (FP.l2d 1)), (.double (FP.l2d q)), (.double (0 : UInt64)), (.double (0 : UInt64)), (.double (0 : UInt64))] (.double (0 : UInt64)) := V_b1
  replace Z0 := Nat.le_trans Z0 (Keep.of_wr W3).1
  have N3 := Fr.snoc X3 N2 g_b1
  refine Go.st (pc' := 30) (S' := [(.ref b1)]) st3 ?_
  refine Go.st (pc' := 31) (S' := [(.ref b1), (.ref b1)]) (fun t_ k_ => XS.dup X3.here hx rfl (hb hby at_30) rfl rfl k_) ?_
  refine Go.st (pc' := 32) (S' := [(.int (2 : Int32)), (.ref b1), (.ref b1)]) (fun t_ k_ => XS.iconst X3.here hx rfl (hb hby at_31) k_) ?_
  refine Go.st (pc' := 34) (S' := [(.double (FP.l2d q)), (.int (2 : Int32)), (.ref b1), (.ref b1)]) (fun t_ k_ => XS.dload X3.here hx rfl (hb hby at_32) rfl k_) ?_
  refine Go.st (pc' := 36) (S' := [(.double (FP.l2d q)), (.double (FP.l2d q)), (.int (2 : Int32)), (.ref b1), (.ref b1)]) (fun t_ k_ => XS.dload X3.here hx rfl (hb hby at_34) rfl k_) ?_
  have pw4 := own_pw (r := q) (q := q) (K := 4) hq hq (by decide) Iff.rfl
  refine Go.st (pc' := 37) (S' := [(.double (FP.l2d (q * q))), (.int (2 : Int32)), (.ref b1), (.ref b1)]) (fun t_ k_ => XS.dmulS X3.here hx rfl (hb hby at_36) rfl pw4.2.1 pw4.1 k_) ?_
  obtain ⟨cl5, Ar5, q51, q52, q53, q54, q55⟩ := V_b1
  obtain ⟨T5, h5, X5, e5, W5, st5⟩ := stD X3 hx hZ e3 Ar5 (j := (2 : Int32)) (inb_of q52 ⟨by decide, by decide⟩) (g := (mkF m 37 #[.val (.int p1), .val (.int p2), .val (.int p3), .val (.int p4), .val (.int p5), .val (.int p6), .val (.double (FP.l2d q)), .second, .val (.int ((((p2.toUInt32 >>> ((3 : Int32) &&& 31).toUInt32).toInt32) &&& (3 : Int32)) + (1 : Int32))), .unset, .unset, .unset, .unset, .unset, .unset, .unset, .unset, .unset, .unset, .unset, .unset, .unset, .unset] [(.double (FP.l2d (q * q))), (.int (2 : Int32)), (.ref b1), (.ref b1)])) rfl rfl (hb hby at_37)
  replace V_b1 := Arv.set Ar5 q51 q52 q53 q54 q55 rfl W5 2 rfl (Nat.le_of_ble_eq_true rfl)
  have V_b1 : Arv Z h5 b1 k1 .double (5 : Int32) [(.double (FP.l2d 1)), (.double (FP.l2d q)), (.double (FP.l2d (q * q))), (.double (0 : UInt64)), (.double (0 : UInt64))] (.double (0 : UInt64)) := V_b1
  replace Z0 := Nat.le_trans Z0 (Keep.of_wr W5).1
  have N5 := Fr.snoc X5 N3 g_b1
  refine Go.st (pc' := 38) (S' := [(.ref b1)]) st5 ?_
  refine Go.st (pc' := 39) (S' := [(.ref b1), (.ref b1)]) (fun t_ k_ => XS.dup X5.here hx rfl (hb hby at_38) rfl rfl k_) ?_
  refine Go.st (pc' := 40) (S' := [(.int (3 : Int32)), (.ref b1), (.ref b1)]) (fun t_ k_ => XS.iconst X5.here hx rfl (hb hby at_39) k_) ?_
  refine Go.st (pc' := 42) (S' := [(.double (FP.l2d q)), (.int (3 : Int32)), (.ref b1), (.ref b1)]) (fun t_ k_ => XS.dload X5.here hx rfl (hb hby at_40) rfl k_) ?_
  refine Go.st (pc' := 44) (S' := [(.double (FP.l2d q)), (.double (FP.l2d q)), (.int (3 : Int32)), (.ref b1), (.ref b1)]) (fun t_ k_ => XS.dload X5.here hx rfl (hb hby at_42) rfl k_) ?_
  have pw6 := own_pw (r := q) (q := q) (K := 4) hq hq (by decide) Iff.rfl
  refine Go.st (pc' := 45) (S' := [(.double (FP.l2d (q * q))), (.int (3 : Int32)), (.ref b1), (.ref b1)]) (fun t_ k_ => XS.dmulS X5.here hx rfl (hb hby at_44) rfl pw6.2.1 pw6.1 k_) ?_
  refine Go.st (pc' := 47) (S' := [(.double (FP.l2d q)), (.double (FP.l2d (q * q))), (.int (3 : Int32)), (.ref b1), (.ref b1)]) (fun t_ k_ => XS.dload X5.here hx rfl (hb hby at_45) rfl k_) ?_
  have pw7 := own_pw (r := (q * q)) (q := q) (K := 16) pw6.2.2.1 hq (by decide) pw6.2.2.2
  refine Go.st (pc' := 48) (S' := [(.double (FP.l2d ((q * q) * q))), (.int (3 : Int32)), (.ref b1), (.ref b1)]) (fun t_ k_ => XS.dmulS X5.here hx rfl (hb hby at_47) rfl pw7.2.1 pw7.1 k_) ?_
  obtain ⟨cl8, Ar8, q81, q82, q83, q84, q85⟩ := V_b1
  obtain ⟨T8, h8, X8, e8, W8, st8⟩ := stD X5 hx hZ e5 Ar8 (j := (3 : Int32)) (inb_of q82 ⟨by decide, by decide⟩) (g := (mkF m 48 #[.val (.int p1), .val (.int p2), .val (.int p3), .val (.int p4), .val (.int p5), .val (.int p6), .val (.double (FP.l2d q)), .second, .val (.int ((((p2.toUInt32 >>> ((3 : Int32) &&& 31).toUInt32).toInt32) &&& (3 : Int32)) + (1 : Int32))), .unset, .unset, .unset, .unset, .unset, .unset, .unset, .unset, .unset, .unset, .unset, .unset, .unset, .unset] [(.double (FP.l2d ((q * q) * q))), (.int (3 : Int32)), (.ref b1), (.ref b1)])) rfl rfl (hb hby at_48)
  replace V_b1 := Arv.set Ar8 q81 q82 q83 q84 q85 rfl W8 3 rfl (Nat.le_of_ble_eq_true rfl)
  have V_b1 : Arv Z h8 b1 k1 .double (5 : Int32) [(.double (FP.l2d 1)), (.double (FP.l2d q)), (.double (FP.l2d (q * q))), (.double (FP.l2d ((q * q) * q))), (.double (0 : UInt64))] (.double (0 : UInt64)) := V_b1
  replace Z0 := Nat.le_trans Z0 (Keep.of_wr W8).1
  have N8 := Fr.snoc X8 N5 g_b1
  refine Go.st (pc' := 49) (S' := [(.ref b1)]) st8 ?_
  refine Go.st (pc' := 50) (S' := [(.ref b1), (.ref b1)]) (fun t_ k_ => XS.dup X8.here hx rfl (hb hby at_49) rfl rfl k_) ?_
  refine Go.st (pc' := 51) (S' := [(.int (4 : Int32)), (.ref b1), (.ref b1)]) (fun t_ k_ => XS.iconst X8.here hx rfl (hb hby at_50) k_) ?_
  refine Go.st (pc' := 53) (S' := [(.double (FP.l2d q)), (.int (4 : Int32)), (.ref b1), (.ref b1)]) (fun t_ k_ => XS.dload X8.here hx rfl (hb hby at_51) rfl k_) ?_
  refine Go.st (pc' := 55) (S' := [(.double (FP.l2d q)), (.double (FP.l2d q)), (.int (4 : Int32)), (.ref b1), (.ref b1)]) (fun t_ k_ => XS.dload X8.here hx rfl (hb hby at_53) rfl k_) ?_
  have pw9 := own_pw (r := q) (q := q) (K := 4) hq hq (by decide) Iff.rfl
  refine Go.st (pc' := 56) (S' := [(.double (FP.l2d (q * q))), (.int (4 : Int32)), (.ref b1), (.ref b1)]) (fun t_ k_ => XS.dmulS X8.here hx rfl (hb hby at_55) rfl pw9.2.1 pw9.1 k_) ?_
  refine Go.st (pc' := 58) (S' := [(.double (FP.l2d q)), (.double (FP.l2d (q * q))), (.int (4 : Int32)), (.ref b1), (.ref b1)]) (fun t_ k_ => XS.dload X8.here hx rfl (hb hby at_56) rfl k_) ?_
  have pw10 := own_pw (r := (q * q)) (q := q) (K := 16) pw9.2.2.1 hq (by decide) pw9.2.2.2
  refine Go.st (pc' := 59) (S' := [(.double (FP.l2d ((q * q) * q))), (.int (4 : Int32)), (.ref b1), (.ref b1)]) (fun t_ k_ => XS.dmulS X8.here hx rfl (hb hby at_58) rfl pw10.2.1 pw10.1 k_) ?_
  refine Go.st (pc' := 61) (S' := [(.double (FP.l2d q)), (.double (FP.l2d ((q * q) * q))), (.int (4 : Int32)), (.ref b1), (.ref b1)]) (fun t_ k_ => XS.dload X8.here hx rfl (hb hby at_59) rfl k_) ?_
  have pw11 := own_pw (r := ((q * q) * q)) (q := q) (K := 64) pw10.2.2.1 hq (by decide) pw10.2.2.2
  refine Go.st (pc' := 62) (S' := [(.double (FP.l2d (((q * q) * q) * q))), (.int (4 : Int32)), (.ref b1), (.ref b1)]) (fun t_ k_ => XS.dmulS X8.here hx rfl (hb hby at_61) rfl pw11.2.1 pw11.1 k_) ?_
  obtain ⟨cl12, Ar12, q121, q122, q123, q124, q125⟩ := V_b1
  obtain ⟨T12, h12, X12, e12, W12, st12⟩ := stD X8 hx hZ e8 Ar12 (j := (4 : Int32)) (inb_of q122 ⟨by decide, by decide⟩) (g := (mkF m 62 #[.val (.int p1), .val (.int p2), .val (.int p3), .val (.int p4), .val (.int p5), .val (.int p6), .val (.double (FP.l2d q)), .second, .val (.int ((((p2.toUInt32 >>> ((3 : Int32) &&& 31).toUInt32).toInt32) &&& (3 : Int32)) + (1 : Int32))), .unset, .unset, .unset, .unset, .unset, .unset, .unset, .unset, .unset, .unset, .unset, .unset, .unset, .unset] [(.double (FP.l2d (((q * q) * q) * q))), (.int (4 : Int32)), (.ref b1), (.ref b1)])) rfl rfl (hb hby at_62)
  replace V_b1 := Arv.set Ar12 q121 q122 q123 q124 q125 rfl W12 4 rfl (Nat.le_of_ble_eq_true rfl)
  have V_b1 : Arv Z h12 b1 k1 .double (5 : Int32) [(.double (FP.l2d 1)), (.double (FP.l2d q)), (.double (FP.l2d (q * q))), (.double (FP.l2d ((q * q) * q))), (.double (FP.l2d (((q * q) * q) * q)))] (.double (0 : UInt64)) := V_b1
  replace Z0 := Nat.le_trans Z0 (Keep.of_wr W12).1
  have N12 := Fr.snoc X12 N8 g_b1
  refine Go.st (pc' := 63) (S' := [(.ref b1)]) st12 ?_
  refine Go.st (pc' := 65) (S' := []) (fun t_ k_ => XS.astore X12.here hx rfl (hb hby at_63) rfl rfl (l' := #[.val (.int p1), .val (.int p2), .val (.int p3), .val (.int p4), .val (.int p5), .val (.int p6), .val (.double (FP.l2d q)), .second, .val (.int ((((p2.toUInt32 >>> ((3 : Int32) &&& 31).toUInt32).toInt32) &&& (3 : Int32)) + (1 : Int32))), .val (.ref b1), .unset, .unset, .unset, .unset, .unset, .unset, .unset, .unset, .unset, .unset, .unset, .unset, .unset]) rfl k_) ?_
  obtain ⟨T13, h13, X13, e13, E13, A13, D13, U13, st13⟩ := newO X12 hx hZ hown (wd hw 1 rfl) (wd hw 2 rfl) (wd hw 3 rfl) e12 (g := (mkF m 65 #[.val (.int p1), .val (.int p2), .val (.int p3), .val (.int p4), .val (.int p5), .val (.int p6), .val (.double (FP.l2d q)), .second, .val (.int ((((p2.toUInt32 >>> ((3 : Int32) &&& 31).toUInt32).toInt32) &&& (3 : Int32)) + (1 : Int32))), .val (.ref b1), .unset, .unset, .unset, .unset, .unset, .unset, .unset, .unset, .unset, .unset, .unset, .unset, .unset] [])) rfl (hb hby at_65) (by decide) (by decide)
  obtain ⟨b13, g13⟩ : ∃ z, z = h12.size := ⟨_, rfl⟩
  rw [← g13] at A13 D13 U13 st13
  have ne_b1_b13 : b1 ≠ b13 := Nat.ne_of_lt (Nat.lt_of_lt_of_le V_b1.lt (Nat.le_of_eq g13.symm))
  have g_b13 : n0 ≤ b13 := Nat.le_trans Z0 (Nat.le_of_eq g13.symm)
  replace Z0 := Nat.le_trans Z0 E13.1
  replace V_b1 := V_b1.ext E13
  have E_b13 := A13
  have F_b13_discounts : Fld Z h13 b13 "com/example/placewright/placewright/GrowingRanks" "discounts" "[D" .null := D13 (Or.inr (wd hw 11 rfl)) (ty := (.array .double)) (by decide)
  have F_b13_leaves : Fld Z h13 b13 "com/example/placewright/placewright/GrowingRanks" "leaves" "I" (.int (0 : Int32)) := D13 (Or.inr (wd hw 13 rfl)) (ty := .int) (by decide)
  have F_b13_count : Fld Z h13 b13 "com/example/placewright/placewright/GrowingRanks" "count" "[I" .null := D13 (Or.inr (wd hw 16 rfl)) (ty := (.array .int)) (by decide)
  have F_b13_worth : Fld Z h13 b13 "com/example/placewright/placewright/GrowingRanks" "worth" "[D" .null := D13 (Or.inr (wd hw 18 rfl)) (ty := (.array .double)) (by decide)
  refine Go.st (pc' := 68) (S' := [(.ref b13)]) st13 ?_
  refine Go.st (pc' := 69) (S' := [(.ref b13), (.ref b13)]) (fun t_ k_ => XS.dup X13.here hx rfl (hb hby at_68) rfl rfl k_) ?_
  refine Go.st (pc' := 71) (S' := [(.ref b1), (.ref b13), (.ref b13)]) (fun t_ k_ => XS.aload X13.here hx rfl (hb hby at_69) rfl rfl k_) ?_
  obtain ⟨_, _, ⟨T14, L14, k14, n14⟩, -, X14, ⟨Lc14, hQ14, l14, y14, z14⟩, st14⟩ := X13.specialBack hx (y := (⟨"com/example/placewright/placewright/GrowingRanks", "<init>", "([D)V"⟩ : MethodName)) rfl hown (mvT hZ (wd hw 4 rfl)) (mvT hZ (wd hw 5 rfl)) (mvT hZ (wd hw 6 rfl)) (by decide) (backOf (W := 1) (rmini l Z a0 hw [] b13 b1 _ q h13 n0 Z0 E_b13 g_b13 (Ne.symm ne_b1_b13) F_b13_discounts F_b13_leaves F_b13_count F_b13_worth V_b1) hZ (wd hw 6 rfl) (wd hw 3 rfl) (by decide) (by decide)) (g := (mkF m 71 #[.val (.int p1), .val (.int p2), .val (.int p3), .val (.int p4), .val (.int p5), .val (.int p6), .val (.double (FP.l2d q)), .second, .val (.int ((((p2.toUInt32 >>> ((3 : Int32) &&& 31).toUInt32).toInt32) &&& (3 : Int32)) + (1 : Int32))), .val (.ref b1), .unset, .unset, .unset, .unset, .unset, .unset, .unset, .unset, .unset, .unset, .unset, .unset, .unset] [(.ref b1), (.ref b13), (.ref b13)])) rfl (by rw [hml]; rfl) (Steps.refl _) (a := b13) (argsL := [(.ref b1)]) (rest := [(.ref b13)]) (lenOf pd_3 rfl) rfl (by show 2 * 0 + _ ≤ _; exact Nat.le_of_eq rfl) (hb hby at_71) (fun _ _ => ⟨rfl, e13, (by decide : 2 + 2 ≤ _), (by decide : 9 + 16 ≤ _)⟩)
  dsimp only [Pt.U, Pt.locs, Pt.cells, Pt.slots] at X14 l14 y14 z14 st14 hQ14
  subst l14 y14 z14
  obtain ⟨tc14, kc14, tw14, kw14, rfl, N14q, K14, g_tc14, g_tw14, lc14, lw14, ne_tc14_tw14, F14_discounts, F14_leaves, F14_count, F14_worth, Vc14, Vw14⟩ := hQ14
  have N14 := Fr.app N12 N14q
  have ne_b1_tc14 : b1 ≠ tc14 := Nat.ne_of_lt (Nat.lt_of_lt_of_le V_b1.lt lc14)
  have ne_b13_tc14 : b13 ≠ tc14 := Nat.ne_of_lt (Nat.lt_of_lt_of_le E_b13.lt lc14)
  have ne_b1_tw14 : b1 ≠ tw14 := Nat.ne_of_lt (Nat.lt_of_lt_of_le V_b1.lt lw14)
  have ne_b13_tw14 : b13 ≠ tw14 := Nat.ne_of_lt (Nat.lt_of_lt_of_le E_b13.lt lw14)
  obtain ⟨h14, e14⟩ : ∃ z, T14.heap = z := ⟨_, rfl⟩
  rw [e14] at K14 F14_discounts F14_leaves F14_count F14_worth Vc14 Vw14
  replace Z0 := Nat.le_trans Z0 K14.1
  replace V_b1 := V_b1.keep K14 (ninS ne_b1_b13 nin0)
  replace E_b13 := E_b13.keep K14
  rw [← own_zc] at Vc14
  rw [← own_zw q] at Vw14
  refine Go.tr (pc' := 74) (S' := [(.ref b13)]) st14 ?_
  refine Go.st (pc' := 76) (S' := []) (fun t_ k_ => XS.astore X14.here hx rfl (hb hby at_74) rfl rfl (l' := #[.val (.int p1), .val (.int p2), .val (.int p3), .val (.int p4), .val (.int p5), .val (.int p6), .val (.double (FP.l2d q)), .second, .val (.int ((((p2.toUInt32 >>> ((3 : Int32) &&& 31).toUInt32).toInt32) &&& (3 : Int32)) + (1 : Int32))), .val (.ref b1), .val (.ref b13), .unset, .unset, .unset, .unset, .unset, .unset, .unset, .unset, .unset, .unset, .unset, .unset]) rfl k_) ?_
  refine Go.st (pc' := 78) (S' := [(.ref b13)]) (fun t_ k_ => XS.aload X14.here hx rfl (hb hby at_76) rfl rfl k_) ?_
  obtain ⟨cq15, kq15, q15a, q15b, q15c⟩ := isOf hZ e14 E_b13
  obtain ⟨_, _, ⟨T15, L15, k15, n15⟩, -, X15, ⟨Lc15, hQ15, l15, y15, z15⟩, st15⟩ := X14.virtualBack hx (y := (⟨"com/example/placewright/placewright/GrowingRanks", "value", "()D"⟩ : MethodName)) (z := (⟨"com/example/placewright/placewright/GrowingRanks", "value", "()D"⟩ : MethodName)) hown (mvT hZ (wd hw 19 rfl)) (mvT hZ (wd hw 20 rfl)) (notFace_of_selects (args := #[]) (mvT hZ (wd hw 22 rfl))) (mvT hZ (wd hw 22 rfl)) (mvT hZ (wd hw 21 rfl)) (by decide) (backOf (W := 0) (rmval l Z a0 hw [] b13 tw14 _ (0 : UInt64) (FP.l2d (((0 : Int64) + (own_e q (0 : Int32)) * (0 : Int64)) + (own_e q ((0 : Int32) + (0 : Int32))) * ((0 : Int64) + (own_e q (0 : Int32)) * (0 : Int64)))) (FP.l2d ((0 : Int64) + (own_e q (0 : Int32)) * (0 : Int64))) (FP.l2d ((0 : Int64) + (own_e q (0 : Int32)) * (0 : Int64))) (FP.l2d (0 : Int64)) (FP.l2d (0 : Int64)) (FP.l2d (0 : Int64)) (FP.l2d (0 : Int64)) h14 n0 Z0 F14_worth Vw14) hZ (wd hw 23 rfl) (wd hw 3 rfl) (by decide) (by decide)) q15a q15c (g := (mkF m 78 #[.val (.int p1), .val (.int p2), .val (.int p3), .val (.int p4), .val (.int p5), .val (.int p6), .val (.double (FP.l2d q)), .second, .val (.int ((((p2.toUInt32 >>> ((3 : Int32) &&& 31).toUInt32).toInt32) &&& (3 : Int32)) + (1 : Int32))), .val (.ref b1), .val (.ref b13), .unset, .unset, .unset, .unset, .unset, .unset, .unset, .unset, .unset, .unset, .unset, .unset] [(.ref b13)])) rfl (by rw [hml]; rfl) (Steps.refl _) (argsL := []) (rest := []) (lenOf pd_1 rfl) rfl (by show 2 * 0 + _ ≤ _; exact Nat.le_of_eq rfl) (hb hby at_78) (fun _ _ => ⟨rfl, e14, (by decide : 4 + 0 ≤ _), (by decide : 25 + 0 ≤ _)⟩)
  dsimp only [Pt.U, Pt.locs, Pt.cells, Pt.slots] at X15 l15 y15 z15 st15 hQ15
  subst l15 y15 z15
  obtain ⟨rfl, N15q, e15⟩ := hQ15
  have N15 := Fr.app N14 N15q
  refine Go.tr (pc' := 81) (S' := [(.double (FP.l2d (((0 : Int64) + (own_e q (0 : Int32)) * (0 : Int64)) + (own_e q ((0 : Int32) + (0 : Int32))) * ((0 : Int64) + (own_e q (0 : Int32)) * (0 : Int64)))))]) st15 ?_
  refine Go.st (pc' := 82) (S' := [(.double (FP.l2d 0)), (.double (FP.l2d (((0 : Int64) + (own_e q (0 : Int32)) * (0 : Int64)) + (own_e q ((0 : Int32) + (0 : Int32))) * ((0 : Int64) + (own_e q (0 : Int32)) * (0 : Int64)))))]) (fun t_ k_ => XS.dconst0 X15.here hx rfl (hb hby at_81) (by decide +kernel) k_) ?_
  refine Go.st (pc' := 83) (S' := [(.int (cmpValue (FP.dcmp (FP.l2d (((0 : Int64) + (own_e q (0 : Int32)) * (0 : Int64)) + (own_e q ((0 : Int32) + (0 : Int32))) * ((0 : Int64) + (own_e q (0 : Int32)) * (0 : Int64)))) (FP.l2d 0)) .l))]) (fun t_ k_ => XS.dcmpS X15.here hx rfl (hb hby at_82) rfl rfl k_) ?_
  refine Go.st (pc' := 86) (S' := []) (fun t_ k_ => XS.ifNo X15.here hx rfl (hb hby at_83) rfl ((if0 _ _).trans (teq (own_dc0 q : ((cmpValue (FP.dcmp (FP.l2d (((0 : Int64) + (own_e q (0 : Int32)) * (0 : Int64)) + (own_e q ((0 : Int32) + (0 : Int32))) * ((0 : Int64) + (own_e q (0 : Int32)) * (0 : Int64)))) (FP.l2d 0)) .l) = (0 : Int32)))).2) k_) ?_
  refine Go.st (pc' := 87) (S' := [(.int (1 : Int32))]) (fun t_ k_ => XS.iconst X15.here hx rfl (hb hby at_86) k_) ?_
  refine Go.st (pc' := 91) (S' := [(.int (1 : Int32))]) (fun t_ k_ => XS.goto X15.here hx rfl (pc0 := 87) (pc' := 91) rfl (hb hby at_87) (by decide) (by decide) k_) ?_
  refine Go.st (pc' := 93) (S' := []) (fun t_ k_ => XS.istore X15.here hx rfl (hb hby at_91) rfl (l' := #[.val (.int p1), .val (.int p2), .val (.int p3), .val (.int p4), .val (.int p5), .val (.int p6), .val (.double (FP.l2d q)), .second, .val (.int ((((p2.toUInt32 >>> ((3 : Int32) &&& 31).toUInt32).toInt32) &&& (3 : Int32)) + (1 : Int32))), .val (.ref b1), .val (.ref b13), .val (.int (1 : Int32)), .unset, .unset, .unset, .unset, .unset, .unset, .unset, .unset, .unset, .unset, .unset]) rfl k_) ?_
  refine Go.st (pc' := 94) (S' := [(.int (4 : Int32))]) (fun t_ k_ => XS.iconst X15.here hx rfl (hb hby at_93) k_) ?_
  obtain ⟨T16, h16, k16, X16, e16, E16, A16, st16⟩ := newP X15 hx hZ (wd hw 14 rfl) e15 (g := (mkF m 94 #[.val (.int p1), .val (.int p2), .val (.int p3), .val (.int p4), .val (.int p5), .val (.int p6), .val (.double (FP.l2d q)), .second, .val (.int ((((p2.toUInt32 >>> ((3 : Int32) &&& 31).toUInt32).toInt32) &&& (3 : Int32)) + (1 : Int32))), .val (.ref b1), .val (.ref b13), .val (.int (1 : Int32)), .unset, .unset, .unset, .unset, .unset, .unset, .unset, .unset, .unset, .unset, .unset] [(.int (4 : Int32))])) rfl (hb hby at_94) rfl (by decide) (cap := 4) (by decide) (by decide) (by decide) (by decide)
  obtain ⟨b16, g16⟩ : ∃ z, z = h14.size := ⟨_, rfl⟩
  rw [← g16] at A16 st16
  have ne_b1_b16 : b1 ≠ b16 := Nat.ne_of_lt (Nat.lt_of_lt_of_le V_b1.lt (Nat.le_of_eq g16.symm))
  have ne_b13_b16 : b13 ≠ b16 := Nat.ne_of_lt (Nat.lt_of_lt_of_le E_b13.lt (Nat.le_of_eq g16.symm))
  have ne_tc14_b16 : tc14 ≠ b16 := Nat.ne_of_lt (Nat.lt_of_lt_of_le Vc14.lt (Nat.le_of_eq g16.symm))
  have ne_tw14_b16 : tw14 ≠ b16 := Nat.ne_of_lt (Nat.lt_of_lt_of_le Vw14.lt (Nat.le_of_eq g16.symm))
  have g_b16 : n0 ≤ b16 := Nat.le_trans Z0 (Nat.le_of_eq g16.symm)
  replace Z0 := Nat.le_trans Z0 E16.1
  replace V_b1 := V_b1.ext E16
  replace E_b13 := E_b13.ext E16
  replace F14_discounts := F14_discounts.ext E16
  replace F14_leaves := F14_leaves.ext E16
  replace F14_count := F14_count.ext E16
  replace F14_worth := F14_worth.ext E16
  replace Vc14 := Vc14.ext E16
  replace Vw14 := Vw14.ext E16
  have V_b16 : Arv Z h16 b16 k16 .int (4 : Int32) [(.int (0 : Int32)), (.int (0 : Int32)), (.int (0 : Int32)), (.int (0 : Int32))] (.int (0 : Int32)) := (Arv.new A16 (by decide)).pad (pad_rep [] (.int (0 : Int32)) 4)
  refine Go.st (pc' := 96) (S' := [(.ref b16)]) st16 ?_
  refine Go.st (pc' := 97) (S' := [(.ref b16), (.ref b16)]) (fun t_ k_ => XS.dup X16.here hx rfl (hb hby at_96) rfl rfl k_) ?_
  refine Go.st (pc' := 98) (S' := [(.int (0 : Int32)), (.ref b16), (.ref b16)]) (fun t_ k_ => XS.iconst X16.here hx rfl (hb hby at_97) k_) ?_
  refine Go.st (pc' := 99) (S' := [(.int (0 : Int32)), (.int (0 : Int32)), (.ref b16), (.ref b16)]) (fun t_ k_ => XS.iconst X16.here hx rfl (hb hby at_98) k_) ?_
  obtain ⟨cl17, Ar17, q171, q172, q173, q174, q175⟩ := V_b16
  obtain ⟨T17, h17, X17, e17, W17, st17⟩ := stI X16 hx hZ e16 Ar17 (j := (0 : Int32)) (inb_of q172 ⟨by decide, by decide⟩) (g := (mkF m 99 #[.val (.int p1), .val (.int p2), .val (.int p3), .val (.int p4), .val (.int p5), .val (.int p6), .val (.double (FP.l2d q)), .second, .val (.int ((((p2.toUInt32 >>> ((3 : Int32) &&& 31).toUInt32).toInt32) &&& (3 : Int32)) + (1 : Int32))), .val (.ref b1), .val (.ref b13), .val (.int (1 : Int32)), .unset, .unset, .unset, .unset, .unset, .unset, .unset, .unset, .unset, .unset, .unset] [(.int (0 : Int32)), (.int (0 : Int32)), (.ref b16), (.ref b16)])) rfl rfl (hb hby at_99)
  replace V_b16 := Arv.set Ar17 q171 q172 q173 q174 q175 rfl W17 0 rfl (Nat.le_of_ble_eq_true rfl)
  have V_b16 : Arv Z h17 b16 k16 .int (4 : Int32) [(.int (0 : Int32)), (.int (0 : Int32)), (.int (0 : Int32)), (.int (0 : Int32))] (.int (0 : Int32)) := V_b16
  replace Z0 := Nat.le_trans Z0 (Keep.of_wr W17).1
  replace V_b1 := V_b1.other W17 ne_b1_b16
  replace E_b13 := E_b13.wr W17
  replace F14_discounts := F14_discounts.other W17 (Or.inl ne_b13_b16)
  replace F14_leaves := F14_leaves.other W17 (Or.inl ne_b13_b16)
  replace F14_count := F14_count.other W17 (Or.inl ne_b13_b16)
  replace F14_worth := F14_worth.other W17 (Or.inl ne_b13_b16)
  replace Vc14 := Vc14.other W17 ne_tc14_b16
  replace Vw14 := Vw14.other W17 ne_tw14_b16
  have N17 := Fr.snoc X17 N15 g_b16
  refine Go.st (pc' := 100) (S' := [(.ref b16)]) st17 ?_
  refine Go.st (pc' := 101) (S' := [(.ref b16), (.ref b16)]) (fun t_ k_ => XS.dup X17.here hx rfl (hb hby at_100) rfl rfl k_) ?_
  refine Go.st (pc' := 102) (S' := [(.int (1 : Int32)), (.ref b16), (.ref b16)]) (fun t_ k_ => XS.iconst X17.here hx rfl (hb hby at_101) k_) ?_
  refine Go.st (pc' := 103) (S' := [(.int (1 : Int32)), (.int (1 : Int32)), (.ref b16), (.ref b16)]) (fun t_ k_ => XS.iconst X17.here hx rfl (hb hby at_102) k_) ?_
  obtain ⟨cl18, Ar18, q181, q182, q183, q184, q185⟩ := V_b16
  obtain ⟨T18, h18, X18, e18, W18, st18⟩ := stI X17 hx hZ e17 Ar18 (j := (1 : Int32)) (inb_of q182 ⟨by decide, by decide⟩) (g := (mkF m 103 #[.val (.int p1), .val (.int p2), .val (.int p3), .val (.int p4), .val (.int p5), .val (.int p6), .val (.double (FP.l2d q)), .second, .val (.int ((((p2.toUInt32 >>> ((3 : Int32) &&& 31).toUInt32).toInt32) &&& (3 : Int32)) + (1 : Int32))), .val (.ref b1), .val (.ref b13), .val (.int (1 : Int32)), .unset, .unset, .unset, .unset, .unset, .unset, .unset, .unset, .unset, .unset, .unset] [(.int (1 : Int32)), (.int (1 : Int32)), (.ref b16), (.ref b16)])) rfl rfl (hb hby at_103)
  replace V_b16 := Arv.set Ar18 q181 q182 q183 q184 q185 rfl W18 1 rfl (Nat.le_of_ble_eq_true rfl)
  have V_b16 : Arv Z h18 b16 k16 .int (4 : Int32) [(.int (0 : Int32)), (.int (1 : Int32)), (.int (0 : Int32)), (.int (0 : Int32))] (.int (0 : Int32)) := V_b16
  replace Z0 := Nat.le_trans Z0 (Keep.of_wr W18).1
  replace V_b1 := V_b1.other W18 ne_b1_b16
  replace E_b13 := E_b13.wr W18
  replace F14_discounts := F14_discounts.other W18 (Or.inl ne_b13_b16)
  replace F14_leaves := F14_leaves.other W18 (Or.inl ne_b13_b16)
  replace F14_count := F14_count.other W18 (Or.inl ne_b13_b16)
  replace F14_worth := F14_worth.other W18 (Or.inl ne_b13_b16)
  replace Vc14 := Vc14.other W18 ne_tc14_b16
  replace Vw14 := Vw14.other W18 ne_tw14_b16
  have N18 := Fr.snoc X18 N17 g_b16
  refine Go.st (pc' := 104) (S' := [(.ref b16)]) st18 ?_
  refine Go.st (pc' := 105) (S' := [(.ref b16), (.ref b16)]) (fun t_ k_ => XS.dup X18.here hx rfl (hb hby at_104) rfl rfl k_) ?_
  refine Go.st (pc' := 106) (S' := [(.int (2 : Int32)), (.ref b16), (.ref b16)]) (fun t_ k_ => XS.iconst X18.here hx rfl (hb hby at_105) k_) ?_
  refine Go.st (pc' := 107) (S' := [(.int (2 : Int32)), (.int (2 : Int32)), (.ref b16), (.ref b16)]) (fun t_ k_ => XS.iconst X18.here hx rfl (hb hby at_106) k_) ?_
  obtain ⟨cl19, Ar19, q191, q192, q193, q194, q195⟩ := V_b16
  obtain ⟨T19, h19, X19, e19, W19, st19⟩ := stI X18 hx hZ e18 Ar19 (j := (2 : Int32)) (inb_of q192 ⟨by decide, by decide⟩) (g := (mkF m 107 #[.val (.int p1), .val (.int p2), .val (.int p3), .val (.int p4), .val (.int p5), .val (.int p6), .val (.double (FP.l2d q)), .second, .val (.int ((((p2.toUInt32 >>> ((3 : Int32) &&& 31).toUInt32).toInt32) &&& (3 : Int32)) + (1 : Int32))), .val (.ref b1), .val (.ref b13), .val (.int (1 : Int32)), .unset, .unset, .unset, .unset, .unset, .unset, .unset, .unset, .unset, .unset, .unset] [(.int (2 : Int32)), (.int (2 : Int32)), (.ref b16), (.ref b16)])) rfl rfl (hb hby at_107)
  replace V_b16 := Arv.set Ar19 q191 q192 q193 q194 q195 rfl W19 2 rfl (Nat.le_of_ble_eq_true rfl)
  have V_b16 : Arv Z h19 b16 k16 .int (4 : Int32) [(.int (0 : Int32)), (.int (1 : Int32)), (.int (2 : Int32)), (.int (0 : Int32))] (.int (0 : Int32)) := V_b16
  replace Z0 := Nat.le_trans Z0 (Keep.of_wr W19).1
  replace V_b1 := V_b1.other W19 ne_b1_b16
  replace E_b13 := E_b13.wr W19
  replace F14_discounts := F14_discounts.other W19 (Or.inl ne_b13_b16)
  replace F14_leaves := F14_leaves.other W19 (Or.inl ne_b13_b16)
  replace F14_count := F14_count.other W19 (Or.inl ne_b13_b16)
  replace F14_worth := F14_worth.other W19 (Or.inl ne_b13_b16)
  replace Vc14 := Vc14.other W19 ne_tc14_b16
  replace Vw14 := Vw14.other W19 ne_tw14_b16
  have N19 := Fr.snoc X19 N18 g_b16
  refine Go.st (pc' := 108) (S' := [(.ref b16)]) st19 ?_
  refine Go.st (pc' := 109) (S' := [(.ref b16), (.ref b16)]) (fun t_ k_ => XS.dup X19.here hx rfl (hb hby at_108) rfl rfl k_) ?_
  refine Go.st (pc' := 110) (S' := [(.int (3 : Int32)), (.ref b16), (.ref b16)]) (fun t_ k_ => XS.iconst X19.here hx rfl (hb hby at_109) k_) ?_
  refine Go.st (pc' := 111) (S' := [(.int (3 : Int32)), (.int (3 : Int32)), (.ref b16), (.ref b16)]) (fun t_ k_ => XS.iconst X19.here hx rfl (hb hby at_110) k_) ?_
  obtain ⟨cl20, Ar20, q201, q202, q203, q204, q205⟩ := V_b16
  obtain ⟨T20, h20, X20, e20, W20, st20⟩ := stI X19 hx hZ e19 Ar20 (j := (3 : Int32)) (inb_of q202 ⟨by decide, by decide⟩) (g := (mkF m 111 #[.val (.int p1), .val (.int p2), .val (.int p3), .val (.int p4), .val (.int p5), .val (.int p6), .val (.double (FP.l2d q)), .second, .val (.int ((((p2.toUInt32 >>> ((3 : Int32) &&& 31).toUInt32).toInt32) &&& (3 : Int32)) + (1 : Int32))), .val (.ref b1), .val (.ref b13), .val (.int (1 : Int32)), .unset, .unset, .unset, .unset, .unset, .unset, .unset, .unset, .unset, .unset, .unset] [(.int (3 : Int32)), (.int (3 : Int32)), (.ref b16), (.ref b16)])) rfl rfl (hb hby at_111)
  replace V_b16 := Arv.set Ar20 q201 q202 q203 q204 q205 rfl W20 3 rfl (Nat.le_of_ble_eq_true rfl)
  have V_b16 : Arv Z h20 b16 k16 .int (4 : Int32) [(.int (0 : Int32)), (.int (1 : Int32)), (.int (2 : Int32)), (.int (3 : Int32))] (.int (0 : Int32)) := V_b16
  replace Z0 := Nat.le_trans Z0 (Keep.of_wr W20).1
  replace V_b1 := V_b1.other W20 ne_b1_b16
  replace E_b13 := E_b13.wr W20
  replace F14_discounts := F14_discounts.other W20 (Or.inl ne_b13_b16)
  replace F14_leaves := F14_leaves.other W20 (Or.inl ne_b13_b16)
  replace F14_count := F14_count.other W20 (Or.inl ne_b13_b16)
  replace F14_worth := F14_worth.other W20 (Or.inl ne_b13_b16)
  replace Vc14 := Vc14.other W20 ne_tc14_b16
  replace Vw14 := Vw14.other W20 ne_tw14_b16
  have N20 := Fr.snoc X20 N19 g_b16
  refine Go.st (pc' := 112) (S' := [(.ref b16)]) st20 ?_
  refine Go.st (pc' := 114) (S' := []) (fun t_ k_ => XS.astore X20.here hx rfl (hb hby at_112) rfl rfl (l' := #[.val (.int p1), .val (.int p2), .val (.int p3), .val (.int p4), .val (.int p5), .val (.int p6), .val (.double (FP.l2d q)), .second, .val (.int ((((p2.toUInt32 >>> ((3 : Int32) &&& 31).toUInt32).toInt32) &&& (3 : Int32)) + (1 : Int32))), .val (.ref b1), .val (.ref b13), .val (.int (1 : Int32)), .val (.ref b16), .unset, .unset, .unset, .unset, .unset, .unset, .unset, .unset, .unset, .unset]) rfl k_) ?_
  refine Go.st (pc' := 115) (S' := [(.int p1)]) (fun t_ k_ => XS.iloadN X20.here hx rfl (hb hby at_114) rfl k_) ?_
  refine Go.st (pc' := 117) (S' := [(.int (2147483647 : Int32)), (.int p1)]) (fun t_ k_ => X20.ldcInt hx hown (mvT hZ (wd hw 24 rfl)) (g := (mkF m 115 #[.val (.int p1), .val (.int p2), .val (.int p3), .val (.int p4), .val (.int p5), .val (.int p6), .val (.double (FP.l2d q)), .second, .val (.int ((((p2.toUInt32 >>> ((3 : Int32) &&& 31).toUInt32).toInt32) &&& (3 : Int32)) + (1 : Int32))), .val (.ref b1), .val (.ref b13), .val (.int (1 : Int32)), .val (.ref b16), .unset, .unset, .unset, .unset, .unset, .unset, .unset, .unset, .unset, .unset] [(.int p1)])) rfl (hb hby at_115) t_ k_) ?_
  refine Go.st (pc' := 118) (S' := [(.int (p1 &&& (2147483647 : Int32)))]) (fun t_ k_ => XS.iand X20.here hx rfl (hb hby at_117) rfl k_) ?_
  refine Go.st (pc' := 120) (S' := [(.int (24 : Int32)), (.int (p1 &&& (2147483647 : Int32)))]) (fun t_ k_ => XS.bipush X20.here hx rfl (hb hby at_118) k_) ?_
  refine Go.st (pc' := 121) (S' := [(.int ((p1 &&& (2147483647 : Int32)) % (24 : Int32)))]) (fun t_ k_ => iremM X20 hx rfl (hb hby at_120) rfl (by decide) k_) ?_
  obtain ⟨rr, hr, hr4, hr3, hr2⟩ := own_r24 p1
  rw [hr]
  refine Go.st (pc' := 123) (S' := []) (fun t_ k_ => XS.istore X20.here hx rfl (hb hby at_121) rfl (l' := #[.val (.int p1), .val (.int p2), .val (.int p3), .val (.int p4), .val (.int p5), .val (.int p6), .val (.double (FP.l2d q)), .second, .val (.int ((((p2.toUInt32 >>> ((3 : Int32) &&& 31).toUInt32).toInt32) &&& (3 : Int32)) + (1 : Int32))), .val (.ref b1), .val (.ref b13), .val (.int (1 : Int32)), .val (.ref b16), .val (.int rr), .unset, .unset, .unset, .unset, .unset, .unset, .unset, .unset, .unset]) rfl k_) ?_
  refine Go.st (pc' := 125) (S' := [(.int rr)]) (fun t_ k_ => XS.iload X20.here hx rfl (hb hby at_123) rfl k_) ?_
  refine Go.st (pc' := 126) (S' := [(.int (4 : Int32)), (.int rr)]) (fun t_ k_ => XS.iconst X20.here hx rfl (hb hby at_125) k_) ?_
  refine Go.st (pc' := 127) (S' := [(.int (rr % (4 : Int32)))]) (fun t_ k_ => iremM X20 hx rfl (hb hby at_126) rfl (by decide) k_) ?_
  rcases hr4 with h_ | h_ | h_ | h_
  · rw [h_]
    refine Go.st (pc' := 129) (S' := []) (fun t_ k_ => XS.istore X20.here hx rfl (hb hby at_127) rfl (l' := #[.val (.int p1), .val (.int p2), .val (.int p3), .val (.int p4), .val (.int p5), .val (.int p6), .val (.double (FP.l2d q)), .second, .val (.int ((((p2.toUInt32 >>> ((3 : Int32) &&& 31).toUInt32).toInt32) &&& (3 : Int32)) + (1 : Int32))), .val (.ref b1), .val (.ref b13), .val (.int (1 : Int32)), .val (.ref b16), .val (.int rr), .val (.int (0 : Int32)), .unset, .unset, .unset, .unset, .unset, .unset, .unset, .unset]) rfl k_) ?_
    refine Go.st (pc' := 131) (S' := [(.ref b16)]) (fun t_ k_ => XS.aload X20.here hx rfl (hb hby at_129) rfl rfl k_) ?_
    refine Go.st (pc' := 133) (S' := [(.int (0 : Int32)), (.ref b16)]) (fun t_ k_ => XS.iload X20.here hx rfl (hb hby at_131) rfl k_) ?_
    obtain ⟨cl21, Ar21, -, q21a, q21b, q21c, q21d⟩ := id V_b16
    refine Go.st (pc' := 134) (S' := [(.int (0 : Int32))]) (fun t_ k_ => X20.iaload hx (j := (0 : Int32)) (v := (.int (0 : Int32))) (by rw [e20]; exact Ar21.1) (State.isArrayOf_alike hZ.alike Ar21.2.1) Ar21.2.2 (inb_of q21a ⟨by decide, by decide⟩) (q21c.at (inb_of q21a ⟨by decide, by decide⟩) rfl) (g := (mkF m 133 #[.val (.int p1), .val (.int p2), .val (.int p3), .val (.int p4), .val (.int p5), .val (.int p6), .val (.double (FP.l2d q)), .second, .val (.int ((((p2.toUInt32 >>> ((3 : Int32) &&& 31).toUInt32).toInt32) &&& (3 : Int32)) + (1 : Int32))), .val (.ref b1), .val (.ref b13), .val (.int (1 : Int32)), .val (.ref b16), .val (.int rr), .val (.int (0 : Int32)), .unset, .unset, .unset, .unset, .unset, .unset, .unset, .unset] [(.int (0 : Int32)), (.ref b16)])) rfl rfl (hb hby at_133) t_ k_) ?_
    refine Go.st (pc' := 136) (S' := []) (fun t_ k_ => XS.istore X20.here hx rfl (hb hby at_134) rfl (l' := #[.val (.int p1), .val (.int p2), .val (.int p3), .val (.int p4), .val (.int p5), .val (.int p6), .val (.double (FP.l2d q)), .second, .val (.int ((((p2.toUInt32 >>> ((3 : Int32) &&& 31).toUInt32).toInt32) &&& (3 : Int32)) + (1 : Int32))), .val (.ref b1), .val (.ref b13), .val (.int (1 : Int32)), .val (.ref b16), .val (.int rr), .val (.int (0 : Int32)), .val (.int (0 : Int32)), .unset, .unset, .unset, .unset, .unset, .unset, .unset]) rfl k_) ?_
    refine Go.st (pc' := 138) (S' := [(.ref b16)]) (fun t_ k_ => XS.aload X20.here hx rfl (hb hby at_136) rfl rfl k_) ?_
    refine Go.st (pc' := 140) (S' := [(.int (0 : Int32)), (.ref b16)]) (fun t_ k_ => XS.iload X20.here hx rfl (hb hby at_138) rfl k_) ?_
    refine Go.st (pc' := 142) (S' := [(.ref b16), (.int (0 : Int32)), (.ref b16)]) (fun t_ k_ => XS.aload X20.here hx rfl (hb hby at_140) rfl rfl k_) ?_
    refine Go.st (pc' := 143) (S' := [(.int (3 : Int32)), (.ref b16), (.int (0 : Int32)), (.ref b16)]) (fun t_ k_ => XS.iconst X20.here hx rfl (hb hby at_142) k_) ?_
    obtain ⟨cl22, Ar22, -, q22a, q22b, q22c, q22d⟩ := id V_b16
    refine Go.st (pc' := 144) (S' := [(.int (3 : Int32)), (.int (0 : Int32)), (.ref b16)]) (fun t_ k_ => X20.iaload hx (j := (3 : Int32)) (v := (.int (3 : Int32))) (by rw [e20]; exact Ar22.1) (State.isArrayOf_alike hZ.alike Ar22.2.1) Ar22.2.2 (inb_of q22a ⟨by decide, by decide⟩) (q22c.at (inb_of q22a ⟨by decide, by decide⟩) rfl) (g := (mkF m 143 #[.val (.int p1), .val (.int p2), .val (.int p3), .val (.int p4), .val (.int p5), .val (.int p6), .val (.double (FP.l2d q)), .second, .val (.int ((((p2.toUInt32 >>> ((3 : Int32) &&& 31).toUInt32).toInt32) &&& (3 : Int32)) + (1 : Int32))), .val (.ref b1), .val (.ref b13), .val (.int (1 : Int32)), .val (.ref b16), .val (.int rr), .val (.int (0 : Int32)), .val (.int (0 : Int32)), .unset, .unset, .unset, .unset, .unset, .unset, .unset] [(.int (3 : Int32)), (.ref b16), (.int (0 : Int32)), (.ref b16)])) rfl rfl (hb hby at_143) t_ k_) ?_
    obtain ⟨cl23, Ar23, q231, q232, q233, q234, q235⟩ := V_b16
    obtain ⟨T23, h23, X23, e23, W23, st23⟩ := stI X20 hx hZ e20 Ar23 (j := (0 : Int32)) (inb_of q232 ⟨by decide, by decide⟩) (g := (mkF m 144 #[.val (.int p1), .val (.int p2), .val (.int p3), .val (.int p4), .val (.int p5), .val (.int p6), .val (.double (FP.l2d q)), .second, .val (.int ((((p2.toUInt32 >>> ((3 : Int32) &&& 31).toUInt32).toInt32) &&& (3 : Int32)) + (1 : Int32))), .val (.ref b1), .val (.ref b13), .val (.int (1 : Int32)), .val (.ref b16), .val (.int rr), .val (.int (0 : Int32)), .val (.int (0 : Int32)), .unset, .unset, .unset, .unset, .unset, .unset, .unset] [(.int (3 : Int32)), (.int (0 : Int32)), (.ref b16)])) rfl rfl (hb hby at_144)
    replace V_b16 := Arv.set Ar23 q231 q232 q233 q234 q235 rfl W23 0 rfl (Nat.le_of_ble_eq_true rfl)
    have V_b16 : Arv Z h23 b16 k16 .int (4 : Int32) [(.int (3 : Int32)), (.int (1 : Int32)), (.int (2 : Int32)), (.int (3 : Int32))] (.int (0 : Int32)) := V_b16
    replace Z0 := Nat.le_trans Z0 (Keep.of_wr W23).1
    replace V_b1 := V_b1.other W23 ne_b1_b16
    replace E_b13 := E_b13.wr W23
    replace F14_discounts := F14_discounts.other W23 (Or.inl ne_b13_b16)
    replace F14_leaves := F14_leaves.other W23 (Or.inl ne_b13_b16)
    replace F14_count := F14_count.other W23 (Or.inl ne_b13_b16)
    replace F14_worth := F14_worth.other W23 (Or.inl ne_b13_b16)
    replace Vc14 := Vc14.other W23 ne_tc14_b16
    replace Vw14 := Vw14.other W23 ne_tw14_b16
    have N23 := Fr.snoc X23 N20 g_b16
    refine Go.st (pc' := 145) (S' := []) st23 ?_
    exact sl145 p1 p2 p3 p4 p5 p6 ((((p2.toUInt32 >>> ((3 : Int32) &&& 31).toUInt32).toInt32) &&& (3 : Int32)) + (1 : Int32)) q b13 b1 tc14 tw14 _ _ _ b16 _ rr (0 : Int32) (0 : Int32) (3 : Int32) (1 : Int32) (2 : Int32) (3 : Int32) (Stand.up X23 (by decide) (by decide)) hx hZ hw hby hml hown hnm hret hlk e23 N23 Z0 E_b13 F14_discounts F14_leaves F14_count F14_worth V_b1 Vc14 Vw14 ⟨ne_b13_tc14, ne_b13_tw14, ne_tc14_tw14, ne_b1_tc14, ne_b1_tw14⟩ g_tc14 g_tw14 V_b16 ⟨ne_b13_b16, ne_b1_b16, ne_tc14_b16, ne_tw14_b16⟩ g_b16 hq (by unfold own_pm; decide) hr3 hr2
  · rw [h_]
    refine Go.st (pc' := 129) (S' := []) (fun t_ k_ => XS.istore X20.here hx rfl (hb hby at_127) rfl (l' := #[.val (.int p1), .val (.int p2), .val (.int p3), .val (.int p4), .val (.int p5), .val (.int p6), .val (.double (FP.l2d q)), .second, .val (.int ((((p2.toUInt32 >>> ((3 : Int32) &&& 31).toUInt32).toInt32) &&& (3 : Int32)) + (1 : Int32))), .val (.ref b1), .val (.ref b13), .val (.int (1 : Int32)), .val (.ref b16), .val (.int rr), .val (.int (1 : Int32)), .unset, .unset, .unset, .unset, .unset, .unset, .unset, .unset]) rfl k_) ?_
    refine Go.st (pc' := 131) (S' := [(.ref b16)]) (fun t_ k_ => XS.aload X20.here hx rfl (hb hby at_129) rfl rfl k_) ?_
    refine Go.st (pc' := 133) (S' := [(.int (1 : Int32)), (.ref b16)]) (fun t_ k_ => XS.iload X20.here hx rfl (hb hby at_131) rfl k_) ?_
    obtain ⟨cl24, Ar24, -, q24a, q24b, q24c, q24d⟩ := id V_b16
    refine Go.st (pc' := 134) (S' := [(.int (1 : Int32))]) (fun t_ k_ => X20.iaload hx (j := (1 : Int32)) (v := (.int (1 : Int32))) (by rw [e20]; exact Ar24.1) (State.isArrayOf_alike hZ.alike Ar24.2.1) Ar24.2.2 (inb_of q24a ⟨by decide, by decide⟩) (q24c.at (inb_of q24a ⟨by decide, by decide⟩) rfl) (g := (mkF m 133 #[.val (.int p1), .val (.int p2), .val (.int p3), .val (.int p4), .val (.int p5), .val (.int p6), .val (.double (FP.l2d q)), .second, .val (.int ((((p2.toUInt32 >>> ((3 : Int32) &&& 31).toUInt32).toInt32) &&& (3 : Int32)) + (1 : Int32))), .val (.ref b1), .val (.ref b13), .val (.int (1 : Int32)), .val (.ref b16), .val (.int rr), .val (.int (1 : Int32)), .unset, .unset, .unset, .unset, .unset, .unset, .unset, .unset] [(.int (1 : Int32)), (.ref b16)])) rfl rfl (hb hby at_133) t_ k_) ?_
    refine Go.st (pc' := 136) (S' := []) (fun t_ k_ => XS.istore X20.here hx rfl (hb hby at_134) rfl (l' := #[.val (.int p1), .val (.int p2), .val (.int p3), .val (.int p4), .val (.int p5), .val (.int p6), .val (.double (FP.l2d q)), .second, .val (.int ((((p2.toUInt32 >>> ((3 : Int32) &&& 31).toUInt32).toInt32) &&& (3 : Int32)) + (1 : Int32))), .val (.ref b1), .val (.ref b13), .val (.int (1 : Int32)), .val (.ref b16), .val (.int rr), .val (.int (1 : Int32)), .val (.int (1 : Int32)), .unset, .unset, .unset, .unset, .unset, .unset, .unset]) rfl k_) ?_
    refine Go.st (pc' := 138) (S' := [(.ref b16)]) (fun t_ k_ => XS.aload X20.here hx rfl (hb hby at_136) rfl rfl k_) ?_
    refine Go.st (pc' := 140) (S' := [(.int (1 : Int32)), (.ref b16)]) (fun t_ k_ => XS.iload X20.here hx rfl (hb hby at_138) rfl k_) ?_
    refine Go.st (pc' := 142) (S' := [(.ref b16), (.int (1 : Int32)), (.ref b16)]) (fun t_ k_ => XS.aload X20.here hx rfl (hb hby at_140) rfl rfl k_) ?_
    refine Go.st (pc' := 143) (S' := [(.int (3 : Int32)), (.ref b16), (.int (1 : Int32)), (.ref b16)]) (fun t_ k_ => XS.iconst X20.here hx rfl (hb hby at_142) k_) ?_
    obtain ⟨cl25, Ar25, -, q25a, q25b, q25c, q25d⟩ := id V_b16
    refine Go.st (pc' := 144) (S' := [(.int (3 : Int32)), (.int (1 : Int32)), (.ref b16)]) (fun t_ k_ => X20.iaload hx (j := (3 : Int32)) (v := (.int (3 : Int32))) (by rw [e20]; exact Ar25.1) (State.isArrayOf_alike hZ.alike Ar25.2.1) Ar25.2.2 (inb_of q25a ⟨by decide, by decide⟩) (q25c.at (inb_of q25a ⟨by decide, by decide⟩) rfl) (g := (mkF m 143 #[.val (.int p1), .val (.int p2), .val (.int p3), .val (.int p4), .val (.int p5), .val (.int p6), .val (.double (FP.l2d q)), .second, .val (.int ((((p2.toUInt32 >>> ((3 : Int32) &&& 31).toUInt32).toInt32) &&& (3 : Int32)) + (1 : Int32))), .val (.ref b1), .val (.ref b13), .val (.int (1 : Int32)), .val (.ref b16), .val (.int rr), .val (.int (1 : Int32)), .val (.int (1 : Int32)), .unset, .unset, .unset, .unset, .unset, .unset, .unset] [(.int (3 : Int32)), (.ref b16), (.int (1 : Int32)), (.ref b16)])) rfl rfl (hb hby at_143) t_ k_) ?_
    obtain ⟨cl26, Ar26, q261, q262, q263, q264, q265⟩ := V_b16
    obtain ⟨T26, h26, X26, e26, W26, st26⟩ := stI X20 hx hZ e20 Ar26 (j := (1 : Int32)) (inb_of q262 ⟨by decide, by decide⟩) (g := (mkF m 144 #[.val (.int p1), .val (.int p2), .val (.int p3), .val (.int p4), .val (.int p5), .val (.int p6), .val (.double (FP.l2d q)), .second, .val (.int ((((p2.toUInt32 >>> ((3 : Int32) &&& 31).toUInt32).toInt32) &&& (3 : Int32)) + (1 : Int32))), .val (.ref b1), .val (.ref b13), .val (.int (1 : Int32)), .val (.ref b16), .val (.int rr), .val (.int (1 : Int32)), .val (.int (1 : Int32)), .unset, .unset, .unset, .unset, .unset, .unset, .unset] [(.int (3 : Int32)), (.int (1 : Int32)), (.ref b16)])) rfl rfl (hb hby at_144)
    replace V_b16 := Arv.set Ar26 q261 q262 q263 q264 q265 rfl W26 1 rfl (Nat.le_of_ble_eq_true rfl)
    have V_b16 : Arv Z h26 b16 k16 .int (4 : Int32) [(.int (0 : Int32)), (.int (3 : Int32)), (.int (2 : Int32)), (.int (3 : Int32))] (.int (0 : Int32)) := V_b16
    replace Z0 := Nat.le_trans Z0 (Keep.of_wr W26).1
    replace V_b1 := V_b1.other W26 ne_b1_b16
    replace E_b13 := E_b13.wr W26
    replace F14_discounts := F14_discounts.other W26 (Or.inl ne_b13_b16)
    replace F14_leaves := F14_leaves.other W26 (Or.inl ne_b13_b16)
    replace F14_count := F14_count.other W26 (Or.inl ne_b13_b16)
    replace F14_worth := F14_worth.other W26 (Or.inl ne_b13_b16)
    replace Vc14 := Vc14.other W26 ne_tc14_b16
    replace Vw14 := Vw14.other W26 ne_tw14_b16
    have N26 := Fr.snoc X26 N20 g_b16
    refine Go.st (pc' := 145) (S' := []) st26 ?_
    exact sl145 p1 p2 p3 p4 p5 p6 ((((p2.toUInt32 >>> ((3 : Int32) &&& 31).toUInt32).toInt32) &&& (3 : Int32)) + (1 : Int32)) q b13 b1 tc14 tw14 _ _ _ b16 _ rr (1 : Int32) (1 : Int32) (0 : Int32) (3 : Int32) (2 : Int32) (3 : Int32) (Stand.up X26 (by decide) (by decide)) hx hZ hw hby hml hown hnm hret hlk e26 N26 Z0 E_b13 F14_discounts F14_leaves F14_count F14_worth V_b1 Vc14 Vw14 ⟨ne_b13_tc14, ne_b13_tw14, ne_tc14_tw14, ne_b1_tc14, ne_b1_tw14⟩ g_tc14 g_tw14 V_b16 ⟨ne_b13_b16, ne_b1_b16, ne_tc14_b16, ne_tw14_b16⟩ g_b16 hq (by unfold own_pm; decide) hr3 hr2
  · rw [h_]
    refine Go.st (pc' := 129) (S' := []) (fun t_ k_ => XS.istore X20.here hx rfl (hb hby at_127) rfl (l' := #[.val (.int p1), .val (.int p2), .val (.int p3), .val (.int p4), .val (.int p5), .val (.int p6), .val (.double (FP.l2d q)), .second, .val (.int ((((p2.toUInt32 >>> ((3 : Int32) &&& 31).toUInt32).toInt32) &&& (3 : Int32)) + (1 : Int32))), .val (.ref b1), .val (.ref b13), .val (.int (1 : Int32)), .val (.ref b16), .val (.int rr), .val (.int (2 : Int32)), .unset, .unset, .unset, .unset, .unset, .unset, .unset, .unset]) rfl k_) ?_
    refine Go.st (pc' := 131) (S' := [(.ref b16)]) (fun t_ k_ => XS.aload X20.here hx rfl (hb hby at_129) rfl rfl k_) ?_
    refine Go.st (pc' := 133) (S' := [(.int (2 : Int32)), (.ref b16)]) (fun t_ k_ => XS.iload X20.here hx rfl (hb hby at_131) rfl k_) ?_
    obtain ⟨cl27, Ar27, -, q27a, q27b, q27c, q27d⟩ := id V_b16
    refine Go.st (pc' := 134) (S' := [(.int (2 : Int32))]) (fun t_ k_ => X20.iaload hx (j := (2 : Int32)) (v := (.int (2 : Int32))) (by rw [e20]; exact Ar27.1) (State.isArrayOf_alike hZ.alike Ar27.2.1) Ar27.2.2 (inb_of q27a ⟨by decide, by decide⟩) (q27c.at (inb_of q27a ⟨by decide, by decide⟩) rfl) (g := (mkF m 133 #[.val (.int p1), .val (.int p2), .val (.int p3), .val (.int p4), .val (.int p5), .val (.int p6), .val (.double (FP.l2d q)), .second, .val (.int ((((p2.toUInt32 >>> ((3 : Int32) &&& 31).toUInt32).toInt32) &&& (3 : Int32)) + (1 : Int32))), .val (.ref b1), .val (.ref b13), .val (.int (1 : Int32)), .val (.ref b16), .val (.int rr), .val (.int (2 : Int32)), .unset, .unset, .unset, .unset, .unset, .unset, .unset, .unset] [(.int (2 : Int32)), (.ref b16)])) rfl rfl (hb hby at_133) t_ k_) ?_
    refine Go.st (pc' := 136) (S' := []) (fun t_ k_ => XS.istore X20.here hx rfl (hb hby at_134) rfl (l' := #[.val (.int p1), .val (.int p2), .val (.int p3), .val (.int p4), .val (.int p5), .val (.int p6), .val (.double (FP.l2d q)), .second, .val (.int ((((p2.toUInt32 >>> ((3 : Int32) &&& 31).toUInt32).toInt32) &&& (3 : Int32)) + (1 : Int32))), .val (.ref b1), .val (.ref b13), .val (.int (1 : Int32)), .val (.ref b16), .val (.int rr), .val (.int (2 : Int32)), .val (.int (2 : Int32)), .unset, .unset, .unset, .unset, .unset, .unset, .unset]) rfl k_) ?_
    refine Go.st (pc' := 138) (S' := [(.ref b16)]) (fun t_ k_ => XS.aload X20.here hx rfl (hb hby at_136) rfl rfl k_) ?_
    refine Go.st (pc' := 140) (S' := [(.int (2 : Int32)), (.ref b16)]) (fun t_ k_ => XS.iload X20.here hx rfl (hb hby at_138) rfl k_) ?_
    refine Go.st (pc' := 142) (S' := [(.ref b16), (.int (2 : Int32)), (.ref b16)]) (fun t_ k_ => XS.aload X20.here hx rfl (hb hby at_140) rfl rfl k_) ?_
    refine Go.st (pc' := 143) (S' := [(.int (3 : Int32)), (.ref b16), (.int (2 : Int32)), (.ref b16)]) (fun t_ k_ => XS.iconst X20.here hx rfl (hb hby at_142) k_) ?_
    obtain ⟨cl28, Ar28, -, q28a, q28b, q28c, q28d⟩ := id V_b16
    refine Go.st (pc' := 144) (S' := [(.int (3 : Int32)), (.int (2 : Int32)), (.ref b16)]) (fun t_ k_ => X20.iaload hx (j := (3 : Int32)) (v := (.int (3 : Int32))) (by rw [e20]; exact Ar28.1) (State.isArrayOf_alike hZ.alike Ar28.2.1) Ar28.2.2 (inb_of q28a ⟨by decide, by decide⟩) (q28c.at (inb_of q28a ⟨by decide, by decide⟩) rfl) (g := (mkF m 143 #[.val (.int p1), .val (.int p2), .val (.int p3), .val (.int p4), .val (.int p5), .val (.int p6), .val (.double (FP.l2d q)), .second, .val (.int ((((p2.toUInt32 >>> ((3 : Int32) &&& 31).toUInt32).toInt32) &&& (3 : Int32)) + (1 : Int32))), .val (.ref b1), .val (.ref b13), .val (.int (1 : Int32)), .val (.ref b16), .val (.int rr), .val (.int (2 : Int32)), .val (.int (2 : Int32)), .unset, .unset, .unset, .unset, .unset, .unset, .unset] [(.int (3 : Int32)), (.ref b16), (.int (2 : Int32)), (.ref b16)])) rfl rfl (hb hby at_143) t_ k_) ?_
    obtain ⟨cl29, Ar29, q291, q292, q293, q294, q295⟩ := V_b16
    obtain ⟨T29, h29, X29, e29, W29, st29⟩ := stI X20 hx hZ e20 Ar29 (j := (2 : Int32)) (inb_of q292 ⟨by decide, by decide⟩) (g := (mkF m 144 #[.val (.int p1), .val (.int p2), .val (.int p3), .val (.int p4), .val (.int p5), .val (.int p6), .val (.double (FP.l2d q)), .second, .val (.int ((((p2.toUInt32 >>> ((3 : Int32) &&& 31).toUInt32).toInt32) &&& (3 : Int32)) + (1 : Int32))), .val (.ref b1), .val (.ref b13), .val (.int (1 : Int32)), .val (.ref b16), .val (.int rr), .val (.int (2 : Int32)), .val (.int (2 : Int32)), .unset, .unset, .unset, .unset, .unset, .unset, .unset] [(.int (3 : Int32)), (.int (2 : Int32)), (.ref b16)])) rfl rfl (hb hby at_144)
    replace V_b16 := Arv.set Ar29 q291 q292 q293 q294 q295 rfl W29 2 rfl (Nat.le_of_ble_eq_true rfl)
    have V_b16 : Arv Z h29 b16 k16 .int (4 : Int32) [(.int (0 : Int32)), (.int (1 : Int32)), (.int (3 : Int32)), (.int (3 : Int32))] (.int (0 : Int32)) := V_b16
    replace Z0 := Nat.le_trans Z0 (Keep.of_wr W29).1
    replace V_b1 := V_b1.other W29 ne_b1_b16
    replace E_b13 := E_b13.wr W29
    replace F14_discounts := F14_discounts.other W29 (Or.inl ne_b13_b16)
    replace F14_leaves := F14_leaves.other W29 (Or.inl ne_b13_b16)
    replace F14_count := F14_count.other W29 (Or.inl ne_b13_b16)
    replace F14_worth := F14_worth.other W29 (Or.inl ne_b13_b16)
    replace Vc14 := Vc14.other W29 ne_tc14_b16
    replace Vw14 := Vw14.other W29 ne_tw14_b16
    have N29 := Fr.snoc X29 N20 g_b16
    refine Go.st (pc' := 145) (S' := []) st29 ?_
    exact sl145 p1 p2 p3 p4 p5 p6 ((((p2.toUInt32 >>> ((3 : Int32) &&& 31).toUInt32).toInt32) &&& (3 : Int32)) + (1 : Int32)) q b13 b1 tc14 tw14 _ _ _ b16 _ rr (2 : Int32) (2 : Int32) (0 : Int32) (1 : Int32) (3 : Int32) (3 : Int32) (Stand.up X29 (by decide) (by decide)) hx hZ hw hby hml hown hnm hret hlk e29 N29 Z0 E_b13 F14_discounts F14_leaves F14_count F14_worth V_b1 Vc14 Vw14 ⟨ne_b13_tc14, ne_b13_tw14, ne_tc14_tw14, ne_b1_tc14, ne_b1_tw14⟩ g_tc14 g_tw14 V_b16 ⟨ne_b13_b16, ne_b1_b16, ne_tc14_b16, ne_tw14_b16⟩ g_b16 hq (by unfold own_pm; decide) hr3 hr2
  · rw [h_]
    refine Go.st (pc' := 129) (S' := []) (fun t_ k_ => XS.istore X20.here hx rfl (hb hby at_127) rfl (l' := #[.val (.int p1), .val (.int p2), .val (.int p3), .val (.int p4), .val (.int p5), .val (.int p6), .val (.double (FP.l2d q)), .second, .val (.int ((((p2.toUInt32 >>> ((3 : Int32) &&& 31).toUInt32).toInt32) &&& (3 : Int32)) + (1 : Int32))), .val (.ref b1), .val (.ref b13), .val (.int (1 : Int32)), .val (.ref b16), .val (.int rr), .val (.int (3 : Int32)), .unset, .unset, .unset, .unset, .unset, .unset, .unset, .unset]) rfl k_) ?_
    refine Go.st (pc' := 131) (S' := [(.ref b16)]) (fun t_ k_ => XS.aload X20.here hx rfl (hb hby at_129) rfl rfl k_) ?_
    refine Go.st (pc' := 133) (S' := [(.int (3 : Int32)), (.ref b16)]) (fun t_ k_ => XS.iload X20.here hx rfl (hb hby at_131) rfl k_) ?_
    obtain ⟨cl30, Ar30, -, q30a, q30b, q30c, q30d⟩ := id V_b16
    refine Go.st (pc' := 134) (S' := [(.int (3 : Int32))]) (fun t_ k_ => X20.iaload hx (j := (3 : Int32)) (v := (.int (3 : Int32))) (by rw [e20]; exact Ar30.1) (State.isArrayOf_alike hZ.alike Ar30.2.1) Ar30.2.2 (inb_of q30a ⟨by decide, by decide⟩) (q30c.at (inb_of q30a ⟨by decide, by decide⟩) rfl) (g := (mkF m 133 #[.val (.int p1), .val (.int p2), .val (.int p3), .val (.int p4), .val (.int p5), .val (.int p6), .val (.double (FP.l2d q)), .second, .val (.int ((((p2.toUInt32 >>> ((3 : Int32) &&& 31).toUInt32).toInt32) &&& (3 : Int32)) + (1 : Int32))), .val (.ref b1), .val (.ref b13), .val (.int (1 : Int32)), .val (.ref b16), .val (.int rr), .val (.int (3 : Int32)), .unset, .unset, .unset, .unset, .unset, .unset, .unset, .unset] [(.int (3 : Int32)), (.ref b16)])) rfl rfl (hb hby at_133) t_ k_) ?_
    refine Go.st (pc' := 136) (S' := []) (fun t_ k_ => XS.istore X20.here hx rfl (hb hby at_134) rfl (l' := #[.val (.int p1), .val (.int p2), .val (.int p3), .val (.int p4), .val (.int p5), .val (.int p6), .val (.double (FP.l2d q)), .second, .val (.int ((((p2.toUInt32 >>> ((3 : Int32) &&& 31).toUInt32).toInt32) &&& (3 : Int32)) + (1 : Int32))), .val (.ref b1), .val (.ref b13), .val (.int (1 : Int32)), .val (.ref b16), .val (.int rr), .val (.int (3 : Int32)), .val (.int (3 : Int32)), .unset, .unset, .unset, .unset, .unset, .unset, .unset]) rfl k_) ?_
    refine Go.st (pc' := 138) (S' := [(.ref b16)]) (fun t_ k_ => XS.aload X20.here hx rfl (hb hby at_136) rfl rfl k_) ?_
    refine Go.st (pc' := 140) (S' := [(.int (3 : Int32)), (.ref b16)]) (fun t_ k_ => XS.iload X20.here hx rfl (hb hby at_138) rfl k_) ?_
    refine Go.st (pc' := 142) (S' := [(.ref b16), (.int (3 : Int32)), (.ref b16)]) (fun t_ k_ => XS.aload X20.here hx rfl (hb hby at_140) rfl rfl k_) ?_
    refine Go.st (pc' := 143) (S' := [(.int (3 : Int32)), (.ref b16), (.int (3 : Int32)), (.ref b16)]) (fun t_ k_ => XS.iconst X20.here hx rfl (hb hby at_142) k_) ?_
    obtain ⟨cl31, Ar31, -, q31a, q31b, q31c, q31d⟩ := id V_b16
    refine Go.st (pc' := 144) (S' := [(.int (3 : Int32)), (.int (3 : Int32)), (.ref b16)]) (fun t_ k_ => X20.iaload hx (j := (3 : Int32)) (v := (.int (3 : Int32))) (by rw [e20]; exact Ar31.1) (State.isArrayOf_alike hZ.alike Ar31.2.1) Ar31.2.2 (inb_of q31a ⟨by decide, by decide⟩) (q31c.at (inb_of q31a ⟨by decide, by decide⟩) rfl) (g := (mkF m 143 #[.val (.int p1), .val (.int p2), .val (.int p3), .val (.int p4), .val (.int p5), .val (.int p6), .val (.double (FP.l2d q)), .second, .val (.int ((((p2.toUInt32 >>> ((3 : Int32) &&& 31).toUInt32).toInt32) &&& (3 : Int32)) + (1 : Int32))), .val (.ref b1), .val (.ref b13), .val (.int (1 : Int32)), .val (.ref b16), .val (.int rr), .val (.int (3 : Int32)), .val (.int (3 : Int32)), .unset, .unset, .unset, .unset, .unset, .unset, .unset] [(.int (3 : Int32)), (.ref b16), (.int (3 : Int32)), (.ref b16)])) rfl rfl (hb hby at_143) t_ k_) ?_
    obtain ⟨cl32, Ar32, q321, q322, q323, q324, q325⟩ := V_b16
    obtain ⟨T32, h32, X32, e32, W32, st32⟩ := stI X20 hx hZ e20 Ar32 (j := (3 : Int32)) (inb_of q322 ⟨by decide, by decide⟩) (g := (mkF m 144 #[.val (.int p1), .val (.int p2), .val (.int p3), .val (.int p4), .val (.int p5), .val (.int p6), .val (.double (FP.l2d q)), .second, .val (.int ((((p2.toUInt32 >>> ((3 : Int32) &&& 31).toUInt32).toInt32) &&& (3 : Int32)) + (1 : Int32))), .val (.ref b1), .val (.ref b13), .val (.int (1 : Int32)), .val (.ref b16), .val (.int rr), .val (.int (3 : Int32)), .val (.int (3 : Int32)), .unset, .unset, .unset, .unset, .unset, .unset, .unset] [(.int (3 : Int32)), (.int (3 : Int32)), (.ref b16)])) rfl rfl (hb hby at_144)
    replace V_b16 := Arv.set Ar32 q321 q322 q323 q324 q325 rfl W32 3 rfl (Nat.le_of_ble_eq_true rfl)
    have V_b16 : Arv Z h32 b16 k16 .int (4 : Int32) [(.int (0 : Int32)), (.int (1 : Int32)), (.int (2 : Int32)), (.int (3 : Int32))] (.int (0 : Int32)) := V_b16
    replace Z0 := Nat.le_trans Z0 (Keep.of_wr W32).1
    replace V_b1 := V_b1.other W32 ne_b1_b16
    replace E_b13 := E_b13.wr W32
    replace F14_discounts := F14_discounts.other W32 (Or.inl ne_b13_b16)
    replace F14_leaves := F14_leaves.other W32 (Or.inl ne_b13_b16)
    replace F14_count := F14_count.other W32 (Or.inl ne_b13_b16)
    replace F14_worth := F14_worth.other W32 (Or.inl ne_b13_b16)
    replace Vc14 := Vc14.other W32 ne_tc14_b16
    replace Vw14 := Vw14.other W32 ne_tw14_b16
    have N32 := Fr.snoc X32 N20 g_b16
    refine Go.st (pc' := 145) (S' := []) st32 ?_
    exact sl145 p1 p2 p3 p4 p5 p6 ((((p2.toUInt32 >>> ((3 : Int32) &&& 31).toUInt32).toInt32) &&& (3 : Int32)) + (1 : Int32)) q b13 b1 tc14 tw14 _ _ _ b16 _ rr (3 : Int32) (3 : Int32) (0 : Int32) (1 : Int32) (2 : Int32) (3 : Int32) (Stand.up X32 (by decide) (by decide)) hx hZ hw hby hml hown hnm hret hlk e32 N32 Z0 E_b13 F14_discounts F14_leaves F14_count F14_worth V_b1 Vc14 Vw14 ⟨ne_b13_tc14, ne_b13_tw14, ne_tc14_tw14, ne_b1_tc14, ne_b1_tw14⟩ g_tc14 g_tw14 V_b16 ⟨ne_b13_b16, ne_b1_b16, ne_tc14_b16, ne_tw14_b16⟩ g_b16 hq (by unfold own_pm; decide) hr3 hr2
theorem comes_1 {Post : Tables → Env → Array Value → State → Outcome → State → Prop} (hpost : ∀ tb e args s v u, (limb_1_1.after args s (.returned v) u = true ∧ limb_1_2.after args s (.returned v) u = true ∧ True) → FrameEnd s (.returned v) u (Jvm.fieldLocs frame_1_writes args s ++ Jvm.arrayLocs frame_1_arrays args s ++ Jvm.staticLocs frame_1_statics s) 24 192 → Post tb e args s (.returned v) u) :
    ArmFor flags0 classFile x code maxLocals ret World_1 tables_1 room_1 Calls_1 rest_1 Pre_1 Post := by
  intro l hfl _ _ p e ha hc hk s m args below hf hA hF happ hP
  obtain ⟨hcalls, hrest, hpre⟩ := hP
  obtain ⟨-, -, -, hnamed, -, -, -, hat⟩ := (Spec.applies_iff hf).mp happ
  obtain ⟨hg, hn⟩ := and_e (Cond.before_iff.mp (show (Jvm.Cond.and given_1 narrow_1).before args s = true from hpre))
  obtain ⟨gc, gr0⟩ := and_e hg
  obtain ⟨ga0, gr1⟩ := and_e gr0
  obtain ⟨ga1, gr2⟩ := and_e gr1
  obtain ⟨ga2, gr3⟩ := and_e gr2
  obtain ⟨ga3, gr4⟩ := and_e gr3
  obtain ⟨ga4, gr5⟩ := and_e gr4
  have ga5 := gr5
  obtain ⟨w0, w1, w2, w3, w4, w5, rfl⟩ : ∃ w0 w1 w2 w3 w4 w5 : Value, args = #[w0, w1, w2, w3, w4, w5] := by
    have hs : args.size = 6 := by simpa [Cond.value, given_1] using gc
    obtain ⟨L⟩ := args
    match L, hs with
    | [w0, w1, w2, w3, w4, w5], _ => exact ⟨w0, w1, w2, w3, w4, w5, rfl⟩
  have hw := fun d (hd : d ∈ tables_1) => atoms_spec (ws := Jvm.Cond.code x code maxLocals ret :: tables_1) hat d (List.mem_cons_of_mem _ hd)
  have hfit : Fit s := fun {y c} hc i hi => by
    obtain ⟨ha, rfl⟩ := Array.getElem?_eq_some_iff.mp hc
    have q := List.all_eq_true.mp ((Array.all_eq_true_iff_forall_mem.mp hF) _ (Array.getElem_mem ha)) i (List.mem_range.mpr hi)
    simpa [Array.getElem?_eq_getElem hi] using q
  obtain ⟨i0, ei0⟩ := is_v ga0
  obtain rfl : w0 = (.int i0) := Option.some.inj ei0
  obtain ⟨i1, ei1⟩ := is_v ga1
  obtain rfl : w1 = (.int i1) := Option.some.inj ei1
  obtain ⟨i2, ei2⟩ := is_v ga2
  obtain rfl : w2 = (.int i2) := Option.some.inj ei2
  obtain ⟨i3, ei3⟩ := is_v ga3
  obtain rfl : w3 = (.int i3) := Option.some.inj ei3
  obtain ⟨i4, ei4⟩ := is_v ga4
  obtain rfl : w4 = (.int i4) := Option.some.inj ei4
  obtain ⟨i5, ei5⟩ := is_v ga5
  obtain rfl : w5 = (.int i5) := Option.some.inj ei5
  obtain ⟨n, o, h1, h2, h3, _, L, rfl, ⟨rfl, N⟩, hq⟩ := rm0 l s _ hw tables_1 i0 i1 i2 i3 i4 i5 s.heap s.heap.size (Nat.le_refl _) p e ha hc hk s m _ below hf ((Spec.applies_iff_loose hf).mp happ).1 ⟨rfl, State.Warmed39.refl s, rfl⟩ trivial
  refine ⟨n, _, h1, h2, h3, hpost _ _ _ _ _ _ ⟨Cond.after_iff.mpr rfl, Cond.after_iff.mpr (eq_i res_at (Term.int_eval (1)) rfl), trivial⟩ ⟨hq.1, hq.2.1, (hq.2.2.sift fun y hy => Or.inr (N y hy)).mono (by decide) (by decide)⟩⟩
theorem main_1_1 : Claimed_1_1 := comes_1 fun _ _ _ _ _ _ h hF => ⟨h.1, hF⟩
theorem main_1_2 : Claimed_1_2 := comes_1 fun _ _ _ _ _ _ h hF => ⟨h.2.1, hF⟩
end Jvm.Pilot.@@N@@
namespace Jvm.Pilot.@@N@@
open Jvm Jvm.ClassFile Sem Op Lib Jvm.Free Jvm.Stand Jvm.Pilot.@@N@@.Jvm.D
/-! MADE BY PROGRAM (witnessworld.py) out of the Statement's table words and the real class files: 13 classes; the members and pool entries that the words name. The judged class is class 1, her method 1. -/
namespace start1
open Jvm.ClassFile
def u (s : String) : CpInfo := .utf8 (stringToUtf16 s)
/-- a pool by its gaps: so many unusable entries, then the entry; so many at the end -/
def gap : Nat → List CpInfo → List CpInfo
  | 0, r => r
  | n + 1, r => .unusable :: gap n r
def poolList (es : List (Nat × CpInfo)) (last : Nat) : List CpInfo := es.foldr (fun e r => gap e.1 (e.2 :: r)) (gap last [])
def pool (es : List (Nat × CpInfo)) (last : Nat) : Array CpInfo := ⟨poolList es last⟩
def fileOf (pool : Array CpInfo) (this : Nat) (attrs : Array Attribute := #[]) (ms : Array MethodInfo := #[]) (fl : Nat := 33) (sup : Nat := 0) (ifs : Array Nat := #[]) (fds : Array FieldInfo := #[]) : ClassFile where
  minorVersion := 0
  majorVersion := 65
  constantPool := pool
  accessFlags := fl
  thisClass := this
  superClass := sup
  interfaces := ifs
  fields := fds
  methods := ms
  attributes := attrs
def plain (name : String) (sup : Option ClassId) : Class where
  name := name
  kind := .ordinary
  loader := none
  accessFlags := 33
  super := sup
  interfaces := #[]
  cf := none
  fields := #[]
  methods := #[]
  instanceTypes := #[]
  staticTypes := #[]
  resolved := #[]
  callSites := []
  init := .initialized
  statics := none
  mirror := none

def pool0 : Array CpInfo := pool [(5, u "<init>"), (0, u "()V"), (1, .class_ 10), (1, u "java/lang/Object")] 113

def k0c0 : Code := { maxStack := 0, maxLocals := 1, code := object_method_1_code, exceptionTable := #[], attributes := #[] }
def k0m0 : Method := { name := "<init>", desc := "()V", sig := { parameters := [], returnType := none }, accessFlags := 1, code := some k0c0 }
/-- java/lang/Object -/
def k0 : Class := { plain "java/lang/Object" none with
  accessFlags := 33
  interfaces := #[]
  cf := some (fileOf pool0 8 #[] #[{ accessFlags := 1, nameIndex := 5, descriptorIndex := 6, attributes := #[] }] 33 0 #[] #[])
  fields := #[]
  methods := #[k0m0]
  instanceTypes := #[]
  staticTypes := #[]
  resolved := Array.replicate 124 none
  statics := none }

def pool1 : Array CpInfo := pool [(2, .class_ 4), (1, u "java/lang/Object"), (0, u "<init>"), (0, u "()V"), (0, .class_ 8), (0, u "com/example/placewright/placewright/GrowingRanks"), (0, .methodref 7 10), (0, .nameAndType 5 11), (0, u "([D)V"), (0, .methodref 7 13), (0, .nameAndType 14 15), (0, u "value"), (0, u "()D"), (0, .integer 2147483647), (0, .methodref 7 18), (0, .nameAndType 19 20), (0, u "add"), (0, u "(ID)V"), (0, .methodref 22 23), (0, .class_ 24), (0, .nameAndType 25 26), (0, u "com/example/placewright/placewright/GrowingRanksAddPinLaw"), (0, u "ref"), (0, u "([Z[D[D)D"), (2, u "law"), (0, u "(IIIIII)Z")] 9

def k1m0 : Method := { name := "<init>", desc := "()V", sig := { parameters := [], returnType := none }, accessFlags := 1, code := none }
def k1c1 : Code := { maxStack := 7, maxLocals := 23, code := code, exceptionTable := #[], attributes := #[] }
def k1m1 : Method := { name := "law", desc := "(IIIIII)Z", sig := { parameters := [.int, .int, .int, .int, .int, .int], returnType := some .boolean }, accessFlags := 9, code := some k1c1 }
def k1c2 : Code := { maxStack := 6, maxLocals := 6, code := method_3_code, exceptionTable := #[], attributes := #[] }
def k1m2 : Method := { name := "ref", desc := "([Z[D[D)D", sig := { parameters := [(.array .boolean), (.array .double), (.array .double)], returnType := some .double }, accessFlags := 10, code := some k1c2 }
/-- com/example/placewright/placewright/GrowingRanksAddPinLaw -/
def k1 : Class := { plain "com/example/placewright/placewright/GrowingRanksAddPinLaw" (some 0) with
  accessFlags := 49
  interfaces := #[]
  cf := some (fileOf pool1 22 #[] #[{ accessFlags := 1, nameIndex := 5, descriptorIndex := 6, attributes := #[] }, { accessFlags := 9, nameIndex := 29, descriptorIndex := 30, attributes := #[] }, { accessFlags := 10, nameIndex := 25, descriptorIndex := 26, attributes := #[] }] 49 2 #[] #[])
  fields := #[]
  methods := #[k1m0, k1m1, k1m2]
  instanceTypes := #[]
  staticTypes := #[]
  resolved := Array.replicate 40 none
  statics := none }

def pool2 : Array CpInfo := pool [(1, .methodref 2 3), (0, .class_ 4), (0, .nameAndType 5 6), (0, u "java/lang/Object"), (0, u "<init>"), (0, u "()V"), (0, .fieldref 8 9), (0, .class_ 10), (0, .nameAndType 11 12), (0, u "com/example/placewright/placewright/GrowingRanks"), (0, u "discounts"), (0, u "[D"), (0, .fieldref 8 14), (0, .nameAndType 15 16), (0, u "leaves"), (0, u "I"), (0, .fieldref 8 18), (0, .nameAndType 19 20), (0, u "count"), (0, u "[I"), (0, .fieldref 8 22), (0, .nameAndType 23 12), (0, u "worth"), (18, .methodref 8 43), (0, .nameAndType 44 45), (0, u "set"), (0, u "(ID)V"), (1, u "([D)V"), (5, u "add"), (1, u "value"), (0, u "()D")] 19

def k2c0 : Code := { maxStack := 3, maxLocals := 4, code := prog_20_method_1_code, exceptionTable := #[], attributes := #[] }
def k2m0 : Method := { name := "<init>", desc := "([D)V", sig := { parameters := [(.array .double)], returnType := none }, accessFlags := 0, code := some k2c0 }
def k2c1 : Code := { maxStack := 4, maxLocals := 5, code := prog_20_method_3_code, exceptionTable := #[], attributes := #[] }
def k2m1 : Method := { name := "add", desc := "(ID)V", sig := { parameters := [.int, .double], returnType := none }, accessFlags := 0, code := some k2c1 }
def k2c2 : Code := { maxStack := 9, maxLocals := 6, code := prog_20_method_5_code, exceptionTable := #[], attributes := #[] }
def k2m2 : Method := { name := "set", desc := "(ID)V", sig := { parameters := [.int, .double], returnType := none }, accessFlags := 2, code := some k2c2 }
def k2c3 : Code := { maxStack := 2, maxLocals := 1, code := prog_20_method_6_code, exceptionTable := #[], attributes := #[] }
def k2m3 : Method := { name := "value", desc := "()D", sig := { parameters := [], returnType := some .double }, accessFlags := 0, code := some k2c3 }
/-- com/example/placewright/placewright/GrowingRanks -/
def k2 : Class := { plain "com/example/placewright/placewright/GrowingRanks" (some 0) with
  accessFlags := 48
  interfaces := #[]
  cf := some (fileOf pool2 8 #[] #[{ accessFlags := 0, nameIndex := 5, descriptorIndex := 47, attributes := #[] }, { accessFlags := 0, nameIndex := 53, descriptorIndex := 45, attributes := #[] }, { accessFlags := 2, nameIndex := 44, descriptorIndex := 45, attributes := #[] }, { accessFlags := 0, nameIndex := 55, descriptorIndex := 56, attributes := #[] }] 48 2 #[] #[{ accessFlags := 18, nameIndex := 11, descriptorIndex := 12, attributes := #[] }, { accessFlags := 18, nameIndex := 15, descriptorIndex := 16, attributes := #[] }, { accessFlags := 18, nameIndex := 19, descriptorIndex := 20, attributes := #[] }, { accessFlags := 18, nameIndex := 23, descriptorIndex := 12, attributes := #[] }])
  fields := #[{ name := "discounts", type := (.array .double), accessFlags := 18, slot := 0, constantValue := 0 }, { name := "leaves", type := .int, accessFlags := 18, slot := 1, constantValue := 0 }, { name := "count", type := (.array .int), accessFlags := 18, slot := 2, constantValue := 0 }, { name := "worth", type := (.array .double), accessFlags := 18, slot := 3, constantValue := 0 }]
  methods := #[k2m0, k2m1, k2m2, k2m3]
  instanceTypes := #[(.array .double), .int, (.array .int), (.array .double)]
  staticTypes := #[]
  resolved := Array.replicate 76 none
  statics := none }

def pool3 : Array CpInfo := pool [(1, u "java/lang/Cloneable"), (0, .class_ 1), (0, u "java/lang/Object"), (0, .class_ 3)] 3

/-- java/lang/Cloneable -/
def k3 : Class := { plain "java/lang/Cloneable" (some 0) with
  accessFlags := 1537
  interfaces := #[]
  cf := some (fileOf pool3 2 #[] #[] 1537 4 #[] #[])
  fields := #[]
  methods := #[]
  instanceTypes := #[]
  staticTypes := #[]
  resolved := Array.replicate 8 none
  statics := none }

def pool4 : Array CpInfo := pool [(1, u "java/io/Serializable"), (0, .class_ 1), (0, u "java/lang/Object"), (0, .class_ 3)] 3

/-- java/io/Serializable -/
def k4 : Class := { plain "java/io/Serializable" (some 0) with
  accessFlags := 1537
  interfaces := #[]
  cf := some (fileOf pool4 2 #[] #[] 1537 4 #[] #[])
  fields := #[]
  methods := #[]
  instanceTypes := #[]
  staticTypes := #[]
  resolved := Array.replicate 8 none
  statics := none }

/-- the primitive boolean -/
def k5 : Class := { plain "boolean" none with kind := .primitive 'Z', accessFlags := 0x411 }
/-- [Z -/
def k6 : Class := { plain "[Z" (some 0) with kind := .array 5 .boolean, interfaces := #[3, 4], accessFlags := 1041 }

/-- the primitive byte -/
def k7 : Class := { plain "byte" none with kind := .primitive 'B', accessFlags := 0x411 }
/-- [B -/
def k8 : Class := { plain "[B" (some 0) with kind := .array 7 .byte, interfaces := #[3, 4], accessFlags := 1041 }

/-- the primitive double -/
def k9 : Class := { plain "double" none with kind := .primitive 'D', accessFlags := 0x411 }
/-- [D -/
def k10 : Class := { plain "[D" (some 0) with kind := .array 9 .double, interfaces := #[3, 4], accessFlags := 1041 }

/-- the primitive int -/
def k11 : Class := { plain "int" none with kind := .primitive 'I', accessFlags := 0x411 }
/-- [I -/
def k12 : Class := { plain "[I" (some 0) with kind := .array 11 .int, interfaces := #[3, 4], accessFlags := 1041 }

def heap : Heap := #[]
def classes : Array Class := #[k0, k1, k2, k3, k4, k5, k6, k7, k8, k9, k10, k11, k12]
def interned : List (Array UInt16 × Addr) := []
def slotsUsed : Nat := 0
def theMethod : MethodId := ⟨1, 1⟩
def args0 : Array Value := #[.int 3, .int 5, .int 7, .int 2, .int 0, .int 9]
def aboutOver (below : List Frame) : State where
  vm := { classes := classes, interned := interned.toArray }
  heap := heap
  slotsUsed := slotsUsed
  threads := #[{ frames := .invoking theMethod args0 :: below }]
def below0 : List Frame := [.native { method := ⟨0, 0⟩, args := #[] }]
def about1 : State := aboutOver below0
def p0 : Program := .bare "" "" ""
def e0 : Env := launch0.env 0 0 0
theorem w_frames : about1.frames = Frame.invoking theMethod args0 :: below0 := rfl
set_option maxRecDepth 65536 in
theorem w_args : argsFit about1.vm theMethod args0 = true := by decide +kernel
set_option maxRecDepth 65536 in
theorem w_heap : heapFits about1 = true := by decide +kernel
set_option maxRecDepth 65536 in
theorem w_runnable : about1.curStatus? = some .runnable := by decide +kernel
set_option maxRecDepth 65536 in
theorem w_alone : about1.alone = true := by decide +kernel
set_option maxRecDepth 65536 in
theorem w_named : about1.methodNamed? x = some theMethod := by decide +kernel
set_option maxRecDepth 65536 in
theorem w_hears : about1.hears theMethod below0 = true := by decide +kernel
set_option maxRecDepth 65536 in
theorem w_ripe : about1.ripe theMethod args0 below0 = true := by decide +kernel
theorem w_running : about1.status = .running := rfl
set_option maxRecDepth 65536 in
theorem w_room : about1.hasRoom e0.platform room_1 = true :=
  launch0.hasRoom_least _ room_1 (by decide +kernel) (by decide +kernel) (by decide +kernel) (by decide +kernel) (by decide +kernel) (by decide +kernel)
theorem allAtoms_all (ts : List Jvm.Cond) (a : Array Jvm.Value) (st : Jvm.State) : (allAtoms ts).before a st = ts.all (fun c => c.before a st) := by
  induction ts with
  | nil => rfl
  | cons c t ih =>
    show (Jvm.Cond.and c (allAtoms t)).before a st = _
    rw [Jvm.Cond.before_and, ih, List.all_cons]
def words1 : List Jvm.Cond := Jvm.Cond.code x code maxLocals ret :: tables_1
/-- a 'code' word, met by the world's own term for the bytes: nothing is compared byte by byte -/
theorem code_word {y : MethodName} {bytes : ByteArray} {mx : Nat} {rt : Option FieldType} {a : Array Value} {s : State} {m : MethodId} {meth : Method} {c : Code} (h1 : s.methodNamed? y = some m) (h2 : s.vm.method? m = some meth) (h3 : meth.code = some c) (h4 : c.code = bytes)
    (h5 : (c.maxLocals == mx && c.exceptionTable.isEmpty && decide (c.maxStack ≤ mostOperands) && decide (meth.sig.returnType = rt) && !meth.locks && decide (parseMethodDescriptor y.desc = some meth.sig)) = true) : (Jvm.Cond.code y bytes mx rt).before a s = true := by
  simp only [Bool.and_eq_true, beq_iff_eq, Bool.not_eq_true', decide_eq_true_eq] at h5
  obtain ⟨⟨⟨⟨⟨g1, g2⟩, g3⟩, g4⟩, g5⟩, g6⟩ := h5
  simp [Cond.before, Cond.holds, Cond.value, h1, h2, h3, h4, g1, g2, g3, g4, g5, g6]
def isCode : Jvm.Cond → Bool
  | .code _ _ _ _ => true
  | _ => false
theorem all_split {L : List Jvm.Cond} {P : Jvm.Cond → Bool} (h1 : L.all (fun c => isCode c || P c) = true) (h2 : ∀ c ∈ L.filter isCode, P c = true) : L.all P = true := by
  refine List.all_eq_true.mpr fun c hc => ?_
  have h := List.all_eq_true.mp h1 c hc
  rcases Bool.eq_false_or_eq_true (isCode c) with hi | hi
  · exact h2 c (List.mem_filter.mpr ⟨hc, hi⟩)
  · simpa [hi] using h
set_option maxRecDepth 65536 in
theorem w_c0 : (Jvm.Cond.code x code maxLocals ret).before args0 about1 = true := code_word (m := ⟨1, 1⟩) (meth := k1m1) (c := k1c1) (by decide +kernel) rfl rfl rfl (by decide +kernel)
set_option maxRecDepth 65536 in
theorem w_c1 : (Jvm.Cond.code ({ cls := "com/example/placewright/placewright/GrowingRanks", name := "<init>", desc := "([D)V" } : Jvm.MethodName) prog_20_method_1_code (4 : Nat) (Option.none : Option Jvm.ClassFile.FieldType)).before args0 about1 = true := code_word (m := ⟨2, 0⟩) (meth := k2m0) (c := k2c0) (by decide +kernel) rfl rfl rfl (by decide +kernel)
set_option maxRecDepth 65536 in
theorem w_c2 : (Jvm.Cond.code ({ cls := "java/lang/Object", name := "<init>", desc := "()V" } : Jvm.MethodName) object_method_1_code (1 : Nat) (Option.none : Option Jvm.ClassFile.FieldType)).before args0 about1 = true := code_word (m := ⟨0, 0⟩) (meth := k0m0) (c := k0c0) (by decide +kernel) rfl rfl rfl (by decide +kernel)
set_option maxRecDepth 65536 in
theorem w_c3 : (Jvm.Cond.code ({ cls := "com/example/placewright/placewright/GrowingRanks", name := "value", desc := "()D" } : Jvm.MethodName) prog_20_method_6_code (1 : Nat) (Option.some Jvm.ClassFile.FieldType.double)).before args0 about1 = true := code_word (m := ⟨2, 3⟩) (meth := k2m3) (c := k2c3) (by decide +kernel) rfl rfl rfl (by decide +kernel)
set_option maxRecDepth 65536 in
theorem w_c4 : (Jvm.Cond.code ({ cls := "com/example/placewright/placewright/GrowingRanks", name := "add", desc := "(ID)V" } : Jvm.MethodName) prog_20_method_3_code (5 : Nat) (Option.none : Option Jvm.ClassFile.FieldType)).before args0 about1 = true := code_word (m := ⟨2, 1⟩) (meth := k2m1) (c := k2c1) (by decide +kernel) rfl rfl rfl (by decide +kernel)
set_option maxRecDepth 65536 in
theorem w_c5 : (Jvm.Cond.code ({ cls := "com/example/placewright/placewright/GrowingRanks", name := "set", desc := "(ID)V" } : Jvm.MethodName) prog_20_method_5_code (6 : Nat) (Option.none : Option Jvm.ClassFile.FieldType)).before args0 about1 = true := code_word (m := ⟨2, 2⟩) (meth := k2m2) (c := k2c2) (by decide +kernel) rfl rfl rfl (by decide +kernel)
set_option maxRecDepth 65536 in
theorem w_c6 : (Jvm.Cond.code ({ cls := "com/example/placewright/placewright/GrowingRanksAddPinLaw", name := "ref", desc := "([Z[D[D)D" } : Jvm.MethodName) method_3_code (6 : Nat) (Option.some Jvm.ClassFile.FieldType.double)).before args0 about1 = true := code_word (m := ⟨1, 2⟩) (meth := k1m2) (c := k1c2) (by decide +kernel) rfl rfl rfl (by decide +kernel)
def codes1 : List Jvm.Cond := [Jvm.Cond.code x code maxLocals ret, Jvm.Cond.code ({ cls := "com/example/placewright/placewright/GrowingRanks", name := "<init>", desc := "([D)V" } : Jvm.MethodName) prog_20_method_1_code (4 : Nat) (Option.none : Option Jvm.ClassFile.FieldType), Jvm.Cond.code ({ cls := "java/lang/Object", name := "<init>", desc := "()V" } : Jvm.MethodName) object_method_1_code (1 : Nat) (Option.none : Option Jvm.ClassFile.FieldType), Jvm.Cond.code ({ cls := "com/example/placewright/placewright/GrowingRanks", name := "value", desc := "()D" } : Jvm.MethodName) prog_20_method_6_code (1 : Nat) (Option.some Jvm.ClassFile.FieldType.double), Jvm.Cond.code ({ cls := "com/example/placewright/placewright/GrowingRanks", name := "add", desc := "(ID)V" } : Jvm.MethodName) prog_20_method_3_code (5 : Nat) (Option.none : Option Jvm.ClassFile.FieldType), Jvm.Cond.code ({ cls := "com/example/placewright/placewright/GrowingRanks", name := "set", desc := "(ID)V" } : Jvm.MethodName) prog_20_method_5_code (6 : Nat) (Option.none : Option Jvm.ClassFile.FieldType), Jvm.Cond.code ({ cls := "com/example/placewright/placewright/GrowingRanksAddPinLaw", name := "ref", desc := "([Z[D[D)D" } : Jvm.MethodName) method_3_code (6 : Nat) (Option.some Jvm.ClassFile.FieldType.double)]
set_option maxRecDepth 65536 in
theorem codes_eq : words1.filter isCode = codes1 := rfl
theorem w_codes : ∀ c ∈ words1.filter isCode, c.before args0 about1 = true := by
  rw [codes_eq]
  intro c hc
  simp only [codes1, List.mem_cons, List.not_mem_nil, or_false] at hc
  rcases hc with rfl | rfl | rfl | rfl | rfl | rfl | rfl
  · exact w_c0
  · exact w_c1
  · exact w_c2
  · exact w_c3
  · exact w_c4
  · exact w_c5
  · exact w_c6
set_option maxRecDepth 65536 in
theorem w_t1 : (words1.take 24).all (fun c => isCode c || c.before args0 about1) = true := by decide +kernel
set_option maxRecDepth 65536 in
theorem w_t2 : (words1.drop 24).all (fun c => isCode c || c.before args0 about1) = true := by decide +kernel
theorem w_tables : (allAtoms (Jvm.Cond.code x code maxLocals ret :: tables_1)).before args0 about1 = true := by
  rw [allAtoms_all]
  show words1.all (fun c => c.before args0 about1) = true
  refine all_split ?_ w_codes
  rw [← List.take_append_drop 24 words1, List.all_append, w_t1, w_t2]
  rfl
set_option maxRecDepth 65536 in
theorem w_case : (Jvm.Cond.and given_1 narrow_1).before args0 about1 = true := by decide +kernel
theorem w_applies : (headSpec (Jvm.Cond.code x code maxLocals ret :: tables_1) room_1).applies x e0.platform about1 = true :=
  (Spec.applies_iff w_frames).mpr ⟨w_running, w_runnable, w_alone, w_named, w_hears, w_ripe, w_room, w_tables⟩
theorem atStart : AtStart classFile x code maxLocals ret World_1 tables_1 room_1 Calls_1 rest_1 Pre_1 launch0 p0 e0 about1 theMethod args0 below0 :=
  ⟨lists_1, trivial, launch0.admits_env _ _ _, launch0.least_env, fairChoices_fair.cas, fairChoices_fair.clock, w_frames, w_args, w_heap, w_applies, trivial, trivial, w_case⟩
end start1
theorem witness_1 : WitnessClaimed_1 := ⟨start1.p0, start1.e0, start1.about1, start1.theMethod, start1.args0, start1.below0, start1.atStart⟩
end Jvm.Pilot.@@N@@
