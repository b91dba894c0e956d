import JvmDerived
import JvmDerived.Pilot.@@N@@Statement
import JvmDerived.Pilot.@@N@@Code
set_option linter.unusedVariables false
set_option linter.unusedSimpArgs false
namespace Jvm.Pilot.@@N@@
open Jvm Jvm.ClassFile Sem Op Lib Jvm.Free Jvm.Stand Jvm.LawKit Jvm.RoadKit Bundle Jvm.Pilot.@@N@@.Jvm.D
section OwnGo
/-- from this frame the run ends, and leaves what Q says -/
def Go (p : Program) (e : Env) (below : List Frame) (s : State) (k n : Nat) (Q : Option Value → Heap → List Loc → Prop) (m : MethodId) (T : State) (pc : Nat) (L : Array Slot) (S : List Value) : Prop :=
  ∃ s₂ o, Steps p.tables e below (T.setTop (mkF m pc L S)) s₂ ∧ s₂.status = .running ∧ Ended s₂ below o ∧ ∃ v Ls, o = .returned v ∧ Q v s₂.heap Ls ∧ FrameEnd s o s₂ Ls k n
variable {p : Program} {l : Launch} {e : Env} {R : Room} {s : State} {m : MethodId} {args : Array Value} {below : List Frame} {meth : Method} {c : Code} {T T' : State} {locs : List Loc} {cells slots k n : Nat} {Z : State} {h : Heap} {Q : Option Value → Heap → List Loc → Prop} {pc pc' : Nat} {L L' : Array Slot} {S S' : List Value}
theorem Go.st (h : ∀ t, Steps p.tables e below (T'.setTop (mkF m pc' L' S')) t → Steps p.tables e below (T.setTop (mkF m pc L S)) t) (g : Go p e below s k n Q m T' pc' L' S') : Go p e below s k n Q m T pc L S := by
  obtain ⟨a, b, c, d⟩ := g; exact ⟨a, b, h _ c, d⟩
theorem Go.tr (h : Steps p.tables e below (T.setTop (mkF m pc L S)) (T'.setTop (mkF m pc' L' S'))) (g : Go p e below s k n Q m T' pc' L' S') : Go p e below s k n Q m T pc L S := Go.st (fun _ q => h.trans q) g
theorem Go.retV (X : Stand p l e R s m args below meth c T locs cells slots) (hx : p.tables.exec = Jvm.exec) (hlk : meth.locks = false) (hret : meth.sig.returnType = none) (hd : decode c.code pc = .ok (.return_, 1)) (hk : cells ≤ k) (hn : slots ≤ n) (hq : Q none T.heap locs) : Go p e below s k n Q m T pc L [] := by
  obtain ⟨fs, hr, hrun, hended, hW, hsame⟩ := X.leave (v := none) (fun _ => rfl) hlk
  exact ⟨_, _, X.returnOut hx hret hd hr, hrun, hended, _, _, rfl, hq, ⟨_, rfl⟩, hW, hsame.mono hk hn⟩
theorem Go.retN (X : Stand p l e R s m args below meth c T locs cells slots) (hx : p.tables.exec = Jvm.exec) (hlk : meth.locks = false) {t : FieldType} {z : Int32} {rest : List Value} (hret : meth.sig.returnType = some t) (ht : t = .boolean ∨ t = .byte ∨ t = .char ∨ t = .short) (hd : decode c.code pc = .ok (.ireturn, 1)) (hk : cells ≤ k) (hn : slots ≤ n) (hq : Q (some (.int (nar t z))) T.heap locs) : Go p e below s k n Q m T pc L (.int z :: rest) := by
  obtain ⟨fs, hr, hrun, hended, hW, hsame⟩ := X.leave (v := some (.int (nar t z))) (fun h => by rw [hret] at h; cases h) hlk
  exact ⟨_, _, Jvm.RoadKit.retN X hx hret ht hd hr, hrun, hended, _, _, rfl, hq, ⟨_, rfl⟩, hW, hsame.mono hk hn⟩
theorem Go.retO (X : Stand p l e R s m args below meth c T locs cells slots) (hx : p.tables.exec = Jvm.exec) (hlk : meth.locks = false) {t : FieldType} {w : Value} {i : Instr} {rest : List Value} (hret : meth.sig.returnType = some t) (hw : narrow t w = w) (hi : (i = .ireturn ∧ (t = .int ∨ t = .boolean ∨ t = .byte ∨ t = .char ∨ t = .short) ∧ ∃ z, w = .int z) ∨ (i = .lreturn ∧ t = .long ∧ ∃ z, w = .long z) ∨ (i = .dreturn ∧ t = .double ∧ ∃ z, w = .double z) ∨ (i = .freturn ∧ t = .float ∧ ∃ z, w = .float z) ∨ (i = .areturn ∧ t.isReference = true ∧ w.isRef = true)) (hd : decode c.code pc = .ok (i, 1)) (hk : cells ≤ k) (hn : slots ≤ n) (hq : Q (some w) T.heap locs) : Go p e below s k n Q m T pc L (w :: rest) := by
  obtain ⟨fs, hr, hrun, hended, hW, hsame⟩ := X.leave (v := some w) (fun h => by rw [hret] at h; cases h) hlk
  exact ⟨_, _, retOut X hx hret hw hi hd hr, hrun, hended, _, _, rfl, hq, ⟨_, rfl⟩, hW, hsame.mono hk hn⟩
theorem Stand.up (X : Stand p l e R s m args below meth c T locs cells slots) (hk : cells ≤ k) (hn : slots ≤ n) : Stand p l e R s m args below meth c T locs k n :=
  ⟨X.admits, X.cas, X.clock, X.frames, X.room, X.hears, X.method, X.code, X.here, X.tail, X.warmed, X.limits, X.bytes, X.same.mono hk hn⟩
theorem own_len (X : Stand p l e R s m args below meth c T locs cells slots) (hx : p.tables.exec = Jvm.exec) (hZ : Z.Warmed39 s.vm) (eT : T.heap = h) {a : Addr} {cl : Cell} {ty : FieldType} {z : Int32} (A : Arr Z h a cl ty) (S : cl.slots.size = z.toNatClampNeg) (q : ¬ z < 0) {g : JFrame} (hg : g.method = m) {rest : List Value} (hs : g.stack = .ref a :: rest) (hd : decode c.code g.pc = .ok (.arraylength, 1)) (t : State)
    (k : Steps p.tables e below (T.setTop { g with pc := g.pc + 1, stack := .int z :: rest }) t) : Steps p.tables e below (T.setTop g) t := by
  refine X.arraylength hx (by rw [eT]; exact A.1) (State.isArrayOf_alike hZ.alike A.2.1) (g := g) hg hs hd _ ?_
  rw [len_of S q]; exact k
theorem own_met {l : Launch} {y : MethodName} {bytes : ByteArray} {maxL : Nat} {ret : Option FieldType} {ws : List Jvm.Cond} {rm : Room} {A : Array Value} {Z : State} {h0 : Heap} {Q : Option Value → Heap → List Loc → Prop} {L0 : Array Slot} {K N : Nat} (hpl : plainFor y = true) (hef : ∀ m, entryFrame m A maxL = mkF m 0 L0 [])
    (body : ∀ (p : Program) (e : Env) (s : State) (m : MethodId) (below : List Frame) (meth : Method) (c : Code) (s₁ : State), Stand p l e rm s m A below meth c s₁ [] 0 0 → p.tables.exec = Jvm.exec → c.code = bytes → c.maxLocals = maxL → s.vm.findClass y.cls = some m.cls → meth.name = y.name → meth.sig.returnType = ret → meth.locks = false → Z.Warmed39 s.vm → s₁.heap = h0 → Go p e below s K N Q m s₁ 0 L0 []) :
    MetFree l y (head1 (Jvm.Cond.code y bytes maxL ret :: ws) rm) (fun a U => a = A ∧ Z.Warmed39 U.vm ∧ U.heap = h0) (fun _ _ _ _ _ => True) (fun _ U o U' => ∃ v L, o = .returned v ∧ Q v U'.heap L ∧ FrameEnd U o U' L K N) := by
  refine MetFree.of_bodySF hpl hisR ?_
  intro p e s m args below meth c s₁ Bd hml0 hP hK
  obtain ⟨rfl, hZ, hh⟩ := hP
  obtain ⟨s₂, o, h1, h2⟩ := body p e s m below meth c s₁ (Stand.of_body Bd) Bd.exec Bd.bytes hml0 (findClass_of_methodNamed Bd.named) (name_of_methodNamed Bd.named Bd.method).1 Bd.returns Bd.notSynchronized hZ (by rw [← hh, Bd.state]; rfl)
  exact ⟨s₂, o, castTop (hef m) h1, h2⟩
end OwnGo
theorem d3_0 : decode prog_29_method_2_code 0 = .ok (.aload_n 0, 1) := by decide +kernel
theorem d3_1 : decode prog_29_method_2_code 1 = .ok (.invokespecial 10, 3) := by decide +kernel
theorem d3_4 : decode prog_29_method_2_code 4 = .ok (.iload_n 1, 1) := by decide +kernel
theorem d3_5 : decode prog_29_method_2_code 5 = .ok (.iconst 1, 1) := by decide +kernel
theorem d3_6 : decode prog_29_method_2_code 6 = .ok (.if_icmp .lt 9, 3) := by decide +kernel
theorem d3_9 : decode prog_29_method_2_code 9 = .ok (.iload_n 1, 1) := by decide +kernel
theorem d3_10 : decode prog_29_method_2_code 10 = .ok (.bipush 6, 2) := by decide +kernel
theorem d3_12 : decode prog_29_method_2_code 12 = .ok (.if_icmp .le 17, 3) := by decide +kernel
theorem d3_29 : decode prog_29_method_2_code 29 = .ok (.dload_n 2, 1) := by decide +kernel
theorem d3_30 : decode prog_29_method_2_code 30 = .ok (.dconst 0, 1) := by decide +kernel
theorem d3_31 : decode prog_29_method_2_code 31 = .ok (.dcmp .l, 1) := by decide +kernel
theorem d3_32 : decode prog_29_method_2_code 32 = .ok (.ifCond .lt 9, 3) := by decide +kernel
theorem d3_35 : decode prog_29_method_2_code 35 = .ok (.dload_n 2, 1) := by decide +kernel
theorem d3_36 : decode prog_29_method_2_code 36 = .ok (.dconst 1, 1) := by decide +kernel
theorem d3_37 : decode prog_29_method_2_code 37 = .ok (.dcmp .g, 1) := by decide +kernel
theorem d3_38 : decode prog_29_method_2_code 38 = .ok (.ifCond .le 17, 3) := by decide +kernel
theorem d3_55 : decode prog_29_method_2_code 55 = .ok (.iload 4, 2) := by decide +kernel
theorem d3_57 : decode prog_29_method_2_code 57 = .ok (.ifCond .ge 18, 3) := by decide +kernel
theorem d3_75 : decode prog_29_method_2_code 75 = .ok (.iload 5, 2) := by decide +kernel
theorem d3_77 : decode prog_29_method_2_code 77 = .ok (.iconst 1, 1) := by decide +kernel
theorem d3_78 : decode prog_29_method_2_code 78 = .ok (.if_icmp .ge 18, 3) := by decide +kernel
theorem d3_96 : decode prog_29_method_2_code 96 = .ok (.aload_n 0, 1) := by decide +kernel
theorem d3_97 : decode prog_29_method_2_code 97 = .ok (.iload_n 1, 1) := by decide +kernel
theorem d3_98 : decode prog_29_method_2_code 98 = .ok (.putfield 29, 3) := by decide +kernel
theorem d3_101 : decode prog_29_method_2_code 101 = .ok (.aload_n 0, 1) := by decide +kernel
theorem d3_102 : decode prog_29_method_2_code 102 = .ok (.dload_n 2, 1) := by decide +kernel
theorem d3_103 : decode prog_29_method_2_code 103 = .ok (.putfield 33, 3) := by decide +kernel
theorem d3_106 : decode prog_29_method_2_code 106 = .ok (.aload_n 0, 1) := by decide +kernel
theorem d3_107 : decode prog_29_method_2_code 107 = .ok (.iload 4, 2) := by decide +kernel
theorem d3_109 : decode prog_29_method_2_code 109 = .ok (.putfield 37, 3) := by decide +kernel
theorem d3_112 : decode prog_29_method_2_code 112 = .ok (.aload_n 0, 1) := by decide +kernel
theorem d3_113 : decode prog_29_method_2_code 113 = .ok (.iload 5, 2) := by decide +kernel
theorem d3_115 : decode prog_29_method_2_code 115 = .ok (.putfield 40, 3) := by decide +kernel
theorem d3_118 : decode prog_29_method_2_code 118 = .ok (.return_, 1) := by decide +kernel
theorem pn_0 : plainName "com/example/traversal/traversal/explore/SerendipityParameters" = true := by first | (simp [plainName, overriddenIn]; done) | decide +kernel
def Q3 (Z : State) (a1 : Addr) (h0 : Heap) (n0 : Nat) (v : Option Value) (h : Heap) (L : List Loc) : Prop := v = none ∧ Fr n0 L ∧ Keep h0 h [a1] ∧ Fld Z h a1 "com/example/traversal/traversal/explore/SerendipityParameters" "maxDiameter" "I" (.int (3 : Int32)) ∧ Fld Z h a1 "com/example/traversal/traversal/explore/SerendipityParameters" "alpha" "D" (.double (4602678819172646912 : UInt64)) ∧ Fld Z h a1 "com/example/traversal/traversal/explore/SerendipityParameters" "limit" "I" (.int (2147483647 : Int32)) ∧ Fld Z h a1 "com/example/traversal/traversal/explore/SerendipityParameters" "maxResults" "I" (.int (1000000 : Int32))
def room3 : Room := { frames := 1, cells := 0, slots := 0, locals := 12 }
set_option maxRecDepth 65536 in
set_option maxHeartbeats 40000000 in
theorem rm3 (l : Launch) (Z : State) (a0 : Array Value) (hw : ∀ d ∈ tables_1, d.before a0 Z = true) (ws : List Jvm.Cond) (a1 : Addr) (h0 : Heap) (n0 : Nat) (Z0 : n0 ≤ h0.size) (E_a1 : Exa Z h0 a1 "com/example/traversal/traversal/explore/SerendipityParameters") (g_a1 : n0 ≤ a1) (F_maxDiameter : Fld Z h0 a1 "com/example/traversal/traversal/explore/SerendipityParameters" "maxDiameter" "I" (.int (0 : Int32))) (F_alpha : Fld Z h0 a1 "com/example/traversal/traversal/explore/SerendipityParameters" "alpha" "D" (.double (0 : UInt64))) (F_limit : Fld Z h0 a1 "com/example/traversal/traversal/explore/SerendipityParameters" "limit" "I" (.int (0 : Int32))) (F_maxResults : Fld Z h0 a1 "com/example/traversal/traversal/explore/SerendipityParameters" "maxResults" "I" (.int (0 : Int32))) :
    MetFree l (⟨"com/example/traversal/traversal/explore/SerendipityParameters", "<init>", "(IDII)V"⟩ : MethodName) (head1 (Jvm.Cond.code (⟨"com/example/traversal/traversal/explore/SerendipityParameters", "<init>", "(IDII)V"⟩ : MethodName) prog_29_method_2_code 6 none :: ws) room3) (fun a U => a = #[(.ref a1), (.int (3 : Int32)), (.double (4602678819172646912 : UInt64)), (.int (2147483647 : Int32)), (.int (1000000 : Int32))] ∧ Z.Warmed39 U.vm ∧ U.heap = h0) (fun _ _ _ _ _ => True) (fun _ U o U' => ∃ v L, o = .returned v ∧ (Q3 Z a1 h0 n0) v U'.heap L ∧ FrameEnd U o U' L room3.cells room3.slots) := by
  refine own_met (Q := (Q3 Z a1 h0 n0)) (L0 := #[.val (.ref a1), .val (.int (3 : Int32)), .val (.double (4602678819172646912 : UInt64)), .second, .val (.int (2147483647 : Int32)), .val (.int (1000000 : Int32))]) (plainFor_of_name pn_0) (fun m => by first | (simp [entryFrame, mkF, argsToLocals, Value.category]; done) | rfl) ?_
  intro p e s m below meth c T0 X0 hx hby hml hown hnm hret hlk hZ e0
  have N0 := Fr.nil n0
  have K0 := Keep.refl h0 [a1]
  refine Go.st (T' := T0) (pc' := 1) (L' := #[.val (.ref a1), .val (.int (3 : Int32)), .val (.double (4602678819172646912 : UInt64)), .second, .val (.int (2147483647 : Int32)), .val (.int (1000000 : Int32))]) (S' := [(.ref a1)]) (fun t k => XS.aloadN X0.here hx rfl (hb hby d3_0) rfl rfl  k) ?_
  obtain ⟨T1, X1, e1, st1⟩ := initO X0 hx hZ hown (hw _ (List.mem_of_getElem? (i := 16) rfl)) (hw _ (List.mem_of_getElem? (i := 17) rfl)) (hw _ (List.mem_of_getElem? (i := 18) rfl)) e0 (g := (mkF m 1 #[.val (.ref a1), .val (.int (3 : Int32)), .val (.double (4602678819172646912 : UInt64)), .second, .val (.int (2147483647 : Int32)), .val (.int (1000000 : Int32))] [(.ref a1)])) rfl (by rw [hml]; rfl) rfl (hb hby d3_1) (by decide) (W := 0) (by show 2 * 0 + _ ≤ _; exact Nat.le_of_eq rfl) (by decide)
  refine Go.st (T' := T1) (pc' := 4) (L' := #[.val (.ref a1), .val (.int (3 : Int32)), .val (.double (4602678819172646912 : UInt64)), .second, .val (.int (2147483647 : Int32)), .val (.int (1000000 : Int32))]) (S' := []) st1 ?_
  refine Go.st (T' := T1) (pc' := 5) (L' := #[.val (.ref a1), .val (.int (3 : Int32)), .val (.double (4602678819172646912 : UInt64)), .second, .val (.int (2147483647 : Int32)), .val (.int (1000000 : Int32))]) (S' := [(.int (3 : Int32))]) (fun t k => XS.iloadN X1.here hx rfl (hb hby d3_4) rfl  k) ?_
  refine Go.st (T' := T1) (pc' := 6) (L' := #[.val (.ref a1), .val (.int (3 : Int32)), .val (.double (4602678819172646912 : UInt64)), .second, .val (.int (2147483647 : Int32)), .val (.int (1000000 : Int32))]) (S' := [(.int (1 : Int32)), (.int (3 : Int32))]) (fun t k => XS.iconst X1.here hx rfl (hb hby d3_5) k) ?_
  refine Go.st (T' := T1) (pc' := 9) (L' := #[.val (.ref a1), .val (.int (3 : Int32)), .val (.double (4602678819172646912 : UInt64)), .second, .val (.int (2147483647 : Int32)), .val (.int (1000000 : Int32))]) (S' := []) (fun t k => XS.icmpNo X1.here hx rfl (hb hby d3_6) rfl (flt (by decide : ¬ ((3 : Int32) < (1 : Int32)))).1 k) ?_
  refine Go.st (T' := T1) (pc' := 10) (L' := #[.val (.ref a1), .val (.int (3 : Int32)), .val (.double (4602678819172646912 : UInt64)), .second, .val (.int (2147483647 : Int32)), .val (.int (1000000 : Int32))]) (S' := [(.int (3 : Int32))]) (fun t k => XS.iloadN X1.here hx rfl (hb hby d3_9) rfl  k) ?_
  refine Go.st (T' := T1) (pc' := 12) (L' := #[.val (.ref a1), .val (.int (3 : Int32)), .val (.double (4602678819172646912 : UInt64)), .second, .val (.int (2147483647 : Int32)), .val (.int (1000000 : Int32))]) (S' := [(.int (6 : Int32)), (.int (3 : Int32))]) (fun t k => XS.bipush X1.here hx rfl (hb hby d3_10) k) ?_
  refine Go.st (T' := T1) (pc' := 29) (L' := #[.val (.ref a1), .val (.int (3 : Int32)), .val (.double (4602678819172646912 : UInt64)), .second, .val (.int (2147483647 : Int32)), .val (.int (1000000 : Int32))]) (S' := []) (fun t k => XS.icmpYes X1.here hx rfl (pc0 := 12) (pc' := 29) rfl (hb hby d3_12) rfl (flt (by decide : ¬ ((6 : Int32) < (3 : Int32)))).2.2.2 (by decide) (by decide) k) ?_
  refine Go.st (T' := T1) (pc' := 30) (L' := #[.val (.ref a1), .val (.int (3 : Int32)), .val (.double (4602678819172646912 : UInt64)), .second, .val (.int (2147483647 : Int32)), .val (.int (1000000 : Int32))]) (S' := [(.double (4602678819172646912 : UInt64))]) (fun t k => XS.dloadN X1.here hx rfl (hb hby d3_29) rfl  k) ?_
  refine Go.st (T' := T1) (pc' := 31) (L' := #[.val (.ref a1), .val (.int (3 : Int32)), .val (.double (4602678819172646912 : UInt64)), .second, .val (.int (2147483647 : Int32)), .val (.int (1000000 : Int32))]) (S' := [(.double (0 : UInt64)), (.double (4602678819172646912 : UInt64))]) (fun t k => XS.dconst0 X1.here hx rfl (hb hby d3_30) (by decide +kernel) k) ?_
  refine Go.st (T' := T1) (pc' := 32) (L' := #[.val (.ref a1), .val (.int (3 : Int32)), .val (.double (4602678819172646912 : UInt64)), .second, .val (.int (2147483647 : Int32)), .val (.int (1000000 : Int32))]) (S' := [(.int (1 : Int32))]) (fun t k => XS.dcmpS X1.here hx rfl (hb hby d3_31) rfl (by decide +kernel) k) ?_
  refine Go.st (T' := T1) (pc' := 35) (L' := #[.val (.ref a1), .val (.int (3 : Int32)), .val (.double (4602678819172646912 : UInt64)), .second, .val (.int (2147483647 : Int32)), .val (.int (1000000 : Int32))]) (S' := []) (fun t k => XS.ifNo X1.here hx rfl (hb hby d3_32) rfl ((if0 _ _).trans (flt (by decide : ¬ ((1 : Int32) < (0 : Int32)))).1) k) ?_
  refine Go.st (T' := T1) (pc' := 36) (L' := #[.val (.ref a1), .val (.int (3 : Int32)), .val (.double (4602678819172646912 : UInt64)), .second, .val (.int (2147483647 : Int32)), .val (.int (1000000 : Int32))]) (S' := [(.double (4602678819172646912 : UInt64))]) (fun t k => XS.dloadN X1.here hx rfl (hb hby d3_35) rfl  k) ?_
  refine Go.st (T' := T1) (pc' := 37) (L' := #[.val (.ref a1), .val (.int (3 : Int32)), .val (.double (4602678819172646912 : UInt64)), .second, .val (.int (2147483647 : Int32)), .val (.int (1000000 : Int32))]) (S' := [(.double (4607182418800017408 : UInt64)), (.double (4602678819172646912 : UInt64))]) (fun t k => XS.dconst1 X1.here hx rfl (hb hby d3_36) (by decide +kernel) k) ?_
  refine Go.st (T' := T1) (pc' := 38) (L' := #[.val (.ref a1), .val (.int (3 : Int32)), .val (.double (4602678819172646912 : UInt64)), .second, .val (.int (2147483647 : Int32)), .val (.int (1000000 : Int32))]) (S' := [(.int (-1 : Int32))]) (fun t k => XS.dcmpS X1.here hx rfl (hb hby d3_37) rfl (by decide +kernel) k) ?_
  refine Go.st (T' := T1) (pc' := 55) (L' := #[.val (.ref a1), .val (.int (3 : Int32)), .val (.double (4602678819172646912 : UInt64)), .second, .val (.int (2147483647 : Int32)), .val (.int (1000000 : Int32))]) (S' := []) (fun t k => XS.ifYes X1.here hx rfl (pc0 := 38) (pc' := 55) rfl (hb hby d3_38) rfl ((if0 _ _).trans (flt (by decide : ¬ ((0 : Int32) < (-1 : Int32)))).2.2.2) (by decide) (by decide) k) ?_
  refine Go.st (T' := T1) (pc' := 57) (L' := #[.val (.ref a1), .val (.int (3 : Int32)), .val (.double (4602678819172646912 : UInt64)), .second, .val (.int (2147483647 : Int32)), .val (.int (1000000 : Int32))]) (S' := [(.int (2147483647 : Int32))]) (fun t k => XS.iload X1.here hx rfl (hb hby d3_55) rfl  k) ?_
  refine Go.st (T' := T1) (pc' := 75) (L' := #[.val (.ref a1), .val (.int (3 : Int32)), .val (.double (4602678819172646912 : UInt64)), .second, .val (.int (2147483647 : Int32)), .val (.int (1000000 : Int32))]) (S' := []) (fun t k => XS.ifYes X1.here hx rfl (pc0 := 57) (pc' := 75) rfl (hb hby d3_57) rfl ((if0 _ _).trans (flt (by decide : ¬ ((2147483647 : Int32) < (0 : Int32)))).2.1) (by decide) (by decide) k) ?_
  refine Go.st (T' := T1) (pc' := 77) (L' := #[.val (.ref a1), .val (.int (3 : Int32)), .val (.double (4602678819172646912 : UInt64)), .second, .val (.int (2147483647 : Int32)), .val (.int (1000000 : Int32))]) (S' := [(.int (1000000 : Int32))]) (fun t k => XS.iload X1.here hx rfl (hb hby d3_75) rfl  k) ?_
  refine Go.st (T' := T1) (pc' := 78) (L' := #[.val (.ref a1), .val (.int (3 : Int32)), .val (.double (4602678819172646912 : UInt64)), .second, .val (.int (2147483647 : Int32)), .val (.int (1000000 : Int32))]) (S' := [(.int (1 : Int32)), (.int (1000000 : Int32))]) (fun t k => XS.iconst X1.here hx rfl (hb hby d3_77) k) ?_
  refine Go.st (T' := T1) (pc' := 96) (L' := #[.val (.ref a1), .val (.int (3 : Int32)), .val (.double (4602678819172646912 : UInt64)), .second, .val (.int (2147483647 : Int32)), .val (.int (1000000 : Int32))]) (S' := []) (fun t k => XS.icmpYes X1.here hx rfl (pc0 := 78) (pc' := 96) rfl (hb hby d3_78) rfl (flt (by decide : ¬ ((1000000 : Int32) < (1 : Int32)))).2.1 (by decide) (by decide) k) ?_
  refine Go.st (T' := T1) (pc' := 97) (L' := #[.val (.ref a1), .val (.int (3 : Int32)), .val (.double (4602678819172646912 : UInt64)), .second, .val (.int (2147483647 : Int32)), .val (.int (1000000 : Int32))]) (S' := [(.ref a1)]) (fun t k => XS.aloadN X1.here hx rfl (hb hby d3_96) rfl rfl  k) ?_
  refine Go.st (T' := T1) (pc' := 98) (L' := #[.val (.ref a1), .val (.int (3 : Int32)), .val (.double (4602678819172646912 : UInt64)), .second, .val (.int (2147483647 : Int32)), .val (.int (1000000 : Int32))]) (S' := [(.int (3 : Int32)), (.ref a1)]) (fun t k => XS.iloadN X1.here hx rfl (hb hby d3_97) rfl  k) ?_
  obtain ⟨T2, h2, X2, e2, W2, st2⟩ := putF X1 hx hZ hown (host := "") (Or.inl (hw _ (List.mem_of_getElem? (i := 19) rfl))) Via.refl e1 F_maxDiameter E_a1 (Or.inr ⟨(hw _ (List.mem_of_getElem? (i := 20) rfl)), rfl, hnm⟩) (hw _ (List.mem_of_getElem? (i := 6) rfl)) (ty := .int) (by decide) rfl rfl (g := (mkF m 98 #[.val (.ref a1), .val (.int (3 : Int32)), .val (.double (4602678819172646912 : UInt64)), .second, .val (.int (2147483647 : Int32)), .val (.int (1000000 : Int32))] [(.int (3 : Int32)), (.ref a1)])) rfl rfl (hb hby d3_98)
  replace Z0 := Nat.le_trans Z0 (Keep.of_wr W2).1
  replace K0 := K0.wr W2 (Or.inl (List.mem_of_getElem? (i := 0) rfl))
  replace E_a1 := E_a1.wr W2
  replace F_alpha := F_alpha.other W2 (Or.inr (slot_ne (Or.inr (hw _ (List.mem_of_getElem? (i := 22) rfl))) (Or.inr (hw _ (List.mem_of_getElem? (i := 20) rfl))) (by decide) (t := .double) (t' := .int) (by decide) (by decide)))
  replace F_limit := F_limit.other W2 (Or.inr (slot_ne (Or.inr (hw _ (List.mem_of_getElem? (i := 24) rfl))) (Or.inr (hw _ (List.mem_of_getElem? (i := 20) rfl))) (by decide) (t := .int) (t' := .int) (by decide) (by decide)))
  replace F_maxResults := F_maxResults.other W2 (Or.inr (slot_ne (Or.inr (hw _ (List.mem_of_getElem? (i := 26) rfl))) (Or.inr (hw _ (List.mem_of_getElem? (i := 20) rfl))) (by decide) (t := .int) (t' := .int) (by decide) (by decide)))
  replace F_maxDiameter := F_maxDiameter.same W2
  have N2 := Fr.snoc X2 N0 g_a1
  refine Go.st (T' := T2) (pc' := 101) (L' := #[.val (.ref a1), .val (.int (3 : Int32)), .val (.double (4602678819172646912 : UInt64)), .second, .val (.int (2147483647 : Int32)), .val (.int (1000000 : Int32))]) (S' := []) st2 ?_
  refine Go.st (T' := T2) (pc' := 102) (L' := #[.val (.ref a1), .val (.int (3 : Int32)), .val (.double (4602678819172646912 : UInt64)), .second, .val (.int (2147483647 : Int32)), .val (.int (1000000 : Int32))]) (S' := [(.ref a1)]) (fun t k => XS.aloadN X2.here hx rfl (hb hby d3_101) rfl rfl  k) ?_
  refine Go.st (T' := T2) (pc' := 103) (L' := #[.val (.ref a1), .val (.int (3 : Int32)), .val (.double (4602678819172646912 : UInt64)), .second, .val (.int (2147483647 : Int32)), .val (.int (1000000 : Int32))]) (S' := [(.double (4602678819172646912 : UInt64)), (.ref a1)]) (fun t k => XS.dloadN X2.here hx rfl (hb hby d3_102) rfl  k) ?_
  obtain ⟨T3, h3, X3, e3, W3, st3⟩ := putF X2 hx hZ hown (host := "") (Or.inl (hw _ (List.mem_of_getElem? (i := 21) rfl))) Via.refl e2 F_alpha E_a1 (Or.inr ⟨(hw _ (List.mem_of_getElem? (i := 22) rfl)), rfl, hnm⟩) (hw _ (List.mem_of_getElem? (i := 6) rfl)) (ty := .double) (by decide) rfl rfl (g := (mkF m 103 #[.val (.ref a1), .val (.int (3 : Int32)), .val (.double (4602678819172646912 : UInt64)), .second, .val (.int (2147483647 : Int32)), .val (.int (1000000 : Int32))] [(.double (4602678819172646912 : UInt64)), (.ref a1)])) rfl rfl (hb hby d3_103)
  replace Z0 := Nat.le_trans Z0 (Keep.of_wr W3).1
  replace K0 := K0.wr W3 (Or.inl (List.mem_of_getElem? (i := 0) rfl))
  replace E_a1 := E_a1.wr W3
  replace F_maxDiameter := F_maxDiameter.other W3 (Or.inr (slot_ne (Or.inr (hw _ (List.mem_of_getElem? (i := 20) rfl))) (Or.inr (hw _ (List.mem_of_getElem? (i := 22) rfl))) (by decide) (t := .int) (t' := .double) (by decide) (by decide)))
  replace F_limit := F_limit.other W3 (Or.inr (slot_ne (Or.inr (hw _ (List.mem_of_getElem? (i := 24) rfl))) (Or.inr (hw _ (List.mem_of_getElem? (i := 22) rfl))) (by decide) (t := .int) (t' := .double) (by decide) (by decide)))
  replace F_maxResults := F_maxResults.other W3 (Or.inr (slot_ne (Or.inr (hw _ (List.mem_of_getElem? (i := 26) rfl))) (Or.inr (hw _ (List.mem_of_getElem? (i := 22) rfl))) (by decide) (t := .int) (t' := .double) (by decide) (by decide)))
  replace F_alpha := F_alpha.same W3
  have N3 := Fr.snoc X3 N2 g_a1
  refine Go.st (T' := T3) (pc' := 106) (L' := #[.val (.ref a1), .val (.int (3 : Int32)), .val (.double (4602678819172646912 : UInt64)), .second, .val (.int (2147483647 : Int32)), .val (.int (1000000 : Int32))]) (S' := []) st3 ?_
  refine Go.st (T' := T3) (pc' := 107) (L' := #[.val (.ref a1), .val (.int (3 : Int32)), .val (.double (4602678819172646912 : UInt64)), .second, .val (.int (2147483647 : Int32)), .val (.int (1000000 : Int32))]) (S' := [(.ref a1)]) (fun t k => XS.aloadN X3.here hx rfl (hb hby d3_106) rfl rfl  k) ?_
  refine Go.st (T' := T3) (pc' := 109) (L' := #[.val (.ref a1), .val (.int (3 : Int32)), .val (.double (4602678819172646912 : UInt64)), .second, .val (.int (2147483647 : Int32)), .val (.int (1000000 : Int32))]) (S' := [(.int (2147483647 : Int32)), (.ref a1)]) (fun t k => XS.iload X3.here hx rfl (hb hby d3_107) rfl  k) ?_
  obtain ⟨T4, h4, X4, e4, W4, st4⟩ := putF X3 hx hZ hown (host := "") (Or.inl (hw _ (List.mem_of_getElem? (i := 23) rfl))) Via.refl e3 F_limit E_a1 (Or.inr ⟨(hw _ (List.mem_of_getElem? (i := 24) rfl)), rfl, hnm⟩) (hw _ (List.mem_of_getElem? (i := 6) rfl)) (ty := .int) (by decide) rfl rfl (g := (mkF m 109 #[.val (.ref a1), .val (.int (3 : Int32)), .val (.double (4602678819172646912 : UInt64)), .second, .val (.int (2147483647 : Int32)), .val (.int (1000000 : Int32))] [(.int (2147483647 : Int32)), (.ref a1)])) rfl rfl (hb hby d3_109)
  replace Z0 := Nat.le_trans Z0 (Keep.of_wr W4).1
  replace K0 := K0.wr W4 (Or.inl (List.mem_of_getElem? (i := 0) rfl))
  replace E_a1 := E_a1.wr W4
  replace F_maxDiameter := F_maxDiameter.other W4 (Or.inr (slot_ne (Or.inr (hw _ (List.mem_of_getElem? (i := 20) rfl))) (Or.inr (hw _ (List.mem_of_getElem? (i := 24) rfl))) (by decide) (t := .int) (t' := .int) (by decide) (by decide)))
  replace F_alpha := F_alpha.other W4 (Or.inr (slot_ne (Or.inr (hw _ (List.mem_of_getElem? (i := 22) rfl))) (Or.inr (hw _ (List.mem_of_getElem? (i := 24) rfl))) (by decide) (t := .double) (t' := .int) (by decide) (by decide)))
  replace F_maxResults := F_maxResults.other W4 (Or.inr (slot_ne (Or.inr (hw _ (List.mem_of_getElem? (i := 26) rfl))) (Or.inr (hw _ (List.mem_of_getElem? (i := 24) rfl))) (by decide) (t := .int) (t' := .int) (by decide) (by decide)))
  replace F_limit := F_limit.same W4
  have N4 := Fr.snoc X4 N3 g_a1
  refine Go.st (T' := T4) (pc' := 112) (L' := #[.val (.ref a1), .val (.int (3 : Int32)), .val (.double (4602678819172646912 : UInt64)), .second, .val (.int (2147483647 : Int32)), .val (.int (1000000 : Int32))]) (S' := []) st4 ?_
  refine Go.st (T' := T4) (pc' := 113) (L' := #[.val (.ref a1), .val (.int (3 : Int32)), .val (.double (4602678819172646912 : UInt64)), .second, .val (.int (2147483647 : Int32)), .val (.int (1000000 : Int32))]) (S' := [(.ref a1)]) (fun t k => XS.aloadN X4.here hx rfl (hb hby d3_112) rfl rfl  k) ?_
  refine Go.st (T' := T4) (pc' := 115) (L' := #[.val (.ref a1), .val (.int (3 : Int32)), .val (.double (4602678819172646912 : UInt64)), .second, .val (.int (2147483647 : Int32)), .val (.int (1000000 : Int32))]) (S' := [(.int (1000000 : Int32)), (.ref a1)]) (fun t k => XS.iload X4.here hx rfl (hb hby d3_113) rfl  k) ?_
  obtain ⟨T5, h5, X5, e5, W5, st5⟩ := putF X4 hx hZ hown (host := "") (Or.inl (hw _ (List.mem_of_getElem? (i := 25) rfl))) Via.refl e4 F_maxResults E_a1 (Or.inr ⟨(hw _ (List.mem_of_getElem? (i := 26) rfl)), rfl, hnm⟩) (hw _ (List.mem_of_getElem? (i := 6) rfl)) (ty := .int) (by decide) rfl rfl (g := (mkF m 115 #[.val (.ref a1), .val (.int (3 : Int32)), .val (.double (4602678819172646912 : UInt64)), .second, .val (.int (2147483647 : Int32)), .val (.int (1000000 : Int32))] [(.int (1000000 : Int32)), (.ref a1)])) rfl rfl (hb hby d3_115)
  replace Z0 := Nat.le_trans Z0 (Keep.of_wr W5).1
  replace K0 := K0.wr W5 (Or.inl (List.mem_of_getElem? (i := 0) rfl))
  replace E_a1 := E_a1.wr W5
  replace F_maxDiameter := F_maxDiameter.other W5 (Or.inr (slot_ne (Or.inr (hw _ (List.mem_of_getElem? (i := 20) rfl))) (Or.inr (hw _ (List.mem_of_getElem? (i := 26) rfl))) (by decide) (t := .int) (t' := .int) (by decide) (by decide)))
  replace F_alpha := F_alpha.other W5 (Or.inr (slot_ne (Or.inr (hw _ (List.mem_of_getElem? (i := 22) rfl))) (Or.inr (hw _ (List.mem_of_getElem? (i := 26) rfl))) (by decide) (t := .double) (t' := .int) (by decide) (by decide)))
  replace F_limit := F_limit.other W5 (Or.inr (slot_ne (Or.inr (hw _ (List.mem_of_getElem? (i := 24) rfl))) (Or.inr (hw _ (List.mem_of_getElem? (i := 26) rfl))) (by decide) (t := .int) (t' := .int) (by decide) (by decide)))
  replace F_maxResults := F_maxResults.same W5
  have N5 := Fr.snoc X5 N4 g_a1
  refine Go.st (T' := T5) (pc' := 118) (L' := #[.val (.ref a1), .val (.int (3 : Int32)), .val (.double (4602678819172646912 : UInt64)), .second, .val (.int (2147483647 : Int32)), .val (.int (1000000 : Int32))]) (S' := []) st5 ?_
  exact Go.retV X5 hx hlk hret (hb hby d3_118) (by decide) (by decide) (by rw [e5]; exact ⟨rfl, N5, K0, F_maxDiameter, F_alpha, F_limit, F_maxResults⟩)
theorem d2_0 : decode prog_29_method_1_code 0 = .ok (.aload_n 0, 1) := by decide +kernel
theorem d2_1 : decode prog_29_method_1_code 1 = .ok (.iload_n 1, 1) := by decide +kernel
theorem d2_2 : decode prog_29_method_1_code 2 = .ok (.dload_n 2, 1) := by decide +kernel
theorem d2_3 : decode prog_29_method_1_code 3 = .ok (.iload 4, 2) := by decide +kernel
theorem d2_5 : decode prog_29_method_1_code 5 = .ok (.ldc 5, 2) := by decide +kernel
theorem d2_7 : decode prog_29_method_1_code 7 = .ok (.invokespecial 6, 3) := by decide +kernel
theorem d2_10 : decode prog_29_method_1_code 10 = .ok (.return_, 1) := by decide +kernel
theorem pd_0 : parseMethodDescriptor "(IDII)V" = some ⟨[.int, .double, .int, .int], none⟩ := by decide +kernel
def Q2 (Z : State) (a1 : Addr) (h0 : Heap) (n0 : Nat) (v : Option Value) (h : Heap) (L : List Loc) : Prop := v = none ∧ Fr n0 L ∧ Keep h0 h [a1] ∧ Fld Z h a1 "com/example/traversal/traversal/explore/SerendipityParameters" "maxDiameter" "I" (.int (3 : Int32)) ∧ Fld Z h a1 "com/example/traversal/traversal/explore/SerendipityParameters" "alpha" "D" (.double (4602678819172646912 : UInt64)) ∧ Fld Z h a1 "com/example/traversal/traversal/explore/SerendipityParameters" "limit" "I" (.int (2147483647 : Int32)) ∧ Fld Z h a1 "com/example/traversal/traversal/explore/SerendipityParameters" "maxResults" "I" (.int (1000000 : Int32))
def room2 : Room := { frames := 2, cells := 0, slots := 0, locals := 29 }
set_option maxRecDepth 65536 in
set_option maxHeartbeats 40000000 in
theorem rm2 (l : Launch) (Z : State) (a0 : Array Value) (hw : ∀ d ∈ tables_1, d.before a0 Z = true) (ws : List Jvm.Cond) (a1 : Addr) (h0 : Heap) (n0 : Nat) (Z0 : n0 ≤ h0.size) (E_a1 : Exa Z h0 a1 "com/example/traversal/traversal/explore/SerendipityParameters") (g_a1 : n0 ≤ a1) (F_maxDiameter : Fld Z h0 a1 "com/example/traversal/traversal/explore/SerendipityParameters" "maxDiameter" "I" (.int (0 : Int32))) (F_alpha : Fld Z h0 a1 "com/example/traversal/traversal/explore/SerendipityParameters" "alpha" "D" (.double (0 : UInt64))) (F_limit : Fld Z h0 a1 "com/example/traversal/traversal/explore/SerendipityParameters" "limit" "I" (.int (0 : Int32))) (F_maxResults : Fld Z h0 a1 "com/example/traversal/traversal/explore/SerendipityParameters" "maxResults" "I" (.int (0 : Int32))) :
    MetFree l (⟨"com/example/traversal/traversal/explore/SerendipityParameters", "<init>", "(IDI)V"⟩ : MethodName) (head1 (Jvm.Cond.code (⟨"com/example/traversal/traversal/explore/SerendipityParameters", "<init>", "(IDI)V"⟩ : MethodName) prog_29_method_1_code 5 none :: ws) room2) (fun a U => a = #[(.ref a1), (.int (3 : Int32)), (.double (4602678819172646912 : UInt64)), (.int (2147483647 : Int32))] ∧ Z.Warmed39 U.vm ∧ U.heap = h0) (fun _ _ _ _ _ => True) (fun _ U o U' => ∃ v L, o = .returned v ∧ (Q2 Z a1 h0 n0) v U'.heap L ∧ FrameEnd U o U' L room2.cells room2.slots) := by
  refine own_met (Q := (Q2 Z a1 h0 n0)) (L0 := #[.val (.ref a1), .val (.int (3 : Int32)), .val (.double (4602678819172646912 : UInt64)), .second, .val (.int (2147483647 : Int32))]) (plainFor_of_name pn_0) (fun m => by first | (simp [entryFrame, mkF, argsToLocals, Value.category]; done) | rfl) ?_
  intro p e s m below meth c T0 X0 hx hby hml hown hnm hret hlk hZ e0
  have N0 := Fr.nil n0
  have K0 := Keep.refl h0 [a1]
  refine Go.st (T' := T0) (pc' := 1) (L' := #[.val (.ref a1), .val (.int (3 : Int32)), .val (.double (4602678819172646912 : UInt64)), .second, .val (.int (2147483647 : Int32))]) (S' := [(.ref a1)]) (fun t k => XS.aloadN X0.here hx rfl (hb hby d2_0) rfl rfl  k) ?_
  refine Go.st (T' := T0) (pc' := 2) (L' := #[.val (.ref a1), .val (.int (3 : Int32)), .val (.double (4602678819172646912 : UInt64)), .second, .val (.int (2147483647 : Int32))]) (S' := [(.int (3 : Int32)), (.ref a1)]) (fun t k => XS.iloadN X0.here hx rfl (hb hby d2_1) rfl  k) ?_
  refine Go.st (T' := T0) (pc' := 3) (L' := #[.val (.ref a1), .val (.int (3 : Int32)), .val (.double (4602678819172646912 : UInt64)), .second, .val (.int (2147483647 : Int32))]) (S' := [(.double (4602678819172646912 : UInt64)), (.int (3 : Int32)), (.ref a1)]) (fun t k => XS.dloadN X0.here hx rfl (hb hby d2_2) rfl  k) ?_
  refine Go.st (T' := T0) (pc' := 5) (L' := #[.val (.ref a1), .val (.int (3 : Int32)), .val (.double (4602678819172646912 : UInt64)), .second, .val (.int (2147483647 : Int32))]) (S' := [(.int (2147483647 : Int32)), (.double (4602678819172646912 : UInt64)), (.int (3 : Int32)), (.ref a1)]) (fun t k => XS.iload X0.here hx rfl (hb hby d2_3) rfl  k) ?_
  refine Go.st (T' := T0) (pc' := 7) (L' := #[.val (.ref a1), .val (.int (3 : Int32)), .val (.double (4602678819172646912 : UInt64)), .second, .val (.int (2147483647 : Int32))]) (S' := [(.int (1000000 : Int32)), (.int (2147483647 : Int32)), (.double (4602678819172646912 : UInt64)), (.int (3 : Int32)), (.ref a1)]) (fun t k => X0.ldcInt hx hown (mvT hZ (hw _ (List.mem_of_getElem? (i := 12) rfl))) (g := (mkF m 5 #[.val (.ref a1), .val (.int (3 : Int32)), .val (.double (4602678819172646912 : UInt64)), .second, .val (.int (2147483647 : Int32))] [(.int (2147483647 : Int32)), (.double (4602678819172646912 : UInt64)), (.int (3 : Int32)), (.ref a1)])) rfl (hb hby d2_5) t k) ?_
  obtain ⟨_, _, ⟨T1, L1, k1, n1⟩, -, X1, ⟨Lc1, hQ1, l1, y1, z1⟩, st1⟩ := X0.specialBack hx (y := (⟨"com/example/traversal/traversal/explore/SerendipityParameters", "<init>", "(IDII)V"⟩ : MethodName)) rfl hown (mvT hZ (hw _ (List.mem_of_getElem? (i := 13) rfl))) (mvT hZ (hw _ (List.mem_of_getElem? (i := 14) rfl))) (mvT hZ (hw _ (List.mem_of_getElem? (i := 15) rfl))) (by decide) (backOf (W := 0) (rm3 l Z a0 hw [] a1 h0 n0 Z0 E_a1 g_a1 F_maxDiameter F_alpha F_limit F_maxResults) hZ (hw _ (List.mem_of_getElem? (i := 15) rfl)) (hw _ (List.mem_of_getElem? (i := 3) rfl)) (by decide) (by decide)) (g := (mkF m 7 #[.val (.ref a1), .val (.int (3 : Int32)), .val (.double (4602678819172646912 : UInt64)), .second, .val (.int (2147483647 : Int32))] [(.int (1000000 : Int32)), (.int (2147483647 : Int32)), (.double (4602678819172646912 : UInt64)), (.int (3 : Int32)), (.ref a1)])) rfl (by rw [hml]; rfl) (Steps.refl _) (a := a1) (argsL := [(.int (3 : Int32)), (.double (4602678819172646912 : UInt64)), (.int (2147483647 : Int32)), (.int (1000000 : Int32))]) (rest := []) (lenOf pd_0 rfl) rfl (by show 2 * 0 + _ ≤ _; exact Nat.le_of_eq rfl) (hb hby d2_7) (fun _ _ => ⟨rfl, e0, (by decide : 0 + 0 ≤ _), (by decide : 0 + 0 ≤ _)⟩)
  dsimp only [Pt.U, Pt.locs, Pt.cells, Pt.slots] at X1 l1 y1 z1 st1 hQ1
  subst l1 y1 z1
  obtain ⟨rfl, N1q, K1, G1_maxDiameter, G1_alpha, G1_limit, G1_maxResults⟩ := hQ1
  have N1 := Fr.app N0 N1q
  obtain ⟨h1, e1⟩ : ∃ z, T1.heap = z := ⟨_, rfl⟩
  rw [e1] at K1 G1_maxDiameter G1_alpha G1_limit G1_maxResults
  replace Z0 := Nat.le_trans Z0 K1.1
  replace K0 := K0.trans K1 (allS (Or.inl (List.mem_of_getElem? (i := 0) rfl)) all0)
  replace E_a1 := E_a1.keep K1
  refine Go.tr (T' := T1) (pc' := 10) (L' := #[.val (.ref a1), .val (.int (3 : Int32)), .val (.double (4602678819172646912 : UInt64)), .second, .val (.int (2147483647 : Int32))]) (S' := []) st1 ?_
  exact Go.retV X1 hx hlk hret (hb hby d2_10) (by decide) (by decide) (by rw [e1]; exact ⟨rfl, N1, K0, G1_maxDiameter, G1_alpha, G1_limit, G1_maxResults⟩)
theorem d5_0 : decode prog_29_method_4_code 0 = .ok (.aload_n 0, 1) := by decide +kernel
theorem d5_1 : decode prog_29_method_4_code 1 = .ok (.getfield 29, 3) := by decide +kernel
theorem d5_4 : decode prog_29_method_4_code 4 = .ok (.ireturn, 1) := by decide +kernel
def Q5 (Z : State) (a1 : Addr) (x1 : Int32) (h0 : Heap) (n0 : Nat) (v : Option Value) (h : Heap) (L : List Loc) : Prop := v = some (.int x1) ∧ Fr n0 L ∧ h = h0
def room5 : Room := { frames := 0, cells := 0, slots := 0, locals := 0 }
set_option maxRecDepth 65536 in
set_option maxHeartbeats 40000000 in
theorem rm5 (l : Launch) (Z : State) (a0 : Array Value) (hw : ∀ d ∈ tables_1, d.before a0 Z = true) (ws : List Jvm.Cond) (a1 : Addr) (x1 : Int32) (h0 : Heap) (n0 : Nat) (Z0 : n0 ≤ h0.size) (F1 : Fld Z h0 a1 "com/example/traversal/traversal/explore/SerendipityParameters" "maxDiameter" "I" (.int x1)) :
    MetFree l (⟨"com/example/traversal/traversal/explore/SerendipityParameters", "maxDiameter", "()I"⟩ : MethodName) (head1 (Jvm.Cond.code (⟨"com/example/traversal/traversal/explore/SerendipityParameters", "maxDiameter", "()I"⟩ : MethodName) prog_29_method_4_code 1 (some .int) :: ws) room5) (fun a U => a = #[(.ref a1)] ∧ Z.Warmed39 U.vm ∧ U.heap = h0) (fun _ _ _ _ _ => True) (fun _ U o U' => ∃ v L, o = .returned v ∧ (Q5 Z a1 x1 h0 n0) v U'.heap L ∧ FrameEnd U o U' L room5.cells room5.slots) := by
  refine own_met (Q := (Q5 Z a1 x1 h0 n0)) (L0 := #[.val (.ref a1)]) (plainFor_of_name pn_0) (fun m => by first | (simp [entryFrame, mkF, argsToLocals, Value.category]; done) | rfl) ?_
  intro p e s m below meth c T0 X0 hx hby hml hown hnm hret hlk hZ e0
  have N0 := Fr.nil n0
  refine Go.st (T' := T0) (pc' := 1) (L' := #[.val (.ref a1)]) (S' := [(.ref a1)]) (fun t k => XS.aloadN X0.here hx rfl (hb hby d5_0) rfl rfl  k) ?_
  obtain ⟨T1, X1, e1, st1⟩ := getF X0 hx hZ hown (host := "") (Or.inl (hw _ (List.mem_of_getElem? (i := 19) rfl))) Via.refl e0 F1 (g := (mkF m 1 #[.val (.ref a1)] [(.ref a1)])) rfl rfl (hb hby d5_1)
  refine Go.st (T' := T1) (pc' := 4) (L' := #[.val (.ref a1)]) (S' := [(.int x1)]) st1 ?_
  exact Go.retO X1 hx hlk hret rfl (by simp [FieldType.isReference, Value.isRef]) (hb hby d5_4) (by decide) (by decide) (by rw [e1]; exact ⟨rfl, N0, rfl⟩)
theorem d6_0 : decode prog_29_method_5_code 0 = .ok (.aload_n 0, 1) := by decide +kernel
theorem d6_1 : decode prog_29_method_5_code 1 = .ok (.getfield 33, 3) := by decide +kernel
theorem d6_4 : decode prog_29_method_5_code 4 = .ok (.dreturn, 1) := by decide +kernel
def Q6 (Z : State) (a1 : Addr) (x1 : UInt64) (h0 : Heap) (n0 : Nat) (v : Option Value) (h : Heap) (L : List Loc) : Prop := v = some (.double x1) ∧ Fr n0 L ∧ h = h0
def room6 : Room := { frames := 0, cells := 0, slots := 0, locals := 0 }
set_option maxRecDepth 65536 in
set_option maxHeartbeats 40000000 in
theorem rm6 (l : Launch) (Z : State) (a0 : Array Value) (hw : ∀ d ∈ tables_1, d.before a0 Z = true) (ws : List Jvm.Cond) (a1 : Addr) (x1 : UInt64) (h0 : Heap) (n0 : Nat) (Z0 : n0 ≤ h0.size) (F1 : Fld Z h0 a1 "com/example/traversal/traversal/explore/SerendipityParameters" "alpha" "D" (.double x1)) :
    MetFree l (⟨"com/example/traversal/traversal/explore/SerendipityParameters", "alpha", "()D"⟩ : MethodName) (head1 (Jvm.Cond.code (⟨"com/example/traversal/traversal/explore/SerendipityParameters", "alpha", "()D"⟩ : MethodName) prog_29_method_5_code 1 (some .double) :: ws) room6) (fun a U => a = #[(.ref a1)] ∧ Z.Warmed39 U.vm ∧ U.heap = h0) (fun _ _ _ _ _ => True) (fun _ U o U' => ∃ v L, o = .returned v ∧ (Q6 Z a1 x1 h0 n0) v U'.heap L ∧ FrameEnd U o U' L room6.cells room6.slots) := by
  refine own_met (Q := (Q6 Z a1 x1 h0 n0)) (L0 := #[.val (.ref a1)]) (plainFor_of_name pn_0) (fun m => by first | (simp [entryFrame, mkF, argsToLocals, Value.category]; done) | rfl) ?_
  intro p e s m below meth c T0 X0 hx hby hml hown hnm hret hlk hZ e0
  have N0 := Fr.nil n0
  refine Go.st (T' := T0) (pc' := 1) (L' := #[.val (.ref a1)]) (S' := [(.ref a1)]) (fun t k => XS.aloadN X0.here hx rfl (hb hby d6_0) rfl rfl  k) ?_
  obtain ⟨T1, X1, e1, st1⟩ := getF X0 hx hZ hown (host := "") (Or.inl (hw _ (List.mem_of_getElem? (i := 21) rfl))) Via.refl e0 F1 (g := (mkF m 1 #[.val (.ref a1)] [(.ref a1)])) rfl rfl (hb hby d6_1)
  refine Go.st (T' := T1) (pc' := 4) (L' := #[.val (.ref a1)]) (S' := [(.double x1)]) st1 ?_
  exact Go.retO X1 hx hlk hret rfl (by simp [FieldType.isReference, Value.isRef]) (hb hby d6_4) (by decide) (by decide) (by rw [e1]; exact ⟨rfl, N0, rfl⟩)
theorem d7_0 : decode prog_29_method_6_code 0 = .ok (.aload_n 0, 1) := by decide +kernel
theorem d7_1 : decode prog_29_method_6_code 1 = .ok (.getfield 37, 3) := by decide +kernel
theorem d7_4 : decode prog_29_method_6_code 4 = .ok (.ireturn, 1) := by decide +kernel
def Q7 (Z : State) (a1 : Addr) (x1 : Int32) (h0 : Heap) (n0 : Nat) (v : Option Value) (h : Heap) (L : List Loc) : Prop := v = some (.int x1) ∧ Fr n0 L ∧ h = h0
def room7 : Room := { frames := 0, cells := 0, slots := 0, locals := 0 }
set_option maxRecDepth 65536 in
set_option maxHeartbeats 40000000 in
theorem rm7 (l : Launch) (Z : State) (a0 : Array Value) (hw : ∀ d ∈ tables_1, d.before a0 Z = true) (ws : List Jvm.Cond) (a1 : Addr) (x1 : Int32) (h0 : Heap) (n0 : Nat) (Z0 : n0 ≤ h0.size) (F1 : Fld Z h0 a1 "com/example/traversal/traversal/explore/SerendipityParameters" "limit" "I" (.int x1)) :
    MetFree l (⟨"com/example/traversal/traversal/explore/SerendipityParameters", "limit", "()I"⟩ : MethodName) (head1 (Jvm.Cond.code (⟨"com/example/traversal/traversal/explore/SerendipityParameters", "limit", "()I"⟩ : MethodName) prog_29_method_6_code 1 (some .int) :: ws) room7) (fun a U => a = #[(.ref a1)] ∧ Z.Warmed39 U.vm ∧ U.heap = h0) (fun _ _ _ _ _ => True) (fun _ U o U' => ∃ v L, o = .returned v ∧ (Q7 Z a1 x1 h0 n0) v U'.heap L ∧ FrameEnd U o U' L room7.cells room7.slots) := by
  refine own_met (Q := (Q7 Z a1 x1 h0 n0)) (L0 := #[.val (.ref a1)]) (plainFor_of_name pn_0) (fun m => by first | (simp [entryFrame, mkF, argsToLocals, Value.category]; done) | rfl) ?_
  intro p e s m below meth c T0 X0 hx hby hml hown hnm hret hlk hZ e0
  have N0 := Fr.nil n0
  refine Go.st (T' := T0) (pc' := 1) (L' := #[.val (.ref a1)]) (S' := [(.ref a1)]) (fun t k => XS.aloadN X0.here hx rfl (hb hby d7_0) rfl rfl  k) ?_
  obtain ⟨T1, X1, e1, st1⟩ := getF X0 hx hZ hown (host := "") (Or.inl (hw _ (List.mem_of_getElem? (i := 23) rfl))) Via.refl e0 F1 (g := (mkF m 1 #[.val (.ref a1)] [(.ref a1)])) rfl rfl (hb hby d7_1)
  refine Go.st (T' := T1) (pc' := 4) (L' := #[.val (.ref a1)]) (S' := [(.int x1)]) st1 ?_
  exact Go.retO X1 hx hlk hret rfl (by simp [FieldType.isReference, Value.isRef]) (hb hby d7_4) (by decide) (by decide) (by rw [e1]; exact ⟨rfl, N0, rfl⟩)
theorem d8_0 : decode prog_29_method_7_code 0 = .ok (.aload_n 0, 1) := by decide +kernel
theorem d8_1 : decode prog_29_method_7_code 1 = .ok (.getfield 40, 3) := by decide +kernel
theorem d8_4 : decode prog_29_method_7_code 4 = .ok (.ireturn, 1) := by decide +kernel
def Q8 (Z : State) (a1 : Addr) (x1 : Int32) (h0 : Heap) (n0 : Nat) (v : Option Value) (h : Heap) (L : List Loc) : Prop := v = some (.int x1) ∧ Fr n0 L ∧ h = h0
def room8 : Room := { frames := 0, cells := 0, slots := 0, locals := 0 }
set_option maxRecDepth 65536 in
set_option maxHeartbeats 40000000 in
theorem rm8 (l : Launch) (Z : State) (a0 : Array Value) (hw : ∀ d ∈ tables_1, d.before a0 Z = true) (ws : List Jvm.Cond) (a1 : Addr) (x1 : Int32) (h0 : Heap) (n0 : Nat) (Z0 : n0 ≤ h0.size) (F1 : Fld Z h0 a1 "com/example/traversal/traversal/explore/SerendipityParameters" "maxResults" "I" (.int x1)) :
    MetFree l (⟨"com/example/traversal/traversal/explore/SerendipityParameters", "maxResults", "()I"⟩ : MethodName) (head1 (Jvm.Cond.code (⟨"com/example/traversal/traversal/explore/SerendipityParameters", "maxResults", "()I"⟩ : MethodName) prog_29_method_7_code 1 (some .int) :: ws) room8) (fun a U => a = #[(.ref a1)] ∧ Z.Warmed39 U.vm ∧ U.heap = h0) (fun _ _ _ _ _ => True) (fun _ U o U' => ∃ v L, o = .returned v ∧ (Q8 Z a1 x1 h0 n0) v U'.heap L ∧ FrameEnd U o U' L room8.cells room8.slots) := by
  refine own_met (Q := (Q8 Z a1 x1 h0 n0)) (L0 := #[.val (.ref a1)]) (plainFor_of_name pn_0) (fun m => by first | (simp [entryFrame, mkF, argsToLocals, Value.category]; done) | rfl) ?_
  intro p e s m below meth c T0 X0 hx hby hml hown hnm hret hlk hZ e0
  have N0 := Fr.nil n0
  refine Go.st (T' := T0) (pc' := 1) (L' := #[.val (.ref a1)]) (S' := [(.ref a1)]) (fun t k => XS.aloadN X0.here hx rfl (hb hby d8_0) rfl rfl  k) ?_
  obtain ⟨T1, X1, e1, st1⟩ := getF X0 hx hZ hown (host := "") (Or.inl (hw _ (List.mem_of_getElem? (i := 25) rfl))) Via.refl e0 F1 (g := (mkF m 1 #[.val (.ref a1)] [(.ref a1)])) rfl rfl (hb hby d8_1)
  refine Go.st (T' := T1) (pc' := 4) (L' := #[.val (.ref a1)]) (S' := [(.int x1)]) st1 ?_
  exact Go.retO X1 hx hlk hret rfl (by simp [FieldType.isReference, Value.isRef]) (hb hby d8_4) (by decide) (by decide) (by rw [e1]; exact ⟨rfl, N0, rfl⟩)
theorem d1_0 : decode prog_29_method_3_code 0 = .ok (.new 3, 3) := by decide +kernel
theorem d1_3 : decode prog_29_method_3_code 3 = .ok (.dup, 1) := by decide +kernel
theorem d1_4 : decode prog_29_method_3_code 4 = .ok (.iconst 3, 1) := by decide +kernel
theorem d1_5 : decode prog_29_method_3_code 5 = .ok (.ldc2_w 43, 3) := by decide +kernel
theorem d1_8 : decode prog_29_method_3_code 8 = .ok (.ldc 47, 2) := by decide +kernel
theorem d1_10 : decode prog_29_method_3_code 10 = .ok (.invokespecial 48, 3) := by decide +kernel
theorem d1_13 : decode prog_29_method_3_code 13 = .ok (.areturn, 1) := by decide +kernel
theorem pd_1 : parseMethodDescriptor "(IDI)V" = some ⟨[.int, .double, .int], none⟩ := by decide +kernel
def Q1 (Z : State)  (h0 : Heap) (n0 : Nat) (v : Option Value) (h : Heap) (L : List Loc) : Prop := ∃ b : Addr, v = some (.ref b) ∧ Fr n0 L ∧ Keep h0 h [] ∧ n0 ≤ b ∧ Exa Z h b "com/example/traversal/traversal/explore/SerendipityParameters" ∧ Fld Z h b "com/example/traversal/traversal/explore/SerendipityParameters" "maxDiameter" "I" (.int (3 : Int32)) ∧ Fld Z h b "com/example/traversal/traversal/explore/SerendipityParameters" "alpha" "D" (.double (4602678819172646912 : UInt64)) ∧ Fld Z h b "com/example/traversal/traversal/explore/SerendipityParameters" "limit" "I" (.int (2147483647 : Int32)) ∧ Fld Z h b "com/example/traversal/traversal/explore/SerendipityParameters" "maxResults" "I" (.int (1000000 : Int32))
def room1 : Room := { frames := 3, cells := 1, slots := 4, locals := 46 }
set_option maxRecDepth 65536 in
set_option maxHeartbeats 40000000 in
theorem rm1 (l : Launch) (Z : State) (a0 : Array Value) (hw : ∀ d ∈ tables_1, d.before a0 Z = true) (ws : List Jvm.Cond)  (h0 : Heap) (n0 : Nat) (Z0 : n0 ≤ h0.size)  :
    MetFree l (⟨"com/example/traversal/traversal/explore/SerendipityParameters", "defaults", "()Lcom/example/traversal/traversal/explore/SerendipityParameters;"⟩ : MethodName) (head1 (Jvm.Cond.code (⟨"com/example/traversal/traversal/explore/SerendipityParameters", "defaults", "()Lcom/example/traversal/traversal/explore/SerendipityParameters;"⟩ : MethodName) prog_29_method_3_code 0 (some (.object "com/example/traversal/traversal/explore/SerendipityParameters")) :: ws) room1) (fun a U => a = #[] ∧ Z.Warmed39 U.vm ∧ U.heap = h0) (fun _ _ _ _ _ => True) (fun _ U o U' => ∃ v L, o = .returned v ∧ (Q1 Z  h0 n0) v U'.heap L ∧ FrameEnd U o U' L room1.cells room1.slots) := by
  refine own_met (Q := (Q1 Z  h0 n0)) (L0 := #[]) (plainFor_of_name pn_0) (fun m => by first | (simp [entryFrame, mkF, argsToLocals, Value.category]; done) | rfl) ?_
  intro p e s m below meth c T0 X0 hx hby hml hown hnm hret hlk hZ e0
  have N0 := Fr.nil n0
  have K0 := Keep.refl h0 []
  obtain ⟨T1, h1, X1, e1, E1, A1, D1, U1, st1⟩ := newO X0 hx hZ hown (hw _ (List.mem_of_getElem? (i := 5) rfl)) (hw _ (List.mem_of_getElem? (i := 6) rfl)) (hw _ (List.mem_of_getElem? (i := 3) rfl)) e0 (g := (mkF m 0 #[] [])) rfl (hb hby d1_0) (by decide) (by decide)
  obtain ⟨b1, g1⟩ : ∃ z, z = h0.size := ⟨_, rfl⟩
  rw [← g1] at A1 D1 U1 st1
  have g_b1 : n0 ≤ b1 := Nat.le_trans Z0 (Nat.le_of_eq g1.symm)
  have sz_b1 : h0.size ≤ b1 := Nat.le_trans K0.1 (Nat.le_of_eq g1.symm)
  replace Z0 := Nat.le_trans Z0 E1.1
  replace K0 := K0.ext E1
  have E_b1 := A1
  have F_b1_maxDiameter : Fld Z h1 b1 "com/example/traversal/traversal/explore/SerendipityParameters" "maxDiameter" "I" (.int (0 : Int32)) := D1 (Or.inr (hw _ (List.mem_of_getElem? (i := 20) rfl))) (ty := .int) (by decide)
  have F_b1_alpha : Fld Z h1 b1 "com/example/traversal/traversal/explore/SerendipityParameters" "alpha" "D" (.double (0 : UInt64)) := D1 (Or.inr (hw _ (List.mem_of_getElem? (i := 22) rfl))) (ty := .double) (by decide)
  have F_b1_limit : Fld Z h1 b1 "com/example/traversal/traversal/explore/SerendipityParameters" "limit" "I" (.int (0 : Int32)) := D1 (Or.inr (hw _ (List.mem_of_getElem? (i := 24) rfl))) (ty := .int) (by decide)
  have F_b1_maxResults : Fld Z h1 b1 "com/example/traversal/traversal/explore/SerendipityParameters" "maxResults" "I" (.int (0 : Int32)) := D1 (Or.inr (hw _ (List.mem_of_getElem? (i := 26) rfl))) (ty := .int) (by decide)
  refine Go.st (T' := T1) (pc' := 3) (L' := #[]) (S' := [(.ref b1)]) st1 ?_
  refine Go.st (T' := T1) (pc' := 4) (L' := #[]) (S' := [(.ref b1), (.ref b1)]) (fun t k => XS.dup X1.here hx rfl (hb hby d1_3) rfl rfl k) ?_
  refine Go.st (T' := T1) (pc' := 5) (L' := #[]) (S' := [(.int (3 : Int32)), (.ref b1), (.ref b1)]) (fun t k => XS.iconst X1.here hx rfl (hb hby d1_4) k) ?_
  refine Go.st (T' := T1) (pc' := 8) (L' := #[]) (S' := [(.double (4602678819172646912 : UInt64)), (.int (3 : Int32)), (.ref b1), (.ref b1)]) (fun t k => X1.ldc2DoubleC hx hown (mvT hZ (hw _ (List.mem_of_getElem? (i := 7) rfl))) (g := (mkF m 5 #[] [(.int (3 : Int32)), (.ref b1), (.ref b1)])) rfl (hb hby d1_5) t k) ?_
  refine Go.st (T' := T1) (pc' := 10) (L' := #[]) (S' := [(.int (2147483647 : Int32)), (.double (4602678819172646912 : UInt64)), (.int (3 : Int32)), (.ref b1), (.ref b1)]) (fun t k => X1.ldcInt hx hown (mvT hZ (hw _ (List.mem_of_getElem? (i := 8) rfl))) (g := (mkF m 8 #[] [(.double (4602678819172646912 : UInt64)), (.int (3 : Int32)), (.ref b1), (.ref b1)])) rfl (hb hby d1_8) t k) ?_
  obtain ⟨_, _, ⟨T2, L2, k2, n2⟩, -, X2, ⟨Lc2, hQ2, l2, y2, z2⟩, st2⟩ := X1.specialBack hx (y := (⟨"com/example/traversal/traversal/explore/SerendipityParameters", "<init>", "(IDI)V"⟩ : MethodName)) rfl hown (mvT hZ (hw _ (List.mem_of_getElem? (i := 9) rfl))) (mvT hZ (hw _ (List.mem_of_getElem? (i := 10) rfl))) (mvT hZ (hw _ (List.mem_of_getElem? (i := 11) rfl))) (by decide) (backOf (W := 1) (rm2 l Z a0 hw [] b1 h1 n0 Z0 E_b1 g_b1 F_b1_maxDiameter F_b1_alpha F_b1_limit F_b1_maxResults) hZ (hw _ (List.mem_of_getElem? (i := 11) rfl)) (hw _ (List.mem_of_getElem? (i := 3) rfl)) (by decide) (by decide)) (g := (mkF m 10 #[] [(.int (2147483647 : Int32)), (.double (4602678819172646912 : UInt64)), (.int (3 : Int32)), (.ref b1), (.ref b1)])) rfl (by rw [hml]; rfl) (Steps.refl _) (a := b1) (argsL := [(.int (3 : Int32)), (.double (4602678819172646912 : UInt64)), (.int (2147483647 : Int32))]) (rest := [(.ref b1)]) (lenOf pd_1 rfl) rfl (by show 2 * 0 + _ ≤ _; exact Nat.le_of_eq rfl) (hb hby d1_10) (fun _ _ => ⟨rfl, e1, (by decide : 1 + 0 ≤ _), (by decide : 4 + 0 ≤ _)⟩)
  dsimp only [Pt.U, Pt.locs, Pt.cells, Pt.slots] at X2 l2 y2 z2 st2 hQ2
  subst l2 y2 z2
  obtain ⟨rfl, N2q, K2, G2_maxDiameter, G2_alpha, G2_limit, G2_maxResults⟩ := hQ2
  have N2 := Fr.app N0 N2q
  obtain ⟨h2, e2⟩ : ∃ z, T2.heap = z := ⟨_, rfl⟩
  rw [e2] at K2 G2_maxDiameter G2_alpha G2_limit G2_maxResults
  replace Z0 := Nat.le_trans Z0 K2.1
  replace K0 := K0.trans K2 (allS (Or.inr sz_b1) all0)
  replace E_b1 := E_b1.keep K2
  refine Go.tr (T' := T2) (pc' := 13) (L' := #[]) (S' := [(.ref b1)]) st2 ?_
  exact Go.retO X2 hx hlk hret rfl (by simp [FieldType.isReference, Value.isRef]) (hb hby d1_13) (by decide) (by decide) (by rw [e2]; exact ⟨b1, rfl, N2, K0, g_b1, E_b1, G2_maxDiameter, G2_alpha, G2_limit, G2_maxResults⟩)
theorem own_max (x : Int32) : ¬ (2147483647 : Int32) < x := by
  rw [Int32.lt_iff_toInt_lt]; have h := rng32 x; have e : (2147483647 : Int32).toInt = 2147483647 := rfl; omega
theorem pd_2 : parseMethodDescriptor "()Lcom/example/traversal/traversal/explore/SerendipityParameters;" = some ⟨[], some (.object "com/example/traversal/traversal/explore/SerendipityParameters")⟩ := by decide +kernel
theorem pd_3 : parseMethodDescriptor "()I" = some ⟨[], some .int⟩ := by decide +kernel
theorem pd_4 : parseMethodDescriptor "()D" = some ⟨[], some .double⟩ := by decide +kernel
theorem pn_1 : plainName "com/example/traversal/traversal/explore/SerendipityParametersDefaultsPinLaw" = true := by first | (simp [plainName, overriddenIn]; done) | decide +kernel
def Q0 (Z : State)  (h0 : Heap) (n0 : Nat) (v : Option Value) (h : Heap) (L : List Loc) : Prop := v = some (.int 1) ∧ Fr n0 L
set_option maxRecDepth 65536 in
set_option maxHeartbeats 40000000 in
theorem rm0 (l : Launch) (Z : State) (a0 : Array Value) (hw : ∀ d ∈ tables_1, d.before a0 Z = true) (ws : List Jvm.Cond) (p1 : Int32) (h0 : Heap) (n0 : Nat) (Z0 : n0 ≤ h0.size)  :
    MetFree l x (head1 (Jvm.Cond.code x code maxLocals ret :: ws) room_1) (fun a U => a = #[(.int p1)] ∧ Z.Warmed39 U.vm ∧ U.heap = h0) (fun _ _ _ _ _ => True) (fun _ U o U' => ∃ v L, o = .returned v ∧ (Q0 Z  h0 n0) v U'.heap L ∧ FrameEnd U o U' L room_1.cells room_1.slots) := by
  refine own_met (Q := (Q0 Z  h0 n0)) (L0 := #[.val (.int p1), .unset, .unset, .unset, .unset, .unset, .unset, .unset, .unset, .unset, .unset, .unset]) (plainFor_of_name pn_1) (fun m => by first | (simp [entryFrame, mkF, argsToLocals, Value.category, maxLocals]; done) | rfl) ?_
  intro p e s m below meth c T0 X0 hx hby hml hown hnm hret hlk hZ e0
  have N0 := Fr.nil n0
  refine Go.st (T' := T0) (pc' := 1) (L' := #[.val (.int p1), .unset, .unset, .unset, .unset, .unset, .unset, .unset, .unset, .unset, .unset, .unset]) (S' := [(.int p1)]) (fun t k => XS.iloadN X0.here hx rfl (hb hby at_0) rfl  k) ?_
  refine Go.st (T' := T0) (pc' := 3) (L' := #[.val (.int p1), .unset, .unset, .unset, .unset, .unset, .unset, .unset, .unset, .unset, .unset, .unset]) (S' := [(.int (2147483647 : Int32)), (.int p1)]) (fun t k => X0.ldcInt hx hown (mvT hZ (hw _ (List.mem_of_getElem? (i := 0) rfl))) (g := (mkF m 1 #[.val (.int p1), .unset, .unset, .unset, .unset, .unset, .unset, .unset, .unset, .unset, .unset, .unset] [(.int p1)])) rfl (hb hby at_1) t k) ?_
  refine Go.st (T' := T0) (pc' := 4) (L' := #[.val (.int p1), .unset, .unset, .unset, .unset, .unset, .unset, .unset, .unset, .unset, .unset, .unset]) (S' := [(.int (p1 &&& (2147483647 : Int32)))]) (fun t k => XS.iand X0.here hx rfl (hb hby at_3) rfl k) ?_
  refine Go.st (T' := T0) (pc' := 5) (L' := #[.val (.int p1), .val (.int (p1 &&& (2147483647 : Int32))), .unset, .unset, .unset, .unset, .unset, .unset, .unset, .unset, .unset, .unset]) (S' := []) (fun t k => XS.istoreN X0.here hx rfl (hb hby at_4) rfl (l' := #[.val (.int p1), .val (.int (p1 &&& (2147483647 : Int32))), .unset, .unset, .unset, .unset, .unset, .unset, .unset, .unset, .unset, .unset]) rfl k) ?_
  obtain ⟨_, _, ⟨T1, L1, k1, n1⟩, -, X1, ⟨Lc1, hQ1, l1, y1, z1⟩, st1⟩ := Jvm.LawKit.callS X0 hx (y := (⟨"com/example/traversal/traversal/explore/SerendipityParameters", "defaults", "()Lcom/example/traversal/traversal/explore/SerendipityParameters;"⟩ : MethodName)) hown (mvT hZ (hw _ (List.mem_of_getElem? (i := 1) rfl))) (mvT hZ (hw _ (List.mem_of_getElem? (i := 2) rfl))) (mvT hZ (hw _ (List.mem_of_getElem? (i := 3) rfl))) (mvT hZ (hw _ (List.mem_of_getElem? (i := 4) rfl))) (by decide) (backOf (W := 0) (rm1 l Z a0 hw [] h0 n0 Z0) hZ (hw _ (List.mem_of_getElem? (i := 4) rfl)) (hw _ (List.mem_of_getElem? (i := 3) rfl)) (by decide) (by decide)) (g := (mkF m 5 #[.val (.int p1), .val (.int (p1 &&& (2147483647 : Int32))), .unset, .unset, .unset, .unset, .unset, .unset, .unset, .unset, .unset, .unset] [])) rfl (by rw [hml]; rfl) (argsL := []) (rest := []) (lenOf pd_2 rfl) rfl (by show 2 * 0 + _ ≤ _; exact Nat.le_of_eq rfl) (hb hby at_5) (fun _ _ => ⟨rfl, e0, (by decide : 0 + 1 ≤ _), (by decide : 0 + 4 ≤ _)⟩)
  dsimp only [Pt.U, Pt.locs, Pt.cells, Pt.slots] at X1 l1 y1 z1 st1 hQ1
  subst l1 y1 z1
  obtain ⟨b1, rfl, N1q, K1, g_b1, E1, F1_maxDiameter, F1_alpha, F1_limit, F1_maxResults⟩ := hQ1
  have N1 := Fr.app N0 N1q
  obtain ⟨h1, e1⟩ : ∃ z, T1.heap = z := ⟨_, rfl⟩
  rw [e1] at K1 E1 F1_maxDiameter F1_alpha F1_limit F1_maxResults
  replace Z0 := Nat.le_trans Z0 K1.1
  refine Go.st (T' := T1) (pc' := 8) (L' := #[.val (.int p1), .val (.int (p1 &&& (2147483647 : Int32))), .unset, .unset, .unset, .unset, .unset, .unset, .unset, .unset, .unset, .unset]) (S' := [(.ref b1)]) st1 ?_
  refine Go.st (T' := T1) (pc' := 9) (L' := #[.val (.int p1), .val (.int (p1 &&& (2147483647 : Int32))), .val (.ref b1), .unset, .unset, .unset, .unset, .unset, .unset, .unset, .unset, .unset]) (S' := []) (fun t k => XS.astoreN X1.here hx rfl (hb hby at_8) rfl rfl (l' := #[.val (.int p1), .val (.int (p1 &&& (2147483647 : Int32))), .val (.ref b1), .unset, .unset, .unset, .unset, .unset, .unset, .unset, .unset, .unset]) rfl k) ?_
  refine Go.st (T' := T1) (pc' := 10) (L' := #[.val (.int p1), .val (.int (p1 &&& (2147483647 : Int32))), .val (.ref b1), .unset, .unset, .unset, .unset, .unset, .unset, .unset, .unset, .unset]) (S' := [(.ref b1)]) (fun t k => XS.aloadN X1.here hx rfl (hb hby at_9) rfl rfl  k) ?_
  obtain ⟨cq2, kq2, q2a, q2b, q2c⟩ := isOf hZ e1 E1
  obtain ⟨_, _, ⟨T2, L2, k2, n2⟩, -, X2, ⟨Lc2, hQ2, l2, y2, z2⟩, st2⟩ := X1.virtualBack hx (y := (⟨"com/example/traversal/traversal/explore/SerendipityParameters", "maxDiameter", "()I"⟩ : MethodName)) (z := (⟨"com/example/traversal/traversal/explore/SerendipityParameters", "maxDiameter", "()I"⟩ : MethodName)) hown (mvT hZ (hw _ (List.mem_of_getElem? (i := 27) rfl))) (mvT hZ (hw _ (List.mem_of_getElem? (i := 28) rfl))) (notFace_of_selects (args := #[]) (mvT hZ (hw _ (List.mem_of_getElem? (i := 30) rfl)))) (mvT hZ (hw _ (List.mem_of_getElem? (i := 30) rfl))) (mvT hZ (hw _ (List.mem_of_getElem? (i := 29) rfl))) (by decide) (backOf (W := 0) (rm5 l Z a0 hw [] b1 (3 : Int32) h1 n0 Z0 F1_maxDiameter) hZ (hw _ (List.mem_of_getElem? (i := 31) rfl)) (hw _ (List.mem_of_getElem? (i := 3) rfl)) (by decide) (by decide)) q2a q2c (g := (mkF m 10 #[.val (.int p1), .val (.int (p1 &&& (2147483647 : Int32))), .val (.ref b1), .unset, .unset, .unset, .unset, .unset, .unset, .unset, .unset, .unset] [(.ref b1)])) rfl (by rw [hml]; rfl) (Steps.refl _) (argsL := []) (rest := []) (lenOf pd_3 rfl) rfl (by show 2 * 0 + _ ≤ _; exact Nat.le_of_eq rfl) (hb hby at_10) (fun _ _ => ⟨rfl, e1, (by decide : 1 + 0 ≤ _), (by decide : 4 + 0 ≤ _)⟩)
  dsimp only [Pt.U, Pt.locs, Pt.cells, Pt.slots] at X2 l2 y2 z2 st2 hQ2
  subst l2 y2 z2
  obtain ⟨rfl, N2q, e2⟩ := hQ2
  have N2 := Fr.app N1 N2q
  refine Go.tr (T' := T2) (pc' := 13) (L' := #[.val (.int p1), .val (.int (p1 &&& (2147483647 : Int32))), .val (.ref b1), .unset, .unset, .unset, .unset, .unset, .unset, .unset, .unset, .unset]) (S' := [(.int (3 : Int32))]) st2 ?_
  refine Go.st (T' := T2) (pc' := 14) (L' := #[.val (.int p1), .val (.int (p1 &&& (2147483647 : Int32))), .val (.ref b1), .val (.int (3 : Int32)), .unset, .unset, .unset, .unset, .unset, .unset, .unset, .unset]) (S' := []) (fun t k => XS.istoreN X2.here hx rfl (hb hby at_13) rfl (l' := #[.val (.int p1), .val (.int (p1 &&& (2147483647 : Int32))), .val (.ref b1), .val (.int (3 : Int32)), .unset, .unset, .unset, .unset, .unset, .unset, .unset, .unset]) rfl k) ?_
  refine Go.st (T' := T2) (pc' := 15) (L' := #[.val (.int p1), .val (.int (p1 &&& (2147483647 : Int32))), .val (.ref b1), .val (.int (3 : Int32)), .unset, .unset, .unset, .unset, .unset, .unset, .unset, .unset]) (S' := [(.ref b1)]) (fun t k => XS.aloadN X2.here hx rfl (hb hby at_14) rfl rfl  k) ?_
  obtain ⟨cq3, kq3, q3a, q3b, q3c⟩ := isOf hZ e2 E1
  obtain ⟨_, _, ⟨T3, L3, k3, n3⟩, -, X3, ⟨Lc3, hQ3, l3, y3, z3⟩, st3⟩ := X2.virtualBack hx (y := (⟨"com/example/traversal/traversal/explore/SerendipityParameters", "alpha", "()D"⟩ : MethodName)) (z := (⟨"com/example/traversal/traversal/explore/SerendipityParameters", "alpha", "()D"⟩ : MethodName)) hown (mvT hZ (hw _ (List.mem_of_getElem? (i := 32) rfl))) (mvT hZ (hw _ (List.mem_of_getElem? (i := 33) rfl))) (notFace_of_selects (args := #[]) (mvT hZ (hw _ (List.mem_of_getElem? (i := 35) rfl)))) (mvT hZ (hw _ (List.mem_of_getElem? (i := 35) rfl))) (mvT hZ (hw _ (List.mem_of_getElem? (i := 34) rfl))) (by decide) (backOf (W := 0) (rm6 l Z a0 hw [] b1 (4602678819172646912 : UInt64) h1 n0 Z0 F1_alpha) hZ (hw _ (List.mem_of_getElem? (i := 36) rfl)) (hw _ (List.mem_of_getElem? (i := 3) rfl)) (by decide) (by decide)) q3a q3c (g := (mkF m 15 #[.val (.int p1), .val (.int (p1 &&& (2147483647 : Int32))), .val (.ref b1), .val (.int (3 : Int32)), .unset, .unset, .unset, .unset, .unset, .unset, .unset, .unset] [(.ref b1)])) rfl (by rw [hml]; rfl) (Steps.refl _) (argsL := []) (rest := []) (lenOf pd_4 rfl) rfl (by show 2 * 0 + _ ≤ _; exact Nat.le_of_eq rfl) (hb hby at_15) (fun _ _ => ⟨rfl, e2, (by decide : 1 + 0 ≤ _), (by decide : 4 + 0 ≤ _)⟩)
  dsimp only [Pt.U, Pt.locs, Pt.cells, Pt.slots] at X3 l3 y3 z3 st3 hQ3
  subst l3 y3 z3
  obtain ⟨rfl, N3q, e3⟩ := hQ3
  have N3 := Fr.app N2 N3q
  refine Go.tr (T' := T3) (pc' := 18) (L' := #[.val (.int p1), .val (.int (p1 &&& (2147483647 : Int32))), .val (.ref b1), .val (.int (3 : Int32)), .unset, .unset, .unset, .unset, .unset, .unset, .unset, .unset]) (S' := [(.double (4602678819172646912 : UInt64))]) st3 ?_
  refine Go.st (T' := T3) (pc' := 20) (L' := #[.val (.int p1), .val (.int (p1 &&& (2147483647 : Int32))), .val (.ref b1), .val (.int (3 : Int32)), .val (.double (4602678819172646912 : UInt64)), .second, .unset, .unset, .unset, .unset, .unset, .unset]) (S' := []) (fun t k => XS.dstore X3.here hx rfl (hb hby at_18) rfl (l' := #[.val (.int p1), .val (.int (p1 &&& (2147483647 : Int32))), .val (.ref b1), .val (.int (3 : Int32)), .val (.double (4602678819172646912 : UInt64)), .second, .unset, .unset, .unset, .unset, .unset, .unset]) rfl k) ?_
  refine Go.st (T' := T3) (pc' := 21) (L' := #[.val (.int p1), .val (.int (p1 &&& (2147483647 : Int32))), .val (.ref b1), .val (.int (3 : Int32)), .val (.double (4602678819172646912 : UInt64)), .second, .unset, .unset, .unset, .unset, .unset, .unset]) (S' := [(.ref b1)]) (fun t k => XS.aloadN X3.here hx rfl (hb hby at_20) rfl rfl  k) ?_
  obtain ⟨cq4, kq4, q4a, q4b, q4c⟩ := isOf hZ e3 E1
  obtain ⟨_, _, ⟨T4, L4, k4, n4⟩, -, X4, ⟨Lc4, hQ4, l4, y4, z4⟩, st4⟩ := X3.virtualBack hx (y := (⟨"com/example/traversal/traversal/explore/SerendipityParameters", "limit", "()I"⟩ : MethodName)) (z := (⟨"com/example/traversal/traversal/explore/SerendipityParameters", "limit", "()I"⟩ : MethodName)) hown (mvT hZ (hw _ (List.mem_of_getElem? (i := 37) rfl))) (mvT hZ (hw _ (List.mem_of_getElem? (i := 38) rfl))) (notFace_of_selects (args := #[]) (mvT hZ (hw _ (List.mem_of_getElem? (i := 40) rfl)))) (mvT hZ (hw _ (List.mem_of_getElem? (i := 40) rfl))) (mvT hZ (hw _ (List.mem_of_getElem? (i := 39) rfl))) (by decide) (backOf (W := 0) (rm7 l Z a0 hw [] b1 (2147483647 : Int32) h1 n0 Z0 F1_limit) hZ (hw _ (List.mem_of_getElem? (i := 41) rfl)) (hw _ (List.mem_of_getElem? (i := 3) rfl)) (by decide) (by decide)) q4a q4c (g := (mkF m 21 #[.val (.int p1), .val (.int (p1 &&& (2147483647 : Int32))), .val (.ref b1), .val (.int (3 : Int32)), .val (.double (4602678819172646912 : UInt64)), .second, .unset, .unset, .unset, .unset, .unset, .unset] [(.ref b1)])) rfl (by rw [hml]; rfl) (Steps.refl _) (argsL := []) (rest := []) (lenOf pd_3 rfl) rfl (by show 2 * 0 + _ ≤ _; exact Nat.le_of_eq rfl) (hb hby at_21) (fun _ _ => ⟨rfl, e3, (by decide : 1 + 0 ≤ _), (by decide : 4 + 0 ≤ _)⟩)
  dsimp only [Pt.U, Pt.locs, Pt.cells, Pt.slots] at X4 l4 y4 z4 st4 hQ4
  subst l4 y4 z4
  obtain ⟨rfl, N4q, e4⟩ := hQ4
  have N4 := Fr.app N3 N4q
  refine Go.tr (T' := T4) (pc' := 24) (L' := #[.val (.int p1), .val (.int (p1 &&& (2147483647 : Int32))), .val (.ref b1), .val (.int (3 : Int32)), .val (.double (4602678819172646912 : UInt64)), .second, .unset, .unset, .unset, .unset, .unset, .unset]) (S' := [(.int (2147483647 : Int32))]) st4 ?_
  refine Go.st (T' := T4) (pc' := 26) (L' := #[.val (.int p1), .val (.int (p1 &&& (2147483647 : Int32))), .val (.ref b1), .val (.int (3 : Int32)), .val (.double (4602678819172646912 : UInt64)), .second, .val (.int (2147483647 : Int32)), .unset, .unset, .unset, .unset, .unset]) (S' := []) (fun t k => XS.istore X4.here hx rfl (hb hby at_24) rfl (l' := #[.val (.int p1), .val (.int (p1 &&& (2147483647 : Int32))), .val (.ref b1), .val (.int (3 : Int32)), .val (.double (4602678819172646912 : UInt64)), .second, .val (.int (2147483647 : Int32)), .unset, .unset, .unset, .unset, .unset]) rfl k) ?_
  refine Go.st (T' := T4) (pc' := 27) (L' := #[.val (.int p1), .val (.int (p1 &&& (2147483647 : Int32))), .val (.ref b1), .val (.int (3 : Int32)), .val (.double (4602678819172646912 : UInt64)), .second, .val (.int (2147483647 : Int32)), .unset, .unset, .unset, .unset, .unset]) (S' := [(.ref b1)]) (fun t k => XS.aloadN X4.here hx rfl (hb hby at_26) rfl rfl  k) ?_
  obtain ⟨cq5, kq5, q5a, q5b, q5c⟩ := isOf hZ e4 E1
  obtain ⟨_, _, ⟨T5, L5, k5, n5⟩, -, X5, ⟨Lc5, hQ5, l5, y5, z5⟩, st5⟩ := X4.virtualBack hx (y := (⟨"com/example/traversal/traversal/explore/SerendipityParameters", "maxResults", "()I"⟩ : MethodName)) (z := (⟨"com/example/traversal/traversal/explore/SerendipityParameters", "maxResults", "()I"⟩ : MethodName)) hown (mvT hZ (hw _ (List.mem_of_getElem? (i := 42) rfl))) (mvT hZ (hw _ (List.mem_of_getElem? (i := 43) rfl))) (notFace_of_selects (args := #[]) (mvT hZ (hw _ (List.mem_of_getElem? (i := 45) rfl)))) (mvT hZ (hw _ (List.mem_of_getElem? (i := 45) rfl))) (mvT hZ (hw _ (List.mem_of_getElem? (i := 44) rfl))) (by decide) (backOf (W := 0) (rm8 l Z a0 hw [] b1 (1000000 : Int32) h1 n0 Z0 F1_maxResults) hZ (hw _ (List.mem_of_getElem? (i := 46) rfl)) (hw _ (List.mem_of_getElem? (i := 3) rfl)) (by decide) (by decide)) q5a q5c (g := (mkF m 27 #[.val (.int p1), .val (.int (p1 &&& (2147483647 : Int32))), .val (.ref b1), .val (.int (3 : Int32)), .val (.double (4602678819172646912 : UInt64)), .second, .val (.int (2147483647 : Int32)), .unset, .unset, .unset, .unset, .unset] [(.ref b1)])) rfl (by rw [hml]; rfl) (Steps.refl _) (argsL := []) (rest := []) (lenOf pd_3 rfl) rfl (by show 2 * 0 + _ ≤ _; exact Nat.le_of_eq rfl) (hb hby at_27) (fun _ _ => ⟨rfl, e4, (by decide : 1 + 0 ≤ _), (by decide : 4 + 0 ≤ _)⟩)
  dsimp only [Pt.U, Pt.locs, Pt.cells, Pt.slots] at X5 l5 y5 z5 st5 hQ5
  subst l5 y5 z5
  obtain ⟨rfl, N5q, e5⟩ := hQ5
  have N5 := Fr.app N4 N5q
  refine Go.tr (T' := T5) (pc' := 30) (L' := #[.val (.int p1), .val (.int (p1 &&& (2147483647 : Int32))), .val (.ref b1), .val (.int (3 : Int32)), .val (.double (4602678819172646912 : UInt64)), .second, .val (.int (2147483647 : Int32)), .unset, .unset, .unset, .unset, .unset]) (S' := [(.int (1000000 : Int32))]) st5 ?_
  refine Go.st (T' := T5) (pc' := 32) (L' := #[.val (.int p1), .val (.int (p1 &&& (2147483647 : Int32))), .val (.ref b1), .val (.int (3 : Int32)), .val (.double (4602678819172646912 : UInt64)), .second, .val (.int (2147483647 : Int32)), .val (.int (1000000 : Int32)), .unset, .unset, .unset, .unset]) (S' := []) (fun t k => XS.istore X5.here hx rfl (hb hby at_30) rfl (l' := #[.val (.int p1), .val (.int (p1 &&& (2147483647 : Int32))), .val (.ref b1), .val (.int (3 : Int32)), .val (.double (4602678819172646912 : UInt64)), .second, .val (.int (2147483647 : Int32)), .val (.int (1000000 : Int32)), .unset, .unset, .unset, .unset]) rfl k) ?_
  refine Go.st (T' := T5) (pc' := 33) (L' := #[.val (.int p1), .val (.int (p1 &&& (2147483647 : Int32))), .val (.ref b1), .val (.int (3 : Int32)), .val (.double (4602678819172646912 : UInt64)), .second, .val (.int (2147483647 : Int32)), .val (.int (1000000 : Int32)), .unset, .unset, .unset, .unset]) (S' := [(.int (3 : Int32))]) (fun t k => XS.iloadN X5.here hx rfl (hb hby at_32) rfl  k) ?_
  refine Go.st (T' := T5) (pc' := 34) (L' := #[.val (.int p1), .val (.int (p1 &&& (2147483647 : Int32))), .val (.ref b1), .val (.int (3 : Int32)), .val (.double (4602678819172646912 : UInt64)), .second, .val (.int (2147483647 : Int32)), .val (.int (1000000 : Int32)), .unset, .unset, .unset, .unset]) (S' := [(.int (3 : Int32)), (.int (3 : Int32))]) (fun t k => XS.iconst X5.here hx rfl (hb hby at_33) k) ?_
  refine Go.st (T' := T5) (pc' := 37) (L' := #[.val (.int p1), .val (.int (p1 &&& (2147483647 : Int32))), .val (.ref b1), .val (.int (3 : Int32)), .val (.double (4602678819172646912 : UInt64)), .second, .val (.int (2147483647 : Int32)), .val (.int (1000000 : Int32)), .unset, .unset, .unset, .unset]) (S' := []) (fun t k => XS.icmpNo X5.here hx rfl (hb hby at_34) rfl (teq (by decide : ((3 : Int32) = (3 : Int32)))).2 k) ?_
  refine Go.st (T' := T5) (pc' := 38) (L' := #[.val (.int p1), .val (.int (p1 &&& (2147483647 : Int32))), .val (.ref b1), .val (.int (3 : Int32)), .val (.double (4602678819172646912 : UInt64)), .second, .val (.int (2147483647 : Int32)), .val (.int (1000000 : Int32)), .unset, .unset, .unset, .unset]) (S' := [(.int (3 : Int32))]) (fun t k => XS.iloadN X5.here hx rfl (hb hby at_37) rfl  k) ?_
  refine Go.st (T' := T5) (pc' := 39) (L' := #[.val (.int p1), .val (.int (p1 &&& (2147483647 : Int32))), .val (.ref b1), .val (.int (3 : Int32)), .val (.double (4602678819172646912 : UInt64)), .second, .val (.int (2147483647 : Int32)), .val (.int (1000000 : Int32)), .unset, .unset, .unset, .unset]) (S' := [(.int (3 : Int32)), (.int (3 : Int32))]) (fun t k => XS.iconst X5.here hx rfl (hb hby at_38) k) ?_
  refine Go.st (T' := T5) (pc' := 42) (L' := #[.val (.int p1), .val (.int (p1 &&& (2147483647 : Int32))), .val (.ref b1), .val (.int (3 : Int32)), .val (.double (4602678819172646912 : UInt64)), .second, .val (.int (2147483647 : Int32)), .val (.int (1000000 : Int32)), .unset, .unset, .unset, .unset]) (S' := []) (fun t k => XS.icmpNo X5.here hx rfl (hb hby at_39) rfl (teq (by decide : ((3 : Int32) = (3 : Int32)))).2 k) ?_
  refine Go.st (T' := T5) (pc' := 43) (L' := #[.val (.int p1), .val (.int (p1 &&& (2147483647 : Int32))), .val (.ref b1), .val (.int (3 : Int32)), .val (.double (4602678819172646912 : UInt64)), .second, .val (.int (2147483647 : Int32)), .val (.int (1000000 : Int32)), .unset, .unset, .unset, .unset]) (S' := [(.int (3 : Int32))]) (fun t k => XS.iloadN X5.here hx rfl (hb hby at_42) rfl  k) ?_
  refine Go.st (T' := T5) (pc' := 44) (L' := #[.val (.int p1), .val (.int (p1 &&& (2147483647 : Int32))), .val (.ref b1), .val (.int (3 : Int32)), .val (.double (4602678819172646912 : UInt64)), .second, .val (.int (2147483647 : Int32)), .val (.int (1000000 : Int32)), .unset, .unset, .unset, .unset]) (S' := [(.int (1 : Int32)), (.int (3 : Int32))]) (fun t k => XS.iconst X5.here hx rfl (hb hby at_43) k) ?_
  refine Go.st (T' := T5) (pc' := 47) (L' := #[.val (.int p1), .val (.int (p1 &&& (2147483647 : Int32))), .val (.ref b1), .val (.int (3 : Int32)), .val (.double (4602678819172646912 : UInt64)), .second, .val (.int (2147483647 : Int32)), .val (.int (1000000 : Int32)), .unset, .unset, .unset, .unset]) (S' := []) (fun t k => XS.icmpNo X5.here hx rfl (hb hby at_44) rfl (flt (by decide : ¬ ((3 : Int32) < (1 : Int32)))).1 k) ?_
  refine Go.st (T' := T5) (pc' := 48) (L' := #[.val (.int p1), .val (.int (p1 &&& (2147483647 : Int32))), .val (.ref b1), .val (.int (3 : Int32)), .val (.double (4602678819172646912 : UInt64)), .second, .val (.int (2147483647 : Int32)), .val (.int (1000000 : Int32)), .unset, .unset, .unset, .unset]) (S' := [(.int (3 : Int32))]) (fun t k => XS.iloadN X5.here hx rfl (hb hby at_47) rfl  k) ?_
  refine Go.st (T' := T5) (pc' := 50) (L' := #[.val (.int p1), .val (.int (p1 &&& (2147483647 : Int32))), .val (.ref b1), .val (.int (3 : Int32)), .val (.double (4602678819172646912 : UInt64)), .second, .val (.int (2147483647 : Int32)), .val (.int (1000000 : Int32)), .unset, .unset, .unset, .unset]) (S' := [(.int (6 : Int32)), (.int (3 : Int32))]) (fun t k => XS.bipush X5.here hx rfl (hb hby at_48) k) ?_
  refine Go.st (T' := T5) (pc' := 53) (L' := #[.val (.int p1), .val (.int (p1 &&& (2147483647 : Int32))), .val (.ref b1), .val (.int (3 : Int32)), .val (.double (4602678819172646912 : UInt64)), .second, .val (.int (2147483647 : Int32)), .val (.int (1000000 : Int32)), .unset, .unset, .unset, .unset]) (S' := []) (fun t k => XS.icmpNo X5.here hx rfl (hb hby at_50) rfl (flt (by decide : ¬ ((6 : Int32) < (3 : Int32)))).2.2.1 k) ?_
  refine Go.st (T' := T5) (pc' := 54) (L' := #[.val (.int p1), .val (.int (p1 &&& (2147483647 : Int32))), .val (.ref b1), .val (.int (3 : Int32)), .val (.double (4602678819172646912 : UInt64)), .second, .val (.int (2147483647 : Int32)), .val (.int (1000000 : Int32)), .unset, .unset, .unset, .unset]) (S' := [(.int (1 : Int32))]) (fun t k => XS.iconst X5.here hx rfl (hb hby at_53) k) ?_
  refine Go.st (T' := T5) (pc' := 58) (L' := #[.val (.int p1), .val (.int (p1 &&& (2147483647 : Int32))), .val (.ref b1), .val (.int (3 : Int32)), .val (.double (4602678819172646912 : UInt64)), .second, .val (.int (2147483647 : Int32)), .val (.int (1000000 : Int32)), .unset, .unset, .unset, .unset]) (S' := [(.int (1 : Int32))]) (fun t k => XS.goto X5.here hx rfl (pc0 := 54) (pc' := 58) rfl (hb hby at_54) (by decide) (by decide) k) ?_
  refine Go.st (T' := T5) (pc' := 60) (L' := #[.val (.int p1), .val (.int (p1 &&& (2147483647 : Int32))), .val (.ref b1), .val (.int (3 : Int32)), .val (.double (4602678819172646912 : UInt64)), .second, .val (.int (2147483647 : Int32)), .val (.int (1000000 : Int32)), .val (.int (1 : Int32)), .unset, .unset, .unset]) (S' := []) (fun t k => XS.istore X5.here hx rfl (hb hby at_58) rfl (l' := #[.val (.int p1), .val (.int (p1 &&& (2147483647 : Int32))), .val (.ref b1), .val (.int (3 : Int32)), .val (.double (4602678819172646912 : UInt64)), .second, .val (.int (2147483647 : Int32)), .val (.int (1000000 : Int32)), .val (.int (1 : Int32)), .unset, .unset, .unset]) rfl k) ?_
  refine Go.st (T' := T5) (pc' := 62) (L' := #[.val (.int p1), .val (.int (p1 &&& (2147483647 : Int32))), .val (.ref b1), .val (.int (3 : Int32)), .val (.double (4602678819172646912 : UInt64)), .second, .val (.int (2147483647 : Int32)), .val (.int (1000000 : Int32)), .val (.int (1 : Int32)), .unset, .unset, .unset]) (S' := [(.double (4602678819172646912 : UInt64))]) (fun t k => XS.dload X5.here hx rfl (hb hby at_60) rfl  k) ?_
  refine Go.st (T' := T5) (pc' := 65) (L' := #[.val (.int p1), .val (.int (p1 &&& (2147483647 : Int32))), .val (.ref b1), .val (.int (3 : Int32)), .val (.double (4602678819172646912 : UInt64)), .second, .val (.int (2147483647 : Int32)), .val (.int (1000000 : Int32)), .val (.int (1 : Int32)), .unset, .unset, .unset]) (S' := [(.double (4602678819172646912 : UInt64)), (.double (4602678819172646912 : UInt64))]) (fun t k => X5.ldc2DoubleC hx hown (mvT hZ (hw _ (List.mem_of_getElem? (i := 47) rfl))) (g := (mkF m 62 #[.val (.int p1), .val (.int (p1 &&& (2147483647 : Int32))), .val (.ref b1), .val (.int (3 : Int32)), .val (.double (4602678819172646912 : UInt64)), .second, .val (.int (2147483647 : Int32)), .val (.int (1000000 : Int32)), .val (.int (1 : Int32)), .unset, .unset, .unset] [(.double (4602678819172646912 : UInt64))])) rfl (hb hby at_62) t k) ?_
  refine Go.st (T' := T5) (pc' := 66) (L' := #[.val (.int p1), .val (.int (p1 &&& (2147483647 : Int32))), .val (.ref b1), .val (.int (3 : Int32)), .val (.double (4602678819172646912 : UInt64)), .second, .val (.int (2147483647 : Int32)), .val (.int (1000000 : Int32)), .val (.int (1 : Int32)), .unset, .unset, .unset]) (S' := [(.int (0 : Int32))]) (fun t k => XS.dcmpS X5.here hx rfl (hb hby at_65) rfl (by decide +kernel) k) ?_
  refine Go.st (T' := T5) (pc' := 69) (L' := #[.val (.int p1), .val (.int (p1 &&& (2147483647 : Int32))), .val (.ref b1), .val (.int (3 : Int32)), .val (.double (4602678819172646912 : UInt64)), .second, .val (.int (2147483647 : Int32)), .val (.int (1000000 : Int32)), .val (.int (1 : Int32)), .unset, .unset, .unset]) (S' := []) (fun t k => XS.ifNo X5.here hx rfl (hb hby at_66) rfl ((if0 _ _).trans (teq (by decide : ((0 : Int32) = (0 : Int32)))).2) k) ?_
  refine Go.st (T' := T5) (pc' := 71) (L' := #[.val (.int p1), .val (.int (p1 &&& (2147483647 : Int32))), .val (.ref b1), .val (.int (3 : Int32)), .val (.double (4602678819172646912 : UInt64)), .second, .val (.int (2147483647 : Int32)), .val (.int (1000000 : Int32)), .val (.int (1 : Int32)), .unset, .unset, .unset]) (S' := [(.double (4602678819172646912 : UInt64))]) (fun t k => XS.dload X5.here hx rfl (hb hby at_69) rfl  k) ?_
  refine Go.st (T' := T5) (pc' := 74) (L' := #[.val (.int p1), .val (.int (p1 &&& (2147483647 : Int32))), .val (.ref b1), .val (.int (3 : Int32)), .val (.double (4602678819172646912 : UInt64)), .second, .val (.int (2147483647 : Int32)), .val (.int (1000000 : Int32)), .val (.int (1 : Int32)), .unset, .unset, .unset]) (S' := [(.double (4602678819172646912 : UInt64)), (.double (4602678819172646912 : UInt64))]) (fun t k => X5.ldc2DoubleC hx hown (mvT hZ (hw _ (List.mem_of_getElem? (i := 47) rfl))) (g := (mkF m 71 #[.val (.int p1), .val (.int (p1 &&& (2147483647 : Int32))), .val (.ref b1), .val (.int (3 : Int32)), .val (.double (4602678819172646912 : UInt64)), .second, .val (.int (2147483647 : Int32)), .val (.int (1000000 : Int32)), .val (.int (1 : Int32)), .unset, .unset, .unset] [(.double (4602678819172646912 : UInt64))])) rfl (hb hby at_71) t k) ?_
  refine Go.st (T' := T5) (pc' := 75) (L' := #[.val (.int p1), .val (.int (p1 &&& (2147483647 : Int32))), .val (.ref b1), .val (.int (3 : Int32)), .val (.double (4602678819172646912 : UInt64)), .second, .val (.int (2147483647 : Int32)), .val (.int (1000000 : Int32)), .val (.int (1 : Int32)), .unset, .unset, .unset]) (S' := [(.int (0 : Int32))]) (fun t k => XS.dcmpS X5.here hx rfl (hb hby at_74) rfl (by decide +kernel) k) ?_
  refine Go.st (T' := T5) (pc' := 78) (L' := #[.val (.int p1), .val (.int (p1 &&& (2147483647 : Int32))), .val (.ref b1), .val (.int (3 : Int32)), .val (.double (4602678819172646912 : UInt64)), .second, .val (.int (2147483647 : Int32)), .val (.int (1000000 : Int32)), .val (.int (1 : Int32)), .unset, .unset, .unset]) (S' := []) (fun t k => XS.ifNo X5.here hx rfl (hb hby at_75) rfl ((if0 _ _).trans (teq (by decide : ((0 : Int32) = (0 : Int32)))).2) k) ?_
  refine Go.st (T' := T5) (pc' := 79) (L' := #[.val (.int p1), .val (.int (p1 &&& (2147483647 : Int32))), .val (.ref b1), .val (.int (3 : Int32)), .val (.double (4602678819172646912 : UInt64)), .second, .val (.int (2147483647 : Int32)), .val (.int (1000000 : Int32)), .val (.int (1 : Int32)), .unset, .unset, .unset]) (S' := [(.int (1 : Int32))]) (fun t k => XS.iconst X5.here hx rfl (hb hby at_78) k) ?_
  refine Go.st (T' := T5) (pc' := 83) (L' := #[.val (.int p1), .val (.int (p1 &&& (2147483647 : Int32))), .val (.ref b1), .val (.int (3 : Int32)), .val (.double (4602678819172646912 : UInt64)), .second, .val (.int (2147483647 : Int32)), .val (.int (1000000 : Int32)), .val (.int (1 : Int32)), .unset, .unset, .unset]) (S' := [(.int (1 : Int32))]) (fun t k => XS.goto X5.here hx rfl (pc0 := 79) (pc' := 83) rfl (hb hby at_79) (by decide) (by decide) k) ?_
  refine Go.st (T' := T5) (pc' := 85) (L' := #[.val (.int p1), .val (.int (p1 &&& (2147483647 : Int32))), .val (.ref b1), .val (.int (3 : Int32)), .val (.double (4602678819172646912 : UInt64)), .second, .val (.int (2147483647 : Int32)), .val (.int (1000000 : Int32)), .val (.int (1 : Int32)), .val (.int (1 : Int32)), .unset, .unset]) (S' := []) (fun t k => XS.istore X5.here hx rfl (hb hby at_83) rfl (l' := #[.val (.int p1), .val (.int (p1 &&& (2147483647 : Int32))), .val (.ref b1), .val (.int (3 : Int32)), .val (.double (4602678819172646912 : UInt64)), .second, .val (.int (2147483647 : Int32)), .val (.int (1000000 : Int32)), .val (.int (1 : Int32)), .val (.int (1 : Int32)), .unset, .unset]) rfl k) ?_
  refine Go.st (T' := T5) (pc' := 86) (L' := #[.val (.int p1), .val (.int (p1 &&& (2147483647 : Int32))), .val (.ref b1), .val (.int (3 : Int32)), .val (.double (4602678819172646912 : UInt64)), .second, .val (.int (2147483647 : Int32)), .val (.int (1000000 : Int32)), .val (.int (1 : Int32)), .val (.int (1 : Int32)), .unset, .unset]) (S' := [(.int (p1 &&& (2147483647 : Int32)))]) (fun t k => XS.iloadN X5.here hx rfl (hb hby at_85) rfl  k) ?_
  refine Go.st (T' := T5) (pc' := 88) (L' := #[.val (.int p1), .val (.int (p1 &&& (2147483647 : Int32))), .val (.ref b1), .val (.int (3 : Int32)), .val (.double (4602678819172646912 : UInt64)), .second, .val (.int (2147483647 : Int32)), .val (.int (1000000 : Int32)), .val (.int (1 : Int32)), .val (.int (1 : Int32)), .unset, .unset]) (S' := [(.int (2147483647 : Int32)), (.int (p1 &&& (2147483647 : Int32)))]) (fun t k => XS.iload X5.here hx rfl (hb hby at_86) rfl  k) ?_
  refine Go.st (T' := T5) (pc' := 91) (L' := #[.val (.int p1), .val (.int (p1 &&& (2147483647 : Int32))), .val (.ref b1), .val (.int (3 : Int32)), .val (.double (4602678819172646912 : UInt64)), .second, .val (.int (2147483647 : Int32)), .val (.int (1000000 : Int32)), .val (.int (1 : Int32)), .val (.int (1 : Int32)), .unset, .unset]) (S' := []) (fun t k => XS.icmpNo X5.here hx rfl (hb hby at_88) rfl (flt (own_max _ : ¬ ((2147483647 : Int32) < (p1 &&& (2147483647 : Int32))))).2.2.1 k) ?_
  refine Go.st (T' := T5) (pc' := 93) (L' := #[.val (.int p1), .val (.int (p1 &&& (2147483647 : Int32))), .val (.ref b1), .val (.int (3 : Int32)), .val (.double (4602678819172646912 : UInt64)), .second, .val (.int (2147483647 : Int32)), .val (.int (1000000 : Int32)), .val (.int (1 : Int32)), .val (.int (1 : Int32)), .unset, .unset]) (S' := [(.int (2147483647 : Int32))]) (fun t k => XS.iload X5.here hx rfl (hb hby at_91) rfl  k) ?_
  refine Go.st (T' := T5) (pc' := 95) (L' := #[.val (.int p1), .val (.int (p1 &&& (2147483647 : Int32))), .val (.ref b1), .val (.int (3 : Int32)), .val (.double (4602678819172646912 : UInt64)), .second, .val (.int (2147483647 : Int32)), .val (.int (1000000 : Int32)), .val (.int (1 : Int32)), .val (.int (1 : Int32)), .unset, .unset]) (S' := [(.int (2147483647 : Int32)), (.int (2147483647 : Int32))]) (fun t k => X5.ldcInt hx hown (mvT hZ (hw _ (List.mem_of_getElem? (i := 0) rfl))) (g := (mkF m 93 #[.val (.int p1), .val (.int (p1 &&& (2147483647 : Int32))), .val (.ref b1), .val (.int (3 : Int32)), .val (.double (4602678819172646912 : UInt64)), .second, .val (.int (2147483647 : Int32)), .val (.int (1000000 : Int32)), .val (.int (1 : Int32)), .val (.int (1 : Int32)), .unset, .unset] [(.int (2147483647 : Int32))])) rfl (hb hby at_93) t k) ?_
  refine Go.st (T' := T5) (pc' := 98) (L' := #[.val (.int p1), .val (.int (p1 &&& (2147483647 : Int32))), .val (.ref b1), .val (.int (3 : Int32)), .val (.double (4602678819172646912 : UInt64)), .second, .val (.int (2147483647 : Int32)), .val (.int (1000000 : Int32)), .val (.int (1 : Int32)), .val (.int (1 : Int32)), .unset, .unset]) (S' := []) (fun t k => XS.icmpNo X5.here hx rfl (hb hby at_95) rfl (teq (by decide : ((2147483647 : Int32) = (2147483647 : Int32)))).2 k) ?_
  refine Go.st (T' := T5) (pc' := 99) (L' := #[.val (.int p1), .val (.int (p1 &&& (2147483647 : Int32))), .val (.ref b1), .val (.int (3 : Int32)), .val (.double (4602678819172646912 : UInt64)), .second, .val (.int (2147483647 : Int32)), .val (.int (1000000 : Int32)), .val (.int (1 : Int32)), .val (.int (1 : Int32)), .unset, .unset]) (S' := [(.int (1 : Int32))]) (fun t k => XS.iconst X5.here hx rfl (hb hby at_98) k) ?_
  refine Go.st (T' := T5) (pc' := 103) (L' := #[.val (.int p1), .val (.int (p1 &&& (2147483647 : Int32))), .val (.ref b1), .val (.int (3 : Int32)), .val (.double (4602678819172646912 : UInt64)), .second, .val (.int (2147483647 : Int32)), .val (.int (1000000 : Int32)), .val (.int (1 : Int32)), .val (.int (1 : Int32)), .unset, .unset]) (S' := [(.int (1 : Int32))]) (fun t k => XS.goto X5.here hx rfl (pc0 := 99) (pc' := 103) rfl (hb hby at_99) (by decide) (by decide) k) ?_
  refine Go.st (T' := T5) (pc' := 105) (L' := #[.val (.int p1), .val (.int (p1 &&& (2147483647 : Int32))), .val (.ref b1), .val (.int (3 : Int32)), .val (.double (4602678819172646912 : UInt64)), .second, .val (.int (2147483647 : Int32)), .val (.int (1000000 : Int32)), .val (.int (1 : Int32)), .val (.int (1 : Int32)), .val (.int (1 : Int32)), .unset]) (S' := []) (fun t k => XS.istore X5.here hx rfl (hb hby at_103) rfl (l' := #[.val (.int p1), .val (.int (p1 &&& (2147483647 : Int32))), .val (.ref b1), .val (.int (3 : Int32)), .val (.double (4602678819172646912 : UInt64)), .second, .val (.int (2147483647 : Int32)), .val (.int (1000000 : Int32)), .val (.int (1 : Int32)), .val (.int (1 : Int32)), .val (.int (1 : Int32)), .unset]) rfl k) ?_
  refine Go.st (T' := T5) (pc' := 107) (L' := #[.val (.int p1), .val (.int (p1 &&& (2147483647 : Int32))), .val (.ref b1), .val (.int (3 : Int32)), .val (.double (4602678819172646912 : UInt64)), .second, .val (.int (2147483647 : Int32)), .val (.int (1000000 : Int32)), .val (.int (1 : Int32)), .val (.int (1 : Int32)), .val (.int (1 : Int32)), .unset]) (S' := [(.int (1000000 : Int32))]) (fun t k => XS.iload X5.here hx rfl (hb hby at_105) rfl  k) ?_
  refine Go.st (T' := T5) (pc' := 109) (L' := #[.val (.int p1), .val (.int (p1 &&& (2147483647 : Int32))), .val (.ref b1), .val (.int (3 : Int32)), .val (.double (4602678819172646912 : UInt64)), .second, .val (.int (2147483647 : Int32)), .val (.int (1000000 : Int32)), .val (.int (1 : Int32)), .val (.int (1 : Int32)), .val (.int (1 : Int32)), .unset]) (S' := [(.int (1000000 : Int32)), (.int (1000000 : Int32))]) (fun t k => X5.ldcInt hx hown (mvT hZ (hw _ (List.mem_of_getElem? (i := 48) rfl))) (g := (mkF m 107 #[.val (.int p1), .val (.int (p1 &&& (2147483647 : Int32))), .val (.ref b1), .val (.int (3 : Int32)), .val (.double (4602678819172646912 : UInt64)), .second, .val (.int (2147483647 : Int32)), .val (.int (1000000 : Int32)), .val (.int (1 : Int32)), .val (.int (1 : Int32)), .val (.int (1 : Int32)), .unset] [(.int (1000000 : Int32))])) rfl (hb hby at_107) t k) ?_
  refine Go.st (T' := T5) (pc' := 112) (L' := #[.val (.int p1), .val (.int (p1 &&& (2147483647 : Int32))), .val (.ref b1), .val (.int (3 : Int32)), .val (.double (4602678819172646912 : UInt64)), .second, .val (.int (2147483647 : Int32)), .val (.int (1000000 : Int32)), .val (.int (1 : Int32)), .val (.int (1 : Int32)), .val (.int (1 : Int32)), .unset]) (S' := []) (fun t k => XS.icmpNo X5.here hx rfl (hb hby at_109) rfl (teq (by decide : ((1000000 : Int32) = (1000000 : Int32)))).2 k) ?_
  refine Go.st (T' := T5) (pc' := 114) (L' := #[.val (.int p1), .val (.int (p1 &&& (2147483647 : Int32))), .val (.ref b1), .val (.int (3 : Int32)), .val (.double (4602678819172646912 : UInt64)), .second, .val (.int (2147483647 : Int32)), .val (.int (1000000 : Int32)), .val (.int (1 : Int32)), .val (.int (1 : Int32)), .val (.int (1 : Int32)), .unset]) (S' := [(.int (1000000 : Int32))]) (fun t k => XS.iload X5.here hx rfl (hb hby at_112) rfl  k) ?_
  refine Go.st (T' := T5) (pc' := 116) (L' := #[.val (.int p1), .val (.int (p1 &&& (2147483647 : Int32))), .val (.ref b1), .val (.int (3 : Int32)), .val (.double (4602678819172646912 : UInt64)), .second, .val (.int (2147483647 : Int32)), .val (.int (1000000 : Int32)), .val (.int (1 : Int32)), .val (.int (1 : Int32)), .val (.int (1 : Int32)), .unset]) (S' := [(.int (1000000 : Int32)), (.int (1000000 : Int32))]) (fun t k => X5.ldcInt hx hown (mvT hZ (hw _ (List.mem_of_getElem? (i := 48) rfl))) (g := (mkF m 114 #[.val (.int p1), .val (.int (p1 &&& (2147483647 : Int32))), .val (.ref b1), .val (.int (3 : Int32)), .val (.double (4602678819172646912 : UInt64)), .second, .val (.int (2147483647 : Int32)), .val (.int (1000000 : Int32)), .val (.int (1 : Int32)), .val (.int (1 : Int32)), .val (.int (1 : Int32)), .unset] [(.int (1000000 : Int32))])) rfl (hb hby at_114) t k) ?_
  refine Go.st (T' := T5) (pc' := 119) (L' := #[.val (.int p1), .val (.int (p1 &&& (2147483647 : Int32))), .val (.ref b1), .val (.int (3 : Int32)), .val (.double (4602678819172646912 : UInt64)), .second, .val (.int (2147483647 : Int32)), .val (.int (1000000 : Int32)), .val (.int (1 : Int32)), .val (.int (1 : Int32)), .val (.int (1 : Int32)), .unset]) (S' := []) (fun t k => XS.icmpNo X5.here hx rfl (hb hby at_116) rfl (teq (by decide : ((1000000 : Int32) = (1000000 : Int32)))).2 k) ?_
  refine Go.st (T' := T5) (pc' := 121) (L' := #[.val (.int p1), .val (.int (p1 &&& (2147483647 : Int32))), .val (.ref b1), .val (.int (3 : Int32)), .val (.double (4602678819172646912 : UInt64)), .second, .val (.int (2147483647 : Int32)), .val (.int (1000000 : Int32)), .val (.int (1 : Int32)), .val (.int (1 : Int32)), .val (.int (1 : Int32)), .unset]) (S' := [(.int (1000000 : Int32))]) (fun t k => XS.iload X5.here hx rfl (hb hby at_119) rfl  k) ?_
  refine Go.st (T' := T5) (pc' := 123) (L' := #[.val (.int p1), .val (.int (p1 &&& (2147483647 : Int32))), .val (.ref b1), .val (.int (3 : Int32)), .val (.double (4602678819172646912 : UInt64)), .second, .val (.int (2147483647 : Int32)), .val (.int (1000000 : Int32)), .val (.int (1 : Int32)), .val (.int (1 : Int32)), .val (.int (1 : Int32)), .unset]) (S' := [(.int (1000000 : Int32)), (.int (1000000 : Int32))]) (fun t k => X5.ldcInt hx hown (mvT hZ (hw _ (List.mem_of_getElem? (i := 48) rfl))) (g := (mkF m 121 #[.val (.int p1), .val (.int (p1 &&& (2147483647 : Int32))), .val (.ref b1), .val (.int (3 : Int32)), .val (.double (4602678819172646912 : UInt64)), .second, .val (.int (2147483647 : Int32)), .val (.int (1000000 : Int32)), .val (.int (1 : Int32)), .val (.int (1 : Int32)), .val (.int (1 : Int32)), .unset] [(.int (1000000 : Int32))])) rfl (hb hby at_121) t k) ?_
  refine Go.st (T' := T5) (pc' := 126) (L' := #[.val (.int p1), .val (.int (p1 &&& (2147483647 : Int32))), .val (.ref b1), .val (.int (3 : Int32)), .val (.double (4602678819172646912 : UInt64)), .second, .val (.int (2147483647 : Int32)), .val (.int (1000000 : Int32)), .val (.int (1 : Int32)), .val (.int (1 : Int32)), .val (.int (1 : Int32)), .unset]) (S' := []) (fun t k => XS.icmpNo X5.here hx rfl (hb hby at_123) rfl (teq (by decide : ((1000000 : Int32) = (1000000 : Int32)))).2 k) ?_
  refine Go.st (T' := T5) (pc' := 127) (L' := #[.val (.int p1), .val (.int (p1 &&& (2147483647 : Int32))), .val (.ref b1), .val (.int (3 : Int32)), .val (.double (4602678819172646912 : UInt64)), .second, .val (.int (2147483647 : Int32)), .val (.int (1000000 : Int32)), .val (.int (1 : Int32)), .val (.int (1 : Int32)), .val (.int (1 : Int32)), .unset]) (S' := [(.int (1 : Int32))]) (fun t k => XS.iconst X5.here hx rfl (hb hby at_126) k) ?_
  refine Go.st (T' := T5) (pc' := 131) (L' := #[.val (.int p1), .val (.int (p1 &&& (2147483647 : Int32))), .val (.ref b1), .val (.int (3 : Int32)), .val (.double (4602678819172646912 : UInt64)), .second, .val (.int (2147483647 : Int32)), .val (.int (1000000 : Int32)), .val (.int (1 : Int32)), .val (.int (1 : Int32)), .val (.int (1 : Int32)), .unset]) (S' := [(.int (1 : Int32))]) (fun t k => XS.goto X5.here hx rfl (pc0 := 127) (pc' := 131) rfl (hb hby at_127) (by decide) (by decide) k) ?_
  refine Go.st (T' := T5) (pc' := 133) (L' := #[.val (.int p1), .val (.int (p1 &&& (2147483647 : Int32))), .val (.ref b1), .val (.int (3 : Int32)), .val (.double (4602678819172646912 : UInt64)), .second, .val (.int (2147483647 : Int32)), .val (.int (1000000 : Int32)), .val (.int (1 : Int32)), .val (.int (1 : Int32)), .val (.int (1 : Int32)), .val (.int (1 : Int32))]) (S' := []) (fun t k => XS.istore X5.here hx rfl (hb hby at_131) rfl (l' := #[.val (.int p1), .val (.int (p1 &&& (2147483647 : Int32))), .val (.ref b1), .val (.int (3 : Int32)), .val (.double (4602678819172646912 : UInt64)), .second, .val (.int (2147483647 : Int32)), .val (.int (1000000 : Int32)), .val (.int (1 : Int32)), .val (.int (1 : Int32)), .val (.int (1 : Int32)), .val (.int (1 : Int32))]) rfl k) ?_
  refine Go.st (T' := T5) (pc' := 135) (L' := #[.val (.int p1), .val (.int (p1 &&& (2147483647 : Int32))), .val (.ref b1), .val (.int (3 : Int32)), .val (.double (4602678819172646912 : UInt64)), .second, .val (.int (2147483647 : Int32)), .val (.int (1000000 : Int32)), .val (.int (1 : Int32)), .val (.int (1 : Int32)), .val (.int (1 : Int32)), .val (.int (1 : Int32))]) (S' := [(.int (1 : Int32))]) (fun t k => XS.iload X5.here hx rfl (hb hby at_133) rfl  k) ?_
  refine Go.st (T' := T5) (pc' := 138) (L' := #[.val (.int p1), .val (.int (p1 &&& (2147483647 : Int32))), .val (.ref b1), .val (.int (3 : Int32)), .val (.double (4602678819172646912 : UInt64)), .second, .val (.int (2147483647 : Int32)), .val (.int (1000000 : Int32)), .val (.int (1 : Int32)), .val (.int (1 : Int32)), .val (.int (1 : Int32)), .val (.int (1 : Int32))]) (S' := []) (fun t k => XS.ifNo X5.here hx rfl (hb hby at_135) rfl ((if0 _ _).trans (feq (by decide : ¬ ((1 : Int32) = (0 : Int32)))).1) k) ?_
  refine Go.st (T' := T5) (pc' := 140) (L' := #[.val (.int p1), .val (.int (p1 &&& (2147483647 : Int32))), .val (.ref b1), .val (.int (3 : Int32)), .val (.double (4602678819172646912 : UInt64)), .second, .val (.int (2147483647 : Int32)), .val (.int (1000000 : Int32)), .val (.int (1 : Int32)), .val (.int (1 : Int32)), .val (.int (1 : Int32)), .val (.int (1 : Int32))]) (S' := [(.int (1 : Int32))]) (fun t k => XS.iload X5.here hx rfl (hb hby at_138) rfl  k) ?_
  refine Go.st (T' := T5) (pc' := 143) (L' := #[.val (.int p1), .val (.int (p1 &&& (2147483647 : Int32))), .val (.ref b1), .val (.int (3 : Int32)), .val (.double (4602678819172646912 : UInt64)), .second, .val (.int (2147483647 : Int32)), .val (.int (1000000 : Int32)), .val (.int (1 : Int32)), .val (.int (1 : Int32)), .val (.int (1 : Int32)), .val (.int (1 : Int32))]) (S' := []) (fun t k => XS.ifNo X5.here hx rfl (hb hby at_140) rfl ((if0 _ _).trans (feq (by decide : ¬ ((1 : Int32) = (0 : Int32)))).1) k) ?_
  refine Go.st (T' := T5) (pc' := 145) (L' := #[.val (.int p1), .val (.int (p1 &&& (2147483647 : Int32))), .val (.ref b1), .val (.int (3 : Int32)), .val (.double (4602678819172646912 : UInt64)), .second, .val (.int (2147483647 : Int32)), .val (.int (1000000 : Int32)), .val (.int (1 : Int32)), .val (.int (1 : Int32)), .val (.int (1 : Int32)), .val (.int (1 : Int32))]) (S' := [(.int (1 : Int32))]) (fun t k => XS.iload X5.here hx rfl (hb hby at_143) rfl  k) ?_
  refine Go.st (T' := T5) (pc' := 148) (L' := #[.val (.int p1), .val (.int (p1 &&& (2147483647 : Int32))), .val (.ref b1), .val (.int (3 : Int32)), .val (.double (4602678819172646912 : UInt64)), .second, .val (.int (2147483647 : Int32)), .val (.int (1000000 : Int32)), .val (.int (1 : Int32)), .val (.int (1 : Int32)), .val (.int (1 : Int32)), .val (.int (1 : Int32))]) (S' := []) (fun t k => XS.ifNo X5.here hx rfl (hb hby at_145) rfl ((if0 _ _).trans (feq (by decide : ¬ ((1 : Int32) = (0 : Int32)))).1) k) ?_
  refine Go.st (T' := T5) (pc' := 150) (L' := #[.val (.int p1), .val (.int (p1 &&& (2147483647 : Int32))), .val (.ref b1), .val (.int (3 : Int32)), .val (.double (4602678819172646912 : UInt64)), .second, .val (.int (2147483647 : Int32)), .val (.int (1000000 : Int32)), .val (.int (1 : Int32)), .val (.int (1 : Int32)), .val (.int (1 : Int32)), .val (.int (1 : Int32))]) (S' := [(.int (1 : Int32))]) (fun t k => XS.iload X5.here hx rfl (hb hby at_148) rfl  k) ?_
  refine Go.st (T' := T5) (pc' := 153) (L' := #[.val (.int p1), .val (.int (p1 &&& (2147483647 : Int32))), .val (.ref b1), .val (.int (3 : Int32)), .val (.double (4602678819172646912 : UInt64)), .second, .val (.int (2147483647 : Int32)), .val (.int (1000000 : Int32)), .val (.int (1 : Int32)), .val (.int (1 : Int32)), .val (.int (1 : Int32)), .val (.int (1 : Int32))]) (S' := []) (fun t k => XS.ifNo X5.here hx rfl (hb hby at_150) rfl ((if0 _ _).trans (feq (by decide : ¬ ((1 : Int32) = (0 : Int32)))).1) k) ?_
  refine Go.st (T' := T5) (pc' := 154) (L' := #[.val (.int p1), .val (.int (p1 &&& (2147483647 : Int32))), .val (.ref b1), .val (.int (3 : Int32)), .val (.double (4602678819172646912 : UInt64)), .second, .val (.int (2147483647 : Int32)), .val (.int (1000000 : Int32)), .val (.int (1 : Int32)), .val (.int (1 : Int32)), .val (.int (1 : Int32)), .val (.int (1 : Int32))]) (S' := [(.int (1 : Int32))]) (fun t k => XS.iconst X5.here hx rfl (hb hby at_153) k) ?_
  refine Go.st (T' := T5) (pc' := 158) (L' := #[.val (.int p1), .val (.int (p1 &&& (2147483647 : Int32))), .val (.ref b1), .val (.int (3 : Int32)), .val (.double (4602678819172646912 : UInt64)), .second, .val (.int (2147483647 : Int32)), .val (.int (1000000 : Int32)), .val (.int (1 : Int32)), .val (.int (1 : Int32)), .val (.int (1 : Int32)), .val (.int (1 : Int32))]) (S' := [(.int (1 : Int32))]) (fun t k => XS.goto X5.here hx rfl (pc0 := 154) (pc' := 158) rfl (hb hby at_154) (by decide) (by decide) k) ?_
  exact Go.retN X5 hx hlk hret (by simp) (hb hby at_158) (by decide) (by decide) (by rw [e5]; exact ⟨rfl, N5⟩)
set_option maxRecDepth 65536 in
set_option maxHeartbeats 40000000 in
theorem comes_1 {Post : Tables → Env → Array Value → State → Outcome → State → Prop} (hpost : ∀ tb e args s v u, (limb_1_1.after args s (.returned v) u = true ∧ limb_1_2.after args s (.returned v) u = true ∧ True) → FrameEnd s (.returned v) u (Jvm.fieldLocs frame_1_writes args s ++ Jvm.arrayLocs frame_1_arrays args s ++ Jvm.staticLocs frame_1_statics s) 16 128 → Post tb e args s (.returned v) u) :
    ArmFor flags0 classFile x code maxLocals ret World_1 tables_1 room_1 Calls_1 rest_1 Pre_1 Post := by
  intro l hfl _ _ p e ha hc hk s m args below hf hA hF happ hP
  obtain ⟨hcalls, hrest, hpre⟩ := hP
  obtain ⟨-, -, -, hnamed, -, -, -, hat⟩ := (Spec.applies_iff hf).mp happ
  obtain ⟨hg, hn⟩ := and_e (Cond.before_iff.mp (show (Jvm.Cond.and given_1 narrow_1).before args s = true from hpre))
  obtain ⟨gc, gr0⟩ := and_e hg
  have ga0 := gr0
  obtain ⟨w0, rfl⟩ : ∃ w0 : Value, args = #[w0] := by
    have hs : args.size = 1 := by simpa [Cond.value, given_1] using gc
    obtain ⟨L⟩ := args
    match L, hs with
    | [w0], _ => exact ⟨w0, rfl⟩
  have hw := fun d (hd : d ∈ tables_1) => atoms_spec (ws := Jvm.Cond.code x code maxLocals ret :: tables_1) hat d (List.mem_cons_of_mem _ hd)
  have hfit : Fit s := fun {y c} hc i hi => by
    obtain ⟨ha, rfl⟩ := Array.getElem?_eq_some_iff.mp hc
    have q := List.all_eq_true.mp ((Array.all_eq_true_iff_forall_mem.mp hF) _ (Array.getElem_mem ha)) i (List.mem_range.mpr hi)
    simpa [Array.getElem?_eq_getElem hi] using q
  obtain ⟨i0, ei0⟩ := is_v ga0
  obtain rfl : w0 = (.int i0) := Option.some.inj ei0
  obtain ⟨n, o, h1, h2, h3, _, L, rfl, ⟨rfl, N⟩, hq⟩ := rm0 l s _ hw tables_1 i0 s.heap s.heap.size (Nat.le_refl _) p e ha hc hk s m _ below hf ((Spec.applies_iff_loose hf).mp happ).1 ⟨rfl, State.Warmed39.refl s, rfl⟩ trivial
  refine ⟨n, _, h1, h2, h3, hpost _ _ _ _ _ _ ⟨Cond.after_iff.mpr rfl, Cond.after_iff.mpr (eq_i res_at (Term.int_eval (1)) rfl), trivial⟩ ⟨hq.1, hq.2.1, (hq.2.2.sift fun y hy => Or.inr (N y hy)).mono (by decide) (by decide)⟩⟩
theorem main_1_1 : Claimed_1_1 := comes_1 fun _ _ _ _ _ _ h hF => ⟨h.1, hF⟩
theorem main_1_2 : Claimed_1_2 := comes_1 fun _ _ _ _ _ _ h hF => ⟨h.2.1, hF⟩
end Jvm.Pilot.@@N@@
namespace Jvm.Pilot.@@N@@
open Jvm Jvm.ClassFile Sem Op Lib Jvm.Free Jvm.Stand Jvm.Pilot.@@N@@.Jvm.D
/-! MADE BY PROGRAM (witnessworld.py) out of the Statement's table words and the real class files: 9 classes; the members and pool entries that the words name. The judged class is class 1, her method 1. -/
namespace start1
open Jvm.ClassFile
def u (s : String) : CpInfo := .utf8 (stringToUtf16 s)
/-- a pool by its gaps: so many unusable entries, then the entry; so many at the end -/
def gap : Nat → List CpInfo → List CpInfo
  | 0, r => r
  | n + 1, r => .unusable :: gap n r
def poolList (es : List (Nat × CpInfo)) (last : Nat) : List CpInfo := es.foldr (fun e r => gap e.1 (e.2 :: r)) (gap last [])
def pool (es : List (Nat × CpInfo)) (last : Nat) : Array CpInfo := ⟨poolList es last⟩
def fileOf (pool : Array CpInfo) (this : Nat) (attrs : Array Attribute := #[]) (ms : Array MethodInfo := #[]) (fl : Nat := 33) (sup : Nat := 0) (ifs : Array Nat := #[]) (fds : Array FieldInfo := #[]) : ClassFile where
  minorVersion := 0
  majorVersion := 65
  constantPool := pool
  accessFlags := fl
  thisClass := this
  superClass := sup
  interfaces := ifs
  fields := fds
  methods := ms
  attributes := attrs
def plain (name : String) (sup : Option ClassId) : Class where
  name := name
  kind := .ordinary
  loader := none
  accessFlags := 33
  super := sup
  interfaces := #[]
  cf := none
  fields := #[]
  methods := #[]
  instanceTypes := #[]
  staticTypes := #[]
  resolved := #[]
  callSites := []
  init := .initialized
  statics := none
  mirror := none

def pool0 : Array CpInfo := pool [(5, u "<init>"), (0, u "()V"), (1, .class_ 10), (1, u "java/lang/Object")] 113

def k0c0 : Code := { maxStack := 0, maxLocals := 1, code := object_method_1_code, exceptionTable := #[], attributes := #[] }
def k0m0 : Method := { name := "<init>", desc := "()V", sig := { parameters := [], returnType := none }, accessFlags := 1, code := some k0c0 }
/-- java/lang/Object -/
def k0 : Class := { plain "java/lang/Object" none with
  accessFlags := 33
  interfaces := #[]
  cf := some (fileOf pool0 8 #[] #[{ accessFlags := 1, nameIndex := 5, descriptorIndex := 6, attributes := #[] }] 33 0 #[] #[])
  fields := #[]
  methods := #[k0m0]
  instanceTypes := #[]
  staticTypes := #[]
  resolved := Array.replicate 124 none
  statics := none }

def pool1 : Array CpInfo := pool [(2, .class_ 4), (1, u "java/lang/Object"), (0, u "<init>"), (0, u "()V"), (0, .integer 2147483647), (0, .methodref 9 10), (0, .class_ 11), (0, .nameAndType 12 13), (0, u "com/example/traversal/traversal/explore/SerendipityParameters"), (0, u "defaults"), (0, u "()Lcom/example/traversal/traversal/explore/SerendipityParameters;"), (0, .methodref 9 15), (0, .nameAndType 16 17), (0, u "maxDiameter"), (0, u "()I"), (0, .methodref 9 19), (0, .nameAndType 20 21), (0, u "alpha"), (0, u "()D"), (0, .methodref 9 23), (0, .nameAndType 24 17), (0, u "limit"), (0, .methodref 9 26), (0, .nameAndType 27 17), (0, u "maxResults"), (2, .double 4602678819172646912), (3, .integer 1000000), (0, .class_ 36), (0, u "com/example/traversal/traversal/explore/SerendipityParametersDefaultsPinLaw"), (2, u "law"), (0, u "(I)Z")] 3

def k1m0 : Method := { name := "<init>", desc := "()V", sig := { parameters := [], returnType := none }, accessFlags := 1, code := none }
def k1c1 : Code := { maxStack := 4, maxLocals := 12, code := code, exceptionTable := #[], attributes := #[] }
def k1m1 : Method := { name := "law", desc := "(I)Z", sig := { parameters := [.int], returnType := some .boolean }, accessFlags := 9, code := some k1c1 }
/-- com/example/traversal/traversal/explore/SerendipityParametersDefaultsPinLaw -/
def k1 : Class := { plain "com/example/traversal/traversal/explore/SerendipityParametersDefaultsPinLaw" (some 0) with
  accessFlags := 49
  interfaces := #[]
  cf := some (fileOf pool1 35 #[] #[{ accessFlags := 1, nameIndex := 5, descriptorIndex := 6, attributes := #[] }, { accessFlags := 9, nameIndex := 39, descriptorIndex := 40, attributes := #[] }] 49 2 #[] #[])
  fields := #[]
  methods := #[k1m0, k1m1]
  instanceTypes := #[]
  staticTypes := #[]
  resolved := Array.replicate 44 none
  statics := none }

def pool2 : Array CpInfo := pool [(3, .class_ 4), (0, u "com/example/traversal/traversal/explore/SerendipityParameters"), (0, .integer 1000000), (0, .methodref 3 7), (0, .nameAndType 8 9), (0, u "<init>"), (0, u "(IDII)V"), (0, .methodref 11 12), (0, .class_ 13), (0, .nameAndType 8 14), (0, u "java/lang/Object"), (0, u "()V"), (14, .fieldref 3 30), (0, .nameAndType 31 32), (0, u "maxDiameter"), (0, u "I"), (0, .fieldref 3 34), (0, .nameAndType 35 36), (0, u "alpha"), (0, u "D"), (0, .fieldref 3 38), (0, .nameAndType 39 32), (0, u "limit"), (0, .fieldref 3 41), (0, .nameAndType 42 32), (0, u "maxResults"), (0, .double 4602678819172646912), (3, .integer 2147483647), (0, .methodref 3 49), (0, .nameAndType 8 50), (0, u "(IDI)V"), (0, u "DEFAULT_MAX_DIAMETER"), (2, u "DEFAULT_ALPHA"), (0, u "DEFAULT_MAX_RESULTS"), (3, u "defaults"), (0, u "()Lcom/example/traversal/traversal/explore/SerendipityParameters;"), (0, u "()I"), (0, u "()D")] 23

def k2c0 : Code := { maxStack := 6, maxLocals := 5, code := prog_29_method_1_code, exceptionTable := #[], attributes := #[] }
def k2m0 : Method := { name := "<init>", desc := "(IDI)V", sig := { parameters := [.int, .double, .int], returnType := none }, accessFlags := 1, code := some k2c0 }
def k2c1 : Code := { maxStack := 4, maxLocals := 6, code := prog_29_method_2_code, exceptionTable := #[], attributes := #[] }
def k2m1 : Method := { name := "<init>", desc := "(IDII)V", sig := { parameters := [.int, .double, .int, .int], returnType := none }, accessFlags := 1, code := some k2c1 }
def k2c2 : Code := { maxStack := 6, maxLocals := 0, code := prog_29_method_3_code, exceptionTable := #[], attributes := #[] }
def k2m2 : Method := { name := "defaults", desc := "()Lcom/example/traversal/traversal/explore/SerendipityParameters;", sig := { parameters := [], returnType := some (.object "com/example/traversal/traversal/explore/SerendipityParameters") }, accessFlags := 9, code := some k2c2 }
def k2c3 : Code := { maxStack := 1, maxLocals := 1, code := prog_29_method_4_code, exceptionTable := #[], attributes := #[] }
def k2m3 : Method := { name := "maxDiameter", desc := "()I", sig := { parameters := [], returnType := some .int }, accessFlags := 1, code := some k2c3 }
def k2c4 : Code := { maxStack := 2, maxLocals := 1, code := prog_29_method_5_code, exceptionTable := #[], attributes := #[] }
def k2m4 : Method := { name := "alpha", desc := "()D", sig := { parameters := [], returnType := some .double }, accessFlags := 1, code := some k2c4 }
def k2c5 : Code := { maxStack := 1, maxLocals := 1, code := prog_29_method_6_code, exceptionTable := #[], attributes := #[] }
def k2m5 : Method := { name := "limit", desc := "()I", sig := { parameters := [], returnType := some .int }, accessFlags := 1, code := some k2c5 }
def k2c6 : Code := { maxStack := 1, maxLocals := 1, code := prog_29_method_7_code, exceptionTable := #[], attributes := #[] }
def k2m6 : Method := { name := "maxResults", desc := "()I", sig := { parameters := [], returnType := some .int }, accessFlags := 1, code := some k2c6 }
/-- com/example/traversal/traversal/explore/SerendipityParameters -/
def k2 : Class := { plain "com/example/traversal/traversal/explore/SerendipityParameters" (some 0) with
  accessFlags := 33
  interfaces := #[]
  cf := some (fileOf pool2 3 #[] #[{ accessFlags := 1, nameIndex := 8, descriptorIndex := 50, attributes := #[] }, { accessFlags := 1, nameIndex := 8, descriptorIndex := 9, attributes := #[] }, { accessFlags := 9, nameIndex := 59, descriptorIndex := 60, attributes := #[] }, { accessFlags := 1, nameIndex := 31, descriptorIndex := 61, attributes := #[] }, { accessFlags := 1, nameIndex := 35, descriptorIndex := 62, attributes := #[] }, { accessFlags := 1, nameIndex := 39, descriptorIndex := 61, attributes := #[] }, { accessFlags := 1, nameIndex := 42, descriptorIndex := 61, attributes := #[] }] 33 11 #[] #[{ accessFlags := 25, nameIndex := 51, descriptorIndex := 32, attributes := #[] }, { accessFlags := 25, nameIndex := 54, descriptorIndex := 36, attributes := #[] }, { accessFlags := 25, nameIndex := 55, descriptorIndex := 32, attributes := #[] }, { accessFlags := 18, nameIndex := 31, descriptorIndex := 32, attributes := #[] }, { accessFlags := 18, nameIndex := 35, descriptorIndex := 36, attributes := #[] }, { accessFlags := 18, nameIndex := 39, descriptorIndex := 32, attributes := #[] }, { accessFlags := 18, nameIndex := 42, descriptorIndex := 32, attributes := #[] }])
  fields := #[{ name := "DEFAULT_MAX_DIAMETER", type := .int, accessFlags := 25, slot := 0, constantValue := 0 }, { name := "DEFAULT_ALPHA", type := .double, accessFlags := 25, slot := 1, constantValue := 0 }, { name := "DEFAULT_MAX_RESULTS", type := .int, accessFlags := 25, slot := 2, constantValue := 0 }, { name := "maxDiameter", type := .int, accessFlags := 18, slot := 0, constantValue := 0 }, { name := "alpha", type := .double, accessFlags := 18, slot := 1, constantValue := 0 }, { name := "limit", type := .int, accessFlags := 18, slot := 2, constantValue := 0 }, { name := "maxResults", type := .int, accessFlags := 18, slot := 3, constantValue := 0 }]
  methods := #[k2m0, k2m1, k2m2, k2m3, k2m4, k2m5, k2m6]
  instanceTypes := #[.int, .double, .int, .int]
  staticTypes := #[.int, .double, .int]
  resolved := Array.replicate 86 none
  statics := none }

def pool3 : Array CpInfo := pool [(1, u "java/lang/Cloneable"), (0, .class_ 1), (0, u "java/lang/Object"), (0, .class_ 3)] 3

/-- java/lang/Cloneable -/
def k3 : Class := { plain "java/lang/Cloneable" (some 0) with
  accessFlags := 1537
  interfaces := #[]
  cf := some (fileOf pool3 2 #[] #[] 1537 4 #[] #[])
  fields := #[]
  methods := #[]
  instanceTypes := #[]
  staticTypes := #[]
  resolved := Array.replicate 8 none
  statics := none }

def pool4 : Array CpInfo := pool [(1, u "java/io/Serializable"), (0, .class_ 1), (0, u "java/lang/Object"), (0, .class_ 3)] 3

/-- java/io/Serializable -/
def k4 : Class := { plain "java/io/Serializable" (some 0) with
  accessFlags := 1537
  interfaces := #[]
  cf := some (fileOf pool4 2 #[] #[] 1537 4 #[] #[])
  fields := #[]
  methods := #[]
  instanceTypes := #[]
  staticTypes := #[]
  resolved := Array.replicate 8 none
  statics := none }

/-- the primitive byte -/
def k5 : Class := { plain "byte" none with kind := .primitive 'B', accessFlags := 0x411 }
/-- [B -/
def k6 : Class := { plain "[B" (some 0) with kind := .array 5 .byte, interfaces := #[3, 4], accessFlags := 1041 }

/-- the primitive int -/
def k7 : Class := { plain "int" none with kind := .primitive 'I', accessFlags := 0x411 }
/-- [I -/
def k8 : Class := { plain "[I" (some 0) with kind := .array 7 .int, interfaces := #[3, 4], accessFlags := 1041 }

def heap : Heap := #[]
def classes : Array Class := #[k0, k1, k2, k3, k4, k5, k6, k7, k8]
def interned : List (Array UInt16 × Addr) := []
def slotsUsed : Nat := 0
def theMethod : MethodId := ⟨1, 1⟩
def args0 : Array Value := #[.int 5]
def aboutOver (below : List Frame) : State where
  vm := { classes := classes, interned := interned.toArray }
  heap := heap
  slotsUsed := slotsUsed
  threads := #[{ frames := .invoking theMethod args0 :: below }]
def below0 : List Frame := [.native { method := ⟨0, 0⟩, args := #[] }]
def about1 : State := aboutOver below0
def p0 : Program := .bare "" "" ""
def e0 : Env := launch0.env 0 0 0
theorem w_frames : about1.frames = Frame.invoking theMethod args0 :: below0 := rfl
set_option maxRecDepth 65536 in
theorem w_args : argsFit about1.vm theMethod args0 = true := by decide +kernel
set_option maxRecDepth 65536 in
theorem w_heap : heapFits about1 = true := by decide +kernel
set_option maxRecDepth 65536 in
theorem w_runnable : about1.curStatus? = some .runnable := by decide +kernel
set_option maxRecDepth 65536 in
theorem w_alone : about1.alone = true := by decide +kernel
set_option maxRecDepth 65536 in
theorem w_named : about1.methodNamed? x = some theMethod := by decide +kernel
set_option maxRecDepth 65536 in
theorem w_hears : about1.hears theMethod below0 = true := by decide +kernel
set_option maxRecDepth 65536 in
theorem w_ripe : about1.ripe theMethod args0 below0 = true := by decide +kernel
theorem w_running : about1.status = .running := rfl
set_option maxRecDepth 65536 in
theorem w_room : about1.hasRoom e0.platform room_1 = true :=
  launch0.hasRoom_least _ room_1 (by decide +kernel) (by decide +kernel) (by decide +kernel) (by decide +kernel) (by decide +kernel) (by decide +kernel)
theorem allAtoms_all (ts : List Jvm.Cond) (a : Array Jvm.Value) (st : Jvm.State) : (allAtoms ts).before a st = ts.all (fun c => c.before a st) := by
  induction ts with
  | nil => rfl
  | cons c t ih =>
    show (Jvm.Cond.and c (allAtoms t)).before a st = _
    rw [Jvm.Cond.before_and, ih, List.all_cons]
def words1 : List Jvm.Cond := Jvm.Cond.code x code maxLocals ret :: tables_1
/-- a 'code' word, met by the world's own term for the bytes: nothing is compared byte by byte -/
theorem code_word {y : MethodName} {bytes : ByteArray} {mx : Nat} {rt : Option FieldType} {a : Array Value} {s : State} {m : MethodId} {meth : Method} {c : Code} (h1 : s.methodNamed? y = some m) (h2 : s.vm.method? m = some meth) (h3 : meth.code = some c) (h4 : c.code = bytes)
    (h5 : (c.maxLocals == mx && c.exceptionTable.isEmpty && decide (c.maxStack ≤ mostOperands) && decide (meth.sig.returnType = rt) && !meth.locks && decide (parseMethodDescriptor y.desc = some meth.sig)) = true) : (Jvm.Cond.code y bytes mx rt).before a s = true := by
  simp only [Bool.and_eq_true, beq_iff_eq, Bool.not_eq_true', decide_eq_true_eq] at h5
  obtain ⟨⟨⟨⟨⟨g1, g2⟩, g3⟩, g4⟩, g5⟩, g6⟩ := h5
  simp [Cond.before, Cond.holds, Cond.value, h1, h2, h3, h4, g1, g2, g3, g4, g5, g6]
def isCode : Jvm.Cond → Bool
  | .code _ _ _ _ => true
  | _ => false
theorem all_split {L : List Jvm.Cond} {P : Jvm.Cond → Bool} (h1 : L.all (fun c => isCode c || P c) = true) (h2 : ∀ c ∈ L.filter isCode, P c = true) : L.all P = true := by
  refine List.all_eq_true.mpr fun c hc => ?_
  have h := List.all_eq_true.mp h1 c hc
  rcases Bool.eq_false_or_eq_true (isCode c) with hi | hi
  · exact h2 c (List.mem_filter.mpr ⟨hc, hi⟩)
  · simpa [hi] using h
set_option maxRecDepth 65536 in
theorem w_c0 : (Jvm.Cond.code x code maxLocals ret).before args0 about1 = true := code_word (m := ⟨1, 1⟩) (meth := k1m1) (c := k1c1) (by decide +kernel) rfl rfl rfl (by decide +kernel)
set_option maxRecDepth 65536 in
theorem w_c1 : (Jvm.Cond.code ({ cls := "com/example/traversal/traversal/explore/SerendipityParameters", name := "defaults", desc := "()Lcom/example/traversal/traversal/explore/SerendipityParameters;" } : Jvm.MethodName) prog_29_method_3_code (0 : Nat) (Option.some (Jvm.ClassFile.FieldType.object "com/example/traversal/traversal/explore/SerendipityParameters"))).before args0 about1 = true := code_word (m := ⟨2, 2⟩) (meth := k2m2) (c := k2c2) (by decide +kernel) rfl rfl rfl (by decide +kernel)
set_option maxRecDepth 65536 in
theorem w_c2 : (Jvm.Cond.code ({ cls := "com/example/traversal/traversal/explore/SerendipityParameters", name := "<init>", desc := "(IDI)V" } : Jvm.MethodName) prog_29_method_1_code (5 : Nat) (Option.none : Option Jvm.ClassFile.FieldType)).before args0 about1 = true := code_word (m := ⟨2, 0⟩) (meth := k2m0) (c := k2c0) (by decide +kernel) rfl rfl rfl (by decide +kernel)
set_option maxRecDepth 65536 in
theorem w_c3 : (Jvm.Cond.code ({ cls := "com/example/traversal/traversal/explore/SerendipityParameters", name := "<init>", desc := "(IDII)V" } : Jvm.MethodName) prog_29_method_2_code (6 : Nat) (Option.none : Option Jvm.ClassFile.FieldType)).before args0 about1 = true := code_word (m := ⟨2, 1⟩) (meth := k2m1) (c := k2c1) (by decide +kernel) rfl rfl rfl (by decide +kernel)
set_option maxRecDepth 65536 in
theorem w_c4 : (Jvm.Cond.code ({ cls := "java/lang/Object", name := "<init>", desc := "()V" } : Jvm.MethodName) object_method_1_code (1 : Nat) (Option.none : Option Jvm.ClassFile.FieldType)).before args0 about1 = true := code_word (m := ⟨0, 0⟩) (meth := k0m0) (c := k0c0) (by decide +kernel) rfl rfl rfl (by decide +kernel)
set_option maxRecDepth 65536 in
theorem w_c5 : (Jvm.Cond.code ({ cls := "com/example/traversal/traversal/explore/SerendipityParameters", name := "maxDiameter", desc := "()I" } : Jvm.MethodName) prog_29_method_4_code (1 : Nat) (Option.some Jvm.ClassFile.FieldType.int)).before args0 about1 = true := code_word (m := ⟨2, 3⟩) (meth := k2m3) (c := k2c3) (by decide +kernel) rfl rfl rfl (by decide +kernel)
set_option maxRecDepth 65536 in
theorem w_c6 : (Jvm.Cond.code ({ cls := "com/example/traversal/traversal/explore/SerendipityParameters", name := "alpha", desc := "()D" } : Jvm.MethodName) prog_29_method_5_code (1 : Nat) (Option.some Jvm.ClassFile.FieldType.double)).before args0 about1 = true := code_word (m := ⟨2, 4⟩) (meth := k2m4) (c := k2c4) (by decide +kernel) rfl rfl rfl (by decide +kernel)
set_option maxRecDepth 65536 in
theorem w_c7 : (Jvm.Cond.code ({ cls := "com/example/traversal/traversal/explore/SerendipityParameters", name := "limit", desc := "()I" } : Jvm.MethodName) prog_29_method_6_code (1 : Nat) (Option.some Jvm.ClassFile.FieldType.int)).before args0 about1 = true := code_word (m := ⟨2, 5⟩) (meth := k2m5) (c := k2c5) (by decide +kernel) rfl rfl rfl (by decide +kernel)
set_option maxRecDepth 65536 in
theorem w_c8 : (Jvm.Cond.code ({ cls := "com/example/traversal/traversal/explore/SerendipityParameters", name := "maxResults", desc := "()I" } : Jvm.MethodName) prog_29_method_7_code (1 : Nat) (Option.some Jvm.ClassFile.FieldType.int)).before args0 about1 = true := code_word (m := ⟨2, 6⟩) (meth := k2m6) (c := k2c6) (by decide +kernel) rfl rfl rfl (by decide +kernel)
def codes1 : List Jvm.Cond := [Jvm.Cond.code x code maxLocals ret, Jvm.Cond.code ({ cls := "com/example/traversal/traversal/explore/SerendipityParameters", name := "defaults", desc := "()Lcom/example/traversal/traversal/explore/SerendipityParameters;" } : Jvm.MethodName) prog_29_method_3_code (0 : Nat) (Option.some (Jvm.ClassFile.FieldType.object "com/example/traversal/traversal/explore/SerendipityParameters")), Jvm.Cond.code ({ cls := "com/example/traversal/traversal/explore/SerendipityParameters", name := "<init>", desc := "(IDI)V" } : Jvm.MethodName) prog_29_method_1_code (5 : Nat) (Option.none : Option Jvm.ClassFile.FieldType), Jvm.Cond.code ({ cls := "com/example/traversal/traversal/explore/SerendipityParameters", name := "<init>", desc := "(IDII)V" } : Jvm.MethodName) prog_29_method_2_code (6 : Nat) (Option.none : Option Jvm.ClassFile.FieldType), Jvm.Cond.code ({ cls := "java/lang/Object", name := "<init>", desc := "()V" } : Jvm.MethodName) object_method_1_code (1 : Nat) (Option.none : Option Jvm.ClassFile.FieldType), Jvm.Cond.code ({ cls := "com/example/traversal/traversal/explore/SerendipityParameters", name := "maxDiameter", desc := "()I" } : Jvm.MethodName) prog_29_method_4_code (1 : Nat) (Option.some Jvm.ClassFile.FieldType.int), Jvm.Cond.code ({ cls := "com/example/traversal/traversal/explore/SerendipityParameters", name := "alpha", desc := "()D" } : Jvm.MethodName) prog_29_method_5_code (1 : Nat) (Option.some Jvm.ClassFile.FieldType.double), Jvm.Cond.code ({ cls := "com/example/traversal/traversal/explore/SerendipityParameters", name := "limit", desc := "()I" } : Jvm.MethodName) prog_29_method_6_code (1 : Nat) (Option.some Jvm.ClassFile.FieldType.int), Jvm.Cond.code ({ cls := "com/example/traversal/traversal/explore/SerendipityParameters", name := "maxResults", desc := "()I" } : Jvm.MethodName) prog_29_method_7_code (1 : Nat) (Option.some Jvm.ClassFile.FieldType.int)]
set_option maxRecDepth 65536 in
theorem codes_eq : words1.filter isCode = codes1 := rfl
theorem w_codes : ∀ c ∈ words1.filter isCode, c.before args0 about1 = true := by
  rw [codes_eq]
  intro c hc
  simp only [codes1, List.mem_cons, List.not_mem_nil, or_false] at hc
  rcases hc with rfl | rfl | rfl | rfl | rfl | rfl | rfl | rfl | rfl
  · exact w_c0
  · exact w_c1
  · exact w_c2
  · exact w_c3
  · exact w_c4
  · exact w_c5
  · exact w_c6
  · exact w_c7
  · exact w_c8
set_option maxRecDepth 65536 in
theorem w_t1 : (words1.take 24).all (fun c => isCode c || c.before args0 about1) = true := by decide +kernel
set_option maxRecDepth 65536 in
theorem w_t2 : ((words1.drop 24).take 24).all (fun c => isCode c || c.before args0 about1) = true := by decide +kernel
set_option maxRecDepth 65536 in
theorem w_t3 : ((words1.drop 24).drop 24).all (fun c => isCode c || c.before args0 about1) = true := by decide +kernel
theorem w_tables : (allAtoms (Jvm.Cond.code x code maxLocals ret :: tables_1)).before args0 about1 = true := by
  rw [allAtoms_all]
  show words1.all (fun c => c.before args0 about1) = true
  refine all_split ?_ w_codes
  rw [← List.take_append_drop 24 words1, List.all_append, w_t1, ← List.take_append_drop 24 (words1.drop 24), List.all_append, w_t2, w_t3]
  rfl
set_option maxRecDepth 65536 in
theorem w_case : (Jvm.Cond.and given_1 narrow_1).before args0 about1 = true := by decide +kernel
theorem w_applies : (headSpec (Jvm.Cond.code x code maxLocals ret :: tables_1) room_1).applies x e0.platform about1 = true :=
  (Spec.applies_iff w_frames).mpr ⟨w_running, w_runnable, w_alone, w_named, w_hears, w_ripe, w_room, w_tables⟩
theorem atStart : AtStart classFile x code maxLocals ret World_1 tables_1 room_1 Calls_1 rest_1 Pre_1 launch0 p0 e0 about1 theMethod args0 below0 :=
  ⟨lists_1, trivial, launch0.admits_env _ _ _, launch0.least_env, fairChoices_fair.cas, fairChoices_fair.clock, w_frames, w_args, w_heap, w_applies, trivial, trivial, w_case⟩
end start1
theorem witness_1 : WitnessClaimed_1 := ⟨start1.p0, start1.e0, start1.about1, start1.theMethod, start1.args0, start1.below0, start1.atStart⟩
end Jvm.Pilot.@@N@@
