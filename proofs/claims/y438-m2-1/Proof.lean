import JvmDerived
import JvmDerived.Pilot.@@N@@Statement
import JvmDerived.Pilot.@@N@@Code
set_option linter.unusedVariables false
set_option linter.unusedSimpArgs false
namespace Jvm.Pilot.@@N@@
open Jvm Jvm.ClassFile Sem Op Lib Jvm.Free Jvm.Stand Jvm.LawKit Jvm.RoadKit Bundle Jvm.Pilot.@@N@@.Jvm.D
section OwnKit
variable {p : Program} {l : Launch} {e : Env} {R : Room} {s : State} {m : MethodId} {args : Array Value} {below : List Frame} {meth : Method} {c : Code} {T : State} {locs : List Loc} {cells slots : Nat}
/-- from here the run comes to a state of which K holds -/
def Go (tb : Tables) (e : Env) (below : List Frame) (K : State → Prop) (T : State) : Prop := ∃ U, Steps tb e below T U ∧ K U
theorem Go.st {tb : Tables} {K : State → Prop} {T T' : State} (h : ∀ U, Steps tb e below T' U → Steps tb e below T U) (g : Go tb e below K T') : Go tb e below K T := by
  obtain ⟨U, h1, h2⟩ := g; exact ⟨U, h U h1, h2⟩
theorem Go.tr {tb : Tables} {K : State → Prop} {T T' : State} (h : Steps tb e below T T') (g : Go tb e below K T') : Go tb e below K T := by
  obtain ⟨U, h1, h2⟩ := g; exact ⟨U, h.trans h1, h2⟩
/-- where a body may end -/
def own_Fin (s : State) (below : List Frame) (CC SS : Nat) (Q : Option Value → Heap → List Loc → Prop) (U : State) : Prop :=
  ∃ o, U.status = .running ∧ Ended U below o ∧ ∃ v L, o = .returned v ∧ Q v U.heap L ∧ FrameEnd s o U L CC SS
theorem own_start {tb : Tables} {CC SS : Nat} {Q : Option Value → Heap → List Loc → Prop} {T : State} (g : Go tb e below (own_Fin s below CC SS Q) T) :
    ∃ s₂ o, Steps tb e below T s₂ ∧ s₂.status = .running ∧ Ended s₂ below o ∧ ∃ v L, o = .returned v ∧ Q v s₂.heap L ∧ FrameEnd s o s₂ L CC SS := by
  obtain ⟨U, h1, o, h2, h3, h4⟩ := g; exact ⟨U, o, h1, h2, h3, h4⟩
theorem own_cast {tb : Tables} {K : State → Prop} {f f' : JFrame} (q : f = f') (g : Go tb e below K (T.setTop f')) : Go tb e below K (T.setTop f) := q ▸ g
section Ends
variable {CC SS : Nat} {Q : Option Value → Heap → List Loc → Prop}
theorem own_end (X : Stand p l e R s m args below meth c T locs cells slots) (hlocks : meth.locks = false) {v : Option Value} (hv : meth.sig.returnType = none → v = none) {f : JFrame}
    (k : ∀ fs, (∀ (f : JFrame) (acts : List Action), f.method = m → f.locked = none → f.entered = [] → (doReturn e (T.setTop f) acts v).1 = T.setFrames fs) → Steps p.tables e below (T.setTop f) (T.setFrames fs))
    (hq : Q v T.heap locs) (hc : cells ≤ CC) (hs : slots ≤ SS) : Go p.tables e below (own_Fin s below CC SS Q) (T.setTop f) := by
  obtain ⟨fs, hr, hrun, hended, hW, hsame⟩ := X.leave (v := v) hv hlocks
  exact ⟨_, k fs hr, _, hrun, hended, _, _, rfl, hq, ⟨_, rfl⟩, hW, hsame.mono hc hs⟩
theorem own_ret0 (X : Stand p l e R s m args below meth c T locs cells slots) (hx : p.tables.exec = Jvm.exec) (hlocks : meth.locks = false) {pc : Nat} {Ls : Array Slot} (hret : meth.sig.returnType = none) (hd : decode c.code pc = .ok (.return_, 1))
    (hq : Q none T.heap locs) (hc : cells ≤ CC) (hs : slots ≤ SS) : Go p.tables e below (own_Fin s below CC SS Q) (T.setTop (mkF m pc Ls [])) :=
  own_end X hlocks (fun _ => rfl) (fun _ hr => X.returnOut hx hret hd hr) hq hc hs
theorem own_retN (X : Stand p l e R s m args below meth c T locs cells slots) (hx : p.tables.exec = Jvm.exec) (hlocks : meth.locks = false) {pc : Nat} {Ls : Array Slot} {z : Int32} {t : FieldType} {rest : List Value} (hret : meth.sig.returnType = some t) (ht : t = .boolean ∨ t = .byte ∨ t = .char ∨ t = .short) (hd : decode c.code pc = .ok (.ireturn, 1))
    (hq : Q (some (.int (nar t z))) T.heap locs) (hc : cells ≤ CC) (hs : slots ≤ SS) : Go p.tables e below (own_Fin s below CC SS Q) (T.setTop (mkF m pc Ls (.int z :: rest))) :=
  own_end X hlocks (fun h => by rw [hret] at h; cases h) (fun _ hr => retN X hx hret ht hd hr) hq hc hs
theorem own_retO (X : Stand p l e R s m args below meth c T locs cells slots) (hx : p.tables.exec = Jvm.exec) (hlocks : meth.locks = false) {pc : Nat} {Ls : Array Slot} {w : Value} {t : FieldType} {i : Instr} {rest : List Value} (hret : meth.sig.returnType = some t) (hn : narrow t w = w)
    (hi : (i = .ireturn ∧ (t = .int ∨ t = .boolean ∨ t = .byte ∨ t = .char ∨ t = .short) ∧ ∃ z, w = .int z) ∨ (i = .lreturn ∧ t = .long ∧ ∃ z, w = .long z) ∨ (i = .dreturn ∧ t = .double ∧ ∃ z, w = .double z) ∨ (i = .freturn ∧ t = .float ∧ ∃ z, w = .float z) ∨ (i = .areturn ∧ t.isReference = true ∧ w.isRef = true))
    (hd : decode c.code pc = .ok (i, 1)) (hq : Q (some w) T.heap locs) (hc : cells ≤ CC) (hs : slots ≤ SS) : Go p.tables e below (own_Fin s below CC SS Q) (T.setTop (mkF m pc Ls (w :: rest))) :=
  own_end X hlocks (fun h => by rw [hret] at h; cases h) (fun _ hr => retOut X hx hret hn hi hd hr) hq hc hs
end Ends
end OwnKit
theorem own_lt (x y : Int64) : x < y ↔ x.toInt < y.toInt := Int64.lt_iff_toInt_lt
theorem own_irem (x y : Int32) (hy : 0 < y.toInt) : x - (x / y) * y = x % y := by
  have h1 : y ≠ -1 := fun q => by subst q; exact absurd hy (by decide)
  apply Int32.toInt_inj.mp
  have e1 := Int32.toInt_div_of_ne_right x y h1
  have e2 := c_isub x (x / y * y)
  have e3 := c_imul (x / y) y
  have e4 : (x % y).toInt = x.toInt.tmod y.toInt := Int32.toInt_mod x y
  have e5 := Int.tmod_add_mul_tdiv x.toInt y.toInt
  rw [e1, Int.mul_comm] at e3
  have r1 := rng32 (x - x / y * y)
  have r2 := rng32 (x % y)
  omega
theorem own_pos (x : Int32) : 0 ≤ (x &&& (2147483647 : Int32)).toInt := by
  have := c_mask x 2147483647 31 (by decide) (by decide)
  rw [show ((2 ^ 31 : Nat) : Int) = 2147483648 from by decide] at this; omega
theorem own_rem (x y : Int32) (hx : 0 ≤ x.toInt) (hy : 0 < y.toInt) : 0 ≤ (x - (x / y) * y).toInt ∧ (x - (x / y) * y).toInt < y.toInt := by
  rw [own_irem x y hy, (c_irem x y y.toInt rfl).1 hx]
  exact ⟨Int.emod_nonneg _ (by omega), Int.emod_lt_of_pos _ hy⟩
theorem own_remL (x y : Int64) (hx : 0 ≤ x.toInt) (hy : 0 < y.toInt) : 0 ≤ (x - (x / y) * y).toInt ∧ (x - (x / y) * y).toInt < y.toInt := by
  rw [(c_lrem x y y.toInt rfl).1 hx]
  exact ⟨Int.emod_nonneg _ (by omega), Int.emod_lt_of_pos _ hy⟩
theorem own_lt32 (x y : Int32) : x < y ↔ x.toInt < y.toInt := Int32.lt_iff_toInt_lt
def own_ch (w c : Int32) : Int32 := if c = 0 then w else c
def own_fr (w : Int32) (c : Int64) : Int32 := if c = 0 then w else c.toInt32

theorem d2_0 : decode jdk_30_method_1_code 0 = .ok (.aload_n 0, 1) := by decide +kernel
theorem d2_1 : decode jdk_30_method_1_code 1 = .ok (.invokespecial 1, 3) := by decide +kernel
theorem d2_4 : decode jdk_30_method_1_code 4 = .ok (.return_, 1) := by decide +kernel
theorem pn_2 : plainFor (⟨"java/lang/Record", "<init>", "()V"⟩ : MethodName) = true := plainFor_of_name (by first | (simp [plainName, overriddenIn]; done) | decide +kernel)
theorem ef_2 (m : MethodId) (x0 : Addr) : entryFrame m #[(.ref x0)] 1 = mkF m 0 #[.val (.ref x0)] [] := by first | (simp [entryFrame, mkF, argsToLocals, Value.category]; done) | rfl
def Q2 (Z : State) (a1 : Addr)  (h0 : Heap) (n0 : Nat) (v : Option Value) (h : Heap) (L : List Loc) : Prop := v = none ∧ Fr n0 L ∧ h = h0
set_option maxRecDepth 65536 in
set_option maxHeartbeats 40000000 in
theorem rm2 (l : Launch) (Z : State) (a0 : Array Value) (hw : ∀ d ∈ tables_1, d.before a0 Z = true) (ws : List Jvm.Cond) (a1 : Addr)  (h0 : Heap) (n0 : Nat) (Z0 : n0 ≤ h0.size) :
    MetFree l (⟨"java/lang/Record", "<init>", "()V"⟩ : MethodName) (head1 (Jvm.Cond.code (⟨"java/lang/Record", "<init>", "()V"⟩ : MethodName) jdk_30_method_1_code 1 none :: ws) ({ frames := 1, cells := 0, slots := 0, locals := 12 } : Room)) (fun a U => a = #[(.ref a1)] ∧ Z.Warmed39 U.vm ∧ U.heap = h0) (fun _ _ _ _ _ => True) (fun _ U o U' => ∃ v L, o = .returned v ∧ Q2 Z a1 h0 n0 v U'.heap L ∧ FrameEnd U o U' L ({ frames := 1, cells := 0, slots := 0, locals := 12 } : Room).cells ({ frames := 1, cells := 0, slots := 0, locals := 12 } : Room).slots) := by
  refine MetFree.of_bodySF pn_2 hisR ?_
  intro p e s m args below meth c s₁ Bd hml0 hP hK
  obtain ⟨rfl, hZ, hh⟩ := hP
  have hx := Bd.exec
  have hby := Bd.bytes
  have hml : c.maxLocals = 1 := hml0
  have hown : s.vm.findClass "java/lang/Record" = some m.cls := findClass_of_methodNamed Bd.named
  have hnm := (name_of_methodNamed Bd.named Bd.method).1
  have X0 : Stand p l e ({ frames := 1, cells := 0, slots := 0, locals := 12 } : Room) s m #[(.ref a1)] below meth c s₁ [] 0 0 := Stand.of_body Bd
  have e0 : s₁.heap = h0 := by rw [← hh, Bd.state]; rfl
  have N0 := Fr.nil n0
  refine own_start (Q := Q2 Z a1 h0 n0) (own_cast (ef_2 m a1) ?_)
  show Go p.tables e below _ (s₁.setTop (mkF m 0 #[.val (.ref a1)] []))
  refine Go.st (fun U hr => XS.aloadN X0.here hx rfl (hb hby d2_0) rfl rfl hr) ?_
  show Go p.tables e below _ (s₁.setTop (mkF m 1 #[.val (.ref a1)] [(.ref a1)]))
  obtain ⟨T1, X1, e1, st1⟩ := initO X0 hx hZ hown (hw _ (List.mem_of_getElem? (i := 14) rfl)) (hw _ (List.mem_of_getElem? (i := 15) rfl)) (hw _ (List.mem_of_getElem? (i := 16) rfl)) e0 (g := (mkF m 1 #[.val (.ref a1)] [(.ref a1)])) rfl (by rw [hml]; rfl) rfl (hb hby d2_1) (by decide) (W := 0) (by show 2 * 0 + _ ≤ _; exact Nat.le_of_eq rfl) (by decide)
  refine Go.st st1 ?_
  show Go p.tables e below _ (T1.setTop (mkF m 4 #[.val (.ref a1)] []))
  exact own_ret0 X1 hx Bd.notSynchronized Bd.returns (hb hby d2_4) ⟨rfl, N0, e1⟩ (by decide) (by decide)
theorem d1_0 : decode prog_5_method_1_code 0 = .ok (.aload_n 0, 1) := by decide +kernel
theorem d1_1 : decode prog_5_method_1_code 1 = .ok (.invokespecial 1, 3) := by decide +kernel
theorem d1_4 : decode prog_5_method_1_code 4 = .ok (.iload_n 1, 1) := by decide +kernel
theorem d1_5 : decode prog_5_method_1_code 5 = .ok (.iconst 1, 1) := by decide +kernel
theorem d1_6 : decode prog_5_method_1_code 6 = .ok (.if_icmp .lt 9, 3) := by decide +kernel
theorem d1_9 : decode prog_5_method_1_code 9 = .ok (.iload_n 1, 1) := by decide +kernel
theorem d1_10 : decode prog_5_method_1_code 10 = .ok (.ldc 9, 2) := by decide +kernel
theorem d1_12 : decode prog_5_method_1_code 12 = .ok (.if_icmp .le 17, 3) := by decide +kernel
theorem d1_29 : decode prog_5_method_1_code 29 = .ok (.iload_n 2, 1) := by decide +kernel
theorem d1_30 : decode prog_5_method_1_code 30 = .ok (.sipush 4096, 3) := by decide +kernel
theorem d1_33 : decode prog_5_method_1_code 33 = .ok (.if_icmp .ge 17, 3) := by decide +kernel
theorem d1_50 : decode prog_5_method_1_code 50 = .ok (.iload_n 3, 1) := by decide +kernel
theorem d1_51 : decode prog_5_method_1_code 51 = .ok (.ifCond .lt 9, 3) := by decide +kernel
theorem d1_54 : decode prog_5_method_1_code 54 = .ok (.iload_n 3, 1) := by decide +kernel
theorem d1_55 : decode prog_5_method_1_code 55 = .ok (.ldc 9, 2) := by decide +kernel
theorem d1_57 : decode prog_5_method_1_code 57 = .ok (.if_icmp .le 17, 3) := by decide +kernel
theorem d1_74 : decode prog_5_method_1_code 74 = .ok (.aload_n 0, 1) := by decide +kernel
theorem d1_75 : decode prog_5_method_1_code 75 = .ok (.iload_n 1, 1) := by decide +kernel
theorem d1_76 : decode prog_5_method_1_code 76 = .ok (.putfield 21, 3) := by decide +kernel
theorem d1_79 : decode prog_5_method_1_code 79 = .ok (.aload_n 0, 1) := by decide +kernel
theorem d1_80 : decode prog_5_method_1_code 80 = .ok (.iload_n 2, 1) := by decide +kernel
theorem d1_81 : decode prog_5_method_1_code 81 = .ok (.putfield 25, 3) := by decide +kernel
theorem d1_84 : decode prog_5_method_1_code 84 = .ok (.aload_n 0, 1) := by decide +kernel
theorem d1_85 : decode prog_5_method_1_code 85 = .ok (.iload_n 3, 1) := by decide +kernel
theorem d1_86 : decode prog_5_method_1_code 86 = .ok (.putfield 28, 3) := by decide +kernel
theorem d1_89 : decode prog_5_method_1_code 89 = .ok (.return_, 1) := by decide +kernel
theorem pn_1 : plainFor (⟨"com/example/notched_ledger/notchedledger/amqp/Tuning", "<init>", "(III)V"⟩ : MethodName) = true := plainFor_of_name (by first | (simp [plainName, overriddenIn]; done) | decide +kernel)
theorem ef_1 (m : MethodId) (x0 : Addr) (x1 : Int32) (x2 : Int32) (x3 : Int32) : entryFrame m #[(.ref x0), (.int x1), (.int x2), (.int x3)] 4 = mkF m 0 #[.val (.ref x0), .val (.int x1), .val (.int x2), .val (.int x3)] [] := by first | (simp [entryFrame, mkF, argsToLocals, Value.category]; done) | rfl
theorem pd_0 : parseMethodDescriptor "()V" = some ⟨[], none⟩ := by decide +kernel
def Q1 (Z : State) (a1 : Addr) (p2 : Int32) (p3 : Int32) (p4 : Int32)  (h0 : Heap) (n0 : Nat) (v : Option Value) (h : Heap) (L : List Loc) : Prop := v = none ∧ Fr n0 L ∧ Keep h0 h [a1] ∧ Exa Z h a1 "com/example/notched_ledger/notchedledger/amqp/Tuning" ∧ Fld Z h a1 "com/example/notched_ledger/notchedledger/amqp/Tuning" "channelMax" "I" (.int p2) ∧ Fld Z h a1 "com/example/notched_ledger/notchedledger/amqp/Tuning" "frameMax" "I" (.int p3) ∧ Fld Z h a1 "com/example/notched_ledger/notchedledger/amqp/Tuning" "heartbeatSeconds" "I" (.int p4)
set_option maxRecDepth 65536 in
set_option maxHeartbeats 40000000 in
theorem rm1 (l : Launch) (Z : State) (a0 : Array Value) (hw : ∀ d ∈ tables_1, d.before a0 Z = true) (ws : List Jvm.Cond) (a1 : Addr) (p2 : Int32) (p3 : Int32) (p4 : Int32)  (h0 : Heap) (n0 : Nat) (Z0 : n0 ≤ h0.size) (E1 : Exa Z h0 a1 "com/example/notched_ledger/notchedledger/amqp/Tuning") (F0 : Fld Z h0 a1 "com/example/notched_ledger/notchedledger/amqp/Tuning" "channelMax" "I" (.int (0 : Int32))) (F1 : Fld Z h0 a1 "com/example/notched_ledger/notchedledger/amqp/Tuning" "frameMax" "I" (.int (0 : Int32))) (F2 : Fld Z h0 a1 "com/example/notched_ledger/notchedledger/amqp/Tuning" "heartbeatSeconds" "I" (.int (0 : Int32))) (g1 : n0 ≤ a1) (hp1 : ¬ p2 < 1) (hp2 : ¬ 65535 < p2) (hp3 : ¬ p3 < 4096) (hp4 : ¬ p4 < 0) (hp5 : ¬ 65535 < p4) :
    MetFree l (⟨"com/example/notched_ledger/notchedledger/amqp/Tuning", "<init>", "(III)V"⟩ : MethodName) (head1 (Jvm.Cond.code (⟨"com/example/notched_ledger/notchedledger/amqp/Tuning", "<init>", "(III)V"⟩ : MethodName) prog_5_method_1_code 4 none :: ws) ({ frames := 2, cells := 0, slots := 0, locals := 24 } : Room)) (fun a U => a = #[(.ref a1), (.int p2), (.int p3), (.int p4)] ∧ Z.Warmed39 U.vm ∧ U.heap = h0) (fun _ _ _ _ _ => True) (fun _ U o U' => ∃ v L, o = .returned v ∧ Q1 Z a1 p2 p3 p4 h0 n0 v U'.heap L ∧ FrameEnd U o U' L ({ frames := 2, cells := 0, slots := 0, locals := 24 } : Room).cells ({ frames := 2, cells := 0, slots := 0, locals := 24 } : Room).slots) := by
  refine MetFree.of_bodySF pn_1 hisR ?_
  intro p e s m args below meth c s₁ Bd hml0 hP hK
  obtain ⟨rfl, hZ, hh⟩ := hP
  have hx := Bd.exec
  have hby := Bd.bytes
  have hml : c.maxLocals = 4 := hml0
  have hown : s.vm.findClass "com/example/notched_ledger/notchedledger/amqp/Tuning" = some m.cls := findClass_of_methodNamed Bd.named
  have hnm := (name_of_methodNamed Bd.named Bd.method).1
  have X0 : Stand p l e ({ frames := 2, cells := 0, slots := 0, locals := 24 } : Room) s m #[(.ref a1), (.int p2), (.int p3), (.int p4)] below meth c s₁ [] 0 0 := Stand.of_body Bd
  have e0 : s₁.heap = h0 := by rw [← hh, Bd.state]; rfl
  have N0 := Fr.nil n0
  refine own_start (Q := Q1 Z a1 p2 p3 p4 h0 n0) (own_cast (ef_1 m a1 p2 p3 p4) ?_)
  show Go p.tables e below _ (s₁.setTop (mkF m 0 #[.val (.ref a1), .val (.int p2), .val (.int p3), .val (.int p4)] []))
  refine Go.st (fun U hr => XS.aloadN X0.here hx rfl (hb hby d1_0) rfl rfl hr) ?_
  show Go p.tables e below _ (s₁.setTop (mkF m 1 #[.val (.ref a1), .val (.int p2), .val (.int p3), .val (.int p4)] [(.ref a1)]))
  obtain ⟨_, _, ⟨T1, L1, k1, n1⟩, -, X1, ⟨Lc1, hQ1, l1, y1, z1⟩, st1⟩ := X0.specialBack hx (y := (⟨"java/lang/Record", "<init>", "()V"⟩ : MethodName)) rfl hown (mvT hZ (hw _ (List.mem_of_getElem? (i := 9) rfl))) (mvT hZ (hw _ (List.mem_of_getElem? (i := 10) rfl))) (mvT hZ (hw _ (List.mem_of_getElem? (i := 13) rfl))) (by decide) (backOf (W := 0) (rm2 l Z a0 hw [] a1 h0 n0 Z0) hZ (hw _ (List.mem_of_getElem? (i := 13) rfl)) (hw _ (List.mem_of_getElem? (i := 12) rfl)) (by decide) (by decide)) (g := (mkF m 1 #[.val (.ref a1), .val (.int p2), .val (.int p3), .val (.int p4)] [(.ref a1)])) rfl (by rw [hml]; rfl) (Steps.refl _) (a := a1) (argsL := []) (rest := []) (lenOf pd_0 rfl) rfl (by show 2 * 0 + _ ≤ _; exact Nat.le_of_eq rfl) (hb hby d1_1) (fun _ _ => ⟨rfl, e0, (by decide : 0 + 0 ≤ _), (by decide : 0 + 0 ≤ _)⟩)
  dsimp only [Pt.U, Pt.locs, Pt.cells, Pt.slots] at X1 l1 y1 z1 st1 hQ1
  subst l1 y1 z1
  obtain ⟨rfl, Nq1, ee1⟩ := hQ1
  have N1 := Fr.app N0 Nq1
  refine Go.tr st1 ?_
  show Go p.tables e below _ (T1.setTop (mkF m 4 #[.val (.ref a1), .val (.int p2), .val (.int p3), .val (.int p4)] []))
  refine Go.st (fun U hr => XS.iloadN X1.here hx rfl (hb hby d1_4) rfl hr) ?_
  show Go p.tables e below _ (T1.setTop (mkF m 5 #[.val (.ref a1), .val (.int p2), .val (.int p3), .val (.int p4)] [(.int p2)]))
  refine Go.st (fun U hr => XS.iconst X1.here hx rfl (hb hby d1_5) hr) ?_
  show Go p.tables e below _ (T1.setTop (mkF m 6 #[.val (.ref a1), .val (.int p2), .val (.int p3), .val (.int p4)] [(.int (1 : Int32)), (.int p2)]))
  have hc6_2 : ¬ (p2 < (1 : Int32)) := hp1
  refine Go.st (fun U hr => XS.icmpNo X1.here hx rfl (hb hby d1_6) rfl (flt hc6_2).1 hr) ?_
  show Go p.tables e below _ (T1.setTop (mkF m 9 #[.val (.ref a1), .val (.int p2), .val (.int p3), .val (.int p4)] []))
  refine Go.st (fun U hr => XS.iloadN X1.here hx rfl (hb hby d1_9) rfl hr) ?_
  show Go p.tables e below _ (T1.setTop (mkF m 10 #[.val (.ref a1), .val (.int p2), .val (.int p3), .val (.int p4)] [(.int p2)]))
  refine Go.st (X1.ldcInt hx hown (mvT hZ (hw _ (List.mem_of_getElem? (i := 17) rfl))) (g := (mkF m 10 #[.val (.ref a1), .val (.int p2), .val (.int p3), .val (.int p4)] [(.int p2)])) rfl (hb hby d1_10)) ?_
  show Go p.tables e below _ (T1.setTop (mkF m 12 #[.val (.ref a1), .val (.int p2), .val (.int p3), .val (.int p4)] [(.int (65535 : Int32)), (.int p2)]))
  have hc12_3 : ¬ ((65535 : Int32) < p2) := hp2
  refine Go.st (fun U hr => XS.icmpYes X1.here hx rfl (pc0 := 12) (pc' := 29) rfl (hb hby d1_12) rfl (flt hc12_3).2.2.2 (by decide) (by decide) hr) ?_
  show Go p.tables e below _ (T1.setTop (mkF m 29 #[.val (.ref a1), .val (.int p2), .val (.int p3), .val (.int p4)] []))
  refine Go.st (fun U hr => XS.iloadN X1.here hx rfl (hb hby d1_29) rfl hr) ?_
  show Go p.tables e below _ (T1.setTop (mkF m 30 #[.val (.ref a1), .val (.int p2), .val (.int p3), .val (.int p4)] [(.int p3)]))
  refine Go.st (fun U hr => XS.sipush X1.here hx rfl (hb hby d1_30) hr) ?_
  show Go p.tables e below _ (T1.setTop (mkF m 33 #[.val (.ref a1), .val (.int p2), .val (.int p3), .val (.int p4)] [(.int (4096 : Int32)), (.int p3)]))
  have hc33_4 : ¬ (p3 < (4096 : Int32)) := hp3
  refine Go.st (fun U hr => XS.icmpYes X1.here hx rfl (pc0 := 33) (pc' := 50) rfl (hb hby d1_33) rfl (flt hc33_4).2.1 (by decide) (by decide) hr) ?_
  show Go p.tables e below _ (T1.setTop (mkF m 50 #[.val (.ref a1), .val (.int p2), .val (.int p3), .val (.int p4)] []))
  refine Go.st (fun U hr => XS.iloadN X1.here hx rfl (hb hby d1_50) rfl hr) ?_
  show Go p.tables e below _ (T1.setTop (mkF m 51 #[.val (.ref a1), .val (.int p2), .val (.int p3), .val (.int p4)] [(.int p4)]))
  have hc51_5 : ¬ (p4 < (0 : Int32)) := hp4
  refine Go.st (fun U hr => XS.ifNo X1.here hx rfl (hb hby d1_51) rfl ((if0 _ _).trans (flt hc51_5).1) hr) ?_
  show Go p.tables e below _ (T1.setTop (mkF m 54 #[.val (.ref a1), .val (.int p2), .val (.int p3), .val (.int p4)] []))
  refine Go.st (fun U hr => XS.iloadN X1.here hx rfl (hb hby d1_54) rfl hr) ?_
  show Go p.tables e below _ (T1.setTop (mkF m 55 #[.val (.ref a1), .val (.int p2), .val (.int p3), .val (.int p4)] [(.int p4)]))
  refine Go.st (X1.ldcInt hx hown (mvT hZ (hw _ (List.mem_of_getElem? (i := 17) rfl))) (g := (mkF m 55 #[.val (.ref a1), .val (.int p2), .val (.int p3), .val (.int p4)] [(.int p4)])) rfl (hb hby d1_55)) ?_
  show Go p.tables e below _ (T1.setTop (mkF m 57 #[.val (.ref a1), .val (.int p2), .val (.int p3), .val (.int p4)] [(.int (65535 : Int32)), (.int p4)]))
  have hc57_6 : ¬ ((65535 : Int32) < p4) := hp5
  refine Go.st (fun U hr => XS.icmpYes X1.here hx rfl (pc0 := 57) (pc' := 74) rfl (hb hby d1_57) rfl (flt hc57_6).2.2.2 (by decide) (by decide) hr) ?_
  show Go p.tables e below _ (T1.setTop (mkF m 74 #[.val (.ref a1), .val (.int p2), .val (.int p3), .val (.int p4)] []))
  refine Go.st (fun U hr => XS.aloadN X1.here hx rfl (hb hby d1_74) rfl rfl hr) ?_
  show Go p.tables e below _ (T1.setTop (mkF m 75 #[.val (.ref a1), .val (.int p2), .val (.int p3), .val (.int p4)] [(.ref a1)]))
  refine Go.st (fun U hr => XS.iloadN X1.here hx rfl (hb hby d1_75) rfl hr) ?_
  show Go p.tables e below _ (T1.setTop (mkF m 76 #[.val (.ref a1), .val (.int p2), .val (.int p3), .val (.int p4)] [(.int p2), (.ref a1)]))
  obtain ⟨T7, h7, X7, e7, W7, st7⟩ := putF X1 hx hZ hown (host := "") (Or.inl (hw _ (List.mem_of_getElem? (i := 18) rfl))) Via.refl ee1 F0 E1 (Or.inr ⟨(hw _ (List.mem_of_getElem? (i := 19) rfl)), rfl, hnm⟩) (hw _ (List.mem_of_getElem? (i := 4) rfl)) (ty := .int) (by decide) rfl rfl (g := (mkF m 76 #[.val (.ref a1), .val (.int p2), .val (.int p3), .val (.int p4)] [(.int p2), (.ref a1)])) rfl rfl (hb hby d1_76)
  refine Go.st st7 ?_
  have k8 := ((Keep.refl h0 [a1])).wr W7 (Or.inl (List.mem_of_getElem? (i := 0) rfl))
  have f9 := (E1).wr W7
  have f10 := (F0).same W7
  have f11 := (F1).other W7 (Or.inr (slot_ne (Or.inr (hw _ (List.mem_of_getElem? (i := 21) rfl))) (Or.inr (hw _ (List.mem_of_getElem? (i := 19) rfl))) (by decide) (t := .int) (t' := .int) (by decide) (by decide)))
  have f12 := (F2).other W7 (Or.inr (slot_ne (Or.inr (hw _ (List.mem_of_getElem? (i := 23) rfl))) (Or.inr (hw _ (List.mem_of_getElem? (i := 19) rfl))) (by decide) (t := .int) (t' := .int) (by decide) (by decide)))
  have z13 := Nat.le_trans Z0 (Keep.of_wr W7).1
  have N7 := Fr.snoc X7 N1 g1
  show Go p.tables e below _ (T7.setTop (mkF m 79 #[.val (.ref a1), .val (.int p2), .val (.int p3), .val (.int p4)] []))
  refine Go.st (fun U hr => XS.aloadN X7.here hx rfl (hb hby d1_79) rfl rfl hr) ?_
  show Go p.tables e below _ (T7.setTop (mkF m 80 #[.val (.ref a1), .val (.int p2), .val (.int p3), .val (.int p4)] [(.ref a1)]))
  refine Go.st (fun U hr => XS.iloadN X7.here hx rfl (hb hby d1_80) rfl hr) ?_
  show Go p.tables e below _ (T7.setTop (mkF m 81 #[.val (.ref a1), .val (.int p2), .val (.int p3), .val (.int p4)] [(.int p3), (.ref a1)]))
  obtain ⟨T14, h14, X14, e14, W14, st14⟩ := putF X7 hx hZ hown (host := "") (Or.inl (hw _ (List.mem_of_getElem? (i := 20) rfl))) Via.refl e7 f11 f9 (Or.inr ⟨(hw _ (List.mem_of_getElem? (i := 21) rfl)), rfl, hnm⟩) (hw _ (List.mem_of_getElem? (i := 4) rfl)) (ty := .int) (by decide) rfl rfl (g := (mkF m 81 #[.val (.ref a1), .val (.int p2), .val (.int p3), .val (.int p4)] [(.int p3), (.ref a1)])) rfl rfl (hb hby d1_81)
  refine Go.st st14 ?_
  have k15 := (k8).wr W14 (Or.inl (List.mem_of_getElem? (i := 0) rfl))
  have f16 := (f9).wr W14
  have f17 := (f10).other W14 (Or.inr (slot_ne (Or.inr (hw _ (List.mem_of_getElem? (i := 19) rfl))) (Or.inr (hw _ (List.mem_of_getElem? (i := 21) rfl))) (by decide) (t := .int) (t' := .int) (by decide) (by decide)))
  have f18 := (f11).same W14
  have f19 := (f12).other W14 (Or.inr (slot_ne (Or.inr (hw _ (List.mem_of_getElem? (i := 23) rfl))) (Or.inr (hw _ (List.mem_of_getElem? (i := 21) rfl))) (by decide) (t := .int) (t' := .int) (by decide) (by decide)))
  have z20 := Nat.le_trans z13 (Keep.of_wr W14).1
  have N14 := Fr.snoc X14 N7 g1
  show Go p.tables e below _ (T14.setTop (mkF m 84 #[.val (.ref a1), .val (.int p2), .val (.int p3), .val (.int p4)] []))
  refine Go.st (fun U hr => XS.aloadN X14.here hx rfl (hb hby d1_84) rfl rfl hr) ?_
  show Go p.tables e below _ (T14.setTop (mkF m 85 #[.val (.ref a1), .val (.int p2), .val (.int p3), .val (.int p4)] [(.ref a1)]))
  refine Go.st (fun U hr => XS.iloadN X14.here hx rfl (hb hby d1_85) rfl hr) ?_
  show Go p.tables e below _ (T14.setTop (mkF m 86 #[.val (.ref a1), .val (.int p2), .val (.int p3), .val (.int p4)] [(.int p4), (.ref a1)]))
  obtain ⟨T21, h21, X21, e21, W21, st21⟩ := putF X14 hx hZ hown (host := "") (Or.inl (hw _ (List.mem_of_getElem? (i := 22) rfl))) Via.refl e14 f19 f16 (Or.inr ⟨(hw _ (List.mem_of_getElem? (i := 23) rfl)), rfl, hnm⟩) (hw _ (List.mem_of_getElem? (i := 4) rfl)) (ty := .int) (by decide) rfl rfl (g := (mkF m 86 #[.val (.ref a1), .val (.int p2), .val (.int p3), .val (.int p4)] [(.int p4), (.ref a1)])) rfl rfl (hb hby d1_86)
  refine Go.st st21 ?_
  have k22 := (k15).wr W21 (Or.inl (List.mem_of_getElem? (i := 0) rfl))
  have f23 := (f16).wr W21
  have f24 := (f17).other W21 (Or.inr (slot_ne (Or.inr (hw _ (List.mem_of_getElem? (i := 19) rfl))) (Or.inr (hw _ (List.mem_of_getElem? (i := 23) rfl))) (by decide) (t := .int) (t' := .int) (by decide) (by decide)))
  have f25 := (f18).other W21 (Or.inr (slot_ne (Or.inr (hw _ (List.mem_of_getElem? (i := 21) rfl))) (Or.inr (hw _ (List.mem_of_getElem? (i := 23) rfl))) (by decide) (t := .int) (t' := .int) (by decide) (by decide)))
  have f26 := (f19).same W21
  have z27 := Nat.le_trans z20 (Keep.of_wr W21).1
  have N21 := Fr.snoc X21 N14 g1
  show Go p.tables e below _ (T21.setTop (mkF m 89 #[.val (.ref a1), .val (.int p2), .val (.int p3), .val (.int p4)] []))
  exact own_ret0 X21 hx Bd.notSynchronized Bd.returns (hb hby d1_89) (by rw [e21]; exact ⟨rfl, N21, k22, f23, f24, f25, f26⟩) (by decide) (by decide)
theorem d5_0 : decode prog_5_method_6_code 0 = .ok (.aload_n 0, 1) := by decide +kernel
theorem d5_1 : decode prog_5_method_6_code 1 = .ok (.getfield 21, 3) := by decide +kernel
theorem d5_4 : decode prog_5_method_6_code 4 = .ok (.ireturn, 1) := by decide +kernel
theorem pn_5 : plainFor (⟨"com/example/notched_ledger/notchedledger/amqp/Tuning", "channelMax", "()I"⟩ : MethodName) = true := plainFor_of_name (by first | (simp [plainName, overriddenIn]; done) | decide +kernel)
theorem ef_5 (m : MethodId) (x0 : Addr) : entryFrame m #[(.ref x0)] 1 = mkF m 0 #[.val (.ref x0)] [] := by first | (simp [entryFrame, mkF, argsToLocals, Value.category]; done) | rfl
def Q5 (Z : State) (a1 : Addr) (w1 : Int32) (h0 : Heap) (n0 : Nat) (v : Option Value) (h : Heap) (L : List Loc) : Prop := v = some (.int w1) ∧ Fr n0 L ∧ h = h0
set_option maxRecDepth 65536 in
set_option maxHeartbeats 40000000 in
theorem rm5 (l : Launch) (Z : State) (a0 : Array Value) (hw : ∀ d ∈ tables_1, d.before a0 Z = true) (ws : List Jvm.Cond) (a1 : Addr) (w1 : Int32) (h0 : Heap) (n0 : Nat) (Z0 : n0 ≤ h0.size) (F1 : Fld Z h0 a1 "com/example/notched_ledger/notchedledger/amqp/Tuning" "channelMax" "I" (.int w1)) :
    MetFree l (⟨"com/example/notched_ledger/notchedledger/amqp/Tuning", "channelMax", "()I"⟩ : MethodName) (head1 (Jvm.Cond.code (⟨"com/example/notched_ledger/notchedledger/amqp/Tuning", "channelMax", "()I"⟩ : MethodName) prog_5_method_6_code 1 (some .int) :: ws) ({ frames := 0, cells := 0, slots := 0, locals := 0 } : Room)) (fun a U => a = #[(.ref a1)] ∧ Z.Warmed39 U.vm ∧ U.heap = h0) (fun _ _ _ _ _ => True) (fun _ U o U' => ∃ v L, o = .returned v ∧ Q5 Z a1 w1 h0 n0 v U'.heap L ∧ FrameEnd U o U' L ({ frames := 0, cells := 0, slots := 0, locals := 0 } : Room).cells ({ frames := 0, cells := 0, slots := 0, locals := 0 } : Room).slots) := by
  refine MetFree.of_bodySF pn_5 hisR ?_
  intro p e s m args below meth c s₁ Bd hml0 hP hK
  obtain ⟨rfl, hZ, hh⟩ := hP
  have hx := Bd.exec
  have hby := Bd.bytes
  have hml : c.maxLocals = 1 := hml0
  have hown : s.vm.findClass "com/example/notched_ledger/notchedledger/amqp/Tuning" = some m.cls := findClass_of_methodNamed Bd.named
  have hnm := (name_of_methodNamed Bd.named Bd.method).1
  have X0 : Stand p l e ({ frames := 0, cells := 0, slots := 0, locals := 0 } : Room) s m #[(.ref a1)] below meth c s₁ [] 0 0 := Stand.of_body Bd
  have e0 : s₁.heap = h0 := by rw [← hh, Bd.state]; rfl
  have N0 := Fr.nil n0
  refine own_start (Q := Q5 Z a1 w1 h0 n0) (own_cast (ef_5 m a1) ?_)
  show Go p.tables e below _ (s₁.setTop (mkF m 0 #[.val (.ref a1)] []))
  refine Go.st (fun U hr => XS.aloadN X0.here hx rfl (hb hby d5_0) rfl rfl hr) ?_
  show Go p.tables e below _ (s₁.setTop (mkF m 1 #[.val (.ref a1)] [(.ref a1)]))
  obtain ⟨T1, X1, e1, st1⟩ := getF X0 hx hZ hown (host := "") (Or.inl (hw _ (List.mem_of_getElem? (i := 18) rfl))) Via.refl e0 F1 (g := (mkF m 1 #[.val (.ref a1)] [(.ref a1)])) rfl rfl (hb hby d5_1)
  refine Go.st st1 ?_
  show Go p.tables e below _ (T1.setTop (mkF m 4 #[.val (.ref a1)] [(.int w1)]))
  exact own_retO X1 hx Bd.notSynchronized (t := .int) Bd.returns rfl (Or.inl ⟨rfl, Or.inl rfl, _, rfl⟩) (hb hby d5_4) ⟨rfl, N0, e1⟩ (by decide) (by decide)
theorem d6_0 : decode prog_5_method_7_code 0 = .ok (.aload_n 0, 1) := by decide +kernel
theorem d6_1 : decode prog_5_method_7_code 1 = .ok (.getfield 25, 3) := by decide +kernel
theorem d6_4 : decode prog_5_method_7_code 4 = .ok (.ireturn, 1) := by decide +kernel
theorem pn_6 : plainFor (⟨"com/example/notched_ledger/notchedledger/amqp/Tuning", "frameMax", "()I"⟩ : MethodName) = true := plainFor_of_name (by first | (simp [plainName, overriddenIn]; done) | decide +kernel)
theorem ef_6 (m : MethodId) (x0 : Addr) : entryFrame m #[(.ref x0)] 1 = mkF m 0 #[.val (.ref x0)] [] := by first | (simp [entryFrame, mkF, argsToLocals, Value.category]; done) | rfl
def Q6 (Z : State) (a1 : Addr) (w1 : Int32) (h0 : Heap) (n0 : Nat) (v : Option Value) (h : Heap) (L : List Loc) : Prop := v = some (.int w1) ∧ Fr n0 L ∧ h = h0
set_option maxRecDepth 65536 in
set_option maxHeartbeats 40000000 in
theorem rm6 (l : Launch) (Z : State) (a0 : Array Value) (hw : ∀ d ∈ tables_1, d.before a0 Z = true) (ws : List Jvm.Cond) (a1 : Addr) (w1 : Int32) (h0 : Heap) (n0 : Nat) (Z0 : n0 ≤ h0.size) (F1 : Fld Z h0 a1 "com/example/notched_ledger/notchedledger/amqp/Tuning" "frameMax" "I" (.int w1)) :
    MetFree l (⟨"com/example/notched_ledger/notchedledger/amqp/Tuning", "frameMax", "()I"⟩ : MethodName) (head1 (Jvm.Cond.code (⟨"com/example/notched_ledger/notchedledger/amqp/Tuning", "frameMax", "()I"⟩ : MethodName) prog_5_method_7_code 1 (some .int) :: ws) ({ frames := 0, cells := 0, slots := 0, locals := 0 } : Room)) (fun a U => a = #[(.ref a1)] ∧ Z.Warmed39 U.vm ∧ U.heap = h0) (fun _ _ _ _ _ => True) (fun _ U o U' => ∃ v L, o = .returned v ∧ Q6 Z a1 w1 h0 n0 v U'.heap L ∧ FrameEnd U o U' L ({ frames := 0, cells := 0, slots := 0, locals := 0 } : Room).cells ({ frames := 0, cells := 0, slots := 0, locals := 0 } : Room).slots) := by
  refine MetFree.of_bodySF pn_6 hisR ?_
  intro p e s m args below meth c s₁ Bd hml0 hP hK
  obtain ⟨rfl, hZ, hh⟩ := hP
  have hx := Bd.exec
  have hby := Bd.bytes
  have hml : c.maxLocals = 1 := hml0
  have hown : s.vm.findClass "com/example/notched_ledger/notchedledger/amqp/Tuning" = some m.cls := findClass_of_methodNamed Bd.named
  have hnm := (name_of_methodNamed Bd.named Bd.method).1
  have X0 : Stand p l e ({ frames := 0, cells := 0, slots := 0, locals := 0 } : Room) s m #[(.ref a1)] below meth c s₁ [] 0 0 := Stand.of_body Bd
  have e0 : s₁.heap = h0 := by rw [← hh, Bd.state]; rfl
  have N0 := Fr.nil n0
  refine own_start (Q := Q6 Z a1 w1 h0 n0) (own_cast (ef_6 m a1) ?_)
  show Go p.tables e below _ (s₁.setTop (mkF m 0 #[.val (.ref a1)] []))
  refine Go.st (fun U hr => XS.aloadN X0.here hx rfl (hb hby d6_0) rfl rfl hr) ?_
  show Go p.tables e below _ (s₁.setTop (mkF m 1 #[.val (.ref a1)] [(.ref a1)]))
  obtain ⟨T1, X1, e1, st1⟩ := getF X0 hx hZ hown (host := "") (Or.inl (hw _ (List.mem_of_getElem? (i := 20) rfl))) Via.refl e0 F1 (g := (mkF m 1 #[.val (.ref a1)] [(.ref a1)])) rfl rfl (hb hby d6_1)
  refine Go.st st1 ?_
  show Go p.tables e below _ (T1.setTop (mkF m 4 #[.val (.ref a1)] [(.int w1)]))
  exact own_retO X1 hx Bd.notSynchronized (t := .int) Bd.returns rfl (Or.inl ⟨rfl, Or.inl rfl, _, rfl⟩) (hb hby d6_4) ⟨rfl, N0, e1⟩ (by decide) (by decide)
theorem d7_0 : decode prog_5_method_8_code 0 = .ok (.aload_n 0, 1) := by decide +kernel
theorem d7_1 : decode prog_5_method_8_code 1 = .ok (.getfield 28, 3) := by decide +kernel
theorem d7_4 : decode prog_5_method_8_code 4 = .ok (.ireturn, 1) := by decide +kernel
theorem pn_7 : plainFor (⟨"com/example/notched_ledger/notchedledger/amqp/Tuning", "heartbeatSeconds", "()I"⟩ : MethodName) = true := plainFor_of_name (by first | (simp [plainName, overriddenIn]; done) | decide +kernel)
theorem ef_7 (m : MethodId) (x0 : Addr) : entryFrame m #[(.ref x0)] 1 = mkF m 0 #[.val (.ref x0)] [] := by first | (simp [entryFrame, mkF, argsToLocals, Value.category]; done) | rfl
def Q7 (Z : State) (a1 : Addr) (w1 : Int32) (h0 : Heap) (n0 : Nat) (v : Option Value) (h : Heap) (L : List Loc) : Prop := v = some (.int w1) ∧ Fr n0 L ∧ h = h0
set_option maxRecDepth 65536 in
set_option maxHeartbeats 40000000 in
theorem rm7 (l : Launch) (Z : State) (a0 : Array Value) (hw : ∀ d ∈ tables_1, d.before a0 Z = true) (ws : List Jvm.Cond) (a1 : Addr) (w1 : Int32) (h0 : Heap) (n0 : Nat) (Z0 : n0 ≤ h0.size) (F1 : Fld Z h0 a1 "com/example/notched_ledger/notchedledger/amqp/Tuning" "heartbeatSeconds" "I" (.int w1)) :
    MetFree l (⟨"com/example/notched_ledger/notchedledger/amqp/Tuning", "heartbeatSeconds", "()I"⟩ : MethodName) (head1 (Jvm.Cond.code (⟨"com/example/notched_ledger/notchedledger/amqp/Tuning", "heartbeatSeconds", "()I"⟩ : MethodName) prog_5_method_8_code 1 (some .int) :: ws) ({ frames := 0, cells := 0, slots := 0, locals := 0 } : Room)) (fun a U => a = #[(.ref a1)] ∧ Z.Warmed39 U.vm ∧ U.heap = h0) (fun _ _ _ _ _ => True) (fun _ U o U' => ∃ v L, o = .returned v ∧ Q7 Z a1 w1 h0 n0 v U'.heap L ∧ FrameEnd U o U' L ({ frames := 0, cells := 0, slots := 0, locals := 0 } : Room).cells ({ frames := 0, cells := 0, slots := 0, locals := 0 } : Room).slots) := by
  refine MetFree.of_bodySF pn_7 hisR ?_
  intro p e s m args below meth c s₁ Bd hml0 hP hK
  obtain ⟨rfl, hZ, hh⟩ := hP
  have hx := Bd.exec
  have hby := Bd.bytes
  have hml : c.maxLocals = 1 := hml0
  have hown : s.vm.findClass "com/example/notched_ledger/notchedledger/amqp/Tuning" = some m.cls := findClass_of_methodNamed Bd.named
  have hnm := (name_of_methodNamed Bd.named Bd.method).1
  have X0 : Stand p l e ({ frames := 0, cells := 0, slots := 0, locals := 0 } : Room) s m #[(.ref a1)] below meth c s₁ [] 0 0 := Stand.of_body Bd
  have e0 : s₁.heap = h0 := by rw [← hh, Bd.state]; rfl
  have N0 := Fr.nil n0
  refine own_start (Q := Q7 Z a1 w1 h0 n0) (own_cast (ef_7 m a1) ?_)
  show Go p.tables e below _ (s₁.setTop (mkF m 0 #[.val (.ref a1)] []))
  refine Go.st (fun U hr => XS.aloadN X0.here hx rfl (hb hby d7_0) rfl rfl hr) ?_
  show Go p.tables e below _ (s₁.setTop (mkF m 1 #[.val (.ref a1)] [(.ref a1)]))
  obtain ⟨T1, X1, e1, st1⟩ := getF X0 hx hZ hown (host := "") (Or.inl (hw _ (List.mem_of_getElem? (i := 22) rfl))) Via.refl e0 F1 (g := (mkF m 1 #[.val (.ref a1)] [(.ref a1)])) rfl rfl (hb hby d7_1)
  refine Go.st st1 ?_
  show Go p.tables e below _ (T1.setTop (mkF m 4 #[.val (.ref a1)] [(.int w1)]))
  exact own_retO X1 hx Bd.notSynchronized (t := .int) Bd.returns rfl (Or.inl ⟨rfl, Or.inl rfl, _, rfl⟩) (hb hby d7_4) ⟨rfl, N0, e1⟩ (by decide) (by decide)
theorem d4_0 : decode prog_5_method_2_code 0 = .ok (.iload_n 1, 1) := by decide +kernel
theorem d4_1 : decode prog_5_method_2_code 1 = .ok (.aload_n 0, 1) := by decide +kernel
theorem d4_2 : decode prog_5_method_2_code 2 = .ok (.getfield 21, 3) := by decide +kernel
theorem d4_5 : decode prog_5_method_2_code 5 = .ok (.if_icmp .le 21, 3) := by decide +kernel
theorem d4_26 : decode prog_5_method_2_code 26 = .ok (.lload_n 2, 1) := by decide +kernel
theorem d4_27 : decode prog_5_method_2_code 27 = .ok (.aload_n 0, 1) := by decide +kernel
theorem d4_28 : decode prog_5_method_2_code 28 = .ok (.getfield 25, 3) := by decide +kernel
theorem d4_31 : decode prog_5_method_2_code 31 = .ok (.i2l, 1) := by decide +kernel
theorem d4_32 : decode prog_5_method_2_code 32 = .ok (.lcmp, 1) := by decide +kernel
theorem d4_33 : decode prog_5_method_2_code 33 = .ok (.ifCond .le 21, 3) := by decide +kernel
theorem d4_54 : decode prog_5_method_2_code 54 = .ok (.lload_n 2, 1) := by decide +kernel
theorem d4_55 : decode prog_5_method_2_code 55 = .ok (.lconst 0, 1) := by decide +kernel
theorem d4_56 : decode prog_5_method_2_code 56 = .ok (.lcmp, 1) := by decide +kernel
theorem d4_57 : decode prog_5_method_2_code 57 = .ok (.ifCond .eq 25, 3) := by decide +kernel
theorem d4_60 : decode prog_5_method_2_code 60 = .ok (.lload_n 2, 1) := by decide +kernel
theorem d4_61 : decode prog_5_method_2_code 61 = .ok (.ldc2_w 40, 3) := by decide +kernel
theorem d4_64 : decode prog_5_method_2_code 64 = .ok (.lcmp, 1) := by decide +kernel
theorem d4_65 : decode prog_5_method_2_code 65 = .ok (.ifCond .ge 17, 3) := by decide +kernel
theorem d4_82 : decode prog_5_method_2_code 82 = .ok (.iload_n 1, 1) := by decide +kernel
theorem d4_83 : decode prog_5_method_2_code 83 = .ok (.ifCond .ne 10, 3) := by decide +kernel
theorem d4_86 : decode prog_5_method_2_code 86 = .ok (.aload_n 0, 1) := by decide +kernel
theorem d4_87 : decode prog_5_method_2_code 87 = .ok (.getfield 21, 3) := by decide +kernel
theorem d4_90 : decode prog_5_method_2_code 90 = .ok (.goto 4, 3) := by decide +kernel
theorem d4_93 : decode prog_5_method_2_code 93 = .ok (.iload_n 1, 1) := by decide +kernel
theorem d4_94 : decode prog_5_method_2_code 94 = .ok (.istore 5, 2) := by decide +kernel
theorem d4_96 : decode prog_5_method_2_code 96 = .ok (.lload_n 2, 1) := by decide +kernel
theorem d4_97 : decode prog_5_method_2_code 97 = .ok (.lconst 0, 1) := by decide +kernel
theorem d4_98 : decode prog_5_method_2_code 98 = .ok (.lcmp, 1) := by decide +kernel
theorem d4_99 : decode prog_5_method_2_code 99 = .ok (.ifCond .ne 10, 3) := by decide +kernel
theorem d4_102 : decode prog_5_method_2_code 102 = .ok (.aload_n 0, 1) := by decide +kernel
theorem d4_103 : decode prog_5_method_2_code 103 = .ok (.getfield 25, 3) := by decide +kernel
theorem d4_106 : decode prog_5_method_2_code 106 = .ok (.goto 5, 3) := by decide +kernel
theorem d4_109 : decode prog_5_method_2_code 109 = .ok (.lload_n 2, 1) := by decide +kernel
theorem d4_110 : decode prog_5_method_2_code 110 = .ok (.l2i, 1) := by decide +kernel
theorem d4_111 : decode prog_5_method_2_code 111 = .ok (.istore 6, 2) := by decide +kernel
theorem d4_113 : decode prog_5_method_2_code 113 = .ok (.new 7, 3) := by decide +kernel
theorem d4_116 : decode prog_5_method_2_code 116 = .ok (.dup, 1) := by decide +kernel
theorem d4_117 : decode prog_5_method_2_code 117 = .ok (.iload 5, 2) := by decide +kernel
theorem d4_119 : decode prog_5_method_2_code 119 = .ok (.iload 6, 2) := by decide +kernel
theorem d4_121 : decode prog_5_method_2_code 121 = .ok (.iload 4, 2) := by decide +kernel
theorem d4_123 : decode prog_5_method_2_code 123 = .ok (.invokespecial 45, 3) := by decide +kernel
theorem d4_126 : decode prog_5_method_2_code 126 = .ok (.areturn, 1) := by decide +kernel
theorem pn_4 : plainFor (⟨"com/example/notched_ledger/notchedledger/amqp/Tuning", "negotiate", "(IJI)Lcom/example/notched_ledger/notchedledger/amqp/Tuning;"⟩ : MethodName) = true := plainFor_of_name (by first | (simp [plainName, overriddenIn]; done) | decide +kernel)
theorem ef_4 (m : MethodId) (x0 : Addr) (x1 : Int32) (x2 : Int64) (x3 : Int32) : entryFrame m #[(.ref x0), (.int x1), (.long x2), (.int x3)] 7 = mkF m 0 #[.val (.ref x0), .val (.int x1), .val (.long x2), .second, .val (.int x3), .unset, .unset] [] := by first | (simp [entryFrame, mkF, argsToLocals, Value.category]; done) | rfl
theorem pd_1 : parseMethodDescriptor "(III)V" = some ⟨[.int, .int, .int], none⟩ := by decide +kernel
def Q4 (Z : State) (a1 : Addr) (p2 : Int32) (q3 : Int64) (p4 : Int32) (w1 : Int32) (w2 : Int32) (h0 : Heap) (n0 : Nat) (v : Option Value) (h : Heap) (L : List Loc) : Prop := ∃ r : Addr, v = some (.ref r) ∧ Fr n0 L ∧ h0.size ≤ r ∧ Keep h0 h [] ∧ Exa Z h r "com/example/notched_ledger/notchedledger/amqp/Tuning" ∧ Fld Z h r "com/example/notched_ledger/notchedledger/amqp/Tuning" "channelMax" "I" (.int (own_ch w1 p2)) ∧ Fld Z h r "com/example/notched_ledger/notchedledger/amqp/Tuning" "frameMax" "I" (.int (own_fr w2 q3)) ∧ Fld Z h r "com/example/notched_ledger/notchedledger/amqp/Tuning" "heartbeatSeconds" "I" (.int p4)
set_option maxRecDepth 65536 in
set_option maxHeartbeats 40000000 in
theorem rm4 (l : Launch) (Z : State) (a0 : Array Value) (hw : ∀ d ∈ tables_1, d.before a0 Z = true) (ws : List Jvm.Cond) (a1 : Addr) (p2 : Int32) (q3 : Int64) (p4 : Int32) (w1 : Int32) (w2 : Int32) (h0 : Heap) (n0 : Nat) (Z0 : n0 ≤ h0.size) (F0 : Fld Z h0 a1 "com/example/notched_ledger/notchedledger/amqp/Tuning" "channelMax" "I" (.int w1)) (F1 : Fld Z h0 a1 "com/example/notched_ledger/notchedledger/amqp/Tuning" "frameMax" "I" (.int w2)) (hp1 : ¬ w1 < p2) (hp2 : ¬ w2.toInt64 < q3) (hp3 : q3 = 0 ∨ ¬ q3 < 4096) (hq1 : ¬ own_ch w1 p2 < 1) (hq2 : ¬ 65535 < own_ch w1 p2) (hq3 : ¬ own_fr w2 q3 < 4096) (hq4 : ¬ p4 < 0) (hq5 : ¬ 65535 < p4) :
    MetFree l (⟨"com/example/notched_ledger/notchedledger/amqp/Tuning", "negotiate", "(IJI)Lcom/example/notched_ledger/notchedledger/amqp/Tuning;"⟩ : MethodName) (head1 (Jvm.Cond.code (⟨"com/example/notched_ledger/notchedledger/amqp/Tuning", "negotiate", "(IJI)Lcom/example/notched_ledger/notchedledger/amqp/Tuning;"⟩ : MethodName) prog_5_method_2_code 7 (some (.object "com/example/notched_ledger/notchedledger/amqp/Tuning")) :: ws) ({ frames := 3, cells := 1, slots := 3, locals := 40 } : Room)) (fun a U => a = #[(.ref a1), (.int p2), (.long q3), (.int p4)] ∧ Z.Warmed39 U.vm ∧ U.heap = h0) (fun _ _ _ _ _ => True) (fun _ U o U' => ∃ v L, o = .returned v ∧ Q4 Z a1 p2 q3 p4 w1 w2 h0 n0 v U'.heap L ∧ FrameEnd U o U' L ({ frames := 3, cells := 1, slots := 3, locals := 40 } : Room).cells ({ frames := 3, cells := 1, slots := 3, locals := 40 } : Room).slots) := by
  refine MetFree.of_bodySF pn_4 hisR ?_
  intro p e s m args below meth c s₁ Bd hml0 hP hK
  obtain ⟨rfl, hZ, hh⟩ := hP
  have hx := Bd.exec
  have hby := Bd.bytes
  have hml : c.maxLocals = 7 := hml0
  have hown : s.vm.findClass "com/example/notched_ledger/notchedledger/amqp/Tuning" = some m.cls := findClass_of_methodNamed Bd.named
  have hnm := (name_of_methodNamed Bd.named Bd.method).1
  have X0 : Stand p l e ({ frames := 3, cells := 1, slots := 3, locals := 40 } : Room) s m #[(.ref a1), (.int p2), (.long q3), (.int p4)] below meth c s₁ [] 0 0 := Stand.of_body Bd
  have e0 : s₁.heap = h0 := by rw [← hh, Bd.state]; rfl
  have N0 := Fr.nil n0
  refine own_start (Q := Q4 Z a1 p2 q3 p4 w1 w2 h0 n0) (own_cast (ef_4 m a1 p2 q3 p4) ?_)
  show Go p.tables e below _ (s₁.setTop (mkF m 0 #[.val (.ref a1), .val (.int p2), .val (.long q3), .second, .val (.int p4), .unset, .unset] []))
  refine Go.st (fun U hr => XS.iloadN X0.here hx rfl (hb hby d4_0) rfl hr) ?_
  show Go p.tables e below _ (s₁.setTop (mkF m 1 #[.val (.ref a1), .val (.int p2), .val (.long q3), .second, .val (.int p4), .unset, .unset] [(.int p2)]))
  refine Go.st (fun U hr => XS.aloadN X0.here hx rfl (hb hby d4_1) rfl rfl hr) ?_
  show Go p.tables e below _ (s₁.setTop (mkF m 2 #[.val (.ref a1), .val (.int p2), .val (.long q3), .second, .val (.int p4), .unset, .unset] [(.ref a1), (.int p2)]))
  obtain ⟨T1, X1, e1, st1⟩ := getF X0 hx hZ hown (host := "") (Or.inl (hw _ (List.mem_of_getElem? (i := 18) rfl))) Via.refl e0 F0 (g := (mkF m 2 #[.val (.ref a1), .val (.int p2), .val (.long q3), .second, .val (.int p4), .unset, .unset] [(.ref a1), (.int p2)])) rfl rfl (hb hby d4_2)
  refine Go.st st1 ?_
  show Go p.tables e below _ (T1.setTop (mkF m 5 #[.val (.ref a1), .val (.int p2), .val (.long q3), .second, .val (.int p4), .unset, .unset] [(.int w1), (.int p2)]))
  have hc5_2 : ¬ (w1 < p2) := hp1
  refine Go.st (fun U hr => XS.icmpYes X1.here hx rfl (pc0 := 5) (pc' := 26) rfl (hb hby d4_5) rfl (flt hc5_2).2.2.2 (by decide) (by decide) hr) ?_
  show Go p.tables e below _ (T1.setTop (mkF m 26 #[.val (.ref a1), .val (.int p2), .val (.long q3), .second, .val (.int p4), .unset, .unset] []))
  refine Go.st (fun U hr => XS.lloadN X1.here hx rfl (hb hby d4_26) rfl hr) ?_
  show Go p.tables e below _ (T1.setTop (mkF m 27 #[.val (.ref a1), .val (.int p2), .val (.long q3), .second, .val (.int p4), .unset, .unset] [(.long q3)]))
  refine Go.st (fun U hr => XS.aloadN X1.here hx rfl (hb hby d4_27) rfl rfl hr) ?_
  show Go p.tables e below _ (T1.setTop (mkF m 28 #[.val (.ref a1), .val (.int p2), .val (.long q3), .second, .val (.int p4), .unset, .unset] [(.ref a1), (.long q3)]))
  obtain ⟨T3, X3, e3, st3⟩ := getF X1 hx hZ hown (host := "") (Or.inl (hw _ (List.mem_of_getElem? (i := 20) rfl))) Via.refl e1 F1 (g := (mkF m 28 #[.val (.ref a1), .val (.int p2), .val (.long q3), .second, .val (.int p4), .unset, .unset] [(.ref a1), (.long q3)])) rfl rfl (hb hby d4_28)
  refine Go.st st3 ?_
  show Go p.tables e below _ (T3.setTop (mkF m 31 #[.val (.ref a1), .val (.int p2), .val (.long q3), .second, .val (.int p4), .unset, .unset] [(.int w2), (.long q3)]))
  refine Go.st (fun U hr => XS.i2l X3.here hx rfl (hb hby d4_31) rfl hr) ?_
  show Go p.tables e below _ (T3.setTop (mkF m 32 #[.val (.ref a1), .val (.int p2), .val (.long q3), .second, .val (.int p4), .unset, .unset] [(.long (w2.toInt64)), (.long q3)]))
  refine Go.st (fun U hr => XS.lcmp X3.here hx rfl (hb hby d4_32) rfl hr) ?_
  show Go p.tables e below _ (T3.setTop (mkF m 33 #[.val (.ref a1), .val (.int p2), .val (.long q3), .second, .val (.int p4), .unset, .unset] [(.int (lcmpW q3 (w2.toInt64)))]))
  have hc33_4 : ¬ ((w2.toInt64) < q3) := hp2
  refine Go.st (fun U hr => XS.ifYes X3.here hx rfl (pc0 := 33) (pc' := 54) rfl (hb hby d4_33) rfl ((if0 _ _).trans (flt (fun q => hc33_4 ((lw_gt q3 (w2.toInt64)).1 q))).2.2.2) (by decide) (by decide) hr) ?_
  show Go p.tables e below _ (T3.setTop (mkF m 54 #[.val (.ref a1), .val (.int p2), .val (.long q3), .second, .val (.int p4), .unset, .unset] []))
  refine Go.st (fun U hr => XS.lloadN X3.here hx rfl (hb hby d4_54) rfl hr) ?_
  show Go p.tables e below _ (T3.setTop (mkF m 55 #[.val (.ref a1), .val (.int p2), .val (.long q3), .second, .val (.int p4), .unset, .unset] [(.long q3)]))
  refine Go.st (fun U hr => XS.lconst X3.here hx rfl (hb hby d4_55) hr) ?_
  show Go p.tables e below _ (T3.setTop (mkF m 56 #[.val (.ref a1), .val (.int p2), .val (.long q3), .second, .val (.int p4), .unset, .unset] [(.long (0 : Int64)), (.long q3)]))
  refine Go.st (fun U hr => XS.lcmp X3.here hx rfl (hb hby d4_56) rfl hr) ?_
  show Go p.tables e below _ (T3.setTop (mkF m 57 #[.val (.ref a1), .val (.int p2), .val (.long q3), .second, .val (.int p4), .unset, .unset] [(.int (lcmpW q3 (0 : Int64)))]))
  by_cases hc57_5 : q3 = (0 : Int64)
  · refine Go.st (fun U hr => XS.ifYes X3.here hx rfl (pc0 := 57) (pc' := 82) rfl (hb hby d4_57) rfl ((if0 _ _).trans (teq ((lw_eq q3 (0 : Int64)).2 hc57_5)).1) (by decide) (by decide) hr) ?_
    show Go p.tables e below _ (T3.setTop (mkF m 82 #[.val (.ref a1), .val (.int p2), .val (.long q3), .second, .val (.int p4), .unset, .unset] []))
    refine Go.st (fun U hr => XS.iloadN X3.here hx rfl (hb hby d4_82) rfl hr) ?_
    show Go p.tables e below _ (T3.setTop (mkF m 83 #[.val (.ref a1), .val (.int p2), .val (.long q3), .second, .val (.int p4), .unset, .unset] [(.int p2)]))
    by_cases hc83_6 : p2 = (0 : Int32)
    · refine Go.st (fun U hr => XS.ifNo X3.here hx rfl (hb hby d4_83) rfl ((if0 _ _).trans (teq hc83_6).2) hr) ?_
      show Go p.tables e below _ (T3.setTop (mkF m 86 #[.val (.ref a1), .val (.int p2), .val (.long q3), .second, .val (.int p4), .unset, .unset] []))
      refine Go.st (fun U hr => XS.aloadN X3.here hx rfl (hb hby d4_86) rfl rfl hr) ?_
      show Go p.tables e below _ (T3.setTop (mkF m 87 #[.val (.ref a1), .val (.int p2), .val (.long q3), .second, .val (.int p4), .unset, .unset] [(.ref a1)]))
      obtain ⟨T7, X7, e7, st7⟩ := getF X3 hx hZ hown (host := "") (Or.inl (hw _ (List.mem_of_getElem? (i := 18) rfl))) Via.refl e3 F0 (g := (mkF m 87 #[.val (.ref a1), .val (.int p2), .val (.long q3), .second, .val (.int p4), .unset, .unset] [(.ref a1)])) rfl rfl (hb hby d4_87)
      refine Go.st st7 ?_
      show Go p.tables e below _ (T7.setTop (mkF m 90 #[.val (.ref a1), .val (.int p2), .val (.long q3), .second, .val (.int p4), .unset, .unset] [(.int w1)]))
      refine Go.st (fun U hr => XS.goto X7.here hx rfl (pc0 := 90) (pc' := 94) rfl (hb hby d4_90) (by decide) (by decide) hr) ?_
      show Go p.tables e below _ (T7.setTop (mkF m 94 #[.val (.ref a1), .val (.int p2), .val (.long q3), .second, .val (.int p4), .unset, .unset] [(.int w1)]))
      refine Go.st (fun U hr => XS.istore X7.here hx rfl (hb hby d4_94) rfl (l' := #[.val (.ref a1), .val (.int p2), .val (.long q3), .second, .val (.int p4), .val (.int w1), .unset]) rfl hr) ?_
      show Go p.tables e below _ (T7.setTop (mkF m 96 #[.val (.ref a1), .val (.int p2), .val (.long q3), .second, .val (.int p4), .val (.int w1), .unset] []))
      refine Go.st (fun U hr => XS.lloadN X7.here hx rfl (hb hby d4_96) rfl hr) ?_
      show Go p.tables e below _ (T7.setTop (mkF m 97 #[.val (.ref a1), .val (.int p2), .val (.long q3), .second, .val (.int p4), .val (.int w1), .unset] [(.long q3)]))
      refine Go.st (fun U hr => XS.lconst X7.here hx rfl (hb hby d4_97) hr) ?_
      show Go p.tables e below _ (T7.setTop (mkF m 98 #[.val (.ref a1), .val (.int p2), .val (.long q3), .second, .val (.int p4), .val (.int w1), .unset] [(.long (0 : Int64)), (.long q3)]))
      refine Go.st (fun U hr => XS.lcmp X7.here hx rfl (hb hby d4_98) rfl hr) ?_
      show Go p.tables e below _ (T7.setTop (mkF m 99 #[.val (.ref a1), .val (.int p2), .val (.long q3), .second, .val (.int p4), .val (.int w1), .unset] [(.int (lcmpW q3 (0 : Int64)))]))
      have hc99_8 : q3 = (0 : Int64) := hc57_5
      refine Go.st (fun U hr => XS.ifNo X7.here hx rfl (hb hby d4_99) rfl ((if0 _ _).trans (teq ((lw_eq q3 (0 : Int64)).2 hc99_8)).2) hr) ?_
      show Go p.tables e below _ (T7.setTop (mkF m 102 #[.val (.ref a1), .val (.int p2), .val (.long q3), .second, .val (.int p4), .val (.int w1), .unset] []))
      refine Go.st (fun U hr => XS.aloadN X7.here hx rfl (hb hby d4_102) rfl rfl hr) ?_
      show Go p.tables e below _ (T7.setTop (mkF m 103 #[.val (.ref a1), .val (.int p2), .val (.long q3), .second, .val (.int p4), .val (.int w1), .unset] [(.ref a1)]))
      obtain ⟨T9, X9, e9, st9⟩ := getF X7 hx hZ hown (host := "") (Or.inl (hw _ (List.mem_of_getElem? (i := 20) rfl))) Via.refl e7 F1 (g := (mkF m 103 #[.val (.ref a1), .val (.int p2), .val (.long q3), .second, .val (.int p4), .val (.int w1), .unset] [(.ref a1)])) rfl rfl (hb hby d4_103)
      refine Go.st st9 ?_
      show Go p.tables e below _ (T9.setTop (mkF m 106 #[.val (.ref a1), .val (.int p2), .val (.long q3), .second, .val (.int p4), .val (.int w1), .unset] [(.int w2)]))
      refine Go.st (fun U hr => XS.goto X9.here hx rfl (pc0 := 106) (pc' := 111) rfl (hb hby d4_106) (by decide) (by decide) hr) ?_
      show Go p.tables e below _ (T9.setTop (mkF m 111 #[.val (.ref a1), .val (.int p2), .val (.long q3), .second, .val (.int p4), .val (.int w1), .unset] [(.int w2)]))
      refine Go.st (fun U hr => XS.istore X9.here hx rfl (hb hby d4_111) rfl (l' := #[.val (.ref a1), .val (.int p2), .val (.long q3), .second, .val (.int p4), .val (.int w1), .val (.int w2)]) rfl hr) ?_
      show Go p.tables e below _ (T9.setTop (mkF m 113 #[.val (.ref a1), .val (.int p2), .val (.long q3), .second, .val (.int p4), .val (.int w1), .val (.int w2)] []))
      obtain ⟨T10, h10, X10, e10, E10, A10, D10, -, st10⟩ := newO X9 hx hZ hown (hw _ (List.mem_of_getElem? (i := 29) rfl)) (hw _ (List.mem_of_getElem? (i := 4) rfl)) (hw _ (List.mem_of_getElem? (i := 5) rfl)) e9 (g := (mkF m 113 #[.val (.ref a1), .val (.int p2), .val (.long q3), .second, .val (.int p4), .val (.int w1), .val (.int w2)] [])) rfl (hb hby d4_113) (by decide) (by decide)
      obtain ⟨b10, g10⟩ : ∃ z, z = h0.size := ⟨_, rfl⟩
      rw [← g10] at A10 D10 st10
      refine Go.st st10 ?_
      have gb10 : n0 ≤ b10 := Nat.le_trans Z0 (Nat.le_of_eq g10.symm)
      have sb10 : h0.size ≤ b10 := Nat.le_trans ((Keep.refl h0 [])).1 (Nat.le_of_eq g10.symm)
      have k11 := ((Keep.refl h0 [])).ext E10
      have n12 : a1 ≠ b10 := Nat.ne_of_lt (Nat.lt_of_lt_of_le (F0).lt (Nat.le_of_eq g10.symm))
      have f13 := (F0).ext E10
      have f14 := (F1).ext E10
      have z15 := Nat.le_trans Z0 E10.1
      have F10_channelMax : Fld Z h10 b10 "com/example/notched_ledger/notchedledger/amqp/Tuning" "channelMax" "I" (.int (0 : Int32)) := D10 (Or.inr (hw _ (List.mem_of_getElem? (i := 19) rfl))) (ty := .int) (by decide)
      have F10_frameMax : Fld Z h10 b10 "com/example/notched_ledger/notchedledger/amqp/Tuning" "frameMax" "I" (.int (0 : Int32)) := D10 (Or.inr (hw _ (List.mem_of_getElem? (i := 21) rfl))) (ty := .int) (by decide)
      have F10_heartbeatSeconds : Fld Z h10 b10 "com/example/notched_ledger/notchedledger/amqp/Tuning" "heartbeatSeconds" "I" (.int (0 : Int32)) := D10 (Or.inr (hw _ (List.mem_of_getElem? (i := 23) rfl))) (ty := .int) (by decide)
      show Go p.tables e below _ (T10.setTop (mkF m 116 #[.val (.ref a1), .val (.int p2), .val (.long q3), .second, .val (.int p4), .val (.int w1), .val (.int w2)] [(.ref b10)]))
      refine Go.st (fun U hr => XS.dup X10.here hx rfl (hb hby d4_116) rfl rfl hr) ?_
      show Go p.tables e below _ (T10.setTop (mkF m 117 #[.val (.ref a1), .val (.int p2), .val (.long q3), .second, .val (.int p4), .val (.int w1), .val (.int w2)] [(.ref b10), (.ref b10)]))
      refine Go.st (fun U hr => XS.iload X10.here hx rfl (hb hby d4_117) rfl hr) ?_
      show Go p.tables e below _ (T10.setTop (mkF m 119 #[.val (.ref a1), .val (.int p2), .val (.long q3), .second, .val (.int p4), .val (.int w1), .val (.int w2)] [(.int w1), (.ref b10), (.ref b10)]))
      refine Go.st (fun U hr => XS.iload X10.here hx rfl (hb hby d4_119) rfl hr) ?_
      show Go p.tables e below _ (T10.setTop (mkF m 121 #[.val (.ref a1), .val (.int p2), .val (.long q3), .second, .val (.int p4), .val (.int w1), .val (.int w2)] [(.int w2), (.int w1), (.ref b10), (.ref b10)]))
      refine Go.st (fun U hr => XS.iload X10.here hx rfl (hb hby d4_121) rfl hr) ?_
      show Go p.tables e below _ (T10.setTop (mkF m 123 #[.val (.ref a1), .val (.int p2), .val (.long q3), .second, .val (.int p4), .val (.int w1), .val (.int w2)] [(.int p4), (.int w2), (.int w1), (.ref b10), (.ref b10)]))
      have ech : own_ch w1 p2 = w1 := if_pos hc83_6
      have efr : own_fr w2 q3 = w2 := if_pos hc57_5
      obtain ⟨_, _, ⟨T16, L16, k16, n16⟩, -, X16, ⟨Lc16, hQ16, l16, y16, z16⟩, st16⟩ := X10.specialBack hx (y := (⟨"com/example/notched_ledger/notchedledger/amqp/Tuning", "<init>", "(III)V"⟩ : MethodName)) rfl hown (mvT hZ (hw _ (List.mem_of_getElem? (i := 30) rfl))) (mvT hZ (hw _ (List.mem_of_getElem? (i := 7) rfl))) (mvT hZ (hw _ (List.mem_of_getElem? (i := 8) rfl))) (by decide) (backOf (W := 1) (rm1 l Z a0 hw [] b10 w1 w2 p4 h10 n0 z15 A10 F10_channelMax F10_frameMax F10_heartbeatSeconds gb10 (by rw [← ech]; exact hq1) (by rw [← ech]; exact hq2) (by rw [← efr]; exact hq3) hq4 hq5) hZ (hw _ (List.mem_of_getElem? (i := 8) rfl)) (hw _ (List.mem_of_getElem? (i := 5) rfl)) (by decide) (by decide)) (g := (mkF m 123 #[.val (.ref a1), .val (.int p2), .val (.long q3), .second, .val (.int p4), .val (.int w1), .val (.int w2)] [(.int p4), (.int w2), (.int w1), (.ref b10), (.ref b10)])) rfl (by rw [hml]; rfl) (Steps.refl _) (a := b10) (argsL := [(.int w1), (.int w2), (.int p4)]) (rest := [(.ref b10)]) (lenOf pd_1 rfl) rfl (by show 2 * 0 + _ ≤ _; exact Nat.le_of_eq rfl) (hb hby d4_123) (fun _ _ => ⟨rfl, e10, (by decide : 1 + 0 ≤ _), (by decide : 3 + 0 ≤ _)⟩)
      dsimp only [Pt.U, Pt.locs, Pt.cells, Pt.slots] at X16 l16 y16 z16 st16 hQ16
      subst l16 y16 z16
      obtain ⟨rfl, Nq16, Kq16, Eq16, Fq0_16, Fq1_16, Fq2_16⟩ := hQ16
      have N16 := Fr.app N0 Nq16
      refine Go.tr st16 ?_
      show Go p.tables e below _ (T16.setTop (mkF m 126 #[.val (.ref a1), .val (.int p2), .val (.long q3), .second, .val (.int p4), .val (.int w1), .val (.int w2)] [(.ref b10)]))
      have k17 := (k11).trans Kq16 (allS (Or.inr sb10) all0)
      exact own_retO X16 hx Bd.notSynchronized (t := (.object "com/example/notched_ledger/notchedledger/amqp/Tuning")) Bd.returns rfl (Or.inr (Or.inr (Or.inr (Or.inr ⟨rfl, rfl, rfl⟩)))) (hb hby d4_126) ⟨_, rfl, N16, sb10, k17, Eq16, by rw [ech]; exact Fq0_16, by rw [efr]; exact Fq1_16, Fq2_16⟩ (by decide) (by decide)
    · refine Go.st (fun U hr => XS.ifYes X3.here hx rfl (pc0 := 83) (pc' := 93) rfl (hb hby d4_83) rfl ((if0 _ _).trans (feq hc83_6).2) (by decide) (by decide) hr) ?_
      show Go p.tables e below _ (T3.setTop (mkF m 93 #[.val (.ref a1), .val (.int p2), .val (.long q3), .second, .val (.int p4), .unset, .unset] []))
      refine Go.st (fun U hr => XS.iloadN X3.here hx rfl (hb hby d4_93) rfl hr) ?_
      show Go p.tables e below _ (T3.setTop (mkF m 94 #[.val (.ref a1), .val (.int p2), .val (.long q3), .second, .val (.int p4), .unset, .unset] [(.int p2)]))
      refine Go.st (fun U hr => XS.istore X3.here hx rfl (hb hby d4_94) rfl (l' := #[.val (.ref a1), .val (.int p2), .val (.long q3), .second, .val (.int p4), .val (.int p2), .unset]) rfl hr) ?_
      show Go p.tables e below _ (T3.setTop (mkF m 96 #[.val (.ref a1), .val (.int p2), .val (.long q3), .second, .val (.int p4), .val (.int p2), .unset] []))
      refine Go.st (fun U hr => XS.lloadN X3.here hx rfl (hb hby d4_96) rfl hr) ?_
      show Go p.tables e below _ (T3.setTop (mkF m 97 #[.val (.ref a1), .val (.int p2), .val (.long q3), .second, .val (.int p4), .val (.int p2), .unset] [(.long q3)]))
      refine Go.st (fun U hr => XS.lconst X3.here hx rfl (hb hby d4_97) hr) ?_
      show Go p.tables e below _ (T3.setTop (mkF m 98 #[.val (.ref a1), .val (.int p2), .val (.long q3), .second, .val (.int p4), .val (.int p2), .unset] [(.long (0 : Int64)), (.long q3)]))
      refine Go.st (fun U hr => XS.lcmp X3.here hx rfl (hb hby d4_98) rfl hr) ?_
      show Go p.tables e below _ (T3.setTop (mkF m 99 #[.val (.ref a1), .val (.int p2), .val (.long q3), .second, .val (.int p4), .val (.int p2), .unset] [(.int (lcmpW q3 (0 : Int64)))]))
      have hc99_18 : q3 = (0 : Int64) := hc57_5
      refine Go.st (fun U hr => XS.ifNo X3.here hx rfl (hb hby d4_99) rfl ((if0 _ _).trans (teq ((lw_eq q3 (0 : Int64)).2 hc99_18)).2) hr) ?_
      show Go p.tables e below _ (T3.setTop (mkF m 102 #[.val (.ref a1), .val (.int p2), .val (.long q3), .second, .val (.int p4), .val (.int p2), .unset] []))
      refine Go.st (fun U hr => XS.aloadN X3.here hx rfl (hb hby d4_102) rfl rfl hr) ?_
      show Go p.tables e below _ (T3.setTop (mkF m 103 #[.val (.ref a1), .val (.int p2), .val (.long q3), .second, .val (.int p4), .val (.int p2), .unset] [(.ref a1)]))
      obtain ⟨T19, X19, e19, st19⟩ := getF X3 hx hZ hown (host := "") (Or.inl (hw _ (List.mem_of_getElem? (i := 20) rfl))) Via.refl e3 F1 (g := (mkF m 103 #[.val (.ref a1), .val (.int p2), .val (.long q3), .second, .val (.int p4), .val (.int p2), .unset] [(.ref a1)])) rfl rfl (hb hby d4_103)
      refine Go.st st19 ?_
      show Go p.tables e below _ (T19.setTop (mkF m 106 #[.val (.ref a1), .val (.int p2), .val (.long q3), .second, .val (.int p4), .val (.int p2), .unset] [(.int w2)]))
      refine Go.st (fun U hr => XS.goto X19.here hx rfl (pc0 := 106) (pc' := 111) rfl (hb hby d4_106) (by decide) (by decide) hr) ?_
      show Go p.tables e below _ (T19.setTop (mkF m 111 #[.val (.ref a1), .val (.int p2), .val (.long q3), .second, .val (.int p4), .val (.int p2), .unset] [(.int w2)]))
      refine Go.st (fun U hr => XS.istore X19.here hx rfl (hb hby d4_111) rfl (l' := #[.val (.ref a1), .val (.int p2), .val (.long q3), .second, .val (.int p4), .val (.int p2), .val (.int w2)]) rfl hr) ?_
      show Go p.tables e below _ (T19.setTop (mkF m 113 #[.val (.ref a1), .val (.int p2), .val (.long q3), .second, .val (.int p4), .val (.int p2), .val (.int w2)] []))
      obtain ⟨T20, h20, X20, e20, E20, A20, D20, -, st20⟩ := newO X19 hx hZ hown (hw _ (List.mem_of_getElem? (i := 29) rfl)) (hw _ (List.mem_of_getElem? (i := 4) rfl)) (hw _ (List.mem_of_getElem? (i := 5) rfl)) e19 (g := (mkF m 113 #[.val (.ref a1), .val (.int p2), .val (.long q3), .second, .val (.int p4), .val (.int p2), .val (.int w2)] [])) rfl (hb hby d4_113) (by decide) (by decide)
      obtain ⟨b20, g20⟩ : ∃ z, z = h0.size := ⟨_, rfl⟩
      rw [← g20] at A20 D20 st20
      refine Go.st st20 ?_
      have gb20 : n0 ≤ b20 := Nat.le_trans Z0 (Nat.le_of_eq g20.symm)
      have sb20 : h0.size ≤ b20 := Nat.le_trans ((Keep.refl h0 [])).1 (Nat.le_of_eq g20.symm)
      have k21 := ((Keep.refl h0 [])).ext E20
      have n22 : a1 ≠ b20 := Nat.ne_of_lt (Nat.lt_of_lt_of_le (F0).lt (Nat.le_of_eq g20.symm))
      have f23 := (F0).ext E20
      have f24 := (F1).ext E20
      have z25 := Nat.le_trans Z0 E20.1
      have F20_channelMax : Fld Z h20 b20 "com/example/notched_ledger/notchedledger/amqp/Tuning" "channelMax" "I" (.int (0 : Int32)) := D20 (Or.inr (hw _ (List.mem_of_getElem? (i := 19) rfl))) (ty := .int) (by decide)
      have F20_frameMax : Fld Z h20 b20 "com/example/notched_ledger/notchedledger/amqp/Tuning" "frameMax" "I" (.int (0 : Int32)) := D20 (Or.inr (hw _ (List.mem_of_getElem? (i := 21) rfl))) (ty := .int) (by decide)
      have F20_heartbeatSeconds : Fld Z h20 b20 "com/example/notched_ledger/notchedledger/amqp/Tuning" "heartbeatSeconds" "I" (.int (0 : Int32)) := D20 (Or.inr (hw _ (List.mem_of_getElem? (i := 23) rfl))) (ty := .int) (by decide)
      show Go p.tables e below _ (T20.setTop (mkF m 116 #[.val (.ref a1), .val (.int p2), .val (.long q3), .second, .val (.int p4), .val (.int p2), .val (.int w2)] [(.ref b20)]))
      refine Go.st (fun U hr => XS.dup X20.here hx rfl (hb hby d4_116) rfl rfl hr) ?_
      show Go p.tables e below _ (T20.setTop (mkF m 117 #[.val (.ref a1), .val (.int p2), .val (.long q3), .second, .val (.int p4), .val (.int p2), .val (.int w2)] [(.ref b20), (.ref b20)]))
      refine Go.st (fun U hr => XS.iload X20.here hx rfl (hb hby d4_117) rfl hr) ?_
      show Go p.tables e below _ (T20.setTop (mkF m 119 #[.val (.ref a1), .val (.int p2), .val (.long q3), .second, .val (.int p4), .val (.int p2), .val (.int w2)] [(.int p2), (.ref b20), (.ref b20)]))
      refine Go.st (fun U hr => XS.iload X20.here hx rfl (hb hby d4_119) rfl hr) ?_
      show Go p.tables e below _ (T20.setTop (mkF m 121 #[.val (.ref a1), .val (.int p2), .val (.long q3), .second, .val (.int p4), .val (.int p2), .val (.int w2)] [(.int w2), (.int p2), (.ref b20), (.ref b20)]))
      refine Go.st (fun U hr => XS.iload X20.here hx rfl (hb hby d4_121) rfl hr) ?_
      show Go p.tables e below _ (T20.setTop (mkF m 123 #[.val (.ref a1), .val (.int p2), .val (.long q3), .second, .val (.int p4), .val (.int p2), .val (.int w2)] [(.int p4), (.int w2), (.int p2), (.ref b20), (.ref b20)]))
      have ech : own_ch w1 p2 = p2 := if_neg hc83_6
      have efr : own_fr w2 q3 = w2 := if_pos hc57_5
      obtain ⟨_, _, ⟨T26, L26, k26, n26⟩, -, X26, ⟨Lc26, hQ26, l26, y26, z26⟩, st26⟩ := X20.specialBack hx (y := (⟨"com/example/notched_ledger/notchedledger/amqp/Tuning", "<init>", "(III)V"⟩ : MethodName)) rfl hown (mvT hZ (hw _ (List.mem_of_getElem? (i := 30) rfl))) (mvT hZ (hw _ (List.mem_of_getElem? (i := 7) rfl))) (mvT hZ (hw _ (List.mem_of_getElem? (i := 8) rfl))) (by decide) (backOf (W := 1) (rm1 l Z a0 hw [] b20 p2 w2 p4 h20 n0 z25 A20 F20_channelMax F20_frameMax F20_heartbeatSeconds gb20 (by rw [← ech]; exact hq1) (by rw [← ech]; exact hq2) (by rw [← efr]; exact hq3) hq4 hq5) hZ (hw _ (List.mem_of_getElem? (i := 8) rfl)) (hw _ (List.mem_of_getElem? (i := 5) rfl)) (by decide) (by decide)) (g := (mkF m 123 #[.val (.ref a1), .val (.int p2), .val (.long q3), .second, .val (.int p4), .val (.int p2), .val (.int w2)] [(.int p4), (.int w2), (.int p2), (.ref b20), (.ref b20)])) rfl (by rw [hml]; rfl) (Steps.refl _) (a := b20) (argsL := [(.int p2), (.int w2), (.int p4)]) (rest := [(.ref b20)]) (lenOf pd_1 rfl) rfl (by show 2 * 0 + _ ≤ _; exact Nat.le_of_eq rfl) (hb hby d4_123) (fun _ _ => ⟨rfl, e20, (by decide : 1 + 0 ≤ _), (by decide : 3 + 0 ≤ _)⟩)
      dsimp only [Pt.U, Pt.locs, Pt.cells, Pt.slots] at X26 l26 y26 z26 st26 hQ26
      subst l26 y26 z26
      obtain ⟨rfl, Nq26, Kq26, Eq26, Fq0_26, Fq1_26, Fq2_26⟩ := hQ26
      have N26 := Fr.app N0 Nq26
      refine Go.tr st26 ?_
      show Go p.tables e below _ (T26.setTop (mkF m 126 #[.val (.ref a1), .val (.int p2), .val (.long q3), .second, .val (.int p4), .val (.int p2), .val (.int w2)] [(.ref b20)]))
      have k27 := (k21).trans Kq26 (allS (Or.inr sb20) all0)
      exact own_retO X26 hx Bd.notSynchronized (t := (.object "com/example/notched_ledger/notchedledger/amqp/Tuning")) Bd.returns rfl (Or.inr (Or.inr (Or.inr (Or.inr ⟨rfl, rfl, rfl⟩)))) (hb hby d4_126) ⟨_, rfl, N26, sb20, k27, Eq26, by rw [ech]; exact Fq0_26, by rw [efr]; exact Fq1_26, Fq2_26⟩ (by decide) (by decide)
  · refine Go.st (fun U hr => XS.ifNo X3.here hx rfl (hb hby d4_57) rfl ((if0 _ _).trans (feq (fun q => hc57_5 ((lw_eq q3 (0 : Int64)).1 q))).1) hr) ?_
    show Go p.tables e below _ (T3.setTop (mkF m 60 #[.val (.ref a1), .val (.int p2), .val (.long q3), .second, .val (.int p4), .unset, .unset] []))
    refine Go.st (fun U hr => XS.lloadN X3.here hx rfl (hb hby d4_60) rfl hr) ?_
    show Go p.tables e below _ (T3.setTop (mkF m 61 #[.val (.ref a1), .val (.int p2), .val (.long q3), .second, .val (.int p4), .unset, .unset] [(.long q3)]))
    refine Go.st (X3.ldc2Long hx hown (mvT hZ (hw _ (List.mem_of_getElem? (i := 49) rfl))) (g := (mkF m 61 #[.val (.ref a1), .val (.int p2), .val (.long q3), .second, .val (.int p4), .unset, .unset] [(.long q3)])) rfl (hb hby d4_61)) ?_
    show Go p.tables e below _ (T3.setTop (mkF m 64 #[.val (.ref a1), .val (.int p2), .val (.long q3), .second, .val (.int p4), .unset, .unset] [(.long (4096 : Int64)), (.long q3)]))
    refine Go.st (fun U hr => XS.lcmp X3.here hx rfl (hb hby d4_64) rfl hr) ?_
    show Go p.tables e below _ (T3.setTop (mkF m 65 #[.val (.ref a1), .val (.int p2), .val (.long q3), .second, .val (.int p4), .unset, .unset] [(.int (lcmpW q3 (4096 : Int64)))]))
    have hc65_28 : ¬ (q3 < (4096 : Int64)) := hp3.resolve_left hc57_5
    refine Go.st (fun U hr => XS.ifYes X3.here hx rfl (pc0 := 65) (pc' := 82) rfl (hb hby d4_65) rfl ((if0 _ _).trans (flt (fun q => hc65_28 ((lw_lt q3 (4096 : Int64)).1 q))).2.1) (by decide) (by decide) hr) ?_
    show Go p.tables e below _ (T3.setTop (mkF m 82 #[.val (.ref a1), .val (.int p2), .val (.long q3), .second, .val (.int p4), .unset, .unset] []))
    refine Go.st (fun U hr => XS.iloadN X3.here hx rfl (hb hby d4_82) rfl hr) ?_
    show Go p.tables e below _ (T3.setTop (mkF m 83 #[.val (.ref a1), .val (.int p2), .val (.long q3), .second, .val (.int p4), .unset, .unset] [(.int p2)]))
    by_cases hc83_29 : p2 = (0 : Int32)
    · refine Go.st (fun U hr => XS.ifNo X3.here hx rfl (hb hby d4_83) rfl ((if0 _ _).trans (teq hc83_29).2) hr) ?_
      show Go p.tables e below _ (T3.setTop (mkF m 86 #[.val (.ref a1), .val (.int p2), .val (.long q3), .second, .val (.int p4), .unset, .unset] []))
      refine Go.st (fun U hr => XS.aloadN X3.here hx rfl (hb hby d4_86) rfl rfl hr) ?_
      show Go p.tables e below _ (T3.setTop (mkF m 87 #[.val (.ref a1), .val (.int p2), .val (.long q3), .second, .val (.int p4), .unset, .unset] [(.ref a1)]))
      obtain ⟨T30, X30, e30, st30⟩ := getF X3 hx hZ hown (host := "") (Or.inl (hw _ (List.mem_of_getElem? (i := 18) rfl))) Via.refl e3 F0 (g := (mkF m 87 #[.val (.ref a1), .val (.int p2), .val (.long q3), .second, .val (.int p4), .unset, .unset] [(.ref a1)])) rfl rfl (hb hby d4_87)
      refine Go.st st30 ?_
      show Go p.tables e below _ (T30.setTop (mkF m 90 #[.val (.ref a1), .val (.int p2), .val (.long q3), .second, .val (.int p4), .unset, .unset] [(.int w1)]))
      refine Go.st (fun U hr => XS.goto X30.here hx rfl (pc0 := 90) (pc' := 94) rfl (hb hby d4_90) (by decide) (by decide) hr) ?_
      show Go p.tables e below _ (T30.setTop (mkF m 94 #[.val (.ref a1), .val (.int p2), .val (.long q3), .second, .val (.int p4), .unset, .unset] [(.int w1)]))
      refine Go.st (fun U hr => XS.istore X30.here hx rfl (hb hby d4_94) rfl (l' := #[.val (.ref a1), .val (.int p2), .val (.long q3), .second, .val (.int p4), .val (.int w1), .unset]) rfl hr) ?_
      show Go p.tables e below _ (T30.setTop (mkF m 96 #[.val (.ref a1), .val (.int p2), .val (.long q3), .second, .val (.int p4), .val (.int w1), .unset] []))
      refine Go.st (fun U hr => XS.lloadN X30.here hx rfl (hb hby d4_96) rfl hr) ?_
      show Go p.tables e below _ (T30.setTop (mkF m 97 #[.val (.ref a1), .val (.int p2), .val (.long q3), .second, .val (.int p4), .val (.int w1), .unset] [(.long q3)]))
      refine Go.st (fun U hr => XS.lconst X30.here hx rfl (hb hby d4_97) hr) ?_
      show Go p.tables e below _ (T30.setTop (mkF m 98 #[.val (.ref a1), .val (.int p2), .val (.long q3), .second, .val (.int p4), .val (.int w1), .unset] [(.long (0 : Int64)), (.long q3)]))
      refine Go.st (fun U hr => XS.lcmp X30.here hx rfl (hb hby d4_98) rfl hr) ?_
      show Go p.tables e below _ (T30.setTop (mkF m 99 #[.val (.ref a1), .val (.int p2), .val (.long q3), .second, .val (.int p4), .val (.int w1), .unset] [(.int (lcmpW q3 (0 : Int64)))]))
      have hc99_31 : ¬ (q3 = (0 : Int64)) := hc57_5
      refine Go.st (fun U hr => XS.ifYes X30.here hx rfl (pc0 := 99) (pc' := 109) rfl (hb hby d4_99) rfl ((if0 _ _).trans (feq (fun q => hc99_31 ((lw_eq q3 (0 : Int64)).1 q))).2) (by decide) (by decide) hr) ?_
      show Go p.tables e below _ (T30.setTop (mkF m 109 #[.val (.ref a1), .val (.int p2), .val (.long q3), .second, .val (.int p4), .val (.int w1), .unset] []))
      refine Go.st (fun U hr => XS.lloadN X30.here hx rfl (hb hby d4_109) rfl hr) ?_
      show Go p.tables e below _ (T30.setTop (mkF m 110 #[.val (.ref a1), .val (.int p2), .val (.long q3), .second, .val (.int p4), .val (.int w1), .unset] [(.long q3)]))
      refine Go.st (fun U hr => XS.l2i X30.here hx rfl (hb hby d4_110) rfl hr) ?_
      show Go p.tables e below _ (T30.setTop (mkF m 111 #[.val (.ref a1), .val (.int p2), .val (.long q3), .second, .val (.int p4), .val (.int w1), .unset] [(.int (q3.toInt32))]))
      refine Go.st (fun U hr => XS.istore X30.here hx rfl (hb hby d4_111) rfl (l' := #[.val (.ref a1), .val (.int p2), .val (.long q3), .second, .val (.int p4), .val (.int w1), .val (.int (q3.toInt32))]) rfl hr) ?_
      show Go p.tables e below _ (T30.setTop (mkF m 113 #[.val (.ref a1), .val (.int p2), .val (.long q3), .second, .val (.int p4), .val (.int w1), .val (.int (q3.toInt32))] []))
      obtain ⟨T32, h32, X32, e32, E32, A32, D32, -, st32⟩ := newO X30 hx hZ hown (hw _ (List.mem_of_getElem? (i := 29) rfl)) (hw _ (List.mem_of_getElem? (i := 4) rfl)) (hw _ (List.mem_of_getElem? (i := 5) rfl)) e30 (g := (mkF m 113 #[.val (.ref a1), .val (.int p2), .val (.long q3), .second, .val (.int p4), .val (.int w1), .val (.int (q3.toInt32))] [])) rfl (hb hby d4_113) (by decide) (by decide)
      obtain ⟨b32, g32⟩ : ∃ z, z = h0.size := ⟨_, rfl⟩
      rw [← g32] at A32 D32 st32
      refine Go.st st32 ?_
      have gb32 : n0 ≤ b32 := Nat.le_trans Z0 (Nat.le_of_eq g32.symm)
      have sb32 : h0.size ≤ b32 := Nat.le_trans ((Keep.refl h0 [])).1 (Nat.le_of_eq g32.symm)
      have k33 := ((Keep.refl h0 [])).ext E32
      have n34 : a1 ≠ b32 := Nat.ne_of_lt (Nat.lt_of_lt_of_le (F0).lt (Nat.le_of_eq g32.symm))
      have f35 := (F0).ext E32
      have f36 := (F1).ext E32
      have z37 := Nat.le_trans Z0 E32.1
      have F32_channelMax : Fld Z h32 b32 "com/example/notched_ledger/notchedledger/amqp/Tuning" "channelMax" "I" (.int (0 : Int32)) := D32 (Or.inr (hw _ (List.mem_of_getElem? (i := 19) rfl))) (ty := .int) (by decide)
      have F32_frameMax : Fld Z h32 b32 "com/example/notched_ledger/notchedledger/amqp/Tuning" "frameMax" "I" (.int (0 : Int32)) := D32 (Or.inr (hw _ (List.mem_of_getElem? (i := 21) rfl))) (ty := .int) (by decide)
      have F32_heartbeatSeconds : Fld Z h32 b32 "com/example/notched_ledger/notchedledger/amqp/Tuning" "heartbeatSeconds" "I" (.int (0 : Int32)) := D32 (Or.inr (hw _ (List.mem_of_getElem? (i := 23) rfl))) (ty := .int) (by decide)
      show Go p.tables e below _ (T32.setTop (mkF m 116 #[.val (.ref a1), .val (.int p2), .val (.long q3), .second, .val (.int p4), .val (.int w1), .val (.int (q3.toInt32))] [(.ref b32)]))
      refine Go.st (fun U hr => XS.dup X32.here hx rfl (hb hby d4_116) rfl rfl hr) ?_
      show Go p.tables e below _ (T32.setTop (mkF m 117 #[.val (.ref a1), .val (.int p2), .val (.long q3), .second, .val (.int p4), .val (.int w1), .val (.int (q3.toInt32))] [(.ref b32), (.ref b32)]))
      refine Go.st (fun U hr => XS.iload X32.here hx rfl (hb hby d4_117) rfl hr) ?_
      show Go p.tables e below _ (T32.setTop (mkF m 119 #[.val (.ref a1), .val (.int p2), .val (.long q3), .second, .val (.int p4), .val (.int w1), .val (.int (q3.toInt32))] [(.int w1), (.ref b32), (.ref b32)]))
      refine Go.st (fun U hr => XS.iload X32.here hx rfl (hb hby d4_119) rfl hr) ?_
      show Go p.tables e below _ (T32.setTop (mkF m 121 #[.val (.ref a1), .val (.int p2), .val (.long q3), .second, .val (.int p4), .val (.int w1), .val (.int (q3.toInt32))] [(.int (q3.toInt32)), (.int w1), (.ref b32), (.ref b32)]))
      refine Go.st (fun U hr => XS.iload X32.here hx rfl (hb hby d4_121) rfl hr) ?_
      show Go p.tables e below _ (T32.setTop (mkF m 123 #[.val (.ref a1), .val (.int p2), .val (.long q3), .second, .val (.int p4), .val (.int w1), .val (.int (q3.toInt32))] [(.int p4), (.int (q3.toInt32)), (.int w1), (.ref b32), (.ref b32)]))
      have ech : own_ch w1 p2 = w1 := if_pos hc83_29
      have efr : own_fr w2 q3 = q3.toInt32 := if_neg hc57_5
      obtain ⟨_, _, ⟨T38, L38, k38, n38⟩, -, X38, ⟨Lc38, hQ38, l38, y38, z38⟩, st38⟩ := X32.specialBack hx (y := (⟨"com/example/notched_ledger/notchedledger/amqp/Tuning", "<init>", "(III)V"⟩ : MethodName)) rfl hown (mvT hZ (hw _ (List.mem_of_getElem? (i := 30) rfl))) (mvT hZ (hw _ (List.mem_of_getElem? (i := 7) rfl))) (mvT hZ (hw _ (List.mem_of_getElem? (i := 8) rfl))) (by decide) (backOf (W := 1) (rm1 l Z a0 hw [] b32 w1 (q3.toInt32) p4 h32 n0 z37 A32 F32_channelMax F32_frameMax F32_heartbeatSeconds gb32 (by rw [← ech]; exact hq1) (by rw [← ech]; exact hq2) (by rw [← efr]; exact hq3) hq4 hq5) hZ (hw _ (List.mem_of_getElem? (i := 8) rfl)) (hw _ (List.mem_of_getElem? (i := 5) rfl)) (by decide) (by decide)) (g := (mkF m 123 #[.val (.ref a1), .val (.int p2), .val (.long q3), .second, .val (.int p4), .val (.int w1), .val (.int (q3.toInt32))] [(.int p4), (.int (q3.toInt32)), (.int w1), (.ref b32), (.ref b32)])) rfl (by rw [hml]; rfl) (Steps.refl _) (a := b32) (argsL := [(.int w1), (.int (q3.toInt32)), (.int p4)]) (rest := [(.ref b32)]) (lenOf pd_1 rfl) rfl (by show 2 * 0 + _ ≤ _; exact Nat.le_of_eq rfl) (hb hby d4_123) (fun _ _ => ⟨rfl, e32, (by decide : 1 + 0 ≤ _), (by decide : 3 + 0 ≤ _)⟩)
      dsimp only [Pt.U, Pt.locs, Pt.cells, Pt.slots] at X38 l38 y38 z38 st38 hQ38
      subst l38 y38 z38
      obtain ⟨rfl, Nq38, Kq38, Eq38, Fq0_38, Fq1_38, Fq2_38⟩ := hQ38
      have N38 := Fr.app N0 Nq38
      refine Go.tr st38 ?_
      show Go p.tables e below _ (T38.setTop (mkF m 126 #[.val (.ref a1), .val (.int p2), .val (.long q3), .second, .val (.int p4), .val (.int w1), .val (.int (q3.toInt32))] [(.ref b32)]))
      have k39 := (k33).trans Kq38 (allS (Or.inr sb32) all0)
      exact own_retO X38 hx Bd.notSynchronized (t := (.object "com/example/notched_ledger/notchedledger/amqp/Tuning")) Bd.returns rfl (Or.inr (Or.inr (Or.inr (Or.inr ⟨rfl, rfl, rfl⟩)))) (hb hby d4_126) ⟨_, rfl, N38, sb32, k39, Eq38, by rw [ech]; exact Fq0_38, by rw [efr]; exact Fq1_38, Fq2_38⟩ (by decide) (by decide)
    · refine Go.st (fun U hr => XS.ifYes X3.here hx rfl (pc0 := 83) (pc' := 93) rfl (hb hby d4_83) rfl ((if0 _ _).trans (feq hc83_29).2) (by decide) (by decide) hr) ?_
      show Go p.tables e below _ (T3.setTop (mkF m 93 #[.val (.ref a1), .val (.int p2), .val (.long q3), .second, .val (.int p4), .unset, .unset] []))
      refine Go.st (fun U hr => XS.iloadN X3.here hx rfl (hb hby d4_93) rfl hr) ?_
      show Go p.tables e below _ (T3.setTop (mkF m 94 #[.val (.ref a1), .val (.int p2), .val (.long q3), .second, .val (.int p4), .unset, .unset] [(.int p2)]))
      refine Go.st (fun U hr => XS.istore X3.here hx rfl (hb hby d4_94) rfl (l' := #[.val (.ref a1), .val (.int p2), .val (.long q3), .second, .val (.int p4), .val (.int p2), .unset]) rfl hr) ?_
      show Go p.tables e below _ (T3.setTop (mkF m 96 #[.val (.ref a1), .val (.int p2), .val (.long q3), .second, .val (.int p4), .val (.int p2), .unset] []))
      refine Go.st (fun U hr => XS.lloadN X3.here hx rfl (hb hby d4_96) rfl hr) ?_
      show Go p.tables e below _ (T3.setTop (mkF m 97 #[.val (.ref a1), .val (.int p2), .val (.long q3), .second, .val (.int p4), .val (.int p2), .unset] [(.long q3)]))
      refine Go.st (fun U hr => XS.lconst X3.here hx rfl (hb hby d4_97) hr) ?_
      show Go p.tables e below _ (T3.setTop (mkF m 98 #[.val (.ref a1), .val (.int p2), .val (.long q3), .second, .val (.int p4), .val (.int p2), .unset] [(.long (0 : Int64)), (.long q3)]))
      refine Go.st (fun U hr => XS.lcmp X3.here hx rfl (hb hby d4_98) rfl hr) ?_
      show Go p.tables e below _ (T3.setTop (mkF m 99 #[.val (.ref a1), .val (.int p2), .val (.long q3), .second, .val (.int p4), .val (.int p2), .unset] [(.int (lcmpW q3 (0 : Int64)))]))
      have hc99_40 : ¬ (q3 = (0 : Int64)) := hc57_5
      refine Go.st (fun U hr => XS.ifYes X3.here hx rfl (pc0 := 99) (pc' := 109) rfl (hb hby d4_99) rfl ((if0 _ _).trans (feq (fun q => hc99_40 ((lw_eq q3 (0 : Int64)).1 q))).2) (by decide) (by decide) hr) ?_
      show Go p.tables e below _ (T3.setTop (mkF m 109 #[.val (.ref a1), .val (.int p2), .val (.long q3), .second, .val (.int p4), .val (.int p2), .unset] []))
      refine Go.st (fun U hr => XS.lloadN X3.here hx rfl (hb hby d4_109) rfl hr) ?_
      show Go p.tables e below _ (T3.setTop (mkF m 110 #[.val (.ref a1), .val (.int p2), .val (.long q3), .second, .val (.int p4), .val (.int p2), .unset] [(.long q3)]))
      refine Go.st (fun U hr => XS.l2i X3.here hx rfl (hb hby d4_110) rfl hr) ?_
      show Go p.tables e below _ (T3.setTop (mkF m 111 #[.val (.ref a1), .val (.int p2), .val (.long q3), .second, .val (.int p4), .val (.int p2), .unset] [(.int (q3.toInt32))]))
      refine Go.st (fun U hr => XS.istore X3.here hx rfl (hb hby d4_111) rfl (l' := #[.val (.ref a1), .val (.int p2), .val (.long q3), .second, .val (.int p4), .val (.int p2), .val (.int (q3.toInt32))]) rfl hr) ?_
      show Go p.tables e below _ (T3.setTop (mkF m 113 #[.val (.ref a1), .val (.int p2), .val (.long q3), .second, .val (.int p4), .val (.int p2), .val (.int (q3.toInt32))] []))
      obtain ⟨T41, h41, X41, e41, E41, A41, D41, -, st41⟩ := newO X3 hx hZ hown (hw _ (List.mem_of_getElem? (i := 29) rfl)) (hw _ (List.mem_of_getElem? (i := 4) rfl)) (hw _ (List.mem_of_getElem? (i := 5) rfl)) e3 (g := (mkF m 113 #[.val (.ref a1), .val (.int p2), .val (.long q3), .second, .val (.int p4), .val (.int p2), .val (.int (q3.toInt32))] [])) rfl (hb hby d4_113) (by decide) (by decide)
      obtain ⟨b41, g41⟩ : ∃ z, z = h0.size := ⟨_, rfl⟩
      rw [← g41] at A41 D41 st41
      refine Go.st st41 ?_
      have gb41 : n0 ≤ b41 := Nat.le_trans Z0 (Nat.le_of_eq g41.symm)
      have sb41 : h0.size ≤ b41 := Nat.le_trans ((Keep.refl h0 [])).1 (Nat.le_of_eq g41.symm)
      have k42 := ((Keep.refl h0 [])).ext E41
      have n43 : a1 ≠ b41 := Nat.ne_of_lt (Nat.lt_of_lt_of_le (F0).lt (Nat.le_of_eq g41.symm))
      have f44 := (F0).ext E41
      have f45 := (F1).ext E41
      have z46 := Nat.le_trans Z0 E41.1
      have F41_channelMax : Fld Z h41 b41 "com/example/notched_ledger/notchedledger/amqp/Tuning" "channelMax" "I" (.int (0 : Int32)) := D41 (Or.inr (hw _ (List.mem_of_getElem? (i := 19) rfl))) (ty := .int) (by decide)
      have F41_frameMax : Fld Z h41 b41 "com/example/notched_ledger/notchedledger/amqp/Tuning" "frameMax" "I" (.int (0 : Int32)) := D41 (Or.inr (hw _ (List.mem_of_getElem? (i := 21) rfl))) (ty := .int) (by decide)
      have F41_heartbeatSeconds : Fld Z h41 b41 "com/example/notched_ledger/notchedledger/amqp/Tuning" "heartbeatSeconds" "I" (.int (0 : Int32)) := D41 (Or.inr (hw _ (List.mem_of_getElem? (i := 23) rfl))) (ty := .int) (by decide)
      show Go p.tables e below _ (T41.setTop (mkF m 116 #[.val (.ref a1), .val (.int p2), .val (.long q3), .second, .val (.int p4), .val (.int p2), .val (.int (q3.toInt32))] [(.ref b41)]))
      refine Go.st (fun U hr => XS.dup X41.here hx rfl (hb hby d4_116) rfl rfl hr) ?_
      show Go p.tables e below _ (T41.setTop (mkF m 117 #[.val (.ref a1), .val (.int p2), .val (.long q3), .second, .val (.int p4), .val (.int p2), .val (.int (q3.toInt32))] [(.ref b41), (.ref b41)]))
      refine Go.st (fun U hr => XS.iload X41.here hx rfl (hb hby d4_117) rfl hr) ?_
      show Go p.tables e below _ (T41.setTop (mkF m 119 #[.val (.ref a1), .val (.int p2), .val (.long q3), .second, .val (.int p4), .val (.int p2), .val (.int (q3.toInt32))] [(.int p2), (.ref b41), (.ref b41)]))
      refine Go.st (fun U hr => XS.iload X41.here hx rfl (hb hby d4_119) rfl hr) ?_
      show Go p.tables e below _ (T41.setTop (mkF m 121 #[.val (.ref a1), .val (.int p2), .val (.long q3), .second, .val (.int p4), .val (.int p2), .val (.int (q3.toInt32))] [(.int (q3.toInt32)), (.int p2), (.ref b41), (.ref b41)]))
      refine Go.st (fun U hr => XS.iload X41.here hx rfl (hb hby d4_121) rfl hr) ?_
      show Go p.tables e below _ (T41.setTop (mkF m 123 #[.val (.ref a1), .val (.int p2), .val (.long q3), .second, .val (.int p4), .val (.int p2), .val (.int (q3.toInt32))] [(.int p4), (.int (q3.toInt32)), (.int p2), (.ref b41), (.ref b41)]))
      have ech : own_ch w1 p2 = p2 := if_neg hc83_29
      have efr : own_fr w2 q3 = q3.toInt32 := if_neg hc57_5
      obtain ⟨_, _, ⟨T47, L47, k47, n47⟩, -, X47, ⟨Lc47, hQ47, l47, y47, z47⟩, st47⟩ := X41.specialBack hx (y := (⟨"com/example/notched_ledger/notchedledger/amqp/Tuning", "<init>", "(III)V"⟩ : MethodName)) rfl hown (mvT hZ (hw _ (List.mem_of_getElem? (i := 30) rfl))) (mvT hZ (hw _ (List.mem_of_getElem? (i := 7) rfl))) (mvT hZ (hw _ (List.mem_of_getElem? (i := 8) rfl))) (by decide) (backOf (W := 1) (rm1 l Z a0 hw [] b41 p2 (q3.toInt32) p4 h41 n0 z46 A41 F41_channelMax F41_frameMax F41_heartbeatSeconds gb41 (by rw [← ech]; exact hq1) (by rw [← ech]; exact hq2) (by rw [← efr]; exact hq3) hq4 hq5) hZ (hw _ (List.mem_of_getElem? (i := 8) rfl)) (hw _ (List.mem_of_getElem? (i := 5) rfl)) (by decide) (by decide)) (g := (mkF m 123 #[.val (.ref a1), .val (.int p2), .val (.long q3), .second, .val (.int p4), .val (.int p2), .val (.int (q3.toInt32))] [(.int p4), (.int (q3.toInt32)), (.int p2), (.ref b41), (.ref b41)])) rfl (by rw [hml]; rfl) (Steps.refl _) (a := b41) (argsL := [(.int p2), (.int (q3.toInt32)), (.int p4)]) (rest := [(.ref b41)]) (lenOf pd_1 rfl) rfl (by show 2 * 0 + _ ≤ _; exact Nat.le_of_eq rfl) (hb hby d4_123) (fun _ _ => ⟨rfl, e41, (by decide : 1 + 0 ≤ _), (by decide : 3 + 0 ≤ _)⟩)
      dsimp only [Pt.U, Pt.locs, Pt.cells, Pt.slots] at X47 l47 y47 z47 st47 hQ47
      subst l47 y47 z47
      obtain ⟨rfl, Nq47, Kq47, Eq47, Fq0_47, Fq1_47, Fq2_47⟩ := hQ47
      have N47 := Fr.app N0 Nq47
      refine Go.tr st47 ?_
      show Go p.tables e below _ (T47.setTop (mkF m 126 #[.val (.ref a1), .val (.int p2), .val (.long q3), .second, .val (.int p4), .val (.int p2), .val (.int (q3.toInt32))] [(.ref b41)]))
      have k48 := (k42).trans Kq47 (allS (Or.inr sb41) all0)
      exact own_retO X47 hx Bd.notSynchronized (t := (.object "com/example/notched_ledger/notchedledger/amqp/Tuning")) Bd.returns rfl (Or.inr (Or.inr (Or.inr (Or.inr ⟨rfl, rfl, rfl⟩)))) (hb hby d4_126) ⟨_, rfl, N47, sb41, k48, Eq47, by rw [ech]; exact Fq0_47, by rw [efr]; exact Fq1_47, Fq2_47⟩ (by decide) (by decide)
theorem pn_0 : plainFor x = true := plainFor_of_name (by first | (simp [plainName, overriddenIn]; done) | decide +kernel)
theorem ef_0 (m : MethodId) (x0 : Int32) (x1 : Int32) (x2 : Int32) (x3 : Int32) (x4 : Int64) (x5 : Int32) : entryFrame m #[(.int x0), (.int x1), (.int x2), (.int x3), (.long x4), (.int x5)] maxLocals = mkF m 0 #[.val (.int x0), .val (.int x1), .val (.int x2), .val (.int x3), .val (.long x4), .second, .val (.int x5), .unset, .unset, .unset, .unset, .unset, .unset, .unset, .unset, .unset, .unset, .unset, .unset, .unset] [] := by first | (simp [entryFrame, mkF, argsToLocals, Value.category, maxLocals]; done) | rfl
theorem pd_2 : parseMethodDescriptor "(IJI)Lcom/example/notched_ledger/notchedledger/amqp/Tuning;" = some ⟨[.int, .long, .int], some (.object "com/example/notched_ledger/notchedledger/amqp/Tuning")⟩ := by decide +kernel
theorem pd_3 : parseMethodDescriptor "()I" = some ⟨[], some .int⟩ := by decide +kernel
def Q0 (Z : State) (p1 : Int32) (p2 : Int32) (p3 : Int32) (p4 : Int32) (q5 : Int64) (p6 : Int32)  (h0 : Heap) (n0 : Nat) (v : Option Value) (h : Heap) (L : List Loc) : Prop := v = some (.int 1) ∧ Fr n0 L
set_option maxRecDepth 65536 in
set_option maxHeartbeats 40000000 in
theorem rm0 (l : Launch) (Z : State) (a0 : Array Value) (hw : ∀ d ∈ tables_1, d.before a0 Z = true) (ws : List Jvm.Cond) (p1 : Int32) (p2 : Int32) (p3 : Int32) (p4 : Int32) (q5 : Int64) (p6 : Int32)  (h0 : Heap) (n0 : Nat) (Z0 : n0 ≤ h0.size) :
    MetFree l x (head1 (Jvm.Cond.code x code maxLocals ret :: ws) room_1) (fun a U => a = #[(.int p1), (.int p2), (.int p3), (.int p4), (.long q5), (.int p6)] ∧ Z.Warmed39 U.vm ∧ U.heap = h0) (fun _ _ _ _ _ => True) (fun _ U o U' => ∃ v L, o = .returned v ∧ Q0 Z p1 p2 p3 p4 q5 p6 h0 n0 v U'.heap L ∧ FrameEnd U o U' L room_1.cells room_1.slots) := by
  refine MetFree.of_bodySF pn_0 hisR ?_
  intro p e s m args below meth c s₁ Bd hml0 hP hK
  obtain ⟨rfl, hZ, hh⟩ := hP
  have hx := Bd.exec
  have hby := Bd.bytes
  have hml : c.maxLocals = 20 := hml0
  have hown : s.vm.findClass "com/example/notched_ledger/notchedledger/amqp/TuningNegotiatePinLaw" = some m.cls := findClass_of_methodNamed Bd.named
  have hnm := (name_of_methodNamed Bd.named Bd.method).1
  have X0 : Stand p l e room_1 s m #[(.int p1), (.int p2), (.int p3), (.int p4), (.long q5), (.int p6)] below meth c s₁ [] 0 0 := Stand.of_body Bd
  have e0 : s₁.heap = h0 := by rw [← hh, Bd.state]; rfl
  have N0 := Fr.nil n0
  refine own_start (Q := Q0 Z p1 p2 p3 p4 q5 p6 h0 n0) (own_cast (ef_0 m p1 p2 p3 p4 q5 p6) ?_)
  show Go p.tables e below _ (s₁.setTop (mkF m 0 #[.val (.int p1), .val (.int p2), .val (.int p3), .val (.int p4), .val (.long q5), .second, .val (.int p6), .unset, .unset, .unset, .unset, .unset, .unset, .unset, .unset, .unset, .unset, .unset, .unset, .unset] []))
  refine Go.st (fun U hr => XS.iconst X0.here hx rfl (hb hby at_0) hr) ?_
  show Go p.tables e below _ (s₁.setTop (mkF m 1 #[.val (.int p1), .val (.int p2), .val (.int p3), .val (.int p4), .val (.long q5), .second, .val (.int p6), .unset, .unset, .unset, .unset, .unset, .unset, .unset, .unset, .unset, .unset, .unset, .unset, .unset] [(.int (1 : Int32))]))
  refine Go.st (fun U hr => XS.iloadN X0.here hx rfl (hb hby at_1) rfl hr) ?_
  show Go p.tables e below _ (s₁.setTop (mkF m 2 #[.val (.int p1), .val (.int p2), .val (.int p3), .val (.int p4), .val (.long q5), .second, .val (.int p6), .unset, .unset, .unset, .unset, .unset, .unset, .unset, .unset, .unset, .unset, .unset, .unset, .unset] [(.int p1), (.int (1 : Int32))]))
  refine Go.st (X0.ldcInt hx hown (mvT hZ (hw _ (List.mem_of_getElem? (i := 0) rfl))) (g := (mkF m 2 #[.val (.int p1), .val (.int p2), .val (.int p3), .val (.int p4), .val (.long q5), .second, .val (.int p6), .unset, .unset, .unset, .unset, .unset, .unset, .unset, .unset, .unset, .unset, .unset, .unset, .unset] [(.int p1), (.int (1 : Int32))])) rfl (hb hby at_2)) ?_
  show Go p.tables e below _ (s₁.setTop (mkF m 4 #[.val (.int p1), .val (.int p2), .val (.int p3), .val (.int p4), .val (.long q5), .second, .val (.int p6), .unset, .unset, .unset, .unset, .unset, .unset, .unset, .unset, .unset, .unset, .unset, .unset, .unset] [(.int (2147483647 : Int32)), (.int p1), (.int (1 : Int32))]))
  refine Go.st (fun U hr => XS.iand X0.here hx rfl (hb hby at_4) rfl hr) ?_
  show Go p.tables e below _ (s₁.setTop (mkF m 5 #[.val (.int p1), .val (.int p2), .val (.int p3), .val (.int p4), .val (.long q5), .second, .val (.int p6), .unset, .unset, .unset, .unset, .unset, .unset, .unset, .unset, .unset, .unset, .unset, .unset, .unset] [(.int (p1 &&& (2147483647 : Int32))), (.int (1 : Int32))]))
  refine Go.st (X0.ldcInt hx hown (mvT hZ (hw _ (List.mem_of_getElem? (i := 1) rfl))) (g := (mkF m 5 #[.val (.int p1), .val (.int p2), .val (.int p3), .val (.int p4), .val (.long q5), .second, .val (.int p6), .unset, .unset, .unset, .unset, .unset, .unset, .unset, .unset, .unset, .unset, .unset, .unset, .unset] [(.int (p1 &&& (2147483647 : Int32))), (.int (1 : Int32))])) rfl (hb hby at_5)) ?_
  show Go p.tables e below _ (s₁.setTop (mkF m 7 #[.val (.int p1), .val (.int p2), .val (.int p3), .val (.int p4), .val (.long q5), .second, .val (.int p6), .unset, .unset, .unset, .unset, .unset, .unset, .unset, .unset, .unset, .unset, .unset, .unset, .unset] [(.int (65535 : Int32)), (.int (p1 &&& (2147483647 : Int32))), (.int (1 : Int32))]))
  refine Go.st (fun U hr => XS.irem X0.here hx rfl (hb hby at_7) rfl (by decide) hr) ?_
  show Go p.tables e below _ (s₁.setTop (mkF m 8 #[.val (.int p1), .val (.int p2), .val (.int p3), .val (.int p4), .val (.long q5), .second, .val (.int p6), .unset, .unset, .unset, .unset, .unset, .unset, .unset, .unset, .unset, .unset, .unset, .unset, .unset] [(.int ((p1 &&& (2147483647 : Int32)) - ((p1 &&& (2147483647 : Int32)) / (65535 : Int32)) * (65535 : Int32))), (.int (1 : Int32))]))
  refine Go.st (fun U hr => XS.iadd X0.here hx rfl (hb hby at_8) rfl hr) ?_
  show Go p.tables e below _ (s₁.setTop (mkF m 9 #[.val (.int p1), .val (.int p2), .val (.int p3), .val (.int p4), .val (.long q5), .second, .val (.int p6), .unset, .unset, .unset, .unset, .unset, .unset, .unset, .unset, .unset, .unset, .unset, .unset, .unset] [(.int ((1 : Int32) + ((p1 &&& (2147483647 : Int32)) - ((p1 &&& (2147483647 : Int32)) / (65535 : Int32)) * (65535 : Int32))))]))
  refine Go.st (fun U hr => XS.istore X0.here hx rfl (hb hby at_9) rfl (l' := #[.val (.int p1), .val (.int p2), .val (.int p3), .val (.int p4), .val (.long q5), .second, .val (.int p6), .val (.int ((1 : Int32) + ((p1 &&& (2147483647 : Int32)) - ((p1 &&& (2147483647 : Int32)) / (65535 : Int32)) * (65535 : Int32)))), .unset, .unset, .unset, .unset, .unset, .unset, .unset, .unset, .unset, .unset, .unset, .unset]) rfl hr) ?_
  show Go p.tables e below _ (s₁.setTop (mkF m 11 #[.val (.int p1), .val (.int p2), .val (.int p3), .val (.int p4), .val (.long q5), .second, .val (.int p6), .val (.int ((1 : Int32) + ((p1 &&& (2147483647 : Int32)) - ((p1 &&& (2147483647 : Int32)) / (65535 : Int32)) * (65535 : Int32)))), .unset, .unset, .unset, .unset, .unset, .unset, .unset, .unset, .unset, .unset, .unset, .unset] []))
  generalize h_cm : ((1 : Int32) + ((p1 &&& (2147483647 : Int32)) - ((p1 &&& (2147483647 : Int32)) / (65535 : Int32)) * (65535 : Int32))) = cm
  have hcm : 1 ≤ cm.toInt ∧ cm.toInt ≤ 65535 := by
    have h1 := own_rem (p1 &&& (2147483647 : Int32)) 65535 (own_pos p1) (by decide)
    rw [← h_cm]
    generalize ((p1 &&& (2147483647 : Int32)) - ((p1 &&& (2147483647 : Int32)) / (65535 : Int32)) * (65535 : Int32)) = u at *
    rw [show (65535 : Int32).toInt = 65535 from by decide] at h1
    have h2 := c_iadd 1 u
    rw [show (1 : Int32).toInt = 1 from by decide] at h2
    have := rng32 (1 + u)
    omega
  refine Go.st (fun U hr => XS.sipush X0.here hx rfl (hb hby at_11) hr) ?_
  show Go p.tables e below _ (s₁.setTop (mkF m 14 #[.val (.int p1), .val (.int p2), .val (.int p3), .val (.int p4), .val (.long q5), .second, .val (.int p6), .val (.int cm), .unset, .unset, .unset, .unset, .unset, .unset, .unset, .unset, .unset, .unset, .unset, .unset] [(.int (4096 : Int32))]))
  refine Go.st (fun U hr => XS.iloadN X0.here hx rfl (hb hby at_14) rfl hr) ?_
  show Go p.tables e below _ (s₁.setTop (mkF m 15 #[.val (.int p1), .val (.int p2), .val (.int p3), .val (.int p4), .val (.long q5), .second, .val (.int p6), .val (.int cm), .unset, .unset, .unset, .unset, .unset, .unset, .unset, .unset, .unset, .unset, .unset, .unset] [(.int p2), (.int (4096 : Int32))]))
  refine Go.st (X0.ldcInt hx hown (mvT hZ (hw _ (List.mem_of_getElem? (i := 0) rfl))) (g := (mkF m 15 #[.val (.int p1), .val (.int p2), .val (.int p3), .val (.int p4), .val (.long q5), .second, .val (.int p6), .val (.int cm), .unset, .unset, .unset, .unset, .unset, .unset, .unset, .unset, .unset, .unset, .unset, .unset] [(.int p2), (.int (4096 : Int32))])) rfl (hb hby at_15)) ?_
  show Go p.tables e below _ (s₁.setTop (mkF m 17 #[.val (.int p1), .val (.int p2), .val (.int p3), .val (.int p4), .val (.long q5), .second, .val (.int p6), .val (.int cm), .unset, .unset, .unset, .unset, .unset, .unset, .unset, .unset, .unset, .unset, .unset, .unset] [(.int (2147483647 : Int32)), (.int p2), (.int (4096 : Int32))]))
  refine Go.st (fun U hr => XS.iand X0.here hx rfl (hb hby at_17) rfl hr) ?_
  show Go p.tables e below _ (s₁.setTop (mkF m 18 #[.val (.int p1), .val (.int p2), .val (.int p3), .val (.int p4), .val (.long q5), .second, .val (.int p6), .val (.int cm), .unset, .unset, .unset, .unset, .unset, .unset, .unset, .unset, .unset, .unset, .unset, .unset] [(.int (p2 &&& (2147483647 : Int32))), (.int (4096 : Int32))]))
  refine Go.st (X0.ldcInt hx hown (mvT hZ (hw _ (List.mem_of_getElem? (i := 2) rfl))) (g := (mkF m 18 #[.val (.int p1), .val (.int p2), .val (.int p3), .val (.int p4), .val (.long q5), .second, .val (.int p6), .val (.int cm), .unset, .unset, .unset, .unset, .unset, .unset, .unset, .unset, .unset, .unset, .unset, .unset] [(.int (p2 &&& (2147483647 : Int32))), (.int (4096 : Int32))])) rfl (hb hby at_18)) ?_
  show Go p.tables e below _ (s₁.setTop (mkF m 20 #[.val (.int p1), .val (.int p2), .val (.int p3), .val (.int p4), .val (.long q5), .second, .val (.int p6), .val (.int cm), .unset, .unset, .unset, .unset, .unset, .unset, .unset, .unset, .unset, .unset, .unset, .unset] [(.int (2147479552 : Int32)), (.int (p2 &&& (2147483647 : Int32))), (.int (4096 : Int32))]))
  refine Go.st (fun U hr => XS.irem X0.here hx rfl (hb hby at_20) rfl (by decide) hr) ?_
  show Go p.tables e below _ (s₁.setTop (mkF m 21 #[.val (.int p1), .val (.int p2), .val (.int p3), .val (.int p4), .val (.long q5), .second, .val (.int p6), .val (.int cm), .unset, .unset, .unset, .unset, .unset, .unset, .unset, .unset, .unset, .unset, .unset, .unset] [(.int ((p2 &&& (2147483647 : Int32)) - ((p2 &&& (2147483647 : Int32)) / (2147479552 : Int32)) * (2147479552 : Int32))), (.int (4096 : Int32))]))
  refine Go.st (fun U hr => XS.iadd X0.here hx rfl (hb hby at_21) rfl hr) ?_
  show Go p.tables e below _ (s₁.setTop (mkF m 22 #[.val (.int p1), .val (.int p2), .val (.int p3), .val (.int p4), .val (.long q5), .second, .val (.int p6), .val (.int cm), .unset, .unset, .unset, .unset, .unset, .unset, .unset, .unset, .unset, .unset, .unset, .unset] [(.int ((4096 : Int32) + ((p2 &&& (2147483647 : Int32)) - ((p2 &&& (2147483647 : Int32)) / (2147479552 : Int32)) * (2147479552 : Int32))))]))
  refine Go.st (fun U hr => XS.istore X0.here hx rfl (hb hby at_22) rfl (l' := #[.val (.int p1), .val (.int p2), .val (.int p3), .val (.int p4), .val (.long q5), .second, .val (.int p6), .val (.int cm), .val (.int ((4096 : Int32) + ((p2 &&& (2147483647 : Int32)) - ((p2 &&& (2147483647 : Int32)) / (2147479552 : Int32)) * (2147479552 : Int32)))), .unset, .unset, .unset, .unset, .unset, .unset, .unset, .unset, .unset, .unset, .unset]) rfl hr) ?_
  show Go p.tables e below _ (s₁.setTop (mkF m 24 #[.val (.int p1), .val (.int p2), .val (.int p3), .val (.int p4), .val (.long q5), .second, .val (.int p6), .val (.int cm), .val (.int ((4096 : Int32) + ((p2 &&& (2147483647 : Int32)) - ((p2 &&& (2147483647 : Int32)) / (2147479552 : Int32)) * (2147479552 : Int32)))), .unset, .unset, .unset, .unset, .unset, .unset, .unset, .unset, .unset, .unset, .unset] []))
  generalize h_fm : ((4096 : Int32) + ((p2 &&& (2147483647 : Int32)) - ((p2 &&& (2147483647 : Int32)) / (2147479552 : Int32)) * (2147479552 : Int32))) = fm
  have hfm : 4096 ≤ fm.toInt := by
    have h1 := own_rem (p2 &&& (2147483647 : Int32)) 2147479552 (own_pos p2) (by decide)
    rw [← h_fm]
    generalize ((p2 &&& (2147483647 : Int32)) - ((p2 &&& (2147483647 : Int32)) / (2147479552 : Int32)) * (2147479552 : Int32)) = u at *
    rw [show (2147479552 : Int32).toInt = 2147479552 from by decide] at h1
    have h2 := c_iadd 4096 u
    rw [show (4096 : Int32).toInt = 4096 from by decide] at h2
    have := rng32 (4096 + u)
    omega
  refine Go.st (fun U hr => XS.iloadN X0.here hx rfl (hb hby at_24) rfl hr) ?_
  show Go p.tables e below _ (s₁.setTop (mkF m 25 #[.val (.int p1), .val (.int p2), .val (.int p3), .val (.int p4), .val (.long q5), .second, .val (.int p6), .val (.int cm), .val (.int fm), .unset, .unset, .unset, .unset, .unset, .unset, .unset, .unset, .unset, .unset, .unset] [(.int p3)]))
  refine Go.st (X0.ldcInt hx hown (mvT hZ (hw _ (List.mem_of_getElem? (i := 1) rfl))) (g := (mkF m 25 #[.val (.int p1), .val (.int p2), .val (.int p3), .val (.int p4), .val (.long q5), .second, .val (.int p6), .val (.int cm), .val (.int fm), .unset, .unset, .unset, .unset, .unset, .unset, .unset, .unset, .unset, .unset, .unset] [(.int p3)])) rfl (hb hby at_25)) ?_
  show Go p.tables e below _ (s₁.setTop (mkF m 27 #[.val (.int p1), .val (.int p2), .val (.int p3), .val (.int p4), .val (.long q5), .second, .val (.int p6), .val (.int cm), .val (.int fm), .unset, .unset, .unset, .unset, .unset, .unset, .unset, .unset, .unset, .unset, .unset] [(.int (65535 : Int32)), (.int p3)]))
  refine Go.st (fun U hr => XS.iand X0.here hx rfl (hb hby at_27) rfl hr) ?_
  show Go p.tables e below _ (s₁.setTop (mkF m 28 #[.val (.int p1), .val (.int p2), .val (.int p3), .val (.int p4), .val (.long q5), .second, .val (.int p6), .val (.int cm), .val (.int fm), .unset, .unset, .unset, .unset, .unset, .unset, .unset, .unset, .unset, .unset, .unset] [(.int (p3 &&& (65535 : Int32)))]))
  refine Go.st (fun U hr => XS.istore X0.here hx rfl (hb hby at_28) rfl (l' := #[.val (.int p1), .val (.int p2), .val (.int p3), .val (.int p4), .val (.long q5), .second, .val (.int p6), .val (.int cm), .val (.int fm), .val (.int (p3 &&& (65535 : Int32))), .unset, .unset, .unset, .unset, .unset, .unset, .unset, .unset, .unset, .unset]) rfl hr) ?_
  show Go p.tables e below _ (s₁.setTop (mkF m 30 #[.val (.int p1), .val (.int p2), .val (.int p3), .val (.int p4), .val (.long q5), .second, .val (.int p6), .val (.int cm), .val (.int fm), .val (.int (p3 &&& (65535 : Int32))), .unset, .unset, .unset, .unset, .unset, .unset, .unset, .unset, .unset, .unset] []))
  generalize h_ob : (p3 &&& (65535 : Int32)) = ob
  have hob : 0 ≤ ob.toInt ∧ ob.toInt ≤ 65535 := by
    have := c_mask p3 65535 16 (by decide) (by decide)
    rw [h_ob, show ((2 ^ 16 : Nat) : Int) = 65536 from by decide] at this; omega
  obtain ⟨T1, h1, X1, e1, E1, A1, D1, -, st1⟩ := newO X0 hx hZ hown (hw _ (List.mem_of_getElem? (i := 3) rfl)) (hw _ (List.mem_of_getElem? (i := 4) rfl)) (hw _ (List.mem_of_getElem? (i := 5) rfl)) e0 (g := (mkF m 30 #[.val (.int p1), .val (.int p2), .val (.int p3), .val (.int p4), .val (.long q5), .second, .val (.int p6), .val (.int cm), .val (.int fm), .val (.int ob), .unset, .unset, .unset, .unset, .unset, .unset, .unset, .unset, .unset, .unset] [])) rfl (hb hby at_30) (by decide) (by decide)
  obtain ⟨b1, g1⟩ : ∃ z, z = h0.size := ⟨_, rfl⟩
  rw [← g1] at A1 D1 st1
  refine Go.st st1 ?_
  have gb1 : n0 ≤ b1 := Nat.le_trans Z0 (Nat.le_of_eq g1.symm)
  have z2 := Nat.le_trans Z0 E1.1
  have F1_channelMax : Fld Z h1 b1 "com/example/notched_ledger/notchedledger/amqp/Tuning" "channelMax" "I" (.int (0 : Int32)) := D1 (Or.inr (hw _ (List.mem_of_getElem? (i := 19) rfl))) (ty := .int) (by decide)
  have F1_frameMax : Fld Z h1 b1 "com/example/notched_ledger/notchedledger/amqp/Tuning" "frameMax" "I" (.int (0 : Int32)) := D1 (Or.inr (hw _ (List.mem_of_getElem? (i := 21) rfl))) (ty := .int) (by decide)
  have F1_heartbeatSeconds : Fld Z h1 b1 "com/example/notched_ledger/notchedledger/amqp/Tuning" "heartbeatSeconds" "I" (.int (0 : Int32)) := D1 (Or.inr (hw _ (List.mem_of_getElem? (i := 23) rfl))) (ty := .int) (by decide)
  show Go p.tables e below _ (T1.setTop (mkF m 33 #[.val (.int p1), .val (.int p2), .val (.int p3), .val (.int p4), .val (.long q5), .second, .val (.int p6), .val (.int cm), .val (.int fm), .val (.int ob), .unset, .unset, .unset, .unset, .unset, .unset, .unset, .unset, .unset, .unset] [(.ref b1)]))
  refine Go.st (fun U hr => XS.dup X1.here hx rfl (hb hby at_33) rfl rfl hr) ?_
  show Go p.tables e below _ (T1.setTop (mkF m 34 #[.val (.int p1), .val (.int p2), .val (.int p3), .val (.int p4), .val (.long q5), .second, .val (.int p6), .val (.int cm), .val (.int fm), .val (.int ob), .unset, .unset, .unset, .unset, .unset, .unset, .unset, .unset, .unset, .unset] [(.ref b1), (.ref b1)]))
  refine Go.st (fun U hr => XS.iload X1.here hx rfl (hb hby at_34) rfl hr) ?_
  show Go p.tables e below _ (T1.setTop (mkF m 36 #[.val (.int p1), .val (.int p2), .val (.int p3), .val (.int p4), .val (.long q5), .second, .val (.int p6), .val (.int cm), .val (.int fm), .val (.int ob), .unset, .unset, .unset, .unset, .unset, .unset, .unset, .unset, .unset, .unset] [(.int cm), (.ref b1), (.ref b1)]))
  refine Go.st (fun U hr => XS.iload X1.here hx rfl (hb hby at_36) rfl hr) ?_
  show Go p.tables e below _ (T1.setTop (mkF m 38 #[.val (.int p1), .val (.int p2), .val (.int p3), .val (.int p4), .val (.long q5), .second, .val (.int p6), .val (.int cm), .val (.int fm), .val (.int ob), .unset, .unset, .unset, .unset, .unset, .unset, .unset, .unset, .unset, .unset] [(.int fm), (.int cm), (.ref b1), (.ref b1)]))
  refine Go.st (fun U hr => XS.iload X1.here hx rfl (hb hby at_38) rfl hr) ?_
  show Go p.tables e below _ (T1.setTop (mkF m 40 #[.val (.int p1), .val (.int p2), .val (.int p3), .val (.int p4), .val (.long q5), .second, .val (.int p6), .val (.int cm), .val (.int fm), .val (.int ob), .unset, .unset, .unset, .unset, .unset, .unset, .unset, .unset, .unset, .unset] [(.int ob), (.int fm), (.int cm), (.ref b1), (.ref b1)]))
  obtain ⟨_, _, ⟨T3, L3, k3, n3⟩, -, X3, ⟨Lc3, hQ3, l3, y3, z3⟩, st3⟩ := X1.specialBack hx (y := (⟨"com/example/notched_ledger/notchedledger/amqp/Tuning", "<init>", "(III)V"⟩ : MethodName)) rfl hown (mvT hZ (hw _ (List.mem_of_getElem? (i := 6) rfl))) (mvT hZ (hw _ (List.mem_of_getElem? (i := 7) rfl))) (mvT hZ (hw _ (List.mem_of_getElem? (i := 8) rfl))) (by decide) (backOf (W := 1) (rm1 l Z a0 hw [] b1 cm fm ob h1 n0 z2 A1 F1_channelMax F1_frameMax F1_heartbeatSeconds gb1 (by rw [own_lt32]; (first | rw [show (1 : Int32).toInt = 1 from by decide] | rw [show (65535 : Int32).toInt = 65535 from by decide] | rw [show (4096 : Int32).toInt = 4096 from by decide] | rw [show (0 : Int32).toInt = 0 from by decide]); omega) (by rw [own_lt32]; (first | rw [show (1 : Int32).toInt = 1 from by decide] | rw [show (65535 : Int32).toInt = 65535 from by decide] | rw [show (4096 : Int32).toInt = 4096 from by decide] | rw [show (0 : Int32).toInt = 0 from by decide]); omega) (by rw [own_lt32]; (first | rw [show (1 : Int32).toInt = 1 from by decide] | rw [show (65535 : Int32).toInt = 65535 from by decide] | rw [show (4096 : Int32).toInt = 4096 from by decide] | rw [show (0 : Int32).toInt = 0 from by decide]); omega) (by rw [own_lt32]; (first | rw [show (1 : Int32).toInt = 1 from by decide] | rw [show (65535 : Int32).toInt = 65535 from by decide] | rw [show (4096 : Int32).toInt = 4096 from by decide] | rw [show (0 : Int32).toInt = 0 from by decide]); omega) (by rw [own_lt32]; (first | rw [show (1 : Int32).toInt = 1 from by decide] | rw [show (65535 : Int32).toInt = 65535 from by decide] | rw [show (4096 : Int32).toInt = 4096 from by decide] | rw [show (0 : Int32).toInt = 0 from by decide]); omega)) hZ (hw _ (List.mem_of_getElem? (i := 8) rfl)) (hw _ (List.mem_of_getElem? (i := 5) rfl)) (by decide) (by decide)) (g := (mkF m 40 #[.val (.int p1), .val (.int p2), .val (.int p3), .val (.int p4), .val (.long q5), .second, .val (.int p6), .val (.int cm), .val (.int fm), .val (.int ob), .unset, .unset, .unset, .unset, .unset, .unset, .unset, .unset, .unset, .unset] [(.int ob), (.int fm), (.int cm), (.ref b1), (.ref b1)])) rfl (by rw [hml]; rfl) (Steps.refl _) (a := b1) (argsL := [(.int cm), (.int fm), (.int ob)]) (rest := [(.ref b1)]) (lenOf pd_1 rfl) rfl (by show 2 * 0 + _ ≤ _; exact Nat.le_of_eq rfl) (hb hby at_40) (fun _ _ => ⟨rfl, e1, (by decide : 1 + 0 ≤ _), (by decide : 3 + 0 ≤ _)⟩)
  dsimp only [Pt.U, Pt.locs, Pt.cells, Pt.slots] at X3 l3 y3 z3 st3 hQ3
  subst l3 y3 z3
  obtain ⟨rfl, Nq3, Kq3, Eq3, Fq0_3, Fq1_3, Fq2_3⟩ := hQ3
  have N3 := Fr.app N0 Nq3
  refine Go.tr st3 ?_
  show Go p.tables e below _ (T3.setTop (mkF m 43 #[.val (.int p1), .val (.int p2), .val (.int p3), .val (.int p4), .val (.long q5), .second, .val (.int p6), .val (.int cm), .val (.int fm), .val (.int ob), .unset, .unset, .unset, .unset, .unset, .unset, .unset, .unset, .unset, .unset] [(.ref b1)]))
  have z4 := Nat.le_trans z2 Kq3.1
  refine Go.st (fun U hr => XS.astore X3.here hx rfl (hb hby at_43) rfl rfl (l' := #[.val (.int p1), .val (.int p2), .val (.int p3), .val (.int p4), .val (.long q5), .second, .val (.int p6), .val (.int cm), .val (.int fm), .val (.int ob), .val (.ref b1), .unset, .unset, .unset, .unset, .unset, .unset, .unset, .unset, .unset]) rfl hr) ?_
  show Go p.tables e below _ (T3.setTop (mkF m 45 #[.val (.int p1), .val (.int p2), .val (.int p3), .val (.int p4), .val (.long q5), .second, .val (.int p6), .val (.int cm), .val (.int fm), .val (.int ob), .val (.ref b1), .unset, .unset, .unset, .unset, .unset, .unset, .unset, .unset, .unset] []))
  refine Go.st (fun U hr => XS.iloadN X3.here hx rfl (hb hby at_45) rfl hr) ?_
  show Go p.tables e below _ (T3.setTop (mkF m 46 #[.val (.int p1), .val (.int p2), .val (.int p3), .val (.int p4), .val (.long q5), .second, .val (.int p6), .val (.int cm), .val (.int fm), .val (.int ob), .val (.ref b1), .unset, .unset, .unset, .unset, .unset, .unset, .unset, .unset, .unset] [(.int p4)]))
  refine Go.st (X3.ldcInt hx hown (mvT hZ (hw _ (List.mem_of_getElem? (i := 0) rfl))) (g := (mkF m 46 #[.val (.int p1), .val (.int p2), .val (.int p3), .val (.int p4), .val (.long q5), .second, .val (.int p6), .val (.int cm), .val (.int fm), .val (.int ob), .val (.ref b1), .unset, .unset, .unset, .unset, .unset, .unset, .unset, .unset, .unset] [(.int p4)])) rfl (hb hby at_46)) ?_
  show Go p.tables e below _ (T3.setTop (mkF m 48 #[.val (.int p1), .val (.int p2), .val (.int p3), .val (.int p4), .val (.long q5), .second, .val (.int p6), .val (.int cm), .val (.int fm), .val (.int ob), .val (.ref b1), .unset, .unset, .unset, .unset, .unset, .unset, .unset, .unset, .unset] [(.int (2147483647 : Int32)), (.int p4)]))
  refine Go.st (fun U hr => XS.iand X3.here hx rfl (hb hby at_48) rfl hr) ?_
  show Go p.tables e below _ (T3.setTop (mkF m 49 #[.val (.int p1), .val (.int p2), .val (.int p3), .val (.int p4), .val (.long q5), .second, .val (.int p6), .val (.int cm), .val (.int fm), .val (.int ob), .val (.ref b1), .unset, .unset, .unset, .unset, .unset, .unset, .unset, .unset, .unset] [(.int (p4 &&& (2147483647 : Int32)))]))
  refine Go.st (fun U hr => XS.iload X3.here hx rfl (hb hby at_49) rfl hr) ?_
  show Go p.tables e below _ (T3.setTop (mkF m 51 #[.val (.int p1), .val (.int p2), .val (.int p3), .val (.int p4), .val (.long q5), .second, .val (.int p6), .val (.int cm), .val (.int fm), .val (.int ob), .val (.ref b1), .unset, .unset, .unset, .unset, .unset, .unset, .unset, .unset, .unset] [(.int cm), (.int (p4 &&& (2147483647 : Int32)))]))
  refine Go.st (fun U hr => XS.iconst X3.here hx rfl (hb hby at_51) hr) ?_
  show Go p.tables e below _ (T3.setTop (mkF m 52 #[.val (.int p1), .val (.int p2), .val (.int p3), .val (.int p4), .val (.long q5), .second, .val (.int p6), .val (.int cm), .val (.int fm), .val (.int ob), .val (.ref b1), .unset, .unset, .unset, .unset, .unset, .unset, .unset, .unset, .unset] [(.int (1 : Int32)), (.int cm), (.int (p4 &&& (2147483647 : Int32)))]))
  refine Go.st (fun U hr => XS.iadd X3.here hx rfl (hb hby at_52) rfl hr) ?_
  show Go p.tables e below _ (T3.setTop (mkF m 53 #[.val (.int p1), .val (.int p2), .val (.int p3), .val (.int p4), .val (.long q5), .second, .val (.int p6), .val (.int cm), .val (.int fm), .val (.int ob), .val (.ref b1), .unset, .unset, .unset, .unset, .unset, .unset, .unset, .unset, .unset] [(.int (cm + (1 : Int32))), (.int (p4 &&& (2147483647 : Int32)))]))
  refine Go.st (fun U hr => XS.irem X3.here hx rfl (hb hby at_53) rfl (fun q => by
    have h2 := c_iadd cm 1
    rw [show (1 : Int32).toInt = 1 from by decide] at h2
    have := rng32 (cm + 1)
    rw [q, show (0 : Int32).toInt = 0 from by decide] at h2 this
    omega) hr) ?_
  show Go p.tables e below _ (T3.setTop (mkF m 54 #[.val (.int p1), .val (.int p2), .val (.int p3), .val (.int p4), .val (.long q5), .second, .val (.int p6), .val (.int cm), .val (.int fm), .val (.int ob), .val (.ref b1), .unset, .unset, .unset, .unset, .unset, .unset, .unset, .unset, .unset] [(.int ((p4 &&& (2147483647 : Int32)) - ((p4 &&& (2147483647 : Int32)) / (cm + (1 : Int32))) * (cm + (1 : Int32))))]))
  refine Go.st (fun U hr => XS.istore X3.here hx rfl (hb hby at_54) rfl (l' := #[.val (.int p1), .val (.int p2), .val (.int p3), .val (.int p4), .val (.long q5), .second, .val (.int p6), .val (.int cm), .val (.int fm), .val (.int ob), .val (.ref b1), .val (.int ((p4 &&& (2147483647 : Int32)) - ((p4 &&& (2147483647 : Int32)) / (cm + (1 : Int32))) * (cm + (1 : Int32)))), .unset, .unset, .unset, .unset, .unset, .unset, .unset, .unset]) rfl hr) ?_
  show Go p.tables e below _ (T3.setTop (mkF m 56 #[.val (.int p1), .val (.int p2), .val (.int p3), .val (.int p4), .val (.long q5), .second, .val (.int p6), .val (.int cm), .val (.int fm), .val (.int ob), .val (.ref b1), .val (.int ((p4 &&& (2147483647 : Int32)) - ((p4 &&& (2147483647 : Int32)) / (cm + (1 : Int32))) * (cm + (1 : Int32)))), .unset, .unset, .unset, .unset, .unset, .unset, .unset, .unset] []))
  generalize h_cc : ((p4 &&& (2147483647 : Int32)) - ((p4 &&& (2147483647 : Int32)) / (cm + (1 : Int32))) * (cm + (1 : Int32))) = cc
  have hcc : 0 ≤ cc.toInt ∧ cc.toInt ≤ cm.toInt := by
    have h2 := c_iadd cm 1
    rw [show (1 : Int32).toInt = 1 from by decide] at h2
    have := rng32 (cm + 1)
    have h1 := own_rem (p4 &&& (2147483647 : Int32)) (cm + 1) (own_pos p4) (by omega)
    rw [h_cc] at h1
    omega
  refine Go.st (fun U hr => XS.iload X3.here hx rfl (hb hby at_56) rfl hr) ?_
  show Go p.tables e below _ (T3.setTop (mkF m 58 #[.val (.int p1), .val (.int p2), .val (.int p3), .val (.int p4), .val (.long q5), .second, .val (.int p6), .val (.int cm), .val (.int fm), .val (.int ob), .val (.ref b1), .val (.int cc), .unset, .unset, .unset, .unset, .unset, .unset, .unset, .unset] [(.int p6)]))
  refine Go.st (fun U hr => XS.bipush X3.here hx rfl (hb hby at_58) hr) ?_
  show Go p.tables e below _ (T3.setTop (mkF m 60 #[.val (.int p1), .val (.int p2), .val (.int p3), .val (.int p4), .val (.long q5), .second, .val (.int p6), .val (.int cm), .val (.int fm), .val (.int ob), .val (.ref b1), .val (.int cc), .unset, .unset, .unset, .unset, .unset, .unset, .unset, .unset] [(.int (16 : Int32)), (.int p6)]))
  refine Go.st (fun U hr => XS.iushr X3.here hx rfl (hb hby at_60) rfl hr) ?_
  show Go p.tables e below _ (T3.setTop (mkF m 61 #[.val (.int p1), .val (.int p2), .val (.int p3), .val (.int p4), .val (.long q5), .second, .val (.int p6), .val (.int cm), .val (.int fm), .val (.int ob), .val (.ref b1), .val (.int cc), .unset, .unset, .unset, .unset, .unset, .unset, .unset, .unset] [(.int ((p6.toUInt32 >>> ((16 : Int32) &&& 31).toUInt32).toInt32))]))
  refine Go.st (fun U hr => XS.iconst X3.here hx rfl (hb hby at_61) hr) ?_
  show Go p.tables e below _ (T3.setTop (mkF m 62 #[.val (.int p1), .val (.int p2), .val (.int p3), .val (.int p4), .val (.long q5), .second, .val (.int p6), .val (.int cm), .val (.int fm), .val (.int ob), .val (.ref b1), .val (.int cc), .unset, .unset, .unset, .unset, .unset, .unset, .unset, .unset] [(.int (1 : Int32)), (.int ((p6.toUInt32 >>> ((16 : Int32) &&& 31).toUInt32).toInt32))]))
  refine Go.st (fun U hr => XS.iand X3.here hx rfl (hb hby at_62) rfl hr) ?_
  show Go p.tables e below _ (T3.setTop (mkF m 63 #[.val (.int p1), .val (.int p2), .val (.int p3), .val (.int p4), .val (.long q5), .second, .val (.int p6), .val (.int cm), .val (.int fm), .val (.int ob), .val (.ref b1), .val (.int cc), .unset, .unset, .unset, .unset, .unset, .unset, .unset, .unset] [(.int (((p6.toUInt32 >>> ((16 : Int32) &&& 31).toUInt32).toInt32) &&& (1 : Int32)))]))
  suffices hj63_5 : Go p.tables e below (own_Fin s below room_1.cells room_1.slots (Q0 Z p1 p2 p3 p4 q5 p6 h0 n0)) (T3.setTop (mkF m 71 #[.val (.int p1), .val (.int p2), .val (.int p3), .val (.int p4), .val (.long q5), .second, .val (.int p6), .val (.int cm), .val (.int fm), .val (.int ob), .val (.ref b1), .val (.int cc), .unset, .unset, .unset, .unset, .unset, .unset, .unset, .unset] [(.int (if (((p6.toUInt32 >>> ((16 : Int32) &&& 31).toUInt32).toInt32) &&& (1 : Int32)) = (0 : Int32) then (1 : Int32) else (0 : Int32)))])) by
    by_cases hc63_5 : (((p6.toUInt32 >>> ((16 : Int32) &&& 31).toUInt32).toInt32) &&& (1 : Int32)) = (0 : Int32)
    · refine Go.st (fun U hr => XS.ifNo X3.here hx rfl (hb hby at_63) rfl ((if0 _ _).trans (teq hc63_5).2) hr) ?_
      show Go p.tables e below _ (T3.setTop (mkF m 66 #[.val (.int p1), .val (.int p2), .val (.int p3), .val (.int p4), .val (.long q5), .second, .val (.int p6), .val (.int cm), .val (.int fm), .val (.int ob), .val (.ref b1), .val (.int cc), .unset, .unset, .unset, .unset, .unset, .unset, .unset, .unset] []))
      refine Go.st (fun U hr => XS.iconst X3.here hx rfl (hb hby at_66) hr) ?_
      show Go p.tables e below _ (T3.setTop (mkF m 67 #[.val (.int p1), .val (.int p2), .val (.int p3), .val (.int p4), .val (.long q5), .second, .val (.int p6), .val (.int cm), .val (.int fm), .val (.int ob), .val (.ref b1), .val (.int cc), .unset, .unset, .unset, .unset, .unset, .unset, .unset, .unset] [(.int (1 : Int32))]))
      refine Go.st (fun U hr => XS.goto X3.here hx rfl (pc0 := 67) (pc' := 71) rfl (hb hby at_67) (by decide) (by decide) hr) ?_
      show Go p.tables e below _ (T3.setTop (mkF m 71 #[.val (.int p1), .val (.int p2), .val (.int p3), .val (.int p4), .val (.long q5), .second, .val (.int p6), .val (.int cm), .val (.int fm), .val (.int ob), .val (.ref b1), .val (.int cc), .unset, .unset, .unset, .unset, .unset, .unset, .unset, .unset] [(.int (1 : Int32))]))
      simpa only [if_pos hc63_5] using hj63_5
    · refine Go.st (fun U hr => XS.ifYes X3.here hx rfl (pc0 := 63) (pc' := 70) rfl (hb hby at_63) rfl ((if0 _ _).trans (feq hc63_5).2) (by decide) (by decide) hr) ?_
      show Go p.tables e below _ (T3.setTop (mkF m 70 #[.val (.int p1), .val (.int p2), .val (.int p3), .val (.int p4), .val (.long q5), .second, .val (.int p6), .val (.int cm), .val (.int fm), .val (.int ob), .val (.ref b1), .val (.int cc), .unset, .unset, .unset, .unset, .unset, .unset, .unset, .unset] []))
      refine Go.st (fun U hr => XS.iconst X3.here hx rfl (hb hby at_70) hr) ?_
      show Go p.tables e below _ (T3.setTop (mkF m 71 #[.val (.int p1), .val (.int p2), .val (.int p3), .val (.int p4), .val (.long q5), .second, .val (.int p6), .val (.int cm), .val (.int fm), .val (.int ob), .val (.ref b1), .val (.int cc), .unset, .unset, .unset, .unset, .unset, .unset, .unset, .unset] [(.int (0 : Int32))]))
      simpa only [if_neg hc63_5] using hj63_5
  generalize h_zf : (if (((p6.toUInt32 >>> ((16 : Int32) &&& 31).toUInt32).toInt32) &&& (1 : Int32)) = (0 : Int32) then (1 : Int32) else (0 : Int32)) = zf
  refine Go.st (fun U hr => XS.istore X3.here hx rfl (hb hby at_71) rfl (l' := #[.val (.int p1), .val (.int p2), .val (.int p3), .val (.int p4), .val (.long q5), .second, .val (.int p6), .val (.int cm), .val (.int fm), .val (.int ob), .val (.ref b1), .val (.int cc), .val (.int zf), .unset, .unset, .unset, .unset, .unset, .unset, .unset]) rfl hr) ?_
  show Go p.tables e below _ (T3.setTop (mkF m 73 #[.val (.int p1), .val (.int p2), .val (.int p3), .val (.int p4), .val (.long q5), .second, .val (.int p6), .val (.int cm), .val (.int fm), .val (.int ob), .val (.ref b1), .val (.int cc), .val (.int zf), .unset, .unset, .unset, .unset, .unset, .unset, .unset] []))
  refine Go.st (fun U hr => XS.iload X3.here hx rfl (hb hby at_73) rfl hr) ?_
  show Go p.tables e below _ (T3.setTop (mkF m 75 #[.val (.int p1), .val (.int p2), .val (.int p3), .val (.int p4), .val (.long q5), .second, .val (.int p6), .val (.int cm), .val (.int fm), .val (.int ob), .val (.ref b1), .val (.int cc), .val (.int zf), .unset, .unset, .unset, .unset, .unset, .unset, .unset] [(.int zf)]))
  suffices hj75_6 : Go p.tables e below (own_Fin s below room_1.cells room_1.slots (Q0 Z p1 p2 p3 p4 q5 p6 h0 n0)) (T3.setTop (mkF m 104 #[.val (.int p1), .val (.int p2), .val (.int p3), .val (.int p4), .val (.long q5), .second, .val (.int p6), .val (.int cm), .val (.int fm), .val (.int ob), .val (.ref b1), .val (.int cc), .val (.int zf), .val (.long (if zf = (0 : Int32) then ((4096 : Int64) + ((q5 &&& (9223372036854775807 : Int64)) - ((q5 &&& (9223372036854775807 : Int64)) / ((fm.toInt64) - (4095 : Int64))) * ((fm.toInt64) - (4095 : Int64)))) else (0 : Int64))), .second, .unset, .unset, .unset, .unset, .unset] [])) by
    by_cases hc75_6 : zf = (0 : Int32)
    · refine Go.st (fun U hr => XS.ifYes X3.here hx rfl (pc0 := 75) (pc' := 84) rfl (hb hby at_75) rfl ((if0 _ _).trans (teq hc75_6).1) (by decide) (by decide) hr) ?_
      show Go p.tables e below _ (T3.setTop (mkF m 84 #[.val (.int p1), .val (.int p2), .val (.int p3), .val (.int p4), .val (.long q5), .second, .val (.int p6), .val (.int cm), .val (.int fm), .val (.int ob), .val (.ref b1), .val (.int cc), .val (.int zf), .unset, .unset, .unset, .unset, .unset, .unset, .unset] []))
      refine Go.st (X3.ldc2Long hx hown (mvT hZ (hw _ (List.mem_of_getElem? (i := 46) rfl))) (g := (mkF m 84 #[.val (.int p1), .val (.int p2), .val (.int p3), .val (.int p4), .val (.long q5), .second, .val (.int p6), .val (.int cm), .val (.int fm), .val (.int ob), .val (.ref b1), .val (.int cc), .val (.int zf), .unset, .unset, .unset, .unset, .unset, .unset, .unset] [])) rfl (hb hby at_84)) ?_
      show Go p.tables e below _ (T3.setTop (mkF m 87 #[.val (.int p1), .val (.int p2), .val (.int p3), .val (.int p4), .val (.long q5), .second, .val (.int p6), .val (.int cm), .val (.int fm), .val (.int ob), .val (.ref b1), .val (.int cc), .val (.int zf), .unset, .unset, .unset, .unset, .unset, .unset, .unset] [(.long (4096 : Int64))]))
      refine Go.st (fun U hr => XS.lload X3.here hx rfl (hb hby at_87) rfl hr) ?_
      show Go p.tables e below _ (T3.setTop (mkF m 89 #[.val (.int p1), .val (.int p2), .val (.int p3), .val (.int p4), .val (.long q5), .second, .val (.int p6), .val (.int cm), .val (.int fm), .val (.int ob), .val (.ref b1), .val (.int cc), .val (.int zf), .unset, .unset, .unset, .unset, .unset, .unset, .unset] [(.long q5), (.long (4096 : Int64))]))
      refine Go.st (X3.ldc2Long hx hown (mvT hZ (hw _ (List.mem_of_getElem? (i := 47) rfl))) (g := (mkF m 89 #[.val (.int p1), .val (.int p2), .val (.int p3), .val (.int p4), .val (.long q5), .second, .val (.int p6), .val (.int cm), .val (.int fm), .val (.int ob), .val (.ref b1), .val (.int cc), .val (.int zf), .unset, .unset, .unset, .unset, .unset, .unset, .unset] [(.long q5), (.long (4096 : Int64))])) rfl (hb hby at_89)) ?_
      show Go p.tables e below _ (T3.setTop (mkF m 92 #[.val (.int p1), .val (.int p2), .val (.int p3), .val (.int p4), .val (.long q5), .second, .val (.int p6), .val (.int cm), .val (.int fm), .val (.int ob), .val (.ref b1), .val (.int cc), .val (.int zf), .unset, .unset, .unset, .unset, .unset, .unset, .unset] [(.long (9223372036854775807 : Int64)), (.long q5), (.long (4096 : Int64))]))
      refine Go.st (fun U hr => XS.land X3.here hx rfl (hb hby at_92) rfl hr) ?_
      show Go p.tables e below _ (T3.setTop (mkF m 93 #[.val (.int p1), .val (.int p2), .val (.int p3), .val (.int p4), .val (.long q5), .second, .val (.int p6), .val (.int cm), .val (.int fm), .val (.int ob), .val (.ref b1), .val (.int cc), .val (.int zf), .unset, .unset, .unset, .unset, .unset, .unset, .unset] [(.long (q5 &&& (9223372036854775807 : Int64))), (.long (4096 : Int64))]))
      refine Go.st (fun U hr => XS.iload X3.here hx rfl (hb hby at_93) rfl hr) ?_
      show Go p.tables e below _ (T3.setTop (mkF m 95 #[.val (.int p1), .val (.int p2), .val (.int p3), .val (.int p4), .val (.long q5), .second, .val (.int p6), .val (.int cm), .val (.int fm), .val (.int ob), .val (.ref b1), .val (.int cc), .val (.int zf), .unset, .unset, .unset, .unset, .unset, .unset, .unset] [(.int fm), (.long (q5 &&& (9223372036854775807 : Int64))), (.long (4096 : Int64))]))
      refine Go.st (fun U hr => XS.i2l X3.here hx rfl (hb hby at_95) rfl hr) ?_
      show Go p.tables e below _ (T3.setTop (mkF m 96 #[.val (.int p1), .val (.int p2), .val (.int p3), .val (.int p4), .val (.long q5), .second, .val (.int p6), .val (.int cm), .val (.int fm), .val (.int ob), .val (.ref b1), .val (.int cc), .val (.int zf), .unset, .unset, .unset, .unset, .unset, .unset, .unset] [(.long (fm.toInt64)), (.long (q5 &&& (9223372036854775807 : Int64))), (.long (4096 : Int64))]))
      refine Go.st (X3.ldc2Long hx hown (mvT hZ (hw _ (List.mem_of_getElem? (i := 48) rfl))) (g := (mkF m 96 #[.val (.int p1), .val (.int p2), .val (.int p3), .val (.int p4), .val (.long q5), .second, .val (.int p6), .val (.int cm), .val (.int fm), .val (.int ob), .val (.ref b1), .val (.int cc), .val (.int zf), .unset, .unset, .unset, .unset, .unset, .unset, .unset] [(.long (fm.toInt64)), (.long (q5 &&& (9223372036854775807 : Int64))), (.long (4096 : Int64))])) rfl (hb hby at_96)) ?_
      show Go p.tables e below _ (T3.setTop (mkF m 99 #[.val (.int p1), .val (.int p2), .val (.int p3), .val (.int p4), .val (.long q5), .second, .val (.int p6), .val (.int cm), .val (.int fm), .val (.int ob), .val (.ref b1), .val (.int cc), .val (.int zf), .unset, .unset, .unset, .unset, .unset, .unset, .unset] [(.long (4095 : Int64)), (.long (fm.toInt64)), (.long (q5 &&& (9223372036854775807 : Int64))), (.long (4096 : Int64))]))
      refine Go.st (fun U hr => XS.lsub X3.here hx rfl (hb hby at_99) rfl hr) ?_
      show Go p.tables e below _ (T3.setTop (mkF m 100 #[.val (.int p1), .val (.int p2), .val (.int p3), .val (.int p4), .val (.long q5), .second, .val (.int p6), .val (.int cm), .val (.int fm), .val (.int ob), .val (.ref b1), .val (.int cc), .val (.int zf), .unset, .unset, .unset, .unset, .unset, .unset, .unset] [(.long ((fm.toInt64) - (4095 : Int64))), (.long (q5 &&& (9223372036854775807 : Int64))), (.long (4096 : Int64))]))
      refine Go.st (fun U hr => XS.lrem X3.here hx rfl (hb hby at_100) rfl (fun q => by
        have h1 := c_lsub fm.toInt64 4095
        have r0 := rng32 fm
        rw [show (4095 : Int64).toInt = 4095 from by decide, c_i2l, q, show (0 : Int64).toInt = 0 from by decide] at h1
        omega) hr) ?_
      show Go p.tables e below _ (T3.setTop (mkF m 101 #[.val (.int p1), .val (.int p2), .val (.int p3), .val (.int p4), .val (.long q5), .second, .val (.int p6), .val (.int cm), .val (.int fm), .val (.int ob), .val (.ref b1), .val (.int cc), .val (.int zf), .unset, .unset, .unset, .unset, .unset, .unset, .unset] [(.long ((q5 &&& (9223372036854775807 : Int64)) - ((q5 &&& (9223372036854775807 : Int64)) / ((fm.toInt64) - (4095 : Int64))) * ((fm.toInt64) - (4095 : Int64)))), (.long (4096 : Int64))]))
      refine Go.st (fun U hr => XS.ladd X3.here hx rfl (hb hby at_101) rfl hr) ?_
      show Go p.tables e below _ (T3.setTop (mkF m 102 #[.val (.int p1), .val (.int p2), .val (.int p3), .val (.int p4), .val (.long q5), .second, .val (.int p6), .val (.int cm), .val (.int fm), .val (.int ob), .val (.ref b1), .val (.int cc), .val (.int zf), .unset, .unset, .unset, .unset, .unset, .unset, .unset] [(.long ((4096 : Int64) + ((q5 &&& (9223372036854775807 : Int64)) - ((q5 &&& (9223372036854775807 : Int64)) / ((fm.toInt64) - (4095 : Int64))) * ((fm.toInt64) - (4095 : Int64)))))]))
      refine Go.st (fun U hr => XS.lstore X3.here hx rfl (hb hby at_102) rfl (l' := #[.val (.int p1), .val (.int p2), .val (.int p3), .val (.int p4), .val (.long q5), .second, .val (.int p6), .val (.int cm), .val (.int fm), .val (.int ob), .val (.ref b1), .val (.int cc), .val (.int zf), .val (.long ((4096 : Int64) + ((q5 &&& (9223372036854775807 : Int64)) - ((q5 &&& (9223372036854775807 : Int64)) / ((fm.toInt64) - (4095 : Int64))) * ((fm.toInt64) - (4095 : Int64))))), .second, .unset, .unset, .unset, .unset, .unset]) rfl hr) ?_
      show Go p.tables e below _ (T3.setTop (mkF m 104 #[.val (.int p1), .val (.int p2), .val (.int p3), .val (.int p4), .val (.long q5), .second, .val (.int p6), .val (.int cm), .val (.int fm), .val (.int ob), .val (.ref b1), .val (.int cc), .val (.int zf), .val (.long ((4096 : Int64) + ((q5 &&& (9223372036854775807 : Int64)) - ((q5 &&& (9223372036854775807 : Int64)) / ((fm.toInt64) - (4095 : Int64))) * ((fm.toInt64) - (4095 : Int64))))), .second, .unset, .unset, .unset, .unset, .unset] []))
      simpa only [if_pos hc75_6] using hj75_6
    · refine Go.st (fun U hr => XS.ifNo X3.here hx rfl (hb hby at_75) rfl ((if0 _ _).trans (feq hc75_6).1) hr) ?_
      show Go p.tables e below _ (T3.setTop (mkF m 78 #[.val (.int p1), .val (.int p2), .val (.int p3), .val (.int p4), .val (.long q5), .second, .val (.int p6), .val (.int cm), .val (.int fm), .val (.int ob), .val (.ref b1), .val (.int cc), .val (.int zf), .unset, .unset, .unset, .unset, .unset, .unset, .unset] []))
      refine Go.st (fun U hr => XS.lconst X3.here hx rfl (hb hby at_78) hr) ?_
      show Go p.tables e below _ (T3.setTop (mkF m 79 #[.val (.int p1), .val (.int p2), .val (.int p3), .val (.int p4), .val (.long q5), .second, .val (.int p6), .val (.int cm), .val (.int fm), .val (.int ob), .val (.ref b1), .val (.int cc), .val (.int zf), .unset, .unset, .unset, .unset, .unset, .unset, .unset] [(.long (0 : Int64))]))
      refine Go.st (fun U hr => XS.lstore X3.here hx rfl (hb hby at_79) rfl (l' := #[.val (.int p1), .val (.int p2), .val (.int p3), .val (.int p4), .val (.long q5), .second, .val (.int p6), .val (.int cm), .val (.int fm), .val (.int ob), .val (.ref b1), .val (.int cc), .val (.int zf), .val (.long (0 : Int64)), .second, .unset, .unset, .unset, .unset, .unset]) rfl hr) ?_
      show Go p.tables e below _ (T3.setTop (mkF m 81 #[.val (.int p1), .val (.int p2), .val (.int p3), .val (.int p4), .val (.long q5), .second, .val (.int p6), .val (.int cm), .val (.int fm), .val (.int ob), .val (.ref b1), .val (.int cc), .val (.int zf), .val (.long (0 : Int64)), .second, .unset, .unset, .unset, .unset, .unset] []))
      refine Go.st (fun U hr => XS.goto X3.here hx rfl (pc0 := 81) (pc' := 104) rfl (hb hby at_81) (by decide) (by decide) hr) ?_
      show Go p.tables e below _ (T3.setTop (mkF m 104 #[.val (.int p1), .val (.int p2), .val (.int p3), .val (.int p4), .val (.long q5), .second, .val (.int p6), .val (.int cm), .val (.int fm), .val (.int ob), .val (.ref b1), .val (.int cc), .val (.int zf), .val (.long (0 : Int64)), .second, .unset, .unset, .unset, .unset, .unset] []))
      simpa only [if_neg hc75_6] using hj75_6
  generalize h_cf : (if zf = (0 : Int32) then ((4096 : Int64) + ((q5 &&& (9223372036854775807 : Int64)) - ((q5 &&& (9223372036854775807 : Int64)) / ((fm.toInt64) - (4095 : Int64))) * ((fm.toInt64) - (4095 : Int64)))) else (0 : Int64)) = cf
  have hcf : cf = 0 ∨ (4096 ≤ cf.toInt ∧ cf.toInt ≤ fm.toInt) := by
    rw [← h_cf]
    split
    · right
      have h0 := c_maskL q5 9223372036854775807 63 (by decide) (by decide)
      rw [show ((2 ^ 63 : Nat) : Int) = 9223372036854775808 from by decide] at h0
      have h1 := c_lsub fm.toInt64 4095
      rw [show (4095 : Int64).toInt = 4095 from by decide, c_i2l] at h1
      have r0 := rng32 fm
      have r1 := rng64 (fm.toInt64 - 4095)
      have h2 := own_remL (q5 &&& (9223372036854775807 : Int64)) (fm.toInt64 - 4095) (by omega) (by omega)
      generalize ((q5 &&& (9223372036854775807 : Int64)) - ((q5 &&& (9223372036854775807 : Int64)) / (fm.toInt64 - (4095 : Int64))) * (fm.toInt64 - (4095 : Int64))) = u at *
      have h3 := c_ladd 4096 u
      rw [show (4096 : Int64).toInt = 4096 from by decide] at h3
      have r3 := rng64 (4096 + u)
      omega
    · left; rfl
  refine Go.st (fun U hr => XS.iload X3.here hx rfl (hb hby at_104) rfl hr) ?_
  show Go p.tables e below _ (T3.setTop (mkF m 106 #[.val (.int p1), .val (.int p2), .val (.int p3), .val (.int p4), .val (.long q5), .second, .val (.int p6), .val (.int cm), .val (.int fm), .val (.int ob), .val (.ref b1), .val (.int cc), .val (.int zf), .val (.long cf), .second, .unset, .unset, .unset, .unset, .unset] [(.int p6)]))
  refine Go.st (X3.ldcInt hx hown (mvT hZ (hw _ (List.mem_of_getElem? (i := 1) rfl))) (g := (mkF m 106 #[.val (.int p1), .val (.int p2), .val (.int p3), .val (.int p4), .val (.long q5), .second, .val (.int p6), .val (.int cm), .val (.int fm), .val (.int ob), .val (.ref b1), .val (.int cc), .val (.int zf), .val (.long cf), .second, .unset, .unset, .unset, .unset, .unset] [(.int p6)])) rfl (hb hby at_106)) ?_
  show Go p.tables e below _ (T3.setTop (mkF m 108 #[.val (.int p1), .val (.int p2), .val (.int p3), .val (.int p4), .val (.long q5), .second, .val (.int p6), .val (.int cm), .val (.int fm), .val (.int ob), .val (.ref b1), .val (.int cc), .val (.int zf), .val (.long cf), .second, .unset, .unset, .unset, .unset, .unset] [(.int (65535 : Int32)), (.int p6)]))
  refine Go.st (fun U hr => XS.iand X3.here hx rfl (hb hby at_108) rfl hr) ?_
  show Go p.tables e below _ (T3.setTop (mkF m 109 #[.val (.int p1), .val (.int p2), .val (.int p3), .val (.int p4), .val (.long q5), .second, .val (.int p6), .val (.int cm), .val (.int fm), .val (.int ob), .val (.ref b1), .val (.int cc), .val (.int zf), .val (.long cf), .second, .unset, .unset, .unset, .unset, .unset] [(.int (p6 &&& (65535 : Int32)))]))
  refine Go.st (fun U hr => XS.istore X3.here hx rfl (hb hby at_109) rfl (l' := #[.val (.int p1), .val (.int p2), .val (.int p3), .val (.int p4), .val (.long q5), .second, .val (.int p6), .val (.int cm), .val (.int fm), .val (.int ob), .val (.ref b1), .val (.int cc), .val (.int zf), .val (.long cf), .second, .val (.int (p6 &&& (65535 : Int32))), .unset, .unset, .unset, .unset]) rfl hr) ?_
  show Go p.tables e below _ (T3.setTop (mkF m 111 #[.val (.int p1), .val (.int p2), .val (.int p3), .val (.int p4), .val (.long q5), .second, .val (.int p6), .val (.int cm), .val (.int fm), .val (.int ob), .val (.ref b1), .val (.int cc), .val (.int zf), .val (.long cf), .second, .val (.int (p6 &&& (65535 : Int32))), .unset, .unset, .unset, .unset] []))
  generalize h_cb : (p6 &&& (65535 : Int32)) = cb
  have hcb : 0 ≤ cb.toInt ∧ cb.toInt ≤ 65535 := by
    have := c_mask p6 65535 16 (by decide) (by decide)
    rw [h_cb, show ((2 ^ 16 : Nat) : Int) = 65536 from by decide] at this; omega
  refine Go.st (fun U hr => XS.aload X3.here hx rfl (hb hby at_111) rfl rfl hr) ?_
  show Go p.tables e below _ (T3.setTop (mkF m 113 #[.val (.int p1), .val (.int p2), .val (.int p3), .val (.int p4), .val (.long q5), .second, .val (.int p6), .val (.int cm), .val (.int fm), .val (.int ob), .val (.ref b1), .val (.int cc), .val (.int zf), .val (.long cf), .second, .val (.int cb), .unset, .unset, .unset, .unset] [(.ref b1)]))
  refine Go.st (fun U hr => XS.iload X3.here hx rfl (hb hby at_113) rfl hr) ?_
  show Go p.tables e below _ (T3.setTop (mkF m 115 #[.val (.int p1), .val (.int p2), .val (.int p3), .val (.int p4), .val (.long q5), .second, .val (.int p6), .val (.int cm), .val (.int fm), .val (.int ob), .val (.ref b1), .val (.int cc), .val (.int zf), .val (.long cf), .second, .val (.int cb), .unset, .unset, .unset, .unset] [(.int cc), (.ref b1)]))
  refine Go.st (fun U hr => XS.lload X3.here hx rfl (hb hby at_115) rfl hr) ?_
  show Go p.tables e below _ (T3.setTop (mkF m 117 #[.val (.int p1), .val (.int p2), .val (.int p3), .val (.int p4), .val (.long q5), .second, .val (.int p6), .val (.int cm), .val (.int fm), .val (.int ob), .val (.ref b1), .val (.int cc), .val (.int zf), .val (.long cf), .second, .val (.int cb), .unset, .unset, .unset, .unset] [(.long cf), (.int cc), (.ref b1)]))
  refine Go.st (fun U hr => XS.iload X3.here hx rfl (hb hby at_117) rfl hr) ?_
  show Go p.tables e below _ (T3.setTop (mkF m 119 #[.val (.int p1), .val (.int p2), .val (.int p3), .val (.int p4), .val (.long q5), .second, .val (.int p6), .val (.int cm), .val (.int fm), .val (.int ob), .val (.ref b1), .val (.int cc), .val (.int zf), .val (.long cf), .second, .val (.int cb), .unset, .unset, .unset, .unset] [(.int cb), (.long cf), (.int cc), (.ref b1)]))
  have q1 : 1 ≤ (own_ch cm cc).toInt ∧ (own_ch cm cc).toInt ≤ 65535 := by
    unfold own_ch
    split
    · exact hcm
    · rename_i q
      have : cc.toInt ≠ 0 := fun z => q (Int32.toInt_inj.mp z)
      omega
  have q2 : 4096 ≤ (own_fr fm cf).toInt := by
    unfold own_fr
    split
    · exact hfm
    · rename_i q
      have h1 := hcf.resolve_left q
      have r0 := rng32 fm
      have h2 := c_l2i cf
      have r2 := rng32 cf.toInt32
      omega
  have q3 : ¬ fm.toInt64 < cf := by
    rw [own_lt, c_i2l]
    rcases hcf with q | q
    · rw [q, show (0 : Int64).toInt = 0 from by decide]; omega
    · omega
  have q4 : cf = 0 ∨ ¬ cf < 4096 := by
    rcases hcf with q | q
    · exact Or.inl q
    · right; rw [own_lt, show (4096 : Int64).toInt = 4096 from by decide]; omega
  obtain ⟨cq7, kq7, q7a, q7b, q7c⟩ := isOf hZ rfl Eq3
  obtain ⟨_, _, ⟨T7, L7, k7, n7⟩, -, X7, ⟨Lc7, hQ7, l7, y7, z7⟩, st7⟩ := X3.virtualBack hx (y := (⟨"com/example/notched_ledger/notchedledger/amqp/Tuning", "negotiate", "(IJI)Lcom/example/notched_ledger/notchedledger/amqp/Tuning;"⟩ : MethodName)) (z := (⟨"com/example/notched_ledger/notchedledger/amqp/Tuning", "negotiate", "(IJI)Lcom/example/notched_ledger/notchedledger/amqp/Tuning;"⟩ : MethodName)) hown (mvT hZ (hw _ (List.mem_of_getElem? (i := 24) rfl))) (mvT hZ (hw _ (List.mem_of_getElem? (i := 25) rfl))) (notFace_of_selects (args := #[]) (mvT hZ (hw _ (List.mem_of_getElem? (i := 27) rfl)))) (mvT hZ (hw _ (List.mem_of_getElem? (i := 27) rfl))) (mvT hZ (hw _ (List.mem_of_getElem? (i := 26) rfl))) (by decide) (backOf (W := 0) (rm4 l Z a0 hw [] b1 cc cf cb cm fm T3.heap n0 z4 Fq0_3 Fq1_3 (by rw [own_lt32]; omega) q3 q4 (by rw [own_lt32]; (first | rw [show (1 : Int32).toInt = 1 from by decide] | rw [show (65535 : Int32).toInt = 65535 from by decide] | rw [show (4096 : Int32).toInt = 4096 from by decide] | rw [show (0 : Int32).toInt = 0 from by decide]); omega) (by rw [own_lt32]; (first | rw [show (1 : Int32).toInt = 1 from by decide] | rw [show (65535 : Int32).toInt = 65535 from by decide] | rw [show (4096 : Int32).toInt = 4096 from by decide] | rw [show (0 : Int32).toInt = 0 from by decide]); omega) (by rw [own_lt32]; (first | rw [show (1 : Int32).toInt = 1 from by decide] | rw [show (65535 : Int32).toInt = 65535 from by decide] | rw [show (4096 : Int32).toInt = 4096 from by decide] | rw [show (0 : Int32).toInt = 0 from by decide]); omega) (by rw [own_lt32]; (first | rw [show (1 : Int32).toInt = 1 from by decide] | rw [show (65535 : Int32).toInt = 65535 from by decide] | rw [show (4096 : Int32).toInt = 4096 from by decide] | rw [show (0 : Int32).toInt = 0 from by decide]); omega) (by rw [own_lt32]; (first | rw [show (1 : Int32).toInt = 1 from by decide] | rw [show (65535 : Int32).toInt = 65535 from by decide] | rw [show (4096 : Int32).toInt = 4096 from by decide] | rw [show (0 : Int32).toInt = 0 from by decide]); omega)) hZ (hw _ (List.mem_of_getElem? (i := 28) rfl)) (hw _ (List.mem_of_getElem? (i := 5) rfl)) (by decide) (by decide)) q7a q7c (g := (mkF m 119 #[.val (.int p1), .val (.int p2), .val (.int p3), .val (.int p4), .val (.long q5), .second, .val (.int p6), .val (.int cm), .val (.int fm), .val (.int ob), .val (.ref b1), .val (.int cc), .val (.int zf), .val (.long cf), .second, .val (.int cb), .unset, .unset, .unset, .unset] [(.int cb), (.long cf), (.int cc), (.ref b1)])) rfl (by rw [hml]; rfl) (Steps.refl _) (argsL := [(.int cc), (.long cf), (.int cb)]) (rest := []) (lenOf pd_2 rfl) rfl (by show 2 * 0 + _ ≤ _; exact Nat.le_of_eq rfl) (hb hby at_119) (fun _ _ => ⟨rfl, rfl, (by decide : 1 + 1 ≤ _), (by decide : 3 + 3 ≤ _)⟩)
  dsimp only [Pt.U, Pt.locs, Pt.cells, Pt.slots] at X7 l7 y7 z7 st7 hQ7
  subst l7 y7 z7
  obtain ⟨r7, rfl, Nq7, sr7, Kq7, Eq7, Fq0_7, Fq1_7, Fq2_7⟩ := hQ7
  have N7 := Fr.app N3 Nq7
  refine Go.tr st7 ?_
  show Go p.tables e below _ (T7.setTop (mkF m 122 #[.val (.int p1), .val (.int p2), .val (.int p3), .val (.int p4), .val (.long q5), .second, .val (.int p6), .val (.int cm), .val (.int fm), .val (.int ob), .val (.ref b1), .val (.int cc), .val (.int zf), .val (.long cf), .second, .val (.int cb), .unset, .unset, .unset, .unset] [(.ref r7)]))
  have f8 := (Eq3).keep Kq7
  have f9 := (Fq0_3).keep Kq7 nin0
  have f10 := (Fq1_3).keep Kq7 nin0
  have f11 := (Fq2_3).keep Kq7 nin0
  have z12 := Nat.le_trans z4 Kq7.1
  refine Go.st (fun U hr => XS.astore X7.here hx rfl (hb hby at_122) rfl rfl (l' := #[.val (.int p1), .val (.int p2), .val (.int p3), .val (.int p4), .val (.long q5), .second, .val (.int p6), .val (.int cm), .val (.int fm), .val (.int ob), .val (.ref b1), .val (.int cc), .val (.int zf), .val (.long cf), .second, .val (.int cb), .val (.ref r7), .unset, .unset, .unset]) rfl hr) ?_
  show Go p.tables e below _ (T7.setTop (mkF m 124 #[.val (.int p1), .val (.int p2), .val (.int p3), .val (.int p4), .val (.long q5), .second, .val (.int p6), .val (.int cm), .val (.int fm), .val (.int ob), .val (.ref b1), .val (.int cc), .val (.int zf), .val (.long cf), .second, .val (.int cb), .val (.ref r7), .unset, .unset, .unset] []))
  refine Go.st (fun U hr => XS.iload X7.here hx rfl (hb hby at_124) rfl hr) ?_
  show Go p.tables e below _ (T7.setTop (mkF m 126 #[.val (.int p1), .val (.int p2), .val (.int p3), .val (.int p4), .val (.long q5), .second, .val (.int p6), .val (.int cm), .val (.int fm), .val (.int ob), .val (.ref b1), .val (.int cc), .val (.int zf), .val (.long cf), .second, .val (.int cb), .val (.ref r7), .unset, .unset, .unset] [(.int cc)]))
  suffices hj126_13 : Go p.tables e below (own_Fin s below room_1.cells room_1.slots (Q0 Z p1 p2 p3 p4 q5 p6 h0 n0)) (T7.setTop (mkF m 140 #[.val (.int p1), .val (.int p2), .val (.int p3), .val (.int p4), .val (.long q5), .second, .val (.int p6), .val (.int cm), .val (.int fm), .val (.int ob), .val (.ref b1), .val (.int cc), .val (.int zf), .val (.long cf), .second, .val (.int cb), .val (.ref r7), .val (.int (if cc = (0 : Int32) then cm else cc)), .unset, .unset] [])) by
    by_cases hc126_13 : cc = (0 : Int32)
    · refine Go.st (fun U hr => XS.ifNo X7.here hx rfl (hb hby at_126) rfl ((if0 _ _).trans (teq hc126_13).2) hr) ?_
      show Go p.tables e below _ (T7.setTop (mkF m 129 #[.val (.int p1), .val (.int p2), .val (.int p3), .val (.int p4), .val (.long q5), .second, .val (.int p6), .val (.int cm), .val (.int fm), .val (.int ob), .val (.ref b1), .val (.int cc), .val (.int zf), .val (.long cf), .second, .val (.int cb), .val (.ref r7), .unset, .unset, .unset] []))
      refine Go.st (fun U hr => XS.iload X7.here hx rfl (hb hby at_129) rfl hr) ?_
      show Go p.tables e below _ (T7.setTop (mkF m 131 #[.val (.int p1), .val (.int p2), .val (.int p3), .val (.int p4), .val (.long q5), .second, .val (.int p6), .val (.int cm), .val (.int fm), .val (.int ob), .val (.ref b1), .val (.int cc), .val (.int zf), .val (.long cf), .second, .val (.int cb), .val (.ref r7), .unset, .unset, .unset] [(.int cm)]))
      refine Go.st (fun U hr => XS.istore X7.here hx rfl (hb hby at_131) rfl (l' := #[.val (.int p1), .val (.int p2), .val (.int p3), .val (.int p4), .val (.long q5), .second, .val (.int p6), .val (.int cm), .val (.int fm), .val (.int ob), .val (.ref b1), .val (.int cc), .val (.int zf), .val (.long cf), .second, .val (.int cb), .val (.ref r7), .val (.int cm), .unset, .unset]) rfl hr) ?_
      show Go p.tables e below _ (T7.setTop (mkF m 133 #[.val (.int p1), .val (.int p2), .val (.int p3), .val (.int p4), .val (.long q5), .second, .val (.int p6), .val (.int cm), .val (.int fm), .val (.int ob), .val (.ref b1), .val (.int cc), .val (.int zf), .val (.long cf), .second, .val (.int cb), .val (.ref r7), .val (.int cm), .unset, .unset] []))
      refine Go.st (fun U hr => XS.goto X7.here hx rfl (pc0 := 133) (pc' := 140) rfl (hb hby at_133) (by decide) (by decide) hr) ?_
      show Go p.tables e below _ (T7.setTop (mkF m 140 #[.val (.int p1), .val (.int p2), .val (.int p3), .val (.int p4), .val (.long q5), .second, .val (.int p6), .val (.int cm), .val (.int fm), .val (.int ob), .val (.ref b1), .val (.int cc), .val (.int zf), .val (.long cf), .second, .val (.int cb), .val (.ref r7), .val (.int cm), .unset, .unset] []))
      simpa only [if_pos hc126_13] using hj126_13
    · refine Go.st (fun U hr => XS.ifYes X7.here hx rfl (pc0 := 126) (pc' := 136) rfl (hb hby at_126) rfl ((if0 _ _).trans (feq hc126_13).2) (by decide) (by decide) hr) ?_
      show Go p.tables e below _ (T7.setTop (mkF m 136 #[.val (.int p1), .val (.int p2), .val (.int p3), .val (.int p4), .val (.long q5), .second, .val (.int p6), .val (.int cm), .val (.int fm), .val (.int ob), .val (.ref b1), .val (.int cc), .val (.int zf), .val (.long cf), .second, .val (.int cb), .val (.ref r7), .unset, .unset, .unset] []))
      refine Go.st (fun U hr => XS.iload X7.here hx rfl (hb hby at_136) rfl hr) ?_
      show Go p.tables e below _ (T7.setTop (mkF m 138 #[.val (.int p1), .val (.int p2), .val (.int p3), .val (.int p4), .val (.long q5), .second, .val (.int p6), .val (.int cm), .val (.int fm), .val (.int ob), .val (.ref b1), .val (.int cc), .val (.int zf), .val (.long cf), .second, .val (.int cb), .val (.ref r7), .unset, .unset, .unset] [(.int cc)]))
      refine Go.st (fun U hr => XS.istore X7.here hx rfl (hb hby at_138) rfl (l' := #[.val (.int p1), .val (.int p2), .val (.int p3), .val (.int p4), .val (.long q5), .second, .val (.int p6), .val (.int cm), .val (.int fm), .val (.int ob), .val (.ref b1), .val (.int cc), .val (.int zf), .val (.long cf), .second, .val (.int cb), .val (.ref r7), .val (.int cc), .unset, .unset]) rfl hr) ?_
      show Go p.tables e below _ (T7.setTop (mkF m 140 #[.val (.int p1), .val (.int p2), .val (.int p3), .val (.int p4), .val (.long q5), .second, .val (.int p6), .val (.int cm), .val (.int fm), .val (.int ob), .val (.ref b1), .val (.int cc), .val (.int zf), .val (.long cf), .second, .val (.int cb), .val (.ref r7), .val (.int cc), .unset, .unset] []))
      simpa only [if_neg hc126_13] using hj126_13
  refine Go.st (fun U hr => XS.lload X7.here hx rfl (hb hby at_140) rfl hr) ?_
  show Go p.tables e below _ (T7.setTop (mkF m 142 #[.val (.int p1), .val (.int p2), .val (.int p3), .val (.int p4), .val (.long q5), .second, .val (.int p6), .val (.int cm), .val (.int fm), .val (.int ob), .val (.ref b1), .val (.int cc), .val (.int zf), .val (.long cf), .second, .val (.int cb), .val (.ref r7), .val (.int (if cc = (0 : Int32) then cm else cc)), .unset, .unset] [(.long cf)]))
  refine Go.st (fun U hr => XS.lconst X7.here hx rfl (hb hby at_142) hr) ?_
  show Go p.tables e below _ (T7.setTop (mkF m 143 #[.val (.int p1), .val (.int p2), .val (.int p3), .val (.int p4), .val (.long q5), .second, .val (.int p6), .val (.int cm), .val (.int fm), .val (.int ob), .val (.ref b1), .val (.int cc), .val (.int zf), .val (.long cf), .second, .val (.int cb), .val (.ref r7), .val (.int (if cc = (0 : Int32) then cm else cc)), .unset, .unset] [(.long (0 : Int64)), (.long cf)]))
  refine Go.st (fun U hr => XS.lcmp X7.here hx rfl (hb hby at_143) rfl hr) ?_
  show Go p.tables e below _ (T7.setTop (mkF m 144 #[.val (.int p1), .val (.int p2), .val (.int p3), .val (.int p4), .val (.long q5), .second, .val (.int p6), .val (.int cm), .val (.int fm), .val (.int ob), .val (.ref b1), .val (.int cc), .val (.int zf), .val (.long cf), .second, .val (.int cb), .val (.ref r7), .val (.int (if cc = (0 : Int32) then cm else cc)), .unset, .unset] [(.int (lcmpW cf (0 : Int64)))]))
  suffices hj144_14 : Go p.tables e below (own_Fin s below room_1.cells room_1.slots (Q0 Z p1 p2 p3 p4 q5 p6 h0 n0)) (T7.setTop (mkF m 159 #[.val (.int p1), .val (.int p2), .val (.int p3), .val (.int p4), .val (.long q5), .second, .val (.int p6), .val (.int cm), .val (.int fm), .val (.int ob), .val (.ref b1), .val (.int cc), .val (.int zf), .val (.long cf), .second, .val (.int cb), .val (.ref r7), .val (.int (if cc = (0 : Int32) then cm else cc)), .val (.long (if cf = (0 : Int64) then (fm.toInt64) else cf)), .second] [])) by
    by_cases hc144_14 : cf = (0 : Int64)
    · refine Go.st (fun U hr => XS.ifNo X7.here hx rfl (hb hby at_144) rfl ((if0 _ _).trans (teq ((lw_eq cf (0 : Int64)).2 hc144_14)).2) hr) ?_
      show Go p.tables e below _ (T7.setTop (mkF m 147 #[.val (.int p1), .val (.int p2), .val (.int p3), .val (.int p4), .val (.long q5), .second, .val (.int p6), .val (.int cm), .val (.int fm), .val (.int ob), .val (.ref b1), .val (.int cc), .val (.int zf), .val (.long cf), .second, .val (.int cb), .val (.ref r7), .val (.int (if cc = (0 : Int32) then cm else cc)), .unset, .unset] []))
      refine Go.st (fun U hr => XS.iload X7.here hx rfl (hb hby at_147) rfl hr) ?_
      show Go p.tables e below _ (T7.setTop (mkF m 149 #[.val (.int p1), .val (.int p2), .val (.int p3), .val (.int p4), .val (.long q5), .second, .val (.int p6), .val (.int cm), .val (.int fm), .val (.int ob), .val (.ref b1), .val (.int cc), .val (.int zf), .val (.long cf), .second, .val (.int cb), .val (.ref r7), .val (.int (if cc = (0 : Int32) then cm else cc)), .unset, .unset] [(.int fm)]))
      refine Go.st (fun U hr => XS.i2l X7.here hx rfl (hb hby at_149) rfl hr) ?_
      show Go p.tables e below _ (T7.setTop (mkF m 150 #[.val (.int p1), .val (.int p2), .val (.int p3), .val (.int p4), .val (.long q5), .second, .val (.int p6), .val (.int cm), .val (.int fm), .val (.int ob), .val (.ref b1), .val (.int cc), .val (.int zf), .val (.long cf), .second, .val (.int cb), .val (.ref r7), .val (.int (if cc = (0 : Int32) then cm else cc)), .unset, .unset] [(.long (fm.toInt64))]))
      refine Go.st (fun U hr => XS.lstore X7.here hx rfl (hb hby at_150) rfl (l' := #[.val (.int p1), .val (.int p2), .val (.int p3), .val (.int p4), .val (.long q5), .second, .val (.int p6), .val (.int cm), .val (.int fm), .val (.int ob), .val (.ref b1), .val (.int cc), .val (.int zf), .val (.long cf), .second, .val (.int cb), .val (.ref r7), .val (.int (if cc = (0 : Int32) then cm else cc)), .val (.long (fm.toInt64)), .second]) rfl hr) ?_
      show Go p.tables e below _ (T7.setTop (mkF m 152 #[.val (.int p1), .val (.int p2), .val (.int p3), .val (.int p4), .val (.long q5), .second, .val (.int p6), .val (.int cm), .val (.int fm), .val (.int ob), .val (.ref b1), .val (.int cc), .val (.int zf), .val (.long cf), .second, .val (.int cb), .val (.ref r7), .val (.int (if cc = (0 : Int32) then cm else cc)), .val (.long (fm.toInt64)), .second] []))
      refine Go.st (fun U hr => XS.goto X7.here hx rfl (pc0 := 152) (pc' := 159) rfl (hb hby at_152) (by decide) (by decide) hr) ?_
      show Go p.tables e below _ (T7.setTop (mkF m 159 #[.val (.int p1), .val (.int p2), .val (.int p3), .val (.int p4), .val (.long q5), .second, .val (.int p6), .val (.int cm), .val (.int fm), .val (.int ob), .val (.ref b1), .val (.int cc), .val (.int zf), .val (.long cf), .second, .val (.int cb), .val (.ref r7), .val (.int (if cc = (0 : Int32) then cm else cc)), .val (.long (fm.toInt64)), .second] []))
      simpa only [if_pos hc144_14] using hj144_14
    · refine Go.st (fun U hr => XS.ifYes X7.here hx rfl (pc0 := 144) (pc' := 155) rfl (hb hby at_144) rfl ((if0 _ _).trans (feq (fun q => hc144_14 ((lw_eq cf (0 : Int64)).1 q))).2) (by decide) (by decide) hr) ?_
      show Go p.tables e below _ (T7.setTop (mkF m 155 #[.val (.int p1), .val (.int p2), .val (.int p3), .val (.int p4), .val (.long q5), .second, .val (.int p6), .val (.int cm), .val (.int fm), .val (.int ob), .val (.ref b1), .val (.int cc), .val (.int zf), .val (.long cf), .second, .val (.int cb), .val (.ref r7), .val (.int (if cc = (0 : Int32) then cm else cc)), .unset, .unset] []))
      refine Go.st (fun U hr => XS.lload X7.here hx rfl (hb hby at_155) rfl hr) ?_
      show Go p.tables e below _ (T7.setTop (mkF m 157 #[.val (.int p1), .val (.int p2), .val (.int p3), .val (.int p4), .val (.long q5), .second, .val (.int p6), .val (.int cm), .val (.int fm), .val (.int ob), .val (.ref b1), .val (.int cc), .val (.int zf), .val (.long cf), .second, .val (.int cb), .val (.ref r7), .val (.int (if cc = (0 : Int32) then cm else cc)), .unset, .unset] [(.long cf)]))
      refine Go.st (fun U hr => XS.lstore X7.here hx rfl (hb hby at_157) rfl (l' := #[.val (.int p1), .val (.int p2), .val (.int p3), .val (.int p4), .val (.long q5), .second, .val (.int p6), .val (.int cm), .val (.int fm), .val (.int ob), .val (.ref b1), .val (.int cc), .val (.int zf), .val (.long cf), .second, .val (.int cb), .val (.ref r7), .val (.int (if cc = (0 : Int32) then cm else cc)), .val (.long cf), .second]) rfl hr) ?_
      show Go p.tables e below _ (T7.setTop (mkF m 159 #[.val (.int p1), .val (.int p2), .val (.int p3), .val (.int p4), .val (.long q5), .second, .val (.int p6), .val (.int cm), .val (.int fm), .val (.int ob), .val (.ref b1), .val (.int cc), .val (.int zf), .val (.long cf), .second, .val (.int cb), .val (.ref r7), .val (.int (if cc = (0 : Int32) then cm else cc)), .val (.long cf), .second] []))
      simpa only [if_neg hc144_14] using hj144_14
  refine Go.st (fun U hr => XS.aload X7.here hx rfl (hb hby at_159) rfl rfl hr) ?_
  show Go p.tables e below _ (T7.setTop (mkF m 161 #[.val (.int p1), .val (.int p2), .val (.int p3), .val (.int p4), .val (.long q5), .second, .val (.int p6), .val (.int cm), .val (.int fm), .val (.int ob), .val (.ref b1), .val (.int cc), .val (.int zf), .val (.long cf), .second, .val (.int cb), .val (.ref r7), .val (.int (if cc = (0 : Int32) then cm else cc)), .val (.long (if cf = (0 : Int64) then (fm.toInt64) else cf)), .second] [(.ref r7)]))
  obtain ⟨cq15, kq15, q15a, q15b, q15c⟩ := isOf hZ rfl Eq7
  obtain ⟨_, _, ⟨T15, L15, k15, n15⟩, -, X15, ⟨Lc15, hQ15, l15, y15, z15⟩, st15⟩ := X7.virtualBack hx (y := (⟨"com/example/notched_ledger/notchedledger/amqp/Tuning", "channelMax", "()I"⟩ : MethodName)) (z := (⟨"com/example/notched_ledger/notchedledger/amqp/Tuning", "channelMax", "()I"⟩ : MethodName)) hown (mvT hZ (hw _ (List.mem_of_getElem? (i := 31) rfl))) (mvT hZ (hw _ (List.mem_of_getElem? (i := 32) rfl))) (notFace_of_selects (args := #[]) (mvT hZ (hw _ (List.mem_of_getElem? (i := 34) rfl)))) (mvT hZ (hw _ (List.mem_of_getElem? (i := 34) rfl))) (mvT hZ (hw _ (List.mem_of_getElem? (i := 33) rfl))) (by decide) (backOf (W := 0) (rm5 l Z a0 hw [] r7 (own_ch cm cc) T7.heap n0 z12 Fq0_7) hZ (hw _ (List.mem_of_getElem? (i := 35) rfl)) (hw _ (List.mem_of_getElem? (i := 5) rfl)) (by decide) (by decide)) q15a q15c (g := (mkF m 161 #[.val (.int p1), .val (.int p2), .val (.int p3), .val (.int p4), .val (.long q5), .second, .val (.int p6), .val (.int cm), .val (.int fm), .val (.int ob), .val (.ref b1), .val (.int cc), .val (.int zf), .val (.long cf), .second, .val (.int cb), .val (.ref r7), .val (.int (if cc = (0 : Int32) then cm else cc)), .val (.long (if cf = (0 : Int64) then (fm.toInt64) else cf)), .second] [(.ref r7)])) rfl (by rw [hml]; rfl) (Steps.refl _) (argsL := []) (rest := []) (lenOf pd_3 rfl) rfl (by show 2 * 0 + _ ≤ _; exact Nat.le_of_eq rfl) (hb hby at_161) (fun _ _ => ⟨rfl, rfl, (by decide : 2 + 0 ≤ _), (by decide : 6 + 0 ≤ _)⟩)
  dsimp only [Pt.U, Pt.locs, Pt.cells, Pt.slots] at X15 l15 y15 z15 st15 hQ15
  subst l15 y15 z15
  obtain ⟨rfl, Nq15, ee15⟩ := hQ15
  have N15 := Fr.app N7 Nq15
  refine Go.tr st15 ?_
  show Go p.tables e below _ (T15.setTop (mkF m 164 #[.val (.int p1), .val (.int p2), .val (.int p3), .val (.int p4), .val (.long q5), .second, .val (.int p6), .val (.int cm), .val (.int fm), .val (.int ob), .val (.ref b1), .val (.int cc), .val (.int zf), .val (.long cf), .second, .val (.int cb), .val (.ref r7), .val (.int (if cc = (0 : Int32) then cm else cc)), .val (.long (if cf = (0 : Int64) then (fm.toInt64) else cf)), .second] [(.int (own_ch cm cc))]))
  refine Go.st (fun U hr => XS.iload X15.here hx rfl (hb hby at_164) rfl hr) ?_
  show Go p.tables e below _ (T15.setTop (mkF m 166 #[.val (.int p1), .val (.int p2), .val (.int p3), .val (.int p4), .val (.long q5), .second, .val (.int p6), .val (.int cm), .val (.int fm), .val (.int ob), .val (.ref b1), .val (.int cc), .val (.int zf), .val (.long cf), .second, .val (.int cb), .val (.ref r7), .val (.int (if cc = (0 : Int32) then cm else cc)), .val (.long (if cf = (0 : Int64) then (fm.toInt64) else cf)), .second] [(.int (if cc = (0 : Int32) then cm else cc)), (.int (own_ch cm cc))]))
  have hc166_16 : (own_ch cm cc) = (if cc = (0 : Int32) then cm else cc) := rfl
  refine Go.st (fun U hr => XS.icmpNo X15.here hx rfl (hb hby at_166) rfl (teq hc166_16).2 hr) ?_
  show Go p.tables e below _ (T15.setTop (mkF m 169 #[.val (.int p1), .val (.int p2), .val (.int p3), .val (.int p4), .val (.long q5), .second, .val (.int p6), .val (.int cm), .val (.int fm), .val (.int ob), .val (.ref b1), .val (.int cc), .val (.int zf), .val (.long cf), .second, .val (.int cb), .val (.ref r7), .val (.int (if cc = (0 : Int32) then cm else cc)), .val (.long (if cf = (0 : Int64) then (fm.toInt64) else cf)), .second] []))
  refine Go.st (fun U hr => XS.aload X15.here hx rfl (hb hby at_169) rfl rfl hr) ?_
  show Go p.tables e below _ (T15.setTop (mkF m 171 #[.val (.int p1), .val (.int p2), .val (.int p3), .val (.int p4), .val (.long q5), .second, .val (.int p6), .val (.int cm), .val (.int fm), .val (.int ob), .val (.ref b1), .val (.int cc), .val (.int zf), .val (.long cf), .second, .val (.int cb), .val (.ref r7), .val (.int (if cc = (0 : Int32) then cm else cc)), .val (.long (if cf = (0 : Int64) then (fm.toInt64) else cf)), .second] [(.ref r7)]))
  obtain ⟨cq17, kq17, q17a, q17b, q17c⟩ := isOf hZ ee15 Eq7
  obtain ⟨_, _, ⟨T17, L17, k17, n17⟩, -, X17, ⟨Lc17, hQ17, l17, y17, z17⟩, st17⟩ := X15.virtualBack hx (y := (⟨"com/example/notched_ledger/notchedledger/amqp/Tuning", "frameMax", "()I"⟩ : MethodName)) (z := (⟨"com/example/notched_ledger/notchedledger/amqp/Tuning", "frameMax", "()I"⟩ : MethodName)) hown (mvT hZ (hw _ (List.mem_of_getElem? (i := 36) rfl))) (mvT hZ (hw _ (List.mem_of_getElem? (i := 37) rfl))) (notFace_of_selects (args := #[]) (mvT hZ (hw _ (List.mem_of_getElem? (i := 39) rfl)))) (mvT hZ (hw _ (List.mem_of_getElem? (i := 39) rfl))) (mvT hZ (hw _ (List.mem_of_getElem? (i := 38) rfl))) (by decide) (backOf (W := 0) (rm6 l Z a0 hw [] r7 (own_fr fm cf) T7.heap n0 z12 Fq1_7) hZ (hw _ (List.mem_of_getElem? (i := 40) rfl)) (hw _ (List.mem_of_getElem? (i := 5) rfl)) (by decide) (by decide)) q17a q17c (g := (mkF m 171 #[.val (.int p1), .val (.int p2), .val (.int p3), .val (.int p4), .val (.long q5), .second, .val (.int p6), .val (.int cm), .val (.int fm), .val (.int ob), .val (.ref b1), .val (.int cc), .val (.int zf), .val (.long cf), .second, .val (.int cb), .val (.ref r7), .val (.int (if cc = (0 : Int32) then cm else cc)), .val (.long (if cf = (0 : Int64) then (fm.toInt64) else cf)), .second] [(.ref r7)])) rfl (by rw [hml]; rfl) (Steps.refl _) (argsL := []) (rest := []) (lenOf pd_3 rfl) rfl (by show 2 * 0 + _ ≤ _; exact Nat.le_of_eq rfl) (hb hby at_171) (fun _ _ => ⟨rfl, ee15, (by decide : 2 + 0 ≤ _), (by decide : 6 + 0 ≤ _)⟩)
  dsimp only [Pt.U, Pt.locs, Pt.cells, Pt.slots] at X17 l17 y17 z17 st17 hQ17
  subst l17 y17 z17
  obtain ⟨rfl, Nq17, ee17⟩ := hQ17
  have N17 := Fr.app N15 Nq17
  refine Go.tr st17 ?_
  show Go p.tables e below _ (T17.setTop (mkF m 174 #[.val (.int p1), .val (.int p2), .val (.int p3), .val (.int p4), .val (.long q5), .second, .val (.int p6), .val (.int cm), .val (.int fm), .val (.int ob), .val (.ref b1), .val (.int cc), .val (.int zf), .val (.long cf), .second, .val (.int cb), .val (.ref r7), .val (.int (if cc = (0 : Int32) then cm else cc)), .val (.long (if cf = (0 : Int64) then (fm.toInt64) else cf)), .second] [(.int (own_fr fm cf))]))
  refine Go.st (fun U hr => XS.i2l X17.here hx rfl (hb hby at_174) rfl hr) ?_
  show Go p.tables e below _ (T17.setTop (mkF m 175 #[.val (.int p1), .val (.int p2), .val (.int p3), .val (.int p4), .val (.long q5), .second, .val (.int p6), .val (.int cm), .val (.int fm), .val (.int ob), .val (.ref b1), .val (.int cc), .val (.int zf), .val (.long cf), .second, .val (.int cb), .val (.ref r7), .val (.int (if cc = (0 : Int32) then cm else cc)), .val (.long (if cf = (0 : Int64) then (fm.toInt64) else cf)), .second] [(.long ((own_fr fm cf).toInt64))]))
  refine Go.st (fun U hr => XS.lload X17.here hx rfl (hb hby at_175) rfl hr) ?_
  show Go p.tables e below _ (T17.setTop (mkF m 177 #[.val (.int p1), .val (.int p2), .val (.int p3), .val (.int p4), .val (.long q5), .second, .val (.int p6), .val (.int cm), .val (.int fm), .val (.int ob), .val (.ref b1), .val (.int cc), .val (.int zf), .val (.long cf), .second, .val (.int cb), .val (.ref r7), .val (.int (if cc = (0 : Int32) then cm else cc)), .val (.long (if cf = (0 : Int64) then (fm.toInt64) else cf)), .second] [(.long (if cf = (0 : Int64) then (fm.toInt64) else cf)), (.long ((own_fr fm cf).toInt64))]))
  refine Go.st (fun U hr => XS.lcmp X17.here hx rfl (hb hby at_177) rfl hr) ?_
  show Go p.tables e below _ (T17.setTop (mkF m 178 #[.val (.int p1), .val (.int p2), .val (.int p3), .val (.int p4), .val (.long q5), .second, .val (.int p6), .val (.int cm), .val (.int fm), .val (.int ob), .val (.ref b1), .val (.int cc), .val (.int zf), .val (.long cf), .second, .val (.int cb), .val (.ref r7), .val (.int (if cc = (0 : Int32) then cm else cc)), .val (.long (if cf = (0 : Int64) then (fm.toInt64) else cf)), .second] [(.int (lcmpW ((own_fr fm cf).toInt64) (if cf = (0 : Int64) then (fm.toInt64) else cf)))]))
  have hc178_18 : ((own_fr fm cf).toInt64) = (if cf = (0 : Int64) then (fm.toInt64) else cf) := by
    show (own_fr fm cf).toInt64 = _
    unfold own_fr
    split
    · rfl
    · rename_i q
      have h1 := hcf.resolve_left q
      have r0 := rng32 fm
      have h2 := c_l2i cf
      have r2 := rng32 cf.toInt32
      apply Int64.toInt_inj.mp
      rw [c_i2l]
      omega
  refine Go.st (fun U hr => XS.ifNo X17.here hx rfl (hb hby at_178) rfl ((if0 _ _).trans (teq ((lw_eq ((own_fr fm cf).toInt64) (if cf = (0 : Int64) then (fm.toInt64) else cf)).2 hc178_18)).2) hr) ?_
  show Go p.tables e below _ (T17.setTop (mkF m 181 #[.val (.int p1), .val (.int p2), .val (.int p3), .val (.int p4), .val (.long q5), .second, .val (.int p6), .val (.int cm), .val (.int fm), .val (.int ob), .val (.ref b1), .val (.int cc), .val (.int zf), .val (.long cf), .second, .val (.int cb), .val (.ref r7), .val (.int (if cc = (0 : Int32) then cm else cc)), .val (.long (if cf = (0 : Int64) then (fm.toInt64) else cf)), .second] []))
  refine Go.st (fun U hr => XS.aload X17.here hx rfl (hb hby at_181) rfl rfl hr) ?_
  show Go p.tables e below _ (T17.setTop (mkF m 183 #[.val (.int p1), .val (.int p2), .val (.int p3), .val (.int p4), .val (.long q5), .second, .val (.int p6), .val (.int cm), .val (.int fm), .val (.int ob), .val (.ref b1), .val (.int cc), .val (.int zf), .val (.long cf), .second, .val (.int cb), .val (.ref r7), .val (.int (if cc = (0 : Int32) then cm else cc)), .val (.long (if cf = (0 : Int64) then (fm.toInt64) else cf)), .second] [(.ref r7)]))
  obtain ⟨cq19, kq19, q19a, q19b, q19c⟩ := isOf hZ ee17 Eq7
  obtain ⟨_, _, ⟨T19, L19, k19, n19⟩, -, X19, ⟨Lc19, hQ19, l19, y19, z19⟩, st19⟩ := X17.virtualBack hx (y := (⟨"com/example/notched_ledger/notchedledger/amqp/Tuning", "heartbeatSeconds", "()I"⟩ : MethodName)) (z := (⟨"com/example/notched_ledger/notchedledger/amqp/Tuning", "heartbeatSeconds", "()I"⟩ : MethodName)) hown (mvT hZ (hw _ (List.mem_of_getElem? (i := 41) rfl))) (mvT hZ (hw _ (List.mem_of_getElem? (i := 42) rfl))) (notFace_of_selects (args := #[]) (mvT hZ (hw _ (List.mem_of_getElem? (i := 44) rfl)))) (mvT hZ (hw _ (List.mem_of_getElem? (i := 44) rfl))) (mvT hZ (hw _ (List.mem_of_getElem? (i := 43) rfl))) (by decide) (backOf (W := 0) (rm7 l Z a0 hw [] r7 cb T7.heap n0 z12 Fq2_7) hZ (hw _ (List.mem_of_getElem? (i := 45) rfl)) (hw _ (List.mem_of_getElem? (i := 5) rfl)) (by decide) (by decide)) q19a q19c (g := (mkF m 183 #[.val (.int p1), .val (.int p2), .val (.int p3), .val (.int p4), .val (.long q5), .second, .val (.int p6), .val (.int cm), .val (.int fm), .val (.int ob), .val (.ref b1), .val (.int cc), .val (.int zf), .val (.long cf), .second, .val (.int cb), .val (.ref r7), .val (.int (if cc = (0 : Int32) then cm else cc)), .val (.long (if cf = (0 : Int64) then (fm.toInt64) else cf)), .second] [(.ref r7)])) rfl (by rw [hml]; rfl) (Steps.refl _) (argsL := []) (rest := []) (lenOf pd_3 rfl) rfl (by show 2 * 0 + _ ≤ _; exact Nat.le_of_eq rfl) (hb hby at_183) (fun _ _ => ⟨rfl, ee17, (by decide : 2 + 0 ≤ _), (by decide : 6 + 0 ≤ _)⟩)
  dsimp only [Pt.U, Pt.locs, Pt.cells, Pt.slots] at X19 l19 y19 z19 st19 hQ19
  subst l19 y19 z19
  obtain ⟨rfl, Nq19, ee19⟩ := hQ19
  have N19 := Fr.app N17 Nq19
  refine Go.tr st19 ?_
  show Go p.tables e below _ (T19.setTop (mkF m 186 #[.val (.int p1), .val (.int p2), .val (.int p3), .val (.int p4), .val (.long q5), .second, .val (.int p6), .val (.int cm), .val (.int fm), .val (.int ob), .val (.ref b1), .val (.int cc), .val (.int zf), .val (.long cf), .second, .val (.int cb), .val (.ref r7), .val (.int (if cc = (0 : Int32) then cm else cc)), .val (.long (if cf = (0 : Int64) then (fm.toInt64) else cf)), .second] [(.int cb)]))
  refine Go.st (fun U hr => XS.iload X19.here hx rfl (hb hby at_186) rfl hr) ?_
  show Go p.tables e below _ (T19.setTop (mkF m 188 #[.val (.int p1), .val (.int p2), .val (.int p3), .val (.int p4), .val (.long q5), .second, .val (.int p6), .val (.int cm), .val (.int fm), .val (.int ob), .val (.ref b1), .val (.int cc), .val (.int zf), .val (.long cf), .second, .val (.int cb), .val (.ref r7), .val (.int (if cc = (0 : Int32) then cm else cc)), .val (.long (if cf = (0 : Int64) then (fm.toInt64) else cf)), .second] [(.int cb), (.int cb)]))
  have hc188_20 : cb = cb := rfl
  refine Go.st (fun U hr => XS.icmpNo X19.here hx rfl (hb hby at_188) rfl (teq hc188_20).2 hr) ?_
  show Go p.tables e below _ (T19.setTop (mkF m 191 #[.val (.int p1), .val (.int p2), .val (.int p3), .val (.int p4), .val (.long q5), .second, .val (.int p6), .val (.int cm), .val (.int fm), .val (.int ob), .val (.ref b1), .val (.int cc), .val (.int zf), .val (.long cf), .second, .val (.int cb), .val (.ref r7), .val (.int (if cc = (0 : Int32) then cm else cc)), .val (.long (if cf = (0 : Int64) then (fm.toInt64) else cf)), .second] []))
  refine Go.st (fun U hr => XS.aload X19.here hx rfl (hb hby at_191) rfl rfl hr) ?_
  show Go p.tables e below _ (T19.setTop (mkF m 193 #[.val (.int p1), .val (.int p2), .val (.int p3), .val (.int p4), .val (.long q5), .second, .val (.int p6), .val (.int cm), .val (.int fm), .val (.int ob), .val (.ref b1), .val (.int cc), .val (.int zf), .val (.long cf), .second, .val (.int cb), .val (.ref r7), .val (.int (if cc = (0 : Int32) then cm else cc)), .val (.long (if cf = (0 : Int64) then (fm.toInt64) else cf)), .second] [(.ref b1)]))
  obtain ⟨cq21, kq21, q21a, q21b, q21c⟩ := isOf hZ ee19 f8
  obtain ⟨_, _, ⟨T21, L21, k21, n21⟩, -, X21, ⟨Lc21, hQ21, l21, y21, z21⟩, st21⟩ := X19.virtualBack hx (y := (⟨"com/example/notched_ledger/notchedledger/amqp/Tuning", "channelMax", "()I"⟩ : MethodName)) (z := (⟨"com/example/notched_ledger/notchedledger/amqp/Tuning", "channelMax", "()I"⟩ : MethodName)) hown (mvT hZ (hw _ (List.mem_of_getElem? (i := 31) rfl))) (mvT hZ (hw _ (List.mem_of_getElem? (i := 32) rfl))) (notFace_of_selects (args := #[]) (mvT hZ (hw _ (List.mem_of_getElem? (i := 34) rfl)))) (mvT hZ (hw _ (List.mem_of_getElem? (i := 34) rfl))) (mvT hZ (hw _ (List.mem_of_getElem? (i := 33) rfl))) (by decide) (backOf (W := 0) (rm5 l Z a0 hw [] b1 cm T7.heap n0 z12 f9) hZ (hw _ (List.mem_of_getElem? (i := 35) rfl)) (hw _ (List.mem_of_getElem? (i := 5) rfl)) (by decide) (by decide)) q21a q21c (g := (mkF m 193 #[.val (.int p1), .val (.int p2), .val (.int p3), .val (.int p4), .val (.long q5), .second, .val (.int p6), .val (.int cm), .val (.int fm), .val (.int ob), .val (.ref b1), .val (.int cc), .val (.int zf), .val (.long cf), .second, .val (.int cb), .val (.ref r7), .val (.int (if cc = (0 : Int32) then cm else cc)), .val (.long (if cf = (0 : Int64) then (fm.toInt64) else cf)), .second] [(.ref b1)])) rfl (by rw [hml]; rfl) (Steps.refl _) (argsL := []) (rest := []) (lenOf pd_3 rfl) rfl (by show 2 * 0 + _ ≤ _; exact Nat.le_of_eq rfl) (hb hby at_193) (fun _ _ => ⟨rfl, ee19, (by decide : 2 + 0 ≤ _), (by decide : 6 + 0 ≤ _)⟩)
  dsimp only [Pt.U, Pt.locs, Pt.cells, Pt.slots] at X21 l21 y21 z21 st21 hQ21
  subst l21 y21 z21
  obtain ⟨rfl, Nq21, ee21⟩ := hQ21
  have N21 := Fr.app N19 Nq21
  refine Go.tr st21 ?_
  show Go p.tables e below _ (T21.setTop (mkF m 196 #[.val (.int p1), .val (.int p2), .val (.int p3), .val (.int p4), .val (.long q5), .second, .val (.int p6), .val (.int cm), .val (.int fm), .val (.int ob), .val (.ref b1), .val (.int cc), .val (.int zf), .val (.long cf), .second, .val (.int cb), .val (.ref r7), .val (.int (if cc = (0 : Int32) then cm else cc)), .val (.long (if cf = (0 : Int64) then (fm.toInt64) else cf)), .second] [(.int cm)]))
  refine Go.st (fun U hr => XS.iload X21.here hx rfl (hb hby at_196) rfl hr) ?_
  show Go p.tables e below _ (T21.setTop (mkF m 198 #[.val (.int p1), .val (.int p2), .val (.int p3), .val (.int p4), .val (.long q5), .second, .val (.int p6), .val (.int cm), .val (.int fm), .val (.int ob), .val (.ref b1), .val (.int cc), .val (.int zf), .val (.long cf), .second, .val (.int cb), .val (.ref r7), .val (.int (if cc = (0 : Int32) then cm else cc)), .val (.long (if cf = (0 : Int64) then (fm.toInt64) else cf)), .second] [(.int cm), (.int cm)]))
  have hc198_22 : cm = cm := rfl
  refine Go.st (fun U hr => XS.icmpNo X21.here hx rfl (hb hby at_198) rfl (teq hc198_22).2 hr) ?_
  show Go p.tables e below _ (T21.setTop (mkF m 201 #[.val (.int p1), .val (.int p2), .val (.int p3), .val (.int p4), .val (.long q5), .second, .val (.int p6), .val (.int cm), .val (.int fm), .val (.int ob), .val (.ref b1), .val (.int cc), .val (.int zf), .val (.long cf), .second, .val (.int cb), .val (.ref r7), .val (.int (if cc = (0 : Int32) then cm else cc)), .val (.long (if cf = (0 : Int64) then (fm.toInt64) else cf)), .second] []))
  refine Go.st (fun U hr => XS.aload X21.here hx rfl (hb hby at_201) rfl rfl hr) ?_
  show Go p.tables e below _ (T21.setTop (mkF m 203 #[.val (.int p1), .val (.int p2), .val (.int p3), .val (.int p4), .val (.long q5), .second, .val (.int p6), .val (.int cm), .val (.int fm), .val (.int ob), .val (.ref b1), .val (.int cc), .val (.int zf), .val (.long cf), .second, .val (.int cb), .val (.ref r7), .val (.int (if cc = (0 : Int32) then cm else cc)), .val (.long (if cf = (0 : Int64) then (fm.toInt64) else cf)), .second] [(.ref b1)]))
  obtain ⟨cq23, kq23, q23a, q23b, q23c⟩ := isOf hZ ee21 f8
  obtain ⟨_, _, ⟨T23, L23, k23, n23⟩, -, X23, ⟨Lc23, hQ23, l23, y23, z23⟩, st23⟩ := X21.virtualBack hx (y := (⟨"com/example/notched_ledger/notchedledger/amqp/Tuning", "frameMax", "()I"⟩ : MethodName)) (z := (⟨"com/example/notched_ledger/notchedledger/amqp/Tuning", "frameMax", "()I"⟩ : MethodName)) hown (mvT hZ (hw _ (List.mem_of_getElem? (i := 36) rfl))) (mvT hZ (hw _ (List.mem_of_getElem? (i := 37) rfl))) (notFace_of_selects (args := #[]) (mvT hZ (hw _ (List.mem_of_getElem? (i := 39) rfl)))) (mvT hZ (hw _ (List.mem_of_getElem? (i := 39) rfl))) (mvT hZ (hw _ (List.mem_of_getElem? (i := 38) rfl))) (by decide) (backOf (W := 0) (rm6 l Z a0 hw [] b1 fm T7.heap n0 z12 f10) hZ (hw _ (List.mem_of_getElem? (i := 40) rfl)) (hw _ (List.mem_of_getElem? (i := 5) rfl)) (by decide) (by decide)) q23a q23c (g := (mkF m 203 #[.val (.int p1), .val (.int p2), .val (.int p3), .val (.int p4), .val (.long q5), .second, .val (.int p6), .val (.int cm), .val (.int fm), .val (.int ob), .val (.ref b1), .val (.int cc), .val (.int zf), .val (.long cf), .second, .val (.int cb), .val (.ref r7), .val (.int (if cc = (0 : Int32) then cm else cc)), .val (.long (if cf = (0 : Int64) then (fm.toInt64) else cf)), .second] [(.ref b1)])) rfl (by rw [hml]; rfl) (Steps.refl _) (argsL := []) (rest := []) (lenOf pd_3 rfl) rfl (by show 2 * 0 + _ ≤ _; exact Nat.le_of_eq rfl) (hb hby at_203) (fun _ _ => ⟨rfl, ee21, (by decide : 2 + 0 ≤ _), (by decide : 6 + 0 ≤ _)⟩)
  dsimp only [Pt.U, Pt.locs, Pt.cells, Pt.slots] at X23 l23 y23 z23 st23 hQ23
  subst l23 y23 z23
  obtain ⟨rfl, Nq23, ee23⟩ := hQ23
  have N23 := Fr.app N21 Nq23
  refine Go.tr st23 ?_
  show Go p.tables e below _ (T23.setTop (mkF m 206 #[.val (.int p1), .val (.int p2), .val (.int p3), .val (.int p4), .val (.long q5), .second, .val (.int p6), .val (.int cm), .val (.int fm), .val (.int ob), .val (.ref b1), .val (.int cc), .val (.int zf), .val (.long cf), .second, .val (.int cb), .val (.ref r7), .val (.int (if cc = (0 : Int32) then cm else cc)), .val (.long (if cf = (0 : Int64) then (fm.toInt64) else cf)), .second] [(.int fm)]))
  refine Go.st (fun U hr => XS.iload X23.here hx rfl (hb hby at_206) rfl hr) ?_
  show Go p.tables e below _ (T23.setTop (mkF m 208 #[.val (.int p1), .val (.int p2), .val (.int p3), .val (.int p4), .val (.long q5), .second, .val (.int p6), .val (.int cm), .val (.int fm), .val (.int ob), .val (.ref b1), .val (.int cc), .val (.int zf), .val (.long cf), .second, .val (.int cb), .val (.ref r7), .val (.int (if cc = (0 : Int32) then cm else cc)), .val (.long (if cf = (0 : Int64) then (fm.toInt64) else cf)), .second] [(.int fm), (.int fm)]))
  have hc208_24 : fm = fm := rfl
  refine Go.st (fun U hr => XS.icmpNo X23.here hx rfl (hb hby at_208) rfl (teq hc208_24).2 hr) ?_
  show Go p.tables e below _ (T23.setTop (mkF m 211 #[.val (.int p1), .val (.int p2), .val (.int p3), .val (.int p4), .val (.long q5), .second, .val (.int p6), .val (.int cm), .val (.int fm), .val (.int ob), .val (.ref b1), .val (.int cc), .val (.int zf), .val (.long cf), .second, .val (.int cb), .val (.ref r7), .val (.int (if cc = (0 : Int32) then cm else cc)), .val (.long (if cf = (0 : Int64) then (fm.toInt64) else cf)), .second] []))
  refine Go.st (fun U hr => XS.aload X23.here hx rfl (hb hby at_211) rfl rfl hr) ?_
  show Go p.tables e below _ (T23.setTop (mkF m 213 #[.val (.int p1), .val (.int p2), .val (.int p3), .val (.int p4), .val (.long q5), .second, .val (.int p6), .val (.int cm), .val (.int fm), .val (.int ob), .val (.ref b1), .val (.int cc), .val (.int zf), .val (.long cf), .second, .val (.int cb), .val (.ref r7), .val (.int (if cc = (0 : Int32) then cm else cc)), .val (.long (if cf = (0 : Int64) then (fm.toInt64) else cf)), .second] [(.ref b1)]))
  obtain ⟨cq25, kq25, q25a, q25b, q25c⟩ := isOf hZ ee23 f8
  obtain ⟨_, _, ⟨T25, L25, k25, n25⟩, -, X25, ⟨Lc25, hQ25, l25, y25, z25⟩, st25⟩ := X23.virtualBack hx (y := (⟨"com/example/notched_ledger/notchedledger/amqp/Tuning", "heartbeatSeconds", "()I"⟩ : MethodName)) (z := (⟨"com/example/notched_ledger/notchedledger/amqp/Tuning", "heartbeatSeconds", "()I"⟩ : MethodName)) hown (mvT hZ (hw _ (List.mem_of_getElem? (i := 41) rfl))) (mvT hZ (hw _ (List.mem_of_getElem? (i := 42) rfl))) (notFace_of_selects (args := #[]) (mvT hZ (hw _ (List.mem_of_getElem? (i := 44) rfl)))) (mvT hZ (hw _ (List.mem_of_getElem? (i := 44) rfl))) (mvT hZ (hw _ (List.mem_of_getElem? (i := 43) rfl))) (by decide) (backOf (W := 0) (rm7 l Z a0 hw [] b1 ob T7.heap n0 z12 f11) hZ (hw _ (List.mem_of_getElem? (i := 45) rfl)) (hw _ (List.mem_of_getElem? (i := 5) rfl)) (by decide) (by decide)) q25a q25c (g := (mkF m 213 #[.val (.int p1), .val (.int p2), .val (.int p3), .val (.int p4), .val (.long q5), .second, .val (.int p6), .val (.int cm), .val (.int fm), .val (.int ob), .val (.ref b1), .val (.int cc), .val (.int zf), .val (.long cf), .second, .val (.int cb), .val (.ref r7), .val (.int (if cc = (0 : Int32) then cm else cc)), .val (.long (if cf = (0 : Int64) then (fm.toInt64) else cf)), .second] [(.ref b1)])) rfl (by rw [hml]; rfl) (Steps.refl _) (argsL := []) (rest := []) (lenOf pd_3 rfl) rfl (by show 2 * 0 + _ ≤ _; exact Nat.le_of_eq rfl) (hb hby at_213) (fun _ _ => ⟨rfl, ee23, (by decide : 2 + 0 ≤ _), (by decide : 6 + 0 ≤ _)⟩)
  dsimp only [Pt.U, Pt.locs, Pt.cells, Pt.slots] at X25 l25 y25 z25 st25 hQ25
  subst l25 y25 z25
  obtain ⟨rfl, Nq25, ee25⟩ := hQ25
  have N25 := Fr.app N23 Nq25
  refine Go.tr st25 ?_
  show Go p.tables e below _ (T25.setTop (mkF m 216 #[.val (.int p1), .val (.int p2), .val (.int p3), .val (.int p4), .val (.long q5), .second, .val (.int p6), .val (.int cm), .val (.int fm), .val (.int ob), .val (.ref b1), .val (.int cc), .val (.int zf), .val (.long cf), .second, .val (.int cb), .val (.ref r7), .val (.int (if cc = (0 : Int32) then cm else cc)), .val (.long (if cf = (0 : Int64) then (fm.toInt64) else cf)), .second] [(.int ob)]))
  refine Go.st (fun U hr => XS.iload X25.here hx rfl (hb hby at_216) rfl hr) ?_
  show Go p.tables e below _ (T25.setTop (mkF m 218 #[.val (.int p1), .val (.int p2), .val (.int p3), .val (.int p4), .val (.long q5), .second, .val (.int p6), .val (.int cm), .val (.int fm), .val (.int ob), .val (.ref b1), .val (.int cc), .val (.int zf), .val (.long cf), .second, .val (.int cb), .val (.ref r7), .val (.int (if cc = (0 : Int32) then cm else cc)), .val (.long (if cf = (0 : Int64) then (fm.toInt64) else cf)), .second] [(.int ob), (.int ob)]))
  have hc218_26 : ob = ob := rfl
  refine Go.st (fun U hr => XS.icmpNo X25.here hx rfl (hb hby at_218) rfl (teq hc218_26).2 hr) ?_
  show Go p.tables e below _ (T25.setTop (mkF m 221 #[.val (.int p1), .val (.int p2), .val (.int p3), .val (.int p4), .val (.long q5), .second, .val (.int p6), .val (.int cm), .val (.int fm), .val (.int ob), .val (.ref b1), .val (.int cc), .val (.int zf), .val (.long cf), .second, .val (.int cb), .val (.ref r7), .val (.int (if cc = (0 : Int32) then cm else cc)), .val (.long (if cf = (0 : Int64) then (fm.toInt64) else cf)), .second] []))
  refine Go.st (fun U hr => XS.iconst X25.here hx rfl (hb hby at_221) hr) ?_
  show Go p.tables e below _ (T25.setTop (mkF m 222 #[.val (.int p1), .val (.int p2), .val (.int p3), .val (.int p4), .val (.long q5), .second, .val (.int p6), .val (.int cm), .val (.int fm), .val (.int ob), .val (.ref b1), .val (.int cc), .val (.int zf), .val (.long cf), .second, .val (.int cb), .val (.ref r7), .val (.int (if cc = (0 : Int32) then cm else cc)), .val (.long (if cf = (0 : Int64) then (fm.toInt64) else cf)), .second] [(.int (1 : Int32))]))
  refine Go.st (fun U hr => XS.goto X25.here hx rfl (pc0 := 222) (pc' := 226) rfl (hb hby at_222) (by decide) (by decide) hr) ?_
  show Go p.tables e below _ (T25.setTop (mkF m 226 #[.val (.int p1), .val (.int p2), .val (.int p3), .val (.int p4), .val (.long q5), .second, .val (.int p6), .val (.int cm), .val (.int fm), .val (.int ob), .val (.ref b1), .val (.int cc), .val (.int zf), .val (.long cf), .second, .val (.int cb), .val (.ref r7), .val (.int (if cc = (0 : Int32) then cm else cc)), .val (.long (if cf = (0 : Int64) then (fm.toInt64) else cf)), .second] [(.int (1 : Int32))]))
  exact own_retN X25 hx Bd.notSynchronized (t := .boolean) Bd.returns (by simp) (hb hby at_226) ⟨rfl, N25⟩ (by decide) (by decide)
set_option maxRecDepth 65536 in
set_option maxHeartbeats 40000000 in
theorem comes_1 {Post : Tables → Env → Array Value → State → Outcome → State → Prop} (hpost : ∀ tb e args s v u, (limb_1_1.after args s (.returned v) u = true ∧ limb_1_2.after args s (.returned v) u = true ∧ True) → FrameEnd s (.returned v) u (Jvm.fieldLocs frame_1_writes args s ++ Jvm.arrayLocs frame_1_arrays args s ++ Jvm.staticLocs frame_1_statics s) 16 128 → Post tb e args s (.returned v) u) :
    ArmFor flags0 classFile x code maxLocals ret World_1 tables_1 room_1 Calls_1 rest_1 Pre_1 Post := by
  intro l hfl _ _ p e ha hc hk s m args below hf hA hF happ hP
  obtain ⟨hcalls, hrest, hpre⟩ := hP
  obtain ⟨-, -, -, hnamed, -, -, -, hat⟩ := (Spec.applies_iff hf).mp happ
  obtain ⟨hg, hn⟩ := and_e (Cond.before_iff.mp (show (Jvm.Cond.and given_1 narrow_1).before args s = true from hpre))
  obtain ⟨h1, h2⟩ := and_e hg
  obtain ⟨w0, w1, w2, w3, w4, w5, rfl⟩ : ∃ w0 w1 w2 w3 w4 w5 : Value, args = #[w0, w1, w2, w3, w4, w5] := by
    have hs : args.size = 6 := by simpa [Cond.value, given_1] using h1
    obtain ⟨L⟩ := args
    match L, hs with
    | [w0, w1, w2, w3, w4, w5], _ => exact ⟨w0, w1, w2, w3, w4, w5, rfl⟩
  have hw := fun d (hd : d ∈ tables_1) => atoms_spec (ws := Jvm.Cond.code x code maxLocals ret :: tables_1) hat d (List.mem_cons_of_mem _ hd)
  have hfit : Fit s := fun {y c} hc i hi => by
    obtain ⟨ha, rfl⟩ := Array.getElem?_eq_some_iff.mp hc
    have q := List.all_eq_true.mp ((Array.all_eq_true_iff_forall_mem.mp hF) _ (Array.getElem_mem ha)) i (List.mem_range.mpr hi)
    simpa [Array.getElem?_eq_getElem hi] using q
  obtain ⟨ha0, hb0⟩ := and_e h2
  obtain ⟨i0, e0⟩ := is_v ha0
  obtain rfl : w0 = (.int i0) := Option.some.inj e0
  obtain ⟨ha1, hb1⟩ := and_e hb0
  obtain ⟨i1, e1⟩ := is_v ha1
  obtain rfl : w1 = (.int i1) := Option.some.inj e1
  obtain ⟨ha2, hb2⟩ := and_e hb1
  obtain ⟨i2, e2⟩ := is_v ha2
  obtain rfl : w2 = (.int i2) := Option.some.inj e2
  obtain ⟨ha3, hb3⟩ := and_e hb2
  obtain ⟨i3, e3⟩ := is_v ha3
  obtain rfl : w3 = (.int i3) := Option.some.inj e3
  obtain ⟨ha4, hb4⟩ := and_e hb3
  obtain ⟨i4, e4⟩ := isL_v ha4
  obtain rfl : w4 = (.long i4) := Option.some.inj e4
  obtain ⟨i5, e5⟩ := is_v hb4
  obtain rfl : w5 = (.int i5) := Option.some.inj e5
  obtain ⟨n, o, h1, h2, h3, _, L, rfl, ⟨rfl, N⟩, hq⟩ := rm0 l s _ hw tables_1 i0 i1 i2 i3 i4 i5 s.heap s.heap.size (Nat.le_refl _)  p e ha hc hk s m _ below hf ((Spec.applies_iff_loose hf).mp happ).1 ⟨rfl, State.Warmed39.refl s, rfl⟩ trivial
  refine ⟨n, _, h1, h2, h3, hpost _ _ _ _ _ _ ⟨Cond.after_iff.mpr rfl, Cond.after_iff.mpr (eq_i res_at (Term.int_eval (1)) rfl), trivial⟩ ⟨hq.1, hq.2.1, (hq.2.2.sift fun y hy => Or.inr (N y hy)).mono (by decide) (by decide)⟩⟩
theorem main_1_1 : Claimed_1_1 := comes_1 fun _ _ _ _ _ _ h hF => ⟨h.1, hF⟩
theorem main_1_2 : Claimed_1_2 := comes_1 fun _ _ _ _ _ _ h hF => ⟨h.2.1, hF⟩
end Jvm.Pilot.@@N@@
namespace Jvm.Pilot.@@N@@
open Jvm Jvm.ClassFile Sem Op Lib Jvm.Free Jvm.Stand Jvm.Pilot.@@N@@.Jvm.D
/-! MADE BY PROGRAM (witnessworld.py) out of the Statement's table words and the real class files: 10 classes; the members and pool entries that the words name. The judged class is class 1, her method 1. -/
namespace start1
open Jvm.ClassFile
def u (s : String) : CpInfo := .utf8 (stringToUtf16 s)
/-- a pool by its gaps: so many unusable entries, then the entry; so many at the end -/
def gap : Nat → List CpInfo → List CpInfo
  | 0, r => r
  | n + 1, r => .unusable :: gap n r
def poolList (es : List (Nat × CpInfo)) (last : Nat) : List CpInfo := es.foldr (fun e r => gap e.1 (e.2 :: r)) (gap last [])
def pool (es : List (Nat × CpInfo)) (last : Nat) : Array CpInfo := ⟨poolList es last⟩
def fileOf (pool : Array CpInfo) (this : Nat) (attrs : Array Attribute := #[]) (ms : Array MethodInfo := #[]) (fl : Nat := 33) (sup : Nat := 0) (ifs : Array Nat := #[]) (fds : Array FieldInfo := #[]) : ClassFile where
  minorVersion := 0
  majorVersion := 65
  constantPool := pool
  accessFlags := fl
  thisClass := this
  superClass := sup
  interfaces := ifs
  fields := fds
  methods := ms
  attributes := attrs
def plain (name : String) (sup : Option ClassId) : Class where
  name := name
  kind := .ordinary
  loader := none
  accessFlags := 33
  super := sup
  interfaces := #[]
  cf := none
  fields := #[]
  methods := #[]
  instanceTypes := #[]
  staticTypes := #[]
  resolved := #[]
  callSites := []
  init := .initialized
  statics := none
  mirror := none

def pool0 : Array CpInfo := pool [(5, u "<init>"), (0, u "()V"), (1, .class_ 10), (1, u "java/lang/Object")] 113

def k0c0 : Code := { maxStack := 0, maxLocals := 1, code := object_method_1_code, exceptionTable := #[], attributes := #[] }
def k0m0 : Method := { name := "<init>", desc := "()V", sig := { parameters := [], returnType := none }, accessFlags := 1, code := some k0c0 }
/-- java/lang/Object -/
def k0 : Class := { plain "java/lang/Object" none with
  accessFlags := 33
  interfaces := #[]
  cf := some (fileOf pool0 8 #[] #[{ accessFlags := 1, nameIndex := 5, descriptorIndex := 6, attributes := #[] }] 33 0 #[] #[])
  fields := #[]
  methods := #[k0m0]
  instanceTypes := #[]
  staticTypes := #[]
  resolved := Array.replicate 124 none
  statics := none }

def pool1 : Array CpInfo := pool [(2, .class_ 4), (1, u "java/lang/Object"), (0, u "<init>"), (0, u "()V"), (0, .integer 2147483647), (0, .integer 65535), (0, .integer 2147479552), (0, .class_ 11), (0, u "com/example/notched_ledger/notchedledger/amqp/Tuning"), (0, .methodref 10 13), (0, .nameAndType 5 14), (0, u "(III)V"), (0, .long 4096), (3, .long 9223372036854775807), (1, .long 4095), (1, .methodref 10 24), (0, .nameAndType 25 26), (0, u "negotiate"), (0, u "(IJI)Lcom/example/notched_ledger/notchedledger/amqp/Tuning;"), (0, .methodref 10 28), (0, .nameAndType 29 30), (0, u "channelMax"), (0, u "()I"), (0, .methodref 10 32), (0, .nameAndType 33 30), (0, u "frameMax"), (0, .methodref 10 35), (0, .nameAndType 36 30), (0, u "heartbeatSeconds"), (0, .class_ 38), (0, u "com/example/notched_ledger/notchedledger/amqp/TuningNegotiatePinLaw"), (2, u "law"), (0, u "(IIIIJI)Z")] 6

def k1m0 : Method := { name := "<init>", desc := "()V", sig := { parameters := [], returnType := none }, accessFlags := 1, code := none }
def k1c1 : Code := { maxStack := 8, maxLocals := 20, code := code, exceptionTable := #[], attributes := #[] }
def k1m1 : Method := { name := "law", desc := "(IIIIJI)Z", sig := { parameters := [.int, .int, .int, .int, .long, .int], returnType := some .boolean }, accessFlags := 9, code := some k1c1 }
/-- com/example/notched_ledger/notchedledger/amqp/TuningNegotiatePinLaw -/
def k1 : Class := { plain "com/example/notched_ledger/notchedledger/amqp/TuningNegotiatePinLaw" (some 0) with
  accessFlags := 49
  interfaces := #[]
  cf := some (fileOf pool1 37 #[] #[{ accessFlags := 1, nameIndex := 5, descriptorIndex := 6, attributes := #[] }, { accessFlags := 9, nameIndex := 41, descriptorIndex := 42, attributes := #[] }] 49 2 #[] #[])
  fields := #[]
  methods := #[k1m0, k1m1]
  instanceTypes := #[]
  staticTypes := #[]
  resolved := Array.replicate 49 none
  statics := none }

def pool2 : Array CpInfo := pool [(1, .methodref 2 3), (0, .class_ 4), (0, .nameAndType 5 6), (0, u "java/lang/Object"), (0, u "<init>"), (0, u "()V"), (0, .class_ 8), (0, u "java/lang/Record")] 13

def k2c0 : Code := { maxStack := 1, maxLocals := 1, code := jdk_30_method_1_code, exceptionTable := #[], attributes := #[] }
def k2m0 : Method := { name := "<init>", desc := "()V", sig := { parameters := [], returnType := none }, accessFlags := 4, code := some k2c0 }
/-- java/lang/Record -/
def k2 : Class := { plain "java/lang/Record" (some 0) with
  accessFlags := 1057
  interfaces := #[]
  cf := some (fileOf pool2 7 #[] #[{ accessFlags := 4, nameIndex := 5, descriptorIndex := 6, attributes := #[] }] 1057 2 #[] #[])
  fields := #[]
  methods := #[k2m0]
  instanceTypes := #[]
  staticTypes := #[]
  resolved := Array.replicate 22 none
  statics := none }

def pool3 : Array CpInfo := pool [(1, .methodref 2 3), (0, .class_ 4), (0, .nameAndType 5 6), (0, u "java/lang/Record"), (0, u "<init>"), (0, u "()V"), (0, .class_ 8), (0, u "com/example/notched_ledger/notchedledger/amqp/Tuning"), (0, .integer 65535), (11, .fieldref 7 22), (0, .nameAndType 23 24), (0, u "channelMax"), (0, u "I"), (0, .fieldref 7 26), (0, .nameAndType 27 24), (0, u "frameMax"), (0, .fieldref 7 29), (0, .nameAndType 30 24), (0, u "heartbeatSeconds"), (0, .class_ 32), (0, u "com/example/notched_ledger/notchedledger/amqp/Tuning$RefusedException"), (7, .long 4096), (4, .methodref 7 46), (0, .nameAndType 5 47), (0, u "(III)V"), (15, u "OFFERED"), (0, u "Lcom/example/notched_ledger/notchedledger/amqp/Tuning;"), (0, u "FRAME_MIN_SIZE"), (2, u "UNSIGNED_SHORT_MAX"), (4, u "negotiate"), (0, u "(IJI)Lcom/example/notched_ledger/notchedledger/amqp/Tuning;"), (2, u "()I")] 44

def k3c0 : Code := { maxStack := 3, maxLocals := 4, code := prog_5_method_1_code, exceptionTable := #[], attributes := #[] }
def k3m0 : Method := { name := "<init>", desc := "(III)V", sig := { parameters := [.int, .int, .int], returnType := none }, accessFlags := 1, code := some k3c0 }
def k3c1 : Code := { maxStack := 5, maxLocals := 7, code := prog_5_method_2_code, exceptionTable := #[], attributes := #[] }
def k3m1 : Method := { name := "negotiate", desc := "(IJI)Lcom/example/notched_ledger/notchedledger/amqp/Tuning;", sig := { parameters := [.int, .long, .int], returnType := some (.object "com/example/notched_ledger/notchedledger/amqp/Tuning") }, accessFlags := 1, code := some k3c1 }
def k3c2 : Code := { maxStack := 1, maxLocals := 1, code := prog_5_method_6_code, exceptionTable := #[], attributes := #[] }
def k3m2 : Method := { name := "channelMax", desc := "()I", sig := { parameters := [], returnType := some .int }, accessFlags := 1, code := some k3c2 }
def k3c3 : Code := { maxStack := 1, maxLocals := 1, code := prog_5_method_7_code, exceptionTable := #[], attributes := #[] }
def k3m3 : Method := { name := "frameMax", desc := "()I", sig := { parameters := [], returnType := some .int }, accessFlags := 1, code := some k3c3 }
def k3c4 : Code := { maxStack := 1, maxLocals := 1, code := prog_5_method_8_code, exceptionTable := #[], attributes := #[] }
def k3m4 : Method := { name := "heartbeatSeconds", desc := "()I", sig := { parameters := [], returnType := some .int }, accessFlags := 1, code := some k3c4 }
/-- com/example/notched_ledger/notchedledger/amqp/Tuning -/
def k3 : Class := { plain "com/example/notched_ledger/notchedledger/amqp/Tuning" (some 2) with
  accessFlags := 49
  interfaces := #[]
  cf := some (fileOf pool3 7 #[.nestMembers #[31]] #[{ accessFlags := 1, nameIndex := 5, descriptorIndex := 47, attributes := #[] }, { accessFlags := 1, nameIndex := 73, descriptorIndex := 74, attributes := #[] }, { accessFlags := 1, nameIndex := 23, descriptorIndex := 77, attributes := #[] }, { accessFlags := 1, nameIndex := 27, descriptorIndex := 77, attributes := #[] }, { accessFlags := 1, nameIndex := 30, descriptorIndex := 77, attributes := #[] }] 49 2 #[] #[{ accessFlags := 18, nameIndex := 23, descriptorIndex := 24, attributes := #[] }, { accessFlags := 18, nameIndex := 27, descriptorIndex := 24, attributes := #[] }, { accessFlags := 18, nameIndex := 30, descriptorIndex := 24, attributes := #[] }, { accessFlags := 25, nameIndex := 65, descriptorIndex := 24, attributes := #[] }, { accessFlags := 25, nameIndex := 63, descriptorIndex := 64, attributes := #[] }, { accessFlags := 26, nameIndex := 68, descriptorIndex := 24, attributes := #[] }])
  fields := #[{ name := "channelMax", type := .int, accessFlags := 18, slot := 0, constantValue := 0 }, { name := "frameMax", type := .int, accessFlags := 18, slot := 1, constantValue := 0 }, { name := "heartbeatSeconds", type := .int, accessFlags := 18, slot := 2, constantValue := 0 }, { name := "FRAME_MIN_SIZE", type := .int, accessFlags := 25, slot := 0, constantValue := 0 }, { name := "OFFERED", type := (.object "com/example/notched_ledger/notchedledger/amqp/Tuning"), accessFlags := 25, slot := 1, constantValue := 0 }, { name := "UNSIGNED_SHORT_MAX", type := .int, accessFlags := 26, slot := 2, constantValue := 0 }]
  methods := #[k3m0, k3m1, k3m2, k3m3, k3m4]
  instanceTypes := #[.int, .int, .int]
  staticTypes := #[.int, (.object "com/example/notched_ledger/notchedledger/amqp/Tuning"), .int]
  resolved := Array.replicate 122 none
  statics := none }

def pool4 : Array CpInfo := pool [(1, u "java/lang/Cloneable"), (0, .class_ 1), (0, u "java/lang/Object"), (0, .class_ 3)] 3

/-- java/lang/Cloneable -/
def k4 : Class := { plain "java/lang/Cloneable" (some 0) with
  accessFlags := 1537
  interfaces := #[]
  cf := some (fileOf pool4 2 #[] #[] 1537 4 #[] #[])
  fields := #[]
  methods := #[]
  instanceTypes := #[]
  staticTypes := #[]
  resolved := Array.replicate 8 none
  statics := none }

def pool5 : Array CpInfo := pool [(1, u "java/io/Serializable"), (0, .class_ 1), (0, u "java/lang/Object"), (0, .class_ 3)] 3

/-- java/io/Serializable -/
def k5 : Class := { plain "java/io/Serializable" (some 0) with
  accessFlags := 1537
  interfaces := #[]
  cf := some (fileOf pool5 2 #[] #[] 1537 4 #[] #[])
  fields := #[]
  methods := #[]
  instanceTypes := #[]
  staticTypes := #[]
  resolved := Array.replicate 8 none
  statics := none }

/-- the primitive byte -/
def k6 : Class := { plain "byte" none with kind := .primitive 'B', accessFlags := 0x411 }
/-- [B -/
def k7 : Class := { plain "[B" (some 0) with kind := .array 6 .byte, interfaces := #[4, 5], accessFlags := 1041 }

/-- the primitive int -/
def k8 : Class := { plain "int" none with kind := .primitive 'I', accessFlags := 0x411 }
/-- [I -/
def k9 : Class := { plain "[I" (some 0) with kind := .array 8 .int, interfaces := #[4, 5], accessFlags := 1041 }

def heap : Heap := #[]
def classes : Array Class := #[k0, k1, k2, k3, k4, k5, k6, k7, k8, k9]
def interned : List (Array UInt16 × Addr) := []
def slotsUsed : Nat := 0
def theMethod : MethodId := ⟨1, 1⟩
def args0 : Array Value := #[.int 5, .int 300, .int 7, .int 9, .long 77, .int 70000]
def aboutOver (below : List Frame) : State where
  vm := { classes := classes, interned := interned.toArray }
  heap := heap
  slotsUsed := slotsUsed
  threads := #[{ frames := .invoking theMethod args0 :: below }]
def below0 : List Frame := [.native { method := ⟨0, 0⟩, args := #[] }]
def about1 : State := aboutOver below0
def p0 : Program := .bare "" "" ""
def e0 : Env := launch0.env 0 0 0
theorem w_frames : about1.frames = Frame.invoking theMethod args0 :: below0 := rfl
set_option maxRecDepth 65536 in
theorem w_args : argsFit about1.vm theMethod args0 = true := by decide +kernel
set_option maxRecDepth 65536 in
theorem w_heap : heapFits about1 = true := by decide +kernel
set_option maxRecDepth 65536 in
theorem w_runnable : about1.curStatus? = some .runnable := by decide +kernel
set_option maxRecDepth 65536 in
theorem w_alone : about1.alone = true := by decide +kernel
set_option maxRecDepth 65536 in
theorem w_named : about1.methodNamed? x = some theMethod := by decide +kernel
set_option maxRecDepth 65536 in
theorem w_hears : about1.hears theMethod below0 = true := by decide +kernel
set_option maxRecDepth 65536 in
theorem w_ripe : about1.ripe theMethod args0 below0 = true := by decide +kernel
theorem w_running : about1.status = .running := rfl
set_option maxRecDepth 65536 in
theorem w_room : about1.hasRoom e0.platform room_1 = true :=
  launch0.hasRoom_least _ room_1 (by decide +kernel) (by decide +kernel) (by decide +kernel) (by decide +kernel) (by decide +kernel) (by decide +kernel)
theorem allAtoms_all (ts : List Jvm.Cond) (a : Array Jvm.Value) (st : Jvm.State) : (allAtoms ts).before a st = ts.all (fun c => c.before a st) := by
  induction ts with
  | nil => rfl
  | cons c t ih =>
    show (Jvm.Cond.and c (allAtoms t)).before a st = _
    rw [Jvm.Cond.before_and, ih, List.all_cons]
def words1 : List Jvm.Cond := Jvm.Cond.code x code maxLocals ret :: tables_1
/-- a 'code' word, met by the world's own term for the bytes: nothing is compared byte by byte -/
theorem code_word {y : MethodName} {bytes : ByteArray} {mx : Nat} {rt : Option FieldType} {a : Array Value} {s : State} {m : MethodId} {meth : Method} {c : Code} (h1 : s.methodNamed? y = some m) (h2 : s.vm.method? m = some meth) (h3 : meth.code = some c) (h4 : c.code = bytes)
    (h5 : (c.maxLocals == mx && c.exceptionTable.isEmpty && decide (c.maxStack ≤ mostOperands) && decide (meth.sig.returnType = rt) && !meth.locks && decide (parseMethodDescriptor y.desc = some meth.sig)) = true) : (Jvm.Cond.code y bytes mx rt).before a s = true := by
  simp only [Bool.and_eq_true, beq_iff_eq, Bool.not_eq_true', decide_eq_true_eq] at h5
  obtain ⟨⟨⟨⟨⟨g1, g2⟩, g3⟩, g4⟩, g5⟩, g6⟩ := h5
  simp [Cond.before, Cond.holds, Cond.value, h1, h2, h3, h4, g1, g2, g3, g4, g5, g6]
def isCode : Jvm.Cond → Bool
  | .code _ _ _ _ => true
  | _ => false
theorem all_split {L : List Jvm.Cond} {P : Jvm.Cond → Bool} (h1 : L.all (fun c => isCode c || P c) = true) (h2 : ∀ c ∈ L.filter isCode, P c = true) : L.all P = true := by
  refine List.all_eq_true.mpr fun c hc => ?_
  have h := List.all_eq_true.mp h1 c hc
  rcases Bool.eq_false_or_eq_true (isCode c) with hi | hi
  · exact h2 c (List.mem_filter.mpr ⟨hc, hi⟩)
  · simpa [hi] using h
set_option maxRecDepth 65536 in
theorem w_c0 : (Jvm.Cond.code x code maxLocals ret).before args0 about1 = true := code_word (m := ⟨1, 1⟩) (meth := k1m1) (c := k1c1) (by decide +kernel) rfl rfl rfl (by decide +kernel)
set_option maxRecDepth 65536 in
theorem w_c1 : (Jvm.Cond.code ({ cls := "com/example/notched_ledger/notchedledger/amqp/Tuning", name := "<init>", desc := "(III)V" } : Jvm.MethodName) prog_5_method_1_code (4 : Nat) (Option.none : Option Jvm.ClassFile.FieldType)).before args0 about1 = true := code_word (m := ⟨3, 0⟩) (meth := k3m0) (c := k3c0) (by decide +kernel) rfl rfl rfl (by decide +kernel)
set_option maxRecDepth 65536 in
theorem w_c2 : (Jvm.Cond.code ({ cls := "java/lang/Record", name := "<init>", desc := "()V" } : Jvm.MethodName) jdk_30_method_1_code (1 : Nat) (Option.none : Option Jvm.ClassFile.FieldType)).before args0 about1 = true := code_word (m := ⟨2, 0⟩) (meth := k2m0) (c := k2c0) (by decide +kernel) rfl rfl rfl (by decide +kernel)
set_option maxRecDepth 65536 in
theorem w_c3 : (Jvm.Cond.code ({ cls := "java/lang/Object", name := "<init>", desc := "()V" } : Jvm.MethodName) object_method_1_code (1 : Nat) (Option.none : Option Jvm.ClassFile.FieldType)).before args0 about1 = true := code_word (m := ⟨0, 0⟩) (meth := k0m0) (c := k0c0) (by decide +kernel) rfl rfl rfl (by decide +kernel)
set_option maxRecDepth 65536 in
theorem w_c4 : (Jvm.Cond.code ({ cls := "com/example/notched_ledger/notchedledger/amqp/Tuning", name := "negotiate", desc := "(IJI)Lcom/example/notched_ledger/notchedledger/amqp/Tuning;" } : Jvm.MethodName) prog_5_method_2_code (7 : Nat) (Option.some (Jvm.ClassFile.FieldType.object "com/example/notched_ledger/notchedledger/amqp/Tuning"))).before args0 about1 = true := code_word (m := ⟨3, 1⟩) (meth := k3m1) (c := k3c1) (by decide +kernel) rfl rfl rfl (by decide +kernel)
set_option maxRecDepth 65536 in
theorem w_c5 : (Jvm.Cond.code ({ cls := "com/example/notched_ledger/notchedledger/amqp/Tuning", name := "channelMax", desc := "()I" } : Jvm.MethodName) prog_5_method_6_code (1 : Nat) (Option.some Jvm.ClassFile.FieldType.int)).before args0 about1 = true := code_word (m := ⟨3, 2⟩) (meth := k3m2) (c := k3c2) (by decide +kernel) rfl rfl rfl (by decide +kernel)
set_option maxRecDepth 65536 in
theorem w_c6 : (Jvm.Cond.code ({ cls := "com/example/notched_ledger/notchedledger/amqp/Tuning", name := "frameMax", desc := "()I" } : Jvm.MethodName) prog_5_method_7_code (1 : Nat) (Option.some Jvm.ClassFile.FieldType.int)).before args0 about1 = true := code_word (m := ⟨3, 3⟩) (meth := k3m3) (c := k3c3) (by decide +kernel) rfl rfl rfl (by decide +kernel)
set_option maxRecDepth 65536 in
theorem w_c7 : (Jvm.Cond.code ({ cls := "com/example/notched_ledger/notchedledger/amqp/Tuning", name := "heartbeatSeconds", desc := "()I" } : Jvm.MethodName) prog_5_method_8_code (1 : Nat) (Option.some Jvm.ClassFile.FieldType.int)).before args0 about1 = true := code_word (m := ⟨3, 4⟩) (meth := k3m4) (c := k3c4) (by decide +kernel) rfl rfl rfl (by decide +kernel)
def codes1 : List Jvm.Cond := [Jvm.Cond.code x code maxLocals ret, Jvm.Cond.code ({ cls := "com/example/notched_ledger/notchedledger/amqp/Tuning", name := "<init>", desc := "(III)V" } : Jvm.MethodName) prog_5_method_1_code (4 : Nat) (Option.none : Option Jvm.ClassFile.FieldType), Jvm.Cond.code ({ cls := "java/lang/Record", name := "<init>", desc := "()V" } : Jvm.MethodName) jdk_30_method_1_code (1 : Nat) (Option.none : Option Jvm.ClassFile.FieldType), Jvm.Cond.code ({ cls := "java/lang/Object", name := "<init>", desc := "()V" } : Jvm.MethodName) object_method_1_code (1 : Nat) (Option.none : Option Jvm.ClassFile.FieldType), Jvm.Cond.code ({ cls := "com/example/notched_ledger/notchedledger/amqp/Tuning", name := "negotiate", desc := "(IJI)Lcom/example/notched_ledger/notchedledger/amqp/Tuning;" } : Jvm.MethodName) prog_5_method_2_code (7 : Nat) (Option.some (Jvm.ClassFile.FieldType.object "com/example/notched_ledger/notchedledger/amqp/Tuning")), Jvm.Cond.code ({ cls := "com/example/notched_ledger/notchedledger/amqp/Tuning", name := "channelMax", desc := "()I" } : Jvm.MethodName) prog_5_method_6_code (1 : Nat) (Option.some Jvm.ClassFile.FieldType.int), Jvm.Cond.code ({ cls := "com/example/notched_ledger/notchedledger/amqp/Tuning", name := "frameMax", desc := "()I" } : Jvm.MethodName) prog_5_method_7_code (1 : Nat) (Option.some Jvm.ClassFile.FieldType.int), Jvm.Cond.code ({ cls := "com/example/notched_ledger/notchedledger/amqp/Tuning", name := "heartbeatSeconds", desc := "()I" } : Jvm.MethodName) prog_5_method_8_code (1 : Nat) (Option.some Jvm.ClassFile.FieldType.int)]
set_option maxRecDepth 65536 in
theorem codes_eq : words1.filter isCode = codes1 := rfl
theorem w_codes : ∀ c ∈ words1.filter isCode, c.before args0 about1 = true := by
  rw [codes_eq]
  intro c hc
  simp only [codes1, List.mem_cons, List.not_mem_nil, or_false] at hc
  rcases hc with rfl | rfl | rfl | rfl | rfl | rfl | rfl | rfl
  · exact w_c0
  · exact w_c1
  · exact w_c2
  · exact w_c3
  · exact w_c4
  · exact w_c5
  · exact w_c6
  · exact w_c7
set_option maxRecDepth 65536 in
theorem w_t1 : (words1.take 24).all (fun c => isCode c || c.before args0 about1) = true := by decide +kernel
set_option maxRecDepth 65536 in
theorem w_t2 : ((words1.drop 24).take 24).all (fun c => isCode c || c.before args0 about1) = true := by decide +kernel
set_option maxRecDepth 65536 in
theorem w_t3 : ((words1.drop 24).drop 24).all (fun c => isCode c || c.before args0 about1) = true := by decide +kernel
theorem w_tables : (allAtoms (Jvm.Cond.code x code maxLocals ret :: tables_1)).before args0 about1 = true := by
  rw [allAtoms_all]
  show words1.all (fun c => c.before args0 about1) = true
  refine all_split ?_ w_codes
  rw [← List.take_append_drop 24 words1, List.all_append, w_t1, ← List.take_append_drop 24 (words1.drop 24), List.all_append, w_t2, w_t3]
  rfl
set_option maxRecDepth 65536 in
theorem w_case : (Jvm.Cond.and given_1 narrow_1).before args0 about1 = true := by decide +kernel
theorem w_applies : (headSpec (Jvm.Cond.code x code maxLocals ret :: tables_1) room_1).applies x e0.platform about1 = true :=
  (Spec.applies_iff w_frames).mpr ⟨w_running, w_runnable, w_alone, w_named, w_hears, w_ripe, w_room, w_tables⟩
theorem atStart : AtStart classFile x code maxLocals ret World_1 tables_1 room_1 Calls_1 rest_1 Pre_1 launch0 p0 e0 about1 theMethod args0 below0 :=
  ⟨lists_1, trivial, launch0.admits_env _ _ _, launch0.least_env, fairChoices_fair.cas, fairChoices_fair.clock, w_frames, w_args, w_heap, w_applies, trivial, trivial, w_case⟩
end start1
theorem witness_1 : WitnessClaimed_1 := ⟨start1.p0, start1.e0, start1.about1, start1.theMethod, start1.args0, start1.below0, start1.atStart⟩
end Jvm.Pilot.@@N@@
