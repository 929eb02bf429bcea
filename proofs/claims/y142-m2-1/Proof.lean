import JvmDerived
import JvmDerived.Pilot.@@N@@Statement
import JvmDerived.Pilot.@@N@@Code
set_option linter.unusedVariables false
set_option linter.unusedSimpArgs false
namespace Jvm.Pilot.@@N@@
open Jvm Jvm.ClassFile Sem Op Lib Jvm.Free Jvm.Stand Jvm.LawKit Jvm.RoadKit Bundle Jvm.Pilot.@@N@@.Jvm.D
section OwnKit
variable {p : Program} {l : Launch} {e : Env} {R : Room} {s : State} {m : MethodId} {args : Array Value} {below : List Frame} {meth : Method} {c : Code} {T : State} {locs : List Loc} {cells slots : Nat}
/-- from here the run comes to a state of which K holds -/
def Go (tb : Tables) (e : Env) (below : List Frame) (K : State → Prop) (T : State) : Prop := ∃ U, Steps tb e below T U ∧ K U
theorem Go.st {tb : Tables} {K : State → Prop} {T T' : State} (h : ∀ U, Steps tb e below T' U → Steps tb e below T U) (g : Go tb e below K T') : Go tb e below K T := by
  obtain ⟨U, h1, h2⟩ := g; exact ⟨U, h U h1, h2⟩
theorem Go.tr {tb : Tables} {K : State → Prop} {T T' : State} (h : Steps tb e below T T') (g : Go tb e below K T') : Go tb e below K T := by
  obtain ⟨U, h1, h2⟩ := g; exact ⟨U, h.trans h1, h2⟩
/-- where a body may end -/
def own_Fin (s : State) (below : List Frame) (CC SS : Nat) (Q : Option Value → Heap → List Loc → Prop) (U : State) : Prop :=
  ∃ o, U.status = .running ∧ Ended U below o ∧ ∃ v L, o = .returned v ∧ Q v U.heap L ∧ FrameEnd s o U L CC SS
theorem own_start {tb : Tables} {CC SS : Nat} {Q : Option Value → Heap → List Loc → Prop} {T : State} (g : Go tb e below (own_Fin s below CC SS Q) T) :
    ∃ s₂ o, Steps tb e below T s₂ ∧ s₂.status = .running ∧ Ended s₂ below o ∧ ∃ v L, o = .returned v ∧ Q v s₂.heap L ∧ FrameEnd s o s₂ L CC SS := by
  obtain ⟨U, h1, o, h2, h3, h4⟩ := g; exact ⟨U, o, h1, h2, h3, h4⟩
theorem own_cast {tb : Tables} {K : State → Prop} {f f' : JFrame} (q : f = f') (g : Go tb e below K (T.setTop f')) : Go tb e below K (T.setTop f) := q ▸ g
section Ends
variable {CC SS : Nat} {Q : Option Value → Heap → List Loc → Prop}
theorem own_end (X : Stand p l e R s m args below meth c T locs cells slots) (hlocks : meth.locks = false) {v : Option Value} (hv : meth.sig.returnType = none → v = none) {f : JFrame}
    (k : ∀ fs, (∀ (f : JFrame) (acts : List Action), f.method = m → f.locked = none → f.entered = [] → (doReturn e (T.setTop f) acts v).1 = T.setFrames fs) → Steps p.tables e below (T.setTop f) (T.setFrames fs))
    (hq : Q v T.heap locs) (hc : cells ≤ CC) (hs : slots ≤ SS) : Go p.tables e below (own_Fin s below CC SS Q) (T.setTop f) := by
  obtain ⟨fs, hr, hrun, hended, hW, hsame⟩ := X.leave (v := v) hv hlocks
  exact ⟨_, k fs hr, _, hrun, hended, _, _, rfl, hq, ⟨_, rfl⟩, hW, hsame.mono hc hs⟩
theorem own_ret0 (X : Stand p l e R s m args below meth c T locs cells slots) (hx : p.tables.exec = Jvm.exec) (hlocks : meth.locks = false) {pc : Nat} {Ls : Array Slot} (hret : meth.sig.returnType = none) (hd : decode c.code pc = .ok (.return_, 1))
    (hq : Q none T.heap locs) (hc : cells ≤ CC) (hs : slots ≤ SS) : Go p.tables e below (own_Fin s below CC SS Q) (T.setTop (mkF m pc Ls [])) :=
  own_end X hlocks (fun _ => rfl) (fun _ hr => X.returnOut hx hret hd hr) hq hc hs
theorem own_retN (X : Stand p l e R s m args below meth c T locs cells slots) (hx : p.tables.exec = Jvm.exec) (hlocks : meth.locks = false) {pc : Nat} {Ls : Array Slot} {z : Int32} {t : FieldType} {rest : List Value} (hret : meth.sig.returnType = some t) (ht : t = .boolean ∨ t = .byte ∨ t = .char ∨ t = .short) (hd : decode c.code pc = .ok (.ireturn, 1))
    (hq : Q (some (.int (nar t z))) T.heap locs) (hc : cells ≤ CC) (hs : slots ≤ SS) : Go p.tables e below (own_Fin s below CC SS Q) (T.setTop (mkF m pc Ls (.int z :: rest))) :=
  own_end X hlocks (fun h => by rw [hret] at h; cases h) (fun _ hr => retN X hx hret ht hd hr) hq hc hs
theorem own_retO (X : Stand p l e R s m args below meth c T locs cells slots) (hx : p.tables.exec = Jvm.exec) (hlocks : meth.locks = false) {pc : Nat} {Ls : Array Slot} {w : Value} {t : FieldType} {i : Instr} {rest : List Value} (hret : meth.sig.returnType = some t) (hn : narrow t w = w)
    (hi : (i = .ireturn ∧ (t = .int ∨ t = .boolean ∨ t = .byte ∨ t = .char ∨ t = .short) ∧ ∃ z, w = .int z) ∨ (i = .lreturn ∧ t = .long ∧ ∃ z, w = .long z) ∨ (i = .dreturn ∧ t = .double ∧ ∃ z, w = .double z) ∨ (i = .freturn ∧ t = .float ∧ ∃ z, w = .float z) ∨ (i = .areturn ∧ t.isReference = true ∧ w.isRef = true))
    (hd : decode c.code pc = .ok (i, 1)) (hq : Q (some w) T.heap locs) (hc : cells ≤ CC) (hs : slots ≤ SS) : Go p.tables e below (own_Fin s below CC SS Q) (T.setTop (mkF m pc Ls (w :: rest))) :=
  own_end X hlocks (fun h => by rw [hret] at h; cases h) (fun _ hr => retOut X hx hret hn hi hd hr) hq hc hs
end Ends
end OwnKit
def own_ab (R l : Int64) : Int64 := if 0 < R then (if R / 2 < 16 + l then ((((16 + l) + R) - 1) / R) * R else l) else l
theorem own_lt (x y : Int64) : x < y ↔ x.toInt < y.toInt := Int64.lt_iff_toInt_lt
theorem own_sz (l : Int64) (h : 0 ≤ l.toInt ∧ l.toInt < 2305843009213693952) : ((16 : Int64) + l).toInt = 16 + l.toInt := by
  have h1 := c_ladd 16 l
  rw [show (16 : Int64).toInt = 16 from by decide] at h1
  have := rng64 (16 + l)
  omega
theorem own_big (R l : Int64) (hR : 0 ≤ R.toInt ∧ R.toInt < 2305843009213693952) (hl : 0 ≤ l.toInt ∧ l.toInt < 2305843009213693952) : (0 < R ∧ R < (2 : Int64) * ((16 : Int64) + l)) ↔ (0 < R.toInt ∧ (R / 2).toInt < 16 + l.toInt) := by
  have h0 := own_sz l hl
  have h1 := c_lmul 2 (16 + l)
  rw [show (2 : Int64).toInt = 2 from by decide, h0] at h1
  have r1 := rng64 (2 * (16 + l))
  have h2 := (c_ldiv R 2 2 (by decide) (by decide)).1 hR.1
  rw [own_lt, own_lt, show (0 : Int64).toInt = 0 from by decide]
  omega
theorem own_val (R l : Int64) (hR : 0 ≤ R.toInt ∧ R.toInt < 2305843009213693952) (hl : 0 ≤ l.toInt ∧ l.toInt < 2305843009213693952) (hb : 0 < R ∧ R < (2 : Int64) * ((16 : Int64) + l)) :
    ∃ q : Int, 0 ≤ q ∧ (own_ab R l).toInt = q * R.toInt ∧ 16 + l.toInt ≤ q * R.toInt ∧ q * R.toInt < 16 + l.toInt + R.toInt := by
  obtain ⟨p1, p2⟩ := (own_big R l hR hl).mp hb
  have h0 := own_sz l hl
  have c1 : 0 < R := hb.1
  have c2 : R / 2 < 16 + l := by rw [own_lt, h0]; exact p2
  unfold own_ab
  rw [if_pos c1, if_pos c2]
  have h1 := c_ladd (16 + l) R
  have r1 := rng64 ((16 + l) + R)
  have h2 := c_lsub ((16 + l) + R) 1
  rw [show (1 : Int64).toInt = 1 from by decide] at h2
  have r2 := rng64 (((16 + l) + R) - 1)
  generalize hN : ((16 + l) + R) - 1 = N at *
  have hn : N.toInt = 16 + l.toInt + R.toInt - 1 := by omega
  have hm1 : R ≠ -1 := fun q => by rw [q] at p1; exact absurd p1 (by decide)
  have h3 := (c_ldiv N R R.toInt rfl hm1).1 (by omega)
  have k1 := Int.ediv_mul_le N.toInt (show R.toInt ≠ 0 by omega)
  have k2 := Int.lt_ediv_add_one_mul_self N.toInt p1
  have k0 : 0 ≤ N.toInt / R.toInt := Int.ediv_nonneg (by omega) (by omega)
  have h4 := c_lmul (N / R) R
  have r4 := rng64 (N / R * R)
  rw [h3] at h4
  rw [Int.add_mul, Int.one_mul] at k2
  generalize hP : N.toInt / R.toInt * R.toInt = P at *
  have e4 : (N / R * R).toInt = P := by omega
  refine ⟨N.toInt / R.toInt, k0, ?_, ?_, ?_⟩
  · rw [e4, hP]
  · rw [hP]; omega
  · rw [hP]; omega
theorem own_small (R l : Int64) (hR : 0 ≤ R.toInt ∧ R.toInt < 2305843009213693952) (hl : 0 ≤ l.toInt ∧ l.toInt < 2305843009213693952) (hb : ¬ (0 < R ∧ R < (2 : Int64) * ((16 : Int64) + l))) : own_ab R l = l := by
  unfold own_ab
  by_cases c1 : 0 < R
  · rw [if_pos c1]
    have c2 : ¬ R / 2 < 16 + l := fun c2 => hb ((own_big R l hR hl).mpr ⟨by rw [own_lt, show (0 : Int64).toInt = 0 from by decide] at c1; exact c1, by rw [own_lt, own_sz l hl] at c2; exact c2⟩)
    rw [if_neg c2]
  · rw [if_neg c1]
theorem own_r1 (R l : Int64) (hR : 0 ≤ R.toInt ∧ R.toInt < 2305843009213693952) (hl : 0 ≤ l.toInt ∧ l.toInt < 2305843009213693952) (hb : 0 < R ∧ R < (2 : Int64) * ((16 : Int64) + l)) : (own_ab R l - (own_ab R l / R) * R) = 0 := by
  obtain ⟨q, k0, k1, k2, k3⟩ := own_val R l hR hl hb
  apply Int64.toInt_inj.mp
  rw [(c_lrem (own_ab R l) R R.toInt rfl).1 (by omega), k1, Int.mul_emod_left]
  decide
theorem own_r2 (R l : Int64) (hR : 0 ≤ R.toInt ∧ R.toInt < 2305843009213693952) (hl : 0 ≤ l.toInt ∧ l.toInt < 2305843009213693952) (hb : 0 < R ∧ R < (2 : Int64) * ((16 : Int64) + l)) : ¬ (own_ab R l < (16 : Int64) + l) := by
  obtain ⟨q, k0, k1, k2, k3⟩ := own_val R l hR hl hb
  rw [own_lt, own_sz l hl]; omega
theorem own_r3 (R l : Int64) (hR : 0 ≤ R.toInt ∧ R.toInt < 2305843009213693952) (hl : 0 ≤ l.toInt ∧ l.toInt < 2305843009213693952) (hb : 0 < R ∧ R < (2 : Int64) * ((16 : Int64) + l)) : (own_ab R l - R) < (16 : Int64) + l := by
  obtain ⟨q, k0, k1, k2, k3⟩ := own_val R l hR hl hb
  have h1 := c_lsub (own_ab R l) R
  have := rng64 (own_ab R l - R)
  rw [own_lt, own_sz l hl]; omega

theorem d2_0 : decode jdk_30_method_1_code 0 = .ok (.aload_n 0, 1) := by decide +kernel
theorem d2_1 : decode jdk_30_method_1_code 1 = .ok (.invokespecial 1, 3) := by decide +kernel
theorem d2_4 : decode jdk_30_method_1_code 4 = .ok (.return_, 1) := by decide +kernel
theorem pn_2 : plainFor (⟨"java/lang/Record", "<init>", "()V"⟩ : MethodName) = true := plainFor_of_name (by first | (simp [plainName, overriddenIn]; done) | decide +kernel)
theorem ef_2 (m : MethodId) (x0 : Addr) : entryFrame m #[(.ref x0)] 1 = mkF m 0 #[.val (.ref x0)] [] := by first | (simp [entryFrame, mkF, argsToLocals, Value.category]; done) | rfl
def Q2 (Z : State) (a1 : Addr)  (h0 : Heap) (n0 : Nat) (v : Option Value) (h : Heap) (L : List Loc) : Prop := v = none ∧ Fr n0 L ∧ h = h0
set_option maxRecDepth 65536 in
set_option maxHeartbeats 40000000 in
theorem rm2 (l : Launch) (Z : State) (a0 : Array Value) (hw : ∀ d ∈ tables_1, d.before a0 Z = true) (ws : List Jvm.Cond) (a1 : Addr)  (h0 : Heap) (n0 : Nat) (Z0 : n0 ≤ h0.size) :
    MetFree l (⟨"java/lang/Record", "<init>", "()V"⟩ : MethodName) (head1 (Jvm.Cond.code (⟨"java/lang/Record", "<init>", "()V"⟩ : MethodName) jdk_30_method_1_code 1 none :: ws) ({ frames := 1, cells := 0, slots := 0, locals := 12 } : Room)) (fun a U => a = #[(.ref a1)] ∧ Z.Warmed39 U.vm ∧ U.heap = h0) (fun _ _ _ _ _ => True) (fun _ U o U' => ∃ v L, o = .returned v ∧ Q2 Z a1 h0 n0 v U'.heap L ∧ FrameEnd U o U' L ({ frames := 1, cells := 0, slots := 0, locals := 12 } : Room).cells ({ frames := 1, cells := 0, slots := 0, locals := 12 } : Room).slots) := by
  refine MetFree.of_bodySF pn_2 hisR ?_
  intro p e s m args below meth c s₁ Bd hml0 hP hK
  obtain ⟨rfl, hZ, hh⟩ := hP
  have hx := Bd.exec
  have hby := Bd.bytes
  have hml : c.maxLocals = 1 := hml0
  have hown : s.vm.findClass "java/lang/Record" = some m.cls := findClass_of_methodNamed Bd.named
  have hnm := (name_of_methodNamed Bd.named Bd.method).1
  have X0 : Stand p l e ({ frames := 1, cells := 0, slots := 0, locals := 12 } : Room) s m #[(.ref a1)] below meth c s₁ [] 0 0 := Stand.of_body Bd
  have e0 : s₁.heap = h0 := by rw [← hh, Bd.state]; rfl
  have N0 := Fr.nil n0
  refine own_start (Q := Q2 Z a1 h0 n0) (own_cast (ef_2 m a1) ?_)
  show Go p.tables e below _ (s₁.setTop (mkF m 0 #[.val (.ref a1)] []))
  refine Go.st (fun U hr => XS.aloadN X0.here hx rfl (hb hby d2_0) rfl rfl hr) ?_
  show Go p.tables e below _ (s₁.setTop (mkF m 1 #[.val (.ref a1)] [(.ref a1)]))
  obtain ⟨T1, X1, e1, st1⟩ := initO X0 hx hZ hown (hw _ (List.mem_of_getElem? (i := 13) rfl)) (hw _ (List.mem_of_getElem? (i := 14) rfl)) (hw _ (List.mem_of_getElem? (i := 15) rfl)) e0 (g := (mkF m 1 #[.val (.ref a1)] [(.ref a1)])) rfl (by rw [hml]; rfl) rfl (hb hby d2_1) (by decide) (W := 0) (by show 2 * 0 + _ ≤ _; exact Nat.le_of_eq rfl) (by decide)
  refine Go.st st1 ?_
  show Go p.tables e below _ (T1.setTop (mkF m 4 #[.val (.ref a1)] []))
  exact own_ret0 X1 hx Bd.notSynchronized Bd.returns (hb hby d2_4) ⟨rfl, N0, e1⟩ (by decide) (by decide)
theorem d1_0 : decode prog_31_method_1_code 0 = .ok (.aload_n 0, 1) := by decide +kernel
theorem d1_1 : decode prog_31_method_1_code 1 = .ok (.invokespecial 1, 3) := by decide +kernel
theorem d1_4 : decode prog_31_method_1_code 4 = .ok (.lload_n 1, 1) := by decide +kernel
theorem d1_5 : decode prog_31_method_1_code 5 = .ok (.lconst 0, 1) := by decide +kernel
theorem d1_6 : decode prog_31_method_1_code 6 = .ok (.lcmp, 1) := by decide +kernel
theorem d1_7 : decode prog_31_method_1_code 7 = .ok (.ifCond .lt 9, 3) := by decide +kernel
theorem d1_10 : decode prog_31_method_1_code 10 = .ok (.lload_n 3, 1) := by decide +kernel
theorem d1_11 : decode prog_31_method_1_code 11 = .ok (.lconst 0, 1) := by decide +kernel
theorem d1_12 : decode prog_31_method_1_code 12 = .ok (.lcmp, 1) := by decide +kernel
theorem d1_13 : decode prog_31_method_1_code 13 = .ok (.ifCond .ge 18, 3) := by decide +kernel
theorem d1_31 : decode prog_31_method_1_code 31 = .ok (.aload_n 0, 1) := by decide +kernel
theorem d1_32 : decode prog_31_method_1_code 32 = .ok (.lload_n 1, 1) := by decide +kernel
theorem d1_33 : decode prog_31_method_1_code 33 = .ok (.putfield 16, 3) := by decide +kernel
theorem d1_36 : decode prog_31_method_1_code 36 = .ok (.aload_n 0, 1) := by decide +kernel
theorem d1_37 : decode prog_31_method_1_code 37 = .ok (.lload_n 3, 1) := by decide +kernel
theorem d1_38 : decode prog_31_method_1_code 38 = .ok (.putfield 22, 3) := by decide +kernel
theorem d1_41 : decode prog_31_method_1_code 41 = .ok (.return_, 1) := by decide +kernel
theorem pn_1 : plainFor (⟨"com/example/ordermesh/ordermesh/node/Heap", "<init>", "(JJ)V"⟩ : MethodName) = true := plainFor_of_name (by first | (simp [plainName, overriddenIn]; done) | decide +kernel)
theorem ef_1 (m : MethodId) (x0 : Addr) (x1 : Int64) (x2 : Int64) : entryFrame m #[(.ref x0), (.long x1), (.long x2)] 5 = mkF m 0 #[.val (.ref x0), .val (.long x1), .second, .val (.long x2), .second] [] := by first | (simp [entryFrame, mkF, argsToLocals, Value.category]; done) | rfl
theorem pd_0 : parseMethodDescriptor "()V" = some ⟨[], none⟩ := by decide +kernel
def Q1 (Z : State) (a1 : Addr) (q2 : Int64) (q3 : Int64)  (h0 : Heap) (n0 : Nat) (v : Option Value) (h : Heap) (L : List Loc) : Prop := v = none ∧ Fr n0 L ∧ Keep h0 h [a1] ∧ Exa Z h a1 "com/example/ordermesh/ordermesh/node/Heap" ∧ Fld Z h a1 "com/example/ordermesh/ordermesh/node/Heap" "regionBytes" "J" (.long q3)
set_option maxRecDepth 65536 in
set_option maxHeartbeats 40000000 in
theorem rm1 (l : Launch) (Z : State) (a0 : Array Value) (hw : ∀ d ∈ tables_1, d.before a0 Z = true) (ws : List Jvm.Cond) (a1 : Addr) (q2 : Int64) (q3 : Int64)  (h0 : Heap) (n0 : Nat) (Z0 : n0 ≤ h0.size) (E1 : Exa Z h0 a1 "com/example/ordermesh/ordermesh/node/Heap") (F1 : Fld Z h0 a1 "com/example/ordermesh/ordermesh/node/Heap" "bytes" "J" (.long (0 : Int64))) (F2 : Fld Z h0 a1 "com/example/ordermesh/ordermesh/node/Heap" "regionBytes" "J" (.long (0 : Int64))) (g1 : n0 ≤ a1) (hp1 : ¬ q2 < 0) (hp2 : ¬ q3 < 0) :
    MetFree l (⟨"com/example/ordermesh/ordermesh/node/Heap", "<init>", "(JJ)V"⟩ : MethodName) (head1 (Jvm.Cond.code (⟨"com/example/ordermesh/ordermesh/node/Heap", "<init>", "(JJ)V"⟩ : MethodName) prog_31_method_1_code 5 none :: ws) ({ frames := 2, cells := 0, slots := 0, locals := 24 } : Room)) (fun a U => a = #[(.ref a1), (.long q2), (.long q3)] ∧ Z.Warmed39 U.vm ∧ U.heap = h0) (fun _ _ _ _ _ => True) (fun _ U o U' => ∃ v L, o = .returned v ∧ Q1 Z a1 q2 q3 h0 n0 v U'.heap L ∧ FrameEnd U o U' L ({ frames := 2, cells := 0, slots := 0, locals := 24 } : Room).cells ({ frames := 2, cells := 0, slots := 0, locals := 24 } : Room).slots) := by
  refine MetFree.of_bodySF pn_1 hisR ?_
  intro p e s m args below meth c s₁ Bd hml0 hP hK
  obtain ⟨rfl, hZ, hh⟩ := hP
  have hx := Bd.exec
  have hby := Bd.bytes
  have hml : c.maxLocals = 5 := hml0
  have hown : s.vm.findClass "com/example/ordermesh/ordermesh/node/Heap" = some m.cls := findClass_of_methodNamed Bd.named
  have hnm := (name_of_methodNamed Bd.named Bd.method).1
  have X0 : Stand p l e ({ frames := 2, cells := 0, slots := 0, locals := 24 } : Room) s m #[(.ref a1), (.long q2), (.long q3)] below meth c s₁ [] 0 0 := Stand.of_body Bd
  have e0 : s₁.heap = h0 := by rw [← hh, Bd.state]; rfl
  have N0 := Fr.nil n0
  refine own_start (Q := Q1 Z a1 q2 q3 h0 n0) (own_cast (ef_1 m a1 q2 q3) ?_)
  show Go p.tables e below _ (s₁.setTop (mkF m 0 #[.val (.ref a1), .val (.long q2), .second, .val (.long q3), .second] []))
  refine Go.st (fun U hr => XS.aloadN X0.here hx rfl (hb hby d1_0) rfl rfl hr) ?_
  show Go p.tables e below _ (s₁.setTop (mkF m 1 #[.val (.ref a1), .val (.long q2), .second, .val (.long q3), .second] [(.ref a1)]))
  obtain ⟨_, _, ⟨T1, L1, k1, n1⟩, -, X1, ⟨Lc1, hQ1, l1, y1, z1⟩, st1⟩ := X0.specialBack hx (y := (⟨"java/lang/Record", "<init>", "()V"⟩ : MethodName)) rfl hown (mvT hZ (hw _ (List.mem_of_getElem? (i := 8) rfl))) (mvT hZ (hw _ (List.mem_of_getElem? (i := 9) rfl))) (mvT hZ (hw _ (List.mem_of_getElem? (i := 12) rfl))) (by decide) (backOf (W := 0) (rm2 l Z a0 hw [] a1 h0 n0 Z0) hZ (hw _ (List.mem_of_getElem? (i := 12) rfl)) (hw _ (List.mem_of_getElem? (i := 11) rfl)) (by decide) (by decide)) (g := (mkF m 1 #[.val (.ref a1), .val (.long q2), .second, .val (.long q3), .second] [(.ref a1)])) rfl (by rw [hml]; rfl) (Steps.refl _) (a := a1) (argsL := []) (rest := []) (lenOf pd_0 rfl) rfl (by show 2 * 0 + _ ≤ _; exact Nat.le_of_eq rfl) (hb hby d1_1) (fun _ _ => ⟨rfl, e0, (by decide : 0 + 0 ≤ _), (by decide : 0 + 0 ≤ _)⟩)
  dsimp only [Pt.U, Pt.locs, Pt.cells, Pt.slots] at X1 l1 y1 z1 st1 hQ1
  subst l1 y1 z1
  obtain ⟨rfl, Nq1, ee1⟩ := hQ1
  have N1 := Fr.app N0 Nq1
  refine Go.tr st1 ?_
  show Go p.tables e below _ (T1.setTop (mkF m 4 #[.val (.ref a1), .val (.long q2), .second, .val (.long q3), .second] []))
  refine Go.st (fun U hr => XS.lloadN X1.here hx rfl (hb hby d1_4) rfl hr) ?_
  show Go p.tables e below _ (T1.setTop (mkF m 5 #[.val (.ref a1), .val (.long q2), .second, .val (.long q3), .second] [(.long q2)]))
  refine Go.st (fun U hr => XS.lconst X1.here hx rfl (hb hby d1_5) hr) ?_
  show Go p.tables e below _ (T1.setTop (mkF m 6 #[.val (.ref a1), .val (.long q2), .second, .val (.long q3), .second] [(.long (0 : Int64)), (.long q2)]))
  refine Go.st (fun U hr => XS.lcmp X1.here hx rfl (hb hby d1_6) rfl hr) ?_
  show Go p.tables e below _ (T1.setTop (mkF m 7 #[.val (.ref a1), .val (.long q2), .second, .val (.long q3), .second] [(.int (lcmpW q2 (0 : Int64)))]))
  have hc7_2 : ¬ (q2 < (0 : Int64)) := hp1
  refine Go.st (fun U hr => XS.ifNo X1.here hx rfl (hb hby d1_7) rfl ((if0 _ _).trans (flt (fun q => hc7_2 ((lw_lt q2 (0 : Int64)).1 q))).1) hr) ?_
  show Go p.tables e below _ (T1.setTop (mkF m 10 #[.val (.ref a1), .val (.long q2), .second, .val (.long q3), .second] []))
  refine Go.st (fun U hr => XS.lloadN X1.here hx rfl (hb hby d1_10) rfl hr) ?_
  show Go p.tables e below _ (T1.setTop (mkF m 11 #[.val (.ref a1), .val (.long q2), .second, .val (.long q3), .second] [(.long q3)]))
  refine Go.st (fun U hr => XS.lconst X1.here hx rfl (hb hby d1_11) hr) ?_
  show Go p.tables e below _ (T1.setTop (mkF m 12 #[.val (.ref a1), .val (.long q2), .second, .val (.long q3), .second] [(.long (0 : Int64)), (.long q3)]))
  refine Go.st (fun U hr => XS.lcmp X1.here hx rfl (hb hby d1_12) rfl hr) ?_
  show Go p.tables e below _ (T1.setTop (mkF m 13 #[.val (.ref a1), .val (.long q2), .second, .val (.long q3), .second] [(.int (lcmpW q3 (0 : Int64)))]))
  have hc13_3 : ¬ (q3 < (0 : Int64)) := hp2
  refine Go.st (fun U hr => XS.ifYes X1.here hx rfl (pc0 := 13) (pc' := 31) rfl (hb hby d1_13) rfl ((if0 _ _).trans (flt (fun q => hc13_3 ((lw_lt q3 (0 : Int64)).1 q))).2.1) (by decide) (by decide) hr) ?_
  show Go p.tables e below _ (T1.setTop (mkF m 31 #[.val (.ref a1), .val (.long q2), .second, .val (.long q3), .second] []))
  refine Go.st (fun U hr => XS.aloadN X1.here hx rfl (hb hby d1_31) rfl rfl hr) ?_
  show Go p.tables e below _ (T1.setTop (mkF m 32 #[.val (.ref a1), .val (.long q2), .second, .val (.long q3), .second] [(.ref a1)]))
  refine Go.st (fun U hr => XS.lloadN X1.here hx rfl (hb hby d1_32) rfl hr) ?_
  show Go p.tables e below _ (T1.setTop (mkF m 33 #[.val (.ref a1), .val (.long q2), .second, .val (.long q3), .second] [(.long q2), (.ref a1)]))
  obtain ⟨T4, h4, X4, e4, W4, st4⟩ := putF X1 hx hZ hown (host := "") (Or.inl (hw _ (List.mem_of_getElem? (i := 16) rfl))) Via.refl ee1 F1 E1 (Or.inr ⟨(hw _ (List.mem_of_getElem? (i := 17) rfl)), rfl, hnm⟩) (hw _ (List.mem_of_getElem? (i := 3) rfl)) (ty := .long) (by decide) rfl rfl (g := (mkF m 33 #[.val (.ref a1), .val (.long q2), .second, .val (.long q3), .second] [(.long q2), (.ref a1)])) rfl rfl (hb hby d1_33)
  refine Go.st st4 ?_
  have k5 := ((Keep.refl h0 [a1])).wr W4 (Or.inl (List.mem_of_getElem? (i := 0) rfl))
  have f6 := (E1).wr W4
  have f7 := (F1).same W4
  have f8 := (F2).other W4 (Or.inr (slot_ne (Or.inr (hw _ (List.mem_of_getElem? (i := 19) rfl))) (Or.inr (hw _ (List.mem_of_getElem? (i := 17) rfl))) (by decide) (t := .long) (t' := .long) (by decide) (by decide)))
  have z9 := Nat.le_trans Z0 (Keep.of_wr W4).1
  have N4 := Fr.snoc X4 N1 g1
  show Go p.tables e below _ (T4.setTop (mkF m 36 #[.val (.ref a1), .val (.long q2), .second, .val (.long q3), .second] []))
  refine Go.st (fun U hr => XS.aloadN X4.here hx rfl (hb hby d1_36) rfl rfl hr) ?_
  show Go p.tables e below _ (T4.setTop (mkF m 37 #[.val (.ref a1), .val (.long q2), .second, .val (.long q3), .second] [(.ref a1)]))
  refine Go.st (fun U hr => XS.lloadN X4.here hx rfl (hb hby d1_37) rfl hr) ?_
  show Go p.tables e below _ (T4.setTop (mkF m 38 #[.val (.ref a1), .val (.long q2), .second, .val (.long q3), .second] [(.long q3), (.ref a1)]))
  obtain ⟨T10, h10, X10, e10, W10, st10⟩ := putF X4 hx hZ hown (host := "") (Or.inl (hw _ (List.mem_of_getElem? (i := 18) rfl))) Via.refl e4 f8 f6 (Or.inr ⟨(hw _ (List.mem_of_getElem? (i := 19) rfl)), rfl, hnm⟩) (hw _ (List.mem_of_getElem? (i := 3) rfl)) (ty := .long) (by decide) rfl rfl (g := (mkF m 38 #[.val (.ref a1), .val (.long q2), .second, .val (.long q3), .second] [(.long q3), (.ref a1)])) rfl rfl (hb hby d1_38)
  refine Go.st st10 ?_
  have k11 := (k5).wr W10 (Or.inl (List.mem_of_getElem? (i := 0) rfl))
  have f12 := (f6).wr W10
  have f13 := (f7).other W10 (Or.inr (slot_ne (Or.inr (hw _ (List.mem_of_getElem? (i := 17) rfl))) (Or.inr (hw _ (List.mem_of_getElem? (i := 19) rfl))) (by decide) (t := .long) (t' := .long) (by decide) (by decide)))
  have f14 := (f8).same W10
  have z15 := Nat.le_trans z9 (Keep.of_wr W10).1
  have N10 := Fr.snoc X10 N4 g1
  show Go p.tables e below _ (T10.setTop (mkF m 41 #[.val (.ref a1), .val (.long q2), .second, .val (.long q3), .second] []))
  exact own_ret0 X10 hx Bd.notSynchronized Bd.returns (hb hby d1_41) (by rw [e10]; exact ⟨rfl, N10, k11, f12, f14⟩) (by decide) (by decide)
theorem d4_0 : decode prog_31_method_3_code 0 = .ok (.ldc2_w 76, 3) := by decide +kernel
theorem d4_3 : decode prog_31_method_3_code 3 = .ok (.lload_n 1, 1) := by decide +kernel
theorem d4_4 : decode prog_31_method_3_code 4 = .ok (.ladd, 1) := by decide +kernel
theorem d4_5 : decode prog_31_method_3_code 5 = .ok (.lstore_n 3, 1) := by decide +kernel
theorem d4_6 : decode prog_31_method_3_code 6 = .ok (.lload_n 1, 1) := by decide +kernel
theorem d4_7 : decode prog_31_method_3_code 7 = .ok (.lstore 5, 2) := by decide +kernel
theorem d4_9 : decode prog_31_method_3_code 9 = .ok (.aload_n 0, 1) := by decide +kernel
theorem d4_10 : decode prog_31_method_3_code 10 = .ok (.getfield 22, 3) := by decide +kernel
theorem d4_13 : decode prog_31_method_3_code 13 = .ok (.lconst 0, 1) := by decide +kernel
theorem d4_14 : decode prog_31_method_3_code 14 = .ok (.lcmp, 1) := by decide +kernel
theorem d4_15 : decode prog_31_method_3_code 15 = .ok (.ifCond .le 36, 3) := by decide +kernel
theorem d4_18 : decode prog_31_method_3_code 18 = .ok (.lload_n 3, 1) := by decide +kernel
theorem d4_19 : decode prog_31_method_3_code 19 = .ok (.aload_n 0, 1) := by decide +kernel
theorem d4_20 : decode prog_31_method_3_code 20 = .ok (.getfield 22, 3) := by decide +kernel
theorem d4_23 : decode prog_31_method_3_code 23 = .ok (.ldc2_w 78, 3) := by decide +kernel
theorem d4_26 : decode prog_31_method_3_code 26 = .ok (.ldiv, 1) := by decide +kernel
theorem d4_27 : decode prog_31_method_3_code 27 = .ok (.lcmp, 1) := by decide +kernel
theorem d4_28 : decode prog_31_method_3_code 28 = .ok (.ifCond .le 23, 3) := by decide +kernel
theorem d4_31 : decode prog_31_method_3_code 31 = .ok (.lload_n 3, 1) := by decide +kernel
theorem d4_32 : decode prog_31_method_3_code 32 = .ok (.aload_n 0, 1) := by decide +kernel
theorem d4_33 : decode prog_31_method_3_code 33 = .ok (.getfield 22, 3) := by decide +kernel
theorem d4_36 : decode prog_31_method_3_code 36 = .ok (.ladd, 1) := by decide +kernel
theorem d4_37 : decode prog_31_method_3_code 37 = .ok (.lconst 1, 1) := by decide +kernel
theorem d4_38 : decode prog_31_method_3_code 38 = .ok (.lsub, 1) := by decide +kernel
theorem d4_39 : decode prog_31_method_3_code 39 = .ok (.aload_n 0, 1) := by decide +kernel
theorem d4_40 : decode prog_31_method_3_code 40 = .ok (.getfield 22, 3) := by decide +kernel
theorem d4_43 : decode prog_31_method_3_code 43 = .ok (.ldiv, 1) := by decide +kernel
theorem d4_44 : decode prog_31_method_3_code 44 = .ok (.aload_n 0, 1) := by decide +kernel
theorem d4_45 : decode prog_31_method_3_code 45 = .ok (.getfield 22, 3) := by decide +kernel
theorem d4_48 : decode prog_31_method_3_code 48 = .ok (.lmul, 1) := by decide +kernel
theorem d4_49 : decode prog_31_method_3_code 49 = .ok (.lstore 5, 2) := by decide +kernel
theorem d4_51 : decode prog_31_method_3_code 51 = .ok (.lload 5, 2) := by decide +kernel
theorem d4_53 : decode prog_31_method_3_code 53 = .ok (.lreturn, 1) := by decide +kernel
theorem pn_4 : plainFor (⟨"com/example/ordermesh/ordermesh/node/Heap", "arrayBytes", "(J)J"⟩ : MethodName) = true := plainFor_of_name (by first | (simp [plainName, overriddenIn]; done) | decide +kernel)
theorem ef_4 (m : MethodId) (x0 : Addr) (x1 : Int64) : entryFrame m #[(.ref x0), (.long x1)] 7 = mkF m 0 #[.val (.ref x0), .val (.long x1), .second, .unset, .unset, .unset, .unset] [] := by first | (simp [entryFrame, mkF, argsToLocals, Value.category]; done) | rfl
def Q4 (Z : State) (a1 : Addr) (q2 : Int64) (w1 : Int64) (h0 : Heap) (n0 : Nat) (v : Option Value) (h : Heap) (L : List Loc) : Prop := v = some (.long (own_ab w1 q2)) ∧ Fr n0 L ∧ h = h0
set_option maxRecDepth 65536 in
set_option maxHeartbeats 40000000 in
theorem rm4 (l : Launch) (Z : State) (a0 : Array Value) (hw : ∀ d ∈ tables_1, d.before a0 Z = true) (ws : List Jvm.Cond) (a1 : Addr) (q2 : Int64) (w1 : Int64) (h0 : Heap) (n0 : Nat) (Z0 : n0 ≤ h0.size) (F2 : Fld Z h0 a1 "com/example/ordermesh/ordermesh/node/Heap" "regionBytes" "J" (.long w1)) :
    MetFree l (⟨"com/example/ordermesh/ordermesh/node/Heap", "arrayBytes", "(J)J"⟩ : MethodName) (head1 (Jvm.Cond.code (⟨"com/example/ordermesh/ordermesh/node/Heap", "arrayBytes", "(J)J"⟩ : MethodName) prog_31_method_3_code 7 (some .long) :: ws) ({ frames := 0, cells := 0, slots := 0, locals := 0 } : Room)) (fun a U => a = #[(.ref a1), (.long q2)] ∧ Z.Warmed39 U.vm ∧ U.heap = h0) (fun _ _ _ _ _ => True) (fun _ U o U' => ∃ v L, o = .returned v ∧ Q4 Z a1 q2 w1 h0 n0 v U'.heap L ∧ FrameEnd U o U' L ({ frames := 0, cells := 0, slots := 0, locals := 0 } : Room).cells ({ frames := 0, cells := 0, slots := 0, locals := 0 } : Room).slots) := by
  refine MetFree.of_bodySF pn_4 hisR ?_
  intro p e s m args below meth c s₁ Bd hml0 hP hK
  obtain ⟨rfl, hZ, hh⟩ := hP
  have hx := Bd.exec
  have hby := Bd.bytes
  have hml : c.maxLocals = 7 := hml0
  have hown : s.vm.findClass "com/example/ordermesh/ordermesh/node/Heap" = some m.cls := findClass_of_methodNamed Bd.named
  have hnm := (name_of_methodNamed Bd.named Bd.method).1
  have X0 : Stand p l e ({ frames := 0, cells := 0, slots := 0, locals := 0 } : Room) s m #[(.ref a1), (.long q2)] below meth c s₁ [] 0 0 := Stand.of_body Bd
  have e0 : s₁.heap = h0 := by rw [← hh, Bd.state]; rfl
  have N0 := Fr.nil n0
  refine own_start (Q := Q4 Z a1 q2 w1 h0 n0) (own_cast (ef_4 m a1 q2) ?_)
  show Go p.tables e below _ (s₁.setTop (mkF m 0 #[.val (.ref a1), .val (.long q2), .second, .unset, .unset, .unset, .unset] []))
  refine Go.st (X0.ldc2Long hx hown (mvT hZ (hw _ (List.mem_of_getElem? (i := 25) rfl))) (g := (mkF m 0 #[.val (.ref a1), .val (.long q2), .second, .unset, .unset, .unset, .unset] [])) rfl (hb hby d4_0)) ?_
  show Go p.tables e below _ (s₁.setTop (mkF m 3 #[.val (.ref a1), .val (.long q2), .second, .unset, .unset, .unset, .unset] [(.long (16 : Int64))]))
  refine Go.st (fun U hr => XS.lloadN X0.here hx rfl (hb hby d4_3) rfl hr) ?_
  show Go p.tables e below _ (s₁.setTop (mkF m 4 #[.val (.ref a1), .val (.long q2), .second, .unset, .unset, .unset, .unset] [(.long q2), (.long (16 : Int64))]))
  refine Go.st (fun U hr => XS.ladd X0.here hx rfl (hb hby d4_4) rfl hr) ?_
  show Go p.tables e below _ (s₁.setTop (mkF m 5 #[.val (.ref a1), .val (.long q2), .second, .unset, .unset, .unset, .unset] [(.long ((16 : Int64) + q2))]))
  refine Go.st (fun U hr => XS.lstoreN X0.here hx rfl (hb hby d4_5) rfl (l' := #[.val (.ref a1), .val (.long q2), .second, .val (.long ((16 : Int64) + q2)), .second, .unset, .unset]) rfl hr) ?_
  show Go p.tables e below _ (s₁.setTop (mkF m 6 #[.val (.ref a1), .val (.long q2), .second, .val (.long ((16 : Int64) + q2)), .second, .unset, .unset] []))
  refine Go.st (fun U hr => XS.lloadN X0.here hx rfl (hb hby d4_6) rfl hr) ?_
  show Go p.tables e below _ (s₁.setTop (mkF m 7 #[.val (.ref a1), .val (.long q2), .second, .val (.long ((16 : Int64) + q2)), .second, .unset, .unset] [(.long q2)]))
  refine Go.st (fun U hr => XS.lstore X0.here hx rfl (hb hby d4_7) rfl (l' := #[.val (.ref a1), .val (.long q2), .second, .val (.long ((16 : Int64) + q2)), .second, .val (.long q2), .second]) rfl hr) ?_
  show Go p.tables e below _ (s₁.setTop (mkF m 9 #[.val (.ref a1), .val (.long q2), .second, .val (.long ((16 : Int64) + q2)), .second, .val (.long q2), .second] []))
  refine Go.st (fun U hr => XS.aloadN X0.here hx rfl (hb hby d4_9) rfl rfl hr) ?_
  show Go p.tables e below _ (s₁.setTop (mkF m 10 #[.val (.ref a1), .val (.long q2), .second, .val (.long ((16 : Int64) + q2)), .second, .val (.long q2), .second] [(.ref a1)]))
  obtain ⟨T1, X1, e1, st1⟩ := getF X0 hx hZ hown (host := "") (Or.inl (hw _ (List.mem_of_getElem? (i := 18) rfl))) Via.refl e0 F2 (g := (mkF m 10 #[.val (.ref a1), .val (.long q2), .second, .val (.long ((16 : Int64) + q2)), .second, .val (.long q2), .second] [(.ref a1)])) rfl rfl (hb hby d4_10)
  refine Go.st st1 ?_
  show Go p.tables e below _ (T1.setTop (mkF m 13 #[.val (.ref a1), .val (.long q2), .second, .val (.long ((16 : Int64) + q2)), .second, .val (.long q2), .second] [(.long w1)]))
  refine Go.st (fun U hr => XS.lconst X1.here hx rfl (hb hby d4_13) hr) ?_
  show Go p.tables e below _ (T1.setTop (mkF m 14 #[.val (.ref a1), .val (.long q2), .second, .val (.long ((16 : Int64) + q2)), .second, .val (.long q2), .second] [(.long (0 : Int64)), (.long w1)]))
  refine Go.st (fun U hr => XS.lcmp X1.here hx rfl (hb hby d4_14) rfl hr) ?_
  show Go p.tables e below _ (T1.setTop (mkF m 15 #[.val (.ref a1), .val (.long q2), .second, .val (.long ((16 : Int64) + q2)), .second, .val (.long q2), .second] [(.int (lcmpW w1 (0 : Int64)))]))
  by_cases hc15_2 : (0 : Int64) < w1
  · refine Go.st (fun U hr => XS.ifNo X1.here hx rfl (hb hby d4_15) rfl ((if0 _ _).trans (tlt ((lw_gt w1 (0 : Int64)).2 hc15_2)).2.2.2) hr) ?_
    show Go p.tables e below _ (T1.setTop (mkF m 18 #[.val (.ref a1), .val (.long q2), .second, .val (.long ((16 : Int64) + q2)), .second, .val (.long q2), .second] []))
    refine Go.st (fun U hr => XS.lloadN X1.here hx rfl (hb hby d4_18) rfl hr) ?_
    show Go p.tables e below _ (T1.setTop (mkF m 19 #[.val (.ref a1), .val (.long q2), .second, .val (.long ((16 : Int64) + q2)), .second, .val (.long q2), .second] [(.long ((16 : Int64) + q2))]))
    refine Go.st (fun U hr => XS.aloadN X1.here hx rfl (hb hby d4_19) rfl rfl hr) ?_
    show Go p.tables e below _ (T1.setTop (mkF m 20 #[.val (.ref a1), .val (.long q2), .second, .val (.long ((16 : Int64) + q2)), .second, .val (.long q2), .second] [(.ref a1), (.long ((16 : Int64) + q2))]))
    obtain ⟨T3, X3, e3, st3⟩ := getF X1 hx hZ hown (host := "") (Or.inl (hw _ (List.mem_of_getElem? (i := 18) rfl))) Via.refl e1 F2 (g := (mkF m 20 #[.val (.ref a1), .val (.long q2), .second, .val (.long ((16 : Int64) + q2)), .second, .val (.long q2), .second] [(.ref a1), (.long ((16 : Int64) + q2))])) rfl rfl (hb hby d4_20)
    refine Go.st st3 ?_
    show Go p.tables e below _ (T3.setTop (mkF m 23 #[.val (.ref a1), .val (.long q2), .second, .val (.long ((16 : Int64) + q2)), .second, .val (.long q2), .second] [(.long w1), (.long ((16 : Int64) + q2))]))
    refine Go.st (X3.ldc2Long hx hown (mvT hZ (hw _ (List.mem_of_getElem? (i := 26) rfl))) (g := (mkF m 23 #[.val (.ref a1), .val (.long q2), .second, .val (.long ((16 : Int64) + q2)), .second, .val (.long q2), .second] [(.long w1), (.long ((16 : Int64) + q2))])) rfl (hb hby d4_23)) ?_
    show Go p.tables e below _ (T3.setTop (mkF m 26 #[.val (.ref a1), .val (.long q2), .second, .val (.long ((16 : Int64) + q2)), .second, .val (.long q2), .second] [(.long (2 : Int64)), (.long w1), (.long ((16 : Int64) + q2))]))
    refine Go.st (fun U hr => XS.ldiv X3.here hx rfl (hb hby d4_26) rfl (by decide) hr) ?_
    show Go p.tables e below _ (T3.setTop (mkF m 27 #[.val (.ref a1), .val (.long q2), .second, .val (.long ((16 : Int64) + q2)), .second, .val (.long q2), .second] [(.long (w1 / (2 : Int64))), (.long ((16 : Int64) + q2))]))
    refine Go.st (fun U hr => XS.lcmp X3.here hx rfl (hb hby d4_27) rfl hr) ?_
    show Go p.tables e below _ (T3.setTop (mkF m 28 #[.val (.ref a1), .val (.long q2), .second, .val (.long ((16 : Int64) + q2)), .second, .val (.long q2), .second] [(.int (lcmpW ((16 : Int64) + q2) (w1 / (2 : Int64))))]))
    by_cases hc28_4 : (w1 / (2 : Int64)) < ((16 : Int64) + q2)
    · refine Go.st (fun U hr => XS.ifNo X3.here hx rfl (hb hby d4_28) rfl ((if0 _ _).trans (tlt ((lw_gt ((16 : Int64) + q2) (w1 / (2 : Int64))).2 hc28_4)).2.2.2) hr) ?_
      show Go p.tables e below _ (T3.setTop (mkF m 31 #[.val (.ref a1), .val (.long q2), .second, .val (.long ((16 : Int64) + q2)), .second, .val (.long q2), .second] []))
      refine Go.st (fun U hr => XS.lloadN X3.here hx rfl (hb hby d4_31) rfl hr) ?_
      show Go p.tables e below _ (T3.setTop (mkF m 32 #[.val (.ref a1), .val (.long q2), .second, .val (.long ((16 : Int64) + q2)), .second, .val (.long q2), .second] [(.long ((16 : Int64) + q2))]))
      refine Go.st (fun U hr => XS.aloadN X3.here hx rfl (hb hby d4_32) rfl rfl hr) ?_
      show Go p.tables e below _ (T3.setTop (mkF m 33 #[.val (.ref a1), .val (.long q2), .second, .val (.long ((16 : Int64) + q2)), .second, .val (.long q2), .second] [(.ref a1), (.long ((16 : Int64) + q2))]))
      obtain ⟨T5, X5, e5, st5⟩ := getF X3 hx hZ hown (host := "") (Or.inl (hw _ (List.mem_of_getElem? (i := 18) rfl))) Via.refl e3 F2 (g := (mkF m 33 #[.val (.ref a1), .val (.long q2), .second, .val (.long ((16 : Int64) + q2)), .second, .val (.long q2), .second] [(.ref a1), (.long ((16 : Int64) + q2))])) rfl rfl (hb hby d4_33)
      refine Go.st st5 ?_
      show Go p.tables e below _ (T5.setTop (mkF m 36 #[.val (.ref a1), .val (.long q2), .second, .val (.long ((16 : Int64) + q2)), .second, .val (.long q2), .second] [(.long w1), (.long ((16 : Int64) + q2))]))
      refine Go.st (fun U hr => XS.ladd X5.here hx rfl (hb hby d4_36) rfl hr) ?_
      show Go p.tables e below _ (T5.setTop (mkF m 37 #[.val (.ref a1), .val (.long q2), .second, .val (.long ((16 : Int64) + q2)), .second, .val (.long q2), .second] [(.long (((16 : Int64) + q2) + w1))]))
      refine Go.st (fun U hr => XS.lconst X5.here hx rfl (hb hby d4_37) hr) ?_
      show Go p.tables e below _ (T5.setTop (mkF m 38 #[.val (.ref a1), .val (.long q2), .second, .val (.long ((16 : Int64) + q2)), .second, .val (.long q2), .second] [(.long (1 : Int64)), (.long (((16 : Int64) + q2) + w1))]))
      refine Go.st (fun U hr => XS.lsub X5.here hx rfl (hb hby d4_38) rfl hr) ?_
      show Go p.tables e below _ (T5.setTop (mkF m 39 #[.val (.ref a1), .val (.long q2), .second, .val (.long ((16 : Int64) + q2)), .second, .val (.long q2), .second] [(.long ((((16 : Int64) + q2) + w1) - (1 : Int64)))]))
      refine Go.st (fun U hr => XS.aloadN X5.here hx rfl (hb hby d4_39) rfl rfl hr) ?_
      show Go p.tables e below _ (T5.setTop (mkF m 40 #[.val (.ref a1), .val (.long q2), .second, .val (.long ((16 : Int64) + q2)), .second, .val (.long q2), .second] [(.ref a1), (.long ((((16 : Int64) + q2) + w1) - (1 : Int64)))]))
      obtain ⟨T6, X6, e6, st6⟩ := getF X5 hx hZ hown (host := "") (Or.inl (hw _ (List.mem_of_getElem? (i := 18) rfl))) Via.refl e5 F2 (g := (mkF m 40 #[.val (.ref a1), .val (.long q2), .second, .val (.long ((16 : Int64) + q2)), .second, .val (.long q2), .second] [(.ref a1), (.long ((((16 : Int64) + q2) + w1) - (1 : Int64)))])) rfl rfl (hb hby d4_40)
      refine Go.st st6 ?_
      show Go p.tables e below _ (T6.setTop (mkF m 43 #[.val (.ref a1), .val (.long q2), .second, .val (.long ((16 : Int64) + q2)), .second, .val (.long q2), .second] [(.long w1), (.long ((((16 : Int64) + q2) + w1) - (1 : Int64)))]))
      refine Go.st (fun U hr => XS.ldiv X6.here hx rfl (hb hby d4_43) rfl (fun q => by rw [q] at hc15_2; exact absurd hc15_2 (by decide)) hr) ?_
      show Go p.tables e below _ (T6.setTop (mkF m 44 #[.val (.ref a1), .val (.long q2), .second, .val (.long ((16 : Int64) + q2)), .second, .val (.long q2), .second] [(.long (((((16 : Int64) + q2) + w1) - (1 : Int64)) / w1))]))
      refine Go.st (fun U hr => XS.aloadN X6.here hx rfl (hb hby d4_44) rfl rfl hr) ?_
      show Go p.tables e below _ (T6.setTop (mkF m 45 #[.val (.ref a1), .val (.long q2), .second, .val (.long ((16 : Int64) + q2)), .second, .val (.long q2), .second] [(.ref a1), (.long (((((16 : Int64) + q2) + w1) - (1 : Int64)) / w1))]))
      obtain ⟨T7, X7, e7, st7⟩ := getF X6 hx hZ hown (host := "") (Or.inl (hw _ (List.mem_of_getElem? (i := 18) rfl))) Via.refl e6 F2 (g := (mkF m 45 #[.val (.ref a1), .val (.long q2), .second, .val (.long ((16 : Int64) + q2)), .second, .val (.long q2), .second] [(.ref a1), (.long (((((16 : Int64) + q2) + w1) - (1 : Int64)) / w1))])) rfl rfl (hb hby d4_45)
      refine Go.st st7 ?_
      show Go p.tables e below _ (T7.setTop (mkF m 48 #[.val (.ref a1), .val (.long q2), .second, .val (.long ((16 : Int64) + q2)), .second, .val (.long q2), .second] [(.long w1), (.long (((((16 : Int64) + q2) + w1) - (1 : Int64)) / w1))]))
      refine Go.st (fun U hr => XS.lmul X7.here hx rfl (hb hby d4_48) rfl hr) ?_
      show Go p.tables e below _ (T7.setTop (mkF m 49 #[.val (.ref a1), .val (.long q2), .second, .val (.long ((16 : Int64) + q2)), .second, .val (.long q2), .second] [(.long ((((((16 : Int64) + q2) + w1) - (1 : Int64)) / w1) * w1))]))
      refine Go.st (fun U hr => XS.lstore X7.here hx rfl (hb hby d4_49) rfl (l' := #[.val (.ref a1), .val (.long q2), .second, .val (.long ((16 : Int64) + q2)), .second, .val (.long ((((((16 : Int64) + q2) + w1) - (1 : Int64)) / w1) * w1)), .second]) rfl hr) ?_
      show Go p.tables e below _ (T7.setTop (mkF m 51 #[.val (.ref a1), .val (.long q2), .second, .val (.long ((16 : Int64) + q2)), .second, .val (.long ((((((16 : Int64) + q2) + w1) - (1 : Int64)) / w1) * w1)), .second] []))
      refine Go.st (fun U hr => XS.lload X7.here hx rfl (hb hby d4_51) rfl hr) ?_
      show Go p.tables e below _ (T7.setTop (mkF m 53 #[.val (.ref a1), .val (.long q2), .second, .val (.long ((16 : Int64) + q2)), .second, .val (.long ((((((16 : Int64) + q2) + w1) - (1 : Int64)) / w1) * w1)), .second] [(.long ((((((16 : Int64) + q2) + w1) - (1 : Int64)) / w1) * w1))]))
      exact own_retO X7 hx Bd.notSynchronized (t := .long) Bd.returns rfl (Or.inr (Or.inl ⟨rfl, rfl, _, rfl⟩)) (hb hby d4_53) ⟨by simp only [own_ab, if_pos hc15_2, if_pos hc28_4], N0, e7⟩ (by decide) (by decide)
    · refine Go.st (fun U hr => XS.ifYes X3.here hx rfl (pc0 := 28) (pc' := 51) rfl (hb hby d4_28) rfl ((if0 _ _).trans (flt (fun q => hc28_4 ((lw_gt ((16 : Int64) + q2) (w1 / (2 : Int64))).1 q))).2.2.2) (by decide) (by decide) hr) ?_
      show Go p.tables e below _ (T3.setTop (mkF m 51 #[.val (.ref a1), .val (.long q2), .second, .val (.long ((16 : Int64) + q2)), .second, .val (.long q2), .second] []))
      refine Go.st (fun U hr => XS.lload X3.here hx rfl (hb hby d4_51) rfl hr) ?_
      show Go p.tables e below _ (T3.setTop (mkF m 53 #[.val (.ref a1), .val (.long q2), .second, .val (.long ((16 : Int64) + q2)), .second, .val (.long q2), .second] [(.long q2)]))
      exact own_retO X3 hx Bd.notSynchronized (t := .long) Bd.returns rfl (Or.inr (Or.inl ⟨rfl, rfl, _, rfl⟩)) (hb hby d4_53) ⟨by simp only [own_ab, if_pos hc15_2, if_neg hc28_4], N0, e3⟩ (by decide) (by decide)
  · refine Go.st (fun U hr => XS.ifYes X1.here hx rfl (pc0 := 15) (pc' := 51) rfl (hb hby d4_15) rfl ((if0 _ _).trans (flt (fun q => hc15_2 ((lw_gt w1 (0 : Int64)).1 q))).2.2.2) (by decide) (by decide) hr) ?_
    show Go p.tables e below _ (T1.setTop (mkF m 51 #[.val (.ref a1), .val (.long q2), .second, .val (.long ((16 : Int64) + q2)), .second, .val (.long q2), .second] []))
    refine Go.st (fun U hr => XS.lload X1.here hx rfl (hb hby d4_51) rfl hr) ?_
    show Go p.tables e below _ (T1.setTop (mkF m 53 #[.val (.ref a1), .val (.long q2), .second, .val (.long ((16 : Int64) + q2)), .second, .val (.long q2), .second] [(.long q2)]))
    exact own_retO X1 hx Bd.notSynchronized (t := .long) Bd.returns rfl (Or.inr (Or.inl ⟨rfl, rfl, _, rfl⟩)) (hb hby d4_53) ⟨by simp only [own_ab, if_neg hc15_2], N0, e1⟩ (by decide) (by decide)
theorem pn_0 : plainFor x = true := plainFor_of_name (by first | (simp [plainName, overriddenIn]; done) | decide +kernel)
theorem ef_0 (m : MethodId) (x0 : Int64) (x1 : Int64) (x2 : Int64) : entryFrame m #[(.long x0), (.long x1), (.long x2)] maxLocals = mkF m 0 #[.val (.long x0), .second, .val (.long x1), .second, .val (.long x2), .second, .unset, .unset, .unset, .unset, .unset, .unset, .unset, .unset, .unset, .unset, .unset, .unset, .unset, .unset] [] := by first | (simp [entryFrame, mkF, argsToLocals, Value.category, maxLocals]; done) | rfl
theorem pd_1 : parseMethodDescriptor "(JJ)V" = some ⟨[.long, .long], none⟩ := by decide +kernel
theorem pd_2 : parseMethodDescriptor "(J)J" = some ⟨[.long], some .long⟩ := by decide +kernel
def Q0 (Z : State) (q1 : Int64) (q2 : Int64) (q3 : Int64)  (h0 : Heap) (n0 : Nat) (v : Option Value) (h : Heap) (L : List Loc) : Prop := v = some (.int 1) ∧ Fr n0 L
set_option maxRecDepth 65536 in
set_option maxHeartbeats 40000000 in
theorem rm0 (l : Launch) (Z : State) (a0 : Array Value) (hw : ∀ d ∈ tables_1, d.before a0 Z = true) (ws : List Jvm.Cond) (q1 : Int64) (q2 : Int64) (q3 : Int64)  (h0 : Heap) (n0 : Nat) (Z0 : n0 ≤ h0.size) :
    MetFree l x (head1 (Jvm.Cond.code x code maxLocals ret :: ws) room_1) (fun a U => a = #[(.long q1), (.long q2), (.long q3)] ∧ Z.Warmed39 U.vm ∧ U.heap = h0) (fun _ _ _ _ _ => True) (fun _ U o U' => ∃ v L, o = .returned v ∧ Q0 Z q1 q2 q3 h0 n0 v U'.heap L ∧ FrameEnd U o U' L room_1.cells room_1.slots) := by
  refine MetFree.of_bodySF pn_0 hisR ?_
  intro p e s m args below meth c s₁ Bd hml0 hP hK
  obtain ⟨rfl, hZ, hh⟩ := hP
  have hx := Bd.exec
  have hby := Bd.bytes
  have hml : c.maxLocals = 20 := hml0
  have hown : s.vm.findClass "com/example/ordermesh/ordermesh/node/HeapArrayBytesPinLaw" = some m.cls := findClass_of_methodNamed Bd.named
  have hnm := (name_of_methodNamed Bd.named Bd.method).1
  have X0 : Stand p l e room_1 s m #[(.long q1), (.long q2), (.long q3)] below meth c s₁ [] 0 0 := Stand.of_body Bd
  have e0 : s₁.heap = h0 := by rw [← hh, Bd.state]; rfl
  have N0 := Fr.nil n0
  refine own_start (Q := Q0 Z q1 q2 q3 h0 n0) (own_cast (ef_0 m q1 q2 q3) ?_)
  show Go p.tables e below _ (s₁.setTop (mkF m 0 #[.val (.long q1), .second, .val (.long q2), .second, .val (.long q3), .second, .unset, .unset, .unset, .unset, .unset, .unset, .unset, .unset, .unset, .unset, .unset, .unset, .unset, .unset] []))
  refine Go.st (X0.ldc2Long hx hown (mvT hZ (hw _ (List.mem_of_getElem? (i := 0) rfl))) (g := (mkF m 0 #[.val (.long q1), .second, .val (.long q2), .second, .val (.long q3), .second, .unset, .unset, .unset, .unset, .unset, .unset, .unset, .unset, .unset, .unset, .unset, .unset, .unset, .unset] [])) rfl (hb hby at_0)) ?_
  show Go p.tables e below _ (s₁.setTop (mkF m 3 #[.val (.long q1), .second, .val (.long q2), .second, .val (.long q3), .second, .unset, .unset, .unset, .unset, .unset, .unset, .unset, .unset, .unset, .unset, .unset, .unset, .unset, .unset] [(.long (2305843009213693951 : Int64))]))
  refine Go.st (fun U hr => XS.lstore X0.here hx rfl (hb hby at_3) rfl (l' := #[.val (.long q1), .second, .val (.long q2), .second, .val (.long q3), .second, .val (.long (2305843009213693951 : Int64)), .second, .unset, .unset, .unset, .unset, .unset, .unset, .unset, .unset, .unset, .unset, .unset, .unset]) rfl hr) ?_
  show Go p.tables e below _ (s₁.setTop (mkF m 5 #[.val (.long q1), .second, .val (.long q2), .second, .val (.long q3), .second, .val (.long (2305843009213693951 : Int64)), .second, .unset, .unset, .unset, .unset, .unset, .unset, .unset, .unset, .unset, .unset, .unset, .unset] []))
  refine Go.st (fun U hr => XS.lloadN X0.here hx rfl (hb hby at_5) rfl hr) ?_
  show Go p.tables e below _ (s₁.setTop (mkF m 6 #[.val (.long q1), .second, .val (.long q2), .second, .val (.long q3), .second, .val (.long (2305843009213693951 : Int64)), .second, .unset, .unset, .unset, .unset, .unset, .unset, .unset, .unset, .unset, .unset, .unset, .unset] [(.long q1)]))
  refine Go.st (X0.ldc2Long hx hown (mvT hZ (hw _ (List.mem_of_getElem? (i := 1) rfl))) (g := (mkF m 6 #[.val (.long q1), .second, .val (.long q2), .second, .val (.long q3), .second, .val (.long (2305843009213693951 : Int64)), .second, .unset, .unset, .unset, .unset, .unset, .unset, .unset, .unset, .unset, .unset, .unset, .unset] [(.long q1)])) rfl (hb hby at_6)) ?_
  show Go p.tables e below _ (s₁.setTop (mkF m 9 #[.val (.long q1), .second, .val (.long q2), .second, .val (.long q3), .second, .val (.long (2305843009213693951 : Int64)), .second, .unset, .unset, .unset, .unset, .unset, .unset, .unset, .unset, .unset, .unset, .unset, .unset] [(.long (9223372036854775807 : Int64)), (.long q1)]))
  refine Go.st (fun U hr => XS.land X0.here hx rfl (hb hby at_9) rfl hr) ?_
  show Go p.tables e below _ (s₁.setTop (mkF m 10 #[.val (.long q1), .second, .val (.long q2), .second, .val (.long q3), .second, .val (.long (2305843009213693951 : Int64)), .second, .unset, .unset, .unset, .unset, .unset, .unset, .unset, .unset, .unset, .unset, .unset, .unset] [(.long (q1 &&& (9223372036854775807 : Int64)))]))
  refine Go.st (fun U hr => XS.lstore X0.here hx rfl (hb hby at_10) rfl (l' := #[.val (.long q1), .second, .val (.long q2), .second, .val (.long q3), .second, .val (.long (2305843009213693951 : Int64)), .second, .val (.long (q1 &&& (9223372036854775807 : Int64))), .second, .unset, .unset, .unset, .unset, .unset, .unset, .unset, .unset, .unset, .unset]) rfl hr) ?_
  show Go p.tables e below _ (s₁.setTop (mkF m 12 #[.val (.long q1), .second, .val (.long q2), .second, .val (.long q3), .second, .val (.long (2305843009213693951 : Int64)), .second, .val (.long (q1 &&& (9223372036854775807 : Int64))), .second, .unset, .unset, .unset, .unset, .unset, .unset, .unset, .unset, .unset, .unset] []))
  generalize h_by_ : (q1 &&& (9223372036854775807 : Int64)) = by_
  have hby_ : ¬ by_ < 0 := by
    have := c_maskL q1 9223372036854775807 63 (by decide) (by decide)
    rw [h_by_] at this; rw [own_lt, show (0 : Int64).toInt = 0 from by decide]; omega
  refine Go.st (fun U hr => XS.lloadN X0.here hx rfl (hb hby at_12) rfl hr) ?_
  show Go p.tables e below _ (s₁.setTop (mkF m 13 #[.val (.long q1), .second, .val (.long q2), .second, .val (.long q3), .second, .val (.long (2305843009213693951 : Int64)), .second, .val (.long by_), .second, .unset, .unset, .unset, .unset, .unset, .unset, .unset, .unset, .unset, .unset] [(.long q2)]))
  refine Go.st (fun U hr => XS.lload X0.here hx rfl (hb hby at_13) rfl hr) ?_
  show Go p.tables e below _ (s₁.setTop (mkF m 15 #[.val (.long q1), .second, .val (.long q2), .second, .val (.long q3), .second, .val (.long (2305843009213693951 : Int64)), .second, .val (.long by_), .second, .unset, .unset, .unset, .unset, .unset, .unset, .unset, .unset, .unset, .unset] [(.long (2305843009213693951 : Int64)), (.long q2)]))
  refine Go.st (fun U hr => XS.land X0.here hx rfl (hb hby at_15) rfl hr) ?_
  show Go p.tables e below _ (s₁.setTop (mkF m 16 #[.val (.long q1), .second, .val (.long q2), .second, .val (.long q3), .second, .val (.long (2305843009213693951 : Int64)), .second, .val (.long by_), .second, .unset, .unset, .unset, .unset, .unset, .unset, .unset, .unset, .unset, .unset] [(.long (q2 &&& (2305843009213693951 : Int64)))]))
  refine Go.st (fun U hr => XS.lstore X0.here hx rfl (hb hby at_16) rfl (l' := #[.val (.long q1), .second, .val (.long q2), .second, .val (.long q3), .second, .val (.long (2305843009213693951 : Int64)), .second, .val (.long by_), .second, .val (.long (q2 &&& (2305843009213693951 : Int64))), .second, .unset, .unset, .unset, .unset, .unset, .unset, .unset, .unset]) rfl hr) ?_
  show Go p.tables e below _ (s₁.setTop (mkF m 18 #[.val (.long q1), .second, .val (.long q2), .second, .val (.long q3), .second, .val (.long (2305843009213693951 : Int64)), .second, .val (.long by_), .second, .val (.long (q2 &&& (2305843009213693951 : Int64))), .second, .unset, .unset, .unset, .unset, .unset, .unset, .unset, .unset] []))
  generalize h_rg : (q2 &&& (2305843009213693951 : Int64)) = rg
  have hrg : 0 ≤ rg.toInt ∧ rg.toInt < 2305843009213693952 := by
    have := c_maskL q2 2305843009213693951 61 (by decide) (by decide)
    rw [h_rg, show ((2 ^ 61 : Nat) : Int) = 2305843009213693952 from by decide] at this; omega
  refine Go.st (fun U hr => XS.lload X0.here hx rfl (hb hby at_18) rfl hr) ?_
  show Go p.tables e below _ (s₁.setTop (mkF m 20 #[.val (.long q1), .second, .val (.long q2), .second, .val (.long q3), .second, .val (.long (2305843009213693951 : Int64)), .second, .val (.long by_), .second, .val (.long rg), .second, .unset, .unset, .unset, .unset, .unset, .unset, .unset, .unset] [(.long q3)]))
  refine Go.st (fun U hr => XS.lload X0.here hx rfl (hb hby at_20) rfl hr) ?_
  show Go p.tables e below _ (s₁.setTop (mkF m 22 #[.val (.long q1), .second, .val (.long q2), .second, .val (.long q3), .second, .val (.long (2305843009213693951 : Int64)), .second, .val (.long by_), .second, .val (.long rg), .second, .unset, .unset, .unset, .unset, .unset, .unset, .unset, .unset] [(.long (2305843009213693951 : Int64)), (.long q3)]))
  refine Go.st (fun U hr => XS.land X0.here hx rfl (hb hby at_22) rfl hr) ?_
  show Go p.tables e below _ (s₁.setTop (mkF m 23 #[.val (.long q1), .second, .val (.long q2), .second, .val (.long q3), .second, .val (.long (2305843009213693951 : Int64)), .second, .val (.long by_), .second, .val (.long rg), .second, .unset, .unset, .unset, .unset, .unset, .unset, .unset, .unset] [(.long (q3 &&& (2305843009213693951 : Int64)))]))
  refine Go.st (fun U hr => XS.lstore X0.here hx rfl (hb hby at_23) rfl (l' := #[.val (.long q1), .second, .val (.long q2), .second, .val (.long q3), .second, .val (.long (2305843009213693951 : Int64)), .second, .val (.long by_), .second, .val (.long rg), .second, .val (.long (q3 &&& (2305843009213693951 : Int64))), .second, .unset, .unset, .unset, .unset, .unset, .unset]) rfl hr) ?_
  show Go p.tables e below _ (s₁.setTop (mkF m 25 #[.val (.long q1), .second, .val (.long q2), .second, .val (.long q3), .second, .val (.long (2305843009213693951 : Int64)), .second, .val (.long by_), .second, .val (.long rg), .second, .val (.long (q3 &&& (2305843009213693951 : Int64))), .second, .unset, .unset, .unset, .unset, .unset, .unset] []))
  generalize h_ln : (q3 &&& (2305843009213693951 : Int64)) = ln
  have hln : 0 ≤ ln.toInt ∧ ln.toInt < 2305843009213693952 := by
    have := c_maskL q3 2305843009213693951 61 (by decide) (by decide)
    rw [h_ln, show ((2 ^ 61 : Nat) : Int) = 2305843009213693952 from by decide] at this; omega
  obtain ⟨T1, h1, X1, e1, E1, A1, D1, -, st1⟩ := newO X0 hx hZ hown (hw _ (List.mem_of_getElem? (i := 2) rfl)) (hw _ (List.mem_of_getElem? (i := 3) rfl)) (hw _ (List.mem_of_getElem? (i := 4) rfl)) e0 (g := (mkF m 25 #[.val (.long q1), .second, .val (.long q2), .second, .val (.long q3), .second, .val (.long (2305843009213693951 : Int64)), .second, .val (.long by_), .second, .val (.long rg), .second, .val (.long ln), .second, .unset, .unset, .unset, .unset, .unset, .unset] [])) rfl (hb hby at_25) (by decide) (by decide)
  obtain ⟨b1, g1⟩ : ∃ z, z = h0.size := ⟨_, rfl⟩
  rw [← g1] at A1 D1 st1
  refine Go.st st1 ?_
  have gb1 : n0 ≤ b1 := Nat.le_trans Z0 (Nat.le_of_eq g1.symm)
  have z2 := Nat.le_trans Z0 E1.1
  have F1_bytes : Fld Z h1 b1 "com/example/ordermesh/ordermesh/node/Heap" "bytes" "J" (.long (0 : Int64)) := D1 (Or.inr (hw _ (List.mem_of_getElem? (i := 17) rfl))) (ty := .long) (by decide)
  have F1_regionBytes : Fld Z h1 b1 "com/example/ordermesh/ordermesh/node/Heap" "regionBytes" "J" (.long (0 : Int64)) := D1 (Or.inr (hw _ (List.mem_of_getElem? (i := 19) rfl))) (ty := .long) (by decide)
  show Go p.tables e below _ (T1.setTop (mkF m 28 #[.val (.long q1), .second, .val (.long q2), .second, .val (.long q3), .second, .val (.long (2305843009213693951 : Int64)), .second, .val (.long by_), .second, .val (.long rg), .second, .val (.long ln), .second, .unset, .unset, .unset, .unset, .unset, .unset] [(.ref b1)]))
  refine Go.st (fun U hr => XS.dup X1.here hx rfl (hb hby at_28) rfl rfl hr) ?_
  show Go p.tables e below _ (T1.setTop (mkF m 29 #[.val (.long q1), .second, .val (.long q2), .second, .val (.long q3), .second, .val (.long (2305843009213693951 : Int64)), .second, .val (.long by_), .second, .val (.long rg), .second, .val (.long ln), .second, .unset, .unset, .unset, .unset, .unset, .unset] [(.ref b1), (.ref b1)]))
  refine Go.st (fun U hr => XS.lload X1.here hx rfl (hb hby at_29) rfl hr) ?_
  show Go p.tables e below _ (T1.setTop (mkF m 31 #[.val (.long q1), .second, .val (.long q2), .second, .val (.long q3), .second, .val (.long (2305843009213693951 : Int64)), .second, .val (.long by_), .second, .val (.long rg), .second, .val (.long ln), .second, .unset, .unset, .unset, .unset, .unset, .unset] [(.long by_), (.ref b1), (.ref b1)]))
  refine Go.st (fun U hr => XS.lload X1.here hx rfl (hb hby at_31) rfl hr) ?_
  show Go p.tables e below _ (T1.setTop (mkF m 33 #[.val (.long q1), .second, .val (.long q2), .second, .val (.long q3), .second, .val (.long (2305843009213693951 : Int64)), .second, .val (.long by_), .second, .val (.long rg), .second, .val (.long ln), .second, .unset, .unset, .unset, .unset, .unset, .unset] [(.long rg), (.long by_), (.ref b1), (.ref b1)]))
  obtain ⟨_, _, ⟨T3, L3, k3, n3⟩, -, X3, ⟨Lc3, hQ3, l3, y3, z3⟩, st3⟩ := X1.specialBack hx (y := (⟨"com/example/ordermesh/ordermesh/node/Heap", "<init>", "(JJ)V"⟩ : MethodName)) rfl hown (mvT hZ (hw _ (List.mem_of_getElem? (i := 5) rfl))) (mvT hZ (hw _ (List.mem_of_getElem? (i := 6) rfl))) (mvT hZ (hw _ (List.mem_of_getElem? (i := 7) rfl))) (by decide) (backOf (W := 1) (rm1 l Z a0 hw [] b1 by_ rg h1 n0 z2 A1 F1_bytes F1_regionBytes gb1 hby_ (fun q => by rw [own_lt, show (0 : Int64).toInt = 0 from by decide] at q; omega)) hZ (hw _ (List.mem_of_getElem? (i := 7) rfl)) (hw _ (List.mem_of_getElem? (i := 4) rfl)) (by decide) (by decide)) (g := (mkF m 33 #[.val (.long q1), .second, .val (.long q2), .second, .val (.long q3), .second, .val (.long (2305843009213693951 : Int64)), .second, .val (.long by_), .second, .val (.long rg), .second, .val (.long ln), .second, .unset, .unset, .unset, .unset, .unset, .unset] [(.long rg), (.long by_), (.ref b1), (.ref b1)])) rfl (by rw [hml]; rfl) (Steps.refl _) (a := b1) (argsL := [(.long by_), (.long rg)]) (rest := [(.ref b1)]) (lenOf pd_1 rfl) rfl (by show 2 * 0 + _ ≤ _; exact Nat.le_of_eq rfl) (hb hby at_33) (fun _ _ => ⟨rfl, e1, (by decide : 1 + 0 ≤ _), (by decide : 2 + 0 ≤ _)⟩)
  dsimp only [Pt.U, Pt.locs, Pt.cells, Pt.slots] at X3 l3 y3 z3 st3 hQ3
  subst l3 y3 z3
  obtain ⟨rfl, Nq3, Kq3, Eq3, Ff3⟩ := hQ3
  have N3 := Fr.app N0 Nq3
  refine Go.tr st3 ?_
  show Go p.tables e below _ (T3.setTop (mkF m 36 #[.val (.long q1), .second, .val (.long q2), .second, .val (.long q3), .second, .val (.long (2305843009213693951 : Int64)), .second, .val (.long by_), .second, .val (.long rg), .second, .val (.long ln), .second, .unset, .unset, .unset, .unset, .unset, .unset] [(.ref b1)]))
  have z4 := Nat.le_trans z2 Kq3.1
  refine Go.st (fun U hr => XS.astore X3.here hx rfl (hb hby at_36) rfl rfl (l' := #[.val (.long q1), .second, .val (.long q2), .second, .val (.long q3), .second, .val (.long (2305843009213693951 : Int64)), .second, .val (.long by_), .second, .val (.long rg), .second, .val (.long ln), .second, .val (.ref b1), .unset, .unset, .unset, .unset, .unset]) rfl hr) ?_
  show Go p.tables e below _ (T3.setTop (mkF m 38 #[.val (.long q1), .second, .val (.long q2), .second, .val (.long q3), .second, .val (.long (2305843009213693951 : Int64)), .second, .val (.long by_), .second, .val (.long rg), .second, .val (.long ln), .second, .val (.ref b1), .unset, .unset, .unset, .unset, .unset] []))
  refine Go.st (fun U hr => XS.aload X3.here hx rfl (hb hby at_38) rfl rfl hr) ?_
  show Go p.tables e below _ (T3.setTop (mkF m 40 #[.val (.long q1), .second, .val (.long q2), .second, .val (.long q3), .second, .val (.long (2305843009213693951 : Int64)), .second, .val (.long by_), .second, .val (.long rg), .second, .val (.long ln), .second, .val (.ref b1), .unset, .unset, .unset, .unset, .unset] [(.ref b1)]))
  refine Go.st (fun U hr => XS.lload X3.here hx rfl (hb hby at_40) rfl hr) ?_
  show Go p.tables e below _ (T3.setTop (mkF m 42 #[.val (.long q1), .second, .val (.long q2), .second, .val (.long q3), .second, .val (.long (2305843009213693951 : Int64)), .second, .val (.long by_), .second, .val (.long rg), .second, .val (.long ln), .second, .val (.ref b1), .unset, .unset, .unset, .unset, .unset] [(.long ln), (.ref b1)]))
  obtain ⟨cq5, kq5, q5a, q5b, q5c⟩ := isOf hZ rfl Eq3
  obtain ⟨_, _, ⟨T5, L5, k5, n5⟩, -, X5, ⟨Lc5, hQ5, l5, y5, z5⟩, st5⟩ := X3.virtualBack hx (y := (⟨"com/example/ordermesh/ordermesh/node/Heap", "arrayBytes", "(J)J"⟩ : MethodName)) (z := (⟨"com/example/ordermesh/ordermesh/node/Heap", "arrayBytes", "(J)J"⟩ : MethodName)) hown (mvT hZ (hw _ (List.mem_of_getElem? (i := 20) rfl))) (mvT hZ (hw _ (List.mem_of_getElem? (i := 21) rfl))) (notFace_of_selects (args := #[]) (mvT hZ (hw _ (List.mem_of_getElem? (i := 23) rfl)))) (mvT hZ (hw _ (List.mem_of_getElem? (i := 23) rfl))) (mvT hZ (hw _ (List.mem_of_getElem? (i := 22) rfl))) (by decide) (backOf (W := 0) (rm4 l Z a0 hw [] b1 ln rg T3.heap n0 z4 Ff3) hZ (hw _ (List.mem_of_getElem? (i := 24) rfl)) (hw _ (List.mem_of_getElem? (i := 4) rfl)) (by decide) (by decide)) q5a q5c (g := (mkF m 42 #[.val (.long q1), .second, .val (.long q2), .second, .val (.long q3), .second, .val (.long (2305843009213693951 : Int64)), .second, .val (.long by_), .second, .val (.long rg), .second, .val (.long ln), .second, .val (.ref b1), .unset, .unset, .unset, .unset, .unset] [(.long ln), (.ref b1)])) rfl (by rw [hml]; rfl) (Steps.refl _) (argsL := [(.long ln)]) (rest := []) (lenOf pd_2 rfl) rfl (by show 2 * 0 + _ ≤ _; exact Nat.le_of_eq rfl) (hb hby at_42) (fun _ _ => ⟨rfl, rfl, (by decide : 1 + 0 ≤ _), (by decide : 2 + 0 ≤ _)⟩)
  dsimp only [Pt.U, Pt.locs, Pt.cells, Pt.slots] at X5 l5 y5 z5 st5 hQ5
  subst l5 y5 z5
  obtain ⟨rfl, Nq5, ee5⟩ := hQ5
  have N5 := Fr.app N3 Nq5
  refine Go.tr st5 ?_
  show Go p.tables e below _ (T5.setTop (mkF m 45 #[.val (.long q1), .second, .val (.long q2), .second, .val (.long q3), .second, .val (.long (2305843009213693951 : Int64)), .second, .val (.long by_), .second, .val (.long rg), .second, .val (.long ln), .second, .val (.ref b1), .unset, .unset, .unset, .unset, .unset] [(.long (own_ab rg ln))]))
  refine Go.st (fun U hr => XS.lstore X5.here hx rfl (hb hby at_45) rfl (l' := #[.val (.long q1), .second, .val (.long q2), .second, .val (.long q3), .second, .val (.long (2305843009213693951 : Int64)), .second, .val (.long by_), .second, .val (.long rg), .second, .val (.long ln), .second, .val (.ref b1), .val (.long (own_ab rg ln)), .second, .unset, .unset, .unset]) rfl hr) ?_
  show Go p.tables e below _ (T5.setTop (mkF m 47 #[.val (.long q1), .second, .val (.long q2), .second, .val (.long q3), .second, .val (.long (2305843009213693951 : Int64)), .second, .val (.long by_), .second, .val (.long rg), .second, .val (.long ln), .second, .val (.ref b1), .val (.long (own_ab rg ln)), .second, .unset, .unset, .unset] []))
  refine Go.st (X5.ldc2Long hx hown (mvT hZ (hw _ (List.mem_of_getElem? (i := 27) rfl))) (g := (mkF m 47 #[.val (.long q1), .second, .val (.long q2), .second, .val (.long q3), .second, .val (.long (2305843009213693951 : Int64)), .second, .val (.long by_), .second, .val (.long rg), .second, .val (.long ln), .second, .val (.ref b1), .val (.long (own_ab rg ln)), .second, .unset, .unset, .unset] [])) rfl (hb hby at_47)) ?_
  show Go p.tables e below _ (T5.setTop (mkF m 50 #[.val (.long q1), .second, .val (.long q2), .second, .val (.long q3), .second, .val (.long (2305843009213693951 : Int64)), .second, .val (.long by_), .second, .val (.long rg), .second, .val (.long ln), .second, .val (.ref b1), .val (.long (own_ab rg ln)), .second, .unset, .unset, .unset] [(.long (16 : Int64))]))
  refine Go.st (fun U hr => XS.lload X5.here hx rfl (hb hby at_50) rfl hr) ?_
  show Go p.tables e below _ (T5.setTop (mkF m 52 #[.val (.long q1), .second, .val (.long q2), .second, .val (.long q3), .second, .val (.long (2305843009213693951 : Int64)), .second, .val (.long by_), .second, .val (.long rg), .second, .val (.long ln), .second, .val (.ref b1), .val (.long (own_ab rg ln)), .second, .unset, .unset, .unset] [(.long ln), (.long (16 : Int64))]))
  refine Go.st (fun U hr => XS.ladd X5.here hx rfl (hb hby at_52) rfl hr) ?_
  show Go p.tables e below _ (T5.setTop (mkF m 53 #[.val (.long q1), .second, .val (.long q2), .second, .val (.long q3), .second, .val (.long (2305843009213693951 : Int64)), .second, .val (.long by_), .second, .val (.long rg), .second, .val (.long ln), .second, .val (.ref b1), .val (.long (own_ab rg ln)), .second, .unset, .unset, .unset] [(.long ((16 : Int64) + ln))]))
  refine Go.st (fun U hr => XS.lstore X5.here hx rfl (hb hby at_53) rfl (l' := #[.val (.long q1), .second, .val (.long q2), .second, .val (.long q3), .second, .val (.long (2305843009213693951 : Int64)), .second, .val (.long by_), .second, .val (.long rg), .second, .val (.long ln), .second, .val (.ref b1), .val (.long (own_ab rg ln)), .second, .val (.long ((16 : Int64) + ln)), .second, .unset]) rfl hr) ?_
  show Go p.tables e below _ (T5.setTop (mkF m 55 #[.val (.long q1), .second, .val (.long q2), .second, .val (.long q3), .second, .val (.long (2305843009213693951 : Int64)), .second, .val (.long by_), .second, .val (.long rg), .second, .val (.long ln), .second, .val (.ref b1), .val (.long (own_ab rg ln)), .second, .val (.long ((16 : Int64) + ln)), .second, .unset] []))
  refine Go.st (fun U hr => XS.lload X5.here hx rfl (hb hby at_55) rfl hr) ?_
  show Go p.tables e below _ (T5.setTop (mkF m 57 #[.val (.long q1), .second, .val (.long q2), .second, .val (.long q3), .second, .val (.long (2305843009213693951 : Int64)), .second, .val (.long by_), .second, .val (.long rg), .second, .val (.long ln), .second, .val (.ref b1), .val (.long (own_ab rg ln)), .second, .val (.long ((16 : Int64) + ln)), .second, .unset] [(.long rg)]))
  refine Go.st (fun U hr => XS.lconst X5.here hx rfl (hb hby at_57) hr) ?_
  show Go p.tables e below _ (T5.setTop (mkF m 58 #[.val (.long q1), .second, .val (.long q2), .second, .val (.long q3), .second, .val (.long (2305843009213693951 : Int64)), .second, .val (.long by_), .second, .val (.long rg), .second, .val (.long ln), .second, .val (.ref b1), .val (.long (own_ab rg ln)), .second, .val (.long ((16 : Int64) + ln)), .second, .unset] [(.long (0 : Int64)), (.long rg)]))
  refine Go.st (fun U hr => XS.lcmp X5.here hx rfl (hb hby at_58) rfl hr) ?_
  show Go p.tables e below _ (T5.setTop (mkF m 59 #[.val (.long q1), .second, .val (.long q2), .second, .val (.long q3), .second, .val (.long (2305843009213693951 : Int64)), .second, .val (.long by_), .second, .val (.long rg), .second, .val (.long ln), .second, .val (.ref b1), .val (.long (own_ab rg ln)), .second, .val (.long ((16 : Int64) + ln)), .second, .unset] [(.int (lcmpW rg (0 : Int64)))]))
  suffices hj59_6 : Go p.tables e below _ (T5.setTop (mkF m 79 #[.val (.long q1), .second, .val (.long q2), .second, .val (.long q3), .second, .val (.long (2305843009213693951 : Int64)), .second, .val (.long by_), .second, .val (.long rg), .second, .val (.long ln), .second, .val (.ref b1), .val (.long (own_ab rg ln)), .second, .val (.long ((16 : Int64) + ln)), .second, .unset] [(.int (if (0 : Int64) < rg then (if rg < ((2 : Int64) * ((16 : Int64) + ln)) then (1 : Int32) else (0 : Int32)) else (0 : Int32)))])) by
    by_cases hc59_6 : (0 : Int64) < rg
    · refine Go.st (fun U hr => XS.ifNo X5.here hx rfl (hb hby at_59) rfl ((if0 _ _).trans (tlt ((lw_gt rg (0 : Int64)).2 hc59_6)).2.2.2) hr) ?_
      show Go p.tables e below _ (T5.setTop (mkF m 62 #[.val (.long q1), .second, .val (.long q2), .second, .val (.long q3), .second, .val (.long (2305843009213693951 : Int64)), .second, .val (.long by_), .second, .val (.long rg), .second, .val (.long ln), .second, .val (.ref b1), .val (.long (own_ab rg ln)), .second, .val (.long ((16 : Int64) + ln)), .second, .unset] []))
      refine Go.st (X5.ldc2Long hx hown (mvT hZ (hw _ (List.mem_of_getElem? (i := 28) rfl))) (g := (mkF m 62 #[.val (.long q1), .second, .val (.long q2), .second, .val (.long q3), .second, .val (.long (2305843009213693951 : Int64)), .second, .val (.long by_), .second, .val (.long rg), .second, .val (.long ln), .second, .val (.ref b1), .val (.long (own_ab rg ln)), .second, .val (.long ((16 : Int64) + ln)), .second, .unset] [])) rfl (hb hby at_62)) ?_
      show Go p.tables e below _ (T5.setTop (mkF m 65 #[.val (.long q1), .second, .val (.long q2), .second, .val (.long q3), .second, .val (.long (2305843009213693951 : Int64)), .second, .val (.long by_), .second, .val (.long rg), .second, .val (.long ln), .second, .val (.ref b1), .val (.long (own_ab rg ln)), .second, .val (.long ((16 : Int64) + ln)), .second, .unset] [(.long (2 : Int64))]))
      refine Go.st (fun U hr => XS.lload X5.here hx rfl (hb hby at_65) rfl hr) ?_
      show Go p.tables e below _ (T5.setTop (mkF m 67 #[.val (.long q1), .second, .val (.long q2), .second, .val (.long q3), .second, .val (.long (2305843009213693951 : Int64)), .second, .val (.long by_), .second, .val (.long rg), .second, .val (.long ln), .second, .val (.ref b1), .val (.long (own_ab rg ln)), .second, .val (.long ((16 : Int64) + ln)), .second, .unset] [(.long ((16 : Int64) + ln)), (.long (2 : Int64))]))
      refine Go.st (fun U hr => XS.lmul X5.here hx rfl (hb hby at_67) rfl hr) ?_
      show Go p.tables e below _ (T5.setTop (mkF m 68 #[.val (.long q1), .second, .val (.long q2), .second, .val (.long q3), .second, .val (.long (2305843009213693951 : Int64)), .second, .val (.long by_), .second, .val (.long rg), .second, .val (.long ln), .second, .val (.ref b1), .val (.long (own_ab rg ln)), .second, .val (.long ((16 : Int64) + ln)), .second, .unset] [(.long ((2 : Int64) * ((16 : Int64) + ln)))]))
      refine Go.st (fun U hr => XS.lload X5.here hx rfl (hb hby at_68) rfl hr) ?_
      show Go p.tables e below _ (T5.setTop (mkF m 70 #[.val (.long q1), .second, .val (.long q2), .second, .val (.long q3), .second, .val (.long (2305843009213693951 : Int64)), .second, .val (.long by_), .second, .val (.long rg), .second, .val (.long ln), .second, .val (.ref b1), .val (.long (own_ab rg ln)), .second, .val (.long ((16 : Int64) + ln)), .second, .unset] [(.long rg), (.long ((2 : Int64) * ((16 : Int64) + ln)))]))
      refine Go.st (fun U hr => XS.lcmp X5.here hx rfl (hb hby at_70) rfl hr) ?_
      show Go p.tables e below _ (T5.setTop (mkF m 71 #[.val (.long q1), .second, .val (.long q2), .second, .val (.long q3), .second, .val (.long (2305843009213693951 : Int64)), .second, .val (.long by_), .second, .val (.long rg), .second, .val (.long ln), .second, .val (.ref b1), .val (.long (own_ab rg ln)), .second, .val (.long ((16 : Int64) + ln)), .second, .unset] [(.int (lcmpW ((2 : Int64) * ((16 : Int64) + ln)) rg))]))
      suffices hj71_7 : Go p.tables e below _ (T5.setTop (mkF m 79 #[.val (.long q1), .second, .val (.long q2), .second, .val (.long q3), .second, .val (.long (2305843009213693951 : Int64)), .second, .val (.long by_), .second, .val (.long rg), .second, .val (.long ln), .second, .val (.ref b1), .val (.long (own_ab rg ln)), .second, .val (.long ((16 : Int64) + ln)), .second, .unset] [(.int (if rg < ((2 : Int64) * ((16 : Int64) + ln)) then (1 : Int32) else (0 : Int32)))])) by
        by_cases hc71_7 : rg < ((2 : Int64) * ((16 : Int64) + ln))
        · refine Go.st (fun U hr => XS.ifNo X5.here hx rfl (hb hby at_71) rfl ((if0 _ _).trans (tlt ((lw_gt ((2 : Int64) * ((16 : Int64) + ln)) rg).2 hc71_7)).2.2.2) hr) ?_
          show Go p.tables e below _ (T5.setTop (mkF m 74 #[.val (.long q1), .second, .val (.long q2), .second, .val (.long q3), .second, .val (.long (2305843009213693951 : Int64)), .second, .val (.long by_), .second, .val (.long rg), .second, .val (.long ln), .second, .val (.ref b1), .val (.long (own_ab rg ln)), .second, .val (.long ((16 : Int64) + ln)), .second, .unset] []))
          refine Go.st (fun U hr => XS.iconst X5.here hx rfl (hb hby at_74) hr) ?_
          show Go p.tables e below _ (T5.setTop (mkF m 75 #[.val (.long q1), .second, .val (.long q2), .second, .val (.long q3), .second, .val (.long (2305843009213693951 : Int64)), .second, .val (.long by_), .second, .val (.long rg), .second, .val (.long ln), .second, .val (.ref b1), .val (.long (own_ab rg ln)), .second, .val (.long ((16 : Int64) + ln)), .second, .unset] [(.int (1 : Int32))]))
          refine Go.st (fun U hr => XS.goto X5.here hx rfl (pc0 := 75) (pc' := 79) rfl (hb hby at_75) (by decide) (by decide) hr) ?_
          show Go p.tables e below _ (T5.setTop (mkF m 79 #[.val (.long q1), .second, .val (.long q2), .second, .val (.long q3), .second, .val (.long (2305843009213693951 : Int64)), .second, .val (.long by_), .second, .val (.long rg), .second, .val (.long ln), .second, .val (.ref b1), .val (.long (own_ab rg ln)), .second, .val (.long ((16 : Int64) + ln)), .second, .unset] [(.int (1 : Int32))]))
          simpa only [if_pos hc71_7] using hj71_7
        · refine Go.st (fun U hr => XS.ifYes X5.here hx rfl (pc0 := 71) (pc' := 78) rfl (hb hby at_71) rfl ((if0 _ _).trans (flt (fun q => hc71_7 ((lw_gt ((2 : Int64) * ((16 : Int64) + ln)) rg).1 q))).2.2.2) (by decide) (by decide) hr) ?_
          show Go p.tables e below _ (T5.setTop (mkF m 78 #[.val (.long q1), .second, .val (.long q2), .second, .val (.long q3), .second, .val (.long (2305843009213693951 : Int64)), .second, .val (.long by_), .second, .val (.long rg), .second, .val (.long ln), .second, .val (.ref b1), .val (.long (own_ab rg ln)), .second, .val (.long ((16 : Int64) + ln)), .second, .unset] []))
          refine Go.st (fun U hr => XS.iconst X5.here hx rfl (hb hby at_78) hr) ?_
          show Go p.tables e below _ (T5.setTop (mkF m 79 #[.val (.long q1), .second, .val (.long q2), .second, .val (.long q3), .second, .val (.long (2305843009213693951 : Int64)), .second, .val (.long by_), .second, .val (.long rg), .second, .val (.long ln), .second, .val (.ref b1), .val (.long (own_ab rg ln)), .second, .val (.long ((16 : Int64) + ln)), .second, .unset] [(.int (0 : Int32))]))
          simpa only [if_neg hc71_7] using hj71_7
      simpa only [if_pos hc59_6] using hj59_6
    · refine Go.st (fun U hr => XS.ifYes X5.here hx rfl (pc0 := 59) (pc' := 78) rfl (hb hby at_59) rfl ((if0 _ _).trans (flt (fun q => hc59_6 ((lw_gt rg (0 : Int64)).1 q))).2.2.2) (by decide) (by decide) hr) ?_
      show Go p.tables e below _ (T5.setTop (mkF m 78 #[.val (.long q1), .second, .val (.long q2), .second, .val (.long q3), .second, .val (.long (2305843009213693951 : Int64)), .second, .val (.long by_), .second, .val (.long rg), .second, .val (.long ln), .second, .val (.ref b1), .val (.long (own_ab rg ln)), .second, .val (.long ((16 : Int64) + ln)), .second, .unset] []))
      refine Go.st (fun U hr => XS.iconst X5.here hx rfl (hb hby at_78) hr) ?_
      show Go p.tables e below _ (T5.setTop (mkF m 79 #[.val (.long q1), .second, .val (.long q2), .second, .val (.long q3), .second, .val (.long (2305843009213693951 : Int64)), .second, .val (.long by_), .second, .val (.long rg), .second, .val (.long ln), .second, .val (.ref b1), .val (.long (own_ab rg ln)), .second, .val (.long ((16 : Int64) + ln)), .second, .unset] [(.int (0 : Int32))]))
      simpa only [if_neg hc59_6] using hj59_6
  generalize h_lg : (if (0 : Int64) < rg then (if rg < ((2 : Int64) * ((16 : Int64) + ln)) then (1 : Int32) else (0 : Int32)) else (0 : Int32)) = lg
  refine Go.st (fun U hr => XS.istore X5.here hx rfl (hb hby at_79) rfl (l' := #[.val (.long q1), .second, .val (.long q2), .second, .val (.long q3), .second, .val (.long (2305843009213693951 : Int64)), .second, .val (.long by_), .second, .val (.long rg), .second, .val (.long ln), .second, .val (.ref b1), .val (.long (own_ab rg ln)), .second, .val (.long ((16 : Int64) + ln)), .second, .val (.int lg)]) rfl hr) ?_
  show Go p.tables e below _ (T5.setTop (mkF m 81 #[.val (.long q1), .second, .val (.long q2), .second, .val (.long q3), .second, .val (.long (2305843009213693951 : Int64)), .second, .val (.long by_), .second, .val (.long rg), .second, .val (.long ln), .second, .val (.ref b1), .val (.long (own_ab rg ln)), .second, .val (.long ((16 : Int64) + ln)), .second, .val (.int lg)] []))
  refine Go.st (fun U hr => XS.iload X5.here hx rfl (hb hby at_81) rfl hr) ?_
  show Go p.tables e below _ (T5.setTop (mkF m 83 #[.val (.long q1), .second, .val (.long q2), .second, .val (.long q3), .second, .val (.long (2305843009213693951 : Int64)), .second, .val (.long by_), .second, .val (.long rg), .second, .val (.long ln), .second, .val (.ref b1), .val (.long (own_ab rg ln)), .second, .val (.long ((16 : Int64) + ln)), .second, .val (.int lg)] [(.int lg)]))
  have hlg : ¬ (lg = 0) ↔ (0 < rg ∧ rg < (2 : Int64) * ((16 : Int64) + ln)) := by
    rw [← h_lg]
    by_cases u1 : 0 < rg <;> by_cases u2 : rg < (2 : Int64) * ((16 : Int64) + ln) <;> simp [u1, u2]
  by_cases hc83_8 : lg = (0 : Int32)
  · refine Go.st (fun U hr => XS.ifNo X5.here hx rfl (hb hby at_83) rfl ((if0 _ _).trans (teq hc83_8).2) hr) ?_
    show Go p.tables e below _ (T5.setTop (mkF m 86 #[.val (.long q1), .second, .val (.long q2), .second, .val (.long q3), .second, .val (.long (2305843009213693951 : Int64)), .second, .val (.long by_), .second, .val (.long rg), .second, .val (.long ln), .second, .val (.ref b1), .val (.long (own_ab rg ln)), .second, .val (.long ((16 : Int64) + ln)), .second, .val (.int lg)] []))
    refine Go.st (fun U hr => XS.lload X5.here hx rfl (hb hby at_86) rfl hr) ?_
    show Go p.tables e below _ (T5.setTop (mkF m 88 #[.val (.long q1), .second, .val (.long q2), .second, .val (.long q3), .second, .val (.long (2305843009213693951 : Int64)), .second, .val (.long by_), .second, .val (.long rg), .second, .val (.long ln), .second, .val (.ref b1), .val (.long (own_ab rg ln)), .second, .val (.long ((16 : Int64) + ln)), .second, .val (.int lg)] [(.long (own_ab rg ln))]))
    refine Go.st (fun U hr => XS.lload X5.here hx rfl (hb hby at_88) rfl hr) ?_
    show Go p.tables e below _ (T5.setTop (mkF m 90 #[.val (.long q1), .second, .val (.long q2), .second, .val (.long q3), .second, .val (.long (2305843009213693951 : Int64)), .second, .val (.long by_), .second, .val (.long rg), .second, .val (.long ln), .second, .val (.ref b1), .val (.long (own_ab rg ln)), .second, .val (.long ((16 : Int64) + ln)), .second, .val (.int lg)] [(.long ln), (.long (own_ab rg ln))]))
    refine Go.st (fun U hr => XS.lcmp X5.here hx rfl (hb hby at_90) rfl hr) ?_
    show Go p.tables e below _ (T5.setTop (mkF m 91 #[.val (.long q1), .second, .val (.long q2), .second, .val (.long q3), .second, .val (.long (2305843009213693951 : Int64)), .second, .val (.long by_), .second, .val (.long rg), .second, .val (.long ln), .second, .val (.ref b1), .val (.long (own_ab rg ln)), .second, .val (.long ((16 : Int64) + ln)), .second, .val (.int lg)] [(.int (lcmpW (own_ab rg ln) ln))]))
    have hc91_9 : (own_ab rg ln) = ln := own_small rg ln hrg hln (fun z => hlg.mpr z hc83_8)
    refine Go.st (fun U hr => XS.ifNo X5.here hx rfl (hb hby at_91) rfl ((if0 _ _).trans (teq ((lw_eq (own_ab rg ln) ln).2 hc91_9)).2) hr) ?_
    show Go p.tables e below _ (T5.setTop (mkF m 94 #[.val (.long q1), .second, .val (.long q2), .second, .val (.long q3), .second, .val (.long (2305843009213693951 : Int64)), .second, .val (.long by_), .second, .val (.long rg), .second, .val (.long ln), .second, .val (.ref b1), .val (.long (own_ab rg ln)), .second, .val (.long ((16 : Int64) + ln)), .second, .val (.int lg)] []))
    refine Go.st (fun U hr => XS.iconst X5.here hx rfl (hb hby at_94) hr) ?_
    show Go p.tables e below _ (T5.setTop (mkF m 95 #[.val (.long q1), .second, .val (.long q2), .second, .val (.long q3), .second, .val (.long (2305843009213693951 : Int64)), .second, .val (.long by_), .second, .val (.long rg), .second, .val (.long ln), .second, .val (.ref b1), .val (.long (own_ab rg ln)), .second, .val (.long ((16 : Int64) + ln)), .second, .val (.int lg)] [(.int (1 : Int32))]))
    refine Go.st (fun U hr => XS.goto X5.here hx rfl (pc0 := 95) (pc' := 99) rfl (hb hby at_95) (by decide) (by decide) hr) ?_
    show Go p.tables e below _ (T5.setTop (mkF m 99 #[.val (.long q1), .second, .val (.long q2), .second, .val (.long q3), .second, .val (.long (2305843009213693951 : Int64)), .second, .val (.long by_), .second, .val (.long rg), .second, .val (.long ln), .second, .val (.ref b1), .val (.long (own_ab rg ln)), .second, .val (.long ((16 : Int64) + ln)), .second, .val (.int lg)] [(.int (1 : Int32))]))
    exact own_retN X5 hx Bd.notSynchronized (t := .boolean) Bd.returns (by simp) (hb hby at_99) ⟨rfl, N5⟩ (by decide) (by decide)
  · refine Go.st (fun U hr => XS.ifYes X5.here hx rfl (pc0 := 83) (pc' := 100) rfl (hb hby at_83) rfl ((if0 _ _).trans (feq hc83_8).2) (by decide) (by decide) hr) ?_
    show Go p.tables e below _ (T5.setTop (mkF m 100 #[.val (.long q1), .second, .val (.long q2), .second, .val (.long q3), .second, .val (.long (2305843009213693951 : Int64)), .second, .val (.long by_), .second, .val (.long rg), .second, .val (.long ln), .second, .val (.ref b1), .val (.long (own_ab rg ln)), .second, .val (.long ((16 : Int64) + ln)), .second, .val (.int lg)] []))
    have hbig := hlg.mp hc83_8
    refine Go.st (fun U hr => XS.lload X5.here hx rfl (hb hby at_100) rfl hr) ?_
    show Go p.tables e below _ (T5.setTop (mkF m 102 #[.val (.long q1), .second, .val (.long q2), .second, .val (.long q3), .second, .val (.long (2305843009213693951 : Int64)), .second, .val (.long by_), .second, .val (.long rg), .second, .val (.long ln), .second, .val (.ref b1), .val (.long (own_ab rg ln)), .second, .val (.long ((16 : Int64) + ln)), .second, .val (.int lg)] [(.long (own_ab rg ln))]))
    refine Go.st (fun U hr => XS.lload X5.here hx rfl (hb hby at_102) rfl hr) ?_
    show Go p.tables e below _ (T5.setTop (mkF m 104 #[.val (.long q1), .second, .val (.long q2), .second, .val (.long q3), .second, .val (.long (2305843009213693951 : Int64)), .second, .val (.long by_), .second, .val (.long rg), .second, .val (.long ln), .second, .val (.ref b1), .val (.long (own_ab rg ln)), .second, .val (.long ((16 : Int64) + ln)), .second, .val (.int lg)] [(.long rg), (.long (own_ab rg ln))]))
    refine Go.st (fun U hr => XS.lrem X5.here hx rfl (hb hby at_104) rfl (fun q => by have z := hbig.1; rw [q] at z; exact absurd z (by decide)) hr) ?_
    show Go p.tables e below _ (T5.setTop (mkF m 105 #[.val (.long q1), .second, .val (.long q2), .second, .val (.long q3), .second, .val (.long (2305843009213693951 : Int64)), .second, .val (.long by_), .second, .val (.long rg), .second, .val (.long ln), .second, .val (.ref b1), .val (.long (own_ab rg ln)), .second, .val (.long ((16 : Int64) + ln)), .second, .val (.int lg)] [(.long ((own_ab rg ln) - ((own_ab rg ln) / rg) * rg))]))
    refine Go.st (fun U hr => XS.lconst X5.here hx rfl (hb hby at_105) hr) ?_
    show Go p.tables e below _ (T5.setTop (mkF m 106 #[.val (.long q1), .second, .val (.long q2), .second, .val (.long q3), .second, .val (.long (2305843009213693951 : Int64)), .second, .val (.long by_), .second, .val (.long rg), .second, .val (.long ln), .second, .val (.ref b1), .val (.long (own_ab rg ln)), .second, .val (.long ((16 : Int64) + ln)), .second, .val (.int lg)] [(.long (0 : Int64)), (.long ((own_ab rg ln) - ((own_ab rg ln) / rg) * rg))]))
    refine Go.st (fun U hr => XS.lcmp X5.here hx rfl (hb hby at_106) rfl hr) ?_
    show Go p.tables e below _ (T5.setTop (mkF m 107 #[.val (.long q1), .second, .val (.long q2), .second, .val (.long q3), .second, .val (.long (2305843009213693951 : Int64)), .second, .val (.long by_), .second, .val (.long rg), .second, .val (.long ln), .second, .val (.ref b1), .val (.long (own_ab rg ln)), .second, .val (.long ((16 : Int64) + ln)), .second, .val (.int lg)] [(.int (lcmpW ((own_ab rg ln) - ((own_ab rg ln) / rg) * rg) (0 : Int64)))]))
    have hc107_10 : ((own_ab rg ln) - ((own_ab rg ln) / rg) * rg) = (0 : Int64) := own_r1 rg ln hrg hln hbig
    refine Go.st (fun U hr => XS.ifNo X5.here hx rfl (hb hby at_107) rfl ((if0 _ _).trans (teq ((lw_eq ((own_ab rg ln) - ((own_ab rg ln) / rg) * rg) (0 : Int64)).2 hc107_10)).2) hr) ?_
    show Go p.tables e below _ (T5.setTop (mkF m 110 #[.val (.long q1), .second, .val (.long q2), .second, .val (.long q3), .second, .val (.long (2305843009213693951 : Int64)), .second, .val (.long by_), .second, .val (.long rg), .second, .val (.long ln), .second, .val (.ref b1), .val (.long (own_ab rg ln)), .second, .val (.long ((16 : Int64) + ln)), .second, .val (.int lg)] []))
    refine Go.st (fun U hr => XS.lload X5.here hx rfl (hb hby at_110) rfl hr) ?_
    show Go p.tables e below _ (T5.setTop (mkF m 112 #[.val (.long q1), .second, .val (.long q2), .second, .val (.long q3), .second, .val (.long (2305843009213693951 : Int64)), .second, .val (.long by_), .second, .val (.long rg), .second, .val (.long ln), .second, .val (.ref b1), .val (.long (own_ab rg ln)), .second, .val (.long ((16 : Int64) + ln)), .second, .val (.int lg)] [(.long (own_ab rg ln))]))
    refine Go.st (fun U hr => XS.lload X5.here hx rfl (hb hby at_112) rfl hr) ?_
    show Go p.tables e below _ (T5.setTop (mkF m 114 #[.val (.long q1), .second, .val (.long q2), .second, .val (.long q3), .second, .val (.long (2305843009213693951 : Int64)), .second, .val (.long by_), .second, .val (.long rg), .second, .val (.long ln), .second, .val (.ref b1), .val (.long (own_ab rg ln)), .second, .val (.long ((16 : Int64) + ln)), .second, .val (.int lg)] [(.long ((16 : Int64) + ln)), (.long (own_ab rg ln))]))
    refine Go.st (fun U hr => XS.lcmp X5.here hx rfl (hb hby at_114) rfl hr) ?_
    show Go p.tables e below _ (T5.setTop (mkF m 115 #[.val (.long q1), .second, .val (.long q2), .second, .val (.long q3), .second, .val (.long (2305843009213693951 : Int64)), .second, .val (.long by_), .second, .val (.long rg), .second, .val (.long ln), .second, .val (.ref b1), .val (.long (own_ab rg ln)), .second, .val (.long ((16 : Int64) + ln)), .second, .val (.int lg)] [(.int (lcmpW (own_ab rg ln) ((16 : Int64) + ln)))]))
    have hc115_11 : ¬ ((own_ab rg ln) < ((16 : Int64) + ln)) := own_r2 rg ln hrg hln hbig
    refine Go.st (fun U hr => XS.ifNo X5.here hx rfl (hb hby at_115) rfl ((if0 _ _).trans (flt (fun q => hc115_11 ((lw_lt (own_ab rg ln) ((16 : Int64) + ln)).1 q))).1) hr) ?_
    show Go p.tables e below _ (T5.setTop (mkF m 118 #[.val (.long q1), .second, .val (.long q2), .second, .val (.long q3), .second, .val (.long (2305843009213693951 : Int64)), .second, .val (.long by_), .second, .val (.long rg), .second, .val (.long ln), .second, .val (.ref b1), .val (.long (own_ab rg ln)), .second, .val (.long ((16 : Int64) + ln)), .second, .val (.int lg)] []))
    refine Go.st (fun U hr => XS.lload X5.here hx rfl (hb hby at_118) rfl hr) ?_
    show Go p.tables e below _ (T5.setTop (mkF m 120 #[.val (.long q1), .second, .val (.long q2), .second, .val (.long q3), .second, .val (.long (2305843009213693951 : Int64)), .second, .val (.long by_), .second, .val (.long rg), .second, .val (.long ln), .second, .val (.ref b1), .val (.long (own_ab rg ln)), .second, .val (.long ((16 : Int64) + ln)), .second, .val (.int lg)] [(.long (own_ab rg ln))]))
    refine Go.st (fun U hr => XS.lload X5.here hx rfl (hb hby at_120) rfl hr) ?_
    show Go p.tables e below _ (T5.setTop (mkF m 122 #[.val (.long q1), .second, .val (.long q2), .second, .val (.long q3), .second, .val (.long (2305843009213693951 : Int64)), .second, .val (.long by_), .second, .val (.long rg), .second, .val (.long ln), .second, .val (.ref b1), .val (.long (own_ab rg ln)), .second, .val (.long ((16 : Int64) + ln)), .second, .val (.int lg)] [(.long rg), (.long (own_ab rg ln))]))
    refine Go.st (fun U hr => XS.lsub X5.here hx rfl (hb hby at_122) rfl hr) ?_
    show Go p.tables e below _ (T5.setTop (mkF m 123 #[.val (.long q1), .second, .val (.long q2), .second, .val (.long q3), .second, .val (.long (2305843009213693951 : Int64)), .second, .val (.long by_), .second, .val (.long rg), .second, .val (.long ln), .second, .val (.ref b1), .val (.long (own_ab rg ln)), .second, .val (.long ((16 : Int64) + ln)), .second, .val (.int lg)] [(.long ((own_ab rg ln) - rg))]))
    refine Go.st (fun U hr => XS.lload X5.here hx rfl (hb hby at_123) rfl hr) ?_
    show Go p.tables e below _ (T5.setTop (mkF m 125 #[.val (.long q1), .second, .val (.long q2), .second, .val (.long q3), .second, .val (.long (2305843009213693951 : Int64)), .second, .val (.long by_), .second, .val (.long rg), .second, .val (.long ln), .second, .val (.ref b1), .val (.long (own_ab rg ln)), .second, .val (.long ((16 : Int64) + ln)), .second, .val (.int lg)] [(.long ((16 : Int64) + ln)), (.long ((own_ab rg ln) - rg))]))
    refine Go.st (fun U hr => XS.lcmp X5.here hx rfl (hb hby at_125) rfl hr) ?_
    show Go p.tables e below _ (T5.setTop (mkF m 126 #[.val (.long q1), .second, .val (.long q2), .second, .val (.long q3), .second, .val (.long (2305843009213693951 : Int64)), .second, .val (.long by_), .second, .val (.long rg), .second, .val (.long ln), .second, .val (.ref b1), .val (.long (own_ab rg ln)), .second, .val (.long ((16 : Int64) + ln)), .second, .val (.int lg)] [(.int (lcmpW ((own_ab rg ln) - rg) ((16 : Int64) + ln)))]))
    have hc126_12 : ((own_ab rg ln) - rg) < ((16 : Int64) + ln) := own_r3 rg ln hrg hln hbig
    refine Go.st (fun U hr => XS.ifNo X5.here hx rfl (hb hby at_126) rfl ((if0 _ _).trans (tlt ((lw_lt ((own_ab rg ln) - rg) ((16 : Int64) + ln)).2 hc126_12)).2.1) hr) ?_
    show Go p.tables e below _ (T5.setTop (mkF m 129 #[.val (.long q1), .second, .val (.long q2), .second, .val (.long q3), .second, .val (.long (2305843009213693951 : Int64)), .second, .val (.long by_), .second, .val (.long rg), .second, .val (.long ln), .second, .val (.ref b1), .val (.long (own_ab rg ln)), .second, .val (.long ((16 : Int64) + ln)), .second, .val (.int lg)] []))
    refine Go.st (fun U hr => XS.iconst X5.here hx rfl (hb hby at_129) hr) ?_
    show Go p.tables e below _ (T5.setTop (mkF m 130 #[.val (.long q1), .second, .val (.long q2), .second, .val (.long q3), .second, .val (.long (2305843009213693951 : Int64)), .second, .val (.long by_), .second, .val (.long rg), .second, .val (.long ln), .second, .val (.ref b1), .val (.long (own_ab rg ln)), .second, .val (.long ((16 : Int64) + ln)), .second, .val (.int lg)] [(.int (1 : Int32))]))
    refine Go.st (fun U hr => XS.goto X5.here hx rfl (pc0 := 130) (pc' := 134) rfl (hb hby at_130) (by decide) (by decide) hr) ?_
    show Go p.tables e below _ (T5.setTop (mkF m 134 #[.val (.long q1), .second, .val (.long q2), .second, .val (.long q3), .second, .val (.long (2305843009213693951 : Int64)), .second, .val (.long by_), .second, .val (.long rg), .second, .val (.long ln), .second, .val (.ref b1), .val (.long (own_ab rg ln)), .second, .val (.long ((16 : Int64) + ln)), .second, .val (.int lg)] [(.int (1 : Int32))]))
    exact own_retN X5 hx Bd.notSynchronized (t := .boolean) Bd.returns (by simp) (hb hby at_134) ⟨rfl, N5⟩ (by decide) (by decide)
set_option maxRecDepth 65536 in
set_option maxHeartbeats 40000000 in
theorem comes_1 {Post : Tables → Env → Array Value → State → Outcome → State → Prop} (hpost : ∀ tb e args s v u, (limb_1_1.after args s (.returned v) u = true ∧ limb_1_2.after args s (.returned v) u = true ∧ True) → FrameEnd s (.returned v) u (Jvm.fieldLocs frame_1_writes args s ++ Jvm.arrayLocs frame_1_arrays args s ++ Jvm.staticLocs frame_1_statics s) 16 128 → Post tb e args s (.returned v) u) :
    ArmFor flags0 classFile x code maxLocals ret World_1 tables_1 room_1 Calls_1 rest_1 Pre_1 Post := by
  intro l hfl _ _ p e ha hc hk s m args below hf hA hF happ hP
  obtain ⟨hcalls, hrest, hpre⟩ := hP
  obtain ⟨-, -, -, hnamed, -, -, -, hat⟩ := (Spec.applies_iff hf).mp happ
  obtain ⟨hg, hn⟩ := and_e (Cond.before_iff.mp (show (Jvm.Cond.and given_1 narrow_1).before args s = true from hpre))
  obtain ⟨h1, h2⟩ := and_e hg
  obtain ⟨w0, w1, w2, rfl⟩ : ∃ w0 w1 w2 : Value, args = #[w0, w1, w2] := by
    have hs : args.size = 3 := by simpa [Cond.value, given_1] using h1
    obtain ⟨L⟩ := args
    match L, hs with
    | [w0, w1, w2], _ => exact ⟨w0, w1, w2, rfl⟩
  have hw := fun d (hd : d ∈ tables_1) => atoms_spec (ws := Jvm.Cond.code x code maxLocals ret :: tables_1) hat d (List.mem_cons_of_mem _ hd)
  have hfit : Fit s := fun {y c} hc i hi => by
    obtain ⟨ha, rfl⟩ := Array.getElem?_eq_some_iff.mp hc
    have q := List.all_eq_true.mp ((Array.all_eq_true_iff_forall_mem.mp hF) _ (Array.getElem_mem ha)) i (List.mem_range.mpr hi)
    simpa [Array.getElem?_eq_getElem hi] using q
  obtain ⟨ha0, hb0⟩ := and_e h2
  obtain ⟨i0, e0⟩ := isL_v ha0
  obtain rfl : w0 = (.long i0) := Option.some.inj e0
  obtain ⟨ha1, hb1⟩ := and_e hb0
  obtain ⟨i1, e1⟩ := isL_v ha1
  obtain rfl : w1 = (.long i1) := Option.some.inj e1
  obtain ⟨i2, e2⟩ := isL_v hb1
  obtain rfl : w2 = (.long i2) := Option.some.inj e2
  obtain ⟨n, o, h1, h2, h3, _, L, rfl, ⟨rfl, N⟩, hq⟩ := rm0 l s _ hw tables_1 i0 i1 i2 s.heap s.heap.size (Nat.le_refl _)  p e ha hc hk s m _ below hf ((Spec.applies_iff_loose hf).mp happ).1 ⟨rfl, State.Warmed39.refl s, rfl⟩ trivial
  refine ⟨n, _, h1, h2, h3, hpost _ _ _ _ _ _ ⟨Cond.after_iff.mpr rfl, Cond.after_iff.mpr (eq_i res_at (Term.int_eval (1)) rfl), trivial⟩ ⟨hq.1, hq.2.1, (hq.2.2.sift fun y hy => Or.inr (N y hy)).mono (by decide) (by decide)⟩⟩
theorem main_1_1 : Claimed_1_1 := comes_1 fun _ _ _ _ _ _ h hF => ⟨h.1, hF⟩
theorem main_1_2 : Claimed_1_2 := comes_1 fun _ _ _ _ _ _ h hF => ⟨h.2.1, hF⟩
end Jvm.Pilot.@@N@@
namespace Jvm.Pilot.@@N@@
open Jvm Jvm.ClassFile Sem Op Lib Jvm.Free Jvm.Stand Jvm.Pilot.@@N@@.Jvm.D
/-! MADE BY PROGRAM (witnessworld.py) out of the Statement's table words and the real class files: 10 classes; the members and pool entries that the words name. The judged class is class 1, her method 1. -/
namespace start1
open Jvm.ClassFile
def u (s : String) : CpInfo := .utf8 (stringToUtf16 s)
/-- a pool by its gaps: so many unusable entries, then the entry; so many at the end -/
def gap : Nat → List CpInfo → List CpInfo
  | 0, r => r
  | n + 1, r => .unusable :: gap n r
def poolList (es : List (Nat × CpInfo)) (last : Nat) : List CpInfo := es.foldr (fun e r => gap e.1 (e.2 :: r)) (gap last [])
def pool (es : List (Nat × CpInfo)) (last : Nat) : Array CpInfo := ⟨poolList es last⟩
def fileOf (pool : Array CpInfo) (this : Nat) (attrs : Array Attribute := #[]) (ms : Array MethodInfo := #[]) (fl : Nat := 33) (sup : Nat := 0) (ifs : Array Nat := #[]) (fds : Array FieldInfo := #[]) : ClassFile where
  minorVersion := 0
  majorVersion := 65
  constantPool := pool
  accessFlags := fl
  thisClass := this
  superClass := sup
  interfaces := ifs
  fields := fds
  methods := ms
  attributes := attrs
def plain (name : String) (sup : Option ClassId) : Class where
  name := name
  kind := .ordinary
  loader := none
  accessFlags := 33
  super := sup
  interfaces := #[]
  cf := none
  fields := #[]
  methods := #[]
  instanceTypes := #[]
  staticTypes := #[]
  resolved := #[]
  callSites := []
  init := .initialized
  statics := none
  mirror := none

def pool0 : Array CpInfo := pool [(5, u "<init>"), (0, u "()V"), (1, .class_ 10), (1, u "java/lang/Object")] 113

def k0c0 : Code := { maxStack := 0, maxLocals := 1, code := object_method_1_code, exceptionTable := #[], attributes := #[] }
def k0m0 : Method := { name := "<init>", desc := "()V", sig := { parameters := [], returnType := none }, accessFlags := 1, code := some k0c0 }
/-- java/lang/Object -/
def k0 : Class := { plain "java/lang/Object" none with
  accessFlags := 33
  interfaces := #[]
  cf := some (fileOf pool0 8 #[] #[{ accessFlags := 1, nameIndex := 5, descriptorIndex := 6, attributes := #[] }] 33 0 #[] #[])
  fields := #[]
  methods := #[k0m0]
  instanceTypes := #[]
  staticTypes := #[]
  resolved := Array.replicate 124 none
  statics := none }

def pool1 : Array CpInfo := pool [(2, .class_ 4), (1, u "java/lang/Object"), (0, u "<init>"), (0, u "()V"), (0, .long 2305843009213693951), (3, .long 9223372036854775807), (1, .class_ 14), (0, u "com/example/ordermesh/ordermesh/node/Heap"), (0, .methodref 13 16), (0, .nameAndType 5 17), (0, u "(JJ)V"), (0, .methodref 13 19), (0, .nameAndType 20 21), (0, u "arrayBytes"), (0, u "(J)J"), (0, .long 16), (1, .long 2), (1, .class_ 27), (0, u "com/example/ordermesh/ordermesh/node/HeapArrayBytesPinLaw"), (2, u "law"), (0, u "(JJJ)Z")] 3

def k1m0 : Method := { name := "<init>", desc := "()V", sig := { parameters := [], returnType := none }, accessFlags := 1, code := none }
def k1c1 : Code := { maxStack := 6, maxLocals := 20, code := code, exceptionTable := #[], attributes := #[] }
def k1m1 : Method := { name := "law", desc := "(JJJ)Z", sig := { parameters := [.long, .long, .long], returnType := some .boolean }, accessFlags := 9, code := some k1c1 }
/-- com/example/ordermesh/ordermesh/node/HeapArrayBytesPinLaw -/
def k1 : Class := { plain "com/example/ordermesh/ordermesh/node/HeapArrayBytesPinLaw" (some 0) with
  accessFlags := 49
  interfaces := #[]
  cf := some (fileOf pool1 26 #[] #[{ accessFlags := 1, nameIndex := 5, descriptorIndex := 6, attributes := #[] }, { accessFlags := 9, nameIndex := 30, descriptorIndex := 31, attributes := #[] }] 49 2 #[] #[])
  fields := #[]
  methods := #[k1m0, k1m1]
  instanceTypes := #[]
  staticTypes := #[]
  resolved := Array.replicate 35 none
  statics := none }

def pool2 : Array CpInfo := pool [(1, .methodref 2 3), (0, .class_ 4), (0, .nameAndType 5 6), (0, u "java/lang/Object"), (0, u "<init>"), (0, u "()V"), (0, .class_ 8), (0, u "java/lang/Record")] 13

def k2c0 : Code := { maxStack := 1, maxLocals := 1, code := jdk_30_method_1_code, exceptionTable := #[], attributes := #[] }
def k2m0 : Method := { name := "<init>", desc := "()V", sig := { parameters := [], returnType := none }, accessFlags := 4, code := some k2c0 }
/-- java/lang/Record -/
def k2 : Class := { plain "java/lang/Record" (some 0) with
  accessFlags := 1057
  interfaces := #[]
  cf := some (fileOf pool2 7 #[] #[{ accessFlags := 4, nameIndex := 5, descriptorIndex := 6, attributes := #[] }] 1057 2 #[] #[])
  fields := #[]
  methods := #[k2m0]
  instanceTypes := #[]
  staticTypes := #[]
  resolved := Array.replicate 22 none
  statics := none }

def pool3 : Array CpInfo := pool [(1, .methodref 2 3), (0, .class_ 4), (0, .nameAndType 5 6), (0, u "java/lang/Record"), (0, u "<init>"), (0, u "()V"), (9, .fieldref 17 18), (0, .class_ 19), (0, .nameAndType 20 21), (0, u "com/example/ordermesh/ordermesh/node/Heap"), (0, u "bytes"), (0, u "J"), (0, .fieldref 17 23), (0, .nameAndType 24 21), (0, u "regionBytes"), (50, u "(JJ)V"), (0, .long 16), (1, .long 2), (26, u "UNBOUNDED"), (0, u "Lcom/example/ordermesh/ordermesh/node/Heap;"), (0, u "ARRAY_HEADER_BYTES"), (9, u "arrayBytes"), (0, u "(J)J")] 33

def k3c0 : Code := { maxStack := 6, maxLocals := 5, code := prog_31_method_1_code, exceptionTable := #[], attributes := #[] }
def k3m0 : Method := { name := "<init>", desc := "(JJ)V", sig := { parameters := [.long, .long], returnType := none }, accessFlags := 1, code := some k3c0 }
def k3c1 : Code := { maxStack := 6, maxLocals := 7, code := prog_31_method_3_code, exceptionTable := #[], attributes := #[] }
def k3m1 : Method := { name := "arrayBytes", desc := "(J)J", sig := { parameters := [.long], returnType := some .long }, accessFlags := 1, code := some k3c1 }
/-- com/example/ordermesh/ordermesh/node/Heap -/
def k3 : Class := { plain "com/example/ordermesh/ordermesh/node/Heap" (some 2) with
  accessFlags := 49
  interfaces := #[]
  cf := some (fileOf pool3 17 #[] #[{ accessFlags := 1, nameIndex := 5, descriptorIndex := 75, attributes := #[] }, { accessFlags := 1, nameIndex := 117, descriptorIndex := 118, attributes := #[] }] 49 2 #[] #[{ accessFlags := 18, nameIndex := 20, descriptorIndex := 21, attributes := #[] }, { accessFlags := 18, nameIndex := 24, descriptorIndex := 21, attributes := #[] }, { accessFlags := 25, nameIndex := 105, descriptorIndex := 106, attributes := #[] }, { accessFlags := 26, nameIndex := 107, descriptorIndex := 21, attributes := #[] }])
  fields := #[{ name := "bytes", type := .long, accessFlags := 18, slot := 0, constantValue := 0 }, { name := "regionBytes", type := .long, accessFlags := 18, slot := 1, constantValue := 0 }, { name := "UNBOUNDED", type := (.object "com/example/ordermesh/ordermesh/node/Heap"), accessFlags := 25, slot := 0, constantValue := 0 }, { name := "ARRAY_HEADER_BYTES", type := .long, accessFlags := 26, slot := 1, constantValue := 0 }]
  methods := #[k3m0, k3m1]
  instanceTypes := #[.long, .long]
  staticTypes := #[(.object "com/example/ordermesh/ordermesh/node/Heap"), .long]
  resolved := Array.replicate 152 none
  statics := none }

def pool4 : Array CpInfo := pool [(1, u "java/lang/Cloneable"), (0, .class_ 1), (0, u "java/lang/Object"), (0, .class_ 3)] 3

/-- java/lang/Cloneable -/
def k4 : Class := { plain "java/lang/Cloneable" (some 0) with
  accessFlags := 1537
  interfaces := #[]
  cf := some (fileOf pool4 2 #[] #[] 1537 4 #[] #[])
  fields := #[]
  methods := #[]
  instanceTypes := #[]
  staticTypes := #[]
  resolved := Array.replicate 8 none
  statics := none }

def pool5 : Array CpInfo := pool [(1, u "java/io/Serializable"), (0, .class_ 1), (0, u "java/lang/Object"), (0, .class_ 3)] 3

/-- java/io/Serializable -/
def k5 : Class := { plain "java/io/Serializable" (some 0) with
  accessFlags := 1537
  interfaces := #[]
  cf := some (fileOf pool5 2 #[] #[] 1537 4 #[] #[])
  fields := #[]
  methods := #[]
  instanceTypes := #[]
  staticTypes := #[]
  resolved := Array.replicate 8 none
  statics := none }

/-- the primitive byte -/
def k6 : Class := { plain "byte" none with kind := .primitive 'B', accessFlags := 0x411 }
/-- [B -/
def k7 : Class := { plain "[B" (some 0) with kind := .array 6 .byte, interfaces := #[4, 5], accessFlags := 1041 }

/-- the primitive int -/
def k8 : Class := { plain "int" none with kind := .primitive 'I', accessFlags := 0x411 }
/-- [I -/
def k9 : Class := { plain "[I" (some 0) with kind := .array 8 .int, interfaces := #[4, 5], accessFlags := 1041 }

def heap : Heap := #[]
def classes : Array Class := #[k0, k1, k2, k3, k4, k5, k6, k7, k8, k9]
def interned : List (Array UInt16 × Addr) := []
def slotsUsed : Nat := 0
def theMethod : MethodId := ⟨1, 1⟩
def args0 : Array Value := #[.long 5, .long 300, .long 7]
def aboutOver (below : List Frame) : State where
  vm := { classes := classes, interned := interned.toArray }
  heap := heap
  slotsUsed := slotsUsed
  threads := #[{ frames := .invoking theMethod args0 :: below }]
def below0 : List Frame := [.native { method := ⟨0, 0⟩, args := #[] }]
def about1 : State := aboutOver below0
def p0 : Program := .bare "" "" ""
def e0 : Env := launch0.env 0 0 0
theorem w_frames : about1.frames = Frame.invoking theMethod args0 :: below0 := rfl
set_option maxRecDepth 65536 in
theorem w_args : argsFit about1.vm theMethod args0 = true := by decide +kernel
set_option maxRecDepth 65536 in
theorem w_heap : heapFits about1 = true := by decide +kernel
set_option maxRecDepth 65536 in
theorem w_runnable : about1.curStatus? = some .runnable := by decide +kernel
set_option maxRecDepth 65536 in
theorem w_alone : about1.alone = true := by decide +kernel
set_option maxRecDepth 65536 in
theorem w_named : about1.methodNamed? x = some theMethod := by decide +kernel
set_option maxRecDepth 65536 in
theorem w_hears : about1.hears theMethod below0 = true := by decide +kernel
set_option maxRecDepth 65536 in
theorem w_ripe : about1.ripe theMethod args0 below0 = true := by decide +kernel
theorem w_running : about1.status = .running := rfl
set_option maxRecDepth 65536 in
theorem w_room : about1.hasRoom e0.platform room_1 = true :=
  launch0.hasRoom_least _ room_1 (by decide +kernel) (by decide +kernel) (by decide +kernel) (by decide +kernel) (by decide +kernel) (by decide +kernel)
theorem allAtoms_all (ts : List Jvm.Cond) (a : Array Jvm.Value) (st : Jvm.State) : (allAtoms ts).before a st = ts.all (fun c => c.before a st) := by
  induction ts with
  | nil => rfl
  | cons c t ih =>
    show (Jvm.Cond.and c (allAtoms t)).before a st = _
    rw [Jvm.Cond.before_and, ih, List.all_cons]
def words1 : List Jvm.Cond := Jvm.Cond.code x code maxLocals ret :: tables_1
/-- a 'code' word, met by the world's own term for the bytes: nothing is compared byte by byte -/
theorem code_word {y : MethodName} {bytes : ByteArray} {mx : Nat} {rt : Option FieldType} {a : Array Value} {s : State} {m : MethodId} {meth : Method} {c : Code} (h1 : s.methodNamed? y = some m) (h2 : s.vm.method? m = some meth) (h3 : meth.code = some c) (h4 : c.code = bytes)
    (h5 : (c.maxLocals == mx && c.exceptionTable.isEmpty && decide (c.maxStack ≤ mostOperands) && decide (meth.sig.returnType = rt) && !meth.locks && decide (parseMethodDescriptor y.desc = some meth.sig)) = true) : (Jvm.Cond.code y bytes mx rt).before a s = true := by
  simp only [Bool.and_eq_true, beq_iff_eq, Bool.not_eq_true', decide_eq_true_eq] at h5
  obtain ⟨⟨⟨⟨⟨g1, g2⟩, g3⟩, g4⟩, g5⟩, g6⟩ := h5
  simp [Cond.before, Cond.holds, Cond.value, h1, h2, h3, h4, g1, g2, g3, g4, g5, g6]
def isCode : Jvm.Cond → Bool
  | .code _ _ _ _ => true
  | _ => false
theorem all_split {L : List Jvm.Cond} {P : Jvm.Cond → Bool} (h1 : L.all (fun c => isCode c || P c) = true) (h2 : ∀ c ∈ L.filter isCode, P c = true) : L.all P = true := by
  refine List.all_eq_true.mpr fun c hc => ?_
  have h := List.all_eq_true.mp h1 c hc
  rcases Bool.eq_false_or_eq_true (isCode c) with hi | hi
  · exact h2 c (List.mem_filter.mpr ⟨hc, hi⟩)
  · simpa [hi] using h
set_option maxRecDepth 65536 in
theorem w_c0 : (Jvm.Cond.code x code maxLocals ret).before args0 about1 = true := code_word (m := ⟨1, 1⟩) (meth := k1m1) (c := k1c1) (by decide +kernel) rfl rfl rfl (by decide +kernel)
set_option maxRecDepth 65536 in
theorem w_c1 : (Jvm.Cond.code ({ cls := "com/example/ordermesh/ordermesh/node/Heap", name := "<init>", desc := "(JJ)V" } : Jvm.MethodName) prog_31_method_1_code (5 : Nat) (Option.none : Option Jvm.ClassFile.FieldType)).before args0 about1 = true := code_word (m := ⟨3, 0⟩) (meth := k3m0) (c := k3c0) (by decide +kernel) rfl rfl rfl (by decide +kernel)
set_option maxRecDepth 65536 in
theorem w_c2 : (Jvm.Cond.code ({ cls := "java/lang/Record", name := "<init>", desc := "()V" } : Jvm.MethodName) jdk_30_method_1_code (1 : Nat) (Option.none : Option Jvm.ClassFile.FieldType)).before args0 about1 = true := code_word (m := ⟨2, 0⟩) (meth := k2m0) (c := k2c0) (by decide +kernel) rfl rfl rfl (by decide +kernel)
set_option maxRecDepth 65536 in
theorem w_c3 : (Jvm.Cond.code ({ cls := "java/lang/Object", name := "<init>", desc := "()V" } : Jvm.MethodName) object_method_1_code (1 : Nat) (Option.none : Option Jvm.ClassFile.FieldType)).before args0 about1 = true := code_word (m := ⟨0, 0⟩) (meth := k0m0) (c := k0c0) (by decide +kernel) rfl rfl rfl (by decide +kernel)
set_option maxRecDepth 65536 in
theorem w_c4 : (Jvm.Cond.code ({ cls := "com/example/ordermesh/ordermesh/node/Heap", name := "arrayBytes", desc := "(J)J" } : Jvm.MethodName) prog_31_method_3_code (7 : Nat) (Option.some Jvm.ClassFile.FieldType.long)).before args0 about1 = true := code_word (m := ⟨3, 1⟩) (meth := k3m1) (c := k3c1) (by decide +kernel) rfl rfl rfl (by decide +kernel)
def codes1 : List Jvm.Cond := [Jvm.Cond.code x code maxLocals ret, Jvm.Cond.code ({ cls := "com/example/ordermesh/ordermesh/node/Heap", name := "<init>", desc := "(JJ)V" } : Jvm.MethodName) prog_31_method_1_code (5 : Nat) (Option.none : Option Jvm.ClassFile.FieldType), Jvm.Cond.code ({ cls := "java/lang/Record", name := "<init>", desc := "()V" } : Jvm.MethodName) jdk_30_method_1_code (1 : Nat) (Option.none : Option Jvm.ClassFile.FieldType), Jvm.Cond.code ({ cls := "java/lang/Object", name := "<init>", desc := "()V" } : Jvm.MethodName) object_method_1_code (1 : Nat) (Option.none : Option Jvm.ClassFile.FieldType), Jvm.Cond.code ({ cls := "com/example/ordermesh/ordermesh/node/Heap", name := "arrayBytes", desc := "(J)J" } : Jvm.MethodName) prog_31_method_3_code (7 : Nat) (Option.some Jvm.ClassFile.FieldType.long)]
set_option maxRecDepth 65536 in
theorem codes_eq : words1.filter isCode = codes1 := rfl
theorem w_codes : ∀ c ∈ words1.filter isCode, c.before args0 about1 = true := by
  rw [codes_eq]
  intro c hc
  simp only [codes1, List.mem_cons, List.not_mem_nil, or_false] at hc
  rcases hc with rfl | rfl | rfl | rfl | rfl
  · exact w_c0
  · exact w_c1
  · exact w_c2
  · exact w_c3
  · exact w_c4
set_option maxRecDepth 65536 in
theorem w_t1 : (words1.take 24).all (fun c => isCode c || c.before args0 about1) = true := by decide +kernel
set_option maxRecDepth 65536 in
theorem w_t2 : (words1.drop 24).all (fun c => isCode c || c.before args0 about1) = true := by decide +kernel
theorem w_tables : (allAtoms (Jvm.Cond.code x code maxLocals ret :: tables_1)).before args0 about1 = true := by
  rw [allAtoms_all]
  show words1.all (fun c => c.before args0 about1) = true
  refine all_split ?_ w_codes
  rw [← List.take_append_drop 24 words1, List.all_append, w_t1, w_t2]
  rfl
set_option maxRecDepth 65536 in
theorem w_case : (Jvm.Cond.and given_1 narrow_1).before args0 about1 = true := by decide +kernel
theorem w_applies : (headSpec (Jvm.Cond.code x code maxLocals ret :: tables_1) room_1).applies x e0.platform about1 = true :=
  (Spec.applies_iff w_frames).mpr ⟨w_running, w_runnable, w_alone, w_named, w_hears, w_ripe, w_room, w_tables⟩
theorem atStart : AtStart classFile x code maxLocals ret World_1 tables_1 room_1 Calls_1 rest_1 Pre_1 launch0 p0 e0 about1 theMethod args0 below0 :=
  ⟨lists_1, trivial, launch0.admits_env _ _ _, launch0.least_env, fairChoices_fair.cas, fairChoices_fair.clock, w_frames, w_args, w_heap, w_applies, trivial, trivial, w_case⟩
end start1
theorem witness_1 : WitnessClaimed_1 := ⟨start1.p0, start1.e0, start1.about1, start1.theMethod, start1.args0, start1.below0, start1.atStart⟩
end Jvm.Pilot.@@N@@
