import JvmDerived
import JvmDerived.Pilot.@@N@@Statement
import JvmDerived.Pilot.@@N@@Code
set_option linter.unusedVariables false
set_option linter.unusedSimpArgs false
namespace Jvm.Pilot.@@N@@
open Jvm Jvm.ClassFile Sem Op Lib Jvm.Free Jvm.Stand Jvm.LawKit Jvm.RoadKit Bundle Jvm.Pilot.@@N@@.Jvm.D
section OwnKit
variable {p : Program} {l : Launch} {e : Env} {R : Room} {s : State} {m : MethodId} {args : Array Value} {below : List Frame} {meth : Method} {c : Code} {T : State} {locs : List Loc} {cells slots : Nat}
/-- from here the run comes to a state of which K holds -/
def Go (tb : Tables) (e : Env) (below : List Frame) (K : State → Prop) (T : State) : Prop := ∃ U, Steps tb e below T U ∧ K U
theorem Go.st {tb : Tables} {K : State → Prop} {T T' : State} (h : ∀ U, Steps tb e below T' U → Steps tb e below T U) (g : Go tb e below K T') : Go tb e below K T := by
  obtain ⟨U, h1, h2⟩ := g; exact ⟨U, h U h1, h2⟩
theorem Go.tr {tb : Tables} {K : State → Prop} {T T' : State} (h : Steps tb e below T T') (g : Go tb e below K T') : Go tb e below K T := by
  obtain ⟨U, h1, h2⟩ := g; exact ⟨U, h.trans h1, h2⟩
/-- where a body may end -/
def own_Fin (s : State) (below : List Frame) (CC SS : Nat) (Q : Option Value → Heap → List Loc → Prop) (U : State) : Prop :=
  ∃ o, U.status = .running ∧ Ended U below o ∧ ∃ v L, o = .returned v ∧ Q v U.heap L ∧ FrameEnd s o U L CC SS
theorem own_start {tb : Tables} {CC SS : Nat} {Q : Option Value → Heap → List Loc → Prop} {T : State} (g : Go tb e below (own_Fin s below CC SS Q) T) :
    ∃ s₂ o, Steps tb e below T s₂ ∧ s₂.status = .running ∧ Ended s₂ below o ∧ ∃ v L, o = .returned v ∧ Q v s₂.heap L ∧ FrameEnd s o s₂ L CC SS := by
  obtain ⟨U, h1, o, h2, h3, h4⟩ := g; exact ⟨U, o, h1, h2, h3, h4⟩
theorem own_cast {tb : Tables} {K : State → Prop} {f f' : JFrame} (q : f = f') (g : Go tb e below K (T.setTop f')) : Go tb e below K (T.setTop f) := q ▸ g
section Ends
variable {CC SS : Nat} {Q : Option Value → Heap → List Loc → Prop}
theorem own_end (X : Stand p l e R s m args below meth c T locs cells slots) (hlocks : meth.locks = false) {v : Option Value} (hv : meth.sig.returnType = none → v = none) {f : JFrame}
    (k : ∀ fs, (∀ (f : JFrame) (acts : List Action), f.method = m → f.locked = none → f.entered = [] → (doReturn e (T.setTop f) acts v).1 = T.setFrames fs) → Steps p.tables e below (T.setTop f) (T.setFrames fs))
    (hq : Q v T.heap locs) (hc : cells ≤ CC) (hs : slots ≤ SS) : Go p.tables e below (own_Fin s below CC SS Q) (T.setTop f) := by
  obtain ⟨fs, hr, hrun, hended, hW, hsame⟩ := X.leave (v := v) hv hlocks
  exact ⟨_, k fs hr, _, hrun, hended, _, _, rfl, hq, ⟨_, rfl⟩, hW, hsame.mono hc hs⟩
theorem own_ret0 (X : Stand p l e R s m args below meth c T locs cells slots) (hx : p.tables.exec = Jvm.exec) (hlocks : meth.locks = false) {pc : Nat} {Ls : Array Slot} (hret : meth.sig.returnType = none) (hd : decode c.code pc = .ok (.return_, 1))
    (hq : Q none T.heap locs) (hc : cells ≤ CC) (hs : slots ≤ SS) : Go p.tables e below (own_Fin s below CC SS Q) (T.setTop (mkF m pc Ls [])) :=
  own_end X hlocks (fun _ => rfl) (fun _ hr => X.returnOut hx hret hd hr) hq hc hs
theorem own_retN (X : Stand p l e R s m args below meth c T locs cells slots) (hx : p.tables.exec = Jvm.exec) (hlocks : meth.locks = false) {pc : Nat} {Ls : Array Slot} {z : Int32} {t : FieldType} {rest : List Value} (hret : meth.sig.returnType = some t) (ht : t = .boolean ∨ t = .byte ∨ t = .char ∨ t = .short) (hd : decode c.code pc = .ok (.ireturn, 1))
    (hq : Q (some (.int (nar t z))) T.heap locs) (hc : cells ≤ CC) (hs : slots ≤ SS) : Go p.tables e below (own_Fin s below CC SS Q) (T.setTop (mkF m pc Ls (.int z :: rest))) :=
  own_end X hlocks (fun h => by rw [hret] at h; cases h) (fun _ hr => retN X hx hret ht hd hr) hq hc hs
theorem own_retO (X : Stand p l e R s m args below meth c T locs cells slots) (hx : p.tables.exec = Jvm.exec) (hlocks : meth.locks = false) {pc : Nat} {Ls : Array Slot} {w : Value} {t : FieldType} {i : Instr} {rest : List Value} (hret : meth.sig.returnType = some t) (hn : narrow t w = w)
    (hi : (i = .ireturn ∧ (t = .int ∨ t = .boolean ∨ t = .byte ∨ t = .char ∨ t = .short) ∧ ∃ z, w = .int z) ∨ (i = .lreturn ∧ t = .long ∧ ∃ z, w = .long z) ∨ (i = .dreturn ∧ t = .double ∧ ∃ z, w = .double z) ∨ (i = .freturn ∧ t = .float ∧ ∃ z, w = .float z) ∨ (i = .areturn ∧ t.isReference = true ∧ w.isRef = true))
    (hd : decode c.code pc = .ok (i, 1)) (hq : Q (some w) T.heap locs) (hc : cells ≤ CC) (hs : slots ≤ SS) : Go p.tables e below (own_Fin s below CC SS Q) (T.setTop (mkF m pc Ls (w :: rest))) :=
  own_end X hlocks (fun h => by rw [hret] at h; cases h) (fun _ hr => retOut X hx hret hn hi hd hr) hq hc hs
end Ends
end OwnKit
theorem own_irem (x y : Int32) (hy : 0 < y.toInt) : x - (x / y) * y = x % y := by
  have h1 : y ≠ -1 := fun q => by subst q; exact absurd hy (by decide)
  apply Int32.toInt_inj.mp
  have e1 := Int32.toInt_div_of_ne_right x y h1
  have e2 := c_isub x (x / y * y)
  have e3 := c_imul (x / y) y
  have e4 : (x % y).toInt = x.toInt.tmod y.toInt := Int32.toInt_mod x y
  have e5 := Int.tmod_add_mul_tdiv x.toInt y.toInt
  rw [e1, Int.mul_comm] at e3
  have r1 := rng32 (x - x / y * y)
  have r2 := rng32 (x % y)
  omega
theorem own_m (u : Int32) (h : 0 ≤ u.toInt) : (u - (u / (1440 : Int32)) * (1440 : Int32)).toInt = u.toInt % 1440 := by
  rw [own_irem u 1440 (by decide)]; exact (c_irem u 1440 1440 (by decide)).1 h
theorem own_norm (x : Int32) : 0 ≤ (((x - (x / (1440 : Int32)) * (1440 : Int32)) + (1440 : Int32)) - (((x - (x / (1440 : Int32)) * (1440 : Int32)) + (1440 : Int32)) / (1440 : Int32)) * (1440 : Int32)).toInt ∧
    (((x - (x / (1440 : Int32)) * (1440 : Int32)) + (1440 : Int32)) - (((x - (x / (1440 : Int32)) * (1440 : Int32)) + (1440 : Int32)) / (1440 : Int32)) * (1440 : Int32)).toInt < 1440 := by
  have h1 : -1440 < (x - (x / (1440 : Int32)) * (1440 : Int32)).toInt ∧ (x - (x / (1440 : Int32)) * (1440 : Int32)).toInt < 1440 := by
    rw [own_irem x 1440 (by decide)]
    have := c_irem x 1440 1440 (by decide)
    by_cases q : 0 ≤ x.toInt
    · have := this.1 q; omega
    · have := this.2 (by omega); omega
  generalize (x - (x / (1440 : Int32)) * (1440 : Int32)) = u at *
  have h2 := c_iadd u 1440
  rw [show (1440 : Int32).toInt = 1440 from by decide] at h2
  have r := rng32 (u + 1440)
  have h3 := own_m (u + 1440) (by omega)
  omega
theorem own_diff (m f : Int32) (hm : 0 ≤ m.toInt ∧ m.toInt ≤ 1440) (hf : 0 ≤ f.toInt ∧ f.toInt < 1440) : (((m - f) + (1440 : Int32)) - (((m - f) + (1440 : Int32)) / (1440 : Int32)) * (1440 : Int32)).toInt = (m.toInt - f.toInt + 1440) % 1440 := by
  have h1 := c_isub m f
  have r1 := rng32 (m - f)
  have h2 := c_iadd (m - f) 1440
  rw [show (1440 : Int32).toInt = 1440 from by decide] at h2
  have r := rng32 ((m - f) + 1440)
  have h3 := own_m ((m - f) + 1440) (by omega)
  omega
def own_cont (f t m : Int32) : Int32 := if f < t then (if m < f then 0 else if m < t then 1 else 0) else (if m < f then (if m < t then 1 else 0) else 1)
theorem own_law (f t m d le : Int32) (hf : 0 ≤ f.toInt ∧ f.toInt < 1440) (ht : 1 ≤ t.toInt ∧ t.toInt ≤ 1440) (hne : f.toInt ≠ t.toInt) (hm : 0 ≤ m.toInt ∧ m.toInt < 1440)
    (hd : d.toInt = (m.toInt - f.toInt + 1440) % 1440) (hl : ((t.toInt - f.toInt + 1440) % 1440 = 0 ∧ le.toInt = 1440) ∨ ((t.toInt - f.toInt + 1440) % 1440 ≠ 0 ∧ le.toInt = (t.toInt - f.toInt + 1440) % 1440)) :
    own_cont f t m = (if d < le then (1 : Int32) else (0 : Int32)) := by
  unfold own_cont
  simp only [Int32.lt_iff_toInt_lt]
  rcases hl with ⟨h1, h2⟩ | ⟨h1, h2⟩ <;> (split <;> split <;> (try split) <;> (try split)) <;> first | rfl | (exfalso; omega)

theorem d2_0 : decode jdk_30_method_1_code 0 = .ok (.aload_n 0, 1) := by decide +kernel
theorem d2_1 : decode jdk_30_method_1_code 1 = .ok (.invokespecial 1, 3) := by decide +kernel
theorem d2_4 : decode jdk_30_method_1_code 4 = .ok (.return_, 1) := by decide +kernel
theorem pn_2 : plainFor (⟨"java/lang/Record", "<init>", "()V"⟩ : MethodName) = true := plainFor_of_name (by first | (simp [plainName, overriddenIn]; done) | decide +kernel)
theorem ef_2 (m : MethodId) (x0 : Addr) : entryFrame m #[(.ref x0)] 1 = mkF m 0 #[.val (.ref x0)] [] := by first | (simp [entryFrame, mkF, argsToLocals, Value.category]; done) | rfl
def Q2 (Z : State) (a1 : Addr)  (h0 : Heap) (n0 : Nat) (v : Option Value) (h : Heap) (L : List Loc) : Prop := v = none ∧ Fr n0 L ∧ h = h0
set_option maxRecDepth 65536 in
set_option maxHeartbeats 40000000 in
theorem rm2 (l : Launch) (Z : State) (a0 : Array Value) (hw : ∀ d ∈ tables_1, d.before a0 Z = true) (ws : List Jvm.Cond) (a1 : Addr)  (h0 : Heap) (n0 : Nat) (Z0 : n0 ≤ h0.size) :
    MetFree l (⟨"java/lang/Record", "<init>", "()V"⟩ : MethodName) (head1 (Jvm.Cond.code (⟨"java/lang/Record", "<init>", "()V"⟩ : MethodName) jdk_30_method_1_code 1 none :: ws) ({ frames := 1, cells := 0, slots := 0, locals := 12 } : Room)) (fun a U => a = #[(.ref a1)] ∧ Z.Warmed39 U.vm ∧ U.heap = h0) (fun _ _ _ _ _ => True) (fun _ U o U' => ∃ v L, o = .returned v ∧ Q2 Z a1 h0 n0 v U'.heap L ∧ FrameEnd U o U' L ({ frames := 1, cells := 0, slots := 0, locals := 12 } : Room).cells ({ frames := 1, cells := 0, slots := 0, locals := 12 } : Room).slots) := by
  refine MetFree.of_bodySF pn_2 hisR ?_
  intro p e s m args below meth c s₁ Bd hml0 hP hK
  obtain ⟨rfl, hZ, hh⟩ := hP
  have hx := Bd.exec
  have hby := Bd.bytes
  have hml : c.maxLocals = 1 := hml0
  have hown : s.vm.findClass "java/lang/Record" = some m.cls := findClass_of_methodNamed Bd.named
  have hnm := (name_of_methodNamed Bd.named Bd.method).1
  have X0 : Stand p l e ({ frames := 1, cells := 0, slots := 0, locals := 12 } : Room) s m #[(.ref a1)] below meth c s₁ [] 0 0 := Stand.of_body Bd
  have e0 : s₁.heap = h0 := by rw [← hh, Bd.state]; rfl
  have N0 := Fr.nil n0
  refine own_start (Q := Q2 Z a1 h0 n0) (own_cast (ef_2 m a1) ?_)
  show Go p.tables e below _ (s₁.setTop (mkF m 0 #[.val (.ref a1)] []))
  refine Go.st (fun U hr => XS.aloadN X0.here hx rfl (hb hby d2_0) rfl rfl hr) ?_
  show Go p.tables e below _ (s₁.setTop (mkF m 1 #[.val (.ref a1)] [(.ref a1)]))
  obtain ⟨T1, X1, e1, st1⟩ := initO X0 hx hZ hown (hw _ (List.mem_of_getElem? (i := 11) rfl)) (hw _ (List.mem_of_getElem? (i := 12) rfl)) (hw _ (List.mem_of_getElem? (i := 13) rfl)) e0 (g := (mkF m 1 #[.val (.ref a1)] [(.ref a1)])) rfl (by rw [hml]; rfl) rfl (hb hby d2_1) (by decide) (W := 0) (by show 2 * 0 + _ ≤ _; exact Nat.le_of_eq rfl) (by decide)
  refine Go.st st1 ?_
  show Go p.tables e below _ (T1.setTop (mkF m 4 #[.val (.ref a1)] []))
  exact own_ret0 X1 hx Bd.notSynchronized Bd.returns (hb hby d2_4) ⟨rfl, N0, e1⟩ (by decide) (by decide)
theorem d1_0 : decode prog_17_method_1_code 0 = .ok (.aload_n 0, 1) := by decide +kernel
theorem d1_1 : decode prog_17_method_1_code 1 = .ok (.invokespecial 1, 3) := by decide +kernel
theorem d1_4 : decode prog_17_method_1_code 4 = .ok (.iload_n 1, 1) := by decide +kernel
theorem d1_5 : decode prog_17_method_1_code 5 = .ok (.ifCond .lt 26, 3) := by decide +kernel
theorem d1_8 : decode prog_17_method_1_code 8 = .ok (.iload_n 1, 1) := by decide +kernel
theorem d1_9 : decode prog_17_method_1_code 9 = .ok (.sipush 1440, 3) := by decide +kernel
theorem d1_12 : decode prog_17_method_1_code 12 = .ok (.if_icmp .ge 19, 3) := by decide +kernel
theorem d1_15 : decode prog_17_method_1_code 15 = .ok (.iload_n 2, 1) := by decide +kernel
theorem d1_16 : decode prog_17_method_1_code 16 = .ok (.ifCond .le 15, 3) := by decide +kernel
theorem d1_19 : decode prog_17_method_1_code 19 = .ok (.iload_n 2, 1) := by decide +kernel
theorem d1_20 : decode prog_17_method_1_code 20 = .ok (.sipush 1440, 3) := by decide +kernel
theorem d1_23 : decode prog_17_method_1_code 23 = .ok (.if_icmp .gt 8, 3) := by decide +kernel
theorem d1_26 : decode prog_17_method_1_code 26 = .ok (.iload_n 1, 1) := by decide +kernel
theorem d1_27 : decode prog_17_method_1_code 27 = .ok (.iload_n 2, 1) := by decide +kernel
theorem d1_28 : decode prog_17_method_1_code 28 = .ok (.if_icmp .ne 18, 3) := by decide +kernel
theorem d1_46 : decode prog_17_method_1_code 46 = .ok (.aload_n 0, 1) := by decide +kernel
theorem d1_47 : decode prog_17_method_1_code 47 = .ok (.iload_n 1, 1) := by decide +kernel
theorem d1_48 : decode prog_17_method_1_code 48 = .ok (.putfield 18, 3) := by decide +kernel
theorem d1_51 : decode prog_17_method_1_code 51 = .ok (.aload_n 0, 1) := by decide +kernel
theorem d1_52 : decode prog_17_method_1_code 52 = .ok (.iload_n 2, 1) := by decide +kernel
theorem d1_53 : decode prog_17_method_1_code 53 = .ok (.putfield 22, 3) := by decide +kernel
theorem d1_56 : decode prog_17_method_1_code 56 = .ok (.return_, 1) := by decide +kernel
theorem pn_1 : plainFor (⟨"com/example/astraea/astraea/DayHours", "<init>", "(II)V"⟩ : MethodName) = true := plainFor_of_name (by first | (simp [plainName, overriddenIn]; done) | decide +kernel)
theorem ef_1 (m : MethodId) (x0 : Addr) (x1 : Int32) (x2 : Int32) : entryFrame m #[(.ref x0), (.int x1), (.int x2)] 3 = mkF m 0 #[.val (.ref x0), .val (.int x1), .val (.int x2)] [] := by first | (simp [entryFrame, mkF, argsToLocals, Value.category]; done) | rfl
theorem pd_0 : parseMethodDescriptor "()V" = some ⟨[], none⟩ := by decide +kernel
def Q1 (Z : State) (a1 : Addr) (p2 : Int32) (p3 : Int32)  (h0 : Heap) (n0 : Nat) (v : Option Value) (h : Heap) (L : List Loc) : Prop := v = none ∧ Fr n0 L ∧ Keep h0 h [a1] ∧ Exa Z h a1 "com/example/astraea/astraea/DayHours" ∧ Fld Z h a1 "com/example/astraea/astraea/DayHours" "from" "I" (.int p2) ∧ Fld Z h a1 "com/example/astraea/astraea/DayHours" "to" "I" (.int p3)
set_option maxRecDepth 65536 in
set_option maxHeartbeats 40000000 in
theorem rm1 (l : Launch) (Z : State) (a0 : Array Value) (hw : ∀ d ∈ tables_1, d.before a0 Z = true) (ws : List Jvm.Cond) (a1 : Addr) (p2 : Int32) (p3 : Int32)  (h0 : Heap) (n0 : Nat) (Z0 : n0 ≤ h0.size) (E1 : Exa Z h0 a1 "com/example/astraea/astraea/DayHours") (F1 : Fld Z h0 a1 "com/example/astraea/astraea/DayHours" "from" "I" (.int (0 : Int32))) (F2 : Fld Z h0 a1 "com/example/astraea/astraea/DayHours" "to" "I" (.int (0 : Int32))) (g1 : n0 ≤ a1) (hp1 : ¬ p2 < 0) (hp2 : p2 < 1440) (hp3 : 0 < p3) (hp4 : ¬ 1440 < p3) (hp5 : ¬ p2 = p3) :
    MetFree l (⟨"com/example/astraea/astraea/DayHours", "<init>", "(II)V"⟩ : MethodName) (head1 (Jvm.Cond.code (⟨"com/example/astraea/astraea/DayHours", "<init>", "(II)V"⟩ : MethodName) prog_17_method_1_code 3 none :: ws) ({ frames := 2, cells := 0, slots := 0, locals := 24 } : Room)) (fun a U => a = #[(.ref a1), (.int p2), (.int p3)] ∧ Z.Warmed39 U.vm ∧ U.heap = h0) (fun _ _ _ _ _ => True) (fun _ U o U' => ∃ v L, o = .returned v ∧ Q1 Z a1 p2 p3 h0 n0 v U'.heap L ∧ FrameEnd U o U' L ({ frames := 2, cells := 0, slots := 0, locals := 24 } : Room).cells ({ frames := 2, cells := 0, slots := 0, locals := 24 } : Room).slots) := by
  refine MetFree.of_bodySF pn_1 hisR ?_
  intro p e s m args below meth c s₁ Bd hml0 hP hK
  obtain ⟨rfl, hZ, hh⟩ := hP
  have hx := Bd.exec
  have hby := Bd.bytes
  have hml : c.maxLocals = 3 := hml0
  have hown : s.vm.findClass "com/example/astraea/astraea/DayHours" = some m.cls := findClass_of_methodNamed Bd.named
  have hnm := (name_of_methodNamed Bd.named Bd.method).1
  have X0 : Stand p l e ({ frames := 2, cells := 0, slots := 0, locals := 24 } : Room) s m #[(.ref a1), (.int p2), (.int p3)] below meth c s₁ [] 0 0 := Stand.of_body Bd
  have e0 : s₁.heap = h0 := by rw [← hh, Bd.state]; rfl
  have N0 := Fr.nil n0
  refine own_start (Q := Q1 Z a1 p2 p3 h0 n0) (own_cast (ef_1 m a1 p2 p3) ?_)
  show Go p.tables e below _ (s₁.setTop (mkF m 0 #[.val (.ref a1), .val (.int p2), .val (.int p3)] []))
  refine Go.st (fun U hr => XS.aloadN X0.here hx rfl (hb hby d1_0) rfl rfl hr) ?_
  show Go p.tables e below _ (s₁.setTop (mkF m 1 #[.val (.ref a1), .val (.int p2), .val (.int p3)] [(.ref a1)]))
  obtain ⟨_, _, ⟨T1, L1, k1, n1⟩, -, X1, ⟨Lc1, hQ1, l1, y1, z1⟩, st1⟩ := X0.specialBack hx (y := (⟨"java/lang/Record", "<init>", "()V"⟩ : MethodName)) rfl hown (mvT hZ (hw _ (List.mem_of_getElem? (i := 6) rfl))) (mvT hZ (hw _ (List.mem_of_getElem? (i := 7) rfl))) (mvT hZ (hw _ (List.mem_of_getElem? (i := 10) rfl))) (by decide) (backOf (W := 0) (rm2 l Z a0 hw [] a1 h0 n0 Z0) hZ (hw _ (List.mem_of_getElem? (i := 10) rfl)) (hw _ (List.mem_of_getElem? (i := 9) rfl)) (by decide) (by decide)) (g := (mkF m 1 #[.val (.ref a1), .val (.int p2), .val (.int p3)] [(.ref a1)])) rfl (by rw [hml]; rfl) (Steps.refl _) (a := a1) (argsL := []) (rest := []) (lenOf pd_0 rfl) rfl (by show 2 * 0 + _ ≤ _; exact Nat.le_of_eq rfl) (hb hby d1_1) (fun _ _ => ⟨rfl, e0, (by decide : 0 + 0 ≤ _), (by decide : 0 + 0 ≤ _)⟩)
  dsimp only [Pt.U, Pt.locs, Pt.cells, Pt.slots] at X1 l1 y1 z1 st1 hQ1
  subst l1 y1 z1
  obtain ⟨rfl, Nq1, ee1⟩ := hQ1
  have N1 := Fr.app N0 Nq1
  refine Go.tr st1 ?_
  show Go p.tables e below _ (T1.setTop (mkF m 4 #[.val (.ref a1), .val (.int p2), .val (.int p3)] []))
  refine Go.st (fun U hr => XS.iloadN X1.here hx rfl (hb hby d1_4) rfl hr) ?_
  show Go p.tables e below _ (T1.setTop (mkF m 5 #[.val (.ref a1), .val (.int p2), .val (.int p3)] [(.int p2)]))
  have hc5_2 : ¬ (p2 < (0 : Int32)) := hp1
  refine Go.st (fun U hr => XS.ifNo X1.here hx rfl (hb hby d1_5) rfl ((if0 _ _).trans (flt hc5_2).1) hr) ?_
  show Go p.tables e below _ (T1.setTop (mkF m 8 #[.val (.ref a1), .val (.int p2), .val (.int p3)] []))
  refine Go.st (fun U hr => XS.iloadN X1.here hx rfl (hb hby d1_8) rfl hr) ?_
  show Go p.tables e below _ (T1.setTop (mkF m 9 #[.val (.ref a1), .val (.int p2), .val (.int p3)] [(.int p2)]))
  refine Go.st (fun U hr => XS.sipush X1.here hx rfl (hb hby d1_9) hr) ?_
  show Go p.tables e below _ (T1.setTop (mkF m 12 #[.val (.ref a1), .val (.int p2), .val (.int p3)] [(.int (1440 : Int32)), (.int p2)]))
  have hc12_3 : p2 < (1440 : Int32) := hp2
  refine Go.st (fun U hr => XS.icmpNo X1.here hx rfl (hb hby d1_12) rfl (tlt hc12_3).2.1 hr) ?_
  show Go p.tables e below _ (T1.setTop (mkF m 15 #[.val (.ref a1), .val (.int p2), .val (.int p3)] []))
  refine Go.st (fun U hr => XS.iloadN X1.here hx rfl (hb hby d1_15) rfl hr) ?_
  show Go p.tables e below _ (T1.setTop (mkF m 16 #[.val (.ref a1), .val (.int p2), .val (.int p3)] [(.int p3)]))
  have hc16_4 : (0 : Int32) < p3 := hp3
  refine Go.st (fun U hr => XS.ifNo X1.here hx rfl (hb hby d1_16) rfl ((if0 _ _).trans (tlt hc16_4).2.2.2) hr) ?_
  show Go p.tables e below _ (T1.setTop (mkF m 19 #[.val (.ref a1), .val (.int p2), .val (.int p3)] []))
  refine Go.st (fun U hr => XS.iloadN X1.here hx rfl (hb hby d1_19) rfl hr) ?_
  show Go p.tables e below _ (T1.setTop (mkF m 20 #[.val (.ref a1), .val (.int p2), .val (.int p3)] [(.int p3)]))
  refine Go.st (fun U hr => XS.sipush X1.here hx rfl (hb hby d1_20) hr) ?_
  show Go p.tables e below _ (T1.setTop (mkF m 23 #[.val (.ref a1), .val (.int p2), .val (.int p3)] [(.int (1440 : Int32)), (.int p3)]))
  have hc23_5 : ¬ ((1440 : Int32) < p3) := hp4
  refine Go.st (fun U hr => XS.icmpNo X1.here hx rfl (hb hby d1_23) rfl (flt hc23_5).2.2.1 hr) ?_
  show Go p.tables e below _ (T1.setTop (mkF m 26 #[.val (.ref a1), .val (.int p2), .val (.int p3)] []))
  refine Go.st (fun U hr => XS.iloadN X1.here hx rfl (hb hby d1_26) rfl hr) ?_
  show Go p.tables e below _ (T1.setTop (mkF m 27 #[.val (.ref a1), .val (.int p2), .val (.int p3)] [(.int p2)]))
  refine Go.st (fun U hr => XS.iloadN X1.here hx rfl (hb hby d1_27) rfl hr) ?_
  show Go p.tables e below _ (T1.setTop (mkF m 28 #[.val (.ref a1), .val (.int p2), .val (.int p3)] [(.int p3), (.int p2)]))
  have hc28_6 : ¬ (p2 = p3) := hp5
  refine Go.st (fun U hr => XS.icmpYes X1.here hx rfl (pc0 := 28) (pc' := 46) rfl (hb hby d1_28) rfl (feq hc28_6).2 (by decide) (by decide) hr) ?_
  show Go p.tables e below _ (T1.setTop (mkF m 46 #[.val (.ref a1), .val (.int p2), .val (.int p3)] []))
  refine Go.st (fun U hr => XS.aloadN X1.here hx rfl (hb hby d1_46) rfl rfl hr) ?_
  show Go p.tables e below _ (T1.setTop (mkF m 47 #[.val (.ref a1), .val (.int p2), .val (.int p3)] [(.ref a1)]))
  refine Go.st (fun U hr => XS.iloadN X1.here hx rfl (hb hby d1_47) rfl hr) ?_
  show Go p.tables e below _ (T1.setTop (mkF m 48 #[.val (.ref a1), .val (.int p2), .val (.int p3)] [(.int p2), (.ref a1)]))
  obtain ⟨T7, h7, X7, e7, W7, st7⟩ := putF X1 hx hZ hown (host := "") (Or.inl (hw _ (List.mem_of_getElem? (i := 14) rfl))) Via.refl ee1 F1 E1 (Or.inr ⟨(hw _ (List.mem_of_getElem? (i := 15) rfl)), rfl, hnm⟩) (hw _ (List.mem_of_getElem? (i := 1) rfl)) (ty := .int) (by decide) rfl rfl (g := (mkF m 48 #[.val (.ref a1), .val (.int p2), .val (.int p3)] [(.int p2), (.ref a1)])) rfl rfl (hb hby d1_48)
  refine Go.st st7 ?_
  have k8 := ((Keep.refl h0 [a1])).wr W7 (Or.inl (List.mem_of_getElem? (i := 0) rfl))
  have f9 := (E1).wr W7
  have f10 := (F1).same W7
  have f11 := (F2).other W7 (Or.inr (slot_ne (Or.inr (hw _ (List.mem_of_getElem? (i := 17) rfl))) (Or.inr (hw _ (List.mem_of_getElem? (i := 15) rfl))) (by decide) (t := .int) (t' := .int) (by decide) (by decide)))
  have z12 := Nat.le_trans Z0 (Keep.of_wr W7).1
  have N7 := Fr.snoc X7 N1 g1
  show Go p.tables e below _ (T7.setTop (mkF m 51 #[.val (.ref a1), .val (.int p2), .val (.int p3)] []))
  refine Go.st (fun U hr => XS.aloadN X7.here hx rfl (hb hby d1_51) rfl rfl hr) ?_
  show Go p.tables e below _ (T7.setTop (mkF m 52 #[.val (.ref a1), .val (.int p2), .val (.int p3)] [(.ref a1)]))
  refine Go.st (fun U hr => XS.iloadN X7.here hx rfl (hb hby d1_52) rfl hr) ?_
  show Go p.tables e below _ (T7.setTop (mkF m 53 #[.val (.ref a1), .val (.int p2), .val (.int p3)] [(.int p3), (.ref a1)]))
  obtain ⟨T13, h13, X13, e13, W13, st13⟩ := putF X7 hx hZ hown (host := "") (Or.inl (hw _ (List.mem_of_getElem? (i := 16) rfl))) Via.refl e7 f11 f9 (Or.inr ⟨(hw _ (List.mem_of_getElem? (i := 17) rfl)), rfl, hnm⟩) (hw _ (List.mem_of_getElem? (i := 1) rfl)) (ty := .int) (by decide) rfl rfl (g := (mkF m 53 #[.val (.ref a1), .val (.int p2), .val (.int p3)] [(.int p3), (.ref a1)])) rfl rfl (hb hby d1_53)
  refine Go.st st13 ?_
  have k14 := (k8).wr W13 (Or.inl (List.mem_of_getElem? (i := 0) rfl))
  have f15 := (f9).wr W13
  have f16 := (f10).other W13 (Or.inr (slot_ne (Or.inr (hw _ (List.mem_of_getElem? (i := 15) rfl))) (Or.inr (hw _ (List.mem_of_getElem? (i := 17) rfl))) (by decide) (t := .int) (t' := .int) (by decide) (by decide)))
  have f17 := (f11).same W13
  have z18 := Nat.le_trans z12 (Keep.of_wr W13).1
  have N13 := Fr.snoc X13 N7 g1
  show Go p.tables e below _ (T13.setTop (mkF m 56 #[.val (.ref a1), .val (.int p2), .val (.int p3)] []))
  exact own_ret0 X13 hx Bd.notSynchronized Bd.returns (hb hby d1_56) (by rw [e13]; exact ⟨rfl, N13, k14, f15, f16, f17⟩) (by decide) (by decide)
theorem d4_0 : decode prog_17_method_3_code 0 = .ok (.aload_n 0, 1) := by decide +kernel
theorem d4_1 : decode prog_17_method_3_code 1 = .ok (.getfield 18, 3) := by decide +kernel
theorem d4_4 : decode prog_17_method_3_code 4 = .ok (.aload_n 0, 1) := by decide +kernel
theorem d4_5 : decode prog_17_method_3_code 5 = .ok (.getfield 22, 3) := by decide +kernel
theorem d4_8 : decode prog_17_method_3_code 8 = .ok (.if_icmp .ge 25, 3) := by decide +kernel
theorem d4_11 : decode prog_17_method_3_code 11 = .ok (.iload_n 1, 1) := by decide +kernel
theorem d4_12 : decode prog_17_method_3_code 12 = .ok (.aload_n 0, 1) := by decide +kernel
theorem d4_13 : decode prog_17_method_3_code 13 = .ok (.getfield 18, 3) := by decide +kernel
theorem d4_16 : decode prog_17_method_3_code 16 = .ok (.if_icmp .lt 15, 3) := by decide +kernel
theorem d4_19 : decode prog_17_method_3_code 19 = .ok (.iload_n 1, 1) := by decide +kernel
theorem d4_20 : decode prog_17_method_3_code 20 = .ok (.aload_n 0, 1) := by decide +kernel
theorem d4_21 : decode prog_17_method_3_code 21 = .ok (.getfield 22, 3) := by decide +kernel
theorem d4_24 : decode prog_17_method_3_code 24 = .ok (.if_icmp .ge 7, 3) := by decide +kernel
theorem d4_27 : decode prog_17_method_3_code 27 = .ok (.iconst 1, 1) := by decide +kernel
theorem d4_28 : decode prog_17_method_3_code 28 = .ok (.goto 4, 3) := by decide +kernel
theorem d4_31 : decode prog_17_method_3_code 31 = .ok (.iconst 0, 1) := by decide +kernel
theorem d4_32 : decode prog_17_method_3_code 32 = .ok (.ireturn, 1) := by decide +kernel
theorem d4_33 : decode prog_17_method_3_code 33 = .ok (.iload_n 1, 1) := by decide +kernel
theorem d4_34 : decode prog_17_method_3_code 34 = .ok (.aload_n 0, 1) := by decide +kernel
theorem d4_35 : decode prog_17_method_3_code 35 = .ok (.getfield 18, 3) := by decide +kernel
theorem d4_38 : decode prog_17_method_3_code 38 = .ok (.if_icmp .ge 11, 3) := by decide +kernel
theorem d4_41 : decode prog_17_method_3_code 41 = .ok (.iload_n 1, 1) := by decide +kernel
theorem d4_42 : decode prog_17_method_3_code 42 = .ok (.aload_n 0, 1) := by decide +kernel
theorem d4_43 : decode prog_17_method_3_code 43 = .ok (.getfield 22, 3) := by decide +kernel
theorem d4_46 : decode prog_17_method_3_code 46 = .ok (.if_icmp .ge 7, 3) := by decide +kernel
theorem d4_49 : decode prog_17_method_3_code 49 = .ok (.iconst 1, 1) := by decide +kernel
theorem d4_50 : decode prog_17_method_3_code 50 = .ok (.goto 4, 3) := by decide +kernel
theorem d4_53 : decode prog_17_method_3_code 53 = .ok (.iconst 0, 1) := by decide +kernel
theorem d4_54 : decode prog_17_method_3_code 54 = .ok (.ireturn, 1) := by decide +kernel
theorem pn_4 : plainFor (⟨"com/example/astraea/astraea/DayHours", "contains", "(I)Z"⟩ : MethodName) = true := plainFor_of_name (by first | (simp [plainName, overriddenIn]; done) | decide +kernel)
theorem ef_4 (m : MethodId) (x0 : Addr) (x1 : Int32) : entryFrame m #[(.ref x0), (.int x1)] 2 = mkF m 0 #[.val (.ref x0), .val (.int x1)] [] := by first | (simp [entryFrame, mkF, argsToLocals, Value.category]; done) | rfl
def Q4 (Z : State) (a1 : Addr) (p2 : Int32) (w1 : Int32) (w2 : Int32) (h0 : Heap) (n0 : Nat) (v : Option Value) (h : Heap) (L : List Loc) : Prop := v = some (.int (own_cont w1 w2 p2)) ∧ Fr n0 L ∧ h = h0
set_option maxRecDepth 65536 in
set_option maxHeartbeats 40000000 in
theorem rm4 (l : Launch) (Z : State) (a0 : Array Value) (hw : ∀ d ∈ tables_1, d.before a0 Z = true) (ws : List Jvm.Cond) (a1 : Addr) (p2 : Int32) (w1 : Int32) (w2 : Int32) (h0 : Heap) (n0 : Nat) (Z0 : n0 ≤ h0.size) (F1 : Fld Z h0 a1 "com/example/astraea/astraea/DayHours" "from" "I" (.int w1)) (F2 : Fld Z h0 a1 "com/example/astraea/astraea/DayHours" "to" "I" (.int w2)) :
    MetFree l (⟨"com/example/astraea/astraea/DayHours", "contains", "(I)Z"⟩ : MethodName) (head1 (Jvm.Cond.code (⟨"com/example/astraea/astraea/DayHours", "contains", "(I)Z"⟩ : MethodName) prog_17_method_3_code 2 (some .boolean) :: ws) ({ frames := 0, cells := 0, slots := 0, locals := 0 } : Room)) (fun a U => a = #[(.ref a1), (.int p2)] ∧ Z.Warmed39 U.vm ∧ U.heap = h0) (fun _ _ _ _ _ => True) (fun _ U o U' => ∃ v L, o = .returned v ∧ Q4 Z a1 p2 w1 w2 h0 n0 v U'.heap L ∧ FrameEnd U o U' L ({ frames := 0, cells := 0, slots := 0, locals := 0 } : Room).cells ({ frames := 0, cells := 0, slots := 0, locals := 0 } : Room).slots) := by
  refine MetFree.of_bodySF pn_4 hisR ?_
  intro p e s m args below meth c s₁ Bd hml0 hP hK
  obtain ⟨rfl, hZ, hh⟩ := hP
  have hx := Bd.exec
  have hby := Bd.bytes
  have hml : c.maxLocals = 2 := hml0
  have hown : s.vm.findClass "com/example/astraea/astraea/DayHours" = some m.cls := findClass_of_methodNamed Bd.named
  have hnm := (name_of_methodNamed Bd.named Bd.method).1
  have X0 : Stand p l e ({ frames := 0, cells := 0, slots := 0, locals := 0 } : Room) s m #[(.ref a1), (.int p2)] below meth c s₁ [] 0 0 := Stand.of_body Bd
  have e0 : s₁.heap = h0 := by rw [← hh, Bd.state]; rfl
  have N0 := Fr.nil n0
  refine own_start (Q := Q4 Z a1 p2 w1 w2 h0 n0) (own_cast (ef_4 m a1 p2) ?_)
  show Go p.tables e below _ (s₁.setTop (mkF m 0 #[.val (.ref a1), .val (.int p2)] []))
  refine Go.st (fun U hr => XS.aloadN X0.here hx rfl (hb hby d4_0) rfl rfl hr) ?_
  show Go p.tables e below _ (s₁.setTop (mkF m 1 #[.val (.ref a1), .val (.int p2)] [(.ref a1)]))
  obtain ⟨T1, X1, e1, st1⟩ := getF X0 hx hZ hown (host := "") (Or.inl (hw _ (List.mem_of_getElem? (i := 14) rfl))) Via.refl e0 F1 (g := (mkF m 1 #[.val (.ref a1), .val (.int p2)] [(.ref a1)])) rfl rfl (hb hby d4_1)
  refine Go.st st1 ?_
  show Go p.tables e below _ (T1.setTop (mkF m 4 #[.val (.ref a1), .val (.int p2)] [(.int w1)]))
  refine Go.st (fun U hr => XS.aloadN X1.here hx rfl (hb hby d4_4) rfl rfl hr) ?_
  show Go p.tables e below _ (T1.setTop (mkF m 5 #[.val (.ref a1), .val (.int p2)] [(.ref a1), (.int w1)]))
  obtain ⟨T2, X2, e2, st2⟩ := getF X1 hx hZ hown (host := "") (Or.inl (hw _ (List.mem_of_getElem? (i := 16) rfl))) Via.refl e1 F2 (g := (mkF m 5 #[.val (.ref a1), .val (.int p2)] [(.ref a1), (.int w1)])) rfl rfl (hb hby d4_5)
  refine Go.st st2 ?_
  show Go p.tables e below _ (T2.setTop (mkF m 8 #[.val (.ref a1), .val (.int p2)] [(.int w2), (.int w1)]))
  by_cases hc8_3 : w1 < w2
  · refine Go.st (fun U hr => XS.icmpNo X2.here hx rfl (hb hby d4_8) rfl (tlt hc8_3).2.1 hr) ?_
    show Go p.tables e below _ (T2.setTop (mkF m 11 #[.val (.ref a1), .val (.int p2)] []))
    refine Go.st (fun U hr => XS.iloadN X2.here hx rfl (hb hby d4_11) rfl hr) ?_
    show Go p.tables e below _ (T2.setTop (mkF m 12 #[.val (.ref a1), .val (.int p2)] [(.int p2)]))
    refine Go.st (fun U hr => XS.aloadN X2.here hx rfl (hb hby d4_12) rfl rfl hr) ?_
    show Go p.tables e below _ (T2.setTop (mkF m 13 #[.val (.ref a1), .val (.int p2)] [(.ref a1), (.int p2)]))
    obtain ⟨T4, X4, e4, st4⟩ := getF X2 hx hZ hown (host := "") (Or.inl (hw _ (List.mem_of_getElem? (i := 14) rfl))) Via.refl e2 F1 (g := (mkF m 13 #[.val (.ref a1), .val (.int p2)] [(.ref a1), (.int p2)])) rfl rfl (hb hby d4_13)
    refine Go.st st4 ?_
    show Go p.tables e below _ (T4.setTop (mkF m 16 #[.val (.ref a1), .val (.int p2)] [(.int w1), (.int p2)]))
    by_cases hc16_5 : p2 < w1
    · refine Go.st (fun U hr => XS.icmpYes X4.here hx rfl (pc0 := 16) (pc' := 31) rfl (hb hby d4_16) rfl (tlt hc16_5).1 (by decide) (by decide) hr) ?_
      show Go p.tables e below _ (T4.setTop (mkF m 31 #[.val (.ref a1), .val (.int p2)] []))
      refine Go.st (fun U hr => XS.iconst X4.here hx rfl (hb hby d4_31) hr) ?_
      show Go p.tables e below _ (T4.setTop (mkF m 32 #[.val (.ref a1), .val (.int p2)] [(.int (0 : Int32))]))
      exact own_retN X4 hx Bd.notSynchronized (t := .boolean) Bd.returns (by simp) (hb hby d4_32) ⟨by simp [own_cont, nar, hc8_3, hc16_5], N0, e4⟩ (by decide) (by decide)
    · refine Go.st (fun U hr => XS.icmpNo X4.here hx rfl (hb hby d4_16) rfl (flt hc16_5).1 hr) ?_
      show Go p.tables e below _ (T4.setTop (mkF m 19 #[.val (.ref a1), .val (.int p2)] []))
      refine Go.st (fun U hr => XS.iloadN X4.here hx rfl (hb hby d4_19) rfl hr) ?_
      show Go p.tables e below _ (T4.setTop (mkF m 20 #[.val (.ref a1), .val (.int p2)] [(.int p2)]))
      refine Go.st (fun U hr => XS.aloadN X4.here hx rfl (hb hby d4_20) rfl rfl hr) ?_
      show Go p.tables e below _ (T4.setTop (mkF m 21 #[.val (.ref a1), .val (.int p2)] [(.ref a1), (.int p2)]))
      obtain ⟨T6, X6, e6, st6⟩ := getF X4 hx hZ hown (host := "") (Or.inl (hw _ (List.mem_of_getElem? (i := 16) rfl))) Via.refl e4 F2 (g := (mkF m 21 #[.val (.ref a1), .val (.int p2)] [(.ref a1), (.int p2)])) rfl rfl (hb hby d4_21)
      refine Go.st st6 ?_
      show Go p.tables e below _ (T6.setTop (mkF m 24 #[.val (.ref a1), .val (.int p2)] [(.int w2), (.int p2)]))
      by_cases hc24_7 : p2 < w2
      · refine Go.st (fun U hr => XS.icmpNo X6.here hx rfl (hb hby d4_24) rfl (tlt hc24_7).2.1 hr) ?_
        show Go p.tables e below _ (T6.setTop (mkF m 27 #[.val (.ref a1), .val (.int p2)] []))
        refine Go.st (fun U hr => XS.iconst X6.here hx rfl (hb hby d4_27) hr) ?_
        show Go p.tables e below _ (T6.setTop (mkF m 28 #[.val (.ref a1), .val (.int p2)] [(.int (1 : Int32))]))
        refine Go.st (fun U hr => XS.goto X6.here hx rfl (pc0 := 28) (pc' := 32) rfl (hb hby d4_28) (by decide) (by decide) hr) ?_
        show Go p.tables e below _ (T6.setTop (mkF m 32 #[.val (.ref a1), .val (.int p2)] [(.int (1 : Int32))]))
        exact own_retN X6 hx Bd.notSynchronized (t := .boolean) Bd.returns (by simp) (hb hby d4_32) ⟨by simp [own_cont, nar, hc8_3, hc16_5, hc24_7], N0, e6⟩ (by decide) (by decide)
      · refine Go.st (fun U hr => XS.icmpYes X6.here hx rfl (pc0 := 24) (pc' := 31) rfl (hb hby d4_24) rfl (flt hc24_7).2.1 (by decide) (by decide) hr) ?_
        show Go p.tables e below _ (T6.setTop (mkF m 31 #[.val (.ref a1), .val (.int p2)] []))
        refine Go.st (fun U hr => XS.iconst X6.here hx rfl (hb hby d4_31) hr) ?_
        show Go p.tables e below _ (T6.setTop (mkF m 32 #[.val (.ref a1), .val (.int p2)] [(.int (0 : Int32))]))
        exact own_retN X6 hx Bd.notSynchronized (t := .boolean) Bd.returns (by simp) (hb hby d4_32) ⟨by simp [own_cont, nar, hc8_3, hc16_5, hc24_7], N0, e6⟩ (by decide) (by decide)
  · refine Go.st (fun U hr => XS.icmpYes X2.here hx rfl (pc0 := 8) (pc' := 33) rfl (hb hby d4_8) rfl (flt hc8_3).2.1 (by decide) (by decide) hr) ?_
    show Go p.tables e below _ (T2.setTop (mkF m 33 #[.val (.ref a1), .val (.int p2)] []))
    refine Go.st (fun U hr => XS.iloadN X2.here hx rfl (hb hby d4_33) rfl hr) ?_
    show Go p.tables e below _ (T2.setTop (mkF m 34 #[.val (.ref a1), .val (.int p2)] [(.int p2)]))
    refine Go.st (fun U hr => XS.aloadN X2.here hx rfl (hb hby d4_34) rfl rfl hr) ?_
    show Go p.tables e below _ (T2.setTop (mkF m 35 #[.val (.ref a1), .val (.int p2)] [(.ref a1), (.int p2)]))
    obtain ⟨T8, X8, e8, st8⟩ := getF X2 hx hZ hown (host := "") (Or.inl (hw _ (List.mem_of_getElem? (i := 14) rfl))) Via.refl e2 F1 (g := (mkF m 35 #[.val (.ref a1), .val (.int p2)] [(.ref a1), (.int p2)])) rfl rfl (hb hby d4_35)
    refine Go.st st8 ?_
    show Go p.tables e below _ (T8.setTop (mkF m 38 #[.val (.ref a1), .val (.int p2)] [(.int w1), (.int p2)]))
    by_cases hc38_9 : p2 < w1
    · refine Go.st (fun U hr => XS.icmpNo X8.here hx rfl (hb hby d4_38) rfl (tlt hc38_9).2.1 hr) ?_
      show Go p.tables e below _ (T8.setTop (mkF m 41 #[.val (.ref a1), .val (.int p2)] []))
      refine Go.st (fun U hr => XS.iloadN X8.here hx rfl (hb hby d4_41) rfl hr) ?_
      show Go p.tables e below _ (T8.setTop (mkF m 42 #[.val (.ref a1), .val (.int p2)] [(.int p2)]))
      refine Go.st (fun U hr => XS.aloadN X8.here hx rfl (hb hby d4_42) rfl rfl hr) ?_
      show Go p.tables e below _ (T8.setTop (mkF m 43 #[.val (.ref a1), .val (.int p2)] [(.ref a1), (.int p2)]))
      obtain ⟨T10, X10, e10, st10⟩ := getF X8 hx hZ hown (host := "") (Or.inl (hw _ (List.mem_of_getElem? (i := 16) rfl))) Via.refl e8 F2 (g := (mkF m 43 #[.val (.ref a1), .val (.int p2)] [(.ref a1), (.int p2)])) rfl rfl (hb hby d4_43)
      refine Go.st st10 ?_
      show Go p.tables e below _ (T10.setTop (mkF m 46 #[.val (.ref a1), .val (.int p2)] [(.int w2), (.int p2)]))
      by_cases hc46_11 : p2 < w2
      · refine Go.st (fun U hr => XS.icmpNo X10.here hx rfl (hb hby d4_46) rfl (tlt hc46_11).2.1 hr) ?_
        show Go p.tables e below _ (T10.setTop (mkF m 49 #[.val (.ref a1), .val (.int p2)] []))
        refine Go.st (fun U hr => XS.iconst X10.here hx rfl (hb hby d4_49) hr) ?_
        show Go p.tables e below _ (T10.setTop (mkF m 50 #[.val (.ref a1), .val (.int p2)] [(.int (1 : Int32))]))
        refine Go.st (fun U hr => XS.goto X10.here hx rfl (pc0 := 50) (pc' := 54) rfl (hb hby d4_50) (by decide) (by decide) hr) ?_
        show Go p.tables e below _ (T10.setTop (mkF m 54 #[.val (.ref a1), .val (.int p2)] [(.int (1 : Int32))]))
        exact own_retN X10 hx Bd.notSynchronized (t := .boolean) Bd.returns (by simp) (hb hby d4_54) ⟨by simp [own_cont, nar, hc8_3, hc38_9, hc46_11], N0, e10⟩ (by decide) (by decide)
      · refine Go.st (fun U hr => XS.icmpYes X10.here hx rfl (pc0 := 46) (pc' := 53) rfl (hb hby d4_46) rfl (flt hc46_11).2.1 (by decide) (by decide) hr) ?_
        show Go p.tables e below _ (T10.setTop (mkF m 53 #[.val (.ref a1), .val (.int p2)] []))
        refine Go.st (fun U hr => XS.iconst X10.here hx rfl (hb hby d4_53) hr) ?_
        show Go p.tables e below _ (T10.setTop (mkF m 54 #[.val (.ref a1), .val (.int p2)] [(.int (0 : Int32))]))
        exact own_retN X10 hx Bd.notSynchronized (t := .boolean) Bd.returns (by simp) (hb hby d4_54) ⟨by simp [own_cont, nar, hc8_3, hc38_9, hc46_11], N0, e10⟩ (by decide) (by decide)
    · refine Go.st (fun U hr => XS.icmpYes X8.here hx rfl (pc0 := 38) (pc' := 49) rfl (hb hby d4_38) rfl (flt hc38_9).2.1 (by decide) (by decide) hr) ?_
      show Go p.tables e below _ (T8.setTop (mkF m 49 #[.val (.ref a1), .val (.int p2)] []))
      refine Go.st (fun U hr => XS.iconst X8.here hx rfl (hb hby d4_49) hr) ?_
      show Go p.tables e below _ (T8.setTop (mkF m 50 #[.val (.ref a1), .val (.int p2)] [(.int (1 : Int32))]))
      refine Go.st (fun U hr => XS.goto X8.here hx rfl (pc0 := 50) (pc' := 54) rfl (hb hby d4_50) (by decide) (by decide) hr) ?_
      show Go p.tables e below _ (T8.setTop (mkF m 54 #[.val (.ref a1), .val (.int p2)] [(.int (1 : Int32))]))
      exact own_retN X8 hx Bd.notSynchronized (t := .boolean) Bd.returns (by simp) (hb hby d4_54) ⟨by simp [own_cont, nar, hc8_3, hc38_9], N0, e8⟩ (by decide) (by decide)
theorem pn_0 : plainFor x = true := plainFor_of_name (by first | (simp [plainName, overriddenIn]; done) | decide +kernel)
theorem ef_0 (m : MethodId) (x0 : Int32) (x1 : Int32) (x2 : Int32) : entryFrame m #[(.int x0), (.int x1), (.int x2)] maxLocals = mkF m 0 #[.val (.int x0), .val (.int x1), .val (.int x2), .unset, .unset, .unset, .unset, .unset, .unset, .unset] [] := by first | (simp [entryFrame, mkF, argsToLocals, Value.category, maxLocals]; done) | rfl
theorem pd_1 : parseMethodDescriptor "(II)V" = some ⟨[.int, .int], none⟩ := by decide +kernel
theorem pd_2 : parseMethodDescriptor "(I)Z" = some ⟨[.int], some .boolean⟩ := by decide +kernel
def Q0 (Z : State) (p1 : Int32) (p2 : Int32) (p3 : Int32)  (h0 : Heap) (n0 : Nat) (v : Option Value) (h : Heap) (L : List Loc) : Prop := v = some (.int 1) ∧ Fr n0 L
set_option maxRecDepth 65536 in
set_option maxHeartbeats 40000000 in
theorem rm0 (l : Launch) (Z : State) (a0 : Array Value) (hw : ∀ d ∈ tables_1, d.before a0 Z = true) (ws : List Jvm.Cond) (p1 : Int32) (p2 : Int32) (p3 : Int32)  (h0 : Heap) (n0 : Nat) (Z0 : n0 ≤ h0.size) :
    MetFree l x (head1 (Jvm.Cond.code x code maxLocals ret :: ws) room_1) (fun a U => a = #[(.int p1), (.int p2), (.int p3)] ∧ Z.Warmed39 U.vm ∧ U.heap = h0) (fun _ _ _ _ _ => True) (fun _ U o U' => ∃ v L, o = .returned v ∧ Q0 Z p1 p2 p3 h0 n0 v U'.heap L ∧ FrameEnd U o U' L room_1.cells room_1.slots) := by
  refine MetFree.of_bodySF pn_0 hisR ?_
  intro p e s m args below meth c s₁ Bd hml0 hP hK
  obtain ⟨rfl, hZ, hh⟩ := hP
  have hx := Bd.exec
  have hby := Bd.bytes
  have hml : c.maxLocals = 10 := hml0
  have hown : s.vm.findClass "com/example/astraea/astraea/DayHoursContainsPinLaw" = some m.cls := findClass_of_methodNamed Bd.named
  have hnm := (name_of_methodNamed Bd.named Bd.method).1
  have X0 : Stand p l e room_1 s m #[(.int p1), (.int p2), (.int p3)] below meth c s₁ [] 0 0 := Stand.of_body Bd
  have e0 : s₁.heap = h0 := by rw [← hh, Bd.state]; rfl
  have N0 := Fr.nil n0
  refine own_start (Q := Q0 Z p1 p2 p3 h0 n0) (own_cast (ef_0 m p1 p2 p3) ?_)
  show Go p.tables e below _ (s₁.setTop (mkF m 0 #[.val (.int p1), .val (.int p2), .val (.int p3), .unset, .unset, .unset, .unset, .unset, .unset, .unset] []))
  refine Go.st (fun U hr => XS.iloadN X0.here hx rfl (hb hby at_0) rfl hr) ?_
  show Go p.tables e below _ (s₁.setTop (mkF m 1 #[.val (.int p1), .val (.int p2), .val (.int p3), .unset, .unset, .unset, .unset, .unset, .unset, .unset] [(.int p1)]))
  refine Go.st (fun U hr => XS.sipush X0.here hx rfl (hb hby at_1) hr) ?_
  show Go p.tables e below _ (s₁.setTop (mkF m 4 #[.val (.int p1), .val (.int p2), .val (.int p3), .unset, .unset, .unset, .unset, .unset, .unset, .unset] [(.int (1440 : Int32)), (.int p1)]))
  refine Go.st (fun U hr => XS.irem X0.here hx rfl (hb hby at_4) rfl (by decide) hr) ?_
  show Go p.tables e below _ (s₁.setTop (mkF m 5 #[.val (.int p1), .val (.int p2), .val (.int p3), .unset, .unset, .unset, .unset, .unset, .unset, .unset] [(.int (p1 - (p1 / (1440 : Int32)) * (1440 : Int32)))]))
  refine Go.st (fun U hr => XS.sipush X0.here hx rfl (hb hby at_5) hr) ?_
  show Go p.tables e below _ (s₁.setTop (mkF m 8 #[.val (.int p1), .val (.int p2), .val (.int p3), .unset, .unset, .unset, .unset, .unset, .unset, .unset] [(.int (1440 : Int32)), (.int (p1 - (p1 / (1440 : Int32)) * (1440 : Int32)))]))
  refine Go.st (fun U hr => XS.iadd X0.here hx rfl (hb hby at_8) rfl hr) ?_
  show Go p.tables e below _ (s₁.setTop (mkF m 9 #[.val (.int p1), .val (.int p2), .val (.int p3), .unset, .unset, .unset, .unset, .unset, .unset, .unset] [(.int ((p1 - (p1 / (1440 : Int32)) * (1440 : Int32)) + (1440 : Int32)))]))
  refine Go.st (fun U hr => XS.sipush X0.here hx rfl (hb hby at_9) hr) ?_
  show Go p.tables e below _ (s₁.setTop (mkF m 12 #[.val (.int p1), .val (.int p2), .val (.int p3), .unset, .unset, .unset, .unset, .unset, .unset, .unset] [(.int (1440 : Int32)), (.int ((p1 - (p1 / (1440 : Int32)) * (1440 : Int32)) + (1440 : Int32)))]))
  refine Go.st (fun U hr => XS.irem X0.here hx rfl (hb hby at_12) rfl (by decide) hr) ?_
  show Go p.tables e below _ (s₁.setTop (mkF m 13 #[.val (.int p1), .val (.int p2), .val (.int p3), .unset, .unset, .unset, .unset, .unset, .unset, .unset] [(.int (((p1 - (p1 / (1440 : Int32)) * (1440 : Int32)) + (1440 : Int32)) - (((p1 - (p1 / (1440 : Int32)) * (1440 : Int32)) + (1440 : Int32)) / (1440 : Int32)) * (1440 : Int32)))]))
  refine Go.st (fun U hr => XS.istoreN X0.here hx rfl (hb hby at_13) rfl (l' := #[.val (.int p1), .val (.int p2), .val (.int p3), .val (.int (((p1 - (p1 / (1440 : Int32)) * (1440 : Int32)) + (1440 : Int32)) - (((p1 - (p1 / (1440 : Int32)) * (1440 : Int32)) + (1440 : Int32)) / (1440 : Int32)) * (1440 : Int32))), .unset, .unset, .unset, .unset, .unset, .unset]) rfl hr) ?_
  show Go p.tables e below _ (s₁.setTop (mkF m 14 #[.val (.int p1), .val (.int p2), .val (.int p3), .val (.int (((p1 - (p1 / (1440 : Int32)) * (1440 : Int32)) + (1440 : Int32)) - (((p1 - (p1 / (1440 : Int32)) * (1440 : Int32)) + (1440 : Int32)) / (1440 : Int32)) * (1440 : Int32))), .unset, .unset, .unset, .unset, .unset, .unset] []))
  generalize h_fr : (((p1 - (p1 / (1440 : Int32)) * (1440 : Int32)) + (1440 : Int32)) - (((p1 - (p1 / (1440 : Int32)) * (1440 : Int32)) + (1440 : Int32)) / (1440 : Int32)) * (1440 : Int32)) = fr
  have hfr : 0 ≤ fr.toInt ∧ fr.toInt < 1440 := by rw [← h_fr]; exact own_norm p1
  refine Go.st (fun U hr => XS.iloadN X0.here hx rfl (hb hby at_14) rfl hr) ?_
  show Go p.tables e below _ (s₁.setTop (mkF m 15 #[.val (.int p1), .val (.int p2), .val (.int p3), .val (.int fr), .unset, .unset, .unset, .unset, .unset, .unset] [(.int p2)]))
  refine Go.st (fun U hr => XS.sipush X0.here hx rfl (hb hby at_15) hr) ?_
  show Go p.tables e below _ (s₁.setTop (mkF m 18 #[.val (.int p1), .val (.int p2), .val (.int p3), .val (.int fr), .unset, .unset, .unset, .unset, .unset, .unset] [(.int (1440 : Int32)), (.int p2)]))
  refine Go.st (fun U hr => XS.irem X0.here hx rfl (hb hby at_18) rfl (by decide) hr) ?_
  show Go p.tables e below _ (s₁.setTop (mkF m 19 #[.val (.int p1), .val (.int p2), .val (.int p3), .val (.int fr), .unset, .unset, .unset, .unset, .unset, .unset] [(.int (p2 - (p2 / (1440 : Int32)) * (1440 : Int32)))]))
  refine Go.st (fun U hr => XS.sipush X0.here hx rfl (hb hby at_19) hr) ?_
  show Go p.tables e below _ (s₁.setTop (mkF m 22 #[.val (.int p1), .val (.int p2), .val (.int p3), .val (.int fr), .unset, .unset, .unset, .unset, .unset, .unset] [(.int (1440 : Int32)), (.int (p2 - (p2 / (1440 : Int32)) * (1440 : Int32)))]))
  refine Go.st (fun U hr => XS.iadd X0.here hx rfl (hb hby at_22) rfl hr) ?_
  show Go p.tables e below _ (s₁.setTop (mkF m 23 #[.val (.int p1), .val (.int p2), .val (.int p3), .val (.int fr), .unset, .unset, .unset, .unset, .unset, .unset] [(.int ((p2 - (p2 / (1440 : Int32)) * (1440 : Int32)) + (1440 : Int32)))]))
  refine Go.st (fun U hr => XS.sipush X0.here hx rfl (hb hby at_23) hr) ?_
  show Go p.tables e below _ (s₁.setTop (mkF m 26 #[.val (.int p1), .val (.int p2), .val (.int p3), .val (.int fr), .unset, .unset, .unset, .unset, .unset, .unset] [(.int (1440 : Int32)), (.int ((p2 - (p2 / (1440 : Int32)) * (1440 : Int32)) + (1440 : Int32)))]))
  refine Go.st (fun U hr => XS.irem X0.here hx rfl (hb hby at_26) rfl (by decide) hr) ?_
  show Go p.tables e below _ (s₁.setTop (mkF m 27 #[.val (.int p1), .val (.int p2), .val (.int p3), .val (.int fr), .unset, .unset, .unset, .unset, .unset, .unset] [(.int (((p2 - (p2 / (1440 : Int32)) * (1440 : Int32)) + (1440 : Int32)) - (((p2 - (p2 / (1440 : Int32)) * (1440 : Int32)) + (1440 : Int32)) / (1440 : Int32)) * (1440 : Int32)))]))
  refine Go.st (fun U hr => XS.iconst X0.here hx rfl (hb hby at_27) hr) ?_
  show Go p.tables e below _ (s₁.setTop (mkF m 28 #[.val (.int p1), .val (.int p2), .val (.int p3), .val (.int fr), .unset, .unset, .unset, .unset, .unset, .unset] [(.int (1 : Int32)), (.int (((p2 - (p2 / (1440 : Int32)) * (1440 : Int32)) + (1440 : Int32)) - (((p2 - (p2 / (1440 : Int32)) * (1440 : Int32)) + (1440 : Int32)) / (1440 : Int32)) * (1440 : Int32)))]))
  refine Go.st (fun U hr => XS.iadd X0.here hx rfl (hb hby at_28) rfl hr) ?_
  show Go p.tables e below _ (s₁.setTop (mkF m 29 #[.val (.int p1), .val (.int p2), .val (.int p3), .val (.int fr), .unset, .unset, .unset, .unset, .unset, .unset] [(.int ((((p2 - (p2 / (1440 : Int32)) * (1440 : Int32)) + (1440 : Int32)) - (((p2 - (p2 / (1440 : Int32)) * (1440 : Int32)) + (1440 : Int32)) / (1440 : Int32)) * (1440 : Int32)) + (1 : Int32)))]))
  refine Go.st (fun U hr => XS.istore X0.here hx rfl (hb hby at_29) rfl (l' := #[.val (.int p1), .val (.int p2), .val (.int p3), .val (.int fr), .val (.int ((((p2 - (p2 / (1440 : Int32)) * (1440 : Int32)) + (1440 : Int32)) - (((p2 - (p2 / (1440 : Int32)) * (1440 : Int32)) + (1440 : Int32)) / (1440 : Int32)) * (1440 : Int32)) + (1 : Int32))), .unset, .unset, .unset, .unset, .unset]) rfl hr) ?_
  show Go p.tables e below _ (s₁.setTop (mkF m 31 #[.val (.int p1), .val (.int p2), .val (.int p3), .val (.int fr), .val (.int ((((p2 - (p2 / (1440 : Int32)) * (1440 : Int32)) + (1440 : Int32)) - (((p2 - (p2 / (1440 : Int32)) * (1440 : Int32)) + (1440 : Int32)) / (1440 : Int32)) * (1440 : Int32)) + (1 : Int32))), .unset, .unset, .unset, .unset, .unset] []))
  generalize h_t0 : ((((p2 - (p2 / (1440 : Int32)) * (1440 : Int32)) + (1440 : Int32)) - (((p2 - (p2 / (1440 : Int32)) * (1440 : Int32)) + (1440 : Int32)) / (1440 : Int32)) * (1440 : Int32)) + (1 : Int32)) = t0
  have ht0 : 1 ≤ t0.toInt ∧ t0.toInt ≤ 1440 := by
    have := own_norm p2
    rw [← h_t0]
    generalize (((p2 - (p2 / (1440 : Int32)) * (1440 : Int32)) + (1440 : Int32)) - (((p2 - (p2 / (1440 : Int32)) * (1440 : Int32)) + (1440 : Int32)) / (1440 : Int32)) * (1440 : Int32)) = u at *
    have h2 := c_iadd u 1
    rw [show (1 : Int32).toInt = 1 from by decide] at h2
    have := rng32 (u + 1)
    omega
  refine Go.st (fun U hr => XS.iload X0.here hx rfl (hb hby at_31) rfl hr) ?_
  show Go p.tables e below _ (s₁.setTop (mkF m 33 #[.val (.int p1), .val (.int p2), .val (.int p3), .val (.int fr), .val (.int t0), .unset, .unset, .unset, .unset, .unset] [(.int t0)]))
  refine Go.st (fun U hr => XS.iloadN X0.here hx rfl (hb hby at_33) rfl hr) ?_
  show Go p.tables e below _ (s₁.setTop (mkF m 34 #[.val (.int p1), .val (.int p2), .val (.int p3), .val (.int fr), .val (.int t0), .unset, .unset, .unset, .unset, .unset] [(.int fr), (.int t0)]))
  suffices hj34_1 : Go p.tables e below _ (s₁.setTop (mkF m 43 #[.val (.int p1), .val (.int p2), .val (.int p3), .val (.int fr), .val (.int (if t0 = fr then (t0 + (1 : Int32)) else t0)), .unset, .unset, .unset, .unset, .unset] [])) by
    by_cases hc34_1 : t0 = fr
    · refine Go.st (fun U hr => XS.icmpNo X0.here hx rfl (hb hby at_34) rfl (teq hc34_1).2 hr) ?_
      show Go p.tables e below _ (s₁.setTop (mkF m 37 #[.val (.int p1), .val (.int p2), .val (.int p3), .val (.int fr), .val (.int t0), .unset, .unset, .unset, .unset, .unset] []))
      refine Go.st (fun U hr => XS.iload X0.here hx rfl (hb hby at_37) rfl hr) ?_
      show Go p.tables e below _ (s₁.setTop (mkF m 39 #[.val (.int p1), .val (.int p2), .val (.int p3), .val (.int fr), .val (.int t0), .unset, .unset, .unset, .unset, .unset] [(.int t0)]))
      refine Go.st (fun U hr => XS.iconst X0.here hx rfl (hb hby at_39) hr) ?_
      show Go p.tables e below _ (s₁.setTop (mkF m 40 #[.val (.int p1), .val (.int p2), .val (.int p3), .val (.int fr), .val (.int t0), .unset, .unset, .unset, .unset, .unset] [(.int (1 : Int32)), (.int t0)]))
      refine Go.st (fun U hr => XS.iadd X0.here hx rfl (hb hby at_40) rfl hr) ?_
      show Go p.tables e below _ (s₁.setTop (mkF m 41 #[.val (.int p1), .val (.int p2), .val (.int p3), .val (.int fr), .val (.int t0), .unset, .unset, .unset, .unset, .unset] [(.int (t0 + (1 : Int32)))]))
      refine Go.st (fun U hr => XS.istore X0.here hx rfl (hb hby at_41) rfl (l' := #[.val (.int p1), .val (.int p2), .val (.int p3), .val (.int fr), .val (.int (t0 + (1 : Int32))), .unset, .unset, .unset, .unset, .unset]) rfl hr) ?_
      show Go p.tables e below _ (s₁.setTop (mkF m 43 #[.val (.int p1), .val (.int p2), .val (.int p3), .val (.int fr), .val (.int (t0 + (1 : Int32))), .unset, .unset, .unset, .unset, .unset] []))
      simpa only [if_pos hc34_1] using hj34_1
    · refine Go.st (fun U hr => XS.icmpYes X0.here hx rfl (pc0 := 34) (pc' := 43) rfl (hb hby at_34) rfl (feq hc34_1).2 (by decide) (by decide) hr) ?_
      show Go p.tables e below _ (s₁.setTop (mkF m 43 #[.val (.int p1), .val (.int p2), .val (.int p3), .val (.int fr), .val (.int t0), .unset, .unset, .unset, .unset, .unset] []))
      simpa only [if_neg hc34_1] using hj34_1
  generalize h_tv : (if t0 = fr then (t0 + (1 : Int32)) else t0) = tv
  have htv : 1 ≤ tv.toInt ∧ tv.toInt ≤ 1440 ∧ fr.toInt ≠ tv.toInt := by
    have h2 := c_iadd t0 1
    rw [show (1 : Int32).toInt = 1 from by decide] at h2
    have := rng32 (t0 + 1)
    rw [← h_tv]
    split
    · rename_i q; subst q; omega
    · rename_i q; exact ⟨ht0.1, ht0.2, fun z => q (Int32.toInt_inj.mp z.symm)⟩
  refine Go.st (fun U hr => XS.iloadN X0.here hx rfl (hb hby at_43) rfl hr) ?_
  show Go p.tables e below _ (s₁.setTop (mkF m 44 #[.val (.int p1), .val (.int p2), .val (.int p3), .val (.int fr), .val (.int tv), .unset, .unset, .unset, .unset, .unset] [(.int p3)]))
  refine Go.st (fun U hr => XS.sipush X0.here hx rfl (hb hby at_44) hr) ?_
  show Go p.tables e below _ (s₁.setTop (mkF m 47 #[.val (.int p1), .val (.int p2), .val (.int p3), .val (.int fr), .val (.int tv), .unset, .unset, .unset, .unset, .unset] [(.int (1440 : Int32)), (.int p3)]))
  refine Go.st (fun U hr => XS.irem X0.here hx rfl (hb hby at_47) rfl (by decide) hr) ?_
  show Go p.tables e below _ (s₁.setTop (mkF m 48 #[.val (.int p1), .val (.int p2), .val (.int p3), .val (.int fr), .val (.int tv), .unset, .unset, .unset, .unset, .unset] [(.int (p3 - (p3 / (1440 : Int32)) * (1440 : Int32)))]))
  refine Go.st (fun U hr => XS.sipush X0.here hx rfl (hb hby at_48) hr) ?_
  show Go p.tables e below _ (s₁.setTop (mkF m 51 #[.val (.int p1), .val (.int p2), .val (.int p3), .val (.int fr), .val (.int tv), .unset, .unset, .unset, .unset, .unset] [(.int (1440 : Int32)), (.int (p3 - (p3 / (1440 : Int32)) * (1440 : Int32)))]))
  refine Go.st (fun U hr => XS.iadd X0.here hx rfl (hb hby at_51) rfl hr) ?_
  show Go p.tables e below _ (s₁.setTop (mkF m 52 #[.val (.int p1), .val (.int p2), .val (.int p3), .val (.int fr), .val (.int tv), .unset, .unset, .unset, .unset, .unset] [(.int ((p3 - (p3 / (1440 : Int32)) * (1440 : Int32)) + (1440 : Int32)))]))
  refine Go.st (fun U hr => XS.sipush X0.here hx rfl (hb hby at_52) hr) ?_
  show Go p.tables e below _ (s₁.setTop (mkF m 55 #[.val (.int p1), .val (.int p2), .val (.int p3), .val (.int fr), .val (.int tv), .unset, .unset, .unset, .unset, .unset] [(.int (1440 : Int32)), (.int ((p3 - (p3 / (1440 : Int32)) * (1440 : Int32)) + (1440 : Int32)))]))
  refine Go.st (fun U hr => XS.irem X0.here hx rfl (hb hby at_55) rfl (by decide) hr) ?_
  show Go p.tables e below _ (s₁.setTop (mkF m 56 #[.val (.int p1), .val (.int p2), .val (.int p3), .val (.int fr), .val (.int tv), .unset, .unset, .unset, .unset, .unset] [(.int (((p3 - (p3 / (1440 : Int32)) * (1440 : Int32)) + (1440 : Int32)) - (((p3 - (p3 / (1440 : Int32)) * (1440 : Int32)) + (1440 : Int32)) / (1440 : Int32)) * (1440 : Int32)))]))
  refine Go.st (fun U hr => XS.istore X0.here hx rfl (hb hby at_56) rfl (l' := #[.val (.int p1), .val (.int p2), .val (.int p3), .val (.int fr), .val (.int tv), .val (.int (((p3 - (p3 / (1440 : Int32)) * (1440 : Int32)) + (1440 : Int32)) - (((p3 - (p3 / (1440 : Int32)) * (1440 : Int32)) + (1440 : Int32)) / (1440 : Int32)) * (1440 : Int32))), .unset, .unset, .unset, .unset]) rfl hr) ?_
  show Go p.tables e below _ (s₁.setTop (mkF m 58 #[.val (.int p1), .val (.int p2), .val (.int p3), .val (.int fr), .val (.int tv), .val (.int (((p3 - (p3 / (1440 : Int32)) * (1440 : Int32)) + (1440 : Int32)) - (((p3 - (p3 / (1440 : Int32)) * (1440 : Int32)) + (1440 : Int32)) / (1440 : Int32)) * (1440 : Int32))), .unset, .unset, .unset, .unset] []))
  generalize h_mi : (((p3 - (p3 / (1440 : Int32)) * (1440 : Int32)) + (1440 : Int32)) - (((p3 - (p3 / (1440 : Int32)) * (1440 : Int32)) + (1440 : Int32)) / (1440 : Int32)) * (1440 : Int32)) = mi
  have hmi : 0 ≤ mi.toInt ∧ mi.toInt < 1440 := by rw [← h_mi]; exact own_norm p3
  obtain ⟨T2, h2, X2, e2, E2, A2, D2, -, st2⟩ := newO X0 hx hZ hown (hw _ (List.mem_of_getElem? (i := 0) rfl)) (hw _ (List.mem_of_getElem? (i := 1) rfl)) (hw _ (List.mem_of_getElem? (i := 2) rfl)) e0 (g := (mkF m 58 #[.val (.int p1), .val (.int p2), .val (.int p3), .val (.int fr), .val (.int tv), .val (.int mi), .unset, .unset, .unset, .unset] [])) rfl (hb hby at_58) (by decide) (by decide)
  obtain ⟨b2, g2⟩ : ∃ z, z = h0.size := ⟨_, rfl⟩
  rw [← g2] at A2 D2 st2
  refine Go.st st2 ?_
  have gb2 : n0 ≤ b2 := Nat.le_trans Z0 (Nat.le_of_eq g2.symm)
  have z3 := Nat.le_trans Z0 E2.1
  have F2_from : Fld Z h2 b2 "com/example/astraea/astraea/DayHours" "from" "I" (.int (0 : Int32)) := D2 (Or.inr (hw _ (List.mem_of_getElem? (i := 15) rfl))) (ty := .int) (by decide)
  have F2_to : Fld Z h2 b2 "com/example/astraea/astraea/DayHours" "to" "I" (.int (0 : Int32)) := D2 (Or.inr (hw _ (List.mem_of_getElem? (i := 17) rfl))) (ty := .int) (by decide)
  show Go p.tables e below _ (T2.setTop (mkF m 61 #[.val (.int p1), .val (.int p2), .val (.int p3), .val (.int fr), .val (.int tv), .val (.int mi), .unset, .unset, .unset, .unset] [(.ref b2)]))
  refine Go.st (fun U hr => XS.dup X2.here hx rfl (hb hby at_61) rfl rfl hr) ?_
  show Go p.tables e below _ (T2.setTop (mkF m 62 #[.val (.int p1), .val (.int p2), .val (.int p3), .val (.int fr), .val (.int tv), .val (.int mi), .unset, .unset, .unset, .unset] [(.ref b2), (.ref b2)]))
  refine Go.st (fun U hr => XS.iloadN X2.here hx rfl (hb hby at_62) rfl hr) ?_
  show Go p.tables e below _ (T2.setTop (mkF m 63 #[.val (.int p1), .val (.int p2), .val (.int p3), .val (.int fr), .val (.int tv), .val (.int mi), .unset, .unset, .unset, .unset] [(.int fr), (.ref b2), (.ref b2)]))
  refine Go.st (fun U hr => XS.iload X2.here hx rfl (hb hby at_63) rfl hr) ?_
  show Go p.tables e below _ (T2.setTop (mkF m 65 #[.val (.int p1), .val (.int p2), .val (.int p3), .val (.int fr), .val (.int tv), .val (.int mi), .unset, .unset, .unset, .unset] [(.int tv), (.int fr), (.ref b2), (.ref b2)]))
  obtain ⟨_, _, ⟨T4, L4, k4, n4⟩, -, X4, ⟨Lc4, hQ4, l4, y4, z4⟩, st4⟩ := X2.specialBack hx (y := (⟨"com/example/astraea/astraea/DayHours", "<init>", "(II)V"⟩ : MethodName)) rfl hown (mvT hZ (hw _ (List.mem_of_getElem? (i := 3) rfl))) (mvT hZ (hw _ (List.mem_of_getElem? (i := 4) rfl))) (mvT hZ (hw _ (List.mem_of_getElem? (i := 5) rfl))) (by decide) (backOf (W := 1) (rm1 l Z a0 hw [] b2 fr tv h2 n0 z3 A2 F2_from F2_to gb2 (fun q => by rw [Int32.lt_iff_toInt_lt] at q; have : (0 : Int32).toInt = 0 := rfl; omega) (by rw [Int32.lt_iff_toInt_lt]; have : (1440 : Int32).toInt = 1440 := rfl; omega) (by rw [Int32.lt_iff_toInt_lt]; have : (0 : Int32).toInt = 0 := rfl; omega) (fun q => by rw [Int32.lt_iff_toInt_lt] at q; have : (1440 : Int32).toInt = 1440 := rfl; omega) (fun q => htv.2.2 (congrArg Int32.toInt q))) hZ (hw _ (List.mem_of_getElem? (i := 5) rfl)) (hw _ (List.mem_of_getElem? (i := 2) rfl)) (by decide) (by decide)) (g := (mkF m 65 #[.val (.int p1), .val (.int p2), .val (.int p3), .val (.int fr), .val (.int tv), .val (.int mi), .unset, .unset, .unset, .unset] [(.int tv), (.int fr), (.ref b2), (.ref b2)])) rfl (by rw [hml]; rfl) (Steps.refl _) (a := b2) (argsL := [(.int fr), (.int tv)]) (rest := [(.ref b2)]) (lenOf pd_1 rfl) rfl (by show 2 * 0 + _ ≤ _; exact Nat.le_of_eq rfl) (hb hby at_65) (fun _ _ => ⟨rfl, e2, (by decide : 1 + 0 ≤ _), (by decide : 2 + 0 ≤ _)⟩)
  dsimp only [Pt.U, Pt.locs, Pt.cells, Pt.slots] at X4 l4 y4 z4 st4 hQ4
  subst l4 y4 z4
  obtain ⟨rfl, Nq4, Kq4, Eq4, Ff4, Ft4⟩ := hQ4
  have N4 := Fr.app N0 Nq4
  refine Go.tr st4 ?_
  show Go p.tables e below _ (T4.setTop (mkF m 68 #[.val (.int p1), .val (.int p2), .val (.int p3), .val (.int fr), .val (.int tv), .val (.int mi), .unset, .unset, .unset, .unset] [(.ref b2)]))
  have z5 := Nat.le_trans z3 Kq4.1
  refine Go.st (fun U hr => XS.astore X4.here hx rfl (hb hby at_68) rfl rfl (l' := #[.val (.int p1), .val (.int p2), .val (.int p3), .val (.int fr), .val (.int tv), .val (.int mi), .val (.ref b2), .unset, .unset, .unset]) rfl hr) ?_
  show Go p.tables e below _ (T4.setTop (mkF m 70 #[.val (.int p1), .val (.int p2), .val (.int p3), .val (.int fr), .val (.int tv), .val (.int mi), .val (.ref b2), .unset, .unset, .unset] []))
  refine Go.st (fun U hr => XS.iload X4.here hx rfl (hb hby at_70) rfl hr) ?_
  show Go p.tables e below _ (T4.setTop (mkF m 72 #[.val (.int p1), .val (.int p2), .val (.int p3), .val (.int fr), .val (.int tv), .val (.int mi), .val (.ref b2), .unset, .unset, .unset] [(.int mi)]))
  refine Go.st (fun U hr => XS.iloadN X4.here hx rfl (hb hby at_72) rfl hr) ?_
  show Go p.tables e below _ (T4.setTop (mkF m 73 #[.val (.int p1), .val (.int p2), .val (.int p3), .val (.int fr), .val (.int tv), .val (.int mi), .val (.ref b2), .unset, .unset, .unset] [(.int fr), (.int mi)]))
  refine Go.st (fun U hr => XS.isub X4.here hx rfl (hb hby at_73) rfl hr) ?_
  show Go p.tables e below _ (T4.setTop (mkF m 74 #[.val (.int p1), .val (.int p2), .val (.int p3), .val (.int fr), .val (.int tv), .val (.int mi), .val (.ref b2), .unset, .unset, .unset] [(.int (mi - fr))]))
  refine Go.st (fun U hr => XS.sipush X4.here hx rfl (hb hby at_74) hr) ?_
  show Go p.tables e below _ (T4.setTop (mkF m 77 #[.val (.int p1), .val (.int p2), .val (.int p3), .val (.int fr), .val (.int tv), .val (.int mi), .val (.ref b2), .unset, .unset, .unset] [(.int (1440 : Int32)), (.int (mi - fr))]))
  refine Go.st (fun U hr => XS.iadd X4.here hx rfl (hb hby at_77) rfl hr) ?_
  show Go p.tables e below _ (T4.setTop (mkF m 78 #[.val (.int p1), .val (.int p2), .val (.int p3), .val (.int fr), .val (.int tv), .val (.int mi), .val (.ref b2), .unset, .unset, .unset] [(.int ((mi - fr) + (1440 : Int32)))]))
  refine Go.st (fun U hr => XS.sipush X4.here hx rfl (hb hby at_78) hr) ?_
  show Go p.tables e below _ (T4.setTop (mkF m 81 #[.val (.int p1), .val (.int p2), .val (.int p3), .val (.int fr), .val (.int tv), .val (.int mi), .val (.ref b2), .unset, .unset, .unset] [(.int (1440 : Int32)), (.int ((mi - fr) + (1440 : Int32)))]))
  refine Go.st (fun U hr => XS.irem X4.here hx rfl (hb hby at_81) rfl (by decide) hr) ?_
  show Go p.tables e below _ (T4.setTop (mkF m 82 #[.val (.int p1), .val (.int p2), .val (.int p3), .val (.int fr), .val (.int tv), .val (.int mi), .val (.ref b2), .unset, .unset, .unset] [(.int (((mi - fr) + (1440 : Int32)) - (((mi - fr) + (1440 : Int32)) / (1440 : Int32)) * (1440 : Int32)))]))
  refine Go.st (fun U hr => XS.istore X4.here hx rfl (hb hby at_82) rfl (l' := #[.val (.int p1), .val (.int p2), .val (.int p3), .val (.int fr), .val (.int tv), .val (.int mi), .val (.ref b2), .val (.int (((mi - fr) + (1440 : Int32)) - (((mi - fr) + (1440 : Int32)) / (1440 : Int32)) * (1440 : Int32))), .unset, .unset]) rfl hr) ?_
  show Go p.tables e below _ (T4.setTop (mkF m 84 #[.val (.int p1), .val (.int p2), .val (.int p3), .val (.int fr), .val (.int tv), .val (.int mi), .val (.ref b2), .val (.int (((mi - fr) + (1440 : Int32)) - (((mi - fr) + (1440 : Int32)) / (1440 : Int32)) * (1440 : Int32))), .unset, .unset] []))
  generalize h_dd : (((mi - fr) + (1440 : Int32)) - (((mi - fr) + (1440 : Int32)) / (1440 : Int32)) * (1440 : Int32)) = dd
  have hdd : dd.toInt = (mi.toInt - fr.toInt + 1440) % 1440 := by rw [← h_dd]; exact own_diff mi fr ⟨hmi.1, by omega⟩ hfr
  refine Go.st (fun U hr => XS.iload X4.here hx rfl (hb hby at_84) rfl hr) ?_
  show Go p.tables e below _ (T4.setTop (mkF m 86 #[.val (.int p1), .val (.int p2), .val (.int p3), .val (.int fr), .val (.int tv), .val (.int mi), .val (.ref b2), .val (.int dd), .unset, .unset] [(.int tv)]))
  refine Go.st (fun U hr => XS.iloadN X4.here hx rfl (hb hby at_86) rfl hr) ?_
  show Go p.tables e below _ (T4.setTop (mkF m 87 #[.val (.int p1), .val (.int p2), .val (.int p3), .val (.int fr), .val (.int tv), .val (.int mi), .val (.ref b2), .val (.int dd), .unset, .unset] [(.int fr), (.int tv)]))
  refine Go.st (fun U hr => XS.isub X4.here hx rfl (hb hby at_87) rfl hr) ?_
  show Go p.tables e below _ (T4.setTop (mkF m 88 #[.val (.int p1), .val (.int p2), .val (.int p3), .val (.int fr), .val (.int tv), .val (.int mi), .val (.ref b2), .val (.int dd), .unset, .unset] [(.int (tv - fr))]))
  refine Go.st (fun U hr => XS.sipush X4.here hx rfl (hb hby at_88) hr) ?_
  show Go p.tables e below _ (T4.setTop (mkF m 91 #[.val (.int p1), .val (.int p2), .val (.int p3), .val (.int fr), .val (.int tv), .val (.int mi), .val (.ref b2), .val (.int dd), .unset, .unset] [(.int (1440 : Int32)), (.int (tv - fr))]))
  refine Go.st (fun U hr => XS.iadd X4.here hx rfl (hb hby at_91) rfl hr) ?_
  show Go p.tables e below _ (T4.setTop (mkF m 92 #[.val (.int p1), .val (.int p2), .val (.int p3), .val (.int fr), .val (.int tv), .val (.int mi), .val (.ref b2), .val (.int dd), .unset, .unset] [(.int ((tv - fr) + (1440 : Int32)))]))
  refine Go.st (fun U hr => XS.sipush X4.here hx rfl (hb hby at_92) hr) ?_
  show Go p.tables e below _ (T4.setTop (mkF m 95 #[.val (.int p1), .val (.int p2), .val (.int p3), .val (.int fr), .val (.int tv), .val (.int mi), .val (.ref b2), .val (.int dd), .unset, .unset] [(.int (1440 : Int32)), (.int ((tv - fr) + (1440 : Int32)))]))
  refine Go.st (fun U hr => XS.irem X4.here hx rfl (hb hby at_95) rfl (by decide) hr) ?_
  show Go p.tables e below _ (T4.setTop (mkF m 96 #[.val (.int p1), .val (.int p2), .val (.int p3), .val (.int fr), .val (.int tv), .val (.int mi), .val (.ref b2), .val (.int dd), .unset, .unset] [(.int (((tv - fr) + (1440 : Int32)) - (((tv - fr) + (1440 : Int32)) / (1440 : Int32)) * (1440 : Int32)))]))
  refine Go.st (fun U hr => XS.istore X4.here hx rfl (hb hby at_96) rfl (l' := #[.val (.int p1), .val (.int p2), .val (.int p3), .val (.int fr), .val (.int tv), .val (.int mi), .val (.ref b2), .val (.int dd), .val (.int (((tv - fr) + (1440 : Int32)) - (((tv - fr) + (1440 : Int32)) / (1440 : Int32)) * (1440 : Int32))), .unset]) rfl hr) ?_
  show Go p.tables e below _ (T4.setTop (mkF m 98 #[.val (.int p1), .val (.int p2), .val (.int p3), .val (.int fr), .val (.int tv), .val (.int mi), .val (.ref b2), .val (.int dd), .val (.int (((tv - fr) + (1440 : Int32)) - (((tv - fr) + (1440 : Int32)) / (1440 : Int32)) * (1440 : Int32))), .unset] []))
  generalize h_le0 : (((tv - fr) + (1440 : Int32)) - (((tv - fr) + (1440 : Int32)) / (1440 : Int32)) * (1440 : Int32)) = le0
  have hle0 : le0.toInt = (tv.toInt - fr.toInt + 1440) % 1440 := by rw [← h_le0]; exact own_diff tv fr ⟨by omega, by omega⟩ hfr
  refine Go.st (fun U hr => XS.iload X4.here hx rfl (hb hby at_98) rfl hr) ?_
  show Go p.tables e below _ (T4.setTop (mkF m 100 #[.val (.int p1), .val (.int p2), .val (.int p3), .val (.int fr), .val (.int tv), .val (.int mi), .val (.ref b2), .val (.int dd), .val (.int le0), .unset] [(.int le0)]))
  suffices hj100_6 : Go p.tables e below _ (T4.setTop (mkF m 108 #[.val (.int p1), .val (.int p2), .val (.int p3), .val (.int fr), .val (.int tv), .val (.int mi), .val (.ref b2), .val (.int dd), .val (.int (if le0 = (0 : Int32) then (1440 : Int32) else le0)), .unset] [])) by
    by_cases hc100_6 : le0 = (0 : Int32)
    · refine Go.st (fun U hr => XS.ifNo X4.here hx rfl (hb hby at_100) rfl ((if0 _ _).trans (teq hc100_6).2) hr) ?_
      show Go p.tables e below _ (T4.setTop (mkF m 103 #[.val (.int p1), .val (.int p2), .val (.int p3), .val (.int fr), .val (.int tv), .val (.int mi), .val (.ref b2), .val (.int dd), .val (.int le0), .unset] []))
      refine Go.st (fun U hr => XS.sipush X4.here hx rfl (hb hby at_103) hr) ?_
      show Go p.tables e below _ (T4.setTop (mkF m 106 #[.val (.int p1), .val (.int p2), .val (.int p3), .val (.int fr), .val (.int tv), .val (.int mi), .val (.ref b2), .val (.int dd), .val (.int le0), .unset] [(.int (1440 : Int32))]))
      refine Go.st (fun U hr => XS.istore X4.here hx rfl (hb hby at_106) rfl (l' := #[.val (.int p1), .val (.int p2), .val (.int p3), .val (.int fr), .val (.int tv), .val (.int mi), .val (.ref b2), .val (.int dd), .val (.int (1440 : Int32)), .unset]) rfl hr) ?_
      show Go p.tables e below _ (T4.setTop (mkF m 108 #[.val (.int p1), .val (.int p2), .val (.int p3), .val (.int fr), .val (.int tv), .val (.int mi), .val (.ref b2), .val (.int dd), .val (.int (1440 : Int32)), .unset] []))
      simpa only [if_pos hc100_6] using hj100_6
    · refine Go.st (fun U hr => XS.ifYes X4.here hx rfl (pc0 := 100) (pc' := 108) rfl (hb hby at_100) rfl ((if0 _ _).trans (feq hc100_6).2) (by decide) (by decide) hr) ?_
      show Go p.tables e below _ (T4.setTop (mkF m 108 #[.val (.int p1), .val (.int p2), .val (.int p3), .val (.int fr), .val (.int tv), .val (.int mi), .val (.ref b2), .val (.int dd), .val (.int le0), .unset] []))
      simpa only [if_neg hc100_6] using hj100_6
  generalize h_le : (if le0 = (0 : Int32) then (1440 : Int32) else le0) = le
  have hle : ((tv.toInt - fr.toInt + 1440) % 1440 = 0 ∧ le.toInt = 1440) ∨ ((tv.toInt - fr.toInt + 1440) % 1440 ≠ 0 ∧ le.toInt = (tv.toInt - fr.toInt + 1440) % 1440) := by
    rw [← h_le]
    split
    · rename_i q; left; subst q; exact ⟨by rw [← hle0]; decide, by decide⟩
    · rename_i q; right; exact ⟨fun z => q (Int32.toInt_inj.mp (by rw [hle0, z]; decide)), hle0⟩
  refine Go.st (fun U hr => XS.iload X4.here hx rfl (hb hby at_108) rfl hr) ?_
  show Go p.tables e below _ (T4.setTop (mkF m 110 #[.val (.int p1), .val (.int p2), .val (.int p3), .val (.int fr), .val (.int tv), .val (.int mi), .val (.ref b2), .val (.int dd), .val (.int le), .unset] [(.int dd)]))
  refine Go.st (fun U hr => XS.iload X4.here hx rfl (hb hby at_110) rfl hr) ?_
  show Go p.tables e below _ (T4.setTop (mkF m 112 #[.val (.int p1), .val (.int p2), .val (.int p3), .val (.int fr), .val (.int tv), .val (.int mi), .val (.ref b2), .val (.int dd), .val (.int le), .unset] [(.int le), (.int dd)]))
  suffices hj112_7 : Go p.tables e below _ (T4.setTop (mkF m 120 #[.val (.int p1), .val (.int p2), .val (.int p3), .val (.int fr), .val (.int tv), .val (.int mi), .val (.ref b2), .val (.int dd), .val (.int le), .unset] [(.int (if dd < le then (1 : Int32) else (0 : Int32)))])) by
    by_cases hc112_7 : dd < le
    · refine Go.st (fun U hr => XS.icmpNo X4.here hx rfl (hb hby at_112) rfl (tlt hc112_7).2.1 hr) ?_
      show Go p.tables e below _ (T4.setTop (mkF m 115 #[.val (.int p1), .val (.int p2), .val (.int p3), .val (.int fr), .val (.int tv), .val (.int mi), .val (.ref b2), .val (.int dd), .val (.int le), .unset] []))
      refine Go.st (fun U hr => XS.iconst X4.here hx rfl (hb hby at_115) hr) ?_
      show Go p.tables e below _ (T4.setTop (mkF m 116 #[.val (.int p1), .val (.int p2), .val (.int p3), .val (.int fr), .val (.int tv), .val (.int mi), .val (.ref b2), .val (.int dd), .val (.int le), .unset] [(.int (1 : Int32))]))
      refine Go.st (fun U hr => XS.goto X4.here hx rfl (pc0 := 116) (pc' := 120) rfl (hb hby at_116) (by decide) (by decide) hr) ?_
      show Go p.tables e below _ (T4.setTop (mkF m 120 #[.val (.int p1), .val (.int p2), .val (.int p3), .val (.int fr), .val (.int tv), .val (.int mi), .val (.ref b2), .val (.int dd), .val (.int le), .unset] [(.int (1 : Int32))]))
      simpa only [if_pos hc112_7] using hj112_7
    · refine Go.st (fun U hr => XS.icmpYes X4.here hx rfl (pc0 := 112) (pc' := 119) rfl (hb hby at_112) rfl (flt hc112_7).2.1 (by decide) (by decide) hr) ?_
      show Go p.tables e below _ (T4.setTop (mkF m 119 #[.val (.int p1), .val (.int p2), .val (.int p3), .val (.int fr), .val (.int tv), .val (.int mi), .val (.ref b2), .val (.int dd), .val (.int le), .unset] []))
      refine Go.st (fun U hr => XS.iconst X4.here hx rfl (hb hby at_119) hr) ?_
      show Go p.tables e below _ (T4.setTop (mkF m 120 #[.val (.int p1), .val (.int p2), .val (.int p3), .val (.int fr), .val (.int tv), .val (.int mi), .val (.ref b2), .val (.int dd), .val (.int le), .unset] [(.int (0 : Int32))]))
      simpa only [if_neg hc112_7] using hj112_7
  refine Go.st (fun U hr => XS.istore X4.here hx rfl (hb hby at_120) rfl (l' := #[.val (.int p1), .val (.int p2), .val (.int p3), .val (.int fr), .val (.int tv), .val (.int mi), .val (.ref b2), .val (.int dd), .val (.int le), .val (.int (if dd < le then (1 : Int32) else (0 : Int32)))]) rfl hr) ?_
  show Go p.tables e below _ (T4.setTop (mkF m 122 #[.val (.int p1), .val (.int p2), .val (.int p3), .val (.int fr), .val (.int tv), .val (.int mi), .val (.ref b2), .val (.int dd), .val (.int le), .val (.int (if dd < le then (1 : Int32) else (0 : Int32)))] []))
  refine Go.st (fun U hr => XS.aload X4.here hx rfl (hb hby at_122) rfl rfl hr) ?_
  show Go p.tables e below _ (T4.setTop (mkF m 124 #[.val (.int p1), .val (.int p2), .val (.int p3), .val (.int fr), .val (.int tv), .val (.int mi), .val (.ref b2), .val (.int dd), .val (.int le), .val (.int (if dd < le then (1 : Int32) else (0 : Int32)))] [(.ref b2)]))
  refine Go.st (fun U hr => XS.iload X4.here hx rfl (hb hby at_124) rfl hr) ?_
  show Go p.tables e below _ (T4.setTop (mkF m 126 #[.val (.int p1), .val (.int p2), .val (.int p3), .val (.int fr), .val (.int tv), .val (.int mi), .val (.ref b2), .val (.int dd), .val (.int le), .val (.int (if dd < le then (1 : Int32) else (0 : Int32)))] [(.int mi), (.ref b2)]))
  obtain ⟨cq8, kq8, q8a, q8b, q8c⟩ := isOf hZ rfl Eq4
  obtain ⟨_, _, ⟨T8, L8, k8, n8⟩, -, X8, ⟨Lc8, hQ8, l8, y8, z8⟩, st8⟩ := X4.virtualBack hx (y := (⟨"com/example/astraea/astraea/DayHours", "contains", "(I)Z"⟩ : MethodName)) (z := (⟨"com/example/astraea/astraea/DayHours", "contains", "(I)Z"⟩ : MethodName)) hown (mvT hZ (hw _ (List.mem_of_getElem? (i := 18) rfl))) (mvT hZ (hw _ (List.mem_of_getElem? (i := 19) rfl))) (notFace_of_selects (args := #[]) (mvT hZ (hw _ (List.mem_of_getElem? (i := 21) rfl)))) (mvT hZ (hw _ (List.mem_of_getElem? (i := 21) rfl))) (mvT hZ (hw _ (List.mem_of_getElem? (i := 20) rfl))) (by decide) (backOf (W := 0) (rm4 l Z a0 hw [] b2 mi fr tv T4.heap n0 z5 Ff4 Ft4) hZ (hw _ (List.mem_of_getElem? (i := 22) rfl)) (hw _ (List.mem_of_getElem? (i := 2) rfl)) (by decide) (by decide)) q8a q8c (g := (mkF m 126 #[.val (.int p1), .val (.int p2), .val (.int p3), .val (.int fr), .val (.int tv), .val (.int mi), .val (.ref b2), .val (.int dd), .val (.int le), .val (.int (if dd < le then (1 : Int32) else (0 : Int32)))] [(.int mi), (.ref b2)])) rfl (by rw [hml]; rfl) (Steps.refl _) (argsL := [(.int mi)]) (rest := []) (lenOf pd_2 rfl) rfl (by show 2 * 0 + _ ≤ _; exact Nat.le_of_eq rfl) (hb hby at_126) (fun _ _ => ⟨rfl, rfl, (by decide : 1 + 0 ≤ _), (by decide : 2 + 0 ≤ _)⟩)
  dsimp only [Pt.U, Pt.locs, Pt.cells, Pt.slots] at X8 l8 y8 z8 st8 hQ8
  subst l8 y8 z8
  obtain ⟨rfl, Nq8, ee8⟩ := hQ8
  have N8 := Fr.app N4 Nq8
  refine Go.tr st8 ?_
  show Go p.tables e below _ (T8.setTop (mkF m 129 #[.val (.int p1), .val (.int p2), .val (.int p3), .val (.int fr), .val (.int tv), .val (.int mi), .val (.ref b2), .val (.int dd), .val (.int le), .val (.int (if dd < le then (1 : Int32) else (0 : Int32)))] [(.int (own_cont fr tv mi))]))
  refine Go.st (fun U hr => XS.iload X8.here hx rfl (hb hby at_129) rfl hr) ?_
  show Go p.tables e below _ (T8.setTop (mkF m 131 #[.val (.int p1), .val (.int p2), .val (.int p3), .val (.int fr), .val (.int tv), .val (.int mi), .val (.ref b2), .val (.int dd), .val (.int le), .val (.int (if dd < le then (1 : Int32) else (0 : Int32)))] [(.int (if dd < le then (1 : Int32) else (0 : Int32))), (.int (own_cont fr tv mi))]))
  have hc131_9 : (own_cont fr tv mi) = (if dd < le then (1 : Int32) else (0 : Int32)) := own_law fr tv mi dd le hfr ⟨htv.1, htv.2.1⟩ htv.2.2 hmi hdd hle
  refine Go.st (fun U hr => XS.icmpNo X8.here hx rfl (hb hby at_131) rfl (teq hc131_9).2 hr) ?_
  show Go p.tables e below _ (T8.setTop (mkF m 134 #[.val (.int p1), .val (.int p2), .val (.int p3), .val (.int fr), .val (.int tv), .val (.int mi), .val (.ref b2), .val (.int dd), .val (.int le), .val (.int (if dd < le then (1 : Int32) else (0 : Int32)))] []))
  refine Go.st (fun U hr => XS.iconst X8.here hx rfl (hb hby at_134) hr) ?_
  show Go p.tables e below _ (T8.setTop (mkF m 135 #[.val (.int p1), .val (.int p2), .val (.int p3), .val (.int fr), .val (.int tv), .val (.int mi), .val (.ref b2), .val (.int dd), .val (.int le), .val (.int (if dd < le then (1 : Int32) else (0 : Int32)))] [(.int (1 : Int32))]))
  refine Go.st (fun U hr => XS.goto X8.here hx rfl (pc0 := 135) (pc' := 139) rfl (hb hby at_135) (by decide) (by decide) hr) ?_
  show Go p.tables e below _ (T8.setTop (mkF m 139 #[.val (.int p1), .val (.int p2), .val (.int p3), .val (.int fr), .val (.int tv), .val (.int mi), .val (.ref b2), .val (.int dd), .val (.int le), .val (.int (if dd < le then (1 : Int32) else (0 : Int32)))] [(.int (1 : Int32))]))
  exact own_retN X8 hx Bd.notSynchronized (t := .boolean) Bd.returns (by simp) (hb hby at_139) ⟨rfl, N8⟩ (by decide) (by decide)
set_option maxRecDepth 65536 in
set_option maxHeartbeats 40000000 in
theorem comes_1 {Post : Tables → Env → Array Value → State → Outcome → State → Prop} (hpost : ∀ tb e args s v u, (limb_1_1.after args s (.returned v) u = true ∧ limb_1_2.after args s (.returned v) u = true ∧ True) → FrameEnd s (.returned v) u (Jvm.fieldLocs frame_1_writes args s ++ Jvm.arrayLocs frame_1_arrays args s ++ Jvm.staticLocs frame_1_statics s) 16 128 → Post tb e args s (.returned v) u) :
    ArmFor flags0 classFile x code maxLocals ret World_1 tables_1 room_1 Calls_1 rest_1 Pre_1 Post := by
  intro l hfl _ _ p e ha hc hk s m args below hf hA hF happ hP
  obtain ⟨hcalls, hrest, hpre⟩ := hP
  obtain ⟨-, -, -, hnamed, -, -, -, hat⟩ := (Spec.applies_iff hf).mp happ
  obtain ⟨hg, hn⟩ := and_e (Cond.before_iff.mp (show (Jvm.Cond.and given_1 narrow_1).before args s = true from hpre))
  obtain ⟨h1, h2⟩ := and_e hg
  obtain ⟨w0, w1, w2, rfl⟩ : ∃ w0 w1 w2 : Value, args = #[w0, w1, w2] := by
    have hs : args.size = 3 := by simpa [Cond.value, given_1] using h1
    obtain ⟨L⟩ := args
    match L, hs with
    | [w0, w1, w2], _ => exact ⟨w0, w1, w2, rfl⟩
  have hw := fun d (hd : d ∈ tables_1) => atoms_spec (ws := Jvm.Cond.code x code maxLocals ret :: tables_1) hat d (List.mem_cons_of_mem _ hd)
  have hfit : Fit s := fun {y c} hc i hi => by
    obtain ⟨ha, rfl⟩ := Array.getElem?_eq_some_iff.mp hc
    have q := List.all_eq_true.mp ((Array.all_eq_true_iff_forall_mem.mp hF) _ (Array.getElem_mem ha)) i (List.mem_range.mpr hi)
    simpa [Array.getElem?_eq_getElem hi] using q
  obtain ⟨ha0, hb0⟩ := and_e h2
  obtain ⟨i0, e0⟩ := is_v ha0
  obtain rfl : w0 = (.int i0) := Option.some.inj e0
  obtain ⟨ha1, hb1⟩ := and_e hb0
  obtain ⟨i1, e1⟩ := is_v ha1
  obtain rfl : w1 = (.int i1) := Option.some.inj e1
  obtain ⟨i2, e2⟩ := is_v hb1
  obtain rfl : w2 = (.int i2) := Option.some.inj e2
  obtain ⟨n, o, h1, h2, h3, _, L, rfl, ⟨rfl, N⟩, hq⟩ := rm0 l s _ hw tables_1 i0 i1 i2 s.heap s.heap.size (Nat.le_refl _)  p e ha hc hk s m _ below hf ((Spec.applies_iff_loose hf).mp happ).1 ⟨rfl, State.Warmed39.refl s, rfl⟩ trivial
  refine ⟨n, _, h1, h2, h3, hpost _ _ _ _ _ _ ⟨Cond.after_iff.mpr rfl, Cond.after_iff.mpr (eq_i res_at (Term.int_eval (1)) rfl), trivial⟩ ⟨hq.1, hq.2.1, (hq.2.2.sift fun y hy => Or.inr (N y hy)).mono (by decide) (by decide)⟩⟩
theorem main_1_1 : Claimed_1_1 := comes_1 fun _ _ _ _ _ _ h hF => ⟨h.1, hF⟩
theorem main_1_2 : Claimed_1_2 := comes_1 fun _ _ _ _ _ _ h hF => ⟨h.2.1, hF⟩
end Jvm.Pilot.@@N@@
namespace Jvm.Pilot.@@N@@
open Jvm Jvm.ClassFile Sem Op Lib Jvm.Free Jvm.Stand Jvm.Pilot.@@N@@.Jvm.D
/-! MADE BY PROGRAM (witnessworld.py) out of the Statement's table words and the real class files: 10 classes; the members and pool entries that the words name. The judged class is class 1, her method 1. -/
namespace start1
open Jvm.ClassFile
def u (s : String) : CpInfo := .utf8 (stringToUtf16 s)
/-- a pool by its gaps: so many unusable entries, then the entry; so many at the end -/
def gap : Nat → List CpInfo → List CpInfo
  | 0, r => r
  | n + 1, r => .unusable :: gap n r
def poolList (es : List (Nat × CpInfo)) (last : Nat) : List CpInfo := es.foldr (fun e r => gap e.1 (e.2 :: r)) (gap last [])
def pool (es : List (Nat × CpInfo)) (last : Nat) : Array CpInfo := ⟨poolList es last⟩
def fileOf (pool : Array CpInfo) (this : Nat) (attrs : Array Attribute := #[]) (ms : Array MethodInfo := #[]) (fl : Nat := 33) (sup : Nat := 0) (ifs : Array Nat := #[]) (fds : Array FieldInfo := #[]) : ClassFile where
  minorVersion := 0
  majorVersion := 65
  constantPool := pool
  accessFlags := fl
  thisClass := this
  superClass := sup
  interfaces := ifs
  fields := fds
  methods := ms
  attributes := attrs
def plain (name : String) (sup : Option ClassId) : Class where
  name := name
  kind := .ordinary
  loader := none
  accessFlags := 33
  super := sup
  interfaces := #[]
  cf := none
  fields := #[]
  methods := #[]
  instanceTypes := #[]
  staticTypes := #[]
  resolved := #[]
  callSites := []
  init := .initialized
  statics := none
  mirror := none

def pool0 : Array CpInfo := pool [(5, u "<init>"), (0, u "()V"), (1, .class_ 10), (1, u "java/lang/Object")] 113

def k0c0 : Code := { maxStack := 0, maxLocals := 1, code := object_method_1_code, exceptionTable := #[], attributes := #[] }
def k0m0 : Method := { name := "<init>", desc := "()V", sig := { parameters := [], returnType := none }, accessFlags := 1, code := some k0c0 }
/-- java/lang/Object -/
def k0 : Class := { plain "java/lang/Object" none with
  accessFlags := 33
  interfaces := #[]
  cf := some (fileOf pool0 8 #[] #[{ accessFlags := 1, nameIndex := 5, descriptorIndex := 6, attributes := #[] }] 33 0 #[] #[])
  fields := #[]
  methods := #[k0m0]
  instanceTypes := #[]
  staticTypes := #[]
  resolved := Array.replicate 124 none
  statics := none }

def pool1 : Array CpInfo := pool [(2, .class_ 4), (1, u "java/lang/Object"), (0, u "<init>"), (0, u "()V"), (0, .class_ 8), (0, u "com/example/astraea/astraea/DayHours"), (0, .methodref 7 10), (0, .nameAndType 5 11), (0, u "(II)V"), (0, .methodref 7 13), (0, .nameAndType 14 15), (0, u "contains"), (0, u "(I)Z"), (0, .class_ 17), (0, u "com/example/astraea/astraea/DayHoursContainsPinLaw"), (2, u "law"), (0, u "(III)Z")] 3

def k1m0 : Method := { name := "<init>", desc := "()V", sig := { parameters := [], returnType := none }, accessFlags := 1, code := none }
def k1c1 : Code := { maxStack := 4, maxLocals := 10, code := code, exceptionTable := #[], attributes := #[] }
def k1m1 : Method := { name := "law", desc := "(III)Z", sig := { parameters := [.int, .int, .int], returnType := some .boolean }, accessFlags := 9, code := some k1c1 }
/-- com/example/astraea/astraea/DayHoursContainsPinLaw -/
def k1 : Class := { plain "com/example/astraea/astraea/DayHoursContainsPinLaw" (some 0) with
  accessFlags := 49
  interfaces := #[]
  cf := some (fileOf pool1 16 #[] #[{ accessFlags := 1, nameIndex := 5, descriptorIndex := 6, attributes := #[] }, { accessFlags := 9, nameIndex := 20, descriptorIndex := 21, attributes := #[] }] 49 2 #[] #[])
  fields := #[]
  methods := #[k1m0, k1m1]
  instanceTypes := #[]
  staticTypes := #[]
  resolved := Array.replicate 25 none
  statics := none }

def pool2 : Array CpInfo := pool [(1, .methodref 2 3), (0, .class_ 4), (0, .nameAndType 5 6), (0, u "java/lang/Object"), (0, u "<init>"), (0, u "()V"), (0, .class_ 8), (0, u "java/lang/Record")] 13

def k2c0 : Code := { maxStack := 1, maxLocals := 1, code := jdk_30_method_1_code, exceptionTable := #[], attributes := #[] }
def k2m0 : Method := { name := "<init>", desc := "()V", sig := { parameters := [], returnType := none }, accessFlags := 4, code := some k2c0 }
/-- java/lang/Record -/
def k2 : Class := { plain "java/lang/Record" (some 0) with
  accessFlags := 1057
  interfaces := #[]
  cf := some (fileOf pool2 7 #[] #[{ accessFlags := 4, nameIndex := 5, descriptorIndex := 6, attributes := #[] }] 1057 2 #[] #[])
  fields := #[]
  methods := #[k2m0]
  instanceTypes := #[]
  staticTypes := #[]
  resolved := Array.replicate 22 none
  statics := none }

def pool3 : Array CpInfo := pool [(1, .methodref 2 3), (0, .class_ 4), (0, .nameAndType 5 6), (0, u "java/lang/Record"), (0, u "<init>"), (0, u "()V"), (0, .class_ 8), (0, u "com/example/astraea/astraea/DayHours"), (9, .fieldref 7 19), (0, .nameAndType 20 21), (0, u "from"), (0, u "I"), (0, .fieldref 7 23), (0, .nameAndType 24 21), (0, u "to"), (2, u "WRITTEN"), (0, u "Ljava/util/regex/Pattern;"), (33, u "(II)V"), (46, u "DAY"), (8, u "contains"), (0, u "(I)Z")] 42

def k3c0 : Code := { maxStack := 4, maxLocals := 3, code := prog_17_method_1_code, exceptionTable := #[], attributes := #[] }
def k3m0 : Method := { name := "<init>", desc := "(II)V", sig := { parameters := [.int, .int], returnType := none }, accessFlags := 1, code := some k3c0 }
def k3c1 : Code := { maxStack := 2, maxLocals := 2, code := prog_17_method_3_code, exceptionTable := #[], attributes := #[] }
def k3m1 : Method := { name := "contains", desc := "(I)Z", sig := { parameters := [.int], returnType := some .boolean }, accessFlags := 1, code := some k3c1 }
/-- com/example/astraea/astraea/DayHours -/
def k3 : Class := { plain "com/example/astraea/astraea/DayHours" (some 2) with
  accessFlags := 49
  interfaces := #[]
  cf := some (fileOf pool3 7 #[] #[{ accessFlags := 1, nameIndex := 5, descriptorIndex := 62, attributes := #[] }, { accessFlags := 1, nameIndex := 118, descriptorIndex := 119, attributes := #[] }] 49 2 #[] #[{ accessFlags := 18, nameIndex := 20, descriptorIndex := 21, attributes := #[] }, { accessFlags := 18, nameIndex := 24, descriptorIndex := 21, attributes := #[] }, { accessFlags := 26, nameIndex := 109, descriptorIndex := 21, attributes := #[] }, { accessFlags := 26, nameIndex := 27, descriptorIndex := 28, attributes := #[] }])
  fields := #[{ name := "from", type := .int, accessFlags := 18, slot := 0, constantValue := 0 }, { name := "to", type := .int, accessFlags := 18, slot := 1, constantValue := 0 }, { name := "DAY", type := .int, accessFlags := 26, slot := 0, constantValue := 0 }, { name := "WRITTEN", type := (.object "java/util/regex/Pattern"), accessFlags := 26, slot := 1, constantValue := 0 }]
  methods := #[k3m0, k3m1]
  instanceTypes := #[.int, .int]
  staticTypes := #[.int, (.object "java/util/regex/Pattern")]
  resolved := Array.replicate 162 none
  statics := none }

def pool4 : Array CpInfo := pool [(1, u "java/lang/Cloneable"), (0, .class_ 1), (0, u "java/lang/Object"), (0, .class_ 3)] 3

/-- java/lang/Cloneable -/
def k4 : Class := { plain "java/lang/Cloneable" (some 0) with
  accessFlags := 1537
  interfaces := #[]
  cf := some (fileOf pool4 2 #[] #[] 1537 4 #[] #[])
  fields := #[]
  methods := #[]
  instanceTypes := #[]
  staticTypes := #[]
  resolved := Array.replicate 8 none
  statics := none }

def pool5 : Array CpInfo := pool [(1, u "java/io/Serializable"), (0, .class_ 1), (0, u "java/lang/Object"), (0, .class_ 3)] 3

/-- java/io/Serializable -/
def k5 : Class := { plain "java/io/Serializable" (some 0) with
  accessFlags := 1537
  interfaces := #[]
  cf := some (fileOf pool5 2 #[] #[] 1537 4 #[] #[])
  fields := #[]
  methods := #[]
  instanceTypes := #[]
  staticTypes := #[]
  resolved := Array.replicate 8 none
  statics := none }

/-- the primitive byte -/
def k6 : Class := { plain "byte" none with kind := .primitive 'B', accessFlags := 0x411 }
/-- [B -/
def k7 : Class := { plain "[B" (some 0) with kind := .array 6 .byte, interfaces := #[4, 5], accessFlags := 1041 }

/-- the primitive int -/
def k8 : Class := { plain "int" none with kind := .primitive 'I', accessFlags := 0x411 }
/-- [I -/
def k9 : Class := { plain "[I" (some 0) with kind := .array 8 .int, interfaces := #[4, 5], accessFlags := 1041 }

def heap : Heap := #[]
def classes : Array Class := #[k0, k1, k2, k3, k4, k5, k6, k7, k8, k9]
def interned : List (Array UInt16 × Addr) := []
def slotsUsed : Nat := 0
def theMethod : MethodId := ⟨1, 1⟩
def args0 : Array Value := #[.int 5, .int 300, .int 7]
def aboutOver (below : List Frame) : State where
  vm := { classes := classes, interned := interned.toArray }
  heap := heap
  slotsUsed := slotsUsed
  threads := #[{ frames := .invoking theMethod args0 :: below }]
def below0 : List Frame := [.native { method := ⟨0, 0⟩, args := #[] }]
def about1 : State := aboutOver below0
def p0 : Program := .bare "" "" ""
def e0 : Env := launch0.env 0 0 0
theorem w_frames : about1.frames = Frame.invoking theMethod args0 :: below0 := rfl
set_option maxRecDepth 65536 in
theorem w_args : argsFit about1.vm theMethod args0 = true := by decide +kernel
set_option maxRecDepth 65536 in
theorem w_heap : heapFits about1 = true := by decide +kernel
set_option maxRecDepth 65536 in
theorem w_runnable : about1.curStatus? = some .runnable := by decide +kernel
set_option maxRecDepth 65536 in
theorem w_alone : about1.alone = true := by decide +kernel
set_option maxRecDepth 65536 in
theorem w_named : about1.methodNamed? x = some theMethod := by decide +kernel
set_option maxRecDepth 65536 in
theorem w_hears : about1.hears theMethod below0 = true := by decide +kernel
set_option maxRecDepth 65536 in
theorem w_ripe : about1.ripe theMethod args0 below0 = true := by decide +kernel
theorem w_running : about1.status = .running := rfl
set_option maxRecDepth 65536 in
theorem w_room : about1.hasRoom e0.platform room_1 = true :=
  launch0.hasRoom_least _ room_1 (by decide +kernel) (by decide +kernel) (by decide +kernel) (by decide +kernel) (by decide +kernel) (by decide +kernel)
theorem allAtoms_all (ts : List Jvm.Cond) (a : Array Jvm.Value) (st : Jvm.State) : (allAtoms ts).before a st = ts.all (fun c => c.before a st) := by
  induction ts with
  | nil => rfl
  | cons c t ih =>
    show (Jvm.Cond.and c (allAtoms t)).before a st = _
    rw [Jvm.Cond.before_and, ih, List.all_cons]
def words1 : List Jvm.Cond := Jvm.Cond.code x code maxLocals ret :: tables_1
/-- a 'code' word, met by the world's own term for the bytes: nothing is compared byte by byte -/
theorem code_word {y : MethodName} {bytes : ByteArray} {mx : Nat} {rt : Option FieldType} {a : Array Value} {s : State} {m : MethodId} {meth : Method} {c : Code} (h1 : s.methodNamed? y = some m) (h2 : s.vm.method? m = some meth) (h3 : meth.code = some c) (h4 : c.code = bytes)
    (h5 : (c.maxLocals == mx && c.exceptionTable.isEmpty && decide (c.maxStack ≤ mostOperands) && decide (meth.sig.returnType = rt) && !meth.locks && decide (parseMethodDescriptor y.desc = some meth.sig)) = true) : (Jvm.Cond.code y bytes mx rt).before a s = true := by
  simp only [Bool.and_eq_true, beq_iff_eq, Bool.not_eq_true', decide_eq_true_eq] at h5
  obtain ⟨⟨⟨⟨⟨g1, g2⟩, g3⟩, g4⟩, g5⟩, g6⟩ := h5
  simp [Cond.before, Cond.holds, Cond.value, h1, h2, h3, h4, g1, g2, g3, g4, g5, g6]
def isCode : Jvm.Cond → Bool
  | .code _ _ _ _ => true
  | _ => false
theorem all_split {L : List Jvm.Cond} {P : Jvm.Cond → Bool} (h1 : L.all (fun c => isCode c || P c) = true) (h2 : ∀ c ∈ L.filter isCode, P c = true) : L.all P = true := by
  refine List.all_eq_true.mpr fun c hc => ?_
  have h := List.all_eq_true.mp h1 c hc
  rcases Bool.eq_false_or_eq_true (isCode c) with hi | hi
  · exact h2 c (List.mem_filter.mpr ⟨hc, hi⟩)
  · simpa [hi] using h
set_option maxRecDepth 65536 in
theorem w_c0 : (Jvm.Cond.code x code maxLocals ret).before args0 about1 = true := code_word (m := ⟨1, 1⟩) (meth := k1m1) (c := k1c1) (by decide +kernel) rfl rfl rfl (by decide +kernel)
set_option maxRecDepth 65536 in
theorem w_c1 : (Jvm.Cond.code ({ cls := "com/example/astraea/astraea/DayHours", name := "<init>", desc := "(II)V" } : Jvm.MethodName) prog_17_method_1_code (3 : Nat) (Option.none : Option Jvm.ClassFile.FieldType)).before args0 about1 = true := code_word (m := ⟨3, 0⟩) (meth := k3m0) (c := k3c0) (by decide +kernel) rfl rfl rfl (by decide +kernel)
set_option maxRecDepth 65536 in
theorem w_c2 : (Jvm.Cond.code ({ cls := "java/lang/Record", name := "<init>", desc := "()V" } : Jvm.MethodName) jdk_30_method_1_code (1 : Nat) (Option.none : Option Jvm.ClassFile.FieldType)).before args0 about1 = true := code_word (m := ⟨2, 0⟩) (meth := k2m0) (c := k2c0) (by decide +kernel) rfl rfl rfl (by decide +kernel)
set_option maxRecDepth 65536 in
theorem w_c3 : (Jvm.Cond.code ({ cls := "java/lang/Object", name := "<init>", desc := "()V" } : Jvm.MethodName) object_method_1_code (1 : Nat) (Option.none : Option Jvm.ClassFile.FieldType)).before args0 about1 = true := code_word (m := ⟨0, 0⟩) (meth := k0m0) (c := k0c0) (by decide +kernel) rfl rfl rfl (by decide +kernel)
set_option maxRecDepth 65536 in
theorem w_c4 : (Jvm.Cond.code ({ cls := "com/example/astraea/astraea/DayHours", name := "contains", desc := "(I)Z" } : Jvm.MethodName) prog_17_method_3_code (2 : Nat) (Option.some Jvm.ClassFile.FieldType.boolean)).before args0 about1 = true := code_word (m := ⟨3, 1⟩) (meth := k3m1) (c := k3c1) (by decide +kernel) rfl rfl rfl (by decide +kernel)
def codes1 : List Jvm.Cond := [Jvm.Cond.code x code maxLocals ret, Jvm.Cond.code ({ cls := "com/example/astraea/astraea/DayHours", name := "<init>", desc := "(II)V" } : Jvm.MethodName) prog_17_method_1_code (3 : Nat) (Option.none : Option Jvm.ClassFile.FieldType), Jvm.Cond.code ({ cls := "java/lang/Record", name := "<init>", desc := "()V" } : Jvm.MethodName) jdk_30_method_1_code (1 : Nat) (Option.none : Option Jvm.ClassFile.FieldType), Jvm.Cond.code ({ cls := "java/lang/Object", name := "<init>", desc := "()V" } : Jvm.MethodName) object_method_1_code (1 : Nat) (Option.none : Option Jvm.ClassFile.FieldType), Jvm.Cond.code ({ cls := "com/example/astraea/astraea/DayHours", name := "contains", desc := "(I)Z" } : Jvm.MethodName) prog_17_method_3_code (2 : Nat) (Option.some Jvm.ClassFile.FieldType.boolean)]
set_option maxRecDepth 65536 in
theorem codes_eq : words1.filter isCode = codes1 := rfl
theorem w_codes : ∀ c ∈ words1.filter isCode, c.before args0 about1 = true := by
  rw [codes_eq]
  intro c hc
  simp only [codes1, List.mem_cons, List.not_mem_nil, or_false] at hc
  rcases hc with rfl | rfl | rfl | rfl | rfl
  · exact w_c0
  · exact w_c1
  · exact w_c2
  · exact w_c3
  · exact w_c4
set_option maxRecDepth 65536 in
theorem w_t1 : words1.all (fun c => isCode c || c.before args0 about1) = true := by decide +kernel
theorem w_tables : (allAtoms (Jvm.Cond.code x code maxLocals ret :: tables_1)).before args0 about1 = true := by
  rw [allAtoms_all]
  show words1.all (fun c => c.before args0 about1) = true
  refine all_split ?_ w_codes
  rw [w_t1]
set_option maxRecDepth 65536 in
theorem w_case : (Jvm.Cond.and given_1 narrow_1).before args0 about1 = true := by decide +kernel
theorem w_applies : (headSpec (Jvm.Cond.code x code maxLocals ret :: tables_1) room_1).applies x e0.platform about1 = true :=
  (Spec.applies_iff w_frames).mpr ⟨w_running, w_runnable, w_alone, w_named, w_hears, w_ripe, w_room, w_tables⟩
theorem atStart : AtStart classFile x code maxLocals ret World_1 tables_1 room_1 Calls_1 rest_1 Pre_1 launch0 p0 e0 about1 theMethod args0 below0 :=
  ⟨lists_1, trivial, launch0.admits_env _ _ _, launch0.least_env, fairChoices_fair.cas, fairChoices_fair.clock, w_frames, w_args, w_heap, w_applies, trivial, trivial, w_case⟩
end start1
theorem witness_1 : WitnessClaimed_1 := ⟨start1.p0, start1.e0, start1.about1, start1.theMethod, start1.args0, start1.below0, start1.atStart⟩
end Jvm.Pilot.@@N@@
