import JvmDerived
import JvmDerived.Pilot.@@N@@Statement
import JvmDerived.Pilot.@@N@@Code
set_option linter.unusedVariables false
set_option linter.unusedSimpArgs false
namespace Jvm.Pilot.@@N@@
open Jvm Jvm.ClassFile Sem Op Lib Jvm.Free Jvm.Stand Jvm.LawKit Jvm.RoadKit Bundle Jvm.Pilot.@@N@@.Jvm.D
section OwnKit
variable {p : Program} {l : Launch} {e : Env} {R : Room} {s : State} {m : MethodId} {args : Array Value} {below : List Frame} {meth : Method} {c : Code} {T : State} {locs : List Loc} {cells slots : Nat}
/-- from here the run comes to a state of which K holds -/
def Go (tb : Tables) (e : Env) (below : List Frame) (K : State → Prop) (T : State) : Prop := ∃ U, Steps tb e below T U ∧ K U
theorem Go.st {tb : Tables} {K : State → Prop} {T T' : State} (h : ∀ U, Steps tb e below T' U → Steps tb e below T U) (g : Go tb e below K T') : Go tb e below K T := by
  obtain ⟨U, h1, h2⟩ := g; exact ⟨U, h U h1, h2⟩
theorem Go.tr {tb : Tables} {K : State → Prop} {T T' : State} (h : Steps tb e below T T') (g : Go tb e below K T') : Go tb e below K T := by
  obtain ⟨U, h1, h2⟩ := g; exact ⟨U, h.trans h1, h2⟩
/-- where a body may end -/
def own_Fin (s : State) (below : List Frame) (CC SS : Nat) (Q : Option Value → Heap → List Loc → Prop) (U : State) : Prop :=
  ∃ o, U.status = .running ∧ Ended U below o ∧ ∃ v L, o = .returned v ∧ Q v U.heap L ∧ FrameEnd s o U L CC SS
theorem own_start {tb : Tables} {CC SS : Nat} {Q : Option Value → Heap → List Loc → Prop} {T : State} (g : Go tb e below (own_Fin s below CC SS Q) T) :
    ∃ s₂ o, Steps tb e below T s₂ ∧ s₂.status = .running ∧ Ended s₂ below o ∧ ∃ v L, o = .returned v ∧ Q v s₂.heap L ∧ FrameEnd s o s₂ L CC SS := by
  obtain ⟨U, h1, o, h2, h3, h4⟩ := g; exact ⟨U, o, h1, h2, h3, h4⟩
theorem own_cast {tb : Tables} {K : State → Prop} {f f' : JFrame} (q : f = f') (g : Go tb e below K (T.setTop f')) : Go tb e below K (T.setTop f) := q ▸ g
section Ends
variable {CC SS : Nat} {Q : Option Value → Heap → List Loc → Prop}
theorem own_end (X : Stand p l e R s m args below meth c T locs cells slots) (hlocks : meth.locks = false) {v : Option Value} (hv : meth.sig.returnType = none → v = none) {f : JFrame}
    (k : ∀ fs, (∀ (f : JFrame) (acts : List Action), f.method = m → f.locked = none → f.entered = [] → (doReturn e (T.setTop f) acts v).1 = T.setFrames fs) → Steps p.tables e below (T.setTop f) (T.setFrames fs))
    (hq : Q v T.heap locs) (hc : cells ≤ CC) (hs : slots ≤ SS) : Go p.tables e below (own_Fin s below CC SS Q) (T.setTop f) := by
  obtain ⟨fs, hr, hrun, hended, hW, hsame⟩ := X.leave (v := v) hv hlocks
  exact ⟨_, k fs hr, _, hrun, hended, _, _, rfl, hq, ⟨_, rfl⟩, hW, hsame.mono hc hs⟩
theorem own_ret0 (X : Stand p l e R s m args below meth c T locs cells slots) (hx : p.tables.exec = Jvm.exec) (hlocks : meth.locks = false) {pc : Nat} {Ls : Array Slot} (hret : meth.sig.returnType = none) (hd : decode c.code pc = .ok (.return_, 1))
    (hq : Q none T.heap locs) (hc : cells ≤ CC) (hs : slots ≤ SS) : Go p.tables e below (own_Fin s below CC SS Q) (T.setTop (mkF m pc Ls [])) :=
  own_end X hlocks (fun _ => rfl) (fun _ hr => X.returnOut hx hret hd hr) hq hc hs
theorem own_retN (X : Stand p l e R s m args below meth c T locs cells slots) (hx : p.tables.exec = Jvm.exec) (hlocks : meth.locks = false) {pc : Nat} {Ls : Array Slot} {z : Int32} {t : FieldType} {rest : List Value} (hret : meth.sig.returnType = some t) (ht : t = .boolean ∨ t = .byte ∨ t = .char ∨ t = .short) (hd : decode c.code pc = .ok (.ireturn, 1))
    (hq : Q (some (.int (nar t z))) T.heap locs) (hc : cells ≤ CC) (hs : slots ≤ SS) : Go p.tables e below (own_Fin s below CC SS Q) (T.setTop (mkF m pc Ls (.int z :: rest))) :=
  own_end X hlocks (fun h => by rw [hret] at h; cases h) (fun _ hr => retN X hx hret ht hd hr) hq hc hs
theorem own_retO (X : Stand p l e R s m args below meth c T locs cells slots) (hx : p.tables.exec = Jvm.exec) (hlocks : meth.locks = false) {pc : Nat} {Ls : Array Slot} {w : Value} {t : FieldType} {i : Instr} {rest : List Value} (hret : meth.sig.returnType = some t) (hn : narrow t w = w)
    (hi : (i = .ireturn ∧ (t = .int ∨ t = .boolean ∨ t = .byte ∨ t = .char ∨ t = .short) ∧ ∃ z, w = .int z) ∨ (i = .lreturn ∧ t = .long ∧ ∃ z, w = .long z) ∨ (i = .dreturn ∧ t = .double ∧ ∃ z, w = .double z) ∨ (i = .freturn ∧ t = .float ∧ ∃ z, w = .float z) ∨ (i = .areturn ∧ t.isReference = true ∧ w.isRef = true))
    (hd : decode c.code pc = .ok (i, 1)) (hq : Q (some w) T.heap locs) (hc : cells ≤ CC) (hs : slots ≤ SS) : Go p.tables e below (own_Fin s below CC SS Q) (T.setTop (mkF m pc Ls (w :: rest))) :=
  own_end X hlocks (fun h => by rw [hret] at h; cases h) (fun _ hr => retOut X hx hret hn hi hd hr) hq hc hs
end Ends
end OwnKit
def own_enc (t : Int64) (m s : Int32) : Int64 := (((t <<< ((22 : Int32) &&& 0x3f).toInt64) ||| ((m.toInt64) <<< ((12 : Int32) &&& 0x3f).toInt64)) ||| (s.toInt64))
theorem own_enc_val (t : Int64) (m s : Int32) (ht : 0 ≤ t.toInt ∧ t.toInt < 2199023255552) (hm : 0 ≤ m.toInt ∧ m.toInt < 1024) (hs : 0 ≤ s.toInt ∧ s.toInt < 4096) : (own_enc t m s).toInt = t.toInt * 4194304 + m.toInt * 4096 + s.toInt := by
  unfold own_enc
  have h1 := c_lshl t 22 22 (by decide)
  have h2 := c_lshl m.toInt64 12 12 (by decide)
  have r1 := rng64 (t <<< ((22 : Int32) &&& 0x3f).toInt64)
  have r2 := rng64 (m.toInt64 <<< ((12 : Int32) &&& 0x3f).toInt64)
  rw [c_i2l] at h2
  have e3 := c_i2l s
  generalize t <<< ((22 : Int32) &&& 0x3f).toInt64 = A at *
  generalize m.toInt64 <<< ((12 : Int32) &&& 0x3f).toInt64 = B at *
  generalize s.toInt64 = E at *
  have p1 : ((2 ^ 22 : Nat) : Int) = 4194304 := by decide
  have p2 : ((2 ^ 12 : Nat) : Int) = 4096 := by decide
  rw [p1] at h1; rw [p2] at h2
  have a1 : A.toInt = t.toInt * 4194304 := by omega
  have b1 : B.toInt = m.toInt * 4096 := by omega
  have o1 := c_orL A B 22 (by decide) 4194304 (by decide) (by omega) (by omega) (by omega)
  have s1 := rng64 (A ||| B)
  generalize A ||| B = F at *
  have f1 : F.toInt = t.toInt * 4194304 + m.toInt * 4096 := by omega
  have o2 := c_orL F E 12 (by decide) 4096 (by decide) (by omega) (by omega) (by omega)
  have s2 := rng64 (F ||| E)
  omega
theorem own_exp_val (t : Int64) (m s : Int32) (ht : 0 ≤ t.toInt ∧ t.toInt < 2199023255552) (hm : 0 ≤ m.toInt ∧ m.toInt < 1024) (hs : 0 ≤ s.toInt ∧ s.toInt < 4096) : (((t * (4194304 : Int64)) + ((m.toInt64) * (4096 : Int64))) + (s.toInt64)).toInt = t.toInt * 4194304 + m.toInt * 4096 + s.toInt := by
  have h1 := c_lmul t (4194304 : Int64)
  have h2 := c_lmul m.toInt64 (4096 : Int64)
  rw [c_i2l] at h2
  rw [show (4194304 : Int64).toInt = 4194304 from by decide] at h1
  rw [show (4096 : Int64).toInt = 4096 from by decide] at h2
  have e3 := c_i2l s
  generalize t * (4194304 : Int64) = A at *
  generalize m.toInt64 * (4096 : Int64) = B at *
  generalize s.toInt64 = E at *
  have r1 := rng64 A
  have r2 := rng64 B
  have h3 := c_ladd A B
  have r3 := rng64 (A + B)
  have h4 := c_ladd (A + B) E
  have r4 := rng64 ((A + B) + E)
  generalize A + B = F at *
  generalize F + E = G at *
  omega
theorem own_d1 (i t : Int64) (T M S : Int) (hi : i.toInt = T * 4194304 + M * 4096 + S) (ht : t.toInt = T) (h0 : 0 ≤ T) (hm : 0 ≤ M ∧ M < 1024) (hs : 0 ≤ S ∧ S < 4096) : (i / (4194304 : Int64)) = t := by
  apply Int64.toInt_inj.mp
  have := (c_ldiv i 4194304 4194304 (by decide) (by decide)).1 (by omega)
  omega
theorem own_d2 (i : Int64) (m : Int32) (T M S : Int) (hi : i.toInt = T * 4194304 + M * 4096 + S) (ht : m.toInt = M) (h0 : 0 ≤ T) (hm : 0 ≤ M ∧ M < 1024) (hs : 0 ≤ S ∧ S < 4096) : ((i / (4096 : Int64)) - ((i / (4096 : Int64)) / (1024 : Int64)) * (1024 : Int64)) = m.toInt64 := by
  apply Int64.toInt_inj.mp
  have h1 := (c_ldiv i 4096 4096 (by decide) (by decide)).1 (by omega)
  have h2 := (c_lrem (i / (4096 : Int64)) 1024 1024 (by decide)).1 (by omega)
  have := c_i2l m
  omega
theorem own_d3 (i : Int64) (s : Int32) (T M S : Int) (hi : i.toInt = T * 4194304 + M * 4096 + S) (ht : s.toInt = S) (h0 : 0 ≤ T) (hm : 0 ≤ M ∧ M < 1024) (hs : 0 ≤ S ∧ S < 4096) : (i - (i / (4096 : Int64)) * (4096 : Int64)) = s.toInt64 := by
  apply Int64.toInt_inj.mp
  have h2 := (c_lrem i 4096 4096 (by decide)).1 (by omega)
  have := c_i2l s
  omega

theorem d1_0 : decode prog_19_method_4_code 0 = .ok (.lload_n 0, 1) := by decide +kernel
theorem d1_1 : decode prog_19_method_4_code 1 = .ok (.bipush 22, 2) := by decide +kernel
theorem d1_3 : decode prog_19_method_4_code 3 = .ok (.lshl, 1) := by decide +kernel
theorem d1_4 : decode prog_19_method_4_code 4 = .ok (.iload_n 2, 1) := by decide +kernel
theorem d1_5 : decode prog_19_method_4_code 5 = .ok (.i2l, 1) := by decide +kernel
theorem d1_6 : decode prog_19_method_4_code 6 = .ok (.bipush 12, 2) := by decide +kernel
theorem d1_8 : decode prog_19_method_4_code 8 = .ok (.lshl, 1) := by decide +kernel
theorem d1_9 : decode prog_19_method_4_code 9 = .ok (.lor, 1) := by decide +kernel
theorem d1_10 : decode prog_19_method_4_code 10 = .ok (.iload_n 3, 1) := by decide +kernel
theorem d1_11 : decode prog_19_method_4_code 11 = .ok (.i2l, 1) := by decide +kernel
theorem d1_12 : decode prog_19_method_4_code 12 = .ok (.lor, 1) := by decide +kernel
theorem d1_13 : decode prog_19_method_4_code 13 = .ok (.lreturn, 1) := by decide +kernel
theorem pn_1 : plainFor (⟨"com/example/leasehold/leasehold/SnowflakeId", "encode", "(JII)J"⟩ : MethodName) = true := plainFor_of_name (by first | (simp [plainName, overriddenIn]; done) | decide +kernel)
theorem ef_1 (m : MethodId) (x0 : Int64) (x1 : Int32) (x2 : Int32) : entryFrame m #[(.long x0), (.int x1), (.int x2)] 4 = mkF m 0 #[.val (.long x0), .second, .val (.int x1), .val (.int x2)] [] := by first | (simp [entryFrame, mkF, argsToLocals, Value.category]; done) | rfl
def Q1 (Z : State) (q1 : Int64) (p2 : Int32) (p3 : Int32)  (h0 : Heap) (n0 : Nat) (v : Option Value) (h : Heap) (L : List Loc) : Prop := v = some (.long (own_enc q1 p2 p3)) ∧ Fr n0 L ∧ h = h0
set_option maxRecDepth 65536 in
set_option maxHeartbeats 40000000 in
theorem rm1 (l : Launch) (Z : State) (a0 : Array Value) (hw : ∀ d ∈ tables_1, d.before a0 Z = true) (ws : List Jvm.Cond) (q1 : Int64) (p2 : Int32) (p3 : Int32)  (h0 : Heap) (n0 : Nat) (Z0 : n0 ≤ h0.size) :
    MetFree l (⟨"com/example/leasehold/leasehold/SnowflakeId", "encode", "(JII)J"⟩ : MethodName) (head1 (Jvm.Cond.code (⟨"com/example/leasehold/leasehold/SnowflakeId", "encode", "(JII)J"⟩ : MethodName) prog_19_method_4_code 4 (some .long) :: ws) ({ frames := 0, cells := 0, slots := 0, locals := 0 } : Room)) (fun a U => a = #[(.long q1), (.int p2), (.int p3)] ∧ Z.Warmed39 U.vm ∧ U.heap = h0) (fun _ _ _ _ _ => True) (fun _ U o U' => ∃ v L, o = .returned v ∧ Q1 Z q1 p2 p3 h0 n0 v U'.heap L ∧ FrameEnd U o U' L ({ frames := 0, cells := 0, slots := 0, locals := 0 } : Room).cells ({ frames := 0, cells := 0, slots := 0, locals := 0 } : Room).slots) := by
  refine MetFree.of_bodySF pn_1 hisR ?_
  intro p e s m args below meth c s₁ Bd hml0 hP hK
  obtain ⟨rfl, hZ, hh⟩ := hP
  have hx := Bd.exec
  have hby := Bd.bytes
  have hml : c.maxLocals = 4 := hml0
  have hown : s.vm.findClass "com/example/leasehold/leasehold/SnowflakeId" = some m.cls := findClass_of_methodNamed Bd.named
  have hnm := (name_of_methodNamed Bd.named Bd.method).1
  have X0 : Stand p l e ({ frames := 0, cells := 0, slots := 0, locals := 0 } : Room) s m #[(.long q1), (.int p2), (.int p3)] below meth c s₁ [] 0 0 := Stand.of_body Bd
  have e0 : s₁.heap = h0 := by rw [← hh, Bd.state]; rfl
  have N0 := Fr.nil n0
  refine own_start (Q := Q1 Z q1 p2 p3 h0 n0) (own_cast (ef_1 m q1 p2 p3) ?_)
  show Go p.tables e below _ (s₁.setTop (mkF m 0 #[.val (.long q1), .second, .val (.int p2), .val (.int p3)] []))
  refine Go.st (fun U hr => XS.lloadN X0.here hx rfl (hb hby d1_0) rfl hr) ?_
  show Go p.tables e below _ (s₁.setTop (mkF m 1 #[.val (.long q1), .second, .val (.int p2), .val (.int p3)] [(.long q1)]))
  refine Go.st (fun U hr => XS.bipush X0.here hx rfl (hb hby d1_1) hr) ?_
  show Go p.tables e below _ (s₁.setTop (mkF m 3 #[.val (.long q1), .second, .val (.int p2), .val (.int p3)] [(.int (22 : Int32)), (.long q1)]))
  refine Go.st (fun U hr => XS.lshl X0.here hx rfl (hb hby d1_3) rfl hr) ?_
  show Go p.tables e below _ (s₁.setTop (mkF m 4 #[.val (.long q1), .second, .val (.int p2), .val (.int p3)] [(.long (q1 <<< ((22 : Int32) &&& 0x3f).toInt64))]))
  refine Go.st (fun U hr => XS.iloadN X0.here hx rfl (hb hby d1_4) rfl hr) ?_
  show Go p.tables e below _ (s₁.setTop (mkF m 5 #[.val (.long q1), .second, .val (.int p2), .val (.int p3)] [(.int p2), (.long (q1 <<< ((22 : Int32) &&& 0x3f).toInt64))]))
  refine Go.st (fun U hr => XS.i2l X0.here hx rfl (hb hby d1_5) rfl hr) ?_
  show Go p.tables e below _ (s₁.setTop (mkF m 6 #[.val (.long q1), .second, .val (.int p2), .val (.int p3)] [(.long (p2.toInt64)), (.long (q1 <<< ((22 : Int32) &&& 0x3f).toInt64))]))
  refine Go.st (fun U hr => XS.bipush X0.here hx rfl (hb hby d1_6) hr) ?_
  show Go p.tables e below _ (s₁.setTop (mkF m 8 #[.val (.long q1), .second, .val (.int p2), .val (.int p3)] [(.int (12 : Int32)), (.long (p2.toInt64)), (.long (q1 <<< ((22 : Int32) &&& 0x3f).toInt64))]))
  refine Go.st (fun U hr => XS.lshl X0.here hx rfl (hb hby d1_8) rfl hr) ?_
  show Go p.tables e below _ (s₁.setTop (mkF m 9 #[.val (.long q1), .second, .val (.int p2), .val (.int p3)] [(.long ((p2.toInt64) <<< ((12 : Int32) &&& 0x3f).toInt64)), (.long (q1 <<< ((22 : Int32) &&& 0x3f).toInt64))]))
  refine Go.st (fun U hr => XS.lor X0.here hx rfl (hb hby d1_9) rfl hr) ?_
  show Go p.tables e below _ (s₁.setTop (mkF m 10 #[.val (.long q1), .second, .val (.int p2), .val (.int p3)] [(.long ((q1 <<< ((22 : Int32) &&& 0x3f).toInt64) ||| ((p2.toInt64) <<< ((12 : Int32) &&& 0x3f).toInt64)))]))
  refine Go.st (fun U hr => XS.iloadN X0.here hx rfl (hb hby d1_10) rfl hr) ?_
  show Go p.tables e below _ (s₁.setTop (mkF m 11 #[.val (.long q1), .second, .val (.int p2), .val (.int p3)] [(.int p3), (.long ((q1 <<< ((22 : Int32) &&& 0x3f).toInt64) ||| ((p2.toInt64) <<< ((12 : Int32) &&& 0x3f).toInt64)))]))
  refine Go.st (fun U hr => XS.i2l X0.here hx rfl (hb hby d1_11) rfl hr) ?_
  show Go p.tables e below _ (s₁.setTop (mkF m 12 #[.val (.long q1), .second, .val (.int p2), .val (.int p3)] [(.long (p3.toInt64)), (.long ((q1 <<< ((22 : Int32) &&& 0x3f).toInt64) ||| ((p2.toInt64) <<< ((12 : Int32) &&& 0x3f).toInt64)))]))
  refine Go.st (fun U hr => XS.lor X0.here hx rfl (hb hby d1_12) rfl hr) ?_
  show Go p.tables e below _ (s₁.setTop (mkF m 13 #[.val (.long q1), .second, .val (.int p2), .val (.int p3)] [(.long (((q1 <<< ((22 : Int32) &&& 0x3f).toInt64) ||| ((p2.toInt64) <<< ((12 : Int32) &&& 0x3f).toInt64)) ||| (p3.toInt64)))]))
  exact own_retO X0 hx Bd.notSynchronized (t := .long) Bd.returns rfl (Or.inr (Or.inl ⟨rfl, rfl, _, rfl⟩)) (hb hby d1_13) ⟨rfl, N0, e0⟩ (by decide) (by decide)
theorem pn_0 : plainFor x = true := plainFor_of_name (by first | (simp [plainName, overriddenIn]; done) | decide +kernel)
theorem ef_0 (m : MethodId) (x0 : Int64) (x1 : Int32) (x2 : Int32) : entryFrame m #[(.long x0), (.int x1), (.int x2)] maxLocals = mkF m 0 #[.val (.long x0), .second, .val (.int x1), .val (.int x2), .unset, .unset, .unset, .unset, .unset, .unset, .unset, .unset] [] := by first | (simp [entryFrame, mkF, argsToLocals, Value.category, maxLocals]; done) | rfl
theorem pd_0 : parseMethodDescriptor "(JII)J" = some ⟨[.long, .int, .int], some .long⟩ := by decide +kernel
def Q0 (Z : State) (q1 : Int64) (p2 : Int32) (p3 : Int32)  (h0 : Heap) (n0 : Nat) (v : Option Value) (h : Heap) (L : List Loc) : Prop := v = some (.int 1) ∧ Fr n0 L
set_option maxRecDepth 65536 in
set_option maxHeartbeats 40000000 in
theorem rm0 (l : Launch) (Z : State) (a0 : Array Value) (hw : ∀ d ∈ tables_1, d.before a0 Z = true) (ws : List Jvm.Cond) (q1 : Int64) (p2 : Int32) (p3 : Int32)  (h0 : Heap) (n0 : Nat) (Z0 : n0 ≤ h0.size) :
    MetFree l x (head1 (Jvm.Cond.code x code maxLocals ret :: ws) room_1) (fun a U => a = #[(.long q1), (.int p2), (.int p3)] ∧ Z.Warmed39 U.vm ∧ U.heap = h0) (fun _ _ _ _ _ => True) (fun _ U o U' => ∃ v L, o = .returned v ∧ Q0 Z q1 p2 p3 h0 n0 v U'.heap L ∧ FrameEnd U o U' L room_1.cells room_1.slots) := by
  refine MetFree.of_bodySF pn_0 hisR ?_
  intro p e s m args below meth c s₁ Bd hml0 hP hK
  obtain ⟨rfl, hZ, hh⟩ := hP
  have hx := Bd.exec
  have hby := Bd.bytes
  have hml : c.maxLocals = 12 := hml0
  have hown : s.vm.findClass "com/example/leasehold/leasehold/SnowflakeIdEncodePinLaw" = some m.cls := findClass_of_methodNamed Bd.named
  have hnm := (name_of_methodNamed Bd.named Bd.method).1
  have X0 : Stand p l e room_1 s m #[(.long q1), (.int p2), (.int p3)] below meth c s₁ [] 0 0 := Stand.of_body Bd
  have e0 : s₁.heap = h0 := by rw [← hh, Bd.state]; rfl
  have N0 := Fr.nil n0
  refine own_start (Q := Q0 Z q1 p2 p3 h0 n0) (own_cast (ef_0 m q1 p2 p3) ?_)
  show Go p.tables e below _ (s₁.setTop (mkF m 0 #[.val (.long q1), .second, .val (.int p2), .val (.int p3), .unset, .unset, .unset, .unset, .unset, .unset, .unset, .unset] []))
  refine Go.st (fun U hr => XS.lloadN X0.here hx rfl (hb hby at_0) rfl hr) ?_
  show Go p.tables e below _ (s₁.setTop (mkF m 1 #[.val (.long q1), .second, .val (.int p2), .val (.int p3), .unset, .unset, .unset, .unset, .unset, .unset, .unset, .unset] [(.long q1)]))
  refine Go.st (X0.ldc2Long hx hown (mvT hZ (hw _ (List.mem_of_getElem? (i := 0) rfl))) (g := (mkF m 1 #[.val (.long q1), .second, .val (.int p2), .val (.int p3), .unset, .unset, .unset, .unset, .unset, .unset, .unset, .unset] [(.long q1)])) rfl (hb hby at_1)) ?_
  show Go p.tables e below _ (s₁.setTop (mkF m 4 #[.val (.long q1), .second, .val (.int p2), .val (.int p3), .unset, .unset, .unset, .unset, .unset, .unset, .unset, .unset] [(.long (2199023255551 : Int64)), (.long q1)]))
  refine Go.st (fun U hr => XS.land X0.here hx rfl (hb hby at_4) rfl hr) ?_
  show Go p.tables e below _ (s₁.setTop (mkF m 5 #[.val (.long q1), .second, .val (.int p2), .val (.int p3), .unset, .unset, .unset, .unset, .unset, .unset, .unset, .unset] [(.long (q1 &&& (2199023255551 : Int64)))]))
  refine Go.st (fun U hr => XS.lstore X0.here hx rfl (hb hby at_5) rfl (l' := #[.val (.long q1), .second, .val (.int p2), .val (.int p3), .val (.long (q1 &&& (2199023255551 : Int64))), .second, .unset, .unset, .unset, .unset, .unset, .unset]) rfl hr) ?_
  show Go p.tables e below _ (s₁.setTop (mkF m 7 #[.val (.long q1), .second, .val (.int p2), .val (.int p3), .val (.long (q1 &&& (2199023255551 : Int64))), .second, .unset, .unset, .unset, .unset, .unset, .unset] []))
  generalize h_tm : (q1 &&& (2199023255551 : Int64)) = tm
  have htm : 0 ≤ tm.toInt ∧ tm.toInt < 2199023255552 := by
    have := c_maskL q1 2199023255551 41 (by decide) (by decide)
    rw [h_tm, show ((2 ^ 41 : Nat) : Int) = 2199023255552 from by decide] at this; omega
  refine Go.st (fun U hr => XS.iloadN X0.here hx rfl (hb hby at_7) rfl hr) ?_
  show Go p.tables e below _ (s₁.setTop (mkF m 8 #[.val (.long q1), .second, .val (.int p2), .val (.int p3), .val (.long tm), .second, .unset, .unset, .unset, .unset, .unset, .unset] [(.int p2)]))
  refine Go.st (fun U hr => XS.sipush X0.here hx rfl (hb hby at_8) hr) ?_
  show Go p.tables e below _ (s₁.setTop (mkF m 11 #[.val (.long q1), .second, .val (.int p2), .val (.int p3), .val (.long tm), .second, .unset, .unset, .unset, .unset, .unset, .unset] [(.int (1023 : Int32)), (.int p2)]))
  refine Go.st (fun U hr => XS.iand X0.here hx rfl (hb hby at_11) rfl hr) ?_
  show Go p.tables e below _ (s₁.setTop (mkF m 12 #[.val (.long q1), .second, .val (.int p2), .val (.int p3), .val (.long tm), .second, .unset, .unset, .unset, .unset, .unset, .unset] [(.int (p2 &&& (1023 : Int32)))]))
  refine Go.st (fun U hr => XS.istore X0.here hx rfl (hb hby at_12) rfl (l' := #[.val (.long q1), .second, .val (.int p2), .val (.int p3), .val (.long tm), .second, .val (.int (p2 &&& (1023 : Int32))), .unset, .unset, .unset, .unset, .unset]) rfl hr) ?_
  show Go p.tables e below _ (s₁.setTop (mkF m 14 #[.val (.long q1), .second, .val (.int p2), .val (.int p3), .val (.long tm), .second, .val (.int (p2 &&& (1023 : Int32))), .unset, .unset, .unset, .unset, .unset] []))
  generalize h_md : (p2 &&& (1023 : Int32)) = md
  have hmd : 0 ≤ md.toInt ∧ md.toInt < 1024 := by
    have := c_mask p2 1023 10 (by decide) (by decide)
    rw [h_md, show ((2 ^ 10 : Nat) : Int) = 1024 from by decide] at this; omega
  refine Go.st (fun U hr => XS.iloadN X0.here hx rfl (hb hby at_14) rfl hr) ?_
  show Go p.tables e below _ (s₁.setTop (mkF m 15 #[.val (.long q1), .second, .val (.int p2), .val (.int p3), .val (.long tm), .second, .val (.int md), .unset, .unset, .unset, .unset, .unset] [(.int p3)]))
  refine Go.st (fun U hr => XS.sipush X0.here hx rfl (hb hby at_15) hr) ?_
  show Go p.tables e below _ (s₁.setTop (mkF m 18 #[.val (.long q1), .second, .val (.int p2), .val (.int p3), .val (.long tm), .second, .val (.int md), .unset, .unset, .unset, .unset, .unset] [(.int (4095 : Int32)), (.int p3)]))
  refine Go.st (fun U hr => XS.iand X0.here hx rfl (hb hby at_18) rfl hr) ?_
  show Go p.tables e below _ (s₁.setTop (mkF m 19 #[.val (.long q1), .second, .val (.int p2), .val (.int p3), .val (.long tm), .second, .val (.int md), .unset, .unset, .unset, .unset, .unset] [(.int (p3 &&& (4095 : Int32)))]))
  refine Go.st (fun U hr => XS.istore X0.here hx rfl (hb hby at_19) rfl (l' := #[.val (.long q1), .second, .val (.int p2), .val (.int p3), .val (.long tm), .second, .val (.int md), .val (.int (p3 &&& (4095 : Int32))), .unset, .unset, .unset, .unset]) rfl hr) ?_
  show Go p.tables e below _ (s₁.setTop (mkF m 21 #[.val (.long q1), .second, .val (.int p2), .val (.int p3), .val (.long tm), .second, .val (.int md), .val (.int (p3 &&& (4095 : Int32))), .unset, .unset, .unset, .unset] []))
  generalize h_sq : (p3 &&& (4095 : Int32)) = sq
  have hsq : 0 ≤ sq.toInt ∧ sq.toInt < 4096 := by
    have := c_mask p3 4095 12 (by decide) (by decide)
    rw [h_sq, show ((2 ^ 12 : Nat) : Int) = 4096 from by decide] at this; omega
  refine Go.st (fun U hr => XS.lload X0.here hx rfl (hb hby at_21) rfl hr) ?_
  show Go p.tables e below _ (s₁.setTop (mkF m 23 #[.val (.long q1), .second, .val (.int p2), .val (.int p3), .val (.long tm), .second, .val (.int md), .val (.int sq), .unset, .unset, .unset, .unset] [(.long tm)]))
  refine Go.st (fun U hr => XS.iload X0.here hx rfl (hb hby at_23) rfl hr) ?_
  show Go p.tables e below _ (s₁.setTop (mkF m 25 #[.val (.long q1), .second, .val (.int p2), .val (.int p3), .val (.long tm), .second, .val (.int md), .val (.int sq), .unset, .unset, .unset, .unset] [(.int md), (.long tm)]))
  refine Go.st (fun U hr => XS.iload X0.here hx rfl (hb hby at_25) rfl hr) ?_
  show Go p.tables e below _ (s₁.setTop (mkF m 27 #[.val (.long q1), .second, .val (.int p2), .val (.int p3), .val (.long tm), .second, .val (.int md), .val (.int sq), .unset, .unset, .unset, .unset] [(.int sq), (.int md), (.long tm)]))
  obtain ⟨_, _, ⟨T1, L1, k1, n1⟩, -, X1, ⟨Lc1, hQ1, l1, y1, z1⟩, st1⟩ := Jvm.LawKit.callS X0 hx (y := (⟨"com/example/leasehold/leasehold/SnowflakeId", "encode", "(JII)J"⟩ : MethodName)) hown (mvT hZ (hw _ (List.mem_of_getElem? (i := 1) rfl))) (mvT hZ (hw _ (List.mem_of_getElem? (i := 2) rfl))) (mvT hZ (hw _ (List.mem_of_getElem? (i := 3) rfl))) (mvT hZ (hw _ (List.mem_of_getElem? (i := 4) rfl))) (by decide) (backOf (W := 0) (rm1 l Z a0 hw [] tm md sq h0 n0 Z0) hZ (hw _ (List.mem_of_getElem? (i := 4) rfl)) (hw _ (List.mem_of_getElem? (i := 3) rfl)) (by decide) (by decide)) (g := (mkF m 27 #[.val (.long q1), .second, .val (.int p2), .val (.int p3), .val (.long tm), .second, .val (.int md), .val (.int sq), .unset, .unset, .unset, .unset] [(.int sq), (.int md), (.long tm)])) rfl (by rw [hml]; rfl) (argsL := [(.long tm), (.int md), (.int sq)]) (rest := []) (lenOf pd_0 rfl) rfl (by show 2 * 0 + _ ≤ _; exact Nat.le_of_eq rfl) (hb hby at_27) (fun _ _ => ⟨rfl, e0, (by decide : 0 + 0 ≤ _), (by decide : 0 + 0 ≤ _)⟩)
  dsimp only [Pt.U, Pt.locs, Pt.cells, Pt.slots] at X1 l1 y1 z1 st1 hQ1
  subst l1 y1 z1
  obtain ⟨rfl, Nq1, ee1⟩ := hQ1
  have N1 := Fr.app N0 Nq1
  refine Go.st st1 ?_
  show Go p.tables e below _ (T1.setTop (mkF m 30 #[.val (.long q1), .second, .val (.int p2), .val (.int p3), .val (.long tm), .second, .val (.int md), .val (.int sq), .unset, .unset, .unset, .unset] [(.long (own_enc tm md sq))]))
  generalize h_idv : (own_enc tm md sq) = idv
  have hid : idv.toInt = tm.toInt * 4194304 + md.toInt * 4096 + sq.toInt := by rw [← h_idv]; exact own_enc_val tm md sq htm hmd hsq
  refine Go.st (fun U hr => XS.lstore X1.here hx rfl (hb hby at_30) rfl (l' := #[.val (.long q1), .second, .val (.int p2), .val (.int p3), .val (.long tm), .second, .val (.int md), .val (.int sq), .val (.long idv), .second, .unset, .unset]) rfl hr) ?_
  show Go p.tables e below _ (T1.setTop (mkF m 32 #[.val (.long q1), .second, .val (.int p2), .val (.int p3), .val (.long tm), .second, .val (.int md), .val (.int sq), .val (.long idv), .second, .unset, .unset] []))
  refine Go.st (fun U hr => XS.lload X1.here hx rfl (hb hby at_32) rfl hr) ?_
  show Go p.tables e below _ (T1.setTop (mkF m 34 #[.val (.long q1), .second, .val (.int p2), .val (.int p3), .val (.long tm), .second, .val (.int md), .val (.int sq), .val (.long idv), .second, .unset, .unset] [(.long tm)]))
  refine Go.st (X1.ldc2Long hx hown (mvT hZ (hw _ (List.mem_of_getElem? (i := 5) rfl))) (g := (mkF m 34 #[.val (.long q1), .second, .val (.int p2), .val (.int p3), .val (.long tm), .second, .val (.int md), .val (.int sq), .val (.long idv), .second, .unset, .unset] [(.long tm)])) rfl (hb hby at_34)) ?_
  show Go p.tables e below _ (T1.setTop (mkF m 37 #[.val (.long q1), .second, .val (.int p2), .val (.int p3), .val (.long tm), .second, .val (.int md), .val (.int sq), .val (.long idv), .second, .unset, .unset] [(.long (4194304 : Int64)), (.long tm)]))
  refine Go.st (fun U hr => XS.lmul X1.here hx rfl (hb hby at_37) rfl hr) ?_
  show Go p.tables e below _ (T1.setTop (mkF m 38 #[.val (.long q1), .second, .val (.int p2), .val (.int p3), .val (.long tm), .second, .val (.int md), .val (.int sq), .val (.long idv), .second, .unset, .unset] [(.long (tm * (4194304 : Int64)))]))
  refine Go.st (fun U hr => XS.iload X1.here hx rfl (hb hby at_38) rfl hr) ?_
  show Go p.tables e below _ (T1.setTop (mkF m 40 #[.val (.long q1), .second, .val (.int p2), .val (.int p3), .val (.long tm), .second, .val (.int md), .val (.int sq), .val (.long idv), .second, .unset, .unset] [(.int md), (.long (tm * (4194304 : Int64)))]))
  refine Go.st (fun U hr => XS.i2l X1.here hx rfl (hb hby at_40) rfl hr) ?_
  show Go p.tables e below _ (T1.setTop (mkF m 41 #[.val (.long q1), .second, .val (.int p2), .val (.int p3), .val (.long tm), .second, .val (.int md), .val (.int sq), .val (.long idv), .second, .unset, .unset] [(.long (md.toInt64)), (.long (tm * (4194304 : Int64)))]))
  refine Go.st (X1.ldc2Long hx hown (mvT hZ (hw _ (List.mem_of_getElem? (i := 6) rfl))) (g := (mkF m 41 #[.val (.long q1), .second, .val (.int p2), .val (.int p3), .val (.long tm), .second, .val (.int md), .val (.int sq), .val (.long idv), .second, .unset, .unset] [(.long (md.toInt64)), (.long (tm * (4194304 : Int64)))])) rfl (hb hby at_41)) ?_
  show Go p.tables e below _ (T1.setTop (mkF m 44 #[.val (.long q1), .second, .val (.int p2), .val (.int p3), .val (.long tm), .second, .val (.int md), .val (.int sq), .val (.long idv), .second, .unset, .unset] [(.long (4096 : Int64)), (.long (md.toInt64)), (.long (tm * (4194304 : Int64)))]))
  refine Go.st (fun U hr => XS.lmul X1.here hx rfl (hb hby at_44) rfl hr) ?_
  show Go p.tables e below _ (T1.setTop (mkF m 45 #[.val (.long q1), .second, .val (.int p2), .val (.int p3), .val (.long tm), .second, .val (.int md), .val (.int sq), .val (.long idv), .second, .unset, .unset] [(.long ((md.toInt64) * (4096 : Int64))), (.long (tm * (4194304 : Int64)))]))
  refine Go.st (fun U hr => XS.ladd X1.here hx rfl (hb hby at_45) rfl hr) ?_
  show Go p.tables e below _ (T1.setTop (mkF m 46 #[.val (.long q1), .second, .val (.int p2), .val (.int p3), .val (.long tm), .second, .val (.int md), .val (.int sq), .val (.long idv), .second, .unset, .unset] [(.long ((tm * (4194304 : Int64)) + ((md.toInt64) * (4096 : Int64))))]))
  refine Go.st (fun U hr => XS.iload X1.here hx rfl (hb hby at_46) rfl hr) ?_
  show Go p.tables e below _ (T1.setTop (mkF m 48 #[.val (.long q1), .second, .val (.int p2), .val (.int p3), .val (.long tm), .second, .val (.int md), .val (.int sq), .val (.long idv), .second, .unset, .unset] [(.int sq), (.long ((tm * (4194304 : Int64)) + ((md.toInt64) * (4096 : Int64))))]))
  refine Go.st (fun U hr => XS.i2l X1.here hx rfl (hb hby at_48) rfl hr) ?_
  show Go p.tables e below _ (T1.setTop (mkF m 49 #[.val (.long q1), .second, .val (.int p2), .val (.int p3), .val (.long tm), .second, .val (.int md), .val (.int sq), .val (.long idv), .second, .unset, .unset] [(.long (sq.toInt64)), (.long ((tm * (4194304 : Int64)) + ((md.toInt64) * (4096 : Int64))))]))
  refine Go.st (fun U hr => XS.ladd X1.here hx rfl (hb hby at_49) rfl hr) ?_
  show Go p.tables e below _ (T1.setTop (mkF m 50 #[.val (.long q1), .second, .val (.int p2), .val (.int p3), .val (.long tm), .second, .val (.int md), .val (.int sq), .val (.long idv), .second, .unset, .unset] [(.long (((tm * (4194304 : Int64)) + ((md.toInt64) * (4096 : Int64))) + (sq.toInt64)))]))
  refine Go.st (fun U hr => XS.lstore X1.here hx rfl (hb hby at_50) rfl (l' := #[.val (.long q1), .second, .val (.int p2), .val (.int p3), .val (.long tm), .second, .val (.int md), .val (.int sq), .val (.long idv), .second, .val (.long (((tm * (4194304 : Int64)) + ((md.toInt64) * (4096 : Int64))) + (sq.toInt64))), .second]) rfl hr) ?_
  show Go p.tables e below _ (T1.setTop (mkF m 52 #[.val (.long q1), .second, .val (.int p2), .val (.int p3), .val (.long tm), .second, .val (.int md), .val (.int sq), .val (.long idv), .second, .val (.long (((tm * (4194304 : Int64)) + ((md.toInt64) * (4096 : Int64))) + (sq.toInt64))), .second] []))
  generalize h_exv : (((tm * (4194304 : Int64)) + ((md.toInt64) * (4096 : Int64))) + (sq.toInt64)) = exv
  have hex : exv.toInt = tm.toInt * 4194304 + md.toInt * 4096 + sq.toInt := by rw [← h_exv]; exact own_exp_val tm md sq htm hmd hsq
  refine Go.st (fun U hr => XS.lload X1.here hx rfl (hb hby at_52) rfl hr) ?_
  show Go p.tables e below _ (T1.setTop (mkF m 54 #[.val (.long q1), .second, .val (.int p2), .val (.int p3), .val (.long tm), .second, .val (.int md), .val (.int sq), .val (.long idv), .second, .val (.long exv), .second] [(.long idv)]))
  refine Go.st (fun U hr => XS.lload X1.here hx rfl (hb hby at_54) rfl hr) ?_
  show Go p.tables e below _ (T1.setTop (mkF m 56 #[.val (.long q1), .second, .val (.int p2), .val (.int p3), .val (.long tm), .second, .val (.int md), .val (.int sq), .val (.long idv), .second, .val (.long exv), .second] [(.long exv), (.long idv)]))
  refine Go.st (fun U hr => XS.lcmp X1.here hx rfl (hb hby at_56) rfl hr) ?_
  show Go p.tables e below _ (T1.setTop (mkF m 57 #[.val (.long q1), .second, .val (.int p2), .val (.int p3), .val (.long tm), .second, .val (.int md), .val (.int sq), .val (.long idv), .second, .val (.long exv), .second] [(.int (lcmpW idv exv))]))
  have hc57_2 : idv = exv := Int64.toInt_inj.mp (hid.trans hex.symm)
  refine Go.st (fun U hr => XS.ifYes X1.here hx rfl (pc0 := 57) (pc' := 62) rfl (hb hby at_57) rfl ((if0 _ _).trans (teq ((lw_eq idv exv).2 hc57_2)).1) (by decide) (by decide) hr) ?_
  show Go p.tables e below _ (T1.setTop (mkF m 62 #[.val (.long q1), .second, .val (.int p2), .val (.int p3), .val (.long tm), .second, .val (.int md), .val (.int sq), .val (.long idv), .second, .val (.long exv), .second] []))
  refine Go.st (fun U hr => XS.lload X1.here hx rfl (hb hby at_62) rfl hr) ?_
  show Go p.tables e below _ (T1.setTop (mkF m 64 #[.val (.long q1), .second, .val (.int p2), .val (.int p3), .val (.long tm), .second, .val (.int md), .val (.int sq), .val (.long idv), .second, .val (.long exv), .second] [(.long idv)]))
  refine Go.st (fun U hr => XS.lconst X1.here hx rfl (hb hby at_64) hr) ?_
  show Go p.tables e below _ (T1.setTop (mkF m 65 #[.val (.long q1), .second, .val (.int p2), .val (.int p3), .val (.long tm), .second, .val (.int md), .val (.int sq), .val (.long idv), .second, .val (.long exv), .second] [(.long (0 : Int64)), (.long idv)]))
  refine Go.st (fun U hr => XS.lcmp X1.here hx rfl (hb hby at_65) rfl hr) ?_
  show Go p.tables e below _ (T1.setTop (mkF m 66 #[.val (.long q1), .second, .val (.int p2), .val (.int p3), .val (.long tm), .second, .val (.int md), .val (.int sq), .val (.long idv), .second, .val (.long exv), .second] [(.int (lcmpW idv (0 : Int64)))]))
  have hc66_3 : ¬ (idv < (0 : Int64)) := fun q => by rw [Int64.lt_iff_toInt_lt] at q; have : (0 : Int64).toInt = 0 := rfl; omega
  refine Go.st (fun U hr => XS.ifYes X1.here hx rfl (pc0 := 66) (pc' := 71) rfl (hb hby at_66) rfl ((if0 _ _).trans (flt (fun q => hc66_3 ((lw_lt idv (0 : Int64)).1 q))).2.1) (by decide) (by decide) hr) ?_
  show Go p.tables e below _ (T1.setTop (mkF m 71 #[.val (.long q1), .second, .val (.int p2), .val (.int p3), .val (.long tm), .second, .val (.int md), .val (.int sq), .val (.long idv), .second, .val (.long exv), .second] []))
  refine Go.st (fun U hr => XS.lload X1.here hx rfl (hb hby at_71) rfl hr) ?_
  show Go p.tables e below _ (T1.setTop (mkF m 73 #[.val (.long q1), .second, .val (.int p2), .val (.int p3), .val (.long tm), .second, .val (.int md), .val (.int sq), .val (.long idv), .second, .val (.long exv), .second] [(.long idv)]))
  refine Go.st (X1.ldc2Long hx hown (mvT hZ (hw _ (List.mem_of_getElem? (i := 5) rfl))) (g := (mkF m 73 #[.val (.long q1), .second, .val (.int p2), .val (.int p3), .val (.long tm), .second, .val (.int md), .val (.int sq), .val (.long idv), .second, .val (.long exv), .second] [(.long idv)])) rfl (hb hby at_73)) ?_
  show Go p.tables e below _ (T1.setTop (mkF m 76 #[.val (.long q1), .second, .val (.int p2), .val (.int p3), .val (.long tm), .second, .val (.int md), .val (.int sq), .val (.long idv), .second, .val (.long exv), .second] [(.long (4194304 : Int64)), (.long idv)]))
  refine Go.st (fun U hr => XS.ldiv X1.here hx rfl (hb hby at_76) rfl (by decide) hr) ?_
  show Go p.tables e below _ (T1.setTop (mkF m 77 #[.val (.long q1), .second, .val (.int p2), .val (.int p3), .val (.long tm), .second, .val (.int md), .val (.int sq), .val (.long idv), .second, .val (.long exv), .second] [(.long (idv / (4194304 : Int64)))]))
  refine Go.st (fun U hr => XS.lload X1.here hx rfl (hb hby at_77) rfl hr) ?_
  show Go p.tables e below _ (T1.setTop (mkF m 79 #[.val (.long q1), .second, .val (.int p2), .val (.int p3), .val (.long tm), .second, .val (.int md), .val (.int sq), .val (.long idv), .second, .val (.long exv), .second] [(.long tm), (.long (idv / (4194304 : Int64)))]))
  refine Go.st (fun U hr => XS.lcmp X1.here hx rfl (hb hby at_79) rfl hr) ?_
  show Go p.tables e below _ (T1.setTop (mkF m 80 #[.val (.long q1), .second, .val (.int p2), .val (.int p3), .val (.long tm), .second, .val (.int md), .val (.int sq), .val (.long idv), .second, .val (.long exv), .second] [(.int (lcmpW (idv / (4194304 : Int64)) tm))]))
  have hc80_4 : (idv / (4194304 : Int64)) = tm := own_d1 idv tm _ _ _ hid rfl htm.1 hmd hsq
  refine Go.st (fun U hr => XS.ifYes X1.here hx rfl (pc0 := 80) (pc' := 85) rfl (hb hby at_80) rfl ((if0 _ _).trans (teq ((lw_eq (idv / (4194304 : Int64)) tm).2 hc80_4)).1) (by decide) (by decide) hr) ?_
  show Go p.tables e below _ (T1.setTop (mkF m 85 #[.val (.long q1), .second, .val (.int p2), .val (.int p3), .val (.long tm), .second, .val (.int md), .val (.int sq), .val (.long idv), .second, .val (.long exv), .second] []))
  refine Go.st (fun U hr => XS.lload X1.here hx rfl (hb hby at_85) rfl hr) ?_
  show Go p.tables e below _ (T1.setTop (mkF m 87 #[.val (.long q1), .second, .val (.int p2), .val (.int p3), .val (.long tm), .second, .val (.int md), .val (.int sq), .val (.long idv), .second, .val (.long exv), .second] [(.long idv)]))
  refine Go.st (X1.ldc2Long hx hown (mvT hZ (hw _ (List.mem_of_getElem? (i := 6) rfl))) (g := (mkF m 87 #[.val (.long q1), .second, .val (.int p2), .val (.int p3), .val (.long tm), .second, .val (.int md), .val (.int sq), .val (.long idv), .second, .val (.long exv), .second] [(.long idv)])) rfl (hb hby at_87)) ?_
  show Go p.tables e below _ (T1.setTop (mkF m 90 #[.val (.long q1), .second, .val (.int p2), .val (.int p3), .val (.long tm), .second, .val (.int md), .val (.int sq), .val (.long idv), .second, .val (.long exv), .second] [(.long (4096 : Int64)), (.long idv)]))
  refine Go.st (fun U hr => XS.ldiv X1.here hx rfl (hb hby at_90) rfl (by decide) hr) ?_
  show Go p.tables e below _ (T1.setTop (mkF m 91 #[.val (.long q1), .second, .val (.int p2), .val (.int p3), .val (.long tm), .second, .val (.int md), .val (.int sq), .val (.long idv), .second, .val (.long exv), .second] [(.long (idv / (4096 : Int64)))]))
  refine Go.st (X1.ldc2Long hx hown (mvT hZ (hw _ (List.mem_of_getElem? (i := 7) rfl))) (g := (mkF m 91 #[.val (.long q1), .second, .val (.int p2), .val (.int p3), .val (.long tm), .second, .val (.int md), .val (.int sq), .val (.long idv), .second, .val (.long exv), .second] [(.long (idv / (4096 : Int64)))])) rfl (hb hby at_91)) ?_
  show Go p.tables e below _ (T1.setTop (mkF m 94 #[.val (.long q1), .second, .val (.int p2), .val (.int p3), .val (.long tm), .second, .val (.int md), .val (.int sq), .val (.long idv), .second, .val (.long exv), .second] [(.long (1024 : Int64)), (.long (idv / (4096 : Int64)))]))
  refine Go.st (fun U hr => XS.lrem X1.here hx rfl (hb hby at_94) rfl (by decide) hr) ?_
  show Go p.tables e below _ (T1.setTop (mkF m 95 #[.val (.long q1), .second, .val (.int p2), .val (.int p3), .val (.long tm), .second, .val (.int md), .val (.int sq), .val (.long idv), .second, .val (.long exv), .second] [(.long ((idv / (4096 : Int64)) - ((idv / (4096 : Int64)) / (1024 : Int64)) * (1024 : Int64)))]))
  refine Go.st (fun U hr => XS.iload X1.here hx rfl (hb hby at_95) rfl hr) ?_
  show Go p.tables e below _ (T1.setTop (mkF m 97 #[.val (.long q1), .second, .val (.int p2), .val (.int p3), .val (.long tm), .second, .val (.int md), .val (.int sq), .val (.long idv), .second, .val (.long exv), .second] [(.int md), (.long ((idv / (4096 : Int64)) - ((idv / (4096 : Int64)) / (1024 : Int64)) * (1024 : Int64)))]))
  refine Go.st (fun U hr => XS.i2l X1.here hx rfl (hb hby at_97) rfl hr) ?_
  show Go p.tables e below _ (T1.setTop (mkF m 98 #[.val (.long q1), .second, .val (.int p2), .val (.int p3), .val (.long tm), .second, .val (.int md), .val (.int sq), .val (.long idv), .second, .val (.long exv), .second] [(.long (md.toInt64)), (.long ((idv / (4096 : Int64)) - ((idv / (4096 : Int64)) / (1024 : Int64)) * (1024 : Int64)))]))
  refine Go.st (fun U hr => XS.lcmp X1.here hx rfl (hb hby at_98) rfl hr) ?_
  show Go p.tables e below _ (T1.setTop (mkF m 99 #[.val (.long q1), .second, .val (.int p2), .val (.int p3), .val (.long tm), .second, .val (.int md), .val (.int sq), .val (.long idv), .second, .val (.long exv), .second] [(.int (lcmpW ((idv / (4096 : Int64)) - ((idv / (4096 : Int64)) / (1024 : Int64)) * (1024 : Int64)) (md.toInt64)))]))
  have hc99_5 : ((idv / (4096 : Int64)) - ((idv / (4096 : Int64)) / (1024 : Int64)) * (1024 : Int64)) = (md.toInt64) := own_d2 idv md _ _ _ hid rfl htm.1 hmd hsq
  refine Go.st (fun U hr => XS.ifYes X1.here hx rfl (pc0 := 99) (pc' := 104) rfl (hb hby at_99) rfl ((if0 _ _).trans (teq ((lw_eq ((idv / (4096 : Int64)) - ((idv / (4096 : Int64)) / (1024 : Int64)) * (1024 : Int64)) (md.toInt64)).2 hc99_5)).1) (by decide) (by decide) hr) ?_
  show Go p.tables e below _ (T1.setTop (mkF m 104 #[.val (.long q1), .second, .val (.int p2), .val (.int p3), .val (.long tm), .second, .val (.int md), .val (.int sq), .val (.long idv), .second, .val (.long exv), .second] []))
  refine Go.st (fun U hr => XS.lload X1.here hx rfl (hb hby at_104) rfl hr) ?_
  show Go p.tables e below _ (T1.setTop (mkF m 106 #[.val (.long q1), .second, .val (.int p2), .val (.int p3), .val (.long tm), .second, .val (.int md), .val (.int sq), .val (.long idv), .second, .val (.long exv), .second] [(.long idv)]))
  refine Go.st (X1.ldc2Long hx hown (mvT hZ (hw _ (List.mem_of_getElem? (i := 6) rfl))) (g := (mkF m 106 #[.val (.long q1), .second, .val (.int p2), .val (.int p3), .val (.long tm), .second, .val (.int md), .val (.int sq), .val (.long idv), .second, .val (.long exv), .second] [(.long idv)])) rfl (hb hby at_106)) ?_
  show Go p.tables e below _ (T1.setTop (mkF m 109 #[.val (.long q1), .second, .val (.int p2), .val (.int p3), .val (.long tm), .second, .val (.int md), .val (.int sq), .val (.long idv), .second, .val (.long exv), .second] [(.long (4096 : Int64)), (.long idv)]))
  refine Go.st (fun U hr => XS.lrem X1.here hx rfl (hb hby at_109) rfl (by decide) hr) ?_
  show Go p.tables e below _ (T1.setTop (mkF m 110 #[.val (.long q1), .second, .val (.int p2), .val (.int p3), .val (.long tm), .second, .val (.int md), .val (.int sq), .val (.long idv), .second, .val (.long exv), .second] [(.long (idv - (idv / (4096 : Int64)) * (4096 : Int64)))]))
  refine Go.st (fun U hr => XS.iload X1.here hx rfl (hb hby at_110) rfl hr) ?_
  show Go p.tables e below _ (T1.setTop (mkF m 112 #[.val (.long q1), .second, .val (.int p2), .val (.int p3), .val (.long tm), .second, .val (.int md), .val (.int sq), .val (.long idv), .second, .val (.long exv), .second] [(.int sq), (.long (idv - (idv / (4096 : Int64)) * (4096 : Int64)))]))
  refine Go.st (fun U hr => XS.i2l X1.here hx rfl (hb hby at_112) rfl hr) ?_
  show Go p.tables e below _ (T1.setTop (mkF m 113 #[.val (.long q1), .second, .val (.int p2), .val (.int p3), .val (.long tm), .second, .val (.int md), .val (.int sq), .val (.long idv), .second, .val (.long exv), .second] [(.long (sq.toInt64)), (.long (idv - (idv / (4096 : Int64)) * (4096 : Int64)))]))
  refine Go.st (fun U hr => XS.lcmp X1.here hx rfl (hb hby at_113) rfl hr) ?_
  show Go p.tables e below _ (T1.setTop (mkF m 114 #[.val (.long q1), .second, .val (.int p2), .val (.int p3), .val (.long tm), .second, .val (.int md), .val (.int sq), .val (.long idv), .second, .val (.long exv), .second] [(.int (lcmpW (idv - (idv / (4096 : Int64)) * (4096 : Int64)) (sq.toInt64)))]))
  have hc114_6 : (idv - (idv / (4096 : Int64)) * (4096 : Int64)) = (sq.toInt64) := own_d3 idv sq _ _ _ hid rfl htm.1 hmd hsq
  refine Go.st (fun U hr => XS.ifNo X1.here hx rfl (hb hby at_114) rfl ((if0 _ _).trans (teq ((lw_eq (idv - (idv / (4096 : Int64)) * (4096 : Int64)) (sq.toInt64)).2 hc114_6)).2) hr) ?_
  show Go p.tables e below _ (T1.setTop (mkF m 117 #[.val (.long q1), .second, .val (.int p2), .val (.int p3), .val (.long tm), .second, .val (.int md), .val (.int sq), .val (.long idv), .second, .val (.long exv), .second] []))
  refine Go.st (fun U hr => XS.iconst X1.here hx rfl (hb hby at_117) hr) ?_
  show Go p.tables e below _ (T1.setTop (mkF m 118 #[.val (.long q1), .second, .val (.int p2), .val (.int p3), .val (.long tm), .second, .val (.int md), .val (.int sq), .val (.long idv), .second, .val (.long exv), .second] [(.int (1 : Int32))]))
  refine Go.st (fun U hr => XS.goto X1.here hx rfl (pc0 := 118) (pc' := 122) rfl (hb hby at_118) (by decide) (by decide) hr) ?_
  show Go p.tables e below _ (T1.setTop (mkF m 122 #[.val (.long q1), .second, .val (.int p2), .val (.int p3), .val (.long tm), .second, .val (.int md), .val (.int sq), .val (.long idv), .second, .val (.long exv), .second] [(.int (1 : Int32))]))
  exact own_retN X1 hx Bd.notSynchronized (t := .boolean) Bd.returns (by simp) (hb hby at_122) ⟨rfl, N1⟩ (by decide) (by decide)
set_option maxRecDepth 65536 in
set_option maxHeartbeats 40000000 in
theorem comes_1 {Post : Tables → Env → Array Value → State → Outcome → State → Prop} (hpost : ∀ tb e args s v u, (limb_1_1.after args s (.returned v) u = true ∧ limb_1_2.after args s (.returned v) u = true ∧ True) → FrameEnd s (.returned v) u (Jvm.fieldLocs frame_1_writes args s ++ Jvm.arrayLocs frame_1_arrays args s ++ Jvm.staticLocs frame_1_statics s) 0 0 → Post tb e args s (.returned v) u) :
    ArmFor flags0 classFile x code maxLocals ret World_1 tables_1 room_1 Calls_1 rest_1 Pre_1 Post := by
  intro l hfl _ _ p e ha hc hk s m args below hf hA hF happ hP
  obtain ⟨hcalls, hrest, hpre⟩ := hP
  obtain ⟨-, -, -, hnamed, -, -, -, hat⟩ := (Spec.applies_iff hf).mp happ
  obtain ⟨hg, hn⟩ := and_e (Cond.before_iff.mp (show (Jvm.Cond.and given_1 narrow_1).before args s = true from hpre))
  obtain ⟨h1, h2⟩ := and_e hg
  obtain ⟨w0, w1, w2, rfl⟩ : ∃ w0 w1 w2 : Value, args = #[w0, w1, w2] := by
    have hs : args.size = 3 := by simpa [Cond.value, given_1] using h1
    obtain ⟨L⟩ := args
    match L, hs with
    | [w0, w1, w2], _ => exact ⟨w0, w1, w2, rfl⟩
  have hw := fun d (hd : d ∈ tables_1) => atoms_spec (ws := Jvm.Cond.code x code maxLocals ret :: tables_1) hat d (List.mem_cons_of_mem _ hd)
  have hfit : Fit s := fun {y c} hc i hi => by
    obtain ⟨ha, rfl⟩ := Array.getElem?_eq_some_iff.mp hc
    have q := List.all_eq_true.mp ((Array.all_eq_true_iff_forall_mem.mp hF) _ (Array.getElem_mem ha)) i (List.mem_range.mpr hi)
    simpa [Array.getElem?_eq_getElem hi] using q
  obtain ⟨ha0, hb0⟩ := and_e h2
  obtain ⟨i0, e0⟩ := isL_v ha0
  obtain rfl : w0 = (.long i0) := Option.some.inj e0
  obtain ⟨ha1, hb1⟩ := and_e hb0
  obtain ⟨i1, e1⟩ := is_v ha1
  obtain rfl : w1 = (.int i1) := Option.some.inj e1
  obtain ⟨i2, e2⟩ := is_v hb1
  obtain rfl : w2 = (.int i2) := Option.some.inj e2
  obtain ⟨n, o, h1, h2, h3, _, L, rfl, ⟨rfl, N⟩, hq⟩ := rm0 l s _ hw tables_1 i0 i1 i2 s.heap s.heap.size (Nat.le_refl _)  p e ha hc hk s m _ below hf ((Spec.applies_iff_loose hf).mp happ).1 ⟨rfl, State.Warmed39.refl s, rfl⟩ trivial
  refine ⟨n, _, h1, h2, h3, hpost _ _ _ _ _ _ ⟨Cond.after_iff.mpr rfl, Cond.after_iff.mpr (eq_i res_at (Term.int_eval (1)) rfl), trivial⟩ ⟨hq.1, hq.2.1, (hq.2.2.sift fun y hy => Or.inr (N y hy)).mono (by decide) (by decide)⟩⟩
theorem main_1_1 : Claimed_1_1 := comes_1 fun _ _ _ _ _ _ h hF => ⟨h.1, hF⟩
theorem main_1_2 : Claimed_1_2 := comes_1 fun _ _ _ _ _ _ h hF => ⟨h.2.1, hF⟩
end Jvm.Pilot.@@N@@
namespace Jvm.Pilot.@@N@@
open Jvm Jvm.ClassFile Sem Op Lib Jvm.Free Jvm.Stand Jvm.Pilot.@@N@@.Jvm.D
/-! MADE BY PROGRAM (witnessworld.py) out of the Statement's table words and the real class files: 10 classes; the members and pool entries that the words name. The judged class is class 1, her method 1. -/
namespace start1
open Jvm.ClassFile
def u (s : String) : CpInfo := .utf8 (stringToUtf16 s)
/-- a pool by its gaps: so many unusable entries, then the entry; so many at the end -/
def gap : Nat → List CpInfo → List CpInfo
  | 0, r => r
  | n + 1, r => .unusable :: gap n r
def poolList (es : List (Nat × CpInfo)) (last : Nat) : List CpInfo := es.foldr (fun e r => gap e.1 (e.2 :: r)) (gap last [])
def pool (es : List (Nat × CpInfo)) (last : Nat) : Array CpInfo := ⟨poolList es last⟩
def fileOf (pool : Array CpInfo) (this : Nat) (attrs : Array Attribute := #[]) (ms : Array MethodInfo := #[]) (fl : Nat := 33) (sup : Nat := 0) (ifs : Array Nat := #[]) (fds : Array FieldInfo := #[]) : ClassFile where
  minorVersion := 0
  majorVersion := 65
  constantPool := pool
  accessFlags := fl
  thisClass := this
  superClass := sup
  interfaces := ifs
  fields := fds
  methods := ms
  attributes := attrs
def plain (name : String) (sup : Option ClassId) : Class where
  name := name
  kind := .ordinary
  loader := none
  accessFlags := 33
  super := sup
  interfaces := #[]
  cf := none
  fields := #[]
  methods := #[]
  instanceTypes := #[]
  staticTypes := #[]
  resolved := #[]
  callSites := []
  init := .initialized
  statics := none
  mirror := none

def pool0 : Array CpInfo := pool [(5, u "<init>"), (0, u "()V"), (1, .class_ 10), (1, u "java/lang/Object")] 113

def k0m0 : Method := { name := "<init>", desc := "()V", sig := { parameters := [], returnType := none }, accessFlags := 1, code := none }
/-- java/lang/Object -/
def k0 : Class := { plain "java/lang/Object" none with
  accessFlags := 33
  interfaces := #[]
  cf := some (fileOf pool0 8 #[] #[{ accessFlags := 1, nameIndex := 5, descriptorIndex := 6, attributes := #[] }] 33 0 #[] #[])
  fields := #[]
  methods := #[k0m0]
  instanceTypes := #[]
  staticTypes := #[]
  resolved := Array.replicate 124 none
  statics := none }

def pool1 : Array CpInfo := pool [(2, .class_ 4), (1, u "java/lang/Object"), (0, u "<init>"), (0, u "()V"), (0, .long 2199023255551), (1, .methodref 10 11), (0, .class_ 12), (0, .nameAndType 13 14), (0, u "com/example/leasehold/leasehold/SnowflakeId"), (0, u "encode"), (0, u "(JII)J"), (0, .long 4194304), (1, .long 4096), (1, .long 1024), (1, .class_ 22), (0, u "com/example/leasehold/leasehold/SnowflakeIdEncodePinLaw"), (2, u "law"), (0, u "(JII)Z")] 3

def k1m0 : Method := { name := "<init>", desc := "()V", sig := { parameters := [], returnType := none }, accessFlags := 1, code := none }
def k1c1 : Code := { maxStack := 6, maxLocals := 12, code := code, exceptionTable := #[], attributes := #[] }
def k1m1 : Method := { name := "law", desc := "(JII)Z", sig := { parameters := [.long, .int, .int], returnType := some .boolean }, accessFlags := 9, code := some k1c1 }
/-- com/example/leasehold/leasehold/SnowflakeIdEncodePinLaw -/
def k1 : Class := { plain "com/example/leasehold/leasehold/SnowflakeIdEncodePinLaw" (some 0) with
  accessFlags := 49
  interfaces := #[]
  cf := some (fileOf pool1 21 #[] #[{ accessFlags := 1, nameIndex := 5, descriptorIndex := 6, attributes := #[] }, { accessFlags := 9, nameIndex := 25, descriptorIndex := 26, attributes := #[] }] 49 2 #[] #[])
  fields := #[]
  methods := #[k1m0, k1m1]
  instanceTypes := #[]
  staticTypes := #[]
  resolved := Array.replicate 30 none
  statics := none }

def pool2 : Array CpInfo := pool [(2, .class_ 4), (1, u "java/lang/Object"), (0, u "<init>"), (0, u "()V"), (0, .class_ 8), (0, u "java/lang/Record")] 13

def k2m0 : Method := { name := "<init>", desc := "()V", sig := { parameters := [], returnType := none }, accessFlags := 4, code := none }
/-- java/lang/Record -/
def k2 : Class := { plain "java/lang/Record" (some 0) with
  accessFlags := 1057
  interfaces := #[]
  cf := some (fileOf pool2 7 #[] #[{ accessFlags := 4, nameIndex := 5, descriptorIndex := 6, attributes := #[] }] 1057 2 #[] #[])
  fields := #[]
  methods := #[k2m0]
  instanceTypes := #[]
  staticTypes := #[]
  resolved := Array.replicate 22 none
  statics := none }

def pool3 : Array CpInfo := pool [(2, .class_ 4), (1, u "java/lang/Record"), (3, .class_ 10), (1, u "com/example/leasehold/leasehold/SnowflakeId"), (0, u "timeMs"), (0, u "J"), (2, u "machineId"), (0, u "I"), (2, u "sequence"), (2, u "DEFAULT_EPOCH"), (0, u "Ljava/time/Instant;"), (40, u "MACHINE_IDS"), (2, u "IDS_PER_MS"), (1, u "MAX_TIME"), (2, u "MACHINE_SHIFT"), (1, u "TIME_SHIFT"), (6, u "encode"), (0, u "(JII)J")] 34

def k3c0 : Code := { maxStack := 5, maxLocals := 4, code := prog_19_method_4_code, exceptionTable := #[], attributes := #[] }
def k3m0 : Method := { name := "encode", desc := "(JII)J", sig := { parameters := [.long, .int, .int], returnType := some .long }, accessFlags := 8, code := some k3c0 }
/-- com/example/leasehold/leasehold/SnowflakeId -/
def k3 : Class := { plain "com/example/leasehold/leasehold/SnowflakeId" (some 2) with
  accessFlags := 49
  interfaces := #[]
  cf := some (fileOf pool3 8 #[] #[{ accessFlags := 8, nameIndex := 81, descriptorIndex := 82, attributes := #[] }] 49 2 #[] #[{ accessFlags := 18, nameIndex := 11, descriptorIndex := 12, attributes := #[] }, { accessFlags := 18, nameIndex := 15, descriptorIndex := 16, attributes := #[] }, { accessFlags := 18, nameIndex := 19, descriptorIndex := 16, attributes := #[] }, { accessFlags := 25, nameIndex := 22, descriptorIndex := 23, attributes := #[] }, { accessFlags := 25, nameIndex := 64, descriptorIndex := 16, attributes := #[] }, { accessFlags := 25, nameIndex := 67, descriptorIndex := 16, attributes := #[] }, { accessFlags := 24, nameIndex := 69, descriptorIndex := 12, attributes := #[] }, { accessFlags := 26, nameIndex := 72, descriptorIndex := 16, attributes := #[] }, { accessFlags := 26, nameIndex := 74, descriptorIndex := 16, attributes := #[] }])
  fields := #[{ name := "timeMs", type := .long, accessFlags := 18, slot := 0, constantValue := 0 }, { name := "machineId", type := .int, accessFlags := 18, slot := 1, constantValue := 0 }, { name := "sequence", type := .int, accessFlags := 18, slot := 2, constantValue := 0 }, { name := "DEFAULT_EPOCH", type := (.object "java/time/Instant"), accessFlags := 25, slot := 0, constantValue := 0 }, { name := "MACHINE_IDS", type := .int, accessFlags := 25, slot := 1, constantValue := 0 }, { name := "IDS_PER_MS", type := .int, accessFlags := 25, slot := 2, constantValue := 0 }, { name := "MAX_TIME", type := .long, accessFlags := 24, slot := 3, constantValue := 0 }, { name := "MACHINE_SHIFT", type := .int, accessFlags := 26, slot := 4, constantValue := 0 }, { name := "TIME_SHIFT", type := .int, accessFlags := 26, slot := 5, constantValue := 0 }]
  methods := #[k3m0]
  instanceTypes := #[.long, .int, .int]
  staticTypes := #[(.object "java/time/Instant"), .int, .int, .long, .int, .int]
  resolved := Array.replicate 117 none
  statics := none }

def pool4 : Array CpInfo := pool [(1, u "java/lang/Cloneable"), (0, .class_ 1), (0, u "java/lang/Object"), (0, .class_ 3)] 3

/-- java/lang/Cloneable -/
def k4 : Class := { plain "java/lang/Cloneable" (some 0) with
  accessFlags := 1537
  interfaces := #[]
  cf := some (fileOf pool4 2 #[] #[] 1537 4 #[] #[])
  fields := #[]
  methods := #[]
  instanceTypes := #[]
  staticTypes := #[]
  resolved := Array.replicate 8 none
  statics := none }

def pool5 : Array CpInfo := pool [(1, u "java/io/Serializable"), (0, .class_ 1), (0, u "java/lang/Object"), (0, .class_ 3)] 3

/-- java/io/Serializable -/
def k5 : Class := { plain "java/io/Serializable" (some 0) with
  accessFlags := 1537
  interfaces := #[]
  cf := some (fileOf pool5 2 #[] #[] 1537 4 #[] #[])
  fields := #[]
  methods := #[]
  instanceTypes := #[]
  staticTypes := #[]
  resolved := Array.replicate 8 none
  statics := none }

/-- the primitive byte -/
def k6 : Class := { plain "byte" none with kind := .primitive 'B', accessFlags := 0x411 }
/-- [B -/
def k7 : Class := { plain "[B" (some 0) with kind := .array 6 .byte, interfaces := #[4, 5], accessFlags := 1041 }

/-- the primitive int -/
def k8 : Class := { plain "int" none with kind := .primitive 'I', accessFlags := 0x411 }
/-- [I -/
def k9 : Class := { plain "[I" (some 0) with kind := .array 8 .int, interfaces := #[4, 5], accessFlags := 1041 }

def heap : Heap := #[]
def classes : Array Class := #[k0, k1, k2, k3, k4, k5, k6, k7, k8, k9]
def interned : List (Array UInt16 × Addr) := []
def slotsUsed : Nat := 0
def theMethod : MethodId := ⟨1, 1⟩
def args0 : Array Value := #[.long 5, .int 300, .int 7]
def aboutOver (below : List Frame) : State where
  vm := { classes := classes, interned := interned.toArray }
  heap := heap
  slotsUsed := slotsUsed
  threads := #[{ frames := .invoking theMethod args0 :: below }]
def below0 : List Frame := [.native { method := ⟨0, 0⟩, args := #[] }]
def about1 : State := aboutOver below0
def p0 : Program := .bare "" "" ""
def e0 : Env := launch0.env 0 0 0
theorem w_frames : about1.frames = Frame.invoking theMethod args0 :: below0 := rfl
set_option maxRecDepth 65536 in
theorem w_args : argsFit about1.vm theMethod args0 = true := by decide +kernel
set_option maxRecDepth 65536 in
theorem w_heap : heapFits about1 = true := by decide +kernel
set_option maxRecDepth 65536 in
theorem w_runnable : about1.curStatus? = some .runnable := by decide +kernel
set_option maxRecDepth 65536 in
theorem w_alone : about1.alone = true := by decide +kernel
set_option maxRecDepth 65536 in
theorem w_named : about1.methodNamed? x = some theMethod := by decide +kernel
set_option maxRecDepth 65536 in
theorem w_hears : about1.hears theMethod below0 = true := by decide +kernel
set_option maxRecDepth 65536 in
theorem w_ripe : about1.ripe theMethod args0 below0 = true := by decide +kernel
theorem w_running : about1.status = .running := rfl
set_option maxRecDepth 65536 in
theorem w_room : about1.hasRoom e0.platform room_1 = true :=
  launch0.hasRoom_least _ room_1 (by decide +kernel) (by decide +kernel) (by decide +kernel) (by decide +kernel) (by decide +kernel) (by decide +kernel)
theorem allAtoms_all (ts : List Jvm.Cond) (a : Array Jvm.Value) (st : Jvm.State) : (allAtoms ts).before a st = ts.all (fun c => c.before a st) := by
  induction ts with
  | nil => rfl
  | cons c t ih =>
    show (Jvm.Cond.and c (allAtoms t)).before a st = _
    rw [Jvm.Cond.before_and, ih, List.all_cons]
def words1 : List Jvm.Cond := Jvm.Cond.code x code maxLocals ret :: tables_1
/-- a 'code' word, met by the world's own term for the bytes: nothing is compared byte by byte -/
theorem code_word {y : MethodName} {bytes : ByteArray} {mx : Nat} {rt : Option FieldType} {a : Array Value} {s : State} {m : MethodId} {meth : Method} {c : Code} (h1 : s.methodNamed? y = some m) (h2 : s.vm.method? m = some meth) (h3 : meth.code = some c) (h4 : c.code = bytes)
    (h5 : (c.maxLocals == mx && c.exceptionTable.isEmpty && decide (c.maxStack ≤ mostOperands) && decide (meth.sig.returnType = rt) && !meth.locks && decide (parseMethodDescriptor y.desc = some meth.sig)) = true) : (Jvm.Cond.code y bytes mx rt).before a s = true := by
  simp only [Bool.and_eq_true, beq_iff_eq, Bool.not_eq_true', decide_eq_true_eq] at h5
  obtain ⟨⟨⟨⟨⟨g1, g2⟩, g3⟩, g4⟩, g5⟩, g6⟩ := h5
  simp [Cond.before, Cond.holds, Cond.value, h1, h2, h3, h4, g1, g2, g3, g4, g5, g6]
def isCode : Jvm.Cond → Bool
  | .code _ _ _ _ => true
  | _ => false
theorem all_split {L : List Jvm.Cond} {P : Jvm.Cond → Bool} (h1 : L.all (fun c => isCode c || P c) = true) (h2 : ∀ c ∈ L.filter isCode, P c = true) : L.all P = true := by
  refine List.all_eq_true.mpr fun c hc => ?_
  have h := List.all_eq_true.mp h1 c hc
  rcases Bool.eq_false_or_eq_true (isCode c) with hi | hi
  · exact h2 c (List.mem_filter.mpr ⟨hc, hi⟩)
  · simpa [hi] using h
set_option maxRecDepth 65536 in
theorem w_c0 : (Jvm.Cond.code x code maxLocals ret).before args0 about1 = true := code_word (m := ⟨1, 1⟩) (meth := k1m1) (c := k1c1) (by decide +kernel) rfl rfl rfl (by decide +kernel)
set_option maxRecDepth 65536 in
theorem w_c1 : (Jvm.Cond.code ({ cls := "com/example/leasehold/leasehold/SnowflakeId", name := "encode", desc := "(JII)J" } : Jvm.MethodName) prog_19_method_4_code (4 : Nat) (Option.some Jvm.ClassFile.FieldType.long)).before args0 about1 = true := code_word (m := ⟨3, 0⟩) (meth := k3m0) (c := k3c0) (by decide +kernel) rfl rfl rfl (by decide +kernel)
def codes1 : List Jvm.Cond := [Jvm.Cond.code x code maxLocals ret, Jvm.Cond.code ({ cls := "com/example/leasehold/leasehold/SnowflakeId", name := "encode", desc := "(JII)J" } : Jvm.MethodName) prog_19_method_4_code (4 : Nat) (Option.some Jvm.ClassFile.FieldType.long)]
set_option maxRecDepth 65536 in
theorem codes_eq : words1.filter isCode = codes1 := rfl
theorem w_codes : ∀ c ∈ words1.filter isCode, c.before args0 about1 = true := by
  rw [codes_eq]
  intro c hc
  simp only [codes1, List.mem_cons, List.not_mem_nil, or_false] at hc
  rcases hc with rfl | rfl
  · exact w_c0
  · exact w_c1
set_option maxRecDepth 65536 in
theorem w_t1 : words1.all (fun c => isCode c || c.before args0 about1) = true := by decide +kernel
theorem w_tables : (allAtoms (Jvm.Cond.code x code maxLocals ret :: tables_1)).before args0 about1 = true := by
  rw [allAtoms_all]
  show words1.all (fun c => c.before args0 about1) = true
  refine all_split ?_ w_codes
  rw [w_t1]
set_option maxRecDepth 65536 in
theorem w_case : (Jvm.Cond.and given_1 narrow_1).before args0 about1 = true := by decide +kernel
theorem w_applies : (headSpec (Jvm.Cond.code x code maxLocals ret :: tables_1) room_1).applies x e0.platform about1 = true :=
  (Spec.applies_iff w_frames).mpr ⟨w_running, w_runnable, w_alone, w_named, w_hears, w_ripe, w_room, w_tables⟩
theorem atStart : AtStart classFile x code maxLocals ret World_1 tables_1 room_1 Calls_1 rest_1 Pre_1 launch0 p0 e0 about1 theMethod args0 below0 :=
  ⟨lists_1, trivial, launch0.admits_env _ _ _, launch0.least_env, fairChoices_fair.cas, fairChoices_fair.clock, w_frames, w_args, w_heap, w_applies, trivial, trivial, w_case⟩
end start1
theorem witness_1 : WitnessClaimed_1 := ⟨start1.p0, start1.e0, start1.about1, start1.theMethod, start1.args0, start1.below0, start1.atStart⟩
end Jvm.Pilot.@@N@@
