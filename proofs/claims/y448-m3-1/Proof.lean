import JvmDerived
import JvmDerived.Pilot.@@N@@Statement
import JvmDerived.Pilot.@@N@@Code
set_option linter.unusedVariables false
set_option linter.unusedSimpArgs false
namespace Jvm.Pilot.@@N@@
open Jvm Jvm.ClassFile Sem Op Lib Jvm.Free Jvm.Stand Jvm.LawKit Jvm.RoadKit Bundle Jvm.Pilot.@@N@@.Jvm.D
section OwnKit
variable {p : Program} {l : Launch} {e : Env} {R : Room} {s : State} {m : MethodId} {args : Array Value} {below : List Frame} {meth : Method} {c : Code} {T : State} {locs : List Loc} {cells slots : Nat}
/-- from here the run comes to a state of which K holds -/
def Go (tb : Tables) (e : Env) (below : List Frame) (K : State → Prop) (T : State) : Prop := ∃ U, Steps tb e below T U ∧ K U
theorem Go.st {tb : Tables} {K : State → Prop} {T T' : State} (h : ∀ U, Steps tb e below T' U → Steps tb e below T U) (g : Go tb e below K T') : Go tb e below K T := by
  obtain ⟨U, h1, h2⟩ := g; exact ⟨U, h U h1, h2⟩
theorem Go.tr {tb : Tables} {K : State → Prop} {T T' : State} (h : Steps tb e below T T') (g : Go tb e below K T') : Go tb e below K T := by
  obtain ⟨U, h1, h2⟩ := g; exact ⟨U, h.trans h1, h2⟩
/-- where a body may end -/
def own_Fin (s : State) (below : List Frame) (CC SS : Nat) (Q : Option Value → Heap → List Loc → Prop) (U : State) : Prop :=
  ∃ o, U.status = .running ∧ Ended U below o ∧ ∃ v L, o = .returned v ∧ Q v U.heap L ∧ FrameEnd s o U L CC SS
theorem own_start {tb : Tables} {CC SS : Nat} {Q : Option Value → Heap → List Loc → Prop} {T : State} (g : Go tb e below (own_Fin s below CC SS Q) T) :
    ∃ s₂ o, Steps tb e below T s₂ ∧ s₂.status = .running ∧ Ended s₂ below o ∧ ∃ v L, o = .returned v ∧ Q v s₂.heap L ∧ FrameEnd s o s₂ L CC SS := by
  obtain ⟨U, h1, o, h2, h3, h4⟩ := g; exact ⟨U, o, h1, h2, h3, h4⟩
theorem own_cast {tb : Tables} {K : State → Prop} {f f' : JFrame} (q : f = f') (g : Go tb e below K (T.setTop f')) : Go tb e below K (T.setTop f) := q ▸ g
section Ends
variable {CC SS : Nat} {Q : Option Value → Heap → List Loc → Prop}
theorem own_end (X : Stand p l e R s m args below meth c T locs cells slots) (hlocks : meth.locks = false) {v : Option Value} (hv : meth.sig.returnType = none → v = none) {f : JFrame}
    (k : ∀ fs, (∀ (f : JFrame) (acts : List Action), f.method = m → f.locked = none → f.entered = [] → (doReturn e (T.setTop f) acts v).1 = T.setFrames fs) → Steps p.tables e below (T.setTop f) (T.setFrames fs))
    (hq : Q v T.heap locs) (hc : cells ≤ CC) (hs : slots ≤ SS) : Go p.tables e below (own_Fin s below CC SS Q) (T.setTop f) := by
  obtain ⟨fs, hr, hrun, hended, hW, hsame⟩ := X.leave (v := v) hv hlocks
  exact ⟨_, k fs hr, _, hrun, hended, _, _, rfl, hq, ⟨_, rfl⟩, hW, hsame.mono hc hs⟩
theorem own_ret0 (X : Stand p l e R s m args below meth c T locs cells slots) (hx : p.tables.exec = Jvm.exec) (hlocks : meth.locks = false) {pc : Nat} {Ls : Array Slot} (hret : meth.sig.returnType = none) (hd : decode c.code pc = .ok (.return_, 1))
    (hq : Q none T.heap locs) (hc : cells ≤ CC) (hs : slots ≤ SS) : Go p.tables e below (own_Fin s below CC SS Q) (T.setTop (mkF m pc Ls [])) :=
  own_end X hlocks (fun _ => rfl) (fun _ hr => X.returnOut hx hret hd hr) hq hc hs
theorem own_retN (X : Stand p l e R s m args below meth c T locs cells slots) (hx : p.tables.exec = Jvm.exec) (hlocks : meth.locks = false) {pc : Nat} {Ls : Array Slot} {z : Int32} {t : FieldType} {rest : List Value} (hret : meth.sig.returnType = some t) (ht : t = .boolean ∨ t = .byte ∨ t = .char ∨ t = .short) (hd : decode c.code pc = .ok (.ireturn, 1))
    (hq : Q (some (.int (nar t z))) T.heap locs) (hc : cells ≤ CC) (hs : slots ≤ SS) : Go p.tables e below (own_Fin s below CC SS Q) (T.setTop (mkF m pc Ls (.int z :: rest))) :=
  own_end X hlocks (fun h => by rw [hret] at h; cases h) (fun _ hr => retN X hx hret ht hd hr) hq hc hs
theorem own_retO (X : Stand p l e R s m args below meth c T locs cells slots) (hx : p.tables.exec = Jvm.exec) (hlocks : meth.locks = false) {pc : Nat} {Ls : Array Slot} {w : Value} {t : FieldType} {i : Instr} {rest : List Value} (hret : meth.sig.returnType = some t) (hn : narrow t w = w)
    (hi : (i = .ireturn ∧ (t = .int ∨ t = .boolean ∨ t = .byte ∨ t = .char ∨ t = .short) ∧ ∃ z, w = .int z) ∨ (i = .lreturn ∧ t = .long ∧ ∃ z, w = .long z) ∨ (i = .dreturn ∧ t = .double ∧ ∃ z, w = .double z) ∨ (i = .freturn ∧ t = .float ∧ ∃ z, w = .float z) ∨ (i = .areturn ∧ t.isReference = true ∧ w.isRef = true))
    (hd : decode c.code pc = .ok (i, 1)) (hq : Q (some w) T.heap locs) (hc : cells ≤ CC) (hs : slots ≤ SS) : Go p.tables e below (own_Fin s below CC SS Q) (T.setTop (mkF m pc Ls (w :: rest))) :=
  own_end X hlocks (fun h => by rw [hret] at h; cases h) (fun _ hr => retOut X hx hret hn hi hd hr) hq hc hs
end Ends
end OwnKit
theorem own_lt32 (x y : Int32) : x < y ↔ x.toInt < y.toInt := Int32.lt_iff_toInt_lt
theorem own_irem (x y : Int32) (hy : 0 < y.toInt) : x - (x / y) * y = x % y := by
  have h1 : y ≠ -1 := fun q => by subst q; exact absurd hy (by decide)
  apply Int32.toInt_inj.mp
  have e1 := Int32.toInt_div_of_ne_right x y h1
  have e2 := c_isub x (x / y * y)
  have e3 := c_imul (x / y) y
  have e4 : (x % y).toInt = x.toInt.tmod y.toInt := Int32.toInt_mod x y
  have e5 := Int.tmod_add_mul_tdiv x.toInt y.toInt
  rw [e1, Int.mul_comm] at e3
  have r1 := rng32 (x - x / y * y)
  have r2 := rng32 (x % y)
  omega
theorem own_rem (x y : Int32) (hx : 0 ≤ x.toInt) (hy : 0 < y.toInt) : 0 ≤ (x - (x / y) * y).toInt ∧ (x - (x / y) * y).toInt < y.toInt := by
  rw [own_irem x y hy, (c_irem x y y.toInt rfl).1 hx]
  exact ⟨Int.emod_nonneg _ (by omega), Int.emod_lt_of_pos _ hy⟩
def own_bb (x : Int32) : Int32 := ((x.toInt8.toInt32).toInt8.toInt32)
theorem own_bb_eq (x : Int32) (h : 0 ≤ x.toInt ∧ x.toInt < 256) : own_bb x = ((46 : Int32).toInt8.toInt32) ↔ x = 46 := by
  constructor
  · intro q
    have h1 := c_i2b x
    have h2 := c_i2b (x.toInt8.toInt32)
    have q' : (x.toInt8.toInt32).toInt8.toInt32.toInt = 46 := by
      have := congrArg Int32.toInt q
      rw [show ((46 : Int32).toInt8.toInt32).toInt = 46 from by decide] at this; exact this
    apply Int32.toInt_inj.mp
    rw [show (46 : Int32).toInt = 46 from by decide]
    omega
  · intro q; subst q; decide
theorem own_nar (x : Int32) (h : 0 ≤ x.toInt ∧ x.toInt < 65536) : nar .char x = x := by
  have h1 := c_i2c x
  apply Int32.toInt_inj.mp
  show x.toUInt32.toUInt16.toUInt32.toInt32.toInt = _
  omega
def own_isWs (c : Int32) : Int32 := if c = 32 then 1 else if c < 9 then (if c = 133 then 1 else if c = 160 then 1 else 0) else if 13 < c then (if c = 133 then 1 else if c = 160 then 1 else 0) else 1
def own_ws (k : Int32) : Int32 := if k = 0 then 32 else if k = 1 then 9 else if k = 2 then 10 else if k = 3 then 11 else if k = 4 then 12 else if k = 5 then 13 else if k = 6 then 133 else 160
theorem own_ws_ok (k : Int32) : 0 ≤ (own_ws k).toInt ∧ (own_ws k).toInt < 256 ∧ ¬ own_ws k = 46 := by
  unfold own_ws
  (repeat' split) <;> decide
def own_cell (i df dt ps pe da d0 d1 e : Int32) : Int32 := if i < df then own_ws (((e.toUInt32 >>> (((3 : Int32) * i) &&& 31).toUInt32).toInt32) &&& 7) else if i < dt then 46 else if i < ps then own_ws (((e.toUInt32 >>> (((3 : Int32) * i) &&& 31).toUInt32).toInt32) &&& 7) else if i < pe then (if da = 0 then (if i = ps then d0 else d1) else (if i = ps then 45 else if i = pe - 1 then 45 else d0)) else own_ws (((e.toUInt32 >>> (((3 : Int32) * i) &&& 31).toUInt32).toInt32) &&& 7)
theorem own_cell_ok (i df dt ps pe da d0 d1 e : Int32) (h0 : 0 ≤ d0.toInt ∧ d0.toInt < 256) (h1 : 0 ≤ d1.toInt ∧ d1.toInt < 256) : 0 ≤ (own_cell i df dt ps pe da d0 d1 e).toInt ∧ (own_cell i df dt ps pe da d0 d1 e).toInt < 256 := by
  have hw := own_ws_ok (((e.toUInt32 >>> (((3 : Int32) * i) &&& 31).toUInt32).toInt32) &&& 7)
  unfold own_cell
  (repeat' split) <;> first | exact h0 | exact h1 | exact ⟨hw.1, hw.2.1⟩ | decide
theorem own_cell_no (i p pe da d0 d1 e : Int32) (h0 : ¬ d0 = 46) (h1 : ¬ d1 = 46) : ¬ own_cell i p p p pe da d0 d1 e = 46 := by
  have hw := (own_ws_ok (((e.toUInt32 >>> (((3 : Int32) * i) &&& 31).toUInt32).toInt32) &&& 7)).2.2
  unfold own_cell
  (repeat' split) <;> first | exact h0 | exact h1 | exact hw | decide | contradiction
theorem own_cell_yes (i df dt ps pe da d0 d1 e : Int32) (h0 : ¬ i < df) (h1 : i < dt) : own_cell i df dt ps pe da d0 d1 e = 46 := by
  unfold own_cell; rw [if_neg h0, if_pos h1]
def own_ix (x2 x3 x4 x5 x6 x7 : Int32) : Int32 := if own_bb x2 = ((46 : Int32).toInt8.toInt32) then 2 else if own_bb x3 = ((46 : Int32).toInt8.toInt32) then 3 else if own_bb x4 = ((46 : Int32).toInt8.toInt32) then 4 else if own_bb x5 = ((46 : Int32).toInt8.toInt32) then 5 else if own_bb x6 = ((46 : Int32).toInt8.toInt32) then 6 else if own_bb x7 = ((46 : Int32).toInt8.toInt32) then 7 else -1

theorem d1_0 : decode method_5_code 0 = .ok (.iload_n 0, 1) := by decide +kernel
theorem d1_1 : decode method_5_code 1 = .ok (.bipush 32, 2) := by decide +kernel
theorem d1_3 : decode method_5_code 3 = .ok (.if_icmp .eq 29, 3) := by decide +kernel
theorem d1_6 : decode method_5_code 6 = .ok (.iload_n 0, 1) := by decide +kernel
theorem d1_7 : decode method_5_code 7 = .ok (.bipush 9, 2) := by decide +kernel
theorem d1_9 : decode method_5_code 9 = .ok (.if_icmp .lt 9, 3) := by decide +kernel
theorem d1_12 : decode method_5_code 12 = .ok (.iload_n 0, 1) := by decide +kernel
theorem d1_13 : decode method_5_code 13 = .ok (.bipush 13, 2) := by decide +kernel
theorem d1_15 : decode method_5_code 15 = .ok (.if_icmp .le 17, 3) := by decide +kernel
theorem d1_18 : decode method_5_code 18 = .ok (.iload_n 0, 1) := by decide +kernel
theorem d1_19 : decode method_5_code 19 = .ok (.sipush 133, 3) := by decide +kernel
theorem d1_22 : decode method_5_code 22 = .ok (.if_icmp .eq 10, 3) := by decide +kernel
theorem d1_25 : decode method_5_code 25 = .ok (.iload_n 0, 1) := by decide +kernel
theorem d1_26 : decode method_5_code 26 = .ok (.sipush 160, 3) := by decide +kernel
theorem d1_29 : decode method_5_code 29 = .ok (.if_icmp .ne 7, 3) := by decide +kernel
theorem d1_32 : decode method_5_code 32 = .ok (.iconst 1, 1) := by decide +kernel
theorem d1_33 : decode method_5_code 33 = .ok (.goto 4, 3) := by decide +kernel
theorem d1_36 : decode method_5_code 36 = .ok (.iconst 0, 1) := by decide +kernel
theorem d1_37 : decode method_5_code 37 = .ok (.ireturn, 1) := by decide +kernel
theorem pn_1 : plainFor (⟨"com/example/clausewright/clausewright/PageNumberHasDotLeadersPinLaw", "isWs", "(C)Z"⟩ : MethodName) = true := plainFor_of_name (by first | (simp [plainName, overriddenIn]; done) | decide +kernel)
theorem ef_1 (m : MethodId) (x0 : Int32) : entryFrame m #[(.int x0)] 1 = mkF m 0 #[.val (.int x0)] [] := by first | (simp [entryFrame, mkF, argsToLocals, Value.category]; done) | rfl
def Q1 (Z : State) (p1 : Int32)  (h0 : Heap) (n0 : Nat) (v : Option Value) (h : Heap) (L : List Loc) : Prop := v = some (.int (own_isWs p1)) ∧ Fr n0 L ∧ h = h0
set_option maxRecDepth 65536 in
set_option maxHeartbeats 40000000 in
theorem rm1 (l : Launch) (Z : State) (a0 : Array Value) (hw : ∀ d ∈ tables_1, d.before a0 Z = true) (ws : List Jvm.Cond) (p1 : Int32)  (h0 : Heap) (n0 : Nat) (Z0 : n0 ≤ h0.size) :
    MetFree l (⟨"com/example/clausewright/clausewright/PageNumberHasDotLeadersPinLaw", "isWs", "(C)Z"⟩ : MethodName) (head1 (Jvm.Cond.code (⟨"com/example/clausewright/clausewright/PageNumberHasDotLeadersPinLaw", "isWs", "(C)Z"⟩ : MethodName) method_5_code 1 (some .boolean) :: ws) ({ frames := 0, cells := 0, slots := 0, locals := 0 } : Room)) (fun a U => a = #[(.int p1)] ∧ Z.Warmed39 U.vm ∧ U.heap = h0) (fun _ _ _ _ _ => True) (fun _ U o U' => ∃ v L, o = .returned v ∧ Q1 Z p1 h0 n0 v U'.heap L ∧ FrameEnd U o U' L ({ frames := 0, cells := 0, slots := 0, locals := 0 } : Room).cells ({ frames := 0, cells := 0, slots := 0, locals := 0 } : Room).slots) := by
  refine MetFree.of_bodySF pn_1 hisR ?_
  intro p e s m args below meth c s₁ Bd hml0 hP hK
  obtain ⟨rfl, hZ, hh⟩ := hP
  have hx := Bd.exec
  have hby := Bd.bytes
  have hml : c.maxLocals = 1 := hml0
  have hown : s.vm.findClass "com/example/clausewright/clausewright/PageNumberHasDotLeadersPinLaw" = some m.cls := findClass_of_methodNamed Bd.named
  have hnm := (name_of_methodNamed Bd.named Bd.method).1
  have X0 : Stand p l e ({ frames := 0, cells := 0, slots := 0, locals := 0 } : Room) s m #[(.int p1)] below meth c s₁ [] 0 0 := Stand.of_body Bd
  have e0 : s₁.heap = h0 := by rw [← hh, Bd.state]; rfl
  have N0 := Fr.nil n0
  refine own_start (Q := Q1 Z p1 h0 n0) (own_cast (ef_1 m p1) ?_)
  show Go p.tables e below _ (s₁.setTop (mkF m 0 #[.val (.int p1)] []))
  refine Go.st (fun U hr => XS.iloadN X0.here hx rfl (hb hby d1_0) rfl hr) ?_
  show Go p.tables e below _ (s₁.setTop (mkF m 1 #[.val (.int p1)] [(.int p1)]))
  refine Go.st (fun U hr => XS.bipush X0.here hx rfl (hb hby d1_1) hr) ?_
  show Go p.tables e below _ (s₁.setTop (mkF m 3 #[.val (.int p1)] [(.int (32 : Int32)), (.int p1)]))
  by_cases hc3_1 : p1 = (32 : Int32)
  · refine Go.st (fun U hr => XS.icmpYes X0.here hx rfl (pc0 := 3) (pc' := 32) rfl (hb hby d1_3) rfl (teq hc3_1).1 (by decide) (by decide) hr) ?_
    show Go p.tables e below _ (s₁.setTop (mkF m 32 #[.val (.int p1)] []))
    refine Go.st (fun U hr => XS.iconst X0.here hx rfl (hb hby d1_32) hr) ?_
    show Go p.tables e below _ (s₁.setTop (mkF m 33 #[.val (.int p1)] [(.int (1 : Int32))]))
    refine Go.st (fun U hr => XS.goto X0.here hx rfl (pc0 := 33) (pc' := 37) rfl (hb hby d1_33) (by decide) (by decide) hr) ?_
    show Go p.tables e below _ (s₁.setTop (mkF m 37 #[.val (.int p1)] [(.int (1 : Int32))]))
    exact own_retN X0 hx Bd.notSynchronized (t := .boolean) Bd.returns (by simp) (hb hby d1_37) ⟨by simp [own_isWs, nar, hc3_1], N0, e0⟩ (by decide) (by decide)
  · refine Go.st (fun U hr => XS.icmpNo X0.here hx rfl (hb hby d1_3) rfl (feq hc3_1).1 hr) ?_
    show Go p.tables e below _ (s₁.setTop (mkF m 6 #[.val (.int p1)] []))
    refine Go.st (fun U hr => XS.iloadN X0.here hx rfl (hb hby d1_6) rfl hr) ?_
    show Go p.tables e below _ (s₁.setTop (mkF m 7 #[.val (.int p1)] [(.int p1)]))
    refine Go.st (fun U hr => XS.bipush X0.here hx rfl (hb hby d1_7) hr) ?_
    show Go p.tables e below _ (s₁.setTop (mkF m 9 #[.val (.int p1)] [(.int (9 : Int32)), (.int p1)]))
    by_cases hc9_2 : p1 < (9 : Int32)
    · refine Go.st (fun U hr => XS.icmpYes X0.here hx rfl (pc0 := 9) (pc' := 18) rfl (hb hby d1_9) rfl (tlt hc9_2).1 (by decide) (by decide) hr) ?_
      show Go p.tables e below _ (s₁.setTop (mkF m 18 #[.val (.int p1)] []))
      refine Go.st (fun U hr => XS.iloadN X0.here hx rfl (hb hby d1_18) rfl hr) ?_
      show Go p.tables e below _ (s₁.setTop (mkF m 19 #[.val (.int p1)] [(.int p1)]))
      refine Go.st (fun U hr => XS.sipush X0.here hx rfl (hb hby d1_19) hr) ?_
      show Go p.tables e below _ (s₁.setTop (mkF m 22 #[.val (.int p1)] [(.int (133 : Int32)), (.int p1)]))
      by_cases hc22_3 : p1 = (133 : Int32)
      · refine Go.st (fun U hr => XS.icmpYes X0.here hx rfl (pc0 := 22) (pc' := 32) rfl (hb hby d1_22) rfl (teq hc22_3).1 (by decide) (by decide) hr) ?_
        show Go p.tables e below _ (s₁.setTop (mkF m 32 #[.val (.int p1)] []))
        refine Go.st (fun U hr => XS.iconst X0.here hx rfl (hb hby d1_32) hr) ?_
        show Go p.tables e below _ (s₁.setTop (mkF m 33 #[.val (.int p1)] [(.int (1 : Int32))]))
        refine Go.st (fun U hr => XS.goto X0.here hx rfl (pc0 := 33) (pc' := 37) rfl (hb hby d1_33) (by decide) (by decide) hr) ?_
        show Go p.tables e below _ (s₁.setTop (mkF m 37 #[.val (.int p1)] [(.int (1 : Int32))]))
        exact own_retN X0 hx Bd.notSynchronized (t := .boolean) Bd.returns (by simp) (hb hby d1_37) ⟨by simp [own_isWs, nar, hc3_1, hc9_2, hc22_3], N0, e0⟩ (by decide) (by decide)
      · refine Go.st (fun U hr => XS.icmpNo X0.here hx rfl (hb hby d1_22) rfl (feq hc22_3).1 hr) ?_
        show Go p.tables e below _ (s₁.setTop (mkF m 25 #[.val (.int p1)] []))
        refine Go.st (fun U hr => XS.iloadN X0.here hx rfl (hb hby d1_25) rfl hr) ?_
        show Go p.tables e below _ (s₁.setTop (mkF m 26 #[.val (.int p1)] [(.int p1)]))
        refine Go.st (fun U hr => XS.sipush X0.here hx rfl (hb hby d1_26) hr) ?_
        show Go p.tables e below _ (s₁.setTop (mkF m 29 #[.val (.int p1)] [(.int (160 : Int32)), (.int p1)]))
        by_cases hc29_4 : p1 = (160 : Int32)
        · refine Go.st (fun U hr => XS.icmpNo X0.here hx rfl (hb hby d1_29) rfl (teq hc29_4).2 hr) ?_
          show Go p.tables e below _ (s₁.setTop (mkF m 32 #[.val (.int p1)] []))
          refine Go.st (fun U hr => XS.iconst X0.here hx rfl (hb hby d1_32) hr) ?_
          show Go p.tables e below _ (s₁.setTop (mkF m 33 #[.val (.int p1)] [(.int (1 : Int32))]))
          refine Go.st (fun U hr => XS.goto X0.here hx rfl (pc0 := 33) (pc' := 37) rfl (hb hby d1_33) (by decide) (by decide) hr) ?_
          show Go p.tables e below _ (s₁.setTop (mkF m 37 #[.val (.int p1)] [(.int (1 : Int32))]))
          exact own_retN X0 hx Bd.notSynchronized (t := .boolean) Bd.returns (by simp) (hb hby d1_37) ⟨by simp [own_isWs, nar, hc3_1, hc9_2, hc22_3, hc29_4], N0, e0⟩ (by decide) (by decide)
        · refine Go.st (fun U hr => XS.icmpYes X0.here hx rfl (pc0 := 29) (pc' := 36) rfl (hb hby d1_29) rfl (feq hc29_4).2 (by decide) (by decide) hr) ?_
          show Go p.tables e below _ (s₁.setTop (mkF m 36 #[.val (.int p1)] []))
          refine Go.st (fun U hr => XS.iconst X0.here hx rfl (hb hby d1_36) hr) ?_
          show Go p.tables e below _ (s₁.setTop (mkF m 37 #[.val (.int p1)] [(.int (0 : Int32))]))
          exact own_retN X0 hx Bd.notSynchronized (t := .boolean) Bd.returns (by simp) (hb hby d1_37) ⟨by simp [own_isWs, nar, hc3_1, hc9_2, hc22_3, hc29_4], N0, e0⟩ (by decide) (by decide)
    · refine Go.st (fun U hr => XS.icmpNo X0.here hx rfl (hb hby d1_9) rfl (flt hc9_2).1 hr) ?_
      show Go p.tables e below _ (s₁.setTop (mkF m 12 #[.val (.int p1)] []))
      refine Go.st (fun U hr => XS.iloadN X0.here hx rfl (hb hby d1_12) rfl hr) ?_
      show Go p.tables e below _ (s₁.setTop (mkF m 13 #[.val (.int p1)] [(.int p1)]))
      refine Go.st (fun U hr => XS.bipush X0.here hx rfl (hb hby d1_13) hr) ?_
      show Go p.tables e below _ (s₁.setTop (mkF m 15 #[.val (.int p1)] [(.int (13 : Int32)), (.int p1)]))
      by_cases hc15_5 : (13 : Int32) < p1
      · refine Go.st (fun U hr => XS.icmpNo X0.here hx rfl (hb hby d1_15) rfl (tlt hc15_5).2.2.2 hr) ?_
        show Go p.tables e below _ (s₁.setTop (mkF m 18 #[.val (.int p1)] []))
        refine Go.st (fun U hr => XS.iloadN X0.here hx rfl (hb hby d1_18) rfl hr) ?_
        show Go p.tables e below _ (s₁.setTop (mkF m 19 #[.val (.int p1)] [(.int p1)]))
        refine Go.st (fun U hr => XS.sipush X0.here hx rfl (hb hby d1_19) hr) ?_
        show Go p.tables e below _ (s₁.setTop (mkF m 22 #[.val (.int p1)] [(.int (133 : Int32)), (.int p1)]))
        by_cases hc22_6 : p1 = (133 : Int32)
        · refine Go.st (fun U hr => XS.icmpYes X0.here hx rfl (pc0 := 22) (pc' := 32) rfl (hb hby d1_22) rfl (teq hc22_6).1 (by decide) (by decide) hr) ?_
          show Go p.tables e below _ (s₁.setTop (mkF m 32 #[.val (.int p1)] []))
          refine Go.st (fun U hr => XS.iconst X0.here hx rfl (hb hby d1_32) hr) ?_
          show Go p.tables e below _ (s₁.setTop (mkF m 33 #[.val (.int p1)] [(.int (1 : Int32))]))
          refine Go.st (fun U hr => XS.goto X0.here hx rfl (pc0 := 33) (pc' := 37) rfl (hb hby d1_33) (by decide) (by decide) hr) ?_
          show Go p.tables e below _ (s₁.setTop (mkF m 37 #[.val (.int p1)] [(.int (1 : Int32))]))
          exact own_retN X0 hx Bd.notSynchronized (t := .boolean) Bd.returns (by simp) (hb hby d1_37) ⟨by simp [own_isWs, nar, hc3_1, hc9_2, hc15_5, hc22_6], N0, e0⟩ (by decide) (by decide)
        · refine Go.st (fun U hr => XS.icmpNo X0.here hx rfl (hb hby d1_22) rfl (feq hc22_6).1 hr) ?_
          show Go p.tables e below _ (s₁.setTop (mkF m 25 #[.val (.int p1)] []))
          refine Go.st (fun U hr => XS.iloadN X0.here hx rfl (hb hby d1_25) rfl hr) ?_
          show Go p.tables e below _ (s₁.setTop (mkF m 26 #[.val (.int p1)] [(.int p1)]))
          refine Go.st (fun U hr => XS.sipush X0.here hx rfl (hb hby d1_26) hr) ?_
          show Go p.tables e below _ (s₁.setTop (mkF m 29 #[.val (.int p1)] [(.int (160 : Int32)), (.int p1)]))
          by_cases hc29_7 : p1 = (160 : Int32)
          · refine Go.st (fun U hr => XS.icmpNo X0.here hx rfl (hb hby d1_29) rfl (teq hc29_7).2 hr) ?_
            show Go p.tables e below _ (s₁.setTop (mkF m 32 #[.val (.int p1)] []))
            refine Go.st (fun U hr => XS.iconst X0.here hx rfl (hb hby d1_32) hr) ?_
            show Go p.tables e below _ (s₁.setTop (mkF m 33 #[.val (.int p1)] [(.int (1 : Int32))]))
            refine Go.st (fun U hr => XS.goto X0.here hx rfl (pc0 := 33) (pc' := 37) rfl (hb hby d1_33) (by decide) (by decide) hr) ?_
            show Go p.tables e below _ (s₁.setTop (mkF m 37 #[.val (.int p1)] [(.int (1 : Int32))]))
            exact own_retN X0 hx Bd.notSynchronized (t := .boolean) Bd.returns (by simp) (hb hby d1_37) ⟨by simp [own_isWs, nar, hc3_1, hc9_2, hc15_5, hc22_6, hc29_7], N0, e0⟩ (by decide) (by decide)
          · refine Go.st (fun U hr => XS.icmpYes X0.here hx rfl (pc0 := 29) (pc' := 36) rfl (hb hby d1_29) rfl (feq hc29_7).2 (by decide) (by decide) hr) ?_
            show Go p.tables e below _ (s₁.setTop (mkF m 36 #[.val (.int p1)] []))
            refine Go.st (fun U hr => XS.iconst X0.here hx rfl (hb hby d1_36) hr) ?_
            show Go p.tables e below _ (s₁.setTop (mkF m 37 #[.val (.int p1)] [(.int (0 : Int32))]))
            exact own_retN X0 hx Bd.notSynchronized (t := .boolean) Bd.returns (by simp) (hb hby d1_37) ⟨by simp [own_isWs, nar, hc3_1, hc9_2, hc15_5, hc22_6, hc29_7], N0, e0⟩ (by decide) (by decide)
      · refine Go.st (fun U hr => XS.icmpYes X0.here hx rfl (pc0 := 15) (pc' := 32) rfl (hb hby d1_15) rfl (flt hc15_5).2.2.2 (by decide) (by decide) hr) ?_
        show Go p.tables e below _ (s₁.setTop (mkF m 32 #[.val (.int p1)] []))
        refine Go.st (fun U hr => XS.iconst X0.here hx rfl (hb hby d1_32) hr) ?_
        show Go p.tables e below _ (s₁.setTop (mkF m 33 #[.val (.int p1)] [(.int (1 : Int32))]))
        refine Go.st (fun U hr => XS.goto X0.here hx rfl (pc0 := 33) (pc' := 37) rfl (hb hby d1_33) (by decide) (by decide) hr) ?_
        show Go p.tables e below _ (s₁.setTop (mkF m 37 #[.val (.int p1)] [(.int (1 : Int32))]))
        exact own_retN X0 hx Bd.notSynchronized (t := .boolean) Bd.returns (by simp) (hb hby d1_37) ⟨by simp [own_isWs, nar, hc3_1, hc9_2, hc15_5], N0, e0⟩ (by decide) (by decide)
theorem d3_0 : decode method_4_code 0 = .ok (.iload_n 0, 1) := by decide +kernel
theorem d3_1 : decode method_4_code 1 = .ok (.ifCond .ne 6, 3) := by decide +kernel
theorem d3_4 : decode method_4_code 4 = .ok (.bipush 32, 2) := by decide +kernel
theorem d3_6 : decode method_4_code 6 = .ok (.ireturn, 1) := by decide +kernel
theorem d3_7 : decode method_4_code 7 = .ok (.iload_n 0, 1) := by decide +kernel
theorem d3_8 : decode method_4_code 8 = .ok (.iconst 1, 1) := by decide +kernel
theorem d3_9 : decode method_4_code 9 = .ok (.if_icmp .ne 6, 3) := by decide +kernel
theorem d3_12 : decode method_4_code 12 = .ok (.bipush 9, 2) := by decide +kernel
theorem d3_14 : decode method_4_code 14 = .ok (.ireturn, 1) := by decide +kernel
theorem d3_15 : decode method_4_code 15 = .ok (.iload_n 0, 1) := by decide +kernel
theorem d3_16 : decode method_4_code 16 = .ok (.iconst 2, 1) := by decide +kernel
theorem d3_17 : decode method_4_code 17 = .ok (.if_icmp .ne 6, 3) := by decide +kernel
theorem d3_20 : decode method_4_code 20 = .ok (.bipush 10, 2) := by decide +kernel
theorem d3_22 : decode method_4_code 22 = .ok (.ireturn, 1) := by decide +kernel
theorem d3_23 : decode method_4_code 23 = .ok (.iload_n 0, 1) := by decide +kernel
theorem d3_24 : decode method_4_code 24 = .ok (.iconst 3, 1) := by decide +kernel
theorem d3_25 : decode method_4_code 25 = .ok (.if_icmp .ne 6, 3) := by decide +kernel
theorem d3_28 : decode method_4_code 28 = .ok (.bipush 11, 2) := by decide +kernel
theorem d3_30 : decode method_4_code 30 = .ok (.ireturn, 1) := by decide +kernel
theorem d3_31 : decode method_4_code 31 = .ok (.iload_n 0, 1) := by decide +kernel
theorem d3_32 : decode method_4_code 32 = .ok (.iconst 4, 1) := by decide +kernel
theorem d3_33 : decode method_4_code 33 = .ok (.if_icmp .ne 6, 3) := by decide +kernel
theorem d3_36 : decode method_4_code 36 = .ok (.bipush 12, 2) := by decide +kernel
theorem d3_38 : decode method_4_code 38 = .ok (.ireturn, 1) := by decide +kernel
theorem d3_39 : decode method_4_code 39 = .ok (.iload_n 0, 1) := by decide +kernel
theorem d3_40 : decode method_4_code 40 = .ok (.iconst 5, 1) := by decide +kernel
theorem d3_41 : decode method_4_code 41 = .ok (.if_icmp .ne 6, 3) := by decide +kernel
theorem d3_44 : decode method_4_code 44 = .ok (.bipush 13, 2) := by decide +kernel
theorem d3_46 : decode method_4_code 46 = .ok (.ireturn, 1) := by decide +kernel
theorem d3_47 : decode method_4_code 47 = .ok (.iload_n 0, 1) := by decide +kernel
theorem d3_48 : decode method_4_code 48 = .ok (.bipush 6, 2) := by decide +kernel
theorem d3_50 : decode method_4_code 50 = .ok (.if_icmp .ne 7, 3) := by decide +kernel
theorem d3_53 : decode method_4_code 53 = .ok (.sipush 133, 3) := by decide +kernel
theorem d3_56 : decode method_4_code 56 = .ok (.ireturn, 1) := by decide +kernel
theorem d3_57 : decode method_4_code 57 = .ok (.sipush 160, 3) := by decide +kernel
theorem d3_60 : decode method_4_code 60 = .ok (.ireturn, 1) := by decide +kernel
theorem pn_3 : plainFor (⟨"com/example/clausewright/clausewright/PageNumberHasDotLeadersPinLaw", "ws", "(I)C"⟩ : MethodName) = true := plainFor_of_name (by first | (simp [plainName, overriddenIn]; done) | decide +kernel)
theorem ef_3 (m : MethodId) (x0 : Int32) : entryFrame m #[(.int x0)] 1 = mkF m 0 #[.val (.int x0)] [] := by first | (simp [entryFrame, mkF, argsToLocals, Value.category]; done) | rfl
def Q3 (Z : State) (p1 : Int32)  (h0 : Heap) (n0 : Nat) (v : Option Value) (h : Heap) (L : List Loc) : Prop := v = some (.int (own_ws p1)) ∧ Fr n0 L ∧ h = h0
set_option maxRecDepth 65536 in
set_option maxHeartbeats 40000000 in
theorem rm3 (l : Launch) (Z : State) (a0 : Array Value) (hw : ∀ d ∈ tables_1, d.before a0 Z = true) (ws : List Jvm.Cond) (p1 : Int32)  (h0 : Heap) (n0 : Nat) (Z0 : n0 ≤ h0.size) :
    MetFree l (⟨"com/example/clausewright/clausewright/PageNumberHasDotLeadersPinLaw", "ws", "(I)C"⟩ : MethodName) (head1 (Jvm.Cond.code (⟨"com/example/clausewright/clausewright/PageNumberHasDotLeadersPinLaw", "ws", "(I)C"⟩ : MethodName) method_4_code 1 (some .char) :: ws) ({ frames := 0, cells := 0, slots := 0, locals := 0 } : Room)) (fun a U => a = #[(.int p1)] ∧ Z.Warmed39 U.vm ∧ U.heap = h0) (fun _ _ _ _ _ => True) (fun _ U o U' => ∃ v L, o = .returned v ∧ Q3 Z p1 h0 n0 v U'.heap L ∧ FrameEnd U o U' L ({ frames := 0, cells := 0, slots := 0, locals := 0 } : Room).cells ({ frames := 0, cells := 0, slots := 0, locals := 0 } : Room).slots) := by
  refine MetFree.of_bodySF pn_3 hisR ?_
  intro p e s m args below meth c s₁ Bd hml0 hP hK
  obtain ⟨rfl, hZ, hh⟩ := hP
  have hx := Bd.exec
  have hby := Bd.bytes
  have hml : c.maxLocals = 1 := hml0
  have hown : s.vm.findClass "com/example/clausewright/clausewright/PageNumberHasDotLeadersPinLaw" = some m.cls := findClass_of_methodNamed Bd.named
  have hnm := (name_of_methodNamed Bd.named Bd.method).1
  have X0 : Stand p l e ({ frames := 0, cells := 0, slots := 0, locals := 0 } : Room) s m #[(.int p1)] below meth c s₁ [] 0 0 := Stand.of_body Bd
  have e0 : s₁.heap = h0 := by rw [← hh, Bd.state]; rfl
  have N0 := Fr.nil n0
  refine own_start (Q := Q3 Z p1 h0 n0) (own_cast (ef_3 m p1) ?_)
  show Go p.tables e below _ (s₁.setTop (mkF m 0 #[.val (.int p1)] []))
  refine Go.st (fun U hr => XS.iloadN X0.here hx rfl (hb hby d3_0) rfl hr) ?_
  show Go p.tables e below _ (s₁.setTop (mkF m 1 #[.val (.int p1)] [(.int p1)]))
  by_cases hc1_1 : p1 = (0 : Int32)
  · refine Go.st (fun U hr => XS.ifNo X0.here hx rfl (hb hby d3_1) rfl ((if0 _ _).trans (teq hc1_1).2) hr) ?_
    show Go p.tables e below _ (s₁.setTop (mkF m 4 #[.val (.int p1)] []))
    refine Go.st (fun U hr => XS.bipush X0.here hx rfl (hb hby d3_4) hr) ?_
    show Go p.tables e below _ (s₁.setTop (mkF m 6 #[.val (.int p1)] [(.int (32 : Int32))]))
    exact own_retN X0 hx Bd.notSynchronized (t := .char) Bd.returns (by simp) (hb hby d3_6) ⟨by rw [show nar .char (32 : Int32) = (32 : Int32) from by decide]; simp [own_ws, hc1_1], N0, e0⟩ (by decide) (by decide)
  · refine Go.st (fun U hr => XS.ifYes X0.here hx rfl (pc0 := 1) (pc' := 7) rfl (hb hby d3_1) rfl ((if0 _ _).trans (feq hc1_1).2) (by decide) (by decide) hr) ?_
    show Go p.tables e below _ (s₁.setTop (mkF m 7 #[.val (.int p1)] []))
    refine Go.st (fun U hr => XS.iloadN X0.here hx rfl (hb hby d3_7) rfl hr) ?_
    show Go p.tables e below _ (s₁.setTop (mkF m 8 #[.val (.int p1)] [(.int p1)]))
    refine Go.st (fun U hr => XS.iconst X0.here hx rfl (hb hby d3_8) hr) ?_
    show Go p.tables e below _ (s₁.setTop (mkF m 9 #[.val (.int p1)] [(.int (1 : Int32)), (.int p1)]))
    by_cases hc9_2 : p1 = (1 : Int32)
    · refine Go.st (fun U hr => XS.icmpNo X0.here hx rfl (hb hby d3_9) rfl (teq hc9_2).2 hr) ?_
      show Go p.tables e below _ (s₁.setTop (mkF m 12 #[.val (.int p1)] []))
      refine Go.st (fun U hr => XS.bipush X0.here hx rfl (hb hby d3_12) hr) ?_
      show Go p.tables e below _ (s₁.setTop (mkF m 14 #[.val (.int p1)] [(.int (9 : Int32))]))
      exact own_retN X0 hx Bd.notSynchronized (t := .char) Bd.returns (by simp) (hb hby d3_14) ⟨by rw [show nar .char (9 : Int32) = (9 : Int32) from by decide]; simp [own_ws, hc1_1, hc9_2], N0, e0⟩ (by decide) (by decide)
    · refine Go.st (fun U hr => XS.icmpYes X0.here hx rfl (pc0 := 9) (pc' := 15) rfl (hb hby d3_9) rfl (feq hc9_2).2 (by decide) (by decide) hr) ?_
      show Go p.tables e below _ (s₁.setTop (mkF m 15 #[.val (.int p1)] []))
      refine Go.st (fun U hr => XS.iloadN X0.here hx rfl (hb hby d3_15) rfl hr) ?_
      show Go p.tables e below _ (s₁.setTop (mkF m 16 #[.val (.int p1)] [(.int p1)]))
      refine Go.st (fun U hr => XS.iconst X0.here hx rfl (hb hby d3_16) hr) ?_
      show Go p.tables e below _ (s₁.setTop (mkF m 17 #[.val (.int p1)] [(.int (2 : Int32)), (.int p1)]))
      by_cases hc17_3 : p1 = (2 : Int32)
      · refine Go.st (fun U hr => XS.icmpNo X0.here hx rfl (hb hby d3_17) rfl (teq hc17_3).2 hr) ?_
        show Go p.tables e below _ (s₁.setTop (mkF m 20 #[.val (.int p1)] []))
        refine Go.st (fun U hr => XS.bipush X0.here hx rfl (hb hby d3_20) hr) ?_
        show Go p.tables e below _ (s₁.setTop (mkF m 22 #[.val (.int p1)] [(.int (10 : Int32))]))
        exact own_retN X0 hx Bd.notSynchronized (t := .char) Bd.returns (by simp) (hb hby d3_22) ⟨by rw [show nar .char (10 : Int32) = (10 : Int32) from by decide]; simp [own_ws, hc1_1, hc9_2, hc17_3], N0, e0⟩ (by decide) (by decide)
      · refine Go.st (fun U hr => XS.icmpYes X0.here hx rfl (pc0 := 17) (pc' := 23) rfl (hb hby d3_17) rfl (feq hc17_3).2 (by decide) (by decide) hr) ?_
        show Go p.tables e below _ (s₁.setTop (mkF m 23 #[.val (.int p1)] []))
        refine Go.st (fun U hr => XS.iloadN X0.here hx rfl (hb hby d3_23) rfl hr) ?_
        show Go p.tables e below _ (s₁.setTop (mkF m 24 #[.val (.int p1)] [(.int p1)]))
        refine Go.st (fun U hr => XS.iconst X0.here hx rfl (hb hby d3_24) hr) ?_
        show Go p.tables e below _ (s₁.setTop (mkF m 25 #[.val (.int p1)] [(.int (3 : Int32)), (.int p1)]))
        by_cases hc25_4 : p1 = (3 : Int32)
        · refine Go.st (fun U hr => XS.icmpNo X0.here hx rfl (hb hby d3_25) rfl (teq hc25_4).2 hr) ?_
          show Go p.tables e below _ (s₁.setTop (mkF m 28 #[.val (.int p1)] []))
          refine Go.st (fun U hr => XS.bipush X0.here hx rfl (hb hby d3_28) hr) ?_
          show Go p.tables e below _ (s₁.setTop (mkF m 30 #[.val (.int p1)] [(.int (11 : Int32))]))
          exact own_retN X0 hx Bd.notSynchronized (t := .char) Bd.returns (by simp) (hb hby d3_30) ⟨by rw [show nar .char (11 : Int32) = (11 : Int32) from by decide]; simp [own_ws, hc1_1, hc9_2, hc17_3, hc25_4], N0, e0⟩ (by decide) (by decide)
        · refine Go.st (fun U hr => XS.icmpYes X0.here hx rfl (pc0 := 25) (pc' := 31) rfl (hb hby d3_25) rfl (feq hc25_4).2 (by decide) (by decide) hr) ?_
          show Go p.tables e below _ (s₁.setTop (mkF m 31 #[.val (.int p1)] []))
          refine Go.st (fun U hr => XS.iloadN X0.here hx rfl (hb hby d3_31) rfl hr) ?_
          show Go p.tables e below _ (s₁.setTop (mkF m 32 #[.val (.int p1)] [(.int p1)]))
          refine Go.st (fun U hr => XS.iconst X0.here hx rfl (hb hby d3_32) hr) ?_
          show Go p.tables e below _ (s₁.setTop (mkF m 33 #[.val (.int p1)] [(.int (4 : Int32)), (.int p1)]))
          by_cases hc33_5 : p1 = (4 : Int32)
          · refine Go.st (fun U hr => XS.icmpNo X0.here hx rfl (hb hby d3_33) rfl (teq hc33_5).2 hr) ?_
            show Go p.tables e below _ (s₁.setTop (mkF m 36 #[.val (.int p1)] []))
            refine Go.st (fun U hr => XS.bipush X0.here hx rfl (hb hby d3_36) hr) ?_
            show Go p.tables e below _ (s₁.setTop (mkF m 38 #[.val (.int p1)] [(.int (12 : Int32))]))
            exact own_retN X0 hx Bd.notSynchronized (t := .char) Bd.returns (by simp) (hb hby d3_38) ⟨by rw [show nar .char (12 : Int32) = (12 : Int32) from by decide]; simp [own_ws, hc1_1, hc9_2, hc17_3, hc25_4, hc33_5], N0, e0⟩ (by decide) (by decide)
          · refine Go.st (fun U hr => XS.icmpYes X0.here hx rfl (pc0 := 33) (pc' := 39) rfl (hb hby d3_33) rfl (feq hc33_5).2 (by decide) (by decide) hr) ?_
            show Go p.tables e below _ (s₁.setTop (mkF m 39 #[.val (.int p1)] []))
            refine Go.st (fun U hr => XS.iloadN X0.here hx rfl (hb hby d3_39) rfl hr) ?_
            show Go p.tables e below _ (s₁.setTop (mkF m 40 #[.val (.int p1)] [(.int p1)]))
            refine Go.st (fun U hr => XS.iconst X0.here hx rfl (hb hby d3_40) hr) ?_
            show Go p.tables e below _ (s₁.setTop (mkF m 41 #[.val (.int p1)] [(.int (5 : Int32)), (.int p1)]))
            by_cases hc41_6 : p1 = (5 : Int32)
            · refine Go.st (fun U hr => XS.icmpNo X0.here hx rfl (hb hby d3_41) rfl (teq hc41_6).2 hr) ?_
              show Go p.tables e below _ (s₁.setTop (mkF m 44 #[.val (.int p1)] []))
              refine Go.st (fun U hr => XS.bipush X0.here hx rfl (hb hby d3_44) hr) ?_
              show Go p.tables e below _ (s₁.setTop (mkF m 46 #[.val (.int p1)] [(.int (13 : Int32))]))
              exact own_retN X0 hx Bd.notSynchronized (t := .char) Bd.returns (by simp) (hb hby d3_46) ⟨by rw [show nar .char (13 : Int32) = (13 : Int32) from by decide]; simp [own_ws, hc1_1, hc9_2, hc17_3, hc25_4, hc33_5, hc41_6], N0, e0⟩ (by decide) (by decide)
            · refine Go.st (fun U hr => XS.icmpYes X0.here hx rfl (pc0 := 41) (pc' := 47) rfl (hb hby d3_41) rfl (feq hc41_6).2 (by decide) (by decide) hr) ?_
              show Go p.tables e below _ (s₁.setTop (mkF m 47 #[.val (.int p1)] []))
              refine Go.st (fun U hr => XS.iloadN X0.here hx rfl (hb hby d3_47) rfl hr) ?_
              show Go p.tables e below _ (s₁.setTop (mkF m 48 #[.val (.int p1)] [(.int p1)]))
              refine Go.st (fun U hr => XS.bipush X0.here hx rfl (hb hby d3_48) hr) ?_
              show Go p.tables e below _ (s₁.setTop (mkF m 50 #[.val (.int p1)] [(.int (6 : Int32)), (.int p1)]))
              by_cases hc50_7 : p1 = (6 : Int32)
              · refine Go.st (fun U hr => XS.icmpNo X0.here hx rfl (hb hby d3_50) rfl (teq hc50_7).2 hr) ?_
                show Go p.tables e below _ (s₁.setTop (mkF m 53 #[.val (.int p1)] []))
                refine Go.st (fun U hr => XS.sipush X0.here hx rfl (hb hby d3_53) hr) ?_
                show Go p.tables e below _ (s₁.setTop (mkF m 56 #[.val (.int p1)] [(.int (133 : Int32))]))
                exact own_retN X0 hx Bd.notSynchronized (t := .char) Bd.returns (by simp) (hb hby d3_56) ⟨by rw [show nar .char (133 : Int32) = (133 : Int32) from by decide]; simp [own_ws, hc1_1, hc9_2, hc17_3, hc25_4, hc33_5, hc41_6, hc50_7], N0, e0⟩ (by decide) (by decide)
              · refine Go.st (fun U hr => XS.icmpYes X0.here hx rfl (pc0 := 50) (pc' := 57) rfl (hb hby d3_50) rfl (feq hc50_7).2 (by decide) (by decide) hr) ?_
                show Go p.tables e below _ (s₁.setTop (mkF m 57 #[.val (.int p1)] []))
                refine Go.st (fun U hr => XS.sipush X0.here hx rfl (hb hby d3_57) hr) ?_
                show Go p.tables e below _ (s₁.setTop (mkF m 60 #[.val (.int p1)] [(.int (160 : Int32))]))
                exact own_retN X0 hx Bd.notSynchronized (t := .char) Bd.returns (by simp) (hb hby d3_60) ⟨by rw [show nar .char (160 : Int32) = (160 : Int32) from by decide]; simp [own_ws, hc1_1, hc9_2, hc17_3, hc25_4, hc33_5, hc41_6, hc50_7], N0, e0⟩ (by decide) (by decide)
theorem d2_0 : decode method_3_code 0 = .ok (.iload 8, 2) := by decide +kernel
theorem d2_2 : decode method_3_code 2 = .ok (.iconst 3, 1) := by decide +kernel
theorem d2_3 : decode method_3_code 3 = .ok (.iload_n 0, 1) := by decide +kernel
theorem d2_4 : decode method_3_code 4 = .ok (.imul, 1) := by decide +kernel
theorem d2_5 : decode method_3_code 5 = .ok (.iushr, 1) := by decide +kernel
theorem d2_6 : decode method_3_code 6 = .ok (.bipush 7, 2) := by decide +kernel
theorem d2_8 : decode method_3_code 8 = .ok (.iand, 1) := by decide +kernel
theorem d2_9 : decode method_3_code 9 = .ok (.invokestatic 28, 3) := by decide +kernel
theorem d2_12 : decode method_3_code 12 = .ok (.istore 9, 2) := by decide +kernel
theorem d2_14 : decode method_3_code 14 = .ok (.iload_n 0, 1) := by decide +kernel
theorem d2_15 : decode method_3_code 15 = .ok (.iload_n 1, 1) := by decide +kernel
theorem d2_16 : decode method_3_code 16 = .ok (.if_icmp .ge 6, 3) := by decide +kernel
theorem d2_19 : decode method_3_code 19 = .ok (.iload 9, 2) := by decide +kernel
theorem d2_21 : decode method_3_code 21 = .ok (.ireturn, 1) := by decide +kernel
theorem d2_22 : decode method_3_code 22 = .ok (.iload_n 0, 1) := by decide +kernel
theorem d2_23 : decode method_3_code 23 = .ok (.iload_n 2, 1) := by decide +kernel
theorem d2_24 : decode method_3_code 24 = .ok (.if_icmp .ge 6, 3) := by decide +kernel
theorem d2_27 : decode method_3_code 27 = .ok (.bipush 46, 2) := by decide +kernel
theorem d2_29 : decode method_3_code 29 = .ok (.ireturn, 1) := by decide +kernel
theorem d2_30 : decode method_3_code 30 = .ok (.iload_n 0, 1) := by decide +kernel
theorem d2_31 : decode method_3_code 31 = .ok (.iload_n 3, 1) := by decide +kernel
theorem d2_32 : decode method_3_code 32 = .ok (.if_icmp .ge 6, 3) := by decide +kernel
theorem d2_35 : decode method_3_code 35 = .ok (.iload 9, 2) := by decide +kernel
theorem d2_37 : decode method_3_code 37 = .ok (.ireturn, 1) := by decide +kernel
theorem d2_38 : decode method_3_code 38 = .ok (.iload_n 0, 1) := by decide +kernel
theorem d2_39 : decode method_3_code 39 = .ok (.iload 4, 2) := by decide +kernel
theorem d2_41 : decode method_3_code 41 = .ok (.if_icmp .ge 40, 3) := by decide +kernel
theorem d2_44 : decode method_3_code 44 = .ok (.iload 5, 2) := by decide +kernel
theorem d2_46 : decode method_3_code 46 = .ok (.ifCond .eq 22, 3) := by decide +kernel
theorem d2_49 : decode method_3_code 49 = .ok (.iload_n 0, 1) := by decide +kernel
theorem d2_50 : decode method_3_code 50 = .ok (.iload_n 3, 1) := by decide +kernel
theorem d2_51 : decode method_3_code 51 = .ok (.if_icmp .eq 11, 3) := by decide +kernel
theorem d2_54 : decode method_3_code 54 = .ok (.iload_n 0, 1) := by decide +kernel
theorem d2_55 : decode method_3_code 55 = .ok (.iload 4, 2) := by decide +kernel
theorem d2_57 : decode method_3_code 57 = .ok (.iconst 1, 1) := by decide +kernel
theorem d2_58 : decode method_3_code 58 = .ok (.isub, 1) := by decide +kernel
theorem d2_59 : decode method_3_code 59 = .ok (.if_icmp .ne 6, 3) := by decide +kernel
theorem d2_62 : decode method_3_code 62 = .ok (.bipush 45, 2) := by decide +kernel
theorem d2_64 : decode method_3_code 64 = .ok (.ireturn, 1) := by decide +kernel
theorem d2_65 : decode method_3_code 65 = .ok (.iload 6, 2) := by decide +kernel
theorem d2_67 : decode method_3_code 67 = .ok (.ireturn, 1) := by decide +kernel
theorem d2_68 : decode method_3_code 68 = .ok (.iload_n 0, 1) := by decide +kernel
theorem d2_69 : decode method_3_code 69 = .ok (.iload_n 3, 1) := by decide +kernel
theorem d2_70 : decode method_3_code 70 = .ok (.if_icmp .ne 8, 3) := by decide +kernel
theorem d2_73 : decode method_3_code 73 = .ok (.iload 6, 2) := by decide +kernel
theorem d2_75 : decode method_3_code 75 = .ok (.goto 5, 3) := by decide +kernel
theorem d2_78 : decode method_3_code 78 = .ok (.iload 7, 2) := by decide +kernel
theorem d2_80 : decode method_3_code 80 = .ok (.ireturn, 1) := by decide +kernel
theorem d2_81 : decode method_3_code 81 = .ok (.iload 9, 2) := by decide +kernel
theorem d2_83 : decode method_3_code 83 = .ok (.ireturn, 1) := by decide +kernel
theorem pn_2 : plainFor (⟨"com/example/clausewright/clausewright/PageNumberHasDotLeadersPinLaw", "cell", "(IIIIIZCCI)C"⟩ : MethodName) = true := plainFor_of_name (by first | (simp [plainName, overriddenIn]; done) | decide +kernel)
theorem ef_2 (m : MethodId) (x0 : Int32) (x1 : Int32) (x2 : Int32) (x3 : Int32) (x4 : Int32) (x5 : Int32) (x6 : Int32) (x7 : Int32) (x8 : Int32) : entryFrame m #[(.int x0), (.int x1), (.int x2), (.int x3), (.int x4), (.int x5), (.int x6), (.int x7), (.int x8)] 10 = mkF m 0 #[.val (.int x0), .val (.int x1), .val (.int x2), .val (.int x3), .val (.int x4), .val (.int x5), .val (.int x6), .val (.int x7), .val (.int x8), .unset] [] := by first | (simp [entryFrame, mkF, argsToLocals, Value.category]; done) | rfl
theorem pd_0 : parseMethodDescriptor "(I)C" = some ⟨[.int], some .char⟩ := by decide +kernel
def Q2 (Z : State) (p1 : Int32) (p2 : Int32) (p3 : Int32) (p4 : Int32) (p5 : Int32) (p6 : Int32) (p7 : Int32) (p8 : Int32) (p9 : Int32)  (h0 : Heap) (n0 : Nat) (v : Option Value) (h : Heap) (L : List Loc) : Prop := v = some (.int (own_cell p1 p2 p3 p4 p5 p6 p7 p8 p9)) ∧ Fr n0 L ∧ h = h0
set_option maxRecDepth 65536 in
set_option maxHeartbeats 40000000 in
theorem rm2 (l : Launch) (Z : State) (a0 : Array Value) (hw : ∀ d ∈ tables_1, d.before a0 Z = true) (ws : List Jvm.Cond) (p1 : Int32) (p2 : Int32) (p3 : Int32) (p4 : Int32) (p5 : Int32) (p6 : Int32) (p7 : Int32) (p8 : Int32) (p9 : Int32)  (h0 : Heap) (n0 : Nat) (Z0 : n0 ≤ h0.size) (hd0 : 0 ≤ p7.toInt ∧ p7.toInt < 256) (hd1 : 0 ≤ p8.toInt ∧ p8.toInt < 256) :
    MetFree l (⟨"com/example/clausewright/clausewright/PageNumberHasDotLeadersPinLaw", "cell", "(IIIIIZCCI)C"⟩ : MethodName) (head1 (Jvm.Cond.code (⟨"com/example/clausewright/clausewright/PageNumberHasDotLeadersPinLaw", "cell", "(IIIIIZCCI)C"⟩ : MethodName) method_3_code 10 (some .char) :: ws) ({ frames := 1, cells := 0, slots := 0, locals := 12 } : Room)) (fun a U => a = #[(.int p1), (.int p2), (.int p3), (.int p4), (.int p5), (.int p6), (.int p7), (.int p8), (.int p9)] ∧ Z.Warmed39 U.vm ∧ U.heap = h0) (fun _ _ _ _ _ => True) (fun _ U o U' => ∃ v L, o = .returned v ∧ Q2 Z p1 p2 p3 p4 p5 p6 p7 p8 p9 h0 n0 v U'.heap L ∧ FrameEnd U o U' L ({ frames := 1, cells := 0, slots := 0, locals := 12 } : Room).cells ({ frames := 1, cells := 0, slots := 0, locals := 12 } : Room).slots) := by
  refine MetFree.of_bodySF pn_2 hisR ?_
  intro p e s m args below meth c s₁ Bd hml0 hP hK
  obtain ⟨rfl, hZ, hh⟩ := hP
  have hx := Bd.exec
  have hby := Bd.bytes
  have hml : c.maxLocals = 10 := hml0
  have hown : s.vm.findClass "com/example/clausewright/clausewright/PageNumberHasDotLeadersPinLaw" = some m.cls := findClass_of_methodNamed Bd.named
  have hnm := (name_of_methodNamed Bd.named Bd.method).1
  have X0 : Stand p l e ({ frames := 1, cells := 0, slots := 0, locals := 12 } : Room) s m #[(.int p1), (.int p2), (.int p3), (.int p4), (.int p5), (.int p6), (.int p7), (.int p8), (.int p9)] below meth c s₁ [] 0 0 := Stand.of_body Bd
  have e0 : s₁.heap = h0 := by rw [← hh, Bd.state]; rfl
  have N0 := Fr.nil n0
  refine own_start (Q := Q2 Z p1 p2 p3 p4 p5 p6 p7 p8 p9 h0 n0) (own_cast (ef_2 m p1 p2 p3 p4 p5 p6 p7 p8 p9) ?_)
  show Go p.tables e below _ (s₁.setTop (mkF m 0 #[.val (.int p1), .val (.int p2), .val (.int p3), .val (.int p4), .val (.int p5), .val (.int p6), .val (.int p7), .val (.int p8), .val (.int p9), .unset] []))
  refine Go.st (fun U hr => XS.iload X0.here hx rfl (hb hby d2_0) rfl hr) ?_
  show Go p.tables e below _ (s₁.setTop (mkF m 2 #[.val (.int p1), .val (.int p2), .val (.int p3), .val (.int p4), .val (.int p5), .val (.int p6), .val (.int p7), .val (.int p8), .val (.int p9), .unset] [(.int p9)]))
  refine Go.st (fun U hr => XS.iconst X0.here hx rfl (hb hby d2_2) hr) ?_
  show Go p.tables e below _ (s₁.setTop (mkF m 3 #[.val (.int p1), .val (.int p2), .val (.int p3), .val (.int p4), .val (.int p5), .val (.int p6), .val (.int p7), .val (.int p8), .val (.int p9), .unset] [(.int (3 : Int32)), (.int p9)]))
  refine Go.st (fun U hr => XS.iloadN X0.here hx rfl (hb hby d2_3) rfl hr) ?_
  show Go p.tables e below _ (s₁.setTop (mkF m 4 #[.val (.int p1), .val (.int p2), .val (.int p3), .val (.int p4), .val (.int p5), .val (.int p6), .val (.int p7), .val (.int p8), .val (.int p9), .unset] [(.int p1), (.int (3 : Int32)), (.int p9)]))
  refine Go.st (fun U hr => XS.imul X0.here hx rfl (hb hby d2_4) rfl hr) ?_
  show Go p.tables e below _ (s₁.setTop (mkF m 5 #[.val (.int p1), .val (.int p2), .val (.int p3), .val (.int p4), .val (.int p5), .val (.int p6), .val (.int p7), .val (.int p8), .val (.int p9), .unset] [(.int ((3 : Int32) * p1)), (.int p9)]))
  refine Go.st (fun U hr => XS.iushr X0.here hx rfl (hb hby d2_5) rfl hr) ?_
  show Go p.tables e below _ (s₁.setTop (mkF m 6 #[.val (.int p1), .val (.int p2), .val (.int p3), .val (.int p4), .val (.int p5), .val (.int p6), .val (.int p7), .val (.int p8), .val (.int p9), .unset] [(.int ((p9.toUInt32 >>> (((3 : Int32) * p1) &&& 31).toUInt32).toInt32))]))
  refine Go.st (fun U hr => XS.bipush X0.here hx rfl (hb hby d2_6) hr) ?_
  show Go p.tables e below _ (s₁.setTop (mkF m 8 #[.val (.int p1), .val (.int p2), .val (.int p3), .val (.int p4), .val (.int p5), .val (.int p6), .val (.int p7), .val (.int p8), .val (.int p9), .unset] [(.int (7 : Int32)), (.int ((p9.toUInt32 >>> (((3 : Int32) * p1) &&& 31).toUInt32).toInt32))]))
  refine Go.st (fun U hr => XS.iand X0.here hx rfl (hb hby d2_8) rfl hr) ?_
  show Go p.tables e below _ (s₁.setTop (mkF m 9 #[.val (.int p1), .val (.int p2), .val (.int p3), .val (.int p4), .val (.int p5), .val (.int p6), .val (.int p7), .val (.int p8), .val (.int p9), .unset] [(.int (((p9.toUInt32 >>> (((3 : Int32) * p1) &&& 31).toUInt32).toInt32) &&& (7 : Int32)))]))
  obtain ⟨_, _, ⟨T1, L1, k1, n1⟩, -, X1, ⟨Lc1, hQ1, l1, y1, z1⟩, st1⟩ := Jvm.LawKit.callS X0 hx (y := (⟨"com/example/clausewright/clausewright/PageNumberHasDotLeadersPinLaw", "ws", "(I)C"⟩ : MethodName)) hown (mvT hZ (hw _ (List.mem_of_getElem? (i := 8) rfl))) (mvT hZ (hw _ (List.mem_of_getElem? (i := 9) rfl))) (mvT hZ (hw _ (List.mem_of_getElem? (i := 2) rfl))) (mvT hZ (hw _ (List.mem_of_getElem? (i := 10) rfl))) (by decide) (backOf (W := 0) (rm3 l Z a0 hw [] (((p9.toUInt32 >>> (((3 : Int32) * p1) &&& 31).toUInt32).toInt32) &&& (7 : Int32)) h0 n0 Z0) hZ (hw _ (List.mem_of_getElem? (i := 10) rfl)) (hw _ (List.mem_of_getElem? (i := 2) rfl)) (by decide) (by decide)) (g := (mkF m 9 #[.val (.int p1), .val (.int p2), .val (.int p3), .val (.int p4), .val (.int p5), .val (.int p6), .val (.int p7), .val (.int p8), .val (.int p9), .unset] [(.int (((p9.toUInt32 >>> (((3 : Int32) * p1) &&& 31).toUInt32).toInt32) &&& (7 : Int32)))])) rfl (by rw [hml]; rfl) (argsL := [(.int (((p9.toUInt32 >>> (((3 : Int32) * p1) &&& 31).toUInt32).toInt32) &&& (7 : Int32)))]) (rest := []) (lenOf pd_0 rfl) rfl (by show 2 * 0 + _ ≤ _; exact Nat.le_of_eq rfl) (hb hby d2_9) (fun _ _ => ⟨rfl, e0, (by decide : 0 + 0 ≤ _), (by decide : 0 + 0 ≤ _)⟩)
  dsimp only [Pt.U, Pt.locs, Pt.cells, Pt.slots] at X1 l1 y1 z1 st1 hQ1
  subst l1 y1 z1
  obtain ⟨rfl, Nq1, ee1⟩ := hQ1
  have N1 := Fr.app N0 Nq1
  refine Go.st st1 ?_
  show Go p.tables e below _ (T1.setTop (mkF m 12 #[.val (.int p1), .val (.int p2), .val (.int p3), .val (.int p4), .val (.int p5), .val (.int p6), .val (.int p7), .val (.int p8), .val (.int p9), .unset] [(.int (own_ws (((p9.toUInt32 >>> (((3 : Int32) * p1) &&& 31).toUInt32).toInt32) &&& (7 : Int32))))]))
  have hw12 := own_ws_ok (((p9.toUInt32 >>> (((3 : Int32) * p1) &&& 31).toUInt32).toInt32) &&& (7 : Int32))
  refine Go.st (fun U hr => XS.istore X1.here hx rfl (hb hby d2_12) rfl (l' := #[.val (.int p1), .val (.int p2), .val (.int p3), .val (.int p4), .val (.int p5), .val (.int p6), .val (.int p7), .val (.int p8), .val (.int p9), .val (.int (own_ws (((p9.toUInt32 >>> (((3 : Int32) * p1) &&& 31).toUInt32).toInt32) &&& (7 : Int32))))]) rfl hr) ?_
  show Go p.tables e below _ (T1.setTop (mkF m 14 #[.val (.int p1), .val (.int p2), .val (.int p3), .val (.int p4), .val (.int p5), .val (.int p6), .val (.int p7), .val (.int p8), .val (.int p9), .val (.int (own_ws (((p9.toUInt32 >>> (((3 : Int32) * p1) &&& 31).toUInt32).toInt32) &&& (7 : Int32))))] []))
  refine Go.st (fun U hr => XS.iloadN X1.here hx rfl (hb hby d2_14) rfl hr) ?_
  show Go p.tables e below _ (T1.setTop (mkF m 15 #[.val (.int p1), .val (.int p2), .val (.int p3), .val (.int p4), .val (.int p5), .val (.int p6), .val (.int p7), .val (.int p8), .val (.int p9), .val (.int (own_ws (((p9.toUInt32 >>> (((3 : Int32) * p1) &&& 31).toUInt32).toInt32) &&& (7 : Int32))))] [(.int p1)]))
  refine Go.st (fun U hr => XS.iloadN X1.here hx rfl (hb hby d2_15) rfl hr) ?_
  show Go p.tables e below _ (T1.setTop (mkF m 16 #[.val (.int p1), .val (.int p2), .val (.int p3), .val (.int p4), .val (.int p5), .val (.int p6), .val (.int p7), .val (.int p8), .val (.int p9), .val (.int (own_ws (((p9.toUInt32 >>> (((3 : Int32) * p1) &&& 31).toUInt32).toInt32) &&& (7 : Int32))))] [(.int p2), (.int p1)]))
  by_cases hc16_2 : p1 < p2
  · refine Go.st (fun U hr => XS.icmpNo X1.here hx rfl (hb hby d2_16) rfl (tlt hc16_2).2.1 hr) ?_
    show Go p.tables e below _ (T1.setTop (mkF m 19 #[.val (.int p1), .val (.int p2), .val (.int p3), .val (.int p4), .val (.int p5), .val (.int p6), .val (.int p7), .val (.int p8), .val (.int p9), .val (.int (own_ws (((p9.toUInt32 >>> (((3 : Int32) * p1) &&& 31).toUInt32).toInt32) &&& (7 : Int32))))] []))
    refine Go.st (fun U hr => XS.iload X1.here hx rfl (hb hby d2_19) rfl hr) ?_
    show Go p.tables e below _ (T1.setTop (mkF m 21 #[.val (.int p1), .val (.int p2), .val (.int p3), .val (.int p4), .val (.int p5), .val (.int p6), .val (.int p7), .val (.int p8), .val (.int p9), .val (.int (own_ws (((p9.toUInt32 >>> (((3 : Int32) * p1) &&& 31).toUInt32).toInt32) &&& (7 : Int32))))] [(.int (own_ws (((p9.toUInt32 >>> (((3 : Int32) * p1) &&& 31).toUInt32).toInt32) &&& (7 : Int32))))]))
    exact own_retN X1 hx Bd.notSynchronized (t := .char) Bd.returns (by simp) (hb hby d2_21) ⟨by rw [own_nar _ ⟨hw12.1, by omega⟩]; unfold own_cell; rw [if_pos hc16_2], N1, ee1⟩ (by decide) (by decide)
  · refine Go.st (fun U hr => XS.icmpYes X1.here hx rfl (pc0 := 16) (pc' := 22) rfl (hb hby d2_16) rfl (flt hc16_2).2.1 (by decide) (by decide) hr) ?_
    show Go p.tables e below _ (T1.setTop (mkF m 22 #[.val (.int p1), .val (.int p2), .val (.int p3), .val (.int p4), .val (.int p5), .val (.int p6), .val (.int p7), .val (.int p8), .val (.int p9), .val (.int (own_ws (((p9.toUInt32 >>> (((3 : Int32) * p1) &&& 31).toUInt32).toInt32) &&& (7 : Int32))))] []))
    refine Go.st (fun U hr => XS.iloadN X1.here hx rfl (hb hby d2_22) rfl hr) ?_
    show Go p.tables e below _ (T1.setTop (mkF m 23 #[.val (.int p1), .val (.int p2), .val (.int p3), .val (.int p4), .val (.int p5), .val (.int p6), .val (.int p7), .val (.int p8), .val (.int p9), .val (.int (own_ws (((p9.toUInt32 >>> (((3 : Int32) * p1) &&& 31).toUInt32).toInt32) &&& (7 : Int32))))] [(.int p1)]))
    refine Go.st (fun U hr => XS.iloadN X1.here hx rfl (hb hby d2_23) rfl hr) ?_
    show Go p.tables e below _ (T1.setTop (mkF m 24 #[.val (.int p1), .val (.int p2), .val (.int p3), .val (.int p4), .val (.int p5), .val (.int p6), .val (.int p7), .val (.int p8), .val (.int p9), .val (.int (own_ws (((p9.toUInt32 >>> (((3 : Int32) * p1) &&& 31).toUInt32).toInt32) &&& (7 : Int32))))] [(.int p3), (.int p1)]))
    by_cases hc24_3 : p1 < p3
    · refine Go.st (fun U hr => XS.icmpNo X1.here hx rfl (hb hby d2_24) rfl (tlt hc24_3).2.1 hr) ?_
      show Go p.tables e below _ (T1.setTop (mkF m 27 #[.val (.int p1), .val (.int p2), .val (.int p3), .val (.int p4), .val (.int p5), .val (.int p6), .val (.int p7), .val (.int p8), .val (.int p9), .val (.int (own_ws (((p9.toUInt32 >>> (((3 : Int32) * p1) &&& 31).toUInt32).toInt32) &&& (7 : Int32))))] []))
      refine Go.st (fun U hr => XS.bipush X1.here hx rfl (hb hby d2_27) hr) ?_
      show Go p.tables e below _ (T1.setTop (mkF m 29 #[.val (.int p1), .val (.int p2), .val (.int p3), .val (.int p4), .val (.int p5), .val (.int p6), .val (.int p7), .val (.int p8), .val (.int p9), .val (.int (own_ws (((p9.toUInt32 >>> (((3 : Int32) * p1) &&& 31).toUInt32).toInt32) &&& (7 : Int32))))] [(.int (46 : Int32))]))
      exact own_retN X1 hx Bd.notSynchronized (t := .char) Bd.returns (by simp) (hb hby d2_29) ⟨by rw [(by decide : nar .char (46 : Int32) = (46 : Int32))]; unfold own_cell; rw [if_neg hc16_2, if_pos hc24_3], N1, ee1⟩ (by decide) (by decide)
    · refine Go.st (fun U hr => XS.icmpYes X1.here hx rfl (pc0 := 24) (pc' := 30) rfl (hb hby d2_24) rfl (flt hc24_3).2.1 (by decide) (by decide) hr) ?_
      show Go p.tables e below _ (T1.setTop (mkF m 30 #[.val (.int p1), .val (.int p2), .val (.int p3), .val (.int p4), .val (.int p5), .val (.int p6), .val (.int p7), .val (.int p8), .val (.int p9), .val (.int (own_ws (((p9.toUInt32 >>> (((3 : Int32) * p1) &&& 31).toUInt32).toInt32) &&& (7 : Int32))))] []))
      refine Go.st (fun U hr => XS.iloadN X1.here hx rfl (hb hby d2_30) rfl hr) ?_
      show Go p.tables e below _ (T1.setTop (mkF m 31 #[.val (.int p1), .val (.int p2), .val (.int p3), .val (.int p4), .val (.int p5), .val (.int p6), .val (.int p7), .val (.int p8), .val (.int p9), .val (.int (own_ws (((p9.toUInt32 >>> (((3 : Int32) * p1) &&& 31).toUInt32).toInt32) &&& (7 : Int32))))] [(.int p1)]))
      refine Go.st (fun U hr => XS.iloadN X1.here hx rfl (hb hby d2_31) rfl hr) ?_
      show Go p.tables e below _ (T1.setTop (mkF m 32 #[.val (.int p1), .val (.int p2), .val (.int p3), .val (.int p4), .val (.int p5), .val (.int p6), .val (.int p7), .val (.int p8), .val (.int p9), .val (.int (own_ws (((p9.toUInt32 >>> (((3 : Int32) * p1) &&& 31).toUInt32).toInt32) &&& (7 : Int32))))] [(.int p4), (.int p1)]))
      by_cases hc32_4 : p1 < p4
      · refine Go.st (fun U hr => XS.icmpNo X1.here hx rfl (hb hby d2_32) rfl (tlt hc32_4).2.1 hr) ?_
        show Go p.tables e below _ (T1.setTop (mkF m 35 #[.val (.int p1), .val (.int p2), .val (.int p3), .val (.int p4), .val (.int p5), .val (.int p6), .val (.int p7), .val (.int p8), .val (.int p9), .val (.int (own_ws (((p9.toUInt32 >>> (((3 : Int32) * p1) &&& 31).toUInt32).toInt32) &&& (7 : Int32))))] []))
        refine Go.st (fun U hr => XS.iload X1.here hx rfl (hb hby d2_35) rfl hr) ?_
        show Go p.tables e below _ (T1.setTop (mkF m 37 #[.val (.int p1), .val (.int p2), .val (.int p3), .val (.int p4), .val (.int p5), .val (.int p6), .val (.int p7), .val (.int p8), .val (.int p9), .val (.int (own_ws (((p9.toUInt32 >>> (((3 : Int32) * p1) &&& 31).toUInt32).toInt32) &&& (7 : Int32))))] [(.int (own_ws (((p9.toUInt32 >>> (((3 : Int32) * p1) &&& 31).toUInt32).toInt32) &&& (7 : Int32))))]))
        exact own_retN X1 hx Bd.notSynchronized (t := .char) Bd.returns (by simp) (hb hby d2_37) ⟨by rw [own_nar _ ⟨hw12.1, by omega⟩]; unfold own_cell; rw [if_neg hc16_2, if_neg hc24_3, if_pos hc32_4], N1, ee1⟩ (by decide) (by decide)
      · refine Go.st (fun U hr => XS.icmpYes X1.here hx rfl (pc0 := 32) (pc' := 38) rfl (hb hby d2_32) rfl (flt hc32_4).2.1 (by decide) (by decide) hr) ?_
        show Go p.tables e below _ (T1.setTop (mkF m 38 #[.val (.int p1), .val (.int p2), .val (.int p3), .val (.int p4), .val (.int p5), .val (.int p6), .val (.int p7), .val (.int p8), .val (.int p9), .val (.int (own_ws (((p9.toUInt32 >>> (((3 : Int32) * p1) &&& 31).toUInt32).toInt32) &&& (7 : Int32))))] []))
        refine Go.st (fun U hr => XS.iloadN X1.here hx rfl (hb hby d2_38) rfl hr) ?_
        show Go p.tables e below _ (T1.setTop (mkF m 39 #[.val (.int p1), .val (.int p2), .val (.int p3), .val (.int p4), .val (.int p5), .val (.int p6), .val (.int p7), .val (.int p8), .val (.int p9), .val (.int (own_ws (((p9.toUInt32 >>> (((3 : Int32) * p1) &&& 31).toUInt32).toInt32) &&& (7 : Int32))))] [(.int p1)]))
        refine Go.st (fun U hr => XS.iload X1.here hx rfl (hb hby d2_39) rfl hr) ?_
        show Go p.tables e below _ (T1.setTop (mkF m 41 #[.val (.int p1), .val (.int p2), .val (.int p3), .val (.int p4), .val (.int p5), .val (.int p6), .val (.int p7), .val (.int p8), .val (.int p9), .val (.int (own_ws (((p9.toUInt32 >>> (((3 : Int32) * p1) &&& 31).toUInt32).toInt32) &&& (7 : Int32))))] [(.int p5), (.int p1)]))
        by_cases hc41_5 : p1 < p5
        · refine Go.st (fun U hr => XS.icmpNo X1.here hx rfl (hb hby d2_41) rfl (tlt hc41_5).2.1 hr) ?_
          show Go p.tables e below _ (T1.setTop (mkF m 44 #[.val (.int p1), .val (.int p2), .val (.int p3), .val (.int p4), .val (.int p5), .val (.int p6), .val (.int p7), .val (.int p8), .val (.int p9), .val (.int (own_ws (((p9.toUInt32 >>> (((3 : Int32) * p1) &&& 31).toUInt32).toInt32) &&& (7 : Int32))))] []))
          refine Go.st (fun U hr => XS.iload X1.here hx rfl (hb hby d2_44) rfl hr) ?_
          show Go p.tables e below _ (T1.setTop (mkF m 46 #[.val (.int p1), .val (.int p2), .val (.int p3), .val (.int p4), .val (.int p5), .val (.int p6), .val (.int p7), .val (.int p8), .val (.int p9), .val (.int (own_ws (((p9.toUInt32 >>> (((3 : Int32) * p1) &&& 31).toUInt32).toInt32) &&& (7 : Int32))))] [(.int p6)]))
          by_cases hc46_6 : p6 = (0 : Int32)
          · refine Go.st (fun U hr => XS.ifYes X1.here hx rfl (pc0 := 46) (pc' := 68) rfl (hb hby d2_46) rfl ((if0 _ _).trans (teq hc46_6).1) (by decide) (by decide) hr) ?_
            show Go p.tables e below _ (T1.setTop (mkF m 68 #[.val (.int p1), .val (.int p2), .val (.int p3), .val (.int p4), .val (.int p5), .val (.int p6), .val (.int p7), .val (.int p8), .val (.int p9), .val (.int (own_ws (((p9.toUInt32 >>> (((3 : Int32) * p1) &&& 31).toUInt32).toInt32) &&& (7 : Int32))))] []))
            refine Go.st (fun U hr => XS.iloadN X1.here hx rfl (hb hby d2_68) rfl hr) ?_
            show Go p.tables e below _ (T1.setTop (mkF m 69 #[.val (.int p1), .val (.int p2), .val (.int p3), .val (.int p4), .val (.int p5), .val (.int p6), .val (.int p7), .val (.int p8), .val (.int p9), .val (.int (own_ws (((p9.toUInt32 >>> (((3 : Int32) * p1) &&& 31).toUInt32).toInt32) &&& (7 : Int32))))] [(.int p1)]))
            refine Go.st (fun U hr => XS.iloadN X1.here hx rfl (hb hby d2_69) rfl hr) ?_
            show Go p.tables e below _ (T1.setTop (mkF m 70 #[.val (.int p1), .val (.int p2), .val (.int p3), .val (.int p4), .val (.int p5), .val (.int p6), .val (.int p7), .val (.int p8), .val (.int p9), .val (.int (own_ws (((p9.toUInt32 >>> (((3 : Int32) * p1) &&& 31).toUInt32).toInt32) &&& (7 : Int32))))] [(.int p4), (.int p1)]))
            by_cases hc70_7 : p1 = p4
            · refine Go.st (fun U hr => XS.icmpNo X1.here hx rfl (hb hby d2_70) rfl (teq hc70_7).2 hr) ?_
              show Go p.tables e below _ (T1.setTop (mkF m 73 #[.val (.int p1), .val (.int p2), .val (.int p3), .val (.int p4), .val (.int p5), .val (.int p6), .val (.int p7), .val (.int p8), .val (.int p9), .val (.int (own_ws (((p9.toUInt32 >>> (((3 : Int32) * p1) &&& 31).toUInt32).toInt32) &&& (7 : Int32))))] []))
              refine Go.st (fun U hr => XS.iload X1.here hx rfl (hb hby d2_73) rfl hr) ?_
              show Go p.tables e below _ (T1.setTop (mkF m 75 #[.val (.int p1), .val (.int p2), .val (.int p3), .val (.int p4), .val (.int p5), .val (.int p6), .val (.int p7), .val (.int p8), .val (.int p9), .val (.int (own_ws (((p9.toUInt32 >>> (((3 : Int32) * p1) &&& 31).toUInt32).toInt32) &&& (7 : Int32))))] [(.int p7)]))
              refine Go.st (fun U hr => XS.goto X1.here hx rfl (pc0 := 75) (pc' := 80) rfl (hb hby d2_75) (by decide) (by decide) hr) ?_
              show Go p.tables e below _ (T1.setTop (mkF m 80 #[.val (.int p1), .val (.int p2), .val (.int p3), .val (.int p4), .val (.int p5), .val (.int p6), .val (.int p7), .val (.int p8), .val (.int p9), .val (.int (own_ws (((p9.toUInt32 >>> (((3 : Int32) * p1) &&& 31).toUInt32).toInt32) &&& (7 : Int32))))] [(.int p7)]))
              exact own_retN X1 hx Bd.notSynchronized (t := .char) Bd.returns (by simp) (hb hby d2_80) ⟨by rw [own_nar p7 ⟨hd0.1, by omega⟩]; unfold own_cell; rw [if_neg hc16_2, if_neg hc24_3, if_neg hc32_4, if_pos hc41_5, if_pos hc46_6, if_pos hc70_7], N1, ee1⟩ (by decide) (by decide)
            · refine Go.st (fun U hr => XS.icmpYes X1.here hx rfl (pc0 := 70) (pc' := 78) rfl (hb hby d2_70) rfl (feq hc70_7).2 (by decide) (by decide) hr) ?_
              show Go p.tables e below _ (T1.setTop (mkF m 78 #[.val (.int p1), .val (.int p2), .val (.int p3), .val (.int p4), .val (.int p5), .val (.int p6), .val (.int p7), .val (.int p8), .val (.int p9), .val (.int (own_ws (((p9.toUInt32 >>> (((3 : Int32) * p1) &&& 31).toUInt32).toInt32) &&& (7 : Int32))))] []))
              refine Go.st (fun U hr => XS.iload X1.here hx rfl (hb hby d2_78) rfl hr) ?_
              show Go p.tables e below _ (T1.setTop (mkF m 80 #[.val (.int p1), .val (.int p2), .val (.int p3), .val (.int p4), .val (.int p5), .val (.int p6), .val (.int p7), .val (.int p8), .val (.int p9), .val (.int (own_ws (((p9.toUInt32 >>> (((3 : Int32) * p1) &&& 31).toUInt32).toInt32) &&& (7 : Int32))))] [(.int p8)]))
              exact own_retN X1 hx Bd.notSynchronized (t := .char) Bd.returns (by simp) (hb hby d2_80) ⟨by rw [own_nar p8 ⟨hd1.1, by omega⟩]; unfold own_cell; rw [if_neg hc16_2, if_neg hc24_3, if_neg hc32_4, if_pos hc41_5, if_pos hc46_6, if_neg hc70_7], N1, ee1⟩ (by decide) (by decide)
          · refine Go.st (fun U hr => XS.ifNo X1.here hx rfl (hb hby d2_46) rfl ((if0 _ _).trans (feq hc46_6).1) hr) ?_
            show Go p.tables e below _ (T1.setTop (mkF m 49 #[.val (.int p1), .val (.int p2), .val (.int p3), .val (.int p4), .val (.int p5), .val (.int p6), .val (.int p7), .val (.int p8), .val (.int p9), .val (.int (own_ws (((p9.toUInt32 >>> (((3 : Int32) * p1) &&& 31).toUInt32).toInt32) &&& (7 : Int32))))] []))
            refine Go.st (fun U hr => XS.iloadN X1.here hx rfl (hb hby d2_49) rfl hr) ?_
            show Go p.tables e below _ (T1.setTop (mkF m 50 #[.val (.int p1), .val (.int p2), .val (.int p3), .val (.int p4), .val (.int p5), .val (.int p6), .val (.int p7), .val (.int p8), .val (.int p9), .val (.int (own_ws (((p9.toUInt32 >>> (((3 : Int32) * p1) &&& 31).toUInt32).toInt32) &&& (7 : Int32))))] [(.int p1)]))
            refine Go.st (fun U hr => XS.iloadN X1.here hx rfl (hb hby d2_50) rfl hr) ?_
            show Go p.tables e below _ (T1.setTop (mkF m 51 #[.val (.int p1), .val (.int p2), .val (.int p3), .val (.int p4), .val (.int p5), .val (.int p6), .val (.int p7), .val (.int p8), .val (.int p9), .val (.int (own_ws (((p9.toUInt32 >>> (((3 : Int32) * p1) &&& 31).toUInt32).toInt32) &&& (7 : Int32))))] [(.int p4), (.int p1)]))
            by_cases hc51_8 : p1 = p4
            · refine Go.st (fun U hr => XS.icmpYes X1.here hx rfl (pc0 := 51) (pc' := 62) rfl (hb hby d2_51) rfl (teq hc51_8).1 (by decide) (by decide) hr) ?_
              show Go p.tables e below _ (T1.setTop (mkF m 62 #[.val (.int p1), .val (.int p2), .val (.int p3), .val (.int p4), .val (.int p5), .val (.int p6), .val (.int p7), .val (.int p8), .val (.int p9), .val (.int (own_ws (((p9.toUInt32 >>> (((3 : Int32) * p1) &&& 31).toUInt32).toInt32) &&& (7 : Int32))))] []))
              refine Go.st (fun U hr => XS.bipush X1.here hx rfl (hb hby d2_62) hr) ?_
              show Go p.tables e below _ (T1.setTop (mkF m 64 #[.val (.int p1), .val (.int p2), .val (.int p3), .val (.int p4), .val (.int p5), .val (.int p6), .val (.int p7), .val (.int p8), .val (.int p9), .val (.int (own_ws (((p9.toUInt32 >>> (((3 : Int32) * p1) &&& 31).toUInt32).toInt32) &&& (7 : Int32))))] [(.int (45 : Int32))]))
              exact own_retN X1 hx Bd.notSynchronized (t := .char) Bd.returns (by simp) (hb hby d2_64) ⟨by rw [(by decide : nar .char (45 : Int32) = (45 : Int32))]; unfold own_cell; rw [if_neg hc16_2, if_neg hc24_3, if_neg hc32_4, if_pos hc41_5, if_neg hc46_6, if_pos hc51_8], N1, ee1⟩ (by decide) (by decide)
            · refine Go.st (fun U hr => XS.icmpNo X1.here hx rfl (hb hby d2_51) rfl (feq hc51_8).1 hr) ?_
              show Go p.tables e below _ (T1.setTop (mkF m 54 #[.val (.int p1), .val (.int p2), .val (.int p3), .val (.int p4), .val (.int p5), .val (.int p6), .val (.int p7), .val (.int p8), .val (.int p9), .val (.int (own_ws (((p9.toUInt32 >>> (((3 : Int32) * p1) &&& 31).toUInt32).toInt32) &&& (7 : Int32))))] []))
              refine Go.st (fun U hr => XS.iloadN X1.here hx rfl (hb hby d2_54) rfl hr) ?_
              show Go p.tables e below _ (T1.setTop (mkF m 55 #[.val (.int p1), .val (.int p2), .val (.int p3), .val (.int p4), .val (.int p5), .val (.int p6), .val (.int p7), .val (.int p8), .val (.int p9), .val (.int (own_ws (((p9.toUInt32 >>> (((3 : Int32) * p1) &&& 31).toUInt32).toInt32) &&& (7 : Int32))))] [(.int p1)]))
              refine Go.st (fun U hr => XS.iload X1.here hx rfl (hb hby d2_55) rfl hr) ?_
              show Go p.tables e below _ (T1.setTop (mkF m 57 #[.val (.int p1), .val (.int p2), .val (.int p3), .val (.int p4), .val (.int p5), .val (.int p6), .val (.int p7), .val (.int p8), .val (.int p9), .val (.int (own_ws (((p9.toUInt32 >>> (((3 : Int32) * p1) &&& 31).toUInt32).toInt32) &&& (7 : Int32))))] [(.int p5), (.int p1)]))
              refine Go.st (fun U hr => XS.iconst X1.here hx rfl (hb hby d2_57) hr) ?_
              show Go p.tables e below _ (T1.setTop (mkF m 58 #[.val (.int p1), .val (.int p2), .val (.int p3), .val (.int p4), .val (.int p5), .val (.int p6), .val (.int p7), .val (.int p8), .val (.int p9), .val (.int (own_ws (((p9.toUInt32 >>> (((3 : Int32) * p1) &&& 31).toUInt32).toInt32) &&& (7 : Int32))))] [(.int (1 : Int32)), (.int p5), (.int p1)]))
              refine Go.st (fun U hr => XS.isub X1.here hx rfl (hb hby d2_58) rfl hr) ?_
              show Go p.tables e below _ (T1.setTop (mkF m 59 #[.val (.int p1), .val (.int p2), .val (.int p3), .val (.int p4), .val (.int p5), .val (.int p6), .val (.int p7), .val (.int p8), .val (.int p9), .val (.int (own_ws (((p9.toUInt32 >>> (((3 : Int32) * p1) &&& 31).toUInt32).toInt32) &&& (7 : Int32))))] [(.int (p5 - (1 : Int32))), (.int p1)]))
              by_cases hc59_9 : p1 = (p5 - (1 : Int32))
              · refine Go.st (fun U hr => XS.icmpNo X1.here hx rfl (hb hby d2_59) rfl (teq hc59_9).2 hr) ?_
                show Go p.tables e below _ (T1.setTop (mkF m 62 #[.val (.int p1), .val (.int p2), .val (.int p3), .val (.int p4), .val (.int p5), .val (.int p6), .val (.int p7), .val (.int p8), .val (.int p9), .val (.int (own_ws (((p9.toUInt32 >>> (((3 : Int32) * p1) &&& 31).toUInt32).toInt32) &&& (7 : Int32))))] []))
                refine Go.st (fun U hr => XS.bipush X1.here hx rfl (hb hby d2_62) hr) ?_
                show Go p.tables e below _ (T1.setTop (mkF m 64 #[.val (.int p1), .val (.int p2), .val (.int p3), .val (.int p4), .val (.int p5), .val (.int p6), .val (.int p7), .val (.int p8), .val (.int p9), .val (.int (own_ws (((p9.toUInt32 >>> (((3 : Int32) * p1) &&& 31).toUInt32).toInt32) &&& (7 : Int32))))] [(.int (45 : Int32))]))
                exact own_retN X1 hx Bd.notSynchronized (t := .char) Bd.returns (by simp) (hb hby d2_64) ⟨by rw [(by decide : nar .char (45 : Int32) = (45 : Int32))]; unfold own_cell; rw [if_neg hc16_2, if_neg hc24_3, if_neg hc32_4, if_pos hc41_5, if_neg hc46_6, if_neg hc51_8, if_pos hc59_9], N1, ee1⟩ (by decide) (by decide)
              · refine Go.st (fun U hr => XS.icmpYes X1.here hx rfl (pc0 := 59) (pc' := 65) rfl (hb hby d2_59) rfl (feq hc59_9).2 (by decide) (by decide) hr) ?_
                show Go p.tables e below _ (T1.setTop (mkF m 65 #[.val (.int p1), .val (.int p2), .val (.int p3), .val (.int p4), .val (.int p5), .val (.int p6), .val (.int p7), .val (.int p8), .val (.int p9), .val (.int (own_ws (((p9.toUInt32 >>> (((3 : Int32) * p1) &&& 31).toUInt32).toInt32) &&& (7 : Int32))))] []))
                refine Go.st (fun U hr => XS.iload X1.here hx rfl (hb hby d2_65) rfl hr) ?_
                show Go p.tables e below _ (T1.setTop (mkF m 67 #[.val (.int p1), .val (.int p2), .val (.int p3), .val (.int p4), .val (.int p5), .val (.int p6), .val (.int p7), .val (.int p8), .val (.int p9), .val (.int (own_ws (((p9.toUInt32 >>> (((3 : Int32) * p1) &&& 31).toUInt32).toInt32) &&& (7 : Int32))))] [(.int p7)]))
                exact own_retN X1 hx Bd.notSynchronized (t := .char) Bd.returns (by simp) (hb hby d2_67) ⟨by rw [own_nar p7 ⟨hd0.1, by omega⟩]; unfold own_cell; rw [if_neg hc16_2, if_neg hc24_3, if_neg hc32_4, if_pos hc41_5, if_neg hc46_6, if_neg hc51_8, if_neg hc59_9], N1, ee1⟩ (by decide) (by decide)
        · refine Go.st (fun U hr => XS.icmpYes X1.here hx rfl (pc0 := 41) (pc' := 81) rfl (hb hby d2_41) rfl (flt hc41_5).2.1 (by decide) (by decide) hr) ?_
          show Go p.tables e below _ (T1.setTop (mkF m 81 #[.val (.int p1), .val (.int p2), .val (.int p3), .val (.int p4), .val (.int p5), .val (.int p6), .val (.int p7), .val (.int p8), .val (.int p9), .val (.int (own_ws (((p9.toUInt32 >>> (((3 : Int32) * p1) &&& 31).toUInt32).toInt32) &&& (7 : Int32))))] []))
          refine Go.st (fun U hr => XS.iload X1.here hx rfl (hb hby d2_81) rfl hr) ?_
          show Go p.tables e below _ (T1.setTop (mkF m 83 #[.val (.int p1), .val (.int p2), .val (.int p3), .val (.int p4), .val (.int p5), .val (.int p6), .val (.int p7), .val (.int p8), .val (.int p9), .val (.int (own_ws (((p9.toUInt32 >>> (((3 : Int32) * p1) &&& 31).toUInt32).toInt32) &&& (7 : Int32))))] [(.int (own_ws (((p9.toUInt32 >>> (((3 : Int32) * p1) &&& 31).toUInt32).toInt32) &&& (7 : Int32))))]))
          exact own_retN X1 hx Bd.notSynchronized (t := .char) Bd.returns (by simp) (hb hby d2_83) ⟨by rw [own_nar _ ⟨hw12.1, by omega⟩]; unfold own_cell; rw [if_neg hc16_2, if_neg hc24_3, if_neg hc32_4, if_neg hc41_5], N1, ee1⟩ (by decide) (by decide)
theorem d8_0 : decode jdk_52_method_21_code 0 = .ok (.iconst 0, 1) := by decide +kernel
theorem d8_1 : decode jdk_52_method_21_code 1 = .ok (.istore 5, 2) := by decide +kernel
theorem d8_3 : decode jdk_52_method_21_code 3 = .ok (.iload 5, 2) := by decide +kernel
theorem d8_5 : decode jdk_52_method_21_code 5 = .ok (.iload 4, 2) := by decide +kernel
theorem d8_7 : decode jdk_52_method_21_code 7 = .ok (.if_icmp .ge 37, 3) := by decide +kernel
theorem d8_10 : decode jdk_52_method_21_code 10 = .ok (.aload_n 0, 1) := by decide +kernel
theorem d8_11 : decode jdk_52_method_21_code 11 = .ok (.iload_n 1, 1) := by decide +kernel
theorem d8_12 : decode jdk_52_method_21_code 12 = .ok (.caload, 1) := by decide +kernel
theorem d8_13 : decode jdk_52_method_21_code 13 = .ok (.istore 6, 2) := by decide +kernel
theorem d8_15 : decode jdk_52_method_21_code 15 = .ok (.iload 6, 2) := by decide +kernel
theorem d8_17 : decode jdk_52_method_21_code 17 = .ok (.sipush 255, 3) := by decide +kernel
theorem d8_20 : decode jdk_52_method_21_code 20 = .ok (.if_icmp .le 6, 3) := by decide +kernel
theorem d8_26 : decode jdk_52_method_21_code 26 = .ok (.aload_n 2, 1) := by decide +kernel
theorem d8_27 : decode jdk_52_method_21_code 27 = .ok (.iload_n 3, 1) := by decide +kernel
theorem d8_28 : decode jdk_52_method_21_code 28 = .ok (.iload 6, 2) := by decide +kernel
theorem d8_30 : decode jdk_52_method_21_code 30 = .ok (.i2b, 1) := by decide +kernel
theorem d8_31 : decode jdk_52_method_21_code 31 = .ok (.bastore, 1) := by decide +kernel
theorem d8_32 : decode jdk_52_method_21_code 32 = .ok (.iinc 1 1, 3) := by decide +kernel
theorem d8_35 : decode jdk_52_method_21_code 35 = .ok (.iinc 3 1, 3) := by decide +kernel
theorem d8_38 : decode jdk_52_method_21_code 38 = .ok (.iinc 5 1, 3) := by decide +kernel
theorem d8_41 : decode jdk_52_method_21_code 41 = .ok (.goto (-38), 3) := by decide +kernel
theorem d8_44 : decode jdk_52_method_21_code 44 = .ok (.iload 4, 2) := by decide +kernel
theorem d8_46 : decode jdk_52_method_21_code 46 = .ok (.ireturn, 1) := by decide +kernel
theorem pn_8 : plainFor (⟨"java/lang/StringUTF16", "compress", "([CI[BII)I"⟩ : MethodName) = true := plainFor_of_name (by first | (simp [plainName, overriddenIn]; done) | decide +kernel)
theorem ef_8 (m : MethodId) (x0 : Addr) (x1 : Int32) (x2 : Addr) (x3 : Int32) (x4 : Int32) : entryFrame m #[(.ref x0), (.int x1), (.ref x2), (.int x3), (.int x4)] 7 = mkF m 0 #[.val (.ref x0), .val (.int x1), .val (.ref x2), .val (.int x3), .val (.int x4), .unset, .unset] [] := by first | (simp [entryFrame, mkF, argsToLocals, Value.category]; done) | rfl
def Q8 (Z : State) (a1 : Addr) (a3 : Addr) (kc : ClassId) (kb : ClassId) (x0 : Int32) (x1 : Int32) (x2 : Int32) (x3 : Int32) (x4 : Int32) (x5 : Int32) (x6 : Int32) (x7 : Int32) (h0 : Heap) (n0 : Nat) (v : Option Value) (h : Heap) (L : List Loc) : Prop := v = some (.int 8) ∧ Fr n0 L ∧ Keep h0 h [a3] ∧ Arv Z h a3 kb .byte (8 : Int32) [(.int (own_bb x0)), (.int (own_bb x1)), (.int (own_bb x2)), (.int (own_bb x3)), (.int (own_bb x4)), (.int (own_bb x5)), (.int (own_bb x6)), (.int (own_bb x7))] (.int (0 : Int32))
set_option maxRecDepth 65536 in
set_option maxHeartbeats 40000000 in
theorem rm8 (l : Launch) (Z : State) (a0 : Array Value) (hw : ∀ d ∈ tables_1, d.before a0 Z = true) (ws : List Jvm.Cond) (a1 : Addr) (a3 : Addr) (kc : ClassId) (kb : ClassId) (x0 : Int32) (x1 : Int32) (x2 : Int32) (x3 : Int32) (x4 : Int32) (x5 : Int32) (x6 : Int32) (x7 : Int32) (h0 : Heap) (n0 : Nat) (Z0 : n0 ≤ h0.size) (V1 : Arv Z h0 a1 kc .char (8 : Int32) [(.int x0), (.int x1), (.int x2), (.int x3), (.int x4), (.int x5), (.int x6), (.int x7)] (.int (0 : Int32))) (V3 : Arv Z h0 a3 kb .byte (8 : Int32) [(.int (0 : Int32)), (.int (0 : Int32)), (.int (0 : Int32)), (.int (0 : Int32)), (.int (0 : Int32)), (.int (0 : Int32)), (.int (0 : Int32)), (.int (0 : Int32))] (.int (0 : Int32))) (ne : a1 ≠ a3) (g3 : n0 ≤ a3) (hx0 : ¬ 255 < x0) (hx1 : ¬ 255 < x1) (hx2 : ¬ 255 < x2) (hx3 : ¬ 255 < x3) (hx4 : ¬ 255 < x4) (hx5 : ¬ 255 < x5) (hx6 : ¬ 255 < x6) (hx7 : ¬ 255 < x7) :
    MetFree l (⟨"java/lang/StringUTF16", "compress", "([CI[BII)I"⟩ : MethodName) (head1 (Jvm.Cond.code (⟨"java/lang/StringUTF16", "compress", "([CI[BII)I"⟩ : MethodName) jdk_52_method_21_code 7 (some .int) :: ws) ({ frames := 0, cells := 0, slots := 0, locals := 0 } : Room)) (fun a U => a = #[(.ref a1), (.int (0 : Int32)), (.ref a3), (.int (0 : Int32)), (.int (8 : Int32))] ∧ Z.Warmed39 U.vm ∧ U.heap = h0) (fun _ _ _ _ _ => True) (fun _ U o U' => ∃ v L, o = .returned v ∧ Q8 Z a1 a3 kc kb x0 x1 x2 x3 x4 x5 x6 x7 h0 n0 v U'.heap L ∧ FrameEnd U o U' L ({ frames := 0, cells := 0, slots := 0, locals := 0 } : Room).cells ({ frames := 0, cells := 0, slots := 0, locals := 0 } : Room).slots) := by
  refine MetFree.of_bodySF pn_8 hisR ?_
  intro p e s m args below meth c s₁ Bd hml0 hP hK
  obtain ⟨rfl, hZ, hh⟩ := hP
  have hx := Bd.exec
  have hby := Bd.bytes
  have hml : c.maxLocals = 7 := hml0
  have hown : s.vm.findClass "java/lang/StringUTF16" = some m.cls := findClass_of_methodNamed Bd.named
  have hnm := (name_of_methodNamed Bd.named Bd.method).1
  have X0 : Stand p l e ({ frames := 0, cells := 0, slots := 0, locals := 0 } : Room) s m #[(.ref a1), (.int (0 : Int32)), (.ref a3), (.int (0 : Int32)), (.int (8 : Int32))] below meth c s₁ [] 0 0 := Stand.of_body Bd
  have e0 : s₁.heap = h0 := by rw [← hh, Bd.state]; rfl
  have N0 := Fr.nil n0
  refine own_start (Q := Q8 Z a1 a3 kc kb x0 x1 x2 x3 x4 x5 x6 x7 h0 n0) (own_cast (ef_8 m a1 (0 : Int32) a3 (0 : Int32) (8 : Int32)) ?_)
  show Go p.tables e below _ (s₁.setTop (mkF m 0 #[.val (.ref a1), .val (.int (0 : Int32)), .val (.ref a3), .val (.int (0 : Int32)), .val (.int (8 : Int32)), .unset, .unset] []))
  refine Go.st (fun U hr => XS.iconst X0.here hx rfl (hb hby d8_0) hr) ?_
  show Go p.tables e below _ (s₁.setTop (mkF m 1 #[.val (.ref a1), .val (.int (0 : Int32)), .val (.ref a3), .val (.int (0 : Int32)), .val (.int (8 : Int32)), .unset, .unset] [(.int (0 : Int32))]))
  refine Go.st (fun U hr => XS.istore X0.here hx rfl (hb hby d8_1) rfl (l' := #[.val (.ref a1), .val (.int (0 : Int32)), .val (.ref a3), .val (.int (0 : Int32)), .val (.int (8 : Int32)), .val (.int (0 : Int32)), .unset]) rfl hr) ?_
  show Go p.tables e below _ (s₁.setTop (mkF m 3 #[.val (.ref a1), .val (.int (0 : Int32)), .val (.ref a3), .val (.int (0 : Int32)), .val (.int (8 : Int32)), .val (.int (0 : Int32)), .unset] []))
  show Go p.tables e below _ (s₁.setTop (mkF m 3 #[.val (.ref a1), .val (.int (0 : Int32)), .val (.ref a3), .val (.int (0 : Int32)), .val (.int (8 : Int32)), .val (.int (0 : Int32)), .unset] []))
  refine Go.st (fun U hr => XS.iload X0.here hx rfl (hb hby d8_3) rfl hr) ?_
  show Go p.tables e below _ (s₁.setTop (mkF m 5 #[.val (.ref a1), .val (.int (0 : Int32)), .val (.ref a3), .val (.int (0 : Int32)), .val (.int (8 : Int32)), .val (.int (0 : Int32)), .unset] [(.int (0 : Int32))]))
  refine Go.st (fun U hr => XS.iload X0.here hx rfl (hb hby d8_5) rfl hr) ?_
  show Go p.tables e below _ (s₁.setTop (mkF m 7 #[.val (.ref a1), .val (.int (0 : Int32)), .val (.ref a3), .val (.int (0 : Int32)), .val (.int (8 : Int32)), .val (.int (0 : Int32)), .unset] [(.int (8 : Int32)), (.int (0 : Int32))]))
  refine Go.st (fun U hr => XS.icmpNo X0.here hx rfl (hb hby d8_7) rfl (by decide) hr) ?_
  show Go p.tables e below _ (s₁.setTop (mkF m 10 #[.val (.ref a1), .val (.int (0 : Int32)), .val (.ref a3), .val (.int (0 : Int32)), .val (.int (8 : Int32)), .val (.int (0 : Int32)), .unset] []))
  refine Go.st (fun U hr => XS.aloadN X0.here hx rfl (hb hby d8_10) rfl rfl hr) ?_
  show Go p.tables e below _ (s₁.setTop (mkF m 11 #[.val (.ref a1), .val (.int (0 : Int32)), .val (.ref a3), .val (.int (0 : Int32)), .val (.int (8 : Int32)), .val (.int (0 : Int32)), .unset] [(.ref a1)]))
  refine Go.st (fun U hr => XS.iloadN X0.here hx rfl (hb hby d8_11) rfl hr) ?_
  show Go p.tables e below _ (s₁.setTop (mkF m 12 #[.val (.ref a1), .val (.int (0 : Int32)), .val (.ref a3), .val (.int (0 : Int32)), .val (.int (8 : Int32)), .val (.int (0 : Int32)), .unset] [(.int (0 : Int32)), (.ref a1)]))
  obtain ⟨cl1, Ar1, qa1, Sa1, Na1, Ha1, Ga1⟩ := id V1
  have hin1 : ¬ ((0 : Int32) < 0 ∨ cl1.slots.size ≤ ((0 : Int32)).toNatClampNeg) := inb_of Sa1 ⟨by decide, by decide⟩
  refine Go.st (X0.caload hx (j := (0 : Int32)) (v := (.int x0)) (by rw [e0]; exact Ar1.1) (State.isArrayOf_alike hZ.alike Ar1.2.1) Ar1.2.2 hin1 (Ha1.at hin1 rfl) (g := (mkF m 12 #[.val (.ref a1), .val (.int (0 : Int32)), .val (.ref a3), .val (.int (0 : Int32)), .val (.int (8 : Int32)), .val (.int (0 : Int32)), .unset] [(.int (0 : Int32)), (.ref a1)])) rfl rfl (hb hby d8_12)) ?_
  show Go p.tables e below _ (s₁.setTop (mkF m 13 #[.val (.ref a1), .val (.int (0 : Int32)), .val (.ref a3), .val (.int (0 : Int32)), .val (.int (8 : Int32)), .val (.int (0 : Int32)), .unset] [(.int x0)]))
  refine Go.st (fun U hr => XS.istore X0.here hx rfl (hb hby d8_13) rfl (l' := #[.val (.ref a1), .val (.int (0 : Int32)), .val (.ref a3), .val (.int (0 : Int32)), .val (.int (8 : Int32)), .val (.int (0 : Int32)), .val (.int x0)]) rfl hr) ?_
  show Go p.tables e below _ (s₁.setTop (mkF m 15 #[.val (.ref a1), .val (.int (0 : Int32)), .val (.ref a3), .val (.int (0 : Int32)), .val (.int (8 : Int32)), .val (.int (0 : Int32)), .val (.int x0)] []))
  refine Go.st (fun U hr => XS.iload X0.here hx rfl (hb hby d8_15) rfl hr) ?_
  show Go p.tables e below _ (s₁.setTop (mkF m 17 #[.val (.ref a1), .val (.int (0 : Int32)), .val (.ref a3), .val (.int (0 : Int32)), .val (.int (8 : Int32)), .val (.int (0 : Int32)), .val (.int x0)] [(.int x0)]))
  refine Go.st (fun U hr => XS.sipush X0.here hx rfl (hb hby d8_17) hr) ?_
  show Go p.tables e below _ (s₁.setTop (mkF m 20 #[.val (.ref a1), .val (.int (0 : Int32)), .val (.ref a3), .val (.int (0 : Int32)), .val (.int (8 : Int32)), .val (.int (0 : Int32)), .val (.int x0)] [(.int (255 : Int32)), (.int x0)]))
  have hc20_2 : ¬ ((255 : Int32) < x0) := hx0
  refine Go.st (fun U hr => XS.icmpYes X0.here hx rfl (pc0 := 20) (pc' := 26) rfl (hb hby d8_20) rfl (flt hc20_2).2.2.2 (by decide) (by decide) hr) ?_
  show Go p.tables e below _ (s₁.setTop (mkF m 26 #[.val (.ref a1), .val (.int (0 : Int32)), .val (.ref a3), .val (.int (0 : Int32)), .val (.int (8 : Int32)), .val (.int (0 : Int32)), .val (.int x0)] []))
  refine Go.st (fun U hr => XS.aloadN X0.here hx rfl (hb hby d8_26) rfl rfl hr) ?_
  show Go p.tables e below _ (s₁.setTop (mkF m 27 #[.val (.ref a1), .val (.int (0 : Int32)), .val (.ref a3), .val (.int (0 : Int32)), .val (.int (8 : Int32)), .val (.int (0 : Int32)), .val (.int x0)] [(.ref a3)]))
  refine Go.st (fun U hr => XS.iloadN X0.here hx rfl (hb hby d8_27) rfl hr) ?_
  show Go p.tables e below _ (s₁.setTop (mkF m 28 #[.val (.ref a1), .val (.int (0 : Int32)), .val (.ref a3), .val (.int (0 : Int32)), .val (.int (8 : Int32)), .val (.int (0 : Int32)), .val (.int x0)] [(.int (0 : Int32)), (.ref a3)]))
  refine Go.st (fun U hr => XS.iload X0.here hx rfl (hb hby d8_28) rfl hr) ?_
  show Go p.tables e below _ (s₁.setTop (mkF m 30 #[.val (.ref a1), .val (.int (0 : Int32)), .val (.ref a3), .val (.int (0 : Int32)), .val (.int (8 : Int32)), .val (.int (0 : Int32)), .val (.int x0)] [(.int x0), (.int (0 : Int32)), (.ref a3)]))
  refine Go.st (fun U hr => XS.i2b X0.here hx rfl (hb hby d8_30) rfl hr) ?_
  show Go p.tables e below _ (s₁.setTop (mkF m 31 #[.val (.ref a1), .val (.int (0 : Int32)), .val (.ref a3), .val (.int (0 : Int32)), .val (.int (8 : Int32)), .val (.int (0 : Int32)), .val (.int x0)] [(.int (x0.toInt8.toInt32)), (.int (0 : Int32)), (.ref a3)]))
  obtain ⟨cl3, Ar3, qa3, Sa3, Na3, Ha3, Ga3⟩ := id V3
  have hin3 : ¬ ((0 : Int32) < 0 ∨ cl3.slots.size ≤ ((0 : Int32)).toNatClampNeg) := inb_of Sa3 ⟨by decide, by decide⟩
  obtain ⟨T4, h4, X4, e4, W4, st4⟩ := stB X0 hx hZ e0 Ar3 (j := (0 : Int32)) hin3 (g := (mkF m 31 #[.val (.ref a1), .val (.int (0 : Int32)), .val (.ref a3), .val (.int (0 : Int32)), .val (.int (8 : Int32)), .val (.int (0 : Int32)), .val (.int x0)] [(.int (x0.toInt8.toInt32)), (.int (0 : Int32)), (.ref a3)])) rfl rfl (hb hby d8_31)
  refine Go.st st4 ?_
  have V4 := Arv.set Ar3 qa3 Sa3 Na3 Ha3 Ga3 (fits_nar_byte _) W4 0 rfl (Nat.le_of_ble_eq_true rfl)
  have k5 := ((Keep.refl h0 [a3])).wr W4 (Or.inl (List.mem_of_getElem? (i := 0) rfl))
  have f6 := (V1).other W4 ne
  have z8 := Nat.le_trans Z0 (Keep.of_wr W4).1
  have N4 := Fr.snoc X4 N0 g3
  show Go p.tables e below _ (T4.setTop (mkF m 32 #[.val (.ref a1), .val (.int (0 : Int32)), .val (.ref a3), .val (.int (0 : Int32)), .val (.int (8 : Int32)), .val (.int (0 : Int32)), .val (.int x0)] []))
  refine Go.st (fun U hr => XS.iinc X4.here hx rfl (hb hby d8_32) rfl (l' := #[.val (.ref a1), .val (.int ((0 : Int32) + (1 : Int32))), .val (.ref a3), .val (.int (0 : Int32)), .val (.int (8 : Int32)), .val (.int (0 : Int32)), .val (.int x0)]) rfl hr) ?_
  show Go p.tables e below _ (T4.setTop (mkF m 35 #[.val (.ref a1), .val (.int ((0 : Int32) + (1 : Int32))), .val (.ref a3), .val (.int (0 : Int32)), .val (.int (8 : Int32)), .val (.int (0 : Int32)), .val (.int x0)] []))
  refine Go.st (fun U hr => XS.iinc X4.here hx rfl (hb hby d8_35) rfl (l' := #[.val (.ref a1), .val (.int ((0 : Int32) + (1 : Int32))), .val (.ref a3), .val (.int ((0 : Int32) + (1 : Int32))), .val (.int (8 : Int32)), .val (.int (0 : Int32)), .val (.int x0)]) rfl hr) ?_
  show Go p.tables e below _ (T4.setTop (mkF m 38 #[.val (.ref a1), .val (.int ((0 : Int32) + (1 : Int32))), .val (.ref a3), .val (.int ((0 : Int32) + (1 : Int32))), .val (.int (8 : Int32)), .val (.int (0 : Int32)), .val (.int x0)] []))
  refine Go.st (fun U hr => XS.iinc X4.here hx rfl (hb hby d8_38) rfl (l' := #[.val (.ref a1), .val (.int ((0 : Int32) + (1 : Int32))), .val (.ref a3), .val (.int ((0 : Int32) + (1 : Int32))), .val (.int (8 : Int32)), .val (.int ((0 : Int32) + (1 : Int32))), .val (.int x0)]) rfl hr) ?_
  show Go p.tables e below _ (T4.setTop (mkF m 41 #[.val (.ref a1), .val (.int ((0 : Int32) + (1 : Int32))), .val (.ref a3), .val (.int ((0 : Int32) + (1 : Int32))), .val (.int (8 : Int32)), .val (.int ((0 : Int32) + (1 : Int32))), .val (.int x0)] []))
  refine Go.st (fun U hr => XS.goto X4.here hx rfl (pc0 := 41) (pc' := 3) rfl (hb hby d8_41) (by decide) (by decide) hr) ?_
  show Go p.tables e below _ (T4.setTop (mkF m 3 #[.val (.ref a1), .val (.int ((0 : Int32) + (1 : Int32))), .val (.ref a3), .val (.int ((0 : Int32) + (1 : Int32))), .val (.int (8 : Int32)), .val (.int ((0 : Int32) + (1 : Int32))), .val (.int x0)] []))
  rw [show ((0 : Int32) + (1 : Int32)) = (1 : Int32) from by decide]
  show Go p.tables e below _ (T4.setTop (mkF m 3 #[.val (.ref a1), .val (.int (1 : Int32)), .val (.ref a3), .val (.int (1 : Int32)), .val (.int (8 : Int32)), .val (.int (1 : Int32)), .val (.int x0)] []))
  refine Go.st (fun U hr => XS.iload X4.here hx rfl (hb hby d8_3) rfl hr) ?_
  show Go p.tables e below _ (T4.setTop (mkF m 5 #[.val (.ref a1), .val (.int (1 : Int32)), .val (.ref a3), .val (.int (1 : Int32)), .val (.int (8 : Int32)), .val (.int (1 : Int32)), .val (.int x0)] [(.int (1 : Int32))]))
  refine Go.st (fun U hr => XS.iload X4.here hx rfl (hb hby d8_5) rfl hr) ?_
  show Go p.tables e below _ (T4.setTop (mkF m 7 #[.val (.ref a1), .val (.int (1 : Int32)), .val (.ref a3), .val (.int (1 : Int32)), .val (.int (8 : Int32)), .val (.int (1 : Int32)), .val (.int x0)] [(.int (8 : Int32)), (.int (1 : Int32))]))
  refine Go.st (fun U hr => XS.icmpNo X4.here hx rfl (hb hby d8_7) rfl (by decide) hr) ?_
  show Go p.tables e below _ (T4.setTop (mkF m 10 #[.val (.ref a1), .val (.int (1 : Int32)), .val (.ref a3), .val (.int (1 : Int32)), .val (.int (8 : Int32)), .val (.int (1 : Int32)), .val (.int x0)] []))
  refine Go.st (fun U hr => XS.aloadN X4.here hx rfl (hb hby d8_10) rfl rfl hr) ?_
  show Go p.tables e below _ (T4.setTop (mkF m 11 #[.val (.ref a1), .val (.int (1 : Int32)), .val (.ref a3), .val (.int (1 : Int32)), .val (.int (8 : Int32)), .val (.int (1 : Int32)), .val (.int x0)] [(.ref a1)]))
  refine Go.st (fun U hr => XS.iloadN X4.here hx rfl (hb hby d8_11) rfl hr) ?_
  show Go p.tables e below _ (T4.setTop (mkF m 12 #[.val (.ref a1), .val (.int (1 : Int32)), .val (.ref a3), .val (.int (1 : Int32)), .val (.int (8 : Int32)), .val (.int (1 : Int32)), .val (.int x0)] [(.int (1 : Int32)), (.ref a1)]))
  obtain ⟨cl9, Ar9, qa9, Sa9, Na9, Ha9, Ga9⟩ := id f6
  have hin9 : ¬ ((1 : Int32) < 0 ∨ cl9.slots.size ≤ ((1 : Int32)).toNatClampNeg) := inb_of Sa9 ⟨by decide, by decide⟩
  refine Go.st (X4.caload hx (j := (1 : Int32)) (v := (.int x1)) (by rw [e4]; exact Ar9.1) (State.isArrayOf_alike hZ.alike Ar9.2.1) Ar9.2.2 hin9 (Ha9.at hin9 rfl) (g := (mkF m 12 #[.val (.ref a1), .val (.int (1 : Int32)), .val (.ref a3), .val (.int (1 : Int32)), .val (.int (8 : Int32)), .val (.int (1 : Int32)), .val (.int x0)] [(.int (1 : Int32)), (.ref a1)])) rfl rfl (hb hby d8_12)) ?_
  show Go p.tables e below _ (T4.setTop (mkF m 13 #[.val (.ref a1), .val (.int (1 : Int32)), .val (.ref a3), .val (.int (1 : Int32)), .val (.int (8 : Int32)), .val (.int (1 : Int32)), .val (.int x0)] [(.int x1)]))
  refine Go.st (fun U hr => XS.istore X4.here hx rfl (hb hby d8_13) rfl (l' := #[.val (.ref a1), .val (.int (1 : Int32)), .val (.ref a3), .val (.int (1 : Int32)), .val (.int (8 : Int32)), .val (.int (1 : Int32)), .val (.int x1)]) rfl hr) ?_
  show Go p.tables e below _ (T4.setTop (mkF m 15 #[.val (.ref a1), .val (.int (1 : Int32)), .val (.ref a3), .val (.int (1 : Int32)), .val (.int (8 : Int32)), .val (.int (1 : Int32)), .val (.int x1)] []))
  refine Go.st (fun U hr => XS.iload X4.here hx rfl (hb hby d8_15) rfl hr) ?_
  show Go p.tables e below _ (T4.setTop (mkF m 17 #[.val (.ref a1), .val (.int (1 : Int32)), .val (.ref a3), .val (.int (1 : Int32)), .val (.int (8 : Int32)), .val (.int (1 : Int32)), .val (.int x1)] [(.int x1)]))
  refine Go.st (fun U hr => XS.sipush X4.here hx rfl (hb hby d8_17) hr) ?_
  show Go p.tables e below _ (T4.setTop (mkF m 20 #[.val (.ref a1), .val (.int (1 : Int32)), .val (.ref a3), .val (.int (1 : Int32)), .val (.int (8 : Int32)), .val (.int (1 : Int32)), .val (.int x1)] [(.int (255 : Int32)), (.int x1)]))
  have hc20_10 : ¬ ((255 : Int32) < x1) := hx1
  refine Go.st (fun U hr => XS.icmpYes X4.here hx rfl (pc0 := 20) (pc' := 26) rfl (hb hby d8_20) rfl (flt hc20_10).2.2.2 (by decide) (by decide) hr) ?_
  show Go p.tables e below _ (T4.setTop (mkF m 26 #[.val (.ref a1), .val (.int (1 : Int32)), .val (.ref a3), .val (.int (1 : Int32)), .val (.int (8 : Int32)), .val (.int (1 : Int32)), .val (.int x1)] []))
  refine Go.st (fun U hr => XS.aloadN X4.here hx rfl (hb hby d8_26) rfl rfl hr) ?_
  show Go p.tables e below _ (T4.setTop (mkF m 27 #[.val (.ref a1), .val (.int (1 : Int32)), .val (.ref a3), .val (.int (1 : Int32)), .val (.int (8 : Int32)), .val (.int (1 : Int32)), .val (.int x1)] [(.ref a3)]))
  refine Go.st (fun U hr => XS.iloadN X4.here hx rfl (hb hby d8_27) rfl hr) ?_
  show Go p.tables e below _ (T4.setTop (mkF m 28 #[.val (.ref a1), .val (.int (1 : Int32)), .val (.ref a3), .val (.int (1 : Int32)), .val (.int (8 : Int32)), .val (.int (1 : Int32)), .val (.int x1)] [(.int (1 : Int32)), (.ref a3)]))
  refine Go.st (fun U hr => XS.iload X4.here hx rfl (hb hby d8_28) rfl hr) ?_
  show Go p.tables e below _ (T4.setTop (mkF m 30 #[.val (.ref a1), .val (.int (1 : Int32)), .val (.ref a3), .val (.int (1 : Int32)), .val (.int (8 : Int32)), .val (.int (1 : Int32)), .val (.int x1)] [(.int x1), (.int (1 : Int32)), (.ref a3)]))
  refine Go.st (fun U hr => XS.i2b X4.here hx rfl (hb hby d8_30) rfl hr) ?_
  show Go p.tables e below _ (T4.setTop (mkF m 31 #[.val (.ref a1), .val (.int (1 : Int32)), .val (.ref a3), .val (.int (1 : Int32)), .val (.int (8 : Int32)), .val (.int (1 : Int32)), .val (.int x1)] [(.int (x1.toInt8.toInt32)), (.int (1 : Int32)), (.ref a3)]))
  obtain ⟨cl11, Ar11, qa11, Sa11, Na11, Ha11, Ga11⟩ := id V4
  have hin11 : ¬ ((1 : Int32) < 0 ∨ cl11.slots.size ≤ ((1 : Int32)).toNatClampNeg) := inb_of Sa11 ⟨by decide, by decide⟩
  obtain ⟨T12, h12, X12, e12, W12, st12⟩ := stB X4 hx hZ e4 Ar11 (j := (1 : Int32)) hin11 (g := (mkF m 31 #[.val (.ref a1), .val (.int (1 : Int32)), .val (.ref a3), .val (.int (1 : Int32)), .val (.int (8 : Int32)), .val (.int (1 : Int32)), .val (.int x1)] [(.int (x1.toInt8.toInt32)), (.int (1 : Int32)), (.ref a3)])) rfl rfl (hb hby d8_31)
  refine Go.st st12 ?_
  have V12 := Arv.set Ar11 qa11 Sa11 Na11 Ha11 Ga11 (fits_nar_byte _) W12 1 rfl (Nat.le_of_ble_eq_true rfl)
  have k13 := (k5).wr W12 (Or.inl (List.mem_of_getElem? (i := 0) rfl))
  have f14 := (f6).other W12 ne
  have z16 := Nat.le_trans z8 (Keep.of_wr W12).1
  have N12 := Fr.snoc X12 N4 g3
  show Go p.tables e below _ (T12.setTop (mkF m 32 #[.val (.ref a1), .val (.int (1 : Int32)), .val (.ref a3), .val (.int (1 : Int32)), .val (.int (8 : Int32)), .val (.int (1 : Int32)), .val (.int x1)] []))
  refine Go.st (fun U hr => XS.iinc X12.here hx rfl (hb hby d8_32) rfl (l' := #[.val (.ref a1), .val (.int ((1 : Int32) + (1 : Int32))), .val (.ref a3), .val (.int (1 : Int32)), .val (.int (8 : Int32)), .val (.int (1 : Int32)), .val (.int x1)]) rfl hr) ?_
  show Go p.tables e below _ (T12.setTop (mkF m 35 #[.val (.ref a1), .val (.int ((1 : Int32) + (1 : Int32))), .val (.ref a3), .val (.int (1 : Int32)), .val (.int (8 : Int32)), .val (.int (1 : Int32)), .val (.int x1)] []))
  refine Go.st (fun U hr => XS.iinc X12.here hx rfl (hb hby d8_35) rfl (l' := #[.val (.ref a1), .val (.int ((1 : Int32) + (1 : Int32))), .val (.ref a3), .val (.int ((1 : Int32) + (1 : Int32))), .val (.int (8 : Int32)), .val (.int (1 : Int32)), .val (.int x1)]) rfl hr) ?_
  show Go p.tables e below _ (T12.setTop (mkF m 38 #[.val (.ref a1), .val (.int ((1 : Int32) + (1 : Int32))), .val (.ref a3), .val (.int ((1 : Int32) + (1 : Int32))), .val (.int (8 : Int32)), .val (.int (1 : Int32)), .val (.int x1)] []))
  refine Go.st (fun U hr => XS.iinc X12.here hx rfl (hb hby d8_38) rfl (l' := #[.val (.ref a1), .val (.int ((1 : Int32) + (1 : Int32))), .val (.ref a3), .val (.int ((1 : Int32) + (1 : Int32))), .val (.int (8 : Int32)), .val (.int ((1 : Int32) + (1 : Int32))), .val (.int x1)]) rfl hr) ?_
  show Go p.tables e below _ (T12.setTop (mkF m 41 #[.val (.ref a1), .val (.int ((1 : Int32) + (1 : Int32))), .val (.ref a3), .val (.int ((1 : Int32) + (1 : Int32))), .val (.int (8 : Int32)), .val (.int ((1 : Int32) + (1 : Int32))), .val (.int x1)] []))
  refine Go.st (fun U hr => XS.goto X12.here hx rfl (pc0 := 41) (pc' := 3) rfl (hb hby d8_41) (by decide) (by decide) hr) ?_
  show Go p.tables e below _ (T12.setTop (mkF m 3 #[.val (.ref a1), .val (.int ((1 : Int32) + (1 : Int32))), .val (.ref a3), .val (.int ((1 : Int32) + (1 : Int32))), .val (.int (8 : Int32)), .val (.int ((1 : Int32) + (1 : Int32))), .val (.int x1)] []))
  rw [show ((1 : Int32) + (1 : Int32)) = (2 : Int32) from by decide]
  show Go p.tables e below _ (T12.setTop (mkF m 3 #[.val (.ref a1), .val (.int (2 : Int32)), .val (.ref a3), .val (.int (2 : Int32)), .val (.int (8 : Int32)), .val (.int (2 : Int32)), .val (.int x1)] []))
  refine Go.st (fun U hr => XS.iload X12.here hx rfl (hb hby d8_3) rfl hr) ?_
  show Go p.tables e below _ (T12.setTop (mkF m 5 #[.val (.ref a1), .val (.int (2 : Int32)), .val (.ref a3), .val (.int (2 : Int32)), .val (.int (8 : Int32)), .val (.int (2 : Int32)), .val (.int x1)] [(.int (2 : Int32))]))
  refine Go.st (fun U hr => XS.iload X12.here hx rfl (hb hby d8_5) rfl hr) ?_
  show Go p.tables e below _ (T12.setTop (mkF m 7 #[.val (.ref a1), .val (.int (2 : Int32)), .val (.ref a3), .val (.int (2 : Int32)), .val (.int (8 : Int32)), .val (.int (2 : Int32)), .val (.int x1)] [(.int (8 : Int32)), (.int (2 : Int32))]))
  refine Go.st (fun U hr => XS.icmpNo X12.here hx rfl (hb hby d8_7) rfl (by decide) hr) ?_
  show Go p.tables e below _ (T12.setTop (mkF m 10 #[.val (.ref a1), .val (.int (2 : Int32)), .val (.ref a3), .val (.int (2 : Int32)), .val (.int (8 : Int32)), .val (.int (2 : Int32)), .val (.int x1)] []))
  refine Go.st (fun U hr => XS.aloadN X12.here hx rfl (hb hby d8_10) rfl rfl hr) ?_
  show Go p.tables e below _ (T12.setTop (mkF m 11 #[.val (.ref a1), .val (.int (2 : Int32)), .val (.ref a3), .val (.int (2 : Int32)), .val (.int (8 : Int32)), .val (.int (2 : Int32)), .val (.int x1)] [(.ref a1)]))
  refine Go.st (fun U hr => XS.iloadN X12.here hx rfl (hb hby d8_11) rfl hr) ?_
  show Go p.tables e below _ (T12.setTop (mkF m 12 #[.val (.ref a1), .val (.int (2 : Int32)), .val (.ref a3), .val (.int (2 : Int32)), .val (.int (8 : Int32)), .val (.int (2 : Int32)), .val (.int x1)] [(.int (2 : Int32)), (.ref a1)]))
  obtain ⟨cl17, Ar17, qa17, Sa17, Na17, Ha17, Ga17⟩ := id f14
  have hin17 : ¬ ((2 : Int32) < 0 ∨ cl17.slots.size ≤ ((2 : Int32)).toNatClampNeg) := inb_of Sa17 ⟨by decide, by decide⟩
  refine Go.st (X12.caload hx (j := (2 : Int32)) (v := (.int x2)) (by rw [e12]; exact Ar17.1) (State.isArrayOf_alike hZ.alike Ar17.2.1) Ar17.2.2 hin17 (Ha17.at hin17 rfl) (g := (mkF m 12 #[.val (.ref a1), .val (.int (2 : Int32)), .val (.ref a3), .val (.int (2 : Int32)), .val (.int (8 : Int32)), .val (.int (2 : Int32)), .val (.int x1)] [(.int (2 : Int32)), (.ref a1)])) rfl rfl (hb hby d8_12)) ?_
  show Go p.tables e below _ (T12.setTop (mkF m 13 #[.val (.ref a1), .val (.int (2 : Int32)), .val (.ref a3), .val (.int (2 : Int32)), .val (.int (8 : Int32)), .val (.int (2 : Int32)), .val (.int x1)] [(.int x2)]))
  refine Go.st (fun U hr => XS.istore X12.here hx rfl (hb hby d8_13) rfl (l' := #[.val (.ref a1), .val (.int (2 : Int32)), .val (.ref a3), .val (.int (2 : Int32)), .val (.int (8 : Int32)), .val (.int (2 : Int32)), .val (.int x2)]) rfl hr) ?_
  show Go p.tables e below _ (T12.setTop (mkF m 15 #[.val (.ref a1), .val (.int (2 : Int32)), .val (.ref a3), .val (.int (2 : Int32)), .val (.int (8 : Int32)), .val (.int (2 : Int32)), .val (.int x2)] []))
  refine Go.st (fun U hr => XS.iload X12.here hx rfl (hb hby d8_15) rfl hr) ?_
  show Go p.tables e below _ (T12.setTop (mkF m 17 #[.val (.ref a1), .val (.int (2 : Int32)), .val (.ref a3), .val (.int (2 : Int32)), .val (.int (8 : Int32)), .val (.int (2 : Int32)), .val (.int x2)] [(.int x2)]))
  refine Go.st (fun U hr => XS.sipush X12.here hx rfl (hb hby d8_17) hr) ?_
  show Go p.tables e below _ (T12.setTop (mkF m 20 #[.val (.ref a1), .val (.int (2 : Int32)), .val (.ref a3), .val (.int (2 : Int32)), .val (.int (8 : Int32)), .val (.int (2 : Int32)), .val (.int x2)] [(.int (255 : Int32)), (.int x2)]))
  have hc20_18 : ¬ ((255 : Int32) < x2) := hx2
  refine Go.st (fun U hr => XS.icmpYes X12.here hx rfl (pc0 := 20) (pc' := 26) rfl (hb hby d8_20) rfl (flt hc20_18).2.2.2 (by decide) (by decide) hr) ?_
  show Go p.tables e below _ (T12.setTop (mkF m 26 #[.val (.ref a1), .val (.int (2 : Int32)), .val (.ref a3), .val (.int (2 : Int32)), .val (.int (8 : Int32)), .val (.int (2 : Int32)), .val (.int x2)] []))
  refine Go.st (fun U hr => XS.aloadN X12.here hx rfl (hb hby d8_26) rfl rfl hr) ?_
  show Go p.tables e below _ (T12.setTop (mkF m 27 #[.val (.ref a1), .val (.int (2 : Int32)), .val (.ref a3), .val (.int (2 : Int32)), .val (.int (8 : Int32)), .val (.int (2 : Int32)), .val (.int x2)] [(.ref a3)]))
  refine Go.st (fun U hr => XS.iloadN X12.here hx rfl (hb hby d8_27) rfl hr) ?_
  show Go p.tables e below _ (T12.setTop (mkF m 28 #[.val (.ref a1), .val (.int (2 : Int32)), .val (.ref a3), .val (.int (2 : Int32)), .val (.int (8 : Int32)), .val (.int (2 : Int32)), .val (.int x2)] [(.int (2 : Int32)), (.ref a3)]))
  refine Go.st (fun U hr => XS.iload X12.here hx rfl (hb hby d8_28) rfl hr) ?_
  show Go p.tables e below _ (T12.setTop (mkF m 30 #[.val (.ref a1), .val (.int (2 : Int32)), .val (.ref a3), .val (.int (2 : Int32)), .val (.int (8 : Int32)), .val (.int (2 : Int32)), .val (.int x2)] [(.int x2), (.int (2 : Int32)), (.ref a3)]))
  refine Go.st (fun U hr => XS.i2b X12.here hx rfl (hb hby d8_30) rfl hr) ?_
  show Go p.tables e below _ (T12.setTop (mkF m 31 #[.val (.ref a1), .val (.int (2 : Int32)), .val (.ref a3), .val (.int (2 : Int32)), .val (.int (8 : Int32)), .val (.int (2 : Int32)), .val (.int x2)] [(.int (x2.toInt8.toInt32)), (.int (2 : Int32)), (.ref a3)]))
  obtain ⟨cl19, Ar19, qa19, Sa19, Na19, Ha19, Ga19⟩ := id V12
  have hin19 : ¬ ((2 : Int32) < 0 ∨ cl19.slots.size ≤ ((2 : Int32)).toNatClampNeg) := inb_of Sa19 ⟨by decide, by decide⟩
  obtain ⟨T20, h20, X20, e20, W20, st20⟩ := stB X12 hx hZ e12 Ar19 (j := (2 : Int32)) hin19 (g := (mkF m 31 #[.val (.ref a1), .val (.int (2 : Int32)), .val (.ref a3), .val (.int (2 : Int32)), .val (.int (8 : Int32)), .val (.int (2 : Int32)), .val (.int x2)] [(.int (x2.toInt8.toInt32)), (.int (2 : Int32)), (.ref a3)])) rfl rfl (hb hby d8_31)
  refine Go.st st20 ?_
  have V20 := Arv.set Ar19 qa19 Sa19 Na19 Ha19 Ga19 (fits_nar_byte _) W20 2 rfl (Nat.le_of_ble_eq_true rfl)
  have k21 := (k13).wr W20 (Or.inl (List.mem_of_getElem? (i := 0) rfl))
  have f22 := (f14).other W20 ne
  have z24 := Nat.le_trans z16 (Keep.of_wr W20).1
  have N20 := Fr.snoc X20 N12 g3
  show Go p.tables e below _ (T20.setTop (mkF m 32 #[.val (.ref a1), .val (.int (2 : Int32)), .val (.ref a3), .val (.int (2 : Int32)), .val (.int (8 : Int32)), .val (.int (2 : Int32)), .val (.int x2)] []))
  refine Go.st (fun U hr => XS.iinc X20.here hx rfl (hb hby d8_32) rfl (l' := #[.val (.ref a1), .val (.int ((2 : Int32) + (1 : Int32))), .val (.ref a3), .val (.int (2 : Int32)), .val (.int (8 : Int32)), .val (.int (2 : Int32)), .val (.int x2)]) rfl hr) ?_
  show Go p.tables e below _ (T20.setTop (mkF m 35 #[.val (.ref a1), .val (.int ((2 : Int32) + (1 : Int32))), .val (.ref a3), .val (.int (2 : Int32)), .val (.int (8 : Int32)), .val (.int (2 : Int32)), .val (.int x2)] []))
  refine Go.st (fun U hr => XS.iinc X20.here hx rfl (hb hby d8_35) rfl (l' := #[.val (.ref a1), .val (.int ((2 : Int32) + (1 : Int32))), .val (.ref a3), .val (.int ((2 : Int32) + (1 : Int32))), .val (.int (8 : Int32)), .val (.int (2 : Int32)), .val (.int x2)]) rfl hr) ?_
  show Go p.tables e below _ (T20.setTop (mkF m 38 #[.val (.ref a1), .val (.int ((2 : Int32) + (1 : Int32))), .val (.ref a3), .val (.int ((2 : Int32) + (1 : Int32))), .val (.int (8 : Int32)), .val (.int (2 : Int32)), .val (.int x2)] []))
  refine Go.st (fun U hr => XS.iinc X20.here hx rfl (hb hby d8_38) rfl (l' := #[.val (.ref a1), .val (.int ((2 : Int32) + (1 : Int32))), .val (.ref a3), .val (.int ((2 : Int32) + (1 : Int32))), .val (.int (8 : Int32)), .val (.int ((2 : Int32) + (1 : Int32))), .val (.int x2)]) rfl hr) ?_
  show Go p.tables e below _ (T20.setTop (mkF m 41 #[.val (.ref a1), .val (.int ((2 : Int32) + (1 : Int32))), .val (.ref a3), .val (.int ((2 : Int32) + (1 : Int32))), .val (.int (8 : Int32)), .val (.int ((2 : Int32) + (1 : Int32))), .val (.int x2)] []))
  refine Go.st (fun U hr => XS.goto X20.here hx rfl (pc0 := 41) (pc' := 3) rfl (hb hby d8_41) (by decide) (by decide) hr) ?_
  show Go p.tables e below _ (T20.setTop (mkF m 3 #[.val (.ref a1), .val (.int ((2 : Int32) + (1 : Int32))), .val (.ref a3), .val (.int ((2 : Int32) + (1 : Int32))), .val (.int (8 : Int32)), .val (.int ((2 : Int32) + (1 : Int32))), .val (.int x2)] []))
  rw [show ((2 : Int32) + (1 : Int32)) = (3 : Int32) from by decide]
  show Go p.tables e below _ (T20.setTop (mkF m 3 #[.val (.ref a1), .val (.int (3 : Int32)), .val (.ref a3), .val (.int (3 : Int32)), .val (.int (8 : Int32)), .val (.int (3 : Int32)), .val (.int x2)] []))
  refine Go.st (fun U hr => XS.iload X20.here hx rfl (hb hby d8_3) rfl hr) ?_
  show Go p.tables e below _ (T20.setTop (mkF m 5 #[.val (.ref a1), .val (.int (3 : Int32)), .val (.ref a3), .val (.int (3 : Int32)), .val (.int (8 : Int32)), .val (.int (3 : Int32)), .val (.int x2)] [(.int (3 : Int32))]))
  refine Go.st (fun U hr => XS.iload X20.here hx rfl (hb hby d8_5) rfl hr) ?_
  show Go p.tables e below _ (T20.setTop (mkF m 7 #[.val (.ref a1), .val (.int (3 : Int32)), .val (.ref a3), .val (.int (3 : Int32)), .val (.int (8 : Int32)), .val (.int (3 : Int32)), .val (.int x2)] [(.int (8 : Int32)), (.int (3 : Int32))]))
  refine Go.st (fun U hr => XS.icmpNo X20.here hx rfl (hb hby d8_7) rfl (by decide) hr) ?_
  show Go p.tables e below _ (T20.setTop (mkF m 10 #[.val (.ref a1), .val (.int (3 : Int32)), .val (.ref a3), .val (.int (3 : Int32)), .val (.int (8 : Int32)), .val (.int (3 : Int32)), .val (.int x2)] []))
  refine Go.st (fun U hr => XS.aloadN X20.here hx rfl (hb hby d8_10) rfl rfl hr) ?_
  show Go p.tables e below _ (T20.setTop (mkF m 11 #[.val (.ref a1), .val (.int (3 : Int32)), .val (.ref a3), .val (.int (3 : Int32)), .val (.int (8 : Int32)), .val (.int (3 : Int32)), .val (.int x2)] [(.ref a1)]))
  refine Go.st (fun U hr => XS.iloadN X20.here hx rfl (hb hby d8_11) rfl hr) ?_
  show Go p.tables e below _ (T20.setTop (mkF m 12 #[.val (.ref a1), .val (.int (3 : Int32)), .val (.ref a3), .val (.int (3 : Int32)), .val (.int (8 : Int32)), .val (.int (3 : Int32)), .val (.int x2)] [(.int (3 : Int32)), (.ref a1)]))
  obtain ⟨cl25, Ar25, qa25, Sa25, Na25, Ha25, Ga25⟩ := id f22
  have hin25 : ¬ ((3 : Int32) < 0 ∨ cl25.slots.size ≤ ((3 : Int32)).toNatClampNeg) := inb_of Sa25 ⟨by decide, by decide⟩
  refine Go.st (X20.caload hx (j := (3 : Int32)) (v := (.int x3)) (by rw [e20]; exact Ar25.1) (State.isArrayOf_alike hZ.alike Ar25.2.1) Ar25.2.2 hin25 (Ha25.at hin25 rfl) (g := (mkF m 12 #[.val (.ref a1), .val (.int (3 : Int32)), .val (.ref a3), .val (.int (3 : Int32)), .val (.int (8 : Int32)), .val (.int (3 : Int32)), .val (.int x2)] [(.int (3 : Int32)), (.ref a1)])) rfl rfl (hb hby d8_12)) ?_
  show Go p.tables e below _ (T20.setTop (mkF m 13 #[.val (.ref a1), .val (.int (3 : Int32)), .val (.ref a3), .val (.int (3 : Int32)), .val (.int (8 : Int32)), .val (.int (3 : Int32)), .val (.int x2)] [(.int x3)]))
  refine Go.st (fun U hr => XS.istore X20.here hx rfl (hb hby d8_13) rfl (l' := #[.val (.ref a1), .val (.int (3 : Int32)), .val (.ref a3), .val (.int (3 : Int32)), .val (.int (8 : Int32)), .val (.int (3 : Int32)), .val (.int x3)]) rfl hr) ?_
  show Go p.tables e below _ (T20.setTop (mkF m 15 #[.val (.ref a1), .val (.int (3 : Int32)), .val (.ref a3), .val (.int (3 : Int32)), .val (.int (8 : Int32)), .val (.int (3 : Int32)), .val (.int x3)] []))
  refine Go.st (fun U hr => XS.iload X20.here hx rfl (hb hby d8_15) rfl hr) ?_
  show Go p.tables e below _ (T20.setTop (mkF m 17 #[.val (.ref a1), .val (.int (3 : Int32)), .val (.ref a3), .val (.int (3 : Int32)), .val (.int (8 : Int32)), .val (.int (3 : Int32)), .val (.int x3)] [(.int x3)]))
  refine Go.st (fun U hr => XS.sipush X20.here hx rfl (hb hby d8_17) hr) ?_
  show Go p.tables e below _ (T20.setTop (mkF m 20 #[.val (.ref a1), .val (.int (3 : Int32)), .val (.ref a3), .val (.int (3 : Int32)), .val (.int (8 : Int32)), .val (.int (3 : Int32)), .val (.int x3)] [(.int (255 : Int32)), (.int x3)]))
  have hc20_26 : ¬ ((255 : Int32) < x3) := hx3
  refine Go.st (fun U hr => XS.icmpYes X20.here hx rfl (pc0 := 20) (pc' := 26) rfl (hb hby d8_20) rfl (flt hc20_26).2.2.2 (by decide) (by decide) hr) ?_
  show Go p.tables e below _ (T20.setTop (mkF m 26 #[.val (.ref a1), .val (.int (3 : Int32)), .val (.ref a3), .val (.int (3 : Int32)), .val (.int (8 : Int32)), .val (.int (3 : Int32)), .val (.int x3)] []))
  refine Go.st (fun U hr => XS.aloadN X20.here hx rfl (hb hby d8_26) rfl rfl hr) ?_
  show Go p.tables e below _ (T20.setTop (mkF m 27 #[.val (.ref a1), .val (.int (3 : Int32)), .val (.ref a3), .val (.int (3 : Int32)), .val (.int (8 : Int32)), .val (.int (3 : Int32)), .val (.int x3)] [(.ref a3)]))
  refine Go.st (fun U hr => XS.iloadN X20.here hx rfl (hb hby d8_27) rfl hr) ?_
  show Go p.tables e below _ (T20.setTop (mkF m 28 #[.val (.ref a1), .val (.int (3 : Int32)), .val (.ref a3), .val (.int (3 : Int32)), .val (.int (8 : Int32)), .val (.int (3 : Int32)), .val (.int x3)] [(.int (3 : Int32)), (.ref a3)]))
  refine Go.st (fun U hr => XS.iload X20.here hx rfl (hb hby d8_28) rfl hr) ?_
  show Go p.tables e below _ (T20.setTop (mkF m 30 #[.val (.ref a1), .val (.int (3 : Int32)), .val (.ref a3), .val (.int (3 : Int32)), .val (.int (8 : Int32)), .val (.int (3 : Int32)), .val (.int x3)] [(.int x3), (.int (3 : Int32)), (.ref a3)]))
  refine Go.st (fun U hr => XS.i2b X20.here hx rfl (hb hby d8_30) rfl hr) ?_
  show Go p.tables e below _ (T20.setTop (mkF m 31 #[.val (.ref a1), .val (.int (3 : Int32)), .val (.ref a3), .val (.int (3 : Int32)), .val (.int (8 : Int32)), .val (.int (3 : Int32)), .val (.int x3)] [(.int (x3.toInt8.toInt32)), (.int (3 : Int32)), (.ref a3)]))
  obtain ⟨cl27, Ar27, qa27, Sa27, Na27, Ha27, Ga27⟩ := id V20
  have hin27 : ¬ ((3 : Int32) < 0 ∨ cl27.slots.size ≤ ((3 : Int32)).toNatClampNeg) := inb_of Sa27 ⟨by decide, by decide⟩
  obtain ⟨T28, h28, X28, e28, W28, st28⟩ := stB X20 hx hZ e20 Ar27 (j := (3 : Int32)) hin27 (g := (mkF m 31 #[.val (.ref a1), .val (.int (3 : Int32)), .val (.ref a3), .val (.int (3 : Int32)), .val (.int (8 : Int32)), .val (.int (3 : Int32)), .val (.int x3)] [(.int (x3.toInt8.toInt32)), (.int (3 : Int32)), (.ref a3)])) rfl rfl (hb hby d8_31)
  refine Go.st st28 ?_
  have V28 := Arv.set Ar27 qa27 Sa27 Na27 Ha27 Ga27 (fits_nar_byte _) W28 3 rfl (Nat.le_of_ble_eq_true rfl)
  have k29 := (k21).wr W28 (Or.inl (List.mem_of_getElem? (i := 0) rfl))
  have f30 := (f22).other W28 ne
  have z32 := Nat.le_trans z24 (Keep.of_wr W28).1
  have N28 := Fr.snoc X28 N20 g3
  show Go p.tables e below _ (T28.setTop (mkF m 32 #[.val (.ref a1), .val (.int (3 : Int32)), .val (.ref a3), .val (.int (3 : Int32)), .val (.int (8 : Int32)), .val (.int (3 : Int32)), .val (.int x3)] []))
  refine Go.st (fun U hr => XS.iinc X28.here hx rfl (hb hby d8_32) rfl (l' := #[.val (.ref a1), .val (.int ((3 : Int32) + (1 : Int32))), .val (.ref a3), .val (.int (3 : Int32)), .val (.int (8 : Int32)), .val (.int (3 : Int32)), .val (.int x3)]) rfl hr) ?_
  show Go p.tables e below _ (T28.setTop (mkF m 35 #[.val (.ref a1), .val (.int ((3 : Int32) + (1 : Int32))), .val (.ref a3), .val (.int (3 : Int32)), .val (.int (8 : Int32)), .val (.int (3 : Int32)), .val (.int x3)] []))
  refine Go.st (fun U hr => XS.iinc X28.here hx rfl (hb hby d8_35) rfl (l' := #[.val (.ref a1), .val (.int ((3 : Int32) + (1 : Int32))), .val (.ref a3), .val (.int ((3 : Int32) + (1 : Int32))), .val (.int (8 : Int32)), .val (.int (3 : Int32)), .val (.int x3)]) rfl hr) ?_
  show Go p.tables e below _ (T28.setTop (mkF m 38 #[.val (.ref a1), .val (.int ((3 : Int32) + (1 : Int32))), .val (.ref a3), .val (.int ((3 : Int32) + (1 : Int32))), .val (.int (8 : Int32)), .val (.int (3 : Int32)), .val (.int x3)] []))
  refine Go.st (fun U hr => XS.iinc X28.here hx rfl (hb hby d8_38) rfl (l' := #[.val (.ref a1), .val (.int ((3 : Int32) + (1 : Int32))), .val (.ref a3), .val (.int ((3 : Int32) + (1 : Int32))), .val (.int (8 : Int32)), .val (.int ((3 : Int32) + (1 : Int32))), .val (.int x3)]) rfl hr) ?_
  show Go p.tables e below _ (T28.setTop (mkF m 41 #[.val (.ref a1), .val (.int ((3 : Int32) + (1 : Int32))), .val (.ref a3), .val (.int ((3 : Int32) + (1 : Int32))), .val (.int (8 : Int32)), .val (.int ((3 : Int32) + (1 : Int32))), .val (.int x3)] []))
  refine Go.st (fun U hr => XS.goto X28.here hx rfl (pc0 := 41) (pc' := 3) rfl (hb hby d8_41) (by decide) (by decide) hr) ?_
  show Go p.tables e below _ (T28.setTop (mkF m 3 #[.val (.ref a1), .val (.int ((3 : Int32) + (1 : Int32))), .val (.ref a3), .val (.int ((3 : Int32) + (1 : Int32))), .val (.int (8 : Int32)), .val (.int ((3 : Int32) + (1 : Int32))), .val (.int x3)] []))
  rw [show ((3 : Int32) + (1 : Int32)) = (4 : Int32) from by decide]
  show Go p.tables e below _ (T28.setTop (mkF m 3 #[.val (.ref a1), .val (.int (4 : Int32)), .val (.ref a3), .val (.int (4 : Int32)), .val (.int (8 : Int32)), .val (.int (4 : Int32)), .val (.int x3)] []))
  refine Go.st (fun U hr => XS.iload X28.here hx rfl (hb hby d8_3) rfl hr) ?_
  show Go p.tables e below _ (T28.setTop (mkF m 5 #[.val (.ref a1), .val (.int (4 : Int32)), .val (.ref a3), .val (.int (4 : Int32)), .val (.int (8 : Int32)), .val (.int (4 : Int32)), .val (.int x3)] [(.int (4 : Int32))]))
  refine Go.st (fun U hr => XS.iload X28.here hx rfl (hb hby d8_5) rfl hr) ?_
  show Go p.tables e below _ (T28.setTop (mkF m 7 #[.val (.ref a1), .val (.int (4 : Int32)), .val (.ref a3), .val (.int (4 : Int32)), .val (.int (8 : Int32)), .val (.int (4 : Int32)), .val (.int x3)] [(.int (8 : Int32)), (.int (4 : Int32))]))
  refine Go.st (fun U hr => XS.icmpNo X28.here hx rfl (hb hby d8_7) rfl (by decide) hr) ?_
  show Go p.tables e below _ (T28.setTop (mkF m 10 #[.val (.ref a1), .val (.int (4 : Int32)), .val (.ref a3), .val (.int (4 : Int32)), .val (.int (8 : Int32)), .val (.int (4 : Int32)), .val (.int x3)] []))
  refine Go.st (fun U hr => XS.aloadN X28.here hx rfl (hb hby d8_10) rfl rfl hr) ?_
  show Go p.tables e below _ (T28.setTop (mkF m 11 #[.val (.ref a1), .val (.int (4 : Int32)), .val (.ref a3), .val (.int (4 : Int32)), .val (.int (8 : Int32)), .val (.int (4 : Int32)), .val (.int x3)] [(.ref a1)]))
  refine Go.st (fun U hr => XS.iloadN X28.here hx rfl (hb hby d8_11) rfl hr) ?_
  show Go p.tables e below _ (T28.setTop (mkF m 12 #[.val (.ref a1), .val (.int (4 : Int32)), .val (.ref a3), .val (.int (4 : Int32)), .val (.int (8 : Int32)), .val (.int (4 : Int32)), .val (.int x3)] [(.int (4 : Int32)), (.ref a1)]))
  obtain ⟨cl33, Ar33, qa33, Sa33, Na33, Ha33, Ga33⟩ := id f30
  have hin33 : ¬ ((4 : Int32) < 0 ∨ cl33.slots.size ≤ ((4 : Int32)).toNatClampNeg) := inb_of Sa33 ⟨by decide, by decide⟩
  refine Go.st (X28.caload hx (j := (4 : Int32)) (v := (.int x4)) (by rw [e28]; exact Ar33.1) (State.isArrayOf_alike hZ.alike Ar33.2.1) Ar33.2.2 hin33 (Ha33.at hin33 rfl) (g := (mkF m 12 #[.val (.ref a1), .val (.int (4 : Int32)), .val (.ref a3), .val (.int (4 : Int32)), .val (.int (8 : Int32)), .val (.int (4 : Int32)), .val (.int x3)] [(.int (4 : Int32)), (.ref a1)])) rfl rfl (hb hby d8_12)) ?_
  show Go p.tables e below _ (T28.setTop (mkF m 13 #[.val (.ref a1), .val (.int (4 : Int32)), .val (.ref a3), .val (.int (4 : Int32)), .val (.int (8 : Int32)), .val (.int (4 : Int32)), .val (.int x3)] [(.int x4)]))
  refine Go.st (fun U hr => XS.istore X28.here hx rfl (hb hby d8_13) rfl (l' := #[.val (.ref a1), .val (.int (4 : Int32)), .val (.ref a3), .val (.int (4 : Int32)), .val (.int (8 : Int32)), .val (.int (4 : Int32)), .val (.int x4)]) rfl hr) ?_
  show Go p.tables e below _ (T28.setTop (mkF m 15 #[.val (.ref a1), .val (.int (4 : Int32)), .val (.ref a3), .val (.int (4 : Int32)), .val (.int (8 : Int32)), .val (.int (4 : Int32)), .val (.int x4)] []))
  refine Go.st (fun U hr => XS.iload X28.here hx rfl (hb hby d8_15) rfl hr) ?_
  show Go p.tables e below _ (T28.setTop (mkF m 17 #[.val (.ref a1), .val (.int (4 : Int32)), .val (.ref a3), .val (.int (4 : Int32)), .val (.int (8 : Int32)), .val (.int (4 : Int32)), .val (.int x4)] [(.int x4)]))
  refine Go.st (fun U hr => XS.sipush X28.here hx rfl (hb hby d8_17) hr) ?_
  show Go p.tables e below _ (T28.setTop (mkF m 20 #[.val (.ref a1), .val (.int (4 : Int32)), .val (.ref a3), .val (.int (4 : Int32)), .val (.int (8 : Int32)), .val (.int (4 : Int32)), .val (.int x4)] [(.int (255 : Int32)), (.int x4)]))
  have hc20_34 : ¬ ((255 : Int32) < x4) := hx4
  refine Go.st (fun U hr => XS.icmpYes X28.here hx rfl (pc0 := 20) (pc' := 26) rfl (hb hby d8_20) rfl (flt hc20_34).2.2.2 (by decide) (by decide) hr) ?_
  show Go p.tables e below _ (T28.setTop (mkF m 26 #[.val (.ref a1), .val (.int (4 : Int32)), .val (.ref a3), .val (.int (4 : Int32)), .val (.int (8 : Int32)), .val (.int (4 : Int32)), .val (.int x4)] []))
  refine Go.st (fun U hr => XS.aloadN X28.here hx rfl (hb hby d8_26) rfl rfl hr) ?_
  show Go p.tables e below _ (T28.setTop (mkF m 27 #[.val (.ref a1), .val (.int (4 : Int32)), .val (.ref a3), .val (.int (4 : Int32)), .val (.int (8 : Int32)), .val (.int (4 : Int32)), .val (.int x4)] [(.ref a3)]))
  refine Go.st (fun U hr => XS.iloadN X28.here hx rfl (hb hby d8_27) rfl hr) ?_
  show Go p.tables e below _ (T28.setTop (mkF m 28 #[.val (.ref a1), .val (.int (4 : Int32)), .val (.ref a3), .val (.int (4 : Int32)), .val (.int (8 : Int32)), .val (.int (4 : Int32)), .val (.int x4)] [(.int (4 : Int32)), (.ref a3)]))
  refine Go.st (fun U hr => XS.iload X28.here hx rfl (hb hby d8_28) rfl hr) ?_
  show Go p.tables e below _ (T28.setTop (mkF m 30 #[.val (.ref a1), .val (.int (4 : Int32)), .val (.ref a3), .val (.int (4 : Int32)), .val (.int (8 : Int32)), .val (.int (4 : Int32)), .val (.int x4)] [(.int x4), (.int (4 : Int32)), (.ref a3)]))
  refine Go.st (fun U hr => XS.i2b X28.here hx rfl (hb hby d8_30) rfl hr) ?_
  show Go p.tables e below _ (T28.setTop (mkF m 31 #[.val (.ref a1), .val (.int (4 : Int32)), .val (.ref a3), .val (.int (4 : Int32)), .val (.int (8 : Int32)), .val (.int (4 : Int32)), .val (.int x4)] [(.int (x4.toInt8.toInt32)), (.int (4 : Int32)), (.ref a3)]))
  obtain ⟨cl35, Ar35, qa35, Sa35, Na35, Ha35, Ga35⟩ := id V28
  have hin35 : ¬ ((4 : Int32) < 0 ∨ cl35.slots.size ≤ ((4 : Int32)).toNatClampNeg) := inb_of Sa35 ⟨by decide, by decide⟩
  obtain ⟨T36, h36, X36, e36, W36, st36⟩ := stB X28 hx hZ e28 Ar35 (j := (4 : Int32)) hin35 (g := (mkF m 31 #[.val (.ref a1), .val (.int (4 : Int32)), .val (.ref a3), .val (.int (4 : Int32)), .val (.int (8 : Int32)), .val (.int (4 : Int32)), .val (.int x4)] [(.int (x4.toInt8.toInt32)), (.int (4 : Int32)), (.ref a3)])) rfl rfl (hb hby d8_31)
  refine Go.st st36 ?_
  have V36 := Arv.set Ar35 qa35 Sa35 Na35 Ha35 Ga35 (fits_nar_byte _) W36 4 rfl (Nat.le_of_ble_eq_true rfl)
  have k37 := (k29).wr W36 (Or.inl (List.mem_of_getElem? (i := 0) rfl))
  have f38 := (f30).other W36 ne
  have z40 := Nat.le_trans z32 (Keep.of_wr W36).1
  have N36 := Fr.snoc X36 N28 g3
  show Go p.tables e below _ (T36.setTop (mkF m 32 #[.val (.ref a1), .val (.int (4 : Int32)), .val (.ref a3), .val (.int (4 : Int32)), .val (.int (8 : Int32)), .val (.int (4 : Int32)), .val (.int x4)] []))
  refine Go.st (fun U hr => XS.iinc X36.here hx rfl (hb hby d8_32) rfl (l' := #[.val (.ref a1), .val (.int ((4 : Int32) + (1 : Int32))), .val (.ref a3), .val (.int (4 : Int32)), .val (.int (8 : Int32)), .val (.int (4 : Int32)), .val (.int x4)]) rfl hr) ?_
  show Go p.tables e below _ (T36.setTop (mkF m 35 #[.val (.ref a1), .val (.int ((4 : Int32) + (1 : Int32))), .val (.ref a3), .val (.int (4 : Int32)), .val (.int (8 : Int32)), .val (.int (4 : Int32)), .val (.int x4)] []))
  refine Go.st (fun U hr => XS.iinc X36.here hx rfl (hb hby d8_35) rfl (l' := #[.val (.ref a1), .val (.int ((4 : Int32) + (1 : Int32))), .val (.ref a3), .val (.int ((4 : Int32) + (1 : Int32))), .val (.int (8 : Int32)), .val (.int (4 : Int32)), .val (.int x4)]) rfl hr) ?_
  show Go p.tables e below _ (T36.setTop (mkF m 38 #[.val (.ref a1), .val (.int ((4 : Int32) + (1 : Int32))), .val (.ref a3), .val (.int ((4 : Int32) + (1 : Int32))), .val (.int (8 : Int32)), .val (.int (4 : Int32)), .val (.int x4)] []))
  refine Go.st (fun U hr => XS.iinc X36.here hx rfl (hb hby d8_38) rfl (l' := #[.val (.ref a1), .val (.int ((4 : Int32) + (1 : Int32))), .val (.ref a3), .val (.int ((4 : Int32) + (1 : Int32))), .val (.int (8 : Int32)), .val (.int ((4 : Int32) + (1 : Int32))), .val (.int x4)]) rfl hr) ?_
  show Go p.tables e below _ (T36.setTop (mkF m 41 #[.val (.ref a1), .val (.int ((4 : Int32) + (1 : Int32))), .val (.ref a3), .val (.int ((4 : Int32) + (1 : Int32))), .val (.int (8 : Int32)), .val (.int ((4 : Int32) + (1 : Int32))), .val (.int x4)] []))
  refine Go.st (fun U hr => XS.goto X36.here hx rfl (pc0 := 41) (pc' := 3) rfl (hb hby d8_41) (by decide) (by decide) hr) ?_
  show Go p.tables e below _ (T36.setTop (mkF m 3 #[.val (.ref a1), .val (.int ((4 : Int32) + (1 : Int32))), .val (.ref a3), .val (.int ((4 : Int32) + (1 : Int32))), .val (.int (8 : Int32)), .val (.int ((4 : Int32) + (1 : Int32))), .val (.int x4)] []))
  rw [show ((4 : Int32) + (1 : Int32)) = (5 : Int32) from by decide]
  show Go p.tables e below _ (T36.setTop (mkF m 3 #[.val (.ref a1), .val (.int (5 : Int32)), .val (.ref a3), .val (.int (5 : Int32)), .val (.int (8 : Int32)), .val (.int (5 : Int32)), .val (.int x4)] []))
  refine Go.st (fun U hr => XS.iload X36.here hx rfl (hb hby d8_3) rfl hr) ?_
  show Go p.tables e below _ (T36.setTop (mkF m 5 #[.val (.ref a1), .val (.int (5 : Int32)), .val (.ref a3), .val (.int (5 : Int32)), .val (.int (8 : Int32)), .val (.int (5 : Int32)), .val (.int x4)] [(.int (5 : Int32))]))
  refine Go.st (fun U hr => XS.iload X36.here hx rfl (hb hby d8_5) rfl hr) ?_
  show Go p.tables e below _ (T36.setTop (mkF m 7 #[.val (.ref a1), .val (.int (5 : Int32)), .val (.ref a3), .val (.int (5 : Int32)), .val (.int (8 : Int32)), .val (.int (5 : Int32)), .val (.int x4)] [(.int (8 : Int32)), (.int (5 : Int32))]))
  refine Go.st (fun U hr => XS.icmpNo X36.here hx rfl (hb hby d8_7) rfl (by decide) hr) ?_
  show Go p.tables e below _ (T36.setTop (mkF m 10 #[.val (.ref a1), .val (.int (5 : Int32)), .val (.ref a3), .val (.int (5 : Int32)), .val (.int (8 : Int32)), .val (.int (5 : Int32)), .val (.int x4)] []))
  refine Go.st (fun U hr => XS.aloadN X36.here hx rfl (hb hby d8_10) rfl rfl hr) ?_
  show Go p.tables e below _ (T36.setTop (mkF m 11 #[.val (.ref a1), .val (.int (5 : Int32)), .val (.ref a3), .val (.int (5 : Int32)), .val (.int (8 : Int32)), .val (.int (5 : Int32)), .val (.int x4)] [(.ref a1)]))
  refine Go.st (fun U hr => XS.iloadN X36.here hx rfl (hb hby d8_11) rfl hr) ?_
  show Go p.tables e below _ (T36.setTop (mkF m 12 #[.val (.ref a1), .val (.int (5 : Int32)), .val (.ref a3), .val (.int (5 : Int32)), .val (.int (8 : Int32)), .val (.int (5 : Int32)), .val (.int x4)] [(.int (5 : Int32)), (.ref a1)]))
  obtain ⟨cl41, Ar41, qa41, Sa41, Na41, Ha41, Ga41⟩ := id f38
  have hin41 : ¬ ((5 : Int32) < 0 ∨ cl41.slots.size ≤ ((5 : Int32)).toNatClampNeg) := inb_of Sa41 ⟨by decide, by decide⟩
  refine Go.st (X36.caload hx (j := (5 : Int32)) (v := (.int x5)) (by rw [e36]; exact Ar41.1) (State.isArrayOf_alike hZ.alike Ar41.2.1) Ar41.2.2 hin41 (Ha41.at hin41 rfl) (g := (mkF m 12 #[.val (.ref a1), .val (.int (5 : Int32)), .val (.ref a3), .val (.int (5 : Int32)), .val (.int (8 : Int32)), .val (.int (5 : Int32)), .val (.int x4)] [(.int (5 : Int32)), (.ref a1)])) rfl rfl (hb hby d8_12)) ?_
  show Go p.tables e below _ (T36.setTop (mkF m 13 #[.val (.ref a1), .val (.int (5 : Int32)), .val (.ref a3), .val (.int (5 : Int32)), .val (.int (8 : Int32)), .val (.int (5 : Int32)), .val (.int x4)] [(.int x5)]))
  refine Go.st (fun U hr => XS.istore X36.here hx rfl (hb hby d8_13) rfl (l' := #[.val (.ref a1), .val (.int (5 : Int32)), .val (.ref a3), .val (.int (5 : Int32)), .val (.int (8 : Int32)), .val (.int (5 : Int32)), .val (.int x5)]) rfl hr) ?_
  show Go p.tables e below _ (T36.setTop (mkF m 15 #[.val (.ref a1), .val (.int (5 : Int32)), .val (.ref a3), .val (.int (5 : Int32)), .val (.int (8 : Int32)), .val (.int (5 : Int32)), .val (.int x5)] []))
  refine Go.st (fun U hr => XS.iload X36.here hx rfl (hb hby d8_15) rfl hr) ?_
  show Go p.tables e below _ (T36.setTop (mkF m 17 #[.val (.ref a1), .val (.int (5 : Int32)), .val (.ref a3), .val (.int (5 : Int32)), .val (.int (8 : Int32)), .val (.int (5 : Int32)), .val (.int x5)] [(.int x5)]))
  refine Go.st (fun U hr => XS.sipush X36.here hx rfl (hb hby d8_17) hr) ?_
  show Go p.tables e below _ (T36.setTop (mkF m 20 #[.val (.ref a1), .val (.int (5 : Int32)), .val (.ref a3), .val (.int (5 : Int32)), .val (.int (8 : Int32)), .val (.int (5 : Int32)), .val (.int x5)] [(.int (255 : Int32)), (.int x5)]))
  have hc20_42 : ¬ ((255 : Int32) < x5) := hx5
  refine Go.st (fun U hr => XS.icmpYes X36.here hx rfl (pc0 := 20) (pc' := 26) rfl (hb hby d8_20) rfl (flt hc20_42).2.2.2 (by decide) (by decide) hr) ?_
  show Go p.tables e below _ (T36.setTop (mkF m 26 #[.val (.ref a1), .val (.int (5 : Int32)), .val (.ref a3), .val (.int (5 : Int32)), .val (.int (8 : Int32)), .val (.int (5 : Int32)), .val (.int x5)] []))
  refine Go.st (fun U hr => XS.aloadN X36.here hx rfl (hb hby d8_26) rfl rfl hr) ?_
  show Go p.tables e below _ (T36.setTop (mkF m 27 #[.val (.ref a1), .val (.int (5 : Int32)), .val (.ref a3), .val (.int (5 : Int32)), .val (.int (8 : Int32)), .val (.int (5 : Int32)), .val (.int x5)] [(.ref a3)]))
  refine Go.st (fun U hr => XS.iloadN X36.here hx rfl (hb hby d8_27) rfl hr) ?_
  show Go p.tables e below _ (T36.setTop (mkF m 28 #[.val (.ref a1), .val (.int (5 : Int32)), .val (.ref a3), .val (.int (5 : Int32)), .val (.int (8 : Int32)), .val (.int (5 : Int32)), .val (.int x5)] [(.int (5 : Int32)), (.ref a3)]))
  refine Go.st (fun U hr => XS.iload X36.here hx rfl (hb hby d8_28) rfl hr) ?_
  show Go p.tables e below _ (T36.setTop (mkF m 30 #[.val (.ref a1), .val (.int (5 : Int32)), .val (.ref a3), .val (.int (5 : Int32)), .val (.int (8 : Int32)), .val (.int (5 : Int32)), .val (.int x5)] [(.int x5), (.int (5 : Int32)), (.ref a3)]))
  refine Go.st (fun U hr => XS.i2b X36.here hx rfl (hb hby d8_30) rfl hr) ?_
  show Go p.tables e below _ (T36.setTop (mkF m 31 #[.val (.ref a1), .val (.int (5 : Int32)), .val (.ref a3), .val (.int (5 : Int32)), .val (.int (8 : Int32)), .val (.int (5 : Int32)), .val (.int x5)] [(.int (x5.toInt8.toInt32)), (.int (5 : Int32)), (.ref a3)]))
  obtain ⟨cl43, Ar43, qa43, Sa43, Na43, Ha43, Ga43⟩ := id V36
  have hin43 : ¬ ((5 : Int32) < 0 ∨ cl43.slots.size ≤ ((5 : Int32)).toNatClampNeg) := inb_of Sa43 ⟨by decide, by decide⟩
  obtain ⟨T44, h44, X44, e44, W44, st44⟩ := stB X36 hx hZ e36 Ar43 (j := (5 : Int32)) hin43 (g := (mkF m 31 #[.val (.ref a1), .val (.int (5 : Int32)), .val (.ref a3), .val (.int (5 : Int32)), .val (.int (8 : Int32)), .val (.int (5 : Int32)), .val (.int x5)] [(.int (x5.toInt8.toInt32)), (.int (5 : Int32)), (.ref a3)])) rfl rfl (hb hby d8_31)
  refine Go.st st44 ?_
  have V44 := Arv.set Ar43 qa43 Sa43 Na43 Ha43 Ga43 (fits_nar_byte _) W44 5 rfl (Nat.le_of_ble_eq_true rfl)
  have k45 := (k37).wr W44 (Or.inl (List.mem_of_getElem? (i := 0) rfl))
  have f46 := (f38).other W44 ne
  have z48 := Nat.le_trans z40 (Keep.of_wr W44).1
  have N44 := Fr.snoc X44 N36 g3
  show Go p.tables e below _ (T44.setTop (mkF m 32 #[.val (.ref a1), .val (.int (5 : Int32)), .val (.ref a3), .val (.int (5 : Int32)), .val (.int (8 : Int32)), .val (.int (5 : Int32)), .val (.int x5)] []))
  refine Go.st (fun U hr => XS.iinc X44.here hx rfl (hb hby d8_32) rfl (l' := #[.val (.ref a1), .val (.int ((5 : Int32) + (1 : Int32))), .val (.ref a3), .val (.int (5 : Int32)), .val (.int (8 : Int32)), .val (.int (5 : Int32)), .val (.int x5)]) rfl hr) ?_
  show Go p.tables e below _ (T44.setTop (mkF m 35 #[.val (.ref a1), .val (.int ((5 : Int32) + (1 : Int32))), .val (.ref a3), .val (.int (5 : Int32)), .val (.int (8 : Int32)), .val (.int (5 : Int32)), .val (.int x5)] []))
  refine Go.st (fun U hr => XS.iinc X44.here hx rfl (hb hby d8_35) rfl (l' := #[.val (.ref a1), .val (.int ((5 : Int32) + (1 : Int32))), .val (.ref a3), .val (.int ((5 : Int32) + (1 : Int32))), .val (.int (8 : Int32)), .val (.int (5 : Int32)), .val (.int x5)]) rfl hr) ?_
  show Go p.tables e below _ (T44.setTop (mkF m 38 #[.val (.ref a1), .val (.int ((5 : Int32) + (1 : Int32))), .val (.ref a3), .val (.int ((5 : Int32) + (1 : Int32))), .val (.int (8 : Int32)), .val (.int (5 : Int32)), .val (.int x5)] []))
  refine Go.st (fun U hr => XS.iinc X44.here hx rfl (hb hby d8_38) rfl (l' := #[.val (.ref a1), .val (.int ((5 : Int32) + (1 : Int32))), .val (.ref a3), .val (.int ((5 : Int32) + (1 : Int32))), .val (.int (8 : Int32)), .val (.int ((5 : Int32) + (1 : Int32))), .val (.int x5)]) rfl hr) ?_
  show Go p.tables e below _ (T44.setTop (mkF m 41 #[.val (.ref a1), .val (.int ((5 : Int32) + (1 : Int32))), .val (.ref a3), .val (.int ((5 : Int32) + (1 : Int32))), .val (.int (8 : Int32)), .val (.int ((5 : Int32) + (1 : Int32))), .val (.int x5)] []))
  refine Go.st (fun U hr => XS.goto X44.here hx rfl (pc0 := 41) (pc' := 3) rfl (hb hby d8_41) (by decide) (by decide) hr) ?_
  show Go p.tables e below _ (T44.setTop (mkF m 3 #[.val (.ref a1), .val (.int ((5 : Int32) + (1 : Int32))), .val (.ref a3), .val (.int ((5 : Int32) + (1 : Int32))), .val (.int (8 : Int32)), .val (.int ((5 : Int32) + (1 : Int32))), .val (.int x5)] []))
  rw [show ((5 : Int32) + (1 : Int32)) = (6 : Int32) from by decide]
  show Go p.tables e below _ (T44.setTop (mkF m 3 #[.val (.ref a1), .val (.int (6 : Int32)), .val (.ref a3), .val (.int (6 : Int32)), .val (.int (8 : Int32)), .val (.int (6 : Int32)), .val (.int x5)] []))
  refine Go.st (fun U hr => XS.iload X44.here hx rfl (hb hby d8_3) rfl hr) ?_
  show Go p.tables e below _ (T44.setTop (mkF m 5 #[.val (.ref a1), .val (.int (6 : Int32)), .val (.ref a3), .val (.int (6 : Int32)), .val (.int (8 : Int32)), .val (.int (6 : Int32)), .val (.int x5)] [(.int (6 : Int32))]))
  refine Go.st (fun U hr => XS.iload X44.here hx rfl (hb hby d8_5) rfl hr) ?_
  show Go p.tables e below _ (T44.setTop (mkF m 7 #[.val (.ref a1), .val (.int (6 : Int32)), .val (.ref a3), .val (.int (6 : Int32)), .val (.int (8 : Int32)), .val (.int (6 : Int32)), .val (.int x5)] [(.int (8 : Int32)), (.int (6 : Int32))]))
  refine Go.st (fun U hr => XS.icmpNo X44.here hx rfl (hb hby d8_7) rfl (by decide) hr) ?_
  show Go p.tables e below _ (T44.setTop (mkF m 10 #[.val (.ref a1), .val (.int (6 : Int32)), .val (.ref a3), .val (.int (6 : Int32)), .val (.int (8 : Int32)), .val (.int (6 : Int32)), .val (.int x5)] []))
  refine Go.st (fun U hr => XS.aloadN X44.here hx rfl (hb hby d8_10) rfl rfl hr) ?_
  show Go p.tables e below _ (T44.setTop (mkF m 11 #[.val (.ref a1), .val (.int (6 : Int32)), .val (.ref a3), .val (.int (6 : Int32)), .val (.int (8 : Int32)), .val (.int (6 : Int32)), .val (.int x5)] [(.ref a1)]))
  refine Go.st (fun U hr => XS.iloadN X44.here hx rfl (hb hby d8_11) rfl hr) ?_
  show Go p.tables e below _ (T44.setTop (mkF m 12 #[.val (.ref a1), .val (.int (6 : Int32)), .val (.ref a3), .val (.int (6 : Int32)), .val (.int (8 : Int32)), .val (.int (6 : Int32)), .val (.int x5)] [(.int (6 : Int32)), (.ref a1)]))
  obtain ⟨cl49, Ar49, qa49, Sa49, Na49, Ha49, Ga49⟩ := id f46
  have hin49 : ¬ ((6 : Int32) < 0 ∨ cl49.slots.size ≤ ((6 : Int32)).toNatClampNeg) := inb_of Sa49 ⟨by decide, by decide⟩
  refine Go.st (X44.caload hx (j := (6 : Int32)) (v := (.int x6)) (by rw [e44]; exact Ar49.1) (State.isArrayOf_alike hZ.alike Ar49.2.1) Ar49.2.2 hin49 (Ha49.at hin49 rfl) (g := (mkF m 12 #[.val (.ref a1), .val (.int (6 : Int32)), .val (.ref a3), .val (.int (6 : Int32)), .val (.int (8 : Int32)), .val (.int (6 : Int32)), .val (.int x5)] [(.int (6 : Int32)), (.ref a1)])) rfl rfl (hb hby d8_12)) ?_
  show Go p.tables e below _ (T44.setTop (mkF m 13 #[.val (.ref a1), .val (.int (6 : Int32)), .val (.ref a3), .val (.int (6 : Int32)), .val (.int (8 : Int32)), .val (.int (6 : Int32)), .val (.int x5)] [(.int x6)]))
  refine Go.st (fun U hr => XS.istore X44.here hx rfl (hb hby d8_13) rfl (l' := #[.val (.ref a1), .val (.int (6 : Int32)), .val (.ref a3), .val (.int (6 : Int32)), .val (.int (8 : Int32)), .val (.int (6 : Int32)), .val (.int x6)]) rfl hr) ?_
  show Go p.tables e below _ (T44.setTop (mkF m 15 #[.val (.ref a1), .val (.int (6 : Int32)), .val (.ref a3), .val (.int (6 : Int32)), .val (.int (8 : Int32)), .val (.int (6 : Int32)), .val (.int x6)] []))
  refine Go.st (fun U hr => XS.iload X44.here hx rfl (hb hby d8_15) rfl hr) ?_
  show Go p.tables e below _ (T44.setTop (mkF m 17 #[.val (.ref a1), .val (.int (6 : Int32)), .val (.ref a3), .val (.int (6 : Int32)), .val (.int (8 : Int32)), .val (.int (6 : Int32)), .val (.int x6)] [(.int x6)]))
  refine Go.st (fun U hr => XS.sipush X44.here hx rfl (hb hby d8_17) hr) ?_
  show Go p.tables e below _ (T44.setTop (mkF m 20 #[.val (.ref a1), .val (.int (6 : Int32)), .val (.ref a3), .val (.int (6 : Int32)), .val (.int (8 : Int32)), .val (.int (6 : Int32)), .val (.int x6)] [(.int (255 : Int32)), (.int x6)]))
  have hc20_50 : ¬ ((255 : Int32) < x6) := hx6
  refine Go.st (fun U hr => XS.icmpYes X44.here hx rfl (pc0 := 20) (pc' := 26) rfl (hb hby d8_20) rfl (flt hc20_50).2.2.2 (by decide) (by decide) hr) ?_
  show Go p.tables e below _ (T44.setTop (mkF m 26 #[.val (.ref a1), .val (.int (6 : Int32)), .val (.ref a3), .val (.int (6 : Int32)), .val (.int (8 : Int32)), .val (.int (6 : Int32)), .val (.int x6)] []))
  refine Go.st (fun U hr => XS.aloadN X44.here hx rfl (hb hby d8_26) rfl rfl hr) ?_
  show Go p.tables e below _ (T44.setTop (mkF m 27 #[.val (.ref a1), .val (.int (6 : Int32)), .val (.ref a3), .val (.int (6 : Int32)), .val (.int (8 : Int32)), .val (.int (6 : Int32)), .val (.int x6)] [(.ref a3)]))
  refine Go.st (fun U hr => XS.iloadN X44.here hx rfl (hb hby d8_27) rfl hr) ?_
  show Go p.tables e below _ (T44.setTop (mkF m 28 #[.val (.ref a1), .val (.int (6 : Int32)), .val (.ref a3), .val (.int (6 : Int32)), .val (.int (8 : Int32)), .val (.int (6 : Int32)), .val (.int x6)] [(.int (6 : Int32)), (.ref a3)]))
  refine Go.st (fun U hr => XS.iload X44.here hx rfl (hb hby d8_28) rfl hr) ?_
  show Go p.tables e below _ (T44.setTop (mkF m 30 #[.val (.ref a1), .val (.int (6 : Int32)), .val (.ref a3), .val (.int (6 : Int32)), .val (.int (8 : Int32)), .val (.int (6 : Int32)), .val (.int x6)] [(.int x6), (.int (6 : Int32)), (.ref a3)]))
  refine Go.st (fun U hr => XS.i2b X44.here hx rfl (hb hby d8_30) rfl hr) ?_
  show Go p.tables e below _ (T44.setTop (mkF m 31 #[.val (.ref a1), .val (.int (6 : Int32)), .val (.ref a3), .val (.int (6 : Int32)), .val (.int (8 : Int32)), .val (.int (6 : Int32)), .val (.int x6)] [(.int (x6.toInt8.toInt32)), (.int (6 : Int32)), (.ref a3)]))
  obtain ⟨cl51, Ar51, qa51, Sa51, Na51, Ha51, Ga51⟩ := id V44
  have hin51 : ¬ ((6 : Int32) < 0 ∨ cl51.slots.size ≤ ((6 : Int32)).toNatClampNeg) := inb_of Sa51 ⟨by decide, by decide⟩
  obtain ⟨T52, h52, X52, e52, W52, st52⟩ := stB X44 hx hZ e44 Ar51 (j := (6 : Int32)) hin51 (g := (mkF m 31 #[.val (.ref a1), .val (.int (6 : Int32)), .val (.ref a3), .val (.int (6 : Int32)), .val (.int (8 : Int32)), .val (.int (6 : Int32)), .val (.int x6)] [(.int (x6.toInt8.toInt32)), (.int (6 : Int32)), (.ref a3)])) rfl rfl (hb hby d8_31)
  refine Go.st st52 ?_
  have V52 := Arv.set Ar51 qa51 Sa51 Na51 Ha51 Ga51 (fits_nar_byte _) W52 6 rfl (Nat.le_of_ble_eq_true rfl)
  have k53 := (k45).wr W52 (Or.inl (List.mem_of_getElem? (i := 0) rfl))
  have f54 := (f46).other W52 ne
  have z56 := Nat.le_trans z48 (Keep.of_wr W52).1
  have N52 := Fr.snoc X52 N44 g3
  show Go p.tables e below _ (T52.setTop (mkF m 32 #[.val (.ref a1), .val (.int (6 : Int32)), .val (.ref a3), .val (.int (6 : Int32)), .val (.int (8 : Int32)), .val (.int (6 : Int32)), .val (.int x6)] []))
  refine Go.st (fun U hr => XS.iinc X52.here hx rfl (hb hby d8_32) rfl (l' := #[.val (.ref a1), .val (.int ((6 : Int32) + (1 : Int32))), .val (.ref a3), .val (.int (6 : Int32)), .val (.int (8 : Int32)), .val (.int (6 : Int32)), .val (.int x6)]) rfl hr) ?_
  show Go p.tables e below _ (T52.setTop (mkF m 35 #[.val (.ref a1), .val (.int ((6 : Int32) + (1 : Int32))), .val (.ref a3), .val (.int (6 : Int32)), .val (.int (8 : Int32)), .val (.int (6 : Int32)), .val (.int x6)] []))
  refine Go.st (fun U hr => XS.iinc X52.here hx rfl (hb hby d8_35) rfl (l' := #[.val (.ref a1), .val (.int ((6 : Int32) + (1 : Int32))), .val (.ref a3), .val (.int ((6 : Int32) + (1 : Int32))), .val (.int (8 : Int32)), .val (.int (6 : Int32)), .val (.int x6)]) rfl hr) ?_
  show Go p.tables e below _ (T52.setTop (mkF m 38 #[.val (.ref a1), .val (.int ((6 : Int32) + (1 : Int32))), .val (.ref a3), .val (.int ((6 : Int32) + (1 : Int32))), .val (.int (8 : Int32)), .val (.int (6 : Int32)), .val (.int x6)] []))
  refine Go.st (fun U hr => XS.iinc X52.here hx rfl (hb hby d8_38) rfl (l' := #[.val (.ref a1), .val (.int ((6 : Int32) + (1 : Int32))), .val (.ref a3), .val (.int ((6 : Int32) + (1 : Int32))), .val (.int (8 : Int32)), .val (.int ((6 : Int32) + (1 : Int32))), .val (.int x6)]) rfl hr) ?_
  show Go p.tables e below _ (T52.setTop (mkF m 41 #[.val (.ref a1), .val (.int ((6 : Int32) + (1 : Int32))), .val (.ref a3), .val (.int ((6 : Int32) + (1 : Int32))), .val (.int (8 : Int32)), .val (.int ((6 : Int32) + (1 : Int32))), .val (.int x6)] []))
  refine Go.st (fun U hr => XS.goto X52.here hx rfl (pc0 := 41) (pc' := 3) rfl (hb hby d8_41) (by decide) (by decide) hr) ?_
  show Go p.tables e below _ (T52.setTop (mkF m 3 #[.val (.ref a1), .val (.int ((6 : Int32) + (1 : Int32))), .val (.ref a3), .val (.int ((6 : Int32) + (1 : Int32))), .val (.int (8 : Int32)), .val (.int ((6 : Int32) + (1 : Int32))), .val (.int x6)] []))
  rw [show ((6 : Int32) + (1 : Int32)) = (7 : Int32) from by decide]
  show Go p.tables e below _ (T52.setTop (mkF m 3 #[.val (.ref a1), .val (.int (7 : Int32)), .val (.ref a3), .val (.int (7 : Int32)), .val (.int (8 : Int32)), .val (.int (7 : Int32)), .val (.int x6)] []))
  refine Go.st (fun U hr => XS.iload X52.here hx rfl (hb hby d8_3) rfl hr) ?_
  show Go p.tables e below _ (T52.setTop (mkF m 5 #[.val (.ref a1), .val (.int (7 : Int32)), .val (.ref a3), .val (.int (7 : Int32)), .val (.int (8 : Int32)), .val (.int (7 : Int32)), .val (.int x6)] [(.int (7 : Int32))]))
  refine Go.st (fun U hr => XS.iload X52.here hx rfl (hb hby d8_5) rfl hr) ?_
  show Go p.tables e below _ (T52.setTop (mkF m 7 #[.val (.ref a1), .val (.int (7 : Int32)), .val (.ref a3), .val (.int (7 : Int32)), .val (.int (8 : Int32)), .val (.int (7 : Int32)), .val (.int x6)] [(.int (8 : Int32)), (.int (7 : Int32))]))
  refine Go.st (fun U hr => XS.icmpNo X52.here hx rfl (hb hby d8_7) rfl (by decide) hr) ?_
  show Go p.tables e below _ (T52.setTop (mkF m 10 #[.val (.ref a1), .val (.int (7 : Int32)), .val (.ref a3), .val (.int (7 : Int32)), .val (.int (8 : Int32)), .val (.int (7 : Int32)), .val (.int x6)] []))
  refine Go.st (fun U hr => XS.aloadN X52.here hx rfl (hb hby d8_10) rfl rfl hr) ?_
  show Go p.tables e below _ (T52.setTop (mkF m 11 #[.val (.ref a1), .val (.int (7 : Int32)), .val (.ref a3), .val (.int (7 : Int32)), .val (.int (8 : Int32)), .val (.int (7 : Int32)), .val (.int x6)] [(.ref a1)]))
  refine Go.st (fun U hr => XS.iloadN X52.here hx rfl (hb hby d8_11) rfl hr) ?_
  show Go p.tables e below _ (T52.setTop (mkF m 12 #[.val (.ref a1), .val (.int (7 : Int32)), .val (.ref a3), .val (.int (7 : Int32)), .val (.int (8 : Int32)), .val (.int (7 : Int32)), .val (.int x6)] [(.int (7 : Int32)), (.ref a1)]))
  obtain ⟨cl57, Ar57, qa57, Sa57, Na57, Ha57, Ga57⟩ := id f54
  have hin57 : ¬ ((7 : Int32) < 0 ∨ cl57.slots.size ≤ ((7 : Int32)).toNatClampNeg) := inb_of Sa57 ⟨by decide, by decide⟩
  refine Go.st (X52.caload hx (j := (7 : Int32)) (v := (.int x7)) (by rw [e52]; exact Ar57.1) (State.isArrayOf_alike hZ.alike Ar57.2.1) Ar57.2.2 hin57 (Ha57.at hin57 rfl) (g := (mkF m 12 #[.val (.ref a1), .val (.int (7 : Int32)), .val (.ref a3), .val (.int (7 : Int32)), .val (.int (8 : Int32)), .val (.int (7 : Int32)), .val (.int x6)] [(.int (7 : Int32)), (.ref a1)])) rfl rfl (hb hby d8_12)) ?_
  show Go p.tables e below _ (T52.setTop (mkF m 13 #[.val (.ref a1), .val (.int (7 : Int32)), .val (.ref a3), .val (.int (7 : Int32)), .val (.int (8 : Int32)), .val (.int (7 : Int32)), .val (.int x6)] [(.int x7)]))
  refine Go.st (fun U hr => XS.istore X52.here hx rfl (hb hby d8_13) rfl (l' := #[.val (.ref a1), .val (.int (7 : Int32)), .val (.ref a3), .val (.int (7 : Int32)), .val (.int (8 : Int32)), .val (.int (7 : Int32)), .val (.int x7)]) rfl hr) ?_
  show Go p.tables e below _ (T52.setTop (mkF m 15 #[.val (.ref a1), .val (.int (7 : Int32)), .val (.ref a3), .val (.int (7 : Int32)), .val (.int (8 : Int32)), .val (.int (7 : Int32)), .val (.int x7)] []))
  refine Go.st (fun U hr => XS.iload X52.here hx rfl (hb hby d8_15) rfl hr) ?_
  show Go p.tables e below _ (T52.setTop (mkF m 17 #[.val (.ref a1), .val (.int (7 : Int32)), .val (.ref a3), .val (.int (7 : Int32)), .val (.int (8 : Int32)), .val (.int (7 : Int32)), .val (.int x7)] [(.int x7)]))
  refine Go.st (fun U hr => XS.sipush X52.here hx rfl (hb hby d8_17) hr) ?_
  show Go p.tables e below _ (T52.setTop (mkF m 20 #[.val (.ref a1), .val (.int (7 : Int32)), .val (.ref a3), .val (.int (7 : Int32)), .val (.int (8 : Int32)), .val (.int (7 : Int32)), .val (.int x7)] [(.int (255 : Int32)), (.int x7)]))
  have hc20_58 : ¬ ((255 : Int32) < x7) := hx7
  refine Go.st (fun U hr => XS.icmpYes X52.here hx rfl (pc0 := 20) (pc' := 26) rfl (hb hby d8_20) rfl (flt hc20_58).2.2.2 (by decide) (by decide) hr) ?_
  show Go p.tables e below _ (T52.setTop (mkF m 26 #[.val (.ref a1), .val (.int (7 : Int32)), .val (.ref a3), .val (.int (7 : Int32)), .val (.int (8 : Int32)), .val (.int (7 : Int32)), .val (.int x7)] []))
  refine Go.st (fun U hr => XS.aloadN X52.here hx rfl (hb hby d8_26) rfl rfl hr) ?_
  show Go p.tables e below _ (T52.setTop (mkF m 27 #[.val (.ref a1), .val (.int (7 : Int32)), .val (.ref a3), .val (.int (7 : Int32)), .val (.int (8 : Int32)), .val (.int (7 : Int32)), .val (.int x7)] [(.ref a3)]))
  refine Go.st (fun U hr => XS.iloadN X52.here hx rfl (hb hby d8_27) rfl hr) ?_
  show Go p.tables e below _ (T52.setTop (mkF m 28 #[.val (.ref a1), .val (.int (7 : Int32)), .val (.ref a3), .val (.int (7 : Int32)), .val (.int (8 : Int32)), .val (.int (7 : Int32)), .val (.int x7)] [(.int (7 : Int32)), (.ref a3)]))
  refine Go.st (fun U hr => XS.iload X52.here hx rfl (hb hby d8_28) rfl hr) ?_
  show Go p.tables e below _ (T52.setTop (mkF m 30 #[.val (.ref a1), .val (.int (7 : Int32)), .val (.ref a3), .val (.int (7 : Int32)), .val (.int (8 : Int32)), .val (.int (7 : Int32)), .val (.int x7)] [(.int x7), (.int (7 : Int32)), (.ref a3)]))
  refine Go.st (fun U hr => XS.i2b X52.here hx rfl (hb hby d8_30) rfl hr) ?_
  show Go p.tables e below _ (T52.setTop (mkF m 31 #[.val (.ref a1), .val (.int (7 : Int32)), .val (.ref a3), .val (.int (7 : Int32)), .val (.int (8 : Int32)), .val (.int (7 : Int32)), .val (.int x7)] [(.int (x7.toInt8.toInt32)), (.int (7 : Int32)), (.ref a3)]))
  obtain ⟨cl59, Ar59, qa59, Sa59, Na59, Ha59, Ga59⟩ := id V52
  have hin59 : ¬ ((7 : Int32) < 0 ∨ cl59.slots.size ≤ ((7 : Int32)).toNatClampNeg) := inb_of Sa59 ⟨by decide, by decide⟩
  obtain ⟨T60, h60, X60, e60, W60, st60⟩ := stB X52 hx hZ e52 Ar59 (j := (7 : Int32)) hin59 (g := (mkF m 31 #[.val (.ref a1), .val (.int (7 : Int32)), .val (.ref a3), .val (.int (7 : Int32)), .val (.int (8 : Int32)), .val (.int (7 : Int32)), .val (.int x7)] [(.int (x7.toInt8.toInt32)), (.int (7 : Int32)), (.ref a3)])) rfl rfl (hb hby d8_31)
  refine Go.st st60 ?_
  have V60 := Arv.set Ar59 qa59 Sa59 Na59 Ha59 Ga59 (fits_nar_byte _) W60 7 rfl (Nat.le_of_ble_eq_true rfl)
  have k61 := (k53).wr W60 (Or.inl (List.mem_of_getElem? (i := 0) rfl))
  have f62 := (f54).other W60 ne
  have z64 := Nat.le_trans z56 (Keep.of_wr W60).1
  have N60 := Fr.snoc X60 N52 g3
  show Go p.tables e below _ (T60.setTop (mkF m 32 #[.val (.ref a1), .val (.int (7 : Int32)), .val (.ref a3), .val (.int (7 : Int32)), .val (.int (8 : Int32)), .val (.int (7 : Int32)), .val (.int x7)] []))
  refine Go.st (fun U hr => XS.iinc X60.here hx rfl (hb hby d8_32) rfl (l' := #[.val (.ref a1), .val (.int ((7 : Int32) + (1 : Int32))), .val (.ref a3), .val (.int (7 : Int32)), .val (.int (8 : Int32)), .val (.int (7 : Int32)), .val (.int x7)]) rfl hr) ?_
  show Go p.tables e below _ (T60.setTop (mkF m 35 #[.val (.ref a1), .val (.int ((7 : Int32) + (1 : Int32))), .val (.ref a3), .val (.int (7 : Int32)), .val (.int (8 : Int32)), .val (.int (7 : Int32)), .val (.int x7)] []))
  refine Go.st (fun U hr => XS.iinc X60.here hx rfl (hb hby d8_35) rfl (l' := #[.val (.ref a1), .val (.int ((7 : Int32) + (1 : Int32))), .val (.ref a3), .val (.int ((7 : Int32) + (1 : Int32))), .val (.int (8 : Int32)), .val (.int (7 : Int32)), .val (.int x7)]) rfl hr) ?_
  show Go p.tables e below _ (T60.setTop (mkF m 38 #[.val (.ref a1), .val (.int ((7 : Int32) + (1 : Int32))), .val (.ref a3), .val (.int ((7 : Int32) + (1 : Int32))), .val (.int (8 : Int32)), .val (.int (7 : Int32)), .val (.int x7)] []))
  refine Go.st (fun U hr => XS.iinc X60.here hx rfl (hb hby d8_38) rfl (l' := #[.val (.ref a1), .val (.int ((7 : Int32) + (1 : Int32))), .val (.ref a3), .val (.int ((7 : Int32) + (1 : Int32))), .val (.int (8 : Int32)), .val (.int ((7 : Int32) + (1 : Int32))), .val (.int x7)]) rfl hr) ?_
  show Go p.tables e below _ (T60.setTop (mkF m 41 #[.val (.ref a1), .val (.int ((7 : Int32) + (1 : Int32))), .val (.ref a3), .val (.int ((7 : Int32) + (1 : Int32))), .val (.int (8 : Int32)), .val (.int ((7 : Int32) + (1 : Int32))), .val (.int x7)] []))
  refine Go.st (fun U hr => XS.goto X60.here hx rfl (pc0 := 41) (pc' := 3) rfl (hb hby d8_41) (by decide) (by decide) hr) ?_
  show Go p.tables e below _ (T60.setTop (mkF m 3 #[.val (.ref a1), .val (.int ((7 : Int32) + (1 : Int32))), .val (.ref a3), .val (.int ((7 : Int32) + (1 : Int32))), .val (.int (8 : Int32)), .val (.int ((7 : Int32) + (1 : Int32))), .val (.int x7)] []))
  rw [show ((7 : Int32) + (1 : Int32)) = (8 : Int32) from by decide]
  show Go p.tables e below _ (T60.setTop (mkF m 3 #[.val (.ref a1), .val (.int (8 : Int32)), .val (.ref a3), .val (.int (8 : Int32)), .val (.int (8 : Int32)), .val (.int (8 : Int32)), .val (.int x7)] []))
  refine Go.st (fun U hr => XS.iload X60.here hx rfl (hb hby d8_3) rfl hr) ?_
  show Go p.tables e below _ (T60.setTop (mkF m 5 #[.val (.ref a1), .val (.int (8 : Int32)), .val (.ref a3), .val (.int (8 : Int32)), .val (.int (8 : Int32)), .val (.int (8 : Int32)), .val (.int x7)] [(.int (8 : Int32))]))
  refine Go.st (fun U hr => XS.iload X60.here hx rfl (hb hby d8_5) rfl hr) ?_
  show Go p.tables e below _ (T60.setTop (mkF m 7 #[.val (.ref a1), .val (.int (8 : Int32)), .val (.ref a3), .val (.int (8 : Int32)), .val (.int (8 : Int32)), .val (.int (8 : Int32)), .val (.int x7)] [(.int (8 : Int32)), (.int (8 : Int32))]))
  refine Go.st (fun U hr => XS.icmpYes X60.here hx rfl (pc0 := 7) (pc' := 44) rfl (hb hby d8_7) rfl (by decide) (by decide) (by decide) hr) ?_
  show Go p.tables e below _ (T60.setTop (mkF m 44 #[.val (.ref a1), .val (.int (8 : Int32)), .val (.ref a3), .val (.int (8 : Int32)), .val (.int (8 : Int32)), .val (.int (8 : Int32)), .val (.int x7)] []))
  refine Go.st (fun U hr => XS.iload X60.here hx rfl (hb hby d8_44) rfl hr) ?_
  show Go p.tables e below _ (T60.setTop (mkF m 46 #[.val (.ref a1), .val (.int (8 : Int32)), .val (.ref a3), .val (.int (8 : Int32)), .val (.int (8 : Int32)), .val (.int (8 : Int32)), .val (.int x7)] [(.int (8 : Int32))]))
  exact own_retO X60 hx Bd.notSynchronized (t := .int) Bd.returns rfl (Or.inl ⟨rfl, Or.inl rfl, _, rfl⟩) (hb hby d8_46) (by rw [e60]; exact ⟨rfl, N60, k61, V60⟩) (by decide) (by decide)
theorem d7_0 : decode jdk_52_method_16_code 0 = .ok (.iload_n 2, 1) := by decide +kernel
theorem d7_1 : decode jdk_52_method_16_code 1 = .ok (.newarray .byte, 2) := by decide +kernel
theorem d7_3 : decode jdk_52_method_16_code 3 = .ok (.astore_n 3, 1) := by decide +kernel
theorem d7_4 : decode jdk_52_method_16_code 4 = .ok (.aload_n 0, 1) := by decide +kernel
theorem d7_5 : decode jdk_52_method_16_code 5 = .ok (.iload_n 1, 1) := by decide +kernel
theorem d7_6 : decode jdk_52_method_16_code 6 = .ok (.aload_n 3, 1) := by decide +kernel
theorem d7_7 : decode jdk_52_method_16_code 7 = .ok (.iconst 0, 1) := by decide +kernel
theorem d7_8 : decode jdk_52_method_16_code 8 = .ok (.iload_n 2, 1) := by decide +kernel
theorem d7_9 : decode jdk_52_method_16_code 9 = .ok (.invokestatic 115, 3) := by decide +kernel
theorem d7_12 : decode jdk_52_method_16_code 12 = .ok (.istore 4, 2) := by decide +kernel
theorem d7_14 : decode jdk_52_method_16_code 14 = .ok (.iload 4, 2) := by decide +kernel
theorem d7_16 : decode jdk_52_method_16_code 16 = .ok (.iload_n 2, 1) := by decide +kernel
theorem d7_17 : decode jdk_52_method_16_code 17 = .ok (.if_icmp .eq 40, 3) := by decide +kernel
theorem d7_57 : decode jdk_52_method_16_code 57 = .ok (.aload_n 3, 1) := by decide +kernel
theorem d7_58 : decode jdk_52_method_16_code 58 = .ok (.areturn, 1) := by decide +kernel
theorem pn_7 : plainFor (⟨"java/lang/StringUTF16", "compress", "([CII)[B"⟩ : MethodName) = true := plainFor_of_name (by first | (simp [plainName, overriddenIn]; done) | decide +kernel)
theorem ef_7 (m : MethodId) (x0 : Addr) (x1 : Int32) (x2 : Int32) : entryFrame m #[(.ref x0), (.int x1), (.int x2)] 6 = mkF m 0 #[.val (.ref x0), .val (.int x1), .val (.int x2), .unset, .unset, .unset] [] := by first | (simp [entryFrame, mkF, argsToLocals, Value.category]; done) | rfl
theorem pd_1 : parseMethodDescriptor "([CI[BII)I" = some ⟨[(.array .char), .int, (.array .byte), .int, .int], some .int⟩ := by decide +kernel
def Q7 (Z : State) (a1 : Addr) (kc : ClassId) (x0 : Int32) (x1 : Int32) (x2 : Int32) (x3 : Int32) (x4 : Int32) (x5 : Int32) (x6 : Int32) (x7 : Int32) (h0 : Heap) (n0 : Nat) (v : Option Value) (h : Heap) (L : List Loc) : Prop := ∃ r : Addr, v = some (.ref r) ∧ Fr n0 L ∧ h0.size ≤ r ∧ Keep h0 h [] ∧ ∃ kb, Arv Z h r kb .byte (8 : Int32) [(.int (own_bb x0)), (.int (own_bb x1)), (.int (own_bb x2)), (.int (own_bb x3)), (.int (own_bb x4)), (.int (own_bb x5)), (.int (own_bb x6)), (.int (own_bb x7))] (.int (0 : Int32))
set_option maxRecDepth 65536 in
set_option maxHeartbeats 40000000 in
theorem rm7 (l : Launch) (Z : State) (a0 : Array Value) (hw : ∀ d ∈ tables_1, d.before a0 Z = true) (ws : List Jvm.Cond) (a1 : Addr) (kc : ClassId) (x0 : Int32) (x1 : Int32) (x2 : Int32) (x3 : Int32) (x4 : Int32) (x5 : Int32) (x6 : Int32) (x7 : Int32) (h0 : Heap) (n0 : Nat) (Z0 : n0 ≤ h0.size) (V1 : Arv Z h0 a1 kc .char (8 : Int32) [(.int x0), (.int x1), (.int x2), (.int x3), (.int x4), (.int x5), (.int x6), (.int x7)] (.int (0 : Int32))) (hx0 : ¬ 255 < x0) (hx1 : ¬ 255 < x1) (hx2 : ¬ 255 < x2) (hx3 : ¬ 255 < x3) (hx4 : ¬ 255 < x4) (hx5 : ¬ 255 < x5) (hx6 : ¬ 255 < x6) (hx7 : ¬ 255 < x7) :
    MetFree l (⟨"java/lang/StringUTF16", "compress", "([CII)[B"⟩ : MethodName) (head1 (Jvm.Cond.code (⟨"java/lang/StringUTF16", "compress", "([CII)[B"⟩ : MethodName) jdk_52_method_16_code 6 (some (.array .byte)) :: ws) ({ frames := 1, cells := 1, slots := 8, locals := 18 } : Room)) (fun a U => a = #[(.ref a1), (.int (0 : Int32)), (.int (8 : Int32))] ∧ Z.Warmed39 U.vm ∧ U.heap = h0) (fun _ _ _ _ _ => True) (fun _ U o U' => ∃ v L, o = .returned v ∧ Q7 Z a1 kc x0 x1 x2 x3 x4 x5 x6 x7 h0 n0 v U'.heap L ∧ FrameEnd U o U' L ({ frames := 1, cells := 1, slots := 8, locals := 18 } : Room).cells ({ frames := 1, cells := 1, slots := 8, locals := 18 } : Room).slots) := by
  refine MetFree.of_bodySF pn_7 hisR ?_
  intro p e s m args below meth c s₁ Bd hml0 hP hK
  obtain ⟨rfl, hZ, hh⟩ := hP
  have hx := Bd.exec
  have hby := Bd.bytes
  have hml : c.maxLocals = 6 := hml0
  have hown : s.vm.findClass "java/lang/StringUTF16" = some m.cls := findClass_of_methodNamed Bd.named
  have hnm := (name_of_methodNamed Bd.named Bd.method).1
  have X0 : Stand p l e ({ frames := 1, cells := 1, slots := 8, locals := 18 } : Room) s m #[(.ref a1), (.int (0 : Int32)), (.int (8 : Int32))] below meth c s₁ [] 0 0 := Stand.of_body Bd
  have e0 : s₁.heap = h0 := by rw [← hh, Bd.state]; rfl
  have N0 := Fr.nil n0
  refine own_start (Q := Q7 Z a1 kc x0 x1 x2 x3 x4 x5 x6 x7 h0 n0) (own_cast (ef_7 m a1 (0 : Int32) (8 : Int32)) ?_)
  show Go p.tables e below _ (s₁.setTop (mkF m 0 #[.val (.ref a1), .val (.int (0 : Int32)), .val (.int (8 : Int32)), .unset, .unset, .unset] []))
  refine Go.st (fun U hr => XS.iloadN X0.here hx rfl (hb hby d7_0) rfl hr) ?_
  show Go p.tables e below _ (s₁.setTop (mkF m 1 #[.val (.ref a1), .val (.int (0 : Int32)), .val (.int (8 : Int32)), .unset, .unset, .unset] [(.int (8 : Int32))]))
  obtain ⟨T1, h1, k1, X1, e1, E1, A1, st1⟩ := newP X0 hx hZ (hw _ (List.mem_of_getElem? (i := 29) rfl)) e0 (g := (mkF m 1 #[.val (.ref a1), .val (.int (0 : Int32)), .val (.int (8 : Int32)), .unset, .unset, .unset] [(.int (8 : Int32))])) rfl (hb hby d7_1) rfl (by decide) (cap := 8) (by decide) (by decide) (by decide) (by decide)
  obtain ⟨b1, g1⟩ : ∃ z, z = h0.size := ⟨_, rfl⟩
  rw [← g1] at A1 st1
  refine Go.st st1 ?_
  have gb1 : n0 ≤ b1 := Nat.le_trans Z0 (Nat.le_of_eq g1.symm)
  have sb1 : h0.size ≤ b1 := Nat.le_trans ((Keep.refl h0 [])).1 (Nat.le_of_eq g1.symm)
  have k2 := ((Keep.refl h0 [])).ext E1
  have n3 : a1 ≠ b1 := Nat.ne_of_lt (Nat.lt_of_lt_of_le (V1).lt (Nat.le_of_eq g1.symm))
  have f4 := (V1).ext E1
  have z5 := Nat.le_trans Z0 E1.1
  have V1 : Arv Z h1 b1 k1 .byte (8 : Int32) [(.int (0 : Int32)), (.int (0 : Int32)), (.int (0 : Int32)), (.int (0 : Int32)), (.int (0 : Int32)), (.int (0 : Int32)), (.int (0 : Int32)), (.int (0 : Int32))] (.int (0 : Int32)) := (Arv.new A1 (by decide)).pad (pad_rep [] (.int (0 : Int32)) 8)
  show Go p.tables e below _ (T1.setTop (mkF m 3 #[.val (.ref a1), .val (.int (0 : Int32)), .val (.int (8 : Int32)), .unset, .unset, .unset] [(.ref b1)]))
  refine Go.st (fun U hr => XS.astoreN X1.here hx rfl (hb hby d7_3) rfl rfl (l' := #[.val (.ref a1), .val (.int (0 : Int32)), .val (.int (8 : Int32)), .val (.ref b1), .unset, .unset]) rfl hr) ?_
  show Go p.tables e below _ (T1.setTop (mkF m 4 #[.val (.ref a1), .val (.int (0 : Int32)), .val (.int (8 : Int32)), .val (.ref b1), .unset, .unset] []))
  refine Go.st (fun U hr => XS.aloadN X1.here hx rfl (hb hby d7_4) rfl rfl hr) ?_
  show Go p.tables e below _ (T1.setTop (mkF m 5 #[.val (.ref a1), .val (.int (0 : Int32)), .val (.int (8 : Int32)), .val (.ref b1), .unset, .unset] [(.ref a1)]))
  refine Go.st (fun U hr => XS.iloadN X1.here hx rfl (hb hby d7_5) rfl hr) ?_
  show Go p.tables e below _ (T1.setTop (mkF m 6 #[.val (.ref a1), .val (.int (0 : Int32)), .val (.int (8 : Int32)), .val (.ref b1), .unset, .unset] [(.int (0 : Int32)), (.ref a1)]))
  refine Go.st (fun U hr => XS.aloadN X1.here hx rfl (hb hby d7_6) rfl rfl hr) ?_
  show Go p.tables e below _ (T1.setTop (mkF m 7 #[.val (.ref a1), .val (.int (0 : Int32)), .val (.int (8 : Int32)), .val (.ref b1), .unset, .unset] [(.ref b1), (.int (0 : Int32)), (.ref a1)]))
  refine Go.st (fun U hr => XS.iconst X1.here hx rfl (hb hby d7_7) hr) ?_
  show Go p.tables e below _ (T1.setTop (mkF m 8 #[.val (.ref a1), .val (.int (0 : Int32)), .val (.int (8 : Int32)), .val (.ref b1), .unset, .unset] [(.int (0 : Int32)), (.ref b1), (.int (0 : Int32)), (.ref a1)]))
  refine Go.st (fun U hr => XS.iloadN X1.here hx rfl (hb hby d7_8) rfl hr) ?_
  show Go p.tables e below _ (T1.setTop (mkF m 9 #[.val (.ref a1), .val (.int (0 : Int32)), .val (.int (8 : Int32)), .val (.ref b1), .unset, .unset] [(.int (8 : Int32)), (.int (0 : Int32)), (.ref b1), (.int (0 : Int32)), (.ref a1)]))
  obtain ⟨_, _, ⟨T6, L6, k6, n6⟩, -, X6, ⟨Lc6, hQ6, l6, y6, z6⟩, st6⟩ := Jvm.LawKit.callS X1 hx (y := (⟨"java/lang/StringUTF16", "compress", "([CI[BII)I"⟩ : MethodName)) hown (mvT hZ (hw _ (List.mem_of_getElem? (i := 30) rfl))) (mvT hZ (hw _ (List.mem_of_getElem? (i := 31) rfl))) (mvT hZ (hw _ (List.mem_of_getElem? (i := 27) rfl))) (mvT hZ (hw _ (List.mem_of_getElem? (i := 32) rfl))) (by decide) (backOf (W := 0) (rm8 l Z a0 hw [] a1 b1 kc k1 x0 x1 x2 x3 x4 x5 x6 x7 h1 n0 z5 f4 V1 n3 gb1 hx0 hx1 hx2 hx3 hx4 hx5 hx6 hx7) hZ (hw _ (List.mem_of_getElem? (i := 32) rfl)) (hw _ (List.mem_of_getElem? (i := 27) rfl)) (by decide) (by decide)) (g := (mkF m 9 #[.val (.ref a1), .val (.int (0 : Int32)), .val (.int (8 : Int32)), .val (.ref b1), .unset, .unset] [(.int (8 : Int32)), (.int (0 : Int32)), (.ref b1), (.int (0 : Int32)), (.ref a1)])) rfl (by rw [hml]; rfl) (argsL := [(.ref a1), (.int (0 : Int32)), (.ref b1), (.int (0 : Int32)), (.int (8 : Int32))]) (rest := []) (lenOf pd_1 rfl) rfl (by show 2 * 0 + _ ≤ _; exact Nat.le_of_eq rfl) (hb hby d7_9) (fun _ _ => ⟨rfl, e1, (by decide : 1 + 0 ≤ _), (by decide : 8 + 0 ≤ _)⟩)
  dsimp only [Pt.U, Pt.locs, Pt.cells, Pt.slots] at X6 l6 y6 z6 st6 hQ6
  subst l6 y6 z6
  obtain ⟨rfl, Nq6, Kq6, Vq6⟩ := hQ6
  have N6 := Fr.app N0 Nq6
  refine Go.st st6 ?_
  show Go p.tables e below _ (T6.setTop (mkF m 12 #[.val (.ref a1), .val (.int (0 : Int32)), .val (.int (8 : Int32)), .val (.ref b1), .unset, .unset] [(.int (8 : Int32))]))
  have k7 := (k2).trans Kq6 (allS (Or.inr sb1) all0)
  refine Go.st (fun U hr => XS.istore X6.here hx rfl (hb hby d7_12) rfl (l' := #[.val (.ref a1), .val (.int (0 : Int32)), .val (.int (8 : Int32)), .val (.ref b1), .val (.int (8 : Int32)), .unset]) rfl hr) ?_
  show Go p.tables e below _ (T6.setTop (mkF m 14 #[.val (.ref a1), .val (.int (0 : Int32)), .val (.int (8 : Int32)), .val (.ref b1), .val (.int (8 : Int32)), .unset] []))
  refine Go.st (fun U hr => XS.iload X6.here hx rfl (hb hby d7_14) rfl hr) ?_
  show Go p.tables e below _ (T6.setTop (mkF m 16 #[.val (.ref a1), .val (.int (0 : Int32)), .val (.int (8 : Int32)), .val (.ref b1), .val (.int (8 : Int32)), .unset] [(.int (8 : Int32))]))
  refine Go.st (fun U hr => XS.iloadN X6.here hx rfl (hb hby d7_16) rfl hr) ?_
  show Go p.tables e below _ (T6.setTop (mkF m 17 #[.val (.ref a1), .val (.int (0 : Int32)), .val (.int (8 : Int32)), .val (.ref b1), .val (.int (8 : Int32)), .unset] [(.int (8 : Int32)), (.int (8 : Int32))]))
  refine Go.st (fun U hr => XS.icmpYes X6.here hx rfl (pc0 := 17) (pc' := 57) rfl (hb hby d7_17) rfl (by decide) (by decide) (by decide) hr) ?_
  show Go p.tables e below _ (T6.setTop (mkF m 57 #[.val (.ref a1), .val (.int (0 : Int32)), .val (.int (8 : Int32)), .val (.ref b1), .val (.int (8 : Int32)), .unset] []))
  refine Go.st (fun U hr => XS.aloadN X6.here hx rfl (hb hby d7_57) rfl rfl hr) ?_
  show Go p.tables e below _ (T6.setTop (mkF m 58 #[.val (.ref a1), .val (.int (0 : Int32)), .val (.int (8 : Int32)), .val (.ref b1), .val (.int (8 : Int32)), .unset] [(.ref b1)]))
  exact own_retO X6 hx Bd.notSynchronized (t := (.array .byte)) Bd.returns rfl (Or.inr (Or.inr (Or.inr (Or.inr ⟨rfl, rfl, rfl⟩)))) (hb hby d7_58) ⟨_, rfl, N6, sb1, k7, _, Vq6⟩ (by decide) (by decide)
theorem d9_0 : decode jdk_52_method_15_code 0 = .ok (.iload_n 1, 1) := by decide +kernel
theorem d9_1 : decode jdk_52_method_15_code 1 = .ok (.aload_n 0, 1) := by decide +kernel
theorem d9_2 : decode jdk_52_method_15_code 2 = .ok (.arraylength, 1) := by decide +kernel
theorem d9_3 : decode jdk_52_method_15_code 3 = .ok (.isub, 1) := by decide +kernel
theorem d9_4 : decode jdk_52_method_15_code 4 = .ok (.bipush 31, 2) := by decide +kernel
theorem d9_6 : decode jdk_52_method_15_code 6 = .ok (.iushr, 1) := by decide +kernel
theorem d9_7 : decode jdk_52_method_15_code 7 = .ok (.i2b, 1) := by decide +kernel
theorem d9_8 : decode jdk_52_method_15_code 8 = .ok (.ireturn, 1) := by decide +kernel
theorem pn_9 : plainFor (⟨"java/lang/StringUTF16", "coderFromArrayLen", "([BI)B"⟩ : MethodName) = true := plainFor_of_name (by first | (simp [plainName, overriddenIn]; done) | decide +kernel)
theorem ef_9 (m : MethodId) (x0 : Addr) (x1 : Int32) : entryFrame m #[(.ref x0), (.int x1)] 2 = mkF m 0 #[.val (.ref x0), .val (.int x1)] [] := by first | (simp [entryFrame, mkF, argsToLocals, Value.category]; done) | rfl
def Q9 (Z : State) (a1 : Addr) (kb : ClassId) (x0 : Int32) (x1 : Int32) (x2 : Int32) (x3 : Int32) (x4 : Int32) (x5 : Int32) (x6 : Int32) (x7 : Int32) (h0 : Heap) (n0 : Nat) (v : Option Value) (h : Heap) (L : List Loc) : Prop := ∃ cd : Int32, v = some (.int cd) ∧ Fr n0 L ∧ h = h0 ∧ cd = 0
set_option maxRecDepth 65536 in
set_option maxHeartbeats 40000000 in
theorem rm9 (l : Launch) (Z : State) (a0 : Array Value) (hw : ∀ d ∈ tables_1, d.before a0 Z = true) (ws : List Jvm.Cond) (a1 : Addr) (kb : ClassId) (x0 : Int32) (x1 : Int32) (x2 : Int32) (x3 : Int32) (x4 : Int32) (x5 : Int32) (x6 : Int32) (x7 : Int32) (h0 : Heap) (n0 : Nat) (Z0 : n0 ≤ h0.size) (V1 : Arv Z h0 a1 kb .byte (8 : Int32) [(.int (own_bb x0)), (.int (own_bb x1)), (.int (own_bb x2)), (.int (own_bb x3)), (.int (own_bb x4)), (.int (own_bb x5)), (.int (own_bb x6)), (.int (own_bb x7))] (.int (0 : Int32))) :
    MetFree l (⟨"java/lang/StringUTF16", "coderFromArrayLen", "([BI)B"⟩ : MethodName) (head1 (Jvm.Cond.code (⟨"java/lang/StringUTF16", "coderFromArrayLen", "([BI)B"⟩ : MethodName) jdk_52_method_15_code 2 (some .byte) :: ws) ({ frames := 0, cells := 0, slots := 0, locals := 0 } : Room)) (fun a U => a = #[(.ref a1), (.int (8 : Int32))] ∧ Z.Warmed39 U.vm ∧ U.heap = h0) (fun _ _ _ _ _ => True) (fun _ U o U' => ∃ v L, o = .returned v ∧ Q9 Z a1 kb x0 x1 x2 x3 x4 x5 x6 x7 h0 n0 v U'.heap L ∧ FrameEnd U o U' L ({ frames := 0, cells := 0, slots := 0, locals := 0 } : Room).cells ({ frames := 0, cells := 0, slots := 0, locals := 0 } : Room).slots) := by
  refine MetFree.of_bodySF pn_9 hisR ?_
  intro p e s m args below meth c s₁ Bd hml0 hP hK
  obtain ⟨rfl, hZ, hh⟩ := hP
  have hx := Bd.exec
  have hby := Bd.bytes
  have hml : c.maxLocals = 2 := hml0
  have hown : s.vm.findClass "java/lang/StringUTF16" = some m.cls := findClass_of_methodNamed Bd.named
  have hnm := (name_of_methodNamed Bd.named Bd.method).1
  have X0 : Stand p l e ({ frames := 0, cells := 0, slots := 0, locals := 0 } : Room) s m #[(.ref a1), (.int (8 : Int32))] below meth c s₁ [] 0 0 := Stand.of_body Bd
  have e0 : s₁.heap = h0 := by rw [← hh, Bd.state]; rfl
  have N0 := Fr.nil n0
  refine own_start (Q := Q9 Z a1 kb x0 x1 x2 x3 x4 x5 x6 x7 h0 n0) (own_cast (ef_9 m a1 (8 : Int32)) ?_)
  show Go p.tables e below _ (s₁.setTop (mkF m 0 #[.val (.ref a1), .val (.int (8 : Int32))] []))
  refine Go.st (fun U hr => XS.iloadN X0.here hx rfl (hb hby d9_0) rfl hr) ?_
  show Go p.tables e below _ (s₁.setTop (mkF m 1 #[.val (.ref a1), .val (.int (8 : Int32))] [(.int (8 : Int32))]))
  refine Go.st (fun U hr => XS.aloadN X0.here hx rfl (hb hby d9_1) rfl rfl hr) ?_
  show Go p.tables e below _ (s₁.setTop (mkF m 2 #[.val (.ref a1), .val (.int (8 : Int32))] [(.ref a1), (.int (8 : Int32))]))
  obtain ⟨cl1, Ar1, qa1, Sa1, Na1, Ha1, Ga1⟩ := id V1
  refine Go.st (X0.arraylength hx (by rw [e0]; exact Ar1.1) (State.isArrayOf_alike hZ.alike Ar1.2.1) (g := (mkF m 2 #[.val (.ref a1), .val (.int (8 : Int32))] [(.ref a1), (.int (8 : Int32))])) rfl rfl (hb hby d9_2)) ?_
  rw [len_of Sa1 Na1]
  show Go p.tables e below _ (s₁.setTop (mkF m 3 #[.val (.ref a1), .val (.int (8 : Int32))] [(.int (8 : Int32)), (.int (8 : Int32))]))
  refine Go.st (fun U hr => XS.isub X0.here hx rfl (hb hby d9_3) rfl hr) ?_
  show Go p.tables e below _ (s₁.setTop (mkF m 4 #[.val (.ref a1), .val (.int (8 : Int32))] [(.int ((8 : Int32) - (8 : Int32)))]))
  refine Go.st (fun U hr => XS.bipush X0.here hx rfl (hb hby d9_4) hr) ?_
  show Go p.tables e below _ (s₁.setTop (mkF m 6 #[.val (.ref a1), .val (.int (8 : Int32))] [(.int (31 : Int32)), (.int ((8 : Int32) - (8 : Int32)))]))
  refine Go.st (fun U hr => XS.iushr X0.here hx rfl (hb hby d9_6) rfl hr) ?_
  show Go p.tables e below _ (s₁.setTop (mkF m 7 #[.val (.ref a1), .val (.int (8 : Int32))] [(.int ((((8 : Int32) - (8 : Int32)).toUInt32 >>> ((31 : Int32) &&& 31).toUInt32).toInt32))]))
  refine Go.st (fun U hr => XS.i2b X0.here hx rfl (hb hby d9_7) rfl hr) ?_
  show Go p.tables e below _ (s₁.setTop (mkF m 8 #[.val (.ref a1), .val (.int (8 : Int32))] [(.int (((((8 : Int32) - (8 : Int32)).toUInt32 >>> ((31 : Int32) &&& 31).toUInt32).toInt32).toInt8.toInt32))]))
  exact own_retN X0 hx Bd.notSynchronized (t := .byte) Bd.returns (by simp) (hb hby d9_8) ⟨_, rfl, N0, e0, by decide⟩ (by decide) (by decide)
theorem d5_0 : decode jdk_42_method_149_code 0 = .ok (.aload_n 0, 1) := by decide +kernel
theorem d5_1 : decode jdk_42_method_149_code 1 = .ok (.invokespecial 1, 3) := by decide +kernel
theorem d5_4 : decode jdk_42_method_149_code 4 = .ok (.iload_n 3, 1) := by decide +kernel
theorem d5_5 : decode jdk_42_method_149_code 5 = .ok (.ifCond .ne 22, 3) := by decide +kernel
theorem d5_27 : decode jdk_42_method_149_code 27 = .ok (.getstatic 38, 3) := by decide +kernel
theorem d5_30 : decode jdk_42_method_149_code 30 = .ok (.ifCond .eq 28, 3) := by decide +kernel
theorem d5_33 : decode jdk_42_method_149_code 33 = .ok (.aload_n 1, 1) := by decide +kernel
theorem d5_34 : decode jdk_42_method_149_code 34 = .ok (.iload_n 2, 1) := by decide +kernel
theorem d5_35 : decode jdk_42_method_149_code 35 = .ok (.iload_n 3, 1) := by decide +kernel
theorem d5_36 : decode jdk_42_method_149_code 36 = .ok (.invokestatic 177, 3) := by decide +kernel
theorem d5_39 : decode jdk_42_method_149_code 39 = .ok (.astore 5, 2) := by decide +kernel
theorem d5_41 : decode jdk_42_method_149_code 41 = .ok (.aload_n 0, 1) := by decide +kernel
theorem d5_42 : decode jdk_42_method_149_code 42 = .ok (.aload 5, 2) := by decide +kernel
theorem d5_44 : decode jdk_42_method_149_code 44 = .ok (.iload_n 3, 1) := by decide +kernel
theorem d5_45 : decode jdk_42_method_149_code 45 = .ok (.invokestatic 47, 3) := by decide +kernel
theorem d5_48 : decode jdk_42_method_149_code 48 = .ok (.putfield 15, 3) := by decide +kernel
theorem d5_51 : decode jdk_42_method_149_code 51 = .ok (.aload_n 0, 1) := by decide +kernel
theorem d5_52 : decode jdk_42_method_149_code 52 = .ok (.aload 5, 2) := by decide +kernel
theorem d5_54 : decode jdk_42_method_149_code 54 = .ok (.putfield 9, 3) := by decide +kernel
theorem d5_57 : decode jdk_42_method_149_code 57 = .ok (.return_, 1) := by decide +kernel
theorem pn_5 : plainFor (⟨"java/lang/String", "<init>", "([CIILjava/lang/Void;)V"⟩ : MethodName) = true := plainFor_of_name (by first | (simp [plainName, overriddenIn]; done) | decide +kernel)
theorem ef_5 (m : MethodId) (x0 : Addr) (x1 : Addr) (x2 : Int32) (x3 : Int32) : entryFrame m #[(.ref x0), (.ref x1), (.int x2), (.int x3), .null] 6 = mkF m 0 #[.val (.ref x0), .val (.ref x1), .val (.int x2), .val (.int x3), .val .null, .unset] [] := by first | (simp [entryFrame, mkF, argsToLocals, Value.category]; done) | rfl
theorem pd_2 : parseMethodDescriptor "([CII)[B" = some ⟨[(.array .char), .int, .int], some (.array .byte)⟩ := by decide +kernel
theorem pd_3 : parseMethodDescriptor "([BI)B" = some ⟨[(.array .byte), .int], some .byte⟩ := by decide +kernel
def Q5 (Z : State) (a1 : Addr) (a2 : Addr) (kc : ClassId) (wc : Int32) (x0 : Int32) (x1 : Int32) (x2 : Int32) (x3 : Int32) (x4 : Int32) (x5 : Int32) (x6 : Int32) (x7 : Int32) (h0 : Heap) (n0 : Nat) (v : Option Value) (h : Heap) (L : List Loc) : Prop := v = none ∧ Fr n0 L ∧ Keep h0 h [a1] ∧ Exa Z h a1 "java/lang/String" ∧ Fld Z h a1 "java/lang/String" "coder" "B" (.int (0 : Int32)) ∧ ∃ r kb, h0.size ≤ r ∧ Fld Z h a1 "java/lang/String" "value" "[B" (.ref r) ∧ Arv Z h r kb .byte (8 : Int32) [(.int (own_bb x0)), (.int (own_bb x1)), (.int (own_bb x2)), (.int (own_bb x3)), (.int (own_bb x4)), (.int (own_bb x5)), (.int (own_bb x6)), (.int (own_bb x7))] (.int (0 : Int32))
set_option maxRecDepth 65536 in
set_option maxHeartbeats 40000000 in
theorem rm5 (l : Launch) (Z : State) (a0 : Array Value) (hw : ∀ d ∈ tables_1, d.before a0 Z = true) (ws : List Jvm.Cond) (a1 : Addr) (a2 : Addr) (kc : ClassId) (wc : Int32) (x0 : Int32) (x1 : Int32) (x2 : Int32) (x3 : Int32) (x4 : Int32) (x5 : Int32) (x6 : Int32) (x7 : Int32) (h0 : Heap) (n0 : Nat) (Z0 : n0 ≤ h0.size) (E1 : Exa Z h0 a1 "java/lang/String") (F1 : Fld Z h0 a1 "java/lang/String" "value" "[B" .null) (F2 : Fld Z h0 a1 "java/lang/String" "coder" "B" (.int (0 : Int32))) (V2 : Arv Z h0 a2 kc .char (8 : Int32) [(.int x0), (.int x1), (.int x2), (.int x3), (.int x4), (.int x5), (.int x6), (.int x7)] (.int (0 : Int32))) (S1 : Sta Z h0 "java/lang/String" "COMPACT_STRINGS" "Z" (.int wc)) (hwc : ¬ wc = 0) (ne : a2 ≠ a1) (g1 : n0 ≤ a1) (hx0 : ¬ 255 < x0) (hx1 : ¬ 255 < x1) (hx2 : ¬ 255 < x2) (hx3 : ¬ 255 < x3) (hx4 : ¬ 255 < x4) (hx5 : ¬ 255 < x5) (hx6 : ¬ 255 < x6) (hx7 : ¬ 255 < x7) :
    MetFree l (⟨"java/lang/String", "<init>", "([CIILjava/lang/Void;)V"⟩ : MethodName) (head1 (Jvm.Cond.code (⟨"java/lang/String", "<init>", "([CIILjava/lang/Void;)V"⟩ : MethodName) jdk_42_method_149_code 6 none :: ws) ({ frames := 2, cells := 1, slots := 8, locals := 35 } : Room)) (fun a U => a = #[(.ref a1), (.ref a2), (.int (0 : Int32)), (.int (8 : Int32)), .null] ∧ Z.Warmed39 U.vm ∧ U.heap = h0) (fun _ _ _ _ _ => True) (fun _ U o U' => ∃ v L, o = .returned v ∧ Q5 Z a1 a2 kc wc x0 x1 x2 x3 x4 x5 x6 x7 h0 n0 v U'.heap L ∧ FrameEnd U o U' L ({ frames := 2, cells := 1, slots := 8, locals := 35 } : Room).cells ({ frames := 2, cells := 1, slots := 8, locals := 35 } : Room).slots) := by
  refine MetFree.of_bodySF pn_5 hisR ?_
  intro p e s m args below meth c s₁ Bd hml0 hP hK
  obtain ⟨rfl, hZ, hh⟩ := hP
  have hx := Bd.exec
  have hby := Bd.bytes
  have hml : c.maxLocals = 6 := hml0
  have hown : s.vm.findClass "java/lang/String" = some m.cls := findClass_of_methodNamed Bd.named
  have hnm := (name_of_methodNamed Bd.named Bd.method).1
  have X0 : Stand p l e ({ frames := 2, cells := 1, slots := 8, locals := 35 } : Room) s m #[(.ref a1), (.ref a2), (.int (0 : Int32)), (.int (8 : Int32)), .null] below meth c s₁ [] 0 0 := Stand.of_body Bd
  have e0 : s₁.heap = h0 := by rw [← hh, Bd.state]; rfl
  have N0 := Fr.nil n0
  refine own_start (Q := Q5 Z a1 a2 kc wc x0 x1 x2 x3 x4 x5 x6 x7 h0 n0) (own_cast (ef_5 m a1 a2 (0 : Int32) (8 : Int32)) ?_)
  show Go p.tables e below _ (s₁.setTop (mkF m 0 #[.val (.ref a1), .val (.ref a2), .val (.int (0 : Int32)), .val (.int (8 : Int32)), .val .null, .unset] []))
  refine Go.st (fun U hr => XS.aloadN X0.here hx rfl (hb hby d5_0) rfl rfl hr) ?_
  show Go p.tables e below _ (s₁.setTop (mkF m 1 #[.val (.ref a1), .val (.ref a2), .val (.int (0 : Int32)), .val (.int (8 : Int32)), .val .null, .unset] [(.ref a1)]))
  obtain ⟨T1, X1, e1, st1⟩ := initO X0 hx hZ hown (hw _ (List.mem_of_getElem? (i := 21) rfl)) (hw _ (List.mem_of_getElem? (i := 22) rfl)) (hw _ (List.mem_of_getElem? (i := 23) rfl)) e0 (g := (mkF m 1 #[.val (.ref a1), .val (.ref a2), .val (.int (0 : Int32)), .val (.int (8 : Int32)), .val .null, .unset] [(.ref a1)])) rfl (by rw [hml]; rfl) rfl (hb hby d5_1) (by decide) (W := 0) (by show 2 * 0 + _ ≤ _; exact Nat.le_of_eq rfl) (by decide)
  refine Go.st st1 ?_
  show Go p.tables e below _ (T1.setTop (mkF m 4 #[.val (.ref a1), .val (.ref a2), .val (.int (0 : Int32)), .val (.int (8 : Int32)), .val .null, .unset] []))
  refine Go.st (fun U hr => XS.iloadN X1.here hx rfl (hb hby d5_4) rfl hr) ?_
  show Go p.tables e below _ (T1.setTop (mkF m 5 #[.val (.ref a1), .val (.ref a2), .val (.int (0 : Int32)), .val (.int (8 : Int32)), .val .null, .unset] [(.int (8 : Int32))]))
  refine Go.st (fun U hr => XS.ifYes X1.here hx rfl (pc0 := 5) (pc' := 27) rfl (hb hby d5_5) rfl (by decide) (by decide) (by decide) hr) ?_
  show Go p.tables e below _ (T1.setTop (mkF m 27 #[.val (.ref a1), .val (.ref a2), .val (.int (0 : Int32)), .val (.int (8 : Int32)), .val .null, .unset] []))
  obtain ⟨T2, X2, e2, st2⟩ := getS2 X1 hx hZ hown (host := "") (Or.inl (hw _ (List.mem_of_getElem? (i := 24) rfl))) Via.refl e1 S1 (g := (mkF m 27 #[.val (.ref a1), .val (.ref a2), .val (.int (0 : Int32)), .val (.int (8 : Int32)), .val .null, .unset] [])) rfl (hb hby d5_27)
  refine Go.st st2 ?_
  show Go p.tables e below _ (T2.setTop (mkF m 30 #[.val (.ref a1), .val (.ref a2), .val (.int (0 : Int32)), .val (.int (8 : Int32)), .val .null, .unset] [(.int wc)]))
  have hc30_3 : ¬ (wc = (0 : Int32)) := hwc
  refine Go.st (fun U hr => XS.ifNo X2.here hx rfl (hb hby d5_30) rfl ((if0 _ _).trans (feq hc30_3).1) hr) ?_
  show Go p.tables e below _ (T2.setTop (mkF m 33 #[.val (.ref a1), .val (.ref a2), .val (.int (0 : Int32)), .val (.int (8 : Int32)), .val .null, .unset] []))
  refine Go.st (fun U hr => XS.aloadN X2.here hx rfl (hb hby d5_33) rfl rfl hr) ?_
  show Go p.tables e below _ (T2.setTop (mkF m 34 #[.val (.ref a1), .val (.ref a2), .val (.int (0 : Int32)), .val (.int (8 : Int32)), .val .null, .unset] [(.ref a2)]))
  refine Go.st (fun U hr => XS.iloadN X2.here hx rfl (hb hby d5_34) rfl hr) ?_
  show Go p.tables e below _ (T2.setTop (mkF m 35 #[.val (.ref a1), .val (.ref a2), .val (.int (0 : Int32)), .val (.int (8 : Int32)), .val .null, .unset] [(.int (0 : Int32)), (.ref a2)]))
  refine Go.st (fun U hr => XS.iloadN X2.here hx rfl (hb hby d5_35) rfl hr) ?_
  show Go p.tables e below _ (T2.setTop (mkF m 36 #[.val (.ref a1), .val (.ref a2), .val (.int (0 : Int32)), .val (.int (8 : Int32)), .val .null, .unset] [(.int (8 : Int32)), (.int (0 : Int32)), (.ref a2)]))
  obtain ⟨_, _, ⟨T4, L4, k4, n4⟩, -, X4, ⟨Lc4, hQ4, l4, y4, z4⟩, st4⟩ := Jvm.LawKit.callS X2 hx (y := (⟨"java/lang/StringUTF16", "compress", "([CII)[B"⟩ : MethodName)) hown (mvT hZ (hw _ (List.mem_of_getElem? (i := 25) rfl))) (mvT hZ (hw _ (List.mem_of_getElem? (i := 26) rfl))) (mvT hZ (hw _ (List.mem_of_getElem? (i := 27) rfl))) (mvT hZ (hw _ (List.mem_of_getElem? (i := 28) rfl))) (by decide) (backOf (W := 0) (rm7 l Z a0 hw [] a2 kc x0 x1 x2 x3 x4 x5 x6 x7 h0 n0 Z0 V2 hx0 hx1 hx2 hx3 hx4 hx5 hx6 hx7) hZ (hw _ (List.mem_of_getElem? (i := 28) rfl)) (hw _ (List.mem_of_getElem? (i := 27) rfl)) (by decide) (by decide)) (g := (mkF m 36 #[.val (.ref a1), .val (.ref a2), .val (.int (0 : Int32)), .val (.int (8 : Int32)), .val .null, .unset] [(.int (8 : Int32)), (.int (0 : Int32)), (.ref a2)])) rfl (by rw [hml]; rfl) (argsL := [(.ref a2), (.int (0 : Int32)), (.int (8 : Int32))]) (rest := []) (lenOf pd_2 rfl) rfl (by show 2 * 0 + _ ≤ _; exact Nat.le_of_eq rfl) (hb hby d5_36) (fun _ _ => ⟨rfl, e2, (by decide : 0 + 1 ≤ _), (by decide : 0 + 8 ≤ _)⟩)
  dsimp only [Pt.U, Pt.locs, Pt.cells, Pt.slots] at X4 l4 y4 z4 st4 hQ4
  subst l4 y4 z4
  obtain ⟨r4, rfl, Nq4, sr4, Kq4, Vq4'⟩ := hQ4
  have N4 := Fr.app N0 Nq4
  refine Go.st st4 ?_
  show Go p.tables e below _ (T4.setTop (mkF m 39 #[.val (.ref a1), .val (.ref a2), .val (.int (0 : Int32)), .val (.int (8 : Int32)), .val .null, .unset] [(.ref r4)]))
  have f5 := (E1).keep Kq4
  have f6 := (F1).keep Kq4 nin0
  have f7 := (F2).keep Kq4 nin0
  have f8 := (V2).keep Kq4 nin0
  obtain ⟨kb4, Vq4⟩ := Vq4'
  have n10 : r4 ≠ a1 := Ne.symm (Nat.ne_of_lt (Nat.lt_of_lt_of_le (E1).lt sr4))
  have k11 := ((Keep.refl h0 [a1])).trans Kq4 all0
  have z12 := Nat.le_trans Z0 Kq4.1
  have s13 : h0.size ≤ r4 := Nat.le_trans ((Keep.refl h0 [a1])).1 sr4
  refine Go.st (fun U hr => XS.astore X4.here hx rfl (hb hby d5_39) rfl rfl (l' := #[.val (.ref a1), .val (.ref a2), .val (.int (0 : Int32)), .val (.int (8 : Int32)), .val .null, .val (.ref r4)]) rfl hr) ?_
  show Go p.tables e below _ (T4.setTop (mkF m 41 #[.val (.ref a1), .val (.ref a2), .val (.int (0 : Int32)), .val (.int (8 : Int32)), .val .null, .val (.ref r4)] []))
  refine Go.st (fun U hr => XS.aloadN X4.here hx rfl (hb hby d5_41) rfl rfl hr) ?_
  show Go p.tables e below _ (T4.setTop (mkF m 42 #[.val (.ref a1), .val (.ref a2), .val (.int (0 : Int32)), .val (.int (8 : Int32)), .val .null, .val (.ref r4)] [(.ref a1)]))
  refine Go.st (fun U hr => XS.aload X4.here hx rfl (hb hby d5_42) rfl rfl hr) ?_
  show Go p.tables e below _ (T4.setTop (mkF m 44 #[.val (.ref a1), .val (.ref a2), .val (.int (0 : Int32)), .val (.int (8 : Int32)), .val .null, .val (.ref r4)] [(.ref r4), (.ref a1)]))
  refine Go.st (fun U hr => XS.iloadN X4.here hx rfl (hb hby d5_44) rfl hr) ?_
  show Go p.tables e below _ (T4.setTop (mkF m 45 #[.val (.ref a1), .val (.ref a2), .val (.int (0 : Int32)), .val (.int (8 : Int32)), .val .null, .val (.ref r4)] [(.int (8 : Int32)), (.ref r4), (.ref a1)]))
  obtain ⟨_, _, ⟨T14, L14, k14, n14⟩, -, X14, ⟨Lc14, hQ14, l14, y14, z14⟩, st14⟩ := Jvm.LawKit.callS X4 hx (y := (⟨"java/lang/StringUTF16", "coderFromArrayLen", "([BI)B"⟩ : MethodName)) hown (mvT hZ (hw _ (List.mem_of_getElem? (i := 33) rfl))) (mvT hZ (hw _ (List.mem_of_getElem? (i := 34) rfl))) (mvT hZ (hw _ (List.mem_of_getElem? (i := 27) rfl))) (mvT hZ (hw _ (List.mem_of_getElem? (i := 35) rfl))) (by decide) (backOf (W := 1) (rm9 l Z a0 hw [] r4 kb4 x0 x1 x2 x3 x4 x5 x6 x7 T4.heap n0 z12 Vq4) hZ (hw _ (List.mem_of_getElem? (i := 35) rfl)) (hw _ (List.mem_of_getElem? (i := 27) rfl)) (by decide) (by decide)) (g := (mkF m 45 #[.val (.ref a1), .val (.ref a2), .val (.int (0 : Int32)), .val (.int (8 : Int32)), .val .null, .val (.ref r4)] [(.int (8 : Int32)), (.ref r4), (.ref a1)])) rfl (by rw [hml]; rfl) (argsL := [(.ref r4), (.int (8 : Int32))]) (rest := [(.ref a1)]) (lenOf pd_3 rfl) rfl (by show 2 * 0 + _ ≤ _; exact Nat.le_of_eq rfl) (hb hby d5_45) (fun _ _ => ⟨rfl, rfl, (by decide : 1 + 0 ≤ _), (by decide : 8 + 0 ≤ _)⟩)
  dsimp only [Pt.U, Pt.locs, Pt.cells, Pt.slots] at X14 l14 y14 z14 st14 hQ14
  subst l14 y14 z14
  obtain ⟨cd14, rfl, Nq14, ee14, hcd14⟩ := hQ14
  have N14 := Fr.app N4 Nq14
  refine Go.st st14 ?_
  show Go p.tables e below _ (T14.setTop (mkF m 48 #[.val (.ref a1), .val (.ref a2), .val (.int (0 : Int32)), .val (.int (8 : Int32)), .val .null, .val (.ref r4)] [(.int cd14), (.ref a1)]))
  obtain ⟨T15, h15, X15, e15, W15, st15⟩ := putFN X14 hx hZ hown (hw _ (List.mem_of_getElem? (i := 36) rfl)) Via.refl ee14 f7 f5 (Or.inr ⟨(hw _ (List.mem_of_getElem? (i := 37) rfl)), rfl, hnm⟩) (hw _ (List.mem_of_getElem? (i := 12) rfl)) (ty := .byte) (v' := (.int (nar .byte cd14))) (by decide) rfl (fits_nar_byte _) (g := (mkF m 48 #[.val (.ref a1), .val (.ref a2), .val (.int (0 : Int32)), .val (.int (8 : Int32)), .val .null, .val (.ref r4)] [(.int cd14), (.ref a1)])) rfl rfl (hb hby d5_48)
  refine Go.st st15 ?_
  have k16 := (k11).wr W15 (Or.inl (List.mem_of_getElem? (i := 0) rfl))
  have f17 := (f5).wr W15
  have f18 := (f6).other W15 (Or.inr (slot_ne (Or.inr (hw _ (List.mem_of_getElem? (i := 39) rfl))) (Or.inr (hw _ (List.mem_of_getElem? (i := 37) rfl))) (by decide) (t := (.array .byte)) (t' := .byte) (by decide) (by decide)))
  have f19 := (f7).same W15
  have f20 := (f8).other W15 ne
  have f21 := (Vq4).other W15 n10
  have z22 := Nat.le_trans z12 (Keep.of_wr W15).1
  have N15 := Fr.snoc X15 N14 g1
  show Go p.tables e below _ (T15.setTop (mkF m 51 #[.val (.ref a1), .val (.ref a2), .val (.int (0 : Int32)), .val (.int (8 : Int32)), .val .null, .val (.ref r4)] []))
  refine Go.st (fun U hr => XS.aloadN X15.here hx rfl (hb hby d5_51) rfl rfl hr) ?_
  show Go p.tables e below _ (T15.setTop (mkF m 52 #[.val (.ref a1), .val (.ref a2), .val (.int (0 : Int32)), .val (.int (8 : Int32)), .val .null, .val (.ref r4)] [(.ref a1)]))
  refine Go.st (fun U hr => XS.aload X15.here hx rfl (hb hby d5_52) rfl rfl hr) ?_
  show Go p.tables e below _ (T15.setTop (mkF m 54 #[.val (.ref a1), .val (.ref a2), .val (.int (0 : Int32)), .val (.int (8 : Int32)), .val .null, .val (.ref r4)] [(.ref r4), (.ref a1)]))
  obtain ⟨T23, h23, X23, e23, W23, st23⟩ := putF X15 hx hZ hown (host := "") (Or.inl (hw _ (List.mem_of_getElem? (i := 38) rfl))) Via.refl e15 f18 f17 (Or.inr ⟨(hw _ (List.mem_of_getElem? (i := 39) rfl)), rfl, hnm⟩) (hw _ (List.mem_of_getElem? (i := 12) rfl)) (ty := (.array .byte)) (by decide) rfl rfl (g := (mkF m 54 #[.val (.ref a1), .val (.ref a2), .val (.int (0 : Int32)), .val (.int (8 : Int32)), .val .null, .val (.ref r4)] [(.ref r4), (.ref a1)])) rfl rfl (hb hby d5_54)
  refine Go.st st23 ?_
  have k24 := (k16).wr W23 (Or.inl (List.mem_of_getElem? (i := 0) rfl))
  have f25 := (f17).wr W23
  have f26 := (f18).same W23
  have f27 := (f19).other W23 (Or.inr (slot_ne (Or.inr (hw _ (List.mem_of_getElem? (i := 37) rfl))) (Or.inr (hw _ (List.mem_of_getElem? (i := 39) rfl))) (by decide) (t := .byte) (t' := (.array .byte)) (by decide) (by decide)))
  have f28 := (f20).other W23 ne
  have f29 := (f21).other W23 n10
  have z30 := Nat.le_trans z22 (Keep.of_wr W23).1
  have N23 := Fr.snoc X23 N15 g1
  show Go p.tables e below _ (T23.setTop (mkF m 57 #[.val (.ref a1), .val (.ref a2), .val (.int (0 : Int32)), .val (.int (8 : Int32)), .val .null, .val (.ref r4)] []))
  have Cc := f27
  rw [hcd14, show nar .byte (0 : Int32) = (0 : Int32) from by decide] at Cc
  exact own_ret0 X23 hx Bd.notSynchronized Bd.returns (hb hby d5_57) (by rw [e23]; exact ⟨rfl, N23, k24, f25, Cc, _, _, s13, f26, f29⟩) (by decide) (by decide)
theorem d4_0 : decode jdk_42_method_3_code 0 = .ok (.aload_n 0, 1) := by decide +kernel
theorem d4_1 : decode jdk_42_method_3_code 1 = .ok (.aload_n 1, 1) := by decide +kernel
theorem d4_2 : decode jdk_42_method_3_code 2 = .ok (.iconst 0, 1) := by decide +kernel
theorem d4_3 : decode jdk_42_method_3_code 3 = .ok (.aload_n 1, 1) := by decide +kernel
theorem d4_4 : decode jdk_42_method_3_code 4 = .ok (.arraylength, 1) := by decide +kernel
theorem d4_5 : decode jdk_42_method_3_code 5 = .ok (.aconst_null, 1) := by decide +kernel
theorem d4_6 : decode jdk_42_method_3_code 6 = .ok (.invokespecial 27, 3) := by decide +kernel
theorem d4_9 : decode jdk_42_method_3_code 9 = .ok (.return_, 1) := by decide +kernel
theorem pn_4 : plainFor (⟨"java/lang/String", "<init>", "([C)V"⟩ : MethodName) = true := plainFor_of_name (by first | (simp [plainName, overriddenIn]; done) | decide +kernel)
theorem ef_4 (m : MethodId) (x0 : Addr) (x1 : Addr) : entryFrame m #[(.ref x0), (.ref x1)] 2 = mkF m 0 #[.val (.ref x0), .val (.ref x1)] [] := by first | (simp [entryFrame, mkF, argsToLocals, Value.category]; done) | rfl
theorem pd_4 : parseMethodDescriptor "([CIILjava/lang/Void;)V" = some ⟨[(.array .char), .int, .int, (.object "java/lang/Void")], none⟩ := by decide +kernel
def Q4 (Z : State) (a1 : Addr) (a2 : Addr) (kc : ClassId) (wc : Int32) (x0 : Int32) (x1 : Int32) (x2 : Int32) (x3 : Int32) (x4 : Int32) (x5 : Int32) (x6 : Int32) (x7 : Int32) (h0 : Heap) (n0 : Nat) (v : Option Value) (h : Heap) (L : List Loc) : Prop := v = none ∧ Fr n0 L ∧ Keep h0 h [a1] ∧ Exa Z h a1 "java/lang/String" ∧ Fld Z h a1 "java/lang/String" "coder" "B" (.int (0 : Int32)) ∧ ∃ r kb, h0.size ≤ r ∧ Fld Z h a1 "java/lang/String" "value" "[B" (.ref r) ∧ Arv Z h r kb .byte (8 : Int32) [(.int (own_bb x0)), (.int (own_bb x1)), (.int (own_bb x2)), (.int (own_bb x3)), (.int (own_bb x4)), (.int (own_bb x5)), (.int (own_bb x6)), (.int (own_bb x7))] (.int (0 : Int32))
set_option maxRecDepth 65536 in
set_option maxHeartbeats 40000000 in
theorem rm4 (l : Launch) (Z : State) (a0 : Array Value) (hw : ∀ d ∈ tables_1, d.before a0 Z = true) (ws : List Jvm.Cond) (a1 : Addr) (a2 : Addr) (kc : ClassId) (wc : Int32) (x0 : Int32) (x1 : Int32) (x2 : Int32) (x3 : Int32) (x4 : Int32) (x5 : Int32) (x6 : Int32) (x7 : Int32) (h0 : Heap) (n0 : Nat) (Z0 : n0 ≤ h0.size) (E1 : Exa Z h0 a1 "java/lang/String") (F1 : Fld Z h0 a1 "java/lang/String" "value" "[B" .null) (F2 : Fld Z h0 a1 "java/lang/String" "coder" "B" (.int (0 : Int32))) (V2 : Arv Z h0 a2 kc .char (8 : Int32) [(.int x0), (.int x1), (.int x2), (.int x3), (.int x4), (.int x5), (.int x6), (.int x7)] (.int (0 : Int32))) (S1 : Sta Z h0 "java/lang/String" "COMPACT_STRINGS" "Z" (.int wc)) (hwc : ¬ wc = 0) (ne : a2 ≠ a1) (g1 : n0 ≤ a1) (hx0 : ¬ 255 < x0) (hx1 : ¬ 255 < x1) (hx2 : ¬ 255 < x2) (hx3 : ¬ 255 < x3) (hx4 : ¬ 255 < x4) (hx5 : ¬ 255 < x5) (hx6 : ¬ 255 < x6) (hx7 : ¬ 255 < x7) :
    MetFree l (⟨"java/lang/String", "<init>", "([C)V"⟩ : MethodName) (head1 (Jvm.Cond.code (⟨"java/lang/String", "<init>", "([C)V"⟩ : MethodName) jdk_42_method_3_code 2 none :: ws) ({ frames := 3, cells := 1, slots := 8, locals := 52 } : Room)) (fun a U => a = #[(.ref a1), (.ref a2)] ∧ Z.Warmed39 U.vm ∧ U.heap = h0) (fun _ _ _ _ _ => True) (fun _ U o U' => ∃ v L, o = .returned v ∧ Q4 Z a1 a2 kc wc x0 x1 x2 x3 x4 x5 x6 x7 h0 n0 v U'.heap L ∧ FrameEnd U o U' L ({ frames := 3, cells := 1, slots := 8, locals := 52 } : Room).cells ({ frames := 3, cells := 1, slots := 8, locals := 52 } : Room).slots) := by
  refine MetFree.of_bodySF pn_4 hisR ?_
  intro p e s m args below meth c s₁ Bd hml0 hP hK
  obtain ⟨rfl, hZ, hh⟩ := hP
  have hx := Bd.exec
  have hby := Bd.bytes
  have hml : c.maxLocals = 2 := hml0
  have hown : s.vm.findClass "java/lang/String" = some m.cls := findClass_of_methodNamed Bd.named
  have hnm := (name_of_methodNamed Bd.named Bd.method).1
  have X0 : Stand p l e ({ frames := 3, cells := 1, slots := 8, locals := 52 } : Room) s m #[(.ref a1), (.ref a2)] below meth c s₁ [] 0 0 := Stand.of_body Bd
  have e0 : s₁.heap = h0 := by rw [← hh, Bd.state]; rfl
  have N0 := Fr.nil n0
  refine own_start (Q := Q4 Z a1 a2 kc wc x0 x1 x2 x3 x4 x5 x6 x7 h0 n0) (own_cast (ef_4 m a1 a2) ?_)
  show Go p.tables e below _ (s₁.setTop (mkF m 0 #[.val (.ref a1), .val (.ref a2)] []))
  refine Go.st (fun U hr => XS.aloadN X0.here hx rfl (hb hby d4_0) rfl rfl hr) ?_
  show Go p.tables e below _ (s₁.setTop (mkF m 1 #[.val (.ref a1), .val (.ref a2)] [(.ref a1)]))
  refine Go.st (fun U hr => XS.aloadN X0.here hx rfl (hb hby d4_1) rfl rfl hr) ?_
  show Go p.tables e below _ (s₁.setTop (mkF m 2 #[.val (.ref a1), .val (.ref a2)] [(.ref a2), (.ref a1)]))
  refine Go.st (fun U hr => XS.iconst X0.here hx rfl (hb hby d4_2) hr) ?_
  show Go p.tables e below _ (s₁.setTop (mkF m 3 #[.val (.ref a1), .val (.ref a2)] [(.int (0 : Int32)), (.ref a2), (.ref a1)]))
  refine Go.st (fun U hr => XS.aloadN X0.here hx rfl (hb hby d4_3) rfl rfl hr) ?_
  show Go p.tables e below _ (s₁.setTop (mkF m 4 #[.val (.ref a1), .val (.ref a2)] [(.ref a2), (.int (0 : Int32)), (.ref a2), (.ref a1)]))
  obtain ⟨cl1, Ar1, qa1, Sa1, Na1, Ha1, Ga1⟩ := id V2
  refine Go.st (X0.arraylength hx (by rw [e0]; exact Ar1.1) (State.isArrayOf_alike hZ.alike Ar1.2.1) (g := (mkF m 4 #[.val (.ref a1), .val (.ref a2)] [(.ref a2), (.int (0 : Int32)), (.ref a2), (.ref a1)])) rfl rfl (hb hby d4_4)) ?_
  rw [len_of Sa1 Na1]
  show Go p.tables e below _ (s₁.setTop (mkF m 5 #[.val (.ref a1), .val (.ref a2)] [(.int (8 : Int32)), (.int (0 : Int32)), (.ref a2), (.ref a1)]))
  refine Go.st (fun U hr => XS.aconstNull X0.here hx rfl (hb hby d4_5) hr) ?_
  show Go p.tables e below _ (s₁.setTop (mkF m 6 #[.val (.ref a1), .val (.ref a2)] [.null, (.int (8 : Int32)), (.int (0 : Int32)), (.ref a2), (.ref a1)]))
  obtain ⟨_, _, ⟨T2, L2, k2, n2⟩, -, X2, ⟨Lc2, hQ2, l2, y2, z2⟩, st2⟩ := X0.specialBack hx (y := (⟨"java/lang/String", "<init>", "([CIILjava/lang/Void;)V"⟩ : MethodName)) rfl hown (mvT hZ (hw _ (List.mem_of_getElem? (i := 17) rfl))) (mvT hZ (hw _ (List.mem_of_getElem? (i := 18) rfl))) (mvT hZ (hw _ (List.mem_of_getElem? (i := 20) rfl))) (by decide) (backOf (W := 0) (rm5 l Z a0 hw [] a1 a2 kc wc x0 x1 x2 x3 x4 x5 x6 x7 h0 n0 Z0 E1 F1 F2 V2 S1 hwc ne g1 hx0 hx1 hx2 hx3 hx4 hx5 hx6 hx7) hZ (hw _ (List.mem_of_getElem? (i := 20) rfl)) (hw _ (List.mem_of_getElem? (i := 13) rfl)) (by decide) (by decide)) (g := (mkF m 6 #[.val (.ref a1), .val (.ref a2)] [.null, (.int (8 : Int32)), (.int (0 : Int32)), (.ref a2), (.ref a1)])) rfl (by rw [hml]; rfl) (Steps.refl _) (a := a1) (argsL := [(.ref a2), (.int (0 : Int32)), (.int (8 : Int32)), .null]) (rest := []) (lenOf pd_4 rfl) rfl (by show 2 * 0 + _ ≤ _; exact Nat.le_of_eq rfl) (hb hby d4_6) (fun _ _ => ⟨rfl, e0, (by decide : 0 + 1 ≤ _), (by decide : 0 + 8 ≤ _)⟩)
  dsimp only [Pt.U, Pt.locs, Pt.cells, Pt.slots] at X2 l2 y2 z2 st2 hQ2
  subst l2 y2 z2
  obtain ⟨rfl, Nq2, Kq2, Eq2, Cq2, rr2, kb2, sr2, Fq2, Vq2⟩ := hQ2
  have N2 := Fr.app N0 Nq2
  refine Go.tr st2 ?_
  show Go p.tables e below _ (T2.setTop (mkF m 9 #[.val (.ref a1), .val (.ref a2)] []))
  exact own_ret0 X2 hx Bd.notSynchronized Bd.returns (hb hby d4_9) ⟨rfl, N2, Kq2, Eq2, Cq2, _, _, sr2, Fq2, Vq2⟩ (by decide) (by decide)
theorem d14_0 : decode jdk_42_method_152_code 0 = .ok (.getstatic 38, 3) := by decide +kernel
theorem d14_3 : decode jdk_42_method_152_code 3 = .ok (.ifCond .eq 10, 3) := by decide +kernel
theorem d14_6 : decode jdk_42_method_152_code 6 = .ok (.aload_n 0, 1) := by decide +kernel
theorem d14_7 : decode jdk_42_method_152_code 7 = .ok (.getfield 15, 3) := by decide +kernel
theorem d14_10 : decode jdk_42_method_152_code 10 = .ok (.goto 4, 3) := by decide +kernel
theorem d14_14 : decode jdk_42_method_152_code 14 = .ok (.ireturn, 1) := by decide +kernel
theorem pn_14 : plainFor (⟨"java/lang/String", "coder", "()B"⟩ : MethodName) = true := plainFor_of_name (by first | (simp [plainName, overriddenIn]; done) | decide +kernel)
theorem ef_14 (m : MethodId) (x0 : Addr) : entryFrame m #[(.ref x0)] 1 = mkF m 0 #[.val (.ref x0)] [] := by first | (simp [entryFrame, mkF, argsToLocals, Value.category]; done) | rfl
def Q14 (Z : State) (a1 : Addr) (va : Addr) (kb : ClassId) (wc : Int32) (x0 : Int32) (x1 : Int32) (x2 : Int32) (x3 : Int32) (x4 : Int32) (x5 : Int32) (x6 : Int32) (x7 : Int32) (h0 : Heap) (n0 : Nat) (v : Option Value) (h : Heap) (L : List Loc) : Prop := v = some (.int (0 : Int32)) ∧ Fr n0 L ∧ h = h0
set_option maxRecDepth 65536 in
set_option maxHeartbeats 40000000 in
theorem rm14 (l : Launch) (Z : State) (a0 : Array Value) (hw : ∀ d ∈ tables_1, d.before a0 Z = true) (ws : List Jvm.Cond) (a1 : Addr) (va : Addr) (kb : ClassId) (wc : Int32) (x0 : Int32) (x1 : Int32) (x2 : Int32) (x3 : Int32) (x4 : Int32) (x5 : Int32) (x6 : Int32) (x7 : Int32) (h0 : Heap) (n0 : Nat) (Z0 : n0 ≤ h0.size) (E1 : Exa Z h0 a1 "java/lang/String") (F1 : Fld Z h0 a1 "java/lang/String" "value" "[B" (.ref va)) (F2 : Fld Z h0 a1 "java/lang/String" "coder" "B" (.int (0 : Int32))) (V1 : Arv Z h0 va kb .byte (8 : Int32) [(.int (own_bb x0)), (.int (own_bb x1)), (.int (own_bb x2)), (.int (own_bb x3)), (.int (own_bb x4)), (.int (own_bb x5)), (.int (own_bb x6)), (.int (own_bb x7))] (.int (0 : Int32))) (S1 : Sta Z h0 "java/lang/String" "COMPACT_STRINGS" "Z" (.int wc)) (hwc : ¬ wc = 0) :
    MetFree l (⟨"java/lang/String", "coder", "()B"⟩ : MethodName) (head1 (Jvm.Cond.code (⟨"java/lang/String", "coder", "()B"⟩ : MethodName) jdk_42_method_152_code 1 (some .byte) :: ws) ({ frames := 0, cells := 0, slots := 0, locals := 0 } : Room)) (fun a U => a = #[(.ref a1)] ∧ Z.Warmed39 U.vm ∧ U.heap = h0) (fun _ _ _ _ _ => True) (fun _ U o U' => ∃ v L, o = .returned v ∧ Q14 Z a1 va kb wc x0 x1 x2 x3 x4 x5 x6 x7 h0 n0 v U'.heap L ∧ FrameEnd U o U' L ({ frames := 0, cells := 0, slots := 0, locals := 0 } : Room).cells ({ frames := 0, cells := 0, slots := 0, locals := 0 } : Room).slots) := by
  refine MetFree.of_bodySF pn_14 hisR ?_
  intro p e s m args below meth c s₁ Bd hml0 hP hK
  obtain ⟨rfl, hZ, hh⟩ := hP
  have hx := Bd.exec
  have hby := Bd.bytes
  have hml : c.maxLocals = 1 := hml0
  have hown : s.vm.findClass "java/lang/String" = some m.cls := findClass_of_methodNamed Bd.named
  have hnm := (name_of_methodNamed Bd.named Bd.method).1
  have X0 : Stand p l e ({ frames := 0, cells := 0, slots := 0, locals := 0 } : Room) s m #[(.ref a1)] below meth c s₁ [] 0 0 := Stand.of_body Bd
  have e0 : s₁.heap = h0 := by rw [← hh, Bd.state]; rfl
  have N0 := Fr.nil n0
  refine own_start (Q := Q14 Z a1 va kb wc x0 x1 x2 x3 x4 x5 x6 x7 h0 n0) (own_cast (ef_14 m a1) ?_)
  show Go p.tables e below _ (s₁.setTop (mkF m 0 #[.val (.ref a1)] []))
  obtain ⟨T1, X1, e1, st1⟩ := getS2 X0 hx hZ hown (host := "") (Or.inl (hw _ (List.mem_of_getElem? (i := 24) rfl))) Via.refl e0 S1 (g := (mkF m 0 #[.val (.ref a1)] [])) rfl (hb hby d14_0)
  refine Go.st st1 ?_
  show Go p.tables e below _ (T1.setTop (mkF m 3 #[.val (.ref a1)] [(.int wc)]))
  have hc3_2 : ¬ (wc = (0 : Int32)) := hwc
  refine Go.st (fun U hr => XS.ifNo X1.here hx rfl (hb hby d14_3) rfl ((if0 _ _).trans (feq hc3_2).1) hr) ?_
  show Go p.tables e below _ (T1.setTop (mkF m 6 #[.val (.ref a1)] []))
  refine Go.st (fun U hr => XS.aloadN X1.here hx rfl (hb hby d14_6) rfl rfl hr) ?_
  show Go p.tables e below _ (T1.setTop (mkF m 7 #[.val (.ref a1)] [(.ref a1)]))
  obtain ⟨T3, X3, e3, st3⟩ := getF X1 hx hZ hown (host := "") (Or.inl (hw _ (List.mem_of_getElem? (i := 36) rfl))) Via.refl e1 F2 (g := (mkF m 7 #[.val (.ref a1)] [(.ref a1)])) rfl rfl (hb hby d14_7)
  refine Go.st st3 ?_
  show Go p.tables e below _ (T3.setTop (mkF m 10 #[.val (.ref a1)] [(.int (0 : Int32))]))
  refine Go.st (fun U hr => XS.goto X3.here hx rfl (pc0 := 10) (pc' := 14) rfl (hb hby d14_10) (by decide) (by decide) hr) ?_
  show Go p.tables e below _ (T3.setTop (mkF m 14 #[.val (.ref a1)] [(.int (0 : Int32))]))
  exact own_retN X3 hx Bd.notSynchronized (t := .byte) Bd.returns (by simp) (hb hby d14_14) ⟨rfl, N0, e3⟩ (by decide) (by decide)
theorem d12_0 : decode jdk_42_method_154_code 0 = .ok (.getstatic 38, 3) := by decide +kernel
theorem d12_3 : decode jdk_42_method_154_code 3 = .ok (.ifCond .eq 14, 3) := by decide +kernel
theorem d12_6 : decode jdk_42_method_154_code 6 = .ok (.aload_n 0, 1) := by decide +kernel
theorem d12_7 : decode jdk_42_method_154_code 7 = .ok (.getfield 15, 3) := by decide +kernel
theorem d12_10 : decode jdk_42_method_154_code 10 = .ok (.ifCond .ne 7, 3) := by decide +kernel
theorem d12_13 : decode jdk_42_method_154_code 13 = .ok (.iconst 1, 1) := by decide +kernel
theorem d12_14 : decode jdk_42_method_154_code 14 = .ok (.goto 4, 3) := by decide +kernel
theorem d12_18 : decode jdk_42_method_154_code 18 = .ok (.ireturn, 1) := by decide +kernel
theorem pn_12 : plainFor (⟨"java/lang/String", "isLatin1", "()Z"⟩ : MethodName) = true := plainFor_of_name (by first | (simp [plainName, overriddenIn]; done) | decide +kernel)
theorem ef_12 (m : MethodId) (x0 : Addr) : entryFrame m #[(.ref x0)] 1 = mkF m 0 #[.val (.ref x0)] [] := by first | (simp [entryFrame, mkF, argsToLocals, Value.category]; done) | rfl
def Q12 (Z : State) (a1 : Addr) (va : Addr) (kb : ClassId) (wc : Int32) (x0 : Int32) (x1 : Int32) (x2 : Int32) (x3 : Int32) (x4 : Int32) (x5 : Int32) (x6 : Int32) (x7 : Int32) (h0 : Heap) (n0 : Nat) (v : Option Value) (h : Heap) (L : List Loc) : Prop := v = some (.int (1 : Int32)) ∧ Fr n0 L ∧ h = h0
set_option maxRecDepth 65536 in
set_option maxHeartbeats 40000000 in
theorem rm12 (l : Launch) (Z : State) (a0 : Array Value) (hw : ∀ d ∈ tables_1, d.before a0 Z = true) (ws : List Jvm.Cond) (a1 : Addr) (va : Addr) (kb : ClassId) (wc : Int32) (x0 : Int32) (x1 : Int32) (x2 : Int32) (x3 : Int32) (x4 : Int32) (x5 : Int32) (x6 : Int32) (x7 : Int32) (h0 : Heap) (n0 : Nat) (Z0 : n0 ≤ h0.size) (E1 : Exa Z h0 a1 "java/lang/String") (F1 : Fld Z h0 a1 "java/lang/String" "value" "[B" (.ref va)) (F2 : Fld Z h0 a1 "java/lang/String" "coder" "B" (.int (0 : Int32))) (V1 : Arv Z h0 va kb .byte (8 : Int32) [(.int (own_bb x0)), (.int (own_bb x1)), (.int (own_bb x2)), (.int (own_bb x3)), (.int (own_bb x4)), (.int (own_bb x5)), (.int (own_bb x6)), (.int (own_bb x7))] (.int (0 : Int32))) (S1 : Sta Z h0 "java/lang/String" "COMPACT_STRINGS" "Z" (.int wc)) (hwc : ¬ wc = 0) :
    MetFree l (⟨"java/lang/String", "isLatin1", "()Z"⟩ : MethodName) (head1 (Jvm.Cond.code (⟨"java/lang/String", "isLatin1", "()Z"⟩ : MethodName) jdk_42_method_154_code 1 (some .boolean) :: ws) ({ frames := 0, cells := 0, slots := 0, locals := 0 } : Room)) (fun a U => a = #[(.ref a1)] ∧ Z.Warmed39 U.vm ∧ U.heap = h0) (fun _ _ _ _ _ => True) (fun _ U o U' => ∃ v L, o = .returned v ∧ Q12 Z a1 va kb wc x0 x1 x2 x3 x4 x5 x6 x7 h0 n0 v U'.heap L ∧ FrameEnd U o U' L ({ frames := 0, cells := 0, slots := 0, locals := 0 } : Room).cells ({ frames := 0, cells := 0, slots := 0, locals := 0 } : Room).slots) := by
  refine MetFree.of_bodySF pn_12 hisR ?_
  intro p e s m args below meth c s₁ Bd hml0 hP hK
  obtain ⟨rfl, hZ, hh⟩ := hP
  have hx := Bd.exec
  have hby := Bd.bytes
  have hml : c.maxLocals = 1 := hml0
  have hown : s.vm.findClass "java/lang/String" = some m.cls := findClass_of_methodNamed Bd.named
  have hnm := (name_of_methodNamed Bd.named Bd.method).1
  have X0 : Stand p l e ({ frames := 0, cells := 0, slots := 0, locals := 0 } : Room) s m #[(.ref a1)] below meth c s₁ [] 0 0 := Stand.of_body Bd
  have e0 : s₁.heap = h0 := by rw [← hh, Bd.state]; rfl
  have N0 := Fr.nil n0
  refine own_start (Q := Q12 Z a1 va kb wc x0 x1 x2 x3 x4 x5 x6 x7 h0 n0) (own_cast (ef_12 m a1) ?_)
  show Go p.tables e below _ (s₁.setTop (mkF m 0 #[.val (.ref a1)] []))
  obtain ⟨T1, X1, e1, st1⟩ := getS2 X0 hx hZ hown (host := "") (Or.inl (hw _ (List.mem_of_getElem? (i := 24) rfl))) Via.refl e0 S1 (g := (mkF m 0 #[.val (.ref a1)] [])) rfl (hb hby d12_0)
  refine Go.st st1 ?_
  show Go p.tables e below _ (T1.setTop (mkF m 3 #[.val (.ref a1)] [(.int wc)]))
  have hc3_2 : ¬ (wc = (0 : Int32)) := hwc
  refine Go.st (fun U hr => XS.ifNo X1.here hx rfl (hb hby d12_3) rfl ((if0 _ _).trans (feq hc3_2).1) hr) ?_
  show Go p.tables e below _ (T1.setTop (mkF m 6 #[.val (.ref a1)] []))
  refine Go.st (fun U hr => XS.aloadN X1.here hx rfl (hb hby d12_6) rfl rfl hr) ?_
  show Go p.tables e below _ (T1.setTop (mkF m 7 #[.val (.ref a1)] [(.ref a1)]))
  obtain ⟨T3, X3, e3, st3⟩ := getF X1 hx hZ hown (host := "") (Or.inl (hw _ (List.mem_of_getElem? (i := 36) rfl))) Via.refl e1 F2 (g := (mkF m 7 #[.val (.ref a1)] [(.ref a1)])) rfl rfl (hb hby d12_7)
  refine Go.st st3 ?_
  show Go p.tables e below _ (T3.setTop (mkF m 10 #[.val (.ref a1)] [(.int (0 : Int32))]))
  refine Go.st (fun U hr => XS.ifNo X3.here hx rfl (hb hby d12_10) rfl (by decide) hr) ?_
  show Go p.tables e below _ (T3.setTop (mkF m 13 #[.val (.ref a1)] []))
  refine Go.st (fun U hr => XS.iconst X3.here hx rfl (hb hby d12_13) hr) ?_
  show Go p.tables e below _ (T3.setTop (mkF m 14 #[.val (.ref a1)] [(.int (1 : Int32))]))
  refine Go.st (fun U hr => XS.goto X3.here hx rfl (pc0 := 14) (pc' := 18) rfl (hb hby d12_14) (by decide) (by decide) hr) ?_
  show Go p.tables e below _ (T3.setTop (mkF m 18 #[.val (.ref a1)] [(.int (1 : Int32))]))
  exact own_retN X3 hx Bd.notSynchronized (t := .boolean) Bd.returns (by simp) (hb hby d12_18) ⟨rfl, N0, e3⟩ (by decide) (by decide)
theorem d13_0 : decode jdk_42_method_54_code 0 = .ok (.aload_n 0, 1) := by decide +kernel
theorem d13_1 : decode jdk_42_method_54_code 1 = .ok (.getfield 9, 3) := by decide +kernel
theorem d13_4 : decode jdk_42_method_54_code 4 = .ok (.arraylength, 1) := by decide +kernel
theorem d13_5 : decode jdk_42_method_54_code 5 = .ok (.aload_n 0, 1) := by decide +kernel
theorem d13_6 : decode jdk_42_method_54_code 6 = .ok (.invokevirtual 335, 3) := by decide +kernel
theorem d13_9 : decode jdk_42_method_54_code 9 = .ok (.ishr, 1) := by decide +kernel
theorem d13_10 : decode jdk_42_method_54_code 10 = .ok (.ireturn, 1) := by decide +kernel
theorem pn_13 : plainFor (⟨"java/lang/String", "length", "()I"⟩ : MethodName) = true := plainFor_of_name (by first | (simp [plainName, overriddenIn]; done) | decide +kernel)
theorem ef_13 (m : MethodId) (x0 : Addr) : entryFrame m #[(.ref x0)] 1 = mkF m 0 #[.val (.ref x0)] [] := by first | (simp [entryFrame, mkF, argsToLocals, Value.category]; done) | rfl
theorem pd_5 : parseMethodDescriptor "()B" = some ⟨[], some .byte⟩ := by decide +kernel
def Q13 (Z : State) (a1 : Addr) (va : Addr) (kb : ClassId) (wc : Int32) (x0 : Int32) (x1 : Int32) (x2 : Int32) (x3 : Int32) (x4 : Int32) (x5 : Int32) (x6 : Int32) (x7 : Int32) (h0 : Heap) (n0 : Nat) (v : Option Value) (h : Heap) (L : List Loc) : Prop := v = some (.int (8 : Int32)) ∧ Fr n0 L ∧ h = h0
set_option maxRecDepth 65536 in
set_option maxHeartbeats 40000000 in
theorem rm13 (l : Launch) (Z : State) (a0 : Array Value) (hw : ∀ d ∈ tables_1, d.before a0 Z = true) (ws : List Jvm.Cond) (a1 : Addr) (va : Addr) (kb : ClassId) (wc : Int32) (x0 : Int32) (x1 : Int32) (x2 : Int32) (x3 : Int32) (x4 : Int32) (x5 : Int32) (x6 : Int32) (x7 : Int32) (h0 : Heap) (n0 : Nat) (Z0 : n0 ≤ h0.size) (E1 : Exa Z h0 a1 "java/lang/String") (F1 : Fld Z h0 a1 "java/lang/String" "value" "[B" (.ref va)) (F2 : Fld Z h0 a1 "java/lang/String" "coder" "B" (.int (0 : Int32))) (V1 : Arv Z h0 va kb .byte (8 : Int32) [(.int (own_bb x0)), (.int (own_bb x1)), (.int (own_bb x2)), (.int (own_bb x3)), (.int (own_bb x4)), (.int (own_bb x5)), (.int (own_bb x6)), (.int (own_bb x7))] (.int (0 : Int32))) (S1 : Sta Z h0 "java/lang/String" "COMPACT_STRINGS" "Z" (.int wc)) (hwc : ¬ wc = 0) :
    MetFree l (⟨"java/lang/String", "length", "()I"⟩ : MethodName) (head1 (Jvm.Cond.code (⟨"java/lang/String", "length", "()I"⟩ : MethodName) jdk_42_method_54_code 1 (some .int) :: ws) ({ frames := 1, cells := 0, slots := 0, locals := 13 } : Room)) (fun a U => a = #[(.ref a1)] ∧ Z.Warmed39 U.vm ∧ U.heap = h0) (fun _ _ _ _ _ => True) (fun _ U o U' => ∃ v L, o = .returned v ∧ Q13 Z a1 va kb wc x0 x1 x2 x3 x4 x5 x6 x7 h0 n0 v U'.heap L ∧ FrameEnd U o U' L ({ frames := 1, cells := 0, slots := 0, locals := 13 } : Room).cells ({ frames := 1, cells := 0, slots := 0, locals := 13 } : Room).slots) := by
  refine MetFree.of_bodySF pn_13 hisR ?_
  intro p e s m args below meth c s₁ Bd hml0 hP hK
  obtain ⟨rfl, hZ, hh⟩ := hP
  have hx := Bd.exec
  have hby := Bd.bytes
  have hml : c.maxLocals = 1 := hml0
  have hown : s.vm.findClass "java/lang/String" = some m.cls := findClass_of_methodNamed Bd.named
  have hnm := (name_of_methodNamed Bd.named Bd.method).1
  have X0 : Stand p l e ({ frames := 1, cells := 0, slots := 0, locals := 13 } : Room) s m #[(.ref a1)] below meth c s₁ [] 0 0 := Stand.of_body Bd
  have e0 : s₁.heap = h0 := by rw [← hh, Bd.state]; rfl
  have N0 := Fr.nil n0
  refine own_start (Q := Q13 Z a1 va kb wc x0 x1 x2 x3 x4 x5 x6 x7 h0 n0) (own_cast (ef_13 m a1) ?_)
  show Go p.tables e below _ (s₁.setTop (mkF m 0 #[.val (.ref a1)] []))
  refine Go.st (fun U hr => XS.aloadN X0.here hx rfl (hb hby d13_0) rfl rfl hr) ?_
  show Go p.tables e below _ (s₁.setTop (mkF m 1 #[.val (.ref a1)] [(.ref a1)]))
  obtain ⟨T1, X1, e1, st1⟩ := getF X0 hx hZ hown (host := "") (Or.inl (hw _ (List.mem_of_getElem? (i := 38) rfl))) Via.refl e0 F1 (g := (mkF m 1 #[.val (.ref a1)] [(.ref a1)])) rfl rfl (hb hby d13_1)
  refine Go.st st1 ?_
  show Go p.tables e below _ (T1.setTop (mkF m 4 #[.val (.ref a1)] [(.ref va)]))
  obtain ⟨cl2, Ar2, qa2, Sa2, Na2, Ha2, Ga2⟩ := id V1
  refine Go.st (X1.arraylength hx (by rw [e1]; exact Ar2.1) (State.isArrayOf_alike hZ.alike Ar2.2.1) (g := (mkF m 4 #[.val (.ref a1)] [(.ref va)])) rfl rfl (hb hby d13_4)) ?_
  rw [len_of Sa2 Na2]
  show Go p.tables e below _ (T1.setTop (mkF m 5 #[.val (.ref a1)] [(.int (8 : Int32))]))
  refine Go.st (fun U hr => XS.aloadN X1.here hx rfl (hb hby d13_5) rfl rfl hr) ?_
  show Go p.tables e below _ (T1.setTop (mkF m 6 #[.val (.ref a1)] [(.ref a1), (.int (8 : Int32))]))
  obtain ⟨cq3, kq3, q3a, q3b, q3c⟩ := isOf hZ e1 E1
  obtain ⟨_, _, ⟨T3, L3, k3, n3⟩, -, X3, ⟨Lc3, hQ3, l3, y3, z3⟩, st3⟩ := X1.virtualBack hx (y := (⟨"java/lang/String", "coder", "()B"⟩ : MethodName)) (z := (⟨"java/lang/String", "coder", "()B"⟩ : MethodName)) hown (mvT hZ (hw _ (List.mem_of_getElem? (i := 59) rfl))) (mvT hZ (hw _ (List.mem_of_getElem? (i := 60) rfl))) (notFace_of_selects (args := #[]) (mvT hZ (hw _ (List.mem_of_getElem? (i := 62) rfl)))) (mvT hZ (hw _ (List.mem_of_getElem? (i := 62) rfl))) (mvT hZ (hw _ (List.mem_of_getElem? (i := 61) rfl))) (by decide) (backOf (W := 1) (rm14 l Z a0 hw [] a1 va kb wc x0 x1 x2 x3 x4 x5 x6 x7 h0 n0 Z0 E1 F1 F2 V1 S1 hwc) hZ (hw _ (List.mem_of_getElem? (i := 63) rfl)) (hw _ (List.mem_of_getElem? (i := 13) rfl)) (by decide) (by decide)) q3a q3c (g := (mkF m 6 #[.val (.ref a1)] [(.ref a1), (.int (8 : Int32))])) rfl (by rw [hml]; rfl) (Steps.refl _) (argsL := []) (rest := [(.int (8 : Int32))]) (lenOf pd_5 rfl) rfl (by show 2 * 0 + _ ≤ _; exact Nat.le_of_eq rfl) (hb hby d13_6) (fun _ _ => ⟨rfl, e1, (by decide : 0 + 0 ≤ _), (by decide : 0 + 0 ≤ _)⟩)
  dsimp only [Pt.U, Pt.locs, Pt.cells, Pt.slots] at X3 l3 y3 z3 st3 hQ3
  subst l3 y3 z3
  obtain ⟨rfl, Nq3, ee3⟩ := hQ3
  have N3 := Fr.app N0 Nq3
  refine Go.tr st3 ?_
  show Go p.tables e below _ (T3.setTop (mkF m 9 #[.val (.ref a1)] [(.int (0 : Int32)), (.int (8 : Int32))]))
  refine Go.st (fun U hr => XS.ishr X3.here hx rfl (hb hby d13_9) rfl hr) ?_
  show Go p.tables e below _ (T3.setTop (mkF m 10 #[.val (.ref a1)] [(.int ((8 : Int32) >>> ((0 : Int32) &&& 31)))]))
  exact own_retO X3 hx Bd.notSynchronized (t := .int) Bd.returns rfl (Or.inl ⟨rfl, Or.inl rfl, _, rfl⟩) (hb hby d13_10) ⟨congrArg (fun z => some (Value.int z)) (by decide), N3, ee3⟩ (by decide) (by decide)
theorem d16_0 : decode jdk_43_method_4_code 0 = .ok (.iload_n 0, 1) := by decide +kernel
theorem d16_1 : decode jdk_43_method_4_code 1 = .ok (.ifCond .lt 14, 3) := by decide +kernel
theorem d16_4 : decode jdk_43_method_4_code 4 = .ok (.iload_n 0, 1) := by decide +kernel
theorem d16_5 : decode jdk_43_method_4_code 5 = .ok (.sipush 255, 3) := by decide +kernel
theorem d16_8 : decode jdk_43_method_4_code 8 = .ok (.if_icmp .gt 7, 3) := by decide +kernel
theorem d16_11 : decode jdk_43_method_4_code 11 = .ok (.iconst 1, 1) := by decide +kernel
theorem d16_12 : decode jdk_43_method_4_code 12 = .ok (.goto 4, 3) := by decide +kernel
theorem d16_16 : decode jdk_43_method_4_code 16 = .ok (.ireturn, 1) := by decide +kernel
theorem pn_16 : plainFor (⟨"java/lang/StringLatin1", "canEncode", "(I)Z"⟩ : MethodName) = true := plainFor_of_name (by first | (simp [plainName, overriddenIn]; done) | decide +kernel)
theorem ef_16 (m : MethodId) (x0 : Int32) : entryFrame m #[(.int x0)] 1 = mkF m 0 #[.val (.int x0)] [] := by first | (simp [entryFrame, mkF, argsToLocals, Value.category]; done) | rfl
def Q16 (Z : State)   (h0 : Heap) (n0 : Nat) (v : Option Value) (h : Heap) (L : List Loc) : Prop := v = some (.int (1 : Int32)) ∧ Fr n0 L ∧ h = h0
set_option maxRecDepth 65536 in
set_option maxHeartbeats 40000000 in
theorem rm16 (l : Launch) (Z : State) (a0 : Array Value) (hw : ∀ d ∈ tables_1, d.before a0 Z = true) (ws : List Jvm.Cond)   (h0 : Heap) (n0 : Nat) (Z0 : n0 ≤ h0.size) :
    MetFree l (⟨"java/lang/StringLatin1", "canEncode", "(I)Z"⟩ : MethodName) (head1 (Jvm.Cond.code (⟨"java/lang/StringLatin1", "canEncode", "(I)Z"⟩ : MethodName) jdk_43_method_4_code 1 (some .boolean) :: ws) ({ frames := 0, cells := 0, slots := 0, locals := 0 } : Room)) (fun a U => a = #[(.int (46 : Int32))] ∧ Z.Warmed39 U.vm ∧ U.heap = h0) (fun _ _ _ _ _ => True) (fun _ U o U' => ∃ v L, o = .returned v ∧ Q16 Z  h0 n0 v U'.heap L ∧ FrameEnd U o U' L ({ frames := 0, cells := 0, slots := 0, locals := 0 } : Room).cells ({ frames := 0, cells := 0, slots := 0, locals := 0 } : Room).slots) := by
  refine MetFree.of_bodySF pn_16 hisR ?_
  intro p e s m args below meth c s₁ Bd hml0 hP hK
  obtain ⟨rfl, hZ, hh⟩ := hP
  have hx := Bd.exec
  have hby := Bd.bytes
  have hml : c.maxLocals = 1 := hml0
  have hown : s.vm.findClass "java/lang/StringLatin1" = some m.cls := findClass_of_methodNamed Bd.named
  have hnm := (name_of_methodNamed Bd.named Bd.method).1
  have X0 : Stand p l e ({ frames := 0, cells := 0, slots := 0, locals := 0 } : Room) s m #[(.int (46 : Int32))] below meth c s₁ [] 0 0 := Stand.of_body Bd
  have e0 : s₁.heap = h0 := by rw [← hh, Bd.state]; rfl
  have N0 := Fr.nil n0
  refine own_start (Q := Q16 Z  h0 n0) (own_cast (ef_16 m (46 : Int32)) ?_)
  show Go p.tables e below _ (s₁.setTop (mkF m 0 #[.val (.int (46 : Int32))] []))
  refine Go.st (fun U hr => XS.iloadN X0.here hx rfl (hb hby d16_0) rfl hr) ?_
  show Go p.tables e below _ (s₁.setTop (mkF m 1 #[.val (.int (46 : Int32))] [(.int (46 : Int32))]))
  refine Go.st (fun U hr => XS.ifNo X0.here hx rfl (hb hby d16_1) rfl (by decide) hr) ?_
  show Go p.tables e below _ (s₁.setTop (mkF m 4 #[.val (.int (46 : Int32))] []))
  refine Go.st (fun U hr => XS.iloadN X0.here hx rfl (hb hby d16_4) rfl hr) ?_
  show Go p.tables e below _ (s₁.setTop (mkF m 5 #[.val (.int (46 : Int32))] [(.int (46 : Int32))]))
  refine Go.st (fun U hr => XS.sipush X0.here hx rfl (hb hby d16_5) hr) ?_
  show Go p.tables e below _ (s₁.setTop (mkF m 8 #[.val (.int (46 : Int32))] [(.int (255 : Int32)), (.int (46 : Int32))]))
  refine Go.st (fun U hr => XS.icmpNo X0.here hx rfl (hb hby d16_8) rfl (by decide) hr) ?_
  show Go p.tables e below _ (s₁.setTop (mkF m 11 #[.val (.int (46 : Int32))] []))
  refine Go.st (fun U hr => XS.iconst X0.here hx rfl (hb hby d16_11) hr) ?_
  show Go p.tables e below _ (s₁.setTop (mkF m 12 #[.val (.int (46 : Int32))] [(.int (1 : Int32))]))
  refine Go.st (fun U hr => XS.goto X0.here hx rfl (pc0 := 12) (pc' := 16) rfl (hb hby d16_12) (by decide) (by decide) hr) ?_
  show Go p.tables e below _ (s₁.setTop (mkF m 16 #[.val (.int (46 : Int32))] [(.int (1 : Int32))]))
  exact own_retN X0 hx Bd.notSynchronized (t := .boolean) Bd.returns (by simp) (hb hby d16_16) ⟨congrArg (fun z => some (Value.int z)) (by decide), N0, e0⟩ (by decide) (by decide)
theorem d17_0 : decode jdk_29_method_65_code 0 = .ok (.iload_n 0, 1) := by decide +kernel
theorem d17_1 : decode jdk_29_method_65_code 1 = .ok (.iload_n 1, 1) := by decide +kernel
theorem d17_2 : decode jdk_29_method_65_code 2 = .ok (.if_icmp .lt 7, 3) := by decide +kernel
theorem d17_5 : decode jdk_29_method_65_code 5 = .ok (.iload_n 0, 1) := by decide +kernel
theorem d17_6 : decode jdk_29_method_65_code 6 = .ok (.goto 4, 3) := by decide +kernel
theorem d17_10 : decode jdk_29_method_65_code 10 = .ok (.ireturn, 1) := by decide +kernel
theorem pn_17 : plainFor (⟨"java/lang/Math", "max", "(II)I"⟩ : MethodName) = true := by decide +kernel
theorem ef_17 (m : MethodId) (x0 : Int32) (x1 : Int32) : entryFrame m #[(.int x0), (.int x1)] 2 = mkF m 0 #[.val (.int x0), .val (.int x1)] [] := by first | (simp [entryFrame, mkF, argsToLocals, Value.category]; done) | rfl
def Q17 (Z : State)   (h0 : Heap) (n0 : Nat) (v : Option Value) (h : Heap) (L : List Loc) : Prop := v = some (.int (2 : Int32)) ∧ Fr n0 L ∧ h = h0
set_option maxRecDepth 65536 in
set_option maxHeartbeats 40000000 in
theorem rm17 (l : Launch) (Z : State) (a0 : Array Value) (hw : ∀ d ∈ tables_1, d.before a0 Z = true) (ws : List Jvm.Cond)   (h0 : Heap) (n0 : Nat) (Z0 : n0 ≤ h0.size) :
    MetFree l (⟨"java/lang/Math", "max", "(II)I"⟩ : MethodName) (head1 (Jvm.Cond.code (⟨"java/lang/Math", "max", "(II)I"⟩ : MethodName) jdk_29_method_65_code 2 (some .int) :: ws) ({ frames := 0, cells := 0, slots := 0, locals := 0 } : Room)) (fun a U => a = #[(.int (2 : Int32)), (.int (0 : Int32))] ∧ Z.Warmed39 U.vm ∧ U.heap = h0) (fun _ _ _ _ _ => True) (fun _ U o U' => ∃ v L, o = .returned v ∧ Q17 Z  h0 n0 v U'.heap L ∧ FrameEnd U o U' L ({ frames := 0, cells := 0, slots := 0, locals := 0 } : Room).cells ({ frames := 0, cells := 0, slots := 0, locals := 0 } : Room).slots) := by
  refine MetFree.of_bodySF pn_17 hisR ?_
  intro p e s m args below meth c s₁ Bd hml0 hP hK
  obtain ⟨rfl, hZ, hh⟩ := hP
  have hx := Bd.exec
  have hby := Bd.bytes
  have hml : c.maxLocals = 2 := hml0
  have hown : s.vm.findClass "java/lang/Math" = some m.cls := findClass_of_methodNamed Bd.named
  have hnm := (name_of_methodNamed Bd.named Bd.method).1
  have X0 : Stand p l e ({ frames := 0, cells := 0, slots := 0, locals := 0 } : Room) s m #[(.int (2 : Int32)), (.int (0 : Int32))] below meth c s₁ [] 0 0 := Stand.of_body Bd
  have e0 : s₁.heap = h0 := by rw [← hh, Bd.state]; rfl
  have N0 := Fr.nil n0
  refine own_start (Q := Q17 Z  h0 n0) (own_cast (ef_17 m (2 : Int32) (0 : Int32)) ?_)
  show Go p.tables e below _ (s₁.setTop (mkF m 0 #[.val (.int (2 : Int32)), .val (.int (0 : Int32))] []))
  refine Go.st (fun U hr => XS.iloadN X0.here hx rfl (hb hby d17_0) rfl hr) ?_
  show Go p.tables e below _ (s₁.setTop (mkF m 1 #[.val (.int (2 : Int32)), .val (.int (0 : Int32))] [(.int (2 : Int32))]))
  refine Go.st (fun U hr => XS.iloadN X0.here hx rfl (hb hby d17_1) rfl hr) ?_
  show Go p.tables e below _ (s₁.setTop (mkF m 2 #[.val (.int (2 : Int32)), .val (.int (0 : Int32))] [(.int (0 : Int32)), (.int (2 : Int32))]))
  refine Go.st (fun U hr => XS.icmpNo X0.here hx rfl (hb hby d17_2) rfl (by decide) hr) ?_
  show Go p.tables e below _ (s₁.setTop (mkF m 5 #[.val (.int (2 : Int32)), .val (.int (0 : Int32))] []))
  refine Go.st (fun U hr => XS.iloadN X0.here hx rfl (hb hby d17_5) rfl hr) ?_
  show Go p.tables e below _ (s₁.setTop (mkF m 6 #[.val (.int (2 : Int32)), .val (.int (0 : Int32))] [(.int (2 : Int32))]))
  refine Go.st (fun U hr => XS.goto X0.here hx rfl (pc0 := 6) (pc' := 10) rfl (hb hby d17_6) (by decide) (by decide) hr) ?_
  show Go p.tables e below _ (s₁.setTop (mkF m 10 #[.val (.int (2 : Int32)), .val (.int (0 : Int32))] [(.int (2 : Int32))]))
  exact own_retO X0 hx Bd.notSynchronized (t := .int) Bd.returns rfl (Or.inl ⟨rfl, Or.inl rfl, _, rfl⟩) (hb hby d17_10) ⟨congrArg (fun z => some (Value.int z)) (by decide), N0, e0⟩ (by decide) (by decide)
theorem d18_0 : decode jdk_29_method_69_code 0 = .ok (.iload_n 0, 1) := by decide +kernel
theorem d18_1 : decode jdk_29_method_69_code 1 = .ok (.iload_n 1, 1) := by decide +kernel
theorem d18_2 : decode jdk_29_method_69_code 2 = .ok (.if_icmp .gt 7, 3) := by decide +kernel
theorem d18_5 : decode jdk_29_method_69_code 5 = .ok (.iload_n 0, 1) := by decide +kernel
theorem d18_6 : decode jdk_29_method_69_code 6 = .ok (.goto 4, 3) := by decide +kernel
theorem d18_10 : decode jdk_29_method_69_code 10 = .ok (.ireturn, 1) := by decide +kernel
theorem pn_18 : plainFor (⟨"java/lang/Math", "min", "(II)I"⟩ : MethodName) = true := by decide +kernel
theorem ef_18 (m : MethodId) (x0 : Int32) (x1 : Int32) : entryFrame m #[(.int x0), (.int x1)] 2 = mkF m 0 #[.val (.int x0), .val (.int x1)] [] := by first | (simp [entryFrame, mkF, argsToLocals, Value.category]; done) | rfl
def Q18 (Z : State)   (h0 : Heap) (n0 : Nat) (v : Option Value) (h : Heap) (L : List Loc) : Prop := v = some (.int (8 : Int32)) ∧ Fr n0 L ∧ h = h0
set_option maxRecDepth 65536 in
set_option maxHeartbeats 40000000 in
theorem rm18 (l : Launch) (Z : State) (a0 : Array Value) (hw : ∀ d ∈ tables_1, d.before a0 Z = true) (ws : List Jvm.Cond)   (h0 : Heap) (n0 : Nat) (Z0 : n0 ≤ h0.size) :
    MetFree l (⟨"java/lang/Math", "min", "(II)I"⟩ : MethodName) (head1 (Jvm.Cond.code (⟨"java/lang/Math", "min", "(II)I"⟩ : MethodName) jdk_29_method_69_code 2 (some .int) :: ws) ({ frames := 0, cells := 0, slots := 0, locals := 0 } : Room)) (fun a U => a = #[(.int (8 : Int32)), (.int (8 : Int32))] ∧ Z.Warmed39 U.vm ∧ U.heap = h0) (fun _ _ _ _ _ => True) (fun _ U o U' => ∃ v L, o = .returned v ∧ Q18 Z  h0 n0 v U'.heap L ∧ FrameEnd U o U' L ({ frames := 0, cells := 0, slots := 0, locals := 0 } : Room).cells ({ frames := 0, cells := 0, slots := 0, locals := 0 } : Room).slots) := by
  refine MetFree.of_bodySF pn_18 hisR ?_
  intro p e s m args below meth c s₁ Bd hml0 hP hK
  obtain ⟨rfl, hZ, hh⟩ := hP
  have hx := Bd.exec
  have hby := Bd.bytes
  have hml : c.maxLocals = 2 := hml0
  have hown : s.vm.findClass "java/lang/Math" = some m.cls := findClass_of_methodNamed Bd.named
  have hnm := (name_of_methodNamed Bd.named Bd.method).1
  have X0 : Stand p l e ({ frames := 0, cells := 0, slots := 0, locals := 0 } : Room) s m #[(.int (8 : Int32)), (.int (8 : Int32))] below meth c s₁ [] 0 0 := Stand.of_body Bd
  have e0 : s₁.heap = h0 := by rw [← hh, Bd.state]; rfl
  have N0 := Fr.nil n0
  refine own_start (Q := Q18 Z  h0 n0) (own_cast (ef_18 m (8 : Int32) (8 : Int32)) ?_)
  show Go p.tables e below _ (s₁.setTop (mkF m 0 #[.val (.int (8 : Int32)), .val (.int (8 : Int32))] []))
  refine Go.st (fun U hr => XS.iloadN X0.here hx rfl (hb hby d18_0) rfl hr) ?_
  show Go p.tables e below _ (s₁.setTop (mkF m 1 #[.val (.int (8 : Int32)), .val (.int (8 : Int32))] [(.int (8 : Int32))]))
  refine Go.st (fun U hr => XS.iloadN X0.here hx rfl (hb hby d18_1) rfl hr) ?_
  show Go p.tables e below _ (s₁.setTop (mkF m 2 #[.val (.int (8 : Int32)), .val (.int (8 : Int32))] [(.int (8 : Int32)), (.int (8 : Int32))]))
  refine Go.st (fun U hr => XS.icmpNo X0.here hx rfl (hb hby d18_2) rfl (by decide) hr) ?_
  show Go p.tables e below _ (s₁.setTop (mkF m 5 #[.val (.int (8 : Int32)), .val (.int (8 : Int32))] []))
  refine Go.st (fun U hr => XS.iloadN X0.here hx rfl (hb hby d18_5) rfl hr) ?_
  show Go p.tables e below _ (s₁.setTop (mkF m 6 #[.val (.int (8 : Int32)), .val (.int (8 : Int32))] [(.int (8 : Int32))]))
  refine Go.st (fun U hr => XS.goto X0.here hx rfl (pc0 := 6) (pc' := 10) rfl (hb hby d18_6) (by decide) (by decide) hr) ?_
  show Go p.tables e below _ (s₁.setTop (mkF m 10 #[.val (.int (8 : Int32)), .val (.int (8 : Int32))] [(.int (8 : Int32))]))
  exact own_retO X0 hx Bd.notSynchronized (t := .int) Bd.returns rfl (Or.inl ⟨rfl, Or.inl rfl, _, rfl⟩) (hb hby d18_10) ⟨congrArg (fun z => some (Value.int z)) (by decide), N0, e0⟩ (by decide) (by decide)
theorem d19_0 : decode jdk_43_method_23_code 0 = .ok (.iload_n 1, 1) := by decide +kernel
theorem d19_1 : decode jdk_43_method_23_code 1 = .ok (.i2b, 1) := by decide +kernel
theorem d19_2 : decode jdk_43_method_23_code 2 = .ok (.istore 4, 2) := by decide +kernel
theorem d19_4 : decode jdk_43_method_23_code 4 = .ok (.iload_n 2, 1) := by decide +kernel
theorem d19_5 : decode jdk_43_method_23_code 5 = .ok (.istore 5, 2) := by decide +kernel
theorem d19_7 : decode jdk_43_method_23_code 7 = .ok (.iload 5, 2) := by decide +kernel
theorem d19_9 : decode jdk_43_method_23_code 9 = .ok (.iload_n 3, 1) := by decide +kernel
theorem d19_10 : decode jdk_43_method_23_code 10 = .ok (.if_icmp .ge 21, 3) := by decide +kernel
theorem d19_13 : decode jdk_43_method_23_code 13 = .ok (.aload_n 0, 1) := by decide +kernel
theorem d19_14 : decode jdk_43_method_23_code 14 = .ok (.iload 5, 2) := by decide +kernel
theorem d19_16 : decode jdk_43_method_23_code 16 = .ok (.baload, 1) := by decide +kernel
theorem d19_17 : decode jdk_43_method_23_code 17 = .ok (.iload 4, 2) := by decide +kernel
theorem d19_19 : decode jdk_43_method_23_code 19 = .ok (.if_icmp .ne 6, 3) := by decide +kernel
theorem d19_22 : decode jdk_43_method_23_code 22 = .ok (.iload 5, 2) := by decide +kernel
theorem d19_24 : decode jdk_43_method_23_code 24 = .ok (.ireturn, 1) := by decide +kernel
theorem d19_25 : decode jdk_43_method_23_code 25 = .ok (.iinc 5 1, 3) := by decide +kernel
theorem d19_28 : decode jdk_43_method_23_code 28 = .ok (.goto (-21), 3) := by decide +kernel
theorem d19_31 : decode jdk_43_method_23_code 31 = .ok (.iconst (-1), 1) := by decide +kernel
theorem d19_32 : decode jdk_43_method_23_code 32 = .ok (.ireturn, 1) := by decide +kernel
theorem pn_19 : plainFor (⟨"java/lang/StringLatin1", "indexOfChar", "([BIII)I"⟩ : MethodName) = true := plainFor_of_name (by first | (simp [plainName, overriddenIn]; done) | decide +kernel)
theorem ef_19 (m : MethodId) (x0 : Addr) (x1 : Int32) (x2 : Int32) (x3 : Int32) : entryFrame m #[(.ref x0), (.int x1), (.int x2), (.int x3)] 6 = mkF m 0 #[.val (.ref x0), .val (.int x1), .val (.int x2), .val (.int x3), .unset, .unset] [] := by first | (simp [entryFrame, mkF, argsToLocals, Value.category]; done) | rfl
def Q19 (Z : State) (a1 : Addr) (kb : ClassId) (x0 : Int32) (x1 : Int32) (x2 : Int32) (x3 : Int32) (x4 : Int32) (x5 : Int32) (x6 : Int32) (x7 : Int32) (h0 : Heap) (n0 : Nat) (v : Option Value) (h : Heap) (L : List Loc) : Prop := v = some (.int (own_ix x2 x3 x4 x5 x6 x7)) ∧ Fr n0 L ∧ h = h0
set_option maxRecDepth 65536 in
set_option maxHeartbeats 40000000 in
theorem rm19 (l : Launch) (Z : State) (a0 : Array Value) (hw : ∀ d ∈ tables_1, d.before a0 Z = true) (ws : List Jvm.Cond) (a1 : Addr) (kb : ClassId) (x0 : Int32) (x1 : Int32) (x2 : Int32) (x3 : Int32) (x4 : Int32) (x5 : Int32) (x6 : Int32) (x7 : Int32) (h0 : Heap) (n0 : Nat) (Z0 : n0 ≤ h0.size) (V1 : Arv Z h0 a1 kb .byte (8 : Int32) [(.int (own_bb x0)), (.int (own_bb x1)), (.int (own_bb x2)), (.int (own_bb x3)), (.int (own_bb x4)), (.int (own_bb x5)), (.int (own_bb x6)), (.int (own_bb x7))] (.int (0 : Int32))) :
    MetFree l (⟨"java/lang/StringLatin1", "indexOfChar", "([BIII)I"⟩ : MethodName) (head1 (Jvm.Cond.code (⟨"java/lang/StringLatin1", "indexOfChar", "([BIII)I"⟩ : MethodName) jdk_43_method_23_code 6 (some .int) :: ws) ({ frames := 0, cells := 0, slots := 0, locals := 0 } : Room)) (fun a U => a = #[(.ref a1), (.int (46 : Int32)), (.int (2 : Int32)), (.int (8 : Int32))] ∧ Z.Warmed39 U.vm ∧ U.heap = h0) (fun _ _ _ _ _ => True) (fun _ U o U' => ∃ v L, o = .returned v ∧ Q19 Z a1 kb x0 x1 x2 x3 x4 x5 x6 x7 h0 n0 v U'.heap L ∧ FrameEnd U o U' L ({ frames := 0, cells := 0, slots := 0, locals := 0 } : Room).cells ({ frames := 0, cells := 0, slots := 0, locals := 0 } : Room).slots) := by
  refine MetFree.of_bodySF pn_19 hisR ?_
  intro p e s m args below meth c s₁ Bd hml0 hP hK
  obtain ⟨rfl, hZ, hh⟩ := hP
  have hx := Bd.exec
  have hby := Bd.bytes
  have hml : c.maxLocals = 6 := hml0
  have hown : s.vm.findClass "java/lang/StringLatin1" = some m.cls := findClass_of_methodNamed Bd.named
  have hnm := (name_of_methodNamed Bd.named Bd.method).1
  have X0 : Stand p l e ({ frames := 0, cells := 0, slots := 0, locals := 0 } : Room) s m #[(.ref a1), (.int (46 : Int32)), (.int (2 : Int32)), (.int (8 : Int32))] below meth c s₁ [] 0 0 := Stand.of_body Bd
  have e0 : s₁.heap = h0 := by rw [← hh, Bd.state]; rfl
  have N0 := Fr.nil n0
  refine own_start (Q := Q19 Z a1 kb x0 x1 x2 x3 x4 x5 x6 x7 h0 n0) (own_cast (ef_19 m a1 (46 : Int32) (2 : Int32) (8 : Int32)) ?_)
  show Go p.tables e below _ (s₁.setTop (mkF m 0 #[.val (.ref a1), .val (.int (46 : Int32)), .val (.int (2 : Int32)), .val (.int (8 : Int32)), .unset, .unset] []))
  refine Go.st (fun U hr => XS.iloadN X0.here hx rfl (hb hby d19_0) rfl hr) ?_
  show Go p.tables e below _ (s₁.setTop (mkF m 1 #[.val (.ref a1), .val (.int (46 : Int32)), .val (.int (2 : Int32)), .val (.int (8 : Int32)), .unset, .unset] [(.int (46 : Int32))]))
  refine Go.st (fun U hr => XS.i2b X0.here hx rfl (hb hby d19_1) rfl hr) ?_
  show Go p.tables e below _ (s₁.setTop (mkF m 2 #[.val (.ref a1), .val (.int (46 : Int32)), .val (.int (2 : Int32)), .val (.int (8 : Int32)), .unset, .unset] [(.int ((46 : Int32).toInt8.toInt32))]))
  refine Go.st (fun U hr => XS.istore X0.here hx rfl (hb hby d19_2) rfl (l' := #[.val (.ref a1), .val (.int (46 : Int32)), .val (.int (2 : Int32)), .val (.int (8 : Int32)), .val (.int ((46 : Int32).toInt8.toInt32)), .unset]) rfl hr) ?_
  show Go p.tables e below _ (s₁.setTop (mkF m 4 #[.val (.ref a1), .val (.int (46 : Int32)), .val (.int (2 : Int32)), .val (.int (8 : Int32)), .val (.int ((46 : Int32).toInt8.toInt32)), .unset] []))
  refine Go.st (fun U hr => XS.iloadN X0.here hx rfl (hb hby d19_4) rfl hr) ?_
  show Go p.tables e below _ (s₁.setTop (mkF m 5 #[.val (.ref a1), .val (.int (46 : Int32)), .val (.int (2 : Int32)), .val (.int (8 : Int32)), .val (.int ((46 : Int32).toInt8.toInt32)), .unset] [(.int (2 : Int32))]))
  refine Go.st (fun U hr => XS.istore X0.here hx rfl (hb hby d19_5) rfl (l' := #[.val (.ref a1), .val (.int (46 : Int32)), .val (.int (2 : Int32)), .val (.int (8 : Int32)), .val (.int ((46 : Int32).toInt8.toInt32)), .val (.int (2 : Int32))]) rfl hr) ?_
  show Go p.tables e below _ (s₁.setTop (mkF m 7 #[.val (.ref a1), .val (.int (46 : Int32)), .val (.int (2 : Int32)), .val (.int (8 : Int32)), .val (.int ((46 : Int32).toInt8.toInt32)), .val (.int (2 : Int32))] []))
  refine Go.st (fun U hr => XS.iload X0.here hx rfl (hb hby d19_7) rfl hr) ?_
  show Go p.tables e below _ (s₁.setTop (mkF m 9 #[.val (.ref a1), .val (.int (46 : Int32)), .val (.int (2 : Int32)), .val (.int (8 : Int32)), .val (.int ((46 : Int32).toInt8.toInt32)), .val (.int (2 : Int32))] [(.int (2 : Int32))]))
  refine Go.st (fun U hr => XS.iloadN X0.here hx rfl (hb hby d19_9) rfl hr) ?_
  show Go p.tables e below _ (s₁.setTop (mkF m 10 #[.val (.ref a1), .val (.int (46 : Int32)), .val (.int (2 : Int32)), .val (.int (8 : Int32)), .val (.int ((46 : Int32).toInt8.toInt32)), .val (.int (2 : Int32))] [(.int (8 : Int32)), (.int (2 : Int32))]))
  refine Go.st (fun U hr => XS.icmpNo X0.here hx rfl (hb hby d19_10) rfl (by decide) hr) ?_
  show Go p.tables e below _ (s₁.setTop (mkF m 13 #[.val (.ref a1), .val (.int (46 : Int32)), .val (.int (2 : Int32)), .val (.int (8 : Int32)), .val (.int ((46 : Int32).toInt8.toInt32)), .val (.int (2 : Int32))] []))
  refine Go.st (fun U hr => XS.aloadN X0.here hx rfl (hb hby d19_13) rfl rfl hr) ?_
  show Go p.tables e below _ (s₁.setTop (mkF m 14 #[.val (.ref a1), .val (.int (46 : Int32)), .val (.int (2 : Int32)), .val (.int (8 : Int32)), .val (.int ((46 : Int32).toInt8.toInt32)), .val (.int (2 : Int32))] [(.ref a1)]))
  refine Go.st (fun U hr => XS.iload X0.here hx rfl (hb hby d19_14) rfl hr) ?_
  show Go p.tables e below _ (s₁.setTop (mkF m 16 #[.val (.ref a1), .val (.int (46 : Int32)), .val (.int (2 : Int32)), .val (.int (8 : Int32)), .val (.int ((46 : Int32).toInt8.toInt32)), .val (.int (2 : Int32))] [(.int (2 : Int32)), (.ref a1)]))
  obtain ⟨cl1, Ar1, qa1, Sa1, Na1, Ha1, Ga1⟩ := id V1
  have hin1 : ¬ ((2 : Int32) < 0 ∨ cl1.slots.size ≤ ((2 : Int32)).toNatClampNeg) := inb_of Sa1 ⟨by decide, by decide⟩
  refine Go.st (X0.baloadBytes hx (j := (2 : Int32)) (v := (.int (own_bb x2))) (by rw [e0]; exact Ar1.1) (State.isArrayOf_alike hZ.alike Ar1.2.1) Ar1.2.2 hin1 (Ha1.at hin1 rfl) (g := (mkF m 16 #[.val (.ref a1), .val (.int (46 : Int32)), .val (.int (2 : Int32)), .val (.int (8 : Int32)), .val (.int ((46 : Int32).toInt8.toInt32)), .val (.int (2 : Int32))] [(.int (2 : Int32)), (.ref a1)])) rfl rfl (hb hby d19_16)) ?_
  show Go p.tables e below _ (s₁.setTop (mkF m 17 #[.val (.ref a1), .val (.int (46 : Int32)), .val (.int (2 : Int32)), .val (.int (8 : Int32)), .val (.int ((46 : Int32).toInt8.toInt32)), .val (.int (2 : Int32))] [(.int (own_bb x2))]))
  refine Go.st (fun U hr => XS.iload X0.here hx rfl (hb hby d19_17) rfl hr) ?_
  show Go p.tables e below _ (s₁.setTop (mkF m 19 #[.val (.ref a1), .val (.int (46 : Int32)), .val (.int (2 : Int32)), .val (.int (8 : Int32)), .val (.int ((46 : Int32).toInt8.toInt32)), .val (.int (2 : Int32))] [(.int ((46 : Int32).toInt8.toInt32)), (.int (own_bb x2))]))
  by_cases hc19_2 : (own_bb x2) = ((46 : Int32).toInt8.toInt32)
  · refine Go.st (fun U hr => XS.icmpNo X0.here hx rfl (hb hby d19_19) rfl (teq hc19_2).2 hr) ?_
    show Go p.tables e below _ (s₁.setTop (mkF m 22 #[.val (.ref a1), .val (.int (46 : Int32)), .val (.int (2 : Int32)), .val (.int (8 : Int32)), .val (.int ((46 : Int32).toInt8.toInt32)), .val (.int (2 : Int32))] []))
    refine Go.st (fun U hr => XS.iload X0.here hx rfl (hb hby d19_22) rfl hr) ?_
    show Go p.tables e below _ (s₁.setTop (mkF m 24 #[.val (.ref a1), .val (.int (46 : Int32)), .val (.int (2 : Int32)), .val (.int (8 : Int32)), .val (.int ((46 : Int32).toInt8.toInt32)), .val (.int (2 : Int32))] [(.int (2 : Int32))]))
    exact own_retO X0 hx Bd.notSynchronized (t := .int) Bd.returns rfl (Or.inl ⟨rfl, Or.inl rfl, _, rfl⟩) (hb hby d19_24) ⟨by simp only [own_ix, if_pos hc19_2], N0, e0⟩ (by decide) (by decide)
  · refine Go.st (fun U hr => XS.icmpYes X0.here hx rfl (pc0 := 19) (pc' := 25) rfl (hb hby d19_19) rfl (feq hc19_2).2 (by decide) (by decide) hr) ?_
    show Go p.tables e below _ (s₁.setTop (mkF m 25 #[.val (.ref a1), .val (.int (46 : Int32)), .val (.int (2 : Int32)), .val (.int (8 : Int32)), .val (.int ((46 : Int32).toInt8.toInt32)), .val (.int (2 : Int32))] []))
    refine Go.st (fun U hr => XS.iinc X0.here hx rfl (hb hby d19_25) rfl (l' := #[.val (.ref a1), .val (.int (46 : Int32)), .val (.int (2 : Int32)), .val (.int (8 : Int32)), .val (.int ((46 : Int32).toInt8.toInt32)), .val (.int ((2 : Int32) + (1 : Int32)))]) rfl hr) ?_
    show Go p.tables e below _ (s₁.setTop (mkF m 28 #[.val (.ref a1), .val (.int (46 : Int32)), .val (.int (2 : Int32)), .val (.int (8 : Int32)), .val (.int ((46 : Int32).toInt8.toInt32)), .val (.int ((2 : Int32) + (1 : Int32)))] []))
    refine Go.st (fun U hr => XS.goto X0.here hx rfl (pc0 := 28) (pc' := 7) rfl (hb hby d19_28) (by decide) (by decide) hr) ?_
    show Go p.tables e below _ (s₁.setTop (mkF m 7 #[.val (.ref a1), .val (.int (46 : Int32)), .val (.int (2 : Int32)), .val (.int (8 : Int32)), .val (.int ((46 : Int32).toInt8.toInt32)), .val (.int ((2 : Int32) + (1 : Int32)))] []))
    rw [show ((2 : Int32) + (1 : Int32)) = (3 : Int32) from by decide]
    show Go p.tables e below _ (s₁.setTop (mkF m 7 #[.val (.ref a1), .val (.int (46 : Int32)), .val (.int (2 : Int32)), .val (.int (8 : Int32)), .val (.int ((46 : Int32).toInt8.toInt32)), .val (.int (3 : Int32))] []))
    refine Go.st (fun U hr => XS.iload X0.here hx rfl (hb hby d19_7) rfl hr) ?_
    show Go p.tables e below _ (s₁.setTop (mkF m 9 #[.val (.ref a1), .val (.int (46 : Int32)), .val (.int (2 : Int32)), .val (.int (8 : Int32)), .val (.int ((46 : Int32).toInt8.toInt32)), .val (.int (3 : Int32))] [(.int (3 : Int32))]))
    refine Go.st (fun U hr => XS.iloadN X0.here hx rfl (hb hby d19_9) rfl hr) ?_
    show Go p.tables e below _ (s₁.setTop (mkF m 10 #[.val (.ref a1), .val (.int (46 : Int32)), .val (.int (2 : Int32)), .val (.int (8 : Int32)), .val (.int ((46 : Int32).toInt8.toInt32)), .val (.int (3 : Int32))] [(.int (8 : Int32)), (.int (3 : Int32))]))
    refine Go.st (fun U hr => XS.icmpNo X0.here hx rfl (hb hby d19_10) rfl (by decide) hr) ?_
    show Go p.tables e below _ (s₁.setTop (mkF m 13 #[.val (.ref a1), .val (.int (46 : Int32)), .val (.int (2 : Int32)), .val (.int (8 : Int32)), .val (.int ((46 : Int32).toInt8.toInt32)), .val (.int (3 : Int32))] []))
    refine Go.st (fun U hr => XS.aloadN X0.here hx rfl (hb hby d19_13) rfl rfl hr) ?_
    show Go p.tables e below _ (s₁.setTop (mkF m 14 #[.val (.ref a1), .val (.int (46 : Int32)), .val (.int (2 : Int32)), .val (.int (8 : Int32)), .val (.int ((46 : Int32).toInt8.toInt32)), .val (.int (3 : Int32))] [(.ref a1)]))
    refine Go.st (fun U hr => XS.iload X0.here hx rfl (hb hby d19_14) rfl hr) ?_
    show Go p.tables e below _ (s₁.setTop (mkF m 16 #[.val (.ref a1), .val (.int (46 : Int32)), .val (.int (2 : Int32)), .val (.int (8 : Int32)), .val (.int ((46 : Int32).toInt8.toInt32)), .val (.int (3 : Int32))] [(.int (3 : Int32)), (.ref a1)]))
    obtain ⟨cl3, Ar3, qa3, Sa3, Na3, Ha3, Ga3⟩ := id V1
    have hin3 : ¬ ((3 : Int32) < 0 ∨ cl3.slots.size ≤ ((3 : Int32)).toNatClampNeg) := inb_of Sa3 ⟨by decide, by decide⟩
    refine Go.st (X0.baloadBytes hx (j := (3 : Int32)) (v := (.int (own_bb x3))) (by rw [e0]; exact Ar3.1) (State.isArrayOf_alike hZ.alike Ar3.2.1) Ar3.2.2 hin3 (Ha3.at hin3 rfl) (g := (mkF m 16 #[.val (.ref a1), .val (.int (46 : Int32)), .val (.int (2 : Int32)), .val (.int (8 : Int32)), .val (.int ((46 : Int32).toInt8.toInt32)), .val (.int (3 : Int32))] [(.int (3 : Int32)), (.ref a1)])) rfl rfl (hb hby d19_16)) ?_
    show Go p.tables e below _ (s₁.setTop (mkF m 17 #[.val (.ref a1), .val (.int (46 : Int32)), .val (.int (2 : Int32)), .val (.int (8 : Int32)), .val (.int ((46 : Int32).toInt8.toInt32)), .val (.int (3 : Int32))] [(.int (own_bb x3))]))
    refine Go.st (fun U hr => XS.iload X0.here hx rfl (hb hby d19_17) rfl hr) ?_
    show Go p.tables e below _ (s₁.setTop (mkF m 19 #[.val (.ref a1), .val (.int (46 : Int32)), .val (.int (2 : Int32)), .val (.int (8 : Int32)), .val (.int ((46 : Int32).toInt8.toInt32)), .val (.int (3 : Int32))] [(.int ((46 : Int32).toInt8.toInt32)), (.int (own_bb x3))]))
    by_cases hc19_4 : (own_bb x3) = ((46 : Int32).toInt8.toInt32)
    · refine Go.st (fun U hr => XS.icmpNo X0.here hx rfl (hb hby d19_19) rfl (teq hc19_4).2 hr) ?_
      show Go p.tables e below _ (s₁.setTop (mkF m 22 #[.val (.ref a1), .val (.int (46 : Int32)), .val (.int (2 : Int32)), .val (.int (8 : Int32)), .val (.int ((46 : Int32).toInt8.toInt32)), .val (.int (3 : Int32))] []))
      refine Go.st (fun U hr => XS.iload X0.here hx rfl (hb hby d19_22) rfl hr) ?_
      show Go p.tables e below _ (s₁.setTop (mkF m 24 #[.val (.ref a1), .val (.int (46 : Int32)), .val (.int (2 : Int32)), .val (.int (8 : Int32)), .val (.int ((46 : Int32).toInt8.toInt32)), .val (.int (3 : Int32))] [(.int (3 : Int32))]))
      exact own_retO X0 hx Bd.notSynchronized (t := .int) Bd.returns rfl (Or.inl ⟨rfl, Or.inl rfl, _, rfl⟩) (hb hby d19_24) ⟨by simp only [own_ix, if_neg hc19_2, if_pos hc19_4], N0, e0⟩ (by decide) (by decide)
    · refine Go.st (fun U hr => XS.icmpYes X0.here hx rfl (pc0 := 19) (pc' := 25) rfl (hb hby d19_19) rfl (feq hc19_4).2 (by decide) (by decide) hr) ?_
      show Go p.tables e below _ (s₁.setTop (mkF m 25 #[.val (.ref a1), .val (.int (46 : Int32)), .val (.int (2 : Int32)), .val (.int (8 : Int32)), .val (.int ((46 : Int32).toInt8.toInt32)), .val (.int (3 : Int32))] []))
      refine Go.st (fun U hr => XS.iinc X0.here hx rfl (hb hby d19_25) rfl (l' := #[.val (.ref a1), .val (.int (46 : Int32)), .val (.int (2 : Int32)), .val (.int (8 : Int32)), .val (.int ((46 : Int32).toInt8.toInt32)), .val (.int ((3 : Int32) + (1 : Int32)))]) rfl hr) ?_
      show Go p.tables e below _ (s₁.setTop (mkF m 28 #[.val (.ref a1), .val (.int (46 : Int32)), .val (.int (2 : Int32)), .val (.int (8 : Int32)), .val (.int ((46 : Int32).toInt8.toInt32)), .val (.int ((3 : Int32) + (1 : Int32)))] []))
      refine Go.st (fun U hr => XS.goto X0.here hx rfl (pc0 := 28) (pc' := 7) rfl (hb hby d19_28) (by decide) (by decide) hr) ?_
      show Go p.tables e below _ (s₁.setTop (mkF m 7 #[.val (.ref a1), .val (.int (46 : Int32)), .val (.int (2 : Int32)), .val (.int (8 : Int32)), .val (.int ((46 : Int32).toInt8.toInt32)), .val (.int ((3 : Int32) + (1 : Int32)))] []))
      rw [show ((3 : Int32) + (1 : Int32)) = (4 : Int32) from by decide]
      show Go p.tables e below _ (s₁.setTop (mkF m 7 #[.val (.ref a1), .val (.int (46 : Int32)), .val (.int (2 : Int32)), .val (.int (8 : Int32)), .val (.int ((46 : Int32).toInt8.toInt32)), .val (.int (4 : Int32))] []))
      refine Go.st (fun U hr => XS.iload X0.here hx rfl (hb hby d19_7) rfl hr) ?_
      show Go p.tables e below _ (s₁.setTop (mkF m 9 #[.val (.ref a1), .val (.int (46 : Int32)), .val (.int (2 : Int32)), .val (.int (8 : Int32)), .val (.int ((46 : Int32).toInt8.toInt32)), .val (.int (4 : Int32))] [(.int (4 : Int32))]))
      refine Go.st (fun U hr => XS.iloadN X0.here hx rfl (hb hby d19_9) rfl hr) ?_
      show Go p.tables e below _ (s₁.setTop (mkF m 10 #[.val (.ref a1), .val (.int (46 : Int32)), .val (.int (2 : Int32)), .val (.int (8 : Int32)), .val (.int ((46 : Int32).toInt8.toInt32)), .val (.int (4 : Int32))] [(.int (8 : Int32)), (.int (4 : Int32))]))
      refine Go.st (fun U hr => XS.icmpNo X0.here hx rfl (hb hby d19_10) rfl (by decide) hr) ?_
      show Go p.tables e below _ (s₁.setTop (mkF m 13 #[.val (.ref a1), .val (.int (46 : Int32)), .val (.int (2 : Int32)), .val (.int (8 : Int32)), .val (.int ((46 : Int32).toInt8.toInt32)), .val (.int (4 : Int32))] []))
      refine Go.st (fun U hr => XS.aloadN X0.here hx rfl (hb hby d19_13) rfl rfl hr) ?_
      show Go p.tables e below _ (s₁.setTop (mkF m 14 #[.val (.ref a1), .val (.int (46 : Int32)), .val (.int (2 : Int32)), .val (.int (8 : Int32)), .val (.int ((46 : Int32).toInt8.toInt32)), .val (.int (4 : Int32))] [(.ref a1)]))
      refine Go.st (fun U hr => XS.iload X0.here hx rfl (hb hby d19_14) rfl hr) ?_
      show Go p.tables e below _ (s₁.setTop (mkF m 16 #[.val (.ref a1), .val (.int (46 : Int32)), .val (.int (2 : Int32)), .val (.int (8 : Int32)), .val (.int ((46 : Int32).toInt8.toInt32)), .val (.int (4 : Int32))] [(.int (4 : Int32)), (.ref a1)]))
      obtain ⟨cl5, Ar5, qa5, Sa5, Na5, Ha5, Ga5⟩ := id V1
      have hin5 : ¬ ((4 : Int32) < 0 ∨ cl5.slots.size ≤ ((4 : Int32)).toNatClampNeg) := inb_of Sa5 ⟨by decide, by decide⟩
      refine Go.st (X0.baloadBytes hx (j := (4 : Int32)) (v := (.int (own_bb x4))) (by rw [e0]; exact Ar5.1) (State.isArrayOf_alike hZ.alike Ar5.2.1) Ar5.2.2 hin5 (Ha5.at hin5 rfl) (g := (mkF m 16 #[.val (.ref a1), .val (.int (46 : Int32)), .val (.int (2 : Int32)), .val (.int (8 : Int32)), .val (.int ((46 : Int32).toInt8.toInt32)), .val (.int (4 : Int32))] [(.int (4 : Int32)), (.ref a1)])) rfl rfl (hb hby d19_16)) ?_
      show Go p.tables e below _ (s₁.setTop (mkF m 17 #[.val (.ref a1), .val (.int (46 : Int32)), .val (.int (2 : Int32)), .val (.int (8 : Int32)), .val (.int ((46 : Int32).toInt8.toInt32)), .val (.int (4 : Int32))] [(.int (own_bb x4))]))
      refine Go.st (fun U hr => XS.iload X0.here hx rfl (hb hby d19_17) rfl hr) ?_
      show Go p.tables e below _ (s₁.setTop (mkF m 19 #[.val (.ref a1), .val (.int (46 : Int32)), .val (.int (2 : Int32)), .val (.int (8 : Int32)), .val (.int ((46 : Int32).toInt8.toInt32)), .val (.int (4 : Int32))] [(.int ((46 : Int32).toInt8.toInt32)), (.int (own_bb x4))]))
      by_cases hc19_6 : (own_bb x4) = ((46 : Int32).toInt8.toInt32)
      · refine Go.st (fun U hr => XS.icmpNo X0.here hx rfl (hb hby d19_19) rfl (teq hc19_6).2 hr) ?_
        show Go p.tables e below _ (s₁.setTop (mkF m 22 #[.val (.ref a1), .val (.int (46 : Int32)), .val (.int (2 : Int32)), .val (.int (8 : Int32)), .val (.int ((46 : Int32).toInt8.toInt32)), .val (.int (4 : Int32))] []))
        refine Go.st (fun U hr => XS.iload X0.here hx rfl (hb hby d19_22) rfl hr) ?_
        show Go p.tables e below _ (s₁.setTop (mkF m 24 #[.val (.ref a1), .val (.int (46 : Int32)), .val (.int (2 : Int32)), .val (.int (8 : Int32)), .val (.int ((46 : Int32).toInt8.toInt32)), .val (.int (4 : Int32))] [(.int (4 : Int32))]))
        exact own_retO X0 hx Bd.notSynchronized (t := .int) Bd.returns rfl (Or.inl ⟨rfl, Or.inl rfl, _, rfl⟩) (hb hby d19_24) ⟨by simp only [own_ix, if_neg hc19_2, if_neg hc19_4, if_pos hc19_6], N0, e0⟩ (by decide) (by decide)
      · refine Go.st (fun U hr => XS.icmpYes X0.here hx rfl (pc0 := 19) (pc' := 25) rfl (hb hby d19_19) rfl (feq hc19_6).2 (by decide) (by decide) hr) ?_
        show Go p.tables e below _ (s₁.setTop (mkF m 25 #[.val (.ref a1), .val (.int (46 : Int32)), .val (.int (2 : Int32)), .val (.int (8 : Int32)), .val (.int ((46 : Int32).toInt8.toInt32)), .val (.int (4 : Int32))] []))
        refine Go.st (fun U hr => XS.iinc X0.here hx rfl (hb hby d19_25) rfl (l' := #[.val (.ref a1), .val (.int (46 : Int32)), .val (.int (2 : Int32)), .val (.int (8 : Int32)), .val (.int ((46 : Int32).toInt8.toInt32)), .val (.int ((4 : Int32) + (1 : Int32)))]) rfl hr) ?_
        show Go p.tables e below _ (s₁.setTop (mkF m 28 #[.val (.ref a1), .val (.int (46 : Int32)), .val (.int (2 : Int32)), .val (.int (8 : Int32)), .val (.int ((46 : Int32).toInt8.toInt32)), .val (.int ((4 : Int32) + (1 : Int32)))] []))
        refine Go.st (fun U hr => XS.goto X0.here hx rfl (pc0 := 28) (pc' := 7) rfl (hb hby d19_28) (by decide) (by decide) hr) ?_
        show Go p.tables e below _ (s₁.setTop (mkF m 7 #[.val (.ref a1), .val (.int (46 : Int32)), .val (.int (2 : Int32)), .val (.int (8 : Int32)), .val (.int ((46 : Int32).toInt8.toInt32)), .val (.int ((4 : Int32) + (1 : Int32)))] []))
        rw [show ((4 : Int32) + (1 : Int32)) = (5 : Int32) from by decide]
        show Go p.tables e below _ (s₁.setTop (mkF m 7 #[.val (.ref a1), .val (.int (46 : Int32)), .val (.int (2 : Int32)), .val (.int (8 : Int32)), .val (.int ((46 : Int32).toInt8.toInt32)), .val (.int (5 : Int32))] []))
        refine Go.st (fun U hr => XS.iload X0.here hx rfl (hb hby d19_7) rfl hr) ?_
        show Go p.tables e below _ (s₁.setTop (mkF m 9 #[.val (.ref a1), .val (.int (46 : Int32)), .val (.int (2 : Int32)), .val (.int (8 : Int32)), .val (.int ((46 : Int32).toInt8.toInt32)), .val (.int (5 : Int32))] [(.int (5 : Int32))]))
        refine Go.st (fun U hr => XS.iloadN X0.here hx rfl (hb hby d19_9) rfl hr) ?_
        show Go p.tables e below _ (s₁.setTop (mkF m 10 #[.val (.ref a1), .val (.int (46 : Int32)), .val (.int (2 : Int32)), .val (.int (8 : Int32)), .val (.int ((46 : Int32).toInt8.toInt32)), .val (.int (5 : Int32))] [(.int (8 : Int32)), (.int (5 : Int32))]))
        refine Go.st (fun U hr => XS.icmpNo X0.here hx rfl (hb hby d19_10) rfl (by decide) hr) ?_
        show Go p.tables e below _ (s₁.setTop (mkF m 13 #[.val (.ref a1), .val (.int (46 : Int32)), .val (.int (2 : Int32)), .val (.int (8 : Int32)), .val (.int ((46 : Int32).toInt8.toInt32)), .val (.int (5 : Int32))] []))
        refine Go.st (fun U hr => XS.aloadN X0.here hx rfl (hb hby d19_13) rfl rfl hr) ?_
        show Go p.tables e below _ (s₁.setTop (mkF m 14 #[.val (.ref a1), .val (.int (46 : Int32)), .val (.int (2 : Int32)), .val (.int (8 : Int32)), .val (.int ((46 : Int32).toInt8.toInt32)), .val (.int (5 : Int32))] [(.ref a1)]))
        refine Go.st (fun U hr => XS.iload X0.here hx rfl (hb hby d19_14) rfl hr) ?_
        show Go p.tables e below _ (s₁.setTop (mkF m 16 #[.val (.ref a1), .val (.int (46 : Int32)), .val (.int (2 : Int32)), .val (.int (8 : Int32)), .val (.int ((46 : Int32).toInt8.toInt32)), .val (.int (5 : Int32))] [(.int (5 : Int32)), (.ref a1)]))
        obtain ⟨cl7, Ar7, qa7, Sa7, Na7, Ha7, Ga7⟩ := id V1
        have hin7 : ¬ ((5 : Int32) < 0 ∨ cl7.slots.size ≤ ((5 : Int32)).toNatClampNeg) := inb_of Sa7 ⟨by decide, by decide⟩
        refine Go.st (X0.baloadBytes hx (j := (5 : Int32)) (v := (.int (own_bb x5))) (by rw [e0]; exact Ar7.1) (State.isArrayOf_alike hZ.alike Ar7.2.1) Ar7.2.2 hin7 (Ha7.at hin7 rfl) (g := (mkF m 16 #[.val (.ref a1), .val (.int (46 : Int32)), .val (.int (2 : Int32)), .val (.int (8 : Int32)), .val (.int ((46 : Int32).toInt8.toInt32)), .val (.int (5 : Int32))] [(.int (5 : Int32)), (.ref a1)])) rfl rfl (hb hby d19_16)) ?_
        show Go p.tables e below _ (s₁.setTop (mkF m 17 #[.val (.ref a1), .val (.int (46 : Int32)), .val (.int (2 : Int32)), .val (.int (8 : Int32)), .val (.int ((46 : Int32).toInt8.toInt32)), .val (.int (5 : Int32))] [(.int (own_bb x5))]))
        refine Go.st (fun U hr => XS.iload X0.here hx rfl (hb hby d19_17) rfl hr) ?_
        show Go p.tables e below _ (s₁.setTop (mkF m 19 #[.val (.ref a1), .val (.int (46 : Int32)), .val (.int (2 : Int32)), .val (.int (8 : Int32)), .val (.int ((46 : Int32).toInt8.toInt32)), .val (.int (5 : Int32))] [(.int ((46 : Int32).toInt8.toInt32)), (.int (own_bb x5))]))
        by_cases hc19_8 : (own_bb x5) = ((46 : Int32).toInt8.toInt32)
        · refine Go.st (fun U hr => XS.icmpNo X0.here hx rfl (hb hby d19_19) rfl (teq hc19_8).2 hr) ?_
          show Go p.tables e below _ (s₁.setTop (mkF m 22 #[.val (.ref a1), .val (.int (46 : Int32)), .val (.int (2 : Int32)), .val (.int (8 : Int32)), .val (.int ((46 : Int32).toInt8.toInt32)), .val (.int (5 : Int32))] []))
          refine Go.st (fun U hr => XS.iload X0.here hx rfl (hb hby d19_22) rfl hr) ?_
          show Go p.tables e below _ (s₁.setTop (mkF m 24 #[.val (.ref a1), .val (.int (46 : Int32)), .val (.int (2 : Int32)), .val (.int (8 : Int32)), .val (.int ((46 : Int32).toInt8.toInt32)), .val (.int (5 : Int32))] [(.int (5 : Int32))]))
          exact own_retO X0 hx Bd.notSynchronized (t := .int) Bd.returns rfl (Or.inl ⟨rfl, Or.inl rfl, _, rfl⟩) (hb hby d19_24) ⟨by simp only [own_ix, if_neg hc19_2, if_neg hc19_4, if_neg hc19_6, if_pos hc19_8], N0, e0⟩ (by decide) (by decide)
        · refine Go.st (fun U hr => XS.icmpYes X0.here hx rfl (pc0 := 19) (pc' := 25) rfl (hb hby d19_19) rfl (feq hc19_8).2 (by decide) (by decide) hr) ?_
          show Go p.tables e below _ (s₁.setTop (mkF m 25 #[.val (.ref a1), .val (.int (46 : Int32)), .val (.int (2 : Int32)), .val (.int (8 : Int32)), .val (.int ((46 : Int32).toInt8.toInt32)), .val (.int (5 : Int32))] []))
          refine Go.st (fun U hr => XS.iinc X0.here hx rfl (hb hby d19_25) rfl (l' := #[.val (.ref a1), .val (.int (46 : Int32)), .val (.int (2 : Int32)), .val (.int (8 : Int32)), .val (.int ((46 : Int32).toInt8.toInt32)), .val (.int ((5 : Int32) + (1 : Int32)))]) rfl hr) ?_
          show Go p.tables e below _ (s₁.setTop (mkF m 28 #[.val (.ref a1), .val (.int (46 : Int32)), .val (.int (2 : Int32)), .val (.int (8 : Int32)), .val (.int ((46 : Int32).toInt8.toInt32)), .val (.int ((5 : Int32) + (1 : Int32)))] []))
          refine Go.st (fun U hr => XS.goto X0.here hx rfl (pc0 := 28) (pc' := 7) rfl (hb hby d19_28) (by decide) (by decide) hr) ?_
          show Go p.tables e below _ (s₁.setTop (mkF m 7 #[.val (.ref a1), .val (.int (46 : Int32)), .val (.int (2 : Int32)), .val (.int (8 : Int32)), .val (.int ((46 : Int32).toInt8.toInt32)), .val (.int ((5 : Int32) + (1 : Int32)))] []))
          rw [show ((5 : Int32) + (1 : Int32)) = (6 : Int32) from by decide]
          show Go p.tables e below _ (s₁.setTop (mkF m 7 #[.val (.ref a1), .val (.int (46 : Int32)), .val (.int (2 : Int32)), .val (.int (8 : Int32)), .val (.int ((46 : Int32).toInt8.toInt32)), .val (.int (6 : Int32))] []))
          refine Go.st (fun U hr => XS.iload X0.here hx rfl (hb hby d19_7) rfl hr) ?_
          show Go p.tables e below _ (s₁.setTop (mkF m 9 #[.val (.ref a1), .val (.int (46 : Int32)), .val (.int (2 : Int32)), .val (.int (8 : Int32)), .val (.int ((46 : Int32).toInt8.toInt32)), .val (.int (6 : Int32))] [(.int (6 : Int32))]))
          refine Go.st (fun U hr => XS.iloadN X0.here hx rfl (hb hby d19_9) rfl hr) ?_
          show Go p.tables e below _ (s₁.setTop (mkF m 10 #[.val (.ref a1), .val (.int (46 : Int32)), .val (.int (2 : Int32)), .val (.int (8 : Int32)), .val (.int ((46 : Int32).toInt8.toInt32)), .val (.int (6 : Int32))] [(.int (8 : Int32)), (.int (6 : Int32))]))
          refine Go.st (fun U hr => XS.icmpNo X0.here hx rfl (hb hby d19_10) rfl (by decide) hr) ?_
          show Go p.tables e below _ (s₁.setTop (mkF m 13 #[.val (.ref a1), .val (.int (46 : Int32)), .val (.int (2 : Int32)), .val (.int (8 : Int32)), .val (.int ((46 : Int32).toInt8.toInt32)), .val (.int (6 : Int32))] []))
          refine Go.st (fun U hr => XS.aloadN X0.here hx rfl (hb hby d19_13) rfl rfl hr) ?_
          show Go p.tables e below _ (s₁.setTop (mkF m 14 #[.val (.ref a1), .val (.int (46 : Int32)), .val (.int (2 : Int32)), .val (.int (8 : Int32)), .val (.int ((46 : Int32).toInt8.toInt32)), .val (.int (6 : Int32))] [(.ref a1)]))
          refine Go.st (fun U hr => XS.iload X0.here hx rfl (hb hby d19_14) rfl hr) ?_
          show Go p.tables e below _ (s₁.setTop (mkF m 16 #[.val (.ref a1), .val (.int (46 : Int32)), .val (.int (2 : Int32)), .val (.int (8 : Int32)), .val (.int ((46 : Int32).toInt8.toInt32)), .val (.int (6 : Int32))] [(.int (6 : Int32)), (.ref a1)]))
          obtain ⟨cl9, Ar9, qa9, Sa9, Na9, Ha9, Ga9⟩ := id V1
          have hin9 : ¬ ((6 : Int32) < 0 ∨ cl9.slots.size ≤ ((6 : Int32)).toNatClampNeg) := inb_of Sa9 ⟨by decide, by decide⟩
          refine Go.st (X0.baloadBytes hx (j := (6 : Int32)) (v := (.int (own_bb x6))) (by rw [e0]; exact Ar9.1) (State.isArrayOf_alike hZ.alike Ar9.2.1) Ar9.2.2 hin9 (Ha9.at hin9 rfl) (g := (mkF m 16 #[.val (.ref a1), .val (.int (46 : Int32)), .val (.int (2 : Int32)), .val (.int (8 : Int32)), .val (.int ((46 : Int32).toInt8.toInt32)), .val (.int (6 : Int32))] [(.int (6 : Int32)), (.ref a1)])) rfl rfl (hb hby d19_16)) ?_
          show Go p.tables e below _ (s₁.setTop (mkF m 17 #[.val (.ref a1), .val (.int (46 : Int32)), .val (.int (2 : Int32)), .val (.int (8 : Int32)), .val (.int ((46 : Int32).toInt8.toInt32)), .val (.int (6 : Int32))] [(.int (own_bb x6))]))
          refine Go.st (fun U hr => XS.iload X0.here hx rfl (hb hby d19_17) rfl hr) ?_
          show Go p.tables e below _ (s₁.setTop (mkF m 19 #[.val (.ref a1), .val (.int (46 : Int32)), .val (.int (2 : Int32)), .val (.int (8 : Int32)), .val (.int ((46 : Int32).toInt8.toInt32)), .val (.int (6 : Int32))] [(.int ((46 : Int32).toInt8.toInt32)), (.int (own_bb x6))]))
          by_cases hc19_10 : (own_bb x6) = ((46 : Int32).toInt8.toInt32)
          · refine Go.st (fun U hr => XS.icmpNo X0.here hx rfl (hb hby d19_19) rfl (teq hc19_10).2 hr) ?_
            show Go p.tables e below _ (s₁.setTop (mkF m 22 #[.val (.ref a1), .val (.int (46 : Int32)), .val (.int (2 : Int32)), .val (.int (8 : Int32)), .val (.int ((46 : Int32).toInt8.toInt32)), .val (.int (6 : Int32))] []))
            refine Go.st (fun U hr => XS.iload X0.here hx rfl (hb hby d19_22) rfl hr) ?_
            show Go p.tables e below _ (s₁.setTop (mkF m 24 #[.val (.ref a1), .val (.int (46 : Int32)), .val (.int (2 : Int32)), .val (.int (8 : Int32)), .val (.int ((46 : Int32).toInt8.toInt32)), .val (.int (6 : Int32))] [(.int (6 : Int32))]))
            exact own_retO X0 hx Bd.notSynchronized (t := .int) Bd.returns rfl (Or.inl ⟨rfl, Or.inl rfl, _, rfl⟩) (hb hby d19_24) ⟨by simp only [own_ix, if_neg hc19_2, if_neg hc19_4, if_neg hc19_6, if_neg hc19_8, if_pos hc19_10], N0, e0⟩ (by decide) (by decide)
          · refine Go.st (fun U hr => XS.icmpYes X0.here hx rfl (pc0 := 19) (pc' := 25) rfl (hb hby d19_19) rfl (feq hc19_10).2 (by decide) (by decide) hr) ?_
            show Go p.tables e below _ (s₁.setTop (mkF m 25 #[.val (.ref a1), .val (.int (46 : Int32)), .val (.int (2 : Int32)), .val (.int (8 : Int32)), .val (.int ((46 : Int32).toInt8.toInt32)), .val (.int (6 : Int32))] []))
            refine Go.st (fun U hr => XS.iinc X0.here hx rfl (hb hby d19_25) rfl (l' := #[.val (.ref a1), .val (.int (46 : Int32)), .val (.int (2 : Int32)), .val (.int (8 : Int32)), .val (.int ((46 : Int32).toInt8.toInt32)), .val (.int ((6 : Int32) + (1 : Int32)))]) rfl hr) ?_
            show Go p.tables e below _ (s₁.setTop (mkF m 28 #[.val (.ref a1), .val (.int (46 : Int32)), .val (.int (2 : Int32)), .val (.int (8 : Int32)), .val (.int ((46 : Int32).toInt8.toInt32)), .val (.int ((6 : Int32) + (1 : Int32)))] []))
            refine Go.st (fun U hr => XS.goto X0.here hx rfl (pc0 := 28) (pc' := 7) rfl (hb hby d19_28) (by decide) (by decide) hr) ?_
            show Go p.tables e below _ (s₁.setTop (mkF m 7 #[.val (.ref a1), .val (.int (46 : Int32)), .val (.int (2 : Int32)), .val (.int (8 : Int32)), .val (.int ((46 : Int32).toInt8.toInt32)), .val (.int ((6 : Int32) + (1 : Int32)))] []))
            rw [show ((6 : Int32) + (1 : Int32)) = (7 : Int32) from by decide]
            show Go p.tables e below _ (s₁.setTop (mkF m 7 #[.val (.ref a1), .val (.int (46 : Int32)), .val (.int (2 : Int32)), .val (.int (8 : Int32)), .val (.int ((46 : Int32).toInt8.toInt32)), .val (.int (7 : Int32))] []))
            refine Go.st (fun U hr => XS.iload X0.here hx rfl (hb hby d19_7) rfl hr) ?_
            show Go p.tables e below _ (s₁.setTop (mkF m 9 #[.val (.ref a1), .val (.int (46 : Int32)), .val (.int (2 : Int32)), .val (.int (8 : Int32)), .val (.int ((46 : Int32).toInt8.toInt32)), .val (.int (7 : Int32))] [(.int (7 : Int32))]))
            refine Go.st (fun U hr => XS.iloadN X0.here hx rfl (hb hby d19_9) rfl hr) ?_
            show Go p.tables e below _ (s₁.setTop (mkF m 10 #[.val (.ref a1), .val (.int (46 : Int32)), .val (.int (2 : Int32)), .val (.int (8 : Int32)), .val (.int ((46 : Int32).toInt8.toInt32)), .val (.int (7 : Int32))] [(.int (8 : Int32)), (.int (7 : Int32))]))
            refine Go.st (fun U hr => XS.icmpNo X0.here hx rfl (hb hby d19_10) rfl (by decide) hr) ?_
            show Go p.tables e below _ (s₁.setTop (mkF m 13 #[.val (.ref a1), .val (.int (46 : Int32)), .val (.int (2 : Int32)), .val (.int (8 : Int32)), .val (.int ((46 : Int32).toInt8.toInt32)), .val (.int (7 : Int32))] []))
            refine Go.st (fun U hr => XS.aloadN X0.here hx rfl (hb hby d19_13) rfl rfl hr) ?_
            show Go p.tables e below _ (s₁.setTop (mkF m 14 #[.val (.ref a1), .val (.int (46 : Int32)), .val (.int (2 : Int32)), .val (.int (8 : Int32)), .val (.int ((46 : Int32).toInt8.toInt32)), .val (.int (7 : Int32))] [(.ref a1)]))
            refine Go.st (fun U hr => XS.iload X0.here hx rfl (hb hby d19_14) rfl hr) ?_
            show Go p.tables e below _ (s₁.setTop (mkF m 16 #[.val (.ref a1), .val (.int (46 : Int32)), .val (.int (2 : Int32)), .val (.int (8 : Int32)), .val (.int ((46 : Int32).toInt8.toInt32)), .val (.int (7 : Int32))] [(.int (7 : Int32)), (.ref a1)]))
            obtain ⟨cl11, Ar11, qa11, Sa11, Na11, Ha11, Ga11⟩ := id V1
            have hin11 : ¬ ((7 : Int32) < 0 ∨ cl11.slots.size ≤ ((7 : Int32)).toNatClampNeg) := inb_of Sa11 ⟨by decide, by decide⟩
            refine Go.st (X0.baloadBytes hx (j := (7 : Int32)) (v := (.int (own_bb x7))) (by rw [e0]; exact Ar11.1) (State.isArrayOf_alike hZ.alike Ar11.2.1) Ar11.2.2 hin11 (Ha11.at hin11 rfl) (g := (mkF m 16 #[.val (.ref a1), .val (.int (46 : Int32)), .val (.int (2 : Int32)), .val (.int (8 : Int32)), .val (.int ((46 : Int32).toInt8.toInt32)), .val (.int (7 : Int32))] [(.int (7 : Int32)), (.ref a1)])) rfl rfl (hb hby d19_16)) ?_
            show Go p.tables e below _ (s₁.setTop (mkF m 17 #[.val (.ref a1), .val (.int (46 : Int32)), .val (.int (2 : Int32)), .val (.int (8 : Int32)), .val (.int ((46 : Int32).toInt8.toInt32)), .val (.int (7 : Int32))] [(.int (own_bb x7))]))
            refine Go.st (fun U hr => XS.iload X0.here hx rfl (hb hby d19_17) rfl hr) ?_
            show Go p.tables e below _ (s₁.setTop (mkF m 19 #[.val (.ref a1), .val (.int (46 : Int32)), .val (.int (2 : Int32)), .val (.int (8 : Int32)), .val (.int ((46 : Int32).toInt8.toInt32)), .val (.int (7 : Int32))] [(.int ((46 : Int32).toInt8.toInt32)), (.int (own_bb x7))]))
            by_cases hc19_12 : (own_bb x7) = ((46 : Int32).toInt8.toInt32)
            · refine Go.st (fun U hr => XS.icmpNo X0.here hx rfl (hb hby d19_19) rfl (teq hc19_12).2 hr) ?_
              show Go p.tables e below _ (s₁.setTop (mkF m 22 #[.val (.ref a1), .val (.int (46 : Int32)), .val (.int (2 : Int32)), .val (.int (8 : Int32)), .val (.int ((46 : Int32).toInt8.toInt32)), .val (.int (7 : Int32))] []))
              refine Go.st (fun U hr => XS.iload X0.here hx rfl (hb hby d19_22) rfl hr) ?_
              show Go p.tables e below _ (s₁.setTop (mkF m 24 #[.val (.ref a1), .val (.int (46 : Int32)), .val (.int (2 : Int32)), .val (.int (8 : Int32)), .val (.int ((46 : Int32).toInt8.toInt32)), .val (.int (7 : Int32))] [(.int (7 : Int32))]))
              exact own_retO X0 hx Bd.notSynchronized (t := .int) Bd.returns rfl (Or.inl ⟨rfl, Or.inl rfl, _, rfl⟩) (hb hby d19_24) ⟨by simp only [own_ix, if_neg hc19_2, if_neg hc19_4, if_neg hc19_6, if_neg hc19_8, if_neg hc19_10, if_pos hc19_12], N0, e0⟩ (by decide) (by decide)
            · refine Go.st (fun U hr => XS.icmpYes X0.here hx rfl (pc0 := 19) (pc' := 25) rfl (hb hby d19_19) rfl (feq hc19_12).2 (by decide) (by decide) hr) ?_
              show Go p.tables e below _ (s₁.setTop (mkF m 25 #[.val (.ref a1), .val (.int (46 : Int32)), .val (.int (2 : Int32)), .val (.int (8 : Int32)), .val (.int ((46 : Int32).toInt8.toInt32)), .val (.int (7 : Int32))] []))
              refine Go.st (fun U hr => XS.iinc X0.here hx rfl (hb hby d19_25) rfl (l' := #[.val (.ref a1), .val (.int (46 : Int32)), .val (.int (2 : Int32)), .val (.int (8 : Int32)), .val (.int ((46 : Int32).toInt8.toInt32)), .val (.int ((7 : Int32) + (1 : Int32)))]) rfl hr) ?_
              show Go p.tables e below _ (s₁.setTop (mkF m 28 #[.val (.ref a1), .val (.int (46 : Int32)), .val (.int (2 : Int32)), .val (.int (8 : Int32)), .val (.int ((46 : Int32).toInt8.toInt32)), .val (.int ((7 : Int32) + (1 : Int32)))] []))
              refine Go.st (fun U hr => XS.goto X0.here hx rfl (pc0 := 28) (pc' := 7) rfl (hb hby d19_28) (by decide) (by decide) hr) ?_
              show Go p.tables e below _ (s₁.setTop (mkF m 7 #[.val (.ref a1), .val (.int (46 : Int32)), .val (.int (2 : Int32)), .val (.int (8 : Int32)), .val (.int ((46 : Int32).toInt8.toInt32)), .val (.int ((7 : Int32) + (1 : Int32)))] []))
              rw [show ((7 : Int32) + (1 : Int32)) = (8 : Int32) from by decide]
              show Go p.tables e below _ (s₁.setTop (mkF m 7 #[.val (.ref a1), .val (.int (46 : Int32)), .val (.int (2 : Int32)), .val (.int (8 : Int32)), .val (.int ((46 : Int32).toInt8.toInt32)), .val (.int (8 : Int32))] []))
              refine Go.st (fun U hr => XS.iload X0.here hx rfl (hb hby d19_7) rfl hr) ?_
              show Go p.tables e below _ (s₁.setTop (mkF m 9 #[.val (.ref a1), .val (.int (46 : Int32)), .val (.int (2 : Int32)), .val (.int (8 : Int32)), .val (.int ((46 : Int32).toInt8.toInt32)), .val (.int (8 : Int32))] [(.int (8 : Int32))]))
              refine Go.st (fun U hr => XS.iloadN X0.here hx rfl (hb hby d19_9) rfl hr) ?_
              show Go p.tables e below _ (s₁.setTop (mkF m 10 #[.val (.ref a1), .val (.int (46 : Int32)), .val (.int (2 : Int32)), .val (.int (8 : Int32)), .val (.int ((46 : Int32).toInt8.toInt32)), .val (.int (8 : Int32))] [(.int (8 : Int32)), (.int (8 : Int32))]))
              refine Go.st (fun U hr => XS.icmpYes X0.here hx rfl (pc0 := 10) (pc' := 31) rfl (hb hby d19_10) rfl (by decide) (by decide) (by decide) hr) ?_
              show Go p.tables e below _ (s₁.setTop (mkF m 31 #[.val (.ref a1), .val (.int (46 : Int32)), .val (.int (2 : Int32)), .val (.int (8 : Int32)), .val (.int ((46 : Int32).toInt8.toInt32)), .val (.int (8 : Int32))] []))
              refine Go.st (fun U hr => XS.iconst X0.here hx rfl (hb hby d19_31) hr) ?_
              show Go p.tables e below _ (s₁.setTop (mkF m 32 #[.val (.ref a1), .val (.int (46 : Int32)), .val (.int (2 : Int32)), .val (.int (8 : Int32)), .val (.int ((46 : Int32).toInt8.toInt32)), .val (.int (8 : Int32))] [(.int (-1 : Int32))]))
              exact own_retO X0 hx Bd.notSynchronized (t := .int) Bd.returns rfl (Or.inl ⟨rfl, Or.inl rfl, _, rfl⟩) (hb hby d19_32) ⟨by simp only [own_ix, if_neg hc19_2, if_neg hc19_4, if_neg hc19_6, if_neg hc19_8, if_neg hc19_10, if_neg hc19_12], N0, e0⟩ (by decide) (by decide)
theorem d15_0 : decode jdk_43_method_22_code 0 = .ok (.iload_n 1, 1) := by decide +kernel
theorem d15_1 : decode jdk_43_method_22_code 1 = .ok (.invokestatic 88, 3) := by decide +kernel
theorem d15_4 : decode jdk_43_method_22_code 4 = .ok (.ifCond .ne 5, 3) := by decide +kernel
theorem d15_9 : decode jdk_43_method_22_code 9 = .ok (.iload_n 2, 1) := by decide +kernel
theorem d15_10 : decode jdk_43_method_22_code 10 = .ok (.iconst 0, 1) := by decide +kernel
theorem d15_11 : decode jdk_43_method_22_code 11 = .ok (.invokestatic 92, 3) := by decide +kernel
theorem d15_14 : decode jdk_43_method_22_code 14 = .ok (.istore_n 2, 1) := by decide +kernel
theorem d15_15 : decode jdk_43_method_22_code 15 = .ok (.iload_n 3, 1) := by decide +kernel
theorem d15_16 : decode jdk_43_method_22_code 16 = .ok (.aload_n 0, 1) := by decide +kernel
theorem d15_17 : decode jdk_43_method_22_code 17 = .ok (.arraylength, 1) := by decide +kernel
theorem d15_18 : decode jdk_43_method_22_code 18 = .ok (.invokestatic 38, 3) := by decide +kernel
theorem d15_21 : decode jdk_43_method_22_code 21 = .ok (.istore_n 3, 1) := by decide +kernel
theorem d15_22 : decode jdk_43_method_22_code 22 = .ok (.iload_n 2, 1) := by decide +kernel
theorem d15_23 : decode jdk_43_method_22_code 23 = .ok (.iload_n 3, 1) := by decide +kernel
theorem d15_24 : decode jdk_43_method_22_code 24 = .ok (.if_icmp .lt 5, 3) := by decide +kernel
theorem d15_29 : decode jdk_43_method_22_code 29 = .ok (.aload_n 0, 1) := by decide +kernel
theorem d15_30 : decode jdk_43_method_22_code 30 = .ok (.iload_n 1, 1) := by decide +kernel
theorem d15_31 : decode jdk_43_method_22_code 31 = .ok (.iload_n 2, 1) := by decide +kernel
theorem d15_32 : decode jdk_43_method_22_code 32 = .ok (.iload_n 3, 1) := by decide +kernel
theorem d15_33 : decode jdk_43_method_22_code 33 = .ok (.invokestatic 95, 3) := by decide +kernel
theorem d15_36 : decode jdk_43_method_22_code 36 = .ok (.ireturn, 1) := by decide +kernel
theorem pn_15 : plainFor (⟨"java/lang/StringLatin1", "indexOf", "([BIII)I"⟩ : MethodName) = true := plainFor_of_name (by first | (simp [plainName, overriddenIn]; done) | decide +kernel)
theorem ef_15 (m : MethodId) (x0 : Addr) (x1 : Int32) (x2 : Int32) (x3 : Int32) : entryFrame m #[(.ref x0), (.int x1), (.int x2), (.int x3)] 4 = mkF m 0 #[.val (.ref x0), .val (.int x1), .val (.int x2), .val (.int x3)] [] := by first | (simp [entryFrame, mkF, argsToLocals, Value.category]; done) | rfl
theorem pd_6 : parseMethodDescriptor "(I)Z" = some ⟨[.int], some .boolean⟩ := by decide +kernel
theorem pd_7 : parseMethodDescriptor "(II)I" = some ⟨[.int, .int], some .int⟩ := by decide +kernel
theorem pd_8 : parseMethodDescriptor "([BIII)I" = some ⟨[(.array .byte), .int, .int, .int], some .int⟩ := by decide +kernel
def Q15 (Z : State) (a1 : Addr) (kb : ClassId) (x0 : Int32) (x1 : Int32) (x2 : Int32) (x3 : Int32) (x4 : Int32) (x5 : Int32) (x6 : Int32) (x7 : Int32) (h0 : Heap) (n0 : Nat) (v : Option Value) (h : Heap) (L : List Loc) : Prop := v = some (.int (own_ix x2 x3 x4 x5 x6 x7)) ∧ Fr n0 L ∧ h = h0
set_option maxRecDepth 65536 in
set_option maxHeartbeats 40000000 in
theorem rm15 (l : Launch) (Z : State) (a0 : Array Value) (hw : ∀ d ∈ tables_1, d.before a0 Z = true) (ws : List Jvm.Cond) (a1 : Addr) (kb : ClassId) (x0 : Int32) (x1 : Int32) (x2 : Int32) (x3 : Int32) (x4 : Int32) (x5 : Int32) (x6 : Int32) (x7 : Int32) (h0 : Heap) (n0 : Nat) (Z0 : n0 ≤ h0.size) (V1 : Arv Z h0 a1 kb .byte (8 : Int32) [(.int (own_bb x0)), (.int (own_bb x1)), (.int (own_bb x2)), (.int (own_bb x3)), (.int (own_bb x4)), (.int (own_bb x5)), (.int (own_bb x6)), (.int (own_bb x7))] (.int (0 : Int32))) :
    MetFree l (⟨"java/lang/StringLatin1", "indexOf", "([BIII)I"⟩ : MethodName) (head1 (Jvm.Cond.code (⟨"java/lang/StringLatin1", "indexOf", "([BIII)I"⟩ : MethodName) jdk_43_method_22_code 4 (some .int) :: ws) ({ frames := 1, cells := 0, slots := 0, locals := 17 } : Room)) (fun a U => a = #[(.ref a1), (.int (46 : Int32)), (.int (2 : Int32)), (.int (8 : Int32))] ∧ Z.Warmed39 U.vm ∧ U.heap = h0) (fun _ _ _ _ _ => True) (fun _ U o U' => ∃ v L, o = .returned v ∧ Q15 Z a1 kb x0 x1 x2 x3 x4 x5 x6 x7 h0 n0 v U'.heap L ∧ FrameEnd U o U' L ({ frames := 1, cells := 0, slots := 0, locals := 17 } : Room).cells ({ frames := 1, cells := 0, slots := 0, locals := 17 } : Room).slots) := by
  refine MetFree.of_bodySF pn_15 hisR ?_
  intro p e s m args below meth c s₁ Bd hml0 hP hK
  obtain ⟨rfl, hZ, hh⟩ := hP
  have hx := Bd.exec
  have hby := Bd.bytes
  have hml : c.maxLocals = 4 := hml0
  have hown : s.vm.findClass "java/lang/StringLatin1" = some m.cls := findClass_of_methodNamed Bd.named
  have hnm := (name_of_methodNamed Bd.named Bd.method).1
  have X0 : Stand p l e ({ frames := 1, cells := 0, slots := 0, locals := 17 } : Room) s m #[(.ref a1), (.int (46 : Int32)), (.int (2 : Int32)), (.int (8 : Int32))] below meth c s₁ [] 0 0 := Stand.of_body Bd
  have e0 : s₁.heap = h0 := by rw [← hh, Bd.state]; rfl
  have N0 := Fr.nil n0
  refine own_start (Q := Q15 Z a1 kb x0 x1 x2 x3 x4 x5 x6 x7 h0 n0) (own_cast (ef_15 m a1 (46 : Int32) (2 : Int32) (8 : Int32)) ?_)
  show Go p.tables e below _ (s₁.setTop (mkF m 0 #[.val (.ref a1), .val (.int (46 : Int32)), .val (.int (2 : Int32)), .val (.int (8 : Int32))] []))
  refine Go.st (fun U hr => XS.iloadN X0.here hx rfl (hb hby d15_0) rfl hr) ?_
  show Go p.tables e below _ (s₁.setTop (mkF m 1 #[.val (.ref a1), .val (.int (46 : Int32)), .val (.int (2 : Int32)), .val (.int (8 : Int32))] [(.int (46 : Int32))]))
  obtain ⟨_, _, ⟨T1, L1, k1, n1⟩, -, X1, ⟨Lc1, hQ1, l1, y1, z1⟩, st1⟩ := Jvm.LawKit.callS X0 hx (y := (⟨"java/lang/StringLatin1", "canEncode", "(I)Z"⟩ : MethodName)) hown (mvT hZ (hw _ (List.mem_of_getElem? (i := 68) rfl))) (mvT hZ (hw _ (List.mem_of_getElem? (i := 69) rfl))) (mvT hZ (hw _ (List.mem_of_getElem? (i := 66) rfl))) (mvT hZ (hw _ (List.mem_of_getElem? (i := 70) rfl))) (by decide) (backOf (W := 0) (rm16 l Z a0 hw [] h0 n0 Z0) hZ (hw _ (List.mem_of_getElem? (i := 70) rfl)) (hw _ (List.mem_of_getElem? (i := 66) rfl)) (by decide) (by decide)) (g := (mkF m 1 #[.val (.ref a1), .val (.int (46 : Int32)), .val (.int (2 : Int32)), .val (.int (8 : Int32))] [(.int (46 : Int32))])) rfl (by rw [hml]; rfl) (argsL := [(.int (46 : Int32))]) (rest := []) (lenOf pd_6 rfl) rfl (by show 2 * 0 + _ ≤ _; exact Nat.le_of_eq rfl) (hb hby d15_1) (fun _ _ => ⟨rfl, e0, (by decide : 0 + 0 ≤ _), (by decide : 0 + 0 ≤ _)⟩)
  dsimp only [Pt.U, Pt.locs, Pt.cells, Pt.slots] at X1 l1 y1 z1 st1 hQ1
  subst l1 y1 z1
  obtain ⟨rfl, Nq1, ee1⟩ := hQ1
  have N1 := Fr.app N0 Nq1
  refine Go.st st1 ?_
  show Go p.tables e below _ (T1.setTop (mkF m 4 #[.val (.ref a1), .val (.int (46 : Int32)), .val (.int (2 : Int32)), .val (.int (8 : Int32))] [(.int (1 : Int32))]))
  refine Go.st (fun U hr => XS.ifYes X1.here hx rfl (pc0 := 4) (pc' := 9) rfl (hb hby d15_4) rfl (by decide) (by decide) (by decide) hr) ?_
  show Go p.tables e below _ (T1.setTop (mkF m 9 #[.val (.ref a1), .val (.int (46 : Int32)), .val (.int (2 : Int32)), .val (.int (8 : Int32))] []))
  refine Go.st (fun U hr => XS.iloadN X1.here hx rfl (hb hby d15_9) rfl hr) ?_
  show Go p.tables e below _ (T1.setTop (mkF m 10 #[.val (.ref a1), .val (.int (46 : Int32)), .val (.int (2 : Int32)), .val (.int (8 : Int32))] [(.int (2 : Int32))]))
  refine Go.st (fun U hr => XS.iconst X1.here hx rfl (hb hby d15_10) hr) ?_
  show Go p.tables e below _ (T1.setTop (mkF m 11 #[.val (.ref a1), .val (.int (46 : Int32)), .val (.int (2 : Int32)), .val (.int (8 : Int32))] [(.int (0 : Int32)), (.int (2 : Int32))]))
  obtain ⟨_, _, ⟨T2, L2, k2, n2⟩, -, X2, ⟨Lc2, hQ2, l2, y2, z2⟩, st2⟩ := Jvm.LawKit.callS X1 hx (y := (⟨"java/lang/Math", "max", "(II)I"⟩ : MethodName)) hown (mvT hZ (hw _ (List.mem_of_getElem? (i := 71) rfl))) (mvT hZ (hw _ (List.mem_of_getElem? (i := 72) rfl))) (mvT hZ (hw _ (List.mem_of_getElem? (i := 73) rfl))) (mvT hZ (hw _ (List.mem_of_getElem? (i := 74) rfl))) (by decide) (backOf (W := 0) (rm17 l Z a0 hw [] h0 n0 Z0) hZ (hw _ (List.mem_of_getElem? (i := 74) rfl)) (hw _ (List.mem_of_getElem? (i := 73) rfl)) (by decide) (by decide)) (g := (mkF m 11 #[.val (.ref a1), .val (.int (46 : Int32)), .val (.int (2 : Int32)), .val (.int (8 : Int32))] [(.int (0 : Int32)), (.int (2 : Int32))])) rfl (by rw [hml]; rfl) (argsL := [(.int (2 : Int32)), (.int (0 : Int32))]) (rest := []) (lenOf pd_7 rfl) rfl (by show 2 * 0 + _ ≤ _; exact Nat.le_of_eq rfl) (hb hby d15_11) (fun _ _ => ⟨rfl, ee1, (by decide : 0 + 0 ≤ _), (by decide : 0 + 0 ≤ _)⟩)
  dsimp only [Pt.U, Pt.locs, Pt.cells, Pt.slots] at X2 l2 y2 z2 st2 hQ2
  subst l2 y2 z2
  obtain ⟨rfl, Nq2, ee2⟩ := hQ2
  have N2 := Fr.app N1 Nq2
  refine Go.st st2 ?_
  show Go p.tables e below _ (T2.setTop (mkF m 14 #[.val (.ref a1), .val (.int (46 : Int32)), .val (.int (2 : Int32)), .val (.int (8 : Int32))] [(.int (2 : Int32))]))
  refine Go.st (fun U hr => XS.istoreN X2.here hx rfl (hb hby d15_14) rfl (l' := #[.val (.ref a1), .val (.int (46 : Int32)), .val (.int (2 : Int32)), .val (.int (8 : Int32))]) rfl hr) ?_
  show Go p.tables e below _ (T2.setTop (mkF m 15 #[.val (.ref a1), .val (.int (46 : Int32)), .val (.int (2 : Int32)), .val (.int (8 : Int32))] []))
  refine Go.st (fun U hr => XS.iloadN X2.here hx rfl (hb hby d15_15) rfl hr) ?_
  show Go p.tables e below _ (T2.setTop (mkF m 16 #[.val (.ref a1), .val (.int (46 : Int32)), .val (.int (2 : Int32)), .val (.int (8 : Int32))] [(.int (8 : Int32))]))
  refine Go.st (fun U hr => XS.aloadN X2.here hx rfl (hb hby d15_16) rfl rfl hr) ?_
  show Go p.tables e below _ (T2.setTop (mkF m 17 #[.val (.ref a1), .val (.int (46 : Int32)), .val (.int (2 : Int32)), .val (.int (8 : Int32))] [(.ref a1), (.int (8 : Int32))]))
  obtain ⟨cl3, Ar3, qa3, Sa3, Na3, Ha3, Ga3⟩ := id V1
  refine Go.st (X2.arraylength hx (by rw [ee2]; exact Ar3.1) (State.isArrayOf_alike hZ.alike Ar3.2.1) (g := (mkF m 17 #[.val (.ref a1), .val (.int (46 : Int32)), .val (.int (2 : Int32)), .val (.int (8 : Int32))] [(.ref a1), (.int (8 : Int32))])) rfl rfl (hb hby d15_17)) ?_
  rw [len_of Sa3 Na3]
  show Go p.tables e below _ (T2.setTop (mkF m 18 #[.val (.ref a1), .val (.int (46 : Int32)), .val (.int (2 : Int32)), .val (.int (8 : Int32))] [(.int (8 : Int32)), (.int (8 : Int32))]))
  obtain ⟨_, _, ⟨T4, L4, k4, n4⟩, -, X4, ⟨Lc4, hQ4, l4, y4, z4⟩, st4⟩ := Jvm.LawKit.callS X2 hx (y := (⟨"java/lang/Math", "min", "(II)I"⟩ : MethodName)) hown (mvT hZ (hw _ (List.mem_of_getElem? (i := 75) rfl))) (mvT hZ (hw _ (List.mem_of_getElem? (i := 76) rfl))) (mvT hZ (hw _ (List.mem_of_getElem? (i := 73) rfl))) (mvT hZ (hw _ (List.mem_of_getElem? (i := 77) rfl))) (by decide) (backOf (W := 0) (rm18 l Z a0 hw [] h0 n0 Z0) hZ (hw _ (List.mem_of_getElem? (i := 77) rfl)) (hw _ (List.mem_of_getElem? (i := 73) rfl)) (by decide) (by decide)) (g := (mkF m 18 #[.val (.ref a1), .val (.int (46 : Int32)), .val (.int (2 : Int32)), .val (.int (8 : Int32))] [(.int (8 : Int32)), (.int (8 : Int32))])) rfl (by rw [hml]; rfl) (argsL := [(.int (8 : Int32)), (.int (8 : Int32))]) (rest := []) (lenOf pd_7 rfl) rfl (by show 2 * 0 + _ ≤ _; exact Nat.le_of_eq rfl) (hb hby d15_18) (fun _ _ => ⟨rfl, ee2, (by decide : 0 + 0 ≤ _), (by decide : 0 + 0 ≤ _)⟩)
  dsimp only [Pt.U, Pt.locs, Pt.cells, Pt.slots] at X4 l4 y4 z4 st4 hQ4
  subst l4 y4 z4
  obtain ⟨rfl, Nq4, ee4⟩ := hQ4
  have N4 := Fr.app N2 Nq4
  refine Go.st st4 ?_
  show Go p.tables e below _ (T4.setTop (mkF m 21 #[.val (.ref a1), .val (.int (46 : Int32)), .val (.int (2 : Int32)), .val (.int (8 : Int32))] [(.int (8 : Int32))]))
  refine Go.st (fun U hr => XS.istoreN X4.here hx rfl (hb hby d15_21) rfl (l' := #[.val (.ref a1), .val (.int (46 : Int32)), .val (.int (2 : Int32)), .val (.int (8 : Int32))]) rfl hr) ?_
  show Go p.tables e below _ (T4.setTop (mkF m 22 #[.val (.ref a1), .val (.int (46 : Int32)), .val (.int (2 : Int32)), .val (.int (8 : Int32))] []))
  refine Go.st (fun U hr => XS.iloadN X4.here hx rfl (hb hby d15_22) rfl hr) ?_
  show Go p.tables e below _ (T4.setTop (mkF m 23 #[.val (.ref a1), .val (.int (46 : Int32)), .val (.int (2 : Int32)), .val (.int (8 : Int32))] [(.int (2 : Int32))]))
  refine Go.st (fun U hr => XS.iloadN X4.here hx rfl (hb hby d15_23) rfl hr) ?_
  show Go p.tables e below _ (T4.setTop (mkF m 24 #[.val (.ref a1), .val (.int (46 : Int32)), .val (.int (2 : Int32)), .val (.int (8 : Int32))] [(.int (8 : Int32)), (.int (2 : Int32))]))
  refine Go.st (fun U hr => XS.icmpYes X4.here hx rfl (pc0 := 24) (pc' := 29) rfl (hb hby d15_24) rfl (by decide) (by decide) (by decide) hr) ?_
  show Go p.tables e below _ (T4.setTop (mkF m 29 #[.val (.ref a1), .val (.int (46 : Int32)), .val (.int (2 : Int32)), .val (.int (8 : Int32))] []))
  refine Go.st (fun U hr => XS.aloadN X4.here hx rfl (hb hby d15_29) rfl rfl hr) ?_
  show Go p.tables e below _ (T4.setTop (mkF m 30 #[.val (.ref a1), .val (.int (46 : Int32)), .val (.int (2 : Int32)), .val (.int (8 : Int32))] [(.ref a1)]))
  refine Go.st (fun U hr => XS.iloadN X4.here hx rfl (hb hby d15_30) rfl hr) ?_
  show Go p.tables e below _ (T4.setTop (mkF m 31 #[.val (.ref a1), .val (.int (46 : Int32)), .val (.int (2 : Int32)), .val (.int (8 : Int32))] [(.int (46 : Int32)), (.ref a1)]))
  refine Go.st (fun U hr => XS.iloadN X4.here hx rfl (hb hby d15_31) rfl hr) ?_
  show Go p.tables e below _ (T4.setTop (mkF m 32 #[.val (.ref a1), .val (.int (46 : Int32)), .val (.int (2 : Int32)), .val (.int (8 : Int32))] [(.int (2 : Int32)), (.int (46 : Int32)), (.ref a1)]))
  refine Go.st (fun U hr => XS.iloadN X4.here hx rfl (hb hby d15_32) rfl hr) ?_
  show Go p.tables e below _ (T4.setTop (mkF m 33 #[.val (.ref a1), .val (.int (46 : Int32)), .val (.int (2 : Int32)), .val (.int (8 : Int32))] [(.int (8 : Int32)), (.int (2 : Int32)), (.int (46 : Int32)), (.ref a1)]))
  obtain ⟨_, _, ⟨T5, L5, k5, n5⟩, -, X5, ⟨Lc5, hQ5, l5, y5, z5⟩, st5⟩ := Jvm.LawKit.callS X4 hx (y := (⟨"java/lang/StringLatin1", "indexOfChar", "([BIII)I"⟩ : MethodName)) hown (mvT hZ (hw _ (List.mem_of_getElem? (i := 78) rfl))) (mvT hZ (hw _ (List.mem_of_getElem? (i := 79) rfl))) (mvT hZ (hw _ (List.mem_of_getElem? (i := 66) rfl))) (mvT hZ (hw _ (List.mem_of_getElem? (i := 80) rfl))) (by decide) (backOf (W := 0) (rm19 l Z a0 hw [] a1 kb x0 x1 x2 x3 x4 x5 x6 x7 h0 n0 Z0 V1) hZ (hw _ (List.mem_of_getElem? (i := 80) rfl)) (hw _ (List.mem_of_getElem? (i := 66) rfl)) (by decide) (by decide)) (g := (mkF m 33 #[.val (.ref a1), .val (.int (46 : Int32)), .val (.int (2 : Int32)), .val (.int (8 : Int32))] [(.int (8 : Int32)), (.int (2 : Int32)), (.int (46 : Int32)), (.ref a1)])) rfl (by rw [hml]; rfl) (argsL := [(.ref a1), (.int (46 : Int32)), (.int (2 : Int32)), (.int (8 : Int32))]) (rest := []) (lenOf pd_8 rfl) rfl (by show 2 * 0 + _ ≤ _; exact Nat.le_of_eq rfl) (hb hby d15_33) (fun _ _ => ⟨rfl, ee4, (by decide : 0 + 0 ≤ _), (by decide : 0 + 0 ≤ _)⟩)
  dsimp only [Pt.U, Pt.locs, Pt.cells, Pt.slots] at X5 l5 y5 z5 st5 hQ5
  subst l5 y5 z5
  obtain ⟨rfl, Nq5, ee5⟩ := hQ5
  have N5 := Fr.app N4 Nq5
  refine Go.st st5 ?_
  show Go p.tables e below _ (T5.setTop (mkF m 36 #[.val (.ref a1), .val (.int (46 : Int32)), .val (.int (2 : Int32)), .val (.int (8 : Int32))] [(.int (own_ix x2 x3 x4 x5 x6 x7))]))
  exact own_retO X5 hx Bd.notSynchronized (t := .int) Bd.returns rfl (Or.inl ⟨rfl, Or.inl rfl, _, rfl⟩) (hb hby d15_36) ⟨rfl, N5, ee5⟩ (by decide) (by decide)
theorem d11_0 : decode jdk_42_method_80_code 0 = .ok (.aload_n 0, 1) := by decide +kernel
theorem d11_1 : decode jdk_42_method_80_code 1 = .ok (.invokevirtual 492, 3) := by decide +kernel
theorem d11_4 : decode jdk_42_method_80_code 4 = .ok (.ifCond .eq 19, 3) := by decide +kernel
theorem d11_7 : decode jdk_42_method_80_code 7 = .ok (.aload_n 0, 1) := by decide +kernel
theorem d11_8 : decode jdk_42_method_80_code 8 = .ok (.getfield 9, 3) := by decide +kernel
theorem d11_11 : decode jdk_42_method_80_code 11 = .ok (.iload_n 1, 1) := by decide +kernel
theorem d11_12 : decode jdk_42_method_80_code 12 = .ok (.iload_n 2, 1) := by decide +kernel
theorem d11_13 : decode jdk_42_method_80_code 13 = .ok (.aload_n 0, 1) := by decide +kernel
theorem d11_14 : decode jdk_42_method_80_code 14 = .ok (.invokevirtual 505, 3) := by decide +kernel
theorem d11_17 : decode jdk_42_method_80_code 17 = .ok (.invokestatic 637, 3) := by decide +kernel
theorem d11_20 : decode jdk_42_method_80_code 20 = .ok (.goto 16, 3) := by decide +kernel
theorem d11_36 : decode jdk_42_method_80_code 36 = .ok (.ireturn, 1) := by decide +kernel
theorem pn_11 : plainFor (⟨"java/lang/String", "indexOf", "(II)I"⟩ : MethodName) = true := plainFor_of_name (by first | (simp [plainName, overriddenIn]; done) | decide +kernel)
theorem ef_11 (m : MethodId) (x0 : Addr) (x1 : Int32) (x2 : Int32) : entryFrame m #[(.ref x0), (.int x1), (.int x2)] 3 = mkF m 0 #[.val (.ref x0), .val (.int x1), .val (.int x2)] [] := by first | (simp [entryFrame, mkF, argsToLocals, Value.category]; done) | rfl
theorem pd_9 : parseMethodDescriptor "()Z" = some ⟨[], some .boolean⟩ := by decide +kernel
theorem pd_10 : parseMethodDescriptor "()I" = some ⟨[], some .int⟩ := by decide +kernel
def Q11 (Z : State) (a1 : Addr) (va : Addr) (kb : ClassId) (wc : Int32) (x0 : Int32) (x1 : Int32) (x2 : Int32) (x3 : Int32) (x4 : Int32) (x5 : Int32) (x6 : Int32) (x7 : Int32) (h0 : Heap) (n0 : Nat) (v : Option Value) (h : Heap) (L : List Loc) : Prop := v = some (.int (own_ix x2 x3 x4 x5 x6 x7)) ∧ Fr n0 L ∧ h = h0
set_option maxRecDepth 65536 in
set_option maxHeartbeats 40000000 in
theorem rm11 (l : Launch) (Z : State) (a0 : Array Value) (hw : ∀ d ∈ tables_1, d.before a0 Z = true) (ws : List Jvm.Cond) (a1 : Addr) (va : Addr) (kb : ClassId) (wc : Int32) (x0 : Int32) (x1 : Int32) (x2 : Int32) (x3 : Int32) (x4 : Int32) (x5 : Int32) (x6 : Int32) (x7 : Int32) (h0 : Heap) (n0 : Nat) (Z0 : n0 ≤ h0.size) (E1 : Exa Z h0 a1 "java/lang/String") (F1 : Fld Z h0 a1 "java/lang/String" "value" "[B" (.ref va)) (F2 : Fld Z h0 a1 "java/lang/String" "coder" "B" (.int (0 : Int32))) (V1 : Arv Z h0 va kb .byte (8 : Int32) [(.int (own_bb x0)), (.int (own_bb x1)), (.int (own_bb x2)), (.int (own_bb x3)), (.int (own_bb x4)), (.int (own_bb x5)), (.int (own_bb x6)), (.int (own_bb x7))] (.int (0 : Int32))) (S1 : Sta Z h0 "java/lang/String" "COMPACT_STRINGS" "Z" (.int wc)) (hwc : ¬ wc = 0) :
    MetFree l (⟨"java/lang/String", "indexOf", "(II)I"⟩ : MethodName) (head1 (Jvm.Cond.code (⟨"java/lang/String", "indexOf", "(II)I"⟩ : MethodName) jdk_42_method_80_code 3 (some .int) :: ws) ({ frames := 2, cells := 0, slots := 0, locals := 32 } : Room)) (fun a U => a = #[(.ref a1), (.int (46 : Int32)), (.int (2 : Int32))] ∧ Z.Warmed39 U.vm ∧ U.heap = h0) (fun _ _ _ _ _ => True) (fun _ U o U' => ∃ v L, o = .returned v ∧ Q11 Z a1 va kb wc x0 x1 x2 x3 x4 x5 x6 x7 h0 n0 v U'.heap L ∧ FrameEnd U o U' L ({ frames := 2, cells := 0, slots := 0, locals := 32 } : Room).cells ({ frames := 2, cells := 0, slots := 0, locals := 32 } : Room).slots) := by
  refine MetFree.of_bodySF pn_11 hisR ?_
  intro p e s m args below meth c s₁ Bd hml0 hP hK
  obtain ⟨rfl, hZ, hh⟩ := hP
  have hx := Bd.exec
  have hby := Bd.bytes
  have hml : c.maxLocals = 3 := hml0
  have hown : s.vm.findClass "java/lang/String" = some m.cls := findClass_of_methodNamed Bd.named
  have hnm := (name_of_methodNamed Bd.named Bd.method).1
  have X0 : Stand p l e ({ frames := 2, cells := 0, slots := 0, locals := 32 } : Room) s m #[(.ref a1), (.int (46 : Int32)), (.int (2 : Int32))] below meth c s₁ [] 0 0 := Stand.of_body Bd
  have e0 : s₁.heap = h0 := by rw [← hh, Bd.state]; rfl
  have N0 := Fr.nil n0
  refine own_start (Q := Q11 Z a1 va kb wc x0 x1 x2 x3 x4 x5 x6 x7 h0 n0) (own_cast (ef_11 m a1 (46 : Int32) (2 : Int32)) ?_)
  show Go p.tables e below _ (s₁.setTop (mkF m 0 #[.val (.ref a1), .val (.int (46 : Int32)), .val (.int (2 : Int32))] []))
  refine Go.st (fun U hr => XS.aloadN X0.here hx rfl (hb hby d11_0) rfl rfl hr) ?_
  show Go p.tables e below _ (s₁.setTop (mkF m 1 #[.val (.ref a1), .val (.int (46 : Int32)), .val (.int (2 : Int32))] [(.ref a1)]))
  obtain ⟨cq1, kq1, q1a, q1b, q1c⟩ := isOf hZ e0 E1
  obtain ⟨_, _, ⟨T1, L1, k1, n1⟩, -, X1, ⟨Lc1, hQ1, l1, y1, z1⟩, st1⟩ := X0.virtualBack hx (y := (⟨"java/lang/String", "isLatin1", "()Z"⟩ : MethodName)) (z := (⟨"java/lang/String", "isLatin1", "()Z"⟩ : MethodName)) hown (mvT hZ (hw _ (List.mem_of_getElem? (i := 49) rfl))) (mvT hZ (hw _ (List.mem_of_getElem? (i := 50) rfl))) (notFace_of_selects (args := #[]) (mvT hZ (hw _ (List.mem_of_getElem? (i := 52) rfl)))) (mvT hZ (hw _ (List.mem_of_getElem? (i := 52) rfl))) (mvT hZ (hw _ (List.mem_of_getElem? (i := 51) rfl))) (by decide) (backOf (W := 0) (rm12 l Z a0 hw [] a1 va kb wc x0 x1 x2 x3 x4 x5 x6 x7 h0 n0 Z0 E1 F1 F2 V1 S1 hwc) hZ (hw _ (List.mem_of_getElem? (i := 53) rfl)) (hw _ (List.mem_of_getElem? (i := 13) rfl)) (by decide) (by decide)) q1a q1c (g := (mkF m 1 #[.val (.ref a1), .val (.int (46 : Int32)), .val (.int (2 : Int32))] [(.ref a1)])) rfl (by rw [hml]; rfl) (Steps.refl _) (argsL := []) (rest := []) (lenOf pd_9 rfl) rfl (by show 2 * 0 + _ ≤ _; exact Nat.le_of_eq rfl) (hb hby d11_1) (fun _ _ => ⟨rfl, e0, (by decide : 0 + 0 ≤ _), (by decide : 0 + 0 ≤ _)⟩)
  dsimp only [Pt.U, Pt.locs, Pt.cells, Pt.slots] at X1 l1 y1 z1 st1 hQ1
  subst l1 y1 z1
  obtain ⟨rfl, Nq1, ee1⟩ := hQ1
  have N1 := Fr.app N0 Nq1
  refine Go.tr st1 ?_
  show Go p.tables e below _ (T1.setTop (mkF m 4 #[.val (.ref a1), .val (.int (46 : Int32)), .val (.int (2 : Int32))] [(.int (1 : Int32))]))
  refine Go.st (fun U hr => XS.ifNo X1.here hx rfl (hb hby d11_4) rfl (by decide) hr) ?_
  show Go p.tables e below _ (T1.setTop (mkF m 7 #[.val (.ref a1), .val (.int (46 : Int32)), .val (.int (2 : Int32))] []))
  refine Go.st (fun U hr => XS.aloadN X1.here hx rfl (hb hby d11_7) rfl rfl hr) ?_
  show Go p.tables e below _ (T1.setTop (mkF m 8 #[.val (.ref a1), .val (.int (46 : Int32)), .val (.int (2 : Int32))] [(.ref a1)]))
  obtain ⟨T2, X2, e2, st2⟩ := getF X1 hx hZ hown (host := "") (Or.inl (hw _ (List.mem_of_getElem? (i := 38) rfl))) Via.refl ee1 F1 (g := (mkF m 8 #[.val (.ref a1), .val (.int (46 : Int32)), .val (.int (2 : Int32))] [(.ref a1)])) rfl rfl (hb hby d11_8)
  refine Go.st st2 ?_
  show Go p.tables e below _ (T2.setTop (mkF m 11 #[.val (.ref a1), .val (.int (46 : Int32)), .val (.int (2 : Int32))] [(.ref va)]))
  refine Go.st (fun U hr => XS.iloadN X2.here hx rfl (hb hby d11_11) rfl hr) ?_
  show Go p.tables e below _ (T2.setTop (mkF m 12 #[.val (.ref a1), .val (.int (46 : Int32)), .val (.int (2 : Int32))] [(.int (46 : Int32)), (.ref va)]))
  refine Go.st (fun U hr => XS.iloadN X2.here hx rfl (hb hby d11_12) rfl hr) ?_
  show Go p.tables e below _ (T2.setTop (mkF m 13 #[.val (.ref a1), .val (.int (46 : Int32)), .val (.int (2 : Int32))] [(.int (2 : Int32)), (.int (46 : Int32)), (.ref va)]))
  refine Go.st (fun U hr => XS.aloadN X2.here hx rfl (hb hby d11_13) rfl rfl hr) ?_
  show Go p.tables e below _ (T2.setTop (mkF m 14 #[.val (.ref a1), .val (.int (46 : Int32)), .val (.int (2 : Int32))] [(.ref a1), (.int (2 : Int32)), (.int (46 : Int32)), (.ref va)]))
  obtain ⟨cq3, kq3, q3a, q3b, q3c⟩ := isOf hZ e2 E1
  obtain ⟨_, _, ⟨T3, L3, k3, n3⟩, -, X3, ⟨Lc3, hQ3, l3, y3, z3⟩, st3⟩ := X2.virtualBack hx (y := (⟨"java/lang/String", "length", "()I"⟩ : MethodName)) (z := (⟨"java/lang/String", "length", "()I"⟩ : MethodName)) hown (mvT hZ (hw _ (List.mem_of_getElem? (i := 54) rfl))) (mvT hZ (hw _ (List.mem_of_getElem? (i := 55) rfl))) (notFace_of_selects (args := #[]) (mvT hZ (hw _ (List.mem_of_getElem? (i := 57) rfl)))) (mvT hZ (hw _ (List.mem_of_getElem? (i := 57) rfl))) (mvT hZ (hw _ (List.mem_of_getElem? (i := 56) rfl))) (by decide) (backOf (W := 3) (rm13 l Z a0 hw [] a1 va kb wc x0 x1 x2 x3 x4 x5 x6 x7 h0 n0 Z0 E1 F1 F2 V1 S1 hwc) hZ (hw _ (List.mem_of_getElem? (i := 58) rfl)) (hw _ (List.mem_of_getElem? (i := 13) rfl)) (by decide) (by decide)) q3a q3c (g := (mkF m 14 #[.val (.ref a1), .val (.int (46 : Int32)), .val (.int (2 : Int32))] [(.ref a1), (.int (2 : Int32)), (.int (46 : Int32)), (.ref va)])) rfl (by rw [hml]; rfl) (Steps.refl _) (argsL := []) (rest := [(.int (2 : Int32)), (.int (46 : Int32)), (.ref va)]) (lenOf pd_10 rfl) rfl (by show 2 * 0 + _ ≤ _; exact Nat.le_of_eq rfl) (hb hby d11_14) (fun _ _ => ⟨rfl, e2, (by decide : 0 + 0 ≤ _), (by decide : 0 + 0 ≤ _)⟩)
  dsimp only [Pt.U, Pt.locs, Pt.cells, Pt.slots] at X3 l3 y3 z3 st3 hQ3
  subst l3 y3 z3
  obtain ⟨rfl, Nq3, ee3⟩ := hQ3
  have N3 := Fr.app N1 Nq3
  refine Go.tr st3 ?_
  show Go p.tables e below _ (T3.setTop (mkF m 17 #[.val (.ref a1), .val (.int (46 : Int32)), .val (.int (2 : Int32))] [(.int (8 : Int32)), (.int (2 : Int32)), (.int (46 : Int32)), (.ref va)]))
  obtain ⟨_, _, ⟨T4, L4, k4, n4⟩, -, X4, ⟨Lc4, hQ4, l4, y4, z4⟩, st4⟩ := Jvm.LawKit.callS X3 hx (y := (⟨"java/lang/StringLatin1", "indexOf", "([BIII)I"⟩ : MethodName)) hown (mvT hZ (hw _ (List.mem_of_getElem? (i := 64) rfl))) (mvT hZ (hw _ (List.mem_of_getElem? (i := 65) rfl))) (mvT hZ (hw _ (List.mem_of_getElem? (i := 66) rfl))) (mvT hZ (hw _ (List.mem_of_getElem? (i := 67) rfl))) (by decide) (backOf (W := 0) (rm15 l Z a0 hw [] va kb x0 x1 x2 x3 x4 x5 x6 x7 h0 n0 Z0 V1) hZ (hw _ (List.mem_of_getElem? (i := 67) rfl)) (hw _ (List.mem_of_getElem? (i := 66) rfl)) (by decide) (by decide)) (g := (mkF m 17 #[.val (.ref a1), .val (.int (46 : Int32)), .val (.int (2 : Int32))] [(.int (8 : Int32)), (.int (2 : Int32)), (.int (46 : Int32)), (.ref va)])) rfl (by rw [hml]; rfl) (argsL := [(.ref va), (.int (46 : Int32)), (.int (2 : Int32)), (.int (8 : Int32))]) (rest := []) (lenOf pd_8 rfl) rfl (by show 2 * 0 + _ ≤ _; exact Nat.le_of_eq rfl) (hb hby d11_17) (fun _ _ => ⟨rfl, ee3, (by decide : 0 + 0 ≤ _), (by decide : 0 + 0 ≤ _)⟩)
  dsimp only [Pt.U, Pt.locs, Pt.cells, Pt.slots] at X4 l4 y4 z4 st4 hQ4
  subst l4 y4 z4
  obtain ⟨rfl, Nq4, ee4⟩ := hQ4
  have N4 := Fr.app N3 Nq4
  refine Go.st st4 ?_
  show Go p.tables e below _ (T4.setTop (mkF m 20 #[.val (.ref a1), .val (.int (46 : Int32)), .val (.int (2 : Int32))] [(.int (own_ix x2 x3 x4 x5 x6 x7))]))
  refine Go.st (fun U hr => XS.goto X4.here hx rfl (pc0 := 20) (pc' := 36) rfl (hb hby d11_20) (by decide) (by decide) hr) ?_
  show Go p.tables e below _ (T4.setTop (mkF m 36 #[.val (.ref a1), .val (.int (46 : Int32)), .val (.int (2 : Int32))] [(.int (own_ix x2 x3 x4 x5 x6 x7))]))
  exact own_retO X4 hx Bd.notSynchronized (t := .int) Bd.returns rfl (Or.inl ⟨rfl, Or.inl rfl, _, rfl⟩) (hb hby d11_36) ⟨rfl, N4, ee4⟩ (by decide) (by decide)
theorem d10_0 : decode prog_38_method_9_code 0 = .ok (.aload_n 0, 1) := by decide +kernel
theorem d10_1 : decode prog_38_method_9_code 1 = .ok (.bipush 46, 2) := by decide +kernel
theorem d10_3 : decode prog_38_method_9_code 3 = .ok (.iload_n 1, 1) := by decide +kernel
theorem d10_4 : decode prog_38_method_9_code 4 = .ok (.invokevirtual 136, 3) := by decide +kernel
theorem d10_7 : decode prog_38_method_9_code 7 = .ok (.ifCond .lt 7, 3) := by decide +kernel
theorem d10_10 : decode prog_38_method_9_code 10 = .ok (.iconst 1, 1) := by decide +kernel
theorem d10_11 : decode prog_38_method_9_code 11 = .ok (.goto 4, 3) := by decide +kernel
theorem d10_14 : decode prog_38_method_9_code 14 = .ok (.iconst 0, 1) := by decide +kernel
theorem d10_15 : decode prog_38_method_9_code 15 = .ok (.ireturn, 1) := by decide +kernel
theorem pn_10 : plainFor (⟨"com/example/clausewright/clausewright/PageNumber", "hasDotLeaders", "(Ljava/lang/String;I)Z"⟩ : MethodName) = true := plainFor_of_name (by first | (simp [plainName, overriddenIn]; done) | decide +kernel)
theorem ef_10 (m : MethodId) (x0 : Addr) (x1 : Int32) : entryFrame m #[(.ref x0), (.int x1)] 2 = mkF m 0 #[.val (.ref x0), .val (.int x1)] [] := by first | (simp [entryFrame, mkF, argsToLocals, Value.category]; done) | rfl
def Q10 (Z : State) (a1 : Addr) (va : Addr) (kb : ClassId) (wc : Int32) (x0 : Int32) (x1 : Int32) (x2 : Int32) (x3 : Int32) (x4 : Int32) (x5 : Int32) (x6 : Int32) (x7 : Int32) (h0 : Heap) (n0 : Nat) (v : Option Value) (h : Heap) (L : List Loc) : Prop := v = some (.int (if (own_ix x2 x3 x4 x5 x6 x7) < 0 then 0 else 1)) ∧ Fr n0 L ∧ h = h0
set_option maxRecDepth 65536 in
set_option maxHeartbeats 40000000 in
theorem rm10 (l : Launch) (Z : State) (a0 : Array Value) (hw : ∀ d ∈ tables_1, d.before a0 Z = true) (ws : List Jvm.Cond) (a1 : Addr) (va : Addr) (kb : ClassId) (wc : Int32) (x0 : Int32) (x1 : Int32) (x2 : Int32) (x3 : Int32) (x4 : Int32) (x5 : Int32) (x6 : Int32) (x7 : Int32) (h0 : Heap) (n0 : Nat) (Z0 : n0 ≤ h0.size) (E1 : Exa Z h0 a1 "java/lang/String") (F1 : Fld Z h0 a1 "java/lang/String" "value" "[B" (.ref va)) (F2 : Fld Z h0 a1 "java/lang/String" "coder" "B" (.int (0 : Int32))) (V1 : Arv Z h0 va kb .byte (8 : Int32) [(.int (own_bb x0)), (.int (own_bb x1)), (.int (own_bb x2)), (.int (own_bb x3)), (.int (own_bb x4)), (.int (own_bb x5)), (.int (own_bb x6)), (.int (own_bb x7))] (.int (0 : Int32))) (S1 : Sta Z h0 "java/lang/String" "COMPACT_STRINGS" "Z" (.int wc)) (hwc : ¬ wc = 0) :
    MetFree l (⟨"com/example/clausewright/clausewright/PageNumber", "hasDotLeaders", "(Ljava/lang/String;I)Z"⟩ : MethodName) (head1 (Jvm.Cond.code (⟨"com/example/clausewright/clausewright/PageNumber", "hasDotLeaders", "(Ljava/lang/String;I)Z"⟩ : MethodName) prog_38_method_9_code 2 (some .boolean) :: ws) ({ frames := 3, cells := 0, slots := 0, locals := 46 } : Room)) (fun a U => a = #[(.ref a1), (.int (2 : Int32))] ∧ Z.Warmed39 U.vm ∧ U.heap = h0) (fun _ _ _ _ _ => True) (fun _ U o U' => ∃ v L, o = .returned v ∧ Q10 Z a1 va kb wc x0 x1 x2 x3 x4 x5 x6 x7 h0 n0 v U'.heap L ∧ FrameEnd U o U' L ({ frames := 3, cells := 0, slots := 0, locals := 46 } : Room).cells ({ frames := 3, cells := 0, slots := 0, locals := 46 } : Room).slots) := by
  refine MetFree.of_bodySF pn_10 hisR ?_
  intro p e s m args below meth c s₁ Bd hml0 hP hK
  obtain ⟨rfl, hZ, hh⟩ := hP
  have hx := Bd.exec
  have hby := Bd.bytes
  have hml : c.maxLocals = 2 := hml0
  have hown : s.vm.findClass "com/example/clausewright/clausewright/PageNumber" = some m.cls := findClass_of_methodNamed Bd.named
  have hnm := (name_of_methodNamed Bd.named Bd.method).1
  have X0 : Stand p l e ({ frames := 3, cells := 0, slots := 0, locals := 46 } : Room) s m #[(.ref a1), (.int (2 : Int32))] below meth c s₁ [] 0 0 := Stand.of_body Bd
  have e0 : s₁.heap = h0 := by rw [← hh, Bd.state]; rfl
  have N0 := Fr.nil n0
  refine own_start (Q := Q10 Z a1 va kb wc x0 x1 x2 x3 x4 x5 x6 x7 h0 n0) (own_cast (ef_10 m a1 (2 : Int32)) ?_)
  show Go p.tables e below _ (s₁.setTop (mkF m 0 #[.val (.ref a1), .val (.int (2 : Int32))] []))
  refine Go.st (fun U hr => XS.aloadN X0.here hx rfl (hb hby d10_0) rfl rfl hr) ?_
  show Go p.tables e below _ (s₁.setTop (mkF m 1 #[.val (.ref a1), .val (.int (2 : Int32))] [(.ref a1)]))
  refine Go.st (fun U hr => XS.bipush X0.here hx rfl (hb hby d10_1) hr) ?_
  show Go p.tables e below _ (s₁.setTop (mkF m 3 #[.val (.ref a1), .val (.int (2 : Int32))] [(.int (46 : Int32)), (.ref a1)]))
  refine Go.st (fun U hr => XS.iloadN X0.here hx rfl (hb hby d10_3) rfl hr) ?_
  show Go p.tables e below _ (s₁.setTop (mkF m 4 #[.val (.ref a1), .val (.int (2 : Int32))] [(.int (2 : Int32)), (.int (46 : Int32)), (.ref a1)]))
  obtain ⟨cq1, kq1, q1a, q1b, q1c⟩ := isOf hZ e0 E1
  obtain ⟨_, _, ⟨T1, L1, k1, n1⟩, -, X1, ⟨Lc1, hQ1, l1, y1, z1⟩, st1⟩ := X0.virtualBack hx (y := (⟨"java/lang/String", "indexOf", "(II)I"⟩ : MethodName)) (z := (⟨"java/lang/String", "indexOf", "(II)I"⟩ : MethodName)) hown (mvT hZ (hw _ (List.mem_of_getElem? (i := 44) rfl))) (mvT hZ (hw _ (List.mem_of_getElem? (i := 45) rfl))) (notFace_of_selects (args := #[]) (mvT hZ (hw _ (List.mem_of_getElem? (i := 47) rfl)))) (mvT hZ (hw _ (List.mem_of_getElem? (i := 47) rfl))) (mvT hZ (hw _ (List.mem_of_getElem? (i := 46) rfl))) (by decide) (backOf (W := 0) (rm11 l Z a0 hw [] a1 va kb wc x0 x1 x2 x3 x4 x5 x6 x7 h0 n0 Z0 E1 F1 F2 V1 S1 hwc) hZ (hw _ (List.mem_of_getElem? (i := 48) rfl)) (hw _ (List.mem_of_getElem? (i := 13) rfl)) (by decide) (by decide)) q1a q1c (g := (mkF m 4 #[.val (.ref a1), .val (.int (2 : Int32))] [(.int (2 : Int32)), (.int (46 : Int32)), (.ref a1)])) rfl (by rw [hml]; rfl) (Steps.refl _) (argsL := [(.int (46 : Int32)), (.int (2 : Int32))]) (rest := []) (lenOf pd_7 rfl) rfl (by show 2 * 0 + _ ≤ _; exact Nat.le_of_eq rfl) (hb hby d10_4) (fun _ _ => ⟨rfl, e0, (by decide : 0 + 0 ≤ _), (by decide : 0 + 0 ≤ _)⟩)
  dsimp only [Pt.U, Pt.locs, Pt.cells, Pt.slots] at X1 l1 y1 z1 st1 hQ1
  subst l1 y1 z1
  obtain ⟨rfl, Nq1, ee1⟩ := hQ1
  have N1 := Fr.app N0 Nq1
  refine Go.tr st1 ?_
  show Go p.tables e below _ (T1.setTop (mkF m 7 #[.val (.ref a1), .val (.int (2 : Int32))] [(.int (own_ix x2 x3 x4 x5 x6 x7))]))
  by_cases hc7_2 : (own_ix x2 x3 x4 x5 x6 x7) < (0 : Int32)
  · refine Go.st (fun U hr => XS.ifYes X1.here hx rfl (pc0 := 7) (pc' := 14) rfl (hb hby d10_7) rfl ((if0 _ _).trans (tlt hc7_2).1) (by decide) (by decide) hr) ?_
    show Go p.tables e below _ (T1.setTop (mkF m 14 #[.val (.ref a1), .val (.int (2 : Int32))] []))
    refine Go.st (fun U hr => XS.iconst X1.here hx rfl (hb hby d10_14) hr) ?_
    show Go p.tables e below _ (T1.setTop (mkF m 15 #[.val (.ref a1), .val (.int (2 : Int32))] [(.int (0 : Int32))]))
    exact own_retN X1 hx Bd.notSynchronized (t := .boolean) Bd.returns (by simp) (hb hby d10_15) ⟨by simp [nar, hc7_2], N1, ee1⟩ (by decide) (by decide)
  · refine Go.st (fun U hr => XS.ifNo X1.here hx rfl (hb hby d10_7) rfl ((if0 _ _).trans (flt hc7_2).1) hr) ?_
    show Go p.tables e below _ (T1.setTop (mkF m 10 #[.val (.ref a1), .val (.int (2 : Int32))] []))
    refine Go.st (fun U hr => XS.iconst X1.here hx rfl (hb hby d10_10) hr) ?_
    show Go p.tables e below _ (T1.setTop (mkF m 11 #[.val (.ref a1), .val (.int (2 : Int32))] [(.int (1 : Int32))]))
    refine Go.st (fun U hr => XS.goto X1.here hx rfl (pc0 := 11) (pc' := 15) rfl (hb hby d10_11) (by decide) (by decide) hr) ?_
    show Go p.tables e below _ (T1.setTop (mkF m 15 #[.val (.ref a1), .val (.int (2 : Int32))] [(.int (1 : Int32))]))
    exact own_retN X1 hx Bd.notSynchronized (t := .boolean) Bd.returns (by simp) (hb hby d10_15) ⟨by simp [nar, hc7_2], N1, ee1⟩ (by decide) (by decide)
theorem own_ix_neg (x2 x3 x4 x5 x6 x7 : Int32) (r2 : 0 ≤ x2.toInt ∧ x2.toInt < 256) (r3 : 0 ≤ x3.toInt ∧ x3.toInt < 256) (r4 : 0 ≤ x4.toInt ∧ x4.toInt < 256) (r5 : 0 ≤ x5.toInt ∧ x5.toInt < 256) (r6 : 0 ≤ x6.toInt ∧ x6.toInt < 256) (r7 : 0 ≤ x7.toInt ∧ x7.toInt < 256) :
    (own_ix x2 x3 x4 x5 x6 x7 < 0) ↔ ¬ (x2 = 46 ∨ x3 = 46 ∨ x4 = 46 ∨ x5 = 46 ∨ x6 = 46 ∨ x7 = 46) := by
  unfold own_ix
  simp only [own_bb_eq x2 r2, own_bb_eq x3 r3, own_bb_eq x4 r4, own_bb_eq x5 r5, own_bb_eq x6 r6, own_bb_eq x7 r7]
  by_cases q2 : x2 = 46
  · simp +decide [q2]
  · by_cases q3 : x3 = 46
    · simp +decide [q2, q3]
    · by_cases q4 : x4 = 46
      · simp +decide [q2, q3, q4]
      · by_cases q5 : x5 = 46
        · simp +decide [q2, q3, q4, q5]
        · by_cases q6 : x6 = 46
          · simp +decide [q2, q3, q4, q5, q6]
          · by_cases q7 : x7 = 46
            · simp +decide [q2, q3, q4, q5, q6, q7]
            · simp +decide [q2, q3, q4, q5, q6, q7]
theorem own_and (x m : Int32) (hm : m = 255 ∨ m = 1) : 0 ≤ (x &&& m).toInt ∧ (x &&& m).toInt ≤ m.toInt := by
  rcases hm with rfl | rfl
  · exact c_and x 255 (by decide)
  · exact c_and x 1 (by decide)
theorem own_dig (x : Int32) : 48 ≤ (((48 : Int32) + ((x &&& (255 : Int32)) - ((x &&& (255 : Int32)) / (10 : Int32)) * (10 : Int32))).toUInt32.toUInt16.toUInt32.toInt32).toInt ∧ (((48 : Int32) + ((x &&& (255 : Int32)) - ((x &&& (255 : Int32)) / (10 : Int32)) * (10 : Int32))).toUInt32.toUInt16.toUInt32.toInt32).toInt < 58 := by
  have h0 := own_and x 255 (Or.inl rfl)
  have h1 := own_rem (x &&& (255 : Int32)) 10 h0.1 (by decide)
  rw [show (10 : Int32).toInt = 10 from by decide] at h1
  generalize ((x &&& (255 : Int32)) - ((x &&& (255 : Int32)) / (10 : Int32)) * (10 : Int32)) = u at *
  have h2 := c_iadd 48 u
  rw [show (48 : Int32).toInt = 48 from by decide] at h2
  have r2 := rng32 (48 + u)
  have h3 := c_i2c (48 + u)
  omega

theorem own_sta {Z : State} {h h' : Heap} {C n d K : String} {v : Value} {a : Addr} (Kp : Keep h h' [a]) (S : Sta Z h C n d v) (E : Exa Z h a K) : Sta Z h' C n d v := by
  obtain ⟨cf, i, k, f, st, cell, h1, h2, h3, h4, h5, h6, h7⟩ := S
  obtain ⟨ce, kk, q1, q2, q3, q4, q5⟩ := E
  refine ⟨cf, i, k, f, st, cell, h1, h2, h3, h4, Kp.2.1 st cell h5 (fun z => ?_), h6, h7⟩
  have e := List.mem_singleton.mp z
  subst e
  rw [h5] at q1; cases q1
  rw [q4] at h6; cases h6

theorem pn_0 : plainFor x = true := plainFor_of_name (by first | (simp [plainName, overriddenIn]; done) | decide +kernel)
theorem ef_0 (m : MethodId) (x0 : Int32) (x1 : Int32) (x2 : Int32) (x3 : Int32) : entryFrame m #[(.int x0), (.int x1), (.int x2), (.int x3)] maxLocals = mkF m 0 #[.val (.int x0), .val (.int x1), .val (.int x2), .val (.int x3), .unset, .unset, .unset, .unset, .unset, .unset, .unset, .unset, .unset, .unset, .unset, .unset, .unset, .unset, .unset, .unset, .unset] [] := by first | (simp [entryFrame, mkF, argsToLocals, Value.category, maxLocals]; done) | rfl
theorem pd_11 : parseMethodDescriptor "(C)Z" = some ⟨[.char], some .boolean⟩ := by decide +kernel
theorem pd_12 : parseMethodDescriptor "(IIIIIZCCI)C" = some ⟨[.int, .int, .int, .int, .int, .boolean, .char, .char, .int], some .char⟩ := by decide +kernel
theorem pd_13 : parseMethodDescriptor "([C)V" = some ⟨[(.array .char)], none⟩ := by decide +kernel
theorem pd_14 : parseMethodDescriptor "(Ljava/lang/String;I)Z" = some ⟨[(.object "java/lang/String"), .int], some .boolean⟩ := by decide +kernel
def Q0 (Z : State) (p1 : Int32) (p2 : Int32) (p3 : Int32) (p4 : Int32) (wc : Int32) (h0 : Heap) (n0 : Nat) (v : Option Value) (h : Heap) (L : List Loc) : Prop := v = some (.int 1) ∧ Fr n0 L
set_option maxRecDepth 65536 in
set_option maxHeartbeats 40000000 in
theorem rm0 (l : Launch) (Z : State) (a0 : Array Value) (hw : ∀ d ∈ tables_1, d.before a0 Z = true) (ws : List Jvm.Cond) (p1 : Int32) (p2 : Int32) (p3 : Int32) (p4 : Int32) (wc : Int32) (h0 : Heap) (n0 : Nat) (Z0 : n0 ≤ h0.size) (S1 : Sta Z h0 "java/lang/String" "COMPACT_STRINGS" "Z" (.int wc)) (hwc : ¬ wc = 0) :
    MetFree l x (head1 (Jvm.Cond.code x code maxLocals ret :: ws) room_1) (fun a U => a = #[(.int p1), (.int p2), (.int p3), (.int p4)] ∧ Z.Warmed39 U.vm ∧ U.heap = h0) (fun _ _ _ _ _ => True) (fun _ U o U' => ∃ v L, o = .returned v ∧ Q0 Z p1 p2 p3 p4 wc h0 n0 v U'.heap L ∧ FrameEnd U o U' L room_1.cells room_1.slots) := by
  refine MetFree.of_bodySF pn_0 hisR ?_
  intro p e s m args below meth c s₁ Bd hml0 hP hK
  obtain ⟨rfl, hZ, hh⟩ := hP
  have hx := Bd.exec
  have hby := Bd.bytes
  have hml : c.maxLocals = 21 := hml0
  have hown : s.vm.findClass "com/example/clausewright/clausewright/PageNumberHasDotLeadersPinLaw" = some m.cls := findClass_of_methodNamed Bd.named
  have hnm := (name_of_methodNamed Bd.named Bd.method).1
  have X0 : Stand p l e room_1 s m #[(.int p1), (.int p2), (.int p3), (.int p4)] below meth c s₁ [] 0 0 := Stand.of_body Bd
  have e0 : s₁.heap = h0 := by rw [← hh, Bd.state]; rfl
  have N0 := Fr.nil n0
  refine own_start (Q := Q0 Z p1 p2 p3 p4 wc h0 n0) (own_cast (ef_0 m p1 p2 p3 p4) ?_)
  show Go p.tables e below _ (s₁.setTop (mkF m 0 #[.val (.int p1), .val (.int p2), .val (.int p3), .val (.int p4), .unset, .unset, .unset, .unset, .unset, .unset, .unset, .unset, .unset, .unset, .unset, .unset, .unset, .unset, .unset, .unset, .unset] []))
  refine Go.st (fun U hr => XS.iloadN X0.here hx rfl (hb hby at_0) rfl hr) ?_
  show Go p.tables e below _ (s₁.setTop (mkF m 1 #[.val (.int p1), .val (.int p2), .val (.int p3), .val (.int p4), .unset, .unset, .unset, .unset, .unset, .unset, .unset, .unset, .unset, .unset, .unset, .unset, .unset, .unset, .unset, .unset, .unset] [(.int p1)]))
  refine Go.st (fun U hr => XS.sipush X0.here hx rfl (hb hby at_1) hr) ?_
  show Go p.tables e below _ (s₁.setTop (mkF m 4 #[.val (.int p1), .val (.int p2), .val (.int p3), .val (.int p4), .unset, .unset, .unset, .unset, .unset, .unset, .unset, .unset, .unset, .unset, .unset, .unset, .unset, .unset, .unset, .unset, .unset] [(.int (255 : Int32)), (.int p1)]))
  refine Go.st (fun U hr => XS.iand X0.here hx rfl (hb hby at_4) rfl hr) ?_
  show Go p.tables e below _ (s₁.setTop (mkF m 5 #[.val (.int p1), .val (.int p2), .val (.int p3), .val (.int p4), .unset, .unset, .unset, .unset, .unset, .unset, .unset, .unset, .unset, .unset, .unset, .unset, .unset, .unset, .unset, .unset, .unset] [(.int (p1 &&& (255 : Int32)))]))
  refine Go.st (fun U hr => XS.i2c X0.here hx rfl (hb hby at_5) rfl hr) ?_
  show Go p.tables e below _ (s₁.setTop (mkF m 6 #[.val (.int p1), .val (.int p2), .val (.int p3), .val (.int p4), .unset, .unset, .unset, .unset, .unset, .unset, .unset, .unset, .unset, .unset, .unset, .unset, .unset, .unset, .unset, .unset, .unset] [(.int ((p1 &&& (255 : Int32)).toUInt32.toUInt16.toUInt32.toInt32))]))
  refine Go.st (fun U hr => XS.istore X0.here hx rfl (hb hby at_6) rfl (l' := #[.val (.int p1), .val (.int p2), .val (.int p3), .val (.int p4), .val (.int ((p1 &&& (255 : Int32)).toUInt32.toUInt16.toUInt32.toInt32)), .unset, .unset, .unset, .unset, .unset, .unset, .unset, .unset, .unset, .unset, .unset, .unset, .unset, .unset, .unset, .unset]) rfl hr) ?_
  show Go p.tables e below _ (s₁.setTop (mkF m 8 #[.val (.int p1), .val (.int p2), .val (.int p3), .val (.int p4), .val (.int ((p1 &&& (255 : Int32)).toUInt32.toUInt16.toUInt32.toInt32)), .unset, .unset, .unset, .unset, .unset, .unset, .unset, .unset, .unset, .unset, .unset, .unset, .unset, .unset, .unset, .unset] []))
  generalize h_ch0 : ((p1 &&& (255 : Int32)).toUInt32.toUInt16.toUInt32.toInt32) = ch0
  have hch0 : 0 ≤ ch0.toInt ∧ ch0.toInt < 256 := by
    rw [← h_ch0]
    have h0 := own_and p1 255 (Or.inl rfl)
    rw [show (255 : Int32).toInt = 255 from by decide] at h0
    have h1 := c_i2c (p1 &&& (255 : Int32))
    omega
  refine Go.st (fun U hr => XS.iloadN X0.here hx rfl (hb hby at_8) rfl hr) ?_
  show Go p.tables e below _ (s₁.setTop (mkF m 9 #[.val (.int p1), .val (.int p2), .val (.int p3), .val (.int p4), .val (.int ch0), .unset, .unset, .unset, .unset, .unset, .unset, .unset, .unset, .unset, .unset, .unset, .unset, .unset, .unset, .unset, .unset] [(.int p1)]))
  refine Go.st (fun U hr => XS.bipush X0.here hx rfl (hb hby at_9) hr) ?_
  show Go p.tables e below _ (s₁.setTop (mkF m 11 #[.val (.int p1), .val (.int p2), .val (.int p3), .val (.int p4), .val (.int ch0), .unset, .unset, .unset, .unset, .unset, .unset, .unset, .unset, .unset, .unset, .unset, .unset, .unset, .unset, .unset, .unset] [(.int (8 : Int32)), (.int p1)]))
  refine Go.st (fun U hr => XS.iushr X0.here hx rfl (hb hby at_11) rfl hr) ?_
  show Go p.tables e below _ (s₁.setTop (mkF m 12 #[.val (.int p1), .val (.int p2), .val (.int p3), .val (.int p4), .val (.int ch0), .unset, .unset, .unset, .unset, .unset, .unset, .unset, .unset, .unset, .unset, .unset, .unset, .unset, .unset, .unset, .unset] [(.int ((p1.toUInt32 >>> ((8 : Int32) &&& 31).toUInt32).toInt32))]))
  refine Go.st (fun U hr => XS.sipush X0.here hx rfl (hb hby at_12) hr) ?_
  show Go p.tables e below _ (s₁.setTop (mkF m 15 #[.val (.int p1), .val (.int p2), .val (.int p3), .val (.int p4), .val (.int ch0), .unset, .unset, .unset, .unset, .unset, .unset, .unset, .unset, .unset, .unset, .unset, .unset, .unset, .unset, .unset, .unset] [(.int (255 : Int32)), (.int ((p1.toUInt32 >>> ((8 : Int32) &&& 31).toUInt32).toInt32))]))
  refine Go.st (fun U hr => XS.iand X0.here hx rfl (hb hby at_15) rfl hr) ?_
  show Go p.tables e below _ (s₁.setTop (mkF m 16 #[.val (.int p1), .val (.int p2), .val (.int p3), .val (.int p4), .val (.int ch0), .unset, .unset, .unset, .unset, .unset, .unset, .unset, .unset, .unset, .unset, .unset, .unset, .unset, .unset, .unset, .unset] [(.int (((p1.toUInt32 >>> ((8 : Int32) &&& 31).toUInt32).toInt32) &&& (255 : Int32)))]))
  refine Go.st (fun U hr => XS.i2c X0.here hx rfl (hb hby at_16) rfl hr) ?_
  show Go p.tables e below _ (s₁.setTop (mkF m 17 #[.val (.int p1), .val (.int p2), .val (.int p3), .val (.int p4), .val (.int ch0), .unset, .unset, .unset, .unset, .unset, .unset, .unset, .unset, .unset, .unset, .unset, .unset, .unset, .unset, .unset, .unset] [(.int ((((p1.toUInt32 >>> ((8 : Int32) &&& 31).toUInt32).toInt32) &&& (255 : Int32)).toUInt32.toUInt16.toUInt32.toInt32))]))
  refine Go.st (fun U hr => XS.istore X0.here hx rfl (hb hby at_17) rfl (l' := #[.val (.int p1), .val (.int p2), .val (.int p3), .val (.int p4), .val (.int ch0), .val (.int ((((p1.toUInt32 >>> ((8 : Int32) &&& 31).toUInt32).toInt32) &&& (255 : Int32)).toUInt32.toUInt16.toUInt32.toInt32)), .unset, .unset, .unset, .unset, .unset, .unset, .unset, .unset, .unset, .unset, .unset, .unset, .unset, .unset, .unset]) rfl hr) ?_
  show Go p.tables e below _ (s₁.setTop (mkF m 19 #[.val (.int p1), .val (.int p2), .val (.int p3), .val (.int p4), .val (.int ch0), .val (.int ((((p1.toUInt32 >>> ((8 : Int32) &&& 31).toUInt32).toInt32) &&& (255 : Int32)).toUInt32.toUInt16.toUInt32.toInt32)), .unset, .unset, .unset, .unset, .unset, .unset, .unset, .unset, .unset, .unset, .unset, .unset, .unset, .unset, .unset] []))
  generalize h_ch1 : ((((p1.toUInt32 >>> ((8 : Int32) &&& 31).toUInt32).toInt32) &&& (255 : Int32)).toUInt32.toUInt16.toUInt32.toInt32) = ch1
  have hch1 : 0 ≤ ch1.toInt ∧ ch1.toInt < 256 := by
    rw [← h_ch1]
    have h0 := own_and ((p1.toUInt32 >>> ((8 : Int32) &&& 31).toUInt32).toInt32) 255 (Or.inl rfl)
    rw [show (255 : Int32).toInt = 255 from by decide] at h0
    have h1 := c_i2c (((p1.toUInt32 >>> ((8 : Int32) &&& 31).toUInt32).toInt32) &&& (255 : Int32))
    omega
  refine Go.st (fun U hr => XS.iload X0.here hx rfl (hb hby at_19) rfl hr) ?_
  show Go p.tables e below _ (s₁.setTop (mkF m 21 #[.val (.int p1), .val (.int p2), .val (.int p3), .val (.int p4), .val (.int ch0), .val (.int ch1), .unset, .unset, .unset, .unset, .unset, .unset, .unset, .unset, .unset, .unset, .unset, .unset, .unset, .unset, .unset] [(.int ch1)]))
  obtain ⟨_, _, ⟨T1, L1, k1, n1⟩, -, X1, ⟨Lc1, hQ1, l1, y1, z1⟩, st1⟩ := Jvm.LawKit.callS X0 hx (y := (⟨"com/example/clausewright/clausewright/PageNumberHasDotLeadersPinLaw", "isWs", "(C)Z"⟩ : MethodName)) hown (mvT hZ (hw _ (List.mem_of_getElem? (i := 0) rfl))) (mvT hZ (hw _ (List.mem_of_getElem? (i := 1) rfl))) (mvT hZ (hw _ (List.mem_of_getElem? (i := 2) rfl))) (mvT hZ (hw _ (List.mem_of_getElem? (i := 3) rfl))) (by decide) (backOf (W := 0) (rm1 l Z a0 hw [] ch1 h0 n0 Z0) hZ (hw _ (List.mem_of_getElem? (i := 3) rfl)) (hw _ (List.mem_of_getElem? (i := 2) rfl)) (by decide) (by decide)) (g := (mkF m 21 #[.val (.int p1), .val (.int p2), .val (.int p3), .val (.int p4), .val (.int ch0), .val (.int ch1), .unset, .unset, .unset, .unset, .unset, .unset, .unset, .unset, .unset, .unset, .unset, .unset, .unset, .unset, .unset] [(.int ch1)])) rfl (by rw [hml]; rfl) (argsL := [(.int ch1)]) (rest := []) (lenOf pd_11 rfl) rfl (by show 2 * 0 + _ ≤ _; exact Nat.le_of_eq rfl) (hb hby at_21) (fun _ _ => ⟨rfl, e0, (by decide : 0 + 0 ≤ _), (by decide : 0 + 0 ≤ _)⟩)
  dsimp only [Pt.U, Pt.locs, Pt.cells, Pt.slots] at X1 l1 y1 z1 st1 hQ1
  subst l1 y1 z1
  obtain ⟨rfl, Nq1, ee1⟩ := hQ1
  have N1 := Fr.app N0 Nq1
  refine Go.st st1 ?_
  show Go p.tables e below _ (T1.setTop (mkF m 24 #[.val (.int p1), .val (.int p2), .val (.int p3), .val (.int p4), .val (.int ch0), .val (.int ch1), .unset, .unset, .unset, .unset, .unset, .unset, .unset, .unset, .unset, .unset, .unset, .unset, .unset, .unset, .unset] [(.int (own_isWs ch1))]))
  suffices hj24_2 : Go p.tables e below (own_Fin s below room_1.cells room_1.slots (Q0 Z p1 p2 p3 p4 wc h0 n0)) (T1.setTop (mkF m 38 #[.val (.int p1), .val (.int p2), .val (.int p3), .val (.int p4), .val (.int ch0), .val (.int (if (own_isWs ch1) = (0 : Int32) then (if ch1 = (46 : Int32) then (120 : Int32) else ch1) else (120 : Int32))), .unset, .unset, .unset, .unset, .unset, .unset, .unset, .unset, .unset, .unset, .unset, .unset, .unset, .unset, .unset] [])) by
    by_cases hc24_2 : (own_isWs ch1) = (0 : Int32)
    · refine Go.st (fun U hr => XS.ifNo X1.here hx rfl (hb hby at_24) rfl ((if0 _ _).trans (teq hc24_2).2) hr) ?_
      show Go p.tables e below _ (T1.setTop (mkF m 27 #[.val (.int p1), .val (.int p2), .val (.int p3), .val (.int p4), .val (.int ch0), .val (.int ch1), .unset, .unset, .unset, .unset, .unset, .unset, .unset, .unset, .unset, .unset, .unset, .unset, .unset, .unset, .unset] []))
      refine Go.st (fun U hr => XS.iload X1.here hx rfl (hb hby at_27) rfl hr) ?_
      show Go p.tables e below _ (T1.setTop (mkF m 29 #[.val (.int p1), .val (.int p2), .val (.int p3), .val (.int p4), .val (.int ch0), .val (.int ch1), .unset, .unset, .unset, .unset, .unset, .unset, .unset, .unset, .unset, .unset, .unset, .unset, .unset, .unset, .unset] [(.int ch1)]))
      refine Go.st (fun U hr => XS.bipush X1.here hx rfl (hb hby at_29) hr) ?_
      show Go p.tables e below _ (T1.setTop (mkF m 31 #[.val (.int p1), .val (.int p2), .val (.int p3), .val (.int p4), .val (.int ch0), .val (.int ch1), .unset, .unset, .unset, .unset, .unset, .unset, .unset, .unset, .unset, .unset, .unset, .unset, .unset, .unset, .unset] [(.int (46 : Int32)), (.int ch1)]))
      suffices hj31_3 : Go p.tables e below (own_Fin s below room_1.cells room_1.slots (Q0 Z p1 p2 p3 p4 wc h0 n0)) (T1.setTop (mkF m 38 #[.val (.int p1), .val (.int p2), .val (.int p3), .val (.int p4), .val (.int ch0), .val (.int (if ch1 = (46 : Int32) then (120 : Int32) else ch1)), .unset, .unset, .unset, .unset, .unset, .unset, .unset, .unset, .unset, .unset, .unset, .unset, .unset, .unset, .unset] [])) by
        by_cases hc31_3 : ch1 = (46 : Int32)
        · refine Go.st (fun U hr => XS.icmpNo X1.here hx rfl (hb hby at_31) rfl (teq hc31_3).2 hr) ?_
          show Go p.tables e below _ (T1.setTop (mkF m 34 #[.val (.int p1), .val (.int p2), .val (.int p3), .val (.int p4), .val (.int ch0), .val (.int ch1), .unset, .unset, .unset, .unset, .unset, .unset, .unset, .unset, .unset, .unset, .unset, .unset, .unset, .unset, .unset] []))
          refine Go.st (fun U hr => XS.bipush X1.here hx rfl (hb hby at_34) hr) ?_
          show Go p.tables e below _ (T1.setTop (mkF m 36 #[.val (.int p1), .val (.int p2), .val (.int p3), .val (.int p4), .val (.int ch0), .val (.int ch1), .unset, .unset, .unset, .unset, .unset, .unset, .unset, .unset, .unset, .unset, .unset, .unset, .unset, .unset, .unset] [(.int (120 : Int32))]))
          refine Go.st (fun U hr => XS.istore X1.here hx rfl (hb hby at_36) rfl (l' := #[.val (.int p1), .val (.int p2), .val (.int p3), .val (.int p4), .val (.int ch0), .val (.int (120 : Int32)), .unset, .unset, .unset, .unset, .unset, .unset, .unset, .unset, .unset, .unset, .unset, .unset, .unset, .unset, .unset]) rfl hr) ?_
          show Go p.tables e below _ (T1.setTop (mkF m 38 #[.val (.int p1), .val (.int p2), .val (.int p3), .val (.int p4), .val (.int ch0), .val (.int (120 : Int32)), .unset, .unset, .unset, .unset, .unset, .unset, .unset, .unset, .unset, .unset, .unset, .unset, .unset, .unset, .unset] []))
          simpa only [if_pos hc31_3] using hj31_3
        · refine Go.st (fun U hr => XS.icmpYes X1.here hx rfl (pc0 := 31) (pc' := 38) rfl (hb hby at_31) rfl (feq hc31_3).2 (by decide) (by decide) hr) ?_
          show Go p.tables e below _ (T1.setTop (mkF m 38 #[.val (.int p1), .val (.int p2), .val (.int p3), .val (.int p4), .val (.int ch0), .val (.int ch1), .unset, .unset, .unset, .unset, .unset, .unset, .unset, .unset, .unset, .unset, .unset, .unset, .unset, .unset, .unset] []))
          simpa only [if_neg hc31_3] using hj31_3
      simpa only [if_pos hc24_2] using hj24_2
    · refine Go.st (fun U hr => XS.ifYes X1.here hx rfl (pc0 := 24) (pc' := 34) rfl (hb hby at_24) rfl ((if0 _ _).trans (feq hc24_2).2) (by decide) (by decide) hr) ?_
      show Go p.tables e below _ (T1.setTop (mkF m 34 #[.val (.int p1), .val (.int p2), .val (.int p3), .val (.int p4), .val (.int ch0), .val (.int ch1), .unset, .unset, .unset, .unset, .unset, .unset, .unset, .unset, .unset, .unset, .unset, .unset, .unset, .unset, .unset] []))
      refine Go.st (fun U hr => XS.bipush X1.here hx rfl (hb hby at_34) hr) ?_
      show Go p.tables e below _ (T1.setTop (mkF m 36 #[.val (.int p1), .val (.int p2), .val (.int p3), .val (.int p4), .val (.int ch0), .val (.int ch1), .unset, .unset, .unset, .unset, .unset, .unset, .unset, .unset, .unset, .unset, .unset, .unset, .unset, .unset, .unset] [(.int (120 : Int32))]))
      refine Go.st (fun U hr => XS.istore X1.here hx rfl (hb hby at_36) rfl (l' := #[.val (.int p1), .val (.int p2), .val (.int p3), .val (.int p4), .val (.int ch0), .val (.int (120 : Int32)), .unset, .unset, .unset, .unset, .unset, .unset, .unset, .unset, .unset, .unset, .unset, .unset, .unset, .unset, .unset]) rfl hr) ?_
      show Go p.tables e below _ (T1.setTop (mkF m 38 #[.val (.int p1), .val (.int p2), .val (.int p3), .val (.int p4), .val (.int ch0), .val (.int (120 : Int32)), .unset, .unset, .unset, .unset, .unset, .unset, .unset, .unset, .unset, .unset, .unset, .unset, .unset, .unset, .unset] []))
      simpa only [if_neg hc24_2] using hj24_2
  generalize h_ch1' : (if (own_isWs ch1) = (0 : Int32) then (if ch1 = (46 : Int32) then (120 : Int32) else ch1) else (120 : Int32)) = ch1'
  have hch1' : 0 ≤ ch1'.toInt ∧ ch1'.toInt < 256 := by
    rw [← h_ch1']
    (repeat' split) <;> first | exact hch1 | decide
  refine Go.st (fun U hr => XS.iloadN X1.here hx rfl (hb hby at_38) rfl hr) ?_
  show Go p.tables e below _ (T1.setTop (mkF m 39 #[.val (.int p1), .val (.int p2), .val (.int p3), .val (.int p4), .val (.int ch0), .val (.int ch1'), .unset, .unset, .unset, .unset, .unset, .unset, .unset, .unset, .unset, .unset, .unset, .unset, .unset, .unset, .unset] [(.int p2)]))
  refine Go.st (fun U hr => XS.iconst X1.here hx rfl (hb hby at_39) hr) ?_
  show Go p.tables e below _ (T1.setTop (mkF m 40 #[.val (.int p1), .val (.int p2), .val (.int p3), .val (.int p4), .val (.int ch0), .val (.int ch1'), .unset, .unset, .unset, .unset, .unset, .unset, .unset, .unset, .unset, .unset, .unset, .unset, .unset, .unset, .unset] [(.int (1 : Int32)), (.int p2)]))
  refine Go.st (fun U hr => XS.iand X1.here hx rfl (hb hby at_40) rfl hr) ?_
  show Go p.tables e below _ (T1.setTop (mkF m 41 #[.val (.int p1), .val (.int p2), .val (.int p3), .val (.int p4), .val (.int ch0), .val (.int ch1'), .unset, .unset, .unset, .unset, .unset, .unset, .unset, .unset, .unset, .unset, .unset, .unset, .unset, .unset, .unset] [(.int (p2 &&& (1 : Int32)))]))
  suffices hj41_4 : Go p.tables e below (own_Fin s below room_1.cells room_1.slots (Q0 Z p1 p2 p3 p4 wc h0 n0)) (T1.setTop (mkF m 49 #[.val (.int p1), .val (.int p2), .val (.int p3), .val (.int p4), .val (.int ch0), .val (.int ch1'), .unset, .unset, .unset, .unset, .unset, .unset, .unset, .unset, .unset, .unset, .unset, .unset, .unset, .unset, .unset] [(.int (if (p2 &&& (1 : Int32)) = (0 : Int32) then (0 : Int32) else (1 : Int32)))])) by
    by_cases hc41_4 : (p2 &&& (1 : Int32)) = (0 : Int32)
    · refine Go.st (fun U hr => XS.ifYes X1.here hx rfl (pc0 := 41) (pc' := 48) rfl (hb hby at_41) rfl ((if0 _ _).trans (teq hc41_4).1) (by decide) (by decide) hr) ?_
      show Go p.tables e below _ (T1.setTop (mkF m 48 #[.val (.int p1), .val (.int p2), .val (.int p3), .val (.int p4), .val (.int ch0), .val (.int ch1'), .unset, .unset, .unset, .unset, .unset, .unset, .unset, .unset, .unset, .unset, .unset, .unset, .unset, .unset, .unset] []))
      refine Go.st (fun U hr => XS.iconst X1.here hx rfl (hb hby at_48) hr) ?_
      show Go p.tables e below _ (T1.setTop (mkF m 49 #[.val (.int p1), .val (.int p2), .val (.int p3), .val (.int p4), .val (.int ch0), .val (.int ch1'), .unset, .unset, .unset, .unset, .unset, .unset, .unset, .unset, .unset, .unset, .unset, .unset, .unset, .unset, .unset] [(.int (0 : Int32))]))
      simpa only [if_pos hc41_4] using hj41_4
    · refine Go.st (fun U hr => XS.ifNo X1.here hx rfl (hb hby at_41) rfl ((if0 _ _).trans (feq hc41_4).1) hr) ?_
      show Go p.tables e below _ (T1.setTop (mkF m 44 #[.val (.int p1), .val (.int p2), .val (.int p3), .val (.int p4), .val (.int ch0), .val (.int ch1'), .unset, .unset, .unset, .unset, .unset, .unset, .unset, .unset, .unset, .unset, .unset, .unset, .unset, .unset, .unset] []))
      refine Go.st (fun U hr => XS.iconst X1.here hx rfl (hb hby at_44) hr) ?_
      show Go p.tables e below _ (T1.setTop (mkF m 45 #[.val (.int p1), .val (.int p2), .val (.int p3), .val (.int p4), .val (.int ch0), .val (.int ch1'), .unset, .unset, .unset, .unset, .unset, .unset, .unset, .unset, .unset, .unset, .unset, .unset, .unset, .unset, .unset] [(.int (1 : Int32))]))
      refine Go.st (fun U hr => XS.goto X1.here hx rfl (pc0 := 45) (pc' := 49) rfl (hb hby at_45) (by decide) (by decide) hr) ?_
      show Go p.tables e below _ (T1.setTop (mkF m 49 #[.val (.int p1), .val (.int p2), .val (.int p3), .val (.int p4), .val (.int ch0), .val (.int ch1'), .unset, .unset, .unset, .unset, .unset, .unset, .unset, .unset, .unset, .unset, .unset, .unset, .unset, .unset, .unset] [(.int (1 : Int32))]))
      simpa only [if_neg hc41_4] using hj41_4
  generalize h_dt : (if (p2 &&& (1 : Int32)) = (0 : Int32) then (0 : Int32) else (1 : Int32)) = dt
  refine Go.st (fun U hr => XS.istore X1.here hx rfl (hb hby at_49) rfl (l' := #[.val (.int p1), .val (.int p2), .val (.int p3), .val (.int p4), .val (.int ch0), .val (.int ch1'), .val (.int dt), .unset, .unset, .unset, .unset, .unset, .unset, .unset, .unset, .unset, .unset, .unset, .unset, .unset, .unset]) rfl hr) ?_
  show Go p.tables e below _ (T1.setTop (mkF m 51 #[.val (.int p1), .val (.int p2), .val (.int p3), .val (.int p4), .val (.int ch0), .val (.int ch1'), .val (.int dt), .unset, .unset, .unset, .unset, .unset, .unset, .unset, .unset, .unset, .unset, .unset, .unset, .unset, .unset] []))
  refine Go.st (fun U hr => XS.iloadN X1.here hx rfl (hb hby at_51) rfl hr) ?_
  show Go p.tables e below _ (T1.setTop (mkF m 52 #[.val (.int p1), .val (.int p2), .val (.int p3), .val (.int p4), .val (.int ch0), .val (.int ch1'), .val (.int dt), .unset, .unset, .unset, .unset, .unset, .unset, .unset, .unset, .unset, .unset, .unset, .unset, .unset, .unset] [(.int p2)]))
  refine Go.st (fun U hr => XS.iconst X1.here hx rfl (hb hby at_52) hr) ?_
  show Go p.tables e below _ (T1.setTop (mkF m 53 #[.val (.int p1), .val (.int p2), .val (.int p3), .val (.int p4), .val (.int ch0), .val (.int ch1'), .val (.int dt), .unset, .unset, .unset, .unset, .unset, .unset, .unset, .unset, .unset, .unset, .unset, .unset, .unset, .unset] [(.int (1 : Int32)), (.int p2)]))
  refine Go.st (fun U hr => XS.iushr X1.here hx rfl (hb hby at_53) rfl hr) ?_
  show Go p.tables e below _ (T1.setTop (mkF m 54 #[.val (.int p1), .val (.int p2), .val (.int p3), .val (.int p4), .val (.int ch0), .val (.int ch1'), .val (.int dt), .unset, .unset, .unset, .unset, .unset, .unset, .unset, .unset, .unset, .unset, .unset, .unset, .unset, .unset] [(.int ((p2.toUInt32 >>> ((1 : Int32) &&& 31).toUInt32).toInt32))]))
  refine Go.st (fun U hr => XS.iconst X1.here hx rfl (hb hby at_54) hr) ?_
  show Go p.tables e below _ (T1.setTop (mkF m 55 #[.val (.int p1), .val (.int p2), .val (.int p3), .val (.int p4), .val (.int ch0), .val (.int ch1'), .val (.int dt), .unset, .unset, .unset, .unset, .unset, .unset, .unset, .unset, .unset, .unset, .unset, .unset, .unset, .unset] [(.int (1 : Int32)), (.int ((p2.toUInt32 >>> ((1 : Int32) &&& 31).toUInt32).toInt32))]))
  refine Go.st (fun U hr => XS.iand X1.here hx rfl (hb hby at_55) rfl hr) ?_
  show Go p.tables e below _ (T1.setTop (mkF m 56 #[.val (.int p1), .val (.int p2), .val (.int p3), .val (.int p4), .val (.int ch0), .val (.int ch1'), .val (.int dt), .unset, .unset, .unset, .unset, .unset, .unset, .unset, .unset, .unset, .unset, .unset, .unset, .unset, .unset] [(.int (((p2.toUInt32 >>> ((1 : Int32) &&& 31).toUInt32).toInt32) &&& (1 : Int32)))]))
  refine Go.st (fun U hr => XS.istore X1.here hx rfl (hb hby at_56) rfl (l' := #[.val (.int p1), .val (.int p2), .val (.int p3), .val (.int p4), .val (.int ch0), .val (.int ch1'), .val (.int dt), .val (.int (((p2.toUInt32 >>> ((1 : Int32) &&& 31).toUInt32).toInt32) &&& (1 : Int32))), .unset, .unset, .unset, .unset, .unset, .unset, .unset, .unset, .unset, .unset, .unset, .unset, .unset]) rfl hr) ?_
  show Go p.tables e below _ (T1.setTop (mkF m 58 #[.val (.int p1), .val (.int p2), .val (.int p3), .val (.int p4), .val (.int ch0), .val (.int ch1'), .val (.int dt), .val (.int (((p2.toUInt32 >>> ((1 : Int32) &&& 31).toUInt32).toInt32) &&& (1 : Int32))), .unset, .unset, .unset, .unset, .unset, .unset, .unset, .unset, .unset, .unset, .unset, .unset, .unset] []))
  generalize h_tt : (((p2.toUInt32 >>> ((1 : Int32) &&& 31).toUInt32).toInt32) &&& (1 : Int32)) = tt
  have htt : 0 ≤ tt.toInt ∧ tt.toInt ≤ 1 := by rw [← h_tt]; exact own_and _ 1 (Or.inr rfl)
  refine Go.st (fun U hr => XS.iloadN X1.here hx rfl (hb hby at_58) rfl hr) ?_
  show Go p.tables e below _ (T1.setTop (mkF m 59 #[.val (.int p1), .val (.int p2), .val (.int p3), .val (.int p4), .val (.int ch0), .val (.int ch1'), .val (.int dt), .val (.int tt), .unset, .unset, .unset, .unset, .unset, .unset, .unset, .unset, .unset, .unset, .unset, .unset, .unset] [(.int p2)]))
  refine Go.st (fun U hr => XS.iconst X1.here hx rfl (hb hby at_59) hr) ?_
  show Go p.tables e below _ (T1.setTop (mkF m 60 #[.val (.int p1), .val (.int p2), .val (.int p3), .val (.int p4), .val (.int ch0), .val (.int ch1'), .val (.int dt), .val (.int tt), .unset, .unset, .unset, .unset, .unset, .unset, .unset, .unset, .unset, .unset, .unset, .unset, .unset] [(.int (2 : Int32)), (.int p2)]))
  refine Go.st (fun U hr => XS.iushr X1.here hx rfl (hb hby at_60) rfl hr) ?_
  show Go p.tables e below _ (T1.setTop (mkF m 61 #[.val (.int p1), .val (.int p2), .val (.int p3), .val (.int p4), .val (.int ch0), .val (.int ch1'), .val (.int dt), .val (.int tt), .unset, .unset, .unset, .unset, .unset, .unset, .unset, .unset, .unset, .unset, .unset, .unset, .unset] [(.int ((p2.toUInt32 >>> ((2 : Int32) &&& 31).toUInt32).toInt32))]))
  refine Go.st (fun U hr => XS.sipush X1.here hx rfl (hb hby at_61) hr) ?_
  show Go p.tables e below _ (T1.setTop (mkF m 64 #[.val (.int p1), .val (.int p2), .val (.int p3), .val (.int p4), .val (.int ch0), .val (.int ch1'), .val (.int dt), .val (.int tt), .unset, .unset, .unset, .unset, .unset, .unset, .unset, .unset, .unset, .unset, .unset, .unset, .unset] [(.int (255 : Int32)), (.int ((p2.toUInt32 >>> ((2 : Int32) &&& 31).toUInt32).toInt32))]))
  refine Go.st (fun U hr => XS.iand X1.here hx rfl (hb hby at_64) rfl hr) ?_
  show Go p.tables e below _ (T1.setTop (mkF m 65 #[.val (.int p1), .val (.int p2), .val (.int p3), .val (.int p4), .val (.int ch0), .val (.int ch1'), .val (.int dt), .val (.int tt), .unset, .unset, .unset, .unset, .unset, .unset, .unset, .unset, .unset, .unset, .unset, .unset, .unset] [(.int (((p2.toUInt32 >>> ((2 : Int32) &&& 31).toUInt32).toInt32) &&& (255 : Int32)))]))
  refine Go.st (fun U hr => XS.iconst X1.here hx rfl (hb hby at_65) hr) ?_
  show Go p.tables e below _ (T1.setTop (mkF m 66 #[.val (.int p1), .val (.int p2), .val (.int p3), .val (.int p4), .val (.int ch0), .val (.int ch1'), .val (.int dt), .val (.int tt), .unset, .unset, .unset, .unset, .unset, .unset, .unset, .unset, .unset, .unset, .unset, .unset, .unset] [(.int (3 : Int32)), (.int (((p2.toUInt32 >>> ((2 : Int32) &&& 31).toUInt32).toInt32) &&& (255 : Int32)))]))
  refine Go.st (fun U hr => XS.irem X1.here hx rfl (hb hby at_66) rfl (by decide) hr) ?_
  show Go p.tables e below _ (T1.setTop (mkF m 67 #[.val (.int p1), .val (.int p2), .val (.int p3), .val (.int p4), .val (.int ch0), .val (.int ch1'), .val (.int dt), .val (.int tt), .unset, .unset, .unset, .unset, .unset, .unset, .unset, .unset, .unset, .unset, .unset, .unset, .unset] [(.int ((((p2.toUInt32 >>> ((2 : Int32) &&& 31).toUInt32).toInt32) &&& (255 : Int32)) - ((((p2.toUInt32 >>> ((2 : Int32) &&& 31).toUInt32).toInt32) &&& (255 : Int32)) / (3 : Int32)) * (3 : Int32)))]))
  refine Go.st (fun U hr => XS.istore X1.here hx rfl (hb hby at_67) rfl (l' := #[.val (.int p1), .val (.int p2), .val (.int p3), .val (.int p4), .val (.int ch0), .val (.int ch1'), .val (.int dt), .val (.int tt), .val (.int ((((p2.toUInt32 >>> ((2 : Int32) &&& 31).toUInt32).toInt32) &&& (255 : Int32)) - ((((p2.toUInt32 >>> ((2 : Int32) &&& 31).toUInt32).toInt32) &&& (255 : Int32)) / (3 : Int32)) * (3 : Int32))), .unset, .unset, .unset, .unset, .unset, .unset, .unset, .unset, .unset, .unset, .unset, .unset]) rfl hr) ?_
  show Go p.tables e below _ (T1.setTop (mkF m 69 #[.val (.int p1), .val (.int p2), .val (.int p3), .val (.int p4), .val (.int ch0), .val (.int ch1'), .val (.int dt), .val (.int tt), .val (.int ((((p2.toUInt32 >>> ((2 : Int32) &&& 31).toUInt32).toInt32) &&& (255 : Int32)) - ((((p2.toUInt32 >>> ((2 : Int32) &&& 31).toUInt32).toInt32) &&& (255 : Int32)) / (3 : Int32)) * (3 : Int32))), .unset, .unset, .unset, .unset, .unset, .unset, .unset, .unset, .unset, .unset, .unset, .unset] []))
  generalize h_kd : ((((p2.toUInt32 >>> ((2 : Int32) &&& 31).toUInt32).toInt32) &&& (255 : Int32)) - ((((p2.toUInt32 >>> ((2 : Int32) &&& 31).toUInt32).toInt32) &&& (255 : Int32)) / (3 : Int32)) * (3 : Int32)) = kd
  have hkd : 0 ≤ kd.toInt ∧ kd.toInt < 3 := by
    rw [← h_kd]
    exact own_rem _ 3 (own_and _ 255 (Or.inl rfl)).1 (by decide)
  refine Go.st (fun U hr => XS.bipush X1.here hx rfl (hb hby at_69) hr) ?_
  show Go p.tables e below _ (T1.setTop (mkF m 71 #[.val (.int p1), .val (.int p2), .val (.int p3), .val (.int p4), .val (.int ch0), .val (.int ch1'), .val (.int dt), .val (.int tt), .val (.int kd), .unset, .unset, .unset, .unset, .unset, .unset, .unset, .unset, .unset, .unset, .unset, .unset] [(.int (8 : Int32))]))
  refine Go.st (fun U hr => XS.iload X1.here hx rfl (hb hby at_71) rfl hr) ?_
  show Go p.tables e below _ (T1.setTop (mkF m 73 #[.val (.int p1), .val (.int p2), .val (.int p3), .val (.int p4), .val (.int ch0), .val (.int ch1'), .val (.int dt), .val (.int tt), .val (.int kd), .unset, .unset, .unset, .unset, .unset, .unset, .unset, .unset, .unset, .unset, .unset, .unset] [(.int tt), (.int (8 : Int32))]))
  refine Go.st (fun U hr => XS.isub X1.here hx rfl (hb hby at_73) rfl hr) ?_
  show Go p.tables e below _ (T1.setTop (mkF m 74 #[.val (.int p1), .val (.int p2), .val (.int p3), .val (.int p4), .val (.int ch0), .val (.int ch1'), .val (.int dt), .val (.int tt), .val (.int kd), .unset, .unset, .unset, .unset, .unset, .unset, .unset, .unset, .unset, .unset, .unset, .unset] [(.int ((8 : Int32) - tt))]))
  refine Go.st (fun U hr => XS.istore X1.here hx rfl (hb hby at_74) rfl (l' := #[.val (.int p1), .val (.int p2), .val (.int p3), .val (.int p4), .val (.int ch0), .val (.int ch1'), .val (.int dt), .val (.int tt), .val (.int kd), .val (.int ((8 : Int32) - tt)), .unset, .unset, .unset, .unset, .unset, .unset, .unset, .unset, .unset, .unset, .unset]) rfl hr) ?_
  show Go p.tables e below _ (T1.setTop (mkF m 76 #[.val (.int p1), .val (.int p2), .val (.int p3), .val (.int p4), .val (.int ch0), .val (.int ch1'), .val (.int dt), .val (.int tt), .val (.int kd), .val (.int ((8 : Int32) - tt)), .unset, .unset, .unset, .unset, .unset, .unset, .unset, .unset, .unset, .unset, .unset] []))
  generalize h_pe : ((8 : Int32) - tt) = pe
  have hpe : pe.toInt = 8 - tt.toInt := by
    have h1 := c_isub 8 tt
    have := rng32 (8 - tt)
    rw [show (8 : Int32).toInt = 8 from by decide, h_pe] at *
    omega
  refine Go.st (fun U hr => XS.iload X1.here hx rfl (hb hby at_76) rfl hr) ?_
  show Go p.tables e below _ (T1.setTop (mkF m 78 #[.val (.int p1), .val (.int p2), .val (.int p3), .val (.int p4), .val (.int ch0), .val (.int ch1'), .val (.int dt), .val (.int tt), .val (.int kd), .val (.int pe), .unset, .unset, .unset, .unset, .unset, .unset, .unset, .unset, .unset, .unset, .unset] [(.int pe)]))
  refine Go.st (fun U hr => XS.iload X1.here hx rfl (hb hby at_78) rfl hr) ?_
  show Go p.tables e below _ (T1.setTop (mkF m 80 #[.val (.int p1), .val (.int p2), .val (.int p3), .val (.int p4), .val (.int ch0), .val (.int ch1'), .val (.int dt), .val (.int tt), .val (.int kd), .val (.int pe), .unset, .unset, .unset, .unset, .unset, .unset, .unset, .unset, .unset, .unset, .unset] [(.int kd), (.int pe)]))
  refine Go.st (fun U hr => XS.iconst X1.here hx rfl (hb hby at_80) hr) ?_
  show Go p.tables e below _ (T1.setTop (mkF m 81 #[.val (.int p1), .val (.int p2), .val (.int p3), .val (.int p4), .val (.int ch0), .val (.int ch1'), .val (.int dt), .val (.int tt), .val (.int kd), .val (.int pe), .unset, .unset, .unset, .unset, .unset, .unset, .unset, .unset, .unset, .unset, .unset] [(.int (1 : Int32)), (.int kd), (.int pe)]))
  refine Go.st (fun U hr => XS.iadd X1.here hx rfl (hb hby at_81) rfl hr) ?_
  show Go p.tables e below _ (T1.setTop (mkF m 82 #[.val (.int p1), .val (.int p2), .val (.int p3), .val (.int p4), .val (.int ch0), .val (.int ch1'), .val (.int dt), .val (.int tt), .val (.int kd), .val (.int pe), .unset, .unset, .unset, .unset, .unset, .unset, .unset, .unset, .unset, .unset, .unset] [(.int (kd + (1 : Int32))), (.int pe)]))
  refine Go.st (fun U hr => XS.isub X1.here hx rfl (hb hby at_82) rfl hr) ?_
  show Go p.tables e below _ (T1.setTop (mkF m 83 #[.val (.int p1), .val (.int p2), .val (.int p3), .val (.int p4), .val (.int ch0), .val (.int ch1'), .val (.int dt), .val (.int tt), .val (.int kd), .val (.int pe), .unset, .unset, .unset, .unset, .unset, .unset, .unset, .unset, .unset, .unset, .unset] [(.int (pe - (kd + (1 : Int32))))]))
  refine Go.st (fun U hr => XS.istore X1.here hx rfl (hb hby at_83) rfl (l' := #[.val (.int p1), .val (.int p2), .val (.int p3), .val (.int p4), .val (.int ch0), .val (.int ch1'), .val (.int dt), .val (.int tt), .val (.int kd), .val (.int pe), .val (.int (pe - (kd + (1 : Int32)))), .unset, .unset, .unset, .unset, .unset, .unset, .unset, .unset, .unset, .unset]) rfl hr) ?_
  show Go p.tables e below _ (T1.setTop (mkF m 85 #[.val (.int p1), .val (.int p2), .val (.int p3), .val (.int p4), .val (.int ch0), .val (.int ch1'), .val (.int dt), .val (.int tt), .val (.int kd), .val (.int pe), .val (.int (pe - (kd + (1 : Int32)))), .unset, .unset, .unset, .unset, .unset, .unset, .unset, .unset, .unset, .unset] []))
  generalize h_ps : (pe - (kd + (1 : Int32))) = ps
  have hps : ps.toInt = pe.toInt - (kd.toInt + 1) := by
    have h1 := c_iadd kd 1
    rw [show (1 : Int32).toInt = 1 from by decide] at h1
    have r1 := rng32 (kd + 1)
    have h2 := c_isub pe (kd + 1)
    have r2 := rng32 (pe - (kd + 1))
    rw [h_ps] at h2 r2
    omega
  refine Go.st (fun U hr => XS.iload X1.here hx rfl (hb hby at_85) rfl hr) ?_
  show Go p.tables e below _ (T1.setTop (mkF m 87 #[.val (.int p1), .val (.int p2), .val (.int p3), .val (.int p4), .val (.int ch0), .val (.int ch1'), .val (.int dt), .val (.int tt), .val (.int kd), .val (.int pe), .val (.int ps), .unset, .unset, .unset, .unset, .unset, .unset, .unset, .unset, .unset, .unset] [(.int kd)]))
  refine Go.st (fun U hr => XS.iconst X1.here hx rfl (hb hby at_87) hr) ?_
  show Go p.tables e below _ (T1.setTop (mkF m 88 #[.val (.int p1), .val (.int p2), .val (.int p3), .val (.int p4), .val (.int ch0), .val (.int ch1'), .val (.int dt), .val (.int tt), .val (.int kd), .val (.int pe), .val (.int ps), .unset, .unset, .unset, .unset, .unset, .unset, .unset, .unset, .unset, .unset] [(.int (2 : Int32)), (.int kd)]))
  suffices hj88_5 : Go p.tables e below (own_Fin s below room_1.cells room_1.slots (Q0 Z p1 p2 p3 p4 wc h0 n0)) (T1.setTop (mkF m 96 #[.val (.int p1), .val (.int p2), .val (.int p3), .val (.int p4), .val (.int ch0), .val (.int ch1'), .val (.int dt), .val (.int tt), .val (.int kd), .val (.int pe), .val (.int ps), .unset, .unset, .unset, .unset, .unset, .unset, .unset, .unset, .unset, .unset] [(.int (if kd = (2 : Int32) then (1 : Int32) else (0 : Int32)))])) by
    by_cases hc88_5 : kd = (2 : Int32)
    · refine Go.st (fun U hr => XS.icmpNo X1.here hx rfl (hb hby at_88) rfl (teq hc88_5).2 hr) ?_
      show Go p.tables e below _ (T1.setTop (mkF m 91 #[.val (.int p1), .val (.int p2), .val (.int p3), .val (.int p4), .val (.int ch0), .val (.int ch1'), .val (.int dt), .val (.int tt), .val (.int kd), .val (.int pe), .val (.int ps), .unset, .unset, .unset, .unset, .unset, .unset, .unset, .unset, .unset, .unset] []))
      refine Go.st (fun U hr => XS.iconst X1.here hx rfl (hb hby at_91) hr) ?_
      show Go p.tables e below _ (T1.setTop (mkF m 92 #[.val (.int p1), .val (.int p2), .val (.int p3), .val (.int p4), .val (.int ch0), .val (.int ch1'), .val (.int dt), .val (.int tt), .val (.int kd), .val (.int pe), .val (.int ps), .unset, .unset, .unset, .unset, .unset, .unset, .unset, .unset, .unset, .unset] [(.int (1 : Int32))]))
      refine Go.st (fun U hr => XS.goto X1.here hx rfl (pc0 := 92) (pc' := 96) rfl (hb hby at_92) (by decide) (by decide) hr) ?_
      show Go p.tables e below _ (T1.setTop (mkF m 96 #[.val (.int p1), .val (.int p2), .val (.int p3), .val (.int p4), .val (.int ch0), .val (.int ch1'), .val (.int dt), .val (.int tt), .val (.int kd), .val (.int pe), .val (.int ps), .unset, .unset, .unset, .unset, .unset, .unset, .unset, .unset, .unset, .unset] [(.int (1 : Int32))]))
      simpa only [if_pos hc88_5] using hj88_5
    · refine Go.st (fun U hr => XS.icmpYes X1.here hx rfl (pc0 := 88) (pc' := 95) rfl (hb hby at_88) rfl (feq hc88_5).2 (by decide) (by decide) hr) ?_
      show Go p.tables e below _ (T1.setTop (mkF m 95 #[.val (.int p1), .val (.int p2), .val (.int p3), .val (.int p4), .val (.int ch0), .val (.int ch1'), .val (.int dt), .val (.int tt), .val (.int kd), .val (.int pe), .val (.int ps), .unset, .unset, .unset, .unset, .unset, .unset, .unset, .unset, .unset, .unset] []))
      refine Go.st (fun U hr => XS.iconst X1.here hx rfl (hb hby at_95) hr) ?_
      show Go p.tables e below _ (T1.setTop (mkF m 96 #[.val (.int p1), .val (.int p2), .val (.int p3), .val (.int p4), .val (.int ch0), .val (.int ch1'), .val (.int dt), .val (.int tt), .val (.int kd), .val (.int pe), .val (.int ps), .unset, .unset, .unset, .unset, .unset, .unset, .unset, .unset, .unset, .unset] [(.int (0 : Int32))]))
      simpa only [if_neg hc88_5] using hj88_5
  refine Go.st (fun U hr => XS.istore X1.here hx rfl (hb hby at_96) rfl (l' := #[.val (.int p1), .val (.int p2), .val (.int p3), .val (.int p4), .val (.int ch0), .val (.int ch1'), .val (.int dt), .val (.int tt), .val (.int kd), .val (.int pe), .val (.int ps), .val (.int (if kd = (2 : Int32) then (1 : Int32) else (0 : Int32))), .unset, .unset, .unset, .unset, .unset, .unset, .unset, .unset, .unset]) rfl hr) ?_
  show Go p.tables e below _ (T1.setTop (mkF m 98 #[.val (.int p1), .val (.int p2), .val (.int p3), .val (.int p4), .val (.int ch0), .val (.int ch1'), .val (.int dt), .val (.int tt), .val (.int kd), .val (.int pe), .val (.int ps), .val (.int (if kd = (2 : Int32) then (1 : Int32) else (0 : Int32))), .unset, .unset, .unset, .unset, .unset, .unset, .unset, .unset, .unset] []))
  generalize h_da : (if kd = (2 : Int32) then (1 : Int32) else (0 : Int32)) = da
  refine Go.st (fun U hr => XS.iload X1.here hx rfl (hb hby at_98) rfl hr) ?_
  show Go p.tables e below _ (T1.setTop (mkF m 100 #[.val (.int p1), .val (.int p2), .val (.int p3), .val (.int p4), .val (.int ch0), .val (.int ch1'), .val (.int dt), .val (.int tt), .val (.int kd), .val (.int pe), .val (.int ps), .val (.int da), .unset, .unset, .unset, .unset, .unset, .unset, .unset, .unset, .unset] [(.int ps)]))
  refine Go.st (fun U hr => XS.iconst X1.here hx rfl (hb hby at_100) hr) ?_
  show Go p.tables e below _ (T1.setTop (mkF m 101 #[.val (.int p1), .val (.int p2), .val (.int p3), .val (.int p4), .val (.int ch0), .val (.int ch1'), .val (.int dt), .val (.int tt), .val (.int kd), .val (.int pe), .val (.int ps), .val (.int da), .unset, .unset, .unset, .unset, .unset, .unset, .unset, .unset, .unset] [(.int (2 : Int32)), (.int ps)]))
  refine Go.st (fun U hr => XS.isub X1.here hx rfl (hb hby at_101) rfl hr) ?_
  show Go p.tables e below _ (T1.setTop (mkF m 102 #[.val (.int p1), .val (.int p2), .val (.int p3), .val (.int p4), .val (.int ch0), .val (.int ch1'), .val (.int dt), .val (.int tt), .val (.int kd), .val (.int pe), .val (.int ps), .val (.int da), .unset, .unset, .unset, .unset, .unset, .unset, .unset, .unset, .unset] [(.int (ps - (2 : Int32)))]))
  refine Go.st (fun U hr => XS.istore X1.here hx rfl (hb hby at_102) rfl (l' := #[.val (.int p1), .val (.int p2), .val (.int p3), .val (.int p4), .val (.int ch0), .val (.int ch1'), .val (.int dt), .val (.int tt), .val (.int kd), .val (.int pe), .val (.int ps), .val (.int da), .val (.int (ps - (2 : Int32))), .unset, .unset, .unset, .unset, .unset, .unset, .unset, .unset]) rfl hr) ?_
  show Go p.tables e below _ (T1.setTop (mkF m 104 #[.val (.int p1), .val (.int p2), .val (.int p3), .val (.int p4), .val (.int ch0), .val (.int ch1'), .val (.int dt), .val (.int tt), .val (.int kd), .val (.int pe), .val (.int ps), .val (.int da), .val (.int (ps - (2 : Int32))), .unset, .unset, .unset, .unset, .unset, .unset, .unset, .unset] []))
  generalize h_ln : (ps - (2 : Int32)) = ln
  have hln : ln.toInt = ps.toInt - 2 := by
    have h1 := c_isub ps 2
    rw [show (2 : Int32).toInt = 2 from by decide, h_ln] at h1
    have := rng32 ln
    omega
  refine Go.st (fun U hr => XS.iload X1.here hx rfl (hb hby at_104) rfl hr) ?_
  show Go p.tables e below _ (T1.setTop (mkF m 106 #[.val (.int p1), .val (.int p2), .val (.int p3), .val (.int p4), .val (.int ch0), .val (.int ch1'), .val (.int dt), .val (.int tt), .val (.int kd), .val (.int pe), .val (.int ps), .val (.int da), .val (.int ln), .unset, .unset, .unset, .unset, .unset, .unset, .unset, .unset] [(.int ln)]))
  refine Go.st (fun U hr => XS.iconst X1.here hx rfl (hb hby at_106) hr) ?_
  show Go p.tables e below _ (T1.setTop (mkF m 107 #[.val (.int p1), .val (.int p2), .val (.int p3), .val (.int p4), .val (.int ch0), .val (.int ch1'), .val (.int dt), .val (.int tt), .val (.int kd), .val (.int pe), .val (.int ps), .val (.int da), .val (.int ln), .unset, .unset, .unset, .unset, .unset, .unset, .unset, .unset] [(.int (3 : Int32)), (.int ln)]))
  suffices hj107_6 : Go p.tables e below (own_Fin s below room_1.cells room_1.slots (Q0 Z p1 p2 p3 p4 wc h0 n0)) (T1.setTop (mkF m 120 #[.val (.int p1), .val (.int p2), .val (.int p3), .val (.int p4), .val (.int ch0), .val (.int ch1'), .val (.int dt), .val (.int tt), .val (.int kd), .val (.int pe), .val (.int ps), .val (.int da), .val (.int ln), .unset, .unset, .unset, .unset, .unset, .unset, .unset, .unset] [(.int (if ln < (3 : Int32) then (0 : Int32) else (((p2.toUInt32 >>> ((10 : Int32) &&& 31).toUInt32).toInt32) &&& (1 : Int32))))])) by
    by_cases hc107_6 : ln < (3 : Int32)
    · refine Go.st (fun U hr => XS.icmpYes X1.here hx rfl (pc0 := 107) (pc' := 119) rfl (hb hby at_107) rfl (tlt hc107_6).1 (by decide) (by decide) hr) ?_
      show Go p.tables e below _ (T1.setTop (mkF m 119 #[.val (.int p1), .val (.int p2), .val (.int p3), .val (.int p4), .val (.int ch0), .val (.int ch1'), .val (.int dt), .val (.int tt), .val (.int kd), .val (.int pe), .val (.int ps), .val (.int da), .val (.int ln), .unset, .unset, .unset, .unset, .unset, .unset, .unset, .unset] []))
      refine Go.st (fun U hr => XS.iconst X1.here hx rfl (hb hby at_119) hr) ?_
      show Go p.tables e below _ (T1.setTop (mkF m 120 #[.val (.int p1), .val (.int p2), .val (.int p3), .val (.int p4), .val (.int ch0), .val (.int ch1'), .val (.int dt), .val (.int tt), .val (.int kd), .val (.int pe), .val (.int ps), .val (.int da), .val (.int ln), .unset, .unset, .unset, .unset, .unset, .unset, .unset, .unset] [(.int (0 : Int32))]))
      simpa only [if_pos hc107_6] using hj107_6
    · refine Go.st (fun U hr => XS.icmpNo X1.here hx rfl (hb hby at_107) rfl (flt hc107_6).1 hr) ?_
      show Go p.tables e below _ (T1.setTop (mkF m 110 #[.val (.int p1), .val (.int p2), .val (.int p3), .val (.int p4), .val (.int ch0), .val (.int ch1'), .val (.int dt), .val (.int tt), .val (.int kd), .val (.int pe), .val (.int ps), .val (.int da), .val (.int ln), .unset, .unset, .unset, .unset, .unset, .unset, .unset, .unset] []))
      refine Go.st (fun U hr => XS.iloadN X1.here hx rfl (hb hby at_110) rfl hr) ?_
      show Go p.tables e below _ (T1.setTop (mkF m 111 #[.val (.int p1), .val (.int p2), .val (.int p3), .val (.int p4), .val (.int ch0), .val (.int ch1'), .val (.int dt), .val (.int tt), .val (.int kd), .val (.int pe), .val (.int ps), .val (.int da), .val (.int ln), .unset, .unset, .unset, .unset, .unset, .unset, .unset, .unset] [(.int p2)]))
      refine Go.st (fun U hr => XS.bipush X1.here hx rfl (hb hby at_111) hr) ?_
      show Go p.tables e below _ (T1.setTop (mkF m 113 #[.val (.int p1), .val (.int p2), .val (.int p3), .val (.int p4), .val (.int ch0), .val (.int ch1'), .val (.int dt), .val (.int tt), .val (.int kd), .val (.int pe), .val (.int ps), .val (.int da), .val (.int ln), .unset, .unset, .unset, .unset, .unset, .unset, .unset, .unset] [(.int (10 : Int32)), (.int p2)]))
      refine Go.st (fun U hr => XS.iushr X1.here hx rfl (hb hby at_113) rfl hr) ?_
      show Go p.tables e below _ (T1.setTop (mkF m 114 #[.val (.int p1), .val (.int p2), .val (.int p3), .val (.int p4), .val (.int ch0), .val (.int ch1'), .val (.int dt), .val (.int tt), .val (.int kd), .val (.int pe), .val (.int ps), .val (.int da), .val (.int ln), .unset, .unset, .unset, .unset, .unset, .unset, .unset, .unset] [(.int ((p2.toUInt32 >>> ((10 : Int32) &&& 31).toUInt32).toInt32))]))
      refine Go.st (fun U hr => XS.iconst X1.here hx rfl (hb hby at_114) hr) ?_
      show Go p.tables e below _ (T1.setTop (mkF m 115 #[.val (.int p1), .val (.int p2), .val (.int p3), .val (.int p4), .val (.int ch0), .val (.int ch1'), .val (.int dt), .val (.int tt), .val (.int kd), .val (.int pe), .val (.int ps), .val (.int da), .val (.int ln), .unset, .unset, .unset, .unset, .unset, .unset, .unset, .unset] [(.int (1 : Int32)), (.int ((p2.toUInt32 >>> ((10 : Int32) &&& 31).toUInt32).toInt32))]))
      refine Go.st (fun U hr => XS.iand X1.here hx rfl (hb hby at_115) rfl hr) ?_
      show Go p.tables e below _ (T1.setTop (mkF m 116 #[.val (.int p1), .val (.int p2), .val (.int p3), .val (.int p4), .val (.int ch0), .val (.int ch1'), .val (.int dt), .val (.int tt), .val (.int kd), .val (.int pe), .val (.int ps), .val (.int da), .val (.int ln), .unset, .unset, .unset, .unset, .unset, .unset, .unset, .unset] [(.int (((p2.toUInt32 >>> ((10 : Int32) &&& 31).toUInt32).toInt32) &&& (1 : Int32)))]))
      refine Go.st (fun U hr => XS.goto X1.here hx rfl (pc0 := 116) (pc' := 120) rfl (hb hby at_116) (by decide) (by decide) hr) ?_
      show Go p.tables e below _ (T1.setTop (mkF m 120 #[.val (.int p1), .val (.int p2), .val (.int p3), .val (.int p4), .val (.int ch0), .val (.int ch1'), .val (.int dt), .val (.int tt), .val (.int kd), .val (.int pe), .val (.int ps), .val (.int da), .val (.int ln), .unset, .unset, .unset, .unset, .unset, .unset, .unset, .unset] [(.int (((p2.toUInt32 >>> ((10 : Int32) &&& 31).toUInt32).toInt32) &&& (1 : Int32)))]))
      simpa only [if_neg hc107_6] using hj107_6
  refine Go.st (fun U hr => XS.istore X1.here hx rfl (hb hby at_120) rfl (l' := #[.val (.int p1), .val (.int p2), .val (.int p3), .val (.int p4), .val (.int ch0), .val (.int ch1'), .val (.int dt), .val (.int tt), .val (.int kd), .val (.int pe), .val (.int ps), .val (.int da), .val (.int ln), .val (.int (if ln < (3 : Int32) then (0 : Int32) else (((p2.toUInt32 >>> ((10 : Int32) &&& 31).toUInt32).toInt32) &&& (1 : Int32)))), .unset, .unset, .unset, .unset, .unset, .unset, .unset]) rfl hr) ?_
  show Go p.tables e below _ (T1.setTop (mkF m 122 #[.val (.int p1), .val (.int p2), .val (.int p3), .val (.int p4), .val (.int ch0), .val (.int ch1'), .val (.int dt), .val (.int tt), .val (.int kd), .val (.int pe), .val (.int ps), .val (.int da), .val (.int ln), .val (.int (if ln < (3 : Int32) then (0 : Int32) else (((p2.toUInt32 >>> ((10 : Int32) &&& 31).toUInt32).toInt32) &&& (1 : Int32)))), .unset, .unset, .unset, .unset, .unset, .unset, .unset] []))
  generalize h_w1 : (if ln < (3 : Int32) then (0 : Int32) else (((p2.toUInt32 >>> ((10 : Int32) &&& 31).toUInt32).toInt32) &&& (1 : Int32))) = w1
  have hw1 : 0 ≤ w1.toInt ∧ w1.toInt ≤ 1 ∧ (ln.toInt < 3 → w1.toInt = 0) := by
    rw [← h_w1]
    split
    · exact ⟨by decide, by decide, fun _ => by decide⟩
    · rename_i q
      have := own_and ((p2.toUInt32 >>> ((10 : Int32) &&& 31).toUInt32).toInt32) 1 (Or.inr rfl)
      exact ⟨this.1, this.2, fun z => absurd ((own_lt32 ln 3).mpr z) q⟩
  have hdv : ((ln - w1) - (1 : Int32)).toInt = ln.toInt - w1.toInt - 1 := by
    have h1 := c_isub ln w1
    have r1 := rng32 (ln - w1)
    have h2 := c_isub (ln - w1) 1
    rw [show (1 : Int32).toInt = 1 from by decide] at h2
    have r2 := rng32 ((ln - w1) - 1)
    omega
  refine Go.st (fun U hr => XS.iloadN X1.here hx rfl (hb hby at_122) rfl hr) ?_
  show Go p.tables e below _ (T1.setTop (mkF m 123 #[.val (.int p1), .val (.int p2), .val (.int p3), .val (.int p4), .val (.int ch0), .val (.int ch1'), .val (.int dt), .val (.int tt), .val (.int kd), .val (.int pe), .val (.int ps), .val (.int da), .val (.int ln), .val (.int w1), .unset, .unset, .unset, .unset, .unset, .unset, .unset] [(.int p2)]))
  refine Go.st (fun U hr => XS.bipush X1.here hx rfl (hb hby at_123) hr) ?_
  show Go p.tables e below _ (T1.setTop (mkF m 125 #[.val (.int p1), .val (.int p2), .val (.int p3), .val (.int p4), .val (.int ch0), .val (.int ch1'), .val (.int dt), .val (.int tt), .val (.int kd), .val (.int pe), .val (.int ps), .val (.int da), .val (.int ln), .val (.int w1), .unset, .unset, .unset, .unset, .unset, .unset, .unset] [(.int (11 : Int32)), (.int p2)]))
  refine Go.st (fun U hr => XS.iushr X1.here hx rfl (hb hby at_125) rfl hr) ?_
  show Go p.tables e below _ (T1.setTop (mkF m 126 #[.val (.int p1), .val (.int p2), .val (.int p3), .val (.int p4), .val (.int ch0), .val (.int ch1'), .val (.int dt), .val (.int tt), .val (.int kd), .val (.int pe), .val (.int ps), .val (.int da), .val (.int ln), .val (.int w1), .unset, .unset, .unset, .unset, .unset, .unset, .unset] [(.int ((p2.toUInt32 >>> ((11 : Int32) &&& 31).toUInt32).toInt32))]))
  refine Go.st (fun U hr => XS.sipush X1.here hx rfl (hb hby at_126) hr) ?_
  show Go p.tables e below _ (T1.setTop (mkF m 129 #[.val (.int p1), .val (.int p2), .val (.int p3), .val (.int p4), .val (.int ch0), .val (.int ch1'), .val (.int dt), .val (.int tt), .val (.int kd), .val (.int pe), .val (.int ps), .val (.int da), .val (.int ln), .val (.int w1), .unset, .unset, .unset, .unset, .unset, .unset, .unset] [(.int (255 : Int32)), (.int ((p2.toUInt32 >>> ((11 : Int32) &&& 31).toUInt32).toInt32))]))
  refine Go.st (fun U hr => XS.iand X1.here hx rfl (hb hby at_129) rfl hr) ?_
  show Go p.tables e below _ (T1.setTop (mkF m 130 #[.val (.int p1), .val (.int p2), .val (.int p3), .val (.int p4), .val (.int ch0), .val (.int ch1'), .val (.int dt), .val (.int tt), .val (.int kd), .val (.int pe), .val (.int ps), .val (.int da), .val (.int ln), .val (.int w1), .unset, .unset, .unset, .unset, .unset, .unset, .unset] [(.int (((p2.toUInt32 >>> ((11 : Int32) &&& 31).toUInt32).toInt32) &&& (255 : Int32)))]))
  refine Go.st (fun U hr => XS.iload X1.here hx rfl (hb hby at_130) rfl hr) ?_
  show Go p.tables e below _ (T1.setTop (mkF m 132 #[.val (.int p1), .val (.int p2), .val (.int p3), .val (.int p4), .val (.int ch0), .val (.int ch1'), .val (.int dt), .val (.int tt), .val (.int kd), .val (.int pe), .val (.int ps), .val (.int da), .val (.int ln), .val (.int w1), .unset, .unset, .unset, .unset, .unset, .unset, .unset] [(.int ln), (.int (((p2.toUInt32 >>> ((11 : Int32) &&& 31).toUInt32).toInt32) &&& (255 : Int32)))]))
  refine Go.st (fun U hr => XS.iload X1.here hx rfl (hb hby at_132) rfl hr) ?_
  show Go p.tables e below _ (T1.setTop (mkF m 134 #[.val (.int p1), .val (.int p2), .val (.int p3), .val (.int p4), .val (.int ch0), .val (.int ch1'), .val (.int dt), .val (.int tt), .val (.int kd), .val (.int pe), .val (.int ps), .val (.int da), .val (.int ln), .val (.int w1), .unset, .unset, .unset, .unset, .unset, .unset, .unset] [(.int w1), (.int ln), (.int (((p2.toUInt32 >>> ((11 : Int32) &&& 31).toUInt32).toInt32) &&& (255 : Int32)))]))
  refine Go.st (fun U hr => XS.isub X1.here hx rfl (hb hby at_134) rfl hr) ?_
  show Go p.tables e below _ (T1.setTop (mkF m 135 #[.val (.int p1), .val (.int p2), .val (.int p3), .val (.int p4), .val (.int ch0), .val (.int ch1'), .val (.int dt), .val (.int tt), .val (.int kd), .val (.int pe), .val (.int ps), .val (.int da), .val (.int ln), .val (.int w1), .unset, .unset, .unset, .unset, .unset, .unset, .unset] [(.int (ln - w1)), (.int (((p2.toUInt32 >>> ((11 : Int32) &&& 31).toUInt32).toInt32) &&& (255 : Int32)))]))
  refine Go.st (fun U hr => XS.iconst X1.here hx rfl (hb hby at_135) hr) ?_
  show Go p.tables e below _ (T1.setTop (mkF m 136 #[.val (.int p1), .val (.int p2), .val (.int p3), .val (.int p4), .val (.int ch0), .val (.int ch1'), .val (.int dt), .val (.int tt), .val (.int kd), .val (.int pe), .val (.int ps), .val (.int da), .val (.int ln), .val (.int w1), .unset, .unset, .unset, .unset, .unset, .unset, .unset] [(.int (1 : Int32)), (.int (ln - w1)), (.int (((p2.toUInt32 >>> ((11 : Int32) &&& 31).toUInt32).toInt32) &&& (255 : Int32)))]))
  refine Go.st (fun U hr => XS.isub X1.here hx rfl (hb hby at_136) rfl hr) ?_
  show Go p.tables e below _ (T1.setTop (mkF m 137 #[.val (.int p1), .val (.int p2), .val (.int p3), .val (.int p4), .val (.int ch0), .val (.int ch1'), .val (.int dt), .val (.int tt), .val (.int kd), .val (.int pe), .val (.int ps), .val (.int da), .val (.int ln), .val (.int w1), .unset, .unset, .unset, .unset, .unset, .unset, .unset] [(.int ((ln - w1) - (1 : Int32))), (.int (((p2.toUInt32 >>> ((11 : Int32) &&& 31).toUInt32).toInt32) &&& (255 : Int32)))]))
  refine Go.st (fun U hr => XS.irem X1.here hx rfl (hb hby at_137) rfl (fun q => by rw [q, show (0 : Int32).toInt = 0 from by decide] at hdv; omega) hr) ?_
  show Go p.tables e below _ (T1.setTop (mkF m 138 #[.val (.int p1), .val (.int p2), .val (.int p3), .val (.int p4), .val (.int ch0), .val (.int ch1'), .val (.int dt), .val (.int tt), .val (.int kd), .val (.int pe), .val (.int ps), .val (.int da), .val (.int ln), .val (.int w1), .unset, .unset, .unset, .unset, .unset, .unset, .unset] [(.int ((((p2.toUInt32 >>> ((11 : Int32) &&& 31).toUInt32).toInt32) &&& (255 : Int32)) - ((((p2.toUInt32 >>> ((11 : Int32) &&& 31).toUInt32).toInt32) &&& (255 : Int32)) / ((ln - w1) - (1 : Int32))) * ((ln - w1) - (1 : Int32))))]))
  refine Go.st (fun U hr => XS.istore X1.here hx rfl (hb hby at_138) rfl (l' := #[.val (.int p1), .val (.int p2), .val (.int p3), .val (.int p4), .val (.int ch0), .val (.int ch1'), .val (.int dt), .val (.int tt), .val (.int kd), .val (.int pe), .val (.int ps), .val (.int da), .val (.int ln), .val (.int w1), .val (.int ((((p2.toUInt32 >>> ((11 : Int32) &&& 31).toUInt32).toInt32) &&& (255 : Int32)) - ((((p2.toUInt32 >>> ((11 : Int32) &&& 31).toUInt32).toInt32) &&& (255 : Int32)) / ((ln - w1) - (1 : Int32))) * ((ln - w1) - (1 : Int32)))), .unset, .unset, .unset, .unset, .unset, .unset]) rfl hr) ?_
  show Go p.tables e below _ (T1.setTop (mkF m 140 #[.val (.int p1), .val (.int p2), .val (.int p3), .val (.int p4), .val (.int ch0), .val (.int ch1'), .val (.int dt), .val (.int tt), .val (.int kd), .val (.int pe), .val (.int ps), .val (.int da), .val (.int ln), .val (.int w1), .val (.int ((((p2.toUInt32 >>> ((11 : Int32) &&& 31).toUInt32).toInt32) &&& (255 : Int32)) - ((((p2.toUInt32 >>> ((11 : Int32) &&& 31).toUInt32).toInt32) &&& (255 : Int32)) / ((ln - w1) - (1 : Int32))) * ((ln - w1) - (1 : Int32)))), .unset, .unset, .unset, .unset, .unset, .unset] []))
  generalize h_w2 : ((((p2.toUInt32 >>> ((11 : Int32) &&& 31).toUInt32).toInt32) &&& (255 : Int32)) - ((((p2.toUInt32 >>> ((11 : Int32) &&& 31).toUInt32).toInt32) &&& (255 : Int32)) / ((ln - w1) - (1 : Int32))) * ((ln - w1) - (1 : Int32))) = w2
  have hw2 : 0 ≤ w2.toInt ∧ w2.toInt < ln.toInt - w1.toInt - 1 := by
    have h1 := own_rem (((p2.toUInt32 >>> ((11 : Int32) &&& 31).toUInt32).toInt32) &&& (255 : Int32)) ((ln - w1) - 1) (own_and _ 255 (Or.inl rfl)).1 (by rw [hdv]; omega)
    rw [h_w2, hdv] at h1
    exact h1
  refine Go.st (fun U hr => XS.iload X1.here hx rfl (hb hby at_140) rfl hr) ?_
  show Go p.tables e below _ (T1.setTop (mkF m 142 #[.val (.int p1), .val (.int p2), .val (.int p3), .val (.int p4), .val (.int ch0), .val (.int ch1'), .val (.int dt), .val (.int tt), .val (.int kd), .val (.int pe), .val (.int ps), .val (.int da), .val (.int ln), .val (.int w1), .val (.int w2), .unset, .unset, .unset, .unset, .unset, .unset] [(.int dt)]))
  suffices hj142_7 : Go p.tables e below (own_Fin s below room_1.cells room_1.slots (Q0 Z p1 p2 p3 p4 wc h0 n0)) (T1.setTop (mkF m 154 #[.val (.int p1), .val (.int p2), .val (.int p3), .val (.int p4), .val (.int ch0), .val (.int ch1'), .val (.int dt), .val (.int tt), .val (.int kd), .val (.int pe), .val (.int ps), .val (.int da), .val (.int ln), .val (.int w1), .val (.int w2), .unset, .unset, .unset, .unset, .unset, .unset] [(.int (if dt = (0 : Int32) then ps else ((2 : Int32) + w1)))])) by
    by_cases hc142_7 : dt = (0 : Int32)
    · refine Go.st (fun U hr => XS.ifYes X1.here hx rfl (pc0 := 142) (pc' := 152) rfl (hb hby at_142) rfl ((if0 _ _).trans (teq hc142_7).1) (by decide) (by decide) hr) ?_
      show Go p.tables e below _ (T1.setTop (mkF m 152 #[.val (.int p1), .val (.int p2), .val (.int p3), .val (.int p4), .val (.int ch0), .val (.int ch1'), .val (.int dt), .val (.int tt), .val (.int kd), .val (.int pe), .val (.int ps), .val (.int da), .val (.int ln), .val (.int w1), .val (.int w2), .unset, .unset, .unset, .unset, .unset, .unset] []))
      refine Go.st (fun U hr => XS.iload X1.here hx rfl (hb hby at_152) rfl hr) ?_
      show Go p.tables e below _ (T1.setTop (mkF m 154 #[.val (.int p1), .val (.int p2), .val (.int p3), .val (.int p4), .val (.int ch0), .val (.int ch1'), .val (.int dt), .val (.int tt), .val (.int kd), .val (.int pe), .val (.int ps), .val (.int da), .val (.int ln), .val (.int w1), .val (.int w2), .unset, .unset, .unset, .unset, .unset, .unset] [(.int ps)]))
      simpa only [if_pos hc142_7] using hj142_7
    · refine Go.st (fun U hr => XS.ifNo X1.here hx rfl (hb hby at_142) rfl ((if0 _ _).trans (feq hc142_7).1) hr) ?_
      show Go p.tables e below _ (T1.setTop (mkF m 145 #[.val (.int p1), .val (.int p2), .val (.int p3), .val (.int p4), .val (.int ch0), .val (.int ch1'), .val (.int dt), .val (.int tt), .val (.int kd), .val (.int pe), .val (.int ps), .val (.int da), .val (.int ln), .val (.int w1), .val (.int w2), .unset, .unset, .unset, .unset, .unset, .unset] []))
      refine Go.st (fun U hr => XS.iconst X1.here hx rfl (hb hby at_145) hr) ?_
      show Go p.tables e below _ (T1.setTop (mkF m 146 #[.val (.int p1), .val (.int p2), .val (.int p3), .val (.int p4), .val (.int ch0), .val (.int ch1'), .val (.int dt), .val (.int tt), .val (.int kd), .val (.int pe), .val (.int ps), .val (.int da), .val (.int ln), .val (.int w1), .val (.int w2), .unset, .unset, .unset, .unset, .unset, .unset] [(.int (2 : Int32))]))
      refine Go.st (fun U hr => XS.iload X1.here hx rfl (hb hby at_146) rfl hr) ?_
      show Go p.tables e below _ (T1.setTop (mkF m 148 #[.val (.int p1), .val (.int p2), .val (.int p3), .val (.int p4), .val (.int ch0), .val (.int ch1'), .val (.int dt), .val (.int tt), .val (.int kd), .val (.int pe), .val (.int ps), .val (.int da), .val (.int ln), .val (.int w1), .val (.int w2), .unset, .unset, .unset, .unset, .unset, .unset] [(.int w1), (.int (2 : Int32))]))
      refine Go.st (fun U hr => XS.iadd X1.here hx rfl (hb hby at_148) rfl hr) ?_
      show Go p.tables e below _ (T1.setTop (mkF m 149 #[.val (.int p1), .val (.int p2), .val (.int p3), .val (.int p4), .val (.int ch0), .val (.int ch1'), .val (.int dt), .val (.int tt), .val (.int kd), .val (.int pe), .val (.int ps), .val (.int da), .val (.int ln), .val (.int w1), .val (.int w2), .unset, .unset, .unset, .unset, .unset, .unset] [(.int ((2 : Int32) + w1))]))
      refine Go.st (fun U hr => XS.goto X1.here hx rfl (pc0 := 149) (pc' := 154) rfl (hb hby at_149) (by decide) (by decide) hr) ?_
      show Go p.tables e below _ (T1.setTop (mkF m 154 #[.val (.int p1), .val (.int p2), .val (.int p3), .val (.int p4), .val (.int ch0), .val (.int ch1'), .val (.int dt), .val (.int tt), .val (.int kd), .val (.int pe), .val (.int ps), .val (.int da), .val (.int ln), .val (.int w1), .val (.int w2), .unset, .unset, .unset, .unset, .unset, .unset] [(.int ((2 : Int32) + w1))]))
      simpa only [if_neg hc142_7] using hj142_7
  refine Go.st (fun U hr => XS.istore X1.here hx rfl (hb hby at_154) rfl (l' := #[.val (.int p1), .val (.int p2), .val (.int p3), .val (.int p4), .val (.int ch0), .val (.int ch1'), .val (.int dt), .val (.int tt), .val (.int kd), .val (.int pe), .val (.int ps), .val (.int da), .val (.int ln), .val (.int w1), .val (.int w2), .val (.int (if dt = (0 : Int32) then ps else ((2 : Int32) + w1))), .unset, .unset, .unset, .unset, .unset]) rfl hr) ?_
  show Go p.tables e below _ (T1.setTop (mkF m 156 #[.val (.int p1), .val (.int p2), .val (.int p3), .val (.int p4), .val (.int ch0), .val (.int ch1'), .val (.int dt), .val (.int tt), .val (.int kd), .val (.int pe), .val (.int ps), .val (.int da), .val (.int ln), .val (.int w1), .val (.int w2), .val (.int (if dt = (0 : Int32) then ps else ((2 : Int32) + w1))), .unset, .unset, .unset, .unset, .unset] []))
  generalize h_df : (if dt = (0 : Int32) then ps else ((2 : Int32) + w1)) = df
  refine Go.st (fun U hr => XS.iload X1.here hx rfl (hb hby at_156) rfl hr) ?_
  show Go p.tables e below _ (T1.setTop (mkF m 158 #[.val (.int p1), .val (.int p2), .val (.int p3), .val (.int p4), .val (.int ch0), .val (.int ch1'), .val (.int dt), .val (.int tt), .val (.int kd), .val (.int pe), .val (.int ps), .val (.int da), .val (.int ln), .val (.int w1), .val (.int w2), .val (.int df), .unset, .unset, .unset, .unset, .unset] [(.int dt)]))
  suffices hj158_8 : Go p.tables e below (own_Fin s below room_1.cells room_1.slots (Q0 Z p1 p2 p3 p4 wc h0 n0)) (T1.setTop (mkF m 171 #[.val (.int p1), .val (.int p2), .val (.int p3), .val (.int p4), .val (.int ch0), .val (.int ch1'), .val (.int dt), .val (.int tt), .val (.int kd), .val (.int pe), .val (.int ps), .val (.int da), .val (.int ln), .val (.int w1), .val (.int w2), .val (.int df), .unset, .unset, .unset, .unset, .unset] [(.int (if dt = (0 : Int32) then ps else (ps - w2)))])) by
    by_cases hc158_8 : dt = (0 : Int32)
    · refine Go.st (fun U hr => XS.ifYes X1.here hx rfl (pc0 := 158) (pc' := 169) rfl (hb hby at_158) rfl ((if0 _ _).trans (teq hc158_8).1) (by decide) (by decide) hr) ?_
      show Go p.tables e below _ (T1.setTop (mkF m 169 #[.val (.int p1), .val (.int p2), .val (.int p3), .val (.int p4), .val (.int ch0), .val (.int ch1'), .val (.int dt), .val (.int tt), .val (.int kd), .val (.int pe), .val (.int ps), .val (.int da), .val (.int ln), .val (.int w1), .val (.int w2), .val (.int df), .unset, .unset, .unset, .unset, .unset] []))
      refine Go.st (fun U hr => XS.iload X1.here hx rfl (hb hby at_169) rfl hr) ?_
      show Go p.tables e below _ (T1.setTop (mkF m 171 #[.val (.int p1), .val (.int p2), .val (.int p3), .val (.int p4), .val (.int ch0), .val (.int ch1'), .val (.int dt), .val (.int tt), .val (.int kd), .val (.int pe), .val (.int ps), .val (.int da), .val (.int ln), .val (.int w1), .val (.int w2), .val (.int df), .unset, .unset, .unset, .unset, .unset] [(.int ps)]))
      simpa only [if_pos hc158_8] using hj158_8
    · refine Go.st (fun U hr => XS.ifNo X1.here hx rfl (hb hby at_158) rfl ((if0 _ _).trans (feq hc158_8).1) hr) ?_
      show Go p.tables e below _ (T1.setTop (mkF m 161 #[.val (.int p1), .val (.int p2), .val (.int p3), .val (.int p4), .val (.int ch0), .val (.int ch1'), .val (.int dt), .val (.int tt), .val (.int kd), .val (.int pe), .val (.int ps), .val (.int da), .val (.int ln), .val (.int w1), .val (.int w2), .val (.int df), .unset, .unset, .unset, .unset, .unset] []))
      refine Go.st (fun U hr => XS.iload X1.here hx rfl (hb hby at_161) rfl hr) ?_
      show Go p.tables e below _ (T1.setTop (mkF m 163 #[.val (.int p1), .val (.int p2), .val (.int p3), .val (.int p4), .val (.int ch0), .val (.int ch1'), .val (.int dt), .val (.int tt), .val (.int kd), .val (.int pe), .val (.int ps), .val (.int da), .val (.int ln), .val (.int w1), .val (.int w2), .val (.int df), .unset, .unset, .unset, .unset, .unset] [(.int ps)]))
      refine Go.st (fun U hr => XS.iload X1.here hx rfl (hb hby at_163) rfl hr) ?_
      show Go p.tables e below _ (T1.setTop (mkF m 165 #[.val (.int p1), .val (.int p2), .val (.int p3), .val (.int p4), .val (.int ch0), .val (.int ch1'), .val (.int dt), .val (.int tt), .val (.int kd), .val (.int pe), .val (.int ps), .val (.int da), .val (.int ln), .val (.int w1), .val (.int w2), .val (.int df), .unset, .unset, .unset, .unset, .unset] [(.int w2), (.int ps)]))
      refine Go.st (fun U hr => XS.isub X1.here hx rfl (hb hby at_165) rfl hr) ?_
      show Go p.tables e below _ (T1.setTop (mkF m 166 #[.val (.int p1), .val (.int p2), .val (.int p3), .val (.int p4), .val (.int ch0), .val (.int ch1'), .val (.int dt), .val (.int tt), .val (.int kd), .val (.int pe), .val (.int ps), .val (.int da), .val (.int ln), .val (.int w1), .val (.int w2), .val (.int df), .unset, .unset, .unset, .unset, .unset] [(.int (ps - w2))]))
      refine Go.st (fun U hr => XS.goto X1.here hx rfl (pc0 := 166) (pc' := 171) rfl (hb hby at_166) (by decide) (by decide) hr) ?_
      show Go p.tables e below _ (T1.setTop (mkF m 171 #[.val (.int p1), .val (.int p2), .val (.int p3), .val (.int p4), .val (.int ch0), .val (.int ch1'), .val (.int dt), .val (.int tt), .val (.int kd), .val (.int pe), .val (.int ps), .val (.int da), .val (.int ln), .val (.int w1), .val (.int w2), .val (.int df), .unset, .unset, .unset, .unset, .unset] [(.int (ps - w2))]))
      simpa only [if_neg hc158_8] using hj158_8
  refine Go.st (fun U hr => XS.istore X1.here hx rfl (hb hby at_171) rfl (l' := #[.val (.int p1), .val (.int p2), .val (.int p3), .val (.int p4), .val (.int ch0), .val (.int ch1'), .val (.int dt), .val (.int tt), .val (.int kd), .val (.int pe), .val (.int ps), .val (.int da), .val (.int ln), .val (.int w1), .val (.int w2), .val (.int df), .val (.int (if dt = (0 : Int32) then ps else (ps - w2))), .unset, .unset, .unset, .unset]) rfl hr) ?_
  show Go p.tables e below _ (T1.setTop (mkF m 173 #[.val (.int p1), .val (.int p2), .val (.int p3), .val (.int p4), .val (.int ch0), .val (.int ch1'), .val (.int dt), .val (.int tt), .val (.int kd), .val (.int pe), .val (.int ps), .val (.int da), .val (.int ln), .val (.int w1), .val (.int w2), .val (.int df), .val (.int (if dt = (0 : Int32) then ps else (ps - w2))), .unset, .unset, .unset, .unset] []))
  generalize h_de : (if dt = (0 : Int32) then ps else (ps - w2)) = de
  refine Go.st (fun U hr => XS.bipush X1.here hx rfl (hb hby at_173) hr) ?_
  show Go p.tables e below _ (T1.setTop (mkF m 175 #[.val (.int p1), .val (.int p2), .val (.int p3), .val (.int p4), .val (.int ch0), .val (.int ch1'), .val (.int dt), .val (.int tt), .val (.int kd), .val (.int pe), .val (.int ps), .val (.int da), .val (.int ln), .val (.int w1), .val (.int w2), .val (.int df), .val (.int de), .unset, .unset, .unset, .unset] [(.int (48 : Int32))]))
  refine Go.st (fun U hr => XS.iloadN X1.here hx rfl (hb hby at_175) rfl hr) ?_
  show Go p.tables e below _ (T1.setTop (mkF m 176 #[.val (.int p1), .val (.int p2), .val (.int p3), .val (.int p4), .val (.int ch0), .val (.int ch1'), .val (.int dt), .val (.int tt), .val (.int kd), .val (.int pe), .val (.int ps), .val (.int da), .val (.int ln), .val (.int w1), .val (.int w2), .val (.int df), .val (.int de), .unset, .unset, .unset, .unset] [(.int p3), (.int (48 : Int32))]))
  refine Go.st (fun U hr => XS.sipush X1.here hx rfl (hb hby at_176) hr) ?_
  show Go p.tables e below _ (T1.setTop (mkF m 179 #[.val (.int p1), .val (.int p2), .val (.int p3), .val (.int p4), .val (.int ch0), .val (.int ch1'), .val (.int dt), .val (.int tt), .val (.int kd), .val (.int pe), .val (.int ps), .val (.int da), .val (.int ln), .val (.int w1), .val (.int w2), .val (.int df), .val (.int de), .unset, .unset, .unset, .unset] [(.int (255 : Int32)), (.int p3), (.int (48 : Int32))]))
  refine Go.st (fun U hr => XS.iand X1.here hx rfl (hb hby at_179) rfl hr) ?_
  show Go p.tables e below _ (T1.setTop (mkF m 180 #[.val (.int p1), .val (.int p2), .val (.int p3), .val (.int p4), .val (.int ch0), .val (.int ch1'), .val (.int dt), .val (.int tt), .val (.int kd), .val (.int pe), .val (.int ps), .val (.int da), .val (.int ln), .val (.int w1), .val (.int w2), .val (.int df), .val (.int de), .unset, .unset, .unset, .unset] [(.int (p3 &&& (255 : Int32))), (.int (48 : Int32))]))
  refine Go.st (fun U hr => XS.bipush X1.here hx rfl (hb hby at_180) hr) ?_
  show Go p.tables e below _ (T1.setTop (mkF m 182 #[.val (.int p1), .val (.int p2), .val (.int p3), .val (.int p4), .val (.int ch0), .val (.int ch1'), .val (.int dt), .val (.int tt), .val (.int kd), .val (.int pe), .val (.int ps), .val (.int da), .val (.int ln), .val (.int w1), .val (.int w2), .val (.int df), .val (.int de), .unset, .unset, .unset, .unset] [(.int (10 : Int32)), (.int (p3 &&& (255 : Int32))), (.int (48 : Int32))]))
  refine Go.st (fun U hr => XS.irem X1.here hx rfl (hb hby at_182) rfl (by decide) hr) ?_
  show Go p.tables e below _ (T1.setTop (mkF m 183 #[.val (.int p1), .val (.int p2), .val (.int p3), .val (.int p4), .val (.int ch0), .val (.int ch1'), .val (.int dt), .val (.int tt), .val (.int kd), .val (.int pe), .val (.int ps), .val (.int da), .val (.int ln), .val (.int w1), .val (.int w2), .val (.int df), .val (.int de), .unset, .unset, .unset, .unset] [(.int ((p3 &&& (255 : Int32)) - ((p3 &&& (255 : Int32)) / (10 : Int32)) * (10 : Int32))), (.int (48 : Int32))]))
  refine Go.st (fun U hr => XS.iadd X1.here hx rfl (hb hby at_183) rfl hr) ?_
  show Go p.tables e below _ (T1.setTop (mkF m 184 #[.val (.int p1), .val (.int p2), .val (.int p3), .val (.int p4), .val (.int ch0), .val (.int ch1'), .val (.int dt), .val (.int tt), .val (.int kd), .val (.int pe), .val (.int ps), .val (.int da), .val (.int ln), .val (.int w1), .val (.int w2), .val (.int df), .val (.int de), .unset, .unset, .unset, .unset] [(.int ((48 : Int32) + ((p3 &&& (255 : Int32)) - ((p3 &&& (255 : Int32)) / (10 : Int32)) * (10 : Int32))))]))
  refine Go.st (fun U hr => XS.i2c X1.here hx rfl (hb hby at_184) rfl hr) ?_
  show Go p.tables e below _ (T1.setTop (mkF m 185 #[.val (.int p1), .val (.int p2), .val (.int p3), .val (.int p4), .val (.int ch0), .val (.int ch1'), .val (.int dt), .val (.int tt), .val (.int kd), .val (.int pe), .val (.int ps), .val (.int da), .val (.int ln), .val (.int w1), .val (.int w2), .val (.int df), .val (.int de), .unset, .unset, .unset, .unset] [(.int (((48 : Int32) + ((p3 &&& (255 : Int32)) - ((p3 &&& (255 : Int32)) / (10 : Int32)) * (10 : Int32))).toUInt32.toUInt16.toUInt32.toInt32))]))
  refine Go.st (fun U hr => XS.istore X1.here hx rfl (hb hby at_185) rfl (l' := #[.val (.int p1), .val (.int p2), .val (.int p3), .val (.int p4), .val (.int ch0), .val (.int ch1'), .val (.int dt), .val (.int tt), .val (.int kd), .val (.int pe), .val (.int ps), .val (.int da), .val (.int ln), .val (.int w1), .val (.int w2), .val (.int df), .val (.int de), .val (.int (((48 : Int32) + ((p3 &&& (255 : Int32)) - ((p3 &&& (255 : Int32)) / (10 : Int32)) * (10 : Int32))).toUInt32.toUInt16.toUInt32.toInt32)), .unset, .unset, .unset]) rfl hr) ?_
  show Go p.tables e below _ (T1.setTop (mkF m 187 #[.val (.int p1), .val (.int p2), .val (.int p3), .val (.int p4), .val (.int ch0), .val (.int ch1'), .val (.int dt), .val (.int tt), .val (.int kd), .val (.int pe), .val (.int ps), .val (.int da), .val (.int ln), .val (.int w1), .val (.int w2), .val (.int df), .val (.int de), .val (.int (((48 : Int32) + ((p3 &&& (255 : Int32)) - ((p3 &&& (255 : Int32)) / (10 : Int32)) * (10 : Int32))).toUInt32.toUInt16.toUInt32.toInt32)), .unset, .unset, .unset] []))
  generalize h_g0 : (((48 : Int32) + ((p3 &&& (255 : Int32)) - ((p3 &&& (255 : Int32)) / (10 : Int32)) * (10 : Int32))).toUInt32.toUInt16.toUInt32.toInt32) = g0
  have hg0 : 48 ≤ g0.toInt ∧ g0.toInt < 58 := by rw [← h_g0]; exact own_dig p3
  refine Go.st (fun U hr => XS.bipush X1.here hx rfl (hb hby at_187) hr) ?_
  show Go p.tables e below _ (T1.setTop (mkF m 189 #[.val (.int p1), .val (.int p2), .val (.int p3), .val (.int p4), .val (.int ch0), .val (.int ch1'), .val (.int dt), .val (.int tt), .val (.int kd), .val (.int pe), .val (.int ps), .val (.int da), .val (.int ln), .val (.int w1), .val (.int w2), .val (.int df), .val (.int de), .val (.int g0), .unset, .unset, .unset] [(.int (48 : Int32))]))
  refine Go.st (fun U hr => XS.iloadN X1.here hx rfl (hb hby at_189) rfl hr) ?_
  show Go p.tables e below _ (T1.setTop (mkF m 190 #[.val (.int p1), .val (.int p2), .val (.int p3), .val (.int p4), .val (.int ch0), .val (.int ch1'), .val (.int dt), .val (.int tt), .val (.int kd), .val (.int pe), .val (.int ps), .val (.int da), .val (.int ln), .val (.int w1), .val (.int w2), .val (.int df), .val (.int de), .val (.int g0), .unset, .unset, .unset] [(.int p3), (.int (48 : Int32))]))
  refine Go.st (fun U hr => XS.bipush X1.here hx rfl (hb hby at_190) hr) ?_
  show Go p.tables e below _ (T1.setTop (mkF m 192 #[.val (.int p1), .val (.int p2), .val (.int p3), .val (.int p4), .val (.int ch0), .val (.int ch1'), .val (.int dt), .val (.int tt), .val (.int kd), .val (.int pe), .val (.int ps), .val (.int da), .val (.int ln), .val (.int w1), .val (.int w2), .val (.int df), .val (.int de), .val (.int g0), .unset, .unset, .unset] [(.int (8 : Int32)), (.int p3), (.int (48 : Int32))]))
  refine Go.st (fun U hr => XS.iushr X1.here hx rfl (hb hby at_192) rfl hr) ?_
  show Go p.tables e below _ (T1.setTop (mkF m 193 #[.val (.int p1), .val (.int p2), .val (.int p3), .val (.int p4), .val (.int ch0), .val (.int ch1'), .val (.int dt), .val (.int tt), .val (.int kd), .val (.int pe), .val (.int ps), .val (.int da), .val (.int ln), .val (.int w1), .val (.int w2), .val (.int df), .val (.int de), .val (.int g0), .unset, .unset, .unset] [(.int ((p3.toUInt32 >>> ((8 : Int32) &&& 31).toUInt32).toInt32)), (.int (48 : Int32))]))
  refine Go.st (fun U hr => XS.sipush X1.here hx rfl (hb hby at_193) hr) ?_
  show Go p.tables e below _ (T1.setTop (mkF m 196 #[.val (.int p1), .val (.int p2), .val (.int p3), .val (.int p4), .val (.int ch0), .val (.int ch1'), .val (.int dt), .val (.int tt), .val (.int kd), .val (.int pe), .val (.int ps), .val (.int da), .val (.int ln), .val (.int w1), .val (.int w2), .val (.int df), .val (.int de), .val (.int g0), .unset, .unset, .unset] [(.int (255 : Int32)), (.int ((p3.toUInt32 >>> ((8 : Int32) &&& 31).toUInt32).toInt32)), (.int (48 : Int32))]))
  refine Go.st (fun U hr => XS.iand X1.here hx rfl (hb hby at_196) rfl hr) ?_
  show Go p.tables e below _ (T1.setTop (mkF m 197 #[.val (.int p1), .val (.int p2), .val (.int p3), .val (.int p4), .val (.int ch0), .val (.int ch1'), .val (.int dt), .val (.int tt), .val (.int kd), .val (.int pe), .val (.int ps), .val (.int da), .val (.int ln), .val (.int w1), .val (.int w2), .val (.int df), .val (.int de), .val (.int g0), .unset, .unset, .unset] [(.int (((p3.toUInt32 >>> ((8 : Int32) &&& 31).toUInt32).toInt32) &&& (255 : Int32))), (.int (48 : Int32))]))
  refine Go.st (fun U hr => XS.bipush X1.here hx rfl (hb hby at_197) hr) ?_
  show Go p.tables e below _ (T1.setTop (mkF m 199 #[.val (.int p1), .val (.int p2), .val (.int p3), .val (.int p4), .val (.int ch0), .val (.int ch1'), .val (.int dt), .val (.int tt), .val (.int kd), .val (.int pe), .val (.int ps), .val (.int da), .val (.int ln), .val (.int w1), .val (.int w2), .val (.int df), .val (.int de), .val (.int g0), .unset, .unset, .unset] [(.int (10 : Int32)), (.int (((p3.toUInt32 >>> ((8 : Int32) &&& 31).toUInt32).toInt32) &&& (255 : Int32))), (.int (48 : Int32))]))
  refine Go.st (fun U hr => XS.irem X1.here hx rfl (hb hby at_199) rfl (by decide) hr) ?_
  show Go p.tables e below _ (T1.setTop (mkF m 200 #[.val (.int p1), .val (.int p2), .val (.int p3), .val (.int p4), .val (.int ch0), .val (.int ch1'), .val (.int dt), .val (.int tt), .val (.int kd), .val (.int pe), .val (.int ps), .val (.int da), .val (.int ln), .val (.int w1), .val (.int w2), .val (.int df), .val (.int de), .val (.int g0), .unset, .unset, .unset] [(.int ((((p3.toUInt32 >>> ((8 : Int32) &&& 31).toUInt32).toInt32) &&& (255 : Int32)) - ((((p3.toUInt32 >>> ((8 : Int32) &&& 31).toUInt32).toInt32) &&& (255 : Int32)) / (10 : Int32)) * (10 : Int32))), (.int (48 : Int32))]))
  refine Go.st (fun U hr => XS.iadd X1.here hx rfl (hb hby at_200) rfl hr) ?_
  show Go p.tables e below _ (T1.setTop (mkF m 201 #[.val (.int p1), .val (.int p2), .val (.int p3), .val (.int p4), .val (.int ch0), .val (.int ch1'), .val (.int dt), .val (.int tt), .val (.int kd), .val (.int pe), .val (.int ps), .val (.int da), .val (.int ln), .val (.int w1), .val (.int w2), .val (.int df), .val (.int de), .val (.int g0), .unset, .unset, .unset] [(.int ((48 : Int32) + ((((p3.toUInt32 >>> ((8 : Int32) &&& 31).toUInt32).toInt32) &&& (255 : Int32)) - ((((p3.toUInt32 >>> ((8 : Int32) &&& 31).toUInt32).toInt32) &&& (255 : Int32)) / (10 : Int32)) * (10 : Int32))))]))
  refine Go.st (fun U hr => XS.i2c X1.here hx rfl (hb hby at_201) rfl hr) ?_
  show Go p.tables e below _ (T1.setTop (mkF m 202 #[.val (.int p1), .val (.int p2), .val (.int p3), .val (.int p4), .val (.int ch0), .val (.int ch1'), .val (.int dt), .val (.int tt), .val (.int kd), .val (.int pe), .val (.int ps), .val (.int da), .val (.int ln), .val (.int w1), .val (.int w2), .val (.int df), .val (.int de), .val (.int g0), .unset, .unset, .unset] [(.int (((48 : Int32) + ((((p3.toUInt32 >>> ((8 : Int32) &&& 31).toUInt32).toInt32) &&& (255 : Int32)) - ((((p3.toUInt32 >>> ((8 : Int32) &&& 31).toUInt32).toInt32) &&& (255 : Int32)) / (10 : Int32)) * (10 : Int32))).toUInt32.toUInt16.toUInt32.toInt32))]))
  refine Go.st (fun U hr => XS.istore X1.here hx rfl (hb hby at_202) rfl (l' := #[.val (.int p1), .val (.int p2), .val (.int p3), .val (.int p4), .val (.int ch0), .val (.int ch1'), .val (.int dt), .val (.int tt), .val (.int kd), .val (.int pe), .val (.int ps), .val (.int da), .val (.int ln), .val (.int w1), .val (.int w2), .val (.int df), .val (.int de), .val (.int g0), .val (.int (((48 : Int32) + ((((p3.toUInt32 >>> ((8 : Int32) &&& 31).toUInt32).toInt32) &&& (255 : Int32)) - ((((p3.toUInt32 >>> ((8 : Int32) &&& 31).toUInt32).toInt32) &&& (255 : Int32)) / (10 : Int32)) * (10 : Int32))).toUInt32.toUInt16.toUInt32.toInt32)), .unset, .unset]) rfl hr) ?_
  show Go p.tables e below _ (T1.setTop (mkF m 204 #[.val (.int p1), .val (.int p2), .val (.int p3), .val (.int p4), .val (.int ch0), .val (.int ch1'), .val (.int dt), .val (.int tt), .val (.int kd), .val (.int pe), .val (.int ps), .val (.int da), .val (.int ln), .val (.int w1), .val (.int w2), .val (.int df), .val (.int de), .val (.int g0), .val (.int (((48 : Int32) + ((((p3.toUInt32 >>> ((8 : Int32) &&& 31).toUInt32).toInt32) &&& (255 : Int32)) - ((((p3.toUInt32 >>> ((8 : Int32) &&& 31).toUInt32).toInt32) &&& (255 : Int32)) / (10 : Int32)) * (10 : Int32))).toUInt32.toUInt16.toUInt32.toInt32)), .unset, .unset] []))
  generalize h_g1 : (((48 : Int32) + ((((p3.toUInt32 >>> ((8 : Int32) &&& 31).toUInt32).toInt32) &&& (255 : Int32)) - ((((p3.toUInt32 >>> ((8 : Int32) &&& 31).toUInt32).toInt32) &&& (255 : Int32)) / (10 : Int32)) * (10 : Int32))).toUInt32.toUInt16.toUInt32.toInt32) = g1
  have hg1 : 48 ≤ g1.toInt ∧ g1.toInt < 58 := by rw [← h_g1]; exact own_dig ((p3.toUInt32 >>> ((8 : Int32) &&& 31).toUInt32).toInt32)
  refine Go.st (fun U hr => XS.bipush X1.here hx rfl (hb hby at_204) hr) ?_
  show Go p.tables e below _ (T1.setTop (mkF m 206 #[.val (.int p1), .val (.int p2), .val (.int p3), .val (.int p4), .val (.int ch0), .val (.int ch1'), .val (.int dt), .val (.int tt), .val (.int kd), .val (.int pe), .val (.int ps), .val (.int da), .val (.int ln), .val (.int w1), .val (.int w2), .val (.int df), .val (.int de), .val (.int g0), .val (.int g1), .unset, .unset] [(.int (8 : Int32))]))
  obtain ⟨T9, h9, k9, X9, e9, E9, A9, st9⟩ := newP X1 hx hZ (hw _ (List.mem_of_getElem? (i := 4) rfl)) ee1 (g := (mkF m 206 #[.val (.int p1), .val (.int p2), .val (.int p3), .val (.int p4), .val (.int ch0), .val (.int ch1'), .val (.int dt), .val (.int tt), .val (.int kd), .val (.int pe), .val (.int ps), .val (.int da), .val (.int ln), .val (.int w1), .val (.int w2), .val (.int df), .val (.int de), .val (.int g0), .val (.int g1), .unset, .unset] [(.int (8 : Int32))])) rfl (hb hby at_206) rfl (by decide) (cap := 8) (by decide) (by decide) (by decide) (by decide)
  obtain ⟨b9, g9⟩ : ∃ z, z = h0.size := ⟨_, rfl⟩
  rw [← g9] at A9 st9
  refine Go.st st9 ?_
  have gb9 : n0 ≤ b9 := Nat.le_trans Z0 (Nat.le_of_eq g9.symm)
  have f10 := (S1).ext E9
  have z11 := Nat.le_trans Z0 E9.1
  have V9 : Arv Z h9 b9 k9 .char (8 : Int32) [(.int (0 : Int32)), (.int (0 : Int32)), (.int (0 : Int32)), (.int (0 : Int32)), (.int (0 : Int32)), (.int (0 : Int32)), (.int (0 : Int32)), (.int (0 : Int32))] (.int (0 : Int32)) := (Arv.new A9 (by decide)).pad (pad_rep [] (.int (0 : Int32)) 8)
  show Go p.tables e below _ (T9.setTop (mkF m 208 #[.val (.int p1), .val (.int p2), .val (.int p3), .val (.int p4), .val (.int ch0), .val (.int ch1'), .val (.int dt), .val (.int tt), .val (.int kd), .val (.int pe), .val (.int ps), .val (.int da), .val (.int ln), .val (.int w1), .val (.int w2), .val (.int df), .val (.int de), .val (.int g0), .val (.int g1), .unset, .unset] [(.ref b9)]))
  refine Go.st (fun U hr => XS.astore X9.here hx rfl (hb hby at_208) rfl rfl (l' := #[.val (.int p1), .val (.int p2), .val (.int p3), .val (.int p4), .val (.int ch0), .val (.int ch1'), .val (.int dt), .val (.int tt), .val (.int kd), .val (.int pe), .val (.int ps), .val (.int da), .val (.int ln), .val (.int w1), .val (.int w2), .val (.int df), .val (.int de), .val (.int g0), .val (.int g1), .val (.ref b9), .unset]) rfl hr) ?_
  show Go p.tables e below _ (T9.setTop (mkF m 210 #[.val (.int p1), .val (.int p2), .val (.int p3), .val (.int p4), .val (.int ch0), .val (.int ch1'), .val (.int dt), .val (.int tt), .val (.int kd), .val (.int pe), .val (.int ps), .val (.int da), .val (.int ln), .val (.int w1), .val (.int w2), .val (.int df), .val (.int de), .val (.int g0), .val (.int g1), .val (.ref b9), .unset] []))
  refine Go.st (fun U hr => XS.aload X9.here hx rfl (hb hby at_210) rfl rfl hr) ?_
  show Go p.tables e below _ (T9.setTop (mkF m 212 #[.val (.int p1), .val (.int p2), .val (.int p3), .val (.int p4), .val (.int ch0), .val (.int ch1'), .val (.int dt), .val (.int tt), .val (.int kd), .val (.int pe), .val (.int ps), .val (.int da), .val (.int ln), .val (.int w1), .val (.int w2), .val (.int df), .val (.int de), .val (.int g0), .val (.int g1), .val (.ref b9), .unset] [(.ref b9)]))
  refine Go.st (fun U hr => XS.iconst X9.here hx rfl (hb hby at_212) hr) ?_
  show Go p.tables e below _ (T9.setTop (mkF m 213 #[.val (.int p1), .val (.int p2), .val (.int p3), .val (.int p4), .val (.int ch0), .val (.int ch1'), .val (.int dt), .val (.int tt), .val (.int kd), .val (.int pe), .val (.int ps), .val (.int da), .val (.int ln), .val (.int w1), .val (.int w2), .val (.int df), .val (.int de), .val (.int g0), .val (.int g1), .val (.ref b9), .unset] [(.int (0 : Int32)), (.ref b9)]))
  refine Go.st (fun U hr => XS.iload X9.here hx rfl (hb hby at_213) rfl hr) ?_
  show Go p.tables e below _ (T9.setTop (mkF m 215 #[.val (.int p1), .val (.int p2), .val (.int p3), .val (.int p4), .val (.int ch0), .val (.int ch1'), .val (.int dt), .val (.int tt), .val (.int kd), .val (.int pe), .val (.int ps), .val (.int da), .val (.int ln), .val (.int w1), .val (.int w2), .val (.int df), .val (.int de), .val (.int g0), .val (.int g1), .val (.ref b9), .unset] [(.int ch0), (.int (0 : Int32)), (.ref b9)]))
  obtain ⟨cl12, Ar12, qa12, Sa12, Na12, Ha12, Ga12⟩ := id V9
  have hin12 : ¬ ((0 : Int32) < 0 ∨ cl12.slots.size ≤ ((0 : Int32)).toNatClampNeg) := inb_of Sa12 ⟨by decide, by decide⟩
  obtain ⟨T13, h13, X13, e13, W13, st13⟩ := stC X9 hx hZ e9 Ar12 (j := (0 : Int32)) hin12 (g := (mkF m 215 #[.val (.int p1), .val (.int p2), .val (.int p3), .val (.int p4), .val (.int ch0), .val (.int ch1'), .val (.int dt), .val (.int tt), .val (.int kd), .val (.int pe), .val (.int ps), .val (.int da), .val (.int ln), .val (.int w1), .val (.int w2), .val (.int df), .val (.int de), .val (.int g0), .val (.int g1), .val (.ref b9), .unset] [(.int ch0), (.int (0 : Int32)), (.ref b9)])) rfl rfl (hb hby at_215)
  refine Go.st st13 ?_
  have V13 := Arv.set Ar12 qa12 Sa12 Na12 Ha12 Ga12 (fits_nar_char _) W13 0 rfl (Nat.le_of_ble_eq_true rfl)
  have f14 := (f10).wr W13
  have z16 := Nat.le_trans z11 (Keep.of_wr W13).1
  have N13 := Fr.snoc X13 N1 gb9
  show Go p.tables e below _ (T13.setTop (mkF m 216 #[.val (.int p1), .val (.int p2), .val (.int p3), .val (.int p4), .val (.int ch0), .val (.int ch1'), .val (.int dt), .val (.int tt), .val (.int kd), .val (.int pe), .val (.int ps), .val (.int da), .val (.int ln), .val (.int w1), .val (.int w2), .val (.int df), .val (.int de), .val (.int g0), .val (.int g1), .val (.ref b9), .unset] []))
  refine Go.st (fun U hr => XS.aload X13.here hx rfl (hb hby at_216) rfl rfl hr) ?_
  show Go p.tables e below _ (T13.setTop (mkF m 218 #[.val (.int p1), .val (.int p2), .val (.int p3), .val (.int p4), .val (.int ch0), .val (.int ch1'), .val (.int dt), .val (.int tt), .val (.int kd), .val (.int pe), .val (.int ps), .val (.int da), .val (.int ln), .val (.int w1), .val (.int w2), .val (.int df), .val (.int de), .val (.int g0), .val (.int g1), .val (.ref b9), .unset] [(.ref b9)]))
  refine Go.st (fun U hr => XS.iconst X13.here hx rfl (hb hby at_218) hr) ?_
  show Go p.tables e below _ (T13.setTop (mkF m 219 #[.val (.int p1), .val (.int p2), .val (.int p3), .val (.int p4), .val (.int ch0), .val (.int ch1'), .val (.int dt), .val (.int tt), .val (.int kd), .val (.int pe), .val (.int ps), .val (.int da), .val (.int ln), .val (.int w1), .val (.int w2), .val (.int df), .val (.int de), .val (.int g0), .val (.int g1), .val (.ref b9), .unset] [(.int (1 : Int32)), (.ref b9)]))
  refine Go.st (fun U hr => XS.iload X13.here hx rfl (hb hby at_219) rfl hr) ?_
  show Go p.tables e below _ (T13.setTop (mkF m 221 #[.val (.int p1), .val (.int p2), .val (.int p3), .val (.int p4), .val (.int ch0), .val (.int ch1'), .val (.int dt), .val (.int tt), .val (.int kd), .val (.int pe), .val (.int ps), .val (.int da), .val (.int ln), .val (.int w1), .val (.int w2), .val (.int df), .val (.int de), .val (.int g0), .val (.int g1), .val (.ref b9), .unset] [(.int ch1'), (.int (1 : Int32)), (.ref b9)]))
  obtain ⟨cl17, Ar17, qa17, Sa17, Na17, Ha17, Ga17⟩ := id V13
  have hin17 : ¬ ((1 : Int32) < 0 ∨ cl17.slots.size ≤ ((1 : Int32)).toNatClampNeg) := inb_of Sa17 ⟨by decide, by decide⟩
  obtain ⟨T18, h18, X18, e18, W18, st18⟩ := stC X13 hx hZ e13 Ar17 (j := (1 : Int32)) hin17 (g := (mkF m 221 #[.val (.int p1), .val (.int p2), .val (.int p3), .val (.int p4), .val (.int ch0), .val (.int ch1'), .val (.int dt), .val (.int tt), .val (.int kd), .val (.int pe), .val (.int ps), .val (.int da), .val (.int ln), .val (.int w1), .val (.int w2), .val (.int df), .val (.int de), .val (.int g0), .val (.int g1), .val (.ref b9), .unset] [(.int ch1'), (.int (1 : Int32)), (.ref b9)])) rfl rfl (hb hby at_221)
  refine Go.st st18 ?_
  have V18 := Arv.set Ar17 qa17 Sa17 Na17 Ha17 Ga17 (fits_nar_char _) W18 1 rfl (Nat.le_of_ble_eq_true rfl)
  have f19 := (f14).wr W18
  have z21 := Nat.le_trans z16 (Keep.of_wr W18).1
  have N18 := Fr.snoc X18 N13 gb9
  show Go p.tables e below _ (T18.setTop (mkF m 222 #[.val (.int p1), .val (.int p2), .val (.int p3), .val (.int p4), .val (.int ch0), .val (.int ch1'), .val (.int dt), .val (.int tt), .val (.int kd), .val (.int pe), .val (.int ps), .val (.int da), .val (.int ln), .val (.int w1), .val (.int w2), .val (.int df), .val (.int de), .val (.int g0), .val (.int g1), .val (.ref b9), .unset] []))
  refine Go.st (fun U hr => XS.aload X18.here hx rfl (hb hby at_222) rfl rfl hr) ?_
  show Go p.tables e below _ (T18.setTop (mkF m 224 #[.val (.int p1), .val (.int p2), .val (.int p3), .val (.int p4), .val (.int ch0), .val (.int ch1'), .val (.int dt), .val (.int tt), .val (.int kd), .val (.int pe), .val (.int ps), .val (.int da), .val (.int ln), .val (.int w1), .val (.int w2), .val (.int df), .val (.int de), .val (.int g0), .val (.int g1), .val (.ref b9), .unset] [(.ref b9)]))
  refine Go.st (fun U hr => XS.iconst X18.here hx rfl (hb hby at_224) hr) ?_
  show Go p.tables e below _ (T18.setTop (mkF m 225 #[.val (.int p1), .val (.int p2), .val (.int p3), .val (.int p4), .val (.int ch0), .val (.int ch1'), .val (.int dt), .val (.int tt), .val (.int kd), .val (.int pe), .val (.int ps), .val (.int da), .val (.int ln), .val (.int w1), .val (.int w2), .val (.int df), .val (.int de), .val (.int g0), .val (.int g1), .val (.ref b9), .unset] [(.int (2 : Int32)), (.ref b9)]))
  refine Go.st (fun U hr => XS.iconst X18.here hx rfl (hb hby at_225) hr) ?_
  show Go p.tables e below _ (T18.setTop (mkF m 226 #[.val (.int p1), .val (.int p2), .val (.int p3), .val (.int p4), .val (.int ch0), .val (.int ch1'), .val (.int dt), .val (.int tt), .val (.int kd), .val (.int pe), .val (.int ps), .val (.int da), .val (.int ln), .val (.int w1), .val (.int w2), .val (.int df), .val (.int de), .val (.int g0), .val (.int g1), .val (.ref b9), .unset] [(.int (2 : Int32)), (.int (2 : Int32)), (.ref b9)]))
  refine Go.st (fun U hr => XS.iload X18.here hx rfl (hb hby at_226) rfl hr) ?_
  show Go p.tables e below _ (T18.setTop (mkF m 228 #[.val (.int p1), .val (.int p2), .val (.int p3), .val (.int p4), .val (.int ch0), .val (.int ch1'), .val (.int dt), .val (.int tt), .val (.int kd), .val (.int pe), .val (.int ps), .val (.int da), .val (.int ln), .val (.int w1), .val (.int w2), .val (.int df), .val (.int de), .val (.int g0), .val (.int g1), .val (.ref b9), .unset] [(.int df), (.int (2 : Int32)), (.int (2 : Int32)), (.ref b9)]))
  refine Go.st (fun U hr => XS.iload X18.here hx rfl (hb hby at_228) rfl hr) ?_
  show Go p.tables e below _ (T18.setTop (mkF m 230 #[.val (.int p1), .val (.int p2), .val (.int p3), .val (.int p4), .val (.int ch0), .val (.int ch1'), .val (.int dt), .val (.int tt), .val (.int kd), .val (.int pe), .val (.int ps), .val (.int da), .val (.int ln), .val (.int w1), .val (.int w2), .val (.int df), .val (.int de), .val (.int g0), .val (.int g1), .val (.ref b9), .unset] [(.int de), (.int df), (.int (2 : Int32)), (.int (2 : Int32)), (.ref b9)]))
  refine Go.st (fun U hr => XS.iload X18.here hx rfl (hb hby at_230) rfl hr) ?_
  show Go p.tables e below _ (T18.setTop (mkF m 232 #[.val (.int p1), .val (.int p2), .val (.int p3), .val (.int p4), .val (.int ch0), .val (.int ch1'), .val (.int dt), .val (.int tt), .val (.int kd), .val (.int pe), .val (.int ps), .val (.int da), .val (.int ln), .val (.int w1), .val (.int w2), .val (.int df), .val (.int de), .val (.int g0), .val (.int g1), .val (.ref b9), .unset] [(.int ps), (.int de), (.int df), (.int (2 : Int32)), (.int (2 : Int32)), (.ref b9)]))
  refine Go.st (fun U hr => XS.iload X18.here hx rfl (hb hby at_232) rfl hr) ?_
  show Go p.tables e below _ (T18.setTop (mkF m 234 #[.val (.int p1), .val (.int p2), .val (.int p3), .val (.int p4), .val (.int ch0), .val (.int ch1'), .val (.int dt), .val (.int tt), .val (.int kd), .val (.int pe), .val (.int ps), .val (.int da), .val (.int ln), .val (.int w1), .val (.int w2), .val (.int df), .val (.int de), .val (.int g0), .val (.int g1), .val (.ref b9), .unset] [(.int pe), (.int ps), (.int de), (.int df), (.int (2 : Int32)), (.int (2 : Int32)), (.ref b9)]))
  refine Go.st (fun U hr => XS.iload X18.here hx rfl (hb hby at_234) rfl hr) ?_
  show Go p.tables e below _ (T18.setTop (mkF m 236 #[.val (.int p1), .val (.int p2), .val (.int p3), .val (.int p4), .val (.int ch0), .val (.int ch1'), .val (.int dt), .val (.int tt), .val (.int kd), .val (.int pe), .val (.int ps), .val (.int da), .val (.int ln), .val (.int w1), .val (.int w2), .val (.int df), .val (.int de), .val (.int g0), .val (.int g1), .val (.ref b9), .unset] [(.int da), (.int pe), (.int ps), (.int de), (.int df), (.int (2 : Int32)), (.int (2 : Int32)), (.ref b9)]))
  refine Go.st (fun U hr => XS.iload X18.here hx rfl (hb hby at_236) rfl hr) ?_
  show Go p.tables e below _ (T18.setTop (mkF m 238 #[.val (.int p1), .val (.int p2), .val (.int p3), .val (.int p4), .val (.int ch0), .val (.int ch1'), .val (.int dt), .val (.int tt), .val (.int kd), .val (.int pe), .val (.int ps), .val (.int da), .val (.int ln), .val (.int w1), .val (.int w2), .val (.int df), .val (.int de), .val (.int g0), .val (.int g1), .val (.ref b9), .unset] [(.int g0), (.int da), (.int pe), (.int ps), (.int de), (.int df), (.int (2 : Int32)), (.int (2 : Int32)), (.ref b9)]))
  refine Go.st (fun U hr => XS.iload X18.here hx rfl (hb hby at_238) rfl hr) ?_
  show Go p.tables e below _ (T18.setTop (mkF m 240 #[.val (.int p1), .val (.int p2), .val (.int p3), .val (.int p4), .val (.int ch0), .val (.int ch1'), .val (.int dt), .val (.int tt), .val (.int kd), .val (.int pe), .val (.int ps), .val (.int da), .val (.int ln), .val (.int w1), .val (.int w2), .val (.int df), .val (.int de), .val (.int g0), .val (.int g1), .val (.ref b9), .unset] [(.int g1), (.int g0), (.int da), (.int pe), (.int ps), (.int de), (.int df), (.int (2 : Int32)), (.int (2 : Int32)), (.ref b9)]))
  refine Go.st (fun U hr => XS.iloadN X18.here hx rfl (hb hby at_240) rfl hr) ?_
  show Go p.tables e below _ (T18.setTop (mkF m 241 #[.val (.int p1), .val (.int p2), .val (.int p3), .val (.int p4), .val (.int ch0), .val (.int ch1'), .val (.int dt), .val (.int tt), .val (.int kd), .val (.int pe), .val (.int ps), .val (.int da), .val (.int ln), .val (.int w1), .val (.int w2), .val (.int df), .val (.int de), .val (.int g0), .val (.int g1), .val (.ref b9), .unset] [(.int p4), (.int g1), (.int g0), (.int da), (.int pe), (.int ps), (.int de), (.int df), (.int (2 : Int32)), (.int (2 : Int32)), (.ref b9)]))
  obtain ⟨_, _, ⟨T22, L22, k22, n22⟩, -, X22, ⟨Lc22, hQ22, l22, y22, z22⟩, st22⟩ := Jvm.LawKit.callS X18 hx (y := (⟨"com/example/clausewright/clausewright/PageNumberHasDotLeadersPinLaw", "cell", "(IIIIIZCCI)C"⟩ : MethodName)) hown (mvT hZ (hw _ (List.mem_of_getElem? (i := 5) rfl))) (mvT hZ (hw _ (List.mem_of_getElem? (i := 6) rfl))) (mvT hZ (hw _ (List.mem_of_getElem? (i := 2) rfl))) (mvT hZ (hw _ (List.mem_of_getElem? (i := 7) rfl))) (by decide) (backOf (W := 2) (rm2 l Z a0 hw [] (2 : Int32) df de ps pe da g0 g1 p4 h18 n0 z21 ⟨by omega, by omega⟩ ⟨by omega, by omega⟩) hZ (hw _ (List.mem_of_getElem? (i := 7) rfl)) (hw _ (List.mem_of_getElem? (i := 2) rfl)) (by decide) (by decide)) (g := (mkF m 241 #[.val (.int p1), .val (.int p2), .val (.int p3), .val (.int p4), .val (.int ch0), .val (.int ch1'), .val (.int dt), .val (.int tt), .val (.int kd), .val (.int pe), .val (.int ps), .val (.int da), .val (.int ln), .val (.int w1), .val (.int w2), .val (.int df), .val (.int de), .val (.int g0), .val (.int g1), .val (.ref b9), .unset] [(.int p4), (.int g1), (.int g0), (.int da), (.int pe), (.int ps), (.int de), (.int df), (.int (2 : Int32)), (.int (2 : Int32)), (.ref b9)])) rfl (by rw [hml]; rfl) (argsL := [(.int (2 : Int32)), (.int df), (.int de), (.int ps), (.int pe), (.int da), (.int g0), (.int g1), (.int p4)]) (rest := [(.int (2 : Int32)), (.ref b9)]) (lenOf pd_12 rfl) rfl (by show 2 * 0 + _ ≤ _; exact Nat.le_of_eq rfl) (hb hby at_241) (fun _ _ => ⟨rfl, e18, (by decide : 1 + 0 ≤ _), (by decide : 8 + 0 ≤ _)⟩)
  dsimp only [Pt.U, Pt.locs, Pt.cells, Pt.slots] at X22 l22 y22 z22 st22 hQ22
  subst l22 y22 z22
  obtain ⟨rfl, Nq22, ee22⟩ := hQ22
  have N22 := Fr.app N18 Nq22
  refine Go.st st22 ?_
  show Go p.tables e below _ (T22.setTop (mkF m 244 #[.val (.int p1), .val (.int p2), .val (.int p3), .val (.int p4), .val (.int ch0), .val (.int ch1'), .val (.int dt), .val (.int tt), .val (.int kd), .val (.int pe), .val (.int ps), .val (.int da), .val (.int ln), .val (.int w1), .val (.int w2), .val (.int df), .val (.int de), .val (.int g0), .val (.int g1), .val (.ref b9), .unset] [(.int (own_cell (2 : Int32) df de ps pe da g0 g1 p4)), (.int (2 : Int32)), (.ref b9)]))
  have hz2 := own_cell_ok (2 : Int32) df de ps pe da g0 g1 p4 ⟨by omega, by omega⟩ ⟨by omega, by omega⟩
  generalize h_y2 : (own_cell (2 : Int32) df de ps pe da g0 g1 p4) = y2
  rw [h_y2] at hz2
  obtain ⟨cl23, Ar23, qa23, Sa23, Na23, Ha23, Ga23⟩ := id V18
  have hin23 : ¬ ((2 : Int32) < 0 ∨ cl23.slots.size ≤ ((2 : Int32)).toNatClampNeg) := inb_of Sa23 ⟨by decide, by decide⟩
  obtain ⟨T24, h24, X24, e24, W24, st24⟩ := stC X22 hx hZ ee22 Ar23 (j := (2 : Int32)) hin23 (g := (mkF m 244 #[.val (.int p1), .val (.int p2), .val (.int p3), .val (.int p4), .val (.int ch0), .val (.int ch1'), .val (.int dt), .val (.int tt), .val (.int kd), .val (.int pe), .val (.int ps), .val (.int da), .val (.int ln), .val (.int w1), .val (.int w2), .val (.int df), .val (.int de), .val (.int g0), .val (.int g1), .val (.ref b9), .unset] [(.int y2), (.int (2 : Int32)), (.ref b9)])) rfl rfl (hb hby at_244)
  refine Go.st st24 ?_
  have V24 := Arv.set Ar23 qa23 Sa23 Na23 Ha23 Ga23 (fits_nar_char _) W24 2 rfl (Nat.le_of_ble_eq_true rfl)
  have f25 := (f19).wr W24
  have z27 := Nat.le_trans z21 (Keep.of_wr W24).1
  have N24 := Fr.snoc X24 N22 gb9
  show Go p.tables e below _ (T24.setTop (mkF m 245 #[.val (.int p1), .val (.int p2), .val (.int p3), .val (.int p4), .val (.int ch0), .val (.int ch1'), .val (.int dt), .val (.int tt), .val (.int kd), .val (.int pe), .val (.int ps), .val (.int da), .val (.int ln), .val (.int w1), .val (.int w2), .val (.int df), .val (.int de), .val (.int g0), .val (.int g1), .val (.ref b9), .unset] []))
  refine Go.st (fun U hr => XS.aload X24.here hx rfl (hb hby at_245) rfl rfl hr) ?_
  show Go p.tables e below _ (T24.setTop (mkF m 247 #[.val (.int p1), .val (.int p2), .val (.int p3), .val (.int p4), .val (.int ch0), .val (.int ch1'), .val (.int dt), .val (.int tt), .val (.int kd), .val (.int pe), .val (.int ps), .val (.int da), .val (.int ln), .val (.int w1), .val (.int w2), .val (.int df), .val (.int de), .val (.int g0), .val (.int g1), .val (.ref b9), .unset] [(.ref b9)]))
  refine Go.st (fun U hr => XS.iconst X24.here hx rfl (hb hby at_247) hr) ?_
  show Go p.tables e below _ (T24.setTop (mkF m 248 #[.val (.int p1), .val (.int p2), .val (.int p3), .val (.int p4), .val (.int ch0), .val (.int ch1'), .val (.int dt), .val (.int tt), .val (.int kd), .val (.int pe), .val (.int ps), .val (.int da), .val (.int ln), .val (.int w1), .val (.int w2), .val (.int df), .val (.int de), .val (.int g0), .val (.int g1), .val (.ref b9), .unset] [(.int (3 : Int32)), (.ref b9)]))
  refine Go.st (fun U hr => XS.iconst X24.here hx rfl (hb hby at_248) hr) ?_
  show Go p.tables e below _ (T24.setTop (mkF m 249 #[.val (.int p1), .val (.int p2), .val (.int p3), .val (.int p4), .val (.int ch0), .val (.int ch1'), .val (.int dt), .val (.int tt), .val (.int kd), .val (.int pe), .val (.int ps), .val (.int da), .val (.int ln), .val (.int w1), .val (.int w2), .val (.int df), .val (.int de), .val (.int g0), .val (.int g1), .val (.ref b9), .unset] [(.int (3 : Int32)), (.int (3 : Int32)), (.ref b9)]))
  refine Go.st (fun U hr => XS.iload X24.here hx rfl (hb hby at_249) rfl hr) ?_
  show Go p.tables e below _ (T24.setTop (mkF m 251 #[.val (.int p1), .val (.int p2), .val (.int p3), .val (.int p4), .val (.int ch0), .val (.int ch1'), .val (.int dt), .val (.int tt), .val (.int kd), .val (.int pe), .val (.int ps), .val (.int da), .val (.int ln), .val (.int w1), .val (.int w2), .val (.int df), .val (.int de), .val (.int g0), .val (.int g1), .val (.ref b9), .unset] [(.int df), (.int (3 : Int32)), (.int (3 : Int32)), (.ref b9)]))
  refine Go.st (fun U hr => XS.iload X24.here hx rfl (hb hby at_251) rfl hr) ?_
  show Go p.tables e below _ (T24.setTop (mkF m 253 #[.val (.int p1), .val (.int p2), .val (.int p3), .val (.int p4), .val (.int ch0), .val (.int ch1'), .val (.int dt), .val (.int tt), .val (.int kd), .val (.int pe), .val (.int ps), .val (.int da), .val (.int ln), .val (.int w1), .val (.int w2), .val (.int df), .val (.int de), .val (.int g0), .val (.int g1), .val (.ref b9), .unset] [(.int de), (.int df), (.int (3 : Int32)), (.int (3 : Int32)), (.ref b9)]))
  refine Go.st (fun U hr => XS.iload X24.here hx rfl (hb hby at_253) rfl hr) ?_
  show Go p.tables e below _ (T24.setTop (mkF m 255 #[.val (.int p1), .val (.int p2), .val (.int p3), .val (.int p4), .val (.int ch0), .val (.int ch1'), .val (.int dt), .val (.int tt), .val (.int kd), .val (.int pe), .val (.int ps), .val (.int da), .val (.int ln), .val (.int w1), .val (.int w2), .val (.int df), .val (.int de), .val (.int g0), .val (.int g1), .val (.ref b9), .unset] [(.int ps), (.int de), (.int df), (.int (3 : Int32)), (.int (3 : Int32)), (.ref b9)]))
  refine Go.st (fun U hr => XS.iload X24.here hx rfl (hb hby at_255) rfl hr) ?_
  show Go p.tables e below _ (T24.setTop (mkF m 257 #[.val (.int p1), .val (.int p2), .val (.int p3), .val (.int p4), .val (.int ch0), .val (.int ch1'), .val (.int dt), .val (.int tt), .val (.int kd), .val (.int pe), .val (.int ps), .val (.int da), .val (.int ln), .val (.int w1), .val (.int w2), .val (.int df), .val (.int de), .val (.int g0), .val (.int g1), .val (.ref b9), .unset] [(.int pe), (.int ps), (.int de), (.int df), (.int (3 : Int32)), (.int (3 : Int32)), (.ref b9)]))
  refine Go.st (fun U hr => XS.iload X24.here hx rfl (hb hby at_257) rfl hr) ?_
  show Go p.tables e below _ (T24.setTop (mkF m 259 #[.val (.int p1), .val (.int p2), .val (.int p3), .val (.int p4), .val (.int ch0), .val (.int ch1'), .val (.int dt), .val (.int tt), .val (.int kd), .val (.int pe), .val (.int ps), .val (.int da), .val (.int ln), .val (.int w1), .val (.int w2), .val (.int df), .val (.int de), .val (.int g0), .val (.int g1), .val (.ref b9), .unset] [(.int da), (.int pe), (.int ps), (.int de), (.int df), (.int (3 : Int32)), (.int (3 : Int32)), (.ref b9)]))
  refine Go.st (fun U hr => XS.iload X24.here hx rfl (hb hby at_259) rfl hr) ?_
  show Go p.tables e below _ (T24.setTop (mkF m 261 #[.val (.int p1), .val (.int p2), .val (.int p3), .val (.int p4), .val (.int ch0), .val (.int ch1'), .val (.int dt), .val (.int tt), .val (.int kd), .val (.int pe), .val (.int ps), .val (.int da), .val (.int ln), .val (.int w1), .val (.int w2), .val (.int df), .val (.int de), .val (.int g0), .val (.int g1), .val (.ref b9), .unset] [(.int g0), (.int da), (.int pe), (.int ps), (.int de), (.int df), (.int (3 : Int32)), (.int (3 : Int32)), (.ref b9)]))
  refine Go.st (fun U hr => XS.iload X24.here hx rfl (hb hby at_261) rfl hr) ?_
  show Go p.tables e below _ (T24.setTop (mkF m 263 #[.val (.int p1), .val (.int p2), .val (.int p3), .val (.int p4), .val (.int ch0), .val (.int ch1'), .val (.int dt), .val (.int tt), .val (.int kd), .val (.int pe), .val (.int ps), .val (.int da), .val (.int ln), .val (.int w1), .val (.int w2), .val (.int df), .val (.int de), .val (.int g0), .val (.int g1), .val (.ref b9), .unset] [(.int g1), (.int g0), (.int da), (.int pe), (.int ps), (.int de), (.int df), (.int (3 : Int32)), (.int (3 : Int32)), (.ref b9)]))
  refine Go.st (fun U hr => XS.iloadN X24.here hx rfl (hb hby at_263) rfl hr) ?_
  show Go p.tables e below _ (T24.setTop (mkF m 264 #[.val (.int p1), .val (.int p2), .val (.int p3), .val (.int p4), .val (.int ch0), .val (.int ch1'), .val (.int dt), .val (.int tt), .val (.int kd), .val (.int pe), .val (.int ps), .val (.int da), .val (.int ln), .val (.int w1), .val (.int w2), .val (.int df), .val (.int de), .val (.int g0), .val (.int g1), .val (.ref b9), .unset] [(.int p4), (.int g1), (.int g0), (.int da), (.int pe), (.int ps), (.int de), (.int df), (.int (3 : Int32)), (.int (3 : Int32)), (.ref b9)]))
  obtain ⟨_, _, ⟨T28, L28, k28, n28⟩, -, X28, ⟨Lc28, hQ28, l28, y28, z28⟩, st28⟩ := Jvm.LawKit.callS X24 hx (y := (⟨"com/example/clausewright/clausewright/PageNumberHasDotLeadersPinLaw", "cell", "(IIIIIZCCI)C"⟩ : MethodName)) hown (mvT hZ (hw _ (List.mem_of_getElem? (i := 5) rfl))) (mvT hZ (hw _ (List.mem_of_getElem? (i := 6) rfl))) (mvT hZ (hw _ (List.mem_of_getElem? (i := 2) rfl))) (mvT hZ (hw _ (List.mem_of_getElem? (i := 7) rfl))) (by decide) (backOf (W := 2) (rm2 l Z a0 hw [] (3 : Int32) df de ps pe da g0 g1 p4 h24 n0 z27 ⟨by omega, by omega⟩ ⟨by omega, by omega⟩) hZ (hw _ (List.mem_of_getElem? (i := 7) rfl)) (hw _ (List.mem_of_getElem? (i := 2) rfl)) (by decide) (by decide)) (g := (mkF m 264 #[.val (.int p1), .val (.int p2), .val (.int p3), .val (.int p4), .val (.int ch0), .val (.int ch1'), .val (.int dt), .val (.int tt), .val (.int kd), .val (.int pe), .val (.int ps), .val (.int da), .val (.int ln), .val (.int w1), .val (.int w2), .val (.int df), .val (.int de), .val (.int g0), .val (.int g1), .val (.ref b9), .unset] [(.int p4), (.int g1), (.int g0), (.int da), (.int pe), (.int ps), (.int de), (.int df), (.int (3 : Int32)), (.int (3 : Int32)), (.ref b9)])) rfl (by rw [hml]; rfl) (argsL := [(.int (3 : Int32)), (.int df), (.int de), (.int ps), (.int pe), (.int da), (.int g0), (.int g1), (.int p4)]) (rest := [(.int (3 : Int32)), (.ref b9)]) (lenOf pd_12 rfl) rfl (by show 2 * 0 + _ ≤ _; exact Nat.le_of_eq rfl) (hb hby at_264) (fun _ _ => ⟨rfl, e24, (by decide : 1 + 0 ≤ _), (by decide : 8 + 0 ≤ _)⟩)
  dsimp only [Pt.U, Pt.locs, Pt.cells, Pt.slots] at X28 l28 y28 z28 st28 hQ28
  subst l28 y28 z28
  obtain ⟨rfl, Nq28, ee28⟩ := hQ28
  have N28 := Fr.app N24 Nq28
  refine Go.st st28 ?_
  show Go p.tables e below _ (T28.setTop (mkF m 267 #[.val (.int p1), .val (.int p2), .val (.int p3), .val (.int p4), .val (.int ch0), .val (.int ch1'), .val (.int dt), .val (.int tt), .val (.int kd), .val (.int pe), .val (.int ps), .val (.int da), .val (.int ln), .val (.int w1), .val (.int w2), .val (.int df), .val (.int de), .val (.int g0), .val (.int g1), .val (.ref b9), .unset] [(.int (own_cell (3 : Int32) df de ps pe da g0 g1 p4)), (.int (3 : Int32)), (.ref b9)]))
  have hz3 := own_cell_ok (3 : Int32) df de ps pe da g0 g1 p4 ⟨by omega, by omega⟩ ⟨by omega, by omega⟩
  generalize h_y3 : (own_cell (3 : Int32) df de ps pe da g0 g1 p4) = y3
  rw [h_y3] at hz3
  obtain ⟨cl29, Ar29, qa29, Sa29, Na29, Ha29, Ga29⟩ := id V24
  have hin29 : ¬ ((3 : Int32) < 0 ∨ cl29.slots.size ≤ ((3 : Int32)).toNatClampNeg) := inb_of Sa29 ⟨by decide, by decide⟩
  obtain ⟨T30, h30, X30, e30, W30, st30⟩ := stC X28 hx hZ ee28 Ar29 (j := (3 : Int32)) hin29 (g := (mkF m 267 #[.val (.int p1), .val (.int p2), .val (.int p3), .val (.int p4), .val (.int ch0), .val (.int ch1'), .val (.int dt), .val (.int tt), .val (.int kd), .val (.int pe), .val (.int ps), .val (.int da), .val (.int ln), .val (.int w1), .val (.int w2), .val (.int df), .val (.int de), .val (.int g0), .val (.int g1), .val (.ref b9), .unset] [(.int y3), (.int (3 : Int32)), (.ref b9)])) rfl rfl (hb hby at_267)
  refine Go.st st30 ?_
  have V30 := Arv.set Ar29 qa29 Sa29 Na29 Ha29 Ga29 (fits_nar_char _) W30 3 rfl (Nat.le_of_ble_eq_true rfl)
  have f31 := (f25).wr W30
  have z33 := Nat.le_trans z27 (Keep.of_wr W30).1
  have N30 := Fr.snoc X30 N28 gb9
  show Go p.tables e below _ (T30.setTop (mkF m 268 #[.val (.int p1), .val (.int p2), .val (.int p3), .val (.int p4), .val (.int ch0), .val (.int ch1'), .val (.int dt), .val (.int tt), .val (.int kd), .val (.int pe), .val (.int ps), .val (.int da), .val (.int ln), .val (.int w1), .val (.int w2), .val (.int df), .val (.int de), .val (.int g0), .val (.int g1), .val (.ref b9), .unset] []))
  refine Go.st (fun U hr => XS.aload X30.here hx rfl (hb hby at_268) rfl rfl hr) ?_
  show Go p.tables e below _ (T30.setTop (mkF m 270 #[.val (.int p1), .val (.int p2), .val (.int p3), .val (.int p4), .val (.int ch0), .val (.int ch1'), .val (.int dt), .val (.int tt), .val (.int kd), .val (.int pe), .val (.int ps), .val (.int da), .val (.int ln), .val (.int w1), .val (.int w2), .val (.int df), .val (.int de), .val (.int g0), .val (.int g1), .val (.ref b9), .unset] [(.ref b9)]))
  refine Go.st (fun U hr => XS.iconst X30.here hx rfl (hb hby at_270) hr) ?_
  show Go p.tables e below _ (T30.setTop (mkF m 271 #[.val (.int p1), .val (.int p2), .val (.int p3), .val (.int p4), .val (.int ch0), .val (.int ch1'), .val (.int dt), .val (.int tt), .val (.int kd), .val (.int pe), .val (.int ps), .val (.int da), .val (.int ln), .val (.int w1), .val (.int w2), .val (.int df), .val (.int de), .val (.int g0), .val (.int g1), .val (.ref b9), .unset] [(.int (4 : Int32)), (.ref b9)]))
  refine Go.st (fun U hr => XS.iconst X30.here hx rfl (hb hby at_271) hr) ?_
  show Go p.tables e below _ (T30.setTop (mkF m 272 #[.val (.int p1), .val (.int p2), .val (.int p3), .val (.int p4), .val (.int ch0), .val (.int ch1'), .val (.int dt), .val (.int tt), .val (.int kd), .val (.int pe), .val (.int ps), .val (.int da), .val (.int ln), .val (.int w1), .val (.int w2), .val (.int df), .val (.int de), .val (.int g0), .val (.int g1), .val (.ref b9), .unset] [(.int (4 : Int32)), (.int (4 : Int32)), (.ref b9)]))
  refine Go.st (fun U hr => XS.iload X30.here hx rfl (hb hby at_272) rfl hr) ?_
  show Go p.tables e below _ (T30.setTop (mkF m 274 #[.val (.int p1), .val (.int p2), .val (.int p3), .val (.int p4), .val (.int ch0), .val (.int ch1'), .val (.int dt), .val (.int tt), .val (.int kd), .val (.int pe), .val (.int ps), .val (.int da), .val (.int ln), .val (.int w1), .val (.int w2), .val (.int df), .val (.int de), .val (.int g0), .val (.int g1), .val (.ref b9), .unset] [(.int df), (.int (4 : Int32)), (.int (4 : Int32)), (.ref b9)]))
  refine Go.st (fun U hr => XS.iload X30.here hx rfl (hb hby at_274) rfl hr) ?_
  show Go p.tables e below _ (T30.setTop (mkF m 276 #[.val (.int p1), .val (.int p2), .val (.int p3), .val (.int p4), .val (.int ch0), .val (.int ch1'), .val (.int dt), .val (.int tt), .val (.int kd), .val (.int pe), .val (.int ps), .val (.int da), .val (.int ln), .val (.int w1), .val (.int w2), .val (.int df), .val (.int de), .val (.int g0), .val (.int g1), .val (.ref b9), .unset] [(.int de), (.int df), (.int (4 : Int32)), (.int (4 : Int32)), (.ref b9)]))
  refine Go.st (fun U hr => XS.iload X30.here hx rfl (hb hby at_276) rfl hr) ?_
  show Go p.tables e below _ (T30.setTop (mkF m 278 #[.val (.int p1), .val (.int p2), .val (.int p3), .val (.int p4), .val (.int ch0), .val (.int ch1'), .val (.int dt), .val (.int tt), .val (.int kd), .val (.int pe), .val (.int ps), .val (.int da), .val (.int ln), .val (.int w1), .val (.int w2), .val (.int df), .val (.int de), .val (.int g0), .val (.int g1), .val (.ref b9), .unset] [(.int ps), (.int de), (.int df), (.int (4 : Int32)), (.int (4 : Int32)), (.ref b9)]))
  refine Go.st (fun U hr => XS.iload X30.here hx rfl (hb hby at_278) rfl hr) ?_
  show Go p.tables e below _ (T30.setTop (mkF m 280 #[.val (.int p1), .val (.int p2), .val (.int p3), .val (.int p4), .val (.int ch0), .val (.int ch1'), .val (.int dt), .val (.int tt), .val (.int kd), .val (.int pe), .val (.int ps), .val (.int da), .val (.int ln), .val (.int w1), .val (.int w2), .val (.int df), .val (.int de), .val (.int g0), .val (.int g1), .val (.ref b9), .unset] [(.int pe), (.int ps), (.int de), (.int df), (.int (4 : Int32)), (.int (4 : Int32)), (.ref b9)]))
  refine Go.st (fun U hr => XS.iload X30.here hx rfl (hb hby at_280) rfl hr) ?_
  show Go p.tables e below _ (T30.setTop (mkF m 282 #[.val (.int p1), .val (.int p2), .val (.int p3), .val (.int p4), .val (.int ch0), .val (.int ch1'), .val (.int dt), .val (.int tt), .val (.int kd), .val (.int pe), .val (.int ps), .val (.int da), .val (.int ln), .val (.int w1), .val (.int w2), .val (.int df), .val (.int de), .val (.int g0), .val (.int g1), .val (.ref b9), .unset] [(.int da), (.int pe), (.int ps), (.int de), (.int df), (.int (4 : Int32)), (.int (4 : Int32)), (.ref b9)]))
  refine Go.st (fun U hr => XS.iload X30.here hx rfl (hb hby at_282) rfl hr) ?_
  show Go p.tables e below _ (T30.setTop (mkF m 284 #[.val (.int p1), .val (.int p2), .val (.int p3), .val (.int p4), .val (.int ch0), .val (.int ch1'), .val (.int dt), .val (.int tt), .val (.int kd), .val (.int pe), .val (.int ps), .val (.int da), .val (.int ln), .val (.int w1), .val (.int w2), .val (.int df), .val (.int de), .val (.int g0), .val (.int g1), .val (.ref b9), .unset] [(.int g0), (.int da), (.int pe), (.int ps), (.int de), (.int df), (.int (4 : Int32)), (.int (4 : Int32)), (.ref b9)]))
  refine Go.st (fun U hr => XS.iload X30.here hx rfl (hb hby at_284) rfl hr) ?_
  show Go p.tables e below _ (T30.setTop (mkF m 286 #[.val (.int p1), .val (.int p2), .val (.int p3), .val (.int p4), .val (.int ch0), .val (.int ch1'), .val (.int dt), .val (.int tt), .val (.int kd), .val (.int pe), .val (.int ps), .val (.int da), .val (.int ln), .val (.int w1), .val (.int w2), .val (.int df), .val (.int de), .val (.int g0), .val (.int g1), .val (.ref b9), .unset] [(.int g1), (.int g0), (.int da), (.int pe), (.int ps), (.int de), (.int df), (.int (4 : Int32)), (.int (4 : Int32)), (.ref b9)]))
  refine Go.st (fun U hr => XS.iloadN X30.here hx rfl (hb hby at_286) rfl hr) ?_
  show Go p.tables e below _ (T30.setTop (mkF m 287 #[.val (.int p1), .val (.int p2), .val (.int p3), .val (.int p4), .val (.int ch0), .val (.int ch1'), .val (.int dt), .val (.int tt), .val (.int kd), .val (.int pe), .val (.int ps), .val (.int da), .val (.int ln), .val (.int w1), .val (.int w2), .val (.int df), .val (.int de), .val (.int g0), .val (.int g1), .val (.ref b9), .unset] [(.int p4), (.int g1), (.int g0), (.int da), (.int pe), (.int ps), (.int de), (.int df), (.int (4 : Int32)), (.int (4 : Int32)), (.ref b9)]))
  obtain ⟨_, _, ⟨T34, L34, k34, n34⟩, -, X34, ⟨Lc34, hQ34, l34, y34, z34⟩, st34⟩ := Jvm.LawKit.callS X30 hx (y := (⟨"com/example/clausewright/clausewright/PageNumberHasDotLeadersPinLaw", "cell", "(IIIIIZCCI)C"⟩ : MethodName)) hown (mvT hZ (hw _ (List.mem_of_getElem? (i := 5) rfl))) (mvT hZ (hw _ (List.mem_of_getElem? (i := 6) rfl))) (mvT hZ (hw _ (List.mem_of_getElem? (i := 2) rfl))) (mvT hZ (hw _ (List.mem_of_getElem? (i := 7) rfl))) (by decide) (backOf (W := 2) (rm2 l Z a0 hw [] (4 : Int32) df de ps pe da g0 g1 p4 h30 n0 z33 ⟨by omega, by omega⟩ ⟨by omega, by omega⟩) hZ (hw _ (List.mem_of_getElem? (i := 7) rfl)) (hw _ (List.mem_of_getElem? (i := 2) rfl)) (by decide) (by decide)) (g := (mkF m 287 #[.val (.int p1), .val (.int p2), .val (.int p3), .val (.int p4), .val (.int ch0), .val (.int ch1'), .val (.int dt), .val (.int tt), .val (.int kd), .val (.int pe), .val (.int ps), .val (.int da), .val (.int ln), .val (.int w1), .val (.int w2), .val (.int df), .val (.int de), .val (.int g0), .val (.int g1), .val (.ref b9), .unset] [(.int p4), (.int g1), (.int g0), (.int da), (.int pe), (.int ps), (.int de), (.int df), (.int (4 : Int32)), (.int (4 : Int32)), (.ref b9)])) rfl (by rw [hml]; rfl) (argsL := [(.int (4 : Int32)), (.int df), (.int de), (.int ps), (.int pe), (.int da), (.int g0), (.int g1), (.int p4)]) (rest := [(.int (4 : Int32)), (.ref b9)]) (lenOf pd_12 rfl) rfl (by show 2 * 0 + _ ≤ _; exact Nat.le_of_eq rfl) (hb hby at_287) (fun _ _ => ⟨rfl, e30, (by decide : 1 + 0 ≤ _), (by decide : 8 + 0 ≤ _)⟩)
  dsimp only [Pt.U, Pt.locs, Pt.cells, Pt.slots] at X34 l34 y34 z34 st34 hQ34
  subst l34 y34 z34
  obtain ⟨rfl, Nq34, ee34⟩ := hQ34
  have N34 := Fr.app N30 Nq34
  refine Go.st st34 ?_
  show Go p.tables e below _ (T34.setTop (mkF m 290 #[.val (.int p1), .val (.int p2), .val (.int p3), .val (.int p4), .val (.int ch0), .val (.int ch1'), .val (.int dt), .val (.int tt), .val (.int kd), .val (.int pe), .val (.int ps), .val (.int da), .val (.int ln), .val (.int w1), .val (.int w2), .val (.int df), .val (.int de), .val (.int g0), .val (.int g1), .val (.ref b9), .unset] [(.int (own_cell (4 : Int32) df de ps pe da g0 g1 p4)), (.int (4 : Int32)), (.ref b9)]))
  have hz4 := own_cell_ok (4 : Int32) df de ps pe da g0 g1 p4 ⟨by omega, by omega⟩ ⟨by omega, by omega⟩
  generalize h_y4 : (own_cell (4 : Int32) df de ps pe da g0 g1 p4) = y4
  rw [h_y4] at hz4
  obtain ⟨cl35, Ar35, qa35, Sa35, Na35, Ha35, Ga35⟩ := id V30
  have hin35 : ¬ ((4 : Int32) < 0 ∨ cl35.slots.size ≤ ((4 : Int32)).toNatClampNeg) := inb_of Sa35 ⟨by decide, by decide⟩
  obtain ⟨T36, h36, X36, e36, W36, st36⟩ := stC X34 hx hZ ee34 Ar35 (j := (4 : Int32)) hin35 (g := (mkF m 290 #[.val (.int p1), .val (.int p2), .val (.int p3), .val (.int p4), .val (.int ch0), .val (.int ch1'), .val (.int dt), .val (.int tt), .val (.int kd), .val (.int pe), .val (.int ps), .val (.int da), .val (.int ln), .val (.int w1), .val (.int w2), .val (.int df), .val (.int de), .val (.int g0), .val (.int g1), .val (.ref b9), .unset] [(.int y4), (.int (4 : Int32)), (.ref b9)])) rfl rfl (hb hby at_290)
  refine Go.st st36 ?_
  have V36 := Arv.set Ar35 qa35 Sa35 Na35 Ha35 Ga35 (fits_nar_char _) W36 4 rfl (Nat.le_of_ble_eq_true rfl)
  have f37 := (f31).wr W36
  have z39 := Nat.le_trans z33 (Keep.of_wr W36).1
  have N36 := Fr.snoc X36 N34 gb9
  show Go p.tables e below _ (T36.setTop (mkF m 291 #[.val (.int p1), .val (.int p2), .val (.int p3), .val (.int p4), .val (.int ch0), .val (.int ch1'), .val (.int dt), .val (.int tt), .val (.int kd), .val (.int pe), .val (.int ps), .val (.int da), .val (.int ln), .val (.int w1), .val (.int w2), .val (.int df), .val (.int de), .val (.int g0), .val (.int g1), .val (.ref b9), .unset] []))
  refine Go.st (fun U hr => XS.aload X36.here hx rfl (hb hby at_291) rfl rfl hr) ?_
  show Go p.tables e below _ (T36.setTop (mkF m 293 #[.val (.int p1), .val (.int p2), .val (.int p3), .val (.int p4), .val (.int ch0), .val (.int ch1'), .val (.int dt), .val (.int tt), .val (.int kd), .val (.int pe), .val (.int ps), .val (.int da), .val (.int ln), .val (.int w1), .val (.int w2), .val (.int df), .val (.int de), .val (.int g0), .val (.int g1), .val (.ref b9), .unset] [(.ref b9)]))
  refine Go.st (fun U hr => XS.iconst X36.here hx rfl (hb hby at_293) hr) ?_
  show Go p.tables e below _ (T36.setTop (mkF m 294 #[.val (.int p1), .val (.int p2), .val (.int p3), .val (.int p4), .val (.int ch0), .val (.int ch1'), .val (.int dt), .val (.int tt), .val (.int kd), .val (.int pe), .val (.int ps), .val (.int da), .val (.int ln), .val (.int w1), .val (.int w2), .val (.int df), .val (.int de), .val (.int g0), .val (.int g1), .val (.ref b9), .unset] [(.int (5 : Int32)), (.ref b9)]))
  refine Go.st (fun U hr => XS.iconst X36.here hx rfl (hb hby at_294) hr) ?_
  show Go p.tables e below _ (T36.setTop (mkF m 295 #[.val (.int p1), .val (.int p2), .val (.int p3), .val (.int p4), .val (.int ch0), .val (.int ch1'), .val (.int dt), .val (.int tt), .val (.int kd), .val (.int pe), .val (.int ps), .val (.int da), .val (.int ln), .val (.int w1), .val (.int w2), .val (.int df), .val (.int de), .val (.int g0), .val (.int g1), .val (.ref b9), .unset] [(.int (5 : Int32)), (.int (5 : Int32)), (.ref b9)]))
  refine Go.st (fun U hr => XS.iload X36.here hx rfl (hb hby at_295) rfl hr) ?_
  show Go p.tables e below _ (T36.setTop (mkF m 297 #[.val (.int p1), .val (.int p2), .val (.int p3), .val (.int p4), .val (.int ch0), .val (.int ch1'), .val (.int dt), .val (.int tt), .val (.int kd), .val (.int pe), .val (.int ps), .val (.int da), .val (.int ln), .val (.int w1), .val (.int w2), .val (.int df), .val (.int de), .val (.int g0), .val (.int g1), .val (.ref b9), .unset] [(.int df), (.int (5 : Int32)), (.int (5 : Int32)), (.ref b9)]))
  refine Go.st (fun U hr => XS.iload X36.here hx rfl (hb hby at_297) rfl hr) ?_
  show Go p.tables e below _ (T36.setTop (mkF m 299 #[.val (.int p1), .val (.int p2), .val (.int p3), .val (.int p4), .val (.int ch0), .val (.int ch1'), .val (.int dt), .val (.int tt), .val (.int kd), .val (.int pe), .val (.int ps), .val (.int da), .val (.int ln), .val (.int w1), .val (.int w2), .val (.int df), .val (.int de), .val (.int g0), .val (.int g1), .val (.ref b9), .unset] [(.int de), (.int df), (.int (5 : Int32)), (.int (5 : Int32)), (.ref b9)]))
  refine Go.st (fun U hr => XS.iload X36.here hx rfl (hb hby at_299) rfl hr) ?_
  show Go p.tables e below _ (T36.setTop (mkF m 301 #[.val (.int p1), .val (.int p2), .val (.int p3), .val (.int p4), .val (.int ch0), .val (.int ch1'), .val (.int dt), .val (.int tt), .val (.int kd), .val (.int pe), .val (.int ps), .val (.int da), .val (.int ln), .val (.int w1), .val (.int w2), .val (.int df), .val (.int de), .val (.int g0), .val (.int g1), .val (.ref b9), .unset] [(.int ps), (.int de), (.int df), (.int (5 : Int32)), (.int (5 : Int32)), (.ref b9)]))
  refine Go.st (fun U hr => XS.iload X36.here hx rfl (hb hby at_301) rfl hr) ?_
  show Go p.tables e below _ (T36.setTop (mkF m 303 #[.val (.int p1), .val (.int p2), .val (.int p3), .val (.int p4), .val (.int ch0), .val (.int ch1'), .val (.int dt), .val (.int tt), .val (.int kd), .val (.int pe), .val (.int ps), .val (.int da), .val (.int ln), .val (.int w1), .val (.int w2), .val (.int df), .val (.int de), .val (.int g0), .val (.int g1), .val (.ref b9), .unset] [(.int pe), (.int ps), (.int de), (.int df), (.int (5 : Int32)), (.int (5 : Int32)), (.ref b9)]))
  refine Go.st (fun U hr => XS.iload X36.here hx rfl (hb hby at_303) rfl hr) ?_
  show Go p.tables e below _ (T36.setTop (mkF m 305 #[.val (.int p1), .val (.int p2), .val (.int p3), .val (.int p4), .val (.int ch0), .val (.int ch1'), .val (.int dt), .val (.int tt), .val (.int kd), .val (.int pe), .val (.int ps), .val (.int da), .val (.int ln), .val (.int w1), .val (.int w2), .val (.int df), .val (.int de), .val (.int g0), .val (.int g1), .val (.ref b9), .unset] [(.int da), (.int pe), (.int ps), (.int de), (.int df), (.int (5 : Int32)), (.int (5 : Int32)), (.ref b9)]))
  refine Go.st (fun U hr => XS.iload X36.here hx rfl (hb hby at_305) rfl hr) ?_
  show Go p.tables e below _ (T36.setTop (mkF m 307 #[.val (.int p1), .val (.int p2), .val (.int p3), .val (.int p4), .val (.int ch0), .val (.int ch1'), .val (.int dt), .val (.int tt), .val (.int kd), .val (.int pe), .val (.int ps), .val (.int da), .val (.int ln), .val (.int w1), .val (.int w2), .val (.int df), .val (.int de), .val (.int g0), .val (.int g1), .val (.ref b9), .unset] [(.int g0), (.int da), (.int pe), (.int ps), (.int de), (.int df), (.int (5 : Int32)), (.int (5 : Int32)), (.ref b9)]))
  refine Go.st (fun U hr => XS.iload X36.here hx rfl (hb hby at_307) rfl hr) ?_
  show Go p.tables e below _ (T36.setTop (mkF m 309 #[.val (.int p1), .val (.int p2), .val (.int p3), .val (.int p4), .val (.int ch0), .val (.int ch1'), .val (.int dt), .val (.int tt), .val (.int kd), .val (.int pe), .val (.int ps), .val (.int da), .val (.int ln), .val (.int w1), .val (.int w2), .val (.int df), .val (.int de), .val (.int g0), .val (.int g1), .val (.ref b9), .unset] [(.int g1), (.int g0), (.int da), (.int pe), (.int ps), (.int de), (.int df), (.int (5 : Int32)), (.int (5 : Int32)), (.ref b9)]))
  refine Go.st (fun U hr => XS.iloadN X36.here hx rfl (hb hby at_309) rfl hr) ?_
  show Go p.tables e below _ (T36.setTop (mkF m 310 #[.val (.int p1), .val (.int p2), .val (.int p3), .val (.int p4), .val (.int ch0), .val (.int ch1'), .val (.int dt), .val (.int tt), .val (.int kd), .val (.int pe), .val (.int ps), .val (.int da), .val (.int ln), .val (.int w1), .val (.int w2), .val (.int df), .val (.int de), .val (.int g0), .val (.int g1), .val (.ref b9), .unset] [(.int p4), (.int g1), (.int g0), (.int da), (.int pe), (.int ps), (.int de), (.int df), (.int (5 : Int32)), (.int (5 : Int32)), (.ref b9)]))
  obtain ⟨_, _, ⟨T40, L40, k40, n40⟩, -, X40, ⟨Lc40, hQ40, l40, y40, z40⟩, st40⟩ := Jvm.LawKit.callS X36 hx (y := (⟨"com/example/clausewright/clausewright/PageNumberHasDotLeadersPinLaw", "cell", "(IIIIIZCCI)C"⟩ : MethodName)) hown (mvT hZ (hw _ (List.mem_of_getElem? (i := 5) rfl))) (mvT hZ (hw _ (List.mem_of_getElem? (i := 6) rfl))) (mvT hZ (hw _ (List.mem_of_getElem? (i := 2) rfl))) (mvT hZ (hw _ (List.mem_of_getElem? (i := 7) rfl))) (by decide) (backOf (W := 2) (rm2 l Z a0 hw [] (5 : Int32) df de ps pe da g0 g1 p4 h36 n0 z39 ⟨by omega, by omega⟩ ⟨by omega, by omega⟩) hZ (hw _ (List.mem_of_getElem? (i := 7) rfl)) (hw _ (List.mem_of_getElem? (i := 2) rfl)) (by decide) (by decide)) (g := (mkF m 310 #[.val (.int p1), .val (.int p2), .val (.int p3), .val (.int p4), .val (.int ch0), .val (.int ch1'), .val (.int dt), .val (.int tt), .val (.int kd), .val (.int pe), .val (.int ps), .val (.int da), .val (.int ln), .val (.int w1), .val (.int w2), .val (.int df), .val (.int de), .val (.int g0), .val (.int g1), .val (.ref b9), .unset] [(.int p4), (.int g1), (.int g0), (.int da), (.int pe), (.int ps), (.int de), (.int df), (.int (5 : Int32)), (.int (5 : Int32)), (.ref b9)])) rfl (by rw [hml]; rfl) (argsL := [(.int (5 : Int32)), (.int df), (.int de), (.int ps), (.int pe), (.int da), (.int g0), (.int g1), (.int p4)]) (rest := [(.int (5 : Int32)), (.ref b9)]) (lenOf pd_12 rfl) rfl (by show 2 * 0 + _ ≤ _; exact Nat.le_of_eq rfl) (hb hby at_310) (fun _ _ => ⟨rfl, e36, (by decide : 1 + 0 ≤ _), (by decide : 8 + 0 ≤ _)⟩)
  dsimp only [Pt.U, Pt.locs, Pt.cells, Pt.slots] at X40 l40 y40 z40 st40 hQ40
  subst l40 y40 z40
  obtain ⟨rfl, Nq40, ee40⟩ := hQ40
  have N40 := Fr.app N36 Nq40
  refine Go.st st40 ?_
  show Go p.tables e below _ (T40.setTop (mkF m 313 #[.val (.int p1), .val (.int p2), .val (.int p3), .val (.int p4), .val (.int ch0), .val (.int ch1'), .val (.int dt), .val (.int tt), .val (.int kd), .val (.int pe), .val (.int ps), .val (.int da), .val (.int ln), .val (.int w1), .val (.int w2), .val (.int df), .val (.int de), .val (.int g0), .val (.int g1), .val (.ref b9), .unset] [(.int (own_cell (5 : Int32) df de ps pe da g0 g1 p4)), (.int (5 : Int32)), (.ref b9)]))
  have hz5 := own_cell_ok (5 : Int32) df de ps pe da g0 g1 p4 ⟨by omega, by omega⟩ ⟨by omega, by omega⟩
  generalize h_y5 : (own_cell (5 : Int32) df de ps pe da g0 g1 p4) = y5
  rw [h_y5] at hz5
  obtain ⟨cl41, Ar41, qa41, Sa41, Na41, Ha41, Ga41⟩ := id V36
  have hin41 : ¬ ((5 : Int32) < 0 ∨ cl41.slots.size ≤ ((5 : Int32)).toNatClampNeg) := inb_of Sa41 ⟨by decide, by decide⟩
  obtain ⟨T42, h42, X42, e42, W42, st42⟩ := stC X40 hx hZ ee40 Ar41 (j := (5 : Int32)) hin41 (g := (mkF m 313 #[.val (.int p1), .val (.int p2), .val (.int p3), .val (.int p4), .val (.int ch0), .val (.int ch1'), .val (.int dt), .val (.int tt), .val (.int kd), .val (.int pe), .val (.int ps), .val (.int da), .val (.int ln), .val (.int w1), .val (.int w2), .val (.int df), .val (.int de), .val (.int g0), .val (.int g1), .val (.ref b9), .unset] [(.int y5), (.int (5 : Int32)), (.ref b9)])) rfl rfl (hb hby at_313)
  refine Go.st st42 ?_
  have V42 := Arv.set Ar41 qa41 Sa41 Na41 Ha41 Ga41 (fits_nar_char _) W42 5 rfl (Nat.le_of_ble_eq_true rfl)
  have f43 := (f37).wr W42
  have z45 := Nat.le_trans z39 (Keep.of_wr W42).1
  have N42 := Fr.snoc X42 N40 gb9
  show Go p.tables e below _ (T42.setTop (mkF m 314 #[.val (.int p1), .val (.int p2), .val (.int p3), .val (.int p4), .val (.int ch0), .val (.int ch1'), .val (.int dt), .val (.int tt), .val (.int kd), .val (.int pe), .val (.int ps), .val (.int da), .val (.int ln), .val (.int w1), .val (.int w2), .val (.int df), .val (.int de), .val (.int g0), .val (.int g1), .val (.ref b9), .unset] []))
  refine Go.st (fun U hr => XS.aload X42.here hx rfl (hb hby at_314) rfl rfl hr) ?_
  show Go p.tables e below _ (T42.setTop (mkF m 316 #[.val (.int p1), .val (.int p2), .val (.int p3), .val (.int p4), .val (.int ch0), .val (.int ch1'), .val (.int dt), .val (.int tt), .val (.int kd), .val (.int pe), .val (.int ps), .val (.int da), .val (.int ln), .val (.int w1), .val (.int w2), .val (.int df), .val (.int de), .val (.int g0), .val (.int g1), .val (.ref b9), .unset] [(.ref b9)]))
  refine Go.st (fun U hr => XS.bipush X42.here hx rfl (hb hby at_316) hr) ?_
  show Go p.tables e below _ (T42.setTop (mkF m 318 #[.val (.int p1), .val (.int p2), .val (.int p3), .val (.int p4), .val (.int ch0), .val (.int ch1'), .val (.int dt), .val (.int tt), .val (.int kd), .val (.int pe), .val (.int ps), .val (.int da), .val (.int ln), .val (.int w1), .val (.int w2), .val (.int df), .val (.int de), .val (.int g0), .val (.int g1), .val (.ref b9), .unset] [(.int (6 : Int32)), (.ref b9)]))
  refine Go.st (fun U hr => XS.bipush X42.here hx rfl (hb hby at_318) hr) ?_
  show Go p.tables e below _ (T42.setTop (mkF m 320 #[.val (.int p1), .val (.int p2), .val (.int p3), .val (.int p4), .val (.int ch0), .val (.int ch1'), .val (.int dt), .val (.int tt), .val (.int kd), .val (.int pe), .val (.int ps), .val (.int da), .val (.int ln), .val (.int w1), .val (.int w2), .val (.int df), .val (.int de), .val (.int g0), .val (.int g1), .val (.ref b9), .unset] [(.int (6 : Int32)), (.int (6 : Int32)), (.ref b9)]))
  refine Go.st (fun U hr => XS.iload X42.here hx rfl (hb hby at_320) rfl hr) ?_
  show Go p.tables e below _ (T42.setTop (mkF m 322 #[.val (.int p1), .val (.int p2), .val (.int p3), .val (.int p4), .val (.int ch0), .val (.int ch1'), .val (.int dt), .val (.int tt), .val (.int kd), .val (.int pe), .val (.int ps), .val (.int da), .val (.int ln), .val (.int w1), .val (.int w2), .val (.int df), .val (.int de), .val (.int g0), .val (.int g1), .val (.ref b9), .unset] [(.int df), (.int (6 : Int32)), (.int (6 : Int32)), (.ref b9)]))
  refine Go.st (fun U hr => XS.iload X42.here hx rfl (hb hby at_322) rfl hr) ?_
  show Go p.tables e below _ (T42.setTop (mkF m 324 #[.val (.int p1), .val (.int p2), .val (.int p3), .val (.int p4), .val (.int ch0), .val (.int ch1'), .val (.int dt), .val (.int tt), .val (.int kd), .val (.int pe), .val (.int ps), .val (.int da), .val (.int ln), .val (.int w1), .val (.int w2), .val (.int df), .val (.int de), .val (.int g0), .val (.int g1), .val (.ref b9), .unset] [(.int de), (.int df), (.int (6 : Int32)), (.int (6 : Int32)), (.ref b9)]))
  refine Go.st (fun U hr => XS.iload X42.here hx rfl (hb hby at_324) rfl hr) ?_
  show Go p.tables e below _ (T42.setTop (mkF m 326 #[.val (.int p1), .val (.int p2), .val (.int p3), .val (.int p4), .val (.int ch0), .val (.int ch1'), .val (.int dt), .val (.int tt), .val (.int kd), .val (.int pe), .val (.int ps), .val (.int da), .val (.int ln), .val (.int w1), .val (.int w2), .val (.int df), .val (.int de), .val (.int g0), .val (.int g1), .val (.ref b9), .unset] [(.int ps), (.int de), (.int df), (.int (6 : Int32)), (.int (6 : Int32)), (.ref b9)]))
  refine Go.st (fun U hr => XS.iload X42.here hx rfl (hb hby at_326) rfl hr) ?_
  show Go p.tables e below _ (T42.setTop (mkF m 328 #[.val (.int p1), .val (.int p2), .val (.int p3), .val (.int p4), .val (.int ch0), .val (.int ch1'), .val (.int dt), .val (.int tt), .val (.int kd), .val (.int pe), .val (.int ps), .val (.int da), .val (.int ln), .val (.int w1), .val (.int w2), .val (.int df), .val (.int de), .val (.int g0), .val (.int g1), .val (.ref b9), .unset] [(.int pe), (.int ps), (.int de), (.int df), (.int (6 : Int32)), (.int (6 : Int32)), (.ref b9)]))
  refine Go.st (fun U hr => XS.iload X42.here hx rfl (hb hby at_328) rfl hr) ?_
  show Go p.tables e below _ (T42.setTop (mkF m 330 #[.val (.int p1), .val (.int p2), .val (.int p3), .val (.int p4), .val (.int ch0), .val (.int ch1'), .val (.int dt), .val (.int tt), .val (.int kd), .val (.int pe), .val (.int ps), .val (.int da), .val (.int ln), .val (.int w1), .val (.int w2), .val (.int df), .val (.int de), .val (.int g0), .val (.int g1), .val (.ref b9), .unset] [(.int da), (.int pe), (.int ps), (.int de), (.int df), (.int (6 : Int32)), (.int (6 : Int32)), (.ref b9)]))
  refine Go.st (fun U hr => XS.iload X42.here hx rfl (hb hby at_330) rfl hr) ?_
  show Go p.tables e below _ (T42.setTop (mkF m 332 #[.val (.int p1), .val (.int p2), .val (.int p3), .val (.int p4), .val (.int ch0), .val (.int ch1'), .val (.int dt), .val (.int tt), .val (.int kd), .val (.int pe), .val (.int ps), .val (.int da), .val (.int ln), .val (.int w1), .val (.int w2), .val (.int df), .val (.int de), .val (.int g0), .val (.int g1), .val (.ref b9), .unset] [(.int g0), (.int da), (.int pe), (.int ps), (.int de), (.int df), (.int (6 : Int32)), (.int (6 : Int32)), (.ref b9)]))
  refine Go.st (fun U hr => XS.iload X42.here hx rfl (hb hby at_332) rfl hr) ?_
  show Go p.tables e below _ (T42.setTop (mkF m 334 #[.val (.int p1), .val (.int p2), .val (.int p3), .val (.int p4), .val (.int ch0), .val (.int ch1'), .val (.int dt), .val (.int tt), .val (.int kd), .val (.int pe), .val (.int ps), .val (.int da), .val (.int ln), .val (.int w1), .val (.int w2), .val (.int df), .val (.int de), .val (.int g0), .val (.int g1), .val (.ref b9), .unset] [(.int g1), (.int g0), (.int da), (.int pe), (.int ps), (.int de), (.int df), (.int (6 : Int32)), (.int (6 : Int32)), (.ref b9)]))
  refine Go.st (fun U hr => XS.iloadN X42.here hx rfl (hb hby at_334) rfl hr) ?_
  show Go p.tables e below _ (T42.setTop (mkF m 335 #[.val (.int p1), .val (.int p2), .val (.int p3), .val (.int p4), .val (.int ch0), .val (.int ch1'), .val (.int dt), .val (.int tt), .val (.int kd), .val (.int pe), .val (.int ps), .val (.int da), .val (.int ln), .val (.int w1), .val (.int w2), .val (.int df), .val (.int de), .val (.int g0), .val (.int g1), .val (.ref b9), .unset] [(.int p4), (.int g1), (.int g0), (.int da), (.int pe), (.int ps), (.int de), (.int df), (.int (6 : Int32)), (.int (6 : Int32)), (.ref b9)]))
  obtain ⟨_, _, ⟨T46, L46, k46, n46⟩, -, X46, ⟨Lc46, hQ46, l46, y46, z46⟩, st46⟩ := Jvm.LawKit.callS X42 hx (y := (⟨"com/example/clausewright/clausewright/PageNumberHasDotLeadersPinLaw", "cell", "(IIIIIZCCI)C"⟩ : MethodName)) hown (mvT hZ (hw _ (List.mem_of_getElem? (i := 5) rfl))) (mvT hZ (hw _ (List.mem_of_getElem? (i := 6) rfl))) (mvT hZ (hw _ (List.mem_of_getElem? (i := 2) rfl))) (mvT hZ (hw _ (List.mem_of_getElem? (i := 7) rfl))) (by decide) (backOf (W := 2) (rm2 l Z a0 hw [] (6 : Int32) df de ps pe da g0 g1 p4 h42 n0 z45 ⟨by omega, by omega⟩ ⟨by omega, by omega⟩) hZ (hw _ (List.mem_of_getElem? (i := 7) rfl)) (hw _ (List.mem_of_getElem? (i := 2) rfl)) (by decide) (by decide)) (g := (mkF m 335 #[.val (.int p1), .val (.int p2), .val (.int p3), .val (.int p4), .val (.int ch0), .val (.int ch1'), .val (.int dt), .val (.int tt), .val (.int kd), .val (.int pe), .val (.int ps), .val (.int da), .val (.int ln), .val (.int w1), .val (.int w2), .val (.int df), .val (.int de), .val (.int g0), .val (.int g1), .val (.ref b9), .unset] [(.int p4), (.int g1), (.int g0), (.int da), (.int pe), (.int ps), (.int de), (.int df), (.int (6 : Int32)), (.int (6 : Int32)), (.ref b9)])) rfl (by rw [hml]; rfl) (argsL := [(.int (6 : Int32)), (.int df), (.int de), (.int ps), (.int pe), (.int da), (.int g0), (.int g1), (.int p4)]) (rest := [(.int (6 : Int32)), (.ref b9)]) (lenOf pd_12 rfl) rfl (by show 2 * 0 + _ ≤ _; exact Nat.le_of_eq rfl) (hb hby at_335) (fun _ _ => ⟨rfl, e42, (by decide : 1 + 0 ≤ _), (by decide : 8 + 0 ≤ _)⟩)
  dsimp only [Pt.U, Pt.locs, Pt.cells, Pt.slots] at X46 l46 y46 z46 st46 hQ46
  subst l46 y46 z46
  obtain ⟨rfl, Nq46, ee46⟩ := hQ46
  have N46 := Fr.app N42 Nq46
  refine Go.st st46 ?_
  show Go p.tables e below _ (T46.setTop (mkF m 338 #[.val (.int p1), .val (.int p2), .val (.int p3), .val (.int p4), .val (.int ch0), .val (.int ch1'), .val (.int dt), .val (.int tt), .val (.int kd), .val (.int pe), .val (.int ps), .val (.int da), .val (.int ln), .val (.int w1), .val (.int w2), .val (.int df), .val (.int de), .val (.int g0), .val (.int g1), .val (.ref b9), .unset] [(.int (own_cell (6 : Int32) df de ps pe da g0 g1 p4)), (.int (6 : Int32)), (.ref b9)]))
  have hz6 := own_cell_ok (6 : Int32) df de ps pe da g0 g1 p4 ⟨by omega, by omega⟩ ⟨by omega, by omega⟩
  generalize h_y6 : (own_cell (6 : Int32) df de ps pe da g0 g1 p4) = y6
  rw [h_y6] at hz6
  obtain ⟨cl47, Ar47, qa47, Sa47, Na47, Ha47, Ga47⟩ := id V42
  have hin47 : ¬ ((6 : Int32) < 0 ∨ cl47.slots.size ≤ ((6 : Int32)).toNatClampNeg) := inb_of Sa47 ⟨by decide, by decide⟩
  obtain ⟨T48, h48, X48, e48, W48, st48⟩ := stC X46 hx hZ ee46 Ar47 (j := (6 : Int32)) hin47 (g := (mkF m 338 #[.val (.int p1), .val (.int p2), .val (.int p3), .val (.int p4), .val (.int ch0), .val (.int ch1'), .val (.int dt), .val (.int tt), .val (.int kd), .val (.int pe), .val (.int ps), .val (.int da), .val (.int ln), .val (.int w1), .val (.int w2), .val (.int df), .val (.int de), .val (.int g0), .val (.int g1), .val (.ref b9), .unset] [(.int y6), (.int (6 : Int32)), (.ref b9)])) rfl rfl (hb hby at_338)
  refine Go.st st48 ?_
  have V48 := Arv.set Ar47 qa47 Sa47 Na47 Ha47 Ga47 (fits_nar_char _) W48 6 rfl (Nat.le_of_ble_eq_true rfl)
  have f49 := (f43).wr W48
  have z51 := Nat.le_trans z45 (Keep.of_wr W48).1
  have N48 := Fr.snoc X48 N46 gb9
  show Go p.tables e below _ (T48.setTop (mkF m 339 #[.val (.int p1), .val (.int p2), .val (.int p3), .val (.int p4), .val (.int ch0), .val (.int ch1'), .val (.int dt), .val (.int tt), .val (.int kd), .val (.int pe), .val (.int ps), .val (.int da), .val (.int ln), .val (.int w1), .val (.int w2), .val (.int df), .val (.int de), .val (.int g0), .val (.int g1), .val (.ref b9), .unset] []))
  refine Go.st (fun U hr => XS.aload X48.here hx rfl (hb hby at_339) rfl rfl hr) ?_
  show Go p.tables e below _ (T48.setTop (mkF m 341 #[.val (.int p1), .val (.int p2), .val (.int p3), .val (.int p4), .val (.int ch0), .val (.int ch1'), .val (.int dt), .val (.int tt), .val (.int kd), .val (.int pe), .val (.int ps), .val (.int da), .val (.int ln), .val (.int w1), .val (.int w2), .val (.int df), .val (.int de), .val (.int g0), .val (.int g1), .val (.ref b9), .unset] [(.ref b9)]))
  refine Go.st (fun U hr => XS.bipush X48.here hx rfl (hb hby at_341) hr) ?_
  show Go p.tables e below _ (T48.setTop (mkF m 343 #[.val (.int p1), .val (.int p2), .val (.int p3), .val (.int p4), .val (.int ch0), .val (.int ch1'), .val (.int dt), .val (.int tt), .val (.int kd), .val (.int pe), .val (.int ps), .val (.int da), .val (.int ln), .val (.int w1), .val (.int w2), .val (.int df), .val (.int de), .val (.int g0), .val (.int g1), .val (.ref b9), .unset] [(.int (7 : Int32)), (.ref b9)]))
  refine Go.st (fun U hr => XS.bipush X48.here hx rfl (hb hby at_343) hr) ?_
  show Go p.tables e below _ (T48.setTop (mkF m 345 #[.val (.int p1), .val (.int p2), .val (.int p3), .val (.int p4), .val (.int ch0), .val (.int ch1'), .val (.int dt), .val (.int tt), .val (.int kd), .val (.int pe), .val (.int ps), .val (.int da), .val (.int ln), .val (.int w1), .val (.int w2), .val (.int df), .val (.int de), .val (.int g0), .val (.int g1), .val (.ref b9), .unset] [(.int (7 : Int32)), (.int (7 : Int32)), (.ref b9)]))
  refine Go.st (fun U hr => XS.iload X48.here hx rfl (hb hby at_345) rfl hr) ?_
  show Go p.tables e below _ (T48.setTop (mkF m 347 #[.val (.int p1), .val (.int p2), .val (.int p3), .val (.int p4), .val (.int ch0), .val (.int ch1'), .val (.int dt), .val (.int tt), .val (.int kd), .val (.int pe), .val (.int ps), .val (.int da), .val (.int ln), .val (.int w1), .val (.int w2), .val (.int df), .val (.int de), .val (.int g0), .val (.int g1), .val (.ref b9), .unset] [(.int df), (.int (7 : Int32)), (.int (7 : Int32)), (.ref b9)]))
  refine Go.st (fun U hr => XS.iload X48.here hx rfl (hb hby at_347) rfl hr) ?_
  show Go p.tables e below _ (T48.setTop (mkF m 349 #[.val (.int p1), .val (.int p2), .val (.int p3), .val (.int p4), .val (.int ch0), .val (.int ch1'), .val (.int dt), .val (.int tt), .val (.int kd), .val (.int pe), .val (.int ps), .val (.int da), .val (.int ln), .val (.int w1), .val (.int w2), .val (.int df), .val (.int de), .val (.int g0), .val (.int g1), .val (.ref b9), .unset] [(.int de), (.int df), (.int (7 : Int32)), (.int (7 : Int32)), (.ref b9)]))
  refine Go.st (fun U hr => XS.iload X48.here hx rfl (hb hby at_349) rfl hr) ?_
  show Go p.tables e below _ (T48.setTop (mkF m 351 #[.val (.int p1), .val (.int p2), .val (.int p3), .val (.int p4), .val (.int ch0), .val (.int ch1'), .val (.int dt), .val (.int tt), .val (.int kd), .val (.int pe), .val (.int ps), .val (.int da), .val (.int ln), .val (.int w1), .val (.int w2), .val (.int df), .val (.int de), .val (.int g0), .val (.int g1), .val (.ref b9), .unset] [(.int ps), (.int de), (.int df), (.int (7 : Int32)), (.int (7 : Int32)), (.ref b9)]))
  refine Go.st (fun U hr => XS.iload X48.here hx rfl (hb hby at_351) rfl hr) ?_
  show Go p.tables e below _ (T48.setTop (mkF m 353 #[.val (.int p1), .val (.int p2), .val (.int p3), .val (.int p4), .val (.int ch0), .val (.int ch1'), .val (.int dt), .val (.int tt), .val (.int kd), .val (.int pe), .val (.int ps), .val (.int da), .val (.int ln), .val (.int w1), .val (.int w2), .val (.int df), .val (.int de), .val (.int g0), .val (.int g1), .val (.ref b9), .unset] [(.int pe), (.int ps), (.int de), (.int df), (.int (7 : Int32)), (.int (7 : Int32)), (.ref b9)]))
  refine Go.st (fun U hr => XS.iload X48.here hx rfl (hb hby at_353) rfl hr) ?_
  show Go p.tables e below _ (T48.setTop (mkF m 355 #[.val (.int p1), .val (.int p2), .val (.int p3), .val (.int p4), .val (.int ch0), .val (.int ch1'), .val (.int dt), .val (.int tt), .val (.int kd), .val (.int pe), .val (.int ps), .val (.int da), .val (.int ln), .val (.int w1), .val (.int w2), .val (.int df), .val (.int de), .val (.int g0), .val (.int g1), .val (.ref b9), .unset] [(.int da), (.int pe), (.int ps), (.int de), (.int df), (.int (7 : Int32)), (.int (7 : Int32)), (.ref b9)]))
  refine Go.st (fun U hr => XS.iload X48.here hx rfl (hb hby at_355) rfl hr) ?_
  show Go p.tables e below _ (T48.setTop (mkF m 357 #[.val (.int p1), .val (.int p2), .val (.int p3), .val (.int p4), .val (.int ch0), .val (.int ch1'), .val (.int dt), .val (.int tt), .val (.int kd), .val (.int pe), .val (.int ps), .val (.int da), .val (.int ln), .val (.int w1), .val (.int w2), .val (.int df), .val (.int de), .val (.int g0), .val (.int g1), .val (.ref b9), .unset] [(.int g0), (.int da), (.int pe), (.int ps), (.int de), (.int df), (.int (7 : Int32)), (.int (7 : Int32)), (.ref b9)]))
  refine Go.st (fun U hr => XS.iload X48.here hx rfl (hb hby at_357) rfl hr) ?_
  show Go p.tables e below _ (T48.setTop (mkF m 359 #[.val (.int p1), .val (.int p2), .val (.int p3), .val (.int p4), .val (.int ch0), .val (.int ch1'), .val (.int dt), .val (.int tt), .val (.int kd), .val (.int pe), .val (.int ps), .val (.int da), .val (.int ln), .val (.int w1), .val (.int w2), .val (.int df), .val (.int de), .val (.int g0), .val (.int g1), .val (.ref b9), .unset] [(.int g1), (.int g0), (.int da), (.int pe), (.int ps), (.int de), (.int df), (.int (7 : Int32)), (.int (7 : Int32)), (.ref b9)]))
  refine Go.st (fun U hr => XS.iloadN X48.here hx rfl (hb hby at_359) rfl hr) ?_
  show Go p.tables e below _ (T48.setTop (mkF m 360 #[.val (.int p1), .val (.int p2), .val (.int p3), .val (.int p4), .val (.int ch0), .val (.int ch1'), .val (.int dt), .val (.int tt), .val (.int kd), .val (.int pe), .val (.int ps), .val (.int da), .val (.int ln), .val (.int w1), .val (.int w2), .val (.int df), .val (.int de), .val (.int g0), .val (.int g1), .val (.ref b9), .unset] [(.int p4), (.int g1), (.int g0), (.int da), (.int pe), (.int ps), (.int de), (.int df), (.int (7 : Int32)), (.int (7 : Int32)), (.ref b9)]))
  obtain ⟨_, _, ⟨T52, L52, k52, n52⟩, -, X52, ⟨Lc52, hQ52, l52, y52, z52⟩, st52⟩ := Jvm.LawKit.callS X48 hx (y := (⟨"com/example/clausewright/clausewright/PageNumberHasDotLeadersPinLaw", "cell", "(IIIIIZCCI)C"⟩ : MethodName)) hown (mvT hZ (hw _ (List.mem_of_getElem? (i := 5) rfl))) (mvT hZ (hw _ (List.mem_of_getElem? (i := 6) rfl))) (mvT hZ (hw _ (List.mem_of_getElem? (i := 2) rfl))) (mvT hZ (hw _ (List.mem_of_getElem? (i := 7) rfl))) (by decide) (backOf (W := 2) (rm2 l Z a0 hw [] (7 : Int32) df de ps pe da g0 g1 p4 h48 n0 z51 ⟨by omega, by omega⟩ ⟨by omega, by omega⟩) hZ (hw _ (List.mem_of_getElem? (i := 7) rfl)) (hw _ (List.mem_of_getElem? (i := 2) rfl)) (by decide) (by decide)) (g := (mkF m 360 #[.val (.int p1), .val (.int p2), .val (.int p3), .val (.int p4), .val (.int ch0), .val (.int ch1'), .val (.int dt), .val (.int tt), .val (.int kd), .val (.int pe), .val (.int ps), .val (.int da), .val (.int ln), .val (.int w1), .val (.int w2), .val (.int df), .val (.int de), .val (.int g0), .val (.int g1), .val (.ref b9), .unset] [(.int p4), (.int g1), (.int g0), (.int da), (.int pe), (.int ps), (.int de), (.int df), (.int (7 : Int32)), (.int (7 : Int32)), (.ref b9)])) rfl (by rw [hml]; rfl) (argsL := [(.int (7 : Int32)), (.int df), (.int de), (.int ps), (.int pe), (.int da), (.int g0), (.int g1), (.int p4)]) (rest := [(.int (7 : Int32)), (.ref b9)]) (lenOf pd_12 rfl) rfl (by show 2 * 0 + _ ≤ _; exact Nat.le_of_eq rfl) (hb hby at_360) (fun _ _ => ⟨rfl, e48, (by decide : 1 + 0 ≤ _), (by decide : 8 + 0 ≤ _)⟩)
  dsimp only [Pt.U, Pt.locs, Pt.cells, Pt.slots] at X52 l52 y52 z52 st52 hQ52
  subst l52 y52 z52
  obtain ⟨rfl, Nq52, ee52⟩ := hQ52
  have N52 := Fr.app N48 Nq52
  refine Go.st st52 ?_
  show Go p.tables e below _ (T52.setTop (mkF m 363 #[.val (.int p1), .val (.int p2), .val (.int p3), .val (.int p4), .val (.int ch0), .val (.int ch1'), .val (.int dt), .val (.int tt), .val (.int kd), .val (.int pe), .val (.int ps), .val (.int da), .val (.int ln), .val (.int w1), .val (.int w2), .val (.int df), .val (.int de), .val (.int g0), .val (.int g1), .val (.ref b9), .unset] [(.int (own_cell (7 : Int32) df de ps pe da g0 g1 p4)), (.int (7 : Int32)), (.ref b9)]))
  have hz7 := own_cell_ok (7 : Int32) df de ps pe da g0 g1 p4 ⟨by omega, by omega⟩ ⟨by omega, by omega⟩
  generalize h_y7 : (own_cell (7 : Int32) df de ps pe da g0 g1 p4) = y7
  rw [h_y7] at hz7
  obtain ⟨cl53, Ar53, qa53, Sa53, Na53, Ha53, Ga53⟩ := id V48
  have hin53 : ¬ ((7 : Int32) < 0 ∨ cl53.slots.size ≤ ((7 : Int32)).toNatClampNeg) := inb_of Sa53 ⟨by decide, by decide⟩
  obtain ⟨T54, h54, X54, e54, W54, st54⟩ := stC X52 hx hZ ee52 Ar53 (j := (7 : Int32)) hin53 (g := (mkF m 363 #[.val (.int p1), .val (.int p2), .val (.int p3), .val (.int p4), .val (.int ch0), .val (.int ch1'), .val (.int dt), .val (.int tt), .val (.int kd), .val (.int pe), .val (.int ps), .val (.int da), .val (.int ln), .val (.int w1), .val (.int w2), .val (.int df), .val (.int de), .val (.int g0), .val (.int g1), .val (.ref b9), .unset] [(.int y7), (.int (7 : Int32)), (.ref b9)])) rfl rfl (hb hby at_363)
  refine Go.st st54 ?_
  have V54 := Arv.set Ar53 qa53 Sa53 Na53 Ha53 Ga53 (fits_nar_char _) W54 7 rfl (Nat.le_of_ble_eq_true rfl)
  have f55 := (f49).wr W54
  have z57 := Nat.le_trans z51 (Keep.of_wr W54).1
  have N54 := Fr.snoc X54 N52 gb9
  show Go p.tables e below _ (T54.setTop (mkF m 364 #[.val (.int p1), .val (.int p2), .val (.int p3), .val (.int p4), .val (.int ch0), .val (.int ch1'), .val (.int dt), .val (.int tt), .val (.int kd), .val (.int pe), .val (.int ps), .val (.int da), .val (.int ln), .val (.int w1), .val (.int w2), .val (.int df), .val (.int de), .val (.int g0), .val (.int g1), .val (.ref b9), .unset] []))
  have V364 := V54
  simp only [own_nar ch0 ⟨hch0.1, by omega⟩, own_nar ch1' ⟨hch1'.1, by omega⟩, own_nar y2 ⟨hz2.1, by omega⟩, own_nar y3 ⟨hz3.1, by omega⟩, own_nar y4 ⟨hz4.1, by omega⟩, own_nar y5 ⟨hz5.1, by omega⟩, own_nar y6 ⟨hz6.1, by omega⟩, own_nar y7 ⟨hz7.1, by omega⟩] at V364
  have V365 : Arv Z h54 b9 k9 .char (8 : Int32) [(.int ch0), (.int ch1'), (.int y2), (.int y3), (.int y4), (.int y5), (.int y6), (.int y7)] (.int (0 : Int32)) := V364
  obtain ⟨T58, h58, X58, e58, E58, A58, D58, -, st58⟩ := newO X54 hx hZ hown (hw _ (List.mem_of_getElem? (i := 11) rfl)) (hw _ (List.mem_of_getElem? (i := 12) rfl)) (hw _ (List.mem_of_getElem? (i := 13) rfl)) e54 (g := (mkF m 364 #[.val (.int p1), .val (.int p2), .val (.int p3), .val (.int p4), .val (.int ch0), .val (.int ch1'), .val (.int dt), .val (.int tt), .val (.int kd), .val (.int pe), .val (.int ps), .val (.int da), .val (.int ln), .val (.int w1), .val (.int w2), .val (.int df), .val (.int de), .val (.int g0), .val (.int g1), .val (.ref b9), .unset] [])) rfl (hb hby at_364) (by decide) (by decide)
  obtain ⟨b58, g58⟩ : ∃ z, z = h54.size := ⟨_, rfl⟩
  rw [← g58] at A58 D58 st58
  refine Go.st st58 ?_
  have gb58 : n0 ≤ b58 := Nat.le_trans z57 (Nat.le_of_eq g58.symm)
  have n59 : b9 ≠ b58 := Nat.ne_of_lt (Nat.lt_of_lt_of_le (V365).lt (Nat.le_of_eq g58.symm))
  have f60 := (f55).ext E58
  have f61 := (V365).ext E58
  have z62 := Nat.le_trans z57 E58.1
  have F58_coder : Fld Z h58 b58 "java/lang/String" "coder" "B" (.int (0 : Int32)) := D58 (Or.inr (hw _ (List.mem_of_getElem? (i := 37) rfl))) (ty := .byte) (by decide)
  have F58_value : Fld Z h58 b58 "java/lang/String" "value" "[B" .null := D58 (Or.inr (hw _ (List.mem_of_getElem? (i := 39) rfl))) (ty := (.array .byte)) (by decide)
  show Go p.tables e below _ (T58.setTop (mkF m 367 #[.val (.int p1), .val (.int p2), .val (.int p3), .val (.int p4), .val (.int ch0), .val (.int ch1'), .val (.int dt), .val (.int tt), .val (.int kd), .val (.int pe), .val (.int ps), .val (.int da), .val (.int ln), .val (.int w1), .val (.int w2), .val (.int df), .val (.int de), .val (.int g0), .val (.int g1), .val (.ref b9), .unset] [(.ref b58)]))
  refine Go.st (fun U hr => XS.dup X58.here hx rfl (hb hby at_367) rfl rfl hr) ?_
  show Go p.tables e below _ (T58.setTop (mkF m 368 #[.val (.int p1), .val (.int p2), .val (.int p3), .val (.int p4), .val (.int ch0), .val (.int ch1'), .val (.int dt), .val (.int tt), .val (.int kd), .val (.int pe), .val (.int ps), .val (.int da), .val (.int ln), .val (.int w1), .val (.int w2), .val (.int df), .val (.int de), .val (.int g0), .val (.int g1), .val (.ref b9), .unset] [(.ref b58), (.ref b58)]))
  refine Go.st (fun U hr => XS.aload X58.here hx rfl (hb hby at_368) rfl rfl hr) ?_
  show Go p.tables e below _ (T58.setTop (mkF m 370 #[.val (.int p1), .val (.int p2), .val (.int p3), .val (.int p4), .val (.int ch0), .val (.int ch1'), .val (.int dt), .val (.int tt), .val (.int kd), .val (.int pe), .val (.int ps), .val (.int da), .val (.int ln), .val (.int w1), .val (.int w2), .val (.int df), .val (.int de), .val (.int g0), .val (.int g1), .val (.ref b9), .unset] [(.ref b9), (.ref b58), (.ref b58)]))
  obtain ⟨_, _, ⟨T63, L63, k63, n63⟩, -, X63, ⟨Lc63, hQ63, l63, y63, z63⟩, st63⟩ := X58.specialBack hx (y := (⟨"java/lang/String", "<init>", "([C)V"⟩ : MethodName)) rfl hown (mvT hZ (hw _ (List.mem_of_getElem? (i := 14) rfl))) (mvT hZ (hw _ (List.mem_of_getElem? (i := 15) rfl))) (mvT hZ (hw _ (List.mem_of_getElem? (i := 16) rfl))) (by decide) (backOf (W := 1) (rm4 l Z a0 hw [] b58 b9 k9 wc ch0 ch1' y2 y3 y4 y5 y6 y7 h58 n0 z62 A58 F58_value F58_coder f61 f60 hwc n59 gb58 (by rw [own_lt32, show (255 : Int32).toInt = 255 from by decide]; omega) (by rw [own_lt32, show (255 : Int32).toInt = 255 from by decide]; omega) (by rw [own_lt32, show (255 : Int32).toInt = 255 from by decide]; omega) (by rw [own_lt32, show (255 : Int32).toInt = 255 from by decide]; omega) (by rw [own_lt32, show (255 : Int32).toInt = 255 from by decide]; omega) (by rw [own_lt32, show (255 : Int32).toInt = 255 from by decide]; omega) (by rw [own_lt32, show (255 : Int32).toInt = 255 from by decide]; omega) (by rw [own_lt32, show (255 : Int32).toInt = 255 from by decide]; omega)) hZ (hw _ (List.mem_of_getElem? (i := 16) rfl)) (hw _ (List.mem_of_getElem? (i := 13) rfl)) (by decide) (by decide)) (g := (mkF m 370 #[.val (.int p1), .val (.int p2), .val (.int p3), .val (.int p4), .val (.int ch0), .val (.int ch1'), .val (.int dt), .val (.int tt), .val (.int kd), .val (.int pe), .val (.int ps), .val (.int da), .val (.int ln), .val (.int w1), .val (.int w2), .val (.int df), .val (.int de), .val (.int g0), .val (.int g1), .val (.ref b9), .unset] [(.ref b9), (.ref b58), (.ref b58)])) rfl (by rw [hml]; rfl) (Steps.refl _) (a := b58) (argsL := [(.ref b9)]) (rest := [(.ref b58)]) (lenOf pd_13 rfl) rfl (by show 2 * 0 + _ ≤ _; exact Nat.le_of_eq rfl) (hb hby at_370) (fun _ _ => ⟨rfl, e58, (by decide : 2 + 1 ≤ _), (by decide : 12 + 8 ≤ _)⟩)
  dsimp only [Pt.U, Pt.locs, Pt.cells, Pt.slots] at X63 l63 y63 z63 st63 hQ63
  subst l63 y63 z63
  obtain ⟨rfl, Nq63, Kq63, Eq63, Cq63, rr63, kb63, sr63, Fq63, Vq63⟩ := hQ63
  have N63 := Fr.app N54 Nq63
  refine Go.tr st63 ?_
  show Go p.tables e below _ (T63.setTop (mkF m 373 #[.val (.int p1), .val (.int p2), .val (.int p3), .val (.int p4), .val (.int ch0), .val (.int ch1'), .val (.int dt), .val (.int tt), .val (.int kd), .val (.int pe), .val (.int ps), .val (.int da), .val (.int ln), .val (.int w1), .val (.int w2), .val (.int df), .val (.int de), .val (.int g0), .val (.int g1), .val (.ref b9), .unset] [(.ref b58)]))
  have So63 := own_sta Kq63 f60 A58
  have z64 := Nat.le_trans z62 Kq63.1
  refine Go.st (fun U hr => XS.astore X63.here hx rfl (hb hby at_373) rfl rfl (l' := #[.val (.int p1), .val (.int p2), .val (.int p3), .val (.int p4), .val (.int ch0), .val (.int ch1'), .val (.int dt), .val (.int tt), .val (.int kd), .val (.int pe), .val (.int ps), .val (.int da), .val (.int ln), .val (.int w1), .val (.int w2), .val (.int df), .val (.int de), .val (.int g0), .val (.int g1), .val (.ref b9), .val (.ref b58)]) rfl hr) ?_
  show Go p.tables e below _ (T63.setTop (mkF m 375 #[.val (.int p1), .val (.int p2), .val (.int p3), .val (.int p4), .val (.int ch0), .val (.int ch1'), .val (.int dt), .val (.int tt), .val (.int kd), .val (.int pe), .val (.int ps), .val (.int da), .val (.int ln), .val (.int w1), .val (.int w2), .val (.int df), .val (.int de), .val (.int g0), .val (.int g1), .val (.ref b9), .val (.ref b58)] []))
  refine Go.st (fun U hr => XS.aload X63.here hx rfl (hb hby at_375) rfl rfl hr) ?_
  show Go p.tables e below _ (T63.setTop (mkF m 377 #[.val (.int p1), .val (.int p2), .val (.int p3), .val (.int p4), .val (.int ch0), .val (.int ch1'), .val (.int dt), .val (.int tt), .val (.int kd), .val (.int pe), .val (.int ps), .val (.int da), .val (.int ln), .val (.int w1), .val (.int w2), .val (.int df), .val (.int de), .val (.int g0), .val (.int g1), .val (.ref b9), .val (.ref b58)] [(.ref b58)]))
  refine Go.st (fun U hr => XS.iconst X63.here hx rfl (hb hby at_377) hr) ?_
  show Go p.tables e below _ (T63.setTop (mkF m 378 #[.val (.int p1), .val (.int p2), .val (.int p3), .val (.int p4), .val (.int ch0), .val (.int ch1'), .val (.int dt), .val (.int tt), .val (.int kd), .val (.int pe), .val (.int ps), .val (.int da), .val (.int ln), .val (.int w1), .val (.int w2), .val (.int df), .val (.int de), .val (.int g0), .val (.int g1), .val (.ref b9), .val (.ref b58)] [(.int (2 : Int32)), (.ref b58)]))
  obtain ⟨_, _, ⟨T65, L65, k65, n65⟩, -, X65, ⟨Lc65, hQ65, l65, y65, z65⟩, st65⟩ := Jvm.LawKit.callS X63 hx (y := (⟨"com/example/clausewright/clausewright/PageNumber", "hasDotLeaders", "(Ljava/lang/String;I)Z"⟩ : MethodName)) hown (mvT hZ (hw _ (List.mem_of_getElem? (i := 40) rfl))) (mvT hZ (hw _ (List.mem_of_getElem? (i := 41) rfl))) (mvT hZ (hw _ (List.mem_of_getElem? (i := 42) rfl))) (mvT hZ (hw _ (List.mem_of_getElem? (i := 43) rfl))) (by decide) (backOf (W := 0) (rm10 l Z a0 hw [] b58 rr63 kb63 wc ch0 ch1' y2 y3 y4 y5 y6 y7 T63.heap n0 z64 Eq63 Fq63 Cq63 Vq63 So63 hwc) hZ (hw _ (List.mem_of_getElem? (i := 43) rfl)) (hw _ (List.mem_of_getElem? (i := 42) rfl)) (by decide) (by decide)) (g := (mkF m 378 #[.val (.int p1), .val (.int p2), .val (.int p3), .val (.int p4), .val (.int ch0), .val (.int ch1'), .val (.int dt), .val (.int tt), .val (.int kd), .val (.int pe), .val (.int ps), .val (.int da), .val (.int ln), .val (.int w1), .val (.int w2), .val (.int df), .val (.int de), .val (.int g0), .val (.int g1), .val (.ref b9), .val (.ref b58)] [(.int (2 : Int32)), (.ref b58)])) rfl (by rw [hml]; rfl) (argsL := [(.ref b58), (.int (2 : Int32))]) (rest := []) (lenOf pd_14 rfl) rfl (by show 2 * 0 + _ ≤ _; exact Nat.le_of_eq rfl) (hb hby at_378) (fun _ _ => ⟨rfl, rfl, (by decide : 3 + 0 ≤ _), (by decide : 20 + 0 ≤ _)⟩)
  dsimp only [Pt.U, Pt.locs, Pt.cells, Pt.slots] at X65 l65 y65 z65 st65 hQ65
  subst l65 y65 z65
  obtain ⟨rfl, Nq65, ee65⟩ := hQ65
  have N65 := Fr.app N63 Nq65
  refine Go.st st65 ?_
  show Go p.tables e below _ (T65.setTop (mkF m 381 #[.val (.int p1), .val (.int p2), .val (.int p3), .val (.int p4), .val (.int ch0), .val (.int ch1'), .val (.int dt), .val (.int tt), .val (.int kd), .val (.int pe), .val (.int ps), .val (.int da), .val (.int ln), .val (.int w1), .val (.int w2), .val (.int df), .val (.int de), .val (.int g0), .val (.int g1), .val (.ref b9), .val (.ref b58)] [(.int (if own_ix y2 y3 y4 y5 y6 y7 < 0 then (0 : Int32) else (1 : Int32)))]))
  refine Go.st (fun U hr => XS.iload X65.here hx rfl (hb hby at_381) rfl hr) ?_
  show Go p.tables e below _ (T65.setTop (mkF m 383 #[.val (.int p1), .val (.int p2), .val (.int p3), .val (.int p4), .val (.int ch0), .val (.int ch1'), .val (.int dt), .val (.int tt), .val (.int kd), .val (.int pe), .val (.int ps), .val (.int da), .val (.int ln), .val (.int w1), .val (.int w2), .val (.int df), .val (.int de), .val (.int g0), .val (.int g1), .val (.ref b9), .val (.ref b58)] [(.int dt), (.int (if own_ix y2 y3 y4 y5 y6 y7 < 0 then (0 : Int32) else (1 : Int32)))]))
  have hc383_66 : (if own_ix y2 y3 y4 y5 y6 y7 < 0 then (0 : Int32) else (1 : Int32)) = dt := by
    rw [show (if own_ix y2 y3 y4 y5 y6 y7 < 0 then (0 : Int32) else (1 : Int32)) = (if ¬ (y2 = 46 ∨ y3 = 46 ∨ y4 = 46 ∨ y5 = 46 ∨ y6 = 46 ∨ y7 = 46) then (0 : Int32) else (1 : Int32)) from by
      have hiff := own_ix_neg y2 y3 y4 y5 y6 y7 hz2 hz3 hz4 hz5 hz6 hz7
      by_cases q : own_ix y2 y3 y4 y5 y6 y7 < 0
      · rw [if_pos q, if_pos (hiff.mp q)]
      · rw [if_neg q, if_neg (fun z => q (hiff.mpr z))]]
    have ng0 : ¬ g0 = 46 := fun q => by rw [q] at hg0; exact absurd hg0.1 (by decide)
    have ng1 : ¬ g1 = 46 := fun q => by rw [q] at hg1; exact absurd hg1.1 (by decide)
    by_cases hd : dt = 0
    · have e1 : df = ps := by rw [← h_df, if_pos hd]
      have e2 : de = ps := by rw [← h_de, if_pos hd]
      have no : ∀ i : Int32, ¬ own_cell i df de ps pe da g0 g1 p4 = 46 := fun i => by rw [e1, e2]; exact own_cell_no i ps pe da g0 g1 p4 ng0 ng1
      have n2 := no 2
      have n3 := no 3
      have n4 := no 4
      have n5 := no 5
      have n6 := no 6
      have n7 := no 7
      rw [h_y2] at n2
      rw [h_y3] at n3
      rw [h_y4] at n4
      rw [h_y5] at n5
      rw [h_y6] at n6
      rw [h_y7] at n7
      rw [if_pos (by simp [n2, n3, n4, n5, n6, n7]), hd]
    · have hdt : dt = 1 := by
        rw [← h_dt] at hd ⊢
        by_cases q : (p2 &&& (1 : Int32)) = (0 : Int32)
        · exact absurd (if_pos q) hd
        · exact if_neg q
      have e1 : df.toInt = 2 + w1.toInt := by
        rw [← h_df, if_neg hd]
        have h1 := c_iadd 2 w1
        rw [show (2 : Int32).toInt = 2 from by decide] at h1
        have := rng32 (2 + w1)
        omega
      have e2 : de.toInt = ps.toInt - w2.toInt := by
        rw [← h_de, if_neg hd]
        have h1 := c_isub ps w2
        have := rng32 (ps - w2)
        omega
      have hy : y2 = 46 ∨ y3 = 46 := by
        by_cases q : w1.toInt = 0
        · left; rw [← h_y2]
          exact own_cell_yes 2 df de ps pe da g0 g1 p4 (by rw [own_lt32, show (2 : Int32).toInt = 2 from by decide]; omega) (by rw [own_lt32, show (2 : Int32).toInt = 2 from by decide]; omega)
        · right; rw [← h_y3]
          exact own_cell_yes 3 df de ps pe da g0 g1 p4 (by rw [own_lt32, show (3 : Int32).toInt = 3 from by decide]; omega) (by rw [own_lt32, show (3 : Int32).toInt = 3 from by decide]; omega)
      rw [if_neg (by rcases hy with q | q <;> simp [q]), hdt]
  refine Go.st (fun U hr => XS.icmpNo X65.here hx rfl (hb hby at_383) rfl (teq hc383_66).2 hr) ?_
  show Go p.tables e below _ (T65.setTop (mkF m 386 #[.val (.int p1), .val (.int p2), .val (.int p3), .val (.int p4), .val (.int ch0), .val (.int ch1'), .val (.int dt), .val (.int tt), .val (.int kd), .val (.int pe), .val (.int ps), .val (.int da), .val (.int ln), .val (.int w1), .val (.int w2), .val (.int df), .val (.int de), .val (.int g0), .val (.int g1), .val (.ref b9), .val (.ref b58)] []))
  refine Go.st (fun U hr => XS.iconst X65.here hx rfl (hb hby at_386) hr) ?_
  show Go p.tables e below _ (T65.setTop (mkF m 387 #[.val (.int p1), .val (.int p2), .val (.int p3), .val (.int p4), .val (.int ch0), .val (.int ch1'), .val (.int dt), .val (.int tt), .val (.int kd), .val (.int pe), .val (.int ps), .val (.int da), .val (.int ln), .val (.int w1), .val (.int w2), .val (.int df), .val (.int de), .val (.int g0), .val (.int g1), .val (.ref b9), .val (.ref b58)] [(.int (1 : Int32))]))
  refine Go.st (fun U hr => XS.goto X65.here hx rfl (pc0 := 387) (pc' := 391) rfl (hb hby at_387) (by decide) (by decide) hr) ?_
  show Go p.tables e below _ (T65.setTop (mkF m 391 #[.val (.int p1), .val (.int p2), .val (.int p3), .val (.int p4), .val (.int ch0), .val (.int ch1'), .val (.int dt), .val (.int tt), .val (.int kd), .val (.int pe), .val (.int ps), .val (.int da), .val (.int ln), .val (.int w1), .val (.int w2), .val (.int df), .val (.int de), .val (.int g0), .val (.int g1), .val (.ref b9), .val (.ref b58)] [(.int (1 : Int32))]))
  exact own_retN X65 hx Bd.notSynchronized (t := .boolean) Bd.returns (by simp) (hb hby at_391) ⟨rfl, N65⟩ (by decide) (by decide)
set_option maxRecDepth 65536 in
set_option maxHeartbeats 40000000 in
theorem comes_1 {Post : Tables → Env → Array Value → State → Outcome → State → Prop} (hpost : ∀ tb e args s v u, (limb_1_1.after args s (.returned v) u = true ∧ limb_1_2.after args s (.returned v) u = true ∧ True) → FrameEnd s (.returned v) u (Jvm.fieldLocs frame_1_writes args s ++ Jvm.arrayLocs frame_1_arrays args s ++ Jvm.staticLocs frame_1_statics s) 16 128 → Post tb e args s (.returned v) u) :
    ArmFor flags0 classFile x code maxLocals ret World_1 tables_1 room_1 Calls_1 rest_1 Pre_1 Post := by
  intro l hfl _ _ p e ha hc hk s m args below hf hA hF happ hP
  obtain ⟨hcalls, hrest, hpre⟩ := hP
  obtain ⟨-, -, -, hnamed, -, -, -, hat⟩ := (Spec.applies_iff hf).mp happ
  obtain ⟨hg, hn⟩ := and_e (Cond.before_iff.mp (show (Jvm.Cond.and given_1 narrow_1).before args s = true from hpre))
  obtain ⟨h1, h2⟩ := and_e hg
  obtain ⟨w0, w1, w2, w3, rfl⟩ : ∃ w0 w1 w2 w3 : Value, args = #[w0, w1, w2, w3] := by
    have hs : args.size = 4 := by simpa [Cond.value, given_1] using h1
    obtain ⟨L⟩ := args
    match L, hs with
    | [w0, w1, w2, w3], _ => exact ⟨w0, w1, w2, w3, rfl⟩
  have hw := fun d (hd : d ∈ tables_1) => atoms_spec (ws := Jvm.Cond.code x code maxLocals ret :: tables_1) hat d (List.mem_cons_of_mem _ hd)
  have hfit : Fit s := fun {y c} hc i hi => by
    obtain ⟨ha, rfl⟩ := Array.getElem?_eq_some_iff.mp hc
    have q := List.all_eq_true.mp ((Array.all_eq_true_iff_forall_mem.mp hF) _ (Array.getElem_mem ha)) i (List.mem_range.mpr hi)
    simpa [Array.getElem?_eq_getElem hi] using q
  obtain ⟨ha0, hb0⟩ := and_e h2
  obtain ⟨i0, e0⟩ := is_v ha0
  obtain rfl : w0 = (.int i0) := Option.some.inj e0
  obtain ⟨ha1, hb1⟩ := and_e hb0
  obtain ⟨i1, e1⟩ := is_v ha1
  obtain rfl : w1 = (.int i1) := Option.some.inj e1
  obtain ⟨ha2, hb2⟩ := and_e hb1
  obtain ⟨i2, e2⟩ := is_v ha2
  obtain rfl : w2 = (.int i2) := Option.some.inj e2
  obtain ⟨i3, e3⟩ := is_v hb2
  obtain rfl : w3 = (.int i3) := Option.some.inj e3
  obtain ⟨hsets, hown0⟩ := atoms_of _ (rest_1_c_eq ▸ (show rest_1_c.before _ s = true from hrest))
  have q0 := hsets _ (List.mem_of_getElem? (i := 0) rfl)
  have q1 := hsets _ (List.mem_of_getElem? (i := 1) rfl)
  have q2 := hsets _ (List.mem_of_getElem? (i := 2) rfl)
  obtain ⟨wc, ewc⟩ := is_v (Cond.before_iff.mp q1)
  have S1 := Sta.start ewc (Or.inl q0)
  have hwc : ¬ wc = 0 := gotF (Cond.eq_ints ewc (Term.int_eval (0))) (not_v (Cond.before_iff.mp q2))
  obtain ⟨n, o, h1, h2, h3, _, L, rfl, ⟨rfl, N⟩, hq⟩ := rm0 l s _ hw tables_1 i0 i1 i2 i3 wc s.heap s.heap.size (Nat.le_refl _) S1 hwc p e ha hc hk s m _ below hf ((Spec.applies_iff_loose hf).mp happ).1 ⟨rfl, State.Warmed39.refl s, rfl⟩ trivial
  refine ⟨n, _, h1, h2, h3, hpost _ _ _ _ _ _ ⟨Cond.after_iff.mpr rfl, Cond.after_iff.mpr (eq_i res_at (Term.int_eval (1)) rfl), trivial⟩ ⟨hq.1, hq.2.1, (hq.2.2.sift fun y hy => Or.inr (N y hy)).mono (by decide) (by decide)⟩⟩
theorem main_1_1 : Claimed_1_1 := comes_1 fun _ _ _ _ _ _ h hF => ⟨h.1, hF⟩
theorem main_1_2 : Claimed_1_2 := comes_1 fun _ _ _ _ _ _ h hF => ⟨h.2.1, hF⟩
end Jvm.Pilot.@@N@@
namespace Jvm.Pilot.@@N@@
open Jvm Jvm.ClassFile Sem Op Lib Jvm.Free Jvm.Stand Jvm.Pilot.@@N@@.Jvm.D
/-! MADE BY PROGRAM (witnessworld.py) out of the Statement's table words and the real class files: 21 classes; the members and pool entries that the words name. The judged class is class 1, her method 1. -/
namespace start1
open Jvm.ClassFile
def u (s : String) : CpInfo := .utf8 (stringToUtf16 s)
/-- a pool by its gaps: so many unusable entries, then the entry; so many at the end -/
def gap : Nat → List CpInfo → List CpInfo
  | 0, r => r
  | n + 1, r => .unusable :: gap n r
def poolList (es : List (Nat × CpInfo)) (last : Nat) : List CpInfo := es.foldr (fun e r => gap e.1 (e.2 :: r)) (gap last [])
def pool (es : List (Nat × CpInfo)) (last : Nat) : Array CpInfo := ⟨poolList es last⟩
def fileOf (pool : Array CpInfo) (this : Nat) (attrs : Array Attribute := #[]) (ms : Array MethodInfo := #[]) (fl : Nat := 33) (sup : Nat := 0) (ifs : Array Nat := #[]) (fds : Array FieldInfo := #[]) : ClassFile where
  minorVersion := 0
  majorVersion := 65
  constantPool := pool
  accessFlags := fl
  thisClass := this
  superClass := sup
  interfaces := ifs
  fields := fds
  methods := ms
  attributes := attrs
def plain (name : String) (sup : Option ClassId) : Class where
  name := name
  kind := .ordinary
  loader := none
  accessFlags := 33
  super := sup
  interfaces := #[]
  cf := none
  fields := #[]
  methods := #[]
  instanceTypes := #[]
  staticTypes := #[]
  resolved := #[]
  callSites := []
  init := .initialized
  statics := none
  mirror := none

def pool0 : Array CpInfo := pool [(5, u "<init>"), (0, u "()V"), (1, .class_ 10), (1, u "java/lang/Object")] 113

def k0c0 : Code := { maxStack := 0, maxLocals := 1, code := object_method_1_code, exceptionTable := #[], attributes := #[] }
def k0m0 : Method := { name := "<init>", desc := "()V", sig := { parameters := [], returnType := none }, accessFlags := 1, code := some k0c0 }
/-- java/lang/Object -/
def k0 : Class := { plain "java/lang/Object" none with
  accessFlags := 33
  interfaces := #[]
  cf := some (fileOf pool0 8 #[] #[{ accessFlags := 1, nameIndex := 5, descriptorIndex := 6, attributes := #[] }] 33 0 #[] #[])
  fields := #[]
  methods := #[k0m0]
  instanceTypes := #[]
  staticTypes := #[]
  resolved := Array.replicate 124 none
  statics := none }

def pool1 : Array CpInfo := pool [(2, .class_ 4), (1, u "java/lang/Object"), (0, u "<init>"), (0, u "()V"), (0, .methodref 8 9), (0, .class_ 10), (0, .nameAndType 11 12), (0, u "com/example/clausewright/clausewright/PageNumberHasDotLeadersPinLaw"), (0, u "isWs"), (0, u "(C)Z"), (0, .methodref 8 14), (0, .nameAndType 15 16), (0, u "cell"), (0, u "(IIIIIZCCI)C"), (0, .class_ 18), (0, u "java/lang/String"), (0, .methodref 17 20), (0, .nameAndType 5 21), (0, u "([C)V"), (0, .methodref 23 24), (0, .class_ 25), (0, .nameAndType 26 27), (0, u "com/example/clausewright/clausewright/PageNumber"), (0, u "hasDotLeaders"), (0, u "(Ljava/lang/String;I)Z"), (0, .methodref 8 29), (0, .nameAndType 30 31), (0, u "ws"), (0, u "(I)C"), (2, u "law"), (0, u "(IIII)Z")] 5

def k1m0 : Method := { name := "<init>", desc := "()V", sig := { parameters := [], returnType := none }, accessFlags := 2, code := none }
def k1c1 : Code := { maxStack := 11, maxLocals := 21, code := code, exceptionTable := #[], attributes := #[] }
def k1m1 : Method := { name := "law", desc := "(IIII)Z", sig := { parameters := [.int, .int, .int, .int], returnType := some .boolean }, accessFlags := 9, code := some k1c1 }
def k1c2 : Code := { maxStack := 3, maxLocals := 10, code := method_3_code, exceptionTable := #[], attributes := #[] }
def k1m2 : Method := { name := "cell", desc := "(IIIIIZCCI)C", sig := { parameters := [.int, .int, .int, .int, .int, .boolean, .char, .char, .int], returnType := some .char }, accessFlags := 10, code := some k1c2 }
def k1c3 : Code := { maxStack := 2, maxLocals := 1, code := method_4_code, exceptionTable := #[], attributes := #[] }
def k1m3 : Method := { name := "ws", desc := "(I)C", sig := { parameters := [.int], returnType := some .char }, accessFlags := 10, code := some k1c3 }
def k1c4 : Code := { maxStack := 2, maxLocals := 1, code := method_5_code, exceptionTable := #[], attributes := #[] }
def k1m4 : Method := { name := "isWs", desc := "(C)Z", sig := { parameters := [.char], returnType := some .boolean }, accessFlags := 10, code := some k1c4 }
/-- com/example/clausewright/clausewright/PageNumberHasDotLeadersPinLaw -/
def k1 : Class := { plain "com/example/clausewright/clausewright/PageNumberHasDotLeadersPinLaw" (some 0) with
  accessFlags := 49
  interfaces := #[]
  cf := some (fileOf pool1 8 #[] #[{ accessFlags := 2, nameIndex := 5, descriptorIndex := 6, attributes := #[] }, { accessFlags := 9, nameIndex := 34, descriptorIndex := 35, attributes := #[] }, { accessFlags := 10, nameIndex := 15, descriptorIndex := 16, attributes := #[] }, { accessFlags := 10, nameIndex := 30, descriptorIndex := 31, attributes := #[] }, { accessFlags := 10, nameIndex := 11, descriptorIndex := 12, attributes := #[] }] 49 2 #[] #[])
  fields := #[]
  methods := #[k1m0, k1m1, k1m2, k1m3, k1m4]
  instanceTypes := #[]
  staticTypes := #[]
  resolved := Array.replicate 41 none
  statics := none }

def pool2 : Array CpInfo := pool [(1, .class_ 2), (0, u "java/io/Serializable"), (0, .class_ 4), (0, u "java/lang/Object")] 2

/-- java/io/Serializable -/
def k2 : Class := { plain "java/io/Serializable" (some 0) with
  accessFlags := 1537
  interfaces := #[]
  cf := some (fileOf pool2 1 #[] #[] 1537 3 #[] #[])
  fields := #[]
  methods := #[]
  instanceTypes := #[]
  staticTypes := #[]
  resolved := Array.replicate 7 none
  statics := none }

def pool3 : Array CpInfo := pool [(1, .class_ 2), (0, u "java/lang/Comparable"), (0, .class_ 4), (0, u "java/lang/Object")] 7

/-- java/lang/Comparable -/
def k3 : Class := { plain "java/lang/Comparable" (some 0) with
  accessFlags := 1537
  interfaces := #[]
  cf := some (fileOf pool3 1 #[] #[] 1537 3 #[] #[])
  fields := #[]
  methods := #[]
  instanceTypes := #[]
  staticTypes := #[]
  resolved := Array.replicate 12 none
  statics := none }

def pool4 : Array CpInfo := pool [(2, .class_ 4), (1, u "java/lang/CharSequence"), (42, .class_ 48), (0, u "java/lang/CharSequence$1CodePointIterator"), (10, .class_ 60), (0, u "java/lang/CharSequence$1CharIterator"), (5, .class_ 67), (0, u "java/lang/Object")] 63

/-- java/lang/CharSequence -/
def k4 : Class := { plain "java/lang/CharSequence" (some 0) with
  accessFlags := 1537
  interfaces := #[]
  cf := some (fileOf pool4 2 #[.nestMembers #[47, 59]] #[] 1537 66 #[] #[])
  fields := #[]
  methods := #[]
  instanceTypes := #[]
  staticTypes := #[]
  resolved := Array.replicate 131 none
  statics := none }

def pool5 : Array CpInfo := pool [(1, .class_ 2), (0, u "java/lang/constant/Constable"), (0, .class_ 4), (0, u "java/lang/Object")] 6

/-- java/lang/constant/Constable -/
def k5 : Class := { plain "java/lang/constant/Constable" (some 0) with
  accessFlags := 1537
  interfaces := #[]
  cf := some (fileOf pool5 1 #[] #[] 1537 3 #[] #[])
  fields := #[]
  methods := #[]
  instanceTypes := #[]
  staticTypes := #[]
  resolved := Array.replicate 11 none
  statics := none }

def pool6 : Array CpInfo := pool [(1, .class_ 2), (0, u "java/lang/constant/ConstantDesc"), (0, .class_ 4), (0, u "java/lang/Object")] 32

/-- java/lang/constant/ConstantDesc -/
def k6 : Class := { plain "java/lang/constant/ConstantDesc" (some 0) with
  accessFlags := 1537
  interfaces := #[]
  cf := some (fileOf pool6 1 #[] #[] 1537 3 #[] #[])
  fields := #[]
  methods := #[]
  instanceTypes := #[]
  staticTypes := #[]
  resolved := Array.replicate 37 none
  statics := none }

def pool7 : Array CpInfo := pool [(1, .methodref 2 3), (0, .class_ 4), (0, .nameAndType 5 6), (0, u "java/lang/Object"), (0, u "<init>"), (0, u "()V"), (2, .fieldref 10 11), (0, .class_ 12), (0, .nameAndType 13 14), (0, u "java/lang/String"), (0, u "value"), (0, u "[B"), (0, .fieldref 10 16), (0, .nameAndType 17 18), (0, u "coder"), (0, u "B"), (2, u "hash"), (0, u "I"), (2, u "hashIsZero"), (0, u "Z"), (0, .methodref 10 28), (0, .nameAndType 5 29), (0, u "([CIILjava/lang/Void;)V"), (8, .fieldref 10 39), (0, .nameAndType 40 26), (0, u "COMPACT_STRINGS"), (1, .class_ 44), (1, u "java/lang/StringUTF16"), (0, u "compress"), (1, .methodref 42 48), (0, .nameAndType 49 50), (0, u "coderFromArrayLen"), (0, u "([BI)B"), (56, .class_ 109), (1, u "java/lang/StringLatin1"), (32, u "()Z"), (34, .methodref 42 178), (0, .nameAndType 45 179), (0, u "([CII)[B"), (154, u "()I"), (0, .methodref 10 336), (0, .nameAndType 17 337), (0, u "()B"), (154, .methodref 10 493), (0, .nameAndType 494 142), (0, u "isLatin1"), (10, .methodref 10 506), (0, .nameAndType 507 334), (0, u "length"), (67, .class_ 576), (0, u "java/lang/CharSequence"), (22, u "CASE_INSENSITIVE_ORDER"), (0, u "Ljava/util/Comparator;"), (34, u "indexOf"), (0, u "(II)I"), (0, .methodref 107 638), (0, .nameAndType 635 639), (0, u "([BIII)I"), (370, u "([C)V"), (90, u "serialPersistentFields"), (0, u "[Ljava/io/ObjectStreamField;"), (0, .class_ 1104), (0, u "java/lang/String$CaseInsensitiveComparator"), (1, .class_ 1107), (0, u "java/io/Serializable"), (0, .class_ 1109), (0, u "java/lang/Comparable"), (0, .class_ 1111), (0, u "java/lang/constant/Constable"), (0, .class_ 1113), (0, u "java/lang/constant/ConstantDesc"), (2, u "serialVersionUID"), (0, u "J"), (3, u "REPL"), (0, u "C"), (2, u "LATIN1"), (1, u "UTF16")] 323

def k7m0 : Method := { name := "<init>", desc := "()V", sig := { parameters := [], returnType := none }, accessFlags := 1, code := none }
def k7c1 : Code := { maxStack := 5, maxLocals := 2, code := jdk_42_method_3_code, exceptionTable := #[], attributes := #[] }
def k7m1 : Method := { name := "<init>", desc := "([C)V", sig := { parameters := [(.array .char)], returnType := none }, accessFlags := 1, code := some k7c1 }
def k7c2 : Code := { maxStack := 2, maxLocals := 1, code := jdk_42_method_54_code, exceptionTable := #[], attributes := #[] }
def k7m2 : Method := { name := "length", desc := "()I", sig := { parameters := [], returnType := some .int }, accessFlags := 1, code := some k7c2 }
def k7c3 : Code := { maxStack := 4, maxLocals := 3, code := jdk_42_method_80_code, exceptionTable := #[], attributes := #[] }
def k7m3 : Method := { name := "indexOf", desc := "(II)I", sig := { parameters := [.int, .int], returnType := some .int }, accessFlags := 1, code := some k7c3 }
def k7c4 : Code := { maxStack := 4, maxLocals := 6, code := jdk_42_method_149_code, exceptionTable := #[], attributes := #[] }
def k7m4 : Method := { name := "<init>", desc := "([CIILjava/lang/Void;)V", sig := { parameters := [(.array .char), .int, .int, (.object "java/lang/Void")], returnType := none }, accessFlags := 2, code := some k7c4 }
def k7c5 : Code := { maxStack := 1, maxLocals := 1, code := jdk_42_method_152_code, exceptionTable := #[], attributes := #[] }
def k7m5 : Method := { name := "coder", desc := "()B", sig := { parameters := [], returnType := some .byte }, accessFlags := 0, code := some k7c5 }
def k7c6 : Code := { maxStack := 1, maxLocals := 1, code := jdk_42_method_154_code, exceptionTable := #[], attributes := #[] }
def k7m6 : Method := { name := "isLatin1", desc := "()Z", sig := { parameters := [], returnType := some .boolean }, accessFlags := 0, code := some k7c6 }
/-- java/lang/String -/
def k7 : Class := { plain "java/lang/String" (some 0) with
  accessFlags := 49
  interfaces := #[2, 3, 4, 5, 6]
  cf := some (fileOf pool7 10 #[.nestMembers #[1103]] #[{ accessFlags := 1, nameIndex := 5, descriptorIndex := 6, attributes := #[] }, { accessFlags := 1, nameIndex := 5, descriptorIndex := 1010, attributes := #[] }, { accessFlags := 1, nameIndex := 507, descriptorIndex := 334, attributes := #[] }, { accessFlags := 1, nameIndex := 635, descriptorIndex := 636, attributes := #[] }, { accessFlags := 2, nameIndex := 5, descriptorIndex := 29, attributes := #[] }, { accessFlags := 0, nameIndex := 17, descriptorIndex := 337, attributes := #[] }, { accessFlags := 0, nameIndex := 494, descriptorIndex := 142, attributes := #[] }] 49 2 #[1106, 1108, 575, 1110, 1112] #[{ accessFlags := 18, nameIndex := 13, descriptorIndex := 14, attributes := #[] }, { accessFlags := 18, nameIndex := 17, descriptorIndex := 18, attributes := #[] }, { accessFlags := 2, nameIndex := 21, descriptorIndex := 22, attributes := #[] }, { accessFlags := 2, nameIndex := 25, descriptorIndex := 26, attributes := #[] }, { accessFlags := 26, nameIndex := 1116, descriptorIndex := 1117, attributes := #[] }, { accessFlags := 24, nameIndex := 40, descriptorIndex := 26, attributes := #[] }, { accessFlags := 26, nameIndex := 1101, descriptorIndex := 1102, attributes := #[] }, { accessFlags := 26, nameIndex := 1121, descriptorIndex := 1122, attributes := #[] }, { accessFlags := 25, nameIndex := 599, descriptorIndex := 600, attributes := #[] }, { accessFlags := 24, nameIndex := 1125, descriptorIndex := 18, attributes := #[] }, { accessFlags := 24, nameIndex := 1127, descriptorIndex := 18, attributes := #[] }])
  fields := #[{ name := "value", type := (.array .byte), accessFlags := 18, slot := 0, constantValue := 0 }, { name := "coder", type := .byte, accessFlags := 18, slot := 1, constantValue := 0 }, { name := "hash", type := .int, accessFlags := 2, slot := 2, constantValue := 0 }, { name := "hashIsZero", type := .boolean, accessFlags := 2, slot := 3, constantValue := 0 }, { name := "serialVersionUID", type := .long, accessFlags := 26, slot := 0, constantValue := 0 }, { name := "COMPACT_STRINGS", type := .boolean, accessFlags := 24, slot := 1, constantValue := 0 }, { name := "serialPersistentFields", type := (.array (.object "java/io/ObjectStreamField")), accessFlags := 26, slot := 2, constantValue := 0 }, { name := "REPL", type := .char, accessFlags := 26, slot := 3, constantValue := 0 }, { name := "CASE_INSENSITIVE_ORDER", type := (.object "java/util/Comparator"), accessFlags := 25, slot := 4, constantValue := 0 }, { name := "LATIN1", type := .byte, accessFlags := 24, slot := 5, constantValue := 0 }, { name := "UTF16", type := .byte, accessFlags := 24, slot := 6, constantValue := 0 }]
  methods := #[k7m0, k7m1, k7m2, k7m3, k7m4, k7m5, k7m6]
  instanceTypes := #[(.array .byte), .byte, .int, .boolean]
  staticTypes := #[.long, .boolean, (.array (.object "java/io/ObjectStreamField")), .char, (.object "java/util/Comparator"), .byte, .byte]
  resolved := Array.replicate 1451 none
  statics := some 0 }

def pool8 : Array CpInfo := pool [(6, .class_ 8), (1, u "java/lang/Object"), (0, u "<init>"), (0, u "()V"), (1, .class_ 14), (1, u "java/lang/StringUTF16"), (31, u "$assertionsDisabled"), (0, u "Z"), (13, u "HI_BYTE_SHIFT"), (0, u "I"), (2, u "LO_BYTE_SHIFT"), (49, .methodref 12 116), (0, .nameAndType 117 118), (0, u "compress"), (0, u "([CI[BII)I"), (3, u "([CII)[B"), (138, u "coderFromArrayLen"), (0, u "([BI)B"), (106, .class_ 371), (1, u "java/lang/StringUTF16$LinesSpliterator"), (58, u "MAX_LENGTH"), (196, .class_ 628), (0, u "java/lang/StringUTF16$CodePointsSpliterator"), (0, .class_ 630), (0, u "java/lang/StringUTF16$CharsSpliterator")] 4

def k8m0 : Method := { name := "<init>", desc := "()V", sig := { parameters := [], returnType := none }, accessFlags := 0, code := none }
def k8c1 : Code := { maxStack := 2, maxLocals := 2, code := jdk_52_method_15_code, exceptionTable := #[], attributes := #[] }
def k8m1 : Method := { name := "coderFromArrayLen", desc := "([BI)B", sig := { parameters := [(.array .byte), .int], returnType := some .byte }, accessFlags := 8, code := some k8c1 }
def k8c2 : Code := { maxStack := 5, maxLocals := 6, code := jdk_52_method_16_code, exceptionTable := #[], attributes := #[] }
def k8m2 : Method := { name := "compress", desc := "([CII)[B", sig := { parameters := [(.array .char), .int, .int], returnType := some (.array .byte) }, accessFlags := 9, code := some k8c2 }
def k8c3 : Code := { maxStack := 3, maxLocals := 7, code := jdk_52_method_21_code, exceptionTable := #[], attributes := #[] }
def k8m3 : Method := { name := "compress", desc := "([CI[BII)I", sig := { parameters := [(.array .char), .int, (.array .byte), .int, .int], returnType := some .int }, accessFlags := 9, code := some k8c3 }
/-- java/lang/StringUTF16 -/
def k8 : Class := { plain "java/lang/StringUTF16" (some 0) with
  accessFlags := 48
  interfaces := #[]
  cf := some (fileOf pool8 12 #[.nestMembers #[627, 629, 369]] #[{ accessFlags := 0, nameIndex := 9, descriptorIndex := 10, attributes := #[] }, { accessFlags := 8, nameIndex := 261, descriptorIndex := 262, attributes := #[] }, { accessFlags := 9, nameIndex := 117, descriptorIndex := 122, attributes := #[] }, { accessFlags := 9, nameIndex := 117, descriptorIndex := 118, attributes := #[] }] 48 6 #[] #[{ accessFlags := 26, nameIndex := 61, descriptorIndex := 62, attributes := #[] }, { accessFlags := 26, nameIndex := 65, descriptorIndex := 62, attributes := #[] }, { accessFlags := 24, nameIndex := 430, descriptorIndex := 62, attributes := #[] }, { accessFlags := 4120, nameIndex := 46, descriptorIndex := 47, attributes := #[] }])
  fields := #[{ name := "HI_BYTE_SHIFT", type := .int, accessFlags := 26, slot := 0, constantValue := 0 }, { name := "LO_BYTE_SHIFT", type := .int, accessFlags := 26, slot := 1, constantValue := 0 }, { name := "MAX_LENGTH", type := .int, accessFlags := 24, slot := 2, constantValue := 0 }, { name := "$assertionsDisabled", type := .boolean, accessFlags := 4120, slot := 3, constantValue := 0 }]
  methods := #[k8m0, k8m1, k8m2, k8m3]
  instanceTypes := #[]
  staticTypes := #[.int, .int, .int, .boolean]
  resolved := Array.replicate 635 none
  statics := none }

def pool9 : Array CpInfo := pool [(2, .class_ 4), (1, u "java/lang/Object"), (0, u "<init>"), (0, u "()V"), (0, .class_ 8), (0, u "com/example/clausewright/clausewright/PageNumber"), (10, u "ALONE"), (0, u "Ljava/util/regex/Pattern;"), (16, u "FOLIO"), (2, u "FOLIO_PAGE"), (24, .class_ 67), (1, u "java/lang/String"), (41, u "indexOf"), (2, u "PAGE_WITHIN_SPACED"), (2, u "PAGE_WITHIN"), (0, .class_ 117), (0, u "com/example/clausewright/clausewright/PageNumber$Along"), (16, u "hasDotLeaders"), (0, u "(Ljava/lang/String;I)Z"), (0, .methodref 65 137), (0, .nameAndType 109 138), (0, u "(II)I"), (14, u "ALONE_FIRSTS"), (0, u "Ljava/lang/String;"), (1, u "FOLIO_FIRSTS"), (0, u "PAGE_ALONG")] 19

def k9m0 : Method := { name := "<init>", desc := "()V", sig := { parameters := [], returnType := none }, accessFlags := 2, code := none }
def k9c1 : Code := { maxStack := 3, maxLocals := 2, code := prog_38_method_9_code, exceptionTable := #[], attributes := #[] }
def k9m1 : Method := { name := "hasDotLeaders", desc := "(Ljava/lang/String;I)Z", sig := { parameters := [(.object "java/lang/String"), .int], returnType := some .boolean }, accessFlags := 8, code := some k9c1 }
/-- com/example/clausewright/clausewright/PageNumber -/
def k9 : Class := { plain "com/example/clausewright/clausewright/PageNumber" (some 0) with
  accessFlags := 48
  interfaces := #[]
  cf := some (fileOf pool9 7 #[.nestMembers #[116]] #[{ accessFlags := 2, nameIndex := 5, descriptorIndex := 6, attributes := #[] }, { accessFlags := 8, nameIndex := 134, descriptorIndex := 135, attributes := #[] }] 48 2 #[] #[{ accessFlags := 26, nameIndex := 19, descriptorIndex := 20, attributes := #[] }, { accessFlags := 26, nameIndex := 153, descriptorIndex := 154, attributes := #[] }, { accessFlags := 26, nameIndex := 37, descriptorIndex := 20, attributes := #[] }, { accessFlags := 26, nameIndex := 156, descriptorIndex := 154, attributes := #[] }, { accessFlags := 26, nameIndex := 40, descriptorIndex := 20, attributes := #[] }, { accessFlags := 26, nameIndex := 157, descriptorIndex := 154, attributes := #[] }, { accessFlags := 26, nameIndex := 115, descriptorIndex := 20, attributes := #[] }, { accessFlags := 26, nameIndex := 112, descriptorIndex := 20, attributes := #[] }])
  fields := #[{ name := "ALONE", type := (.object "java/util/regex/Pattern"), accessFlags := 26, slot := 0, constantValue := 0 }, { name := "ALONE_FIRSTS", type := (.object "java/lang/String"), accessFlags := 26, slot := 1, constantValue := 0 }, { name := "FOLIO", type := (.object "java/util/regex/Pattern"), accessFlags := 26, slot := 2, constantValue := 0 }, { name := "FOLIO_FIRSTS", type := (.object "java/lang/String"), accessFlags := 26, slot := 3, constantValue := 0 }, { name := "FOLIO_PAGE", type := (.object "java/util/regex/Pattern"), accessFlags := 26, slot := 4, constantValue := 0 }, { name := "PAGE_ALONG", type := (.object "java/lang/String"), accessFlags := 26, slot := 5, constantValue := 0 }, { name := "PAGE_WITHIN", type := (.object "java/util/regex/Pattern"), accessFlags := 26, slot := 6, constantValue := 0 }, { name := "PAGE_WITHIN_SPACED", type := (.object "java/util/regex/Pattern"), accessFlags := 26, slot := 7, constantValue := 0 }]
  methods := #[k9m0, k9m1]
  instanceTypes := #[]
  staticTypes := #[(.object "java/util/regex/Pattern"), (.object "java/lang/String"), (.object "java/util/regex/Pattern"), (.object "java/lang/String"), (.object "java/util/regex/Pattern"), (.object "java/lang/String"), (.object "java/util/regex/Pattern"), (.object "java/util/regex/Pattern")]
  resolved := Array.replicate 177 none
  statics := none }

def pool10 : Array CpInfo := pool [(4, .class_ 6), (1, u "java/lang/Object"), (0, u "<init>"), (0, u "()V"), (5, .class_ 16), (1, u "java/lang/StringLatin1"), (21, .methodref 39 40), (0, .class_ 41), (0, .nameAndType 42 43), (0, u "java/lang/Math"), (0, u "min"), (0, u "(II)I"), (44, .methodref 14 89), (0, .nameAndType 90 91), (0, u "canEncode"), (0, u "(I)Z"), (0, .methodref 39 93), (0, .nameAndType 94 43), (0, u "max"), (0, .methodref 14 96), (0, .nameAndType 97 98), (0, u "indexOfChar"), (0, u "([BIII)I"), (2, u "indexOf"), (19, u "$assertionsDisabled"), (0, u "Z"), (98, .class_ 223), (1, u "java/lang/StringLatin1$LinesSpliterator"), (166, .class_ 391), (0, u "java/lang/StringLatin1$CharsSpliterator")] 3

def k10m0 : Method := { name := "<init>", desc := "()V", sig := { parameters := [], returnType := none }, accessFlags := 0, code := none }
def k10c1 : Code := { maxStack := 2, maxLocals := 1, code := jdk_43_method_4_code, exceptionTable := #[], attributes := #[] }
def k10m1 : Method := { name := "canEncode", desc := "(I)Z", sig := { parameters := [.int], returnType := some .boolean }, accessFlags := 9, code := some k10c1 }
def k10c2 : Code := { maxStack := 4, maxLocals := 4, code := jdk_43_method_22_code, exceptionTable := #[], attributes := #[] }
def k10m2 : Method := { name := "indexOf", desc := "([BIII)I", sig := { parameters := [(.array .byte), .int, .int, .int], returnType := some .int }, accessFlags := 9, code := some k10c2 }
def k10c3 : Code := { maxStack := 2, maxLocals := 6, code := jdk_43_method_23_code, exceptionTable := #[], attributes := #[] }
def k10m3 : Method := { name := "indexOfChar", desc := "([BIII)I", sig := { parameters := [(.array .byte), .int, .int, .int], returnType := some .int }, accessFlags := 10, code := some k10c3 }
/-- java/lang/StringLatin1 -/
def k10 : Class := { plain "java/lang/StringLatin1" (some 0) with
  accessFlags := 48
  interfaces := #[]
  cf := some (fileOf pool10 14 #[.nestMembers #[390, 221]] #[{ accessFlags := 0, nameIndex := 7, descriptorIndex := 8, attributes := #[] }, { accessFlags := 9, nameIndex := 90, descriptorIndex := 91, attributes := #[] }, { accessFlags := 9, nameIndex := 101, descriptorIndex := 98, attributes := #[] }, { accessFlags := 10, nameIndex := 97, descriptorIndex := 98, attributes := #[] }] 48 4 #[] #[{ accessFlags := 4120, nameIndex := 121, descriptorIndex := 122, attributes := #[] }])
  fields := #[{ name := "$assertionsDisabled", type := .boolean, accessFlags := 4120, slot := 0, constantValue := 0 }]
  methods := #[k10m0, k10m1, k10m2, k10m3]
  instanceTypes := #[]
  staticTypes := #[.boolean]
  resolved := Array.replicate 395 none
  statics := none }

def pool11 : Array CpInfo := pool [(1, .class_ 2), (0, u "java/lang/Math"), (1, .class_ 6), (1, u "java/lang/Object"), (0, u "<init>"), (0, u "()V"), (89, .class_ 100), (1, u "java/lang/Math$RandomNumberGeneratorHolder"), (71, u "negativeZeroFloatBits"), (0, u "J"), (2, u "negativeZeroDoubleBits"), (21, u "max"), (2, u "min"), (43, u "$assertionsDisabled"), (0, u "Z"), (88, u "(II)I"), (2, u "twoToTheDoubleScaleDown"), (0, u "D"), (4, u "twoToTheDoubleScaleUp"), (9, u "E"), (3, u "PI"), (2, u "TAU"), (2, u "DEGREES_TO_RADIANS"), (0, u "RADIANS_TO_DEGREES")] 94

def k11m0 : Method := { name := "<init>", desc := "()V", sig := { parameters := [], returnType := none }, accessFlags := 2, code := none }
def k11c1 : Code := { maxStack := 2, maxLocals := 2, code := jdk_29_method_65_code, exceptionTable := #[], attributes := #[] }
def k11m1 : Method := { name := "max", desc := "(II)I", sig := { parameters := [.int, .int], returnType := some .int }, accessFlags := 9, code := some k11c1 }
def k11c2 : Code := { maxStack := 2, maxLocals := 2, code := jdk_29_method_69_code, exceptionTable := #[], attributes := #[] }
def k11m2 : Method := { name := "min", desc := "(II)I", sig := { parameters := [.int, .int], returnType := some .int }, accessFlags := 9, code := some k11c2 }
/-- java/lang/Math -/
def k11 : Class := { plain "java/lang/Math" (some 0) with
  accessFlags := 49
  interfaces := #[]
  cf := some (fileOf pool11 1 #[.nestMembers #[98]] #[{ accessFlags := 2, nameIndex := 7, descriptorIndex := 8, attributes := #[] }, { accessFlags := 9, nameIndex := 198, descriptorIndex := 335, attributes := #[] }, { accessFlags := 9, nameIndex := 201, descriptorIndex := 335, attributes := #[] }] 49 4 #[] #[{ accessFlags := 25, nameIndex := 354, descriptorIndex := 339, attributes := #[] }, { accessFlags := 25, nameIndex := 358, descriptorIndex := 339, attributes := #[] }, { accessFlags := 25, nameIndex := 361, descriptorIndex := 339, attributes := #[] }, { accessFlags := 26, nameIndex := 364, descriptorIndex := 339, attributes := #[] }, { accessFlags := 26, nameIndex := 365, descriptorIndex := 339, attributes := #[] }, { accessFlags := 26, nameIndex := 172, descriptorIndex := 173, attributes := #[] }, { accessFlags := 26, nameIndex := 176, descriptorIndex := 173, attributes := #[] }, { accessFlags := 8, nameIndex := 344, descriptorIndex := 339, attributes := #[] }, { accessFlags := 8, nameIndex := 338, descriptorIndex := 339, attributes := #[] }, { accessFlags := 4120, nameIndex := 245, descriptorIndex := 246, attributes := #[] }])
  fields := #[{ name := "E", type := .double, accessFlags := 25, slot := 0, constantValue := 0 }, { name := "PI", type := .double, accessFlags := 25, slot := 1, constantValue := 0 }, { name := "TAU", type := .double, accessFlags := 25, slot := 2, constantValue := 0 }, { name := "DEGREES_TO_RADIANS", type := .double, accessFlags := 26, slot := 3, constantValue := 0 }, { name := "RADIANS_TO_DEGREES", type := .double, accessFlags := 26, slot := 4, constantValue := 0 }, { name := "negativeZeroFloatBits", type := .long, accessFlags := 26, slot := 5, constantValue := 0 }, { name := "negativeZeroDoubleBits", type := .long, accessFlags := 26, slot := 6, constantValue := 0 }, { name := "twoToTheDoubleScaleUp", type := .double, accessFlags := 8, slot := 7, constantValue := 0 }, { name := "twoToTheDoubleScaleDown", type := .double, accessFlags := 8, slot := 8, constantValue := 0 }, { name := "$assertionsDisabled", type := .boolean, accessFlags := 4120, slot := 9, constantValue := 0 }]
  methods := #[k11m0, k11m1, k11m2]
  instanceTypes := #[]
  staticTypes := #[.double, .double, .double, .double, .double, .long, .long, .double, .double, .boolean]
  resolved := Array.replicate 460 none
  statics := none }

def pool12 : Array CpInfo := pool [(2, .class_ 4), (1, u "java/lang/Object"), (0, u "<init>"), (0, u "()V"), (17, .class_ 26), (1, u "jdk/internal/util/Preconditions"), (28, .class_ 56), (0, u "jdk/internal/util/Preconditions$4"), (57, .class_ 115), (0, u "jdk/internal/util/Preconditions$1"), (7, u "SIOOBE_FORMATTER"), (0, u "Ljava/util/function/BiFunction;"), (0, .class_ 126), (0, u "jdk/internal/util/Preconditions$2"), (3, u "AIOOBE_FORMATTER"), (0, .class_ 132), (0, u "jdk/internal/util/Preconditions$3"), (3, u "IOOBE_FORMATTER")] 57

def k12m0 : Method := { name := "<init>", desc := "()V", sig := { parameters := [], returnType := none }, accessFlags := 1, code := none }
/-- jdk/internal/util/Preconditions -/
def k12 : Class := { plain "jdk/internal/util/Preconditions" (some 0) with
  accessFlags := 33
  interfaces := #[]
  cf := some (fileOf pool12 24 #[.nestMembers #[55, 131, 125, 114]] #[{ accessFlags := 1, nameIndex := 5, descriptorIndex := 6, attributes := #[] }] 33 2 #[] #[{ accessFlags := 25, nameIndex := 123, descriptorIndex := 124, attributes := #[] }, { accessFlags := 25, nameIndex := 130, descriptorIndex := 124, attributes := #[] }, { accessFlags := 25, nameIndex := 136, descriptorIndex := 124, attributes := #[] }])
  fields := #[{ name := "SIOOBE_FORMATTER", type := (.object "java/util/function/BiFunction"), accessFlags := 25, slot := 0, constantValue := 0 }, { name := "AIOOBE_FORMATTER", type := (.object "java/util/function/BiFunction"), accessFlags := 25, slot := 1, constantValue := 0 }, { name := "IOOBE_FORMATTER", type := (.object "java/util/function/BiFunction"), accessFlags := 25, slot := 2, constantValue := 0 }]
  methods := #[k12m0]
  instanceTypes := #[]
  staticTypes := #[(.object "java/util/function/BiFunction"), (.object "java/util/function/BiFunction"), (.object "java/util/function/BiFunction")]
  resolved := Array.replicate 194 none
  statics := some 1 }

def pool13 : Array CpInfo := pool [(9, u "<init>"), (6, .class_ 18), (1, u "java/lang/Object"), (0, u "()V"), (1, .class_ 23), (1, u "jdk/internal/util/ArraysSupport"), (0, u "LOG2_ARRAY_LONG_INDEX_SCALE"), (0, u "I"), (2, u "U"), (0, u "Ljdk/internal/misc/Unsafe;"), (8, u "BIG_ENDIAN"), (0, u "Z"), (8, u "LOG2_BYTE_BIT_SIZE"), (4, u "LOG2_ARRAY_INT_INDEX_SCALE"), (54, u "JLA"), (0, u "Ljdk/internal/access/JavaLangAccess;"), (11, u "LOG2_ARRAY_BOOLEAN_INDEX_SCALE"), (9, u "LOG2_ARRAY_BYTE_INDEX_SCALE"), (5, u "LOG2_ARRAY_CHAR_INDEX_SCALE"), (5, u "LOG2_ARRAY_SHORT_INDEX_SCALE"), (18, u "LOG2_ARRAY_FLOAT_INDEX_SCALE"), (24, u "LOG2_ARRAY_DOUBLE_INDEX_SCALE"), (89, u "T_BOOLEAN"), (2, u "T_CHAR"), (1, u "T_FLOAT"), (1, u "T_DOUBLE"), (1, u "T_BYTE"), (1, u "T_SHORT"), (1, u "T_INT"), (1, u "T_LONG"), (1, u "SOFT_MAX_ARRAY_LENGTH")] 83

def k13m0 : Method := { name := "<init>", desc := "()V", sig := { parameters := [], returnType := none }, accessFlags := 2, code := none }
/-- jdk/internal/util/ArraysSupport -/
def k13 : Class := { plain "jdk/internal/util/ArraysSupport" (some 0) with
  accessFlags := 33
  interfaces := #[]
  cf := some (fileOf pool13 21 #[] #[{ accessFlags := 2, nameIndex := 9, descriptorIndex := 19, attributes := #[] }] 33 16 #[] #[{ accessFlags := 24, nameIndex := 28, descriptorIndex := 29, attributes := #[] }, { accessFlags := 26, nameIndex := 38, descriptorIndex := 39, attributes := #[] }, { accessFlags := 25, nameIndex := 121, descriptorIndex := 25, attributes := #[] }, { accessFlags := 25, nameIndex := 131, descriptorIndex := 25, attributes := #[] }, { accessFlags := 25, nameIndex := 137, descriptorIndex := 25, attributes := #[] }, { accessFlags := 25, nameIndex := 143, descriptorIndex := 25, attributes := #[] }, { accessFlags := 25, nameIndex := 53, descriptorIndex := 25, attributes := #[] }, { accessFlags := 25, nameIndex := 24, descriptorIndex := 25, attributes := #[] }, { accessFlags := 25, nameIndex := 162, descriptorIndex := 25, attributes := #[] }, { accessFlags := 25, nameIndex := 187, descriptorIndex := 25, attributes := #[] }, { accessFlags := 26, nameIndex := 48, descriptorIndex := 25, attributes := #[] }, { accessFlags := 25, nameIndex := 277, descriptorIndex := 25, attributes := #[] }, { accessFlags := 25, nameIndex := 280, descriptorIndex := 25, attributes := #[] }, { accessFlags := 25, nameIndex := 282, descriptorIndex := 25, attributes := #[] }, { accessFlags := 25, nameIndex := 284, descriptorIndex := 25, attributes := #[] }, { accessFlags := 25, nameIndex := 286, descriptorIndex := 25, attributes := #[] }, { accessFlags := 25, nameIndex := 288, descriptorIndex := 25, attributes := #[] }, { accessFlags := 25, nameIndex := 290, descriptorIndex := 25, attributes := #[] }, { accessFlags := 25, nameIndex := 292, descriptorIndex := 25, attributes := #[] }, { accessFlags := 26, nameIndex := 108, descriptorIndex := 109, attributes := #[] }, { accessFlags := 25, nameIndex := 294, descriptorIndex := 25, attributes := #[] }])
  fields := #[{ name := "U", type := (.object "jdk/internal/misc/Unsafe"), accessFlags := 24, slot := 0, constantValue := 0 }, { name := "BIG_ENDIAN", type := .boolean, accessFlags := 26, slot := 1, constantValue := 0 }, { name := "LOG2_ARRAY_BOOLEAN_INDEX_SCALE", type := .int, accessFlags := 25, slot := 2, constantValue := 0 }, { name := "LOG2_ARRAY_BYTE_INDEX_SCALE", type := .int, accessFlags := 25, slot := 3, constantValue := 0 }, { name := "LOG2_ARRAY_CHAR_INDEX_SCALE", type := .int, accessFlags := 25, slot := 4, constantValue := 0 }, { name := "LOG2_ARRAY_SHORT_INDEX_SCALE", type := .int, accessFlags := 25, slot := 5, constantValue := 0 }, { name := "LOG2_ARRAY_INT_INDEX_SCALE", type := .int, accessFlags := 25, slot := 6, constantValue := 0 }, { name := "LOG2_ARRAY_LONG_INDEX_SCALE", type := .int, accessFlags := 25, slot := 7, constantValue := 0 }, { name := "LOG2_ARRAY_FLOAT_INDEX_SCALE", type := .int, accessFlags := 25, slot := 8, constantValue := 0 }, { name := "LOG2_ARRAY_DOUBLE_INDEX_SCALE", type := .int, accessFlags := 25, slot := 9, constantValue := 0 }, { name := "LOG2_BYTE_BIT_SIZE", type := .int, accessFlags := 26, slot := 10, constantValue := 0 }, { name := "T_BOOLEAN", type := .int, accessFlags := 25, slot := 11, constantValue := 0 }, { name := "T_CHAR", type := .int, accessFlags := 25, slot := 12, constantValue := 0 }, { name := "T_FLOAT", type := .int, accessFlags := 25, slot := 13, constantValue := 0 }, { name := "T_DOUBLE", type := .int, accessFlags := 25, slot := 14, constantValue := 0 }, { name := "T_BYTE", type := .int, accessFlags := 25, slot := 15, constantValue := 0 }, { name := "T_SHORT", type := .int, accessFlags := 25, slot := 16, constantValue := 0 }, { name := "T_INT", type := .int, accessFlags := 25, slot := 17, constantValue := 0 }, { name := "T_LONG", type := .int, accessFlags := 25, slot := 18, constantValue := 0 }, { name := "JLA", type := (.object "jdk/internal/access/JavaLangAccess"), accessFlags := 26, slot := 19, constantValue := 0 }, { name := "SOFT_MAX_ARRAY_LENGTH", type := .int, accessFlags := 25, slot := 20, constantValue := 0 }]
  methods := #[k13m0]
  instanceTypes := #[]
  staticTypes := #[(.object "jdk/internal/misc/Unsafe"), .boolean, .int, .int, .int, .int, .int, .int, .int, .int, .int, .int, .int, .int, .int, .int, .int, .int, .int, (.object "jdk/internal/access/JavaLangAccess"), .int]
  resolved := Array.replicate 378 none
  statics := none }

def pool14 : Array CpInfo := pool [(1, u "java/lang/Cloneable"), (0, .class_ 1), (0, u "java/lang/Object"), (0, .class_ 3)] 3

/-- java/lang/Cloneable -/
def k14 : Class := { plain "java/lang/Cloneable" (some 0) with
  accessFlags := 1537
  interfaces := #[]
  cf := some (fileOf pool14 2 #[] #[] 1537 4 #[] #[])
  fields := #[]
  methods := #[]
  instanceTypes := #[]
  staticTypes := #[]
  resolved := Array.replicate 8 none
  statics := none }

/-- the primitive byte -/
def k15 : Class := { plain "byte" none with kind := .primitive 'B', accessFlags := 0x411 }
/-- [B -/
def k16 : Class := { plain "[B" (some 0) with kind := .array 15 .byte, interfaces := #[14, 2], accessFlags := 1041 }

/-- the primitive char -/
def k17 : Class := { plain "char" none with kind := .primitive 'C', accessFlags := 0x411 }
/-- [C -/
def k18 : Class := { plain "[C" (some 0) with kind := .array 17 .char, interfaces := #[14, 2], accessFlags := 1041 }

/-- the primitive int -/
def k19 : Class := { plain "int" none with kind := .primitive 'I', accessFlags := 0x411 }
/-- [I -/
def k20 : Class := { plain "[I" (some 0) with kind := .array 19 .int, interfaces := #[14, 2], accessFlags := 1041 }

def heap : Heap := #[{ cls := 7, slots := #[.long 0, .int 1, .null, .int 0, .null, .int 0, .int 0], vm := .statics 7 },
  { cls := 12, slots := #[.null, .null, .null], vm := .statics 12 }]
def classes : Array Class := #[k0, k1, k2, k3, k4, k5, k6, k7, k8, k9, k10, k11, k12, k13, k14, k15, k16, k17, k18, k19, k20]
def interned : List (Array UInt16 × Addr) := []
def slotsUsed : Nat := 10
def theMethod : MethodId := ⟨1, 1⟩
def args0 : Array Value := #[.int 5, .int 300, .int 7, .int 9]
def aboutOver (below : List Frame) : State where
  vm := { classes := classes, interned := interned.toArray }
  heap := heap
  slotsUsed := slotsUsed
  threads := #[{ frames := .invoking theMethod args0 :: below }]
def below0 : List Frame := [.native { method := ⟨0, 0⟩, args := #[] }]
def about1 : State := aboutOver below0
def p0 : Program := .bare "" "" ""
def e0 : Env := launch0.env 0 0 0
theorem w_frames : about1.frames = Frame.invoking theMethod args0 :: below0 := rfl
set_option maxRecDepth 65536 in
theorem w_args : argsFit about1.vm theMethod args0 = true := by decide +kernel
set_option maxRecDepth 65536 in
theorem w_heap : heapFits about1 = true := by decide +kernel
set_option maxRecDepth 65536 in
theorem w_runnable : about1.curStatus? = some .runnable := by decide +kernel
set_option maxRecDepth 65536 in
theorem w_alone : about1.alone = true := by decide +kernel
set_option maxRecDepth 65536 in
theorem w_named : about1.methodNamed? x = some theMethod := by decide +kernel
set_option maxRecDepth 65536 in
theorem w_hears : about1.hears theMethod below0 = true := by decide +kernel
set_option maxRecDepth 65536 in
theorem w_ripe : about1.ripe theMethod args0 below0 = true := by decide +kernel
theorem w_running : about1.status = .running := rfl
set_option maxRecDepth 65536 in
theorem w_room : about1.hasRoom e0.platform room_1 = true :=
  launch0.hasRoom_least _ room_1 (by decide +kernel) (by decide +kernel) (by decide +kernel) (by decide +kernel) (by decide +kernel) (by decide +kernel)
theorem allAtoms_all (ts : List Jvm.Cond) (a : Array Jvm.Value) (st : Jvm.State) : (allAtoms ts).before a st = ts.all (fun c => c.before a st) := by
  induction ts with
  | nil => rfl
  | cons c t ih =>
    show (Jvm.Cond.and c (allAtoms t)).before a st = _
    rw [Jvm.Cond.before_and, ih, List.all_cons]
def words1 : List Jvm.Cond := Jvm.Cond.code x code maxLocals ret :: tables_1
/-- a 'code' word, met by the world's own term for the bytes: nothing is compared byte by byte -/
theorem code_word {y : MethodName} {bytes : ByteArray} {mx : Nat} {rt : Option FieldType} {a : Array Value} {s : State} {m : MethodId} {meth : Method} {c : Code} (h1 : s.methodNamed? y = some m) (h2 : s.vm.method? m = some meth) (h3 : meth.code = some c) (h4 : c.code = bytes)
    (h5 : (c.maxLocals == mx && c.exceptionTable.isEmpty && decide (c.maxStack ≤ mostOperands) && decide (meth.sig.returnType = rt) && !meth.locks && decide (parseMethodDescriptor y.desc = some meth.sig)) = true) : (Jvm.Cond.code y bytes mx rt).before a s = true := by
  simp only [Bool.and_eq_true, beq_iff_eq, Bool.not_eq_true', decide_eq_true_eq] at h5
  obtain ⟨⟨⟨⟨⟨g1, g2⟩, g3⟩, g4⟩, g5⟩, g6⟩ := h5
  simp [Cond.before, Cond.holds, Cond.value, h1, h2, h3, h4, g1, g2, g3, g4, g5, g6]
def isCode : Jvm.Cond → Bool
  | .code _ _ _ _ => true
  | _ => false
theorem all_split {L : List Jvm.Cond} {P : Jvm.Cond → Bool} (h1 : L.all (fun c => isCode c || P c) = true) (h2 : ∀ c ∈ L.filter isCode, P c = true) : L.all P = true := by
  refine List.all_eq_true.mpr fun c hc => ?_
  have h := List.all_eq_true.mp h1 c hc
  rcases Bool.eq_false_or_eq_true (isCode c) with hi | hi
  · exact h2 c (List.mem_filter.mpr ⟨hc, hi⟩)
  · simpa [hi] using h
set_option maxRecDepth 65536 in
theorem w_c0 : (Jvm.Cond.code x code maxLocals ret).before args0 about1 = true := code_word (m := ⟨1, 1⟩) (meth := k1m1) (c := k1c1) (by decide +kernel) rfl rfl rfl (by decide +kernel)
set_option maxRecDepth 65536 in
theorem w_c1 : (Jvm.Cond.code ({ cls := "com/example/clausewright/clausewright/PageNumberHasDotLeadersPinLaw", name := "isWs", desc := "(C)Z" } : Jvm.MethodName) method_5_code (1 : Nat) (Option.some Jvm.ClassFile.FieldType.boolean)).before args0 about1 = true := code_word (m := ⟨1, 4⟩) (meth := k1m4) (c := k1c4) (by decide +kernel) rfl rfl rfl (by decide +kernel)
set_option maxRecDepth 65536 in
theorem w_c2 : (Jvm.Cond.code ({ cls := "com/example/clausewright/clausewright/PageNumberHasDotLeadersPinLaw", name := "cell", desc := "(IIIIIZCCI)C" } : Jvm.MethodName) method_3_code (10 : Nat) (Option.some Jvm.ClassFile.FieldType.char)).before args0 about1 = true := code_word (m := ⟨1, 2⟩) (meth := k1m2) (c := k1c2) (by decide +kernel) rfl rfl rfl (by decide +kernel)
set_option maxRecDepth 65536 in
theorem w_c3 : (Jvm.Cond.code ({ cls := "com/example/clausewright/clausewright/PageNumberHasDotLeadersPinLaw", name := "ws", desc := "(I)C" } : Jvm.MethodName) method_4_code (1 : Nat) (Option.some Jvm.ClassFile.FieldType.char)).before args0 about1 = true := code_word (m := ⟨1, 3⟩) (meth := k1m3) (c := k1c3) (by decide +kernel) rfl rfl rfl (by decide +kernel)
set_option maxRecDepth 65536 in
theorem w_c4 : (Jvm.Cond.code ({ cls := "java/lang/String", name := "<init>", desc := "([C)V" } : Jvm.MethodName) jdk_42_method_3_code (2 : Nat) (Option.none : Option Jvm.ClassFile.FieldType)).before args0 about1 = true := code_word (m := ⟨7, 1⟩) (meth := k7m1) (c := k7c1) (by decide +kernel) rfl rfl rfl (by decide +kernel)
set_option maxRecDepth 65536 in
theorem w_c5 : (Jvm.Cond.code ({ cls := "java/lang/String", name := "<init>", desc := "([CIILjava/lang/Void;)V" } : Jvm.MethodName) jdk_42_method_149_code (6 : Nat) (Option.none : Option Jvm.ClassFile.FieldType)).before args0 about1 = true := code_word (m := ⟨7, 4⟩) (meth := k7m4) (c := k7c4) (by decide +kernel) rfl rfl rfl (by decide +kernel)
set_option maxRecDepth 65536 in
theorem w_c6 : (Jvm.Cond.code ({ cls := "java/lang/Object", name := "<init>", desc := "()V" } : Jvm.MethodName) object_method_1_code (1 : Nat) (Option.none : Option Jvm.ClassFile.FieldType)).before args0 about1 = true := code_word (m := ⟨0, 0⟩) (meth := k0m0) (c := k0c0) (by decide +kernel) rfl rfl rfl (by decide +kernel)
set_option maxRecDepth 65536 in
theorem w_c7 : (Jvm.Cond.code ({ cls := "java/lang/StringUTF16", name := "compress", desc := "([CII)[B" } : Jvm.MethodName) jdk_52_method_16_code (6 : Nat) (Option.some (Jvm.ClassFile.FieldType.array Jvm.ClassFile.FieldType.byte))).before args0 about1 = true := code_word (m := ⟨8, 2⟩) (meth := k8m2) (c := k8c2) (by decide +kernel) rfl rfl rfl (by decide +kernel)
set_option maxRecDepth 65536 in
theorem w_c8 : (Jvm.Cond.code ({ cls := "java/lang/StringUTF16", name := "compress", desc := "([CI[BII)I" } : Jvm.MethodName) jdk_52_method_21_code (7 : Nat) (Option.some Jvm.ClassFile.FieldType.int)).before args0 about1 = true := code_word (m := ⟨8, 3⟩) (meth := k8m3) (c := k8c3) (by decide +kernel) rfl rfl rfl (by decide +kernel)
set_option maxRecDepth 65536 in
theorem w_c9 : (Jvm.Cond.code ({ cls := "java/lang/StringUTF16", name := "coderFromArrayLen", desc := "([BI)B" } : Jvm.MethodName) jdk_52_method_15_code (2 : Nat) (Option.some Jvm.ClassFile.FieldType.byte)).before args0 about1 = true := code_word (m := ⟨8, 1⟩) (meth := k8m1) (c := k8c1) (by decide +kernel) rfl rfl rfl (by decide +kernel)
set_option maxRecDepth 65536 in
theorem w_c10 : (Jvm.Cond.code ({ cls := "com/example/clausewright/clausewright/PageNumber", name := "hasDotLeaders", desc := "(Ljava/lang/String;I)Z" } : Jvm.MethodName) prog_38_method_9_code (2 : Nat) (Option.some Jvm.ClassFile.FieldType.boolean)).before args0 about1 = true := code_word (m := ⟨9, 1⟩) (meth := k9m1) (c := k9c1) (by decide +kernel) rfl rfl rfl (by decide +kernel)
set_option maxRecDepth 65536 in
theorem w_c11 : (Jvm.Cond.code ({ cls := "java/lang/String", name := "indexOf", desc := "(II)I" } : Jvm.MethodName) jdk_42_method_80_code (3 : Nat) (Option.some Jvm.ClassFile.FieldType.int)).before args0 about1 = true := code_word (m := ⟨7, 3⟩) (meth := k7m3) (c := k7c3) (by decide +kernel) rfl rfl rfl (by decide +kernel)
set_option maxRecDepth 65536 in
theorem w_c12 : (Jvm.Cond.code ({ cls := "java/lang/String", name := "isLatin1", desc := "()Z" } : Jvm.MethodName) jdk_42_method_154_code (1 : Nat) (Option.some Jvm.ClassFile.FieldType.boolean)).before args0 about1 = true := code_word (m := ⟨7, 6⟩) (meth := k7m6) (c := k7c6) (by decide +kernel) rfl rfl rfl (by decide +kernel)
set_option maxRecDepth 65536 in
theorem w_c13 : (Jvm.Cond.code ({ cls := "java/lang/String", name := "length", desc := "()I" } : Jvm.MethodName) jdk_42_method_54_code (1 : Nat) (Option.some Jvm.ClassFile.FieldType.int)).before args0 about1 = true := code_word (m := ⟨7, 2⟩) (meth := k7m2) (c := k7c2) (by decide +kernel) rfl rfl rfl (by decide +kernel)
set_option maxRecDepth 65536 in
theorem w_c14 : (Jvm.Cond.code ({ cls := "java/lang/String", name := "coder", desc := "()B" } : Jvm.MethodName) jdk_42_method_152_code (1 : Nat) (Option.some Jvm.ClassFile.FieldType.byte)).before args0 about1 = true := code_word (m := ⟨7, 5⟩) (meth := k7m5) (c := k7c5) (by decide +kernel) rfl rfl rfl (by decide +kernel)
set_option maxRecDepth 65536 in
theorem w_c15 : (Jvm.Cond.code ({ cls := "java/lang/StringLatin1", name := "indexOf", desc := "([BIII)I" } : Jvm.MethodName) jdk_43_method_22_code (4 : Nat) (Option.some Jvm.ClassFile.FieldType.int)).before args0 about1 = true := code_word (m := ⟨10, 2⟩) (meth := k10m2) (c := k10c2) (by decide +kernel) rfl rfl rfl (by decide +kernel)
set_option maxRecDepth 65536 in
theorem w_c16 : (Jvm.Cond.code ({ cls := "java/lang/StringLatin1", name := "canEncode", desc := "(I)Z" } : Jvm.MethodName) jdk_43_method_4_code (1 : Nat) (Option.some Jvm.ClassFile.FieldType.boolean)).before args0 about1 = true := code_word (m := ⟨10, 1⟩) (meth := k10m1) (c := k10c1) (by decide +kernel) rfl rfl rfl (by decide +kernel)
set_option maxRecDepth 65536 in
theorem w_c17 : (Jvm.Cond.code ({ cls := "java/lang/Math", name := "max", desc := "(II)I" } : Jvm.MethodName) jdk_29_method_65_code (2 : Nat) (Option.some Jvm.ClassFile.FieldType.int)).before args0 about1 = true := code_word (m := ⟨11, 1⟩) (meth := k11m1) (c := k11c1) (by decide +kernel) rfl rfl rfl (by decide +kernel)
set_option maxRecDepth 65536 in
theorem w_c18 : (Jvm.Cond.code ({ cls := "java/lang/Math", name := "min", desc := "(II)I" } : Jvm.MethodName) jdk_29_method_69_code (2 : Nat) (Option.some Jvm.ClassFile.FieldType.int)).before args0 about1 = true := code_word (m := ⟨11, 2⟩) (meth := k11m2) (c := k11c2) (by decide +kernel) rfl rfl rfl (by decide +kernel)
set_option maxRecDepth 65536 in
theorem w_c19 : (Jvm.Cond.code ({ cls := "java/lang/StringLatin1", name := "indexOfChar", desc := "([BIII)I" } : Jvm.MethodName) jdk_43_method_23_code (6 : Nat) (Option.some Jvm.ClassFile.FieldType.int)).before args0 about1 = true := code_word (m := ⟨10, 3⟩) (meth := k10m3) (c := k10c3) (by decide +kernel) rfl rfl rfl (by decide +kernel)
def codes1 : List Jvm.Cond := [Jvm.Cond.code x code maxLocals ret, Jvm.Cond.code ({ cls := "com/example/clausewright/clausewright/PageNumberHasDotLeadersPinLaw", name := "isWs", desc := "(C)Z" } : Jvm.MethodName) method_5_code (1 : Nat) (Option.some Jvm.ClassFile.FieldType.boolean), Jvm.Cond.code ({ cls := "com/example/clausewright/clausewright/PageNumberHasDotLeadersPinLaw", name := "cell", desc := "(IIIIIZCCI)C" } : Jvm.MethodName) method_3_code (10 : Nat) (Option.some Jvm.ClassFile.FieldType.char), Jvm.Cond.code ({ cls := "com/example/clausewright/clausewright/PageNumberHasDotLeadersPinLaw", name := "ws", desc := "(I)C" } : Jvm.MethodName) method_4_code (1 : Nat) (Option.some Jvm.ClassFile.FieldType.char), Jvm.Cond.code ({ cls := "java/lang/String", name := "<init>", desc := "([C)V" } : Jvm.MethodName) jdk_42_method_3_code (2 : Nat) (Option.none : Option Jvm.ClassFile.FieldType), Jvm.Cond.code ({ cls := "java/lang/String", name := "<init>", desc := "([CIILjava/lang/Void;)V" } : Jvm.MethodName) jdk_42_method_149_code (6 : Nat) (Option.none : Option Jvm.ClassFile.FieldType), Jvm.Cond.code ({ cls := "java/lang/Object", name := "<init>", desc := "()V" } : Jvm.MethodName) object_method_1_code (1 : Nat) (Option.none : Option Jvm.ClassFile.FieldType), Jvm.Cond.code ({ cls := "java/lang/StringUTF16", name := "compress", desc := "([CII)[B" } : Jvm.MethodName) jdk_52_method_16_code (6 : Nat) (Option.some (Jvm.ClassFile.FieldType.array Jvm.ClassFile.FieldType.byte)), Jvm.Cond.code ({ cls := "java/lang/StringUTF16", name := "compress", desc := "([CI[BII)I" } : Jvm.MethodName) jdk_52_method_21_code (7 : Nat) (Option.some Jvm.ClassFile.FieldType.int), Jvm.Cond.code ({ cls := "java/lang/StringUTF16", name := "coderFromArrayLen", desc := "([BI)B" } : Jvm.MethodName) jdk_52_method_15_code (2 : Nat) (Option.some Jvm.ClassFile.FieldType.byte), Jvm.Cond.code ({ cls := "com/example/clausewright/clausewright/PageNumber", name := "hasDotLeaders", desc := "(Ljava/lang/String;I)Z" } : Jvm.MethodName) prog_38_method_9_code (2 : Nat) (Option.some Jvm.ClassFile.FieldType.boolean), Jvm.Cond.code ({ cls := "java/lang/String", name := "indexOf", desc := "(II)I" } : Jvm.MethodName) jdk_42_method_80_code (3 : Nat) (Option.some Jvm.ClassFile.FieldType.int), Jvm.Cond.code ({ cls := "java/lang/String", name := "isLatin1", desc := "()Z" } : Jvm.MethodName) jdk_42_method_154_code (1 : Nat) (Option.some Jvm.ClassFile.FieldType.boolean), Jvm.Cond.code ({ cls := "java/lang/String", name := "length", desc := "()I" } : Jvm.MethodName) jdk_42_method_54_code (1 : Nat) (Option.some Jvm.ClassFile.FieldType.int), Jvm.Cond.code ({ cls := "java/lang/String", name := "coder", desc := "()B" } : Jvm.MethodName) jdk_42_method_152_code (1 : Nat) (Option.some Jvm.ClassFile.FieldType.byte), Jvm.Cond.code ({ cls := "java/lang/StringLatin1", name := "indexOf", desc := "([BIII)I" } : Jvm.MethodName) jdk_43_method_22_code (4 : Nat) (Option.some Jvm.ClassFile.FieldType.int), Jvm.Cond.code ({ cls := "java/lang/StringLatin1", name := "canEncode", desc := "(I)Z" } : Jvm.MethodName) jdk_43_method_4_code (1 : Nat) (Option.some Jvm.ClassFile.FieldType.boolean), Jvm.Cond.code ({ cls := "java/lang/Math", name := "max", desc := "(II)I" } : Jvm.MethodName) jdk_29_method_65_code (2 : Nat) (Option.some Jvm.ClassFile.FieldType.int), Jvm.Cond.code ({ cls := "java/lang/Math", name := "min", desc := "(II)I" } : Jvm.MethodName) jdk_29_method_69_code (2 : Nat) (Option.some Jvm.ClassFile.FieldType.int), Jvm.Cond.code ({ cls := "java/lang/StringLatin1", name := "indexOfChar", desc := "([BIII)I" } : Jvm.MethodName) jdk_43_method_23_code (6 : Nat) (Option.some Jvm.ClassFile.FieldType.int)]
set_option maxRecDepth 65536 in
theorem codes_eq : words1.filter isCode = codes1 := rfl
theorem w_codes : ∀ c ∈ words1.filter isCode, c.before args0 about1 = true := by
  rw [codes_eq]
  intro c hc
  simp only [codes1, List.mem_cons, List.not_mem_nil, or_false] at hc
  rcases hc with rfl | rfl | rfl | rfl | rfl | rfl | rfl | rfl | rfl | rfl | rfl | rfl | rfl | rfl | rfl | rfl | rfl | rfl | rfl | rfl
  · exact w_c0
  · exact w_c1
  · exact w_c2
  · exact w_c3
  · exact w_c4
  · exact w_c5
  · exact w_c6
  · exact w_c7
  · exact w_c8
  · exact w_c9
  · exact w_c10
  · exact w_c11
  · exact w_c12
  · exact w_c13
  · exact w_c14
  · exact w_c15
  · exact w_c16
  · exact w_c17
  · exact w_c18
  · exact w_c19
set_option maxRecDepth 65536 in
theorem w_t1 : (words1.take 24).all (fun c => isCode c || c.before args0 about1) = true := by decide +kernel
set_option maxRecDepth 65536 in
theorem w_t2 : ((words1.drop 24).take 24).all (fun c => isCode c || c.before args0 about1) = true := by decide +kernel
set_option maxRecDepth 65536 in
theorem w_t3 : (((words1.drop 24).drop 24).take 24).all (fun c => isCode c || c.before args0 about1) = true := by decide +kernel
set_option maxRecDepth 65536 in
theorem w_t4 : (((words1.drop 24).drop 24).drop 24).all (fun c => isCode c || c.before args0 about1) = true := by decide +kernel
theorem w_tables : (allAtoms (Jvm.Cond.code x code maxLocals ret :: tables_1)).before args0 about1 = true := by
  rw [allAtoms_all]
  show words1.all (fun c => c.before args0 about1) = true
  refine all_split ?_ w_codes
  rw [← List.take_append_drop 24 words1, List.all_append, w_t1, ← List.take_append_drop 24 (words1.drop 24), List.all_append, w_t2, ← List.take_append_drop 24 ((words1.drop 24).drop 24), List.all_append, w_t3, w_t4]
  rfl
set_option maxRecDepth 65536 in
theorem w_rest : rest_1_c.before args0 about1 = true := by decide +kernel
set_option maxRecDepth 65536 in
theorem w_case : (Jvm.Cond.and given_1 narrow_1).before args0 about1 = true := by decide +kernel
theorem w_applies : (headSpec (Jvm.Cond.code x code maxLocals ret :: tables_1) room_1).applies x e0.platform about1 = true :=
  (Spec.applies_iff w_frames).mpr ⟨w_running, w_runnable, w_alone, w_named, w_hears, w_ripe, w_room, w_tables⟩
theorem atStart : AtStart classFile x code maxLocals ret World_1 tables_1 room_1 Calls_1 rest_1 Pre_1 launch0 p0 e0 about1 theMethod args0 below0 :=
  ⟨lists_1, trivial, launch0.admits_env _ _ _, launch0.least_env, fairChoices_fair.cas, fairChoices_fair.clock, w_frames, w_args, w_heap, w_applies, trivial, w_rest, w_case⟩
end start1
theorem witness_1 : WitnessClaimed_1 := ⟨start1.p0, start1.e0, start1.about1, start1.theMethod, start1.args0, start1.below0, start1.atStart⟩
end Jvm.Pilot.@@N@@
