import JvmDerived
import JvmDerived.Pilot.@@N@@Statement
import JvmDerived.Pilot.@@N@@Code
set_option linter.unusedVariables false
set_option linter.unusedSimpArgs false
namespace Jvm.Pilot.@@N@@
open Jvm Jvm.ClassFile Sem Op Lib Jvm.Free Jvm.Stand Jvm.LawKit Jvm.RoadKit Bundle Jvm.Pilot.@@N@@.Jvm.D
section OwnKit
variable {p : Program} {l : Launch} {e : Env} {R : Room} {s : State} {m : MethodId} {args : Array Value} {below : List Frame} {meth : Method} {c : Code} {T : State} {locs : List Loc} {cells slots : Nat}
/-- from here the run comes to a state of which K holds -/
def Go (tb : Tables) (e : Env) (below : List Frame) (K : State → Prop) (T : State) : Prop := ∃ U, Steps tb e below T U ∧ K U
theorem Go.st {tb : Tables} {K : State → Prop} {T T' : State} (h : ∀ U, Steps tb e below T' U → Steps tb e below T U) (g : Go tb e below K T') : Go tb e below K T := by
  obtain ⟨U, h1, h2⟩ := g; exact ⟨U, h U h1, h2⟩
theorem Go.tr {tb : Tables} {K : State → Prop} {T T' : State} (h : Steps tb e below T T') (g : Go tb e below K T') : Go tb e below K T := by
  obtain ⟨U, h1, h2⟩ := g; exact ⟨U, h.trans h1, h2⟩
/-- where a body may end -/
def own_Fin (s : State) (below : List Frame) (CC SS : Nat) (Q : Option Value → Heap → List Loc → Prop) (U : State) : Prop :=
  ∃ o, U.status = .running ∧ Ended U below o ∧ ∃ v L, o = .returned v ∧ Q v U.heap L ∧ FrameEnd s o U L CC SS
theorem own_start {tb : Tables} {CC SS : Nat} {Q : Option Value → Heap → List Loc → Prop} {T : State} (g : Go tb e below (own_Fin s below CC SS Q) T) :
    ∃ s₂ o, Steps tb e below T s₂ ∧ s₂.status = .running ∧ Ended s₂ below o ∧ ∃ v L, o = .returned v ∧ Q v s₂.heap L ∧ FrameEnd s o s₂ L CC SS := by
  obtain ⟨U, h1, o, h2, h3, h4⟩ := g; exact ⟨U, o, h1, h2, h3, h4⟩
theorem own_cast {tb : Tables} {K : State → Prop} {f f' : JFrame} (q : f = f') (g : Go tb e below K (T.setTop f')) : Go tb e below K (T.setTop f) := q ▸ g
section Ends
variable {CC SS : Nat} {Q : Option Value → Heap → List Loc → Prop}
theorem own_end (X : Stand p l e R s m args below meth c T locs cells slots) (hlocks : meth.locks = false) {v : Option Value} (hv : meth.sig.returnType = none → v = none) {f : JFrame}
    (k : ∀ fs, (∀ (f : JFrame) (acts : List Action), f.method = m → f.locked = none → f.entered = [] → (doReturn e (T.setTop f) acts v).1 = T.setFrames fs) → Steps p.tables e below (T.setTop f) (T.setFrames fs))
    (hq : Q v T.heap locs) (hc : cells ≤ CC) (hs : slots ≤ SS) : Go p.tables e below (own_Fin s below CC SS Q) (T.setTop f) := by
  obtain ⟨fs, hr, hrun, hended, hW, hsame⟩ := X.leave (v := v) hv hlocks
  exact ⟨_, k fs hr, _, hrun, hended, _, _, rfl, hq, ⟨_, rfl⟩, hW, hsame.mono hc hs⟩
theorem own_ret0 (X : Stand p l e R s m args below meth c T locs cells slots) (hx : p.tables.exec = Jvm.exec) (hlocks : meth.locks = false) {pc : Nat} {Ls : Array Slot} (hret : meth.sig.returnType = none) (hd : decode c.code pc = .ok (.return_, 1))
    (hq : Q none T.heap locs) (hc : cells ≤ CC) (hs : slots ≤ SS) : Go p.tables e below (own_Fin s below CC SS Q) (T.setTop (mkF m pc Ls [])) :=
  own_end X hlocks (fun _ => rfl) (fun _ hr => X.returnOut hx hret hd hr) hq hc hs
theorem own_retN (X : Stand p l e R s m args below meth c T locs cells slots) (hx : p.tables.exec = Jvm.exec) (hlocks : meth.locks = false) {pc : Nat} {Ls : Array Slot} {z : Int32} {t : FieldType} {rest : List Value} (hret : meth.sig.returnType = some t) (ht : t = .boolean ∨ t = .byte ∨ t = .char ∨ t = .short) (hd : decode c.code pc = .ok (.ireturn, 1))
    (hq : Q (some (.int (nar t z))) T.heap locs) (hc : cells ≤ CC) (hs : slots ≤ SS) : Go p.tables e below (own_Fin s below CC SS Q) (T.setTop (mkF m pc Ls (.int z :: rest))) :=
  own_end X hlocks (fun h => by rw [hret] at h; cases h) (fun _ hr => retN X hx hret ht hd hr) hq hc hs
theorem own_retO (X : Stand p l e R s m args below meth c T locs cells slots) (hx : p.tables.exec = Jvm.exec) (hlocks : meth.locks = false) {pc : Nat} {Ls : Array Slot} {w : Value} {t : FieldType} {i : Instr} {rest : List Value} (hret : meth.sig.returnType = some t) (hn : narrow t w = w)
    (hi : (i = .ireturn ∧ (t = .int ∨ t = .boolean ∨ t = .byte ∨ t = .char ∨ t = .short) ∧ ∃ z, w = .int z) ∨ (i = .lreturn ∧ t = .long ∧ ∃ z, w = .long z) ∨ (i = .dreturn ∧ t = .double ∧ ∃ z, w = .double z) ∨ (i = .freturn ∧ t = .float ∧ ∃ z, w = .float z) ∨ (i = .areturn ∧ t.isReference = true ∧ w.isRef = true))
    (hd : decode c.code pc = .ok (i, 1)) (hq : Q (some w) T.heap locs) (hc : cells ≤ CC) (hs : slots ≤ SS) : Go p.tables e below (own_Fin s below CC SS Q) (T.setTop (mkF m pc Ls (w :: rest))) :=
  own_end X hlocks (fun h => by rw [hret] at h; cases h) (fun _ hr => retOut X hx hret hn hi hd hr) hq hc hs
end Ends
end OwnKit
def own_str (c : Int32) : Int32 := if c < 8216 then c else if c = 8216 then 39 else if c = 8217 then 39 else if c = 8218 then c else if c = 8219 then c else if c = 8220 then 34 else if c = 8221 then 34 else c
def own_exp (c : Int32) : Int32 := if c = 8220 then 34 else if c = 8221 then 34 else if c = 8216 then 39 else if c = 8217 then 39 else c
theorem own_law (c : Int32) : own_str c = own_exp c := by
  unfold own_str own_exp
  by_cases h : c < 8216
  · have e : ∀ k : Int32, 8216 ≤ k.toInt → ¬ c = k := fun k hk q => by
      subst q; rw [Int32.lt_iff_toInt_lt] at h; have : (8216 : Int32).toInt = 8216 := rfl; omega
    simp [h, e 8216 (by decide), e 8217 (by decide), e 8220 (by decide), e 8221 (by decide)]
  · by_cases h1 : c = 8216
    · subst h1; decide
    · by_cases h2 : c = 8217
      · subst h2; decide
      · by_cases h3 : c = 8220
        · subst h3; decide
        · by_cases h4 : c = 8221
          · subst h4; decide
          · simp [h, h1, h2, h3, h4]
theorem own_tsw_out {z : Int32} (h0 : ¬ z = (8216 : Int32)) (h1 : ¬ z = (8217 : Int32)) (h2 : ¬ z = (8218 : Int32)) (h3 : ¬ z = (8219 : Int32)) (h4 : ¬ z = (8220 : Int32)) (h5 : ¬ z = (8221 : Int32)) : z.toInt < 8216 ∨ z.toInt > 8221 := by
  have e0 : z.toInt ≠ 8216 := fun q => h0 (Int32.toInt_inj.mp (q.trans (by decide)))
  have e1 : z.toInt ≠ 8217 := fun q => h1 (Int32.toInt_inj.mp (q.trans (by decide)))
  have e2 : z.toInt ≠ 8218 := fun q => h2 (Int32.toInt_inj.mp (q.trans (by decide)))
  have e3 : z.toInt ≠ 8219 := fun q => h3 (Int32.toInt_inj.mp (q.trans (by decide)))
  have e4 : z.toInt ≠ 8220 := fun q => h4 (Int32.toInt_inj.mp (q.trans (by decide)))
  have e5 : z.toInt ≠ 8221 := fun q => h5 (Int32.toInt_inj.mp (q.trans (by decide)))
  omega
theorem own_char (x : Int32) : nar .char (x.toUInt32.toUInt16.toUInt32.toInt32) = x.toUInt32.toUInt16.toUInt32.toInt32 := by
  have h1 := c_i2c x
  have h2 := c_i2c (x.toUInt32.toUInt16.toUInt32.toInt32)
  apply Int32.toInt_inj.mp
  show (x.toUInt32.toUInt16.toUInt32.toInt32).toUInt32.toUInt16.toUInt32.toInt32.toInt = _
  omega

theorem d1_0 : decode prog_29_method_13_code 0 = .ok (.iload_n 0, 1) := by decide +kernel
theorem d1_1 : decode prog_29_method_13_code 1 = .ok (.sipush 8216, 3) := by decide +kernel
theorem d1_4 : decode prog_29_method_13_code 4 = .ok (.if_icmp .ge 5, 3) := by decide +kernel
theorem d1_7 : decode prog_29_method_13_code 7 = .ok (.iload_n 0, 1) := by decide +kernel
theorem d1_8 : decode prog_29_method_13_code 8 = .ok (.ireturn, 1) := by decide +kernel
theorem d1_9 : decode prog_29_method_13_code 9 = .ok (.iload_n 0, 1) := by decide +kernel
theorem d1_10 : decode prog_29_method_13_code 10 = .ok (.tableswitch 48 8216 8221 #[43, 43, 48, 48, 38, 38], 38) := by decide +kernel
theorem d1_48 : decode prog_29_method_13_code 48 = .ok (.bipush 34, 2) := by decide +kernel
theorem d1_50 : decode prog_29_method_13_code 50 = .ok (.goto 9, 3) := by decide +kernel
theorem d1_53 : decode prog_29_method_13_code 53 = .ok (.bipush 39, 2) := by decide +kernel
theorem d1_55 : decode prog_29_method_13_code 55 = .ok (.goto 4, 3) := by decide +kernel
theorem d1_58 : decode prog_29_method_13_code 58 = .ok (.iload_n 0, 1) := by decide +kernel
theorem d1_59 : decode prog_29_method_13_code 59 = .ok (.ireturn, 1) := by decide +kernel
theorem pn_1 : plainFor (⟨"com/example/clausewright/clausewright/Layout", "straight", "(C)C"⟩ : MethodName) = true := plainFor_of_name (by first | (simp [plainName, overriddenIn]; done) | decide +kernel)
theorem ef_1 (m : MethodId) (x0 : Int32) : entryFrame m #[(.int x0)] 1 = mkF m 0 #[.val (.int x0)] [] := by first | (simp [entryFrame, mkF, argsToLocals, Value.category]; done) | rfl
def Q1 (Z : State) (p1 : Int32)  (h0 : Heap) (n0 : Nat) (v : Option Value) (h : Heap) (L : List Loc) : Prop := v = some (.int (own_str p1)) ∧ Fr n0 L ∧ h = h0
set_option maxRecDepth 65536 in
set_option maxHeartbeats 40000000 in
theorem rm1 (l : Launch) (Z : State) (a0 : Array Value) (hw : ∀ d ∈ tables_1, d.before a0 Z = true) (ws : List Jvm.Cond) (p1 : Int32)  (h0 : Heap) (n0 : Nat) (Z0 : n0 ≤ h0.size) (hch : nar .char p1 = p1) :
    MetFree l (⟨"com/example/clausewright/clausewright/Layout", "straight", "(C)C"⟩ : MethodName) (head1 (Jvm.Cond.code (⟨"com/example/clausewright/clausewright/Layout", "straight", "(C)C"⟩ : MethodName) prog_29_method_13_code 1 (some .char) :: ws) ({ frames := 0, cells := 0, slots := 0, locals := 0 } : Room)) (fun a U => a = #[(.int p1)] ∧ Z.Warmed39 U.vm ∧ U.heap = h0) (fun _ _ _ _ _ => True) (fun _ U o U' => ∃ v L, o = .returned v ∧ Q1 Z p1 h0 n0 v U'.heap L ∧ FrameEnd U o U' L ({ frames := 0, cells := 0, slots := 0, locals := 0 } : Room).cells ({ frames := 0, cells := 0, slots := 0, locals := 0 } : Room).slots) := by
  refine MetFree.of_bodySF pn_1 hisR ?_
  intro p e s m args below meth c s₁ Bd hml0 hP hK
  obtain ⟨rfl, hZ, hh⟩ := hP
  have hx := Bd.exec
  have hby := Bd.bytes
  have hml : c.maxLocals = 1 := hml0
  have hown : s.vm.findClass "com/example/clausewright/clausewright/Layout" = some m.cls := findClass_of_methodNamed Bd.named
  have hnm := (name_of_methodNamed Bd.named Bd.method).1
  have X0 : Stand p l e ({ frames := 0, cells := 0, slots := 0, locals := 0 } : Room) s m #[(.int p1)] below meth c s₁ [] 0 0 := Stand.of_body Bd
  have e0 : s₁.heap = h0 := by rw [← hh, Bd.state]; rfl
  have N0 := Fr.nil n0
  refine own_start (Q := Q1 Z p1 h0 n0) (own_cast (ef_1 m p1) ?_)
  show Go p.tables e below _ (s₁.setTop (mkF m 0 #[.val (.int p1)] []))
  refine Go.st (fun U hr => XS.iloadN X0.here hx rfl (hb hby d1_0) rfl hr) ?_
  show Go p.tables e below _ (s₁.setTop (mkF m 1 #[.val (.int p1)] [(.int p1)]))
  refine Go.st (fun U hr => XS.sipush X0.here hx rfl (hb hby d1_1) hr) ?_
  show Go p.tables e below _ (s₁.setTop (mkF m 4 #[.val (.int p1)] [(.int (8216 : Int32)), (.int p1)]))
  by_cases hc4_1 : p1 < (8216 : Int32)
  · refine Go.st (fun U hr => XS.icmpNo X0.here hx rfl (hb hby d1_4) rfl (tlt hc4_1).2.1 hr) ?_
    show Go p.tables e below _ (s₁.setTop (mkF m 7 #[.val (.int p1)] []))
    refine Go.st (fun U hr => XS.iloadN X0.here hx rfl (hb hby d1_7) rfl hr) ?_
    show Go p.tables e below _ (s₁.setTop (mkF m 8 #[.val (.int p1)] [(.int p1)]))
    exact own_retN X0 hx Bd.notSynchronized (t := .char) Bd.returns (by simp) (hb hby d1_8) ⟨by rw [hch]; simp [own_str, hc4_1], N0, e0⟩ (by decide) (by decide)
  · refine Go.st (fun U hr => XS.icmpYes X0.here hx rfl (pc0 := 4) (pc' := 9) rfl (hb hby d1_4) rfl (flt hc4_1).2.1 (by decide) (by decide) hr) ?_
    show Go p.tables e below _ (s₁.setTop (mkF m 9 #[.val (.int p1)] []))
    refine Go.st (fun U hr => XS.iloadN X0.here hx rfl (hb hby d1_9) rfl hr) ?_
    show Go p.tables e below _ (s₁.setTop (mkF m 10 #[.val (.int p1)] [(.int p1)]))
    by_cases hs10_2 : p1 = (8216 : Int32)
    · refine Go.st (fun U hr => XS.tswIn X0.here hx rfl (pc0 := 10) (pc' := 53) (o := 43) rfl (hb hby d1_10) rfl (by rw [hs10_2]; decide) (by rw [hs10_2]; decide) (by decide) (by decide) hr) ?_
      show Go p.tables e below _ (s₁.setTop (mkF m 53 #[.val (.int p1)] []))
      refine Go.st (fun U hr => XS.bipush X0.here hx rfl (hb hby d1_53) hr) ?_
      show Go p.tables e below _ (s₁.setTop (mkF m 55 #[.val (.int p1)] [(.int (39 : Int32))]))
      refine Go.st (fun U hr => XS.goto X0.here hx rfl (pc0 := 55) (pc' := 59) rfl (hb hby d1_55) (by decide) (by decide) hr) ?_
      show Go p.tables e below _ (s₁.setTop (mkF m 59 #[.val (.int p1)] [(.int (39 : Int32))]))
      exact own_retN X0 hx Bd.notSynchronized (t := .char) Bd.returns (by simp) (hb hby d1_59) ⟨by rw [(by decide : nar .char (39 : Int32) = (39 : Int32))]; simp [own_str, hc4_1, hs10_2], N0, e0⟩ (by decide) (by decide)
    by_cases hs10_3 : p1 = (8217 : Int32)
    · refine Go.st (fun U hr => XS.tswIn X0.here hx rfl (pc0 := 10) (pc' := 53) (o := 43) rfl (hb hby d1_10) rfl (by rw [hs10_3]; decide) (by rw [hs10_3]; decide) (by decide) (by decide) hr) ?_
      show Go p.tables e below _ (s₁.setTop (mkF m 53 #[.val (.int p1)] []))
      refine Go.st (fun U hr => XS.bipush X0.here hx rfl (hb hby d1_53) hr) ?_
      show Go p.tables e below _ (s₁.setTop (mkF m 55 #[.val (.int p1)] [(.int (39 : Int32))]))
      refine Go.st (fun U hr => XS.goto X0.here hx rfl (pc0 := 55) (pc' := 59) rfl (hb hby d1_55) (by decide) (by decide) hr) ?_
      show Go p.tables e below _ (s₁.setTop (mkF m 59 #[.val (.int p1)] [(.int (39 : Int32))]))
      exact own_retN X0 hx Bd.notSynchronized (t := .char) Bd.returns (by simp) (hb hby d1_59) ⟨by rw [(by decide : nar .char (39 : Int32) = (39 : Int32))]; simp [own_str, hc4_1, hs10_2, hs10_3], N0, e0⟩ (by decide) (by decide)
    by_cases hs10_4 : p1 = (8218 : Int32)
    · refine Go.st (fun U hr => XS.tswIn X0.here hx rfl (pc0 := 10) (pc' := 58) (o := 48) rfl (hb hby d1_10) rfl (by rw [hs10_4]; decide) (by rw [hs10_4]; decide) (by decide) (by decide) hr) ?_
      show Go p.tables e below _ (s₁.setTop (mkF m 58 #[.val (.int p1)] []))
      refine Go.st (fun U hr => XS.iloadN X0.here hx rfl (hb hby d1_58) rfl hr) ?_
      show Go p.tables e below _ (s₁.setTop (mkF m 59 #[.val (.int p1)] [(.int p1)]))
      exact own_retN X0 hx Bd.notSynchronized (t := .char) Bd.returns (by simp) (hb hby d1_59) ⟨by rw [hch]; simp [own_str, hc4_1, hs10_2, hs10_3, hs10_4], N0, e0⟩ (by decide) (by decide)
    by_cases hs10_5 : p1 = (8219 : Int32)
    · refine Go.st (fun U hr => XS.tswIn X0.here hx rfl (pc0 := 10) (pc' := 58) (o := 48) rfl (hb hby d1_10) rfl (by rw [hs10_5]; decide) (by rw [hs10_5]; decide) (by decide) (by decide) hr) ?_
      show Go p.tables e below _ (s₁.setTop (mkF m 58 #[.val (.int p1)] []))
      refine Go.st (fun U hr => XS.iloadN X0.here hx rfl (hb hby d1_58) rfl hr) ?_
      show Go p.tables e below _ (s₁.setTop (mkF m 59 #[.val (.int p1)] [(.int p1)]))
      exact own_retN X0 hx Bd.notSynchronized (t := .char) Bd.returns (by simp) (hb hby d1_59) ⟨by rw [hch]; simp [own_str, hc4_1, hs10_2, hs10_3, hs10_4, hs10_5], N0, e0⟩ (by decide) (by decide)
    by_cases hs10_6 : p1 = (8220 : Int32)
    · refine Go.st (fun U hr => XS.tswIn X0.here hx rfl (pc0 := 10) (pc' := 48) (o := 38) rfl (hb hby d1_10) rfl (by rw [hs10_6]; decide) (by rw [hs10_6]; decide) (by decide) (by decide) hr) ?_
      show Go p.tables e below _ (s₁.setTop (mkF m 48 #[.val (.int p1)] []))
      refine Go.st (fun U hr => XS.bipush X0.here hx rfl (hb hby d1_48) hr) ?_
      show Go p.tables e below _ (s₁.setTop (mkF m 50 #[.val (.int p1)] [(.int (34 : Int32))]))
      refine Go.st (fun U hr => XS.goto X0.here hx rfl (pc0 := 50) (pc' := 59) rfl (hb hby d1_50) (by decide) (by decide) hr) ?_
      show Go p.tables e below _ (s₁.setTop (mkF m 59 #[.val (.int p1)] [(.int (34 : Int32))]))
      exact own_retN X0 hx Bd.notSynchronized (t := .char) Bd.returns (by simp) (hb hby d1_59) ⟨by rw [(by decide : nar .char (34 : Int32) = (34 : Int32))]; simp [own_str, hc4_1, hs10_2, hs10_3, hs10_4, hs10_5, hs10_6], N0, e0⟩ (by decide) (by decide)
    by_cases hs10_7 : p1 = (8221 : Int32)
    · refine Go.st (fun U hr => XS.tswIn X0.here hx rfl (pc0 := 10) (pc' := 48) (o := 38) rfl (hb hby d1_10) rfl (by rw [hs10_7]; decide) (by rw [hs10_7]; decide) (by decide) (by decide) hr) ?_
      show Go p.tables e below _ (s₁.setTop (mkF m 48 #[.val (.int p1)] []))
      refine Go.st (fun U hr => XS.bipush X0.here hx rfl (hb hby d1_48) hr) ?_
      show Go p.tables e below _ (s₁.setTop (mkF m 50 #[.val (.int p1)] [(.int (34 : Int32))]))
      refine Go.st (fun U hr => XS.goto X0.here hx rfl (pc0 := 50) (pc' := 59) rfl (hb hby d1_50) (by decide) (by decide) hr) ?_
      show Go p.tables e below _ (s₁.setTop (mkF m 59 #[.val (.int p1)] [(.int (34 : Int32))]))
      exact own_retN X0 hx Bd.notSynchronized (t := .char) Bd.returns (by simp) (hb hby d1_59) ⟨by rw [(by decide : nar .char (34 : Int32) = (34 : Int32))]; simp [own_str, hc4_1, hs10_2, hs10_3, hs10_4, hs10_5, hs10_6, hs10_7], N0, e0⟩ (by decide) (by decide)
    refine Go.st (fun U hr => XS.tswOut X0.here hx rfl (pc0 := 10) (pc' := 58) rfl (hb hby d1_10) rfl (own_tsw_out hs10_2 hs10_3 hs10_4 hs10_5 hs10_6 hs10_7) (by decide) (by decide) hr) ?_
    show Go p.tables e below _ (s₁.setTop (mkF m 58 #[.val (.int p1)] []))
    refine Go.st (fun U hr => XS.iloadN X0.here hx rfl (hb hby d1_58) rfl hr) ?_
    show Go p.tables e below _ (s₁.setTop (mkF m 59 #[.val (.int p1)] [(.int p1)]))
    exact own_retN X0 hx Bd.notSynchronized (t := .char) Bd.returns (by simp) (hb hby d1_59) ⟨by rw [hch]; simp [own_str, hc4_1, hs10_2, hs10_3, hs10_4, hs10_5, hs10_6, hs10_7], N0, e0⟩ (by decide) (by decide)
theorem d2_0 : decode method_2_code 0 = .ok (.iload_n 0, 1) := by decide +kernel
theorem d2_1 : decode method_2_code 1 = .ok (.sipush 8220, 3) := by decide +kernel
theorem d2_4 : decode method_2_code 4 = .ok (.if_icmp .eq 10, 3) := by decide +kernel
theorem d2_7 : decode method_2_code 7 = .ok (.iload_n 0, 1) := by decide +kernel
theorem d2_8 : decode method_2_code 8 = .ok (.sipush 8221, 3) := by decide +kernel
theorem d2_11 : decode method_2_code 11 = .ok (.if_icmp .ne 6, 3) := by decide +kernel
theorem d2_14 : decode method_2_code 14 = .ok (.bipush 34, 2) := by decide +kernel
theorem d2_16 : decode method_2_code 16 = .ok (.ireturn, 1) := by decide +kernel
theorem d2_17 : decode method_2_code 17 = .ok (.iload_n 0, 1) := by decide +kernel
theorem d2_18 : decode method_2_code 18 = .ok (.sipush 8216, 3) := by decide +kernel
theorem d2_21 : decode method_2_code 21 = .ok (.if_icmp .eq 10, 3) := by decide +kernel
theorem d2_24 : decode method_2_code 24 = .ok (.iload_n 0, 1) := by decide +kernel
theorem d2_25 : decode method_2_code 25 = .ok (.sipush 8217, 3) := by decide +kernel
theorem d2_28 : decode method_2_code 28 = .ok (.if_icmp .ne 6, 3) := by decide +kernel
theorem d2_31 : decode method_2_code 31 = .ok (.bipush 39, 2) := by decide +kernel
theorem d2_33 : decode method_2_code 33 = .ok (.ireturn, 1) := by decide +kernel
theorem d2_34 : decode method_2_code 34 = .ok (.iload_n 0, 1) := by decide +kernel
theorem d2_35 : decode method_2_code 35 = .ok (.ireturn, 1) := by decide +kernel
theorem pn_2 : plainFor (⟨"com/example/clausewright/clausewright/LayoutStraightPinLaw", "expected", "(C)C"⟩ : MethodName) = true := plainFor_of_name (by first | (simp [plainName, overriddenIn]; done) | decide +kernel)
theorem ef_2 (m : MethodId) (x0 : Int32) : entryFrame m #[(.int x0)] 1 = mkF m 0 #[.val (.int x0)] [] := by first | (simp [entryFrame, mkF, argsToLocals, Value.category]; done) | rfl
def Q2 (Z : State) (p1 : Int32)  (h0 : Heap) (n0 : Nat) (v : Option Value) (h : Heap) (L : List Loc) : Prop := v = some (.int (own_exp p1)) ∧ Fr n0 L ∧ h = h0
set_option maxRecDepth 65536 in
set_option maxHeartbeats 40000000 in
theorem rm2 (l : Launch) (Z : State) (a0 : Array Value) (hw : ∀ d ∈ tables_1, d.before a0 Z = true) (ws : List Jvm.Cond) (p1 : Int32)  (h0 : Heap) (n0 : Nat) (Z0 : n0 ≤ h0.size) (hch : nar .char p1 = p1) :
    MetFree l (⟨"com/example/clausewright/clausewright/LayoutStraightPinLaw", "expected", "(C)C"⟩ : MethodName) (head1 (Jvm.Cond.code (⟨"com/example/clausewright/clausewright/LayoutStraightPinLaw", "expected", "(C)C"⟩ : MethodName) method_2_code 1 (some .char) :: ws) ({ frames := 0, cells := 0, slots := 0, locals := 0 } : Room)) (fun a U => a = #[(.int p1)] ∧ Z.Warmed39 U.vm ∧ U.heap = h0) (fun _ _ _ _ _ => True) (fun _ U o U' => ∃ v L, o = .returned v ∧ Q2 Z p1 h0 n0 v U'.heap L ∧ FrameEnd U o U' L ({ frames := 0, cells := 0, slots := 0, locals := 0 } : Room).cells ({ frames := 0, cells := 0, slots := 0, locals := 0 } : Room).slots) := by
  refine MetFree.of_bodySF pn_2 hisR ?_
  intro p e s m args below meth c s₁ Bd hml0 hP hK
  obtain ⟨rfl, hZ, hh⟩ := hP
  have hx := Bd.exec
  have hby := Bd.bytes
  have hml : c.maxLocals = 1 := hml0
  have hown : s.vm.findClass "com/example/clausewright/clausewright/LayoutStraightPinLaw" = some m.cls := findClass_of_methodNamed Bd.named
  have hnm := (name_of_methodNamed Bd.named Bd.method).1
  have X0 : Stand p l e ({ frames := 0, cells := 0, slots := 0, locals := 0 } : Room) s m #[(.int p1)] below meth c s₁ [] 0 0 := Stand.of_body Bd
  have e0 : s₁.heap = h0 := by rw [← hh, Bd.state]; rfl
  have N0 := Fr.nil n0
  refine own_start (Q := Q2 Z p1 h0 n0) (own_cast (ef_2 m p1) ?_)
  show Go p.tables e below _ (s₁.setTop (mkF m 0 #[.val (.int p1)] []))
  refine Go.st (fun U hr => XS.iloadN X0.here hx rfl (hb hby d2_0) rfl hr) ?_
  show Go p.tables e below _ (s₁.setTop (mkF m 1 #[.val (.int p1)] [(.int p1)]))
  refine Go.st (fun U hr => XS.sipush X0.here hx rfl (hb hby d2_1) hr) ?_
  show Go p.tables e below _ (s₁.setTop (mkF m 4 #[.val (.int p1)] [(.int (8220 : Int32)), (.int p1)]))
  by_cases hc4_1 : p1 = (8220 : Int32)
  · refine Go.st (fun U hr => XS.icmpYes X0.here hx rfl (pc0 := 4) (pc' := 14) rfl (hb hby d2_4) rfl (teq hc4_1).1 (by decide) (by decide) hr) ?_
    show Go p.tables e below _ (s₁.setTop (mkF m 14 #[.val (.int p1)] []))
    refine Go.st (fun U hr => XS.bipush X0.here hx rfl (hb hby d2_14) hr) ?_
    show Go p.tables e below _ (s₁.setTop (mkF m 16 #[.val (.int p1)] [(.int (34 : Int32))]))
    exact own_retN X0 hx Bd.notSynchronized (t := .char) Bd.returns (by simp) (hb hby d2_16) ⟨by rw [(by decide : nar .char (34 : Int32) = (34 : Int32))]; simp [own_exp, hc4_1], N0, e0⟩ (by decide) (by decide)
  · refine Go.st (fun U hr => XS.icmpNo X0.here hx rfl (hb hby d2_4) rfl (feq hc4_1).1 hr) ?_
    show Go p.tables e below _ (s₁.setTop (mkF m 7 #[.val (.int p1)] []))
    refine Go.st (fun U hr => XS.iloadN X0.here hx rfl (hb hby d2_7) rfl hr) ?_
    show Go p.tables e below _ (s₁.setTop (mkF m 8 #[.val (.int p1)] [(.int p1)]))
    refine Go.st (fun U hr => XS.sipush X0.here hx rfl (hb hby d2_8) hr) ?_
    show Go p.tables e below _ (s₁.setTop (mkF m 11 #[.val (.int p1)] [(.int (8221 : Int32)), (.int p1)]))
    by_cases hc11_2 : p1 = (8221 : Int32)
    · refine Go.st (fun U hr => XS.icmpNo X0.here hx rfl (hb hby d2_11) rfl (teq hc11_2).2 hr) ?_
      show Go p.tables e below _ (s₁.setTop (mkF m 14 #[.val (.int p1)] []))
      refine Go.st (fun U hr => XS.bipush X0.here hx rfl (hb hby d2_14) hr) ?_
      show Go p.tables e below _ (s₁.setTop (mkF m 16 #[.val (.int p1)] [(.int (34 : Int32))]))
      exact own_retN X0 hx Bd.notSynchronized (t := .char) Bd.returns (by simp) (hb hby d2_16) ⟨by rw [(by decide : nar .char (34 : Int32) = (34 : Int32))]; simp [own_exp, hc4_1, hc11_2], N0, e0⟩ (by decide) (by decide)
    · refine Go.st (fun U hr => XS.icmpYes X0.here hx rfl (pc0 := 11) (pc' := 17) rfl (hb hby d2_11) rfl (feq hc11_2).2 (by decide) (by decide) hr) ?_
      show Go p.tables e below _ (s₁.setTop (mkF m 17 #[.val (.int p1)] []))
      refine Go.st (fun U hr => XS.iloadN X0.here hx rfl (hb hby d2_17) rfl hr) ?_
      show Go p.tables e below _ (s₁.setTop (mkF m 18 #[.val (.int p1)] [(.int p1)]))
      refine Go.st (fun U hr => XS.sipush X0.here hx rfl (hb hby d2_18) hr) ?_
      show Go p.tables e below _ (s₁.setTop (mkF m 21 #[.val (.int p1)] [(.int (8216 : Int32)), (.int p1)]))
      by_cases hc21_3 : p1 = (8216 : Int32)
      · refine Go.st (fun U hr => XS.icmpYes X0.here hx rfl (pc0 := 21) (pc' := 31) rfl (hb hby d2_21) rfl (teq hc21_3).1 (by decide) (by decide) hr) ?_
        show Go p.tables e below _ (s₁.setTop (mkF m 31 #[.val (.int p1)] []))
        refine Go.st (fun U hr => XS.bipush X0.here hx rfl (hb hby d2_31) hr) ?_
        show Go p.tables e below _ (s₁.setTop (mkF m 33 #[.val (.int p1)] [(.int (39 : Int32))]))
        exact own_retN X0 hx Bd.notSynchronized (t := .char) Bd.returns (by simp) (hb hby d2_33) ⟨by rw [(by decide : nar .char (39 : Int32) = (39 : Int32))]; simp [own_exp, hc4_1, hc11_2, hc21_3], N0, e0⟩ (by decide) (by decide)
      · refine Go.st (fun U hr => XS.icmpNo X0.here hx rfl (hb hby d2_21) rfl (feq hc21_3).1 hr) ?_
        show Go p.tables e below _ (s₁.setTop (mkF m 24 #[.val (.int p1)] []))
        refine Go.st (fun U hr => XS.iloadN X0.here hx rfl (hb hby d2_24) rfl hr) ?_
        show Go p.tables e below _ (s₁.setTop (mkF m 25 #[.val (.int p1)] [(.int p1)]))
        refine Go.st (fun U hr => XS.sipush X0.here hx rfl (hb hby d2_25) hr) ?_
        show Go p.tables e below _ (s₁.setTop (mkF m 28 #[.val (.int p1)] [(.int (8217 : Int32)), (.int p1)]))
        by_cases hc28_4 : p1 = (8217 : Int32)
        · refine Go.st (fun U hr => XS.icmpNo X0.here hx rfl (hb hby d2_28) rfl (teq hc28_4).2 hr) ?_
          show Go p.tables e below _ (s₁.setTop (mkF m 31 #[.val (.int p1)] []))
          refine Go.st (fun U hr => XS.bipush X0.here hx rfl (hb hby d2_31) hr) ?_
          show Go p.tables e below _ (s₁.setTop (mkF m 33 #[.val (.int p1)] [(.int (39 : Int32))]))
          exact own_retN X0 hx Bd.notSynchronized (t := .char) Bd.returns (by simp) (hb hby d2_33) ⟨by rw [(by decide : nar .char (39 : Int32) = (39 : Int32))]; simp [own_exp, hc4_1, hc11_2, hc21_3, hc28_4], N0, e0⟩ (by decide) (by decide)
        · refine Go.st (fun U hr => XS.icmpYes X0.here hx rfl (pc0 := 28) (pc' := 34) rfl (hb hby d2_28) rfl (feq hc28_4).2 (by decide) (by decide) hr) ?_
          show Go p.tables e below _ (s₁.setTop (mkF m 34 #[.val (.int p1)] []))
          refine Go.st (fun U hr => XS.iloadN X0.here hx rfl (hb hby d2_34) rfl hr) ?_
          show Go p.tables e below _ (s₁.setTop (mkF m 35 #[.val (.int p1)] [(.int p1)]))
          exact own_retN X0 hx Bd.notSynchronized (t := .char) Bd.returns (by simp) (hb hby d2_35) ⟨by rw [hch]; simp [own_exp, hc4_1, hc11_2, hc21_3, hc28_4], N0, e0⟩ (by decide) (by decide)
theorem pn_0 : plainFor x = true := plainFor_of_name (by first | (simp [plainName, overriddenIn]; done) | decide +kernel)
theorem ef_0 (m : MethodId) (x0 : Int32) (x1 : Int32) : entryFrame m #[(.int x0), (.int x1)] maxLocals = mkF m 0 #[.val (.int x0), .val (.int x1), .unset] [] := by first | (simp [entryFrame, mkF, argsToLocals, Value.category, maxLocals]; done) | rfl
theorem pd_0 : parseMethodDescriptor "(C)C" = some ⟨[.char], some .char⟩ := by decide +kernel
def Q0 (Z : State) (p1 : Int32) (p2 : Int32)  (h0 : Heap) (n0 : Nat) (v : Option Value) (h : Heap) (L : List Loc) : Prop := v = some (.int 1) ∧ Fr n0 L
set_option maxRecDepth 65536 in
set_option maxHeartbeats 40000000 in
theorem rm0 (l : Launch) (Z : State) (a0 : Array Value) (hw : ∀ d ∈ tables_1, d.before a0 Z = true) (ws : List Jvm.Cond) (p1 : Int32) (p2 : Int32)  (h0 : Heap) (n0 : Nat) (Z0 : n0 ≤ h0.size) :
    MetFree l x (head1 (Jvm.Cond.code x code maxLocals ret :: ws) room_1) (fun a U => a = #[(.int p1), (.int p2)] ∧ Z.Warmed39 U.vm ∧ U.heap = h0) (fun _ _ _ _ _ => True) (fun _ U o U' => ∃ v L, o = .returned v ∧ Q0 Z p1 p2 h0 n0 v U'.heap L ∧ FrameEnd U o U' L room_1.cells room_1.slots) := by
  refine MetFree.of_bodySF pn_0 hisR ?_
  intro p e s m args below meth c s₁ Bd hml0 hP hK
  obtain ⟨rfl, hZ, hh⟩ := hP
  have hx := Bd.exec
  have hby := Bd.bytes
  have hml : c.maxLocals = 3 := hml0
  have hown : s.vm.findClass "com/example/clausewright/clausewright/LayoutStraightPinLaw" = some m.cls := findClass_of_methodNamed Bd.named
  have hnm := (name_of_methodNamed Bd.named Bd.method).1
  have X0 : Stand p l e room_1 s m #[(.int p1), (.int p2)] below meth c s₁ [] 0 0 := Stand.of_body Bd
  have e0 : s₁.heap = h0 := by rw [← hh, Bd.state]; rfl
  have N0 := Fr.nil n0
  refine own_start (Q := Q0 Z p1 p2 h0 n0) (own_cast (ef_0 m p1 p2) ?_)
  show Go p.tables e below _ (s₁.setTop (mkF m 0 #[.val (.int p1), .val (.int p2), .unset] []))
  refine Go.st (fun U hr => XS.iloadN X0.here hx rfl (hb hby at_0) rfl hr) ?_
  show Go p.tables e below _ (s₁.setTop (mkF m 1 #[.val (.int p1), .val (.int p2), .unset] [(.int p2)]))
  refine Go.st (fun U hr => XS.iconst X0.here hx rfl (hb hby at_1) hr) ?_
  show Go p.tables e below _ (s₁.setTop (mkF m 2 #[.val (.int p1), .val (.int p2), .unset] [(.int (1 : Int32)), (.int p2)]))
  refine Go.st (fun U hr => XS.iand X0.here hx rfl (hb hby at_2) rfl hr) ?_
  show Go p.tables e below _ (s₁.setTop (mkF m 3 #[.val (.int p1), .val (.int p2), .unset] [(.int (p2 &&& (1 : Int32)))]))
  suffices hj3_1 : Go p.tables e below _ (s₁.setTop (mkF m 22 #[.val (.int p1), .val (.int p2), .val (.int (if (p2 &&& (1 : Int32)) = (0 : Int32) then (p1.toUInt32.toUInt16.toUInt32.toInt32) else (((8212 : Int32) + (p1 &&& (15 : Int32))).toUInt32.toUInt16.toUInt32.toInt32)))] [])) by
    by_cases hc3_1 : (p2 &&& (1 : Int32)) = (0 : Int32)
    · refine Go.st (fun U hr => XS.ifYes X0.here hx rfl (pc0 := 3) (pc' := 19) rfl (hb hby at_3) rfl ((if0 _ _).trans (teq hc3_1).1) (by decide) (by decide) hr) ?_
      show Go p.tables e below _ (s₁.setTop (mkF m 19 #[.val (.int p1), .val (.int p2), .unset] []))
      refine Go.st (fun U hr => XS.iloadN X0.here hx rfl (hb hby at_19) rfl hr) ?_
      show Go p.tables e below _ (s₁.setTop (mkF m 20 #[.val (.int p1), .val (.int p2), .unset] [(.int p1)]))
      refine Go.st (fun U hr => XS.i2c X0.here hx rfl (hb hby at_20) rfl hr) ?_
      show Go p.tables e below _ (s₁.setTop (mkF m 21 #[.val (.int p1), .val (.int p2), .unset] [(.int (p1.toUInt32.toUInt16.toUInt32.toInt32))]))
      refine Go.st (fun U hr => XS.istoreN X0.here hx rfl (hb hby at_21) rfl (l' := #[.val (.int p1), .val (.int p2), .val (.int (p1.toUInt32.toUInt16.toUInt32.toInt32))]) rfl hr) ?_
      show Go p.tables e below _ (s₁.setTop (mkF m 22 #[.val (.int p1), .val (.int p2), .val (.int (p1.toUInt32.toUInt16.toUInt32.toInt32))] []))
      simpa only [if_pos hc3_1] using hj3_1
    · refine Go.st (fun U hr => XS.ifNo X0.here hx rfl (hb hby at_3) rfl ((if0 _ _).trans (feq hc3_1).1) hr) ?_
      show Go p.tables e below _ (s₁.setTop (mkF m 6 #[.val (.int p1), .val (.int p2), .unset] []))
      refine Go.st (fun U hr => XS.sipush X0.here hx rfl (hb hby at_6) hr) ?_
      show Go p.tables e below _ (s₁.setTop (mkF m 9 #[.val (.int p1), .val (.int p2), .unset] [(.int (8212 : Int32))]))
      refine Go.st (fun U hr => XS.iloadN X0.here hx rfl (hb hby at_9) rfl hr) ?_
      show Go p.tables e below _ (s₁.setTop (mkF m 10 #[.val (.int p1), .val (.int p2), .unset] [(.int p1), (.int (8212 : Int32))]))
      refine Go.st (fun U hr => XS.bipush X0.here hx rfl (hb hby at_10) hr) ?_
      show Go p.tables e below _ (s₁.setTop (mkF m 12 #[.val (.int p1), .val (.int p2), .unset] [(.int (15 : Int32)), (.int p1), (.int (8212 : Int32))]))
      refine Go.st (fun U hr => XS.iand X0.here hx rfl (hb hby at_12) rfl hr) ?_
      show Go p.tables e below _ (s₁.setTop (mkF m 13 #[.val (.int p1), .val (.int p2), .unset] [(.int (p1 &&& (15 : Int32))), (.int (8212 : Int32))]))
      refine Go.st (fun U hr => XS.iadd X0.here hx rfl (hb hby at_13) rfl hr) ?_
      show Go p.tables e below _ (s₁.setTop (mkF m 14 #[.val (.int p1), .val (.int p2), .unset] [(.int ((8212 : Int32) + (p1 &&& (15 : Int32))))]))
      refine Go.st (fun U hr => XS.i2c X0.here hx rfl (hb hby at_14) rfl hr) ?_
      show Go p.tables e below _ (s₁.setTop (mkF m 15 #[.val (.int p1), .val (.int p2), .unset] [(.int (((8212 : Int32) + (p1 &&& (15 : Int32))).toUInt32.toUInt16.toUInt32.toInt32))]))
      refine Go.st (fun U hr => XS.istoreN X0.here hx rfl (hb hby at_15) rfl (l' := #[.val (.int p1), .val (.int p2), .val (.int (((8212 : Int32) + (p1 &&& (15 : Int32))).toUInt32.toUInt16.toUInt32.toInt32))]) rfl hr) ?_
      show Go p.tables e below _ (s₁.setTop (mkF m 16 #[.val (.int p1), .val (.int p2), .val (.int (((8212 : Int32) + (p1 &&& (15 : Int32))).toUInt32.toUInt16.toUInt32.toInt32))] []))
      refine Go.st (fun U hr => XS.goto X0.here hx rfl (pc0 := 16) (pc' := 22) rfl (hb hby at_16) (by decide) (by decide) hr) ?_
      show Go p.tables e below _ (s₁.setTop (mkF m 22 #[.val (.int p1), .val (.int p2), .val (.int (((8212 : Int32) + (p1 &&& (15 : Int32))).toUInt32.toUInt16.toUInt32.toInt32))] []))
      simpa only [if_neg hc3_1] using hj3_1
  generalize h_cc : (if (p2 &&& (1 : Int32)) = (0 : Int32) then (p1.toUInt32.toUInt16.toUInt32.toInt32) else (((8212 : Int32) + (p1 &&& (15 : Int32))).toUInt32.toUInt16.toUInt32.toInt32)) = cc
  have hcc : nar .char cc = cc := by subst h_cc; split <;> exact own_char _
  refine Go.st (fun U hr => XS.iloadN X0.here hx rfl (hb hby at_22) rfl hr) ?_
  show Go p.tables e below _ (s₁.setTop (mkF m 23 #[.val (.int p1), .val (.int p2), .val (.int cc)] [(.int cc)]))
  obtain ⟨_, _, ⟨T2, L2, k2, n2⟩, -, X2, ⟨Lc2, hQ2, l2, y2, z2⟩, st2⟩ := Jvm.LawKit.callS X0 hx (y := (⟨"com/example/clausewright/clausewright/Layout", "straight", "(C)C"⟩ : MethodName)) hown (mvT hZ (hw _ (List.mem_of_getElem? (i := 0) rfl))) (mvT hZ (hw _ (List.mem_of_getElem? (i := 1) rfl))) (mvT hZ (hw _ (List.mem_of_getElem? (i := 2) rfl))) (mvT hZ (hw _ (List.mem_of_getElem? (i := 3) rfl))) (by decide) (backOf (W := 0) (rm1 l Z a0 hw [] cc h0 n0 Z0 hcc) hZ (hw _ (List.mem_of_getElem? (i := 3) rfl)) (hw _ (List.mem_of_getElem? (i := 2) rfl)) (by decide) (by decide)) (g := (mkF m 23 #[.val (.int p1), .val (.int p2), .val (.int cc)] [(.int cc)])) rfl (by rw [hml]; rfl) (argsL := [(.int cc)]) (rest := []) (lenOf pd_0 rfl) rfl (by show 2 * 0 + _ ≤ _; exact Nat.le_of_eq rfl) (hb hby at_23) (fun _ _ => ⟨rfl, e0, (by decide : 0 + 0 ≤ _), (by decide : 0 + 0 ≤ _)⟩)
  dsimp only [Pt.U, Pt.locs, Pt.cells, Pt.slots] at X2 l2 y2 z2 st2 hQ2
  subst l2 y2 z2
  obtain ⟨rfl, Nq2, ee2⟩ := hQ2
  have N2 := Fr.app N0 Nq2
  refine Go.st st2 ?_
  show Go p.tables e below _ (T2.setTop (mkF m 26 #[.val (.int p1), .val (.int p2), .val (.int cc)] [(.int (own_str cc))]))
  refine Go.st (fun U hr => XS.iloadN X2.here hx rfl (hb hby at_26) rfl hr) ?_
  show Go p.tables e below _ (T2.setTop (mkF m 27 #[.val (.int p1), .val (.int p2), .val (.int cc)] [(.int cc), (.int (own_str cc))]))
  obtain ⟨_, _, ⟨T3, L3, k3, n3⟩, -, X3, ⟨Lc3, hQ3, l3, y3, z3⟩, st3⟩ := Jvm.LawKit.callS X2 hx (y := (⟨"com/example/clausewright/clausewright/LayoutStraightPinLaw", "expected", "(C)C"⟩ : MethodName)) hown (mvT hZ (hw _ (List.mem_of_getElem? (i := 4) rfl))) (mvT hZ (hw _ (List.mem_of_getElem? (i := 5) rfl))) (mvT hZ (hw _ (List.mem_of_getElem? (i := 6) rfl))) (mvT hZ (hw _ (List.mem_of_getElem? (i := 7) rfl))) (by decide) (backOf (W := 1) (rm2 l Z a0 hw [] cc h0 n0 Z0 hcc) hZ (hw _ (List.mem_of_getElem? (i := 7) rfl)) (hw _ (List.mem_of_getElem? (i := 6) rfl)) (by decide) (by decide)) (g := (mkF m 27 #[.val (.int p1), .val (.int p2), .val (.int cc)] [(.int cc), (.int (own_str cc))])) rfl (by rw [hml]; rfl) (argsL := [(.int cc)]) (rest := [(.int (own_str cc))]) (lenOf pd_0 rfl) rfl (by show 2 * 0 + _ ≤ _; exact Nat.le_of_eq rfl) (hb hby at_27) (fun _ _ => ⟨rfl, ee2, (by decide : 0 + 0 ≤ _), (by decide : 0 + 0 ≤ _)⟩)
  dsimp only [Pt.U, Pt.locs, Pt.cells, Pt.slots] at X3 l3 y3 z3 st3 hQ3
  subst l3 y3 z3
  obtain ⟨rfl, Nq3, ee3⟩ := hQ3
  have N3 := Fr.app N2 Nq3
  refine Go.st st3 ?_
  show Go p.tables e below _ (T3.setTop (mkF m 30 #[.val (.int p1), .val (.int p2), .val (.int cc)] [(.int (own_exp cc)), (.int (own_str cc))]))
  have hc30_4 : (own_str cc) = (own_exp cc) := own_law cc
  refine Go.st (fun U hr => XS.icmpNo X3.here hx rfl (hb hby at_30) rfl (teq hc30_4).2 hr) ?_
  show Go p.tables e below _ (T3.setTop (mkF m 33 #[.val (.int p1), .val (.int p2), .val (.int cc)] []))
  refine Go.st (fun U hr => XS.iconst X3.here hx rfl (hb hby at_33) hr) ?_
  show Go p.tables e below _ (T3.setTop (mkF m 34 #[.val (.int p1), .val (.int p2), .val (.int cc)] [(.int (1 : Int32))]))
  refine Go.st (fun U hr => XS.goto X3.here hx rfl (pc0 := 34) (pc' := 38) rfl (hb hby at_34) (by decide) (by decide) hr) ?_
  show Go p.tables e below _ (T3.setTop (mkF m 38 #[.val (.int p1), .val (.int p2), .val (.int cc)] [(.int (1 : Int32))]))
  exact own_retN X3 hx Bd.notSynchronized (t := .boolean) Bd.returns (by simp) (hb hby at_38) ⟨rfl, N3⟩ (by decide) (by decide)
set_option maxRecDepth 65536 in
set_option maxHeartbeats 40000000 in
theorem comes_1 {Post : Tables → Env → Array Value → State → Outcome → State → Prop} (hpost : ∀ tb e args s v u, (limb_1_1.after args s (.returned v) u = true ∧ limb_1_2.after args s (.returned v) u = true ∧ True) → FrameEnd s (.returned v) u (Jvm.fieldLocs frame_1_writes args s ++ Jvm.arrayLocs frame_1_arrays args s ++ Jvm.staticLocs frame_1_statics s) 0 0 → Post tb e args s (.returned v) u) :
    ArmFor flags0 classFile x code maxLocals ret World_1 tables_1 room_1 Calls_1 rest_1 Pre_1 Post := by
  intro l hfl _ _ p e ha hc hk s m args below hf hA hF happ hP
  obtain ⟨hcalls, hrest, hpre⟩ := hP
  obtain ⟨-, -, -, hnamed, -, -, -, hat⟩ := (Spec.applies_iff hf).mp happ
  obtain ⟨hg, hn⟩ := and_e (Cond.before_iff.mp (show (Jvm.Cond.and given_1 narrow_1).before args s = true from hpre))
  obtain ⟨h1, h2⟩ := and_e hg
  obtain ⟨w0, w1, rfl⟩ : ∃ w0 w1 : Value, args = #[w0, w1] := by
    have hs : args.size = 2 := by simpa [Cond.value, given_1] using h1
    obtain ⟨L⟩ := args
    match L, hs with
    | [w0, w1], _ => exact ⟨w0, w1, rfl⟩
  have hw := fun d (hd : d ∈ tables_1) => atoms_spec (ws := Jvm.Cond.code x code maxLocals ret :: tables_1) hat d (List.mem_cons_of_mem _ hd)
  have hfit : Fit s := fun {y c} hc i hi => by
    obtain ⟨ha, rfl⟩ := Array.getElem?_eq_some_iff.mp hc
    have q := List.all_eq_true.mp ((Array.all_eq_true_iff_forall_mem.mp hF) _ (Array.getElem_mem ha)) i (List.mem_range.mpr hi)
    simpa [Array.getElem?_eq_getElem hi] using q
  obtain ⟨ha0, hb0⟩ := and_e h2
  obtain ⟨i0, e0⟩ := is_v ha0
  obtain rfl : w0 = (.int i0) := Option.some.inj e0
  obtain ⟨i1, e1⟩ := is_v hb0
  obtain rfl : w1 = (.int i1) := Option.some.inj e1
  obtain ⟨n, o, h1, h2, h3, _, L, rfl, ⟨rfl, N⟩, hq⟩ := rm0 l s _ hw tables_1 i0 i1 s.heap s.heap.size (Nat.le_refl _)  p e ha hc hk s m _ below hf ((Spec.applies_iff_loose hf).mp happ).1 ⟨rfl, State.Warmed39.refl s, rfl⟩ trivial
  refine ⟨n, _, h1, h2, h3, hpost _ _ _ _ _ _ ⟨Cond.after_iff.mpr rfl, Cond.after_iff.mpr (eq_i res_at (Term.int_eval (1)) rfl), trivial⟩ ⟨hq.1, hq.2.1, (hq.2.2.sift fun y hy => Or.inr (N y hy)).mono (by decide) (by decide)⟩⟩
theorem main_1_1 : Claimed_1_1 := comes_1 fun _ _ _ _ _ _ h hF => ⟨h.1, hF⟩
theorem main_1_2 : Claimed_1_2 := comes_1 fun _ _ _ _ _ _ h hF => ⟨h.2.1, hF⟩
end Jvm.Pilot.@@N@@
namespace Jvm.Pilot.@@N@@
open Jvm Jvm.ClassFile Sem Op Lib Jvm.Free Jvm.Stand Jvm.Pilot.@@N@@.Jvm.D
/-! MADE BY PROGRAM (witnessworld.py) out of the Statement's table words and the real class files: 12 classes; the members and pool entries that the words name. The judged class is class 1, her method 2. -/
namespace start1
open Jvm.ClassFile
def u (s : String) : CpInfo := .utf8 (stringToUtf16 s)
/-- a pool by its gaps: so many unusable entries, then the entry; so many at the end -/
def gap : Nat → List CpInfo → List CpInfo
  | 0, r => r
  | n + 1, r => .unusable :: gap n r
def poolList (es : List (Nat × CpInfo)) (last : Nat) : List CpInfo := es.foldr (fun e r => gap e.1 (e.2 :: r)) (gap last [])
def pool (es : List (Nat × CpInfo)) (last : Nat) : Array CpInfo := ⟨poolList es last⟩
def fileOf (pool : Array CpInfo) (this : Nat) (attrs : Array Attribute := #[]) (ms : Array MethodInfo := #[]) (fl : Nat := 33) (sup : Nat := 0) (ifs : Array Nat := #[]) (fds : Array FieldInfo := #[]) : ClassFile where
  minorVersion := 0
  majorVersion := 65
  constantPool := pool
  accessFlags := fl
  thisClass := this
  superClass := sup
  interfaces := ifs
  fields := fds
  methods := ms
  attributes := attrs
def plain (name : String) (sup : Option ClassId) : Class where
  name := name
  kind := .ordinary
  loader := none
  accessFlags := 33
  super := sup
  interfaces := #[]
  cf := none
  fields := #[]
  methods := #[]
  instanceTypes := #[]
  staticTypes := #[]
  resolved := #[]
  callSites := []
  init := .initialized
  statics := none
  mirror := none

def pool0 : Array CpInfo := pool [(5, u "<init>"), (0, u "()V"), (1, .class_ 10), (1, u "java/lang/Object")] 113

def k0m0 : Method := { name := "<init>", desc := "()V", sig := { parameters := [], returnType := none }, accessFlags := 1, code := none }
/-- java/lang/Object -/
def k0 : Class := { plain "java/lang/Object" none with
  accessFlags := 33
  interfaces := #[]
  cf := some (fileOf pool0 8 #[] #[{ accessFlags := 1, nameIndex := 5, descriptorIndex := 6, attributes := #[] }] 33 0 #[] #[])
  fields := #[]
  methods := #[k0m0]
  instanceTypes := #[]
  staticTypes := #[]
  resolved := Array.replicate 124 none
  statics := none }

def pool1 : Array CpInfo := pool [(2, .class_ 4), (1, u "java/lang/Object"), (0, u "<init>"), (0, u "()V"), (0, .methodref 8 9), (0, .class_ 10), (0, .nameAndType 11 12), (0, u "com/example/clausewright/clausewright/Layout"), (0, u "straight"), (0, u "(C)C"), (0, .methodref 14 15), (0, .class_ 16), (0, .nameAndType 17 12), (0, u "com/example/clausewright/clausewright/LayoutStraightPinLaw"), (0, u "expected"), (3, u "law"), (0, u "(II)Z")] 2

def k1m0 : Method := { name := "<init>", desc := "()V", sig := { parameters := [], returnType := none }, accessFlags := 2, code := none }
def k1c1 : Code := { maxStack := 2, maxLocals := 1, code := method_2_code, exceptionTable := #[], attributes := #[] }
def k1m1 : Method := { name := "expected", desc := "(C)C", sig := { parameters := [.char], returnType := some .char }, accessFlags := 10, code := some k1c1 }
def k1c2 : Code := { maxStack := 3, maxLocals := 3, code := code, exceptionTable := #[], attributes := #[] }
def k1m2 : Method := { name := "law", desc := "(II)Z", sig := { parameters := [.int, .int], returnType := some .boolean }, accessFlags := 9, code := some k1c2 }
/-- com/example/clausewright/clausewright/LayoutStraightPinLaw -/
def k1 : Class := { plain "com/example/clausewright/clausewright/LayoutStraightPinLaw" (some 0) with
  accessFlags := 49
  interfaces := #[]
  cf := some (fileOf pool1 14 #[] #[{ accessFlags := 2, nameIndex := 5, descriptorIndex := 6, attributes := #[] }, { accessFlags := 10, nameIndex := 17, descriptorIndex := 12, attributes := #[] }, { accessFlags := 9, nameIndex := 21, descriptorIndex := 22, attributes := #[] }] 49 2 #[] #[])
  fields := #[]
  methods := #[k1m0, k1m1, k1m2]
  instanceTypes := #[]
  staticTypes := #[]
  resolved := Array.replicate 25 none
  statics := none }

def pool2 : Array CpInfo := pool [(1, .class_ 2), (0, u "java/lang/constant/Constable"), (0, .class_ 4), (0, u "java/lang/Object")] 6

/-- java/lang/constant/Constable -/
def k2 : Class := { plain "java/lang/constant/Constable" (some 0) with
  accessFlags := 1537
  interfaces := #[]
  cf := some (fileOf pool2 1 #[] #[] 1537 3 #[] #[])
  fields := #[]
  methods := #[]
  instanceTypes := #[]
  staticTypes := #[]
  resolved := Array.replicate 11 none
  statics := none }

def pool3 : Array CpInfo := pool [(1, .class_ 2), (0, u "java/lang/Comparable"), (0, .class_ 4), (0, u "java/lang/Object")] 7

/-- java/lang/Comparable -/
def k3 : Class := { plain "java/lang/Comparable" (some 0) with
  accessFlags := 1537
  interfaces := #[]
  cf := some (fileOf pool3 1 #[] #[] 1537 3 #[] #[])
  fields := #[]
  methods := #[]
  instanceTypes := #[]
  staticTypes := #[]
  resolved := Array.replicate 12 none
  statics := none }

def pool4 : Array CpInfo := pool [(1, .class_ 2), (0, u "java/io/Serializable"), (0, .class_ 4), (0, u "java/lang/Object")] 2

/-- java/io/Serializable -/
def k4 : Class := { plain "java/io/Serializable" (some 0) with
  accessFlags := 1537
  interfaces := #[]
  cf := some (fileOf pool4 1 #[] #[] 1537 3 #[] #[])
  fields := #[]
  methods := #[]
  instanceTypes := #[]
  staticTypes := #[]
  resolved := Array.replicate 7 none
  statics := none }

def pool5 : Array CpInfo := pool [(2, .class_ 4), (1, u "java/lang/Enum"), (0, u "name"), (0, u "Ljava/lang/String;"), (2, u "ordinal"), (0, u "I"), (1, .class_ 14), (1, u "java/lang/Object"), (4, u "hash"), (86, .class_ 108), (1, u "java/lang/Enum$EnumDesc"), (2, .class_ 112), (0, u "java/lang/constant/Constable"), (0, .class_ 114), (0, u "java/lang/Comparable"), (0, .class_ 116), (0, u "java/io/Serializable")] 87

/-- java/lang/Enum -/
def k5 : Class := { plain "java/lang/Enum" (some 0) with
  accessFlags := 1057
  interfaces := #[2, 3, 4]
  cf := some (fileOf pool5 2 #[.nestMembers #[106]] #[] 1057 12 #[111, 113, 115] #[{ accessFlags := 18, nameIndex := 5, descriptorIndex := 6, attributes := #[] }, { accessFlags := 18, nameIndex := 9, descriptorIndex := 10, attributes := #[] }, { accessFlags := 2, nameIndex := 19, descriptorIndex := 10, attributes := #[] }])
  fields := #[{ name := "name", type := (.object "java/lang/String"), accessFlags := 18, slot := 0, constantValue := 0 }, { name := "ordinal", type := .int, accessFlags := 18, slot := 1, constantValue := 0 }, { name := "hash", type := .int, accessFlags := 2, slot := 2, constantValue := 0 }]
  methods := #[]
  instanceTypes := #[(.object "java/lang/String"), .int, .int]
  staticTypes := #[]
  resolved := Array.replicate 204 none
  statics := none }

def pool6 : Array CpInfo := pool [(3, .class_ 4), (0, u "com/example/clausewright/clausewright/Layout"), (2, u "PARAGRAPHS"), (0, u "Lcom/example/clausewright/clausewright/Layout;"), (2, u "CELLS"), (2, u "LINES"), (2, u "$VALUES"), (0, u "[Lcom/example/clausewright/clausewright/Layout;"), (6, .class_ 27), (1, u "java/lang/Enum"), (35, .class_ 64), (0, u "com/example/clausewright/clausewright/Layout$Paragraph"), (75, .class_ 141), (0, u "com/example/clausewright/clausewright/Layout$Cell"), (9, u "SEPARATOR"), (0, u "Ljava/util/regex/Pattern;"), (43, u "RULE"), (4, u "PAGE_TAG"), (2, u "UNFINISHED"), (5, u "LEADS_ON"), (2, u "LOWER_CASE_WORD"), (10, u "OPENS_LOWER_CASE"), (45, u "MOST_RUN_ON_LINES"), (0, u "I"), (2, u "PATTERN_FLAGS"), (1, u "SENTENCE_VERB"), (0, u "Ljava/lang/String;"), (2, u "JOINING_WORDS"), (2, u "CLOSING_MARKS"), (0, u "CLOSING"), (0, u "WRAPPING_SHARE"), (17, u "straight"), (0, u "(C)C")] 35

def k6c0 : Code := { maxStack := 2, maxLocals := 1, code := prog_29_method_13_code, exceptionTable := #[], attributes := #[] }
def k6m0 : Method := { name := "straight", desc := "(C)C", sig := { parameters := [.char], returnType := some .char }, accessFlags := 8, code := some k6c0 }
/-- com/example/clausewright/clausewright/Layout -/
def k6 : Class := { plain "com/example/clausewright/clausewright/Layout" (some 5) with
  accessFlags := 16432
  interfaces := #[]
  cf := some (fileOf pool6 3 #[.nestMembers #[140, 63]] #[{ accessFlags := 8, nameIndex := 303, descriptorIndex := 304, attributes := #[] }] 16432 25 #[] #[{ accessFlags := 16409, nameIndex := 7, descriptorIndex := 8, attributes := #[] }, { accessFlags := 16409, nameIndex := 11, descriptorIndex := 8, attributes := #[] }, { accessFlags := 16409, nameIndex := 14, descriptorIndex := 8, attributes := #[] }, { accessFlags := 24, nameIndex := 270, descriptorIndex := 271, attributes := #[] }, { accessFlags := 24, nameIndex := 274, descriptorIndex := 271, attributes := #[] }, { accessFlags := 24, nameIndex := 276, descriptorIndex := 277, attributes := #[] }, { accessFlags := 24, nameIndex := 280, descriptorIndex := 277, attributes := #[] }, { accessFlags := 26, nameIndex := 151, descriptorIndex := 152, attributes := #[] }, { accessFlags := 26, nameIndex := 196, descriptorIndex := 152, attributes := #[] }, { accessFlags := 26, nameIndex := 201, descriptorIndex := 152, attributes := #[] }, { accessFlags := 26, nameIndex := 204, descriptorIndex := 152, attributes := #[] }, { accessFlags := 26, nameIndex := 210, descriptorIndex := 152, attributes := #[] }, { accessFlags := 26, nameIndex := 224, descriptorIndex := 152, attributes := #[] }, { accessFlags := 26, nameIndex := 213, descriptorIndex := 152, attributes := #[] }, { accessFlags := 26, nameIndex := 283, descriptorIndex := 277, attributes := #[] }, { accessFlags := 26, nameIndex := 284, descriptorIndex := 277, attributes := #[] }, { accessFlags := 26, nameIndex := 285, descriptorIndex := 271, attributes := #[] }, { accessFlags := 4122, nameIndex := 17, descriptorIndex := 18, attributes := #[] }])
  fields := #[{ name := "PARAGRAPHS", type := (.object "com/example/clausewright/clausewright/Layout"), accessFlags := 16409, slot := 0, constantValue := 0 }, { name := "CELLS", type := (.object "com/example/clausewright/clausewright/Layout"), accessFlags := 16409, slot := 1, constantValue := 0 }, { name := "LINES", type := (.object "com/example/clausewright/clausewright/Layout"), accessFlags := 16409, slot := 2, constantValue := 0 }, { name := "MOST_RUN_ON_LINES", type := .int, accessFlags := 24, slot := 3, constantValue := 0 }, { name := "PATTERN_FLAGS", type := .int, accessFlags := 24, slot := 4, constantValue := 0 }, { name := "SENTENCE_VERB", type := (.object "java/lang/String"), accessFlags := 24, slot := 5, constantValue := 0 }, { name := "JOINING_WORDS", type := (.object "java/lang/String"), accessFlags := 24, slot := 6, constantValue := 0 }, { name := "SEPARATOR", type := (.object "java/util/regex/Pattern"), accessFlags := 26, slot := 7, constantValue := 0 }, { name := "RULE", type := (.object "java/util/regex/Pattern"), accessFlags := 26, slot := 8, constantValue := 0 }, { name := "PAGE_TAG", type := (.object "java/util/regex/Pattern"), accessFlags := 26, slot := 9, constantValue := 0 }, { name := "UNFINISHED", type := (.object "java/util/regex/Pattern"), accessFlags := 26, slot := 10, constantValue := 0 }, { name := "LEADS_ON", type := (.object "java/util/regex/Pattern"), accessFlags := 26, slot := 11, constantValue := 0 }, { name := "OPENS_LOWER_CASE", type := (.object "java/util/regex/Pattern"), accessFlags := 26, slot := 12, constantValue := 0 }, { name := "LOWER_CASE_WORD", type := (.object "java/util/regex/Pattern"), accessFlags := 26, slot := 13, constantValue := 0 }, { name := "CLOSING_MARKS", type := (.object "java/lang/String"), accessFlags := 26, slot := 14, constantValue := 0 }, { name := "CLOSING", type := (.object "java/lang/String"), accessFlags := 26, slot := 15, constantValue := 0 }, { name := "WRAPPING_SHARE", type := .int, accessFlags := 26, slot := 16, constantValue := 0 }, { name := "$VALUES", type := (.array (.object "com/example/clausewright/clausewright/Layout")), accessFlags := 4122, slot := 17, constantValue := 0 }]
  methods := #[k6m0]
  instanceTypes := #[(.object "java/lang/String"), .int, .int]
  staticTypes := #[(.object "com/example/clausewright/clausewright/Layout"), (.object "com/example/clausewright/clausewright/Layout"), (.object "com/example/clausewright/clausewright/Layout"), .int, .int, (.object "java/lang/String"), (.object "java/lang/String"), (.object "java/util/regex/Pattern"), (.object "java/util/regex/Pattern"), (.object "java/util/regex/Pattern"), (.object "java/util/regex/Pattern"), (.object "java/util/regex/Pattern"), (.object "java/util/regex/Pattern"), (.object "java/util/regex/Pattern"), (.object "java/lang/String"), (.object "java/lang/String"), .int, (.array (.object "com/example/clausewright/clausewright/Layout"))]
  resolved := Array.replicate 340 none
  statics := none }

def pool7 : Array CpInfo := pool [(1, u "java/lang/Cloneable"), (0, .class_ 1), (0, u "java/lang/Object"), (0, .class_ 3)] 3

/-- java/lang/Cloneable -/
def k7 : Class := { plain "java/lang/Cloneable" (some 0) with
  accessFlags := 1537
  interfaces := #[]
  cf := some (fileOf pool7 2 #[] #[] 1537 4 #[] #[])
  fields := #[]
  methods := #[]
  instanceTypes := #[]
  staticTypes := #[]
  resolved := Array.replicate 8 none
  statics := none }

/-- the primitive byte -/
def k8 : Class := { plain "byte" none with kind := .primitive 'B', accessFlags := 0x411 }
/-- [B -/
def k9 : Class := { plain "[B" (some 0) with kind := .array 8 .byte, interfaces := #[7, 4], accessFlags := 1041 }

/-- the primitive int -/
def k10 : Class := { plain "int" none with kind := .primitive 'I', accessFlags := 0x411 }
/-- [I -/
def k11 : Class := { plain "[I" (some 0) with kind := .array 10 .int, interfaces := #[7, 4], accessFlags := 1041 }

def heap : Heap := #[]
def classes : Array Class := #[k0, k1, k2, k3, k4, k5, k6, k7, k8, k9, k10, k11]
def interned : List (Array UInt16 × Addr) := []
def slotsUsed : Nat := 0
def theMethod : MethodId := ⟨1, 2⟩
def args0 : Array Value := #[.int 5, .int 300]
def aboutOver (below : List Frame) : State where
  vm := { classes := classes, interned := interned.toArray }
  heap := heap
  slotsUsed := slotsUsed
  threads := #[{ frames := .invoking theMethod args0 :: below }]
def below0 : List Frame := [.native { method := ⟨0, 0⟩, args := #[] }]
def about1 : State := aboutOver below0
def p0 : Program := .bare "" "" ""
def e0 : Env := launch0.env 0 0 0
theorem w_frames : about1.frames = Frame.invoking theMethod args0 :: below0 := rfl
set_option maxRecDepth 65536 in
theorem w_args : argsFit about1.vm theMethod args0 = true := by decide +kernel
set_option maxRecDepth 65536 in
theorem w_heap : heapFits about1 = true := by decide +kernel
set_option maxRecDepth 65536 in
theorem w_runnable : about1.curStatus? = some .runnable := by decide +kernel
set_option maxRecDepth 65536 in
theorem w_alone : about1.alone = true := by decide +kernel
set_option maxRecDepth 65536 in
theorem w_named : about1.methodNamed? x = some theMethod := by decide +kernel
set_option maxRecDepth 65536 in
theorem w_hears : about1.hears theMethod below0 = true := by decide +kernel
set_option maxRecDepth 65536 in
theorem w_ripe : about1.ripe theMethod args0 below0 = true := by decide +kernel
theorem w_running : about1.status = .running := rfl
set_option maxRecDepth 65536 in
theorem w_room : about1.hasRoom e0.platform room_1 = true :=
  launch0.hasRoom_least _ room_1 (by decide +kernel) (by decide +kernel) (by decide +kernel) (by decide +kernel) (by decide +kernel) (by decide +kernel)
theorem allAtoms_all (ts : List Jvm.Cond) (a : Array Jvm.Value) (st : Jvm.State) : (allAtoms ts).before a st = ts.all (fun c => c.before a st) := by
  induction ts with
  | nil => rfl
  | cons c t ih =>
    show (Jvm.Cond.and c (allAtoms t)).before a st = _
    rw [Jvm.Cond.before_and, ih, List.all_cons]
def words1 : List Jvm.Cond := Jvm.Cond.code x code maxLocals ret :: tables_1
/-- a 'code' word, met by the world's own term for the bytes: nothing is compared byte by byte -/
theorem code_word {y : MethodName} {bytes : ByteArray} {mx : Nat} {rt : Option FieldType} {a : Array Value} {s : State} {m : MethodId} {meth : Method} {c : Code} (h1 : s.methodNamed? y = some m) (h2 : s.vm.method? m = some meth) (h3 : meth.code = some c) (h4 : c.code = bytes)
    (h5 : (c.maxLocals == mx && c.exceptionTable.isEmpty && decide (c.maxStack ≤ mostOperands) && decide (meth.sig.returnType = rt) && !meth.locks && decide (parseMethodDescriptor y.desc = some meth.sig)) = true) : (Jvm.Cond.code y bytes mx rt).before a s = true := by
  simp only [Bool.and_eq_true, beq_iff_eq, Bool.not_eq_true', decide_eq_true_eq] at h5
  obtain ⟨⟨⟨⟨⟨g1, g2⟩, g3⟩, g4⟩, g5⟩, g6⟩ := h5
  simp [Cond.before, Cond.holds, Cond.value, h1, h2, h3, h4, g1, g2, g3, g4, g5, g6]
def isCode : Jvm.Cond → Bool
  | .code _ _ _ _ => true
  | _ => false
theorem all_split {L : List Jvm.Cond} {P : Jvm.Cond → Bool} (h1 : L.all (fun c => isCode c || P c) = true) (h2 : ∀ c ∈ L.filter isCode, P c = true) : L.all P = true := by
  refine List.all_eq_true.mpr fun c hc => ?_
  have h := List.all_eq_true.mp h1 c hc
  rcases Bool.eq_false_or_eq_true (isCode c) with hi | hi
  · exact h2 c (List.mem_filter.mpr ⟨hc, hi⟩)
  · simpa [hi] using h
set_option maxRecDepth 65536 in
theorem w_c0 : (Jvm.Cond.code x code maxLocals ret).before args0 about1 = true := code_word (m := ⟨1, 2⟩) (meth := k1m2) (c := k1c2) (by decide +kernel) rfl rfl rfl (by decide +kernel)
set_option maxRecDepth 65536 in
theorem w_c1 : (Jvm.Cond.code ({ cls := "com/example/clausewright/clausewright/Layout", name := "straight", desc := "(C)C" } : Jvm.MethodName) prog_29_method_13_code (1 : Nat) (Option.some Jvm.ClassFile.FieldType.char)).before args0 about1 = true := code_word (m := ⟨6, 0⟩) (meth := k6m0) (c := k6c0) (by decide +kernel) rfl rfl rfl (by decide +kernel)
set_option maxRecDepth 65536 in
theorem w_c2 : (Jvm.Cond.code ({ cls := "com/example/clausewright/clausewright/LayoutStraightPinLaw", name := "expected", desc := "(C)C" } : Jvm.MethodName) method_2_code (1 : Nat) (Option.some Jvm.ClassFile.FieldType.char)).before args0 about1 = true := code_word (m := ⟨1, 1⟩) (meth := k1m1) (c := k1c1) (by decide +kernel) rfl rfl rfl (by decide +kernel)
def codes1 : List Jvm.Cond := [Jvm.Cond.code x code maxLocals ret, Jvm.Cond.code ({ cls := "com/example/clausewright/clausewright/Layout", name := "straight", desc := "(C)C" } : Jvm.MethodName) prog_29_method_13_code (1 : Nat) (Option.some Jvm.ClassFile.FieldType.char), Jvm.Cond.code ({ cls := "com/example/clausewright/clausewright/LayoutStraightPinLaw", name := "expected", desc := "(C)C" } : Jvm.MethodName) method_2_code (1 : Nat) (Option.some Jvm.ClassFile.FieldType.char)]
set_option maxRecDepth 65536 in
theorem codes_eq : words1.filter isCode = codes1 := rfl
theorem w_codes : ∀ c ∈ words1.filter isCode, c.before args0 about1 = true := by
  rw [codes_eq]
  intro c hc
  simp only [codes1, List.mem_cons, List.not_mem_nil, or_false] at hc
  rcases hc with rfl | rfl | rfl
  · exact w_c0
  · exact w_c1
  · exact w_c2
set_option maxRecDepth 65536 in
theorem w_t1 : words1.all (fun c => isCode c || c.before args0 about1) = true := by decide +kernel
theorem w_tables : (allAtoms (Jvm.Cond.code x code maxLocals ret :: tables_1)).before args0 about1 = true := by
  rw [allAtoms_all]
  show words1.all (fun c => c.before args0 about1) = true
  refine all_split ?_ w_codes
  rw [w_t1]
set_option maxRecDepth 65536 in
theorem w_case : (Jvm.Cond.and given_1 narrow_1).before args0 about1 = true := by decide +kernel
theorem w_applies : (headSpec (Jvm.Cond.code x code maxLocals ret :: tables_1) room_1).applies x e0.platform about1 = true :=
  (Spec.applies_iff w_frames).mpr ⟨w_running, w_runnable, w_alone, w_named, w_hears, w_ripe, w_room, w_tables⟩
theorem atStart : AtStart classFile x code maxLocals ret World_1 tables_1 room_1 Calls_1 rest_1 Pre_1 launch0 p0 e0 about1 theMethod args0 below0 :=
  ⟨lists_1, trivial, launch0.admits_env _ _ _, launch0.least_env, fairChoices_fair.cas, fairChoices_fair.clock, w_frames, w_args, w_heap, w_applies, trivial, trivial, w_case⟩
end start1
theorem witness_1 : WitnessClaimed_1 := ⟨start1.p0, start1.e0, start1.about1, start1.theMethod, start1.args0, start1.below0, start1.atStart⟩
end Jvm.Pilot.@@N@@
