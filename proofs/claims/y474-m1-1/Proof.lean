import JvmDerived
import JvmDerived.Pilot.@@N@@Statement
import JvmDerived.Pilot.@@N@@Code
set_option linter.unusedVariables false
set_option linter.unusedSimpArgs false
namespace Jvm.Pilot.@@N@@
open Jvm Jvm.ClassFile Sem Op Lib Jvm.Free Jvm.Stand Jvm.LawKit Jvm.RoadKit Bundle Jvm.Pilot.@@N@@.Jvm.D
section OwnKit
variable {p : Program} {l : Launch} {e : Env} {R : Room} {s : State} {m : MethodId} {args : Array Value} {below : List Frame} {meth : Method} {c : Code} {T : State} {locs : List Loc} {cells slots : Nat}
/-- from here the run comes to a state of which K holds -/
def Go (tb : Tables) (e : Env) (below : List Frame) (K : State → Prop) (T : State) : Prop := ∃ U, Steps tb e below T U ∧ K U
theorem Go.st {tb : Tables} {K : State → Prop} {T T' : State} (h : ∀ U, Steps tb e below T' U → Steps tb e below T U) (g : Go tb e below K T') : Go tb e below K T := by
  obtain ⟨U, h1, h2⟩ := g; exact ⟨U, h U h1, h2⟩
theorem Go.tr {tb : Tables} {K : State → Prop} {T T' : State} (h : Steps tb e below T T') (g : Go tb e below K T') : Go tb e below K T := by
  obtain ⟨U, h1, h2⟩ := g; exact ⟨U, h.trans h1, h2⟩
/-- where a body may end -/
def own_Fin (s : State) (below : List Frame) (CC SS : Nat) (Q : Option Value → Heap → List Loc → Prop) (U : State) : Prop :=
  ∃ o, U.status = .running ∧ Ended U below o ∧ ∃ v L, o = .returned v ∧ Q v U.heap L ∧ FrameEnd s o U L CC SS
theorem own_start {tb : Tables} {CC SS : Nat} {Q : Option Value → Heap → List Loc → Prop} {T : State} (g : Go tb e below (own_Fin s below CC SS Q) T) :
    ∃ s₂ o, Steps tb e below T s₂ ∧ s₂.status = .running ∧ Ended s₂ below o ∧ ∃ v L, o = .returned v ∧ Q v s₂.heap L ∧ FrameEnd s o s₂ L CC SS := by
  obtain ⟨U, h1, o, h2, h3, h4⟩ := g; exact ⟨U, o, h1, h2, h3, h4⟩
theorem own_cast {tb : Tables} {K : State → Prop} {f f' : JFrame} (q : f = f') (g : Go tb e below K (T.setTop f')) : Go tb e below K (T.setTop f) := q ▸ g
section Ends
variable {CC SS : Nat} {Q : Option Value → Heap → List Loc → Prop}
theorem own_end (X : Stand p l e R s m args below meth c T locs cells slots) (hlocks : meth.locks = false) {v : Option Value} (hv : meth.sig.returnType = none → v = none) {f : JFrame}
    (k : ∀ fs, (∀ (f : JFrame) (acts : List Action), f.method = m → f.locked = none → f.entered = [] → (doReturn e (T.setTop f) acts v).1 = T.setFrames fs) → Steps p.tables e below (T.setTop f) (T.setFrames fs))
    (hq : Q v T.heap locs) (hc : cells ≤ CC) (hs : slots ≤ SS) : Go p.tables e below (own_Fin s below CC SS Q) (T.setTop f) := by
  obtain ⟨fs, hr, hrun, hended, hW, hsame⟩ := X.leave (v := v) hv hlocks
  exact ⟨_, k fs hr, _, hrun, hended, _, _, rfl, hq, ⟨_, rfl⟩, hW, hsame.mono hc hs⟩
theorem own_ret0 (X : Stand p l e R s m args below meth c T locs cells slots) (hx : p.tables.exec = Jvm.exec) (hlocks : meth.locks = false) {pc : Nat} {Ls : Array Slot} (hret : meth.sig.returnType = none) (hd : decode c.code pc = .ok (.return_, 1))
    (hq : Q none T.heap locs) (hc : cells ≤ CC) (hs : slots ≤ SS) : Go p.tables e below (own_Fin s below CC SS Q) (T.setTop (mkF m pc Ls [])) :=
  own_end X hlocks (fun _ => rfl) (fun _ hr => X.returnOut hx hret hd hr) hq hc hs
theorem own_retN (X : Stand p l e R s m args below meth c T locs cells slots) (hx : p.tables.exec = Jvm.exec) (hlocks : meth.locks = false) {pc : Nat} {Ls : Array Slot} {z : Int32} {t : FieldType} {rest : List Value} (hret : meth.sig.returnType = some t) (ht : t = .boolean ∨ t = .byte ∨ t = .char ∨ t = .short) (hd : decode c.code pc = .ok (.ireturn, 1))
    (hq : Q (some (.int (nar t z))) T.heap locs) (hc : cells ≤ CC) (hs : slots ≤ SS) : Go p.tables e below (own_Fin s below CC SS Q) (T.setTop (mkF m pc Ls (.int z :: rest))) :=
  own_end X hlocks (fun h => by rw [hret] at h; cases h) (fun _ hr => retN X hx hret ht hd hr) hq hc hs
theorem own_retO (X : Stand p l e R s m args below meth c T locs cells slots) (hx : p.tables.exec = Jvm.exec) (hlocks : meth.locks = false) {pc : Nat} {Ls : Array Slot} {w : Value} {t : FieldType} {i : Instr} {rest : List Value} (hret : meth.sig.returnType = some t) (hn : narrow t w = w)
    (hi : (i = .ireturn ∧ (t = .int ∨ t = .boolean ∨ t = .byte ∨ t = .char ∨ t = .short) ∧ ∃ z, w = .int z) ∨ (i = .lreturn ∧ t = .long ∧ ∃ z, w = .long z) ∨ (i = .dreturn ∧ t = .double ∧ ∃ z, w = .double z) ∨ (i = .freturn ∧ t = .float ∧ ∃ z, w = .float z) ∨ (i = .areturn ∧ t.isReference = true ∧ w.isRef = true))
    (hd : decode c.code pc = .ok (i, 1)) (hq : Q (some w) T.heap locs) (hc : cells ≤ CC) (hs : slots ≤ SS) : Go p.tables e below (own_Fin s below CC SS Q) (T.setTop (mkF m pc Ls (w :: rest))) :=
  own_end X hlocks (fun h => by rw [hret] at h; cases h) (fun _ hr => retOut X hx hret hn hi hd hr) hq hc hs
end Ends
end OwnKit
def own_is (c : Int32) : Int32 := if c = 32 then 1 else if c = 9 then 1 else if c = 13 then 1 else if c = 10 then 1 else 0
def own_exp (c : Int32) : Int32 := if 32 < c then 0 else if (((4294977024 : Int64).toUInt64 >>> (c &&& 0x3f).toInt64.toUInt64).toInt64 &&& 1) = 0 then 0 else 1
theorem own_small : ∀ k : Fin 33, own_is (Int32.ofInt (k.1 : Int)) = own_exp (Int32.ofInt (k.1 : Int)) := by decide +kernel
theorem own_law (c : Int32) (h0 : 0 ≤ c.toInt) : own_is c = own_exp c := by
  by_cases h : 32 < c
  · have h32 : (32 : Int32).toInt < c.toInt := Int32.lt_iff_toInt_lt.mp h
    have e : ∀ k : Int32, k.toInt ≤ 32 → ¬ c = k := fun k hk q => by subst q; have : (32 : Int32).toInt = 32 := rfl; omega
    simp [own_is, own_exp, h, e 32 (by decide), e 9 (by decide), e 13 (by decide), e 10 (by decide)]
  · have h32 : ¬ (32 : Int32).toInt < c.toInt := fun q => h (Int32.lt_iff_toInt_lt.mpr q)
    have e32 : (32 : Int32).toInt = 32 := rfl
    have e : Int32.ofInt ((c.toInt.toNat : Nat) : Int) = c := by rw [Int.toNat_of_nonneg h0]; exact Int32.ofInt_toInt c
    have := own_small ⟨c.toInt.toNat, by omega⟩
    rw [e] at this; exact this

theorem d1_0 : decode prog_65_method_2_code 0 = .ok (.iload_n 0, 1) := by decide +kernel
theorem d1_1 : decode prog_65_method_2_code 1 = .ok (.bipush 32, 2) := by decide +kernel
theorem d1_3 : decode prog_65_method_2_code 3 = .ok (.if_icmp .eq 21, 3) := by decide +kernel
theorem d1_6 : decode prog_65_method_2_code 6 = .ok (.iload_n 0, 1) := by decide +kernel
theorem d1_7 : decode prog_65_method_2_code 7 = .ok (.bipush 9, 2) := by decide +kernel
theorem d1_9 : decode prog_65_method_2_code 9 = .ok (.if_icmp .eq 15, 3) := by decide +kernel
theorem d1_12 : decode prog_65_method_2_code 12 = .ok (.iload_n 0, 1) := by decide +kernel
theorem d1_13 : decode prog_65_method_2_code 13 = .ok (.bipush 13, 2) := by decide +kernel
theorem d1_15 : decode prog_65_method_2_code 15 = .ok (.if_icmp .eq 9, 3) := by decide +kernel
theorem d1_18 : decode prog_65_method_2_code 18 = .ok (.iload_n 0, 1) := by decide +kernel
theorem d1_19 : decode prog_65_method_2_code 19 = .ok (.bipush 10, 2) := by decide +kernel
theorem d1_21 : decode prog_65_method_2_code 21 = .ok (.if_icmp .ne 7, 3) := by decide +kernel
theorem d1_24 : decode prog_65_method_2_code 24 = .ok (.iconst 1, 1) := by decide +kernel
theorem d1_25 : decode prog_65_method_2_code 25 = .ok (.goto 4, 3) := by decide +kernel
theorem d1_28 : decode prog_65_method_2_code 28 = .ok (.iconst 0, 1) := by decide +kernel
theorem d1_29 : decode prog_65_method_2_code 29 = .ok (.ireturn, 1) := by decide +kernel
theorem pn_1 : plainFor (⟨"adjunct/core/XmlSpace", "is", "(C)Z"⟩ : MethodName) = true := plainFor_of_name (by first | (simp [plainName, overriddenIn]; done) | decide +kernel)
theorem ef_1 (m : MethodId) (x0 : Int32) : entryFrame m #[(.int x0)] 1 = mkF m 0 #[.val (.int x0)] [] := by first | (simp [entryFrame, mkF, argsToLocals, Value.category]; done) | rfl
def Q1 (Z : State) (p1 : Int32)  (h0 : Heap) (n0 : Nat) (v : Option Value) (h : Heap) (L : List Loc) : Prop := v = some (.int (own_is p1)) ∧ Fr n0 L ∧ h = h0
set_option maxRecDepth 65536 in
set_option maxHeartbeats 40000000 in
theorem rm1 (l : Launch) (Z : State) (a0 : Array Value) (hw : ∀ d ∈ tables_1, d.before a0 Z = true) (ws : List Jvm.Cond) (p1 : Int32)  (h0 : Heap) (n0 : Nat) (Z0 : n0 ≤ h0.size) :
    MetFree l (⟨"adjunct/core/XmlSpace", "is", "(C)Z"⟩ : MethodName) (head1 (Jvm.Cond.code (⟨"adjunct/core/XmlSpace", "is", "(C)Z"⟩ : MethodName) prog_65_method_2_code 1 (some .boolean) :: ws) ({ frames := 0, cells := 0, slots := 0, locals := 0 } : Room)) (fun a U => a = #[(.int p1)] ∧ Z.Warmed39 U.vm ∧ U.heap = h0) (fun _ _ _ _ _ => True) (fun _ U o U' => ∃ v L, o = .returned v ∧ Q1 Z p1 h0 n0 v U'.heap L ∧ FrameEnd U o U' L ({ frames := 0, cells := 0, slots := 0, locals := 0 } : Room).cells ({ frames := 0, cells := 0, slots := 0, locals := 0 } : Room).slots) := by
  refine MetFree.of_bodySF pn_1 hisR ?_
  intro p e s m args below meth c s₁ Bd hml0 hP hK
  obtain ⟨rfl, hZ, hh⟩ := hP
  have hx := Bd.exec
  have hby := Bd.bytes
  have hml : c.maxLocals = 1 := hml0
  have hown : s.vm.findClass "adjunct/core/XmlSpace" = some m.cls := findClass_of_methodNamed Bd.named
  have hnm := (name_of_methodNamed Bd.named Bd.method).1
  have X0 : Stand p l e ({ frames := 0, cells := 0, slots := 0, locals := 0 } : Room) s m #[(.int p1)] below meth c s₁ [] 0 0 := Stand.of_body Bd
  have e0 : s₁.heap = h0 := by rw [← hh, Bd.state]; rfl
  have N0 := Fr.nil n0
  refine own_start (Q := Q1 Z p1 h0 n0) (own_cast (ef_1 m p1) ?_)
  show Go p.tables e below _ (s₁.setTop (mkF m 0 #[.val (.int p1)] []))
  refine Go.st (fun U hr => XS.iloadN X0.here hx rfl (hb hby d1_0) rfl hr) ?_
  show Go p.tables e below _ (s₁.setTop (mkF m 1 #[.val (.int p1)] [(.int p1)]))
  refine Go.st (fun U hr => XS.bipush X0.here hx rfl (hb hby d1_1) hr) ?_
  show Go p.tables e below _ (s₁.setTop (mkF m 3 #[.val (.int p1)] [(.int (32 : Int32)), (.int p1)]))
  by_cases hc3_1 : p1 = (32 : Int32)
  · refine Go.st (fun U hr => XS.icmpYes X0.here hx rfl (pc0 := 3) (pc' := 24) rfl (hb hby d1_3) rfl (teq hc3_1).1 (by decide) (by decide) hr) ?_
    show Go p.tables e below _ (s₁.setTop (mkF m 24 #[.val (.int p1)] []))
    refine Go.st (fun U hr => XS.iconst X0.here hx rfl (hb hby d1_24) hr) ?_
    show Go p.tables e below _ (s₁.setTop (mkF m 25 #[.val (.int p1)] [(.int (1 : Int32))]))
    refine Go.st (fun U hr => XS.goto X0.here hx rfl (pc0 := 25) (pc' := 29) rfl (hb hby d1_25) (by decide) (by decide) hr) ?_
    show Go p.tables e below _ (s₁.setTop (mkF m 29 #[.val (.int p1)] [(.int (1 : Int32))]))
    exact own_retN X0 hx Bd.notSynchronized (t := .boolean) Bd.returns (by simp) (hb hby d1_29) ⟨by simp [own_is, nar, hc3_1], N0, e0⟩ (by decide) (by decide)
  · refine Go.st (fun U hr => XS.icmpNo X0.here hx rfl (hb hby d1_3) rfl (feq hc3_1).1 hr) ?_
    show Go p.tables e below _ (s₁.setTop (mkF m 6 #[.val (.int p1)] []))
    refine Go.st (fun U hr => XS.iloadN X0.here hx rfl (hb hby d1_6) rfl hr) ?_
    show Go p.tables e below _ (s₁.setTop (mkF m 7 #[.val (.int p1)] [(.int p1)]))
    refine Go.st (fun U hr => XS.bipush X0.here hx rfl (hb hby d1_7) hr) ?_
    show Go p.tables e below _ (s₁.setTop (mkF m 9 #[.val (.int p1)] [(.int (9 : Int32)), (.int p1)]))
    by_cases hc9_2 : p1 = (9 : Int32)
    · refine Go.st (fun U hr => XS.icmpYes X0.here hx rfl (pc0 := 9) (pc' := 24) rfl (hb hby d1_9) rfl (teq hc9_2).1 (by decide) (by decide) hr) ?_
      show Go p.tables e below _ (s₁.setTop (mkF m 24 #[.val (.int p1)] []))
      refine Go.st (fun U hr => XS.iconst X0.here hx rfl (hb hby d1_24) hr) ?_
      show Go p.tables e below _ (s₁.setTop (mkF m 25 #[.val (.int p1)] [(.int (1 : Int32))]))
      refine Go.st (fun U hr => XS.goto X0.here hx rfl (pc0 := 25) (pc' := 29) rfl (hb hby d1_25) (by decide) (by decide) hr) ?_
      show Go p.tables e below _ (s₁.setTop (mkF m 29 #[.val (.int p1)] [(.int (1 : Int32))]))
      exact own_retN X0 hx Bd.notSynchronized (t := .boolean) Bd.returns (by simp) (hb hby d1_29) ⟨by simp [own_is, nar, hc3_1, hc9_2], N0, e0⟩ (by decide) (by decide)
    · refine Go.st (fun U hr => XS.icmpNo X0.here hx rfl (hb hby d1_9) rfl (feq hc9_2).1 hr) ?_
      show Go p.tables e below _ (s₁.setTop (mkF m 12 #[.val (.int p1)] []))
      refine Go.st (fun U hr => XS.iloadN X0.here hx rfl (hb hby d1_12) rfl hr) ?_
      show Go p.tables e below _ (s₁.setTop (mkF m 13 #[.val (.int p1)] [(.int p1)]))
      refine Go.st (fun U hr => XS.bipush X0.here hx rfl (hb hby d1_13) hr) ?_
      show Go p.tables e below _ (s₁.setTop (mkF m 15 #[.val (.int p1)] [(.int (13 : Int32)), (.int p1)]))
      by_cases hc15_3 : p1 = (13 : Int32)
      · refine Go.st (fun U hr => XS.icmpYes X0.here hx rfl (pc0 := 15) (pc' := 24) rfl (hb hby d1_15) rfl (teq hc15_3).1 (by decide) (by decide) hr) ?_
        show Go p.tables e below _ (s₁.setTop (mkF m 24 #[.val (.int p1)] []))
        refine Go.st (fun U hr => XS.iconst X0.here hx rfl (hb hby d1_24) hr) ?_
        show Go p.tables e below _ (s₁.setTop (mkF m 25 #[.val (.int p1)] [(.int (1 : Int32))]))
        refine Go.st (fun U hr => XS.goto X0.here hx rfl (pc0 := 25) (pc' := 29) rfl (hb hby d1_25) (by decide) (by decide) hr) ?_
        show Go p.tables e below _ (s₁.setTop (mkF m 29 #[.val (.int p1)] [(.int (1 : Int32))]))
        exact own_retN X0 hx Bd.notSynchronized (t := .boolean) Bd.returns (by simp) (hb hby d1_29) ⟨by simp [own_is, nar, hc3_1, hc9_2, hc15_3], N0, e0⟩ (by decide) (by decide)
      · refine Go.st (fun U hr => XS.icmpNo X0.here hx rfl (hb hby d1_15) rfl (feq hc15_3).1 hr) ?_
        show Go p.tables e below _ (s₁.setTop (mkF m 18 #[.val (.int p1)] []))
        refine Go.st (fun U hr => XS.iloadN X0.here hx rfl (hb hby d1_18) rfl hr) ?_
        show Go p.tables e below _ (s₁.setTop (mkF m 19 #[.val (.int p1)] [(.int p1)]))
        refine Go.st (fun U hr => XS.bipush X0.here hx rfl (hb hby d1_19) hr) ?_
        show Go p.tables e below _ (s₁.setTop (mkF m 21 #[.val (.int p1)] [(.int (10 : Int32)), (.int p1)]))
        by_cases hc21_4 : p1 = (10 : Int32)
        · refine Go.st (fun U hr => XS.icmpNo X0.here hx rfl (hb hby d1_21) rfl (teq hc21_4).2 hr) ?_
          show Go p.tables e below _ (s₁.setTop (mkF m 24 #[.val (.int p1)] []))
          refine Go.st (fun U hr => XS.iconst X0.here hx rfl (hb hby d1_24) hr) ?_
          show Go p.tables e below _ (s₁.setTop (mkF m 25 #[.val (.int p1)] [(.int (1 : Int32))]))
          refine Go.st (fun U hr => XS.goto X0.here hx rfl (pc0 := 25) (pc' := 29) rfl (hb hby d1_25) (by decide) (by decide) hr) ?_
          show Go p.tables e below _ (s₁.setTop (mkF m 29 #[.val (.int p1)] [(.int (1 : Int32))]))
          exact own_retN X0 hx Bd.notSynchronized (t := .boolean) Bd.returns (by simp) (hb hby d1_29) ⟨by simp [own_is, nar, hc3_1, hc9_2, hc15_3, hc21_4], N0, e0⟩ (by decide) (by decide)
        · refine Go.st (fun U hr => XS.icmpYes X0.here hx rfl (pc0 := 21) (pc' := 28) rfl (hb hby d1_21) rfl (feq hc21_4).2 (by decide) (by decide) hr) ?_
          show Go p.tables e below _ (s₁.setTop (mkF m 28 #[.val (.int p1)] []))
          refine Go.st (fun U hr => XS.iconst X0.here hx rfl (hb hby d1_28) hr) ?_
          show Go p.tables e below _ (s₁.setTop (mkF m 29 #[.val (.int p1)] [(.int (0 : Int32))]))
          exact own_retN X0 hx Bd.notSynchronized (t := .boolean) Bd.returns (by simp) (hb hby d1_29) ⟨by simp [own_is, nar, hc3_1, hc9_2, hc15_3, hc21_4], N0, e0⟩ (by decide) (by decide)
theorem d2_0 : decode method_2_code 0 = .ok (.iload_n 0, 1) := by decide +kernel
theorem d2_1 : decode method_2_code 1 = .ok (.istore_n 1, 1) := by decide +kernel
theorem d2_2 : decode method_2_code 2 = .ok (.iload_n 1, 1) := by decide +kernel
theorem d2_3 : decode method_2_code 3 = .ok (.bipush 32, 2) := by decide +kernel
theorem d2_5 : decode method_2_code 5 = .ok (.if_icmp .le 5, 3) := by decide +kernel
theorem d2_8 : decode method_2_code 8 = .ok (.iconst 0, 1) := by decide +kernel
theorem d2_9 : decode method_2_code 9 = .ok (.ireturn, 1) := by decide +kernel
theorem d2_10 : decode method_2_code 10 = .ok (.ldc2_w 7, 3) := by decide +kernel
theorem d2_13 : decode method_2_code 13 = .ok (.lstore_n 2, 1) := by decide +kernel
theorem d2_14 : decode method_2_code 14 = .ok (.lload_n 2, 1) := by decide +kernel
theorem d2_15 : decode method_2_code 15 = .ok (.iload_n 1, 1) := by decide +kernel
theorem d2_16 : decode method_2_code 16 = .ok (.lushr, 1) := by decide +kernel
theorem d2_17 : decode method_2_code 17 = .ok (.lconst 1, 1) := by decide +kernel
theorem d2_18 : decode method_2_code 18 = .ok (.land, 1) := by decide +kernel
theorem d2_19 : decode method_2_code 19 = .ok (.lconst 0, 1) := by decide +kernel
theorem d2_20 : decode method_2_code 20 = .ok (.lcmp, 1) := by decide +kernel
theorem d2_21 : decode method_2_code 21 = .ok (.ifCond .eq 7, 3) := by decide +kernel
theorem d2_24 : decode method_2_code 24 = .ok (.iconst 1, 1) := by decide +kernel
theorem d2_25 : decode method_2_code 25 = .ok (.goto 4, 3) := by decide +kernel
theorem d2_28 : decode method_2_code 28 = .ok (.iconst 0, 1) := by decide +kernel
theorem d2_29 : decode method_2_code 29 = .ok (.ireturn, 1) := by decide +kernel
theorem pn_2 : plainFor (⟨"adjunct/core/XmlSpaceIsPinLaw", "expected", "(C)Z"⟩ : MethodName) = true := plainFor_of_name (by first | (simp [plainName, overriddenIn]; done) | decide +kernel)
theorem ef_2 (m : MethodId) (x0 : Int32) : entryFrame m #[(.int x0)] 4 = mkF m 0 #[.val (.int x0), .unset, .unset, .unset] [] := by first | (simp [entryFrame, mkF, argsToLocals, Value.category]; done) | rfl
def Q2 (Z : State) (p1 : Int32)  (h0 : Heap) (n0 : Nat) (v : Option Value) (h : Heap) (L : List Loc) : Prop := v = some (.int (own_exp p1)) ∧ Fr n0 L ∧ h = h0
set_option maxRecDepth 65536 in
set_option maxHeartbeats 40000000 in
theorem rm2 (l : Launch) (Z : State) (a0 : Array Value) (hw : ∀ d ∈ tables_1, d.before a0 Z = true) (ws : List Jvm.Cond) (p1 : Int32)  (h0 : Heap) (n0 : Nat) (Z0 : n0 ≤ h0.size) :
    MetFree l (⟨"adjunct/core/XmlSpaceIsPinLaw", "expected", "(C)Z"⟩ : MethodName) (head1 (Jvm.Cond.code (⟨"adjunct/core/XmlSpaceIsPinLaw", "expected", "(C)Z"⟩ : MethodName) method_2_code 4 (some .boolean) :: ws) ({ frames := 0, cells := 0, slots := 0, locals := 0 } : Room)) (fun a U => a = #[(.int p1)] ∧ Z.Warmed39 U.vm ∧ U.heap = h0) (fun _ _ _ _ _ => True) (fun _ U o U' => ∃ v L, o = .returned v ∧ Q2 Z p1 h0 n0 v U'.heap L ∧ FrameEnd U o U' L ({ frames := 0, cells := 0, slots := 0, locals := 0 } : Room).cells ({ frames := 0, cells := 0, slots := 0, locals := 0 } : Room).slots) := by
  refine MetFree.of_bodySF pn_2 hisR ?_
  intro p e s m args below meth c s₁ Bd hml0 hP hK
  obtain ⟨rfl, hZ, hh⟩ := hP
  have hx := Bd.exec
  have hby := Bd.bytes
  have hml : c.maxLocals = 4 := hml0
  have hown : s.vm.findClass "adjunct/core/XmlSpaceIsPinLaw" = some m.cls := findClass_of_methodNamed Bd.named
  have hnm := (name_of_methodNamed Bd.named Bd.method).1
  have X0 : Stand p l e ({ frames := 0, cells := 0, slots := 0, locals := 0 } : Room) s m #[(.int p1)] below meth c s₁ [] 0 0 := Stand.of_body Bd
  have e0 : s₁.heap = h0 := by rw [← hh, Bd.state]; rfl
  have N0 := Fr.nil n0
  refine own_start (Q := Q2 Z p1 h0 n0) (own_cast (ef_2 m p1) ?_)
  show Go p.tables e below _ (s₁.setTop (mkF m 0 #[.val (.int p1), .unset, .unset, .unset] []))
  refine Go.st (fun U hr => XS.iloadN X0.here hx rfl (hb hby d2_0) rfl hr) ?_
  show Go p.tables e below _ (s₁.setTop (mkF m 1 #[.val (.int p1), .unset, .unset, .unset] [(.int p1)]))
  refine Go.st (fun U hr => XS.istoreN X0.here hx rfl (hb hby d2_1) rfl (l' := #[.val (.int p1), .val (.int p1), .unset, .unset]) rfl hr) ?_
  show Go p.tables e below _ (s₁.setTop (mkF m 2 #[.val (.int p1), .val (.int p1), .unset, .unset] []))
  refine Go.st (fun U hr => XS.iloadN X0.here hx rfl (hb hby d2_2) rfl hr) ?_
  show Go p.tables e below _ (s₁.setTop (mkF m 3 #[.val (.int p1), .val (.int p1), .unset, .unset] [(.int p1)]))
  refine Go.st (fun U hr => XS.bipush X0.here hx rfl (hb hby d2_3) hr) ?_
  show Go p.tables e below _ (s₁.setTop (mkF m 5 #[.val (.int p1), .val (.int p1), .unset, .unset] [(.int (32 : Int32)), (.int p1)]))
  by_cases hc5_1 : (32 : Int32) < p1
  · refine Go.st (fun U hr => XS.icmpNo X0.here hx rfl (hb hby d2_5) rfl (tlt hc5_1).2.2.2 hr) ?_
    show Go p.tables e below _ (s₁.setTop (mkF m 8 #[.val (.int p1), .val (.int p1), .unset, .unset] []))
    refine Go.st (fun U hr => XS.iconst X0.here hx rfl (hb hby d2_8) hr) ?_
    show Go p.tables e below _ (s₁.setTop (mkF m 9 #[.val (.int p1), .val (.int p1), .unset, .unset] [(.int (0 : Int32))]))
    exact own_retN X0 hx Bd.notSynchronized (t := .boolean) Bd.returns (by simp) (hb hby d2_9) ⟨by unfold own_exp; rw [if_pos hc5_1] <;> rfl, N0, e0⟩ (by decide) (by decide)
  · refine Go.st (fun U hr => XS.icmpYes X0.here hx rfl (pc0 := 5) (pc' := 10) rfl (hb hby d2_5) rfl (flt hc5_1).2.2.2 (by decide) (by decide) hr) ?_
    show Go p.tables e below _ (s₁.setTop (mkF m 10 #[.val (.int p1), .val (.int p1), .unset, .unset] []))
    refine Go.st (X0.ldc2Long hx hown (mvT hZ (hw _ (List.mem_of_getElem? (i := 8) rfl))) (g := (mkF m 10 #[.val (.int p1), .val (.int p1), .unset, .unset] [])) rfl (hb hby d2_10)) ?_
    show Go p.tables e below _ (s₁.setTop (mkF m 13 #[.val (.int p1), .val (.int p1), .unset, .unset] [(.long (4294977024 : Int64))]))
    refine Go.st (fun U hr => XS.lstoreN X0.here hx rfl (hb hby d2_13) rfl (l' := #[.val (.int p1), .val (.int p1), .val (.long (4294977024 : Int64)), .second]) rfl hr) ?_
    show Go p.tables e below _ (s₁.setTop (mkF m 14 #[.val (.int p1), .val (.int p1), .val (.long (4294977024 : Int64)), .second] []))
    refine Go.st (fun U hr => XS.lloadN X0.here hx rfl (hb hby d2_14) rfl hr) ?_
    show Go p.tables e below _ (s₁.setTop (mkF m 15 #[.val (.int p1), .val (.int p1), .val (.long (4294977024 : Int64)), .second] [(.long (4294977024 : Int64))]))
    refine Go.st (fun U hr => XS.iloadN X0.here hx rfl (hb hby d2_15) rfl hr) ?_
    show Go p.tables e below _ (s₁.setTop (mkF m 16 #[.val (.int p1), .val (.int p1), .val (.long (4294977024 : Int64)), .second] [(.int p1), (.long (4294977024 : Int64))]))
    refine Go.st (fun U hr => XS.lushr X0.here hx rfl (hb hby d2_16) rfl hr) ?_
    show Go p.tables e below _ (s₁.setTop (mkF m 17 #[.val (.int p1), .val (.int p1), .val (.long (4294977024 : Int64)), .second] [(.long (((4294977024 : Int64).toUInt64 >>> (p1 &&& 0x3f).toInt64.toUInt64).toInt64))]))
    refine Go.st (fun U hr => XS.lconst X0.here hx rfl (hb hby d2_17) hr) ?_
    show Go p.tables e below _ (s₁.setTop (mkF m 18 #[.val (.int p1), .val (.int p1), .val (.long (4294977024 : Int64)), .second] [(.long (1 : Int64)), (.long (((4294977024 : Int64).toUInt64 >>> (p1 &&& 0x3f).toInt64.toUInt64).toInt64))]))
    refine Go.st (fun U hr => XS.land X0.here hx rfl (hb hby d2_18) rfl hr) ?_
    show Go p.tables e below _ (s₁.setTop (mkF m 19 #[.val (.int p1), .val (.int p1), .val (.long (4294977024 : Int64)), .second] [(.long ((((4294977024 : Int64).toUInt64 >>> (p1 &&& 0x3f).toInt64.toUInt64).toInt64) &&& (1 : Int64)))]))
    refine Go.st (fun U hr => XS.lconst X0.here hx rfl (hb hby d2_19) hr) ?_
    show Go p.tables e below _ (s₁.setTop (mkF m 20 #[.val (.int p1), .val (.int p1), .val (.long (4294977024 : Int64)), .second] [(.long (0 : Int64)), (.long ((((4294977024 : Int64).toUInt64 >>> (p1 &&& 0x3f).toInt64.toUInt64).toInt64) &&& (1 : Int64)))]))
    refine Go.st (fun U hr => XS.lcmp X0.here hx rfl (hb hby d2_20) rfl hr) ?_
    show Go p.tables e below _ (s₁.setTop (mkF m 21 #[.val (.int p1), .val (.int p1), .val (.long (4294977024 : Int64)), .second] [(.int (lcmpW ((((4294977024 : Int64).toUInt64 >>> (p1 &&& 0x3f).toInt64.toUInt64).toInt64) &&& (1 : Int64)) (0 : Int64)))]))
    by_cases hc21_2 : ((((4294977024 : Int64).toUInt64 >>> (p1 &&& 0x3f).toInt64.toUInt64).toInt64) &&& (1 : Int64)) = (0 : Int64)
    · refine Go.st (fun U hr => XS.ifYes X0.here hx rfl (pc0 := 21) (pc' := 28) rfl (hb hby d2_21) rfl ((if0 _ _).trans (teq ((lw_eq ((((4294977024 : Int64).toUInt64 >>> (p1 &&& 0x3f).toInt64.toUInt64).toInt64) &&& (1 : Int64)) (0 : Int64)).2 hc21_2)).1) (by decide) (by decide) hr) ?_
      show Go p.tables e below _ (s₁.setTop (mkF m 28 #[.val (.int p1), .val (.int p1), .val (.long (4294977024 : Int64)), .second] []))
      refine Go.st (fun U hr => XS.iconst X0.here hx rfl (hb hby d2_28) hr) ?_
      show Go p.tables e below _ (s₁.setTop (mkF m 29 #[.val (.int p1), .val (.int p1), .val (.long (4294977024 : Int64)), .second] [(.int (0 : Int32))]))
      exact own_retN X0 hx Bd.notSynchronized (t := .boolean) Bd.returns (by simp) (hb hby d2_29) ⟨by unfold own_exp; rw [if_neg hc5_1, if_pos hc21_2] <;> rfl, N0, e0⟩ (by decide) (by decide)
    · refine Go.st (fun U hr => XS.ifNo X0.here hx rfl (hb hby d2_21) rfl ((if0 _ _).trans (feq (fun q => hc21_2 ((lw_eq ((((4294977024 : Int64).toUInt64 >>> (p1 &&& 0x3f).toInt64.toUInt64).toInt64) &&& (1 : Int64)) (0 : Int64)).1 q))).1) hr) ?_
      show Go p.tables e below _ (s₁.setTop (mkF m 24 #[.val (.int p1), .val (.int p1), .val (.long (4294977024 : Int64)), .second] []))
      refine Go.st (fun U hr => XS.iconst X0.here hx rfl (hb hby d2_24) hr) ?_
      show Go p.tables e below _ (s₁.setTop (mkF m 25 #[.val (.int p1), .val (.int p1), .val (.long (4294977024 : Int64)), .second] [(.int (1 : Int32))]))
      refine Go.st (fun U hr => XS.goto X0.here hx rfl (pc0 := 25) (pc' := 29) rfl (hb hby d2_25) (by decide) (by decide) hr) ?_
      show Go p.tables e below _ (s₁.setTop (mkF m 29 #[.val (.int p1), .val (.int p1), .val (.long (4294977024 : Int64)), .second] [(.int (1 : Int32))]))
      exact own_retN X0 hx Bd.notSynchronized (t := .boolean) Bd.returns (by simp) (hb hby d2_29) ⟨by unfold own_exp; rw [if_neg hc5_1, if_neg hc21_2] <;> rfl, N0, e0⟩ (by decide) (by decide)
theorem pn_0 : plainFor x = true := plainFor_of_name (by first | (simp [plainName, overriddenIn]; done) | decide +kernel)
theorem ef_0 (m : MethodId) (x0 : Int32) (x1 : Int32) : entryFrame m #[(.int x0), (.int x1)] maxLocals = mkF m 0 #[.val (.int x0), .val (.int x1), .unset] [] := by first | (simp [entryFrame, mkF, argsToLocals, Value.category, maxLocals]; done) | rfl
theorem pd_0 : parseMethodDescriptor "(C)Z" = some ⟨[.char], some .boolean⟩ := by decide +kernel
def Q0 (Z : State) (p1 : Int32) (p2 : Int32)  (h0 : Heap) (n0 : Nat) (v : Option Value) (h : Heap) (L : List Loc) : Prop := v = some (.int 1) ∧ Fr n0 L
set_option maxRecDepth 65536 in
set_option maxHeartbeats 40000000 in
theorem rm0 (l : Launch) (Z : State) (a0 : Array Value) (hw : ∀ d ∈ tables_1, d.before a0 Z = true) (ws : List Jvm.Cond) (p1 : Int32) (p2 : Int32)  (h0 : Heap) (n0 : Nat) (Z0 : n0 ≤ h0.size) :
    MetFree l x (head1 (Jvm.Cond.code x code maxLocals ret :: ws) room_1) (fun a U => a = #[(.int p1), (.int p2)] ∧ Z.Warmed39 U.vm ∧ U.heap = h0) (fun _ _ _ _ _ => True) (fun _ U o U' => ∃ v L, o = .returned v ∧ Q0 Z p1 p2 h0 n0 v U'.heap L ∧ FrameEnd U o U' L room_1.cells room_1.slots) := by
  refine MetFree.of_bodySF pn_0 hisR ?_
  intro p e s m args below meth c s₁ Bd hml0 hP hK
  obtain ⟨rfl, hZ, hh⟩ := hP
  have hx := Bd.exec
  have hby := Bd.bytes
  have hml : c.maxLocals = 3 := hml0
  have hown : s.vm.findClass "adjunct/core/XmlSpaceIsPinLaw" = some m.cls := findClass_of_methodNamed Bd.named
  have hnm := (name_of_methodNamed Bd.named Bd.method).1
  have X0 : Stand p l e room_1 s m #[(.int p1), (.int p2)] below meth c s₁ [] 0 0 := Stand.of_body Bd
  have e0 : s₁.heap = h0 := by rw [← hh, Bd.state]; rfl
  have N0 := Fr.nil n0
  refine own_start (Q := Q0 Z p1 p2 h0 n0) (own_cast (ef_0 m p1 p2) ?_)
  show Go p.tables e below _ (s₁.setTop (mkF m 0 #[.val (.int p1), .val (.int p2), .unset] []))
  refine Go.st (fun U hr => XS.iloadN X0.here hx rfl (hb hby at_0) rfl hr) ?_
  show Go p.tables e below _ (s₁.setTop (mkF m 1 #[.val (.int p1), .val (.int p2), .unset] [(.int p1)]))
  refine Go.st (fun U hr => XS.iconst X0.here hx rfl (hb hby at_1) hr) ?_
  show Go p.tables e below _ (s₁.setTop (mkF m 2 #[.val (.int p1), .val (.int p2), .unset] [(.int (1 : Int32)), (.int p1)]))
  refine Go.st (fun U hr => XS.iand X0.here hx rfl (hb hby at_2) rfl hr) ?_
  show Go p.tables e below _ (s₁.setTop (mkF m 3 #[.val (.int p1), .val (.int p2), .unset] [(.int (p1 &&& (1 : Int32)))]))
  suffices hj3_1 : Go p.tables e below _ (s₁.setTop (mkF m 21 #[.val (.int p1), .val (.int p2), .val (.int (if (p1 &&& (1 : Int32)) = (0 : Int32) then ((p2 &&& (63 : Int32)).toUInt32.toUInt16.toUInt32.toInt32) else ((p2 &&& (65535 : Int32)).toUInt32.toUInt16.toUInt32.toInt32)))] [])) by
    by_cases hc3_1 : (p1 &&& (1 : Int32)) = (0 : Int32)
    · refine Go.st (fun U hr => XS.ifNo X0.here hx rfl (hb hby at_3) rfl ((if0 _ _).trans (teq hc3_1).2) hr) ?_
      show Go p.tables e below _ (s₁.setTop (mkF m 6 #[.val (.int p1), .val (.int p2), .unset] []))
      refine Go.st (fun U hr => XS.iloadN X0.here hx rfl (hb hby at_6) rfl hr) ?_
      show Go p.tables e below _ (s₁.setTop (mkF m 7 #[.val (.int p1), .val (.int p2), .unset] [(.int p2)]))
      refine Go.st (fun U hr => XS.bipush X0.here hx rfl (hb hby at_7) hr) ?_
      show Go p.tables e below _ (s₁.setTop (mkF m 9 #[.val (.int p1), .val (.int p2), .unset] [(.int (63 : Int32)), (.int p2)]))
      refine Go.st (fun U hr => XS.iand X0.here hx rfl (hb hby at_9) rfl hr) ?_
      show Go p.tables e below _ (s₁.setTop (mkF m 10 #[.val (.int p1), .val (.int p2), .unset] [(.int (p2 &&& (63 : Int32)))]))
      refine Go.st (fun U hr => XS.i2c X0.here hx rfl (hb hby at_10) rfl hr) ?_
      show Go p.tables e below _ (s₁.setTop (mkF m 11 #[.val (.int p1), .val (.int p2), .unset] [(.int ((p2 &&& (63 : Int32)).toUInt32.toUInt16.toUInt32.toInt32))]))
      refine Go.st (fun U hr => XS.istoreN X0.here hx rfl (hb hby at_11) rfl (l' := #[.val (.int p1), .val (.int p2), .val (.int ((p2 &&& (63 : Int32)).toUInt32.toUInt16.toUInt32.toInt32))]) rfl hr) ?_
      show Go p.tables e below _ (s₁.setTop (mkF m 12 #[.val (.int p1), .val (.int p2), .val (.int ((p2 &&& (63 : Int32)).toUInt32.toUInt16.toUInt32.toInt32))] []))
      refine Go.st (fun U hr => XS.goto X0.here hx rfl (pc0 := 12) (pc' := 21) rfl (hb hby at_12) (by decide) (by decide) hr) ?_
      show Go p.tables e below _ (s₁.setTop (mkF m 21 #[.val (.int p1), .val (.int p2), .val (.int ((p2 &&& (63 : Int32)).toUInt32.toUInt16.toUInt32.toInt32))] []))
      simpa only [if_pos hc3_1] using hj3_1
    · refine Go.st (fun U hr => XS.ifYes X0.here hx rfl (pc0 := 3) (pc' := 15) rfl (hb hby at_3) rfl ((if0 _ _).trans (feq hc3_1).2) (by decide) (by decide) hr) ?_
      show Go p.tables e below _ (s₁.setTop (mkF m 15 #[.val (.int p1), .val (.int p2), .unset] []))
      refine Go.st (fun U hr => XS.iloadN X0.here hx rfl (hb hby at_15) rfl hr) ?_
      show Go p.tables e below _ (s₁.setTop (mkF m 16 #[.val (.int p1), .val (.int p2), .unset] [(.int p2)]))
      refine Go.st (X0.ldcInt hx hown (mvT hZ (hw _ (List.mem_of_getElem? (i := 9) rfl))) (g := (mkF m 16 #[.val (.int p1), .val (.int p2), .unset] [(.int p2)])) rfl (hb hby at_16)) ?_
      show Go p.tables e below _ (s₁.setTop (mkF m 18 #[.val (.int p1), .val (.int p2), .unset] [(.int (65535 : Int32)), (.int p2)]))
      refine Go.st (fun U hr => XS.iand X0.here hx rfl (hb hby at_18) rfl hr) ?_
      show Go p.tables e below _ (s₁.setTop (mkF m 19 #[.val (.int p1), .val (.int p2), .unset] [(.int (p2 &&& (65535 : Int32)))]))
      refine Go.st (fun U hr => XS.i2c X0.here hx rfl (hb hby at_19) rfl hr) ?_
      show Go p.tables e below _ (s₁.setTop (mkF m 20 #[.val (.int p1), .val (.int p2), .unset] [(.int ((p2 &&& (65535 : Int32)).toUInt32.toUInt16.toUInt32.toInt32))]))
      refine Go.st (fun U hr => XS.istoreN X0.here hx rfl (hb hby at_20) rfl (l' := #[.val (.int p1), .val (.int p2), .val (.int ((p2 &&& (65535 : Int32)).toUInt32.toUInt16.toUInt32.toInt32))]) rfl hr) ?_
      show Go p.tables e below _ (s₁.setTop (mkF m 21 #[.val (.int p1), .val (.int p2), .val (.int ((p2 &&& (65535 : Int32)).toUInt32.toUInt16.toUInt32.toInt32))] []))
      simpa only [if_neg hc3_1] using hj3_1
  generalize h_cc : (if (p1 &&& (1 : Int32)) = (0 : Int32) then ((p2 &&& (63 : Int32)).toUInt32.toUInt16.toUInt32.toInt32) else ((p2 &&& (65535 : Int32)).toUInt32.toUInt16.toUInt32.toInt32)) = cc
  have hcc : 0 ≤ cc.toInt := by subst h_cc; split <;> exact (c_i2c _).2.1
  refine Go.st (fun U hr => XS.iloadN X0.here hx rfl (hb hby at_21) rfl hr) ?_
  show Go p.tables e below _ (s₁.setTop (mkF m 22 #[.val (.int p1), .val (.int p2), .val (.int cc)] [(.int cc)]))
  obtain ⟨_, _, ⟨T2, L2, k2, n2⟩, -, X2, ⟨Lc2, hQ2, l2, y2, z2⟩, st2⟩ := Jvm.LawKit.callS X0 hx (y := (⟨"adjunct/core/XmlSpace", "is", "(C)Z"⟩ : MethodName)) hown (mvT hZ (hw _ (List.mem_of_getElem? (i := 0) rfl))) (mvT hZ (hw _ (List.mem_of_getElem? (i := 1) rfl))) (mvT hZ (hw _ (List.mem_of_getElem? (i := 2) rfl))) (mvT hZ (hw _ (List.mem_of_getElem? (i := 3) rfl))) (by decide) (backOf (W := 0) (rm1 l Z a0 hw [] cc h0 n0 Z0) hZ (hw _ (List.mem_of_getElem? (i := 3) rfl)) (hw _ (List.mem_of_getElem? (i := 2) rfl)) (by decide) (by decide)) (g := (mkF m 22 #[.val (.int p1), .val (.int p2), .val (.int cc)] [(.int cc)])) rfl (by rw [hml]; rfl) (argsL := [(.int cc)]) (rest := []) (lenOf pd_0 rfl) rfl (by show 2 * 0 + _ ≤ _; exact Nat.le_of_eq rfl) (hb hby at_22) (fun _ _ => ⟨rfl, e0, (by decide : 0 + 0 ≤ _), (by decide : 0 + 0 ≤ _)⟩)
  dsimp only [Pt.U, Pt.locs, Pt.cells, Pt.slots] at X2 l2 y2 z2 st2 hQ2
  subst l2 y2 z2
  obtain ⟨rfl, Nq2, ee2⟩ := hQ2
  have N2 := Fr.app N0 Nq2
  refine Go.st st2 ?_
  show Go p.tables e below _ (T2.setTop (mkF m 25 #[.val (.int p1), .val (.int p2), .val (.int cc)] [(.int (own_is cc))]))
  refine Go.st (fun U hr => XS.iloadN X2.here hx rfl (hb hby at_25) rfl hr) ?_
  show Go p.tables e below _ (T2.setTop (mkF m 26 #[.val (.int p1), .val (.int p2), .val (.int cc)] [(.int cc), (.int (own_is cc))]))
  obtain ⟨_, _, ⟨T3, L3, k3, n3⟩, -, X3, ⟨Lc3, hQ3, l3, y3, z3⟩, st3⟩ := Jvm.LawKit.callS X2 hx (y := (⟨"adjunct/core/XmlSpaceIsPinLaw", "expected", "(C)Z"⟩ : MethodName)) hown (mvT hZ (hw _ (List.mem_of_getElem? (i := 4) rfl))) (mvT hZ (hw _ (List.mem_of_getElem? (i := 5) rfl))) (mvT hZ (hw _ (List.mem_of_getElem? (i := 6) rfl))) (mvT hZ (hw _ (List.mem_of_getElem? (i := 7) rfl))) (by decide) (backOf (W := 1) (rm2 l Z a0 hw [] cc h0 n0 Z0) hZ (hw _ (List.mem_of_getElem? (i := 7) rfl)) (hw _ (List.mem_of_getElem? (i := 6) rfl)) (by decide) (by decide)) (g := (mkF m 26 #[.val (.int p1), .val (.int p2), .val (.int cc)] [(.int cc), (.int (own_is cc))])) rfl (by rw [hml]; rfl) (argsL := [(.int cc)]) (rest := [(.int (own_is cc))]) (lenOf pd_0 rfl) rfl (by show 2 * 0 + _ ≤ _; exact Nat.le_of_eq rfl) (hb hby at_26) (fun _ _ => ⟨rfl, (ee2.trans rfl), (by decide : 0 + 0 ≤ _), (by decide : 0 + 0 ≤ _)⟩)
  dsimp only [Pt.U, Pt.locs, Pt.cells, Pt.slots] at X3 l3 y3 z3 st3 hQ3
  subst l3 y3 z3
  obtain ⟨rfl, Nq3, ee3⟩ := hQ3
  have N3 := Fr.app N2 Nq3
  refine Go.st st3 ?_
  show Go p.tables e below _ (T3.setTop (mkF m 29 #[.val (.int p1), .val (.int p2), .val (.int cc)] [(.int (own_exp cc)), (.int (own_is cc))]))
  have hc29_4 : (own_is cc) = (own_exp cc) := own_law cc hcc
  refine Go.st (fun U hr => XS.icmpNo X3.here hx rfl (hb hby at_29) rfl (teq hc29_4).2 hr) ?_
  show Go p.tables e below _ (T3.setTop (mkF m 32 #[.val (.int p1), .val (.int p2), .val (.int cc)] []))
  refine Go.st (fun U hr => XS.iconst X3.here hx rfl (hb hby at_32) hr) ?_
  show Go p.tables e below _ (T3.setTop (mkF m 33 #[.val (.int p1), .val (.int p2), .val (.int cc)] [(.int (1 : Int32))]))
  refine Go.st (fun U hr => XS.goto X3.here hx rfl (pc0 := 33) (pc' := 37) rfl (hb hby at_33) (by decide) (by decide) hr) ?_
  show Go p.tables e below _ (T3.setTop (mkF m 37 #[.val (.int p1), .val (.int p2), .val (.int cc)] [(.int (1 : Int32))]))
  exact own_retN X3 hx Bd.notSynchronized (t := .boolean) Bd.returns (by simp) (hb hby at_37) ⟨rfl, N3⟩ (by decide) (by decide)
set_option maxRecDepth 65536 in
set_option maxHeartbeats 40000000 in
theorem comes_1 {Post : Tables → Env → Array Value → State → Outcome → State → Prop} (hpost : ∀ tb e args s v u, (limb_1_1.after args s (.returned v) u = true ∧ limb_1_2.after args s (.returned v) u = true ∧ True) → FrameEnd s (.returned v) u (Jvm.fieldLocs frame_1_writes args s ++ Jvm.arrayLocs frame_1_arrays args s ++ Jvm.staticLocs frame_1_statics s) 0 0 → Post tb e args s (.returned v) u) :
    ArmFor flags0 classFile x code maxLocals ret World_1 tables_1 room_1 Calls_1 rest_1 Pre_1 Post := by
  intro l hfl _ _ p e ha hc hk s m args below hf hA hF happ hP
  obtain ⟨hcalls, hrest, hpre⟩ := hP
  obtain ⟨-, -, -, hnamed, -, -, -, hat⟩ := (Spec.applies_iff hf).mp happ
  obtain ⟨hg, hn⟩ := and_e (Cond.before_iff.mp (show (Jvm.Cond.and given_1 narrow_1).before args s = true from hpre))
  obtain ⟨h1, h2⟩ := and_e hg
  obtain ⟨w0, w1, rfl⟩ : ∃ w0 w1 : Value, args = #[w0, w1] := by
    have hs : args.size = 2 := by simpa [Cond.value, given_1] using h1
    obtain ⟨L⟩ := args
    match L, hs with
    | [w0, w1], _ => exact ⟨w0, w1, rfl⟩
  have hw := fun d (hd : d ∈ tables_1) => atoms_spec (ws := Jvm.Cond.code x code maxLocals ret :: tables_1) hat d (List.mem_cons_of_mem _ hd)
  have hfit : Fit s := fun {y c} hc i hi => by
    obtain ⟨ha, rfl⟩ := Array.getElem?_eq_some_iff.mp hc
    have q := List.all_eq_true.mp ((Array.all_eq_true_iff_forall_mem.mp hF) _ (Array.getElem_mem ha)) i (List.mem_range.mpr hi)
    simpa [Array.getElem?_eq_getElem hi] using q
  obtain ⟨ha0, hb0⟩ := and_e h2
  obtain ⟨i0, e0⟩ := is_v ha0
  obtain rfl : w0 = (.int i0) := Option.some.inj e0
  obtain ⟨i1, e1⟩ := is_v hb0
  obtain rfl : w1 = (.int i1) := Option.some.inj e1
  obtain ⟨n, o, h1, h2, h3, _, L, rfl, ⟨rfl, N⟩, hq⟩ := rm0 l s _ hw tables_1 i0 i1 s.heap s.heap.size (Nat.le_refl _)  p e ha hc hk s m _ below hf ((Spec.applies_iff_loose hf).mp happ).1 ⟨rfl, State.Warmed39.refl s, rfl⟩ trivial
  refine ⟨n, _, h1, h2, h3, hpost _ _ _ _ _ _ ⟨Cond.after_iff.mpr rfl, Cond.after_iff.mpr (eq_i res_at (Term.int_eval (1)) rfl), trivial⟩ ⟨hq.1, hq.2.1, (hq.2.2.sift fun y hy => Or.inr (N y hy)).mono (by decide) (by decide)⟩⟩
theorem main_1_1 : Claimed_1_1 := comes_1 fun _ _ _ _ _ _ h hF => ⟨h.1, hF⟩
theorem main_1_2 : Claimed_1_2 := comes_1 fun _ _ _ _ _ _ h hF => ⟨h.2.1, hF⟩
end Jvm.Pilot.@@N@@
namespace Jvm.Pilot.@@N@@
open Jvm Jvm.ClassFile Sem Op Lib Jvm.Free Jvm.Stand Jvm.Pilot.@@N@@.Jvm.D
/-! MADE BY PROGRAM (witnessworld.py) out of the Statement's table words and the real class files: 9 classes; the members and pool entries that the words name. The judged class is class 1, her method 2. -/
namespace start1
open Jvm.ClassFile
def u (s : String) : CpInfo := .utf8 (stringToUtf16 s)
/-- a pool by its gaps: so many unusable entries, then the entry; so many at the end -/
def gap : Nat → List CpInfo → List CpInfo
  | 0, r => r
  | n + 1, r => .unusable :: gap n r
def poolList (es : List (Nat × CpInfo)) (last : Nat) : List CpInfo := es.foldr (fun e r => gap e.1 (e.2 :: r)) (gap last [])
def pool (es : List (Nat × CpInfo)) (last : Nat) : Array CpInfo := ⟨poolList es last⟩
def fileOf (pool : Array CpInfo) (this : Nat) (attrs : Array Attribute := #[]) (ms : Array MethodInfo := #[]) (fl : Nat := 33) (sup : Nat := 0) (ifs : Array Nat := #[]) (fds : Array FieldInfo := #[]) : ClassFile where
  minorVersion := 0
  majorVersion := 65
  constantPool := pool
  accessFlags := fl
  thisClass := this
  superClass := sup
  interfaces := ifs
  fields := fds
  methods := ms
  attributes := attrs
def plain (name : String) (sup : Option ClassId) : Class where
  name := name
  kind := .ordinary
  loader := none
  accessFlags := 33
  super := sup
  interfaces := #[]
  cf := none
  fields := #[]
  methods := #[]
  instanceTypes := #[]
  staticTypes := #[]
  resolved := #[]
  callSites := []
  init := .initialized
  statics := none
  mirror := none

def pool0 : Array CpInfo := pool [(5, u "<init>"), (0, u "()V"), (1, .class_ 10), (1, u "java/lang/Object")] 113

def k0m0 : Method := { name := "<init>", desc := "()V", sig := { parameters := [], returnType := none }, accessFlags := 1, code := none }
/-- java/lang/Object -/
def k0 : Class := { plain "java/lang/Object" none with
  accessFlags := 33
  interfaces := #[]
  cf := some (fileOf pool0 8 #[] #[{ accessFlags := 1, nameIndex := 5, descriptorIndex := 6, attributes := #[] }] 33 0 #[] #[])
  fields := #[]
  methods := #[k0m0]
  instanceTypes := #[]
  staticTypes := #[]
  resolved := Array.replicate 124 none
  statics := none }

def pool1 : Array CpInfo := pool [(2, .class_ 4), (1, u "java/lang/Object"), (0, u "<init>"), (0, u "()V"), (0, .long 4294977024), (1, .integer 65535), (0, .methodref 11 12), (0, .class_ 13), (0, .nameAndType 14 15), (0, u "adjunct/core/XmlSpace"), (0, u "is"), (0, u "(C)Z"), (0, .methodref 17 18), (0, .class_ 19), (0, .nameAndType 20 15), (0, u "adjunct/core/XmlSpaceIsPinLaw"), (0, u "expected"), (3, u "law"), (0, u "(II)Z")] 2

def k1m0 : Method := { name := "<init>", desc := "()V", sig := { parameters := [], returnType := none }, accessFlags := 2, code := none }
def k1c1 : Code := { maxStack := 4, maxLocals := 4, code := method_2_code, exceptionTable := #[], attributes := #[] }
def k1m1 : Method := { name := "expected", desc := "(C)Z", sig := { parameters := [.char], returnType := some .boolean }, accessFlags := 10, code := some k1c1 }
def k1c2 : Code := { maxStack := 2, maxLocals := 3, code := code, exceptionTable := #[], attributes := #[] }
def k1m2 : Method := { name := "law", desc := "(II)Z", sig := { parameters := [.int, .int], returnType := some .boolean }, accessFlags := 9, code := some k1c2 }
/-- adjunct/core/XmlSpaceIsPinLaw -/
def k1 : Class := { plain "adjunct/core/XmlSpaceIsPinLaw" (some 0) with
  accessFlags := 49
  interfaces := #[]
  cf := some (fileOf pool1 17 #[] #[{ accessFlags := 2, nameIndex := 5, descriptorIndex := 6, attributes := #[] }, { accessFlags := 10, nameIndex := 20, descriptorIndex := 15, attributes := #[] }, { accessFlags := 9, nameIndex := 24, descriptorIndex := 25, attributes := #[] }] 49 2 #[] #[])
  fields := #[]
  methods := #[k1m0, k1m1, k1m2]
  instanceTypes := #[]
  staticTypes := #[]
  resolved := Array.replicate 28 none
  statics := none }

def pool2 : Array CpInfo := pool [(2, .class_ 4), (1, u "java/lang/Object"), (0, u "<init>"), (0, u "()V"), (11, .class_ 20), (1, u "adjunct/core/XmlSpace"), (0, u "is"), (0, u "(C)Z")] 26

def k2m0 : Method := { name := "<init>", desc := "()V", sig := { parameters := [], returnType := none }, accessFlags := 2, code := none }
def k2c1 : Code := { maxStack := 2, maxLocals := 1, code := prog_65_method_2_code, exceptionTable := #[], attributes := #[] }
def k2m1 : Method := { name := "is", desc := "(C)Z", sig := { parameters := [.char], returnType := some .boolean }, accessFlags := 8, code := some k2c1 }
/-- adjunct/core/XmlSpace -/
def k2 : Class := { plain "adjunct/core/XmlSpace" (some 0) with
  accessFlags := 48
  interfaces := #[]
  cf := some (fileOf pool2 18 #[] #[{ accessFlags := 2, nameIndex := 5, descriptorIndex := 6, attributes := #[] }, { accessFlags := 8, nameIndex := 21, descriptorIndex := 22, attributes := #[] }] 48 2 #[] #[])
  fields := #[]
  methods := #[k2m0, k2m1]
  instanceTypes := #[]
  staticTypes := #[]
  resolved := Array.replicate 49 none
  statics := none }

def pool3 : Array CpInfo := pool [(1, u "java/lang/Cloneable"), (0, .class_ 1), (0, u "java/lang/Object"), (0, .class_ 3)] 3

/-- java/lang/Cloneable -/
def k3 : Class := { plain "java/lang/Cloneable" (some 0) with
  accessFlags := 1537
  interfaces := #[]
  cf := some (fileOf pool3 2 #[] #[] 1537 4 #[] #[])
  fields := #[]
  methods := #[]
  instanceTypes := #[]
  staticTypes := #[]
  resolved := Array.replicate 8 none
  statics := none }

def pool4 : Array CpInfo := pool [(1, u "java/io/Serializable"), (0, .class_ 1), (0, u "java/lang/Object"), (0, .class_ 3)] 3

/-- java/io/Serializable -/
def k4 : Class := { plain "java/io/Serializable" (some 0) with
  accessFlags := 1537
  interfaces := #[]
  cf := some (fileOf pool4 2 #[] #[] 1537 4 #[] #[])
  fields := #[]
  methods := #[]
  instanceTypes := #[]
  staticTypes := #[]
  resolved := Array.replicate 8 none
  statics := none }

/-- the primitive byte -/
def k5 : Class := { plain "byte" none with kind := .primitive 'B', accessFlags := 0x411 }
/-- [B -/
def k6 : Class := { plain "[B" (some 0) with kind := .array 5 .byte, interfaces := #[3, 4], accessFlags := 1041 }

/-- the primitive int -/
def k7 : Class := { plain "int" none with kind := .primitive 'I', accessFlags := 0x411 }
/-- [I -/
def k8 : Class := { plain "[I" (some 0) with kind := .array 7 .int, interfaces := #[3, 4], accessFlags := 1041 }

def heap : Heap := #[]
def classes : Array Class := #[k0, k1, k2, k3, k4, k5, k6, k7, k8]
def interned : List (Array UInt16 × Addr) := []
def slotsUsed : Nat := 0
def theMethod : MethodId := ⟨1, 2⟩
def args0 : Array Value := #[.int 5, .int 300]
def aboutOver (below : List Frame) : State where
  vm := { classes := classes, interned := interned.toArray }
  heap := heap
  slotsUsed := slotsUsed
  threads := #[{ frames := .invoking theMethod args0 :: below }]
def below0 : List Frame := [.native { method := ⟨0, 0⟩, args := #[] }]
def about1 : State := aboutOver below0
def p0 : Program := .bare "" "" ""
def e0 : Env := launch0.env 0 0 0
theorem w_frames : about1.frames = Frame.invoking theMethod args0 :: below0 := rfl
set_option maxRecDepth 65536 in
theorem w_args : argsFit about1.vm theMethod args0 = true := by decide +kernel
set_option maxRecDepth 65536 in
theorem w_heap : heapFits about1 = true := by decide +kernel
set_option maxRecDepth 65536 in
theorem w_runnable : about1.curStatus? = some .runnable := by decide +kernel
set_option maxRecDepth 65536 in
theorem w_alone : about1.alone = true := by decide +kernel
set_option maxRecDepth 65536 in
theorem w_named : about1.methodNamed? x = some theMethod := by decide +kernel
set_option maxRecDepth 65536 in
theorem w_hears : about1.hears theMethod below0 = true := by decide +kernel
set_option maxRecDepth 65536 in
theorem w_ripe : about1.ripe theMethod args0 below0 = true := by decide +kernel
theorem w_running : about1.status = .running := rfl
set_option maxRecDepth 65536 in
theorem w_room : about1.hasRoom e0.platform room_1 = true :=
  launch0.hasRoom_least _ room_1 (by decide +kernel) (by decide +kernel) (by decide +kernel) (by decide +kernel) (by decide +kernel) (by decide +kernel)
theorem allAtoms_all (ts : List Jvm.Cond) (a : Array Jvm.Value) (st : Jvm.State) : (allAtoms ts).before a st = ts.all (fun c => c.before a st) := by
  induction ts with
  | nil => rfl
  | cons c t ih =>
    show (Jvm.Cond.and c (allAtoms t)).before a st = _
    rw [Jvm.Cond.before_and, ih, List.all_cons]
def words1 : List Jvm.Cond := Jvm.Cond.code x code maxLocals ret :: tables_1
/-- a 'code' word, met by the world's own term for the bytes: nothing is compared byte by byte -/
theorem code_word {y : MethodName} {bytes : ByteArray} {mx : Nat} {rt : Option FieldType} {a : Array Value} {s : State} {m : MethodId} {meth : Method} {c : Code} (h1 : s.methodNamed? y = some m) (h2 : s.vm.method? m = some meth) (h3 : meth.code = some c) (h4 : c.code = bytes)
    (h5 : (c.maxLocals == mx && c.exceptionTable.isEmpty && decide (c.maxStack ≤ mostOperands) && decide (meth.sig.returnType = rt) && !meth.locks && decide (parseMethodDescriptor y.desc = some meth.sig)) = true) : (Jvm.Cond.code y bytes mx rt).before a s = true := by
  simp only [Bool.and_eq_true, beq_iff_eq, Bool.not_eq_true', decide_eq_true_eq] at h5
  obtain ⟨⟨⟨⟨⟨g1, g2⟩, g3⟩, g4⟩, g5⟩, g6⟩ := h5
  simp [Cond.before, Cond.holds, Cond.value, h1, h2, h3, h4, g1, g2, g3, g4, g5, g6]
def isCode : Jvm.Cond → Bool
  | .code _ _ _ _ => true
  | _ => false
theorem all_split {L : List Jvm.Cond} {P : Jvm.Cond → Bool} (h1 : L.all (fun c => isCode c || P c) = true) (h2 : ∀ c ∈ L.filter isCode, P c = true) : L.all P = true := by
  refine List.all_eq_true.mpr fun c hc => ?_
  have h := List.all_eq_true.mp h1 c hc
  rcases Bool.eq_false_or_eq_true (isCode c) with hi | hi
  · exact h2 c (List.mem_filter.mpr ⟨hc, hi⟩)
  · simpa [hi] using h
set_option maxRecDepth 65536 in
theorem w_c0 : (Jvm.Cond.code x code maxLocals ret).before args0 about1 = true := code_word (m := ⟨1, 2⟩) (meth := k1m2) (c := k1c2) (by decide +kernel) rfl rfl rfl (by decide +kernel)
set_option maxRecDepth 65536 in
theorem w_c1 : (Jvm.Cond.code ({ cls := "adjunct/core/XmlSpace", name := "is", desc := "(C)Z" } : Jvm.MethodName) prog_65_method_2_code (1 : Nat) (Option.some Jvm.ClassFile.FieldType.boolean)).before args0 about1 = true := code_word (m := ⟨2, 1⟩) (meth := k2m1) (c := k2c1) (by decide +kernel) rfl rfl rfl (by decide +kernel)
set_option maxRecDepth 65536 in
theorem w_c2 : (Jvm.Cond.code ({ cls := "adjunct/core/XmlSpaceIsPinLaw", name := "expected", desc := "(C)Z" } : Jvm.MethodName) method_2_code (4 : Nat) (Option.some Jvm.ClassFile.FieldType.boolean)).before args0 about1 = true := code_word (m := ⟨1, 1⟩) (meth := k1m1) (c := k1c1) (by decide +kernel) rfl rfl rfl (by decide +kernel)
def codes1 : List Jvm.Cond := [Jvm.Cond.code x code maxLocals ret, Jvm.Cond.code ({ cls := "adjunct/core/XmlSpace", name := "is", desc := "(C)Z" } : Jvm.MethodName) prog_65_method_2_code (1 : Nat) (Option.some Jvm.ClassFile.FieldType.boolean), Jvm.Cond.code ({ cls := "adjunct/core/XmlSpaceIsPinLaw", name := "expected", desc := "(C)Z" } : Jvm.MethodName) method_2_code (4 : Nat) (Option.some Jvm.ClassFile.FieldType.boolean)]
set_option maxRecDepth 65536 in
theorem codes_eq : words1.filter isCode = codes1 := rfl
theorem w_codes : ∀ c ∈ words1.filter isCode, c.before args0 about1 = true := by
  rw [codes_eq]
  intro c hc
  simp only [codes1, List.mem_cons, List.not_mem_nil, or_false] at hc
  rcases hc with rfl | rfl | rfl
  · exact w_c0
  · exact w_c1
  · exact w_c2
set_option maxRecDepth 65536 in
theorem w_t1 : words1.all (fun c => isCode c || c.before args0 about1) = true := by decide +kernel
theorem w_tables : (allAtoms (Jvm.Cond.code x code maxLocals ret :: tables_1)).before args0 about1 = true := by
  rw [allAtoms_all]
  show words1.all (fun c => c.before args0 about1) = true
  refine all_split ?_ w_codes
  rw [w_t1]
set_option maxRecDepth 65536 in
theorem w_case : (Jvm.Cond.and given_1 narrow_1).before args0 about1 = true := by decide +kernel
theorem w_applies : (headSpec (Jvm.Cond.code x code maxLocals ret :: tables_1) room_1).applies x e0.platform about1 = true :=
  (Spec.applies_iff w_frames).mpr ⟨w_running, w_runnable, w_alone, w_named, w_hears, w_ripe, w_room, w_tables⟩
theorem atStart : AtStart classFile x code maxLocals ret World_1 tables_1 room_1 Calls_1 rest_1 Pre_1 launch0 p0 e0 about1 theMethod args0 below0 :=
  ⟨lists_1, trivial, launch0.admits_env _ _ _, launch0.least_env, fairChoices_fair.cas, fairChoices_fair.clock, w_frames, w_args, w_heap, w_applies, trivial, trivial, w_case⟩
end start1
theorem witness_1 : WitnessClaimed_1 := ⟨start1.p0, start1.e0, start1.about1, start1.theMethod, start1.args0, start1.below0, start1.atStart⟩
end Jvm.Pilot.@@N@@
