import JvmDerived
import JvmDerived.Pilot.@@N@@Statement
import JvmDerived.Pilot.@@N@@Code
set_option linter.unusedVariables false
set_option linter.unusedSimpArgs false
namespace Jvm.Pilot.@@N@@
open Jvm Jvm.ClassFile Sem Op Lib Jvm.Free Jvm.Stand Jvm.LawKit Jvm.RoadKit Bundle Jvm.Pilot.@@N@@.Jvm.D
section OwnKit
variable {p : Program} {l : Launch} {e : Env} {R : Room} {s : State} {m : MethodId} {args : Array Value} {below : List Frame} {meth : Method} {c : Code} {T : State} {locs : List Loc} {cells slots : Nat}
/-- from here the run comes to a state of which K holds -/
def Go (tb : Tables) (e : Env) (below : List Frame) (K : State → Prop) (T : State) : Prop := ∃ U, Steps tb e below T U ∧ K U
theorem Go.st {tb : Tables} {K : State → Prop} {T T' : State} (h : ∀ U, Steps tb e below T' U → Steps tb e below T U) (g : Go tb e below K T') : Go tb e below K T := by
  obtain ⟨U, h1, h2⟩ := g; exact ⟨U, h U h1, h2⟩
theorem Go.tr {tb : Tables} {K : State → Prop} {T T' : State} (h : Steps tb e below T T') (g : Go tb e below K T') : Go tb e below K T := by
  obtain ⟨U, h1, h2⟩ := g; exact ⟨U, h.trans h1, h2⟩
/-- where a body may end -/
def own_Fin (s : State) (below : List Frame) (CC SS : Nat) (Q : Option Value → Heap → List Loc → Prop) (U : State) : Prop :=
  ∃ o, U.status = .running ∧ Ended U below o ∧ ∃ v L, o = .returned v ∧ Q v U.heap L ∧ FrameEnd s o U L CC SS
theorem own_start {tb : Tables} {CC SS : Nat} {Q : Option Value → Heap → List Loc → Prop} {T : State} (g : Go tb e below (own_Fin s below CC SS Q) T) :
    ∃ s₂ o, Steps tb e below T s₂ ∧ s₂.status = .running ∧ Ended s₂ below o ∧ ∃ v L, o = .returned v ∧ Q v s₂.heap L ∧ FrameEnd s o s₂ L CC SS := by
  obtain ⟨U, h1, o, h2, h3, h4⟩ := g; exact ⟨U, o, h1, h2, h3, h4⟩
theorem own_cast {tb : Tables} {K : State → Prop} {f f' : JFrame} (q : f = f') (g : Go tb e below K (T.setTop f')) : Go tb e below K (T.setTop f) := q ▸ g
section Ends
variable {CC SS : Nat} {Q : Option Value → Heap → List Loc → Prop}
theorem own_end (X : Stand p l e R s m args below meth c T locs cells slots) (hlocks : meth.locks = false) {v : Option Value} (hv : meth.sig.returnType = none → v = none) {f : JFrame}
    (k : ∀ fs, (∀ (f : JFrame) (acts : List Action), f.method = m → f.locked = none → f.entered = [] → (doReturn e (T.setTop f) acts v).1 = T.setFrames fs) → Steps p.tables e below (T.setTop f) (T.setFrames fs))
    (hq : Q v T.heap locs) (hc : cells ≤ CC) (hs : slots ≤ SS) : Go p.tables e below (own_Fin s below CC SS Q) (T.setTop f) := by
  obtain ⟨fs, hr, hrun, hended, hW, hsame⟩ := X.leave (v := v) hv hlocks
  exact ⟨_, k fs hr, _, hrun, hended, _, _, rfl, hq, ⟨_, rfl⟩, hW, hsame.mono hc hs⟩
theorem own_ret0 (X : Stand p l e R s m args below meth c T locs cells slots) (hx : p.tables.exec = Jvm.exec) (hlocks : meth.locks = false) {pc : Nat} {Ls : Array Slot} (hret : meth.sig.returnType = none) (hd : decode c.code pc = .ok (.return_, 1))
    (hq : Q none T.heap locs) (hc : cells ≤ CC) (hs : slots ≤ SS) : Go p.tables e below (own_Fin s below CC SS Q) (T.setTop (mkF m pc Ls [])) :=
  own_end X hlocks (fun _ => rfl) (fun _ hr => X.returnOut hx hret hd hr) hq hc hs
theorem own_retN (X : Stand p l e R s m args below meth c T locs cells slots) (hx : p.tables.exec = Jvm.exec) (hlocks : meth.locks = false) {pc : Nat} {Ls : Array Slot} {z : Int32} {t : FieldType} {rest : List Value} (hret : meth.sig.returnType = some t) (ht : t = .boolean ∨ t = .byte ∨ t = .char ∨ t = .short) (hd : decode c.code pc = .ok (.ireturn, 1))
    (hq : Q (some (.int (nar t z))) T.heap locs) (hc : cells ≤ CC) (hs : slots ≤ SS) : Go p.tables e below (own_Fin s below CC SS Q) (T.setTop (mkF m pc Ls (.int z :: rest))) :=
  own_end X hlocks (fun h => by rw [hret] at h; cases h) (fun _ hr => retN X hx hret ht hd hr) hq hc hs
theorem own_retO (X : Stand p l e R s m args below meth c T locs cells slots) (hx : p.tables.exec = Jvm.exec) (hlocks : meth.locks = false) {pc : Nat} {Ls : Array Slot} {w : Value} {t : FieldType} {i : Instr} {rest : List Value} (hret : meth.sig.returnType = some t) (hn : narrow t w = w)
    (hi : (i = .ireturn ∧ (t = .int ∨ t = .boolean ∨ t = .byte ∨ t = .char ∨ t = .short) ∧ ∃ z, w = .int z) ∨ (i = .lreturn ∧ t = .long ∧ ∃ z, w = .long z) ∨ (i = .dreturn ∧ t = .double ∧ ∃ z, w = .double z) ∨ (i = .freturn ∧ t = .float ∧ ∃ z, w = .float z) ∨ (i = .areturn ∧ t.isReference = true ∧ w.isRef = true))
    (hd : decode c.code pc = .ok (i, 1)) (hq : Q (some w) T.heap locs) (hc : cells ≤ CC) (hs : slots ≤ SS) : Go p.tables e below (own_Fin s below CC SS Q) (T.setTop (mkF m pc Ls (w :: rest))) :=
  own_end X hlocks (fun h => by rw [hret] at h; cases h) (fun _ hr => retOut X hx hret hn hi hd hr) hq hc hs
end Ends
end OwnKit
theorem own_eqint {args : Array Value} {first s : State} {o : Option Outcome} {idx : List Nat} {a : Term} {k : Int32} (h : (Jvm.Cond.eq a (.int k)).value args first o s idx = some true) : a.eval args first o idx s = some (.int k) := by
  have e : (Term.int k).eval args first o idx s = some (.int k) := rfl
  simp only [Cond.value, e] at h
  cases hq : a.eval args first o idx s with
  | none => simp [hq] at h
  | some v => cases v <;> simp_all
theorem own_len {args : Array Value} {first s : State} {o : Option Outcome} {idx : List Nat} {t : Term} {a : Addr} {cell : Cell} {k : Int32} (ev : t.eval args first o idx s = some (.ref a)) (ha : s.arrayAt? a = some cell) (h : (Term.length t).eval args first o idx s = some (.int k)) : cell.slots.size < 2 ^ 31 ∧ cell.slots.size.toInt32 = k := by
  by_cases q : cell.slots.size < 2 ^ 31
  · rw [len_f ev ha q] at h
    exact ⟨q, Value.int.inj (Option.some.inj h)⟩
  · exfalso
    simp only [Term.eval, ev, Option.bind_eq_bind, Option.bind_some, ha, if_neg q] at h
    cases h

theorem d2_0 : decode jdk_37_method_2_code 0 = .ok (.aload_n 0, 1) := by decide +kernel
theorem d2_1 : decode jdk_37_method_2_code 1 = .ok (.getfield 7, 3) := by decide +kernel
theorem d2_4 : decode jdk_37_method_2_code 4 = .ok (.ireturn, 1) := by decide +kernel
theorem pn_2 : plainFor (⟨"java/lang/Enum", "ordinal", "()I"⟩ : MethodName) = true := plainFor_of_name (by first | (simp [plainName, overriddenIn]; done) | decide +kernel)
theorem ef_2 (m : MethodId) (x0 : Addr) : entryFrame m #[(.ref x0)] 1 = mkF m 0 #[.val (.ref x0)] [] := by first | (simp [entryFrame, mkF, argsToLocals, Value.category]; done) | rfl
def Q2 (Z : State) (a1 : Addr) (w1 : Int32) (h0 : Heap) (n0 : Nat) (v : Option Value) (h : Heap) (L : List Loc) : Prop := v = some (.int w1) ∧ Fr n0 L ∧ h = h0
set_option maxRecDepth 65536 in
set_option maxHeartbeats 40000000 in
theorem rm2 (l : Launch) (Z : State) (a0 : Array Value) (hw : ∀ d ∈ tables_1, d.before a0 Z = true) (ws : List Jvm.Cond) (a1 : Addr) (w1 : Int32) (h0 : Heap) (n0 : Nat) (Z0 : n0 ≤ h0.size) (F1 : Fld Z h0 a1 "java/lang/Enum" "ordinal" "I" (.int w1)) :
    MetFree l (⟨"java/lang/Enum", "ordinal", "()I"⟩ : MethodName) (head1 (Jvm.Cond.code (⟨"java/lang/Enum", "ordinal", "()I"⟩ : MethodName) jdk_37_method_2_code 1 (some .int) :: ws) ({ frames := 0, cells := 0, slots := 0, locals := 0 } : Room)) (fun a U => a = #[(.ref a1)] ∧ Z.Warmed39 U.vm ∧ U.heap = h0) (fun _ _ _ _ _ => True) (fun _ U o U' => ∃ v L, o = .returned v ∧ Q2 Z a1 w1 h0 n0 v U'.heap L ∧ FrameEnd U o U' L ({ frames := 0, cells := 0, slots := 0, locals := 0 } : Room).cells ({ frames := 0, cells := 0, slots := 0, locals := 0 } : Room).slots) := by
  refine MetFree.of_bodySF pn_2 hisR ?_
  intro p e s m args below meth c s₁ Bd hml0 hP hK
  obtain ⟨rfl, hZ, hh⟩ := hP
  have hx := Bd.exec
  have hby := Bd.bytes
  have hml : c.maxLocals = 1 := hml0
  have hown : s.vm.findClass "java/lang/Enum" = some m.cls := findClass_of_methodNamed Bd.named
  have hnm := (name_of_methodNamed Bd.named Bd.method).1
  have X0 : Stand p l e ({ frames := 0, cells := 0, slots := 0, locals := 0 } : Room) s m #[(.ref a1)] below meth c s₁ [] 0 0 := Stand.of_body Bd
  have e0 : s₁.heap = h0 := by rw [← hh, Bd.state]; rfl
  have N0 := Fr.nil n0
  refine own_start (Q := Q2 Z a1 w1 h0 n0) (own_cast (ef_2 m a1) ?_)
  show Go p.tables e below _ (s₁.setTop (mkF m 0 #[.val (.ref a1)] []))
  refine Go.st (fun U hr => XS.aloadN X0.here hx rfl (hb hby d2_0) rfl rfl hr) ?_
  show Go p.tables e below _ (s₁.setTop (mkF m 1 #[.val (.ref a1)] [(.ref a1)]))
  obtain ⟨T1, X1, e1, st1⟩ := getF X0 hx hZ hown (host := "") (Or.inl (hw _ (List.mem_of_getElem? (i := 19) rfl))) Via.refl e0 F1 (g := (mkF m 1 #[.val (.ref a1)] [(.ref a1)])) rfl rfl (hb hby d2_1)
  refine Go.st st1 ?_
  show Go p.tables e below _ (T1.setTop (mkF m 4 #[.val (.ref a1)] [(.int w1)]))
  exact own_retO X1 hx Bd.notSynchronized (t := .int) Bd.returns rfl (Or.inl ⟨rfl, Or.inl rfl, _, rfl⟩) (hb hby d2_4) ⟨rfl, N0, e1⟩ (by decide) (by decide)
theorem d1_0 : decode prog_3_method_4_code 0 = .ok (.getstatic 88, 3) := by decide +kernel
theorem d1_3 : decode prog_3_method_4_code 3 = .ok (.aload_n 0, 1) := by decide +kernel
theorem d1_4 : decode prog_3_method_4_code 4 = .ok (.invokevirtual 94, 3) := by decide +kernel
theorem d1_7 : decode prog_3_method_4_code 7 = .ok (.iaload, 1) := by decide +kernel
theorem d1_8 : decode prog_3_method_4_code 8 = .ok (.tableswitch 32 1 4 #[42, 48, 54, 60], 32) := by decide +kernel
theorem d1_50 : decode prog_3_method_4_code 50 = .ok (.getstatic 25, 3) := by decide +kernel
theorem d1_53 : decode prog_3_method_4_code 53 = .ok (.goto 18, 3) := by decide +kernel
theorem d1_71 : decode prog_3_method_4_code 71 = .ok (.areturn, 1) := by decide +kernel
theorem pn_1 : plainFor (⟨"com/example/notched_ledger/notchedledger/amqp/ReplyCode", "of", "(Lcom/example/notched_ledger/notchedledger/core/BrokerException$Reason;)Lcom/example/notched_ledger/notchedledger/amqp/ReplyCode;"⟩ : MethodName) = true := plainFor_of_name (by first | (simp [plainName, overriddenIn]; done) | decide +kernel)
theorem ef_1 (m : MethodId) (x0 : Addr) : entryFrame m #[(.ref x0)] 1 = mkF m 0 #[.val (.ref x0)] [] := by first | (simp [entryFrame, mkF, argsToLocals, Value.category]; done) | rfl
theorem pd_0 : parseMethodDescriptor "()I" = some ⟨[], some .int⟩ := by decide +kernel
def Q1_0 (Z : State) (a1 : Addr) (rc : Addr) (sm : Addr) (ks : ClassId) (h0 : Heap) (n0 : Nat) (v : Option Value) (h : Heap) (L : List Loc) : Prop := v = some (.ref rc) ∧ Fr n0 L ∧ h = h0
set_option maxRecDepth 65536 in
set_option maxHeartbeats 40000000 in
theorem rm1_0 (l : Launch) (Z : State) (a0 : Array Value) (hw : ∀ d ∈ tables_1, d.before a0 Z = true) (ws : List Jvm.Cond) (a1 : Addr) (rc : Addr) (sm : Addr) (ks : ClassId) (h0 : Heap) (n0 : Nat) (Z0 : n0 ≤ h0.size) (E1 : Exa Z h0 a1 "com/example/notched_ledger/notchedledger/core/BrokerException$Reason") (F1 : Fld Z h0 a1 "java/lang/Enum" "ordinal" "I" (.int (0 : Int32))) (S1 : Sta Z h0 "com/example/notched_ledger/notchedledger/amqp/ReplyCode$1" "$SwitchMap$com$example$notched_ledger$notchedledger$core$BrokerException$Reason" "[I" (.ref sm)) (A1 : Arv Z h0 sm ks .int (4 : Int32) [(.int (1 : Int32)), (.int (2 : Int32)), (.int (3 : Int32)), (.int (4 : Int32))] (.int (0 : Int32))) (S2 : Sta Z h0 "com/example/notched_ledger/notchedledger/amqp/ReplyCode" "NOT_FOUND" "Lcom/example/notched_ledger/notchedledger/amqp/ReplyCode;" (.ref rc)) :
    MetFree l (⟨"com/example/notched_ledger/notchedledger/amqp/ReplyCode", "of", "(Lcom/example/notched_ledger/notchedledger/core/BrokerException$Reason;)Lcom/example/notched_ledger/notchedledger/amqp/ReplyCode;"⟩ : MethodName) (head1 (Jvm.Cond.code (⟨"com/example/notched_ledger/notchedledger/amqp/ReplyCode", "of", "(Lcom/example/notched_ledger/notchedledger/core/BrokerException$Reason;)Lcom/example/notched_ledger/notchedledger/amqp/ReplyCode;"⟩ : MethodName) prog_3_method_4_code 1 (some (.object "com/example/notched_ledger/notchedledger/amqp/ReplyCode")) :: ws) ({ frames := 1, cells := 0, slots := 0, locals := 13 } : Room)) (fun a U => a = #[(.ref a1)] ∧ Z.Warmed39 U.vm ∧ U.heap = h0) (fun _ _ _ _ _ => True) (fun _ U o U' => ∃ v L, o = .returned v ∧ Q1_0 Z a1 rc sm ks h0 n0 v U'.heap L ∧ FrameEnd U o U' L ({ frames := 1, cells := 0, slots := 0, locals := 13 } : Room).cells ({ frames := 1, cells := 0, slots := 0, locals := 13 } : Room).slots) := by
  refine MetFree.of_bodySF pn_1 hisR ?_
  intro p e s m args below meth c s₁ Bd hml0 hP hK
  obtain ⟨rfl, hZ, hh⟩ := hP
  have hx := Bd.exec
  have hby := Bd.bytes
  have hml : c.maxLocals = 1 := hml0
  have hown : s.vm.findClass "com/example/notched_ledger/notchedledger/amqp/ReplyCode" = some m.cls := findClass_of_methodNamed Bd.named
  have hnm := (name_of_methodNamed Bd.named Bd.method).1
  have X0 : Stand p l e ({ frames := 1, cells := 0, slots := 0, locals := 13 } : Room) s m #[(.ref a1)] below meth c s₁ [] 0 0 := Stand.of_body Bd
  have e0 : s₁.heap = h0 := by rw [← hh, Bd.state]; rfl
  have N0 := Fr.nil n0
  refine own_start (Q := Q1_0 Z a1 rc sm ks h0 n0) (own_cast (ef_1 m a1) ?_)
  show Go p.tables e below _ (s₁.setTop (mkF m 0 #[.val (.ref a1)] []))
  obtain ⟨T1, X1, e1, st1⟩ := getS2 X0 hx hZ hown (host := "") (Or.inl (hw _ (List.mem_of_getElem? (i := 9) rfl))) Via.refl e0 S1 (g := (mkF m 0 #[.val (.ref a1)] [])) rfl (hb hby d1_0)
  refine Go.st st1 ?_
  show Go p.tables e below _ (T1.setTop (mkF m 3 #[.val (.ref a1)] [(.ref sm)]))
  refine Go.st (fun U hr => XS.aloadN X1.here hx rfl (hb hby d1_3) rfl rfl hr) ?_
  show Go p.tables e below _ (T1.setTop (mkF m 4 #[.val (.ref a1)] [(.ref a1), (.ref sm)]))
  obtain ⟨cq2, kq2, q2a, q2b, q2c⟩ := isOf hZ e1 E1
  obtain ⟨_, _, ⟨T2, L2, k2, n2⟩, -, X2, ⟨Lc2, hQ2, l2, y2, z2⟩, st2⟩ := X1.virtualBackUp hx (x := (⟨"com/example/notched_ledger/notchedledger/core/BrokerException$Reason", "ordinal", "()I"⟩ : MethodName)) (y := (⟨"java/lang/Enum", "ordinal", "()I"⟩ : MethodName)) (owner := "java/lang/Enum") hown (mvT hZ (hw _ (List.mem_of_getElem? (i := 12) rfl))) (mvT hZ (hw _ (List.mem_of_getElem? (i := 13) rfl))) (mvT hZ (hw _ (List.mem_of_getElem? (i := 14) rfl))) (by decide) (mvT hZ (hw _ (List.mem_of_getElem? (i := 16) rfl))) (mvT hZ (hw _ (List.mem_of_getElem? (i := 15) rfl))) (backOf (W := 1) (rm2 l Z a0 hw [] a1 (0 : Int32) h0 n0 Z0 F1) hZ (hw _ (List.mem_of_getElem? (i := 18) rfl)) (hw _ (List.mem_of_getElem? (i := 17) rfl)) (by decide) (by decide)) q2a q2c (g := (mkF m 4 #[.val (.ref a1)] [(.ref a1), (.ref sm)])) rfl (by rw [hml]; rfl) (Steps.refl _) (argsL := []) (rest := [(.ref sm)]) (lenOf pd_0 rfl) rfl (by show 2 * 0 + _ ≤ _; exact Nat.le_of_eq rfl) (hb hby d1_4) (fun _ _ => ⟨rfl, e1, (by decide : 0 + 0 ≤ _), (by decide : 0 + 0 ≤ _)⟩)
  dsimp only [Pt.U, Pt.locs, Pt.cells, Pt.slots] at X2 l2 y2 z2 st2 hQ2
  subst l2 y2 z2
  obtain ⟨rfl, Nq2, ee2⟩ := hQ2
  have N2 := Fr.app N0 Nq2
  refine Go.tr st2 ?_
  show Go p.tables e below _ (T2.setTop (mkF m 7 #[.val (.ref a1)] [(.int (0 : Int32)), (.ref sm)]))
  obtain ⟨cl3, Ar3, qa3, Sa3, Na3, Ha3, Ga3⟩ := id A1
  have hin3 : ¬ ((0 : Int32) < 0 ∨ cl3.slots.size ≤ ((0 : Int32)).toNatClampNeg) := inb_of Sa3 ⟨by decide, by decide⟩
  refine Go.st (X2.iaload hx (j := (0 : Int32)) (v := (.int (1 : Int32))) (by rw [ee2]; exact Ar3.1) (State.isArrayOf_alike hZ.alike Ar3.2.1) Ar3.2.2 hin3 (Ha3.at hin3 rfl) (g := (mkF m 7 #[.val (.ref a1)] [(.int (0 : Int32)), (.ref sm)])) rfl rfl (hb hby d1_7)) ?_
  show Go p.tables e below _ (T2.setTop (mkF m 8 #[.val (.ref a1)] [(.int (1 : Int32))]))
  refine Go.st (fun U hr => XS.tswIn X2.here hx rfl (pc0 := 8) (pc' := 50) (o := 42) rfl (hb hby d1_8) rfl (by decide) (by decide) (by decide) (by decide) hr) ?_
  show Go p.tables e below _ (T2.setTop (mkF m 50 #[.val (.ref a1)] []))
  obtain ⟨T4, X4, e4, st4⟩ := getS2 X2 hx hZ hown (host := "") (Or.inl (hw _ (List.mem_of_getElem? (i := 21) rfl))) Via.refl ee2 S2 (g := (mkF m 50 #[.val (.ref a1)] [])) rfl (hb hby d1_50)
  refine Go.st st4 ?_
  show Go p.tables e below _ (T4.setTop (mkF m 53 #[.val (.ref a1)] [(.ref rc)]))
  refine Go.st (fun U hr => XS.goto X4.here hx rfl (pc0 := 53) (pc' := 71) rfl (hb hby d1_53) (by decide) (by decide) hr) ?_
  show Go p.tables e below _ (T4.setTop (mkF m 71 #[.val (.ref a1)] [(.ref rc)]))
  exact own_retO X4 hx Bd.notSynchronized (t := (.object "com/example/notched_ledger/notchedledger/amqp/ReplyCode")) Bd.returns rfl (Or.inr (Or.inr (Or.inr (Or.inr ⟨rfl, rfl, rfl⟩)))) (hb hby d1_71) ⟨rfl, N2, e4⟩ (by decide) (by decide)
theorem d1_56 : decode prog_3_method_4_code 56 = .ok (.getstatic 28, 3) := by decide +kernel
theorem d1_59 : decode prog_3_method_4_code 59 = .ok (.goto 12, 3) := by decide +kernel
def Q1_1 (Z : State) (a1 : Addr) (rc : Addr) (sm : Addr) (ks : ClassId) (h0 : Heap) (n0 : Nat) (v : Option Value) (h : Heap) (L : List Loc) : Prop := v = some (.ref rc) ∧ Fr n0 L ∧ h = h0
set_option maxRecDepth 65536 in
set_option maxHeartbeats 40000000 in
theorem rm1_1 (l : Launch) (Z : State) (a0 : Array Value) (hw : ∀ d ∈ tables_1, d.before a0 Z = true) (ws : List Jvm.Cond) (a1 : Addr) (rc : Addr) (sm : Addr) (ks : ClassId) (h0 : Heap) (n0 : Nat) (Z0 : n0 ≤ h0.size) (E1 : Exa Z h0 a1 "com/example/notched_ledger/notchedledger/core/BrokerException$Reason") (F1 : Fld Z h0 a1 "java/lang/Enum" "ordinal" "I" (.int (1 : Int32))) (S1 : Sta Z h0 "com/example/notched_ledger/notchedledger/amqp/ReplyCode$1" "$SwitchMap$com$example$notched_ledger$notchedledger$core$BrokerException$Reason" "[I" (.ref sm)) (A1 : Arv Z h0 sm ks .int (4 : Int32) [(.int (1 : Int32)), (.int (2 : Int32)), (.int (3 : Int32)), (.int (4 : Int32))] (.int (0 : Int32))) (S2 : Sta Z h0 "com/example/notched_ledger/notchedledger/amqp/ReplyCode" "RESOURCE_LOCKED" "Lcom/example/notched_ledger/notchedledger/amqp/ReplyCode;" (.ref rc)) :
    MetFree l (⟨"com/example/notched_ledger/notchedledger/amqp/ReplyCode", "of", "(Lcom/example/notched_ledger/notchedledger/core/BrokerException$Reason;)Lcom/example/notched_ledger/notchedledger/amqp/ReplyCode;"⟩ : MethodName) (head1 (Jvm.Cond.code (⟨"com/example/notched_ledger/notchedledger/amqp/ReplyCode", "of", "(Lcom/example/notched_ledger/notchedledger/core/BrokerException$Reason;)Lcom/example/notched_ledger/notchedledger/amqp/ReplyCode;"⟩ : MethodName) prog_3_method_4_code 1 (some (.object "com/example/notched_ledger/notchedledger/amqp/ReplyCode")) :: ws) ({ frames := 1, cells := 0, slots := 0, locals := 13 } : Room)) (fun a U => a = #[(.ref a1)] ∧ Z.Warmed39 U.vm ∧ U.heap = h0) (fun _ _ _ _ _ => True) (fun _ U o U' => ∃ v L, o = .returned v ∧ Q1_1 Z a1 rc sm ks h0 n0 v U'.heap L ∧ FrameEnd U o U' L ({ frames := 1, cells := 0, slots := 0, locals := 13 } : Room).cells ({ frames := 1, cells := 0, slots := 0, locals := 13 } : Room).slots) := by
  refine MetFree.of_bodySF pn_1 hisR ?_
  intro p e s m args below meth c s₁ Bd hml0 hP hK
  obtain ⟨rfl, hZ, hh⟩ := hP
  have hx := Bd.exec
  have hby := Bd.bytes
  have hml : c.maxLocals = 1 := hml0
  have hown : s.vm.findClass "com/example/notched_ledger/notchedledger/amqp/ReplyCode" = some m.cls := findClass_of_methodNamed Bd.named
  have hnm := (name_of_methodNamed Bd.named Bd.method).1
  have X0 : Stand p l e ({ frames := 1, cells := 0, slots := 0, locals := 13 } : Room) s m #[(.ref a1)] below meth c s₁ [] 0 0 := Stand.of_body Bd
  have e0 : s₁.heap = h0 := by rw [← hh, Bd.state]; rfl
  have N0 := Fr.nil n0
  refine own_start (Q := Q1_1 Z a1 rc sm ks h0 n0) (own_cast (ef_1 m a1) ?_)
  show Go p.tables e below _ (s₁.setTop (mkF m 0 #[.val (.ref a1)] []))
  obtain ⟨T1, X1, e1, st1⟩ := getS2 X0 hx hZ hown (host := "") (Or.inl (hw _ (List.mem_of_getElem? (i := 9) rfl))) Via.refl e0 S1 (g := (mkF m 0 #[.val (.ref a1)] [])) rfl (hb hby d1_0)
  refine Go.st st1 ?_
  show Go p.tables e below _ (T1.setTop (mkF m 3 #[.val (.ref a1)] [(.ref sm)]))
  refine Go.st (fun U hr => XS.aloadN X1.here hx rfl (hb hby d1_3) rfl rfl hr) ?_
  show Go p.tables e below _ (T1.setTop (mkF m 4 #[.val (.ref a1)] [(.ref a1), (.ref sm)]))
  obtain ⟨cq2, kq2, q2a, q2b, q2c⟩ := isOf hZ e1 E1
  obtain ⟨_, _, ⟨T2, L2, k2, n2⟩, -, X2, ⟨Lc2, hQ2, l2, y2, z2⟩, st2⟩ := X1.virtualBackUp hx (x := (⟨"com/example/notched_ledger/notchedledger/core/BrokerException$Reason", "ordinal", "()I"⟩ : MethodName)) (y := (⟨"java/lang/Enum", "ordinal", "()I"⟩ : MethodName)) (owner := "java/lang/Enum") hown (mvT hZ (hw _ (List.mem_of_getElem? (i := 12) rfl))) (mvT hZ (hw _ (List.mem_of_getElem? (i := 13) rfl))) (mvT hZ (hw _ (List.mem_of_getElem? (i := 14) rfl))) (by decide) (mvT hZ (hw _ (List.mem_of_getElem? (i := 16) rfl))) (mvT hZ (hw _ (List.mem_of_getElem? (i := 15) rfl))) (backOf (W := 1) (rm2 l Z a0 hw [] a1 (1 : Int32) h0 n0 Z0 F1) hZ (hw _ (List.mem_of_getElem? (i := 18) rfl)) (hw _ (List.mem_of_getElem? (i := 17) rfl)) (by decide) (by decide)) q2a q2c (g := (mkF m 4 #[.val (.ref a1)] [(.ref a1), (.ref sm)])) rfl (by rw [hml]; rfl) (Steps.refl _) (argsL := []) (rest := [(.ref sm)]) (lenOf pd_0 rfl) rfl (by show 2 * 0 + _ ≤ _; exact Nat.le_of_eq rfl) (hb hby d1_4) (fun _ _ => ⟨rfl, e1, (by decide : 0 + 0 ≤ _), (by decide : 0 + 0 ≤ _)⟩)
  dsimp only [Pt.U, Pt.locs, Pt.cells, Pt.slots] at X2 l2 y2 z2 st2 hQ2
  subst l2 y2 z2
  obtain ⟨rfl, Nq2, ee2⟩ := hQ2
  have N2 := Fr.app N0 Nq2
  refine Go.tr st2 ?_
  show Go p.tables e below _ (T2.setTop (mkF m 7 #[.val (.ref a1)] [(.int (1 : Int32)), (.ref sm)]))
  obtain ⟨cl3, Ar3, qa3, Sa3, Na3, Ha3, Ga3⟩ := id A1
  have hin3 : ¬ ((1 : Int32) < 0 ∨ cl3.slots.size ≤ ((1 : Int32)).toNatClampNeg) := inb_of Sa3 ⟨by decide, by decide⟩
  refine Go.st (X2.iaload hx (j := (1 : Int32)) (v := (.int (2 : Int32))) (by rw [ee2]; exact Ar3.1) (State.isArrayOf_alike hZ.alike Ar3.2.1) Ar3.2.2 hin3 (Ha3.at hin3 rfl) (g := (mkF m 7 #[.val (.ref a1)] [(.int (1 : Int32)), (.ref sm)])) rfl rfl (hb hby d1_7)) ?_
  show Go p.tables e below _ (T2.setTop (mkF m 8 #[.val (.ref a1)] [(.int (2 : Int32))]))
  refine Go.st (fun U hr => XS.tswIn X2.here hx rfl (pc0 := 8) (pc' := 56) (o := 48) rfl (hb hby d1_8) rfl (by decide) (by decide) (by decide) (by decide) hr) ?_
  show Go p.tables e below _ (T2.setTop (mkF m 56 #[.val (.ref a1)] []))
  obtain ⟨T4, X4, e4, st4⟩ := getS2 X2 hx hZ hown (host := "") (Or.inl (hw _ (List.mem_of_getElem? (i := 40) rfl))) Via.refl ee2 S2 (g := (mkF m 56 #[.val (.ref a1)] [])) rfl (hb hby d1_56)
  refine Go.st st4 ?_
  show Go p.tables e below _ (T4.setTop (mkF m 59 #[.val (.ref a1)] [(.ref rc)]))
  refine Go.st (fun U hr => XS.goto X4.here hx rfl (pc0 := 59) (pc' := 71) rfl (hb hby d1_59) (by decide) (by decide) hr) ?_
  show Go p.tables e below _ (T4.setTop (mkF m 71 #[.val (.ref a1)] [(.ref rc)]))
  exact own_retO X4 hx Bd.notSynchronized (t := (.object "com/example/notched_ledger/notchedledger/amqp/ReplyCode")) Bd.returns rfl (Or.inr (Or.inr (Or.inr (Or.inr ⟨rfl, rfl, rfl⟩)))) (hb hby d1_71) ⟨rfl, N2, e4⟩ (by decide) (by decide)
theorem d1_62 : decode prog_3_method_4_code 62 = .ok (.getstatic 22, 3) := by decide +kernel
theorem d1_65 : decode prog_3_method_4_code 65 = .ok (.goto 6, 3) := by decide +kernel
def Q1_2 (Z : State) (a1 : Addr) (rc : Addr) (sm : Addr) (ks : ClassId) (h0 : Heap) (n0 : Nat) (v : Option Value) (h : Heap) (L : List Loc) : Prop := v = some (.ref rc) ∧ Fr n0 L ∧ h = h0
set_option maxRecDepth 65536 in
set_option maxHeartbeats 40000000 in
theorem rm1_2 (l : Launch) (Z : State) (a0 : Array Value) (hw : ∀ d ∈ tables_1, d.before a0 Z = true) (ws : List Jvm.Cond) (a1 : Addr) (rc : Addr) (sm : Addr) (ks : ClassId) (h0 : Heap) (n0 : Nat) (Z0 : n0 ≤ h0.size) (E1 : Exa Z h0 a1 "com/example/notched_ledger/notchedledger/core/BrokerException$Reason") (F1 : Fld Z h0 a1 "java/lang/Enum" "ordinal" "I" (.int (2 : Int32))) (S1 : Sta Z h0 "com/example/notched_ledger/notchedledger/amqp/ReplyCode$1" "$SwitchMap$com$example$notched_ledger$notchedledger$core$BrokerException$Reason" "[I" (.ref sm)) (A1 : Arv Z h0 sm ks .int (4 : Int32) [(.int (1 : Int32)), (.int (2 : Int32)), (.int (3 : Int32)), (.int (4 : Int32))] (.int (0 : Int32))) (S2 : Sta Z h0 "com/example/notched_ledger/notchedledger/amqp/ReplyCode" "ACCESS_REFUSED" "Lcom/example/notched_ledger/notchedledger/amqp/ReplyCode;" (.ref rc)) :
    MetFree l (⟨"com/example/notched_ledger/notchedledger/amqp/ReplyCode", "of", "(Lcom/example/notched_ledger/notchedledger/core/BrokerException$Reason;)Lcom/example/notched_ledger/notchedledger/amqp/ReplyCode;"⟩ : MethodName) (head1 (Jvm.Cond.code (⟨"com/example/notched_ledger/notchedledger/amqp/ReplyCode", "of", "(Lcom/example/notched_ledger/notchedledger/core/BrokerException$Reason;)Lcom/example/notched_ledger/notchedledger/amqp/ReplyCode;"⟩ : MethodName) prog_3_method_4_code 1 (some (.object "com/example/notched_ledger/notchedledger/amqp/ReplyCode")) :: ws) ({ frames := 1, cells := 0, slots := 0, locals := 13 } : Room)) (fun a U => a = #[(.ref a1)] ∧ Z.Warmed39 U.vm ∧ U.heap = h0) (fun _ _ _ _ _ => True) (fun _ U o U' => ∃ v L, o = .returned v ∧ Q1_2 Z a1 rc sm ks h0 n0 v U'.heap L ∧ FrameEnd U o U' L ({ frames := 1, cells := 0, slots := 0, locals := 13 } : Room).cells ({ frames := 1, cells := 0, slots := 0, locals := 13 } : Room).slots) := by
  refine MetFree.of_bodySF pn_1 hisR ?_
  intro p e s m args below meth c s₁ Bd hml0 hP hK
  obtain ⟨rfl, hZ, hh⟩ := hP
  have hx := Bd.exec
  have hby := Bd.bytes
  have hml : c.maxLocals = 1 := hml0
  have hown : s.vm.findClass "com/example/notched_ledger/notchedledger/amqp/ReplyCode" = some m.cls := findClass_of_methodNamed Bd.named
  have hnm := (name_of_methodNamed Bd.named Bd.method).1
  have X0 : Stand p l e ({ frames := 1, cells := 0, slots := 0, locals := 13 } : Room) s m #[(.ref a1)] below meth c s₁ [] 0 0 := Stand.of_body Bd
  have e0 : s₁.heap = h0 := by rw [← hh, Bd.state]; rfl
  have N0 := Fr.nil n0
  refine own_start (Q := Q1_2 Z a1 rc sm ks h0 n0) (own_cast (ef_1 m a1) ?_)
  show Go p.tables e below _ (s₁.setTop (mkF m 0 #[.val (.ref a1)] []))
  obtain ⟨T1, X1, e1, st1⟩ := getS2 X0 hx hZ hown (host := "") (Or.inl (hw _ (List.mem_of_getElem? (i := 9) rfl))) Via.refl e0 S1 (g := (mkF m 0 #[.val (.ref a1)] [])) rfl (hb hby d1_0)
  refine Go.st st1 ?_
  show Go p.tables e below _ (T1.setTop (mkF m 3 #[.val (.ref a1)] [(.ref sm)]))
  refine Go.st (fun U hr => XS.aloadN X1.here hx rfl (hb hby d1_3) rfl rfl hr) ?_
  show Go p.tables e below _ (T1.setTop (mkF m 4 #[.val (.ref a1)] [(.ref a1), (.ref sm)]))
  obtain ⟨cq2, kq2, q2a, q2b, q2c⟩ := isOf hZ e1 E1
  obtain ⟨_, _, ⟨T2, L2, k2, n2⟩, -, X2, ⟨Lc2, hQ2, l2, y2, z2⟩, st2⟩ := X1.virtualBackUp hx (x := (⟨"com/example/notched_ledger/notchedledger/core/BrokerException$Reason", "ordinal", "()I"⟩ : MethodName)) (y := (⟨"java/lang/Enum", "ordinal", "()I"⟩ : MethodName)) (owner := "java/lang/Enum") hown (mvT hZ (hw _ (List.mem_of_getElem? (i := 12) rfl))) (mvT hZ (hw _ (List.mem_of_getElem? (i := 13) rfl))) (mvT hZ (hw _ (List.mem_of_getElem? (i := 14) rfl))) (by decide) (mvT hZ (hw _ (List.mem_of_getElem? (i := 16) rfl))) (mvT hZ (hw _ (List.mem_of_getElem? (i := 15) rfl))) (backOf (W := 1) (rm2 l Z a0 hw [] a1 (2 : Int32) h0 n0 Z0 F1) hZ (hw _ (List.mem_of_getElem? (i := 18) rfl)) (hw _ (List.mem_of_getElem? (i := 17) rfl)) (by decide) (by decide)) q2a q2c (g := (mkF m 4 #[.val (.ref a1)] [(.ref a1), (.ref sm)])) rfl (by rw [hml]; rfl) (Steps.refl _) (argsL := []) (rest := [(.ref sm)]) (lenOf pd_0 rfl) rfl (by show 2 * 0 + _ ≤ _; exact Nat.le_of_eq rfl) (hb hby d1_4) (fun _ _ => ⟨rfl, e1, (by decide : 0 + 0 ≤ _), (by decide : 0 + 0 ≤ _)⟩)
  dsimp only [Pt.U, Pt.locs, Pt.cells, Pt.slots] at X2 l2 y2 z2 st2 hQ2
  subst l2 y2 z2
  obtain ⟨rfl, Nq2, ee2⟩ := hQ2
  have N2 := Fr.app N0 Nq2
  refine Go.tr st2 ?_
  show Go p.tables e below _ (T2.setTop (mkF m 7 #[.val (.ref a1)] [(.int (2 : Int32)), (.ref sm)]))
  obtain ⟨cl3, Ar3, qa3, Sa3, Na3, Ha3, Ga3⟩ := id A1
  have hin3 : ¬ ((2 : Int32) < 0 ∨ cl3.slots.size ≤ ((2 : Int32)).toNatClampNeg) := inb_of Sa3 ⟨by decide, by decide⟩
  refine Go.st (X2.iaload hx (j := (2 : Int32)) (v := (.int (3 : Int32))) (by rw [ee2]; exact Ar3.1) (State.isArrayOf_alike hZ.alike Ar3.2.1) Ar3.2.2 hin3 (Ha3.at hin3 rfl) (g := (mkF m 7 #[.val (.ref a1)] [(.int (2 : Int32)), (.ref sm)])) rfl rfl (hb hby d1_7)) ?_
  show Go p.tables e below _ (T2.setTop (mkF m 8 #[.val (.ref a1)] [(.int (3 : Int32))]))
  refine Go.st (fun U hr => XS.tswIn X2.here hx rfl (pc0 := 8) (pc' := 62) (o := 54) rfl (hb hby d1_8) rfl (by decide) (by decide) (by decide) (by decide) hr) ?_
  show Go p.tables e below _ (T2.setTop (mkF m 62 #[.val (.ref a1)] []))
  obtain ⟨T4, X4, e4, st4⟩ := getS2 X2 hx hZ hown (host := "") (Or.inl (hw _ (List.mem_of_getElem? (i := 35) rfl))) Via.refl ee2 S2 (g := (mkF m 62 #[.val (.ref a1)] [])) rfl (hb hby d1_62)
  refine Go.st st4 ?_
  show Go p.tables e below _ (T4.setTop (mkF m 65 #[.val (.ref a1)] [(.ref rc)]))
  refine Go.st (fun U hr => XS.goto X4.here hx rfl (pc0 := 65) (pc' := 71) rfl (hb hby d1_65) (by decide) (by decide) hr) ?_
  show Go p.tables e below _ (T4.setTop (mkF m 71 #[.val (.ref a1)] [(.ref rc)]))
  exact own_retO X4 hx Bd.notSynchronized (t := (.object "com/example/notched_ledger/notchedledger/amqp/ReplyCode")) Bd.returns rfl (Or.inr (Or.inr (Or.inr (Or.inr ⟨rfl, rfl, rfl⟩)))) (hb hby d1_71) ⟨rfl, N2, e4⟩ (by decide) (by decide)
theorem d1_68 : decode prog_3_method_4_code 68 = .ok (.getstatic 31, 3) := by decide +kernel
def Q1_3 (Z : State) (a1 : Addr) (rc : Addr) (sm : Addr) (ks : ClassId) (h0 : Heap) (n0 : Nat) (v : Option Value) (h : Heap) (L : List Loc) : Prop := v = some (.ref rc) ∧ Fr n0 L ∧ h = h0
set_option maxRecDepth 65536 in
set_option maxHeartbeats 40000000 in
theorem rm1_3 (l : Launch) (Z : State) (a0 : Array Value) (hw : ∀ d ∈ tables_1, d.before a0 Z = true) (ws : List Jvm.Cond) (a1 : Addr) (rc : Addr) (sm : Addr) (ks : ClassId) (h0 : Heap) (n0 : Nat) (Z0 : n0 ≤ h0.size) (E1 : Exa Z h0 a1 "com/example/notched_ledger/notchedledger/core/BrokerException$Reason") (F1 : Fld Z h0 a1 "java/lang/Enum" "ordinal" "I" (.int (3 : Int32))) (S1 : Sta Z h0 "com/example/notched_ledger/notchedledger/amqp/ReplyCode$1" "$SwitchMap$com$example$notched_ledger$notchedledger$core$BrokerException$Reason" "[I" (.ref sm)) (A1 : Arv Z h0 sm ks .int (4 : Int32) [(.int (1 : Int32)), (.int (2 : Int32)), (.int (3 : Int32)), (.int (4 : Int32))] (.int (0 : Int32))) (S2 : Sta Z h0 "com/example/notched_ledger/notchedledger/amqp/ReplyCode" "PRECONDITION_FAILED" "Lcom/example/notched_ledger/notchedledger/amqp/ReplyCode;" (.ref rc)) :
    MetFree l (⟨"com/example/notched_ledger/notchedledger/amqp/ReplyCode", "of", "(Lcom/example/notched_ledger/notchedledger/core/BrokerException$Reason;)Lcom/example/notched_ledger/notchedledger/amqp/ReplyCode;"⟩ : MethodName) (head1 (Jvm.Cond.code (⟨"com/example/notched_ledger/notchedledger/amqp/ReplyCode", "of", "(Lcom/example/notched_ledger/notchedledger/core/BrokerException$Reason;)Lcom/example/notched_ledger/notchedledger/amqp/ReplyCode;"⟩ : MethodName) prog_3_method_4_code 1 (some (.object "com/example/notched_ledger/notchedledger/amqp/ReplyCode")) :: ws) ({ frames := 1, cells := 0, slots := 0, locals := 13 } : Room)) (fun a U => a = #[(.ref a1)] ∧ Z.Warmed39 U.vm ∧ U.heap = h0) (fun _ _ _ _ _ => True) (fun _ U o U' => ∃ v L, o = .returned v ∧ Q1_3 Z a1 rc sm ks h0 n0 v U'.heap L ∧ FrameEnd U o U' L ({ frames := 1, cells := 0, slots := 0, locals := 13 } : Room).cells ({ frames := 1, cells := 0, slots := 0, locals := 13 } : Room).slots) := by
  refine MetFree.of_bodySF pn_1 hisR ?_
  intro p e s m args below meth c s₁ Bd hml0 hP hK
  obtain ⟨rfl, hZ, hh⟩ := hP
  have hx := Bd.exec
  have hby := Bd.bytes
  have hml : c.maxLocals = 1 := hml0
  have hown : s.vm.findClass "com/example/notched_ledger/notchedledger/amqp/ReplyCode" = some m.cls := findClass_of_methodNamed Bd.named
  have hnm := (name_of_methodNamed Bd.named Bd.method).1
  have X0 : Stand p l e ({ frames := 1, cells := 0, slots := 0, locals := 13 } : Room) s m #[(.ref a1)] below meth c s₁ [] 0 0 := Stand.of_body Bd
  have e0 : s₁.heap = h0 := by rw [← hh, Bd.state]; rfl
  have N0 := Fr.nil n0
  refine own_start (Q := Q1_3 Z a1 rc sm ks h0 n0) (own_cast (ef_1 m a1) ?_)
  show Go p.tables e below _ (s₁.setTop (mkF m 0 #[.val (.ref a1)] []))
  obtain ⟨T1, X1, e1, st1⟩ := getS2 X0 hx hZ hown (host := "") (Or.inl (hw _ (List.mem_of_getElem? (i := 9) rfl))) Via.refl e0 S1 (g := (mkF m 0 #[.val (.ref a1)] [])) rfl (hb hby d1_0)
  refine Go.st st1 ?_
  show Go p.tables e below _ (T1.setTop (mkF m 3 #[.val (.ref a1)] [(.ref sm)]))
  refine Go.st (fun U hr => XS.aloadN X1.here hx rfl (hb hby d1_3) rfl rfl hr) ?_
  show Go p.tables e below _ (T1.setTop (mkF m 4 #[.val (.ref a1)] [(.ref a1), (.ref sm)]))
  obtain ⟨cq2, kq2, q2a, q2b, q2c⟩ := isOf hZ e1 E1
  obtain ⟨_, _, ⟨T2, L2, k2, n2⟩, -, X2, ⟨Lc2, hQ2, l2, y2, z2⟩, st2⟩ := X1.virtualBackUp hx (x := (⟨"com/example/notched_ledger/notchedledger/core/BrokerException$Reason", "ordinal", "()I"⟩ : MethodName)) (y := (⟨"java/lang/Enum", "ordinal", "()I"⟩ : MethodName)) (owner := "java/lang/Enum") hown (mvT hZ (hw _ (List.mem_of_getElem? (i := 12) rfl))) (mvT hZ (hw _ (List.mem_of_getElem? (i := 13) rfl))) (mvT hZ (hw _ (List.mem_of_getElem? (i := 14) rfl))) (by decide) (mvT hZ (hw _ (List.mem_of_getElem? (i := 16) rfl))) (mvT hZ (hw _ (List.mem_of_getElem? (i := 15) rfl))) (backOf (W := 1) (rm2 l Z a0 hw [] a1 (3 : Int32) h0 n0 Z0 F1) hZ (hw _ (List.mem_of_getElem? (i := 18) rfl)) (hw _ (List.mem_of_getElem? (i := 17) rfl)) (by decide) (by decide)) q2a q2c (g := (mkF m 4 #[.val (.ref a1)] [(.ref a1), (.ref sm)])) rfl (by rw [hml]; rfl) (Steps.refl _) (argsL := []) (rest := [(.ref sm)]) (lenOf pd_0 rfl) rfl (by show 2 * 0 + _ ≤ _; exact Nat.le_of_eq rfl) (hb hby d1_4) (fun _ _ => ⟨rfl, e1, (by decide : 0 + 0 ≤ _), (by decide : 0 + 0 ≤ _)⟩)
  dsimp only [Pt.U, Pt.locs, Pt.cells, Pt.slots] at X2 l2 y2 z2 st2 hQ2
  subst l2 y2 z2
  obtain ⟨rfl, Nq2, ee2⟩ := hQ2
  have N2 := Fr.app N0 Nq2
  refine Go.tr st2 ?_
  show Go p.tables e below _ (T2.setTop (mkF m 7 #[.val (.ref a1)] [(.int (3 : Int32)), (.ref sm)]))
  obtain ⟨cl3, Ar3, qa3, Sa3, Na3, Ha3, Ga3⟩ := id A1
  have hin3 : ¬ ((3 : Int32) < 0 ∨ cl3.slots.size ≤ ((3 : Int32)).toNatClampNeg) := inb_of Sa3 ⟨by decide, by decide⟩
  refine Go.st (X2.iaload hx (j := (3 : Int32)) (v := (.int (4 : Int32))) (by rw [ee2]; exact Ar3.1) (State.isArrayOf_alike hZ.alike Ar3.2.1) Ar3.2.2 hin3 (Ha3.at hin3 rfl) (g := (mkF m 7 #[.val (.ref a1)] [(.int (3 : Int32)), (.ref sm)])) rfl rfl (hb hby d1_7)) ?_
  show Go p.tables e below _ (T2.setTop (mkF m 8 #[.val (.ref a1)] [(.int (4 : Int32))]))
  refine Go.st (fun U hr => XS.tswIn X2.here hx rfl (pc0 := 8) (pc' := 68) (o := 60) rfl (hb hby d1_8) rfl (by decide) (by decide) (by decide) (by decide) hr) ?_
  show Go p.tables e below _ (T2.setTop (mkF m 68 #[.val (.ref a1)] []))
  obtain ⟨T4, X4, e4, st4⟩ := getS2 X2 hx hZ hown (host := "") (Or.inl (hw _ (List.mem_of_getElem? (i := 30) rfl))) Via.refl ee2 S2 (g := (mkF m 68 #[.val (.ref a1)] [])) rfl (hb hby d1_68)
  refine Go.st st4 ?_
  show Go p.tables e below _ (T4.setTop (mkF m 71 #[.val (.ref a1)] [(.ref rc)]))
  exact own_retO X4 hx Bd.notSynchronized (t := (.object "com/example/notched_ledger/notchedledger/amqp/ReplyCode")) Bd.returns rfl (Or.inr (Or.inr (Or.inr (Or.inr ⟨rfl, rfl, rfl⟩)))) (hb hby d1_71) ⟨rfl, N2, e4⟩ (by decide) (by decide)
theorem pn_0 : plainFor x = true := plainFor_of_name (by first | (simp [plainName, overriddenIn]; done) | decide +kernel)
theorem ef_0 (m : MethodId) (x0 : Int32) : entryFrame m #[(.int x0)] maxLocals = mkF m 0 #[.val (.int x0), .unset, .unset, .unset, .unset, .unset] [] := by first | (simp [entryFrame, mkF, argsToLocals, Value.category, maxLocals]; done) | rfl
theorem pd_1 : parseMethodDescriptor "(Lcom/example/notched_ledger/notchedledger/core/BrokerException$Reason;)Lcom/example/notched_ledger/notchedledger/amqp/ReplyCode;" = some ⟨[(.object "com/example/notched_ledger/notchedledger/core/BrokerException$Reason")], some (.object "com/example/notched_ledger/notchedledger/amqp/ReplyCode")⟩ := by decide +kernel
def Q0 (Z : State) (p1 : Int32) (r0 : Addr) (c0 : Addr) (r1 : Addr) (c1 : Addr) (r2 : Addr) (c2 : Addr) (r3 : Addr) (c3 : Addr) (sm : Addr) (ks : ClassId) (h0 : Heap) (n0 : Nat) (v : Option Value) (h : Heap) (L : List Loc) : Prop := v = some (.int 1) ∧ Fr n0 L
set_option maxRecDepth 65536 in
set_option maxHeartbeats 40000000 in
theorem rm0 (l : Launch) (Z : State) (a0 : Array Value) (hw : ∀ d ∈ tables_1, d.before a0 Z = true) (ws : List Jvm.Cond) (p1 : Int32) (r0 : Addr) (c0 : Addr) (r1 : Addr) (c1 : Addr) (r2 : Addr) (c2 : Addr) (r3 : Addr) (c3 : Addr) (sm : Addr) (ks : ClassId) (h0 : Heap) (n0 : Nat) (Z0 : n0 ≤ h0.size) (SR0 : Sta Z h0 "com/example/notched_ledger/notchedledger/core/BrokerException$Reason" "NOT_FOUND" "Lcom/example/notched_ledger/notchedledger/core/BrokerException$Reason;" (.ref r0)) (SC0 : Sta Z h0 "com/example/notched_ledger/notchedledger/amqp/ReplyCode" "NOT_FOUND" "Lcom/example/notched_ledger/notchedledger/amqp/ReplyCode;" (.ref c0)) (ER0 : Exa Z h0 r0 "com/example/notched_ledger/notchedledger/core/BrokerException$Reason") (FR0 : Fld Z h0 r0 "java/lang/Enum" "ordinal" "I" (.int (0 : Int32))) (FV0 : Fld Z h0 c0 "com/example/notched_ledger/notchedledger/amqp/ReplyCode" "value" "I" (.int (404 : Int32))) (FC0 : Fld Z h0 c0 "com/example/notched_ledger/notchedledger/amqp/ReplyCode" "closesConnection" "Z" (.int (0 : Int32))) (SR1 : Sta Z h0 "com/example/notched_ledger/notchedledger/core/BrokerException$Reason" "RESOURCE_LOCKED" "Lcom/example/notched_ledger/notchedledger/core/BrokerException$Reason;" (.ref r1)) (SC1 : Sta Z h0 "com/example/notched_ledger/notchedledger/amqp/ReplyCode" "RESOURCE_LOCKED" "Lcom/example/notched_ledger/notchedledger/amqp/ReplyCode;" (.ref c1)) (ER1 : Exa Z h0 r1 "com/example/notched_ledger/notchedledger/core/BrokerException$Reason") (FR1 : Fld Z h0 r1 "java/lang/Enum" "ordinal" "I" (.int (1 : Int32))) (FV1 : Fld Z h0 c1 "com/example/notched_ledger/notchedledger/amqp/ReplyCode" "value" "I" (.int (405 : Int32))) (FC1 : Fld Z h0 c1 "com/example/notched_ledger/notchedledger/amqp/ReplyCode" "closesConnection" "Z" (.int (0 : Int32))) (SR2 : Sta Z h0 "com/example/notched_ledger/notchedledger/core/BrokerException$Reason" "ACCESS_REFUSED" "Lcom/example/notched_ledger/notchedledger/core/BrokerException$Reason;" (.ref r2)) (SC2 : Sta Z h0 "com/example/notched_ledger/notchedledger/amqp/ReplyCode" "ACCESS_REFUSED" "Lcom/example/notched_ledger/notchedledger/amqp/ReplyCode;" (.ref c2)) (ER2 : Exa Z h0 r2 "com/example/notched_ledger/notchedledger/core/BrokerException$Reason") (FR2 : Fld Z h0 r2 "java/lang/Enum" "ordinal" "I" (.int (2 : Int32))) (FV2 : Fld Z h0 c2 "com/example/notched_ledger/notchedledger/amqp/ReplyCode" "value" "I" (.int (403 : Int32))) (FC2 : Fld Z h0 c2 "com/example/notched_ledger/notchedledger/amqp/ReplyCode" "closesConnection" "Z" (.int (0 : Int32))) (SR3 : Sta Z h0 "com/example/notched_ledger/notchedledger/core/BrokerException$Reason" "PRECONDITION_FAILED" "Lcom/example/notched_ledger/notchedledger/core/BrokerException$Reason;" (.ref r3)) (SC3 : Sta Z h0 "com/example/notched_ledger/notchedledger/amqp/ReplyCode" "PRECONDITION_FAILED" "Lcom/example/notched_ledger/notchedledger/amqp/ReplyCode;" (.ref c3)) (ER3 : Exa Z h0 r3 "com/example/notched_ledger/notchedledger/core/BrokerException$Reason") (FR3 : Fld Z h0 r3 "java/lang/Enum" "ordinal" "I" (.int (3 : Int32))) (FV3 : Fld Z h0 c3 "com/example/notched_ledger/notchedledger/amqp/ReplyCode" "value" "I" (.int (406 : Int32))) (FC3 : Fld Z h0 c3 "com/example/notched_ledger/notchedledger/amqp/ReplyCode" "closesConnection" "Z" (.int (0 : Int32))) (SS : Sta Z h0 "com/example/notched_ledger/notchedledger/amqp/ReplyCode$1" "$SwitchMap$com$example$notched_ledger$notchedledger$core$BrokerException$Reason" "[I" (.ref sm)) (AS : Arv Z h0 sm ks .int (4 : Int32) [(.int (1 : Int32)), (.int (2 : Int32)), (.int (3 : Int32)), (.int (4 : Int32))] (.int (0 : Int32))) :
    MetFree l x (head1 (Jvm.Cond.code x code maxLocals ret :: ws) room_1) (fun a U => a = #[(.int p1)] ∧ Z.Warmed39 U.vm ∧ U.heap = h0) (fun _ _ _ _ _ => True) (fun _ U o U' => ∃ v L, o = .returned v ∧ Q0 Z p1 r0 c0 r1 c1 r2 c2 r3 c3 sm ks h0 n0 v U'.heap L ∧ FrameEnd U o U' L room_1.cells room_1.slots) := by
  refine MetFree.of_bodySF pn_0 hisR ?_
  intro p e s m args below meth c s₁ Bd hml0 hP hK
  obtain ⟨rfl, hZ, hh⟩ := hP
  have hx := Bd.exec
  have hby := Bd.bytes
  have hml : c.maxLocals = 6 := hml0
  have hown : s.vm.findClass "com/example/notched_ledger/notchedledger/amqp/ReplyCodeOfPinLaw" = some m.cls := findClass_of_methodNamed Bd.named
  have hnm := (name_of_methodNamed Bd.named Bd.method).1
  have X0 : Stand p l e room_1 s m #[(.int p1)] below meth c s₁ [] 0 0 := Stand.of_body Bd
  have e0 : s₁.heap = h0 := by rw [← hh, Bd.state]; rfl
  have N0 := Fr.nil n0
  refine own_start (Q := Q0 Z p1 r0 c0 r1 c1 r2 c2 r3 c3 sm ks h0 n0) (own_cast (ef_0 m p1) ?_)
  show Go p.tables e below _ (s₁.setTop (mkF m 0 #[.val (.int p1), .unset, .unset, .unset, .unset, .unset] []))
  refine Go.st (fun U hr => XS.iloadN X0.here hx rfl (hb hby at_0) rfl hr) ?_
  show Go p.tables e below _ (s₁.setTop (mkF m 1 #[.val (.int p1), .unset, .unset, .unset, .unset, .unset] [(.int p1)]))
  refine Go.st (fun U hr => XS.iconst X0.here hx rfl (hb hby at_1) hr) ?_
  show Go p.tables e below _ (s₁.setTop (mkF m 2 #[.val (.int p1), .unset, .unset, .unset, .unset, .unset] [(.int (3 : Int32)), (.int p1)]))
  refine Go.st (fun U hr => XS.iand X0.here hx rfl (hb hby at_2) rfl hr) ?_
  show Go p.tables e below _ (s₁.setTop (mkF m 3 #[.val (.int p1), .unset, .unset, .unset, .unset, .unset] [(.int (p1 &&& (3 : Int32)))]))
  refine Go.st (fun U hr => XS.istoreN X0.here hx rfl (hb hby at_3) rfl (l' := #[.val (.int p1), .val (.int (p1 &&& (3 : Int32))), .unset, .unset, .unset, .unset]) rfl hr) ?_
  show Go p.tables e below _ (s₁.setTop (mkF m 4 #[.val (.int p1), .val (.int (p1 &&& (3 : Int32))), .unset, .unset, .unset, .unset] []))
  generalize h_ii : (p1 &&& (3 : Int32)) = ii
  refine Go.st (fun U hr => XS.iloadN X0.here hx rfl (hb hby at_4) rfl hr) ?_
  show Go p.tables e below _ (s₁.setTop (mkF m 5 #[.val (.int p1), .val (.int ii), .unset, .unset, .unset, .unset] [(.int ii)]))
  by_cases hc5_1 : ii = (0 : Int32)
  · refine Go.st (fun U hr => XS.ifNo X0.here hx rfl (hb hby at_5) rfl ((if0 _ _).trans (teq hc5_1).2) hr) ?_
    show Go p.tables e below _ (s₁.setTop (mkF m 8 #[.val (.int p1), .val (.int ii), .unset, .unset, .unset, .unset] []))
    obtain ⟨T2, X2, e2, st2⟩ := getS2 X0 hx hZ hown (host := "") (Or.inl (hw _ (List.mem_of_getElem? (i := 0) rfl))) Via.refl e0 SR0 (g := (mkF m 8 #[.val (.int p1), .val (.int ii), .unset, .unset, .unset, .unset] [])) rfl (hb hby at_8)
    refine Go.st st2 ?_
    show Go p.tables e below _ (T2.setTop (mkF m 11 #[.val (.int p1), .val (.int ii), .unset, .unset, .unset, .unset] [(.ref r0)]))
    refine Go.st (fun U hr => XS.astoreN X2.here hx rfl (hb hby at_11) rfl rfl (l' := #[.val (.int p1), .val (.int ii), .val (.ref r0), .unset, .unset, .unset]) rfl hr) ?_
    show Go p.tables e below _ (T2.setTop (mkF m 12 #[.val (.int p1), .val (.int ii), .val (.ref r0), .unset, .unset, .unset] []))
    obtain ⟨T3, X3, e3, st3⟩ := getS2 X2 hx hZ hown (host := "") (Or.inl (hw _ (List.mem_of_getElem? (i := 3) rfl))) Via.refl e2 SC0 (g := (mkF m 12 #[.val (.int p1), .val (.int ii), .val (.ref r0), .unset, .unset, .unset] [])) rfl (hb hby at_12)
    refine Go.st st3 ?_
    show Go p.tables e below _ (T3.setTop (mkF m 15 #[.val (.int p1), .val (.int ii), .val (.ref r0), .unset, .unset, .unset] [(.ref c0)]))
    refine Go.st (fun U hr => XS.astoreN X3.here hx rfl (hb hby at_15) rfl rfl (l' := #[.val (.int p1), .val (.int ii), .val (.ref r0), .val (.ref c0), .unset, .unset]) rfl hr) ?_
    show Go p.tables e below _ (T3.setTop (mkF m 16 #[.val (.int p1), .val (.int ii), .val (.ref r0), .val (.ref c0), .unset, .unset] []))
    refine Go.st (fun U hr => XS.sipush X3.here hx rfl (hb hby at_16) hr) ?_
    show Go p.tables e below _ (T3.setTop (mkF m 19 #[.val (.int p1), .val (.int ii), .val (.ref r0), .val (.ref c0), .unset, .unset] [(.int (404 : Int32))]))
    refine Go.st (fun U hr => XS.istore X3.here hx rfl (hb hby at_19) rfl (l' := #[.val (.int p1), .val (.int ii), .val (.ref r0), .val (.ref c0), .val (.int (404 : Int32)), .unset]) rfl hr) ?_
    show Go p.tables e below _ (T3.setTop (mkF m 21 #[.val (.int p1), .val (.int ii), .val (.ref r0), .val (.ref c0), .val (.int (404 : Int32)), .unset] []))
    refine Go.st (fun U hr => XS.goto X3.here hx rfl (pc0 := 21) (pc' := 79) rfl (hb hby at_21) (by decide) (by decide) hr) ?_
    show Go p.tables e below _ (T3.setTop (mkF m 79 #[.val (.int p1), .val (.int ii), .val (.ref r0), .val (.ref c0), .val (.int (404 : Int32)), .unset] []))
    refine Go.st (fun U hr => XS.aloadN X3.here hx rfl (hb hby at_79) rfl rfl hr) ?_
    show Go p.tables e below _ (T3.setTop (mkF m 80 #[.val (.int p1), .val (.int ii), .val (.ref r0), .val (.ref c0), .val (.int (404 : Int32)), .unset] [(.ref r0)]))
    obtain ⟨_, _, ⟨T4, L4, k4, n4⟩, -, X4, ⟨Lc4, hQ4, l4, y4, z4⟩, st4⟩ := Jvm.LawKit.callS X3 hx (y := (⟨"com/example/notched_ledger/notchedledger/amqp/ReplyCode", "of", "(Lcom/example/notched_ledger/notchedledger/core/BrokerException$Reason;)Lcom/example/notched_ledger/notchedledger/amqp/ReplyCode;"⟩ : MethodName)) hown (mvT hZ (hw _ (List.mem_of_getElem? (i := 6) rfl))) (mvT hZ (hw _ (List.mem_of_getElem? (i := 7) rfl))) (mvT hZ (hw _ (List.mem_of_getElem? (i := 4) rfl))) (mvT hZ (hw _ (List.mem_of_getElem? (i := 8) rfl))) (by decide) (backOf (W := 0) (rm1_0 l Z a0 hw [] r0 c0 sm ks h0 n0 Z0 ER0 FR0 SS AS SC0) hZ (hw _ (List.mem_of_getElem? (i := 8) rfl)) (hw _ (List.mem_of_getElem? (i := 4) rfl)) (by decide) (by decide)) (g := (mkF m 80 #[.val (.int p1), .val (.int ii), .val (.ref r0), .val (.ref c0), .val (.int (404 : Int32)), .unset] [(.ref r0)])) rfl (by rw [hml]; rfl) (argsL := [(.ref r0)]) (rest := []) (lenOf pd_1 rfl) rfl (by show 2 * 0 + _ ≤ _; exact Nat.le_of_eq rfl) (hb hby at_80) (fun _ _ => ⟨rfl, e3, (by decide : 0 + 0 ≤ _), (by decide : 0 + 0 ≤ _)⟩)
    dsimp only [Pt.U, Pt.locs, Pt.cells, Pt.slots] at X4 l4 y4 z4 st4 hQ4
    subst l4 y4 z4
    obtain ⟨rfl, Nq4, ee4⟩ := hQ4
    have N4 := Fr.app N0 Nq4
    refine Go.st st4 ?_
    show Go p.tables e below _ (T4.setTop (mkF m 83 #[.val (.int p1), .val (.int ii), .val (.ref r0), .val (.ref c0), .val (.int (404 : Int32)), .unset] [(.ref c0)]))
    refine Go.st (fun U hr => XS.astore X4.here hx rfl (hb hby at_83) rfl rfl (l' := #[.val (.int p1), .val (.int ii), .val (.ref r0), .val (.ref c0), .val (.int (404 : Int32)), .val (.ref c0)]) rfl hr) ?_
    show Go p.tables e below _ (T4.setTop (mkF m 85 #[.val (.int p1), .val (.int ii), .val (.ref r0), .val (.ref c0), .val (.int (404 : Int32)), .val (.ref c0)] []))
    refine Go.st (fun U hr => XS.aload X4.here hx rfl (hb hby at_85) rfl rfl hr) ?_
    show Go p.tables e below _ (T4.setTop (mkF m 87 #[.val (.int p1), .val (.int ii), .val (.ref r0), .val (.ref c0), .val (.int (404 : Int32)), .val (.ref c0)] [(.ref c0)]))
    refine Go.st (fun U hr => XS.aloadN X4.here hx rfl (hb hby at_87) rfl rfl hr) ?_
    show Go p.tables e below _ (T4.setTop (mkF m 88 #[.val (.int p1), .val (.int ii), .val (.ref r0), .val (.ref c0), .val (.int (404 : Int32)), .val (.ref c0)] [(.ref c0), (.ref c0)]))
    refine Go.st (fun U hr => XS.acmpNo X4.here hx rfl (hb hby at_88) rfl (by simp [if_acmp.holds]) hr) ?_
    show Go p.tables e below _ (T4.setTop (mkF m 91 #[.val (.int p1), .val (.int ii), .val (.ref r0), .val (.ref c0), .val (.int (404 : Int32)), .val (.ref c0)] []))
    refine Go.st (fun U hr => XS.aload X4.here hx rfl (hb hby at_91) rfl rfl hr) ?_
    show Go p.tables e below _ (T4.setTop (mkF m 93 #[.val (.int p1), .val (.int ii), .val (.ref r0), .val (.ref c0), .val (.int (404 : Int32)), .val (.ref c0)] [(.ref c0)]))
    obtain ⟨T5, X5, e5, st5⟩ := getF X4 hx hZ hown (host := "") (Or.inl (hw _ (List.mem_of_getElem? (i := 22) rfl))) Via.refl ee4 FV0 (g := (mkF m 93 #[.val (.int p1), .val (.int ii), .val (.ref r0), .val (.ref c0), .val (.int (404 : Int32)), .val (.ref c0)] [(.ref c0)])) rfl rfl (hb hby at_93)
    refine Go.st st5 ?_
    show Go p.tables e below _ (T5.setTop (mkF m 96 #[.val (.int p1), .val (.int ii), .val (.ref r0), .val (.ref c0), .val (.int (404 : Int32)), .val (.ref c0)] [(.int (404 : Int32))]))
    refine Go.st (fun U hr => XS.iload X5.here hx rfl (hb hby at_96) rfl hr) ?_
    show Go p.tables e below _ (T5.setTop (mkF m 98 #[.val (.int p1), .val (.int ii), .val (.ref r0), .val (.ref c0), .val (.int (404 : Int32)), .val (.ref c0)] [(.int (404 : Int32)), (.int (404 : Int32))]))
    refine Go.st (fun U hr => XS.icmpNo X5.here hx rfl (hb hby at_98) rfl (by decide) hr) ?_
    show Go p.tables e below _ (T5.setTop (mkF m 101 #[.val (.int p1), .val (.int ii), .val (.ref r0), .val (.ref c0), .val (.int (404 : Int32)), .val (.ref c0)] []))
    refine Go.st (fun U hr => XS.aload X5.here hx rfl (hb hby at_101) rfl rfl hr) ?_
    show Go p.tables e below _ (T5.setTop (mkF m 103 #[.val (.int p1), .val (.int ii), .val (.ref r0), .val (.ref c0), .val (.int (404 : Int32)), .val (.ref c0)] [(.ref c0)]))
    obtain ⟨T6, X6, e6, st6⟩ := getF X5 hx hZ hown (host := "") (Or.inl (hw _ (List.mem_of_getElem? (i := 24) rfl))) Via.refl e5 FC0 (g := (mkF m 103 #[.val (.int p1), .val (.int ii), .val (.ref r0), .val (.ref c0), .val (.int (404 : Int32)), .val (.ref c0)] [(.ref c0)])) rfl rfl (hb hby at_103)
    refine Go.st st6 ?_
    show Go p.tables e below _ (T6.setTop (mkF m 106 #[.val (.int p1), .val (.int ii), .val (.ref r0), .val (.ref c0), .val (.int (404 : Int32)), .val (.ref c0)] [(.int (0 : Int32))]))
    refine Go.st (fun U hr => XS.ifNo X6.here hx rfl (hb hby at_106) rfl (by decide) hr) ?_
    show Go p.tables e below _ (T6.setTop (mkF m 109 #[.val (.int p1), .val (.int ii), .val (.ref r0), .val (.ref c0), .val (.int (404 : Int32)), .val (.ref c0)] []))
    refine Go.st (fun U hr => XS.iconst X6.here hx rfl (hb hby at_109) hr) ?_
    show Go p.tables e below _ (T6.setTop (mkF m 110 #[.val (.int p1), .val (.int ii), .val (.ref r0), .val (.ref c0), .val (.int (404 : Int32)), .val (.ref c0)] [(.int (1 : Int32))]))
    refine Go.st (fun U hr => XS.goto X6.here hx rfl (pc0 := 110) (pc' := 114) rfl (hb hby at_110) (by decide) (by decide) hr) ?_
    show Go p.tables e below _ (T6.setTop (mkF m 114 #[.val (.int p1), .val (.int ii), .val (.ref r0), .val (.ref c0), .val (.int (404 : Int32)), .val (.ref c0)] [(.int (1 : Int32))]))
    exact own_retN X6 hx Bd.notSynchronized (t := .boolean) Bd.returns (by simp) (hb hby at_114) ⟨rfl, N4⟩ (by decide) (by decide)
  · refine Go.st (fun U hr => XS.ifYes X0.here hx rfl (pc0 := 5) (pc' := 24) rfl (hb hby at_5) rfl ((if0 _ _).trans (feq hc5_1).2) (by decide) (by decide) hr) ?_
    show Go p.tables e below _ (s₁.setTop (mkF m 24 #[.val (.int p1), .val (.int ii), .unset, .unset, .unset, .unset] []))
    refine Go.st (fun U hr => XS.iloadN X0.here hx rfl (hb hby at_24) rfl hr) ?_
    show Go p.tables e below _ (s₁.setTop (mkF m 25 #[.val (.int p1), .val (.int ii), .unset, .unset, .unset, .unset] [(.int ii)]))
    refine Go.st (fun U hr => XS.iconst X0.here hx rfl (hb hby at_25) hr) ?_
    show Go p.tables e below _ (s₁.setTop (mkF m 26 #[.val (.int p1), .val (.int ii), .unset, .unset, .unset, .unset] [(.int (1 : Int32)), (.int ii)]))
    by_cases hc26_7 : ii = (1 : Int32)
    · refine Go.st (fun U hr => XS.icmpNo X0.here hx rfl (hb hby at_26) rfl (teq hc26_7).2 hr) ?_
      show Go p.tables e below _ (s₁.setTop (mkF m 29 #[.val (.int p1), .val (.int ii), .unset, .unset, .unset, .unset] []))
      obtain ⟨T8, X8, e8, st8⟩ := getS2 X0 hx hZ hown (host := "") (Or.inl (hw _ (List.mem_of_getElem? (i := 36) rfl))) Via.refl e0 SR1 (g := (mkF m 29 #[.val (.int p1), .val (.int ii), .unset, .unset, .unset, .unset] [])) rfl (hb hby at_29)
      refine Go.st st8 ?_
      show Go p.tables e below _ (T8.setTop (mkF m 32 #[.val (.int p1), .val (.int ii), .unset, .unset, .unset, .unset] [(.ref r1)]))
      refine Go.st (fun U hr => XS.astoreN X8.here hx rfl (hb hby at_32) rfl rfl (l' := #[.val (.int p1), .val (.int ii), .val (.ref r1), .unset, .unset, .unset]) rfl hr) ?_
      show Go p.tables e below _ (T8.setTop (mkF m 33 #[.val (.int p1), .val (.int ii), .val (.ref r1), .unset, .unset, .unset] []))
      obtain ⟨T9, X9, e9, st9⟩ := getS2 X8 hx hZ hown (host := "") (Or.inl (hw _ (List.mem_of_getElem? (i := 38) rfl))) Via.refl e8 SC1 (g := (mkF m 33 #[.val (.int p1), .val (.int ii), .val (.ref r1), .unset, .unset, .unset] [])) rfl (hb hby at_33)
      refine Go.st st9 ?_
      show Go p.tables e below _ (T9.setTop (mkF m 36 #[.val (.int p1), .val (.int ii), .val (.ref r1), .unset, .unset, .unset] [(.ref c1)]))
      refine Go.st (fun U hr => XS.astoreN X9.here hx rfl (hb hby at_36) rfl rfl (l' := #[.val (.int p1), .val (.int ii), .val (.ref r1), .val (.ref c1), .unset, .unset]) rfl hr) ?_
      show Go p.tables e below _ (T9.setTop (mkF m 37 #[.val (.int p1), .val (.int ii), .val (.ref r1), .val (.ref c1), .unset, .unset] []))
      refine Go.st (fun U hr => XS.sipush X9.here hx rfl (hb hby at_37) hr) ?_
      show Go p.tables e below _ (T9.setTop (mkF m 40 #[.val (.int p1), .val (.int ii), .val (.ref r1), .val (.ref c1), .unset, .unset] [(.int (405 : Int32))]))
      refine Go.st (fun U hr => XS.istore X9.here hx rfl (hb hby at_40) rfl (l' := #[.val (.int p1), .val (.int ii), .val (.ref r1), .val (.ref c1), .val (.int (405 : Int32)), .unset]) rfl hr) ?_
      show Go p.tables e below _ (T9.setTop (mkF m 42 #[.val (.int p1), .val (.int ii), .val (.ref r1), .val (.ref c1), .val (.int (405 : Int32)), .unset] []))
      refine Go.st (fun U hr => XS.goto X9.here hx rfl (pc0 := 42) (pc' := 79) rfl (hb hby at_42) (by decide) (by decide) hr) ?_
      show Go p.tables e below _ (T9.setTop (mkF m 79 #[.val (.int p1), .val (.int ii), .val (.ref r1), .val (.ref c1), .val (.int (405 : Int32)), .unset] []))
      refine Go.st (fun U hr => XS.aloadN X9.here hx rfl (hb hby at_79) rfl rfl hr) ?_
      show Go p.tables e below _ (T9.setTop (mkF m 80 #[.val (.int p1), .val (.int ii), .val (.ref r1), .val (.ref c1), .val (.int (405 : Int32)), .unset] [(.ref r1)]))
      obtain ⟨_, _, ⟨T10, L10, k10, n10⟩, -, X10, ⟨Lc10, hQ10, l10, y10, z10⟩, st10⟩ := Jvm.LawKit.callS X9 hx (y := (⟨"com/example/notched_ledger/notchedledger/amqp/ReplyCode", "of", "(Lcom/example/notched_ledger/notchedledger/core/BrokerException$Reason;)Lcom/example/notched_ledger/notchedledger/amqp/ReplyCode;"⟩ : MethodName)) hown (mvT hZ (hw _ (List.mem_of_getElem? (i := 6) rfl))) (mvT hZ (hw _ (List.mem_of_getElem? (i := 7) rfl))) (mvT hZ (hw _ (List.mem_of_getElem? (i := 4) rfl))) (mvT hZ (hw _ (List.mem_of_getElem? (i := 8) rfl))) (by decide) (backOf (W := 0) (rm1_1 l Z a0 hw [] r1 c1 sm ks h0 n0 Z0 ER1 FR1 SS AS SC1) hZ (hw _ (List.mem_of_getElem? (i := 8) rfl)) (hw _ (List.mem_of_getElem? (i := 4) rfl)) (by decide) (by decide)) (g := (mkF m 80 #[.val (.int p1), .val (.int ii), .val (.ref r1), .val (.ref c1), .val (.int (405 : Int32)), .unset] [(.ref r1)])) rfl (by rw [hml]; rfl) (argsL := [(.ref r1)]) (rest := []) (lenOf pd_1 rfl) rfl (by show 2 * 0 + _ ≤ _; exact Nat.le_of_eq rfl) (hb hby at_80) (fun _ _ => ⟨rfl, e9, (by decide : 0 + 0 ≤ _), (by decide : 0 + 0 ≤ _)⟩)
      dsimp only [Pt.U, Pt.locs, Pt.cells, Pt.slots] at X10 l10 y10 z10 st10 hQ10
      subst l10 y10 z10
      obtain ⟨rfl, Nq10, ee10⟩ := hQ10
      have N10 := Fr.app N0 Nq10
      refine Go.st st10 ?_
      show Go p.tables e below _ (T10.setTop (mkF m 83 #[.val (.int p1), .val (.int ii), .val (.ref r1), .val (.ref c1), .val (.int (405 : Int32)), .unset] [(.ref c1)]))
      refine Go.st (fun U hr => XS.astore X10.here hx rfl (hb hby at_83) rfl rfl (l' := #[.val (.int p1), .val (.int ii), .val (.ref r1), .val (.ref c1), .val (.int (405 : Int32)), .val (.ref c1)]) rfl hr) ?_
      show Go p.tables e below _ (T10.setTop (mkF m 85 #[.val (.int p1), .val (.int ii), .val (.ref r1), .val (.ref c1), .val (.int (405 : Int32)), .val (.ref c1)] []))
      refine Go.st (fun U hr => XS.aload X10.here hx rfl (hb hby at_85) rfl rfl hr) ?_
      show Go p.tables e below _ (T10.setTop (mkF m 87 #[.val (.int p1), .val (.int ii), .val (.ref r1), .val (.ref c1), .val (.int (405 : Int32)), .val (.ref c1)] [(.ref c1)]))
      refine Go.st (fun U hr => XS.aloadN X10.here hx rfl (hb hby at_87) rfl rfl hr) ?_
      show Go p.tables e below _ (T10.setTop (mkF m 88 #[.val (.int p1), .val (.int ii), .val (.ref r1), .val (.ref c1), .val (.int (405 : Int32)), .val (.ref c1)] [(.ref c1), (.ref c1)]))
      refine Go.st (fun U hr => XS.acmpNo X10.here hx rfl (hb hby at_88) rfl (by simp [if_acmp.holds]) hr) ?_
      show Go p.tables e below _ (T10.setTop (mkF m 91 #[.val (.int p1), .val (.int ii), .val (.ref r1), .val (.ref c1), .val (.int (405 : Int32)), .val (.ref c1)] []))
      refine Go.st (fun U hr => XS.aload X10.here hx rfl (hb hby at_91) rfl rfl hr) ?_
      show Go p.tables e below _ (T10.setTop (mkF m 93 #[.val (.int p1), .val (.int ii), .val (.ref r1), .val (.ref c1), .val (.int (405 : Int32)), .val (.ref c1)] [(.ref c1)]))
      obtain ⟨T11, X11, e11, st11⟩ := getF X10 hx hZ hown (host := "") (Or.inl (hw _ (List.mem_of_getElem? (i := 22) rfl))) Via.refl ee10 FV1 (g := (mkF m 93 #[.val (.int p1), .val (.int ii), .val (.ref r1), .val (.ref c1), .val (.int (405 : Int32)), .val (.ref c1)] [(.ref c1)])) rfl rfl (hb hby at_93)
      refine Go.st st11 ?_
      show Go p.tables e below _ (T11.setTop (mkF m 96 #[.val (.int p1), .val (.int ii), .val (.ref r1), .val (.ref c1), .val (.int (405 : Int32)), .val (.ref c1)] [(.int (405 : Int32))]))
      refine Go.st (fun U hr => XS.iload X11.here hx rfl (hb hby at_96) rfl hr) ?_
      show Go p.tables e below _ (T11.setTop (mkF m 98 #[.val (.int p1), .val (.int ii), .val (.ref r1), .val (.ref c1), .val (.int (405 : Int32)), .val (.ref c1)] [(.int (405 : Int32)), (.int (405 : Int32))]))
      refine Go.st (fun U hr => XS.icmpNo X11.here hx rfl (hb hby at_98) rfl (by decide) hr) ?_
      show Go p.tables e below _ (T11.setTop (mkF m 101 #[.val (.int p1), .val (.int ii), .val (.ref r1), .val (.ref c1), .val (.int (405 : Int32)), .val (.ref c1)] []))
      refine Go.st (fun U hr => XS.aload X11.here hx rfl (hb hby at_101) rfl rfl hr) ?_
      show Go p.tables e below _ (T11.setTop (mkF m 103 #[.val (.int p1), .val (.int ii), .val (.ref r1), .val (.ref c1), .val (.int (405 : Int32)), .val (.ref c1)] [(.ref c1)]))
      obtain ⟨T12, X12, e12, st12⟩ := getF X11 hx hZ hown (host := "") (Or.inl (hw _ (List.mem_of_getElem? (i := 24) rfl))) Via.refl e11 FC1 (g := (mkF m 103 #[.val (.int p1), .val (.int ii), .val (.ref r1), .val (.ref c1), .val (.int (405 : Int32)), .val (.ref c1)] [(.ref c1)])) rfl rfl (hb hby at_103)
      refine Go.st st12 ?_
      show Go p.tables e below _ (T12.setTop (mkF m 106 #[.val (.int p1), .val (.int ii), .val (.ref r1), .val (.ref c1), .val (.int (405 : Int32)), .val (.ref c1)] [(.int (0 : Int32))]))
      refine Go.st (fun U hr => XS.ifNo X12.here hx rfl (hb hby at_106) rfl (by decide) hr) ?_
      show Go p.tables e below _ (T12.setTop (mkF m 109 #[.val (.int p1), .val (.int ii), .val (.ref r1), .val (.ref c1), .val (.int (405 : Int32)), .val (.ref c1)] []))
      refine Go.st (fun U hr => XS.iconst X12.here hx rfl (hb hby at_109) hr) ?_
      show Go p.tables e below _ (T12.setTop (mkF m 110 #[.val (.int p1), .val (.int ii), .val (.ref r1), .val (.ref c1), .val (.int (405 : Int32)), .val (.ref c1)] [(.int (1 : Int32))]))
      refine Go.st (fun U hr => XS.goto X12.here hx rfl (pc0 := 110) (pc' := 114) rfl (hb hby at_110) (by decide) (by decide) hr) ?_
      show Go p.tables e below _ (T12.setTop (mkF m 114 #[.val (.int p1), .val (.int ii), .val (.ref r1), .val (.ref c1), .val (.int (405 : Int32)), .val (.ref c1)] [(.int (1 : Int32))]))
      exact own_retN X12 hx Bd.notSynchronized (t := .boolean) Bd.returns (by simp) (hb hby at_114) ⟨rfl, N10⟩ (by decide) (by decide)
    · refine Go.st (fun U hr => XS.icmpYes X0.here hx rfl (pc0 := 26) (pc' := 45) rfl (hb hby at_26) rfl (feq hc26_7).2 (by decide) (by decide) hr) ?_
      show Go p.tables e below _ (s₁.setTop (mkF m 45 #[.val (.int p1), .val (.int ii), .unset, .unset, .unset, .unset] []))
      refine Go.st (fun U hr => XS.iloadN X0.here hx rfl (hb hby at_45) rfl hr) ?_
      show Go p.tables e below _ (s₁.setTop (mkF m 46 #[.val (.int p1), .val (.int ii), .unset, .unset, .unset, .unset] [(.int ii)]))
      refine Go.st (fun U hr => XS.iconst X0.here hx rfl (hb hby at_46) hr) ?_
      show Go p.tables e below _ (s₁.setTop (mkF m 47 #[.val (.int p1), .val (.int ii), .unset, .unset, .unset, .unset] [(.int (2 : Int32)), (.int ii)]))
      by_cases hc47_13 : ii = (2 : Int32)
      · refine Go.st (fun U hr => XS.icmpNo X0.here hx rfl (hb hby at_47) rfl (teq hc47_13).2 hr) ?_
        show Go p.tables e below _ (s₁.setTop (mkF m 50 #[.val (.int p1), .val (.int ii), .unset, .unset, .unset, .unset] []))
        obtain ⟨T14, X14, e14, st14⟩ := getS2 X0 hx hZ hown (host := "") (Or.inl (hw _ (List.mem_of_getElem? (i := 31) rfl))) Via.refl e0 SR2 (g := (mkF m 50 #[.val (.int p1), .val (.int ii), .unset, .unset, .unset, .unset] [])) rfl (hb hby at_50)
        refine Go.st st14 ?_
        show Go p.tables e below _ (T14.setTop (mkF m 53 #[.val (.int p1), .val (.int ii), .unset, .unset, .unset, .unset] [(.ref r2)]))
        refine Go.st (fun U hr => XS.astoreN X14.here hx rfl (hb hby at_53) rfl rfl (l' := #[.val (.int p1), .val (.int ii), .val (.ref r2), .unset, .unset, .unset]) rfl hr) ?_
        show Go p.tables e below _ (T14.setTop (mkF m 54 #[.val (.int p1), .val (.int ii), .val (.ref r2), .unset, .unset, .unset] []))
        obtain ⟨T15, X15, e15, st15⟩ := getS2 X14 hx hZ hown (host := "") (Or.inl (hw _ (List.mem_of_getElem? (i := 33) rfl))) Via.refl e14 SC2 (g := (mkF m 54 #[.val (.int p1), .val (.int ii), .val (.ref r2), .unset, .unset, .unset] [])) rfl (hb hby at_54)
        refine Go.st st15 ?_
        show Go p.tables e below _ (T15.setTop (mkF m 57 #[.val (.int p1), .val (.int ii), .val (.ref r2), .unset, .unset, .unset] [(.ref c2)]))
        refine Go.st (fun U hr => XS.astoreN X15.here hx rfl (hb hby at_57) rfl rfl (l' := #[.val (.int p1), .val (.int ii), .val (.ref r2), .val (.ref c2), .unset, .unset]) rfl hr) ?_
        show Go p.tables e below _ (T15.setTop (mkF m 58 #[.val (.int p1), .val (.int ii), .val (.ref r2), .val (.ref c2), .unset, .unset] []))
        refine Go.st (fun U hr => XS.sipush X15.here hx rfl (hb hby at_58) hr) ?_
        show Go p.tables e below _ (T15.setTop (mkF m 61 #[.val (.int p1), .val (.int ii), .val (.ref r2), .val (.ref c2), .unset, .unset] [(.int (403 : Int32))]))
        refine Go.st (fun U hr => XS.istore X15.here hx rfl (hb hby at_61) rfl (l' := #[.val (.int p1), .val (.int ii), .val (.ref r2), .val (.ref c2), .val (.int (403 : Int32)), .unset]) rfl hr) ?_
        show Go p.tables e below _ (T15.setTop (mkF m 63 #[.val (.int p1), .val (.int ii), .val (.ref r2), .val (.ref c2), .val (.int (403 : Int32)), .unset] []))
        refine Go.st (fun U hr => XS.goto X15.here hx rfl (pc0 := 63) (pc' := 79) rfl (hb hby at_63) (by decide) (by decide) hr) ?_
        show Go p.tables e below _ (T15.setTop (mkF m 79 #[.val (.int p1), .val (.int ii), .val (.ref r2), .val (.ref c2), .val (.int (403 : Int32)), .unset] []))
        refine Go.st (fun U hr => XS.aloadN X15.here hx rfl (hb hby at_79) rfl rfl hr) ?_
        show Go p.tables e below _ (T15.setTop (mkF m 80 #[.val (.int p1), .val (.int ii), .val (.ref r2), .val (.ref c2), .val (.int (403 : Int32)), .unset] [(.ref r2)]))
        obtain ⟨_, _, ⟨T16, L16, k16, n16⟩, -, X16, ⟨Lc16, hQ16, l16, y16, z16⟩, st16⟩ := Jvm.LawKit.callS X15 hx (y := (⟨"com/example/notched_ledger/notchedledger/amqp/ReplyCode", "of", "(Lcom/example/notched_ledger/notchedledger/core/BrokerException$Reason;)Lcom/example/notched_ledger/notchedledger/amqp/ReplyCode;"⟩ : MethodName)) hown (mvT hZ (hw _ (List.mem_of_getElem? (i := 6) rfl))) (mvT hZ (hw _ (List.mem_of_getElem? (i := 7) rfl))) (mvT hZ (hw _ (List.mem_of_getElem? (i := 4) rfl))) (mvT hZ (hw _ (List.mem_of_getElem? (i := 8) rfl))) (by decide) (backOf (W := 0) (rm1_2 l Z a0 hw [] r2 c2 sm ks h0 n0 Z0 ER2 FR2 SS AS SC2) hZ (hw _ (List.mem_of_getElem? (i := 8) rfl)) (hw _ (List.mem_of_getElem? (i := 4) rfl)) (by decide) (by decide)) (g := (mkF m 80 #[.val (.int p1), .val (.int ii), .val (.ref r2), .val (.ref c2), .val (.int (403 : Int32)), .unset] [(.ref r2)])) rfl (by rw [hml]; rfl) (argsL := [(.ref r2)]) (rest := []) (lenOf pd_1 rfl) rfl (by show 2 * 0 + _ ≤ _; exact Nat.le_of_eq rfl) (hb hby at_80) (fun _ _ => ⟨rfl, e15, (by decide : 0 + 0 ≤ _), (by decide : 0 + 0 ≤ _)⟩)
        dsimp only [Pt.U, Pt.locs, Pt.cells, Pt.slots] at X16 l16 y16 z16 st16 hQ16
        subst l16 y16 z16
        obtain ⟨rfl, Nq16, ee16⟩ := hQ16
        have N16 := Fr.app N0 Nq16
        refine Go.st st16 ?_
        show Go p.tables e below _ (T16.setTop (mkF m 83 #[.val (.int p1), .val (.int ii), .val (.ref r2), .val (.ref c2), .val (.int (403 : Int32)), .unset] [(.ref c2)]))
        refine Go.st (fun U hr => XS.astore X16.here hx rfl (hb hby at_83) rfl rfl (l' := #[.val (.int p1), .val (.int ii), .val (.ref r2), .val (.ref c2), .val (.int (403 : Int32)), .val (.ref c2)]) rfl hr) ?_
        show Go p.tables e below _ (T16.setTop (mkF m 85 #[.val (.int p1), .val (.int ii), .val (.ref r2), .val (.ref c2), .val (.int (403 : Int32)), .val (.ref c2)] []))
        refine Go.st (fun U hr => XS.aload X16.here hx rfl (hb hby at_85) rfl rfl hr) ?_
        show Go p.tables e below _ (T16.setTop (mkF m 87 #[.val (.int p1), .val (.int ii), .val (.ref r2), .val (.ref c2), .val (.int (403 : Int32)), .val (.ref c2)] [(.ref c2)]))
        refine Go.st (fun U hr => XS.aloadN X16.here hx rfl (hb hby at_87) rfl rfl hr) ?_
        show Go p.tables e below _ (T16.setTop (mkF m 88 #[.val (.int p1), .val (.int ii), .val (.ref r2), .val (.ref c2), .val (.int (403 : Int32)), .val (.ref c2)] [(.ref c2), (.ref c2)]))
        refine Go.st (fun U hr => XS.acmpNo X16.here hx rfl (hb hby at_88) rfl (by simp [if_acmp.holds]) hr) ?_
        show Go p.tables e below _ (T16.setTop (mkF m 91 #[.val (.int p1), .val (.int ii), .val (.ref r2), .val (.ref c2), .val (.int (403 : Int32)), .val (.ref c2)] []))
        refine Go.st (fun U hr => XS.aload X16.here hx rfl (hb hby at_91) rfl rfl hr) ?_
        show Go p.tables e below _ (T16.setTop (mkF m 93 #[.val (.int p1), .val (.int ii), .val (.ref r2), .val (.ref c2), .val (.int (403 : Int32)), .val (.ref c2)] [(.ref c2)]))
        obtain ⟨T17, X17, e17, st17⟩ := getF X16 hx hZ hown (host := "") (Or.inl (hw _ (List.mem_of_getElem? (i := 22) rfl))) Via.refl ee16 FV2 (g := (mkF m 93 #[.val (.int p1), .val (.int ii), .val (.ref r2), .val (.ref c2), .val (.int (403 : Int32)), .val (.ref c2)] [(.ref c2)])) rfl rfl (hb hby at_93)
        refine Go.st st17 ?_
        show Go p.tables e below _ (T17.setTop (mkF m 96 #[.val (.int p1), .val (.int ii), .val (.ref r2), .val (.ref c2), .val (.int (403 : Int32)), .val (.ref c2)] [(.int (403 : Int32))]))
        refine Go.st (fun U hr => XS.iload X17.here hx rfl (hb hby at_96) rfl hr) ?_
        show Go p.tables e below _ (T17.setTop (mkF m 98 #[.val (.int p1), .val (.int ii), .val (.ref r2), .val (.ref c2), .val (.int (403 : Int32)), .val (.ref c2)] [(.int (403 : Int32)), (.int (403 : Int32))]))
        refine Go.st (fun U hr => XS.icmpNo X17.here hx rfl (hb hby at_98) rfl (by decide) hr) ?_
        show Go p.tables e below _ (T17.setTop (mkF m 101 #[.val (.int p1), .val (.int ii), .val (.ref r2), .val (.ref c2), .val (.int (403 : Int32)), .val (.ref c2)] []))
        refine Go.st (fun U hr => XS.aload X17.here hx rfl (hb hby at_101) rfl rfl hr) ?_
        show Go p.tables e below _ (T17.setTop (mkF m 103 #[.val (.int p1), .val (.int ii), .val (.ref r2), .val (.ref c2), .val (.int (403 : Int32)), .val (.ref c2)] [(.ref c2)]))
        obtain ⟨T18, X18, e18, st18⟩ := getF X17 hx hZ hown (host := "") (Or.inl (hw _ (List.mem_of_getElem? (i := 24) rfl))) Via.refl e17 FC2 (g := (mkF m 103 #[.val (.int p1), .val (.int ii), .val (.ref r2), .val (.ref c2), .val (.int (403 : Int32)), .val (.ref c2)] [(.ref c2)])) rfl rfl (hb hby at_103)
        refine Go.st st18 ?_
        show Go p.tables e below _ (T18.setTop (mkF m 106 #[.val (.int p1), .val (.int ii), .val (.ref r2), .val (.ref c2), .val (.int (403 : Int32)), .val (.ref c2)] [(.int (0 : Int32))]))
        refine Go.st (fun U hr => XS.ifNo X18.here hx rfl (hb hby at_106) rfl (by decide) hr) ?_
        show Go p.tables e below _ (T18.setTop (mkF m 109 #[.val (.int p1), .val (.int ii), .val (.ref r2), .val (.ref c2), .val (.int (403 : Int32)), .val (.ref c2)] []))
        refine Go.st (fun U hr => XS.iconst X18.here hx rfl (hb hby at_109) hr) ?_
        show Go p.tables e below _ (T18.setTop (mkF m 110 #[.val (.int p1), .val (.int ii), .val (.ref r2), .val (.ref c2), .val (.int (403 : Int32)), .val (.ref c2)] [(.int (1 : Int32))]))
        refine Go.st (fun U hr => XS.goto X18.here hx rfl (pc0 := 110) (pc' := 114) rfl (hb hby at_110) (by decide) (by decide) hr) ?_
        show Go p.tables e below _ (T18.setTop (mkF m 114 #[.val (.int p1), .val (.int ii), .val (.ref r2), .val (.ref c2), .val (.int (403 : Int32)), .val (.ref c2)] [(.int (1 : Int32))]))
        exact own_retN X18 hx Bd.notSynchronized (t := .boolean) Bd.returns (by simp) (hb hby at_114) ⟨rfl, N16⟩ (by decide) (by decide)
      · refine Go.st (fun U hr => XS.icmpYes X0.here hx rfl (pc0 := 47) (pc' := 66) rfl (hb hby at_47) rfl (feq hc47_13).2 (by decide) (by decide) hr) ?_
        show Go p.tables e below _ (s₁.setTop (mkF m 66 #[.val (.int p1), .val (.int ii), .unset, .unset, .unset, .unset] []))
        obtain ⟨T19, X19, e19, st19⟩ := getS2 X0 hx hZ hown (host := "") (Or.inl (hw _ (List.mem_of_getElem? (i := 26) rfl))) Via.refl e0 SR3 (g := (mkF m 66 #[.val (.int p1), .val (.int ii), .unset, .unset, .unset, .unset] [])) rfl (hb hby at_66)
        refine Go.st st19 ?_
        show Go p.tables e below _ (T19.setTop (mkF m 69 #[.val (.int p1), .val (.int ii), .unset, .unset, .unset, .unset] [(.ref r3)]))
        refine Go.st (fun U hr => XS.astoreN X19.here hx rfl (hb hby at_69) rfl rfl (l' := #[.val (.int p1), .val (.int ii), .val (.ref r3), .unset, .unset, .unset]) rfl hr) ?_
        show Go p.tables e below _ (T19.setTop (mkF m 70 #[.val (.int p1), .val (.int ii), .val (.ref r3), .unset, .unset, .unset] []))
        obtain ⟨T20, X20, e20, st20⟩ := getS2 X19 hx hZ hown (host := "") (Or.inl (hw _ (List.mem_of_getElem? (i := 28) rfl))) Via.refl e19 SC3 (g := (mkF m 70 #[.val (.int p1), .val (.int ii), .val (.ref r3), .unset, .unset, .unset] [])) rfl (hb hby at_70)
        refine Go.st st20 ?_
        show Go p.tables e below _ (T20.setTop (mkF m 73 #[.val (.int p1), .val (.int ii), .val (.ref r3), .unset, .unset, .unset] [(.ref c3)]))
        refine Go.st (fun U hr => XS.astoreN X20.here hx rfl (hb hby at_73) rfl rfl (l' := #[.val (.int p1), .val (.int ii), .val (.ref r3), .val (.ref c3), .unset, .unset]) rfl hr) ?_
        show Go p.tables e below _ (T20.setTop (mkF m 74 #[.val (.int p1), .val (.int ii), .val (.ref r3), .val (.ref c3), .unset, .unset] []))
        refine Go.st (fun U hr => XS.sipush X20.here hx rfl (hb hby at_74) hr) ?_
        show Go p.tables e below _ (T20.setTop (mkF m 77 #[.val (.int p1), .val (.int ii), .val (.ref r3), .val (.ref c3), .unset, .unset] [(.int (406 : Int32))]))
        refine Go.st (fun U hr => XS.istore X20.here hx rfl (hb hby at_77) rfl (l' := #[.val (.int p1), .val (.int ii), .val (.ref r3), .val (.ref c3), .val (.int (406 : Int32)), .unset]) rfl hr) ?_
        show Go p.tables e below _ (T20.setTop (mkF m 79 #[.val (.int p1), .val (.int ii), .val (.ref r3), .val (.ref c3), .val (.int (406 : Int32)), .unset] []))
        refine Go.st (fun U hr => XS.aloadN X20.here hx rfl (hb hby at_79) rfl rfl hr) ?_
        show Go p.tables e below _ (T20.setTop (mkF m 80 #[.val (.int p1), .val (.int ii), .val (.ref r3), .val (.ref c3), .val (.int (406 : Int32)), .unset] [(.ref r3)]))
        obtain ⟨_, _, ⟨T21, L21, k21, n21⟩, -, X21, ⟨Lc21, hQ21, l21, y21, z21⟩, st21⟩ := Jvm.LawKit.callS X20 hx (y := (⟨"com/example/notched_ledger/notchedledger/amqp/ReplyCode", "of", "(Lcom/example/notched_ledger/notchedledger/core/BrokerException$Reason;)Lcom/example/notched_ledger/notchedledger/amqp/ReplyCode;"⟩ : MethodName)) hown (mvT hZ (hw _ (List.mem_of_getElem? (i := 6) rfl))) (mvT hZ (hw _ (List.mem_of_getElem? (i := 7) rfl))) (mvT hZ (hw _ (List.mem_of_getElem? (i := 4) rfl))) (mvT hZ (hw _ (List.mem_of_getElem? (i := 8) rfl))) (by decide) (backOf (W := 0) (rm1_3 l Z a0 hw [] r3 c3 sm ks h0 n0 Z0 ER3 FR3 SS AS SC3) hZ (hw _ (List.mem_of_getElem? (i := 8) rfl)) (hw _ (List.mem_of_getElem? (i := 4) rfl)) (by decide) (by decide)) (g := (mkF m 80 #[.val (.int p1), .val (.int ii), .val (.ref r3), .val (.ref c3), .val (.int (406 : Int32)), .unset] [(.ref r3)])) rfl (by rw [hml]; rfl) (argsL := [(.ref r3)]) (rest := []) (lenOf pd_1 rfl) rfl (by show 2 * 0 + _ ≤ _; exact Nat.le_of_eq rfl) (hb hby at_80) (fun _ _ => ⟨rfl, e20, (by decide : 0 + 0 ≤ _), (by decide : 0 + 0 ≤ _)⟩)
        dsimp only [Pt.U, Pt.locs, Pt.cells, Pt.slots] at X21 l21 y21 z21 st21 hQ21
        subst l21 y21 z21
        obtain ⟨rfl, Nq21, ee21⟩ := hQ21
        have N21 := Fr.app N0 Nq21
        refine Go.st st21 ?_
        show Go p.tables e below _ (T21.setTop (mkF m 83 #[.val (.int p1), .val (.int ii), .val (.ref r3), .val (.ref c3), .val (.int (406 : Int32)), .unset] [(.ref c3)]))
        refine Go.st (fun U hr => XS.astore X21.here hx rfl (hb hby at_83) rfl rfl (l' := #[.val (.int p1), .val (.int ii), .val (.ref r3), .val (.ref c3), .val (.int (406 : Int32)), .val (.ref c3)]) rfl hr) ?_
        show Go p.tables e below _ (T21.setTop (mkF m 85 #[.val (.int p1), .val (.int ii), .val (.ref r3), .val (.ref c3), .val (.int (406 : Int32)), .val (.ref c3)] []))
        refine Go.st (fun U hr => XS.aload X21.here hx rfl (hb hby at_85) rfl rfl hr) ?_
        show Go p.tables e below _ (T21.setTop (mkF m 87 #[.val (.int p1), .val (.int ii), .val (.ref r3), .val (.ref c3), .val (.int (406 : Int32)), .val (.ref c3)] [(.ref c3)]))
        refine Go.st (fun U hr => XS.aloadN X21.here hx rfl (hb hby at_87) rfl rfl hr) ?_
        show Go p.tables e below _ (T21.setTop (mkF m 88 #[.val (.int p1), .val (.int ii), .val (.ref r3), .val (.ref c3), .val (.int (406 : Int32)), .val (.ref c3)] [(.ref c3), (.ref c3)]))
        refine Go.st (fun U hr => XS.acmpNo X21.here hx rfl (hb hby at_88) rfl (by simp [if_acmp.holds]) hr) ?_
        show Go p.tables e below _ (T21.setTop (mkF m 91 #[.val (.int p1), .val (.int ii), .val (.ref r3), .val (.ref c3), .val (.int (406 : Int32)), .val (.ref c3)] []))
        refine Go.st (fun U hr => XS.aload X21.here hx rfl (hb hby at_91) rfl rfl hr) ?_
        show Go p.tables e below _ (T21.setTop (mkF m 93 #[.val (.int p1), .val (.int ii), .val (.ref r3), .val (.ref c3), .val (.int (406 : Int32)), .val (.ref c3)] [(.ref c3)]))
        obtain ⟨T22, X22, e22, st22⟩ := getF X21 hx hZ hown (host := "") (Or.inl (hw _ (List.mem_of_getElem? (i := 22) rfl))) Via.refl ee21 FV3 (g := (mkF m 93 #[.val (.int p1), .val (.int ii), .val (.ref r3), .val (.ref c3), .val (.int (406 : Int32)), .val (.ref c3)] [(.ref c3)])) rfl rfl (hb hby at_93)
        refine Go.st st22 ?_
        show Go p.tables e below _ (T22.setTop (mkF m 96 #[.val (.int p1), .val (.int ii), .val (.ref r3), .val (.ref c3), .val (.int (406 : Int32)), .val (.ref c3)] [(.int (406 : Int32))]))
        refine Go.st (fun U hr => XS.iload X22.here hx rfl (hb hby at_96) rfl hr) ?_
        show Go p.tables e below _ (T22.setTop (mkF m 98 #[.val (.int p1), .val (.int ii), .val (.ref r3), .val (.ref c3), .val (.int (406 : Int32)), .val (.ref c3)] [(.int (406 : Int32)), (.int (406 : Int32))]))
        refine Go.st (fun U hr => XS.icmpNo X22.here hx rfl (hb hby at_98) rfl (by decide) hr) ?_
        show Go p.tables e below _ (T22.setTop (mkF m 101 #[.val (.int p1), .val (.int ii), .val (.ref r3), .val (.ref c3), .val (.int (406 : Int32)), .val (.ref c3)] []))
        refine Go.st (fun U hr => XS.aload X22.here hx rfl (hb hby at_101) rfl rfl hr) ?_
        show Go p.tables e below _ (T22.setTop (mkF m 103 #[.val (.int p1), .val (.int ii), .val (.ref r3), .val (.ref c3), .val (.int (406 : Int32)), .val (.ref c3)] [(.ref c3)]))
        obtain ⟨T23, X23, e23, st23⟩ := getF X22 hx hZ hown (host := "") (Or.inl (hw _ (List.mem_of_getElem? (i := 24) rfl))) Via.refl e22 FC3 (g := (mkF m 103 #[.val (.int p1), .val (.int ii), .val (.ref r3), .val (.ref c3), .val (.int (406 : Int32)), .val (.ref c3)] [(.ref c3)])) rfl rfl (hb hby at_103)
        refine Go.st st23 ?_
        show Go p.tables e below _ (T23.setTop (mkF m 106 #[.val (.int p1), .val (.int ii), .val (.ref r3), .val (.ref c3), .val (.int (406 : Int32)), .val (.ref c3)] [(.int (0 : Int32))]))
        refine Go.st (fun U hr => XS.ifNo X23.here hx rfl (hb hby at_106) rfl (by decide) hr) ?_
        show Go p.tables e below _ (T23.setTop (mkF m 109 #[.val (.int p1), .val (.int ii), .val (.ref r3), .val (.ref c3), .val (.int (406 : Int32)), .val (.ref c3)] []))
        refine Go.st (fun U hr => XS.iconst X23.here hx rfl (hb hby at_109) hr) ?_
        show Go p.tables e below _ (T23.setTop (mkF m 110 #[.val (.int p1), .val (.int ii), .val (.ref r3), .val (.ref c3), .val (.int (406 : Int32)), .val (.ref c3)] [(.int (1 : Int32))]))
        refine Go.st (fun U hr => XS.goto X23.here hx rfl (pc0 := 110) (pc' := 114) rfl (hb hby at_110) (by decide) (by decide) hr) ?_
        show Go p.tables e below _ (T23.setTop (mkF m 114 #[.val (.int p1), .val (.int ii), .val (.ref r3), .val (.ref c3), .val (.int (406 : Int32)), .val (.ref c3)] [(.int (1 : Int32))]))
        exact own_retN X23 hx Bd.notSynchronized (t := .boolean) Bd.returns (by simp) (hb hby at_114) ⟨rfl, N21⟩ (by decide) (by decide)
set_option maxRecDepth 65536 in
set_option maxHeartbeats 40000000 in
theorem comes_1 {Post : Tables → Env → Array Value → State → Outcome → State → Prop} (hpost : ∀ tb e args s v u, (limb_1_1.after args s (.returned v) u = true ∧ limb_1_2.after args s (.returned v) u = true ∧ True) → FrameEnd s (.returned v) u (Jvm.fieldLocs frame_1_writes args s ++ Jvm.arrayLocs frame_1_arrays args s ++ Jvm.staticLocs frame_1_statics s) 0 0 → Post tb e args s (.returned v) u) :
    ArmFor flags0 classFile x code maxLocals ret World_1 tables_1 room_1 Calls_1 rest_1 Pre_1 Post := by
  intro l hfl _ _ p e ha hc hk s m args below hf hA hF happ hP
  obtain ⟨hcalls, hrest, hpre⟩ := hP
  obtain ⟨-, -, -, hnamed, -, -, -, hat⟩ := (Spec.applies_iff hf).mp happ
  obtain ⟨hg, hn⟩ := and_e (Cond.before_iff.mp (show (Jvm.Cond.and given_1 narrow_1).before args s = true from hpre))
  obtain ⟨h1, h2⟩ := and_e hg
  obtain ⟨w0, rfl⟩ : ∃ w0 : Value, args = #[w0] := by
    have hs : args.size = 1 := by simpa [Cond.value, given_1] using h1
    obtain ⟨L⟩ := args
    match L, hs with
    | [w0], _ => exact ⟨w0, rfl⟩
  have hw := fun d (hd : d ∈ tables_1) => atoms_spec (ws := Jvm.Cond.code x code maxLocals ret :: tables_1) hat d (List.mem_cons_of_mem _ hd)
  have hfit : Fit s := fun {y c} hc i hi => by
    obtain ⟨ha, rfl⟩ := Array.getElem?_eq_some_iff.mp hc
    have q := List.all_eq_true.mp ((Array.all_eq_true_iff_forall_mem.mp hF) _ (Array.getElem_mem ha)) i (List.mem_range.mpr hi)
    simpa [Array.getElem?_eq_getElem hi] using q
  obtain ⟨i0, e0⟩ := is_v h2
  obtain rfl : w0 = (.int i0) := Option.some.inj e0
  obtain ⟨m0, u0⟩ := and_e hn
  obtain ⟨m1, u1⟩ := and_e u0
  obtain ⟨m2, u2⟩ := and_e u1
  obtain ⟨m3, u3⟩ := and_e u2
  obtain ⟨m4, u4⟩ := and_e u3
  obtain ⟨m5, u5⟩ := and_e u4
  obtain ⟨m6, u6⟩ := and_e u5
  obtain ⟨m7, u7⟩ := and_e u6
  obtain ⟨m8, u8⟩ := and_e u7
  obtain ⟨m9, u9⟩ := and_e u8
  obtain ⟨m10, u10⟩ := and_e u9
  obtain ⟨m11, u11⟩ := and_e u10
  obtain ⟨m12, u12⟩ := and_e u11
  obtain ⟨m13, u13⟩ := and_e u12
  obtain ⟨m14, u14⟩ := and_e u13
  obtain ⟨m15, u15⟩ := and_e u14
  obtain ⟨m16, u16⟩ := and_e u15
  obtain ⟨m17, u17⟩ := and_e u16
  obtain ⟨m18, u18⟩ := and_e u17
  obtain ⟨m19, u19⟩ := and_e u18
  obtain ⟨m20, u20⟩ := and_e u19
  obtain ⟨m21, u21⟩ := and_e u20
  obtain ⟨m22, u22⟩ := and_e u21
  obtain ⟨m23, u23⟩ := and_e u22
  obtain ⟨m24, u24⟩ := and_e u23
  have m25 := u24
  obtain ⟨r0, er0⟩ := exa_v m0
  obtain ⟨c0, ec0⟩ := exa_v m1
  have SR0 := Sta.start er0 (Or.inr ⟨(hw _ (List.mem_of_getElem? (i := 1) rfl)), (hw _ (List.mem_of_getElem? (i := 2) rfl))⟩)
  have SC0 := Sta.start ec0 (Or.inr ⟨(hw _ (List.mem_of_getElem? (i := 4) rfl)), (hw _ (List.mem_of_getElem? (i := 5) rfl))⟩)
  have ER0 := Exa.start er0 m0
  have FR0 := Fld.start ((fld_at er0).symm.trans (own_eqint m4))
  have FV0 := Fld.start ((fld_at ec0).symm.trans (own_eqint m6))
  have FC0 := Fld.start ((fld_at ec0).symm.trans (own_eqint m7))
  obtain ⟨r1, er1⟩ := exa_v m20
  obtain ⟨c1, ec1⟩ := exa_v m21
  have SR1 := Sta.start er1 (Or.inr ⟨(hw _ (List.mem_of_getElem? (i := 1) rfl)), (hw _ (List.mem_of_getElem? (i := 37) rfl))⟩)
  have SC1 := Sta.start ec1 (Or.inr ⟨(hw _ (List.mem_of_getElem? (i := 4) rfl)), (hw _ (List.mem_of_getElem? (i := 39) rfl))⟩)
  have ER1 := Exa.start er1 m20
  have FR1 := Fld.start ((fld_at er1).symm.trans (own_eqint m22))
  have FV1 := Fld.start ((fld_at ec1).symm.trans (own_eqint m24))
  have FC1 := Fld.start ((fld_at ec1).symm.trans (own_eqint m25))
  obtain ⟨r2, er2⟩ := exa_v m14
  obtain ⟨c2, ec2⟩ := exa_v m15
  have SR2 := Sta.start er2 (Or.inr ⟨(hw _ (List.mem_of_getElem? (i := 1) rfl)), (hw _ (List.mem_of_getElem? (i := 32) rfl))⟩)
  have SC2 := Sta.start ec2 (Or.inr ⟨(hw _ (List.mem_of_getElem? (i := 4) rfl)), (hw _ (List.mem_of_getElem? (i := 34) rfl))⟩)
  have ER2 := Exa.start er2 m14
  have FR2 := Fld.start ((fld_at er2).symm.trans (own_eqint m16))
  have FV2 := Fld.start ((fld_at ec2).symm.trans (own_eqint m18))
  have FC2 := Fld.start ((fld_at ec2).symm.trans (own_eqint m19))
  obtain ⟨r3, er3⟩ := exa_v m8
  obtain ⟨c3, ec3⟩ := exa_v m9
  have SR3 := Sta.start er3 (Or.inr ⟨(hw _ (List.mem_of_getElem? (i := 1) rfl)), (hw _ (List.mem_of_getElem? (i := 27) rfl))⟩)
  have SC3 := Sta.start ec3 (Or.inr ⟨(hw _ (List.mem_of_getElem? (i := 4) rfl)), (hw _ (List.mem_of_getElem? (i := 29) rfl))⟩)
  have ER3 := Exa.start er3 m8
  have FR3 := Fld.start ((fld_at er3).symm.trans (own_eqint m10))
  have FV3 := Fld.start ((fld_at ec3).symm.trans (own_eqint m12))
  have FC3 := Fld.start ((fld_at ec3).symm.trans (own_eqint m13))
  obtain ⟨sm, esm⟩ := arr_v m2
  obtain ⟨cl, Asm⟩ := Arr.start esm m2
  have SS := Sta.start esm (Or.inr ⟨(hw _ (List.mem_of_getElem? (i := 10) rfl)), (hw _ (List.mem_of_getElem? (i := 11) rfl))⟩)
  have el0 := (elem_in (own_eqint m5) esm (Term.int_eval 0) Asm.1).2
  have el1 := (elem_in (own_eqint m23) esm (Term.int_eval 1) Asm.1).2
  have el2 := (elem_in (own_eqint m17) esm (Term.int_eval 2) Asm.1).2
  have el3 := (elem_in (own_eqint m11) esm (Term.int_eval 3) Asm.1).2
  obtain ⟨hsz, hsz'⟩ := own_len esm (Arr.fin (Vm.Alike.refl _) Asm) (own_eqint m3)
  have AS : Arv s s.heap sm cl.cls .int (4 : Int32) [(.int (1 : Int32)), (.int (2 : Int32)), (.int (3 : Int32)), (.int (4 : Int32))] (.int (0 : Int32)) := Arv.start hfit Asm hsz hsz' (by decide) (by decide) ⟨el0, el1, el2, el3, trivial⟩
  obtain ⟨n, o, h1, h2, h3, _, L, rfl, ⟨rfl, N⟩, hq⟩ := rm0 l s _ hw tables_1 i0 r0 c0 r1 c1 r2 c2 r3 c3 sm cl.cls s.heap s.heap.size (Nat.le_refl _) SR0 SC0 ER0 FR0 FV0 FC0 SR1 SC1 ER1 FR1 FV1 FC1 SR2 SC2 ER2 FR2 FV2 FC2 SR3 SC3 ER3 FR3 FV3 FC3 SS AS p e ha hc hk s m _ below hf ((Spec.applies_iff_loose hf).mp happ).1 ⟨rfl, State.Warmed39.refl s, rfl⟩ trivial
  refine ⟨n, _, h1, h2, h3, hpost _ _ _ _ _ _ ⟨Cond.after_iff.mpr rfl, Cond.after_iff.mpr (eq_i res_at (Term.int_eval (1)) rfl), trivial⟩ ⟨hq.1, hq.2.1, (hq.2.2.sift fun y hy => Or.inr (N y hy)).mono (by decide) (by decide)⟩⟩
theorem main_1_1 : Claimed_1_1 := comes_1 fun _ _ _ _ _ _ h hF => ⟨h.1, hF⟩
theorem main_1_2 : Claimed_1_2 := comes_1 fun _ _ _ _ _ _ h hF => ⟨h.2.1, hF⟩
end Jvm.Pilot.@@N@@
namespace Jvm.Pilot.@@N@@
open Jvm Jvm.ClassFile Sem Op Lib Jvm.Free Jvm.Stand Jvm.Pilot.@@N@@.Jvm.D
/-! MADE BY PROGRAM (witnessworld.py) out of the Statement's table words and the real class files: 14 classes; the members and pool entries that the words name. The judged class is class 1, her method 1. -/
namespace start1
open Jvm.ClassFile
def u (s : String) : CpInfo := .utf8 (stringToUtf16 s)
/-- a pool by its gaps: so many unusable entries, then the entry; so many at the end -/
def gap : Nat → List CpInfo → List CpInfo
  | 0, r => r
  | n + 1, r => .unusable :: gap n r
def poolList (es : List (Nat × CpInfo)) (last : Nat) : List CpInfo := es.foldr (fun e r => gap e.1 (e.2 :: r)) (gap last [])
def pool (es : List (Nat × CpInfo)) (last : Nat) : Array CpInfo := ⟨poolList es last⟩
def fileOf (pool : Array CpInfo) (this : Nat) (attrs : Array Attribute := #[]) (ms : Array MethodInfo := #[]) (fl : Nat := 33) (sup : Nat := 0) (ifs : Array Nat := #[]) (fds : Array FieldInfo := #[]) : ClassFile where
  minorVersion := 0
  majorVersion := 65
  constantPool := pool
  accessFlags := fl
  thisClass := this
  superClass := sup
  interfaces := ifs
  fields := fds
  methods := ms
  attributes := attrs
def plain (name : String) (sup : Option ClassId) : Class where
  name := name
  kind := .ordinary
  loader := none
  accessFlags := 33
  super := sup
  interfaces := #[]
  cf := none
  fields := #[]
  methods := #[]
  instanceTypes := #[]
  staticTypes := #[]
  resolved := #[]
  callSites := []
  init := .initialized
  statics := none
  mirror := none

def pool0 : Array CpInfo := pool [(5, u "<init>"), (0, u "()V"), (1, .class_ 10), (1, u "java/lang/Object")] 113

def k0m0 : Method := { name := "<init>", desc := "()V", sig := { parameters := [], returnType := none }, accessFlags := 1, code := none }
/-- java/lang/Object -/
def k0 : Class := { plain "java/lang/Object" none with
  accessFlags := 33
  interfaces := #[]
  cf := some (fileOf pool0 8 #[] #[{ accessFlags := 1, nameIndex := 5, descriptorIndex := 6, attributes := #[] }] 33 0 #[] #[])
  fields := #[]
  methods := #[k0m0]
  instanceTypes := #[]
  staticTypes := #[]
  resolved := Array.replicate 124 none
  statics := none }

def pool1 : Array CpInfo := pool [(2, .class_ 4), (1, u "java/lang/Object"), (0, u "<init>"), (0, u "()V"), (0, .fieldref 8 9), (0, .class_ 10), (0, .nameAndType 11 12), (0, u "com/example/notched_ledger/notchedledger/core/BrokerException$Reason"), (0, u "NOT_FOUND"), (0, u "Lcom/example/notched_ledger/notchedledger/core/BrokerException$Reason;"), (0, .fieldref 14 15), (0, .class_ 16), (0, .nameAndType 11 17), (0, u "com/example/notched_ledger/notchedledger/amqp/ReplyCode"), (0, u "Lcom/example/notched_ledger/notchedledger/amqp/ReplyCode;"), (0, .fieldref 8 19), (0, .nameAndType 20 12), (0, u "RESOURCE_LOCKED"), (0, .fieldref 14 22), (0, .nameAndType 20 17), (0, .fieldref 8 24), (0, .nameAndType 25 12), (0, u "ACCESS_REFUSED"), (0, .fieldref 14 27), (0, .nameAndType 25 17), (0, .fieldref 8 29), (0, .nameAndType 30 12), (0, u "PRECONDITION_FAILED"), (0, .fieldref 14 32), (0, .nameAndType 30 17), (0, .methodref 14 34), (0, .nameAndType 35 36), (0, u "of"), (0, u "(Lcom/example/notched_ledger/notchedledger/core/BrokerException$Reason;)Lcom/example/notched_ledger/notchedledger/amqp/ReplyCode;"), (0, .fieldref 14 38), (0, .nameAndType 39 40), (0, u "value"), (0, u "I"), (0, .fieldref 14 42), (0, .nameAndType 43 44), (0, u "closesConnection"), (0, u "Z"), (0, .class_ 46), (0, u "com/example/notched_ledger/notchedledger/amqp/ReplyCodeOfPinLaw"), (2, u "law"), (0, u "(I)Z")] 7

def k1m0 : Method := { name := "<init>", desc := "()V", sig := { parameters := [], returnType := none }, accessFlags := 1, code := none }
def k1c1 : Code := { maxStack := 2, maxLocals := 6, code := code, exceptionTable := #[], attributes := #[] }
def k1m1 : Method := { name := "law", desc := "(I)Z", sig := { parameters := [.int], returnType := some .boolean }, accessFlags := 9, code := some k1c1 }
/-- com/example/notched_ledger/notchedledger/amqp/ReplyCodeOfPinLaw -/
def k1 : Class := { plain "com/example/notched_ledger/notchedledger/amqp/ReplyCodeOfPinLaw" (some 0) with
  accessFlags := 49
  interfaces := #[]
  cf := some (fileOf pool1 45 #[] #[{ accessFlags := 1, nameIndex := 5, descriptorIndex := 6, attributes := #[] }, { accessFlags := 9, nameIndex := 49, descriptorIndex := 50, attributes := #[] }] 49 2 #[] #[])
  fields := #[]
  methods := #[k1m0, k1m1]
  instanceTypes := #[]
  staticTypes := #[]
  resolved := Array.replicate 58 none
  statics := none }

def pool2 : Array CpInfo := pool [(1, .class_ 2), (0, u "java/lang/constant/Constable"), (0, .class_ 4), (0, u "java/lang/Object")] 6

/-- java/lang/constant/Constable -/
def k2 : Class := { plain "java/lang/constant/Constable" (some 0) with
  accessFlags := 1537
  interfaces := #[]
  cf := some (fileOf pool2 1 #[] #[] 1537 3 #[] #[])
  fields := #[]
  methods := #[]
  instanceTypes := #[]
  staticTypes := #[]
  resolved := Array.replicate 11 none
  statics := none }

def pool3 : Array CpInfo := pool [(1, .class_ 2), (0, u "java/lang/Comparable"), (0, .class_ 4), (0, u "java/lang/Object")] 7

/-- java/lang/Comparable -/
def k3 : Class := { plain "java/lang/Comparable" (some 0) with
  accessFlags := 1537
  interfaces := #[]
  cf := some (fileOf pool3 1 #[] #[] 1537 3 #[] #[])
  fields := #[]
  methods := #[]
  instanceTypes := #[]
  staticTypes := #[]
  resolved := Array.replicate 12 none
  statics := none }

def pool4 : Array CpInfo := pool [(1, .class_ 2), (0, u "java/io/Serializable"), (0, .class_ 4), (0, u "java/lang/Object")] 2

/-- java/io/Serializable -/
def k4 : Class := { plain "java/io/Serializable" (some 0) with
  accessFlags := 1537
  interfaces := #[]
  cf := some (fileOf pool4 1 #[] #[] 1537 3 #[] #[])
  fields := #[]
  methods := #[]
  instanceTypes := #[]
  staticTypes := #[]
  resolved := Array.replicate 7 none
  statics := none }

def pool5 : Array CpInfo := pool [(2, .class_ 4), (1, u "java/lang/Enum"), (0, u "name"), (0, u "Ljava/lang/String;"), (0, .fieldref 2 8), (0, .nameAndType 9 10), (0, u "ordinal"), (0, u "I"), (1, .class_ 14), (1, u "java/lang/Object"), (4, u "hash"), (86, .class_ 108), (1, u "java/lang/Enum$EnumDesc"), (2, .class_ 112), (0, u "java/lang/constant/Constable"), (0, .class_ 114), (0, u "java/lang/Comparable"), (0, .class_ 116), (0, u "java/io/Serializable"), (9, u "()I")] 77

def k5c0 : Code := { maxStack := 1, maxLocals := 1, code := jdk_37_method_2_code, exceptionTable := #[], attributes := #[] }
def k5m0 : Method := { name := "ordinal", desc := "()I", sig := { parameters := [], returnType := some .int }, accessFlags := 17, code := some k5c0 }
/-- java/lang/Enum -/
def k5 : Class := { plain "java/lang/Enum" (some 0) with
  accessFlags := 1057
  interfaces := #[2, 3, 4]
  cf := some (fileOf pool5 2 #[.nestMembers #[106]] #[{ accessFlags := 17, nameIndex := 9, descriptorIndex := 126, attributes := #[] }] 1057 12 #[111, 113, 115] #[{ accessFlags := 18, nameIndex := 5, descriptorIndex := 6, attributes := #[] }, { accessFlags := 18, nameIndex := 9, descriptorIndex := 10, attributes := #[] }, { accessFlags := 2, nameIndex := 19, descriptorIndex := 10, attributes := #[] }])
  fields := #[{ name := "name", type := (.object "java/lang/String"), accessFlags := 18, slot := 0, constantValue := 0 }, { name := "ordinal", type := .int, accessFlags := 18, slot := 1, constantValue := 0 }, { name := "hash", type := .int, accessFlags := 2, slot := 2, constantValue := 0 }]
  methods := #[k5m0]
  instanceTypes := #[(.object "java/lang/String"), .int, .int]
  staticTypes := #[]
  resolved := Array.replicate 204 none
  statics := none }

def pool6 : Array CpInfo := pool [(1, .class_ 2), (0, u "com/example/notched_ledger/notchedledger/core/BrokerException$Reason"), (2, u "NOT_FOUND"), (0, u "Lcom/example/notched_ledger/notchedledger/core/BrokerException$Reason;"), (2, u "RESOURCE_LOCKED"), (2, u "ACCESS_REFUSED"), (2, u "PRECONDITION_FAILED"), (2, u "$VALUES"), (0, u "[Lcom/example/notched_ledger/notchedledger/core/BrokerException$Reason;"), (6, .class_ 28), (1, u "java/lang/Enum"), (27, .class_ 57), (0, u "com/example/notched_ledger/notchedledger/core/BrokerException")] 2

/-- com/example/notched_ledger/notchedledger/core/BrokerException$Reason -/
def k6 : Class := { plain "com/example/notched_ledger/notchedledger/core/BrokerException$Reason" (some 5) with
  accessFlags := 16433
  interfaces := #[]
  cf := some (fileOf pool6 1 #[.nestHost 56] #[] 16433 26 #[] #[{ accessFlags := 16409, nameIndex := 5, descriptorIndex := 6, attributes := #[] }, { accessFlags := 16409, nameIndex := 9, descriptorIndex := 6, attributes := #[] }, { accessFlags := 16409, nameIndex := 12, descriptorIndex := 6, attributes := #[] }, { accessFlags := 16409, nameIndex := 15, descriptorIndex := 6, attributes := #[] }, { accessFlags := 4122, nameIndex := 18, descriptorIndex := 19, attributes := #[] }])
  fields := #[{ name := "NOT_FOUND", type := (.object "com/example/notched_ledger/notchedledger/core/BrokerException$Reason"), accessFlags := 16409, slot := 0, constantValue := 0 }, { name := "RESOURCE_LOCKED", type := (.object "com/example/notched_ledger/notchedledger/core/BrokerException$Reason"), accessFlags := 16409, slot := 1, constantValue := 0 }, { name := "ACCESS_REFUSED", type := (.object "com/example/notched_ledger/notchedledger/core/BrokerException$Reason"), accessFlags := 16409, slot := 2, constantValue := 0 }, { name := "PRECONDITION_FAILED", type := (.object "com/example/notched_ledger/notchedledger/core/BrokerException$Reason"), accessFlags := 16409, slot := 3, constantValue := 0 }, { name := "$VALUES", type := (.array (.object "com/example/notched_ledger/notchedledger/core/BrokerException$Reason")), accessFlags := 4122, slot := 4, constantValue := 0 }]
  methods := #[]
  instanceTypes := #[(.object "java/lang/String"), .int, .int]
  staticTypes := #[(.object "com/example/notched_ledger/notchedledger/core/BrokerException$Reason"), (.object "com/example/notched_ledger/notchedledger/core/BrokerException$Reason"), (.object "com/example/notched_ledger/notchedledger/core/BrokerException$Reason"), (.object "com/example/notched_ledger/notchedledger/core/BrokerException$Reason"), (.array (.object "com/example/notched_ledger/notchedledger/core/BrokerException$Reason"))]
  resolved := Array.replicate 60 none
  statics := some 0 }

def pool7 : Array CpInfo := pool [(1, .class_ 2), (0, u "com/example/notched_ledger/notchedledger/amqp/ReplyCode"), (2, u "REPLY_SUCCESS"), (0, u "Lcom/example/notched_ledger/notchedledger/amqp/ReplyCode;"), (2, u "CONTENT_TOO_LARGE"), (2, u "NO_ROUTE"), (2, u "NO_CONSUMERS"), (2, u "CONNECTION_FORCED"), (2, u "INVALID_PATH"), (0, .fieldref 1 23), (0, .nameAndType 24 6), (0, u "ACCESS_REFUSED"), (0, .fieldref 1 26), (0, .nameAndType 27 6), (0, u "NOT_FOUND"), (0, .fieldref 1 29), (0, .nameAndType 30 6), (0, u "RESOURCE_LOCKED"), (0, .fieldref 1 32), (0, .nameAndType 33 6), (0, u "PRECONDITION_FAILED"), (2, u "FRAME_ERROR"), (2, u "SYNTAX_ERROR"), (2, u "COMMAND_INVALID"), (2, u "CHANNEL_ERROR"), (2, u "UNEXPECTED_FRAME"), (2, u "RESOURCE_ERROR"), (2, u "NOT_ALLOWED"), (2, u "NOT_IMPLEMENTED"), (2, u "INTERNAL_ERROR"), (2, u "$VALUES"), (0, u "[Lcom/example/notched_ledger/notchedledger/amqp/ReplyCode;"), (6, .class_ 73), (1, u "java/lang/Enum"), (8, u "value"), (0, u "I"), (2, u "closesConnection"), (0, u "Z"), (0, .fieldref 89 90), (0, .class_ 91), (0, .nameAndType 92 93), (0, u "com/example/notched_ledger/notchedledger/amqp/ReplyCode$1"), (0, u "$SwitchMap$com$example$notched_ledger$notchedledger$core$BrokerException$Reason"), (0, u "[I"), (0, .methodref 95 96), (0, .class_ 97), (0, .nameAndType 98 99), (0, u "com/example/notched_ledger/notchedledger/core/BrokerException$Reason"), (0, u "ordinal"), (0, u "()I"), (38, u "of"), (0, u "(Lcom/example/notched_ledger/notchedledger/core/BrokerException$Reason;)Lcom/example/notched_ledger/notchedledger/amqp/ReplyCode;")] 11

def k7c0 : Code := { maxStack := 4, maxLocals := 1, code := prog_3_method_4_code, exceptionTable := #[], attributes := #[] }
def k7m0 : Method := { name := "of", desc := "(Lcom/example/notched_ledger/notchedledger/core/BrokerException$Reason;)Lcom/example/notched_ledger/notchedledger/amqp/ReplyCode;", sig := { parameters := [(.object "com/example/notched_ledger/notchedledger/core/BrokerException$Reason")], returnType := some (.object "com/example/notched_ledger/notchedledger/amqp/ReplyCode") }, accessFlags := 8, code := some k7c0 }
/-- com/example/notched_ledger/notchedledger/amqp/ReplyCode -/
def k7 : Class := { plain "com/example/notched_ledger/notchedledger/amqp/ReplyCode" (some 5) with
  accessFlags := 16432
  interfaces := #[]
  cf := some (fileOf pool7 1 #[.nestMembers #[89]] #[{ accessFlags := 8, nameIndex := 138, descriptorIndex := 139, attributes := #[] }] 16432 71 #[] #[{ accessFlags := 16409, nameIndex := 5, descriptorIndex := 6, attributes := #[] }, { accessFlags := 16409, nameIndex := 9, descriptorIndex := 6, attributes := #[] }, { accessFlags := 16409, nameIndex := 12, descriptorIndex := 6, attributes := #[] }, { accessFlags := 16409, nameIndex := 15, descriptorIndex := 6, attributes := #[] }, { accessFlags := 16409, nameIndex := 18, descriptorIndex := 6, attributes := #[] }, { accessFlags := 16409, nameIndex := 21, descriptorIndex := 6, attributes := #[] }, { accessFlags := 16409, nameIndex := 24, descriptorIndex := 6, attributes := #[] }, { accessFlags := 16409, nameIndex := 27, descriptorIndex := 6, attributes := #[] }, { accessFlags := 16409, nameIndex := 30, descriptorIndex := 6, attributes := #[] }, { accessFlags := 16409, nameIndex := 33, descriptorIndex := 6, attributes := #[] }, { accessFlags := 16409, nameIndex := 36, descriptorIndex := 6, attributes := #[] }, { accessFlags := 16409, nameIndex := 39, descriptorIndex := 6, attributes := #[] }, { accessFlags := 16409, nameIndex := 42, descriptorIndex := 6, attributes := #[] }, { accessFlags := 16409, nameIndex := 45, descriptorIndex := 6, attributes := #[] }, { accessFlags := 16409, nameIndex := 48, descriptorIndex := 6, attributes := #[] }, { accessFlags := 16409, nameIndex := 51, descriptorIndex := 6, attributes := #[] }, { accessFlags := 16409, nameIndex := 54, descriptorIndex := 6, attributes := #[] }, { accessFlags := 16409, nameIndex := 57, descriptorIndex := 6, attributes := #[] }, { accessFlags := 16409, nameIndex := 60, descriptorIndex := 6, attributes := #[] }, { accessFlags := 16, nameIndex := 82, descriptorIndex := 83, attributes := #[] }, { accessFlags := 16, nameIndex := 86, descriptorIndex := 87, attributes := #[] }, { accessFlags := 4122, nameIndex := 63, descriptorIndex := 64, attributes := #[] }])
  fields := #[{ name := "REPLY_SUCCESS", type := (.object "com/example/notched_ledger/notchedledger/amqp/ReplyCode"), accessFlags := 16409, slot := 0, constantValue := 0 }, { name := "CONTENT_TOO_LARGE", type := (.object "com/example/notched_ledger/notchedledger/amqp/ReplyCode"), accessFlags := 16409, slot := 1, constantValue := 0 }, { name := "NO_ROUTE", type := (.object "com/example/notched_ledger/notchedledger/amqp/ReplyCode"), accessFlags := 16409, slot := 2, constantValue := 0 }, { name := "NO_CONSUMERS", type := (.object "com/example/notched_ledger/notchedledger/amqp/ReplyCode"), accessFlags := 16409, slot := 3, constantValue := 0 }, { name := "CONNECTION_FORCED", type := (.object "com/example/notched_ledger/notchedledger/amqp/ReplyCode"), accessFlags := 16409, slot := 4, constantValue := 0 }, { name := "INVALID_PATH", type := (.object "com/example/notched_ledger/notchedledger/amqp/ReplyCode"), accessFlags := 16409, slot := 5, constantValue := 0 }, { name := "ACCESS_REFUSED", type := (.object "com/example/notched_ledger/notchedledger/amqp/ReplyCode"), accessFlags := 16409, slot := 6, constantValue := 0 }, { name := "NOT_FOUND", type := (.object "com/example/notched_ledger/notchedledger/amqp/ReplyCode"), accessFlags := 16409, slot := 7, constantValue := 0 }, { name := "RESOURCE_LOCKED", type := (.object "com/example/notched_ledger/notchedledger/amqp/ReplyCode"), accessFlags := 16409, slot := 8, constantValue := 0 }, { name := "PRECONDITION_FAILED", type := (.object "com/example/notched_ledger/notchedledger/amqp/ReplyCode"), accessFlags := 16409, slot := 9, constantValue := 0 }, { name := "FRAME_ERROR", type := (.object "com/example/notched_ledger/notchedledger/amqp/ReplyCode"), accessFlags := 16409, slot := 10, constantValue := 0 }, { name := "SYNTAX_ERROR", type := (.object "com/example/notched_ledger/notchedledger/amqp/ReplyCode"), accessFlags := 16409, slot := 11, constantValue := 0 }, { name := "COMMAND_INVALID", type := (.object "com/example/notched_ledger/notchedledger/amqp/ReplyCode"), accessFlags := 16409, slot := 12, constantValue := 0 }, { name := "CHANNEL_ERROR", type := (.object "com/example/notched_ledger/notchedledger/amqp/ReplyCode"), accessFlags := 16409, slot := 13, constantValue := 0 }, { name := "UNEXPECTED_FRAME", type := (.object "com/example/notched_ledger/notchedledger/amqp/ReplyCode"), accessFlags := 16409, slot := 14, constantValue := 0 }, { name := "RESOURCE_ERROR", type := (.object "com/example/notched_ledger/notchedledger/amqp/ReplyCode"), accessFlags := 16409, slot := 15, constantValue := 0 }, { name := "NOT_ALLOWED", type := (.object "com/example/notched_ledger/notchedledger/amqp/ReplyCode"), accessFlags := 16409, slot := 16, constantValue := 0 }, { name := "NOT_IMPLEMENTED", type := (.object "com/example/notched_ledger/notchedledger/amqp/ReplyCode"), accessFlags := 16409, slot := 17, constantValue := 0 }, { name := "INTERNAL_ERROR", type := (.object "com/example/notched_ledger/notchedledger/amqp/ReplyCode"), accessFlags := 16409, slot := 18, constantValue := 0 }, { name := "value", type := .int, accessFlags := 16, slot := 3, constantValue := 0 }, { name := "closesConnection", type := .boolean, accessFlags := 16, slot := 4, constantValue := 0 }, { name := "$VALUES", type := (.array (.object "com/example/notched_ledger/notchedledger/amqp/ReplyCode")), accessFlags := 4122, slot := 19, constantValue := 0 }]
  methods := #[k7m0]
  instanceTypes := #[(.object "java/lang/String"), .int, .int, .int, .boolean]
  staticTypes := #[(.object "com/example/notched_ledger/notchedledger/amqp/ReplyCode"), (.object "com/example/notched_ledger/notchedledger/amqp/ReplyCode"), (.object "com/example/notched_ledger/notchedledger/amqp/ReplyCode"), (.object "com/example/notched_ledger/notchedledger/amqp/ReplyCode"), (.object "com/example/notched_ledger/notchedledger/amqp/ReplyCode"), (.object "com/example/notched_ledger/notchedledger/amqp/ReplyCode"), (.object "com/example/notched_ledger/notchedledger/amqp/ReplyCode"), (.object "com/example/notched_ledger/notchedledger/amqp/ReplyCode"), (.object "com/example/notched_ledger/notchedledger/amqp/ReplyCode"), (.object "com/example/notched_ledger/notchedledger/amqp/ReplyCode"), (.object "com/example/notched_ledger/notchedledger/amqp/ReplyCode"), (.object "com/example/notched_ledger/notchedledger/amqp/ReplyCode"), (.object "com/example/notched_ledger/notchedledger/amqp/ReplyCode"), (.object "com/example/notched_ledger/notchedledger/amqp/ReplyCode"), (.object "com/example/notched_ledger/notchedledger/amqp/ReplyCode"), (.object "com/example/notched_ledger/notchedledger/amqp/ReplyCode"), (.object "com/example/notched_ledger/notchedledger/amqp/ReplyCode"), (.object "com/example/notched_ledger/notchedledger/amqp/ReplyCode"), (.object "com/example/notched_ledger/notchedledger/amqp/ReplyCode"), (.array (.object "com/example/notched_ledger/notchedledger/amqp/ReplyCode"))]
  resolved := Array.replicate 151 none
  statics := some 1 }

def pool8 : Array CpInfo := pool [(8, .class_ 10), (1, u "com/example/notched_ledger/notchedledger/amqp/ReplyCode$1"), (0, u "$SwitchMap$com$example$notched_ledger$notchedledger$core$BrokerException$Reason"), (0, u "[I"), (19, .class_ 33), (0, u "java/lang/Object"), (8, .class_ 43), (0, u "com/example/notched_ledger/notchedledger/amqp/ReplyCode")] 5

/-- com/example/notched_ledger/notchedledger/amqp/ReplyCode$1 -/
def k8 : Class := { plain "com/example/notched_ledger/notchedledger/amqp/ReplyCode$1" (some 0) with
  accessFlags := 4128
  interfaces := #[]
  cf := some (fileOf pool8 8 #[.nestHost 42] #[] 4128 32 #[] #[{ accessFlags := 4120, nameIndex := 11, descriptorIndex := 12, attributes := #[] }])
  fields := #[{ name := "$SwitchMap$com$example$notched_ledger$notchedledger$core$BrokerException$Reason", type := (.array .int), accessFlags := 4120, slot := 0, constantValue := 0 }]
  methods := #[]
  instanceTypes := #[]
  staticTypes := #[(.array .int)]
  resolved := Array.replicate 49 none
  statics := some 2 }

def pool9 : Array CpInfo := pool [(1, u "java/lang/Cloneable"), (0, .class_ 1), (0, u "java/lang/Object"), (0, .class_ 3)] 3

/-- java/lang/Cloneable -/
def k9 : Class := { plain "java/lang/Cloneable" (some 0) with
  accessFlags := 1537
  interfaces := #[]
  cf := some (fileOf pool9 2 #[] #[] 1537 4 #[] #[])
  fields := #[]
  methods := #[]
  instanceTypes := #[]
  staticTypes := #[]
  resolved := Array.replicate 8 none
  statics := none }

/-- the primitive byte -/
def k10 : Class := { plain "byte" none with kind := .primitive 'B', accessFlags := 0x411 }
/-- [B -/
def k11 : Class := { plain "[B" (some 0) with kind := .array 10 .byte, interfaces := #[9, 4], accessFlags := 1041 }

/-- the primitive int -/
def k12 : Class := { plain "int" none with kind := .primitive 'I', accessFlags := 0x411 }
/-- [I -/
def k13 : Class := { plain "[I" (some 0) with kind := .array 12 .int, interfaces := #[9, 4], accessFlags := 1041 }

def heap : Heap := #[{ cls := 6, slots := #[.ref 3, .ref 4, .ref 5, .ref 6, .null], vm := .statics 6 },
  { cls := 7, slots := #[.null, .null, .null, .null, .null, .null, .ref 9, .ref 7, .ref 8, .ref 10, .null, .null, .null, .null, .null, .null, .null, .null, .null, .null], vm := .statics 7 },
  { cls := 8, slots := #[.ref 11], vm := .statics 8 },
  { cls := 6, slots := #[.null, .int 0, .int 0], vm := .none },
  { cls := 6, slots := #[.null, .int 1, .int 0], vm := .none },
  { cls := 6, slots := #[.null, .int 2, .int 0], vm := .none },
  { cls := 6, slots := #[.null, .int 3, .int 0], vm := .none },
  { cls := 7, slots := #[.null, .int 0, .int 0, .int 404, .int 0], vm := .none },
  { cls := 7, slots := #[.null, .int 1, .int 0, .int 405, .int 0], vm := .none },
  { cls := 7, slots := #[.null, .int 2, .int 0, .int 403, .int 0], vm := .none },
  { cls := 7, slots := #[.null, .int 3, .int 0, .int 406, .int 0], vm := .none },
  { cls := 13, slots := #[.int 1, .int 2, .int 3, .int 4], vm := .none }]
def classes : Array Class := #[k0, k1, k2, k3, k4, k5, k6, k7, k8, k9, k10, k11, k12, k13]
def interned : List (Array UInt16 × Addr) := []
def slotsUsed : Nat := 62
def theMethod : MethodId := ⟨1, 1⟩
def args0 : Array Value := #[.int 5]
def aboutOver (below : List Frame) : State where
  vm := { classes := classes, interned := interned.toArray }
  heap := heap
  slotsUsed := slotsUsed
  threads := #[{ frames := .invoking theMethod args0 :: below }]
def below0 : List Frame := [.native { method := ⟨0, 0⟩, args := #[] }]
def about1 : State := aboutOver below0
def p0 : Program := .bare "" "" ""
def e0 : Env := launch0.env 0 0 0
theorem w_frames : about1.frames = Frame.invoking theMethod args0 :: below0 := rfl
set_option maxRecDepth 65536 in
theorem w_args : argsFit about1.vm theMethod args0 = true := by decide +kernel
set_option maxRecDepth 65536 in
theorem w_heap : heapFits about1 = true := by decide +kernel
set_option maxRecDepth 65536 in
theorem w_runnable : about1.curStatus? = some .runnable := by decide +kernel
set_option maxRecDepth 65536 in
theorem w_alone : about1.alone = true := by decide +kernel
set_option maxRecDepth 65536 in
theorem w_named : about1.methodNamed? x = some theMethod := by decide +kernel
set_option maxRecDepth 65536 in
theorem w_hears : about1.hears theMethod below0 = true := by decide +kernel
set_option maxRecDepth 65536 in
theorem w_ripe : about1.ripe theMethod args0 below0 = true := by decide +kernel
theorem w_running : about1.status = .running := rfl
set_option maxRecDepth 65536 in
theorem w_room : about1.hasRoom e0.platform room_1 = true :=
  launch0.hasRoom_least _ room_1 (by decide +kernel) (by decide +kernel) (by decide +kernel) (by decide +kernel) (by decide +kernel) (by decide +kernel)
theorem allAtoms_all (ts : List Jvm.Cond) (a : Array Jvm.Value) (st : Jvm.State) : (allAtoms ts).before a st = ts.all (fun c => c.before a st) := by
  induction ts with
  | nil => rfl
  | cons c t ih =>
    show (Jvm.Cond.and c (allAtoms t)).before a st = _
    rw [Jvm.Cond.before_and, ih, List.all_cons]
def words1 : List Jvm.Cond := Jvm.Cond.code x code maxLocals ret :: tables_1
/-- a 'code' word, met by the world's own term for the bytes: nothing is compared byte by byte -/
theorem code_word {y : MethodName} {bytes : ByteArray} {mx : Nat} {rt : Option FieldType} {a : Array Value} {s : State} {m : MethodId} {meth : Method} {c : Code} (h1 : s.methodNamed? y = some m) (h2 : s.vm.method? m = some meth) (h3 : meth.code = some c) (h4 : c.code = bytes)
    (h5 : (c.maxLocals == mx && c.exceptionTable.isEmpty && decide (c.maxStack ≤ mostOperands) && decide (meth.sig.returnType = rt) && !meth.locks && decide (parseMethodDescriptor y.desc = some meth.sig)) = true) : (Jvm.Cond.code y bytes mx rt).before a s = true := by
  simp only [Bool.and_eq_true, beq_iff_eq, Bool.not_eq_true', decide_eq_true_eq] at h5
  obtain ⟨⟨⟨⟨⟨g1, g2⟩, g3⟩, g4⟩, g5⟩, g6⟩ := h5
  simp [Cond.before, Cond.holds, Cond.value, h1, h2, h3, h4, g1, g2, g3, g4, g5, g6]
def isCode : Jvm.Cond → Bool
  | .code _ _ _ _ => true
  | _ => false
theorem all_split {L : List Jvm.Cond} {P : Jvm.Cond → Bool} (h1 : L.all (fun c => isCode c || P c) = true) (h2 : ∀ c ∈ L.filter isCode, P c = true) : L.all P = true := by
  refine List.all_eq_true.mpr fun c hc => ?_
  have h := List.all_eq_true.mp h1 c hc
  rcases Bool.eq_false_or_eq_true (isCode c) with hi | hi
  · exact h2 c (List.mem_filter.mpr ⟨hc, hi⟩)
  · simpa [hi] using h
set_option maxRecDepth 65536 in
theorem w_c0 : (Jvm.Cond.code x code maxLocals ret).before args0 about1 = true := code_word (m := ⟨1, 1⟩) (meth := k1m1) (c := k1c1) (by decide +kernel) rfl rfl rfl (by decide +kernel)
set_option maxRecDepth 65536 in
theorem w_c1 : (Jvm.Cond.code ({ cls := "com/example/notched_ledger/notchedledger/amqp/ReplyCode", name := "of", desc := "(Lcom/example/notched_ledger/notchedledger/core/BrokerException$Reason;)Lcom/example/notched_ledger/notchedledger/amqp/ReplyCode;" } : Jvm.MethodName) prog_3_method_4_code (1 : Nat) (Option.some (Jvm.ClassFile.FieldType.object "com/example/notched_ledger/notchedledger/amqp/ReplyCode"))).before args0 about1 = true := code_word (m := ⟨7, 0⟩) (meth := k7m0) (c := k7c0) (by decide +kernel) rfl rfl rfl (by decide +kernel)
set_option maxRecDepth 65536 in
theorem w_c2 : (Jvm.Cond.code ({ cls := "java/lang/Enum", name := "ordinal", desc := "()I" } : Jvm.MethodName) jdk_37_method_2_code (1 : Nat) (Option.some Jvm.ClassFile.FieldType.int)).before args0 about1 = true := code_word (m := ⟨5, 0⟩) (meth := k5m0) (c := k5c0) (by decide +kernel) rfl rfl rfl (by decide +kernel)
def codes1 : List Jvm.Cond := [Jvm.Cond.code x code maxLocals ret, Jvm.Cond.code ({ cls := "com/example/notched_ledger/notchedledger/amqp/ReplyCode", name := "of", desc := "(Lcom/example/notched_ledger/notchedledger/core/BrokerException$Reason;)Lcom/example/notched_ledger/notchedledger/amqp/ReplyCode;" } : Jvm.MethodName) prog_3_method_4_code (1 : Nat) (Option.some (Jvm.ClassFile.FieldType.object "com/example/notched_ledger/notchedledger/amqp/ReplyCode")), Jvm.Cond.code ({ cls := "java/lang/Enum", name := "ordinal", desc := "()I" } : Jvm.MethodName) jdk_37_method_2_code (1 : Nat) (Option.some Jvm.ClassFile.FieldType.int)]
set_option maxRecDepth 65536 in
theorem codes_eq : words1.filter isCode = codes1 := rfl
theorem w_codes : ∀ c ∈ words1.filter isCode, c.before args0 about1 = true := by
  rw [codes_eq]
  intro c hc
  simp only [codes1, List.mem_cons, List.not_mem_nil, or_false] at hc
  rcases hc with rfl | rfl | rfl
  · exact w_c0
  · exact w_c1
  · exact w_c2
set_option maxRecDepth 65536 in
theorem w_t1 : (words1.take 24).all (fun c => isCode c || c.before args0 about1) = true := by decide +kernel
set_option maxRecDepth 65536 in
theorem w_t2 : (words1.drop 24).all (fun c => isCode c || c.before args0 about1) = true := by decide +kernel
theorem w_tables : (allAtoms (Jvm.Cond.code x code maxLocals ret :: tables_1)).before args0 about1 = true := by
  rw [allAtoms_all]
  show words1.all (fun c => c.before args0 about1) = true
  refine all_split ?_ w_codes
  rw [← List.take_append_drop 24 words1, List.all_append, w_t1, w_t2]
  rfl
set_option maxRecDepth 65536 in
theorem w_case : (Jvm.Cond.and given_1 narrow_1).before args0 about1 = true := by decide +kernel
theorem w_applies : (headSpec (Jvm.Cond.code x code maxLocals ret :: tables_1) room_1).applies x e0.platform about1 = true :=
  (Spec.applies_iff w_frames).mpr ⟨w_running, w_runnable, w_alone, w_named, w_hears, w_ripe, w_room, w_tables⟩
theorem atStart : AtStart classFile x code maxLocals ret World_1 tables_1 room_1 Calls_1 rest_1 Pre_1 launch0 p0 e0 about1 theMethod args0 below0 :=
  ⟨lists_1, trivial, launch0.admits_env _ _ _, launch0.least_env, fairChoices_fair.cas, fairChoices_fair.clock, w_frames, w_args, w_heap, w_applies, trivial, trivial, w_case⟩
end start1
theorem witness_1 : WitnessClaimed_1 := ⟨start1.p0, start1.e0, start1.about1, start1.theMethod, start1.args0, start1.below0, start1.atStart⟩
end Jvm.Pilot.@@N@@
