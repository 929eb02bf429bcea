import JvmDerived
import JvmDerived.Pilot.@@N@@Statement
import JvmDerived.Pilot.@@N@@Code
set_option linter.unusedVariables false
set_option linter.unusedSimpArgs false
namespace Jvm.Pilot.@@N@@
open Jvm Jvm.ClassFile Sem Op Lib Jvm.Free Jvm.Stand Jvm.LawKit Jvm.RoadKit Bundle Jvm.Pilot.@@N@@.Jvm.D
section OwnKit
variable {p : Program} {l : Launch} {e : Env} {R : Room} {s : State} {m : MethodId} {args : Array Value} {below : List Frame} {meth : Method} {c : Code} {T : State} {locs : List Loc} {cells slots : Nat}
/-- from here the run comes to a state of which K holds -/
def Go (tb : Tables) (e : Env) (below : List Frame) (K : State → Prop) (T : State) : Prop := ∃ U, Steps tb e below T U ∧ K U
theorem Go.st {tb : Tables} {K : State → Prop} {T T' : State} (h : ∀ U, Steps tb e below T' U → Steps tb e below T U) (g : Go tb e below K T') : Go tb e below K T := by
  obtain ⟨U, h1, h2⟩ := g; exact ⟨U, h U h1, h2⟩
theorem Go.tr {tb : Tables} {K : State → Prop} {T T' : State} (h : Steps tb e below T T') (g : Go tb e below K T') : Go tb e below K T := by
  obtain ⟨U, h1, h2⟩ := g; exact ⟨U, h.trans h1, h2⟩
/-- where a body may end -/
def own_Fin (s : State) (below : List Frame) (CC SS : Nat) (Q : Option Value → Heap → List Loc → Prop) (U : State) : Prop :=
  ∃ o, U.status = .running ∧ Ended U below o ∧ ∃ v L, o = .returned v ∧ Q v U.heap L ∧ FrameEnd s o U L CC SS
theorem own_start {tb : Tables} {CC SS : Nat} {Q : Option Value → Heap → List Loc → Prop} {T : State} (g : Go tb e below (own_Fin s below CC SS Q) T) :
    ∃ s₂ o, Steps tb e below T s₂ ∧ s₂.status = .running ∧ Ended s₂ below o ∧ ∃ v L, o = .returned v ∧ Q v s₂.heap L ∧ FrameEnd s o s₂ L CC SS := by
  obtain ⟨U, h1, o, h2, h3, h4⟩ := g; exact ⟨U, o, h1, h2, h3, h4⟩
theorem own_cast {tb : Tables} {K : State → Prop} {f f' : JFrame} (q : f = f') (g : Go tb e below K (T.setTop f')) : Go tb e below K (T.setTop f) := q ▸ g
section Ends
variable {CC SS : Nat} {Q : Option Value → Heap → List Loc → Prop}
theorem own_end (X : Stand p l e R s m args below meth c T locs cells slots) (hlocks : meth.locks = false) {v : Option Value} (hv : meth.sig.returnType = none → v = none) {f : JFrame}
    (k : ∀ fs, (∀ (f : JFrame) (acts : List Action), f.method = m → f.locked = none → f.entered = [] → (doReturn e (T.setTop f) acts v).1 = T.setFrames fs) → Steps p.tables e below (T.setTop f) (T.setFrames fs))
    (hq : Q v T.heap locs) (hc : cells ≤ CC) (hs : slots ≤ SS) : Go p.tables e below (own_Fin s below CC SS Q) (T.setTop f) := by
  obtain ⟨fs, hr, hrun, hended, hW, hsame⟩ := X.leave (v := v) hv hlocks
  exact ⟨_, k fs hr, _, hrun, hended, _, _, rfl, hq, ⟨_, rfl⟩, hW, hsame.mono hc hs⟩
theorem own_ret0 (X : Stand p l e R s m args below meth c T locs cells slots) (hx : p.tables.exec = Jvm.exec) (hlocks : meth.locks = false) {pc : Nat} {Ls : Array Slot} (hret : meth.sig.returnType = none) (hd : decode c.code pc = .ok (.return_, 1))
    (hq : Q none T.heap locs) (hc : cells ≤ CC) (hs : slots ≤ SS) : Go p.tables e below (own_Fin s below CC SS Q) (T.setTop (mkF m pc Ls [])) :=
  own_end X hlocks (fun _ => rfl) (fun _ hr => X.returnOut hx hret hd hr) hq hc hs
theorem own_retN (X : Stand p l e R s m args below meth c T locs cells slots) (hx : p.tables.exec = Jvm.exec) (hlocks : meth.locks = false) {pc : Nat} {Ls : Array Slot} {z : Int32} {t : FieldType} {rest : List Value} (hret : meth.sig.returnType = some t) (ht : t = .boolean ∨ t = .byte ∨ t = .char ∨ t = .short) (hd : decode c.code pc = .ok (.ireturn, 1))
    (hq : Q (some (.int (nar t z))) T.heap locs) (hc : cells ≤ CC) (hs : slots ≤ SS) : Go p.tables e below (own_Fin s below CC SS Q) (T.setTop (mkF m pc Ls (.int z :: rest))) :=
  own_end X hlocks (fun h => by rw [hret] at h; cases h) (fun _ hr => retN X hx hret ht hd hr) hq hc hs
theorem own_retO (X : Stand p l e R s m args below meth c T locs cells slots) (hx : p.tables.exec = Jvm.exec) (hlocks : meth.locks = false) {pc : Nat} {Ls : Array Slot} {w : Value} {t : FieldType} {i : Instr} {rest : List Value} (hret : meth.sig.returnType = some t) (hn : narrow t w = w)
    (hi : (i = .ireturn ∧ (t = .int ∨ t = .boolean ∨ t = .byte ∨ t = .char ∨ t = .short) ∧ ∃ z, w = .int z) ∨ (i = .lreturn ∧ t = .long ∧ ∃ z, w = .long z) ∨ (i = .dreturn ∧ t = .double ∧ ∃ z, w = .double z) ∨ (i = .freturn ∧ t = .float ∧ ∃ z, w = .float z) ∨ (i = .areturn ∧ t.isReference = true ∧ w.isRef = true))
    (hd : decode c.code pc = .ok (i, 1)) (hq : Q (some w) T.heap locs) (hc : cells ≤ CC) (hs : slots ≤ SS) : Go p.tables e below (own_Fin s below CC SS Q) (T.setTop (mkF m pc Ls (w :: rest))) :=
  own_end X hlocks (fun h => by rw [hret] at h; cases h) (fun _ hr => retOut X hx hret hn hi hd hr) hq hc hs
end Ends
end OwnKit
theorem own_irem (x y : Int32) (hy : 0 < y.toInt) : x - (x / y) * y = x % y := by
  have h1 : y ≠ -1 := fun q => by subst q; exact absurd hy (by decide)
  apply Int32.toInt_inj.mp
  have e1 := Int32.toInt_div_of_ne_right x y h1
  have e2 := c_isub x (x / y * y)
  have e3 := c_imul (x / y) y
  have e4 : (x % y).toInt = x.toInt.tmod y.toInt := Int32.toInt_mod x y
  have e5 := Int.tmod_add_mul_tdiv x.toInt y.toInt
  rw [e1, Int.mul_comm] at e3
  have r1 := rng32 (x - x / y * y)
  have r2 := rng32 (x % y)
  omega
theorem own_rem (x y : Int32) (hx : 0 ≤ x.toInt) (hy : 0 < y.toInt) : (x - (x / y) * y).toInt = x.toInt % y.toInt ∧ 0 ≤ (x - (x / y) * y).toInt ∧ (x - (x / y) * y).toInt < y.toInt := by
  rw [own_irem x y hy, (c_irem x y y.toInt rfl).1 hx]
  exact ⟨rfl, Int.emod_nonneg _ (by omega), Int.emod_lt_of_pos _ hy⟩
def own_hi (p : Int64) : Int64 := ((p.toUInt64 >>> ((32 : Int32) &&& 0x3f).toInt64.toUInt64).toInt64)
def own_count (p : Int64) : Int32 := if ((((own_hi p).toUInt64 >>> ((31 : Int32) &&& 0x3f).toInt64.toUInt64).toInt64) &&& (1 : Int64)) = 0 then (((own_hi p &&& (2147483647 : Int64)) - ((own_hi p &&& (2147483647 : Int64)) / (2147483647 : Int64)) * (2147483647 : Int64)).toInt32) + 1 else ((own_hi p &&& (3 : Int64)).toInt32) + 1
theorem own_count_rng (p : Int64) : 1 ≤ (own_count p).toInt := by
  unfold own_count
  generalize own_hi p = H
  split
  · have h0 := c_maskL H 2147483647 31 (by decide) (by decide)
    rw [show ((2 ^ 31 : Nat) : Int) = 2147483648 from by decide] at h0
    generalize H &&& (2147483647 : Int64) = A at *
    have h1 := (c_lrem A 2147483647 2147483647 (by decide)).1 (by omega)
    generalize A - A / (2147483647 : Int64) * (2147483647 : Int64) = B at *
    have h2 := c_l2i B
    have r2 := rng32 B.toInt32
    generalize B.toInt32 = D at *
    have h3 := c_iadd D 1
    rw [show (1 : Int32).toInt = 1 from by decide] at h3
    have r3 := rng32 (D + 1)
    omega
  · have h0 := c_maskL H 3 2 (by decide) (by decide)
    rw [show ((2 ^ 2 : Nat) : Int) = 4 from by decide] at h0
    generalize H &&& (3 : Int64) = A at *
    have h2 := c_l2i A
    have r2 := rng32 A.toInt32
    generalize A.toInt32 = D at *
    have h3 := c_iadd D 1
    rw [show (1 : Int32).toInt = 1 from by decide] at h3
    have r3 := rng32 (D + 1)
    omega
def own_digit (p : Int64) (c : Int32) : Int32 := if (p.toInt32 &&& (1 : Int32)) = 0 then (((p.toInt32.toUInt32 >>> ((1 : Int32) &&& 31).toUInt32).toInt32) - (((p.toInt32.toUInt32 >>> ((1 : Int32) &&& 31).toUInt32).toInt32) / c) * c) else c - 1
theorem own_digit_rng (p : Int64) (c : Int32) (hc : 1 ≤ c.toInt) : 0 ≤ (own_digit p c).toInt ∧ (own_digit p c).toInt < c.toInt := by
  unfold own_digit
  split
  · have h0 := c_iushr p.toInt32 1 1 (by decide) (by decide)
    have h1 := own_rem ((p.toInt32.toUInt32 >>> ((1 : Int32) &&& 31).toUInt32).toInt32) c (by rw [show ((2 ^ 1 : Nat) : Int) = 2 from by decide] at h0; omega) (by omega)
    exact h1.2
  · have h1 := c_isub c 1
    rw [show (1 : Int32).toInt = 1 from by decide] at h1
    have := rng32 (c - 1)
    have := rng32 c
    omega
def own_expect (a b d : Int32) : Int32 := if a = 0 then d else if b = 0 then d + 1 else 0
def own_inc (x c : Int32) : Int32 := if x = c - 1 then 0 else x + 1
theorem own_inc_eq (x c : Int32) (hx : 0 ≤ x.toInt ∧ x.toInt < c.toInt) : ((x + 1) - ((x + 1) / c) * c) = own_inc x c := by
  apply Int32.toInt_inj.mp
  have h1 := c_iadd x 1
  have h2 := c_isub c 1
  rw [show (1 : Int32).toInt = 1 from by decide] at h1 h2
  have r0 := rng32 c
  have r1 := rng32 (x + 1)
  have r2 := rng32 (c - 1)
  have h3 := own_rem (x + 1) c (by omega) (by omega)
  have e1 : (x + 1).toInt = x.toInt + 1 := by omega
  have e2 : (c - 1).toInt = c.toInt - 1 := by omega
  rw [h3.1, e1]
  unfold own_inc
  by_cases q : x = c - 1
  · rw [if_pos q]
    have : x.toInt = c.toInt - 1 := by rw [q, e2]
    rw [this, show c.toInt - 1 + 1 = c.toInt by omega, Int.emod_self]; decide
  · rw [if_neg q, e1]
    have : x.toInt ≠ c.toInt - 1 := fun z => q (Int32.toInt_inj.mp (by rw [e2]; exact z))
    exact Int.emod_eq_of_lt (by omega) (by omega)
theorem own_inc_ne (x c : Int32) (hx : 0 ≤ x.toInt ∧ x.toInt < c.toInt) (q : ¬ x = c - 1) : ¬ own_inc x c = 0 := by
  unfold own_inc
  rw [if_neg q]
  intro z
  have h1 := c_iadd x 1
  rw [z, show (1 : Int32).toInt = 1 from by decide, show (0 : Int32).toInt = 0 from by decide] at h1
  have r0 := rng32 c
  omega
def own_r (n x0 x1 x2 c0 c1 c2 : Int32) : Int32 := if n = 0 then 0 else if n = 1 then (if own_inc x0 c0 = 0 then 0 else 1) else if n = 2 then (if own_inc x1 c1 = 0 then (if own_inc x0 c0 = 0 then 0 else 1) else 1) else (if own_inc x2 c2 = 0 then (if own_inc x1 c1 = 0 then (if own_inc x0 c0 = 0 then 0 else 1) else 1) else 1)
def own_y0 (n x0 x1 x2 c0 c1 c2 : Int32) : Int32 := if n = 0 then x0 else if n = 1 then own_inc x0 c0 else if n = 2 then (if own_inc x1 c1 = 0 then own_inc x0 c0 else x0) else (if own_inc x2 c2 = 0 then (if own_inc x1 c1 = 0 then own_inc x0 c0 else x0) else x0)
def own_y1 (n x0 x1 x2 c0 c1 c2 : Int32) : Int32 := if n = 2 then own_inc x1 c1 else if n = 3 then (if own_inc x2 c2 = 0 then own_inc x1 c1 else x1) else x1
def own_y2 (n x0 x1 x2 c0 c1 c2 : Int32) : Int32 := if n = 3 then own_inc x2 c2 else x2

theorem d1_0 : decode method_2_code 0 = .ok (.lload_n 0, 1) := by decide +kernel
theorem d1_1 : decode method_2_code 1 = .ok (.bipush 32, 2) := by decide +kernel
theorem d1_3 : decode method_2_code 3 = .ok (.lushr, 1) := by decide +kernel
theorem d1_4 : decode method_2_code 4 = .ok (.lstore_n 2, 1) := by decide +kernel
theorem d1_5 : decode method_2_code 5 = .ok (.lload_n 2, 1) := by decide +kernel
theorem d1_6 : decode method_2_code 6 = .ok (.bipush 31, 2) := by decide +kernel
theorem d1_8 : decode method_2_code 8 = .ok (.lushr, 1) := by decide +kernel
theorem d1_9 : decode method_2_code 9 = .ok (.lconst 1, 1) := by decide +kernel
theorem d1_10 : decode method_2_code 10 = .ok (.land, 1) := by decide +kernel
theorem d1_11 : decode method_2_code 11 = .ok (.lconst 0, 1) := by decide +kernel
theorem d1_12 : decode method_2_code 12 = .ok (.lcmp, 1) := by decide +kernel
theorem d1_13 : decode method_2_code 13 = .ok (.ifCond .eq 12, 3) := by decide +kernel
theorem d1_16 : decode method_2_code 16 = .ok (.lload_n 2, 1) := by decide +kernel
theorem d1_17 : decode method_2_code 17 = .ok (.ldc2_w 7, 3) := by decide +kernel
theorem d1_20 : decode method_2_code 20 = .ok (.land, 1) := by decide +kernel
theorem d1_21 : decode method_2_code 21 = .ok (.l2i, 1) := by decide +kernel
theorem d1_22 : decode method_2_code 22 = .ok (.iconst 1, 1) := by decide +kernel
theorem d1_23 : decode method_2_code 23 = .ok (.iadd, 1) := by decide +kernel
theorem d1_24 : decode method_2_code 24 = .ok (.ireturn, 1) := by decide +kernel
theorem d1_25 : decode method_2_code 25 = .ok (.lload_n 2, 1) := by decide +kernel
theorem d1_26 : decode method_2_code 26 = .ok (.ldc2_w 9, 3) := by decide +kernel
theorem d1_29 : decode method_2_code 29 = .ok (.land, 1) := by decide +kernel
theorem d1_30 : decode method_2_code 30 = .ok (.ldc2_w 9, 3) := by decide +kernel
theorem d1_33 : decode method_2_code 33 = .ok (.lrem, 1) := by decide +kernel
theorem d1_34 : decode method_2_code 34 = .ok (.l2i, 1) := by decide +kernel
theorem d1_35 : decode method_2_code 35 = .ok (.iconst 1, 1) := by decide +kernel
theorem d1_36 : decode method_2_code 36 = .ok (.iadd, 1) := by decide +kernel
theorem d1_37 : decode method_2_code 37 = .ok (.ireturn, 1) := by decide +kernel
theorem pn_1 : plainFor (⟨"com/example/klipspringer/klipspringer/ChoicesAdvancePinLaw", "count", "(J)I"⟩ : MethodName) = true := plainFor_of_name (by first | (simp [plainName, overriddenIn]; done) | decide +kernel)
theorem ef_1 (m : MethodId) (x0 : Int64) : entryFrame m #[(.long x0)] 4 = mkF m 0 #[.val (.long x0), .second, .unset, .unset] [] := by first | (simp [entryFrame, mkF, argsToLocals, Value.category]; done) | rfl
def Q1 (Z : State) (q1 : Int64)  (h0 : Heap) (n0 : Nat) (v : Option Value) (h : Heap) (L : List Loc) : Prop := v = some (.int (own_count q1)) ∧ Fr n0 L ∧ h = h0
set_option maxRecDepth 65536 in
set_option maxHeartbeats 40000000 in
theorem rm1 (l : Launch) (Z : State) (a0 : Array Value) (hw : ∀ d ∈ tables_1, d.before a0 Z = true) (ws : List Jvm.Cond) (q1 : Int64)  (h0 : Heap) (n0 : Nat) (Z0 : n0 ≤ h0.size) :
    MetFree l (⟨"com/example/klipspringer/klipspringer/ChoicesAdvancePinLaw", "count", "(J)I"⟩ : MethodName) (head1 (Jvm.Cond.code (⟨"com/example/klipspringer/klipspringer/ChoicesAdvancePinLaw", "count", "(J)I"⟩ : MethodName) method_2_code 4 (some .int) :: ws) ({ frames := 0, cells := 0, slots := 0, locals := 0 } : Room)) (fun a U => a = #[(.long q1)] ∧ Z.Warmed39 U.vm ∧ U.heap = h0) (fun _ _ _ _ _ => True) (fun _ U o U' => ∃ v L, o = .returned v ∧ Q1 Z q1 h0 n0 v U'.heap L ∧ FrameEnd U o U' L ({ frames := 0, cells := 0, slots := 0, locals := 0 } : Room).cells ({ frames := 0, cells := 0, slots := 0, locals := 0 } : Room).slots) := by
  refine MetFree.of_bodySF pn_1 hisR ?_
  intro p e s m args below meth c s₁ Bd hml0 hP hK
  obtain ⟨rfl, hZ, hh⟩ := hP
  have hx := Bd.exec
  have hby := Bd.bytes
  have hml : c.maxLocals = 4 := hml0
  have hown : s.vm.findClass "com/example/klipspringer/klipspringer/ChoicesAdvancePinLaw" = some m.cls := findClass_of_methodNamed Bd.named
  have hnm := (name_of_methodNamed Bd.named Bd.method).1
  have X0 : Stand p l e ({ frames := 0, cells := 0, slots := 0, locals := 0 } : Room) s m #[(.long q1)] below meth c s₁ [] 0 0 := Stand.of_body Bd
  have e0 : s₁.heap = h0 := by rw [← hh, Bd.state]; rfl
  have N0 := Fr.nil n0
  refine own_start (Q := Q1 Z q1 h0 n0) (own_cast (ef_1 m q1) ?_)
  show Go p.tables e below _ (s₁.setTop (mkF m 0 #[.val (.long q1), .second, .unset, .unset] []))
  refine Go.st (fun U hr => XS.lloadN X0.here hx rfl (hb hby d1_0) rfl hr) ?_
  show Go p.tables e below _ (s₁.setTop (mkF m 1 #[.val (.long q1), .second, .unset, .unset] [(.long q1)]))
  refine Go.st (fun U hr => XS.bipush X0.here hx rfl (hb hby d1_1) hr) ?_
  show Go p.tables e below _ (s₁.setTop (mkF m 3 #[.val (.long q1), .second, .unset, .unset] [(.int (32 : Int32)), (.long q1)]))
  refine Go.st (fun U hr => XS.lushr X0.here hx rfl (hb hby d1_3) rfl hr) ?_
  show Go p.tables e below _ (s₁.setTop (mkF m 4 #[.val (.long q1), .second, .unset, .unset] [(.long ((q1.toUInt64 >>> ((32 : Int32) &&& 0x3f).toInt64.toUInt64).toInt64))]))
  refine Go.st (fun U hr => XS.lstoreN X0.here hx rfl (hb hby d1_4) rfl (l' := #[.val (.long q1), .second, .val (.long ((q1.toUInt64 >>> ((32 : Int32) &&& 0x3f).toInt64.toUInt64).toInt64)), .second]) rfl hr) ?_
  show Go p.tables e below _ (s₁.setTop (mkF m 5 #[.val (.long q1), .second, .val (.long ((q1.toUInt64 >>> ((32 : Int32) &&& 0x3f).toInt64.toUInt64).toInt64)), .second] []))
  refine Go.st (fun U hr => XS.lloadN X0.here hx rfl (hb hby d1_5) rfl hr) ?_
  show Go p.tables e below _ (s₁.setTop (mkF m 6 #[.val (.long q1), .second, .val (.long ((q1.toUInt64 >>> ((32 : Int32) &&& 0x3f).toInt64.toUInt64).toInt64)), .second] [(.long ((q1.toUInt64 >>> ((32 : Int32) &&& 0x3f).toInt64.toUInt64).toInt64))]))
  refine Go.st (fun U hr => XS.bipush X0.here hx rfl (hb hby d1_6) hr) ?_
  show Go p.tables e below _ (s₁.setTop (mkF m 8 #[.val (.long q1), .second, .val (.long ((q1.toUInt64 >>> ((32 : Int32) &&& 0x3f).toInt64.toUInt64).toInt64)), .second] [(.int (31 : Int32)), (.long ((q1.toUInt64 >>> ((32 : Int32) &&& 0x3f).toInt64.toUInt64).toInt64))]))
  refine Go.st (fun U hr => XS.lushr X0.here hx rfl (hb hby d1_8) rfl hr) ?_
  show Go p.tables e below _ (s₁.setTop (mkF m 9 #[.val (.long q1), .second, .val (.long ((q1.toUInt64 >>> ((32 : Int32) &&& 0x3f).toInt64.toUInt64).toInt64)), .second] [(.long ((((q1.toUInt64 >>> ((32 : Int32) &&& 0x3f).toInt64.toUInt64).toInt64).toUInt64 >>> ((31 : Int32) &&& 0x3f).toInt64.toUInt64).toInt64))]))
  refine Go.st (fun U hr => XS.lconst X0.here hx rfl (hb hby d1_9) hr) ?_
  show Go p.tables e below _ (s₁.setTop (mkF m 10 #[.val (.long q1), .second, .val (.long ((q1.toUInt64 >>> ((32 : Int32) &&& 0x3f).toInt64.toUInt64).toInt64)), .second] [(.long (1 : Int64)), (.long ((((q1.toUInt64 >>> ((32 : Int32) &&& 0x3f).toInt64.toUInt64).toInt64).toUInt64 >>> ((31 : Int32) &&& 0x3f).toInt64.toUInt64).toInt64))]))
  refine Go.st (fun U hr => XS.land X0.here hx rfl (hb hby d1_10) rfl hr) ?_
  show Go p.tables e below _ (s₁.setTop (mkF m 11 #[.val (.long q1), .second, .val (.long ((q1.toUInt64 >>> ((32 : Int32) &&& 0x3f).toInt64.toUInt64).toInt64)), .second] [(.long (((((q1.toUInt64 >>> ((32 : Int32) &&& 0x3f).toInt64.toUInt64).toInt64).toUInt64 >>> ((31 : Int32) &&& 0x3f).toInt64.toUInt64).toInt64) &&& (1 : Int64)))]))
  refine Go.st (fun U hr => XS.lconst X0.here hx rfl (hb hby d1_11) hr) ?_
  show Go p.tables e below _ (s₁.setTop (mkF m 12 #[.val (.long q1), .second, .val (.long ((q1.toUInt64 >>> ((32 : Int32) &&& 0x3f).toInt64.toUInt64).toInt64)), .second] [(.long (0 : Int64)), (.long (((((q1.toUInt64 >>> ((32 : Int32) &&& 0x3f).toInt64.toUInt64).toInt64).toUInt64 >>> ((31 : Int32) &&& 0x3f).toInt64.toUInt64).toInt64) &&& (1 : Int64)))]))
  refine Go.st (fun U hr => XS.lcmp X0.here hx rfl (hb hby d1_12) rfl hr) ?_
  show Go p.tables e below _ (s₁.setTop (mkF m 13 #[.val (.long q1), .second, .val (.long ((q1.toUInt64 >>> ((32 : Int32) &&& 0x3f).toInt64.toUInt64).toInt64)), .second] [(.int (lcmpW (((((q1.toUInt64 >>> ((32 : Int32) &&& 0x3f).toInt64.toUInt64).toInt64).toUInt64 >>> ((31 : Int32) &&& 0x3f).toInt64.toUInt64).toInt64) &&& (1 : Int64)) (0 : Int64)))]))
  by_cases hc13_1 : (((((q1.toUInt64 >>> ((32 : Int32) &&& 0x3f).toInt64.toUInt64).toInt64).toUInt64 >>> ((31 : Int32) &&& 0x3f).toInt64.toUInt64).toInt64) &&& (1 : Int64)) = (0 : Int64)
  · refine Go.st (fun U hr => XS.ifYes X0.here hx rfl (pc0 := 13) (pc' := 25) rfl (hb hby d1_13) rfl ((if0 _ _).trans (teq ((lw_eq (((((q1.toUInt64 >>> ((32 : Int32) &&& 0x3f).toInt64.toUInt64).toInt64).toUInt64 >>> ((31 : Int32) &&& 0x3f).toInt64.toUInt64).toInt64) &&& (1 : Int64)) (0 : Int64)).2 hc13_1)).1) (by decide) (by decide) hr) ?_
    show Go p.tables e below _ (s₁.setTop (mkF m 25 #[.val (.long q1), .second, .val (.long ((q1.toUInt64 >>> ((32 : Int32) &&& 0x3f).toInt64.toUInt64).toInt64)), .second] []))
    refine Go.st (fun U hr => XS.lloadN X0.here hx rfl (hb hby d1_25) rfl hr) ?_
    show Go p.tables e below _ (s₁.setTop (mkF m 26 #[.val (.long q1), .second, .val (.long ((q1.toUInt64 >>> ((32 : Int32) &&& 0x3f).toInt64.toUInt64).toInt64)), .second] [(.long ((q1.toUInt64 >>> ((32 : Int32) &&& 0x3f).toInt64.toUInt64).toInt64))]))
    refine Go.st (X0.ldc2Long hx hown (mvT hZ (hw _ (List.mem_of_getElem? (i := 5) rfl))) (g := (mkF m 26 #[.val (.long q1), .second, .val (.long ((q1.toUInt64 >>> ((32 : Int32) &&& 0x3f).toInt64.toUInt64).toInt64)), .second] [(.long ((q1.toUInt64 >>> ((32 : Int32) &&& 0x3f).toInt64.toUInt64).toInt64))])) rfl (hb hby d1_26)) ?_
    show Go p.tables e below _ (s₁.setTop (mkF m 29 #[.val (.long q1), .second, .val (.long ((q1.toUInt64 >>> ((32 : Int32) &&& 0x3f).toInt64.toUInt64).toInt64)), .second] [(.long (2147483647 : Int64)), (.long ((q1.toUInt64 >>> ((32 : Int32) &&& 0x3f).toInt64.toUInt64).toInt64))]))
    refine Go.st (fun U hr => XS.land X0.here hx rfl (hb hby d1_29) rfl hr) ?_
    show Go p.tables e below _ (s₁.setTop (mkF m 30 #[.val (.long q1), .second, .val (.long ((q1.toUInt64 >>> ((32 : Int32) &&& 0x3f).toInt64.toUInt64).toInt64)), .second] [(.long (((q1.toUInt64 >>> ((32 : Int32) &&& 0x3f).toInt64.toUInt64).toInt64) &&& (2147483647 : Int64)))]))
    refine Go.st (X0.ldc2Long hx hown (mvT hZ (hw _ (List.mem_of_getElem? (i := 5) rfl))) (g := (mkF m 30 #[.val (.long q1), .second, .val (.long ((q1.toUInt64 >>> ((32 : Int32) &&& 0x3f).toInt64.toUInt64).toInt64)), .second] [(.long (((q1.toUInt64 >>> ((32 : Int32) &&& 0x3f).toInt64.toUInt64).toInt64) &&& (2147483647 : Int64)))])) rfl (hb hby d1_30)) ?_
    show Go p.tables e below _ (s₁.setTop (mkF m 33 #[.val (.long q1), .second, .val (.long ((q1.toUInt64 >>> ((32 : Int32) &&& 0x3f).toInt64.toUInt64).toInt64)), .second] [(.long (2147483647 : Int64)), (.long (((q1.toUInt64 >>> ((32 : Int32) &&& 0x3f).toInt64.toUInt64).toInt64) &&& (2147483647 : Int64)))]))
    refine Go.st (fun U hr => XS.lrem X0.here hx rfl (hb hby d1_33) rfl (by decide) hr) ?_
    show Go p.tables e below _ (s₁.setTop (mkF m 34 #[.val (.long q1), .second, .val (.long ((q1.toUInt64 >>> ((32 : Int32) &&& 0x3f).toInt64.toUInt64).toInt64)), .second] [(.long ((((q1.toUInt64 >>> ((32 : Int32) &&& 0x3f).toInt64.toUInt64).toInt64) &&& (2147483647 : Int64)) - ((((q1.toUInt64 >>> ((32 : Int32) &&& 0x3f).toInt64.toUInt64).toInt64) &&& (2147483647 : Int64)) / (2147483647 : Int64)) * (2147483647 : Int64)))]))
    refine Go.st (fun U hr => XS.l2i X0.here hx rfl (hb hby d1_34) rfl hr) ?_
    show Go p.tables e below _ (s₁.setTop (mkF m 35 #[.val (.long q1), .second, .val (.long ((q1.toUInt64 >>> ((32 : Int32) &&& 0x3f).toInt64.toUInt64).toInt64)), .second] [(.int (((((q1.toUInt64 >>> ((32 : Int32) &&& 0x3f).toInt64.toUInt64).toInt64) &&& (2147483647 : Int64)) - ((((q1.toUInt64 >>> ((32 : Int32) &&& 0x3f).toInt64.toUInt64).toInt64) &&& (2147483647 : Int64)) / (2147483647 : Int64)) * (2147483647 : Int64)).toInt32))]))
    refine Go.st (fun U hr => XS.iconst X0.here hx rfl (hb hby d1_35) hr) ?_
    show Go p.tables e below _ (s₁.setTop (mkF m 36 #[.val (.long q1), .second, .val (.long ((q1.toUInt64 >>> ((32 : Int32) &&& 0x3f).toInt64.toUInt64).toInt64)), .second] [(.int (1 : Int32)), (.int (((((q1.toUInt64 >>> ((32 : Int32) &&& 0x3f).toInt64.toUInt64).toInt64) &&& (2147483647 : Int64)) - ((((q1.toUInt64 >>> ((32 : Int32) &&& 0x3f).toInt64.toUInt64).toInt64) &&& (2147483647 : Int64)) / (2147483647 : Int64)) * (2147483647 : Int64)).toInt32))]))
    refine Go.st (fun U hr => XS.iadd X0.here hx rfl (hb hby d1_36) rfl hr) ?_
    show Go p.tables e below _ (s₁.setTop (mkF m 37 #[.val (.long q1), .second, .val (.long ((q1.toUInt64 >>> ((32 : Int32) &&& 0x3f).toInt64.toUInt64).toInt64)), .second] [(.int ((((((q1.toUInt64 >>> ((32 : Int32) &&& 0x3f).toInt64.toUInt64).toInt64) &&& (2147483647 : Int64)) - ((((q1.toUInt64 >>> ((32 : Int32) &&& 0x3f).toInt64.toUInt64).toInt64) &&& (2147483647 : Int64)) / (2147483647 : Int64)) * (2147483647 : Int64)).toInt32) + (1 : Int32)))]))
    exact own_retO X0 hx Bd.notSynchronized (t := .int) Bd.returns rfl (Or.inl ⟨rfl, Or.inl rfl, _, rfl⟩) (hb hby d1_37) ⟨congrArg (fun z => some (Value.int z)) (if_pos hc13_1).symm, N0, e0⟩ (by decide) (by decide)
  · refine Go.st (fun U hr => XS.ifNo X0.here hx rfl (hb hby d1_13) rfl ((if0 _ _).trans (feq (fun q => hc13_1 ((lw_eq (((((q1.toUInt64 >>> ((32 : Int32) &&& 0x3f).toInt64.toUInt64).toInt64).toUInt64 >>> ((31 : Int32) &&& 0x3f).toInt64.toUInt64).toInt64) &&& (1 : Int64)) (0 : Int64)).1 q))).1) hr) ?_
    show Go p.tables e below _ (s₁.setTop (mkF m 16 #[.val (.long q1), .second, .val (.long ((q1.toUInt64 >>> ((32 : Int32) &&& 0x3f).toInt64.toUInt64).toInt64)), .second] []))
    refine Go.st (fun U hr => XS.lloadN X0.here hx rfl (hb hby d1_16) rfl hr) ?_
    show Go p.tables e below _ (s₁.setTop (mkF m 17 #[.val (.long q1), .second, .val (.long ((q1.toUInt64 >>> ((32 : Int32) &&& 0x3f).toInt64.toUInt64).toInt64)), .second] [(.long ((q1.toUInt64 >>> ((32 : Int32) &&& 0x3f).toInt64.toUInt64).toInt64))]))
    refine Go.st (X0.ldc2Long hx hown (mvT hZ (hw _ (List.mem_of_getElem? (i := 6) rfl))) (g := (mkF m 17 #[.val (.long q1), .second, .val (.long ((q1.toUInt64 >>> ((32 : Int32) &&& 0x3f).toInt64.toUInt64).toInt64)), .second] [(.long ((q1.toUInt64 >>> ((32 : Int32) &&& 0x3f).toInt64.toUInt64).toInt64))])) rfl (hb hby d1_17)) ?_
    show Go p.tables e below _ (s₁.setTop (mkF m 20 #[.val (.long q1), .second, .val (.long ((q1.toUInt64 >>> ((32 : Int32) &&& 0x3f).toInt64.toUInt64).toInt64)), .second] [(.long (3 : Int64)), (.long ((q1.toUInt64 >>> ((32 : Int32) &&& 0x3f).toInt64.toUInt64).toInt64))]))
    refine Go.st (fun U hr => XS.land X0.here hx rfl (hb hby d1_20) rfl hr) ?_
    show Go p.tables e below _ (s₁.setTop (mkF m 21 #[.val (.long q1), .second, .val (.long ((q1.toUInt64 >>> ((32 : Int32) &&& 0x3f).toInt64.toUInt64).toInt64)), .second] [(.long (((q1.toUInt64 >>> ((32 : Int32) &&& 0x3f).toInt64.toUInt64).toInt64) &&& (3 : Int64)))]))
    refine Go.st (fun U hr => XS.l2i X0.here hx rfl (hb hby d1_21) rfl hr) ?_
    show Go p.tables e below _ (s₁.setTop (mkF m 22 #[.val (.long q1), .second, .val (.long ((q1.toUInt64 >>> ((32 : Int32) &&& 0x3f).toInt64.toUInt64).toInt64)), .second] [(.int ((((q1.toUInt64 >>> ((32 : Int32) &&& 0x3f).toInt64.toUInt64).toInt64) &&& (3 : Int64)).toInt32))]))
    refine Go.st (fun U hr => XS.iconst X0.here hx rfl (hb hby d1_22) hr) ?_
    show Go p.tables e below _ (s₁.setTop (mkF m 23 #[.val (.long q1), .second, .val (.long ((q1.toUInt64 >>> ((32 : Int32) &&& 0x3f).toInt64.toUInt64).toInt64)), .second] [(.int (1 : Int32)), (.int ((((q1.toUInt64 >>> ((32 : Int32) &&& 0x3f).toInt64.toUInt64).toInt64) &&& (3 : Int64)).toInt32))]))
    refine Go.st (fun U hr => XS.iadd X0.here hx rfl (hb hby d1_23) rfl hr) ?_
    show Go p.tables e below _ (s₁.setTop (mkF m 24 #[.val (.long q1), .second, .val (.long ((q1.toUInt64 >>> ((32 : Int32) &&& 0x3f).toInt64.toUInt64).toInt64)), .second] [(.int (((((q1.toUInt64 >>> ((32 : Int32) &&& 0x3f).toInt64.toUInt64).toInt64) &&& (3 : Int64)).toInt32) + (1 : Int32)))]))
    exact own_retO X0 hx Bd.notSynchronized (t := .int) Bd.returns rfl (Or.inl ⟨rfl, Or.inl rfl, _, rfl⟩) (hb hby d1_24) ⟨congrArg (fun z => some (Value.int z)) (if_neg hc13_1).symm, N0, e0⟩ (by decide) (by decide)
theorem d2_0 : decode method_3_code 0 = .ok (.lload_n 0, 1) := by decide +kernel
theorem d2_1 : decode method_3_code 1 = .ok (.l2i, 1) := by decide +kernel
theorem d2_2 : decode method_3_code 2 = .ok (.istore_n 3, 1) := by decide +kernel
theorem d2_3 : decode method_3_code 3 = .ok (.iload_n 3, 1) := by decide +kernel
theorem d2_4 : decode method_3_code 4 = .ok (.iconst 1, 1) := by decide +kernel
theorem d2_5 : decode method_3_code 5 = .ok (.iand, 1) := by decide +kernel
theorem d2_6 : decode method_3_code 6 = .ok (.ifCond .eq 7, 3) := by decide +kernel
theorem d2_9 : decode method_3_code 9 = .ok (.iload_n 2, 1) := by decide +kernel
theorem d2_10 : decode method_3_code 10 = .ok (.iconst 1, 1) := by decide +kernel
theorem d2_11 : decode method_3_code 11 = .ok (.isub, 1) := by decide +kernel
theorem d2_12 : decode method_3_code 12 = .ok (.ireturn, 1) := by decide +kernel
theorem d2_13 : decode method_3_code 13 = .ok (.iload_n 3, 1) := by decide +kernel
theorem d2_14 : decode method_3_code 14 = .ok (.iconst 1, 1) := by decide +kernel
theorem d2_15 : decode method_3_code 15 = .ok (.iushr, 1) := by decide +kernel
theorem d2_16 : decode method_3_code 16 = .ok (.iload_n 2, 1) := by decide +kernel
theorem d2_17 : decode method_3_code 17 = .ok (.irem, 1) := by decide +kernel
theorem d2_18 : decode method_3_code 18 = .ok (.ireturn, 1) := by decide +kernel
theorem pn_2 : plainFor (⟨"com/example/klipspringer/klipspringer/ChoicesAdvancePinLaw", "digit", "(JI)I"⟩ : MethodName) = true := plainFor_of_name (by first | (simp [plainName, overriddenIn]; done) | decide +kernel)
theorem ef_2 (m : MethodId) (x0 : Int64) (x1 : Int32) : entryFrame m #[(.long x0), (.int x1)] 4 = mkF m 0 #[.val (.long x0), .second, .val (.int x1), .unset] [] := by first | (simp [entryFrame, mkF, argsToLocals, Value.category]; done) | rfl
def Q2 (Z : State) (q1 : Int64) (p2 : Int32)  (h0 : Heap) (n0 : Nat) (v : Option Value) (h : Heap) (L : List Loc) : Prop := v = some (.int (own_digit q1 p2)) ∧ Fr n0 L ∧ h = h0
set_option maxRecDepth 65536 in
set_option maxHeartbeats 40000000 in
theorem rm2 (l : Launch) (Z : State) (a0 : Array Value) (hw : ∀ d ∈ tables_1, d.before a0 Z = true) (ws : List Jvm.Cond) (q1 : Int64) (p2 : Int32)  (h0 : Heap) (n0 : Nat) (Z0 : n0 ≤ h0.size) (hp2 : p2 ≠ 0) :
    MetFree l (⟨"com/example/klipspringer/klipspringer/ChoicesAdvancePinLaw", "digit", "(JI)I"⟩ : MethodName) (head1 (Jvm.Cond.code (⟨"com/example/klipspringer/klipspringer/ChoicesAdvancePinLaw", "digit", "(JI)I"⟩ : MethodName) method_3_code 4 (some .int) :: ws) ({ frames := 0, cells := 0, slots := 0, locals := 0 } : Room)) (fun a U => a = #[(.long q1), (.int p2)] ∧ Z.Warmed39 U.vm ∧ U.heap = h0) (fun _ _ _ _ _ => True) (fun _ U o U' => ∃ v L, o = .returned v ∧ Q2 Z q1 p2 h0 n0 v U'.heap L ∧ FrameEnd U o U' L ({ frames := 0, cells := 0, slots := 0, locals := 0 } : Room).cells ({ frames := 0, cells := 0, slots := 0, locals := 0 } : Room).slots) := by
  refine MetFree.of_bodySF pn_2 hisR ?_
  intro p e s m args below meth c s₁ Bd hml0 hP hK
  obtain ⟨rfl, hZ, hh⟩ := hP
  have hx := Bd.exec
  have hby := Bd.bytes
  have hml : c.maxLocals = 4 := hml0
  have hown : s.vm.findClass "com/example/klipspringer/klipspringer/ChoicesAdvancePinLaw" = some m.cls := findClass_of_methodNamed Bd.named
  have hnm := (name_of_methodNamed Bd.named Bd.method).1
  have X0 : Stand p l e ({ frames := 0, cells := 0, slots := 0, locals := 0 } : Room) s m #[(.long q1), (.int p2)] below meth c s₁ [] 0 0 := Stand.of_body Bd
  have e0 : s₁.heap = h0 := by rw [← hh, Bd.state]; rfl
  have N0 := Fr.nil n0
  refine own_start (Q := Q2 Z q1 p2 h0 n0) (own_cast (ef_2 m q1 p2) ?_)
  show Go p.tables e below _ (s₁.setTop (mkF m 0 #[.val (.long q1), .second, .val (.int p2), .unset] []))
  refine Go.st (fun U hr => XS.lloadN X0.here hx rfl (hb hby d2_0) rfl hr) ?_
  show Go p.tables e below _ (s₁.setTop (mkF m 1 #[.val (.long q1), .second, .val (.int p2), .unset] [(.long q1)]))
  refine Go.st (fun U hr => XS.l2i X0.here hx rfl (hb hby d2_1) rfl hr) ?_
  show Go p.tables e below _ (s₁.setTop (mkF m 2 #[.val (.long q1), .second, .val (.int p2), .unset] [(.int (q1.toInt32))]))
  refine Go.st (fun U hr => XS.istoreN X0.here hx rfl (hb hby d2_2) rfl (l' := #[.val (.long q1), .second, .val (.int p2), .val (.int (q1.toInt32))]) rfl hr) ?_
  show Go p.tables e below _ (s₁.setTop (mkF m 3 #[.val (.long q1), .second, .val (.int p2), .val (.int (q1.toInt32))] []))
  refine Go.st (fun U hr => XS.iloadN X0.here hx rfl (hb hby d2_3) rfl hr) ?_
  show Go p.tables e below _ (s₁.setTop (mkF m 4 #[.val (.long q1), .second, .val (.int p2), .val (.int (q1.toInt32))] [(.int (q1.toInt32))]))
  refine Go.st (fun U hr => XS.iconst X0.here hx rfl (hb hby d2_4) hr) ?_
  show Go p.tables e below _ (s₁.setTop (mkF m 5 #[.val (.long q1), .second, .val (.int p2), .val (.int (q1.toInt32))] [(.int (1 : Int32)), (.int (q1.toInt32))]))
  refine Go.st (fun U hr => XS.iand X0.here hx rfl (hb hby d2_5) rfl hr) ?_
  show Go p.tables e below _ (s₁.setTop (mkF m 6 #[.val (.long q1), .second, .val (.int p2), .val (.int (q1.toInt32))] [(.int ((q1.toInt32) &&& (1 : Int32)))]))
  by_cases hc6_1 : ((q1.toInt32) &&& (1 : Int32)) = (0 : Int32)
  · refine Go.st (fun U hr => XS.ifYes X0.here hx rfl (pc0 := 6) (pc' := 13) rfl (hb hby d2_6) rfl ((if0 _ _).trans (teq hc6_1).1) (by decide) (by decide) hr) ?_
    show Go p.tables e below _ (s₁.setTop (mkF m 13 #[.val (.long q1), .second, .val (.int p2), .val (.int (q1.toInt32))] []))
    refine Go.st (fun U hr => XS.iloadN X0.here hx rfl (hb hby d2_13) rfl hr) ?_
    show Go p.tables e below _ (s₁.setTop (mkF m 14 #[.val (.long q1), .second, .val (.int p2), .val (.int (q1.toInt32))] [(.int (q1.toInt32))]))
    refine Go.st (fun U hr => XS.iconst X0.here hx rfl (hb hby d2_14) hr) ?_
    show Go p.tables e below _ (s₁.setTop (mkF m 15 #[.val (.long q1), .second, .val (.int p2), .val (.int (q1.toInt32))] [(.int (1 : Int32)), (.int (q1.toInt32))]))
    refine Go.st (fun U hr => XS.iushr X0.here hx rfl (hb hby d2_15) rfl hr) ?_
    show Go p.tables e below _ (s₁.setTop (mkF m 16 #[.val (.long q1), .second, .val (.int p2), .val (.int (q1.toInt32))] [(.int (((q1.toInt32).toUInt32 >>> ((1 : Int32) &&& 31).toUInt32).toInt32))]))
    refine Go.st (fun U hr => XS.iloadN X0.here hx rfl (hb hby d2_16) rfl hr) ?_
    show Go p.tables e below _ (s₁.setTop (mkF m 17 #[.val (.long q1), .second, .val (.int p2), .val (.int (q1.toInt32))] [(.int p2), (.int (((q1.toInt32).toUInt32 >>> ((1 : Int32) &&& 31).toUInt32).toInt32))]))
    refine Go.st (fun U hr => XS.irem X0.here hx rfl (hb hby d2_17) rfl hp2 hr) ?_
    show Go p.tables e below _ (s₁.setTop (mkF m 18 #[.val (.long q1), .second, .val (.int p2), .val (.int (q1.toInt32))] [(.int ((((q1.toInt32).toUInt32 >>> ((1 : Int32) &&& 31).toUInt32).toInt32) - ((((q1.toInt32).toUInt32 >>> ((1 : Int32) &&& 31).toUInt32).toInt32) / p2) * p2))]))
    exact own_retO X0 hx Bd.notSynchronized (t := .int) Bd.returns rfl (Or.inl ⟨rfl, Or.inl rfl, _, rfl⟩) (hb hby d2_18) ⟨congrArg (fun z => some (Value.int z)) (if_pos hc6_1).symm, N0, e0⟩ (by decide) (by decide)
  · refine Go.st (fun U hr => XS.ifNo X0.here hx rfl (hb hby d2_6) rfl ((if0 _ _).trans (feq hc6_1).1) hr) ?_
    show Go p.tables e below _ (s₁.setTop (mkF m 9 #[.val (.long q1), .second, .val (.int p2), .val (.int (q1.toInt32))] []))
    refine Go.st (fun U hr => XS.iloadN X0.here hx rfl (hb hby d2_9) rfl hr) ?_
    show Go p.tables e below _ (s₁.setTop (mkF m 10 #[.val (.long q1), .second, .val (.int p2), .val (.int (q1.toInt32))] [(.int p2)]))
    refine Go.st (fun U hr => XS.iconst X0.here hx rfl (hb hby d2_10) hr) ?_
    show Go p.tables e below _ (s₁.setTop (mkF m 11 #[.val (.long q1), .second, .val (.int p2), .val (.int (q1.toInt32))] [(.int (1 : Int32)), (.int p2)]))
    refine Go.st (fun U hr => XS.isub X0.here hx rfl (hb hby d2_11) rfl hr) ?_
    show Go p.tables e below _ (s₁.setTop (mkF m 12 #[.val (.long q1), .second, .val (.int p2), .val (.int (q1.toInt32))] [(.int (p2 - (1 : Int32)))]))
    exact own_retO X0 hx Bd.notSynchronized (t := .int) Bd.returns rfl (Or.inl ⟨rfl, Or.inl rfl, _, rfl⟩) (hb hby d2_12) ⟨congrArg (fun z => some (Value.int z)) (if_neg hc6_1).symm, N0, e0⟩ (by decide) (by decide)
theorem d3_0 : decode method_4_code 0 = .ok (.iload_n 0, 1) := by decide +kernel
theorem d3_1 : decode method_4_code 1 = .ok (.ifCond .ne 5, 3) := by decide +kernel
theorem d3_4 : decode method_4_code 4 = .ok (.iload_n 2, 1) := by decide +kernel
theorem d3_5 : decode method_4_code 5 = .ok (.ireturn, 1) := by decide +kernel
theorem d3_6 : decode method_4_code 6 = .ok (.iload_n 1, 1) := by decide +kernel
theorem d3_7 : decode method_4_code 7 = .ok (.ifCond .eq 5, 3) := by decide +kernel
theorem d3_10 : decode method_4_code 10 = .ok (.iconst 0, 1) := by decide +kernel
theorem d3_11 : decode method_4_code 11 = .ok (.ireturn, 1) := by decide +kernel
theorem d3_12 : decode method_4_code 12 = .ok (.iload_n 2, 1) := by decide +kernel
theorem d3_13 : decode method_4_code 13 = .ok (.iconst 1, 1) := by decide +kernel
theorem d3_14 : decode method_4_code 14 = .ok (.iadd, 1) := by decide +kernel
theorem d3_15 : decode method_4_code 15 = .ok (.ireturn, 1) := by decide +kernel
theorem pn_3 : plainFor (⟨"com/example/klipspringer/klipspringer/ChoicesAdvancePinLaw", "expect", "(ZZI)I"⟩ : MethodName) = true := plainFor_of_name (by first | (simp [plainName, overriddenIn]; done) | decide +kernel)
theorem ef_3 (m : MethodId) (x0 : Int32) (x1 : Int32) (x2 : Int32) : entryFrame m #[(.int x0), (.int x1), (.int x2)] 3 = mkF m 0 #[.val (.int x0), .val (.int x1), .val (.int x2)] [] := by first | (simp [entryFrame, mkF, argsToLocals, Value.category]; done) | rfl
def Q3 (Z : State) (p1 : Int32) (p2 : Int32) (p3 : Int32)  (h0 : Heap) (n0 : Nat) (v : Option Value) (h : Heap) (L : List Loc) : Prop := v = some (.int (own_expect p1 p2 p3)) ∧ Fr n0 L ∧ h = h0
set_option maxRecDepth 65536 in
set_option maxHeartbeats 40000000 in
theorem rm3 (l : Launch) (Z : State) (a0 : Array Value) (hw : ∀ d ∈ tables_1, d.before a0 Z = true) (ws : List Jvm.Cond) (p1 : Int32) (p2 : Int32) (p3 : Int32)  (h0 : Heap) (n0 : Nat) (Z0 : n0 ≤ h0.size) :
    MetFree l (⟨"com/example/klipspringer/klipspringer/ChoicesAdvancePinLaw", "expect", "(ZZI)I"⟩ : MethodName) (head1 (Jvm.Cond.code (⟨"com/example/klipspringer/klipspringer/ChoicesAdvancePinLaw", "expect", "(ZZI)I"⟩ : MethodName) method_4_code 3 (some .int) :: ws) ({ frames := 0, cells := 0, slots := 0, locals := 0 } : Room)) (fun a U => a = #[(.int p1), (.int p2), (.int p3)] ∧ Z.Warmed39 U.vm ∧ U.heap = h0) (fun _ _ _ _ _ => True) (fun _ U o U' => ∃ v L, o = .returned v ∧ Q3 Z p1 p2 p3 h0 n0 v U'.heap L ∧ FrameEnd U o U' L ({ frames := 0, cells := 0, slots := 0, locals := 0 } : Room).cells ({ frames := 0, cells := 0, slots := 0, locals := 0 } : Room).slots) := by
  refine MetFree.of_bodySF pn_3 hisR ?_
  intro p e s m args below meth c s₁ Bd hml0 hP hK
  obtain ⟨rfl, hZ, hh⟩ := hP
  have hx := Bd.exec
  have hby := Bd.bytes
  have hml : c.maxLocals = 3 := hml0
  have hown : s.vm.findClass "com/example/klipspringer/klipspringer/ChoicesAdvancePinLaw" = some m.cls := findClass_of_methodNamed Bd.named
  have hnm := (name_of_methodNamed Bd.named Bd.method).1
  have X0 : Stand p l e ({ frames := 0, cells := 0, slots := 0, locals := 0 } : Room) s m #[(.int p1), (.int p2), (.int p3)] below meth c s₁ [] 0 0 := Stand.of_body Bd
  have e0 : s₁.heap = h0 := by rw [← hh, Bd.state]; rfl
  have N0 := Fr.nil n0
  refine own_start (Q := Q3 Z p1 p2 p3 h0 n0) (own_cast (ef_3 m p1 p2 p3) ?_)
  show Go p.tables e below _ (s₁.setTop (mkF m 0 #[.val (.int p1), .val (.int p2), .val (.int p3)] []))
  refine Go.st (fun U hr => XS.iloadN X0.here hx rfl (hb hby d3_0) rfl hr) ?_
  show Go p.tables e below _ (s₁.setTop (mkF m 1 #[.val (.int p1), .val (.int p2), .val (.int p3)] [(.int p1)]))
  by_cases hc1_1 : p1 = (0 : Int32)
  · refine Go.st (fun U hr => XS.ifNo X0.here hx rfl (hb hby d3_1) rfl ((if0 _ _).trans (teq hc1_1).2) hr) ?_
    show Go p.tables e below _ (s₁.setTop (mkF m 4 #[.val (.int p1), .val (.int p2), .val (.int p3)] []))
    refine Go.st (fun U hr => XS.iloadN X0.here hx rfl (hb hby d3_4) rfl hr) ?_
    show Go p.tables e below _ (s₁.setTop (mkF m 5 #[.val (.int p1), .val (.int p2), .val (.int p3)] [(.int p3)]))
    exact own_retO X0 hx Bd.notSynchronized (t := .int) Bd.returns rfl (Or.inl ⟨rfl, Or.inl rfl, _, rfl⟩) (hb hby d3_5) ⟨by simp [own_expect, hc1_1], N0, e0⟩ (by decide) (by decide)
  · refine Go.st (fun U hr => XS.ifYes X0.here hx rfl (pc0 := 1) (pc' := 6) rfl (hb hby d3_1) rfl ((if0 _ _).trans (feq hc1_1).2) (by decide) (by decide) hr) ?_
    show Go p.tables e below _ (s₁.setTop (mkF m 6 #[.val (.int p1), .val (.int p2), .val (.int p3)] []))
    refine Go.st (fun U hr => XS.iloadN X0.here hx rfl (hb hby d3_6) rfl hr) ?_
    show Go p.tables e below _ (s₁.setTop (mkF m 7 #[.val (.int p1), .val (.int p2), .val (.int p3)] [(.int p2)]))
    by_cases hc7_2 : p2 = (0 : Int32)
    · refine Go.st (fun U hr => XS.ifYes X0.here hx rfl (pc0 := 7) (pc' := 12) rfl (hb hby d3_7) rfl ((if0 _ _).trans (teq hc7_2).1) (by decide) (by decide) hr) ?_
      show Go p.tables e below _ (s₁.setTop (mkF m 12 #[.val (.int p1), .val (.int p2), .val (.int p3)] []))
      refine Go.st (fun U hr => XS.iloadN X0.here hx rfl (hb hby d3_12) rfl hr) ?_
      show Go p.tables e below _ (s₁.setTop (mkF m 13 #[.val (.int p1), .val (.int p2), .val (.int p3)] [(.int p3)]))
      refine Go.st (fun U hr => XS.iconst X0.here hx rfl (hb hby d3_13) hr) ?_
      show Go p.tables e below _ (s₁.setTop (mkF m 14 #[.val (.int p1), .val (.int p2), .val (.int p3)] [(.int (1 : Int32)), (.int p3)]))
      refine Go.st (fun U hr => XS.iadd X0.here hx rfl (hb hby d3_14) rfl hr) ?_
      show Go p.tables e below _ (s₁.setTop (mkF m 15 #[.val (.int p1), .val (.int p2), .val (.int p3)] [(.int (p3 + (1 : Int32)))]))
      exact own_retO X0 hx Bd.notSynchronized (t := .int) Bd.returns rfl (Or.inl ⟨rfl, Or.inl rfl, _, rfl⟩) (hb hby d3_15) ⟨by simp [own_expect, hc1_1, hc7_2], N0, e0⟩ (by decide) (by decide)
    · refine Go.st (fun U hr => XS.ifNo X0.here hx rfl (hb hby d3_7) rfl ((if0 _ _).trans (feq hc7_2).1) hr) ?_
      show Go p.tables e below _ (s₁.setTop (mkF m 10 #[.val (.int p1), .val (.int p2), .val (.int p3)] []))
      refine Go.st (fun U hr => XS.iconst X0.here hx rfl (hb hby d3_10) hr) ?_
      show Go p.tables e below _ (s₁.setTop (mkF m 11 #[.val (.int p1), .val (.int p2), .val (.int p3)] [(.int (0 : Int32))]))
      exact own_retO X0 hx Bd.notSynchronized (t := .int) Bd.returns rfl (Or.inl ⟨rfl, Or.inl rfl, _, rfl⟩) (hb hby d3_11) ⟨by simp [own_expect, hc1_1, hc7_2], N0, e0⟩ (by decide) (by decide)
theorem d4_0 : decode prog_7_method_2_code 0 = .ok (.iconst 0, 1) := by decide +kernel
theorem d4_1 : decode prog_7_method_2_code 1 = .ok (.istore_n 2, 1) := by decide +kernel
theorem d4_2 : decode prog_7_method_2_code 2 = .ok (.aload_n 0, 1) := by decide +kernel
theorem d4_3 : decode prog_7_method_2_code 3 = .ok (.arraylength, 1) := by decide +kernel
theorem d4_4 : decode prog_7_method_2_code 4 = .ok (.iconst 1, 1) := by decide +kernel
theorem d4_5 : decode prog_7_method_2_code 5 = .ok (.isub, 1) := by decide +kernel
theorem d4_6 : decode prog_7_method_2_code 6 = .ok (.istore_n 3, 1) := by decide +kernel
theorem d4_7 : decode prog_7_method_2_code 7 = .ok (.iload_n 3, 1) := by decide +kernel
theorem d4_8 : decode prog_7_method_2_code 8 = .ok (.ifCond .lt 37, 3) := by decide +kernel
theorem d4_11 : decode prog_7_method_2_code 11 = .ok (.iload_n 2, 1) := by decide +kernel
theorem d4_12 : decode prog_7_method_2_code 12 = .ok (.ifCond .ne 33, 3) := by decide +kernel
theorem d4_15 : decode prog_7_method_2_code 15 = .ok (.aload_n 0, 1) := by decide +kernel
theorem d4_16 : decode prog_7_method_2_code 16 = .ok (.iload_n 3, 1) := by decide +kernel
theorem d4_17 : decode prog_7_method_2_code 17 = .ok (.aload_n 0, 1) := by decide +kernel
theorem d4_18 : decode prog_7_method_2_code 18 = .ok (.iload_n 3, 1) := by decide +kernel
theorem d4_19 : decode prog_7_method_2_code 19 = .ok (.iaload, 1) := by decide +kernel
theorem d4_20 : decode prog_7_method_2_code 20 = .ok (.iconst 1, 1) := by decide +kernel
theorem d4_21 : decode prog_7_method_2_code 21 = .ok (.iadd, 1) := by decide +kernel
theorem d4_22 : decode prog_7_method_2_code 22 = .ok (.aload_n 1, 1) := by decide +kernel
theorem d4_23 : decode prog_7_method_2_code 23 = .ok (.iload_n 3, 1) := by decide +kernel
theorem d4_24 : decode prog_7_method_2_code 24 = .ok (.iaload, 1) := by decide +kernel
theorem d4_25 : decode prog_7_method_2_code 25 = .ok (.irem, 1) := by decide +kernel
theorem d4_26 : decode prog_7_method_2_code 26 = .ok (.iastore, 1) := by decide +kernel
theorem d4_27 : decode prog_7_method_2_code 27 = .ok (.aload_n 0, 1) := by decide +kernel
theorem d4_28 : decode prog_7_method_2_code 28 = .ok (.iload_n 3, 1) := by decide +kernel
theorem d4_29 : decode prog_7_method_2_code 29 = .ok (.iaload, 1) := by decide +kernel
theorem d4_30 : decode prog_7_method_2_code 30 = .ok (.ifCond .eq 7, 3) := by decide +kernel
theorem d4_33 : decode prog_7_method_2_code 33 = .ok (.iconst 1, 1) := by decide +kernel
theorem d4_34 : decode prog_7_method_2_code 34 = .ok (.goto 4, 3) := by decide +kernel
theorem d4_37 : decode prog_7_method_2_code 37 = .ok (.iconst 0, 1) := by decide +kernel
theorem d4_38 : decode prog_7_method_2_code 38 = .ok (.istore_n 2, 1) := by decide +kernel
theorem d4_39 : decode prog_7_method_2_code 39 = .ok (.iinc 3 (-1), 3) := by decide +kernel
theorem d4_42 : decode prog_7_method_2_code 42 = .ok (.goto (-35), 3) := by decide +kernel
theorem d4_45 : decode prog_7_method_2_code 45 = .ok (.iload_n 2, 1) := by decide +kernel
theorem d4_46 : decode prog_7_method_2_code 46 = .ok (.ireturn, 1) := by decide +kernel
theorem pn_4 : plainFor (⟨"com/example/klipspringer/klipspringer/Choices", "advance", "([I[I)Z"⟩ : MethodName) = true := plainFor_of_name (by first | (simp [plainName, overriddenIn]; done) | decide +kernel)
theorem ef_4 (m : MethodId) (x0 : Addr) (x1 : Addr) : entryFrame m #[(.ref x0), (.ref x1)] 4 = mkF m 0 #[.val (.ref x0), .val (.ref x1), .unset, .unset] [] := by first | (simp [entryFrame, mkF, argsToLocals, Value.category]; done) | rfl
def Q4 (Z : State) (a1 : Addr) (a2 : Addr) (ka : ClassId) (kb : ClassId) (nn : Int32) (x0 : Int32) (x1 : Int32) (x2 : Int32) (c0 : Int32) (c1 : Int32) (c2 : Int32) (h0 : Heap) (n0 : Nat) (v : Option Value) (h : Heap) (L : List Loc) : Prop := v = some (.int (own_r nn x0 x1 x2 c0 c1 c2)) ∧ Fr n0 L ∧ Keep h0 h [a1] ∧ Arv Z h a1 ka .int nn [(.int (own_y0 nn x0 x1 x2 c0 c1 c2)), (.int (own_y1 nn x0 x1 x2 c0 c1 c2)), (.int (own_y2 nn x0 x1 x2 c0 c1 c2))] (.int (0 : Int32))
set_option maxRecDepth 65536 in
set_option maxHeartbeats 40000000 in
theorem rm4 (l : Launch) (Z : State) (a0 : Array Value) (hw : ∀ d ∈ tables_1, d.before a0 Z = true) (ws : List Jvm.Cond) (a1 : Addr) (a2 : Addr) (ka : ClassId) (kb : ClassId) (nn : Int32) (x0 : Int32) (x1 : Int32) (x2 : Int32) (c0 : Int32) (c1 : Int32) (c2 : Int32) (h0 : Heap) (n0 : Nat) (Z0 : n0 ≤ h0.size) (V1 : Arv Z h0 a1 ka .int nn [(.int x0), (.int x1), (.int x2)] (.int (0 : Int32))) (V2 : Arv Z h0 a2 kb .int nn [(.int c0), (.int c1), (.int c2)] (.int (0 : Int32))) (ne12 : a2 ≠ a1) (g1 : n0 ≤ a1) (hn : nn = 0 ∨ nn = 1 ∨ nn = 2 ∨ nn = 3) (hx0 : 0 ≤ x0.toInt ∧ x0.toInt < c0.toInt) (hx1 : 0 ≤ x1.toInt ∧ x1.toInt < c1.toInt) (hx2 : 0 ≤ x2.toInt ∧ x2.toInt < c2.toInt) (hc0 : c0 ≠ 0) (hc1 : c1 ≠ 0) (hc2 : c2 ≠ 0) :
    MetFree l (⟨"com/example/klipspringer/klipspringer/Choices", "advance", "([I[I)Z"⟩ : MethodName) (head1 (Jvm.Cond.code (⟨"com/example/klipspringer/klipspringer/Choices", "advance", "([I[I)Z"⟩ : MethodName) prog_7_method_2_code 4 (some .boolean) :: ws) ({ frames := 0, cells := 0, slots := 0, locals := 0 } : Room)) (fun a U => a = #[(.ref a1), (.ref a2)] ∧ Z.Warmed39 U.vm ∧ U.heap = h0) (fun _ _ _ _ _ => True) (fun _ U o U' => ∃ v L, o = .returned v ∧ Q4 Z a1 a2 ka kb nn x0 x1 x2 c0 c1 c2 h0 n0 v U'.heap L ∧ FrameEnd U o U' L ({ frames := 0, cells := 0, slots := 0, locals := 0 } : Room).cells ({ frames := 0, cells := 0, slots := 0, locals := 0 } : Room).slots) := by
  refine MetFree.of_bodySF pn_4 hisR ?_
  intro p e s m args below meth c s₁ Bd hml0 hP hK
  obtain ⟨rfl, hZ, hh⟩ := hP
  have hx := Bd.exec
  have hby := Bd.bytes
  have hml : c.maxLocals = 4 := hml0
  have hown : s.vm.findClass "com/example/klipspringer/klipspringer/Choices" = some m.cls := findClass_of_methodNamed Bd.named
  have hnm := (name_of_methodNamed Bd.named Bd.method).1
  have X0 : Stand p l e ({ frames := 0, cells := 0, slots := 0, locals := 0 } : Room) s m #[(.ref a1), (.ref a2)] below meth c s₁ [] 0 0 := Stand.of_body Bd
  have e0 : s₁.heap = h0 := by rw [← hh, Bd.state]; rfl
  have N0 := Fr.nil n0
  refine own_start (Q := Q4 Z a1 a2 ka kb nn x0 x1 x2 c0 c1 c2 h0 n0) (own_cast (ef_4 m a1 a2) ?_)
  show Go p.tables e below _ (s₁.setTop (mkF m 0 #[.val (.ref a1), .val (.ref a2), .unset, .unset] []))
  rcases hn with rfl | rfl | rfl | rfl
  · show Go p.tables e below _ (s₁.setTop (mkF m 0 #[.val (.ref a1), .val (.ref a2), .unset, .unset] []))
    refine Go.st (fun U hr => XS.iconst X0.here hx rfl (hb hby d4_0) hr) ?_
    show Go p.tables e below _ (s₁.setTop (mkF m 1 #[.val (.ref a1), .val (.ref a2), .unset, .unset] [(.int (0 : Int32))]))
    refine Go.st (fun U hr => XS.istoreN X0.here hx rfl (hb hby d4_1) rfl (l' := #[.val (.ref a1), .val (.ref a2), .val (.int (0 : Int32)), .unset]) rfl hr) ?_
    show Go p.tables e below _ (s₁.setTop (mkF m 2 #[.val (.ref a1), .val (.ref a2), .val (.int (0 : Int32)), .unset] []))
    refine Go.st (fun U hr => XS.aloadN X0.here hx rfl (hb hby d4_2) rfl rfl hr) ?_
    show Go p.tables e below _ (s₁.setTop (mkF m 3 #[.val (.ref a1), .val (.ref a2), .val (.int (0 : Int32)), .unset] [(.ref a1)]))
    obtain ⟨cl1, Ar1, qa1, Sa1, Na1, Ha1, Ga1⟩ := id V1
    refine Go.st (X0.arraylength hx (by rw [e0]; exact Ar1.1) (State.isArrayOf_alike hZ.alike Ar1.2.1) (g := (mkF m 3 #[.val (.ref a1), .val (.ref a2), .val (.int (0 : Int32)), .unset] [(.ref a1)])) rfl rfl (hb hby d4_3)) ?_
    rw [len_of Sa1 Na1]
    show Go p.tables e below _ (s₁.setTop (mkF m 4 #[.val (.ref a1), .val (.ref a2), .val (.int (0 : Int32)), .unset] [(.int (0 : Int32))]))
    refine Go.st (fun U hr => XS.iconst X0.here hx rfl (hb hby d4_4) hr) ?_
    show Go p.tables e below _ (s₁.setTop (mkF m 5 #[.val (.ref a1), .val (.ref a2), .val (.int (0 : Int32)), .unset] [(.int (1 : Int32)), (.int (0 : Int32))]))
    refine Go.st (fun U hr => XS.isub X0.here hx rfl (hb hby d4_5) rfl hr) ?_
    show Go p.tables e below _ (s₁.setTop (mkF m 6 #[.val (.ref a1), .val (.ref a2), .val (.int (0 : Int32)), .unset] [(.int ((0 : Int32) - (1 : Int32)))]))
    refine Go.st (fun U hr => XS.istoreN X0.here hx rfl (hb hby d4_6) rfl (l' := #[.val (.ref a1), .val (.ref a2), .val (.int (0 : Int32)), .val (.int ((0 : Int32) - (1 : Int32)))]) rfl hr) ?_
    show Go p.tables e below _ (s₁.setTop (mkF m 7 #[.val (.ref a1), .val (.ref a2), .val (.int (0 : Int32)), .val (.int ((0 : Int32) - (1 : Int32)))] []))
    rw [show ((0 : Int32) - (1 : Int32)) = (-1 : Int32) from by decide]
    show Go p.tables e below _ (s₁.setTop (mkF m 7 #[.val (.ref a1), .val (.ref a2), .val (.int (0 : Int32)), .val (.int (-1 : Int32))] []))
    refine Go.st (fun U hr => XS.iloadN X0.here hx rfl (hb hby d4_7) rfl hr) ?_
    show Go p.tables e below _ (s₁.setTop (mkF m 8 #[.val (.ref a1), .val (.ref a2), .val (.int (0 : Int32)), .val (.int (-1 : Int32))] [(.int (-1 : Int32))]))
    refine Go.st (fun U hr => XS.ifYes X0.here hx rfl (pc0 := 8) (pc' := 45) rfl (hb hby d4_8) rfl (by decide) (by decide) (by decide) hr) ?_
    show Go p.tables e below _ (s₁.setTop (mkF m 45 #[.val (.ref a1), .val (.ref a2), .val (.int (0 : Int32)), .val (.int (-1 : Int32))] []))
    refine Go.st (fun U hr => XS.iloadN X0.here hx rfl (hb hby d4_45) rfl hr) ?_
    show Go p.tables e below _ (s₁.setTop (mkF m 46 #[.val (.ref a1), .val (.ref a2), .val (.int (0 : Int32)), .val (.int (-1 : Int32))] [(.int (0 : Int32))]))
    have er : (0 : Int32) = own_r (0 : Int32) x0 x1 x2 c0 c1 c2 := by simp +decide [own_r, ]
    have ey0 : x0 = own_y0 (0 : Int32) x0 x1 x2 c0 c1 c2 := by simp +decide [own_y0, ]
    have ey1 : x1 = own_y1 (0 : Int32) x0 x1 x2 c0 c1 c2 := by simp +decide [own_y1, ]
    have ey2 : x2 = own_y2 (0 : Int32) x0 x1 x2 c0 c1 c2 := by simp +decide [own_y2, ]
    have eV : Arv Z h0 a1 ka .int (0 : Int32) [(.int x0), (.int x1), (.int x2)] (.int (0 : Int32)) := V1
    exact own_retN X0 hx Bd.notSynchronized (t := .boolean) Bd.returns (by simp) (hb hby d4_46) (by rw [e0]; refine ⟨by rw [← er]; rfl, N0, (Keep.refl h0 [a1]), ?_⟩; rw [← ey0, ← ey1, ← ey2]; exact eV) (by decide) (by decide)
  · show Go p.tables e below _ (s₁.setTop (mkF m 0 #[.val (.ref a1), .val (.ref a2), .unset, .unset] []))
    refine Go.st (fun U hr => XS.iconst X0.here hx rfl (hb hby d4_0) hr) ?_
    show Go p.tables e below _ (s₁.setTop (mkF m 1 #[.val (.ref a1), .val (.ref a2), .unset, .unset] [(.int (0 : Int32))]))
    refine Go.st (fun U hr => XS.istoreN X0.here hx rfl (hb hby d4_1) rfl (l' := #[.val (.ref a1), .val (.ref a2), .val (.int (0 : Int32)), .unset]) rfl hr) ?_
    show Go p.tables e below _ (s₁.setTop (mkF m 2 #[.val (.ref a1), .val (.ref a2), .val (.int (0 : Int32)), .unset] []))
    refine Go.st (fun U hr => XS.aloadN X0.here hx rfl (hb hby d4_2) rfl rfl hr) ?_
    show Go p.tables e below _ (s₁.setTop (mkF m 3 #[.val (.ref a1), .val (.ref a2), .val (.int (0 : Int32)), .unset] [(.ref a1)]))
    obtain ⟨cl2, Ar2, qa2, Sa2, Na2, Ha2, Ga2⟩ := id V1
    refine Go.st (X0.arraylength hx (by rw [e0]; exact Ar2.1) (State.isArrayOf_alike hZ.alike Ar2.2.1) (g := (mkF m 3 #[.val (.ref a1), .val (.ref a2), .val (.int (0 : Int32)), .unset] [(.ref a1)])) rfl rfl (hb hby d4_3)) ?_
    rw [len_of Sa2 Na2]
    show Go p.tables e below _ (s₁.setTop (mkF m 4 #[.val (.ref a1), .val (.ref a2), .val (.int (0 : Int32)), .unset] [(.int (1 : Int32))]))
    refine Go.st (fun U hr => XS.iconst X0.here hx rfl (hb hby d4_4) hr) ?_
    show Go p.tables e below _ (s₁.setTop (mkF m 5 #[.val (.ref a1), .val (.ref a2), .val (.int (0 : Int32)), .unset] [(.int (1 : Int32)), (.int (1 : Int32))]))
    refine Go.st (fun U hr => XS.isub X0.here hx rfl (hb hby d4_5) rfl hr) ?_
    show Go p.tables e below _ (s₁.setTop (mkF m 6 #[.val (.ref a1), .val (.ref a2), .val (.int (0 : Int32)), .unset] [(.int ((1 : Int32) - (1 : Int32)))]))
    refine Go.st (fun U hr => XS.istoreN X0.here hx rfl (hb hby d4_6) rfl (l' := #[.val (.ref a1), .val (.ref a2), .val (.int (0 : Int32)), .val (.int ((1 : Int32) - (1 : Int32)))]) rfl hr) ?_
    show Go p.tables e below _ (s₁.setTop (mkF m 7 #[.val (.ref a1), .val (.ref a2), .val (.int (0 : Int32)), .val (.int ((1 : Int32) - (1 : Int32)))] []))
    rw [show ((1 : Int32) - (1 : Int32)) = (0 : Int32) from by decide]
    show Go p.tables e below _ (s₁.setTop (mkF m 7 #[.val (.ref a1), .val (.ref a2), .val (.int (0 : Int32)), .val (.int (0 : Int32))] []))
    refine Go.st (fun U hr => XS.iloadN X0.here hx rfl (hb hby d4_7) rfl hr) ?_
    show Go p.tables e below _ (s₁.setTop (mkF m 8 #[.val (.ref a1), .val (.ref a2), .val (.int (0 : Int32)), .val (.int (0 : Int32))] [(.int (0 : Int32))]))
    refine Go.st (fun U hr => XS.ifNo X0.here hx rfl (hb hby d4_8) rfl (by decide) hr) ?_
    show Go p.tables e below _ (s₁.setTop (mkF m 11 #[.val (.ref a1), .val (.ref a2), .val (.int (0 : Int32)), .val (.int (0 : Int32))] []))
    refine Go.st (fun U hr => XS.iloadN X0.here hx rfl (hb hby d4_11) rfl hr) ?_
    show Go p.tables e below _ (s₁.setTop (mkF m 12 #[.val (.ref a1), .val (.ref a2), .val (.int (0 : Int32)), .val (.int (0 : Int32))] [(.int (0 : Int32))]))
    refine Go.st (fun U hr => XS.ifNo X0.here hx rfl (hb hby d4_12) rfl (by decide) hr) ?_
    show Go p.tables e below _ (s₁.setTop (mkF m 15 #[.val (.ref a1), .val (.ref a2), .val (.int (0 : Int32)), .val (.int (0 : Int32))] []))
    refine Go.st (fun U hr => XS.aloadN X0.here hx rfl (hb hby d4_15) rfl rfl hr) ?_
    show Go p.tables e below _ (s₁.setTop (mkF m 16 #[.val (.ref a1), .val (.ref a2), .val (.int (0 : Int32)), .val (.int (0 : Int32))] [(.ref a1)]))
    refine Go.st (fun U hr => XS.iloadN X0.here hx rfl (hb hby d4_16) rfl hr) ?_
    show Go p.tables e below _ (s₁.setTop (mkF m 17 #[.val (.ref a1), .val (.ref a2), .val (.int (0 : Int32)), .val (.int (0 : Int32))] [(.int (0 : Int32)), (.ref a1)]))
    refine Go.st (fun U hr => XS.aloadN X0.here hx rfl (hb hby d4_17) rfl rfl hr) ?_
    show Go p.tables e below _ (s₁.setTop (mkF m 18 #[.val (.ref a1), .val (.ref a2), .val (.int (0 : Int32)), .val (.int (0 : Int32))] [(.ref a1), (.int (0 : Int32)), (.ref a1)]))
    refine Go.st (fun U hr => XS.iloadN X0.here hx rfl (hb hby d4_18) rfl hr) ?_
    show Go p.tables e below _ (s₁.setTop (mkF m 19 #[.val (.ref a1), .val (.ref a2), .val (.int (0 : Int32)), .val (.int (0 : Int32))] [(.int (0 : Int32)), (.ref a1), (.int (0 : Int32)), (.ref a1)]))
    obtain ⟨cl3, Ar3, qa3, Sa3, Na3, Ha3, Ga3⟩ := id V1
    have hin3 : ¬ ((0 : Int32) < 0 ∨ cl3.slots.size ≤ ((0 : Int32)).toNatClampNeg) := inb_of Sa3 ⟨by decide, by decide⟩
    refine Go.st (X0.iaload hx (j := (0 : Int32)) (v := (.int x0)) (by rw [e0]; exact Ar3.1) (State.isArrayOf_alike hZ.alike Ar3.2.1) Ar3.2.2 hin3 (Ha3.at hin3 rfl) (g := (mkF m 19 #[.val (.ref a1), .val (.ref a2), .val (.int (0 : Int32)), .val (.int (0 : Int32))] [(.int (0 : Int32)), (.ref a1), (.int (0 : Int32)), (.ref a1)])) rfl rfl (hb hby d4_19)) ?_
    show Go p.tables e below _ (s₁.setTop (mkF m 20 #[.val (.ref a1), .val (.ref a2), .val (.int (0 : Int32)), .val (.int (0 : Int32))] [(.int x0), (.int (0 : Int32)), (.ref a1)]))
    refine Go.st (fun U hr => XS.iconst X0.here hx rfl (hb hby d4_20) hr) ?_
    show Go p.tables e below _ (s₁.setTop (mkF m 21 #[.val (.ref a1), .val (.ref a2), .val (.int (0 : Int32)), .val (.int (0 : Int32))] [(.int (1 : Int32)), (.int x0), (.int (0 : Int32)), (.ref a1)]))
    refine Go.st (fun U hr => XS.iadd X0.here hx rfl (hb hby d4_21) rfl hr) ?_
    show Go p.tables e below _ (s₁.setTop (mkF m 22 #[.val (.ref a1), .val (.ref a2), .val (.int (0 : Int32)), .val (.int (0 : Int32))] [(.int (x0 + (1 : Int32))), (.int (0 : Int32)), (.ref a1)]))
    refine Go.st (fun U hr => XS.aloadN X0.here hx rfl (hb hby d4_22) rfl rfl hr) ?_
    show Go p.tables e below _ (s₁.setTop (mkF m 23 #[.val (.ref a1), .val (.ref a2), .val (.int (0 : Int32)), .val (.int (0 : Int32))] [(.ref a2), (.int (x0 + (1 : Int32))), (.int (0 : Int32)), (.ref a1)]))
    refine Go.st (fun U hr => XS.iloadN X0.here hx rfl (hb hby d4_23) rfl hr) ?_
    show Go p.tables e below _ (s₁.setTop (mkF m 24 #[.val (.ref a1), .val (.ref a2), .val (.int (0 : Int32)), .val (.int (0 : Int32))] [(.int (0 : Int32)), (.ref a2), (.int (x0 + (1 : Int32))), (.int (0 : Int32)), (.ref a1)]))
    obtain ⟨cl4, Ar4, qa4, Sa4, Na4, Ha4, Ga4⟩ := id V2
    have hin4 : ¬ ((0 : Int32) < 0 ∨ cl4.slots.size ≤ ((0 : Int32)).toNatClampNeg) := inb_of Sa4 ⟨by decide, by decide⟩
    refine Go.st (X0.iaload hx (j := (0 : Int32)) (v := (.int c0)) (by rw [e0]; exact Ar4.1) (State.isArrayOf_alike hZ.alike Ar4.2.1) Ar4.2.2 hin4 (Ha4.at hin4 rfl) (g := (mkF m 24 #[.val (.ref a1), .val (.ref a2), .val (.int (0 : Int32)), .val (.int (0 : Int32))] [(.int (0 : Int32)), (.ref a2), (.int (x0 + (1 : Int32))), (.int (0 : Int32)), (.ref a1)])) rfl rfl (hb hby d4_24)) ?_
    show Go p.tables e below _ (s₁.setTop (mkF m 25 #[.val (.ref a1), .val (.ref a2), .val (.int (0 : Int32)), .val (.int (0 : Int32))] [(.int c0), (.int (x0 + (1 : Int32))), (.int (0 : Int32)), (.ref a1)]))
    refine Go.st (fun U hr => XS.irem X0.here hx rfl (hb hby d4_25) rfl (by assumption) hr) ?_
    show Go p.tables e below _ (s₁.setTop (mkF m 26 #[.val (.ref a1), .val (.ref a2), .val (.int (0 : Int32)), .val (.int (0 : Int32))] [(.int ((x0 + (1 : Int32)) - ((x0 + (1 : Int32)) / c0) * c0)), (.int (0 : Int32)), (.ref a1)]))
    rw [own_inc_eq x0 c0 hx0]
    show Go p.tables e below _ (s₁.setTop (mkF m 26 #[.val (.ref a1), .val (.ref a2), .val (.int (0 : Int32)), .val (.int (0 : Int32))] [(.int (own_inc x0 c0)), (.int (0 : Int32)), (.ref a1)]))
    obtain ⟨cl5, Ar5, qa5, Sa5, Na5, Ha5, Ga5⟩ := id V1
    have hin5 : ¬ ((0 : Int32) < 0 ∨ cl5.slots.size ≤ ((0 : Int32)).toNatClampNeg) := inb_of Sa5 ⟨by decide, by decide⟩
    obtain ⟨T6, h6, X6, e6, W6, st6⟩ := stI X0 hx hZ e0 Ar5 (j := (0 : Int32)) hin5 (g := (mkF m 26 #[.val (.ref a1), .val (.ref a2), .val (.int (0 : Int32)), .val (.int (0 : Int32))] [(.int (own_inc x0 c0)), (.int (0 : Int32)), (.ref a1)])) rfl rfl (hb hby d4_26)
    refine Go.st st6 ?_
    have V6 := Arv.set Ar5 qa5 Sa5 Na5 Ha5 Ga5 rfl W6 0 rfl (Nat.le_of_ble_eq_true rfl)
    have k7 := ((Keep.refl h0 [a1])).wr W6 (Or.inl (List.mem_of_getElem? (i := 0) rfl))
    have f9 := (V2).other W6 ne12
    have z10 := Nat.le_trans Z0 (Keep.of_wr W6).1
    have N6 := Fr.snoc X6 N0 g1
    show Go p.tables e below _ (T6.setTop (mkF m 27 #[.val (.ref a1), .val (.ref a2), .val (.int (0 : Int32)), .val (.int (0 : Int32))] []))
    refine Go.st (fun U hr => XS.aloadN X6.here hx rfl (hb hby d4_27) rfl rfl hr) ?_
    show Go p.tables e below _ (T6.setTop (mkF m 28 #[.val (.ref a1), .val (.ref a2), .val (.int (0 : Int32)), .val (.int (0 : Int32))] [(.ref a1)]))
    refine Go.st (fun U hr => XS.iloadN X6.here hx rfl (hb hby d4_28) rfl hr) ?_
    show Go p.tables e below _ (T6.setTop (mkF m 29 #[.val (.ref a1), .val (.ref a2), .val (.int (0 : Int32)), .val (.int (0 : Int32))] [(.int (0 : Int32)), (.ref a1)]))
    obtain ⟨cl11, Ar11, qa11, Sa11, Na11, Ha11, Ga11⟩ := id V6
    have hin11 : ¬ ((0 : Int32) < 0 ∨ cl11.slots.size ≤ ((0 : Int32)).toNatClampNeg) := inb_of Sa11 ⟨by decide, by decide⟩
    refine Go.st (X6.iaload hx (j := (0 : Int32)) (v := (.int (own_inc x0 c0))) (by rw [e6]; exact Ar11.1) (State.isArrayOf_alike hZ.alike Ar11.2.1) Ar11.2.2 hin11 (Ha11.at hin11 rfl) (g := (mkF m 29 #[.val (.ref a1), .val (.ref a2), .val (.int (0 : Int32)), .val (.int (0 : Int32))] [(.int (0 : Int32)), (.ref a1)])) rfl rfl (hb hby d4_29)) ?_
    show Go p.tables e below _ (T6.setTop (mkF m 30 #[.val (.ref a1), .val (.ref a2), .val (.int (0 : Int32)), .val (.int (0 : Int32))] [(.int (own_inc x0 c0))]))
    by_cases hc30_12 : (own_inc x0 c0) = (0 : Int32)
    · refine Go.st (fun U hr => XS.ifYes X6.here hx rfl (pc0 := 30) (pc' := 37) rfl (hb hby d4_30) rfl ((if0 _ _).trans (teq hc30_12).1) (by decide) (by decide) hr) ?_
      show Go p.tables e below _ (T6.setTop (mkF m 37 #[.val (.ref a1), .val (.ref a2), .val (.int (0 : Int32)), .val (.int (0 : Int32))] []))
      refine Go.st (fun U hr => XS.iconst X6.here hx rfl (hb hby d4_37) hr) ?_
      show Go p.tables e below _ (T6.setTop (mkF m 38 #[.val (.ref a1), .val (.ref a2), .val (.int (0 : Int32)), .val (.int (0 : Int32))] [(.int (0 : Int32))]))
      refine Go.st (fun U hr => XS.istoreN X6.here hx rfl (hb hby d4_38) rfl (l' := #[.val (.ref a1), .val (.ref a2), .val (.int (0 : Int32)), .val (.int (0 : Int32))]) rfl hr) ?_
      show Go p.tables e below _ (T6.setTop (mkF m 39 #[.val (.ref a1), .val (.ref a2), .val (.int (0 : Int32)), .val (.int (0 : Int32))] []))
      refine Go.st (fun U hr => XS.iinc X6.here hx rfl (hb hby d4_39) rfl (l' := #[.val (.ref a1), .val (.ref a2), .val (.int (0 : Int32)), .val (.int ((0 : Int32) + (-1 : Int32)))]) rfl hr) ?_
      show Go p.tables e below _ (T6.setTop (mkF m 42 #[.val (.ref a1), .val (.ref a2), .val (.int (0 : Int32)), .val (.int ((0 : Int32) + (-1 : Int32)))] []))
      refine Go.st (fun U hr => XS.goto X6.here hx rfl (pc0 := 42) (pc' := 7) rfl (hb hby d4_42) (by decide) (by decide) hr) ?_
      show Go p.tables e below _ (T6.setTop (mkF m 7 #[.val (.ref a1), .val (.ref a2), .val (.int (0 : Int32)), .val (.int ((0 : Int32) + (-1 : Int32)))] []))
      rw [show ((0 : Int32) + (-1 : Int32)) = (-1 : Int32) from by decide]
      show Go p.tables e below _ (T6.setTop (mkF m 7 #[.val (.ref a1), .val (.ref a2), .val (.int (0 : Int32)), .val (.int (-1 : Int32))] []))
      refine Go.st (fun U hr => XS.iloadN X6.here hx rfl (hb hby d4_7) rfl hr) ?_
      show Go p.tables e below _ (T6.setTop (mkF m 8 #[.val (.ref a1), .val (.ref a2), .val (.int (0 : Int32)), .val (.int (-1 : Int32))] [(.int (-1 : Int32))]))
      refine Go.st (fun U hr => XS.ifYes X6.here hx rfl (pc0 := 8) (pc' := 45) rfl (hb hby d4_8) rfl (by decide) (by decide) (by decide) hr) ?_
      show Go p.tables e below _ (T6.setTop (mkF m 45 #[.val (.ref a1), .val (.ref a2), .val (.int (0 : Int32)), .val (.int (-1 : Int32))] []))
      refine Go.st (fun U hr => XS.iloadN X6.here hx rfl (hb hby d4_45) rfl hr) ?_
      show Go p.tables e below _ (T6.setTop (mkF m 46 #[.val (.ref a1), .val (.ref a2), .val (.int (0 : Int32)), .val (.int (-1 : Int32))] [(.int (0 : Int32))]))
      have er : (0 : Int32) = own_r (1 : Int32) x0 x1 x2 c0 c1 c2 := by simp +decide [own_r, hc30_12]
      have ey0 : (own_inc x0 c0) = own_y0 (1 : Int32) x0 x1 x2 c0 c1 c2 := by simp +decide [own_y0, hc30_12]
      have ey1 : x1 = own_y1 (1 : Int32) x0 x1 x2 c0 c1 c2 := by simp +decide [own_y1, hc30_12]
      have ey2 : x2 = own_y2 (1 : Int32) x0 x1 x2 c0 c1 c2 := by simp +decide [own_y2, hc30_12]
      have eV : Arv Z h6 a1 ka .int (1 : Int32) [(.int (own_inc x0 c0)), (.int x1), (.int x2)] (.int (0 : Int32)) := V6
      exact own_retN X6 hx Bd.notSynchronized (t := .boolean) Bd.returns (by simp) (hb hby d4_46) (by rw [e6]; refine ⟨by rw [← er]; rfl, N6, k7, ?_⟩; rw [← ey0, ← ey1, ← ey2]; exact eV) (by decide) (by decide)
    · refine Go.st (fun U hr => XS.ifNo X6.here hx rfl (hb hby d4_30) rfl ((if0 _ _).trans (feq hc30_12).1) hr) ?_
      show Go p.tables e below _ (T6.setTop (mkF m 33 #[.val (.ref a1), .val (.ref a2), .val (.int (0 : Int32)), .val (.int (0 : Int32))] []))
      refine Go.st (fun U hr => XS.iconst X6.here hx rfl (hb hby d4_33) hr) ?_
      show Go p.tables e below _ (T6.setTop (mkF m 34 #[.val (.ref a1), .val (.ref a2), .val (.int (0 : Int32)), .val (.int (0 : Int32))] [(.int (1 : Int32))]))
      refine Go.st (fun U hr => XS.goto X6.here hx rfl (pc0 := 34) (pc' := 38) rfl (hb hby d4_34) (by decide) (by decide) hr) ?_
      show Go p.tables e below _ (T6.setTop (mkF m 38 #[.val (.ref a1), .val (.ref a2), .val (.int (0 : Int32)), .val (.int (0 : Int32))] [(.int (1 : Int32))]))
      refine Go.st (fun U hr => XS.istoreN X6.here hx rfl (hb hby d4_38) rfl (l' := #[.val (.ref a1), .val (.ref a2), .val (.int (1 : Int32)), .val (.int (0 : Int32))]) rfl hr) ?_
      show Go p.tables e below _ (T6.setTop (mkF m 39 #[.val (.ref a1), .val (.ref a2), .val (.int (1 : Int32)), .val (.int (0 : Int32))] []))
      refine Go.st (fun U hr => XS.iinc X6.here hx rfl (hb hby d4_39) rfl (l' := #[.val (.ref a1), .val (.ref a2), .val (.int (1 : Int32)), .val (.int ((0 : Int32) + (-1 : Int32)))]) rfl hr) ?_
      show Go p.tables e below _ (T6.setTop (mkF m 42 #[.val (.ref a1), .val (.ref a2), .val (.int (1 : Int32)), .val (.int ((0 : Int32) + (-1 : Int32)))] []))
      refine Go.st (fun U hr => XS.goto X6.here hx rfl (pc0 := 42) (pc' := 7) rfl (hb hby d4_42) (by decide) (by decide) hr) ?_
      show Go p.tables e below _ (T6.setTop (mkF m 7 #[.val (.ref a1), .val (.ref a2), .val (.int (1 : Int32)), .val (.int ((0 : Int32) + (-1 : Int32)))] []))
      rw [show ((0 : Int32) + (-1 : Int32)) = (-1 : Int32) from by decide]
      show Go p.tables e below _ (T6.setTop (mkF m 7 #[.val (.ref a1), .val (.ref a2), .val (.int (1 : Int32)), .val (.int (-1 : Int32))] []))
      refine Go.st (fun U hr => XS.iloadN X6.here hx rfl (hb hby d4_7) rfl hr) ?_
      show Go p.tables e below _ (T6.setTop (mkF m 8 #[.val (.ref a1), .val (.ref a2), .val (.int (1 : Int32)), .val (.int (-1 : Int32))] [(.int (-1 : Int32))]))
      refine Go.st (fun U hr => XS.ifYes X6.here hx rfl (pc0 := 8) (pc' := 45) rfl (hb hby d4_8) rfl (by decide) (by decide) (by decide) hr) ?_
      show Go p.tables e below _ (T6.setTop (mkF m 45 #[.val (.ref a1), .val (.ref a2), .val (.int (1 : Int32)), .val (.int (-1 : Int32))] []))
      refine Go.st (fun U hr => XS.iloadN X6.here hx rfl (hb hby d4_45) rfl hr) ?_
      show Go p.tables e below _ (T6.setTop (mkF m 46 #[.val (.ref a1), .val (.ref a2), .val (.int (1 : Int32)), .val (.int (-1 : Int32))] [(.int (1 : Int32))]))
      have er : (1 : Int32) = own_r (1 : Int32) x0 x1 x2 c0 c1 c2 := by simp +decide [own_r, hc30_12]
      have ey0 : (own_inc x0 c0) = own_y0 (1 : Int32) x0 x1 x2 c0 c1 c2 := by simp +decide [own_y0, hc30_12]
      have ey1 : x1 = own_y1 (1 : Int32) x0 x1 x2 c0 c1 c2 := by simp +decide [own_y1, hc30_12]
      have ey2 : x2 = own_y2 (1 : Int32) x0 x1 x2 c0 c1 c2 := by simp +decide [own_y2, hc30_12]
      have eV : Arv Z h6 a1 ka .int (1 : Int32) [(.int (own_inc x0 c0)), (.int x1), (.int x2)] (.int (0 : Int32)) := V6
      exact own_retN X6 hx Bd.notSynchronized (t := .boolean) Bd.returns (by simp) (hb hby d4_46) (by rw [e6]; refine ⟨by rw [← er]; rfl, N6, k7, ?_⟩; rw [← ey0, ← ey1, ← ey2]; exact eV) (by decide) (by decide)
  · show Go p.tables e below _ (s₁.setTop (mkF m 0 #[.val (.ref a1), .val (.ref a2), .unset, .unset] []))
    refine Go.st (fun U hr => XS.iconst X0.here hx rfl (hb hby d4_0) hr) ?_
    show Go p.tables e below _ (s₁.setTop (mkF m 1 #[.val (.ref a1), .val (.ref a2), .unset, .unset] [(.int (0 : Int32))]))
    refine Go.st (fun U hr => XS.istoreN X0.here hx rfl (hb hby d4_1) rfl (l' := #[.val (.ref a1), .val (.ref a2), .val (.int (0 : Int32)), .unset]) rfl hr) ?_
    show Go p.tables e below _ (s₁.setTop (mkF m 2 #[.val (.ref a1), .val (.ref a2), .val (.int (0 : Int32)), .unset] []))
    refine Go.st (fun U hr => XS.aloadN X0.here hx rfl (hb hby d4_2) rfl rfl hr) ?_
    show Go p.tables e below _ (s₁.setTop (mkF m 3 #[.val (.ref a1), .val (.ref a2), .val (.int (0 : Int32)), .unset] [(.ref a1)]))
    obtain ⟨cl13, Ar13, qa13, Sa13, Na13, Ha13, Ga13⟩ := id V1
    refine Go.st (X0.arraylength hx (by rw [e0]; exact Ar13.1) (State.isArrayOf_alike hZ.alike Ar13.2.1) (g := (mkF m 3 #[.val (.ref a1), .val (.ref a2), .val (.int (0 : Int32)), .unset] [(.ref a1)])) rfl rfl (hb hby d4_3)) ?_
    rw [len_of Sa13 Na13]
    show Go p.tables e below _ (s₁.setTop (mkF m 4 #[.val (.ref a1), .val (.ref a2), .val (.int (0 : Int32)), .unset] [(.int (2 : Int32))]))
    refine Go.st (fun U hr => XS.iconst X0.here hx rfl (hb hby d4_4) hr) ?_
    show Go p.tables e below _ (s₁.setTop (mkF m 5 #[.val (.ref a1), .val (.ref a2), .val (.int (0 : Int32)), .unset] [(.int (1 : Int32)), (.int (2 : Int32))]))
    refine Go.st (fun U hr => XS.isub X0.here hx rfl (hb hby d4_5) rfl hr) ?_
    show Go p.tables e below _ (s₁.setTop (mkF m 6 #[.val (.ref a1), .val (.ref a2), .val (.int (0 : Int32)), .unset] [(.int ((2 : Int32) - (1 : Int32)))]))
    refine Go.st (fun U hr => XS.istoreN X0.here hx rfl (hb hby d4_6) rfl (l' := #[.val (.ref a1), .val (.ref a2), .val (.int (0 : Int32)), .val (.int ((2 : Int32) - (1 : Int32)))]) rfl hr) ?_
    show Go p.tables e below _ (s₁.setTop (mkF m 7 #[.val (.ref a1), .val (.ref a2), .val (.int (0 : Int32)), .val (.int ((2 : Int32) - (1 : Int32)))] []))
    rw [show ((2 : Int32) - (1 : Int32)) = (1 : Int32) from by decide]
    show Go p.tables e below _ (s₁.setTop (mkF m 7 #[.val (.ref a1), .val (.ref a2), .val (.int (0 : Int32)), .val (.int (1 : Int32))] []))
    refine Go.st (fun U hr => XS.iloadN X0.here hx rfl (hb hby d4_7) rfl hr) ?_
    show Go p.tables e below _ (s₁.setTop (mkF m 8 #[.val (.ref a1), .val (.ref a2), .val (.int (0 : Int32)), .val (.int (1 : Int32))] [(.int (1 : Int32))]))
    refine Go.st (fun U hr => XS.ifNo X0.here hx rfl (hb hby d4_8) rfl (by decide) hr) ?_
    show Go p.tables e below _ (s₁.setTop (mkF m 11 #[.val (.ref a1), .val (.ref a2), .val (.int (0 : Int32)), .val (.int (1 : Int32))] []))
    refine Go.st (fun U hr => XS.iloadN X0.here hx rfl (hb hby d4_11) rfl hr) ?_
    show Go p.tables e below _ (s₁.setTop (mkF m 12 #[.val (.ref a1), .val (.ref a2), .val (.int (0 : Int32)), .val (.int (1 : Int32))] [(.int (0 : Int32))]))
    refine Go.st (fun U hr => XS.ifNo X0.here hx rfl (hb hby d4_12) rfl (by decide) hr) ?_
    show Go p.tables e below _ (s₁.setTop (mkF m 15 #[.val (.ref a1), .val (.ref a2), .val (.int (0 : Int32)), .val (.int (1 : Int32))] []))
    refine Go.st (fun U hr => XS.aloadN X0.here hx rfl (hb hby d4_15) rfl rfl hr) ?_
    show Go p.tables e below _ (s₁.setTop (mkF m 16 #[.val (.ref a1), .val (.ref a2), .val (.int (0 : Int32)), .val (.int (1 : Int32))] [(.ref a1)]))
    refine Go.st (fun U hr => XS.iloadN X0.here hx rfl (hb hby d4_16) rfl hr) ?_
    show Go p.tables e below _ (s₁.setTop (mkF m 17 #[.val (.ref a1), .val (.ref a2), .val (.int (0 : Int32)), .val (.int (1 : Int32))] [(.int (1 : Int32)), (.ref a1)]))
    refine Go.st (fun U hr => XS.aloadN X0.here hx rfl (hb hby d4_17) rfl rfl hr) ?_
    show Go p.tables e below _ (s₁.setTop (mkF m 18 #[.val (.ref a1), .val (.ref a2), .val (.int (0 : Int32)), .val (.int (1 : Int32))] [(.ref a1), (.int (1 : Int32)), (.ref a1)]))
    refine Go.st (fun U hr => XS.iloadN X0.here hx rfl (hb hby d4_18) rfl hr) ?_
    show Go p.tables e below _ (s₁.setTop (mkF m 19 #[.val (.ref a1), .val (.ref a2), .val (.int (0 : Int32)), .val (.int (1 : Int32))] [(.int (1 : Int32)), (.ref a1), (.int (1 : Int32)), (.ref a1)]))
    obtain ⟨cl14, Ar14, qa14, Sa14, Na14, Ha14, Ga14⟩ := id V1
    have hin14 : ¬ ((1 : Int32) < 0 ∨ cl14.slots.size ≤ ((1 : Int32)).toNatClampNeg) := inb_of Sa14 ⟨by decide, by decide⟩
    refine Go.st (X0.iaload hx (j := (1 : Int32)) (v := (.int x1)) (by rw [e0]; exact Ar14.1) (State.isArrayOf_alike hZ.alike Ar14.2.1) Ar14.2.2 hin14 (Ha14.at hin14 rfl) (g := (mkF m 19 #[.val (.ref a1), .val (.ref a2), .val (.int (0 : Int32)), .val (.int (1 : Int32))] [(.int (1 : Int32)), (.ref a1), (.int (1 : Int32)), (.ref a1)])) rfl rfl (hb hby d4_19)) ?_
    show Go p.tables e below _ (s₁.setTop (mkF m 20 #[.val (.ref a1), .val (.ref a2), .val (.int (0 : Int32)), .val (.int (1 : Int32))] [(.int x1), (.int (1 : Int32)), (.ref a1)]))
    refine Go.st (fun U hr => XS.iconst X0.here hx rfl (hb hby d4_20) hr) ?_
    show Go p.tables e below _ (s₁.setTop (mkF m 21 #[.val (.ref a1), .val (.ref a2), .val (.int (0 : Int32)), .val (.int (1 : Int32))] [(.int (1 : Int32)), (.int x1), (.int (1 : Int32)), (.ref a1)]))
    refine Go.st (fun U hr => XS.iadd X0.here hx rfl (hb hby d4_21) rfl hr) ?_
    show Go p.tables e below _ (s₁.setTop (mkF m 22 #[.val (.ref a1), .val (.ref a2), .val (.int (0 : Int32)), .val (.int (1 : Int32))] [(.int (x1 + (1 : Int32))), (.int (1 : Int32)), (.ref a1)]))
    refine Go.st (fun U hr => XS.aloadN X0.here hx rfl (hb hby d4_22) rfl rfl hr) ?_
    show Go p.tables e below _ (s₁.setTop (mkF m 23 #[.val (.ref a1), .val (.ref a2), .val (.int (0 : Int32)), .val (.int (1 : Int32))] [(.ref a2), (.int (x1 + (1 : Int32))), (.int (1 : Int32)), (.ref a1)]))
    refine Go.st (fun U hr => XS.iloadN X0.here hx rfl (hb hby d4_23) rfl hr) ?_
    show Go p.tables e below _ (s₁.setTop (mkF m 24 #[.val (.ref a1), .val (.ref a2), .val (.int (0 : Int32)), .val (.int (1 : Int32))] [(.int (1 : Int32)), (.ref a2), (.int (x1 + (1 : Int32))), (.int (1 : Int32)), (.ref a1)]))
    obtain ⟨cl15, Ar15, qa15, Sa15, Na15, Ha15, Ga15⟩ := id V2
    have hin15 : ¬ ((1 : Int32) < 0 ∨ cl15.slots.size ≤ ((1 : Int32)).toNatClampNeg) := inb_of Sa15 ⟨by decide, by decide⟩
    refine Go.st (X0.iaload hx (j := (1 : Int32)) (v := (.int c1)) (by rw [e0]; exact Ar15.1) (State.isArrayOf_alike hZ.alike Ar15.2.1) Ar15.2.2 hin15 (Ha15.at hin15 rfl) (g := (mkF m 24 #[.val (.ref a1), .val (.ref a2), .val (.int (0 : Int32)), .val (.int (1 : Int32))] [(.int (1 : Int32)), (.ref a2), (.int (x1 + (1 : Int32))), (.int (1 : Int32)), (.ref a1)])) rfl rfl (hb hby d4_24)) ?_
    show Go p.tables e below _ (s₁.setTop (mkF m 25 #[.val (.ref a1), .val (.ref a2), .val (.int (0 : Int32)), .val (.int (1 : Int32))] [(.int c1), (.int (x1 + (1 : Int32))), (.int (1 : Int32)), (.ref a1)]))
    refine Go.st (fun U hr => XS.irem X0.here hx rfl (hb hby d4_25) rfl (by assumption) hr) ?_
    show Go p.tables e below _ (s₁.setTop (mkF m 26 #[.val (.ref a1), .val (.ref a2), .val (.int (0 : Int32)), .val (.int (1 : Int32))] [(.int ((x1 + (1 : Int32)) - ((x1 + (1 : Int32)) / c1) * c1)), (.int (1 : Int32)), (.ref a1)]))
    rw [own_inc_eq x1 c1 hx1]
    show Go p.tables e below _ (s₁.setTop (mkF m 26 #[.val (.ref a1), .val (.ref a2), .val (.int (0 : Int32)), .val (.int (1 : Int32))] [(.int (own_inc x1 c1)), (.int (1 : Int32)), (.ref a1)]))
    obtain ⟨cl16, Ar16, qa16, Sa16, Na16, Ha16, Ga16⟩ := id V1
    have hin16 : ¬ ((1 : Int32) < 0 ∨ cl16.slots.size ≤ ((1 : Int32)).toNatClampNeg) := inb_of Sa16 ⟨by decide, by decide⟩
    obtain ⟨T17, h17, X17, e17, W17, st17⟩ := stI X0 hx hZ e0 Ar16 (j := (1 : Int32)) hin16 (g := (mkF m 26 #[.val (.ref a1), .val (.ref a2), .val (.int (0 : Int32)), .val (.int (1 : Int32))] [(.int (own_inc x1 c1)), (.int (1 : Int32)), (.ref a1)])) rfl rfl (hb hby d4_26)
    refine Go.st st17 ?_
    have V17 := Arv.set Ar16 qa16 Sa16 Na16 Ha16 Ga16 rfl W17 1 rfl (Nat.le_of_ble_eq_true rfl)
    have k18 := ((Keep.refl h0 [a1])).wr W17 (Or.inl (List.mem_of_getElem? (i := 0) rfl))
    have f20 := (V2).other W17 ne12
    have z21 := Nat.le_trans Z0 (Keep.of_wr W17).1
    have N17 := Fr.snoc X17 N0 g1
    show Go p.tables e below _ (T17.setTop (mkF m 27 #[.val (.ref a1), .val (.ref a2), .val (.int (0 : Int32)), .val (.int (1 : Int32))] []))
    refine Go.st (fun U hr => XS.aloadN X17.here hx rfl (hb hby d4_27) rfl rfl hr) ?_
    show Go p.tables e below _ (T17.setTop (mkF m 28 #[.val (.ref a1), .val (.ref a2), .val (.int (0 : Int32)), .val (.int (1 : Int32))] [(.ref a1)]))
    refine Go.st (fun U hr => XS.iloadN X17.here hx rfl (hb hby d4_28) rfl hr) ?_
    show Go p.tables e below _ (T17.setTop (mkF m 29 #[.val (.ref a1), .val (.ref a2), .val (.int (0 : Int32)), .val (.int (1 : Int32))] [(.int (1 : Int32)), (.ref a1)]))
    obtain ⟨cl22, Ar22, qa22, Sa22, Na22, Ha22, Ga22⟩ := id V17
    have hin22 : ¬ ((1 : Int32) < 0 ∨ cl22.slots.size ≤ ((1 : Int32)).toNatClampNeg) := inb_of Sa22 ⟨by decide, by decide⟩
    refine Go.st (X17.iaload hx (j := (1 : Int32)) (v := (.int (own_inc x1 c1))) (by rw [e17]; exact Ar22.1) (State.isArrayOf_alike hZ.alike Ar22.2.1) Ar22.2.2 hin22 (Ha22.at hin22 rfl) (g := (mkF m 29 #[.val (.ref a1), .val (.ref a2), .val (.int (0 : Int32)), .val (.int (1 : Int32))] [(.int (1 : Int32)), (.ref a1)])) rfl rfl (hb hby d4_29)) ?_
    show Go p.tables e below _ (T17.setTop (mkF m 30 #[.val (.ref a1), .val (.ref a2), .val (.int (0 : Int32)), .val (.int (1 : Int32))] [(.int (own_inc x1 c1))]))
    by_cases hc30_23 : (own_inc x1 c1) = (0 : Int32)
    · refine Go.st (fun U hr => XS.ifYes X17.here hx rfl (pc0 := 30) (pc' := 37) rfl (hb hby d4_30) rfl ((if0 _ _).trans (teq hc30_23).1) (by decide) (by decide) hr) ?_
      show Go p.tables e below _ (T17.setTop (mkF m 37 #[.val (.ref a1), .val (.ref a2), .val (.int (0 : Int32)), .val (.int (1 : Int32))] []))
      refine Go.st (fun U hr => XS.iconst X17.here hx rfl (hb hby d4_37) hr) ?_
      show Go p.tables e below _ (T17.setTop (mkF m 38 #[.val (.ref a1), .val (.ref a2), .val (.int (0 : Int32)), .val (.int (1 : Int32))] [(.int (0 : Int32))]))
      refine Go.st (fun U hr => XS.istoreN X17.here hx rfl (hb hby d4_38) rfl (l' := #[.val (.ref a1), .val (.ref a2), .val (.int (0 : Int32)), .val (.int (1 : Int32))]) rfl hr) ?_
      show Go p.tables e below _ (T17.setTop (mkF m 39 #[.val (.ref a1), .val (.ref a2), .val (.int (0 : Int32)), .val (.int (1 : Int32))] []))
      refine Go.st (fun U hr => XS.iinc X17.here hx rfl (hb hby d4_39) rfl (l' := #[.val (.ref a1), .val (.ref a2), .val (.int (0 : Int32)), .val (.int ((1 : Int32) + (-1 : Int32)))]) rfl hr) ?_
      show Go p.tables e below _ (T17.setTop (mkF m 42 #[.val (.ref a1), .val (.ref a2), .val (.int (0 : Int32)), .val (.int ((1 : Int32) + (-1 : Int32)))] []))
      refine Go.st (fun U hr => XS.goto X17.here hx rfl (pc0 := 42) (pc' := 7) rfl (hb hby d4_42) (by decide) (by decide) hr) ?_
      show Go p.tables e below _ (T17.setTop (mkF m 7 #[.val (.ref a1), .val (.ref a2), .val (.int (0 : Int32)), .val (.int ((1 : Int32) + (-1 : Int32)))] []))
      rw [show ((1 : Int32) + (-1 : Int32)) = (0 : Int32) from by decide]
      show Go p.tables e below _ (T17.setTop (mkF m 7 #[.val (.ref a1), .val (.ref a2), .val (.int (0 : Int32)), .val (.int (0 : Int32))] []))
      refine Go.st (fun U hr => XS.iloadN X17.here hx rfl (hb hby d4_7) rfl hr) ?_
      show Go p.tables e below _ (T17.setTop (mkF m 8 #[.val (.ref a1), .val (.ref a2), .val (.int (0 : Int32)), .val (.int (0 : Int32))] [(.int (0 : Int32))]))
      refine Go.st (fun U hr => XS.ifNo X17.here hx rfl (hb hby d4_8) rfl (by decide) hr) ?_
      show Go p.tables e below _ (T17.setTop (mkF m 11 #[.val (.ref a1), .val (.ref a2), .val (.int (0 : Int32)), .val (.int (0 : Int32))] []))
      refine Go.st (fun U hr => XS.iloadN X17.here hx rfl (hb hby d4_11) rfl hr) ?_
      show Go p.tables e below _ (T17.setTop (mkF m 12 #[.val (.ref a1), .val (.ref a2), .val (.int (0 : Int32)), .val (.int (0 : Int32))] [(.int (0 : Int32))]))
      refine Go.st (fun U hr => XS.ifNo X17.here hx rfl (hb hby d4_12) rfl (by decide) hr) ?_
      show Go p.tables e below _ (T17.setTop (mkF m 15 #[.val (.ref a1), .val (.ref a2), .val (.int (0 : Int32)), .val (.int (0 : Int32))] []))
      refine Go.st (fun U hr => XS.aloadN X17.here hx rfl (hb hby d4_15) rfl rfl hr) ?_
      show Go p.tables e below _ (T17.setTop (mkF m 16 #[.val (.ref a1), .val (.ref a2), .val (.int (0 : Int32)), .val (.int (0 : Int32))] [(.ref a1)]))
      refine Go.st (fun U hr => XS.iloadN X17.here hx rfl (hb hby d4_16) rfl hr) ?_
      show Go p.tables e below _ (T17.setTop (mkF m 17 #[.val (.ref a1), .val (.ref a2), .val (.int (0 : Int32)), .val (.int (0 : Int32))] [(.int (0 : Int32)), (.ref a1)]))
      refine Go.st (fun U hr => XS.aloadN X17.here hx rfl (hb hby d4_17) rfl rfl hr) ?_
      show Go p.tables e below _ (T17.setTop (mkF m 18 #[.val (.ref a1), .val (.ref a2), .val (.int (0 : Int32)), .val (.int (0 : Int32))] [(.ref a1), (.int (0 : Int32)), (.ref a1)]))
      refine Go.st (fun U hr => XS.iloadN X17.here hx rfl (hb hby d4_18) rfl hr) ?_
      show Go p.tables e below _ (T17.setTop (mkF m 19 #[.val (.ref a1), .val (.ref a2), .val (.int (0 : Int32)), .val (.int (0 : Int32))] [(.int (0 : Int32)), (.ref a1), (.int (0 : Int32)), (.ref a1)]))
      obtain ⟨cl24, Ar24, qa24, Sa24, Na24, Ha24, Ga24⟩ := id V17
      have hin24 : ¬ ((0 : Int32) < 0 ∨ cl24.slots.size ≤ ((0 : Int32)).toNatClampNeg) := inb_of Sa24 ⟨by decide, by decide⟩
      refine Go.st (X17.iaload hx (j := (0 : Int32)) (v := (.int x0)) (by rw [e17]; exact Ar24.1) (State.isArrayOf_alike hZ.alike Ar24.2.1) Ar24.2.2 hin24 (Ha24.at hin24 rfl) (g := (mkF m 19 #[.val (.ref a1), .val (.ref a2), .val (.int (0 : Int32)), .val (.int (0 : Int32))] [(.int (0 : Int32)), (.ref a1), (.int (0 : Int32)), (.ref a1)])) rfl rfl (hb hby d4_19)) ?_
      show Go p.tables e below _ (T17.setTop (mkF m 20 #[.val (.ref a1), .val (.ref a2), .val (.int (0 : Int32)), .val (.int (0 : Int32))] [(.int x0), (.int (0 : Int32)), (.ref a1)]))
      refine Go.st (fun U hr => XS.iconst X17.here hx rfl (hb hby d4_20) hr) ?_
      show Go p.tables e below _ (T17.setTop (mkF m 21 #[.val (.ref a1), .val (.ref a2), .val (.int (0 : Int32)), .val (.int (0 : Int32))] [(.int (1 : Int32)), (.int x0), (.int (0 : Int32)), (.ref a1)]))
      refine Go.st (fun U hr => XS.iadd X17.here hx rfl (hb hby d4_21) rfl hr) ?_
      show Go p.tables e below _ (T17.setTop (mkF m 22 #[.val (.ref a1), .val (.ref a2), .val (.int (0 : Int32)), .val (.int (0 : Int32))] [(.int (x0 + (1 : Int32))), (.int (0 : Int32)), (.ref a1)]))
      refine Go.st (fun U hr => XS.aloadN X17.here hx rfl (hb hby d4_22) rfl rfl hr) ?_
      show Go p.tables e below _ (T17.setTop (mkF m 23 #[.val (.ref a1), .val (.ref a2), .val (.int (0 : Int32)), .val (.int (0 : Int32))] [(.ref a2), (.int (x0 + (1 : Int32))), (.int (0 : Int32)), (.ref a1)]))
      refine Go.st (fun U hr => XS.iloadN X17.here hx rfl (hb hby d4_23) rfl hr) ?_
      show Go p.tables e below _ (T17.setTop (mkF m 24 #[.val (.ref a1), .val (.ref a2), .val (.int (0 : Int32)), .val (.int (0 : Int32))] [(.int (0 : Int32)), (.ref a2), (.int (x0 + (1 : Int32))), (.int (0 : Int32)), (.ref a1)]))
      obtain ⟨cl25, Ar25, qa25, Sa25, Na25, Ha25, Ga25⟩ := id f20
      have hin25 : ¬ ((0 : Int32) < 0 ∨ cl25.slots.size ≤ ((0 : Int32)).toNatClampNeg) := inb_of Sa25 ⟨by decide, by decide⟩
      refine Go.st (X17.iaload hx (j := (0 : Int32)) (v := (.int c0)) (by rw [e17]; exact Ar25.1) (State.isArrayOf_alike hZ.alike Ar25.2.1) Ar25.2.2 hin25 (Ha25.at hin25 rfl) (g := (mkF m 24 #[.val (.ref a1), .val (.ref a2), .val (.int (0 : Int32)), .val (.int (0 : Int32))] [(.int (0 : Int32)), (.ref a2), (.int (x0 + (1 : Int32))), (.int (0 : Int32)), (.ref a1)])) rfl rfl (hb hby d4_24)) ?_
      show Go p.tables e below _ (T17.setTop (mkF m 25 #[.val (.ref a1), .val (.ref a2), .val (.int (0 : Int32)), .val (.int (0 : Int32))] [(.int c0), (.int (x0 + (1 : Int32))), (.int (0 : Int32)), (.ref a1)]))
      refine Go.st (fun U hr => XS.irem X17.here hx rfl (hb hby d4_25) rfl (by assumption) hr) ?_
      show Go p.tables e below _ (T17.setTop (mkF m 26 #[.val (.ref a1), .val (.ref a2), .val (.int (0 : Int32)), .val (.int (0 : Int32))] [(.int ((x0 + (1 : Int32)) - ((x0 + (1 : Int32)) / c0) * c0)), (.int (0 : Int32)), (.ref a1)]))
      rw [own_inc_eq x0 c0 hx0]
      show Go p.tables e below _ (T17.setTop (mkF m 26 #[.val (.ref a1), .val (.ref a2), .val (.int (0 : Int32)), .val (.int (0 : Int32))] [(.int (own_inc x0 c0)), (.int (0 : Int32)), (.ref a1)]))
      obtain ⟨cl26, Ar26, qa26, Sa26, Na26, Ha26, Ga26⟩ := id V17
      have hin26 : ¬ ((0 : Int32) < 0 ∨ cl26.slots.size ≤ ((0 : Int32)).toNatClampNeg) := inb_of Sa26 ⟨by decide, by decide⟩
      obtain ⟨T27, h27, X27, e27, W27, st27⟩ := stI X17 hx hZ e17 Ar26 (j := (0 : Int32)) hin26 (g := (mkF m 26 #[.val (.ref a1), .val (.ref a2), .val (.int (0 : Int32)), .val (.int (0 : Int32))] [(.int (own_inc x0 c0)), (.int (0 : Int32)), (.ref a1)])) rfl rfl (hb hby d4_26)
      refine Go.st st27 ?_
      have V27 := Arv.set Ar26 qa26 Sa26 Na26 Ha26 Ga26 rfl W27 0 rfl (Nat.le_of_ble_eq_true rfl)
      have k28 := (k18).wr W27 (Or.inl (List.mem_of_getElem? (i := 0) rfl))
      have f29 := (f20).other W27 ne12
      have z31 := Nat.le_trans z21 (Keep.of_wr W27).1
      have N27 := Fr.snoc X27 N17 g1
      show Go p.tables e below _ (T27.setTop (mkF m 27 #[.val (.ref a1), .val (.ref a2), .val (.int (0 : Int32)), .val (.int (0 : Int32))] []))
      refine Go.st (fun U hr => XS.aloadN X27.here hx rfl (hb hby d4_27) rfl rfl hr) ?_
      show Go p.tables e below _ (T27.setTop (mkF m 28 #[.val (.ref a1), .val (.ref a2), .val (.int (0 : Int32)), .val (.int (0 : Int32))] [(.ref a1)]))
      refine Go.st (fun U hr => XS.iloadN X27.here hx rfl (hb hby d4_28) rfl hr) ?_
      show Go p.tables e below _ (T27.setTop (mkF m 29 #[.val (.ref a1), .val (.ref a2), .val (.int (0 : Int32)), .val (.int (0 : Int32))] [(.int (0 : Int32)), (.ref a1)]))
      obtain ⟨cl32, Ar32, qa32, Sa32, Na32, Ha32, Ga32⟩ := id V27
      have hin32 : ¬ ((0 : Int32) < 0 ∨ cl32.slots.size ≤ ((0 : Int32)).toNatClampNeg) := inb_of Sa32 ⟨by decide, by decide⟩
      refine Go.st (X27.iaload hx (j := (0 : Int32)) (v := (.int (own_inc x0 c0))) (by rw [e27]; exact Ar32.1) (State.isArrayOf_alike hZ.alike Ar32.2.1) Ar32.2.2 hin32 (Ha32.at hin32 rfl) (g := (mkF m 29 #[.val (.ref a1), .val (.ref a2), .val (.int (0 : Int32)), .val (.int (0 : Int32))] [(.int (0 : Int32)), (.ref a1)])) rfl rfl (hb hby d4_29)) ?_
      show Go p.tables e below _ (T27.setTop (mkF m 30 #[.val (.ref a1), .val (.ref a2), .val (.int (0 : Int32)), .val (.int (0 : Int32))] [(.int (own_inc x0 c0))]))
      by_cases hc30_33 : (own_inc x0 c0) = (0 : Int32)
      · refine Go.st (fun U hr => XS.ifYes X27.here hx rfl (pc0 := 30) (pc' := 37) rfl (hb hby d4_30) rfl ((if0 _ _).trans (teq hc30_33).1) (by decide) (by decide) hr) ?_
        show Go p.tables e below _ (T27.setTop (mkF m 37 #[.val (.ref a1), .val (.ref a2), .val (.int (0 : Int32)), .val (.int (0 : Int32))] []))
        refine Go.st (fun U hr => XS.iconst X27.here hx rfl (hb hby d4_37) hr) ?_
        show Go p.tables e below _ (T27.setTop (mkF m 38 #[.val (.ref a1), .val (.ref a2), .val (.int (0 : Int32)), .val (.int (0 : Int32))] [(.int (0 : Int32))]))
        refine Go.st (fun U hr => XS.istoreN X27.here hx rfl (hb hby d4_38) rfl (l' := #[.val (.ref a1), .val (.ref a2), .val (.int (0 : Int32)), .val (.int (0 : Int32))]) rfl hr) ?_
        show Go p.tables e below _ (T27.setTop (mkF m 39 #[.val (.ref a1), .val (.ref a2), .val (.int (0 : Int32)), .val (.int (0 : Int32))] []))
        refine Go.st (fun U hr => XS.iinc X27.here hx rfl (hb hby d4_39) rfl (l' := #[.val (.ref a1), .val (.ref a2), .val (.int (0 : Int32)), .val (.int ((0 : Int32) + (-1 : Int32)))]) rfl hr) ?_
        show Go p.tables e below _ (T27.setTop (mkF m 42 #[.val (.ref a1), .val (.ref a2), .val (.int (0 : Int32)), .val (.int ((0 : Int32) + (-1 : Int32)))] []))
        refine Go.st (fun U hr => XS.goto X27.here hx rfl (pc0 := 42) (pc' := 7) rfl (hb hby d4_42) (by decide) (by decide) hr) ?_
        show Go p.tables e below _ (T27.setTop (mkF m 7 #[.val (.ref a1), .val (.ref a2), .val (.int (0 : Int32)), .val (.int ((0 : Int32) + (-1 : Int32)))] []))
        rw [show ((0 : Int32) + (-1 : Int32)) = (-1 : Int32) from by decide]
        show Go p.tables e below _ (T27.setTop (mkF m 7 #[.val (.ref a1), .val (.ref a2), .val (.int (0 : Int32)), .val (.int (-1 : Int32))] []))
        refine Go.st (fun U hr => XS.iloadN X27.here hx rfl (hb hby d4_7) rfl hr) ?_
        show Go p.tables e below _ (T27.setTop (mkF m 8 #[.val (.ref a1), .val (.ref a2), .val (.int (0 : Int32)), .val (.int (-1 : Int32))] [(.int (-1 : Int32))]))
        refine Go.st (fun U hr => XS.ifYes X27.here hx rfl (pc0 := 8) (pc' := 45) rfl (hb hby d4_8) rfl (by decide) (by decide) (by decide) hr) ?_
        show Go p.tables e below _ (T27.setTop (mkF m 45 #[.val (.ref a1), .val (.ref a2), .val (.int (0 : Int32)), .val (.int (-1 : Int32))] []))
        refine Go.st (fun U hr => XS.iloadN X27.here hx rfl (hb hby d4_45) rfl hr) ?_
        show Go p.tables e below _ (T27.setTop (mkF m 46 #[.val (.ref a1), .val (.ref a2), .val (.int (0 : Int32)), .val (.int (-1 : Int32))] [(.int (0 : Int32))]))
        have er : (0 : Int32) = own_r (2 : Int32) x0 x1 x2 c0 c1 c2 := by simp +decide [own_r, hc30_23, hc30_33]
        have ey0 : (own_inc x0 c0) = own_y0 (2 : Int32) x0 x1 x2 c0 c1 c2 := by simp +decide [own_y0, hc30_23, hc30_33]
        have ey1 : (own_inc x1 c1) = own_y1 (2 : Int32) x0 x1 x2 c0 c1 c2 := by simp +decide [own_y1, hc30_23, hc30_33]
        have ey2 : x2 = own_y2 (2 : Int32) x0 x1 x2 c0 c1 c2 := by simp +decide [own_y2, hc30_23, hc30_33]
        have eV : Arv Z h27 a1 ka .int (2 : Int32) [(.int (own_inc x0 c0)), (.int (own_inc x1 c1)), (.int x2)] (.int (0 : Int32)) := V27
        exact own_retN X27 hx Bd.notSynchronized (t := .boolean) Bd.returns (by simp) (hb hby d4_46) (by rw [e27]; refine ⟨by rw [← er]; rfl, N27, k28, ?_⟩; rw [← ey0, ← ey1, ← ey2]; exact eV) (by decide) (by decide)
      · refine Go.st (fun U hr => XS.ifNo X27.here hx rfl (hb hby d4_30) rfl ((if0 _ _).trans (feq hc30_33).1) hr) ?_
        show Go p.tables e below _ (T27.setTop (mkF m 33 #[.val (.ref a1), .val (.ref a2), .val (.int (0 : Int32)), .val (.int (0 : Int32))] []))
        refine Go.st (fun U hr => XS.iconst X27.here hx rfl (hb hby d4_33) hr) ?_
        show Go p.tables e below _ (T27.setTop (mkF m 34 #[.val (.ref a1), .val (.ref a2), .val (.int (0 : Int32)), .val (.int (0 : Int32))] [(.int (1 : Int32))]))
        refine Go.st (fun U hr => XS.goto X27.here hx rfl (pc0 := 34) (pc' := 38) rfl (hb hby d4_34) (by decide) (by decide) hr) ?_
        show Go p.tables e below _ (T27.setTop (mkF m 38 #[.val (.ref a1), .val (.ref a2), .val (.int (0 : Int32)), .val (.int (0 : Int32))] [(.int (1 : Int32))]))
        refine Go.st (fun U hr => XS.istoreN X27.here hx rfl (hb hby d4_38) rfl (l' := #[.val (.ref a1), .val (.ref a2), .val (.int (1 : Int32)), .val (.int (0 : Int32))]) rfl hr) ?_
        show Go p.tables e below _ (T27.setTop (mkF m 39 #[.val (.ref a1), .val (.ref a2), .val (.int (1 : Int32)), .val (.int (0 : Int32))] []))
        refine Go.st (fun U hr => XS.iinc X27.here hx rfl (hb hby d4_39) rfl (l' := #[.val (.ref a1), .val (.ref a2), .val (.int (1 : Int32)), .val (.int ((0 : Int32) + (-1 : Int32)))]) rfl hr) ?_
        show Go p.tables e below _ (T27.setTop (mkF m 42 #[.val (.ref a1), .val (.ref a2), .val (.int (1 : Int32)), .val (.int ((0 : Int32) + (-1 : Int32)))] []))
        refine Go.st (fun U hr => XS.goto X27.here hx rfl (pc0 := 42) (pc' := 7) rfl (hb hby d4_42) (by decide) (by decide) hr) ?_
        show Go p.tables e below _ (T27.setTop (mkF m 7 #[.val (.ref a1), .val (.ref a2), .val (.int (1 : Int32)), .val (.int ((0 : Int32) + (-1 : Int32)))] []))
        rw [show ((0 : Int32) + (-1 : Int32)) = (-1 : Int32) from by decide]
        show Go p.tables e below _ (T27.setTop (mkF m 7 #[.val (.ref a1), .val (.ref a2), .val (.int (1 : Int32)), .val (.int (-1 : Int32))] []))
        refine Go.st (fun U hr => XS.iloadN X27.here hx rfl (hb hby d4_7) rfl hr) ?_
        show Go p.tables e below _ (T27.setTop (mkF m 8 #[.val (.ref a1), .val (.ref a2), .val (.int (1 : Int32)), .val (.int (-1 : Int32))] [(.int (-1 : Int32))]))
        refine Go.st (fun U hr => XS.ifYes X27.here hx rfl (pc0 := 8) (pc' := 45) rfl (hb hby d4_8) rfl (by decide) (by decide) (by decide) hr) ?_
        show Go p.tables e below _ (T27.setTop (mkF m 45 #[.val (.ref a1), .val (.ref a2), .val (.int (1 : Int32)), .val (.int (-1 : Int32))] []))
        refine Go.st (fun U hr => XS.iloadN X27.here hx rfl (hb hby d4_45) rfl hr) ?_
        show Go p.tables e below _ (T27.setTop (mkF m 46 #[.val (.ref a1), .val (.ref a2), .val (.int (1 : Int32)), .val (.int (-1 : Int32))] [(.int (1 : Int32))]))
        have er : (1 : Int32) = own_r (2 : Int32) x0 x1 x2 c0 c1 c2 := by simp +decide [own_r, hc30_23, hc30_33]
        have ey0 : (own_inc x0 c0) = own_y0 (2 : Int32) x0 x1 x2 c0 c1 c2 := by simp +decide [own_y0, hc30_23, hc30_33]
        have ey1 : (own_inc x1 c1) = own_y1 (2 : Int32) x0 x1 x2 c0 c1 c2 := by simp +decide [own_y1, hc30_23, hc30_33]
        have ey2 : x2 = own_y2 (2 : Int32) x0 x1 x2 c0 c1 c2 := by simp +decide [own_y2, hc30_23, hc30_33]
        have eV : Arv Z h27 a1 ka .int (2 : Int32) [(.int (own_inc x0 c0)), (.int (own_inc x1 c1)), (.int x2)] (.int (0 : Int32)) := V27
        exact own_retN X27 hx Bd.notSynchronized (t := .boolean) Bd.returns (by simp) (hb hby d4_46) (by rw [e27]; refine ⟨by rw [← er]; rfl, N27, k28, ?_⟩; rw [← ey0, ← ey1, ← ey2]; exact eV) (by decide) (by decide)
    · refine Go.st (fun U hr => XS.ifNo X17.here hx rfl (hb hby d4_30) rfl ((if0 _ _).trans (feq hc30_23).1) hr) ?_
      show Go p.tables e below _ (T17.setTop (mkF m 33 #[.val (.ref a1), .val (.ref a2), .val (.int (0 : Int32)), .val (.int (1 : Int32))] []))
      refine Go.st (fun U hr => XS.iconst X17.here hx rfl (hb hby d4_33) hr) ?_
      show Go p.tables e below _ (T17.setTop (mkF m 34 #[.val (.ref a1), .val (.ref a2), .val (.int (0 : Int32)), .val (.int (1 : Int32))] [(.int (1 : Int32))]))
      refine Go.st (fun U hr => XS.goto X17.here hx rfl (pc0 := 34) (pc' := 38) rfl (hb hby d4_34) (by decide) (by decide) hr) ?_
      show Go p.tables e below _ (T17.setTop (mkF m 38 #[.val (.ref a1), .val (.ref a2), .val (.int (0 : Int32)), .val (.int (1 : Int32))] [(.int (1 : Int32))]))
      refine Go.st (fun U hr => XS.istoreN X17.here hx rfl (hb hby d4_38) rfl (l' := #[.val (.ref a1), .val (.ref a2), .val (.int (1 : Int32)), .val (.int (1 : Int32))]) rfl hr) ?_
      show Go p.tables e below _ (T17.setTop (mkF m 39 #[.val (.ref a1), .val (.ref a2), .val (.int (1 : Int32)), .val (.int (1 : Int32))] []))
      refine Go.st (fun U hr => XS.iinc X17.here hx rfl (hb hby d4_39) rfl (l' := #[.val (.ref a1), .val (.ref a2), .val (.int (1 : Int32)), .val (.int ((1 : Int32) + (-1 : Int32)))]) rfl hr) ?_
      show Go p.tables e below _ (T17.setTop (mkF m 42 #[.val (.ref a1), .val (.ref a2), .val (.int (1 : Int32)), .val (.int ((1 : Int32) + (-1 : Int32)))] []))
      refine Go.st (fun U hr => XS.goto X17.here hx rfl (pc0 := 42) (pc' := 7) rfl (hb hby d4_42) (by decide) (by decide) hr) ?_
      show Go p.tables e below _ (T17.setTop (mkF m 7 #[.val (.ref a1), .val (.ref a2), .val (.int (1 : Int32)), .val (.int ((1 : Int32) + (-1 : Int32)))] []))
      rw [show ((1 : Int32) + (-1 : Int32)) = (0 : Int32) from by decide]
      show Go p.tables e below _ (T17.setTop (mkF m 7 #[.val (.ref a1), .val (.ref a2), .val (.int (1 : Int32)), .val (.int (0 : Int32))] []))
      refine Go.st (fun U hr => XS.iloadN X17.here hx rfl (hb hby d4_7) rfl hr) ?_
      show Go p.tables e below _ (T17.setTop (mkF m 8 #[.val (.ref a1), .val (.ref a2), .val (.int (1 : Int32)), .val (.int (0 : Int32))] [(.int (0 : Int32))]))
      refine Go.st (fun U hr => XS.ifNo X17.here hx rfl (hb hby d4_8) rfl (by decide) hr) ?_
      show Go p.tables e below _ (T17.setTop (mkF m 11 #[.val (.ref a1), .val (.ref a2), .val (.int (1 : Int32)), .val (.int (0 : Int32))] []))
      refine Go.st (fun U hr => XS.iloadN X17.here hx rfl (hb hby d4_11) rfl hr) ?_
      show Go p.tables e below _ (T17.setTop (mkF m 12 #[.val (.ref a1), .val (.ref a2), .val (.int (1 : Int32)), .val (.int (0 : Int32))] [(.int (1 : Int32))]))
      refine Go.st (fun U hr => XS.ifYes X17.here hx rfl (pc0 := 12) (pc' := 45) rfl (hb hby d4_12) rfl (by decide) (by decide) (by decide) hr) ?_
      show Go p.tables e below _ (T17.setTop (mkF m 45 #[.val (.ref a1), .val (.ref a2), .val (.int (1 : Int32)), .val (.int (0 : Int32))] []))
      refine Go.st (fun U hr => XS.iloadN X17.here hx rfl (hb hby d4_45) rfl hr) ?_
      show Go p.tables e below _ (T17.setTop (mkF m 46 #[.val (.ref a1), .val (.ref a2), .val (.int (1 : Int32)), .val (.int (0 : Int32))] [(.int (1 : Int32))]))
      have er : (1 : Int32) = own_r (2 : Int32) x0 x1 x2 c0 c1 c2 := by simp +decide [own_r, hc30_23]
      have ey0 : x0 = own_y0 (2 : Int32) x0 x1 x2 c0 c1 c2 := by simp +decide [own_y0, hc30_23]
      have ey1 : (own_inc x1 c1) = own_y1 (2 : Int32) x0 x1 x2 c0 c1 c2 := by simp +decide [own_y1, hc30_23]
      have ey2 : x2 = own_y2 (2 : Int32) x0 x1 x2 c0 c1 c2 := by simp +decide [own_y2, hc30_23]
      have eV : Arv Z h17 a1 ka .int (2 : Int32) [(.int x0), (.int (own_inc x1 c1)), (.int x2)] (.int (0 : Int32)) := V17
      exact own_retN X17 hx Bd.notSynchronized (t := .boolean) Bd.returns (by simp) (hb hby d4_46) (by rw [e17]; refine ⟨by rw [← er]; rfl, N17, k18, ?_⟩; rw [← ey0, ← ey1, ← ey2]; exact eV) (by decide) (by decide)
  · show Go p.tables e below _ (s₁.setTop (mkF m 0 #[.val (.ref a1), .val (.ref a2), .unset, .unset] []))
    refine Go.st (fun U hr => XS.iconst X0.here hx rfl (hb hby d4_0) hr) ?_
    show Go p.tables e below _ (s₁.setTop (mkF m 1 #[.val (.ref a1), .val (.ref a2), .unset, .unset] [(.int (0 : Int32))]))
    refine Go.st (fun U hr => XS.istoreN X0.here hx rfl (hb hby d4_1) rfl (l' := #[.val (.ref a1), .val (.ref a2), .val (.int (0 : Int32)), .unset]) rfl hr) ?_
    show Go p.tables e below _ (s₁.setTop (mkF m 2 #[.val (.ref a1), .val (.ref a2), .val (.int (0 : Int32)), .unset] []))
    refine Go.st (fun U hr => XS.aloadN X0.here hx rfl (hb hby d4_2) rfl rfl hr) ?_
    show Go p.tables e below _ (s₁.setTop (mkF m 3 #[.val (.ref a1), .val (.ref a2), .val (.int (0 : Int32)), .unset] [(.ref a1)]))
    obtain ⟨cl34, Ar34, qa34, Sa34, Na34, Ha34, Ga34⟩ := id V1
    refine Go.st (X0.arraylength hx (by rw [e0]; exact Ar34.1) (State.isArrayOf_alike hZ.alike Ar34.2.1) (g := (mkF m 3 #[.val (.ref a1), .val (.ref a2), .val (.int (0 : Int32)), .unset] [(.ref a1)])) rfl rfl (hb hby d4_3)) ?_
    rw [len_of Sa34 Na34]
    show Go p.tables e below _ (s₁.setTop (mkF m 4 #[.val (.ref a1), .val (.ref a2), .val (.int (0 : Int32)), .unset] [(.int (3 : Int32))]))
    refine Go.st (fun U hr => XS.iconst X0.here hx rfl (hb hby d4_4) hr) ?_
    show Go p.tables e below _ (s₁.setTop (mkF m 5 #[.val (.ref a1), .val (.ref a2), .val (.int (0 : Int32)), .unset] [(.int (1 : Int32)), (.int (3 : Int32))]))
    refine Go.st (fun U hr => XS.isub X0.here hx rfl (hb hby d4_5) rfl hr) ?_
    show Go p.tables e below _ (s₁.setTop (mkF m 6 #[.val (.ref a1), .val (.ref a2), .val (.int (0 : Int32)), .unset] [(.int ((3 : Int32) - (1 : Int32)))]))
    refine Go.st (fun U hr => XS.istoreN X0.here hx rfl (hb hby d4_6) rfl (l' := #[.val (.ref a1), .val (.ref a2), .val (.int (0 : Int32)), .val (.int ((3 : Int32) - (1 : Int32)))]) rfl hr) ?_
    show Go p.tables e below _ (s₁.setTop (mkF m 7 #[.val (.ref a1), .val (.ref a2), .val (.int (0 : Int32)), .val (.int ((3 : Int32) - (1 : Int32)))] []))
    rw [show ((3 : Int32) - (1 : Int32)) = (2 : Int32) from by decide]
    show Go p.tables e below _ (s₁.setTop (mkF m 7 #[.val (.ref a1), .val (.ref a2), .val (.int (0 : Int32)), .val (.int (2 : Int32))] []))
    refine Go.st (fun U hr => XS.iloadN X0.here hx rfl (hb hby d4_7) rfl hr) ?_
    show Go p.tables e below _ (s₁.setTop (mkF m 8 #[.val (.ref a1), .val (.ref a2), .val (.int (0 : Int32)), .val (.int (2 : Int32))] [(.int (2 : Int32))]))
    refine Go.st (fun U hr => XS.ifNo X0.here hx rfl (hb hby d4_8) rfl (by decide) hr) ?_
    show Go p.tables e below _ (s₁.setTop (mkF m 11 #[.val (.ref a1), .val (.ref a2), .val (.int (0 : Int32)), .val (.int (2 : Int32))] []))
    refine Go.st (fun U hr => XS.iloadN X0.here hx rfl (hb hby d4_11) rfl hr) ?_
    show Go p.tables e below _ (s₁.setTop (mkF m 12 #[.val (.ref a1), .val (.ref a2), .val (.int (0 : Int32)), .val (.int (2 : Int32))] [(.int (0 : Int32))]))
    refine Go.st (fun U hr => XS.ifNo X0.here hx rfl (hb hby d4_12) rfl (by decide) hr) ?_
    show Go p.tables e below _ (s₁.setTop (mkF m 15 #[.val (.ref a1), .val (.ref a2), .val (.int (0 : Int32)), .val (.int (2 : Int32))] []))
    refine Go.st (fun U hr => XS.aloadN X0.here hx rfl (hb hby d4_15) rfl rfl hr) ?_
    show Go p.tables e below _ (s₁.setTop (mkF m 16 #[.val (.ref a1), .val (.ref a2), .val (.int (0 : Int32)), .val (.int (2 : Int32))] [(.ref a1)]))
    refine Go.st (fun U hr => XS.iloadN X0.here hx rfl (hb hby d4_16) rfl hr) ?_
    show Go p.tables e below _ (s₁.setTop (mkF m 17 #[.val (.ref a1), .val (.ref a2), .val (.int (0 : Int32)), .val (.int (2 : Int32))] [(.int (2 : Int32)), (.ref a1)]))
    refine Go.st (fun U hr => XS.aloadN X0.here hx rfl (hb hby d4_17) rfl rfl hr) ?_
    show Go p.tables e below _ (s₁.setTop (mkF m 18 #[.val (.ref a1), .val (.ref a2), .val (.int (0 : Int32)), .val (.int (2 : Int32))] [(.ref a1), (.int (2 : Int32)), (.ref a1)]))
    refine Go.st (fun U hr => XS.iloadN X0.here hx rfl (hb hby d4_18) rfl hr) ?_
    show Go p.tables e below _ (s₁.setTop (mkF m 19 #[.val (.ref a1), .val (.ref a2), .val (.int (0 : Int32)), .val (.int (2 : Int32))] [(.int (2 : Int32)), (.ref a1), (.int (2 : Int32)), (.ref a1)]))
    obtain ⟨cl35, Ar35, qa35, Sa35, Na35, Ha35, Ga35⟩ := id V1
    have hin35 : ¬ ((2 : Int32) < 0 ∨ cl35.slots.size ≤ ((2 : Int32)).toNatClampNeg) := inb_of Sa35 ⟨by decide, by decide⟩
    refine Go.st (X0.iaload hx (j := (2 : Int32)) (v := (.int x2)) (by rw [e0]; exact Ar35.1) (State.isArrayOf_alike hZ.alike Ar35.2.1) Ar35.2.2 hin35 (Ha35.at hin35 rfl) (g := (mkF m 19 #[.val (.ref a1), .val (.ref a2), .val (.int (0 : Int32)), .val (.int (2 : Int32))] [(.int (2 : Int32)), (.ref a1), (.int (2 : Int32)), (.ref a1)])) rfl rfl (hb hby d4_19)) ?_
    show Go p.tables e below _ (s₁.setTop (mkF m 20 #[.val (.ref a1), .val (.ref a2), .val (.int (0 : Int32)), .val (.int (2 : Int32))] [(.int x2), (.int (2 : Int32)), (.ref a1)]))
    refine Go.st (fun U hr => XS.iconst X0.here hx rfl (hb hby d4_20) hr) ?_
    show Go p.tables e below _ (s₁.setTop (mkF m 21 #[.val (.ref a1), .val (.ref a2), .val (.int (0 : Int32)), .val (.int (2 : Int32))] [(.int (1 : Int32)), (.int x2), (.int (2 : Int32)), (.ref a1)]))
    refine Go.st (fun U hr => XS.iadd X0.here hx rfl (hb hby d4_21) rfl hr) ?_
    show Go p.tables e below _ (s₁.setTop (mkF m 22 #[.val (.ref a1), .val (.ref a2), .val (.int (0 : Int32)), .val (.int (2 : Int32))] [(.int (x2 + (1 : Int32))), (.int (2 : Int32)), (.ref a1)]))
    refine Go.st (fun U hr => XS.aloadN X0.here hx rfl (hb hby d4_22) rfl rfl hr) ?_
    show Go p.tables e below _ (s₁.setTop (mkF m 23 #[.val (.ref a1), .val (.ref a2), .val (.int (0 : Int32)), .val (.int (2 : Int32))] [(.ref a2), (.int (x2 + (1 : Int32))), (.int (2 : Int32)), (.ref a1)]))
    refine Go.st (fun U hr => XS.iloadN X0.here hx rfl (hb hby d4_23) rfl hr) ?_
    show Go p.tables e below _ (s₁.setTop (mkF m 24 #[.val (.ref a1), .val (.ref a2), .val (.int (0 : Int32)), .val (.int (2 : Int32))] [(.int (2 : Int32)), (.ref a2), (.int (x2 + (1 : Int32))), (.int (2 : Int32)), (.ref a1)]))
    obtain ⟨cl36, Ar36, qa36, Sa36, Na36, Ha36, Ga36⟩ := id V2
    have hin36 : ¬ ((2 : Int32) < 0 ∨ cl36.slots.size ≤ ((2 : Int32)).toNatClampNeg) := inb_of Sa36 ⟨by decide, by decide⟩
    refine Go.st (X0.iaload hx (j := (2 : Int32)) (v := (.int c2)) (by rw [e0]; exact Ar36.1) (State.isArrayOf_alike hZ.alike Ar36.2.1) Ar36.2.2 hin36 (Ha36.at hin36 rfl) (g := (mkF m 24 #[.val (.ref a1), .val (.ref a2), .val (.int (0 : Int32)), .val (.int (2 : Int32))] [(.int (2 : Int32)), (.ref a2), (.int (x2 + (1 : Int32))), (.int (2 : Int32)), (.ref a1)])) rfl rfl (hb hby d4_24)) ?_
    show Go p.tables e below _ (s₁.setTop (mkF m 25 #[.val (.ref a1), .val (.ref a2), .val (.int (0 : Int32)), .val (.int (2 : Int32))] [(.int c2), (.int (x2 + (1 : Int32))), (.int (2 : Int32)), (.ref a1)]))
    refine Go.st (fun U hr => XS.irem X0.here hx rfl (hb hby d4_25) rfl (by assumption) hr) ?_
    show Go p.tables e below _ (s₁.setTop (mkF m 26 #[.val (.ref a1), .val (.ref a2), .val (.int (0 : Int32)), .val (.int (2 : Int32))] [(.int ((x2 + (1 : Int32)) - ((x2 + (1 : Int32)) / c2) * c2)), (.int (2 : Int32)), (.ref a1)]))
    rw [own_inc_eq x2 c2 hx2]
    show Go p.tables e below _ (s₁.setTop (mkF m 26 #[.val (.ref a1), .val (.ref a2), .val (.int (0 : Int32)), .val (.int (2 : Int32))] [(.int (own_inc x2 c2)), (.int (2 : Int32)), (.ref a1)]))
    obtain ⟨cl37, Ar37, qa37, Sa37, Na37, Ha37, Ga37⟩ := id V1
    have hin37 : ¬ ((2 : Int32) < 0 ∨ cl37.slots.size ≤ ((2 : Int32)).toNatClampNeg) := inb_of Sa37 ⟨by decide, by decide⟩
    obtain ⟨T38, h38, X38, e38, W38, st38⟩ := stI X0 hx hZ e0 Ar37 (j := (2 : Int32)) hin37 (g := (mkF m 26 #[.val (.ref a1), .val (.ref a2), .val (.int (0 : Int32)), .val (.int (2 : Int32))] [(.int (own_inc x2 c2)), (.int (2 : Int32)), (.ref a1)])) rfl rfl (hb hby d4_26)
    refine Go.st st38 ?_
    have V38 := Arv.set Ar37 qa37 Sa37 Na37 Ha37 Ga37 rfl W38 2 rfl (Nat.le_of_ble_eq_true rfl)
    have k39 := ((Keep.refl h0 [a1])).wr W38 (Or.inl (List.mem_of_getElem? (i := 0) rfl))
    have f41 := (V2).other W38 ne12
    have z42 := Nat.le_trans Z0 (Keep.of_wr W38).1
    have N38 := Fr.snoc X38 N0 g1
    show Go p.tables e below _ (T38.setTop (mkF m 27 #[.val (.ref a1), .val (.ref a2), .val (.int (0 : Int32)), .val (.int (2 : Int32))] []))
    refine Go.st (fun U hr => XS.aloadN X38.here hx rfl (hb hby d4_27) rfl rfl hr) ?_
    show Go p.tables e below _ (T38.setTop (mkF m 28 #[.val (.ref a1), .val (.ref a2), .val (.int (0 : Int32)), .val (.int (2 : Int32))] [(.ref a1)]))
    refine Go.st (fun U hr => XS.iloadN X38.here hx rfl (hb hby d4_28) rfl hr) ?_
    show Go p.tables e below _ (T38.setTop (mkF m 29 #[.val (.ref a1), .val (.ref a2), .val (.int (0 : Int32)), .val (.int (2 : Int32))] [(.int (2 : Int32)), (.ref a1)]))
    obtain ⟨cl43, Ar43, qa43, Sa43, Na43, Ha43, Ga43⟩ := id V38
    have hin43 : ¬ ((2 : Int32) < 0 ∨ cl43.slots.size ≤ ((2 : Int32)).toNatClampNeg) := inb_of Sa43 ⟨by decide, by decide⟩
    refine Go.st (X38.iaload hx (j := (2 : Int32)) (v := (.int (own_inc x2 c2))) (by rw [e38]; exact Ar43.1) (State.isArrayOf_alike hZ.alike Ar43.2.1) Ar43.2.2 hin43 (Ha43.at hin43 rfl) (g := (mkF m 29 #[.val (.ref a1), .val (.ref a2), .val (.int (0 : Int32)), .val (.int (2 : Int32))] [(.int (2 : Int32)), (.ref a1)])) rfl rfl (hb hby d4_29)) ?_
    show Go p.tables e below _ (T38.setTop (mkF m 30 #[.val (.ref a1), .val (.ref a2), .val (.int (0 : Int32)), .val (.int (2 : Int32))] [(.int (own_inc x2 c2))]))
    by_cases hc30_44 : (own_inc x2 c2) = (0 : Int32)
    · refine Go.st (fun U hr => XS.ifYes X38.here hx rfl (pc0 := 30) (pc' := 37) rfl (hb hby d4_30) rfl ((if0 _ _).trans (teq hc30_44).1) (by decide) (by decide) hr) ?_
      show Go p.tables e below _ (T38.setTop (mkF m 37 #[.val (.ref a1), .val (.ref a2), .val (.int (0 : Int32)), .val (.int (2 : Int32))] []))
      refine Go.st (fun U hr => XS.iconst X38.here hx rfl (hb hby d4_37) hr) ?_
      show Go p.tables e below _ (T38.setTop (mkF m 38 #[.val (.ref a1), .val (.ref a2), .val (.int (0 : Int32)), .val (.int (2 : Int32))] [(.int (0 : Int32))]))
      refine Go.st (fun U hr => XS.istoreN X38.here hx rfl (hb hby d4_38) rfl (l' := #[.val (.ref a1), .val (.ref a2), .val (.int (0 : Int32)), .val (.int (2 : Int32))]) rfl hr) ?_
      show Go p.tables e below _ (T38.setTop (mkF m 39 #[.val (.ref a1), .val (.ref a2), .val (.int (0 : Int32)), .val (.int (2 : Int32))] []))
      refine Go.st (fun U hr => XS.iinc X38.here hx rfl (hb hby d4_39) rfl (l' := #[.val (.ref a1), .val (.ref a2), .val (.int (0 : Int32)), .val (.int ((2 : Int32) + (-1 : Int32)))]) rfl hr) ?_
      show Go p.tables e below _ (T38.setTop (mkF m 42 #[.val (.ref a1), .val (.ref a2), .val (.int (0 : Int32)), .val (.int ((2 : Int32) + (-1 : Int32)))] []))
      refine Go.st (fun U hr => XS.goto X38.here hx rfl (pc0 := 42) (pc' := 7) rfl (hb hby d4_42) (by decide) (by decide) hr) ?_
      show Go p.tables e below _ (T38.setTop (mkF m 7 #[.val (.ref a1), .val (.ref a2), .val (.int (0 : Int32)), .val (.int ((2 : Int32) + (-1 : Int32)))] []))
      rw [show ((2 : Int32) + (-1 : Int32)) = (1 : Int32) from by decide]
      show Go p.tables e below _ (T38.setTop (mkF m 7 #[.val (.ref a1), .val (.ref a2), .val (.int (0 : Int32)), .val (.int (1 : Int32))] []))
      refine Go.st (fun U hr => XS.iloadN X38.here hx rfl (hb hby d4_7) rfl hr) ?_
      show Go p.tables e below _ (T38.setTop (mkF m 8 #[.val (.ref a1), .val (.ref a2), .val (.int (0 : Int32)), .val (.int (1 : Int32))] [(.int (1 : Int32))]))
      refine Go.st (fun U hr => XS.ifNo X38.here hx rfl (hb hby d4_8) rfl (by decide) hr) ?_
      show Go p.tables e below _ (T38.setTop (mkF m 11 #[.val (.ref a1), .val (.ref a2), .val (.int (0 : Int32)), .val (.int (1 : Int32))] []))
      refine Go.st (fun U hr => XS.iloadN X38.here hx rfl (hb hby d4_11) rfl hr) ?_
      show Go p.tables e below _ (T38.setTop (mkF m 12 #[.val (.ref a1), .val (.ref a2), .val (.int (0 : Int32)), .val (.int (1 : Int32))] [(.int (0 : Int32))]))
      refine Go.st (fun U hr => XS.ifNo X38.here hx rfl (hb hby d4_12) rfl (by decide) hr) ?_
      show Go p.tables e below _ (T38.setTop (mkF m 15 #[.val (.ref a1), .val (.ref a2), .val (.int (0 : Int32)), .val (.int (1 : Int32))] []))
      refine Go.st (fun U hr => XS.aloadN X38.here hx rfl (hb hby d4_15) rfl rfl hr) ?_
      show Go p.tables e below _ (T38.setTop (mkF m 16 #[.val (.ref a1), .val (.ref a2), .val (.int (0 : Int32)), .val (.int (1 : Int32))] [(.ref a1)]))
      refine Go.st (fun U hr => XS.iloadN X38.here hx rfl (hb hby d4_16) rfl hr) ?_
      show Go p.tables e below _ (T38.setTop (mkF m 17 #[.val (.ref a1), .val (.ref a2), .val (.int (0 : Int32)), .val (.int (1 : Int32))] [(.int (1 : Int32)), (.ref a1)]))
      refine Go.st (fun U hr => XS.aloadN X38.here hx rfl (hb hby d4_17) rfl rfl hr) ?_
      show Go p.tables e below _ (T38.setTop (mkF m 18 #[.val (.ref a1), .val (.ref a2), .val (.int (0 : Int32)), .val (.int (1 : Int32))] [(.ref a1), (.int (1 : Int32)), (.ref a1)]))
      refine Go.st (fun U hr => XS.iloadN X38.here hx rfl (hb hby d4_18) rfl hr) ?_
      show Go p.tables e below _ (T38.setTop (mkF m 19 #[.val (.ref a1), .val (.ref a2), .val (.int (0 : Int32)), .val (.int (1 : Int32))] [(.int (1 : Int32)), (.ref a1), (.int (1 : Int32)), (.ref a1)]))
      obtain ⟨cl45, Ar45, qa45, Sa45, Na45, Ha45, Ga45⟩ := id V38
      have hin45 : ¬ ((1 : Int32) < 0 ∨ cl45.slots.size ≤ ((1 : Int32)).toNatClampNeg) := inb_of Sa45 ⟨by decide, by decide⟩
      refine Go.st (X38.iaload hx (j := (1 : Int32)) (v := (.int x1)) (by rw [e38]; exact Ar45.1) (State.isArrayOf_alike hZ.alike Ar45.2.1) Ar45.2.2 hin45 (Ha45.at hin45 rfl) (g := (mkF m 19 #[.val (.ref a1), .val (.ref a2), .val (.int (0 : Int32)), .val (.int (1 : Int32))] [(.int (1 : Int32)), (.ref a1), (.int (1 : Int32)), (.ref a1)])) rfl rfl (hb hby d4_19)) ?_
      show Go p.tables e below _ (T38.setTop (mkF m 20 #[.val (.ref a1), .val (.ref a2), .val (.int (0 : Int32)), .val (.int (1 : Int32))] [(.int x1), (.int (1 : Int32)), (.ref a1)]))
      refine Go.st (fun U hr => XS.iconst X38.here hx rfl (hb hby d4_20) hr) ?_
      show Go p.tables e below _ (T38.setTop (mkF m 21 #[.val (.ref a1), .val (.ref a2), .val (.int (0 : Int32)), .val (.int (1 : Int32))] [(.int (1 : Int32)), (.int x1), (.int (1 : Int32)), (.ref a1)]))
      refine Go.st (fun U hr => XS.iadd X38.here hx rfl (hb hby d4_21) rfl hr) ?_
      show Go p.tables e below _ (T38.setTop (mkF m 22 #[.val (.ref a1), .val (.ref a2), .val (.int (0 : Int32)), .val (.int (1 : Int32))] [(.int (x1 + (1 : Int32))), (.int (1 : Int32)), (.ref a1)]))
      refine Go.st (fun U hr => XS.aloadN X38.here hx rfl (hb hby d4_22) rfl rfl hr) ?_
      show Go p.tables e below _ (T38.setTop (mkF m 23 #[.val (.ref a1), .val (.ref a2), .val (.int (0 : Int32)), .val (.int (1 : Int32))] [(.ref a2), (.int (x1 + (1 : Int32))), (.int (1 : Int32)), (.ref a1)]))
      refine Go.st (fun U hr => XS.iloadN X38.here hx rfl (hb hby d4_23) rfl hr) ?_
      show Go p.tables e below _ (T38.setTop (mkF m 24 #[.val (.ref a1), .val (.ref a2), .val (.int (0 : Int32)), .val (.int (1 : Int32))] [(.int (1 : Int32)), (.ref a2), (.int (x1 + (1 : Int32))), (.int (1 : Int32)), (.ref a1)]))
      obtain ⟨cl46, Ar46, qa46, Sa46, Na46, Ha46, Ga46⟩ := id f41
      have hin46 : ¬ ((1 : Int32) < 0 ∨ cl46.slots.size ≤ ((1 : Int32)).toNatClampNeg) := inb_of Sa46 ⟨by decide, by decide⟩
      refine Go.st (X38.iaload hx (j := (1 : Int32)) (v := (.int c1)) (by rw [e38]; exact Ar46.1) (State.isArrayOf_alike hZ.alike Ar46.2.1) Ar46.2.2 hin46 (Ha46.at hin46 rfl) (g := (mkF m 24 #[.val (.ref a1), .val (.ref a2), .val (.int (0 : Int32)), .val (.int (1 : Int32))] [(.int (1 : Int32)), (.ref a2), (.int (x1 + (1 : Int32))), (.int (1 : Int32)), (.ref a1)])) rfl rfl (hb hby d4_24)) ?_
      show Go p.tables e below _ (T38.setTop (mkF m 25 #[.val (.ref a1), .val (.ref a2), .val (.int (0 : Int32)), .val (.int (1 : Int32))] [(.int c1), (.int (x1 + (1 : Int32))), (.int (1 : Int32)), (.ref a1)]))
      refine Go.st (fun U hr => XS.irem X38.here hx rfl (hb hby d4_25) rfl (by assumption) hr) ?_
      show Go p.tables e below _ (T38.setTop (mkF m 26 #[.val (.ref a1), .val (.ref a2), .val (.int (0 : Int32)), .val (.int (1 : Int32))] [(.int ((x1 + (1 : Int32)) - ((x1 + (1 : Int32)) / c1) * c1)), (.int (1 : Int32)), (.ref a1)]))
      rw [own_inc_eq x1 c1 hx1]
      show Go p.tables e below _ (T38.setTop (mkF m 26 #[.val (.ref a1), .val (.ref a2), .val (.int (0 : Int32)), .val (.int (1 : Int32))] [(.int (own_inc x1 c1)), (.int (1 : Int32)), (.ref a1)]))
      obtain ⟨cl47, Ar47, qa47, Sa47, Na47, Ha47, Ga47⟩ := id V38
      have hin47 : ¬ ((1 : Int32) < 0 ∨ cl47.slots.size ≤ ((1 : Int32)).toNatClampNeg) := inb_of Sa47 ⟨by decide, by decide⟩
      obtain ⟨T48, h48, X48, e48, W48, st48⟩ := stI X38 hx hZ e38 Ar47 (j := (1 : Int32)) hin47 (g := (mkF m 26 #[.val (.ref a1), .val (.ref a2), .val (.int (0 : Int32)), .val (.int (1 : Int32))] [(.int (own_inc x1 c1)), (.int (1 : Int32)), (.ref a1)])) rfl rfl (hb hby d4_26)
      refine Go.st st48 ?_
      have V48 := Arv.set Ar47 qa47 Sa47 Na47 Ha47 Ga47 rfl W48 1 rfl (Nat.le_of_ble_eq_true rfl)
      have k49 := (k39).wr W48 (Or.inl (List.mem_of_getElem? (i := 0) rfl))
      have f50 := (f41).other W48 ne12
      have z52 := Nat.le_trans z42 (Keep.of_wr W48).1
      have N48 := Fr.snoc X48 N38 g1
      show Go p.tables e below _ (T48.setTop (mkF m 27 #[.val (.ref a1), .val (.ref a2), .val (.int (0 : Int32)), .val (.int (1 : Int32))] []))
      refine Go.st (fun U hr => XS.aloadN X48.here hx rfl (hb hby d4_27) rfl rfl hr) ?_
      show Go p.tables e below _ (T48.setTop (mkF m 28 #[.val (.ref a1), .val (.ref a2), .val (.int (0 : Int32)), .val (.int (1 : Int32))] [(.ref a1)]))
      refine Go.st (fun U hr => XS.iloadN X48.here hx rfl (hb hby d4_28) rfl hr) ?_
      show Go p.tables e below _ (T48.setTop (mkF m 29 #[.val (.ref a1), .val (.ref a2), .val (.int (0 : Int32)), .val (.int (1 : Int32))] [(.int (1 : Int32)), (.ref a1)]))
      obtain ⟨cl53, Ar53, qa53, Sa53, Na53, Ha53, Ga53⟩ := id V48
      have hin53 : ¬ ((1 : Int32) < 0 ∨ cl53.slots.size ≤ ((1 : Int32)).toNatClampNeg) := inb_of Sa53 ⟨by decide, by decide⟩
      refine Go.st (X48.iaload hx (j := (1 : Int32)) (v := (.int (own_inc x1 c1))) (by rw [e48]; exact Ar53.1) (State.isArrayOf_alike hZ.alike Ar53.2.1) Ar53.2.2 hin53 (Ha53.at hin53 rfl) (g := (mkF m 29 #[.val (.ref a1), .val (.ref a2), .val (.int (0 : Int32)), .val (.int (1 : Int32))] [(.int (1 : Int32)), (.ref a1)])) rfl rfl (hb hby d4_29)) ?_
      show Go p.tables e below _ (T48.setTop (mkF m 30 #[.val (.ref a1), .val (.ref a2), .val (.int (0 : Int32)), .val (.int (1 : Int32))] [(.int (own_inc x1 c1))]))
      by_cases hc30_54 : (own_inc x1 c1) = (0 : Int32)
      · refine Go.st (fun U hr => XS.ifYes X48.here hx rfl (pc0 := 30) (pc' := 37) rfl (hb hby d4_30) rfl ((if0 _ _).trans (teq hc30_54).1) (by decide) (by decide) hr) ?_
        show Go p.tables e below _ (T48.setTop (mkF m 37 #[.val (.ref a1), .val (.ref a2), .val (.int (0 : Int32)), .val (.int (1 : Int32))] []))
        refine Go.st (fun U hr => XS.iconst X48.here hx rfl (hb hby d4_37) hr) ?_
        show Go p.tables e below _ (T48.setTop (mkF m 38 #[.val (.ref a1), .val (.ref a2), .val (.int (0 : Int32)), .val (.int (1 : Int32))] [(.int (0 : Int32))]))
        refine Go.st (fun U hr => XS.istoreN X48.here hx rfl (hb hby d4_38) rfl (l' := #[.val (.ref a1), .val (.ref a2), .val (.int (0 : Int32)), .val (.int (1 : Int32))]) rfl hr) ?_
        show Go p.tables e below _ (T48.setTop (mkF m 39 #[.val (.ref a1), .val (.ref a2), .val (.int (0 : Int32)), .val (.int (1 : Int32))] []))
        refine Go.st (fun U hr => XS.iinc X48.here hx rfl (hb hby d4_39) rfl (l' := #[.val (.ref a1), .val (.ref a2), .val (.int (0 : Int32)), .val (.int ((1 : Int32) + (-1 : Int32)))]) rfl hr) ?_
        show Go p.tables e below _ (T48.setTop (mkF m 42 #[.val (.ref a1), .val (.ref a2), .val (.int (0 : Int32)), .val (.int ((1 : Int32) + (-1 : Int32)))] []))
        refine Go.st (fun U hr => XS.goto X48.here hx rfl (pc0 := 42) (pc' := 7) rfl (hb hby d4_42) (by decide) (by decide) hr) ?_
        show Go p.tables e below _ (T48.setTop (mkF m 7 #[.val (.ref a1), .val (.ref a2), .val (.int (0 : Int32)), .val (.int ((1 : Int32) + (-1 : Int32)))] []))
        rw [show ((1 : Int32) + (-1 : Int32)) = (0 : Int32) from by decide]
        show Go p.tables e below _ (T48.setTop (mkF m 7 #[.val (.ref a1), .val (.ref a2), .val (.int (0 : Int32)), .val (.int (0 : Int32))] []))
        refine Go.st (fun U hr => XS.iloadN X48.here hx rfl (hb hby d4_7) rfl hr) ?_
        show Go p.tables e below _ (T48.setTop (mkF m 8 #[.val (.ref a1), .val (.ref a2), .val (.int (0 : Int32)), .val (.int (0 : Int32))] [(.int (0 : Int32))]))
        refine Go.st (fun U hr => XS.ifNo X48.here hx rfl (hb hby d4_8) rfl (by decide) hr) ?_
        show Go p.tables e below _ (T48.setTop (mkF m 11 #[.val (.ref a1), .val (.ref a2), .val (.int (0 : Int32)), .val (.int (0 : Int32))] []))
        refine Go.st (fun U hr => XS.iloadN X48.here hx rfl (hb hby d4_11) rfl hr) ?_
        show Go p.tables e below _ (T48.setTop (mkF m 12 #[.val (.ref a1), .val (.ref a2), .val (.int (0 : Int32)), .val (.int (0 : Int32))] [(.int (0 : Int32))]))
        refine Go.st (fun U hr => XS.ifNo X48.here hx rfl (hb hby d4_12) rfl (by decide) hr) ?_
        show Go p.tables e below _ (T48.setTop (mkF m 15 #[.val (.ref a1), .val (.ref a2), .val (.int (0 : Int32)), .val (.int (0 : Int32))] []))
        refine Go.st (fun U hr => XS.aloadN X48.here hx rfl (hb hby d4_15) rfl rfl hr) ?_
        show Go p.tables e below _ (T48.setTop (mkF m 16 #[.val (.ref a1), .val (.ref a2), .val (.int (0 : Int32)), .val (.int (0 : Int32))] [(.ref a1)]))
        refine Go.st (fun U hr => XS.iloadN X48.here hx rfl (hb hby d4_16) rfl hr) ?_
        show Go p.tables e below _ (T48.setTop (mkF m 17 #[.val (.ref a1), .val (.ref a2), .val (.int (0 : Int32)), .val (.int (0 : Int32))] [(.int (0 : Int32)), (.ref a1)]))
        refine Go.st (fun U hr => XS.aloadN X48.here hx rfl (hb hby d4_17) rfl rfl hr) ?_
        show Go p.tables e below _ (T48.setTop (mkF m 18 #[.val (.ref a1), .val (.ref a2), .val (.int (0 : Int32)), .val (.int (0 : Int32))] [(.ref a1), (.int (0 : Int32)), (.ref a1)]))
        refine Go.st (fun U hr => XS.iloadN X48.here hx rfl (hb hby d4_18) rfl hr) ?_
        show Go p.tables e below _ (T48.setTop (mkF m 19 #[.val (.ref a1), .val (.ref a2), .val (.int (0 : Int32)), .val (.int (0 : Int32))] [(.int (0 : Int32)), (.ref a1), (.int (0 : Int32)), (.ref a1)]))
        obtain ⟨cl55, Ar55, qa55, Sa55, Na55, Ha55, Ga55⟩ := id V48
        have hin55 : ¬ ((0 : Int32) < 0 ∨ cl55.slots.size ≤ ((0 : Int32)).toNatClampNeg) := inb_of Sa55 ⟨by decide, by decide⟩
        refine Go.st (X48.iaload hx (j := (0 : Int32)) (v := (.int x0)) (by rw [e48]; exact Ar55.1) (State.isArrayOf_alike hZ.alike Ar55.2.1) Ar55.2.2 hin55 (Ha55.at hin55 rfl) (g := (mkF m 19 #[.val (.ref a1), .val (.ref a2), .val (.int (0 : Int32)), .val (.int (0 : Int32))] [(.int (0 : Int32)), (.ref a1), (.int (0 : Int32)), (.ref a1)])) rfl rfl (hb hby d4_19)) ?_
        show Go p.tables e below _ (T48.setTop (mkF m 20 #[.val (.ref a1), .val (.ref a2), .val (.int (0 : Int32)), .val (.int (0 : Int32))] [(.int x0), (.int (0 : Int32)), (.ref a1)]))
        refine Go.st (fun U hr => XS.iconst X48.here hx rfl (hb hby d4_20) hr) ?_
        show Go p.tables e below _ (T48.setTop (mkF m 21 #[.val (.ref a1), .val (.ref a2), .val (.int (0 : Int32)), .val (.int (0 : Int32))] [(.int (1 : Int32)), (.int x0), (.int (0 : Int32)), (.ref a1)]))
        refine Go.st (fun U hr => XS.iadd X48.here hx rfl (hb hby d4_21) rfl hr) ?_
        show Go p.tables e below _ (T48.setTop (mkF m 22 #[.val (.ref a1), .val (.ref a2), .val (.int (0 : Int32)), .val (.int (0 : Int32))] [(.int (x0 + (1 : Int32))), (.int (0 : Int32)), (.ref a1)]))
        refine Go.st (fun U hr => XS.aloadN X48.here hx rfl (hb hby d4_22) rfl rfl hr) ?_
        show Go p.tables e below _ (T48.setTop (mkF m 23 #[.val (.ref a1), .val (.ref a2), .val (.int (0 : Int32)), .val (.int (0 : Int32))] [(.ref a2), (.int (x0 + (1 : Int32))), (.int (0 : Int32)), (.ref a1)]))
        refine Go.st (fun U hr => XS.iloadN X48.here hx rfl (hb hby d4_23) rfl hr) ?_
        show Go p.tables e below _ (T48.setTop (mkF m 24 #[.val (.ref a1), .val (.ref a2), .val (.int (0 : Int32)), .val (.int (0 : Int32))] [(.int (0 : Int32)), (.ref a2), (.int (x0 + (1 : Int32))), (.int (0 : Int32)), (.ref a1)]))
        obtain ⟨cl56, Ar56, qa56, Sa56, Na56, Ha56, Ga56⟩ := id f50
        have hin56 : ¬ ((0 : Int32) < 0 ∨ cl56.slots.size ≤ ((0 : Int32)).toNatClampNeg) := inb_of Sa56 ⟨by decide, by decide⟩
        refine Go.st (X48.iaload hx (j := (0 : Int32)) (v := (.int c0)) (by rw [e48]; exact Ar56.1) (State.isArrayOf_alike hZ.alike Ar56.2.1) Ar56.2.2 hin56 (Ha56.at hin56 rfl) (g := (mkF m 24 #[.val (.ref a1), .val (.ref a2), .val (.int (0 : Int32)), .val (.int (0 : Int32))] [(.int (0 : Int32)), (.ref a2), (.int (x0 + (1 : Int32))), (.int (0 : Int32)), (.ref a1)])) rfl rfl (hb hby d4_24)) ?_
        show Go p.tables e below _ (T48.setTop (mkF m 25 #[.val (.ref a1), .val (.ref a2), .val (.int (0 : Int32)), .val (.int (0 : Int32))] [(.int c0), (.int (x0 + (1 : Int32))), (.int (0 : Int32)), (.ref a1)]))
        refine Go.st (fun U hr => XS.irem X48.here hx rfl (hb hby d4_25) rfl (by assumption) hr) ?_
        show Go p.tables e below _ (T48.setTop (mkF m 26 #[.val (.ref a1), .val (.ref a2), .val (.int (0 : Int32)), .val (.int (0 : Int32))] [(.int ((x0 + (1 : Int32)) - ((x0 + (1 : Int32)) / c0) * c0)), (.int (0 : Int32)), (.ref a1)]))
        rw [own_inc_eq x0 c0 hx0]
        show Go p.tables e below _ (T48.setTop (mkF m 26 #[.val (.ref a1), .val (.ref a2), .val (.int (0 : Int32)), .val (.int (0 : Int32))] [(.int (own_inc x0 c0)), (.int (0 : Int32)), (.ref a1)]))
        obtain ⟨cl57, Ar57, qa57, Sa57, Na57, Ha57, Ga57⟩ := id V48
        have hin57 : ¬ ((0 : Int32) < 0 ∨ cl57.slots.size ≤ ((0 : Int32)).toNatClampNeg) := inb_of Sa57 ⟨by decide, by decide⟩
        obtain ⟨T58, h58, X58, e58, W58, st58⟩ := stI X48 hx hZ e48 Ar57 (j := (0 : Int32)) hin57 (g := (mkF m 26 #[.val (.ref a1), .val (.ref a2), .val (.int (0 : Int32)), .val (.int (0 : Int32))] [(.int (own_inc x0 c0)), (.int (0 : Int32)), (.ref a1)])) rfl rfl (hb hby d4_26)
        refine Go.st st58 ?_
        have V58 := Arv.set Ar57 qa57 Sa57 Na57 Ha57 Ga57 rfl W58 0 rfl (Nat.le_of_ble_eq_true rfl)
        have k59 := (k49).wr W58 (Or.inl (List.mem_of_getElem? (i := 0) rfl))
        have f60 := (f50).other W58 ne12
        have z62 := Nat.le_trans z52 (Keep.of_wr W58).1
        have N58 := Fr.snoc X58 N48 g1
        show Go p.tables e below _ (T58.setTop (mkF m 27 #[.val (.ref a1), .val (.ref a2), .val (.int (0 : Int32)), .val (.int (0 : Int32))] []))
        refine Go.st (fun U hr => XS.aloadN X58.here hx rfl (hb hby d4_27) rfl rfl hr) ?_
        show Go p.tables e below _ (T58.setTop (mkF m 28 #[.val (.ref a1), .val (.ref a2), .val (.int (0 : Int32)), .val (.int (0 : Int32))] [(.ref a1)]))
        refine Go.st (fun U hr => XS.iloadN X58.here hx rfl (hb hby d4_28) rfl hr) ?_
        show Go p.tables e below _ (T58.setTop (mkF m 29 #[.val (.ref a1), .val (.ref a2), .val (.int (0 : Int32)), .val (.int (0 : Int32))] [(.int (0 : Int32)), (.ref a1)]))
        obtain ⟨cl63, Ar63, qa63, Sa63, Na63, Ha63, Ga63⟩ := id V58
        have hin63 : ¬ ((0 : Int32) < 0 ∨ cl63.slots.size ≤ ((0 : Int32)).toNatClampNeg) := inb_of Sa63 ⟨by decide, by decide⟩
        refine Go.st (X58.iaload hx (j := (0 : Int32)) (v := (.int (own_inc x0 c0))) (by rw [e58]; exact Ar63.1) (State.isArrayOf_alike hZ.alike Ar63.2.1) Ar63.2.2 hin63 (Ha63.at hin63 rfl) (g := (mkF m 29 #[.val (.ref a1), .val (.ref a2), .val (.int (0 : Int32)), .val (.int (0 : Int32))] [(.int (0 : Int32)), (.ref a1)])) rfl rfl (hb hby d4_29)) ?_
        show Go p.tables e below _ (T58.setTop (mkF m 30 #[.val (.ref a1), .val (.ref a2), .val (.int (0 : Int32)), .val (.int (0 : Int32))] [(.int (own_inc x0 c0))]))
        by_cases hc30_64 : (own_inc x0 c0) = (0 : Int32)
        · refine Go.st (fun U hr => XS.ifYes X58.here hx rfl (pc0 := 30) (pc' := 37) rfl (hb hby d4_30) rfl ((if0 _ _).trans (teq hc30_64).1) (by decide) (by decide) hr) ?_
          show Go p.tables e below _ (T58.setTop (mkF m 37 #[.val (.ref a1), .val (.ref a2), .val (.int (0 : Int32)), .val (.int (0 : Int32))] []))
          refine Go.st (fun U hr => XS.iconst X58.here hx rfl (hb hby d4_37) hr) ?_
          show Go p.tables e below _ (T58.setTop (mkF m 38 #[.val (.ref a1), .val (.ref a2), .val (.int (0 : Int32)), .val (.int (0 : Int32))] [(.int (0 : Int32))]))
          refine Go.st (fun U hr => XS.istoreN X58.here hx rfl (hb hby d4_38) rfl (l' := #[.val (.ref a1), .val (.ref a2), .val (.int (0 : Int32)), .val (.int (0 : Int32))]) rfl hr) ?_
          show Go p.tables e below _ (T58.setTop (mkF m 39 #[.val (.ref a1), .val (.ref a2), .val (.int (0 : Int32)), .val (.int (0 : Int32))] []))
          refine Go.st (fun U hr => XS.iinc X58.here hx rfl (hb hby d4_39) rfl (l' := #[.val (.ref a1), .val (.ref a2), .val (.int (0 : Int32)), .val (.int ((0 : Int32) + (-1 : Int32)))]) rfl hr) ?_
          show Go p.tables e below _ (T58.setTop (mkF m 42 #[.val (.ref a1), .val (.ref a2), .val (.int (0 : Int32)), .val (.int ((0 : Int32) + (-1 : Int32)))] []))
          refine Go.st (fun U hr => XS.goto X58.here hx rfl (pc0 := 42) (pc' := 7) rfl (hb hby d4_42) (by decide) (by decide) hr) ?_
          show Go p.tables e below _ (T58.setTop (mkF m 7 #[.val (.ref a1), .val (.ref a2), .val (.int (0 : Int32)), .val (.int ((0 : Int32) + (-1 : Int32)))] []))
          rw [show ((0 : Int32) + (-1 : Int32)) = (-1 : Int32) from by decide]
          show Go p.tables e below _ (T58.setTop (mkF m 7 #[.val (.ref a1), .val (.ref a2), .val (.int (0 : Int32)), .val (.int (-1 : Int32))] []))
          refine Go.st (fun U hr => XS.iloadN X58.here hx rfl (hb hby d4_7) rfl hr) ?_
          show Go p.tables e below _ (T58.setTop (mkF m 8 #[.val (.ref a1), .val (.ref a2), .val (.int (0 : Int32)), .val (.int (-1 : Int32))] [(.int (-1 : Int32))]))
          refine Go.st (fun U hr => XS.ifYes X58.here hx rfl (pc0 := 8) (pc' := 45) rfl (hb hby d4_8) rfl (by decide) (by decide) (by decide) hr) ?_
          show Go p.tables e below _ (T58.setTop (mkF m 45 #[.val (.ref a1), .val (.ref a2), .val (.int (0 : Int32)), .val (.int (-1 : Int32))] []))
          refine Go.st (fun U hr => XS.iloadN X58.here hx rfl (hb hby d4_45) rfl hr) ?_
          show Go p.tables e below _ (T58.setTop (mkF m 46 #[.val (.ref a1), .val (.ref a2), .val (.int (0 : Int32)), .val (.int (-1 : Int32))] [(.int (0 : Int32))]))
          have er : (0 : Int32) = own_r (3 : Int32) x0 x1 x2 c0 c1 c2 := by simp +decide [own_r, hc30_44, hc30_54, hc30_64]
          have ey0 : (own_inc x0 c0) = own_y0 (3 : Int32) x0 x1 x2 c0 c1 c2 := by simp +decide [own_y0, hc30_44, hc30_54, hc30_64]
          have ey1 : (own_inc x1 c1) = own_y1 (3 : Int32) x0 x1 x2 c0 c1 c2 := by simp +decide [own_y1, hc30_44, hc30_54, hc30_64]
          have ey2 : (own_inc x2 c2) = own_y2 (3 : Int32) x0 x1 x2 c0 c1 c2 := by simp +decide [own_y2, hc30_44, hc30_54, hc30_64]
          have eV : Arv Z h58 a1 ka .int (3 : Int32) [(.int (own_inc x0 c0)), (.int (own_inc x1 c1)), (.int (own_inc x2 c2))] (.int (0 : Int32)) := V58
          exact own_retN X58 hx Bd.notSynchronized (t := .boolean) Bd.returns (by simp) (hb hby d4_46) (by rw [e58]; refine ⟨by rw [← er]; rfl, N58, k59, ?_⟩; rw [← ey0, ← ey1, ← ey2]; exact eV) (by decide) (by decide)
        · refine Go.st (fun U hr => XS.ifNo X58.here hx rfl (hb hby d4_30) rfl ((if0 _ _).trans (feq hc30_64).1) hr) ?_
          show Go p.tables e below _ (T58.setTop (mkF m 33 #[.val (.ref a1), .val (.ref a2), .val (.int (0 : Int32)), .val (.int (0 : Int32))] []))
          refine Go.st (fun U hr => XS.iconst X58.here hx rfl (hb hby d4_33) hr) ?_
          show Go p.tables e below _ (T58.setTop (mkF m 34 #[.val (.ref a1), .val (.ref a2), .val (.int (0 : Int32)), .val (.int (0 : Int32))] [(.int (1 : Int32))]))
          refine Go.st (fun U hr => XS.goto X58.here hx rfl (pc0 := 34) (pc' := 38) rfl (hb hby d4_34) (by decide) (by decide) hr) ?_
          show Go p.tables e below _ (T58.setTop (mkF m 38 #[.val (.ref a1), .val (.ref a2), .val (.int (0 : Int32)), .val (.int (0 : Int32))] [(.int (1 : Int32))]))
          refine Go.st (fun U hr => XS.istoreN X58.here hx rfl (hb hby d4_38) rfl (l' := #[.val (.ref a1), .val (.ref a2), .val (.int (1 : Int32)), .val (.int (0 : Int32))]) rfl hr) ?_
          show Go p.tables e below _ (T58.setTop (mkF m 39 #[.val (.ref a1), .val (.ref a2), .val (.int (1 : Int32)), .val (.int (0 : Int32))] []))
          refine Go.st (fun U hr => XS.iinc X58.here hx rfl (hb hby d4_39) rfl (l' := #[.val (.ref a1), .val (.ref a2), .val (.int (1 : Int32)), .val (.int ((0 : Int32) + (-1 : Int32)))]) rfl hr) ?_
          show Go p.tables e below _ (T58.setTop (mkF m 42 #[.val (.ref a1), .val (.ref a2), .val (.int (1 : Int32)), .val (.int ((0 : Int32) + (-1 : Int32)))] []))
          refine Go.st (fun U hr => XS.goto X58.here hx rfl (pc0 := 42) (pc' := 7) rfl (hb hby d4_42) (by decide) (by decide) hr) ?_
          show Go p.tables e below _ (T58.setTop (mkF m 7 #[.val (.ref a1), .val (.ref a2), .val (.int (1 : Int32)), .val (.int ((0 : Int32) + (-1 : Int32)))] []))
          rw [show ((0 : Int32) + (-1 : Int32)) = (-1 : Int32) from by decide]
          show Go p.tables e below _ (T58.setTop (mkF m 7 #[.val (.ref a1), .val (.ref a2), .val (.int (1 : Int32)), .val (.int (-1 : Int32))] []))
          refine Go.st (fun U hr => XS.iloadN X58.here hx rfl (hb hby d4_7) rfl hr) ?_
          show Go p.tables e below _ (T58.setTop (mkF m 8 #[.val (.ref a1), .val (.ref a2), .val (.int (1 : Int32)), .val (.int (-1 : Int32))] [(.int (-1 : Int32))]))
          refine Go.st (fun U hr => XS.ifYes X58.here hx rfl (pc0 := 8) (pc' := 45) rfl (hb hby d4_8) rfl (by decide) (by decide) (by decide) hr) ?_
          show Go p.tables e below _ (T58.setTop (mkF m 45 #[.val (.ref a1), .val (.ref a2), .val (.int (1 : Int32)), .val (.int (-1 : Int32))] []))
          refine Go.st (fun U hr => XS.iloadN X58.here hx rfl (hb hby d4_45) rfl hr) ?_
          show Go p.tables e below _ (T58.setTop (mkF m 46 #[.val (.ref a1), .val (.ref a2), .val (.int (1 : Int32)), .val (.int (-1 : Int32))] [(.int (1 : Int32))]))
          have er : (1 : Int32) = own_r (3 : Int32) x0 x1 x2 c0 c1 c2 := by simp +decide [own_r, hc30_44, hc30_54, hc30_64]
          have ey0 : (own_inc x0 c0) = own_y0 (3 : Int32) x0 x1 x2 c0 c1 c2 := by simp +decide [own_y0, hc30_44, hc30_54, hc30_64]
          have ey1 : (own_inc x1 c1) = own_y1 (3 : Int32) x0 x1 x2 c0 c1 c2 := by simp +decide [own_y1, hc30_44, hc30_54, hc30_64]
          have ey2 : (own_inc x2 c2) = own_y2 (3 : Int32) x0 x1 x2 c0 c1 c2 := by simp +decide [own_y2, hc30_44, hc30_54, hc30_64]
          have eV : Arv Z h58 a1 ka .int (3 : Int32) [(.int (own_inc x0 c0)), (.int (own_inc x1 c1)), (.int (own_inc x2 c2))] (.int (0 : Int32)) := V58
          exact own_retN X58 hx Bd.notSynchronized (t := .boolean) Bd.returns (by simp) (hb hby d4_46) (by rw [e58]; refine ⟨by rw [← er]; rfl, N58, k59, ?_⟩; rw [← ey0, ← ey1, ← ey2]; exact eV) (by decide) (by decide)
      · refine Go.st (fun U hr => XS.ifNo X48.here hx rfl (hb hby d4_30) rfl ((if0 _ _).trans (feq hc30_54).1) hr) ?_
        show Go p.tables e below _ (T48.setTop (mkF m 33 #[.val (.ref a1), .val (.ref a2), .val (.int (0 : Int32)), .val (.int (1 : Int32))] []))
        refine Go.st (fun U hr => XS.iconst X48.here hx rfl (hb hby d4_33) hr) ?_
        show Go p.tables e below _ (T48.setTop (mkF m 34 #[.val (.ref a1), .val (.ref a2), .val (.int (0 : Int32)), .val (.int (1 : Int32))] [(.int (1 : Int32))]))
        refine Go.st (fun U hr => XS.goto X48.here hx rfl (pc0 := 34) (pc' := 38) rfl (hb hby d4_34) (by decide) (by decide) hr) ?_
        show Go p.tables e below _ (T48.setTop (mkF m 38 #[.val (.ref a1), .val (.ref a2), .val (.int (0 : Int32)), .val (.int (1 : Int32))] [(.int (1 : Int32))]))
        refine Go.st (fun U hr => XS.istoreN X48.here hx rfl (hb hby d4_38) rfl (l' := #[.val (.ref a1), .val (.ref a2), .val (.int (1 : Int32)), .val (.int (1 : Int32))]) rfl hr) ?_
        show Go p.tables e below _ (T48.setTop (mkF m 39 #[.val (.ref a1), .val (.ref a2), .val (.int (1 : Int32)), .val (.int (1 : Int32))] []))
        refine Go.st (fun U hr => XS.iinc X48.here hx rfl (hb hby d4_39) rfl (l' := #[.val (.ref a1), .val (.ref a2), .val (.int (1 : Int32)), .val (.int ((1 : Int32) + (-1 : Int32)))]) rfl hr) ?_
        show Go p.tables e below _ (T48.setTop (mkF m 42 #[.val (.ref a1), .val (.ref a2), .val (.int (1 : Int32)), .val (.int ((1 : Int32) + (-1 : Int32)))] []))
        refine Go.st (fun U hr => XS.goto X48.here hx rfl (pc0 := 42) (pc' := 7) rfl (hb hby d4_42) (by decide) (by decide) hr) ?_
        show Go p.tables e below _ (T48.setTop (mkF m 7 #[.val (.ref a1), .val (.ref a2), .val (.int (1 : Int32)), .val (.int ((1 : Int32) + (-1 : Int32)))] []))
        rw [show ((1 : Int32) + (-1 : Int32)) = (0 : Int32) from by decide]
        show Go p.tables e below _ (T48.setTop (mkF m 7 #[.val (.ref a1), .val (.ref a2), .val (.int (1 : Int32)), .val (.int (0 : Int32))] []))
        refine Go.st (fun U hr => XS.iloadN X48.here hx rfl (hb hby d4_7) rfl hr) ?_
        show Go p.tables e below _ (T48.setTop (mkF m 8 #[.val (.ref a1), .val (.ref a2), .val (.int (1 : Int32)), .val (.int (0 : Int32))] [(.int (0 : Int32))]))
        refine Go.st (fun U hr => XS.ifNo X48.here hx rfl (hb hby d4_8) rfl (by decide) hr) ?_
        show Go p.tables e below _ (T48.setTop (mkF m 11 #[.val (.ref a1), .val (.ref a2), .val (.int (1 : Int32)), .val (.int (0 : Int32))] []))
        refine Go.st (fun U hr => XS.iloadN X48.here hx rfl (hb hby d4_11) rfl hr) ?_
        show Go p.tables e below _ (T48.setTop (mkF m 12 #[.val (.ref a1), .val (.ref a2), .val (.int (1 : Int32)), .val (.int (0 : Int32))] [(.int (1 : Int32))]))
        refine Go.st (fun U hr => XS.ifYes X48.here hx rfl (pc0 := 12) (pc' := 45) rfl (hb hby d4_12) rfl (by decide) (by decide) (by decide) hr) ?_
        show Go p.tables e below _ (T48.setTop (mkF m 45 #[.val (.ref a1), .val (.ref a2), .val (.int (1 : Int32)), .val (.int (0 : Int32))] []))
        refine Go.st (fun U hr => XS.iloadN X48.here hx rfl (hb hby d4_45) rfl hr) ?_
        show Go p.tables e below _ (T48.setTop (mkF m 46 #[.val (.ref a1), .val (.ref a2), .val (.int (1 : Int32)), .val (.int (0 : Int32))] [(.int (1 : Int32))]))
        have er : (1 : Int32) = own_r (3 : Int32) x0 x1 x2 c0 c1 c2 := by simp +decide [own_r, hc30_44, hc30_54]
        have ey0 : x0 = own_y0 (3 : Int32) x0 x1 x2 c0 c1 c2 := by simp +decide [own_y0, hc30_44, hc30_54]
        have ey1 : (own_inc x1 c1) = own_y1 (3 : Int32) x0 x1 x2 c0 c1 c2 := by simp +decide [own_y1, hc30_44, hc30_54]
        have ey2 : (own_inc x2 c2) = own_y2 (3 : Int32) x0 x1 x2 c0 c1 c2 := by simp +decide [own_y2, hc30_44, hc30_54]
        have eV : Arv Z h48 a1 ka .int (3 : Int32) [(.int x0), (.int (own_inc x1 c1)), (.int (own_inc x2 c2))] (.int (0 : Int32)) := V48
        exact own_retN X48 hx Bd.notSynchronized (t := .boolean) Bd.returns (by simp) (hb hby d4_46) (by rw [e48]; refine ⟨by rw [← er]; rfl, N48, k49, ?_⟩; rw [← ey0, ← ey1, ← ey2]; exact eV) (by decide) (by decide)
    · refine Go.st (fun U hr => XS.ifNo X38.here hx rfl (hb hby d4_30) rfl ((if0 _ _).trans (feq hc30_44).1) hr) ?_
      show Go p.tables e below _ (T38.setTop (mkF m 33 #[.val (.ref a1), .val (.ref a2), .val (.int (0 : Int32)), .val (.int (2 : Int32))] []))
      refine Go.st (fun U hr => XS.iconst X38.here hx rfl (hb hby d4_33) hr) ?_
      show Go p.tables e below _ (T38.setTop (mkF m 34 #[.val (.ref a1), .val (.ref a2), .val (.int (0 : Int32)), .val (.int (2 : Int32))] [(.int (1 : Int32))]))
      refine Go.st (fun U hr => XS.goto X38.here hx rfl (pc0 := 34) (pc' := 38) rfl (hb hby d4_34) (by decide) (by decide) hr) ?_
      show Go p.tables e below _ (T38.setTop (mkF m 38 #[.val (.ref a1), .val (.ref a2), .val (.int (0 : Int32)), .val (.int (2 : Int32))] [(.int (1 : Int32))]))
      refine Go.st (fun U hr => XS.istoreN X38.here hx rfl (hb hby d4_38) rfl (l' := #[.val (.ref a1), .val (.ref a2), .val (.int (1 : Int32)), .val (.int (2 : Int32))]) rfl hr) ?_
      show Go p.tables e below _ (T38.setTop (mkF m 39 #[.val (.ref a1), .val (.ref a2), .val (.int (1 : Int32)), .val (.int (2 : Int32))] []))
      refine Go.st (fun U hr => XS.iinc X38.here hx rfl (hb hby d4_39) rfl (l' := #[.val (.ref a1), .val (.ref a2), .val (.int (1 : Int32)), .val (.int ((2 : Int32) + (-1 : Int32)))]) rfl hr) ?_
      show Go p.tables e below _ (T38.setTop (mkF m 42 #[.val (.ref a1), .val (.ref a2), .val (.int (1 : Int32)), .val (.int ((2 : Int32) + (-1 : Int32)))] []))
      refine Go.st (fun U hr => XS.goto X38.here hx rfl (pc0 := 42) (pc' := 7) rfl (hb hby d4_42) (by decide) (by decide) hr) ?_
      show Go p.tables e below _ (T38.setTop (mkF m 7 #[.val (.ref a1), .val (.ref a2), .val (.int (1 : Int32)), .val (.int ((2 : Int32) + (-1 : Int32)))] []))
      rw [show ((2 : Int32) + (-1 : Int32)) = (1 : Int32) from by decide]
      show Go p.tables e below _ (T38.setTop (mkF m 7 #[.val (.ref a1), .val (.ref a2), .val (.int (1 : Int32)), .val (.int (1 : Int32))] []))
      refine Go.st (fun U hr => XS.iloadN X38.here hx rfl (hb hby d4_7) rfl hr) ?_
      show Go p.tables e below _ (T38.setTop (mkF m 8 #[.val (.ref a1), .val (.ref a2), .val (.int (1 : Int32)), .val (.int (1 : Int32))] [(.int (1 : Int32))]))
      refine Go.st (fun U hr => XS.ifNo X38.here hx rfl (hb hby d4_8) rfl (by decide) hr) ?_
      show Go p.tables e below _ (T38.setTop (mkF m 11 #[.val (.ref a1), .val (.ref a2), .val (.int (1 : Int32)), .val (.int (1 : Int32))] []))
      refine Go.st (fun U hr => XS.iloadN X38.here hx rfl (hb hby d4_11) rfl hr) ?_
      show Go p.tables e below _ (T38.setTop (mkF m 12 #[.val (.ref a1), .val (.ref a2), .val (.int (1 : Int32)), .val (.int (1 : Int32))] [(.int (1 : Int32))]))
      refine Go.st (fun U hr => XS.ifYes X38.here hx rfl (pc0 := 12) (pc' := 45) rfl (hb hby d4_12) rfl (by decide) (by decide) (by decide) hr) ?_
      show Go p.tables e below _ (T38.setTop (mkF m 45 #[.val (.ref a1), .val (.ref a2), .val (.int (1 : Int32)), .val (.int (1 : Int32))] []))
      refine Go.st (fun U hr => XS.iloadN X38.here hx rfl (hb hby d4_45) rfl hr) ?_
      show Go p.tables e below _ (T38.setTop (mkF m 46 #[.val (.ref a1), .val (.ref a2), .val (.int (1 : Int32)), .val (.int (1 : Int32))] [(.int (1 : Int32))]))
      have er : (1 : Int32) = own_r (3 : Int32) x0 x1 x2 c0 c1 c2 := by simp +decide [own_r, hc30_44]
      have ey0 : x0 = own_y0 (3 : Int32) x0 x1 x2 c0 c1 c2 := by simp +decide [own_y0, hc30_44]
      have ey1 : x1 = own_y1 (3 : Int32) x0 x1 x2 c0 c1 c2 := by simp +decide [own_y1, hc30_44]
      have ey2 : (own_inc x2 c2) = own_y2 (3 : Int32) x0 x1 x2 c0 c1 c2 := by simp +decide [own_y2, hc30_44]
      have eV : Arv Z h38 a1 ka .int (3 : Int32) [(.int x0), (.int x1), (.int (own_inc x2 c2))] (.int (0 : Int32)) := V38
      exact own_retN X38 hx Bd.notSynchronized (t := .boolean) Bd.returns (by simp) (hb hby d4_46) (by rw [e38]; refine ⟨by rw [← er]; rfl, N38, k39, ?_⟩; rw [← ey0, ← ey1, ← ey2]; exact eV) (by decide) (by decide)
theorem own_pad0 {Z : State} {h : Heap} {a : Addr} {k : ClassId} {x0 x1 x2 : Int32} (V : Arv Z h a k .int (0 : Int32) [(.int (0 : Int32)), (.int (0 : Int32)), (.int (0 : Int32))] (.int (0 : Int32))) : Arv Z h a k .int (0 : Int32) [(.int x0), (.int x1), (.int x2)] (.int (0 : Int32)) := by
  obtain ⟨c, A, q1, S, q3, H, G⟩ := V
  have S' : c.slots.size = 0 := S
  refine ⟨c, A, q1, S, q3, fun i hi => ?_, fun i hi => ?_⟩
  · have := H i hi
    omega
  · have := G i hi
    omega
theorem own_pad1 {Z : State} {h : Heap} {a : Addr} {k : ClassId} {x0 x1 x2 : Int32} (V : Arv Z h a k .int (1 : Int32) [(.int x0), (.int (0 : Int32)), (.int (0 : Int32))] (.int (0 : Int32))) : Arv Z h a k .int (1 : Int32) [(.int x0), (.int x1), (.int x2)] (.int (0 : Int32)) := by
  obtain ⟨c, A, q1, S, q3, H, G⟩ := V
  have S' : c.slots.size = 1 := S
  refine ⟨c, A, q1, S, q3, fun i hi => ?_, fun i hi => ?_⟩
  · have := H i hi
    rw [S'] at hi
    match i, hi with
    | 0, _ => exact this
  · have := G i hi
    rw [S'] at hi
    match i, hi with
    | 0, _ => exact this
theorem own_pad2 {Z : State} {h : Heap} {a : Addr} {k : ClassId} {x0 x1 x2 : Int32} (V : Arv Z h a k .int (2 : Int32) [(.int x0), (.int x1), (.int (0 : Int32))] (.int (0 : Int32))) : Arv Z h a k .int (2 : Int32) [(.int x0), (.int x1), (.int x2)] (.int (0 : Int32)) := by
  obtain ⟨c, A, q1, S, q3, H, G⟩ := V
  have S' : c.slots.size = 2 := S
  refine ⟨c, A, q1, S, q3, fun i hi => ?_, fun i hi => ?_⟩
  · have := H i hi
    rw [S'] at hi
    match i, hi with
    | 0, _ => exact this
    | 1, _ => exact this
  · have := G i hi
    rw [S'] at hi
    match i, hi with
    | 0, _ => exact this
    | 1, _ => exact this
theorem own_pad3 {Z : State} {h : Heap} {a : Addr} {k : ClassId} {x0 x1 x2 : Int32} (V : Arv Z h a k .int (3 : Int32) [(.int x0), (.int x1), (.int x2)] (.int (0 : Int32))) : Arv Z h a k .int (3 : Int32) [(.int x0), (.int x1), (.int x2)] (.int (0 : Int32)) := by
  obtain ⟨c, A, q1, S, q3, H, G⟩ := V
  have S' : c.slots.size = 3 := S
  refine ⟨c, A, q1, S, q3, fun i hi => ?_, fun i hi => ?_⟩
  · have := H i hi
    rw [S'] at hi
    match i, hi with
    | 0, _ => exact this
    | 1, _ => exact this
    | 2, _ => exact this
  · have := G i hi
    rw [S'] at hi
    match i, hi with
    | 0, _ => exact this
    | 1, _ => exact this
    | 2, _ => exact this
theorem pn_0 : plainFor x = true := plainFor_of_name (by first | (simp [plainName, overriddenIn]; done) | decide +kernel)
theorem ef_0 (m : MethodId) (x0 : Int32) (x1 : Int64) (x2 : Int64) (x3 : Int64) : entryFrame m #[(.int x0), (.long x1), (.long x2), (.long x3)] maxLocals = mkF m 0 #[.val (.int x0), .val (.long x1), .second, .val (.long x2), .second, .val (.long x3), .second, .unset, .unset, .unset, .unset, .unset, .unset, .unset, .unset, .unset, .unset, .unset, .unset, .unset, .unset, .unset, .unset, .unset, .unset, .unset, .unset, .unset, .unset, .unset] [] := by first | (simp [entryFrame, mkF, argsToLocals, Value.category, maxLocals]; done) | rfl
theorem pd_0 : parseMethodDescriptor "(J)I" = some ⟨[.long], some .int⟩ := by decide +kernel
theorem pd_1 : parseMethodDescriptor "(JI)I" = some ⟨[.long, .int], some .int⟩ := by decide +kernel
theorem pd_2 : parseMethodDescriptor "(ZZI)I" = some ⟨[.boolean, .boolean, .int], some .int⟩ := by decide +kernel
theorem pd_3 : parseMethodDescriptor "([I[I)Z" = some ⟨[(.array .int), (.array .int)], some .boolean⟩ := by decide +kernel
def Q0 (Z : State) (p1 : Int32) (q2 : Int64) (q3 : Int64) (q4 : Int64)  (h0 : Heap) (n0 : Nat) (v : Option Value) (h : Heap) (L : List Loc) : Prop := v = some (.int 1) ∧ Fr n0 L
set_option maxRecDepth 65536 in
set_option maxHeartbeats 40000000 in
theorem rm0 (l : Launch) (Z : State) (a0 : Array Value) (hw : ∀ d ∈ tables_1, d.before a0 Z = true) (ws : List Jvm.Cond) (p1 : Int32) (q2 : Int64) (q3 : Int64) (q4 : Int64)  (h0 : Heap) (n0 : Nat) (Z0 : n0 ≤ h0.size) :
    MetFree l x (head1 (Jvm.Cond.code x code maxLocals ret :: ws) room_1) (fun a U => a = #[(.int p1), (.long q2), (.long q3), (.long q4)] ∧ Z.Warmed39 U.vm ∧ U.heap = h0) (fun _ _ _ _ _ => True) (fun _ U o U' => ∃ v L, o = .returned v ∧ Q0 Z p1 q2 q3 q4 h0 n0 v U'.heap L ∧ FrameEnd U o U' L room_1.cells room_1.slots) := by
  refine MetFree.of_bodySF pn_0 hisR ?_
  intro p e s m args below meth c s₁ Bd hml0 hP hK
  obtain ⟨rfl, hZ, hh⟩ := hP
  have hx := Bd.exec
  have hby := Bd.bytes
  have hml : c.maxLocals = 30 := hml0
  have hown : s.vm.findClass "com/example/klipspringer/klipspringer/ChoicesAdvancePinLaw" = some m.cls := findClass_of_methodNamed Bd.named
  have hnm := (name_of_methodNamed Bd.named Bd.method).1
  have X0 : Stand p l e room_1 s m #[(.int p1), (.long q2), (.long q3), (.long q4)] below meth c s₁ [] 0 0 := Stand.of_body Bd
  have e0 : s₁.heap = h0 := by rw [← hh, Bd.state]; rfl
  have N0 := Fr.nil n0
  refine own_start (Q := Q0 Z p1 q2 q3 q4 h0 n0) (own_cast (ef_0 m p1 q2 q3 q4) ?_)
  show Go p.tables e below _ (s₁.setTop (mkF m 0 #[.val (.int p1), .val (.long q2), .second, .val (.long q3), .second, .val (.long q4), .second, .unset, .unset, .unset, .unset, .unset, .unset, .unset, .unset, .unset, .unset, .unset, .unset, .unset, .unset, .unset, .unset, .unset, .unset, .unset, .unset, .unset, .unset, .unset] []))
  refine Go.st (fun U hr => XS.iloadN X0.here hx rfl (hb hby at_0) rfl hr) ?_
  show Go p.tables e below _ (s₁.setTop (mkF m 1 #[.val (.int p1), .val (.long q2), .second, .val (.long q3), .second, .val (.long q4), .second, .unset, .unset, .unset, .unset, .unset, .unset, .unset, .unset, .unset, .unset, .unset, .unset, .unset, .unset, .unset, .unset, .unset, .unset, .unset, .unset, .unset, .unset, .unset] [(.int p1)]))
  refine Go.st (X0.ldcInt hx hown (mvT hZ (hw _ (List.mem_of_getElem? (i := 0) rfl))) (g := (mkF m 1 #[.val (.int p1), .val (.long q2), .second, .val (.long q3), .second, .val (.long q4), .second, .unset, .unset, .unset, .unset, .unset, .unset, .unset, .unset, .unset, .unset, .unset, .unset, .unset, .unset, .unset, .unset, .unset, .unset, .unset, .unset, .unset, .unset, .unset] [(.int p1)])) rfl (hb hby at_1)) ?_
  show Go p.tables e below _ (s₁.setTop (mkF m 3 #[.val (.int p1), .val (.long q2), .second, .val (.long q3), .second, .val (.long q4), .second, .unset, .unset, .unset, .unset, .unset, .unset, .unset, .unset, .unset, .unset, .unset, .unset, .unset, .unset, .unset, .unset, .unset, .unset, .unset, .unset, .unset, .unset, .unset] [(.int (2147483647 : Int32)), (.int p1)]))
  refine Go.st (fun U hr => XS.iand X0.here hx rfl (hb hby at_3) rfl hr) ?_
  show Go p.tables e below _ (s₁.setTop (mkF m 4 #[.val (.int p1), .val (.long q2), .second, .val (.long q3), .second, .val (.long q4), .second, .unset, .unset, .unset, .unset, .unset, .unset, .unset, .unset, .unset, .unset, .unset, .unset, .unset, .unset, .unset, .unset, .unset, .unset, .unset, .unset, .unset, .unset, .unset] [(.int (p1 &&& (2147483647 : Int32)))]))
  refine Go.st (fun U hr => XS.iconst X0.here hx rfl (hb hby at_4) hr) ?_
  show Go p.tables e below _ (s₁.setTop (mkF m 5 #[.val (.int p1), .val (.long q2), .second, .val (.long q3), .second, .val (.long q4), .second, .unset, .unset, .unset, .unset, .unset, .unset, .unset, .unset, .unset, .unset, .unset, .unset, .unset, .unset, .unset, .unset, .unset, .unset, .unset, .unset, .unset, .unset, .unset] [(.int (4 : Int32)), (.int (p1 &&& (2147483647 : Int32)))]))
  refine Go.st (fun U hr => XS.irem X0.here hx rfl (hb hby at_5) rfl (by decide) hr) ?_
  show Go p.tables e below _ (s₁.setTop (mkF m 6 #[.val (.int p1), .val (.long q2), .second, .val (.long q3), .second, .val (.long q4), .second, .unset, .unset, .unset, .unset, .unset, .unset, .unset, .unset, .unset, .unset, .unset, .unset, .unset, .unset, .unset, .unset, .unset, .unset, .unset, .unset, .unset, .unset, .unset] [(.int ((p1 &&& (2147483647 : Int32)) - ((p1 &&& (2147483647 : Int32)) / (4 : Int32)) * (4 : Int32)))]))
  refine Go.st (fun U hr => XS.istore X0.here hx rfl (hb hby at_6) rfl (l' := #[.val (.int p1), .val (.long q2), .second, .val (.long q3), .second, .val (.long q4), .second, .val (.int ((p1 &&& (2147483647 : Int32)) - ((p1 &&& (2147483647 : Int32)) / (4 : Int32)) * (4 : Int32))), .unset, .unset, .unset, .unset, .unset, .unset, .unset, .unset, .unset, .unset, .unset, .unset, .unset, .unset, .unset, .unset, .unset, .unset, .unset, .unset, .unset, .unset]) rfl hr) ?_
  show Go p.tables e below _ (s₁.setTop (mkF m 8 #[.val (.int p1), .val (.long q2), .second, .val (.long q3), .second, .val (.long q4), .second, .val (.int ((p1 &&& (2147483647 : Int32)) - ((p1 &&& (2147483647 : Int32)) / (4 : Int32)) * (4 : Int32))), .unset, .unset, .unset, .unset, .unset, .unset, .unset, .unset, .unset, .unset, .unset, .unset, .unset, .unset, .unset, .unset, .unset, .unset, .unset, .unset, .unset, .unset] []))
  generalize h_nn : ((p1 &&& (2147483647 : Int32)) - ((p1 &&& (2147483647 : Int32)) / (4 : Int32)) * (4 : Int32)) = nn
  have hn : nn = 0 ∨ nn = 1 ∨ nn = 2 ∨ nn = 3 := by
    have h0 := c_mask p1 2147483647 31 (by decide) (by decide)
    rw [show ((2 ^ 31 : Nat) : Int) = 2147483648 from by decide] at h0
    have h1 := (own_rem (p1 &&& (2147483647 : Int32)) 4 (by omega) (by decide)).2
    rw [h_nn, show (4 : Int32).toInt = 4 from by decide] at h1
    have e : nn.toInt = 0 ∨ nn.toInt = 1 ∨ nn.toInt = 2 ∨ nn.toInt = 3 := by omega
    rcases e with e | e | e | e
    · exact Or.inl (Int32.toInt_inj.mp e)
    · exact Or.inr (Or.inl (Int32.toInt_inj.mp e))
    · exact Or.inr (Or.inr (Or.inl (Int32.toInt_inj.mp e)))
    · exact Or.inr (Or.inr (Or.inr (Int32.toInt_inj.mp e)))
  refine Go.st (fun U hr => XS.lloadN X0.here hx rfl (hb hby at_8) rfl hr) ?_
  show Go p.tables e below _ (s₁.setTop (mkF m 9 #[.val (.int p1), .val (.long q2), .second, .val (.long q3), .second, .val (.long q4), .second, .val (.int nn), .unset, .unset, .unset, .unset, .unset, .unset, .unset, .unset, .unset, .unset, .unset, .unset, .unset, .unset, .unset, .unset, .unset, .unset, .unset, .unset, .unset, .unset] [(.long q2)]))
  obtain ⟨_, _, ⟨T1, L1, k1, n1⟩, -, X1, ⟨Lc1, hQ1, l1, y1, z1⟩, st1⟩ := Jvm.LawKit.callS X0 hx (y := (⟨"com/example/klipspringer/klipspringer/ChoicesAdvancePinLaw", "count", "(J)I"⟩ : MethodName)) hown (mvT hZ (hw _ (List.mem_of_getElem? (i := 1) rfl))) (mvT hZ (hw _ (List.mem_of_getElem? (i := 2) rfl))) (mvT hZ (hw _ (List.mem_of_getElem? (i := 3) rfl))) (mvT hZ (hw _ (List.mem_of_getElem? (i := 4) rfl))) (by decide) (backOf (W := 0) (rm1 l Z a0 hw [] q2 h0 n0 Z0) hZ (hw _ (List.mem_of_getElem? (i := 4) rfl)) (hw _ (List.mem_of_getElem? (i := 3) rfl)) (by decide) (by decide)) (g := (mkF m 9 #[.val (.int p1), .val (.long q2), .second, .val (.long q3), .second, .val (.long q4), .second, .val (.int nn), .unset, .unset, .unset, .unset, .unset, .unset, .unset, .unset, .unset, .unset, .unset, .unset, .unset, .unset, .unset, .unset, .unset, .unset, .unset, .unset, .unset, .unset] [(.long q2)])) rfl (by rw [hml]; rfl) (argsL := [(.long q2)]) (rest := []) (lenOf pd_0 rfl) rfl (by show 2 * 0 + _ ≤ _; exact Nat.le_of_eq rfl) (hb hby at_9) (fun _ _ => ⟨rfl, e0, (by decide : 0 + 0 ≤ _), (by decide : 0 + 0 ≤ _)⟩)
  dsimp only [Pt.U, Pt.locs, Pt.cells, Pt.slots] at X1 l1 y1 z1 st1 hQ1
  subst l1 y1 z1
  obtain ⟨rfl, Nq1, ee1⟩ := hQ1
  have N1 := Fr.app N0 Nq1
  refine Go.st st1 ?_
  show Go p.tables e below _ (T1.setTop (mkF m 12 #[.val (.int p1), .val (.long q2), .second, .val (.long q3), .second, .val (.long q4), .second, .val (.int nn), .unset, .unset, .unset, .unset, .unset, .unset, .unset, .unset, .unset, .unset, .unset, .unset, .unset, .unset, .unset, .unset, .unset, .unset, .unset, .unset, .unset, .unset] [(.int (own_count q2))]))
  generalize h_c0 : (own_count q2) = c0
  have hc0 : 1 ≤ c0.toInt := by rw [← h_c0]; exact own_count_rng q2
  refine Go.st (fun U hr => XS.istore X1.here hx rfl (hb hby at_12) rfl (l' := #[.val (.int p1), .val (.long q2), .second, .val (.long q3), .second, .val (.long q4), .second, .val (.int nn), .val (.int c0), .unset, .unset, .unset, .unset, .unset, .unset, .unset, .unset, .unset, .unset, .unset, .unset, .unset, .unset, .unset, .unset, .unset, .unset, .unset, .unset, .unset]) rfl hr) ?_
  show Go p.tables e below _ (T1.setTop (mkF m 14 #[.val (.int p1), .val (.long q2), .second, .val (.long q3), .second, .val (.long q4), .second, .val (.int nn), .val (.int c0), .unset, .unset, .unset, .unset, .unset, .unset, .unset, .unset, .unset, .unset, .unset, .unset, .unset, .unset, .unset, .unset, .unset, .unset, .unset, .unset, .unset] []))
  refine Go.st (fun U hr => XS.lloadN X1.here hx rfl (hb hby at_14) rfl hr) ?_
  show Go p.tables e below _ (T1.setTop (mkF m 15 #[.val (.int p1), .val (.long q2), .second, .val (.long q3), .second, .val (.long q4), .second, .val (.int nn), .val (.int c0), .unset, .unset, .unset, .unset, .unset, .unset, .unset, .unset, .unset, .unset, .unset, .unset, .unset, .unset, .unset, .unset, .unset, .unset, .unset, .unset, .unset] [(.long q3)]))
  obtain ⟨_, _, ⟨T2, L2, k2, n2⟩, -, X2, ⟨Lc2, hQ2, l2, y2, z2⟩, st2⟩ := Jvm.LawKit.callS X1 hx (y := (⟨"com/example/klipspringer/klipspringer/ChoicesAdvancePinLaw", "count", "(J)I"⟩ : MethodName)) hown (mvT hZ (hw _ (List.mem_of_getElem? (i := 1) rfl))) (mvT hZ (hw _ (List.mem_of_getElem? (i := 2) rfl))) (mvT hZ (hw _ (List.mem_of_getElem? (i := 3) rfl))) (mvT hZ (hw _ (List.mem_of_getElem? (i := 4) rfl))) (by decide) (backOf (W := 0) (rm1 l Z a0 hw [] q3 h0 n0 Z0) hZ (hw _ (List.mem_of_getElem? (i := 4) rfl)) (hw _ (List.mem_of_getElem? (i := 3) rfl)) (by decide) (by decide)) (g := (mkF m 15 #[.val (.int p1), .val (.long q2), .second, .val (.long q3), .second, .val (.long q4), .second, .val (.int nn), .val (.int c0), .unset, .unset, .unset, .unset, .unset, .unset, .unset, .unset, .unset, .unset, .unset, .unset, .unset, .unset, .unset, .unset, .unset, .unset, .unset, .unset, .unset] [(.long q3)])) rfl (by rw [hml]; rfl) (argsL := [(.long q3)]) (rest := []) (lenOf pd_0 rfl) rfl (by show 2 * 0 + _ ≤ _; exact Nat.le_of_eq rfl) (hb hby at_15) (fun _ _ => ⟨rfl, ee1, (by decide : 0 + 0 ≤ _), (by decide : 0 + 0 ≤ _)⟩)
  dsimp only [Pt.U, Pt.locs, Pt.cells, Pt.slots] at X2 l2 y2 z2 st2 hQ2
  subst l2 y2 z2
  obtain ⟨rfl, Nq2, ee2⟩ := hQ2
  have N2 := Fr.app N1 Nq2
  refine Go.st st2 ?_
  show Go p.tables e below _ (T2.setTop (mkF m 18 #[.val (.int p1), .val (.long q2), .second, .val (.long q3), .second, .val (.long q4), .second, .val (.int nn), .val (.int c0), .unset, .unset, .unset, .unset, .unset, .unset, .unset, .unset, .unset, .unset, .unset, .unset, .unset, .unset, .unset, .unset, .unset, .unset, .unset, .unset, .unset] [(.int (own_count q3))]))
  generalize h_c1 : (own_count q3) = c1
  have hc1 : 1 ≤ c1.toInt := by rw [← h_c1]; exact own_count_rng q3
  refine Go.st (fun U hr => XS.istore X2.here hx rfl (hb hby at_18) rfl (l' := #[.val (.int p1), .val (.long q2), .second, .val (.long q3), .second, .val (.long q4), .second, .val (.int nn), .val (.int c0), .val (.int c1), .unset, .unset, .unset, .unset, .unset, .unset, .unset, .unset, .unset, .unset, .unset, .unset, .unset, .unset, .unset, .unset, .unset, .unset, .unset, .unset]) rfl hr) ?_
  show Go p.tables e below _ (T2.setTop (mkF m 20 #[.val (.int p1), .val (.long q2), .second, .val (.long q3), .second, .val (.long q4), .second, .val (.int nn), .val (.int c0), .val (.int c1), .unset, .unset, .unset, .unset, .unset, .unset, .unset, .unset, .unset, .unset, .unset, .unset, .unset, .unset, .unset, .unset, .unset, .unset, .unset, .unset] []))
  refine Go.st (fun U hr => XS.lload X2.here hx rfl (hb hby at_20) rfl hr) ?_
  show Go p.tables e below _ (T2.setTop (mkF m 22 #[.val (.int p1), .val (.long q2), .second, .val (.long q3), .second, .val (.long q4), .second, .val (.int nn), .val (.int c0), .val (.int c1), .unset, .unset, .unset, .unset, .unset, .unset, .unset, .unset, .unset, .unset, .unset, .unset, .unset, .unset, .unset, .unset, .unset, .unset, .unset, .unset] [(.long q4)]))
  obtain ⟨_, _, ⟨T3, L3, k3, n3⟩, -, X3, ⟨Lc3, hQ3, l3, y3, z3⟩, st3⟩ := Jvm.LawKit.callS X2 hx (y := (⟨"com/example/klipspringer/klipspringer/ChoicesAdvancePinLaw", "count", "(J)I"⟩ : MethodName)) hown (mvT hZ (hw _ (List.mem_of_getElem? (i := 1) rfl))) (mvT hZ (hw _ (List.mem_of_getElem? (i := 2) rfl))) (mvT hZ (hw _ (List.mem_of_getElem? (i := 3) rfl))) (mvT hZ (hw _ (List.mem_of_getElem? (i := 4) rfl))) (by decide) (backOf (W := 0) (rm1 l Z a0 hw [] q4 h0 n0 Z0) hZ (hw _ (List.mem_of_getElem? (i := 4) rfl)) (hw _ (List.mem_of_getElem? (i := 3) rfl)) (by decide) (by decide)) (g := (mkF m 22 #[.val (.int p1), .val (.long q2), .second, .val (.long q3), .second, .val (.long q4), .second, .val (.int nn), .val (.int c0), .val (.int c1), .unset, .unset, .unset, .unset, .unset, .unset, .unset, .unset, .unset, .unset, .unset, .unset, .unset, .unset, .unset, .unset, .unset, .unset, .unset, .unset] [(.long q4)])) rfl (by rw [hml]; rfl) (argsL := [(.long q4)]) (rest := []) (lenOf pd_0 rfl) rfl (by show 2 * 0 + _ ≤ _; exact Nat.le_of_eq rfl) (hb hby at_22) (fun _ _ => ⟨rfl, ee2, (by decide : 0 + 0 ≤ _), (by decide : 0 + 0 ≤ _)⟩)
  dsimp only [Pt.U, Pt.locs, Pt.cells, Pt.slots] at X3 l3 y3 z3 st3 hQ3
  subst l3 y3 z3
  obtain ⟨rfl, Nq3, ee3⟩ := hQ3
  have N3 := Fr.app N2 Nq3
  refine Go.st st3 ?_
  show Go p.tables e below _ (T3.setTop (mkF m 25 #[.val (.int p1), .val (.long q2), .second, .val (.long q3), .second, .val (.long q4), .second, .val (.int nn), .val (.int c0), .val (.int c1), .unset, .unset, .unset, .unset, .unset, .unset, .unset, .unset, .unset, .unset, .unset, .unset, .unset, .unset, .unset, .unset, .unset, .unset, .unset, .unset] [(.int (own_count q4))]))
  generalize h_c2 : (own_count q4) = c2
  have hc2 : 1 ≤ c2.toInt := by rw [← h_c2]; exact own_count_rng q4
  refine Go.st (fun U hr => XS.istore X3.here hx rfl (hb hby at_25) rfl (l' := #[.val (.int p1), .val (.long q2), .second, .val (.long q3), .second, .val (.long q4), .second, .val (.int nn), .val (.int c0), .val (.int c1), .val (.int c2), .unset, .unset, .unset, .unset, .unset, .unset, .unset, .unset, .unset, .unset, .unset, .unset, .unset, .unset, .unset, .unset, .unset, .unset, .unset]) rfl hr) ?_
  show Go p.tables e below _ (T3.setTop (mkF m 27 #[.val (.int p1), .val (.long q2), .second, .val (.long q3), .second, .val (.long q4), .second, .val (.int nn), .val (.int c0), .val (.int c1), .val (.int c2), .unset, .unset, .unset, .unset, .unset, .unset, .unset, .unset, .unset, .unset, .unset, .unset, .unset, .unset, .unset, .unset, .unset, .unset, .unset] []))
  refine Go.st (fun U hr => XS.lloadN X3.here hx rfl (hb hby at_27) rfl hr) ?_
  show Go p.tables e below _ (T3.setTop (mkF m 28 #[.val (.int p1), .val (.long q2), .second, .val (.long q3), .second, .val (.long q4), .second, .val (.int nn), .val (.int c0), .val (.int c1), .val (.int c2), .unset, .unset, .unset, .unset, .unset, .unset, .unset, .unset, .unset, .unset, .unset, .unset, .unset, .unset, .unset, .unset, .unset, .unset, .unset] [(.long q2)]))
  refine Go.st (fun U hr => XS.iload X3.here hx rfl (hb hby at_28) rfl hr) ?_
  show Go p.tables e below _ (T3.setTop (mkF m 30 #[.val (.int p1), .val (.long q2), .second, .val (.long q3), .second, .val (.long q4), .second, .val (.int nn), .val (.int c0), .val (.int c1), .val (.int c2), .unset, .unset, .unset, .unset, .unset, .unset, .unset, .unset, .unset, .unset, .unset, .unset, .unset, .unset, .unset, .unset, .unset, .unset, .unset] [(.int c0), (.long q2)]))
  obtain ⟨_, _, ⟨T4, L4, k4, n4⟩, -, X4, ⟨Lc4, hQ4, l4, y4, z4⟩, st4⟩ := Jvm.LawKit.callS X3 hx (y := (⟨"com/example/klipspringer/klipspringer/ChoicesAdvancePinLaw", "digit", "(JI)I"⟩ : MethodName)) hown (mvT hZ (hw _ (List.mem_of_getElem? (i := 7) rfl))) (mvT hZ (hw _ (List.mem_of_getElem? (i := 8) rfl))) (mvT hZ (hw _ (List.mem_of_getElem? (i := 3) rfl))) (mvT hZ (hw _ (List.mem_of_getElem? (i := 9) rfl))) (by decide) (backOf (W := 0) (rm2 l Z a0 hw [] q2 c0 h0 n0 Z0 (fun z => by rw [z] at hc0; exact absurd hc0 (by decide))) hZ (hw _ (List.mem_of_getElem? (i := 9) rfl)) (hw _ (List.mem_of_getElem? (i := 3) rfl)) (by decide) (by decide)) (g := (mkF m 30 #[.val (.int p1), .val (.long q2), .second, .val (.long q3), .second, .val (.long q4), .second, .val (.int nn), .val (.int c0), .val (.int c1), .val (.int c2), .unset, .unset, .unset, .unset, .unset, .unset, .unset, .unset, .unset, .unset, .unset, .unset, .unset, .unset, .unset, .unset, .unset, .unset, .unset] [(.int c0), (.long q2)])) rfl (by rw [hml]; rfl) (argsL := [(.long q2), (.int c0)]) (rest := []) (lenOf pd_1 rfl) rfl (by show 2 * 0 + _ ≤ _; exact Nat.le_of_eq rfl) (hb hby at_30) (fun _ _ => ⟨rfl, ee3, (by decide : 0 + 0 ≤ _), (by decide : 0 + 0 ≤ _)⟩)
  dsimp only [Pt.U, Pt.locs, Pt.cells, Pt.slots] at X4 l4 y4 z4 st4 hQ4
  subst l4 y4 z4
  obtain ⟨rfl, Nq4, ee4⟩ := hQ4
  have N4 := Fr.app N3 Nq4
  refine Go.st st4 ?_
  show Go p.tables e below _ (T4.setTop (mkF m 33 #[.val (.int p1), .val (.long q2), .second, .val (.long q3), .second, .val (.long q4), .second, .val (.int nn), .val (.int c0), .val (.int c1), .val (.int c2), .unset, .unset, .unset, .unset, .unset, .unset, .unset, .unset, .unset, .unset, .unset, .unset, .unset, .unset, .unset, .unset, .unset, .unset, .unset] [(.int (own_digit q2 c0))]))
  generalize h_d0 : (own_digit q2 c0) = d0
  have hd0 : 0 ≤ d0.toInt ∧ d0.toInt < c0.toInt := by rw [← h_d0]; exact own_digit_rng q2 c0 hc0
  refine Go.st (fun U hr => XS.istore X4.here hx rfl (hb hby at_33) rfl (l' := #[.val (.int p1), .val (.long q2), .second, .val (.long q3), .second, .val (.long q4), .second, .val (.int nn), .val (.int c0), .val (.int c1), .val (.int c2), .val (.int d0), .unset, .unset, .unset, .unset, .unset, .unset, .unset, .unset, .unset, .unset, .unset, .unset, .unset, .unset, .unset, .unset, .unset, .unset]) rfl hr) ?_
  show Go p.tables e below _ (T4.setTop (mkF m 35 #[.val (.int p1), .val (.long q2), .second, .val (.long q3), .second, .val (.long q4), .second, .val (.int nn), .val (.int c0), .val (.int c1), .val (.int c2), .val (.int d0), .unset, .unset, .unset, .unset, .unset, .unset, .unset, .unset, .unset, .unset, .unset, .unset, .unset, .unset, .unset, .unset, .unset, .unset] []))
  refine Go.st (fun U hr => XS.lloadN X4.here hx rfl (hb hby at_35) rfl hr) ?_
  show Go p.tables e below _ (T4.setTop (mkF m 36 #[.val (.int p1), .val (.long q2), .second, .val (.long q3), .second, .val (.long q4), .second, .val (.int nn), .val (.int c0), .val (.int c1), .val (.int c2), .val (.int d0), .unset, .unset, .unset, .unset, .unset, .unset, .unset, .unset, .unset, .unset, .unset, .unset, .unset, .unset, .unset, .unset, .unset, .unset] [(.long q3)]))
  refine Go.st (fun U hr => XS.iload X4.here hx rfl (hb hby at_36) rfl hr) ?_
  show Go p.tables e below _ (T4.setTop (mkF m 38 #[.val (.int p1), .val (.long q2), .second, .val (.long q3), .second, .val (.long q4), .second, .val (.int nn), .val (.int c0), .val (.int c1), .val (.int c2), .val (.int d0), .unset, .unset, .unset, .unset, .unset, .unset, .unset, .unset, .unset, .unset, .unset, .unset, .unset, .unset, .unset, .unset, .unset, .unset] [(.int c1), (.long q3)]))
  obtain ⟨_, _, ⟨T5, L5, k5, n5⟩, -, X5, ⟨Lc5, hQ5, l5, y5, z5⟩, st5⟩ := Jvm.LawKit.callS X4 hx (y := (⟨"com/example/klipspringer/klipspringer/ChoicesAdvancePinLaw", "digit", "(JI)I"⟩ : MethodName)) hown (mvT hZ (hw _ (List.mem_of_getElem? (i := 7) rfl))) (mvT hZ (hw _ (List.mem_of_getElem? (i := 8) rfl))) (mvT hZ (hw _ (List.mem_of_getElem? (i := 3) rfl))) (mvT hZ (hw _ (List.mem_of_getElem? (i := 9) rfl))) (by decide) (backOf (W := 0) (rm2 l Z a0 hw [] q3 c1 h0 n0 Z0 (fun z => by rw [z] at hc1; exact absurd hc1 (by decide))) hZ (hw _ (List.mem_of_getElem? (i := 9) rfl)) (hw _ (List.mem_of_getElem? (i := 3) rfl)) (by decide) (by decide)) (g := (mkF m 38 #[.val (.int p1), .val (.long q2), .second, .val (.long q3), .second, .val (.long q4), .second, .val (.int nn), .val (.int c0), .val (.int c1), .val (.int c2), .val (.int d0), .unset, .unset, .unset, .unset, .unset, .unset, .unset, .unset, .unset, .unset, .unset, .unset, .unset, .unset, .unset, .unset, .unset, .unset] [(.int c1), (.long q3)])) rfl (by rw [hml]; rfl) (argsL := [(.long q3), (.int c1)]) (rest := []) (lenOf pd_1 rfl) rfl (by show 2 * 0 + _ ≤ _; exact Nat.le_of_eq rfl) (hb hby at_38) (fun _ _ => ⟨rfl, ee4, (by decide : 0 + 0 ≤ _), (by decide : 0 + 0 ≤ _)⟩)
  dsimp only [Pt.U, Pt.locs, Pt.cells, Pt.slots] at X5 l5 y5 z5 st5 hQ5
  subst l5 y5 z5
  obtain ⟨rfl, Nq5, ee5⟩ := hQ5
  have N5 := Fr.app N4 Nq5
  refine Go.st st5 ?_
  show Go p.tables e below _ (T5.setTop (mkF m 41 #[.val (.int p1), .val (.long q2), .second, .val (.long q3), .second, .val (.long q4), .second, .val (.int nn), .val (.int c0), .val (.int c1), .val (.int c2), .val (.int d0), .unset, .unset, .unset, .unset, .unset, .unset, .unset, .unset, .unset, .unset, .unset, .unset, .unset, .unset, .unset, .unset, .unset, .unset] [(.int (own_digit q3 c1))]))
  generalize h_d1 : (own_digit q3 c1) = d1
  have hd1 : 0 ≤ d1.toInt ∧ d1.toInt < c1.toInt := by rw [← h_d1]; exact own_digit_rng q3 c1 hc1
  refine Go.st (fun U hr => XS.istore X5.here hx rfl (hb hby at_41) rfl (l' := #[.val (.int p1), .val (.long q2), .second, .val (.long q3), .second, .val (.long q4), .second, .val (.int nn), .val (.int c0), .val (.int c1), .val (.int c2), .val (.int d0), .val (.int d1), .unset, .unset, .unset, .unset, .unset, .unset, .unset, .unset, .unset, .unset, .unset, .unset, .unset, .unset, .unset, .unset, .unset]) rfl hr) ?_
  show Go p.tables e below _ (T5.setTop (mkF m 43 #[.val (.int p1), .val (.long q2), .second, .val (.long q3), .second, .val (.long q4), .second, .val (.int nn), .val (.int c0), .val (.int c1), .val (.int c2), .val (.int d0), .val (.int d1), .unset, .unset, .unset, .unset, .unset, .unset, .unset, .unset, .unset, .unset, .unset, .unset, .unset, .unset, .unset, .unset, .unset] []))
  refine Go.st (fun U hr => XS.lload X5.here hx rfl (hb hby at_43) rfl hr) ?_
  show Go p.tables e below _ (T5.setTop (mkF m 45 #[.val (.int p1), .val (.long q2), .second, .val (.long q3), .second, .val (.long q4), .second, .val (.int nn), .val (.int c0), .val (.int c1), .val (.int c2), .val (.int d0), .val (.int d1), .unset, .unset, .unset, .unset, .unset, .unset, .unset, .unset, .unset, .unset, .unset, .unset, .unset, .unset, .unset, .unset, .unset] [(.long q4)]))
  refine Go.st (fun U hr => XS.iload X5.here hx rfl (hb hby at_45) rfl hr) ?_
  show Go p.tables e below _ (T5.setTop (mkF m 47 #[.val (.int p1), .val (.long q2), .second, .val (.long q3), .second, .val (.long q4), .second, .val (.int nn), .val (.int c0), .val (.int c1), .val (.int c2), .val (.int d0), .val (.int d1), .unset, .unset, .unset, .unset, .unset, .unset, .unset, .unset, .unset, .unset, .unset, .unset, .unset, .unset, .unset, .unset, .unset] [(.int c2), (.long q4)]))
  obtain ⟨_, _, ⟨T6, L6, k6, n6⟩, -, X6, ⟨Lc6, hQ6, l6, y6, z6⟩, st6⟩ := Jvm.LawKit.callS X5 hx (y := (⟨"com/example/klipspringer/klipspringer/ChoicesAdvancePinLaw", "digit", "(JI)I"⟩ : MethodName)) hown (mvT hZ (hw _ (List.mem_of_getElem? (i := 7) rfl))) (mvT hZ (hw _ (List.mem_of_getElem? (i := 8) rfl))) (mvT hZ (hw _ (List.mem_of_getElem? (i := 3) rfl))) (mvT hZ (hw _ (List.mem_of_getElem? (i := 9) rfl))) (by decide) (backOf (W := 0) (rm2 l Z a0 hw [] q4 c2 h0 n0 Z0 (fun z => by rw [z] at hc2; exact absurd hc2 (by decide))) hZ (hw _ (List.mem_of_getElem? (i := 9) rfl)) (hw _ (List.mem_of_getElem? (i := 3) rfl)) (by decide) (by decide)) (g := (mkF m 47 #[.val (.int p1), .val (.long q2), .second, .val (.long q3), .second, .val (.long q4), .second, .val (.int nn), .val (.int c0), .val (.int c1), .val (.int c2), .val (.int d0), .val (.int d1), .unset, .unset, .unset, .unset, .unset, .unset, .unset, .unset, .unset, .unset, .unset, .unset, .unset, .unset, .unset, .unset, .unset] [(.int c2), (.long q4)])) rfl (by rw [hml]; rfl) (argsL := [(.long q4), (.int c2)]) (rest := []) (lenOf pd_1 rfl) rfl (by show 2 * 0 + _ ≤ _; exact Nat.le_of_eq rfl) (hb hby at_47) (fun _ _ => ⟨rfl, ee5, (by decide : 0 + 0 ≤ _), (by decide : 0 + 0 ≤ _)⟩)
  dsimp only [Pt.U, Pt.locs, Pt.cells, Pt.slots] at X6 l6 y6 z6 st6 hQ6
  subst l6 y6 z6
  obtain ⟨rfl, Nq6, ee6⟩ := hQ6
  have N6 := Fr.app N5 Nq6
  refine Go.st st6 ?_
  show Go p.tables e below _ (T6.setTop (mkF m 50 #[.val (.int p1), .val (.long q2), .second, .val (.long q3), .second, .val (.long q4), .second, .val (.int nn), .val (.int c0), .val (.int c1), .val (.int c2), .val (.int d0), .val (.int d1), .unset, .unset, .unset, .unset, .unset, .unset, .unset, .unset, .unset, .unset, .unset, .unset, .unset, .unset, .unset, .unset, .unset] [(.int (own_digit q4 c2))]))
  generalize h_d2 : (own_digit q4 c2) = d2
  have hd2 : 0 ≤ d2.toInt ∧ d2.toInt < c2.toInt := by rw [← h_d2]; exact own_digit_rng q4 c2 hc2
  refine Go.st (fun U hr => XS.istore X6.here hx rfl (hb hby at_50) rfl (l' := #[.val (.int p1), .val (.long q2), .second, .val (.long q3), .second, .val (.long q4), .second, .val (.int nn), .val (.int c0), .val (.int c1), .val (.int c2), .val (.int d0), .val (.int d1), .val (.int d2), .unset, .unset, .unset, .unset, .unset, .unset, .unset, .unset, .unset, .unset, .unset, .unset, .unset, .unset, .unset, .unset]) rfl hr) ?_
  show Go p.tables e below _ (T6.setTop (mkF m 52 #[.val (.int p1), .val (.long q2), .second, .val (.long q3), .second, .val (.long q4), .second, .val (.int nn), .val (.int c0), .val (.int c1), .val (.int c2), .val (.int d0), .val (.int d1), .val (.int d2), .unset, .unset, .unset, .unset, .unset, .unset, .unset, .unset, .unset, .unset, .unset, .unset, .unset, .unset, .unset, .unset] []))
  refine Go.st (fun U hr => XS.iload X6.here hx rfl (hb hby at_52) rfl hr) ?_
  show Go p.tables e below _ (T6.setTop (mkF m 54 #[.val (.int p1), .val (.long q2), .second, .val (.long q3), .second, .val (.long q4), .second, .val (.int nn), .val (.int c0), .val (.int c1), .val (.int c2), .val (.int d0), .val (.int d1), .val (.int d2), .unset, .unset, .unset, .unset, .unset, .unset, .unset, .unset, .unset, .unset, .unset, .unset, .unset, .unset, .unset, .unset] [(.int nn)]))
  obtain ⟨T7, h7, k7, X7, e7, E7, A7, st7⟩ := newP X6 hx hZ (hw _ (List.mem_of_getElem? (i := 10) rfl)) ee6 (g := (mkF m 54 #[.val (.int p1), .val (.long q2), .second, .val (.long q3), .second, .val (.long q4), .second, .val (.int nn), .val (.int c0), .val (.int c1), .val (.int c2), .val (.int d0), .val (.int d1), .val (.int d2), .unset, .unset, .unset, .unset, .unset, .unset, .unset, .unset, .unset, .unset, .unset, .unset, .unset, .unset, .unset, .unset] [(.int nn)])) rfl (hb hby at_54) rfl (by rcases hn with rfl | rfl | rfl | rfl <;> decide) (cap := 3) (by rcases hn with rfl | rfl | rfl | rfl <;> decide) (by decide) (by decide) (by decide)
  obtain ⟨b7, g7⟩ : ∃ z, z = h0.size := ⟨_, rfl⟩
  rw [← g7] at A7 st7
  refine Go.st st7 ?_
  have gb7 : n0 ≤ b7 := Nat.le_trans Z0 (Nat.le_of_eq g7.symm)
  have z8 := Nat.le_trans Z0 E7.1
  have V7 : Arv Z h7 b7 k7 .int nn [(.int (0 : Int32)), (.int (0 : Int32)), (.int (0 : Int32))] (.int (0 : Int32)) := (Arv.new A7 (by rcases hn with rfl | rfl | rfl | rfl <;> decide)).pad (pad_rep [] (.int (0 : Int32)) 3)
  show Go p.tables e below _ (T7.setTop (mkF m 56 #[.val (.int p1), .val (.long q2), .second, .val (.long q3), .second, .val (.long q4), .second, .val (.int nn), .val (.int c0), .val (.int c1), .val (.int c2), .val (.int d0), .val (.int d1), .val (.int d2), .unset, .unset, .unset, .unset, .unset, .unset, .unset, .unset, .unset, .unset, .unset, .unset, .unset, .unset, .unset, .unset] [(.ref b7)]))
  refine Go.st (fun U hr => XS.astore X7.here hx rfl (hb hby at_56) rfl rfl (l' := #[.val (.int p1), .val (.long q2), .second, .val (.long q3), .second, .val (.long q4), .second, .val (.int nn), .val (.int c0), .val (.int c1), .val (.int c2), .val (.int d0), .val (.int d1), .val (.int d2), .val (.ref b7), .unset, .unset, .unset, .unset, .unset, .unset, .unset, .unset, .unset, .unset, .unset, .unset, .unset, .unset, .unset]) rfl hr) ?_
  show Go p.tables e below _ (T7.setTop (mkF m 58 #[.val (.int p1), .val (.long q2), .second, .val (.long q3), .second, .val (.long q4), .second, .val (.int nn), .val (.int c0), .val (.int c1), .val (.int c2), .val (.int d0), .val (.int d1), .val (.int d2), .val (.ref b7), .unset, .unset, .unset, .unset, .unset, .unset, .unset, .unset, .unset, .unset, .unset, .unset, .unset, .unset, .unset] []))
  refine Go.st (fun U hr => XS.iload X7.here hx rfl (hb hby at_58) rfl hr) ?_
  show Go p.tables e below _ (T7.setTop (mkF m 60 #[.val (.int p1), .val (.long q2), .second, .val (.long q3), .second, .val (.long q4), .second, .val (.int nn), .val (.int c0), .val (.int c1), .val (.int c2), .val (.int d0), .val (.int d1), .val (.int d2), .val (.ref b7), .unset, .unset, .unset, .unset, .unset, .unset, .unset, .unset, .unset, .unset, .unset, .unset, .unset, .unset, .unset] [(.int nn)]))
  obtain ⟨T9, h9, k9, X9, e9, E9, A9, st9⟩ := newP X7 hx hZ (hw _ (List.mem_of_getElem? (i := 10) rfl)) e7 (g := (mkF m 60 #[.val (.int p1), .val (.long q2), .second, .val (.long q3), .second, .val (.long q4), .second, .val (.int nn), .val (.int c0), .val (.int c1), .val (.int c2), .val (.int d0), .val (.int d1), .val (.int d2), .val (.ref b7), .unset, .unset, .unset, .unset, .unset, .unset, .unset, .unset, .unset, .unset, .unset, .unset, .unset, .unset, .unset] [(.int nn)])) rfl (hb hby at_60) rfl (by rcases hn with rfl | rfl | rfl | rfl <;> decide) (cap := 3) (by rcases hn with rfl | rfl | rfl | rfl <;> decide) (by decide) (by decide) (by decide)
  obtain ⟨b9, g9⟩ : ∃ z, z = h7.size := ⟨_, rfl⟩
  rw [← g9] at A9 st9
  refine Go.st st9 ?_
  have gb9 : n0 ≤ b9 := Nat.le_trans z8 (Nat.le_of_eq g9.symm)
  have n10 : b7 ≠ b9 := Nat.ne_of_lt (Nat.lt_of_lt_of_le (V7).lt (Nat.le_of_eq g9.symm))
  have f11 := (V7).ext E9
  have z12 := Nat.le_trans z8 E9.1
  have V9 : Arv Z h9 b9 k9 .int nn [(.int (0 : Int32)), (.int (0 : Int32)), (.int (0 : Int32))] (.int (0 : Int32)) := (Arv.new A9 (by rcases hn with rfl | rfl | rfl | rfl <;> decide)).pad (pad_rep [] (.int (0 : Int32)) 3)
  show Go p.tables e below _ (T9.setTop (mkF m 62 #[.val (.int p1), .val (.long q2), .second, .val (.long q3), .second, .val (.long q4), .second, .val (.int nn), .val (.int c0), .val (.int c1), .val (.int c2), .val (.int d0), .val (.int d1), .val (.int d2), .val (.ref b7), .unset, .unset, .unset, .unset, .unset, .unset, .unset, .unset, .unset, .unset, .unset, .unset, .unset, .unset, .unset] [(.ref b9)]))
  refine Go.st (fun U hr => XS.astore X9.here hx rfl (hb hby at_62) rfl rfl (l' := #[.val (.int p1), .val (.long q2), .second, .val (.long q3), .second, .val (.long q4), .second, .val (.int nn), .val (.int c0), .val (.int c1), .val (.int c2), .val (.int d0), .val (.int d1), .val (.int d2), .val (.ref b7), .val (.ref b9), .unset, .unset, .unset, .unset, .unset, .unset, .unset, .unset, .unset, .unset, .unset, .unset, .unset, .unset]) rfl hr) ?_
  show Go p.tables e below _ (T9.setTop (mkF m 64 #[.val (.int p1), .val (.long q2), .second, .val (.long q3), .second, .val (.long q4), .second, .val (.int nn), .val (.int c0), .val (.int c1), .val (.int c2), .val (.int d0), .val (.int d1), .val (.int d2), .val (.ref b7), .val (.ref b9), .unset, .unset, .unset, .unset, .unset, .unset, .unset, .unset, .unset, .unset, .unset, .unset, .unset, .unset] []))
  have k117 : ∀ (Tc : State) (lc : List Loc) (hc : Heap), Stand p l e room_1 s m #[(.int p1), (.long q2), (.long q3), (.long q4)] below meth c Tc lc (0 + 1 + 1) (0 + 3 + 3) → Tc.heap = hc → Fr n0 lc → n0 ≤ hc.size → Arv Z hc b7 k7 .int nn [(.int c0), (.int c1), (.int c2)] (.int (0 : Int32)) → Arv Z hc b9 k9 .int nn [(.int d0), (.int d1), (.int d2)] (.int (0 : Int32)) → Go p.tables e below (own_Fin s below room_1.cells room_1.slots (Q0 Z p1 q2 q3 q4 h0 n0)) (Tc.setTop (mkF m 117 #[.val (.int p1), .val (.long q2), .second, .val (.long q3), .second, .val (.long q4), .second, .val (.int nn), .val (.int c0), .val (.int c1), .val (.int c2), .val (.int d0), .val (.int d1), .val (.int d2), .val (.ref b7), .val (.ref b9), .unset, .unset, .unset, .unset, .unset, .unset, .unset, .unset, .unset, .unset, .unset, .unset, .unset, .unset] [])) := by
    intro Tc lc hc Xc ec Nc zc Va Vb
    show Go p.tables e below _ (Tc.setTop (mkF m 117 #[.val (.int p1), .val (.long q2), .second, .val (.long q3), .second, .val (.long q4), .second, .val (.int nn), .val (.int c0), .val (.int c1), .val (.int c2), .val (.int d0), .val (.int d1), .val (.int d2), .val (.ref b7), .val (.ref b9), .unset, .unset, .unset, .unset, .unset, .unset, .unset, .unset, .unset, .unset, .unset, .unset, .unset, .unset] []))
    refine Go.st (fun U hr => XS.iload Xc.here hx rfl (hb hby at_117) rfl hr) ?_
    show Go p.tables e below _ (Tc.setTop (mkF m 119 #[.val (.int p1), .val (.long q2), .second, .val (.long q3), .second, .val (.long q4), .second, .val (.int nn), .val (.int c0), .val (.int c1), .val (.int c2), .val (.int d0), .val (.int d1), .val (.int d2), .val (.ref b7), .val (.ref b9), .unset, .unset, .unset, .unset, .unset, .unset, .unset, .unset, .unset, .unset, .unset, .unset, .unset, .unset] [(.int d0)]))
    refine Go.st (fun U hr => XS.iload Xc.here hx rfl (hb hby at_119) rfl hr) ?_
    show Go p.tables e below _ (Tc.setTop (mkF m 121 #[.val (.int p1), .val (.long q2), .second, .val (.long q3), .second, .val (.long q4), .second, .val (.int nn), .val (.int c0), .val (.int c1), .val (.int c2), .val (.int d0), .val (.int d1), .val (.int d2), .val (.ref b7), .val (.ref b9), .unset, .unset, .unset, .unset, .unset, .unset, .unset, .unset, .unset, .unset, .unset, .unset, .unset, .unset] [(.int c0), (.int d0)]))
    refine Go.st (fun U hr => XS.iconst Xc.here hx rfl (hb hby at_121) hr) ?_
    show Go p.tables e below _ (Tc.setTop (mkF m 122 #[.val (.int p1), .val (.long q2), .second, .val (.long q3), .second, .val (.long q4), .second, .val (.int nn), .val (.int c0), .val (.int c1), .val (.int c2), .val (.int d0), .val (.int d1), .val (.int d2), .val (.ref b7), .val (.ref b9), .unset, .unset, .unset, .unset, .unset, .unset, .unset, .unset, .unset, .unset, .unset, .unset, .unset, .unset] [(.int (1 : Int32)), (.int c0), (.int d0)]))
    refine Go.st (fun U hr => XS.isub Xc.here hx rfl (hb hby at_122) rfl hr) ?_
    show Go p.tables e below _ (Tc.setTop (mkF m 123 #[.val (.int p1), .val (.long q2), .second, .val (.long q3), .second, .val (.long q4), .second, .val (.int nn), .val (.int c0), .val (.int c1), .val (.int c2), .val (.int d0), .val (.int d1), .val (.int d2), .val (.ref b7), .val (.ref b9), .unset, .unset, .unset, .unset, .unset, .unset, .unset, .unset, .unset, .unset, .unset, .unset, .unset, .unset] [(.int (c0 - (1 : Int32))), (.int d0)]))
    suffices hj123_13 : Go p.tables e below (own_Fin s below room_1.cells room_1.slots (Q0 Z p1 q2 q3 q4 h0 n0)) (Tc.setTop (mkF m 131 #[.val (.int p1), .val (.long q2), .second, .val (.long q3), .second, .val (.long q4), .second, .val (.int nn), .val (.int c0), .val (.int c1), .val (.int c2), .val (.int d0), .val (.int d1), .val (.int d2), .val (.ref b7), .val (.ref b9), .unset, .unset, .unset, .unset, .unset, .unset, .unset, .unset, .unset, .unset, .unset, .unset, .unset, .unset] [(.int (if d0 = (c0 - (1 : Int32)) then (1 : Int32) else (0 : Int32)))])) by
      by_cases hc123_13 : d0 = (c0 - (1 : Int32))
      · refine Go.st (fun U hr => XS.icmpNo Xc.here hx rfl (hb hby at_123) rfl (teq hc123_13).2 hr) ?_
        show Go p.tables e below _ (Tc.setTop (mkF m 126 #[.val (.int p1), .val (.long q2), .second, .val (.long q3), .second, .val (.long q4), .second, .val (.int nn), .val (.int c0), .val (.int c1), .val (.int c2), .val (.int d0), .val (.int d1), .val (.int d2), .val (.ref b7), .val (.ref b9), .unset, .unset, .unset, .unset, .unset, .unset, .unset, .unset, .unset, .unset, .unset, .unset, .unset, .unset] []))
        refine Go.st (fun U hr => XS.iconst Xc.here hx rfl (hb hby at_126) hr) ?_
        show Go p.tables e below _ (Tc.setTop (mkF m 127 #[.val (.int p1), .val (.long q2), .second, .val (.long q3), .second, .val (.long q4), .second, .val (.int nn), .val (.int c0), .val (.int c1), .val (.int c2), .val (.int d0), .val (.int d1), .val (.int d2), .val (.ref b7), .val (.ref b9), .unset, .unset, .unset, .unset, .unset, .unset, .unset, .unset, .unset, .unset, .unset, .unset, .unset, .unset] [(.int (1 : Int32))]))
        refine Go.st (fun U hr => XS.goto Xc.here hx rfl (pc0 := 127) (pc' := 131) rfl (hb hby at_127) (by decide) (by decide) hr) ?_
        show Go p.tables e below _ (Tc.setTop (mkF m 131 #[.val (.int p1), .val (.long q2), .second, .val (.long q3), .second, .val (.long q4), .second, .val (.int nn), .val (.int c0), .val (.int c1), .val (.int c2), .val (.int d0), .val (.int d1), .val (.int d2), .val (.ref b7), .val (.ref b9), .unset, .unset, .unset, .unset, .unset, .unset, .unset, .unset, .unset, .unset, .unset, .unset, .unset, .unset] [(.int (1 : Int32))]))
        simpa only [if_pos hc123_13] using hj123_13
      · refine Go.st (fun U hr => XS.icmpYes Xc.here hx rfl (pc0 := 123) (pc' := 130) rfl (hb hby at_123) rfl (feq hc123_13).2 (by decide) (by decide) hr) ?_
        show Go p.tables e below _ (Tc.setTop (mkF m 130 #[.val (.int p1), .val (.long q2), .second, .val (.long q3), .second, .val (.long q4), .second, .val (.int nn), .val (.int c0), .val (.int c1), .val (.int c2), .val (.int d0), .val (.int d1), .val (.int d2), .val (.ref b7), .val (.ref b9), .unset, .unset, .unset, .unset, .unset, .unset, .unset, .unset, .unset, .unset, .unset, .unset, .unset, .unset] []))
        refine Go.st (fun U hr => XS.iconst Xc.here hx rfl (hb hby at_130) hr) ?_
        show Go p.tables e below _ (Tc.setTop (mkF m 131 #[.val (.int p1), .val (.long q2), .second, .val (.long q3), .second, .val (.long q4), .second, .val (.int nn), .val (.int c0), .val (.int c1), .val (.int c2), .val (.int d0), .val (.int d1), .val (.int d2), .val (.ref b7), .val (.ref b9), .unset, .unset, .unset, .unset, .unset, .unset, .unset, .unset, .unset, .unset, .unset, .unset, .unset, .unset] [(.int (0 : Int32))]))
        simpa only [if_neg hc123_13] using hj123_13
    generalize h_m0 : (if d0 = (c0 - (1 : Int32)) then (1 : Int32) else (0 : Int32)) = m0
    have hm0 : (m0 = 1 ∧ own_inc d0 c0 = 0) ∨ (m0 = 0 ∧ ¬ own_inc d0 c0 = 0 ∧ own_inc d0 c0 = d0 + 1) := by
      rw [← h_m0]
      by_cases q : d0 = c0 - 1
      · left; exact ⟨if_pos q, if_pos q⟩
      · right; exact ⟨if_neg q, own_inc_ne d0 c0 hd0 q, if_neg q⟩
    refine Go.st (fun U hr => XS.istore Xc.here hx rfl (hb hby at_131) rfl (l' := #[.val (.int p1), .val (.long q2), .second, .val (.long q3), .second, .val (.long q4), .second, .val (.int nn), .val (.int c0), .val (.int c1), .val (.int c2), .val (.int d0), .val (.int d1), .val (.int d2), .val (.ref b7), .val (.ref b9), .val (.int m0), .unset, .unset, .unset, .unset, .unset, .unset, .unset, .unset, .unset, .unset, .unset, .unset, .unset]) rfl hr) ?_
    show Go p.tables e below _ (Tc.setTop (mkF m 133 #[.val (.int p1), .val (.long q2), .second, .val (.long q3), .second, .val (.long q4), .second, .val (.int nn), .val (.int c0), .val (.int c1), .val (.int c2), .val (.int d0), .val (.int d1), .val (.int d2), .val (.ref b7), .val (.ref b9), .val (.int m0), .unset, .unset, .unset, .unset, .unset, .unset, .unset, .unset, .unset, .unset, .unset, .unset, .unset] []))
    refine Go.st (fun U hr => XS.iload Xc.here hx rfl (hb hby at_133) rfl hr) ?_
    show Go p.tables e below _ (Tc.setTop (mkF m 135 #[.val (.int p1), .val (.long q2), .second, .val (.long q3), .second, .val (.long q4), .second, .val (.int nn), .val (.int c0), .val (.int c1), .val (.int c2), .val (.int d0), .val (.int d1), .val (.int d2), .val (.ref b7), .val (.ref b9), .val (.int m0), .unset, .unset, .unset, .unset, .unset, .unset, .unset, .unset, .unset, .unset, .unset, .unset, .unset] [(.int d1)]))
    refine Go.st (fun U hr => XS.iload Xc.here hx rfl (hb hby at_135) rfl hr) ?_
    show Go p.tables e below _ (Tc.setTop (mkF m 137 #[.val (.int p1), .val (.long q2), .second, .val (.long q3), .second, .val (.long q4), .second, .val (.int nn), .val (.int c0), .val (.int c1), .val (.int c2), .val (.int d0), .val (.int d1), .val (.int d2), .val (.ref b7), .val (.ref b9), .val (.int m0), .unset, .unset, .unset, .unset, .unset, .unset, .unset, .unset, .unset, .unset, .unset, .unset, .unset] [(.int c1), (.int d1)]))
    refine Go.st (fun U hr => XS.iconst Xc.here hx rfl (hb hby at_137) hr) ?_
    show Go p.tables e below _ (Tc.setTop (mkF m 138 #[.val (.int p1), .val (.long q2), .second, .val (.long q3), .second, .val (.long q4), .second, .val (.int nn), .val (.int c0), .val (.int c1), .val (.int c2), .val (.int d0), .val (.int d1), .val (.int d2), .val (.ref b7), .val (.ref b9), .val (.int m0), .unset, .unset, .unset, .unset, .unset, .unset, .unset, .unset, .unset, .unset, .unset, .unset, .unset] [(.int (1 : Int32)), (.int c1), (.int d1)]))
    refine Go.st (fun U hr => XS.isub Xc.here hx rfl (hb hby at_138) rfl hr) ?_
    show Go p.tables e below _ (Tc.setTop (mkF m 139 #[.val (.int p1), .val (.long q2), .second, .val (.long q3), .second, .val (.long q4), .second, .val (.int nn), .val (.int c0), .val (.int c1), .val (.int c2), .val (.int d0), .val (.int d1), .val (.int d2), .val (.ref b7), .val (.ref b9), .val (.int m0), .unset, .unset, .unset, .unset, .unset, .unset, .unset, .unset, .unset, .unset, .unset, .unset, .unset] [(.int (c1 - (1 : Int32))), (.int d1)]))
    suffices hj139_14 : Go p.tables e below (own_Fin s below room_1.cells room_1.slots (Q0 Z p1 q2 q3 q4 h0 n0)) (Tc.setTop (mkF m 147 #[.val (.int p1), .val (.long q2), .second, .val (.long q3), .second, .val (.long q4), .second, .val (.int nn), .val (.int c0), .val (.int c1), .val (.int c2), .val (.int d0), .val (.int d1), .val (.int d2), .val (.ref b7), .val (.ref b9), .val (.int m0), .unset, .unset, .unset, .unset, .unset, .unset, .unset, .unset, .unset, .unset, .unset, .unset, .unset] [(.int (if d1 = (c1 - (1 : Int32)) then (1 : Int32) else (0 : Int32)))])) by
      by_cases hc139_14 : d1 = (c1 - (1 : Int32))
      · refine Go.st (fun U hr => XS.icmpNo Xc.here hx rfl (hb hby at_139) rfl (teq hc139_14).2 hr) ?_
        show Go p.tables e below _ (Tc.setTop (mkF m 142 #[.val (.int p1), .val (.long q2), .second, .val (.long q3), .second, .val (.long q4), .second, .val (.int nn), .val (.int c0), .val (.int c1), .val (.int c2), .val (.int d0), .val (.int d1), .val (.int d2), .val (.ref b7), .val (.ref b9), .val (.int m0), .unset, .unset, .unset, .unset, .unset, .unset, .unset, .unset, .unset, .unset, .unset, .unset, .unset] []))
        refine Go.st (fun U hr => XS.iconst Xc.here hx rfl (hb hby at_142) hr) ?_
        show Go p.tables e below _ (Tc.setTop (mkF m 143 #[.val (.int p1), .val (.long q2), .second, .val (.long q3), .second, .val (.long q4), .second, .val (.int nn), .val (.int c0), .val (.int c1), .val (.int c2), .val (.int d0), .val (.int d1), .val (.int d2), .val (.ref b7), .val (.ref b9), .val (.int m0), .unset, .unset, .unset, .unset, .unset, .unset, .unset, .unset, .unset, .unset, .unset, .unset, .unset] [(.int (1 : Int32))]))
        refine Go.st (fun U hr => XS.goto Xc.here hx rfl (pc0 := 143) (pc' := 147) rfl (hb hby at_143) (by decide) (by decide) hr) ?_
        show Go p.tables e below _ (Tc.setTop (mkF m 147 #[.val (.int p1), .val (.long q2), .second, .val (.long q3), .second, .val (.long q4), .second, .val (.int nn), .val (.int c0), .val (.int c1), .val (.int c2), .val (.int d0), .val (.int d1), .val (.int d2), .val (.ref b7), .val (.ref b9), .val (.int m0), .unset, .unset, .unset, .unset, .unset, .unset, .unset, .unset, .unset, .unset, .unset, .unset, .unset] [(.int (1 : Int32))]))
        simpa only [if_pos hc139_14] using hj139_14
      · refine Go.st (fun U hr => XS.icmpYes Xc.here hx rfl (pc0 := 139) (pc' := 146) rfl (hb hby at_139) rfl (feq hc139_14).2 (by decide) (by decide) hr) ?_
        show Go p.tables e below _ (Tc.setTop (mkF m 146 #[.val (.int p1), .val (.long q2), .second, .val (.long q3), .second, .val (.long q4), .second, .val (.int nn), .val (.int c0), .val (.int c1), .val (.int c2), .val (.int d0), .val (.int d1), .val (.int d2), .val (.ref b7), .val (.ref b9), .val (.int m0), .unset, .unset, .unset, .unset, .unset, .unset, .unset, .unset, .unset, .unset, .unset, .unset, .unset] []))
        refine Go.st (fun U hr => XS.iconst Xc.here hx rfl (hb hby at_146) hr) ?_
        show Go p.tables e below _ (Tc.setTop (mkF m 147 #[.val (.int p1), .val (.long q2), .second, .val (.long q3), .second, .val (.long q4), .second, .val (.int nn), .val (.int c0), .val (.int c1), .val (.int c2), .val (.int d0), .val (.int d1), .val (.int d2), .val (.ref b7), .val (.ref b9), .val (.int m0), .unset, .unset, .unset, .unset, .unset, .unset, .unset, .unset, .unset, .unset, .unset, .unset, .unset] [(.int (0 : Int32))]))
        simpa only [if_neg hc139_14] using hj139_14
    generalize h_m1 : (if d1 = (c1 - (1 : Int32)) then (1 : Int32) else (0 : Int32)) = m1
    have hm1 : (m1 = 1 ∧ own_inc d1 c1 = 0) ∨ (m1 = 0 ∧ ¬ own_inc d1 c1 = 0 ∧ own_inc d1 c1 = d1 + 1) := by
      rw [← h_m1]
      by_cases q : d1 = c1 - 1
      · left; exact ⟨if_pos q, if_pos q⟩
      · right; exact ⟨if_neg q, own_inc_ne d1 c1 hd1 q, if_neg q⟩
    refine Go.st (fun U hr => XS.istore Xc.here hx rfl (hb hby at_147) rfl (l' := #[.val (.int p1), .val (.long q2), .second, .val (.long q3), .second, .val (.long q4), .second, .val (.int nn), .val (.int c0), .val (.int c1), .val (.int c2), .val (.int d0), .val (.int d1), .val (.int d2), .val (.ref b7), .val (.ref b9), .val (.int m0), .val (.int m1), .unset, .unset, .unset, .unset, .unset, .unset, .unset, .unset, .unset, .unset, .unset, .unset]) rfl hr) ?_
    show Go p.tables e below _ (Tc.setTop (mkF m 149 #[.val (.int p1), .val (.long q2), .second, .val (.long q3), .second, .val (.long q4), .second, .val (.int nn), .val (.int c0), .val (.int c1), .val (.int c2), .val (.int d0), .val (.int d1), .val (.int d2), .val (.ref b7), .val (.ref b9), .val (.int m0), .val (.int m1), .unset, .unset, .unset, .unset, .unset, .unset, .unset, .unset, .unset, .unset, .unset, .unset] []))
    refine Go.st (fun U hr => XS.iload Xc.here hx rfl (hb hby at_149) rfl hr) ?_
    show Go p.tables e below _ (Tc.setTop (mkF m 151 #[.val (.int p1), .val (.long q2), .second, .val (.long q3), .second, .val (.long q4), .second, .val (.int nn), .val (.int c0), .val (.int c1), .val (.int c2), .val (.int d0), .val (.int d1), .val (.int d2), .val (.ref b7), .val (.ref b9), .val (.int m0), .val (.int m1), .unset, .unset, .unset, .unset, .unset, .unset, .unset, .unset, .unset, .unset, .unset, .unset] [(.int d2)]))
    refine Go.st (fun U hr => XS.iload Xc.here hx rfl (hb hby at_151) rfl hr) ?_
    show Go p.tables e below _ (Tc.setTop (mkF m 153 #[.val (.int p1), .val (.long q2), .second, .val (.long q3), .second, .val (.long q4), .second, .val (.int nn), .val (.int c0), .val (.int c1), .val (.int c2), .val (.int d0), .val (.int d1), .val (.int d2), .val (.ref b7), .val (.ref b9), .val (.int m0), .val (.int m1), .unset, .unset, .unset, .unset, .unset, .unset, .unset, .unset, .unset, .unset, .unset, .unset] [(.int c2), (.int d2)]))
    refine Go.st (fun U hr => XS.iconst Xc.here hx rfl (hb hby at_153) hr) ?_
    show Go p.tables e below _ (Tc.setTop (mkF m 154 #[.val (.int p1), .val (.long q2), .second, .val (.long q3), .second, .val (.long q4), .second, .val (.int nn), .val (.int c0), .val (.int c1), .val (.int c2), .val (.int d0), .val (.int d1), .val (.int d2), .val (.ref b7), .val (.ref b9), .val (.int m0), .val (.int m1), .unset, .unset, .unset, .unset, .unset, .unset, .unset, .unset, .unset, .unset, .unset, .unset] [(.int (1 : Int32)), (.int c2), (.int d2)]))
    refine Go.st (fun U hr => XS.isub Xc.here hx rfl (hb hby at_154) rfl hr) ?_
    show Go p.tables e below _ (Tc.setTop (mkF m 155 #[.val (.int p1), .val (.long q2), .second, .val (.long q3), .second, .val (.long q4), .second, .val (.int nn), .val (.int c0), .val (.int c1), .val (.int c2), .val (.int d0), .val (.int d1), .val (.int d2), .val (.ref b7), .val (.ref b9), .val (.int m0), .val (.int m1), .unset, .unset, .unset, .unset, .unset, .unset, .unset, .unset, .unset, .unset, .unset, .unset] [(.int (c2 - (1 : Int32))), (.int d2)]))
    suffices hj155_15 : Go p.tables e below (own_Fin s below room_1.cells room_1.slots (Q0 Z p1 q2 q3 q4 h0 n0)) (Tc.setTop (mkF m 163 #[.val (.int p1), .val (.long q2), .second, .val (.long q3), .second, .val (.long q4), .second, .val (.int nn), .val (.int c0), .val (.int c1), .val (.int c2), .val (.int d0), .val (.int d1), .val (.int d2), .val (.ref b7), .val (.ref b9), .val (.int m0), .val (.int m1), .unset, .unset, .unset, .unset, .unset, .unset, .unset, .unset, .unset, .unset, .unset, .unset] [(.int (if d2 = (c2 - (1 : Int32)) then (1 : Int32) else (0 : Int32)))])) by
      by_cases hc155_15 : d2 = (c2 - (1 : Int32))
      · refine Go.st (fun U hr => XS.icmpNo Xc.here hx rfl (hb hby at_155) rfl (teq hc155_15).2 hr) ?_
        show Go p.tables e below _ (Tc.setTop (mkF m 158 #[.val (.int p1), .val (.long q2), .second, .val (.long q3), .second, .val (.long q4), .second, .val (.int nn), .val (.int c0), .val (.int c1), .val (.int c2), .val (.int d0), .val (.int d1), .val (.int d2), .val (.ref b7), .val (.ref b9), .val (.int m0), .val (.int m1), .unset, .unset, .unset, .unset, .unset, .unset, .unset, .unset, .unset, .unset, .unset, .unset] []))
        refine Go.st (fun U hr => XS.iconst Xc.here hx rfl (hb hby at_158) hr) ?_
        show Go p.tables e below _ (Tc.setTop (mkF m 159 #[.val (.int p1), .val (.long q2), .second, .val (.long q3), .second, .val (.long q4), .second, .val (.int nn), .val (.int c0), .val (.int c1), .val (.int c2), .val (.int d0), .val (.int d1), .val (.int d2), .val (.ref b7), .val (.ref b9), .val (.int m0), .val (.int m1), .unset, .unset, .unset, .unset, .unset, .unset, .unset, .unset, .unset, .unset, .unset, .unset] [(.int (1 : Int32))]))
        refine Go.st (fun U hr => XS.goto Xc.here hx rfl (pc0 := 159) (pc' := 163) rfl (hb hby at_159) (by decide) (by decide) hr) ?_
        show Go p.tables e below _ (Tc.setTop (mkF m 163 #[.val (.int p1), .val (.long q2), .second, .val (.long q3), .second, .val (.long q4), .second, .val (.int nn), .val (.int c0), .val (.int c1), .val (.int c2), .val (.int d0), .val (.int d1), .val (.int d2), .val (.ref b7), .val (.ref b9), .val (.int m0), .val (.int m1), .unset, .unset, .unset, .unset, .unset, .unset, .unset, .unset, .unset, .unset, .unset, .unset] [(.int (1 : Int32))]))
        simpa only [if_pos hc155_15] using hj155_15
      · refine Go.st (fun U hr => XS.icmpYes Xc.here hx rfl (pc0 := 155) (pc' := 162) rfl (hb hby at_155) rfl (feq hc155_15).2 (by decide) (by decide) hr) ?_
        show Go p.tables e below _ (Tc.setTop (mkF m 162 #[.val (.int p1), .val (.long q2), .second, .val (.long q3), .second, .val (.long q4), .second, .val (.int nn), .val (.int c0), .val (.int c1), .val (.int c2), .val (.int d0), .val (.int d1), .val (.int d2), .val (.ref b7), .val (.ref b9), .val (.int m0), .val (.int m1), .unset, .unset, .unset, .unset, .unset, .unset, .unset, .unset, .unset, .unset, .unset, .unset] []))
        refine Go.st (fun U hr => XS.iconst Xc.here hx rfl (hb hby at_162) hr) ?_
        show Go p.tables e below _ (Tc.setTop (mkF m 163 #[.val (.int p1), .val (.long q2), .second, .val (.long q3), .second, .val (.long q4), .second, .val (.int nn), .val (.int c0), .val (.int c1), .val (.int c2), .val (.int d0), .val (.int d1), .val (.int d2), .val (.ref b7), .val (.ref b9), .val (.int m0), .val (.int m1), .unset, .unset, .unset, .unset, .unset, .unset, .unset, .unset, .unset, .unset, .unset, .unset] [(.int (0 : Int32))]))
        simpa only [if_neg hc155_15] using hj155_15
    generalize h_m2 : (if d2 = (c2 - (1 : Int32)) then (1 : Int32) else (0 : Int32)) = m2
    have hm2 : (m2 = 1 ∧ own_inc d2 c2 = 0) ∨ (m2 = 0 ∧ ¬ own_inc d2 c2 = 0 ∧ own_inc d2 c2 = d2 + 1) := by
      rw [← h_m2]
      by_cases q : d2 = c2 - 1
      · left; exact ⟨if_pos q, if_pos q⟩
      · right; exact ⟨if_neg q, own_inc_ne d2 c2 hd2 q, if_neg q⟩
    refine Go.st (fun U hr => XS.istore Xc.here hx rfl (hb hby at_163) rfl (l' := #[.val (.int p1), .val (.long q2), .second, .val (.long q3), .second, .val (.long q4), .second, .val (.int nn), .val (.int c0), .val (.int c1), .val (.int c2), .val (.int d0), .val (.int d1), .val (.int d2), .val (.ref b7), .val (.ref b9), .val (.int m0), .val (.int m1), .val (.int m2), .unset, .unset, .unset, .unset, .unset, .unset, .unset, .unset, .unset, .unset, .unset]) rfl hr) ?_
    show Go p.tables e below _ (Tc.setTop (mkF m 165 #[.val (.int p1), .val (.long q2), .second, .val (.long q3), .second, .val (.long q4), .second, .val (.int nn), .val (.int c0), .val (.int c1), .val (.int c2), .val (.int d0), .val (.int d1), .val (.int d2), .val (.ref b7), .val (.ref b9), .val (.int m0), .val (.int m1), .val (.int m2), .unset, .unset, .unset, .unset, .unset, .unset, .unset, .unset, .unset, .unset, .unset] []))
    refine Go.st (fun U hr => XS.iload Xc.here hx rfl (hb hby at_165) rfl hr) ?_
    show Go p.tables e below _ (Tc.setTop (mkF m 167 #[.val (.int p1), .val (.long q2), .second, .val (.long q3), .second, .val (.long q4), .second, .val (.int nn), .val (.int c0), .val (.int c1), .val (.int c2), .val (.int d0), .val (.int d1), .val (.int d2), .val (.ref b7), .val (.ref b9), .val (.int m0), .val (.int m1), .val (.int m2), .unset, .unset, .unset, .unset, .unset, .unset, .unset, .unset, .unset, .unset, .unset] [(.int nn)]))
    suffices hj167_16 : Go p.tables e below (own_Fin s below room_1.cells room_1.slots (Q0 Z p1 q2 q3 q4 h0 n0)) (Tc.setTop (mkF m 180 #[.val (.int p1), .val (.long q2), .second, .val (.long q3), .second, .val (.long q4), .second, .val (.int nn), .val (.int c0), .val (.int c1), .val (.int c2), .val (.int d0), .val (.int d1), .val (.int d2), .val (.ref b7), .val (.ref b9), .val (.int m0), .val (.int m1), .val (.int m2), .unset, .unset, .unset, .unset, .unset, .unset, .unset, .unset, .unset, .unset, .unset] [(.int (if (0 : Int32) < nn then (if m0 = (0 : Int32) then (0 : Int32) else (1 : Int32)) else (1 : Int32)))])) by
      by_cases hc167_16 : (0 : Int32) < nn
      · refine Go.st (fun U hr => XS.ifNo Xc.here hx rfl (hb hby at_167) rfl ((if0 _ _).trans (tlt hc167_16).2.2.2) hr) ?_
        show Go p.tables e below _ (Tc.setTop (mkF m 170 #[.val (.int p1), .val (.long q2), .second, .val (.long q3), .second, .val (.long q4), .second, .val (.int nn), .val (.int c0), .val (.int c1), .val (.int c2), .val (.int d0), .val (.int d1), .val (.int d2), .val (.ref b7), .val (.ref b9), .val (.int m0), .val (.int m1), .val (.int m2), .unset, .unset, .unset, .unset, .unset, .unset, .unset, .unset, .unset, .unset, .unset] []))
        refine Go.st (fun U hr => XS.iload Xc.here hx rfl (hb hby at_170) rfl hr) ?_
        show Go p.tables e below _ (Tc.setTop (mkF m 172 #[.val (.int p1), .val (.long q2), .second, .val (.long q3), .second, .val (.long q4), .second, .val (.int nn), .val (.int c0), .val (.int c1), .val (.int c2), .val (.int d0), .val (.int d1), .val (.int d2), .val (.ref b7), .val (.ref b9), .val (.int m0), .val (.int m1), .val (.int m2), .unset, .unset, .unset, .unset, .unset, .unset, .unset, .unset, .unset, .unset, .unset] [(.int m0)]))
        suffices hj172_17 : Go p.tables e below (own_Fin s below room_1.cells room_1.slots (Q0 Z p1 q2 q3 q4 h0 n0)) (Tc.setTop (mkF m 180 #[.val (.int p1), .val (.long q2), .second, .val (.long q3), .second, .val (.long q4), .second, .val (.int nn), .val (.int c0), .val (.int c1), .val (.int c2), .val (.int d0), .val (.int d1), .val (.int d2), .val (.ref b7), .val (.ref b9), .val (.int m0), .val (.int m1), .val (.int m2), .unset, .unset, .unset, .unset, .unset, .unset, .unset, .unset, .unset, .unset, .unset] [(.int (if m0 = (0 : Int32) then (0 : Int32) else (1 : Int32)))])) by
          by_cases hc172_17 : m0 = (0 : Int32)
          · refine Go.st (fun U hr => XS.ifYes Xc.here hx rfl (pc0 := 172) (pc' := 179) rfl (hb hby at_172) rfl ((if0 _ _).trans (teq hc172_17).1) (by decide) (by decide) hr) ?_
            show Go p.tables e below _ (Tc.setTop (mkF m 179 #[.val (.int p1), .val (.long q2), .second, .val (.long q3), .second, .val (.long q4), .second, .val (.int nn), .val (.int c0), .val (.int c1), .val (.int c2), .val (.int d0), .val (.int d1), .val (.int d2), .val (.ref b7), .val (.ref b9), .val (.int m0), .val (.int m1), .val (.int m2), .unset, .unset, .unset, .unset, .unset, .unset, .unset, .unset, .unset, .unset, .unset] []))
            refine Go.st (fun U hr => XS.iconst Xc.here hx rfl (hb hby at_179) hr) ?_
            show Go p.tables e below _ (Tc.setTop (mkF m 180 #[.val (.int p1), .val (.long q2), .second, .val (.long q3), .second, .val (.long q4), .second, .val (.int nn), .val (.int c0), .val (.int c1), .val (.int c2), .val (.int d0), .val (.int d1), .val (.int d2), .val (.ref b7), .val (.ref b9), .val (.int m0), .val (.int m1), .val (.int m2), .unset, .unset, .unset, .unset, .unset, .unset, .unset, .unset, .unset, .unset, .unset] [(.int (0 : Int32))]))
            simpa only [if_pos hc172_17] using hj172_17
          · refine Go.st (fun U hr => XS.ifNo Xc.here hx rfl (hb hby at_172) rfl ((if0 _ _).trans (feq hc172_17).1) hr) ?_
            show Go p.tables e below _ (Tc.setTop (mkF m 175 #[.val (.int p1), .val (.long q2), .second, .val (.long q3), .second, .val (.long q4), .second, .val (.int nn), .val (.int c0), .val (.int c1), .val (.int c2), .val (.int d0), .val (.int d1), .val (.int d2), .val (.ref b7), .val (.ref b9), .val (.int m0), .val (.int m1), .val (.int m2), .unset, .unset, .unset, .unset, .unset, .unset, .unset, .unset, .unset, .unset, .unset] []))
            refine Go.st (fun U hr => XS.iconst Xc.here hx rfl (hb hby at_175) hr) ?_
            show Go p.tables e below _ (Tc.setTop (mkF m 176 #[.val (.int p1), .val (.long q2), .second, .val (.long q3), .second, .val (.long q4), .second, .val (.int nn), .val (.int c0), .val (.int c1), .val (.int c2), .val (.int d0), .val (.int d1), .val (.int d2), .val (.ref b7), .val (.ref b9), .val (.int m0), .val (.int m1), .val (.int m2), .unset, .unset, .unset, .unset, .unset, .unset, .unset, .unset, .unset, .unset, .unset] [(.int (1 : Int32))]))
            refine Go.st (fun U hr => XS.goto Xc.here hx rfl (pc0 := 176) (pc' := 180) rfl (hb hby at_176) (by decide) (by decide) hr) ?_
            show Go p.tables e below _ (Tc.setTop (mkF m 180 #[.val (.int p1), .val (.long q2), .second, .val (.long q3), .second, .val (.long q4), .second, .val (.int nn), .val (.int c0), .val (.int c1), .val (.int c2), .val (.int d0), .val (.int d1), .val (.int d2), .val (.ref b7), .val (.ref b9), .val (.int m0), .val (.int m1), .val (.int m2), .unset, .unset, .unset, .unset, .unset, .unset, .unset, .unset, .unset, .unset, .unset] [(.int (1 : Int32))]))
            simpa only [if_neg hc172_17] using hj172_17
        simpa only [if_pos hc167_16] using hj167_16
      · refine Go.st (fun U hr => XS.ifYes Xc.here hx rfl (pc0 := 167) (pc' := 175) rfl (hb hby at_167) rfl ((if0 _ _).trans (flt hc167_16).2.2.2) (by decide) (by decide) hr) ?_
        show Go p.tables e below _ (Tc.setTop (mkF m 175 #[.val (.int p1), .val (.long q2), .second, .val (.long q3), .second, .val (.long q4), .second, .val (.int nn), .val (.int c0), .val (.int c1), .val (.int c2), .val (.int d0), .val (.int d1), .val (.int d2), .val (.ref b7), .val (.ref b9), .val (.int m0), .val (.int m1), .val (.int m2), .unset, .unset, .unset, .unset, .unset, .unset, .unset, .unset, .unset, .unset, .unset] []))
        refine Go.st (fun U hr => XS.iconst Xc.here hx rfl (hb hby at_175) hr) ?_
        show Go p.tables e below _ (Tc.setTop (mkF m 176 #[.val (.int p1), .val (.long q2), .second, .val (.long q3), .second, .val (.long q4), .second, .val (.int nn), .val (.int c0), .val (.int c1), .val (.int c2), .val (.int d0), .val (.int d1), .val (.int d2), .val (.ref b7), .val (.ref b9), .val (.int m0), .val (.int m1), .val (.int m2), .unset, .unset, .unset, .unset, .unset, .unset, .unset, .unset, .unset, .unset, .unset] [(.int (1 : Int32))]))
        refine Go.st (fun U hr => XS.goto Xc.here hx rfl (pc0 := 176) (pc' := 180) rfl (hb hby at_176) (by decide) (by decide) hr) ?_
        show Go p.tables e below _ (Tc.setTop (mkF m 180 #[.val (.int p1), .val (.long q2), .second, .val (.long q3), .second, .val (.long q4), .second, .val (.int nn), .val (.int c0), .val (.int c1), .val (.int c2), .val (.int d0), .val (.int d1), .val (.int d2), .val (.ref b7), .val (.ref b9), .val (.int m0), .val (.int m1), .val (.int m2), .unset, .unset, .unset, .unset, .unset, .unset, .unset, .unset, .unset, .unset, .unset] [(.int (1 : Int32))]))
        simpa only [if_neg hc167_16] using hj167_16
    generalize h_B0 : (if (0 : Int32) < nn then (if m0 = (0 : Int32) then (0 : Int32) else (1 : Int32)) else (1 : Int32)) = B0
    refine Go.st (fun U hr => XS.istore Xc.here hx rfl (hb hby at_180) rfl (l' := #[.val (.int p1), .val (.long q2), .second, .val (.long q3), .second, .val (.long q4), .second, .val (.int nn), .val (.int c0), .val (.int c1), .val (.int c2), .val (.int d0), .val (.int d1), .val (.int d2), .val (.ref b7), .val (.ref b9), .val (.int m0), .val (.int m1), .val (.int m2), .val (.int B0), .unset, .unset, .unset, .unset, .unset, .unset, .unset, .unset, .unset, .unset]) rfl hr) ?_
    show Go p.tables e below _ (Tc.setTop (mkF m 182 #[.val (.int p1), .val (.long q2), .second, .val (.long q3), .second, .val (.long q4), .second, .val (.int nn), .val (.int c0), .val (.int c1), .val (.int c2), .val (.int d0), .val (.int d1), .val (.int d2), .val (.ref b7), .val (.ref b9), .val (.int m0), .val (.int m1), .val (.int m2), .val (.int B0), .unset, .unset, .unset, .unset, .unset, .unset, .unset, .unset, .unset, .unset] []))
    refine Go.st (fun U hr => XS.iload Xc.here hx rfl (hb hby at_182) rfl hr) ?_
    show Go p.tables e below _ (Tc.setTop (mkF m 184 #[.val (.int p1), .val (.long q2), .second, .val (.long q3), .second, .val (.long q4), .second, .val (.int nn), .val (.int c0), .val (.int c1), .val (.int c2), .val (.int d0), .val (.int d1), .val (.int d2), .val (.ref b7), .val (.ref b9), .val (.int m0), .val (.int m1), .val (.int m2), .val (.int B0), .unset, .unset, .unset, .unset, .unset, .unset, .unset, .unset, .unset, .unset] [(.int nn)]))
    refine Go.st (fun U hr => XS.iconst Xc.here hx rfl (hb hby at_184) hr) ?_
    show Go p.tables e below _ (Tc.setTop (mkF m 185 #[.val (.int p1), .val (.long q2), .second, .val (.long q3), .second, .val (.long q4), .second, .val (.int nn), .val (.int c0), .val (.int c1), .val (.int c2), .val (.int d0), .val (.int d1), .val (.int d2), .val (.ref b7), .val (.ref b9), .val (.int m0), .val (.int m1), .val (.int m2), .val (.int B0), .unset, .unset, .unset, .unset, .unset, .unset, .unset, .unset, .unset, .unset] [(.int (1 : Int32)), (.int nn)]))
    suffices hj185_18 : Go p.tables e below (own_Fin s below room_1.cells room_1.slots (Q0 Z p1 q2 q3 q4 h0 n0)) (Tc.setTop (mkF m 198 #[.val (.int p1), .val (.long q2), .second, .val (.long q3), .second, .val (.long q4), .second, .val (.int nn), .val (.int c0), .val (.int c1), .val (.int c2), .val (.int d0), .val (.int d1), .val (.int d2), .val (.ref b7), .val (.ref b9), .val (.int m0), .val (.int m1), .val (.int m2), .val (.int B0), .unset, .unset, .unset, .unset, .unset, .unset, .unset, .unset, .unset, .unset] [(.int (if (1 : Int32) < nn then (if m1 = (0 : Int32) then (0 : Int32) else (1 : Int32)) else (1 : Int32)))])) by
      by_cases hc185_18 : (1 : Int32) < nn
      · refine Go.st (fun U hr => XS.icmpNo Xc.here hx rfl (hb hby at_185) rfl (tlt hc185_18).2.2.2 hr) ?_
        show Go p.tables e below _ (Tc.setTop (mkF m 188 #[.val (.int p1), .val (.long q2), .second, .val (.long q3), .second, .val (.long q4), .second, .val (.int nn), .val (.int c0), .val (.int c1), .val (.int c2), .val (.int d0), .val (.int d1), .val (.int d2), .val (.ref b7), .val (.ref b9), .val (.int m0), .val (.int m1), .val (.int m2), .val (.int B0), .unset, .unset, .unset, .unset, .unset, .unset, .unset, .unset, .unset, .unset] []))
        refine Go.st (fun U hr => XS.iload Xc.here hx rfl (hb hby at_188) rfl hr) ?_
        show Go p.tables e below _ (Tc.setTop (mkF m 190 #[.val (.int p1), .val (.long q2), .second, .val (.long q3), .second, .val (.long q4), .second, .val (.int nn), .val (.int c0), .val (.int c1), .val (.int c2), .val (.int d0), .val (.int d1), .val (.int d2), .val (.ref b7), .val (.ref b9), .val (.int m0), .val (.int m1), .val (.int m2), .val (.int B0), .unset, .unset, .unset, .unset, .unset, .unset, .unset, .unset, .unset, .unset] [(.int m1)]))
        suffices hj190_19 : Go p.tables e below (own_Fin s below room_1.cells room_1.slots (Q0 Z p1 q2 q3 q4 h0 n0)) (Tc.setTop (mkF m 198 #[.val (.int p1), .val (.long q2), .second, .val (.long q3), .second, .val (.long q4), .second, .val (.int nn), .val (.int c0), .val (.int c1), .val (.int c2), .val (.int d0), .val (.int d1), .val (.int d2), .val (.ref b7), .val (.ref b9), .val (.int m0), .val (.int m1), .val (.int m2), .val (.int B0), .unset, .unset, .unset, .unset, .unset, .unset, .unset, .unset, .unset, .unset] [(.int (if m1 = (0 : Int32) then (0 : Int32) else (1 : Int32)))])) by
          by_cases hc190_19 : m1 = (0 : Int32)
          · refine Go.st (fun U hr => XS.ifYes Xc.here hx rfl (pc0 := 190) (pc' := 197) rfl (hb hby at_190) rfl ((if0 _ _).trans (teq hc190_19).1) (by decide) (by decide) hr) ?_
            show Go p.tables e below _ (Tc.setTop (mkF m 197 #[.val (.int p1), .val (.long q2), .second, .val (.long q3), .second, .val (.long q4), .second, .val (.int nn), .val (.int c0), .val (.int c1), .val (.int c2), .val (.int d0), .val (.int d1), .val (.int d2), .val (.ref b7), .val (.ref b9), .val (.int m0), .val (.int m1), .val (.int m2), .val (.int B0), .unset, .unset, .unset, .unset, .unset, .unset, .unset, .unset, .unset, .unset] []))
            refine Go.st (fun U hr => XS.iconst Xc.here hx rfl (hb hby at_197) hr) ?_
            show Go p.tables e below _ (Tc.setTop (mkF m 198 #[.val (.int p1), .val (.long q2), .second, .val (.long q3), .second, .val (.long q4), .second, .val (.int nn), .val (.int c0), .val (.int c1), .val (.int c2), .val (.int d0), .val (.int d1), .val (.int d2), .val (.ref b7), .val (.ref b9), .val (.int m0), .val (.int m1), .val (.int m2), .val (.int B0), .unset, .unset, .unset, .unset, .unset, .unset, .unset, .unset, .unset, .unset] [(.int (0 : Int32))]))
            simpa only [if_pos hc190_19] using hj190_19
          · refine Go.st (fun U hr => XS.ifNo Xc.here hx rfl (hb hby at_190) rfl ((if0 _ _).trans (feq hc190_19).1) hr) ?_
            show Go p.tables e below _ (Tc.setTop (mkF m 193 #[.val (.int p1), .val (.long q2), .second, .val (.long q3), .second, .val (.long q4), .second, .val (.int nn), .val (.int c0), .val (.int c1), .val (.int c2), .val (.int d0), .val (.int d1), .val (.int d2), .val (.ref b7), .val (.ref b9), .val (.int m0), .val (.int m1), .val (.int m2), .val (.int B0), .unset, .unset, .unset, .unset, .unset, .unset, .unset, .unset, .unset, .unset] []))
            refine Go.st (fun U hr => XS.iconst Xc.here hx rfl (hb hby at_193) hr) ?_
            show Go p.tables e below _ (Tc.setTop (mkF m 194 #[.val (.int p1), .val (.long q2), .second, .val (.long q3), .second, .val (.long q4), .second, .val (.int nn), .val (.int c0), .val (.int c1), .val (.int c2), .val (.int d0), .val (.int d1), .val (.int d2), .val (.ref b7), .val (.ref b9), .val (.int m0), .val (.int m1), .val (.int m2), .val (.int B0), .unset, .unset, .unset, .unset, .unset, .unset, .unset, .unset, .unset, .unset] [(.int (1 : Int32))]))
            refine Go.st (fun U hr => XS.goto Xc.here hx rfl (pc0 := 194) (pc' := 198) rfl (hb hby at_194) (by decide) (by decide) hr) ?_
            show Go p.tables e below _ (Tc.setTop (mkF m 198 #[.val (.int p1), .val (.long q2), .second, .val (.long q3), .second, .val (.long q4), .second, .val (.int nn), .val (.int c0), .val (.int c1), .val (.int c2), .val (.int d0), .val (.int d1), .val (.int d2), .val (.ref b7), .val (.ref b9), .val (.int m0), .val (.int m1), .val (.int m2), .val (.int B0), .unset, .unset, .unset, .unset, .unset, .unset, .unset, .unset, .unset, .unset] [(.int (1 : Int32))]))
            simpa only [if_neg hc190_19] using hj190_19
        simpa only [if_pos hc185_18] using hj185_18
      · refine Go.st (fun U hr => XS.icmpYes Xc.here hx rfl (pc0 := 185) (pc' := 193) rfl (hb hby at_185) rfl (flt hc185_18).2.2.2 (by decide) (by decide) hr) ?_
        show Go p.tables e below _ (Tc.setTop (mkF m 193 #[.val (.int p1), .val (.long q2), .second, .val (.long q3), .second, .val (.long q4), .second, .val (.int nn), .val (.int c0), .val (.int c1), .val (.int c2), .val (.int d0), .val (.int d1), .val (.int d2), .val (.ref b7), .val (.ref b9), .val (.int m0), .val (.int m1), .val (.int m2), .val (.int B0), .unset, .unset, .unset, .unset, .unset, .unset, .unset, .unset, .unset, .unset] []))
        refine Go.st (fun U hr => XS.iconst Xc.here hx rfl (hb hby at_193) hr) ?_
        show Go p.tables e below _ (Tc.setTop (mkF m 194 #[.val (.int p1), .val (.long q2), .second, .val (.long q3), .second, .val (.long q4), .second, .val (.int nn), .val (.int c0), .val (.int c1), .val (.int c2), .val (.int d0), .val (.int d1), .val (.int d2), .val (.ref b7), .val (.ref b9), .val (.int m0), .val (.int m1), .val (.int m2), .val (.int B0), .unset, .unset, .unset, .unset, .unset, .unset, .unset, .unset, .unset, .unset] [(.int (1 : Int32))]))
        refine Go.st (fun U hr => XS.goto Xc.here hx rfl (pc0 := 194) (pc' := 198) rfl (hb hby at_194) (by decide) (by decide) hr) ?_
        show Go p.tables e below _ (Tc.setTop (mkF m 198 #[.val (.int p1), .val (.long q2), .second, .val (.long q3), .second, .val (.long q4), .second, .val (.int nn), .val (.int c0), .val (.int c1), .val (.int c2), .val (.int d0), .val (.int d1), .val (.int d2), .val (.ref b7), .val (.ref b9), .val (.int m0), .val (.int m1), .val (.int m2), .val (.int B0), .unset, .unset, .unset, .unset, .unset, .unset, .unset, .unset, .unset, .unset] [(.int (1 : Int32))]))
        simpa only [if_neg hc185_18] using hj185_18
    generalize h_B1 : (if (1 : Int32) < nn then (if m1 = (0 : Int32) then (0 : Int32) else (1 : Int32)) else (1 : Int32)) = B1
    refine Go.st (fun U hr => XS.istore Xc.here hx rfl (hb hby at_198) rfl (l' := #[.val (.int p1), .val (.long q2), .second, .val (.long q3), .second, .val (.long q4), .second, .val (.int nn), .val (.int c0), .val (.int c1), .val (.int c2), .val (.int d0), .val (.int d1), .val (.int d2), .val (.ref b7), .val (.ref b9), .val (.int m0), .val (.int m1), .val (.int m2), .val (.int B0), .val (.int B1), .unset, .unset, .unset, .unset, .unset, .unset, .unset, .unset, .unset]) rfl hr) ?_
    show Go p.tables e below _ (Tc.setTop (mkF m 200 #[.val (.int p1), .val (.long q2), .second, .val (.long q3), .second, .val (.long q4), .second, .val (.int nn), .val (.int c0), .val (.int c1), .val (.int c2), .val (.int d0), .val (.int d1), .val (.int d2), .val (.ref b7), .val (.ref b9), .val (.int m0), .val (.int m1), .val (.int m2), .val (.int B0), .val (.int B1), .unset, .unset, .unset, .unset, .unset, .unset, .unset, .unset, .unset] []))
    refine Go.st (fun U hr => XS.iload Xc.here hx rfl (hb hby at_200) rfl hr) ?_
    show Go p.tables e below _ (Tc.setTop (mkF m 202 #[.val (.int p1), .val (.long q2), .second, .val (.long q3), .second, .val (.long q4), .second, .val (.int nn), .val (.int c0), .val (.int c1), .val (.int c2), .val (.int d0), .val (.int d1), .val (.int d2), .val (.ref b7), .val (.ref b9), .val (.int m0), .val (.int m1), .val (.int m2), .val (.int B0), .val (.int B1), .unset, .unset, .unset, .unset, .unset, .unset, .unset, .unset, .unset] [(.int nn)]))
    refine Go.st (fun U hr => XS.iconst Xc.here hx rfl (hb hby at_202) hr) ?_
    show Go p.tables e below _ (Tc.setTop (mkF m 203 #[.val (.int p1), .val (.long q2), .second, .val (.long q3), .second, .val (.long q4), .second, .val (.int nn), .val (.int c0), .val (.int c1), .val (.int c2), .val (.int d0), .val (.int d1), .val (.int d2), .val (.ref b7), .val (.ref b9), .val (.int m0), .val (.int m1), .val (.int m2), .val (.int B0), .val (.int B1), .unset, .unset, .unset, .unset, .unset, .unset, .unset, .unset, .unset] [(.int (2 : Int32)), (.int nn)]))
    suffices hj203_20 : Go p.tables e below (own_Fin s below room_1.cells room_1.slots (Q0 Z p1 q2 q3 q4 h0 n0)) (Tc.setTop (mkF m 216 #[.val (.int p1), .val (.long q2), .second, .val (.long q3), .second, .val (.long q4), .second, .val (.int nn), .val (.int c0), .val (.int c1), .val (.int c2), .val (.int d0), .val (.int d1), .val (.int d2), .val (.ref b7), .val (.ref b9), .val (.int m0), .val (.int m1), .val (.int m2), .val (.int B0), .val (.int B1), .unset, .unset, .unset, .unset, .unset, .unset, .unset, .unset, .unset] [(.int (if (2 : Int32) < nn then (if m2 = (0 : Int32) then (0 : Int32) else (1 : Int32)) else (1 : Int32)))])) by
      by_cases hc203_20 : (2 : Int32) < nn
      · refine Go.st (fun U hr => XS.icmpNo Xc.here hx rfl (hb hby at_203) rfl (tlt hc203_20).2.2.2 hr) ?_
        show Go p.tables e below _ (Tc.setTop (mkF m 206 #[.val (.int p1), .val (.long q2), .second, .val (.long q3), .second, .val (.long q4), .second, .val (.int nn), .val (.int c0), .val (.int c1), .val (.int c2), .val (.int d0), .val (.int d1), .val (.int d2), .val (.ref b7), .val (.ref b9), .val (.int m0), .val (.int m1), .val (.int m2), .val (.int B0), .val (.int B1), .unset, .unset, .unset, .unset, .unset, .unset, .unset, .unset, .unset] []))
        refine Go.st (fun U hr => XS.iload Xc.here hx rfl (hb hby at_206) rfl hr) ?_
        show Go p.tables e below _ (Tc.setTop (mkF m 208 #[.val (.int p1), .val (.long q2), .second, .val (.long q3), .second, .val (.long q4), .second, .val (.int nn), .val (.int c0), .val (.int c1), .val (.int c2), .val (.int d0), .val (.int d1), .val (.int d2), .val (.ref b7), .val (.ref b9), .val (.int m0), .val (.int m1), .val (.int m2), .val (.int B0), .val (.int B1), .unset, .unset, .unset, .unset, .unset, .unset, .unset, .unset, .unset] [(.int m2)]))
        suffices hj208_21 : Go p.tables e below (own_Fin s below room_1.cells room_1.slots (Q0 Z p1 q2 q3 q4 h0 n0)) (Tc.setTop (mkF m 216 #[.val (.int p1), .val (.long q2), .second, .val (.long q3), .second, .val (.long q4), .second, .val (.int nn), .val (.int c0), .val (.int c1), .val (.int c2), .val (.int d0), .val (.int d1), .val (.int d2), .val (.ref b7), .val (.ref b9), .val (.int m0), .val (.int m1), .val (.int m2), .val (.int B0), .val (.int B1), .unset, .unset, .unset, .unset, .unset, .unset, .unset, .unset, .unset] [(.int (if m2 = (0 : Int32) then (0 : Int32) else (1 : Int32)))])) by
          by_cases hc208_21 : m2 = (0 : Int32)
          · refine Go.st (fun U hr => XS.ifYes Xc.here hx rfl (pc0 := 208) (pc' := 215) rfl (hb hby at_208) rfl ((if0 _ _).trans (teq hc208_21).1) (by decide) (by decide) hr) ?_
            show Go p.tables e below _ (Tc.setTop (mkF m 215 #[.val (.int p1), .val (.long q2), .second, .val (.long q3), .second, .val (.long q4), .second, .val (.int nn), .val (.int c0), .val (.int c1), .val (.int c2), .val (.int d0), .val (.int d1), .val (.int d2), .val (.ref b7), .val (.ref b9), .val (.int m0), .val (.int m1), .val (.int m2), .val (.int B0), .val (.int B1), .unset, .unset, .unset, .unset, .unset, .unset, .unset, .unset, .unset] []))
            refine Go.st (fun U hr => XS.iconst Xc.here hx rfl (hb hby at_215) hr) ?_
            show Go p.tables e below _ (Tc.setTop (mkF m 216 #[.val (.int p1), .val (.long q2), .second, .val (.long q3), .second, .val (.long q4), .second, .val (.int nn), .val (.int c0), .val (.int c1), .val (.int c2), .val (.int d0), .val (.int d1), .val (.int d2), .val (.ref b7), .val (.ref b9), .val (.int m0), .val (.int m1), .val (.int m2), .val (.int B0), .val (.int B1), .unset, .unset, .unset, .unset, .unset, .unset, .unset, .unset, .unset] [(.int (0 : Int32))]))
            simpa only [if_pos hc208_21] using hj208_21
          · refine Go.st (fun U hr => XS.ifNo Xc.here hx rfl (hb hby at_208) rfl ((if0 _ _).trans (feq hc208_21).1) hr) ?_
            show Go p.tables e below _ (Tc.setTop (mkF m 211 #[.val (.int p1), .val (.long q2), .second, .val (.long q3), .second, .val (.long q4), .second, .val (.int nn), .val (.int c0), .val (.int c1), .val (.int c2), .val (.int d0), .val (.int d1), .val (.int d2), .val (.ref b7), .val (.ref b9), .val (.int m0), .val (.int m1), .val (.int m2), .val (.int B0), .val (.int B1), .unset, .unset, .unset, .unset, .unset, .unset, .unset, .unset, .unset] []))
            refine Go.st (fun U hr => XS.iconst Xc.here hx rfl (hb hby at_211) hr) ?_
            show Go p.tables e below _ (Tc.setTop (mkF m 212 #[.val (.int p1), .val (.long q2), .second, .val (.long q3), .second, .val (.long q4), .second, .val (.int nn), .val (.int c0), .val (.int c1), .val (.int c2), .val (.int d0), .val (.int d1), .val (.int d2), .val (.ref b7), .val (.ref b9), .val (.int m0), .val (.int m1), .val (.int m2), .val (.int B0), .val (.int B1), .unset, .unset, .unset, .unset, .unset, .unset, .unset, .unset, .unset] [(.int (1 : Int32))]))
            refine Go.st (fun U hr => XS.goto Xc.here hx rfl (pc0 := 212) (pc' := 216) rfl (hb hby at_212) (by decide) (by decide) hr) ?_
            show Go p.tables e below _ (Tc.setTop (mkF m 216 #[.val (.int p1), .val (.long q2), .second, .val (.long q3), .second, .val (.long q4), .second, .val (.int nn), .val (.int c0), .val (.int c1), .val (.int c2), .val (.int d0), .val (.int d1), .val (.int d2), .val (.ref b7), .val (.ref b9), .val (.int m0), .val (.int m1), .val (.int m2), .val (.int B0), .val (.int B1), .unset, .unset, .unset, .unset, .unset, .unset, .unset, .unset, .unset] [(.int (1 : Int32))]))
            simpa only [if_neg hc208_21] using hj208_21
        simpa only [if_pos hc203_20] using hj203_20
      · refine Go.st (fun U hr => XS.icmpYes Xc.here hx rfl (pc0 := 203) (pc' := 211) rfl (hb hby at_203) rfl (flt hc203_20).2.2.2 (by decide) (by decide) hr) ?_
        show Go p.tables e below _ (Tc.setTop (mkF m 211 #[.val (.int p1), .val (.long q2), .second, .val (.long q3), .second, .val (.long q4), .second, .val (.int nn), .val (.int c0), .val (.int c1), .val (.int c2), .val (.int d0), .val (.int d1), .val (.int d2), .val (.ref b7), .val (.ref b9), .val (.int m0), .val (.int m1), .val (.int m2), .val (.int B0), .val (.int B1), .unset, .unset, .unset, .unset, .unset, .unset, .unset, .unset, .unset] []))
        refine Go.st (fun U hr => XS.iconst Xc.here hx rfl (hb hby at_211) hr) ?_
        show Go p.tables e below _ (Tc.setTop (mkF m 212 #[.val (.int p1), .val (.long q2), .second, .val (.long q3), .second, .val (.long q4), .second, .val (.int nn), .val (.int c0), .val (.int c1), .val (.int c2), .val (.int d0), .val (.int d1), .val (.int d2), .val (.ref b7), .val (.ref b9), .val (.int m0), .val (.int m1), .val (.int m2), .val (.int B0), .val (.int B1), .unset, .unset, .unset, .unset, .unset, .unset, .unset, .unset, .unset] [(.int (1 : Int32))]))
        refine Go.st (fun U hr => XS.goto Xc.here hx rfl (pc0 := 212) (pc' := 216) rfl (hb hby at_212) (by decide) (by decide) hr) ?_
        show Go p.tables e below _ (Tc.setTop (mkF m 216 #[.val (.int p1), .val (.long q2), .second, .val (.long q3), .second, .val (.long q4), .second, .val (.int nn), .val (.int c0), .val (.int c1), .val (.int c2), .val (.int d0), .val (.int d1), .val (.int d2), .val (.ref b7), .val (.ref b9), .val (.int m0), .val (.int m1), .val (.int m2), .val (.int B0), .val (.int B1), .unset, .unset, .unset, .unset, .unset, .unset, .unset, .unset, .unset] [(.int (1 : Int32))]))
        simpa only [if_neg hc203_20] using hj203_20
    generalize h_B2 : (if (2 : Int32) < nn then (if m2 = (0 : Int32) then (0 : Int32) else (1 : Int32)) else (1 : Int32)) = B2
    refine Go.st (fun U hr => XS.istore Xc.here hx rfl (hb hby at_216) rfl (l' := #[.val (.int p1), .val (.long q2), .second, .val (.long q3), .second, .val (.long q4), .second, .val (.int nn), .val (.int c0), .val (.int c1), .val (.int c2), .val (.int d0), .val (.int d1), .val (.int d2), .val (.ref b7), .val (.ref b9), .val (.int m0), .val (.int m1), .val (.int m2), .val (.int B0), .val (.int B1), .val (.int B2), .unset, .unset, .unset, .unset, .unset, .unset, .unset, .unset]) rfl hr) ?_
    show Go p.tables e below _ (Tc.setTop (mkF m 218 #[.val (.int p1), .val (.long q2), .second, .val (.long q3), .second, .val (.long q4), .second, .val (.int nn), .val (.int c0), .val (.int c1), .val (.int c2), .val (.int d0), .val (.int d1), .val (.int d2), .val (.ref b7), .val (.ref b9), .val (.int m0), .val (.int m1), .val (.int m2), .val (.int B0), .val (.int B1), .val (.int B2), .unset, .unset, .unset, .unset, .unset, .unset, .unset, .unset] []))
    refine Go.st (fun U hr => XS.iload Xc.here hx rfl (hb hby at_218) rfl hr) ?_
    show Go p.tables e below _ (Tc.setTop (mkF m 220 #[.val (.int p1), .val (.long q2), .second, .val (.long q3), .second, .val (.long q4), .second, .val (.int nn), .val (.int c0), .val (.int c1), .val (.int c2), .val (.int d0), .val (.int d1), .val (.int d2), .val (.ref b7), .val (.ref b9), .val (.int m0), .val (.int m1), .val (.int m2), .val (.int B0), .val (.int B1), .val (.int B2), .unset, .unset, .unset, .unset, .unset, .unset, .unset, .unset] [(.int B1)]))
    suffices hj220_22 : Go p.tables e below (own_Fin s below room_1.cells room_1.slots (Q0 Z p1 q2 q3 q4 h0 n0)) (Tc.setTop (mkF m 233 #[.val (.int p1), .val (.long q2), .second, .val (.long q3), .second, .val (.long q4), .second, .val (.int nn), .val (.int c0), .val (.int c1), .val (.int c2), .val (.int d0), .val (.int d1), .val (.int d2), .val (.ref b7), .val (.ref b9), .val (.int m0), .val (.int m1), .val (.int m2), .val (.int B0), .val (.int B1), .val (.int B2), .unset, .unset, .unset, .unset, .unset, .unset, .unset, .unset] [(.int (if B1 = (0 : Int32) then (0 : Int32) else (if B2 = (0 : Int32) then (0 : Int32) else (1 : Int32))))])) by
      by_cases hc220_22 : B1 = (0 : Int32)
      · refine Go.st (fun U hr => XS.ifYes Xc.here hx rfl (pc0 := 220) (pc' := 232) rfl (hb hby at_220) rfl ((if0 _ _).trans (teq hc220_22).1) (by decide) (by decide) hr) ?_
        show Go p.tables e below _ (Tc.setTop (mkF m 232 #[.val (.int p1), .val (.long q2), .second, .val (.long q3), .second, .val (.long q4), .second, .val (.int nn), .val (.int c0), .val (.int c1), .val (.int c2), .val (.int d0), .val (.int d1), .val (.int d2), .val (.ref b7), .val (.ref b9), .val (.int m0), .val (.int m1), .val (.int m2), .val (.int B0), .val (.int B1), .val (.int B2), .unset, .unset, .unset, .unset, .unset, .unset, .unset, .unset] []))
        refine Go.st (fun U hr => XS.iconst Xc.here hx rfl (hb hby at_232) hr) ?_
        show Go p.tables e below _ (Tc.setTop (mkF m 233 #[.val (.int p1), .val (.long q2), .second, .val (.long q3), .second, .val (.long q4), .second, .val (.int nn), .val (.int c0), .val (.int c1), .val (.int c2), .val (.int d0), .val (.int d1), .val (.int d2), .val (.ref b7), .val (.ref b9), .val (.int m0), .val (.int m1), .val (.int m2), .val (.int B0), .val (.int B1), .val (.int B2), .unset, .unset, .unset, .unset, .unset, .unset, .unset, .unset] [(.int (0 : Int32))]))
        simpa only [if_pos hc220_22] using hj220_22
      · refine Go.st (fun U hr => XS.ifNo Xc.here hx rfl (hb hby at_220) rfl ((if0 _ _).trans (feq hc220_22).1) hr) ?_
        show Go p.tables e below _ (Tc.setTop (mkF m 223 #[.val (.int p1), .val (.long q2), .second, .val (.long q3), .second, .val (.long q4), .second, .val (.int nn), .val (.int c0), .val (.int c1), .val (.int c2), .val (.int d0), .val (.int d1), .val (.int d2), .val (.ref b7), .val (.ref b9), .val (.int m0), .val (.int m1), .val (.int m2), .val (.int B0), .val (.int B1), .val (.int B2), .unset, .unset, .unset, .unset, .unset, .unset, .unset, .unset] []))
        refine Go.st (fun U hr => XS.iload Xc.here hx rfl (hb hby at_223) rfl hr) ?_
        show Go p.tables e below _ (Tc.setTop (mkF m 225 #[.val (.int p1), .val (.long q2), .second, .val (.long q3), .second, .val (.long q4), .second, .val (.int nn), .val (.int c0), .val (.int c1), .val (.int c2), .val (.int d0), .val (.int d1), .val (.int d2), .val (.ref b7), .val (.ref b9), .val (.int m0), .val (.int m1), .val (.int m2), .val (.int B0), .val (.int B1), .val (.int B2), .unset, .unset, .unset, .unset, .unset, .unset, .unset, .unset] [(.int B2)]))
        suffices hj225_23 : Go p.tables e below (own_Fin s below room_1.cells room_1.slots (Q0 Z p1 q2 q3 q4 h0 n0)) (Tc.setTop (mkF m 233 #[.val (.int p1), .val (.long q2), .second, .val (.long q3), .second, .val (.long q4), .second, .val (.int nn), .val (.int c0), .val (.int c1), .val (.int c2), .val (.int d0), .val (.int d1), .val (.int d2), .val (.ref b7), .val (.ref b9), .val (.int m0), .val (.int m1), .val (.int m2), .val (.int B0), .val (.int B1), .val (.int B2), .unset, .unset, .unset, .unset, .unset, .unset, .unset, .unset] [(.int (if B2 = (0 : Int32) then (0 : Int32) else (1 : Int32)))])) by
          by_cases hc225_23 : B2 = (0 : Int32)
          · refine Go.st (fun U hr => XS.ifYes Xc.here hx rfl (pc0 := 225) (pc' := 232) rfl (hb hby at_225) rfl ((if0 _ _).trans (teq hc225_23).1) (by decide) (by decide) hr) ?_
            show Go p.tables e below _ (Tc.setTop (mkF m 232 #[.val (.int p1), .val (.long q2), .second, .val (.long q3), .second, .val (.long q4), .second, .val (.int nn), .val (.int c0), .val (.int c1), .val (.int c2), .val (.int d0), .val (.int d1), .val (.int d2), .val (.ref b7), .val (.ref b9), .val (.int m0), .val (.int m1), .val (.int m2), .val (.int B0), .val (.int B1), .val (.int B2), .unset, .unset, .unset, .unset, .unset, .unset, .unset, .unset] []))
            refine Go.st (fun U hr => XS.iconst Xc.here hx rfl (hb hby at_232) hr) ?_
            show Go p.tables e below _ (Tc.setTop (mkF m 233 #[.val (.int p1), .val (.long q2), .second, .val (.long q3), .second, .val (.long q4), .second, .val (.int nn), .val (.int c0), .val (.int c1), .val (.int c2), .val (.int d0), .val (.int d1), .val (.int d2), .val (.ref b7), .val (.ref b9), .val (.int m0), .val (.int m1), .val (.int m2), .val (.int B0), .val (.int B1), .val (.int B2), .unset, .unset, .unset, .unset, .unset, .unset, .unset, .unset] [(.int (0 : Int32))]))
            simpa only [if_pos hc225_23] using hj225_23
          · refine Go.st (fun U hr => XS.ifNo Xc.here hx rfl (hb hby at_225) rfl ((if0 _ _).trans (feq hc225_23).1) hr) ?_
            show Go p.tables e below _ (Tc.setTop (mkF m 228 #[.val (.int p1), .val (.long q2), .second, .val (.long q3), .second, .val (.long q4), .second, .val (.int nn), .val (.int c0), .val (.int c1), .val (.int c2), .val (.int d0), .val (.int d1), .val (.int d2), .val (.ref b7), .val (.ref b9), .val (.int m0), .val (.int m1), .val (.int m2), .val (.int B0), .val (.int B1), .val (.int B2), .unset, .unset, .unset, .unset, .unset, .unset, .unset, .unset] []))
            refine Go.st (fun U hr => XS.iconst Xc.here hx rfl (hb hby at_228) hr) ?_
            show Go p.tables e below _ (Tc.setTop (mkF m 229 #[.val (.int p1), .val (.long q2), .second, .val (.long q3), .second, .val (.long q4), .second, .val (.int nn), .val (.int c0), .val (.int c1), .val (.int c2), .val (.int d0), .val (.int d1), .val (.int d2), .val (.ref b7), .val (.ref b9), .val (.int m0), .val (.int m1), .val (.int m2), .val (.int B0), .val (.int B1), .val (.int B2), .unset, .unset, .unset, .unset, .unset, .unset, .unset, .unset] [(.int (1 : Int32))]))
            refine Go.st (fun U hr => XS.goto Xc.here hx rfl (pc0 := 229) (pc' := 233) rfl (hb hby at_229) (by decide) (by decide) hr) ?_
            show Go p.tables e below _ (Tc.setTop (mkF m 233 #[.val (.int p1), .val (.long q2), .second, .val (.long q3), .second, .val (.long q4), .second, .val (.int nn), .val (.int c0), .val (.int c1), .val (.int c2), .val (.int d0), .val (.int d1), .val (.int d2), .val (.ref b7), .val (.ref b9), .val (.int m0), .val (.int m1), .val (.int m2), .val (.int B0), .val (.int B1), .val (.int B2), .unset, .unset, .unset, .unset, .unset, .unset, .unset, .unset] [(.int (1 : Int32))]))
            simpa only [if_neg hc225_23] using hj225_23
        simpa only [if_neg hc220_22] using hj220_22
    generalize h_K0 : (if B1 = (0 : Int32) then (0 : Int32) else (if B2 = (0 : Int32) then (0 : Int32) else (1 : Int32))) = K0
    refine Go.st (fun U hr => XS.istore Xc.here hx rfl (hb hby at_233) rfl (l' := #[.val (.int p1), .val (.long q2), .second, .val (.long q3), .second, .val (.long q4), .second, .val (.int nn), .val (.int c0), .val (.int c1), .val (.int c2), .val (.int d0), .val (.int d1), .val (.int d2), .val (.ref b7), .val (.ref b9), .val (.int m0), .val (.int m1), .val (.int m2), .val (.int B0), .val (.int B1), .val (.int B2), .val (.int K0), .unset, .unset, .unset, .unset, .unset, .unset, .unset]) rfl hr) ?_
    show Go p.tables e below _ (Tc.setTop (mkF m 235 #[.val (.int p1), .val (.long q2), .second, .val (.long q3), .second, .val (.long q4), .second, .val (.int nn), .val (.int c0), .val (.int c1), .val (.int c2), .val (.int d0), .val (.int d1), .val (.int d2), .val (.ref b7), .val (.ref b9), .val (.int m0), .val (.int m1), .val (.int m2), .val (.int B0), .val (.int B1), .val (.int B2), .val (.int K0), .unset, .unset, .unset, .unset, .unset, .unset, .unset] []))
    refine Go.st (fun U hr => XS.iload Xc.here hx rfl (hb hby at_235) rfl hr) ?_
    show Go p.tables e below _ (Tc.setTop (mkF m 237 #[.val (.int p1), .val (.long q2), .second, .val (.long q3), .second, .val (.long q4), .second, .val (.int nn), .val (.int c0), .val (.int c1), .val (.int c2), .val (.int d0), .val (.int d1), .val (.int d2), .val (.ref b7), .val (.ref b9), .val (.int m0), .val (.int m1), .val (.int m2), .val (.int B0), .val (.int B1), .val (.int B2), .val (.int K0), .unset, .unset, .unset, .unset, .unset, .unset, .unset] [(.int B2)]))
    refine Go.st (fun U hr => XS.istore Xc.here hx rfl (hb hby at_237) rfl (l' := #[.val (.int p1), .val (.long q2), .second, .val (.long q3), .second, .val (.long q4), .second, .val (.int nn), .val (.int c0), .val (.int c1), .val (.int c2), .val (.int d0), .val (.int d1), .val (.int d2), .val (.ref b7), .val (.ref b9), .val (.int m0), .val (.int m1), .val (.int m2), .val (.int B0), .val (.int B1), .val (.int B2), .val (.int K0), .val (.int B2), .unset, .unset, .unset, .unset, .unset, .unset]) rfl hr) ?_
    show Go p.tables e below _ (Tc.setTop (mkF m 239 #[.val (.int p1), .val (.long q2), .second, .val (.long q3), .second, .val (.long q4), .second, .val (.int nn), .val (.int c0), .val (.int c1), .val (.int c2), .val (.int d0), .val (.int d1), .val (.int d2), .val (.ref b7), .val (.ref b9), .val (.int m0), .val (.int m1), .val (.int m2), .val (.int B0), .val (.int B1), .val (.int B2), .val (.int K0), .val (.int B2), .unset, .unset, .unset, .unset, .unset, .unset] []))
    refine Go.st (fun U hr => XS.iconst Xc.here hx rfl (hb hby at_239) hr) ?_
    show Go p.tables e below _ (Tc.setTop (mkF m 240 #[.val (.int p1), .val (.long q2), .second, .val (.long q3), .second, .val (.long q4), .second, .val (.int nn), .val (.int c0), .val (.int c1), .val (.int c2), .val (.int d0), .val (.int d1), .val (.int d2), .val (.ref b7), .val (.ref b9), .val (.int m0), .val (.int m1), .val (.int m2), .val (.int B0), .val (.int B1), .val (.int B2), .val (.int K0), .val (.int B2), .unset, .unset, .unset, .unset, .unset, .unset] [(.int (1 : Int32))]))
    refine Go.st (fun U hr => XS.istore Xc.here hx rfl (hb hby at_240) rfl (l' := #[.val (.int p1), .val (.long q2), .second, .val (.long q3), .second, .val (.long q4), .second, .val (.int nn), .val (.int c0), .val (.int c1), .val (.int c2), .val (.int d0), .val (.int d1), .val (.int d2), .val (.ref b7), .val (.ref b9), .val (.int m0), .val (.int m1), .val (.int m2), .val (.int B0), .val (.int B1), .val (.int B2), .val (.int K0), .val (.int B2), .val (.int (1 : Int32)), .unset, .unset, .unset, .unset, .unset]) rfl hr) ?_
    show Go p.tables e below _ (Tc.setTop (mkF m 242 #[.val (.int p1), .val (.long q2), .second, .val (.long q3), .second, .val (.long q4), .second, .val (.int nn), .val (.int c0), .val (.int c1), .val (.int c2), .val (.int d0), .val (.int d1), .val (.int d2), .val (.ref b7), .val (.ref b9), .val (.int m0), .val (.int m1), .val (.int m2), .val (.int B0), .val (.int B1), .val (.int B2), .val (.int K0), .val (.int B2), .val (.int (1 : Int32)), .unset, .unset, .unset, .unset, .unset] []))
    refine Go.st (fun U hr => XS.iload Xc.here hx rfl (hb hby at_242) rfl hr) ?_
    show Go p.tables e below _ (Tc.setTop (mkF m 244 #[.val (.int p1), .val (.long q2), .second, .val (.long q3), .second, .val (.long q4), .second, .val (.int nn), .val (.int c0), .val (.int c1), .val (.int c2), .val (.int d0), .val (.int d1), .val (.int d2), .val (.ref b7), .val (.ref b9), .val (.int m0), .val (.int m1), .val (.int m2), .val (.int B0), .val (.int B1), .val (.int B2), .val (.int K0), .val (.int B2), .val (.int (1 : Int32)), .unset, .unset, .unset, .unset, .unset] [(.int K0)]))
    refine Go.st (fun U hr => XS.iload Xc.here hx rfl (hb hby at_244) rfl hr) ?_
    show Go p.tables e below _ (Tc.setTop (mkF m 246 #[.val (.int p1), .val (.long q2), .second, .val (.long q3), .second, .val (.long q4), .second, .val (.int nn), .val (.int c0), .val (.int c1), .val (.int c2), .val (.int d0), .val (.int d1), .val (.int d2), .val (.ref b7), .val (.ref b9), .val (.int m0), .val (.int m1), .val (.int m2), .val (.int B0), .val (.int B1), .val (.int B2), .val (.int K0), .val (.int B2), .val (.int (1 : Int32)), .unset, .unset, .unset, .unset, .unset] [(.int m0), (.int K0)]))
    refine Go.st (fun U hr => XS.iload Xc.here hx rfl (hb hby at_246) rfl hr) ?_
    show Go p.tables e below _ (Tc.setTop (mkF m 248 #[.val (.int p1), .val (.long q2), .second, .val (.long q3), .second, .val (.long q4), .second, .val (.int nn), .val (.int c0), .val (.int c1), .val (.int c2), .val (.int d0), .val (.int d1), .val (.int d2), .val (.ref b7), .val (.ref b9), .val (.int m0), .val (.int m1), .val (.int m2), .val (.int B0), .val (.int B1), .val (.int B2), .val (.int K0), .val (.int B2), .val (.int (1 : Int32)), .unset, .unset, .unset, .unset, .unset] [(.int d0), (.int m0), (.int K0)]))
    obtain ⟨_, _, ⟨T24, L24, k24, n24⟩, -, X24, ⟨Lc24, hQ24, l24, y24, z24⟩, st24⟩ := Jvm.LawKit.callS Xc hx (y := (⟨"com/example/klipspringer/klipspringer/ChoicesAdvancePinLaw", "expect", "(ZZI)I"⟩ : MethodName)) hown (mvT hZ (hw _ (List.mem_of_getElem? (i := 11) rfl))) (mvT hZ (hw _ (List.mem_of_getElem? (i := 12) rfl))) (mvT hZ (hw _ (List.mem_of_getElem? (i := 3) rfl))) (mvT hZ (hw _ (List.mem_of_getElem? (i := 13) rfl))) (by decide) (backOf (W := 0) (rm3 l Z a0 hw [] K0 m0 d0 hc n0 zc) hZ (hw _ (List.mem_of_getElem? (i := 13) rfl)) (hw _ (List.mem_of_getElem? (i := 3) rfl)) (by decide) (by decide)) (g := (mkF m 248 #[.val (.int p1), .val (.long q2), .second, .val (.long q3), .second, .val (.long q4), .second, .val (.int nn), .val (.int c0), .val (.int c1), .val (.int c2), .val (.int d0), .val (.int d1), .val (.int d2), .val (.ref b7), .val (.ref b9), .val (.int m0), .val (.int m1), .val (.int m2), .val (.int B0), .val (.int B1), .val (.int B2), .val (.int K0), .val (.int B2), .val (.int (1 : Int32)), .unset, .unset, .unset, .unset, .unset] [(.int d0), (.int m0), (.int K0)])) rfl (by rw [hml]; rfl) (argsL := [(.int K0), (.int m0), (.int d0)]) (rest := []) (lenOf pd_2 rfl) rfl (by show 2 * 0 + _ ≤ _; exact Nat.le_of_eq rfl) (hb hby at_248) (fun _ _ => ⟨rfl, ec, (by decide : 2 + 0 ≤ _), (by decide : 6 + 0 ≤ _)⟩)
    dsimp only [Pt.U, Pt.locs, Pt.cells, Pt.slots] at X24 l24 y24 z24 st24 hQ24
    subst l24 y24 z24
    obtain ⟨rfl, Nq24, ee24⟩ := hQ24
    have N24 := Fr.app Nc Nq24
    refine Go.st st24 ?_
    show Go p.tables e below _ (T24.setTop (mkF m 251 #[.val (.int p1), .val (.long q2), .second, .val (.long q3), .second, .val (.long q4), .second, .val (.int nn), .val (.int c0), .val (.int c1), .val (.int c2), .val (.int d0), .val (.int d1), .val (.int d2), .val (.ref b7), .val (.ref b9), .val (.int m0), .val (.int m1), .val (.int m2), .val (.int B0), .val (.int B1), .val (.int B2), .val (.int K0), .val (.int B2), .val (.int (1 : Int32)), .unset, .unset, .unset, .unset, .unset] [(.int (own_expect K0 m0 d0))]))
    refine Go.st (fun U hr => XS.istore X24.here hx rfl (hb hby at_251) rfl (l' := #[.val (.int p1), .val (.long q2), .second, .val (.long q3), .second, .val (.long q4), .second, .val (.int nn), .val (.int c0), .val (.int c1), .val (.int c2), .val (.int d0), .val (.int d1), .val (.int d2), .val (.ref b7), .val (.ref b9), .val (.int m0), .val (.int m1), .val (.int m2), .val (.int B0), .val (.int B1), .val (.int B2), .val (.int K0), .val (.int B2), .val (.int (1 : Int32)), .val (.int (own_expect K0 m0 d0)), .unset, .unset, .unset, .unset]) rfl hr) ?_
    show Go p.tables e below _ (T24.setTop (mkF m 253 #[.val (.int p1), .val (.long q2), .second, .val (.long q3), .second, .val (.long q4), .second, .val (.int nn), .val (.int c0), .val (.int c1), .val (.int c2), .val (.int d0), .val (.int d1), .val (.int d2), .val (.ref b7), .val (.ref b9), .val (.int m0), .val (.int m1), .val (.int m2), .val (.int B0), .val (.int B1), .val (.int B2), .val (.int K0), .val (.int B2), .val (.int (1 : Int32)), .val (.int (own_expect K0 m0 d0)), .unset, .unset, .unset, .unset] []))
    refine Go.st (fun U hr => XS.iload X24.here hx rfl (hb hby at_253) rfl hr) ?_
    show Go p.tables e below _ (T24.setTop (mkF m 255 #[.val (.int p1), .val (.long q2), .second, .val (.long q3), .second, .val (.long q4), .second, .val (.int nn), .val (.int c0), .val (.int c1), .val (.int c2), .val (.int d0), .val (.int d1), .val (.int d2), .val (.ref b7), .val (.ref b9), .val (.int m0), .val (.int m1), .val (.int m2), .val (.int B0), .val (.int B1), .val (.int B2), .val (.int K0), .val (.int B2), .val (.int (1 : Int32)), .val (.int (own_expect K0 m0 d0)), .unset, .unset, .unset, .unset] [(.int B2)]))
    refine Go.st (fun U hr => XS.iload X24.here hx rfl (hb hby at_255) rfl hr) ?_
    show Go p.tables e below _ (T24.setTop (mkF m 257 #[.val (.int p1), .val (.long q2), .second, .val (.long q3), .second, .val (.long q4), .second, .val (.int nn), .val (.int c0), .val (.int c1), .val (.int c2), .val (.int d0), .val (.int d1), .val (.int d2), .val (.ref b7), .val (.ref b9), .val (.int m0), .val (.int m1), .val (.int m2), .val (.int B0), .val (.int B1), .val (.int B2), .val (.int K0), .val (.int B2), .val (.int (1 : Int32)), .val (.int (own_expect K0 m0 d0)), .unset, .unset, .unset, .unset] [(.int m1), (.int B2)]))
    refine Go.st (fun U hr => XS.iload X24.here hx rfl (hb hby at_257) rfl hr) ?_
    show Go p.tables e below _ (T24.setTop (mkF m 259 #[.val (.int p1), .val (.long q2), .second, .val (.long q3), .second, .val (.long q4), .second, .val (.int nn), .val (.int c0), .val (.int c1), .val (.int c2), .val (.int d0), .val (.int d1), .val (.int d2), .val (.ref b7), .val (.ref b9), .val (.int m0), .val (.int m1), .val (.int m2), .val (.int B0), .val (.int B1), .val (.int B2), .val (.int K0), .val (.int B2), .val (.int (1 : Int32)), .val (.int (own_expect K0 m0 d0)), .unset, .unset, .unset, .unset] [(.int d1), (.int m1), (.int B2)]))
    obtain ⟨_, _, ⟨T25, L25, k25, n25⟩, -, X25, ⟨Lc25, hQ25, l25, y25, z25⟩, st25⟩ := Jvm.LawKit.callS X24 hx (y := (⟨"com/example/klipspringer/klipspringer/ChoicesAdvancePinLaw", "expect", "(ZZI)I"⟩ : MethodName)) hown (mvT hZ (hw _ (List.mem_of_getElem? (i := 11) rfl))) (mvT hZ (hw _ (List.mem_of_getElem? (i := 12) rfl))) (mvT hZ (hw _ (List.mem_of_getElem? (i := 3) rfl))) (mvT hZ (hw _ (List.mem_of_getElem? (i := 13) rfl))) (by decide) (backOf (W := 0) (rm3 l Z a0 hw [] B2 m1 d1 hc n0 zc) hZ (hw _ (List.mem_of_getElem? (i := 13) rfl)) (hw _ (List.mem_of_getElem? (i := 3) rfl)) (by decide) (by decide)) (g := (mkF m 259 #[.val (.int p1), .val (.long q2), .second, .val (.long q3), .second, .val (.long q4), .second, .val (.int nn), .val (.int c0), .val (.int c1), .val (.int c2), .val (.int d0), .val (.int d1), .val (.int d2), .val (.ref b7), .val (.ref b9), .val (.int m0), .val (.int m1), .val (.int m2), .val (.int B0), .val (.int B1), .val (.int B2), .val (.int K0), .val (.int B2), .val (.int (1 : Int32)), .val (.int (own_expect K0 m0 d0)), .unset, .unset, .unset, .unset] [(.int d1), (.int m1), (.int B2)])) rfl (by rw [hml]; rfl) (argsL := [(.int B2), (.int m1), (.int d1)]) (rest := []) (lenOf pd_2 rfl) rfl (by show 2 * 0 + _ ≤ _; exact Nat.le_of_eq rfl) (hb hby at_259) (fun _ _ => ⟨rfl, ee24, (by decide : 2 + 0 ≤ _), (by decide : 6 + 0 ≤ _)⟩)
    dsimp only [Pt.U, Pt.locs, Pt.cells, Pt.slots] at X25 l25 y25 z25 st25 hQ25
    subst l25 y25 z25
    obtain ⟨rfl, Nq25, ee25⟩ := hQ25
    have N25 := Fr.app N24 Nq25
    refine Go.st st25 ?_
    show Go p.tables e below _ (T25.setTop (mkF m 262 #[.val (.int p1), .val (.long q2), .second, .val (.long q3), .second, .val (.long q4), .second, .val (.int nn), .val (.int c0), .val (.int c1), .val (.int c2), .val (.int d0), .val (.int d1), .val (.int d2), .val (.ref b7), .val (.ref b9), .val (.int m0), .val (.int m1), .val (.int m2), .val (.int B0), .val (.int B1), .val (.int B2), .val (.int K0), .val (.int B2), .val (.int (1 : Int32)), .val (.int (own_expect K0 m0 d0)), .unset, .unset, .unset, .unset] [(.int (own_expect B2 m1 d1))]))
    refine Go.st (fun U hr => XS.istore X25.here hx rfl (hb hby at_262) rfl (l' := #[.val (.int p1), .val (.long q2), .second, .val (.long q3), .second, .val (.long q4), .second, .val (.int nn), .val (.int c0), .val (.int c1), .val (.int c2), .val (.int d0), .val (.int d1), .val (.int d2), .val (.ref b7), .val (.ref b9), .val (.int m0), .val (.int m1), .val (.int m2), .val (.int B0), .val (.int B1), .val (.int B2), .val (.int K0), .val (.int B2), .val (.int (1 : Int32)), .val (.int (own_expect K0 m0 d0)), .val (.int (own_expect B2 m1 d1)), .unset, .unset, .unset]) rfl hr) ?_
    show Go p.tables e below _ (T25.setTop (mkF m 264 #[.val (.int p1), .val (.long q2), .second, .val (.long q3), .second, .val (.long q4), .second, .val (.int nn), .val (.int c0), .val (.int c1), .val (.int c2), .val (.int d0), .val (.int d1), .val (.int d2), .val (.ref b7), .val (.ref b9), .val (.int m0), .val (.int m1), .val (.int m2), .val (.int B0), .val (.int B1), .val (.int B2), .val (.int K0), .val (.int B2), .val (.int (1 : Int32)), .val (.int (own_expect K0 m0 d0)), .val (.int (own_expect B2 m1 d1)), .unset, .unset, .unset] []))
    refine Go.st (fun U hr => XS.iload X25.here hx rfl (hb hby at_264) rfl hr) ?_
    show Go p.tables e below _ (T25.setTop (mkF m 266 #[.val (.int p1), .val (.long q2), .second, .val (.long q3), .second, .val (.long q4), .second, .val (.int nn), .val (.int c0), .val (.int c1), .val (.int c2), .val (.int d0), .val (.int d1), .val (.int d2), .val (.ref b7), .val (.ref b9), .val (.int m0), .val (.int m1), .val (.int m2), .val (.int B0), .val (.int B1), .val (.int B2), .val (.int K0), .val (.int B2), .val (.int (1 : Int32)), .val (.int (own_expect K0 m0 d0)), .val (.int (own_expect B2 m1 d1)), .unset, .unset, .unset] [(.int (1 : Int32))]))
    refine Go.st (fun U hr => XS.iload X25.here hx rfl (hb hby at_266) rfl hr) ?_
    show Go p.tables e below _ (T25.setTop (mkF m 268 #[.val (.int p1), .val (.long q2), .second, .val (.long q3), .second, .val (.long q4), .second, .val (.int nn), .val (.int c0), .val (.int c1), .val (.int c2), .val (.int d0), .val (.int d1), .val (.int d2), .val (.ref b7), .val (.ref b9), .val (.int m0), .val (.int m1), .val (.int m2), .val (.int B0), .val (.int B1), .val (.int B2), .val (.int K0), .val (.int B2), .val (.int (1 : Int32)), .val (.int (own_expect K0 m0 d0)), .val (.int (own_expect B2 m1 d1)), .unset, .unset, .unset] [(.int m2), (.int (1 : Int32))]))
    refine Go.st (fun U hr => XS.iload X25.here hx rfl (hb hby at_268) rfl hr) ?_
    show Go p.tables e below _ (T25.setTop (mkF m 270 #[.val (.int p1), .val (.long q2), .second, .val (.long q3), .second, .val (.long q4), .second, .val (.int nn), .val (.int c0), .val (.int c1), .val (.int c2), .val (.int d0), .val (.int d1), .val (.int d2), .val (.ref b7), .val (.ref b9), .val (.int m0), .val (.int m1), .val (.int m2), .val (.int B0), .val (.int B1), .val (.int B2), .val (.int K0), .val (.int B2), .val (.int (1 : Int32)), .val (.int (own_expect K0 m0 d0)), .val (.int (own_expect B2 m1 d1)), .unset, .unset, .unset] [(.int d2), (.int m2), (.int (1 : Int32))]))
    obtain ⟨_, _, ⟨T26, L26, k26, n26⟩, -, X26, ⟨Lc26, hQ26, l26, y26, z26⟩, st26⟩ := Jvm.LawKit.callS X25 hx (y := (⟨"com/example/klipspringer/klipspringer/ChoicesAdvancePinLaw", "expect", "(ZZI)I"⟩ : MethodName)) hown (mvT hZ (hw _ (List.mem_of_getElem? (i := 11) rfl))) (mvT hZ (hw _ (List.mem_of_getElem? (i := 12) rfl))) (mvT hZ (hw _ (List.mem_of_getElem? (i := 3) rfl))) (mvT hZ (hw _ (List.mem_of_getElem? (i := 13) rfl))) (by decide) (backOf (W := 0) (rm3 l Z a0 hw [] (1 : Int32) m2 d2 hc n0 zc) hZ (hw _ (List.mem_of_getElem? (i := 13) rfl)) (hw _ (List.mem_of_getElem? (i := 3) rfl)) (by decide) (by decide)) (g := (mkF m 270 #[.val (.int p1), .val (.long q2), .second, .val (.long q3), .second, .val (.long q4), .second, .val (.int nn), .val (.int c0), .val (.int c1), .val (.int c2), .val (.int d0), .val (.int d1), .val (.int d2), .val (.ref b7), .val (.ref b9), .val (.int m0), .val (.int m1), .val (.int m2), .val (.int B0), .val (.int B1), .val (.int B2), .val (.int K0), .val (.int B2), .val (.int (1 : Int32)), .val (.int (own_expect K0 m0 d0)), .val (.int (own_expect B2 m1 d1)), .unset, .unset, .unset] [(.int d2), (.int m2), (.int (1 : Int32))])) rfl (by rw [hml]; rfl) (argsL := [(.int (1 : Int32)), (.int m2), (.int d2)]) (rest := []) (lenOf pd_2 rfl) rfl (by show 2 * 0 + _ ≤ _; exact Nat.le_of_eq rfl) (hb hby at_270) (fun _ _ => ⟨rfl, ee25, (by decide : 2 + 0 ≤ _), (by decide : 6 + 0 ≤ _)⟩)
    dsimp only [Pt.U, Pt.locs, Pt.cells, Pt.slots] at X26 l26 y26 z26 st26 hQ26
    subst l26 y26 z26
    obtain ⟨rfl, Nq26, ee26⟩ := hQ26
    have N26 := Fr.app N25 Nq26
    refine Go.st st26 ?_
    show Go p.tables e below _ (T26.setTop (mkF m 273 #[.val (.int p1), .val (.long q2), .second, .val (.long q3), .second, .val (.long q4), .second, .val (.int nn), .val (.int c0), .val (.int c1), .val (.int c2), .val (.int d0), .val (.int d1), .val (.int d2), .val (.ref b7), .val (.ref b9), .val (.int m0), .val (.int m1), .val (.int m2), .val (.int B0), .val (.int B1), .val (.int B2), .val (.int K0), .val (.int B2), .val (.int (1 : Int32)), .val (.int (own_expect K0 m0 d0)), .val (.int (own_expect B2 m1 d1)), .unset, .unset, .unset] [(.int (own_expect (1 : Int32) m2 d2))]))
    refine Go.st (fun U hr => XS.istore X26.here hx rfl (hb hby at_273) rfl (l' := #[.val (.int p1), .val (.long q2), .second, .val (.long q3), .second, .val (.long q4), .second, .val (.int nn), .val (.int c0), .val (.int c1), .val (.int c2), .val (.int d0), .val (.int d1), .val (.int d2), .val (.ref b7), .val (.ref b9), .val (.int m0), .val (.int m1), .val (.int m2), .val (.int B0), .val (.int B1), .val (.int B2), .val (.int K0), .val (.int B2), .val (.int (1 : Int32)), .val (.int (own_expect K0 m0 d0)), .val (.int (own_expect B2 m1 d1)), .val (.int (own_expect (1 : Int32) m2 d2)), .unset, .unset]) rfl hr) ?_
    show Go p.tables e below _ (T26.setTop (mkF m 275 #[.val (.int p1), .val (.long q2), .second, .val (.long q3), .second, .val (.long q4), .second, .val (.int nn), .val (.int c0), .val (.int c1), .val (.int c2), .val (.int d0), .val (.int d1), .val (.int d2), .val (.ref b7), .val (.ref b9), .val (.int m0), .val (.int m1), .val (.int m2), .val (.int B0), .val (.int B1), .val (.int B2), .val (.int K0), .val (.int B2), .val (.int (1 : Int32)), .val (.int (own_expect K0 m0 d0)), .val (.int (own_expect B2 m1 d1)), .val (.int (own_expect (1 : Int32) m2 d2)), .unset, .unset] []))
    refine Go.st (fun U hr => XS.iload X26.here hx rfl (hb hby at_275) rfl hr) ?_
    show Go p.tables e below _ (T26.setTop (mkF m 277 #[.val (.int p1), .val (.long q2), .second, .val (.long q3), .second, .val (.long q4), .second, .val (.int nn), .val (.int c0), .val (.int c1), .val (.int c2), .val (.int d0), .val (.int d1), .val (.int d2), .val (.ref b7), .val (.ref b9), .val (.int m0), .val (.int m1), .val (.int m2), .val (.int B0), .val (.int B1), .val (.int B2), .val (.int K0), .val (.int B2), .val (.int (1 : Int32)), .val (.int (own_expect K0 m0 d0)), .val (.int (own_expect B2 m1 d1)), .val (.int (own_expect (1 : Int32) m2 d2)), .unset, .unset] [(.int B0)]))
    suffices hj277_27 : Go p.tables e below (own_Fin s below room_1.cells room_1.slots (Q0 Z p1 q2 q3 q4 h0 n0)) (T26.setTop (mkF m 295 #[.val (.int p1), .val (.long q2), .second, .val (.long q3), .second, .val (.long q4), .second, .val (.int nn), .val (.int c0), .val (.int c1), .val (.int c2), .val (.int d0), .val (.int d1), .val (.int d2), .val (.ref b7), .val (.ref b9), .val (.int m0), .val (.int m1), .val (.int m2), .val (.int B0), .val (.int B1), .val (.int B2), .val (.int K0), .val (.int B2), .val (.int (1 : Int32)), .val (.int (own_expect K0 m0 d0)), .val (.int (own_expect B2 m1 d1)), .val (.int (own_expect (1 : Int32) m2 d2)), .unset, .unset] [(.int (if B0 = (0 : Int32) then (1 : Int32) else (if B1 = (0 : Int32) then (1 : Int32) else (if B2 = (0 : Int32) then (1 : Int32) else (0 : Int32)))))])) by
      by_cases hc277_27 : B0 = (0 : Int32)
      · refine Go.st (fun U hr => XS.ifYes X26.here hx rfl (pc0 := 277) (pc' := 290) rfl (hb hby at_277) rfl ((if0 _ _).trans (teq hc277_27).1) (by decide) (by decide) hr) ?_
        show Go p.tables e below _ (T26.setTop (mkF m 290 #[.val (.int p1), .val (.long q2), .second, .val (.long q3), .second, .val (.long q4), .second, .val (.int nn), .val (.int c0), .val (.int c1), .val (.int c2), .val (.int d0), .val (.int d1), .val (.int d2), .val (.ref b7), .val (.ref b9), .val (.int m0), .val (.int m1), .val (.int m2), .val (.int B0), .val (.int B1), .val (.int B2), .val (.int K0), .val (.int B2), .val (.int (1 : Int32)), .val (.int (own_expect K0 m0 d0)), .val (.int (own_expect B2 m1 d1)), .val (.int (own_expect (1 : Int32) m2 d2)), .unset, .unset] []))
        refine Go.st (fun U hr => XS.iconst X26.here hx rfl (hb hby at_290) hr) ?_
        show Go p.tables e below _ (T26.setTop (mkF m 291 #[.val (.int p1), .val (.long q2), .second, .val (.long q3), .second, .val (.long q4), .second, .val (.int nn), .val (.int c0), .val (.int c1), .val (.int c2), .val (.int d0), .val (.int d1), .val (.int d2), .val (.ref b7), .val (.ref b9), .val (.int m0), .val (.int m1), .val (.int m2), .val (.int B0), .val (.int B1), .val (.int B2), .val (.int K0), .val (.int B2), .val (.int (1 : Int32)), .val (.int (own_expect K0 m0 d0)), .val (.int (own_expect B2 m1 d1)), .val (.int (own_expect (1 : Int32) m2 d2)), .unset, .unset] [(.int (1 : Int32))]))
        refine Go.st (fun U hr => XS.goto X26.here hx rfl (pc0 := 291) (pc' := 295) rfl (hb hby at_291) (by decide) (by decide) hr) ?_
        show Go p.tables e below _ (T26.setTop (mkF m 295 #[.val (.int p1), .val (.long q2), .second, .val (.long q3), .second, .val (.long q4), .second, .val (.int nn), .val (.int c0), .val (.int c1), .val (.int c2), .val (.int d0), .val (.int d1), .val (.int d2), .val (.ref b7), .val (.ref b9), .val (.int m0), .val (.int m1), .val (.int m2), .val (.int B0), .val (.int B1), .val (.int B2), .val (.int K0), .val (.int B2), .val (.int (1 : Int32)), .val (.int (own_expect K0 m0 d0)), .val (.int (own_expect B2 m1 d1)), .val (.int (own_expect (1 : Int32) m2 d2)), .unset, .unset] [(.int (1 : Int32))]))
        simpa only [if_pos hc277_27] using hj277_27
      · refine Go.st (fun U hr => XS.ifNo X26.here hx rfl (hb hby at_277) rfl ((if0 _ _).trans (feq hc277_27).1) hr) ?_
        show Go p.tables e below _ (T26.setTop (mkF m 280 #[.val (.int p1), .val (.long q2), .second, .val (.long q3), .second, .val (.long q4), .second, .val (.int nn), .val (.int c0), .val (.int c1), .val (.int c2), .val (.int d0), .val (.int d1), .val (.int d2), .val (.ref b7), .val (.ref b9), .val (.int m0), .val (.int m1), .val (.int m2), .val (.int B0), .val (.int B1), .val (.int B2), .val (.int K0), .val (.int B2), .val (.int (1 : Int32)), .val (.int (own_expect K0 m0 d0)), .val (.int (own_expect B2 m1 d1)), .val (.int (own_expect (1 : Int32) m2 d2)), .unset, .unset] []))
        refine Go.st (fun U hr => XS.iload X26.here hx rfl (hb hby at_280) rfl hr) ?_
        show Go p.tables e below _ (T26.setTop (mkF m 282 #[.val (.int p1), .val (.long q2), .second, .val (.long q3), .second, .val (.long q4), .second, .val (.int nn), .val (.int c0), .val (.int c1), .val (.int c2), .val (.int d0), .val (.int d1), .val (.int d2), .val (.ref b7), .val (.ref b9), .val (.int m0), .val (.int m1), .val (.int m2), .val (.int B0), .val (.int B1), .val (.int B2), .val (.int K0), .val (.int B2), .val (.int (1 : Int32)), .val (.int (own_expect K0 m0 d0)), .val (.int (own_expect B2 m1 d1)), .val (.int (own_expect (1 : Int32) m2 d2)), .unset, .unset] [(.int B1)]))
        suffices hj282_28 : Go p.tables e below (own_Fin s below room_1.cells room_1.slots (Q0 Z p1 q2 q3 q4 h0 n0)) (T26.setTop (mkF m 295 #[.val (.int p1), .val (.long q2), .second, .val (.long q3), .second, .val (.long q4), .second, .val (.int nn), .val (.int c0), .val (.int c1), .val (.int c2), .val (.int d0), .val (.int d1), .val (.int d2), .val (.ref b7), .val (.ref b9), .val (.int m0), .val (.int m1), .val (.int m2), .val (.int B0), .val (.int B1), .val (.int B2), .val (.int K0), .val (.int B2), .val (.int (1 : Int32)), .val (.int (own_expect K0 m0 d0)), .val (.int (own_expect B2 m1 d1)), .val (.int (own_expect (1 : Int32) m2 d2)), .unset, .unset] [(.int (if B1 = (0 : Int32) then (1 : Int32) else (if B2 = (0 : Int32) then (1 : Int32) else (0 : Int32))))])) by
          by_cases hc282_28 : B1 = (0 : Int32)
          · refine Go.st (fun U hr => XS.ifYes X26.here hx rfl (pc0 := 282) (pc' := 290) rfl (hb hby at_282) rfl ((if0 _ _).trans (teq hc282_28).1) (by decide) (by decide) hr) ?_
            show Go p.tables e below _ (T26.setTop (mkF m 290 #[.val (.int p1), .val (.long q2), .second, .val (.long q3), .second, .val (.long q4), .second, .val (.int nn), .val (.int c0), .val (.int c1), .val (.int c2), .val (.int d0), .val (.int d1), .val (.int d2), .val (.ref b7), .val (.ref b9), .val (.int m0), .val (.int m1), .val (.int m2), .val (.int B0), .val (.int B1), .val (.int B2), .val (.int K0), .val (.int B2), .val (.int (1 : Int32)), .val (.int (own_expect K0 m0 d0)), .val (.int (own_expect B2 m1 d1)), .val (.int (own_expect (1 : Int32) m2 d2)), .unset, .unset] []))
            refine Go.st (fun U hr => XS.iconst X26.here hx rfl (hb hby at_290) hr) ?_
            show Go p.tables e below _ (T26.setTop (mkF m 291 #[.val (.int p1), .val (.long q2), .second, .val (.long q3), .second, .val (.long q4), .second, .val (.int nn), .val (.int c0), .val (.int c1), .val (.int c2), .val (.int d0), .val (.int d1), .val (.int d2), .val (.ref b7), .val (.ref b9), .val (.int m0), .val (.int m1), .val (.int m2), .val (.int B0), .val (.int B1), .val (.int B2), .val (.int K0), .val (.int B2), .val (.int (1 : Int32)), .val (.int (own_expect K0 m0 d0)), .val (.int (own_expect B2 m1 d1)), .val (.int (own_expect (1 : Int32) m2 d2)), .unset, .unset] [(.int (1 : Int32))]))
            refine Go.st (fun U hr => XS.goto X26.here hx rfl (pc0 := 291) (pc' := 295) rfl (hb hby at_291) (by decide) (by decide) hr) ?_
            show Go p.tables e below _ (T26.setTop (mkF m 295 #[.val (.int p1), .val (.long q2), .second, .val (.long q3), .second, .val (.long q4), .second, .val (.int nn), .val (.int c0), .val (.int c1), .val (.int c2), .val (.int d0), .val (.int d1), .val (.int d2), .val (.ref b7), .val (.ref b9), .val (.int m0), .val (.int m1), .val (.int m2), .val (.int B0), .val (.int B1), .val (.int B2), .val (.int K0), .val (.int B2), .val (.int (1 : Int32)), .val (.int (own_expect K0 m0 d0)), .val (.int (own_expect B2 m1 d1)), .val (.int (own_expect (1 : Int32) m2 d2)), .unset, .unset] [(.int (1 : Int32))]))
            simpa only [if_pos hc282_28] using hj282_28
          · refine Go.st (fun U hr => XS.ifNo X26.here hx rfl (hb hby at_282) rfl ((if0 _ _).trans (feq hc282_28).1) hr) ?_
            show Go p.tables e below _ (T26.setTop (mkF m 285 #[.val (.int p1), .val (.long q2), .second, .val (.long q3), .second, .val (.long q4), .second, .val (.int nn), .val (.int c0), .val (.int c1), .val (.int c2), .val (.int d0), .val (.int d1), .val (.int d2), .val (.ref b7), .val (.ref b9), .val (.int m0), .val (.int m1), .val (.int m2), .val (.int B0), .val (.int B1), .val (.int B2), .val (.int K0), .val (.int B2), .val (.int (1 : Int32)), .val (.int (own_expect K0 m0 d0)), .val (.int (own_expect B2 m1 d1)), .val (.int (own_expect (1 : Int32) m2 d2)), .unset, .unset] []))
            refine Go.st (fun U hr => XS.iload X26.here hx rfl (hb hby at_285) rfl hr) ?_
            show Go p.tables e below _ (T26.setTop (mkF m 287 #[.val (.int p1), .val (.long q2), .second, .val (.long q3), .second, .val (.long q4), .second, .val (.int nn), .val (.int c0), .val (.int c1), .val (.int c2), .val (.int d0), .val (.int d1), .val (.int d2), .val (.ref b7), .val (.ref b9), .val (.int m0), .val (.int m1), .val (.int m2), .val (.int B0), .val (.int B1), .val (.int B2), .val (.int K0), .val (.int B2), .val (.int (1 : Int32)), .val (.int (own_expect K0 m0 d0)), .val (.int (own_expect B2 m1 d1)), .val (.int (own_expect (1 : Int32) m2 d2)), .unset, .unset] [(.int B2)]))
            suffices hj287_29 : Go p.tables e below (own_Fin s below room_1.cells room_1.slots (Q0 Z p1 q2 q3 q4 h0 n0)) (T26.setTop (mkF m 295 #[.val (.int p1), .val (.long q2), .second, .val (.long q3), .second, .val (.long q4), .second, .val (.int nn), .val (.int c0), .val (.int c1), .val (.int c2), .val (.int d0), .val (.int d1), .val (.int d2), .val (.ref b7), .val (.ref b9), .val (.int m0), .val (.int m1), .val (.int m2), .val (.int B0), .val (.int B1), .val (.int B2), .val (.int K0), .val (.int B2), .val (.int (1 : Int32)), .val (.int (own_expect K0 m0 d0)), .val (.int (own_expect B2 m1 d1)), .val (.int (own_expect (1 : Int32) m2 d2)), .unset, .unset] [(.int (if B2 = (0 : Int32) then (1 : Int32) else (0 : Int32)))])) by
              by_cases hc287_29 : B2 = (0 : Int32)
              · refine Go.st (fun U hr => XS.ifNo X26.here hx rfl (hb hby at_287) rfl ((if0 _ _).trans (teq hc287_29).2) hr) ?_
                show Go p.tables e below _ (T26.setTop (mkF m 290 #[.val (.int p1), .val (.long q2), .second, .val (.long q3), .second, .val (.long q4), .second, .val (.int nn), .val (.int c0), .val (.int c1), .val (.int c2), .val (.int d0), .val (.int d1), .val (.int d2), .val (.ref b7), .val (.ref b9), .val (.int m0), .val (.int m1), .val (.int m2), .val (.int B0), .val (.int B1), .val (.int B2), .val (.int K0), .val (.int B2), .val (.int (1 : Int32)), .val (.int (own_expect K0 m0 d0)), .val (.int (own_expect B2 m1 d1)), .val (.int (own_expect (1 : Int32) m2 d2)), .unset, .unset] []))
                refine Go.st (fun U hr => XS.iconst X26.here hx rfl (hb hby at_290) hr) ?_
                show Go p.tables e below _ (T26.setTop (mkF m 291 #[.val (.int p1), .val (.long q2), .second, .val (.long q3), .second, .val (.long q4), .second, .val (.int nn), .val (.int c0), .val (.int c1), .val (.int c2), .val (.int d0), .val (.int d1), .val (.int d2), .val (.ref b7), .val (.ref b9), .val (.int m0), .val (.int m1), .val (.int m2), .val (.int B0), .val (.int B1), .val (.int B2), .val (.int K0), .val (.int B2), .val (.int (1 : Int32)), .val (.int (own_expect K0 m0 d0)), .val (.int (own_expect B2 m1 d1)), .val (.int (own_expect (1 : Int32) m2 d2)), .unset, .unset] [(.int (1 : Int32))]))
                refine Go.st (fun U hr => XS.goto X26.here hx rfl (pc0 := 291) (pc' := 295) rfl (hb hby at_291) (by decide) (by decide) hr) ?_
                show Go p.tables e below _ (T26.setTop (mkF m 295 #[.val (.int p1), .val (.long q2), .second, .val (.long q3), .second, .val (.long q4), .second, .val (.int nn), .val (.int c0), .val (.int c1), .val (.int c2), .val (.int d0), .val (.int d1), .val (.int d2), .val (.ref b7), .val (.ref b9), .val (.int m0), .val (.int m1), .val (.int m2), .val (.int B0), .val (.int B1), .val (.int B2), .val (.int K0), .val (.int B2), .val (.int (1 : Int32)), .val (.int (own_expect K0 m0 d0)), .val (.int (own_expect B2 m1 d1)), .val (.int (own_expect (1 : Int32) m2 d2)), .unset, .unset] [(.int (1 : Int32))]))
                simpa only [if_pos hc287_29] using hj287_29
              · refine Go.st (fun U hr => XS.ifYes X26.here hx rfl (pc0 := 287) (pc' := 294) rfl (hb hby at_287) rfl ((if0 _ _).trans (feq hc287_29).2) (by decide) (by decide) hr) ?_
                show Go p.tables e below _ (T26.setTop (mkF m 294 #[.val (.int p1), .val (.long q2), .second, .val (.long q3), .second, .val (.long q4), .second, .val (.int nn), .val (.int c0), .val (.int c1), .val (.int c2), .val (.int d0), .val (.int d1), .val (.int d2), .val (.ref b7), .val (.ref b9), .val (.int m0), .val (.int m1), .val (.int m2), .val (.int B0), .val (.int B1), .val (.int B2), .val (.int K0), .val (.int B2), .val (.int (1 : Int32)), .val (.int (own_expect K0 m0 d0)), .val (.int (own_expect B2 m1 d1)), .val (.int (own_expect (1 : Int32) m2 d2)), .unset, .unset] []))
                refine Go.st (fun U hr => XS.iconst X26.here hx rfl (hb hby at_294) hr) ?_
                show Go p.tables e below _ (T26.setTop (mkF m 295 #[.val (.int p1), .val (.long q2), .second, .val (.long q3), .second, .val (.long q4), .second, .val (.int nn), .val (.int c0), .val (.int c1), .val (.int c2), .val (.int d0), .val (.int d1), .val (.int d2), .val (.ref b7), .val (.ref b9), .val (.int m0), .val (.int m1), .val (.int m2), .val (.int B0), .val (.int B1), .val (.int B2), .val (.int K0), .val (.int B2), .val (.int (1 : Int32)), .val (.int (own_expect K0 m0 d0)), .val (.int (own_expect B2 m1 d1)), .val (.int (own_expect (1 : Int32) m2 d2)), .unset, .unset] [(.int (0 : Int32))]))
                simpa only [if_neg hc287_29] using hj287_29
            simpa only [if_neg hc282_28] using hj282_28
        simpa only [if_neg hc277_27] using hj277_27
    generalize h_EX : (if B0 = (0 : Int32) then (1 : Int32) else (if B1 = (0 : Int32) then (1 : Int32) else (if B2 = (0 : Int32) then (1 : Int32) else (0 : Int32)))) = EX
    refine Go.st (fun U hr => XS.istore X26.here hx rfl (hb hby at_295) rfl (l' := #[.val (.int p1), .val (.long q2), .second, .val (.long q3), .second, .val (.long q4), .second, .val (.int nn), .val (.int c0), .val (.int c1), .val (.int c2), .val (.int d0), .val (.int d1), .val (.int d2), .val (.ref b7), .val (.ref b9), .val (.int m0), .val (.int m1), .val (.int m2), .val (.int B0), .val (.int B1), .val (.int B2), .val (.int K0), .val (.int B2), .val (.int (1 : Int32)), .val (.int (own_expect K0 m0 d0)), .val (.int (own_expect B2 m1 d1)), .val (.int (own_expect (1 : Int32) m2 d2)), .val (.int EX), .unset]) rfl hr) ?_
    show Go p.tables e below _ (T26.setTop (mkF m 297 #[.val (.int p1), .val (.long q2), .second, .val (.long q3), .second, .val (.long q4), .second, .val (.int nn), .val (.int c0), .val (.int c1), .val (.int c2), .val (.int d0), .val (.int d1), .val (.int d2), .val (.ref b7), .val (.ref b9), .val (.int m0), .val (.int m1), .val (.int m2), .val (.int B0), .val (.int B1), .val (.int B2), .val (.int K0), .val (.int B2), .val (.int (1 : Int32)), .val (.int (own_expect K0 m0 d0)), .val (.int (own_expect B2 m1 d1)), .val (.int (own_expect (1 : Int32) m2 d2)), .val (.int EX), .unset] []))
    refine Go.st (fun U hr => XS.aload X26.here hx rfl (hb hby at_297) rfl rfl hr) ?_
    show Go p.tables e below _ (T26.setTop (mkF m 299 #[.val (.int p1), .val (.long q2), .second, .val (.long q3), .second, .val (.long q4), .second, .val (.int nn), .val (.int c0), .val (.int c1), .val (.int c2), .val (.int d0), .val (.int d1), .val (.int d2), .val (.ref b7), .val (.ref b9), .val (.int m0), .val (.int m1), .val (.int m2), .val (.int B0), .val (.int B1), .val (.int B2), .val (.int K0), .val (.int B2), .val (.int (1 : Int32)), .val (.int (own_expect K0 m0 d0)), .val (.int (own_expect B2 m1 d1)), .val (.int (own_expect (1 : Int32) m2 d2)), .val (.int EX), .unset] [(.ref b9)]))
    refine Go.st (fun U hr => XS.aload X26.here hx rfl (hb hby at_299) rfl rfl hr) ?_
    show Go p.tables e below _ (T26.setTop (mkF m 301 #[.val (.int p1), .val (.long q2), .second, .val (.long q3), .second, .val (.long q4), .second, .val (.int nn), .val (.int c0), .val (.int c1), .val (.int c2), .val (.int d0), .val (.int d1), .val (.int d2), .val (.ref b7), .val (.ref b9), .val (.int m0), .val (.int m1), .val (.int m2), .val (.int B0), .val (.int B1), .val (.int B2), .val (.int K0), .val (.int B2), .val (.int (1 : Int32)), .val (.int (own_expect K0 m0 d0)), .val (.int (own_expect B2 m1 d1)), .val (.int (own_expect (1 : Int32) m2 d2)), .val (.int EX), .unset] [(.ref b7), (.ref b9)]))
    obtain ⟨_, _, ⟨T30, L30, k30, n30⟩, -, X30, ⟨Lc30, hQ30, l30, y30, z30⟩, st30⟩ := Jvm.LawKit.callS X26 hx (y := (⟨"com/example/klipspringer/klipspringer/Choices", "advance", "([I[I)Z"⟩ : MethodName)) hown (mvT hZ (hw _ (List.mem_of_getElem? (i := 14) rfl))) (mvT hZ (hw _ (List.mem_of_getElem? (i := 15) rfl))) (mvT hZ (hw _ (List.mem_of_getElem? (i := 16) rfl))) (mvT hZ (hw _ (List.mem_of_getElem? (i := 17) rfl))) (by decide) (backOf (W := 0) (rm4 l Z a0 hw [] b9 b7 k9 k7 nn d0 d1 d2 c0 c1 c2 hc n0 zc Vb Va n10 gb9 hn hd0 hd1 hd2 (fun z => by rw [z] at hc0; exact absurd hc0 (by decide)) (fun z => by rw [z] at hc1; exact absurd hc1 (by decide)) (fun z => by rw [z] at hc2; exact absurd hc2 (by decide))) hZ (hw _ (List.mem_of_getElem? (i := 17) rfl)) (hw _ (List.mem_of_getElem? (i := 16) rfl)) (by decide) (by decide)) (g := (mkF m 301 #[.val (.int p1), .val (.long q2), .second, .val (.long q3), .second, .val (.long q4), .second, .val (.int nn), .val (.int c0), .val (.int c1), .val (.int c2), .val (.int d0), .val (.int d1), .val (.int d2), .val (.ref b7), .val (.ref b9), .val (.int m0), .val (.int m1), .val (.int m2), .val (.int B0), .val (.int B1), .val (.int B2), .val (.int K0), .val (.int B2), .val (.int (1 : Int32)), .val (.int (own_expect K0 m0 d0)), .val (.int (own_expect B2 m1 d1)), .val (.int (own_expect (1 : Int32) m2 d2)), .val (.int EX), .unset] [(.ref b7), (.ref b9)])) rfl (by rw [hml]; rfl) (argsL := [(.ref b9), (.ref b7)]) (rest := []) (lenOf pd_3 rfl) rfl (by show 2 * 0 + _ ≤ _; exact Nat.le_of_eq rfl) (hb hby at_301) (fun _ _ => ⟨rfl, ee26, (by decide : 2 + 0 ≤ _), (by decide : 6 + 0 ≤ _)⟩)
    dsimp only [Pt.U, Pt.locs, Pt.cells, Pt.slots] at X30 l30 y30 z30 st30 hQ30
    subst l30 y30 z30
    obtain ⟨rfl, Nq30, Kq30, Vq30⟩ := hQ30
    have N30 := Fr.app N26 Nq30
    refine Go.st st30 ?_
    show Go p.tables e below _ (T30.setTop (mkF m 304 #[.val (.int p1), .val (.long q2), .second, .val (.long q3), .second, .val (.long q4), .second, .val (.int nn), .val (.int c0), .val (.int c1), .val (.int c2), .val (.int d0), .val (.int d1), .val (.int d2), .val (.ref b7), .val (.ref b9), .val (.int m0), .val (.int m1), .val (.int m2), .val (.int B0), .val (.int B1), .val (.int B2), .val (.int K0), .val (.int B2), .val (.int (1 : Int32)), .val (.int (own_expect K0 m0 d0)), .val (.int (own_expect B2 m1 d1)), .val (.int (own_expect (1 : Int32) m2 d2)), .val (.int EX), .unset] [(.int (own_r nn d0 d1 d2 c0 c1 c2))]))
    have z31 := Nat.le_trans zc Kq30.1
    refine Go.st (fun U hr => XS.istore X30.here hx rfl (hb hby at_304) rfl (l' := #[.val (.int p1), .val (.long q2), .second, .val (.long q3), .second, .val (.long q4), .second, .val (.int nn), .val (.int c0), .val (.int c1), .val (.int c2), .val (.int d0), .val (.int d1), .val (.int d2), .val (.ref b7), .val (.ref b9), .val (.int m0), .val (.int m1), .val (.int m2), .val (.int B0), .val (.int B1), .val (.int B2), .val (.int K0), .val (.int B2), .val (.int (1 : Int32)), .val (.int (own_expect K0 m0 d0)), .val (.int (own_expect B2 m1 d1)), .val (.int (own_expect (1 : Int32) m2 d2)), .val (.int EX), .val (.int (own_r nn d0 d1 d2 c0 c1 c2))]) rfl hr) ?_
    show Go p.tables e below _ (T30.setTop (mkF m 306 #[.val (.int p1), .val (.long q2), .second, .val (.long q3), .second, .val (.long q4), .second, .val (.int nn), .val (.int c0), .val (.int c1), .val (.int c2), .val (.int d0), .val (.int d1), .val (.int d2), .val (.ref b7), .val (.ref b9), .val (.int m0), .val (.int m1), .val (.int m2), .val (.int B0), .val (.int B1), .val (.int B2), .val (.int K0), .val (.int B2), .val (.int (1 : Int32)), .val (.int (own_expect K0 m0 d0)), .val (.int (own_expect B2 m1 d1)), .val (.int (own_expect (1 : Int32) m2 d2)), .val (.int EX), .val (.int (own_r nn d0 d1 d2 c0 c1 c2))] []))
    refine Go.st (fun U hr => XS.iload X30.here hx rfl (hb hby at_306) rfl hr) ?_
    show Go p.tables e below _ (T30.setTop (mkF m 308 #[.val (.int p1), .val (.long q2), .second, .val (.long q3), .second, .val (.long q4), .second, .val (.int nn), .val (.int c0), .val (.int c1), .val (.int c2), .val (.int d0), .val (.int d1), .val (.int d2), .val (.ref b7), .val (.ref b9), .val (.int m0), .val (.int m1), .val (.int m2), .val (.int B0), .val (.int B1), .val (.int B2), .val (.int K0), .val (.int B2), .val (.int (1 : Int32)), .val (.int (own_expect K0 m0 d0)), .val (.int (own_expect B2 m1 d1)), .val (.int (own_expect (1 : Int32) m2 d2)), .val (.int EX), .val (.int (own_r nn d0 d1 d2 c0 c1 c2))] [(.int (own_r nn d0 d1 d2 c0 c1 c2))]))
    refine Go.st (fun U hr => XS.iload X30.here hx rfl (hb hby at_308) rfl hr) ?_
    show Go p.tables e below _ (T30.setTop (mkF m 310 #[.val (.int p1), .val (.long q2), .second, .val (.long q3), .second, .val (.long q4), .second, .val (.int nn), .val (.int c0), .val (.int c1), .val (.int c2), .val (.int d0), .val (.int d1), .val (.int d2), .val (.ref b7), .val (.ref b9), .val (.int m0), .val (.int m1), .val (.int m2), .val (.int B0), .val (.int B1), .val (.int B2), .val (.int K0), .val (.int B2), .val (.int (1 : Int32)), .val (.int (own_expect K0 m0 d0)), .val (.int (own_expect B2 m1 d1)), .val (.int (own_expect (1 : Int32) m2 d2)), .val (.int EX), .val (.int (own_r nn d0 d1 d2 c0 c1 c2))] [(.int EX), (.int (own_r nn d0 d1 d2 c0 c1 c2))]))
    have hc310_32 : (own_r nn d0 d1 d2 c0 c1 c2) = EX := by
      subst h_EX; subst h_K0; subst h_B0; subst h_B1; subst h_B2; clear h_m0 h_m1 h_m2 h_nn; rcases hn with rfl | rfl | rfl | rfl <;> rcases hm0 with ⟨rfl, u0⟩ | ⟨rfl, u0, v0⟩ <;> rcases hm1 with ⟨rfl, u1⟩ | ⟨rfl, u1, v1⟩ <;> rcases hm2 with ⟨rfl, u2⟩ | ⟨rfl, u2, v2⟩ <;> simp_all +decide [own_r, own_y0, own_y1, own_y2, own_expect]
    refine Go.st (fun U hr => XS.icmpYes X30.here hx rfl (pc0 := 310) (pc' := 315) rfl (hb hby at_310) rfl (teq hc310_32).1 (by decide) (by decide) hr) ?_
    show Go p.tables e below _ (T30.setTop (mkF m 315 #[.val (.int p1), .val (.long q2), .second, .val (.long q3), .second, .val (.long q4), .second, .val (.int nn), .val (.int c0), .val (.int c1), .val (.int c2), .val (.int d0), .val (.int d1), .val (.int d2), .val (.ref b7), .val (.ref b9), .val (.int m0), .val (.int m1), .val (.int m2), .val (.int B0), .val (.int B1), .val (.int B2), .val (.int K0), .val (.int B2), .val (.int (1 : Int32)), .val (.int (own_expect K0 m0 d0)), .val (.int (own_expect B2 m1 d1)), .val (.int (own_expect (1 : Int32) m2 d2)), .val (.int EX), .val (.int (own_r nn d0 d1 d2 c0 c1 c2))] []))
    refine Go.st (fun U hr => XS.iload X30.here hx rfl (hb hby at_315) rfl hr) ?_
    show Go p.tables e below _ (T30.setTop (mkF m 317 #[.val (.int p1), .val (.long q2), .second, .val (.long q3), .second, .val (.long q4), .second, .val (.int nn), .val (.int c0), .val (.int c1), .val (.int c2), .val (.int d0), .val (.int d1), .val (.int d2), .val (.ref b7), .val (.ref b9), .val (.int m0), .val (.int m1), .val (.int m2), .val (.int B0), .val (.int B1), .val (.int B2), .val (.int K0), .val (.int B2), .val (.int (1 : Int32)), .val (.int (own_expect K0 m0 d0)), .val (.int (own_expect B2 m1 d1)), .val (.int (own_expect (1 : Int32) m2 d2)), .val (.int EX), .val (.int (own_r nn d0 d1 d2 c0 c1 c2))] [(.int nn)]))
    suffices hj317_33 : Go p.tables e below (own_Fin s below room_1.cells room_1.slots (Q0 Z p1 q2 q3 q4 h0 n0)) (T30.setTop (mkF m 331 #[.val (.int p1), .val (.long q2), .second, .val (.long q3), .second, .val (.long q4), .second, .val (.int nn), .val (.int c0), .val (.int c1), .val (.int c2), .val (.int d0), .val (.int d1), .val (.int d2), .val (.ref b7), .val (.ref b9), .val (.int m0), .val (.int m1), .val (.int m2), .val (.int B0), .val (.int B1), .val (.int B2), .val (.int K0), .val (.int B2), .val (.int (1 : Int32)), .val (.int (own_expect K0 m0 d0)), .val (.int (own_expect B2 m1 d1)), .val (.int (own_expect (1 : Int32) m2 d2)), .val (.int EX), .val (.int (own_r nn d0 d1 d2 c0 c1 c2))] [])) by
      by_cases hc317_33 : (0 : Int32) < nn
      · refine Go.st (fun U hr => XS.ifNo X30.here hx rfl (hb hby at_317) rfl ((if0 _ _).trans (tlt hc317_33).2.2.2) hr) ?_
        show Go p.tables e below _ (T30.setTop (mkF m 320 #[.val (.int p1), .val (.long q2), .second, .val (.long q3), .second, .val (.long q4), .second, .val (.int nn), .val (.int c0), .val (.int c1), .val (.int c2), .val (.int d0), .val (.int d1), .val (.int d2), .val (.ref b7), .val (.ref b9), .val (.int m0), .val (.int m1), .val (.int m2), .val (.int B0), .val (.int B1), .val (.int B2), .val (.int K0), .val (.int B2), .val (.int (1 : Int32)), .val (.int (own_expect K0 m0 d0)), .val (.int (own_expect B2 m1 d1)), .val (.int (own_expect (1 : Int32) m2 d2)), .val (.int EX), .val (.int (own_r nn d0 d1 d2 c0 c1 c2))] []))
        refine Go.st (fun U hr => XS.aload X30.here hx rfl (hb hby at_320) rfl rfl hr) ?_
        show Go p.tables e below _ (T30.setTop (mkF m 322 #[.val (.int p1), .val (.long q2), .second, .val (.long q3), .second, .val (.long q4), .second, .val (.int nn), .val (.int c0), .val (.int c1), .val (.int c2), .val (.int d0), .val (.int d1), .val (.int d2), .val (.ref b7), .val (.ref b9), .val (.int m0), .val (.int m1), .val (.int m2), .val (.int B0), .val (.int B1), .val (.int B2), .val (.int K0), .val (.int B2), .val (.int (1 : Int32)), .val (.int (own_expect K0 m0 d0)), .val (.int (own_expect B2 m1 d1)), .val (.int (own_expect (1 : Int32) m2 d2)), .val (.int EX), .val (.int (own_r nn d0 d1 d2 c0 c1 c2))] [(.ref b9)]))
        refine Go.st (fun U hr => XS.iconst X30.here hx rfl (hb hby at_322) hr) ?_
        show Go p.tables e below _ (T30.setTop (mkF m 323 #[.val (.int p1), .val (.long q2), .second, .val (.long q3), .second, .val (.long q4), .second, .val (.int nn), .val (.int c0), .val (.int c1), .val (.int c2), .val (.int d0), .val (.int d1), .val (.int d2), .val (.ref b7), .val (.ref b9), .val (.int m0), .val (.int m1), .val (.int m2), .val (.int B0), .val (.int B1), .val (.int B2), .val (.int K0), .val (.int B2), .val (.int (1 : Int32)), .val (.int (own_expect K0 m0 d0)), .val (.int (own_expect B2 m1 d1)), .val (.int (own_expect (1 : Int32) m2 d2)), .val (.int EX), .val (.int (own_r nn d0 d1 d2 c0 c1 c2))] [(.int (0 : Int32)), (.ref b9)]))
        obtain ⟨cl34, Ar34, qa34, Sa34, Na34, Ha34, Ga34⟩ := id Vq30
        have hin34 : ¬ ((0 : Int32) < 0 ∨ cl34.slots.size ≤ ((0 : Int32)).toNatClampNeg) := inb_of Sa34 ⟨by decide, hc317_33⟩
        refine Go.st (X30.iaload hx (j := (0 : Int32)) (v := (.int (own_y0 nn d0 d1 d2 c0 c1 c2))) Ar34.1 (State.isArrayOf_alike hZ.alike Ar34.2.1) Ar34.2.2 hin34 (Ha34.at hin34 rfl) (g := (mkF m 323 #[.val (.int p1), .val (.long q2), .second, .val (.long q3), .second, .val (.long q4), .second, .val (.int nn), .val (.int c0), .val (.int c1), .val (.int c2), .val (.int d0), .val (.int d1), .val (.int d2), .val (.ref b7), .val (.ref b9), .val (.int m0), .val (.int m1), .val (.int m2), .val (.int B0), .val (.int B1), .val (.int B2), .val (.int K0), .val (.int B2), .val (.int (1 : Int32)), .val (.int (own_expect K0 m0 d0)), .val (.int (own_expect B2 m1 d1)), .val (.int (own_expect (1 : Int32) m2 d2)), .val (.int EX), .val (.int (own_r nn d0 d1 d2 c0 c1 c2))] [(.int (0 : Int32)), (.ref b9)])) rfl rfl (hb hby at_323)) ?_
        show Go p.tables e below _ (T30.setTop (mkF m 324 #[.val (.int p1), .val (.long q2), .second, .val (.long q3), .second, .val (.long q4), .second, .val (.int nn), .val (.int c0), .val (.int c1), .val (.int c2), .val (.int d0), .val (.int d1), .val (.int d2), .val (.ref b7), .val (.ref b9), .val (.int m0), .val (.int m1), .val (.int m2), .val (.int B0), .val (.int B1), .val (.int B2), .val (.int K0), .val (.int B2), .val (.int (1 : Int32)), .val (.int (own_expect K0 m0 d0)), .val (.int (own_expect B2 m1 d1)), .val (.int (own_expect (1 : Int32) m2 d2)), .val (.int EX), .val (.int (own_r nn d0 d1 d2 c0 c1 c2))] [(.int (own_y0 nn d0 d1 d2 c0 c1 c2))]))
        refine Go.st (fun U hr => XS.iload X30.here hx rfl (hb hby at_324) rfl hr) ?_
        show Go p.tables e below _ (T30.setTop (mkF m 326 #[.val (.int p1), .val (.long q2), .second, .val (.long q3), .second, .val (.long q4), .second, .val (.int nn), .val (.int c0), .val (.int c1), .val (.int c2), .val (.int d0), .val (.int d1), .val (.int d2), .val (.ref b7), .val (.ref b9), .val (.int m0), .val (.int m1), .val (.int m2), .val (.int B0), .val (.int B1), .val (.int B2), .val (.int K0), .val (.int B2), .val (.int (1 : Int32)), .val (.int (own_expect K0 m0 d0)), .val (.int (own_expect B2 m1 d1)), .val (.int (own_expect (1 : Int32) m2 d2)), .val (.int EX), .val (.int (own_r nn d0 d1 d2 c0 c1 c2))] [(.int (own_expect K0 m0 d0)), (.int (own_y0 nn d0 d1 d2 c0 c1 c2))]))
        have hc326_35 : (own_y0 nn d0 d1 d2 c0 c1 c2) = (own_expect K0 m0 d0) := by
          have hgt := hc317_33
          subst h_EX; subst h_K0; subst h_B0; subst h_B1; subst h_B2; clear h_m0 h_m1 h_m2 h_nn; rcases hn with rfl | rfl | rfl | rfl <;> rcases hm0 with ⟨rfl, u0⟩ | ⟨rfl, u0, v0⟩ <;> rcases hm1 with ⟨rfl, u1⟩ | ⟨rfl, u1, v1⟩ <;> rcases hm2 with ⟨rfl, u2⟩ | ⟨rfl, u2, v2⟩ <;> simp_all +decide [own_r, own_y0, own_y1, own_y2, own_expect]
        refine Go.st (fun U hr => XS.icmpYes X30.here hx rfl (pc0 := 326) (pc' := 331) rfl (hb hby at_326) rfl (teq hc326_35).1 (by decide) (by decide) hr) ?_
        show Go p.tables e below _ (T30.setTop (mkF m 331 #[.val (.int p1), .val (.long q2), .second, .val (.long q3), .second, .val (.long q4), .second, .val (.int nn), .val (.int c0), .val (.int c1), .val (.int c2), .val (.int d0), .val (.int d1), .val (.int d2), .val (.ref b7), .val (.ref b9), .val (.int m0), .val (.int m1), .val (.int m2), .val (.int B0), .val (.int B1), .val (.int B2), .val (.int K0), .val (.int B2), .val (.int (1 : Int32)), .val (.int (own_expect K0 m0 d0)), .val (.int (own_expect B2 m1 d1)), .val (.int (own_expect (1 : Int32) m2 d2)), .val (.int EX), .val (.int (own_r nn d0 d1 d2 c0 c1 c2))] []))
        simpa only [if_pos hc317_33] using hj317_33
      · refine Go.st (fun U hr => XS.ifYes X30.here hx rfl (pc0 := 317) (pc' := 331) rfl (hb hby at_317) rfl ((if0 _ _).trans (flt hc317_33).2.2.2) (by decide) (by decide) hr) ?_
        show Go p.tables e below _ (T30.setTop (mkF m 331 #[.val (.int p1), .val (.long q2), .second, .val (.long q3), .second, .val (.long q4), .second, .val (.int nn), .val (.int c0), .val (.int c1), .val (.int c2), .val (.int d0), .val (.int d1), .val (.int d2), .val (.ref b7), .val (.ref b9), .val (.int m0), .val (.int m1), .val (.int m2), .val (.int B0), .val (.int B1), .val (.int B2), .val (.int K0), .val (.int B2), .val (.int (1 : Int32)), .val (.int (own_expect K0 m0 d0)), .val (.int (own_expect B2 m1 d1)), .val (.int (own_expect (1 : Int32) m2 d2)), .val (.int EX), .val (.int (own_r nn d0 d1 d2 c0 c1 c2))] []))
        simpa only [if_neg hc317_33] using hj317_33
    refine Go.st (fun U hr => XS.iload X30.here hx rfl (hb hby at_331) rfl hr) ?_
    show Go p.tables e below _ (T30.setTop (mkF m 333 #[.val (.int p1), .val (.long q2), .second, .val (.long q3), .second, .val (.long q4), .second, .val (.int nn), .val (.int c0), .val (.int c1), .val (.int c2), .val (.int d0), .val (.int d1), .val (.int d2), .val (.ref b7), .val (.ref b9), .val (.int m0), .val (.int m1), .val (.int m2), .val (.int B0), .val (.int B1), .val (.int B2), .val (.int K0), .val (.int B2), .val (.int (1 : Int32)), .val (.int (own_expect K0 m0 d0)), .val (.int (own_expect B2 m1 d1)), .val (.int (own_expect (1 : Int32) m2 d2)), .val (.int EX), .val (.int (own_r nn d0 d1 d2 c0 c1 c2))] [(.int nn)]))
    refine Go.st (fun U hr => XS.iconst X30.here hx rfl (hb hby at_333) hr) ?_
    show Go p.tables e below _ (T30.setTop (mkF m 334 #[.val (.int p1), .val (.long q2), .second, .val (.long q3), .second, .val (.long q4), .second, .val (.int nn), .val (.int c0), .val (.int c1), .val (.int c2), .val (.int d0), .val (.int d1), .val (.int d2), .val (.ref b7), .val (.ref b9), .val (.int m0), .val (.int m1), .val (.int m2), .val (.int B0), .val (.int B1), .val (.int B2), .val (.int K0), .val (.int B2), .val (.int (1 : Int32)), .val (.int (own_expect K0 m0 d0)), .val (.int (own_expect B2 m1 d1)), .val (.int (own_expect (1 : Int32) m2 d2)), .val (.int EX), .val (.int (own_r nn d0 d1 d2 c0 c1 c2))] [(.int (1 : Int32)), (.int nn)]))
    suffices hj334_36 : Go p.tables e below (own_Fin s below room_1.cells room_1.slots (Q0 Z p1 q2 q3 q4 h0 n0)) (T30.setTop (mkF m 348 #[.val (.int p1), .val (.long q2), .second, .val (.long q3), .second, .val (.long q4), .second, .val (.int nn), .val (.int c0), .val (.int c1), .val (.int c2), .val (.int d0), .val (.int d1), .val (.int d2), .val (.ref b7), .val (.ref b9), .val (.int m0), .val (.int m1), .val (.int m2), .val (.int B0), .val (.int B1), .val (.int B2), .val (.int K0), .val (.int B2), .val (.int (1 : Int32)), .val (.int (own_expect K0 m0 d0)), .val (.int (own_expect B2 m1 d1)), .val (.int (own_expect (1 : Int32) m2 d2)), .val (.int EX), .val (.int (own_r nn d0 d1 d2 c0 c1 c2))] [])) by
      by_cases hc334_36 : (1 : Int32) < nn
      · refine Go.st (fun U hr => XS.icmpNo X30.here hx rfl (hb hby at_334) rfl (tlt hc334_36).2.2.2 hr) ?_
        show Go p.tables e below _ (T30.setTop (mkF m 337 #[.val (.int p1), .val (.long q2), .second, .val (.long q3), .second, .val (.long q4), .second, .val (.int nn), .val (.int c0), .val (.int c1), .val (.int c2), .val (.int d0), .val (.int d1), .val (.int d2), .val (.ref b7), .val (.ref b9), .val (.int m0), .val (.int m1), .val (.int m2), .val (.int B0), .val (.int B1), .val (.int B2), .val (.int K0), .val (.int B2), .val (.int (1 : Int32)), .val (.int (own_expect K0 m0 d0)), .val (.int (own_expect B2 m1 d1)), .val (.int (own_expect (1 : Int32) m2 d2)), .val (.int EX), .val (.int (own_r nn d0 d1 d2 c0 c1 c2))] []))
        refine Go.st (fun U hr => XS.aload X30.here hx rfl (hb hby at_337) rfl rfl hr) ?_
        show Go p.tables e below _ (T30.setTop (mkF m 339 #[.val (.int p1), .val (.long q2), .second, .val (.long q3), .second, .val (.long q4), .second, .val (.int nn), .val (.int c0), .val (.int c1), .val (.int c2), .val (.int d0), .val (.int d1), .val (.int d2), .val (.ref b7), .val (.ref b9), .val (.int m0), .val (.int m1), .val (.int m2), .val (.int B0), .val (.int B1), .val (.int B2), .val (.int K0), .val (.int B2), .val (.int (1 : Int32)), .val (.int (own_expect K0 m0 d0)), .val (.int (own_expect B2 m1 d1)), .val (.int (own_expect (1 : Int32) m2 d2)), .val (.int EX), .val (.int (own_r nn d0 d1 d2 c0 c1 c2))] [(.ref b9)]))
        refine Go.st (fun U hr => XS.iconst X30.here hx rfl (hb hby at_339) hr) ?_
        show Go p.tables e below _ (T30.setTop (mkF m 340 #[.val (.int p1), .val (.long q2), .second, .val (.long q3), .second, .val (.long q4), .second, .val (.int nn), .val (.int c0), .val (.int c1), .val (.int c2), .val (.int d0), .val (.int d1), .val (.int d2), .val (.ref b7), .val (.ref b9), .val (.int m0), .val (.int m1), .val (.int m2), .val (.int B0), .val (.int B1), .val (.int B2), .val (.int K0), .val (.int B2), .val (.int (1 : Int32)), .val (.int (own_expect K0 m0 d0)), .val (.int (own_expect B2 m1 d1)), .val (.int (own_expect (1 : Int32) m2 d2)), .val (.int EX), .val (.int (own_r nn d0 d1 d2 c0 c1 c2))] [(.int (1 : Int32)), (.ref b9)]))
        obtain ⟨cl37, Ar37, qa37, Sa37, Na37, Ha37, Ga37⟩ := id Vq30
        have hin37 : ¬ ((1 : Int32) < 0 ∨ cl37.slots.size ≤ ((1 : Int32)).toNatClampNeg) := inb_of Sa37 ⟨by decide, hc334_36⟩
        refine Go.st (X30.iaload hx (j := (1 : Int32)) (v := (.int (own_y1 nn d0 d1 d2 c0 c1 c2))) Ar37.1 (State.isArrayOf_alike hZ.alike Ar37.2.1) Ar37.2.2 hin37 (Ha37.at hin37 rfl) (g := (mkF m 340 #[.val (.int p1), .val (.long q2), .second, .val (.long q3), .second, .val (.long q4), .second, .val (.int nn), .val (.int c0), .val (.int c1), .val (.int c2), .val (.int d0), .val (.int d1), .val (.int d2), .val (.ref b7), .val (.ref b9), .val (.int m0), .val (.int m1), .val (.int m2), .val (.int B0), .val (.int B1), .val (.int B2), .val (.int K0), .val (.int B2), .val (.int (1 : Int32)), .val (.int (own_expect K0 m0 d0)), .val (.int (own_expect B2 m1 d1)), .val (.int (own_expect (1 : Int32) m2 d2)), .val (.int EX), .val (.int (own_r nn d0 d1 d2 c0 c1 c2))] [(.int (1 : Int32)), (.ref b9)])) rfl rfl (hb hby at_340)) ?_
        show Go p.tables e below _ (T30.setTop (mkF m 341 #[.val (.int p1), .val (.long q2), .second, .val (.long q3), .second, .val (.long q4), .second, .val (.int nn), .val (.int c0), .val (.int c1), .val (.int c2), .val (.int d0), .val (.int d1), .val (.int d2), .val (.ref b7), .val (.ref b9), .val (.int m0), .val (.int m1), .val (.int m2), .val (.int B0), .val (.int B1), .val (.int B2), .val (.int K0), .val (.int B2), .val (.int (1 : Int32)), .val (.int (own_expect K0 m0 d0)), .val (.int (own_expect B2 m1 d1)), .val (.int (own_expect (1 : Int32) m2 d2)), .val (.int EX), .val (.int (own_r nn d0 d1 d2 c0 c1 c2))] [(.int (own_y1 nn d0 d1 d2 c0 c1 c2))]))
        refine Go.st (fun U hr => XS.iload X30.here hx rfl (hb hby at_341) rfl hr) ?_
        show Go p.tables e below _ (T30.setTop (mkF m 343 #[.val (.int p1), .val (.long q2), .second, .val (.long q3), .second, .val (.long q4), .second, .val (.int nn), .val (.int c0), .val (.int c1), .val (.int c2), .val (.int d0), .val (.int d1), .val (.int d2), .val (.ref b7), .val (.ref b9), .val (.int m0), .val (.int m1), .val (.int m2), .val (.int B0), .val (.int B1), .val (.int B2), .val (.int K0), .val (.int B2), .val (.int (1 : Int32)), .val (.int (own_expect K0 m0 d0)), .val (.int (own_expect B2 m1 d1)), .val (.int (own_expect (1 : Int32) m2 d2)), .val (.int EX), .val (.int (own_r nn d0 d1 d2 c0 c1 c2))] [(.int (own_expect B2 m1 d1)), (.int (own_y1 nn d0 d1 d2 c0 c1 c2))]))
        have hc343_38 : (own_y1 nn d0 d1 d2 c0 c1 c2) = (own_expect B2 m1 d1) := by
          have hgt := hc334_36
          subst h_EX; subst h_K0; subst h_B0; subst h_B1; subst h_B2; clear h_m0 h_m1 h_m2 h_nn; rcases hn with rfl | rfl | rfl | rfl <;> rcases hm0 with ⟨rfl, u0⟩ | ⟨rfl, u0, v0⟩ <;> rcases hm1 with ⟨rfl, u1⟩ | ⟨rfl, u1, v1⟩ <;> rcases hm2 with ⟨rfl, u2⟩ | ⟨rfl, u2, v2⟩ <;> simp_all +decide [own_r, own_y0, own_y1, own_y2, own_expect]
        refine Go.st (fun U hr => XS.icmpYes X30.here hx rfl (pc0 := 343) (pc' := 348) rfl (hb hby at_343) rfl (teq hc343_38).1 (by decide) (by decide) hr) ?_
        show Go p.tables e below _ (T30.setTop (mkF m 348 #[.val (.int p1), .val (.long q2), .second, .val (.long q3), .second, .val (.long q4), .second, .val (.int nn), .val (.int c0), .val (.int c1), .val (.int c2), .val (.int d0), .val (.int d1), .val (.int d2), .val (.ref b7), .val (.ref b9), .val (.int m0), .val (.int m1), .val (.int m2), .val (.int B0), .val (.int B1), .val (.int B2), .val (.int K0), .val (.int B2), .val (.int (1 : Int32)), .val (.int (own_expect K0 m0 d0)), .val (.int (own_expect B2 m1 d1)), .val (.int (own_expect (1 : Int32) m2 d2)), .val (.int EX), .val (.int (own_r nn d0 d1 d2 c0 c1 c2))] []))
        simpa only [if_pos hc334_36] using hj334_36
      · refine Go.st (fun U hr => XS.icmpYes X30.here hx rfl (pc0 := 334) (pc' := 348) rfl (hb hby at_334) rfl (flt hc334_36).2.2.2 (by decide) (by decide) hr) ?_
        show Go p.tables e below _ (T30.setTop (mkF m 348 #[.val (.int p1), .val (.long q2), .second, .val (.long q3), .second, .val (.long q4), .second, .val (.int nn), .val (.int c0), .val (.int c1), .val (.int c2), .val (.int d0), .val (.int d1), .val (.int d2), .val (.ref b7), .val (.ref b9), .val (.int m0), .val (.int m1), .val (.int m2), .val (.int B0), .val (.int B1), .val (.int B2), .val (.int K0), .val (.int B2), .val (.int (1 : Int32)), .val (.int (own_expect K0 m0 d0)), .val (.int (own_expect B2 m1 d1)), .val (.int (own_expect (1 : Int32) m2 d2)), .val (.int EX), .val (.int (own_r nn d0 d1 d2 c0 c1 c2))] []))
        simpa only [if_neg hc334_36] using hj334_36
    refine Go.st (fun U hr => XS.iload X30.here hx rfl (hb hby at_348) rfl hr) ?_
    show Go p.tables e below _ (T30.setTop (mkF m 350 #[.val (.int p1), .val (.long q2), .second, .val (.long q3), .second, .val (.long q4), .second, .val (.int nn), .val (.int c0), .val (.int c1), .val (.int c2), .val (.int d0), .val (.int d1), .val (.int d2), .val (.ref b7), .val (.ref b9), .val (.int m0), .val (.int m1), .val (.int m2), .val (.int B0), .val (.int B1), .val (.int B2), .val (.int K0), .val (.int B2), .val (.int (1 : Int32)), .val (.int (own_expect K0 m0 d0)), .val (.int (own_expect B2 m1 d1)), .val (.int (own_expect (1 : Int32) m2 d2)), .val (.int EX), .val (.int (own_r nn d0 d1 d2 c0 c1 c2))] [(.int nn)]))
    refine Go.st (fun U hr => XS.iconst X30.here hx rfl (hb hby at_350) hr) ?_
    show Go p.tables e below _ (T30.setTop (mkF m 351 #[.val (.int p1), .val (.long q2), .second, .val (.long q3), .second, .val (.long q4), .second, .val (.int nn), .val (.int c0), .val (.int c1), .val (.int c2), .val (.int d0), .val (.int d1), .val (.int d2), .val (.ref b7), .val (.ref b9), .val (.int m0), .val (.int m1), .val (.int m2), .val (.int B0), .val (.int B1), .val (.int B2), .val (.int K0), .val (.int B2), .val (.int (1 : Int32)), .val (.int (own_expect K0 m0 d0)), .val (.int (own_expect B2 m1 d1)), .val (.int (own_expect (1 : Int32) m2 d2)), .val (.int EX), .val (.int (own_r nn d0 d1 d2 c0 c1 c2))] [(.int (2 : Int32)), (.int nn)]))
    suffices hj351_39 : Go p.tables e below (own_Fin s below room_1.cells room_1.slots (Q0 Z p1 q2 q3 q4 h0 n0)) (T30.setTop (mkF m 365 #[.val (.int p1), .val (.long q2), .second, .val (.long q3), .second, .val (.long q4), .second, .val (.int nn), .val (.int c0), .val (.int c1), .val (.int c2), .val (.int d0), .val (.int d1), .val (.int d2), .val (.ref b7), .val (.ref b9), .val (.int m0), .val (.int m1), .val (.int m2), .val (.int B0), .val (.int B1), .val (.int B2), .val (.int K0), .val (.int B2), .val (.int (1 : Int32)), .val (.int (own_expect K0 m0 d0)), .val (.int (own_expect B2 m1 d1)), .val (.int (own_expect (1 : Int32) m2 d2)), .val (.int EX), .val (.int (own_r nn d0 d1 d2 c0 c1 c2))] [])) by
      by_cases hc351_39 : (2 : Int32) < nn
      · refine Go.st (fun U hr => XS.icmpNo X30.here hx rfl (hb hby at_351) rfl (tlt hc351_39).2.2.2 hr) ?_
        show Go p.tables e below _ (T30.setTop (mkF m 354 #[.val (.int p1), .val (.long q2), .second, .val (.long q3), .second, .val (.long q4), .second, .val (.int nn), .val (.int c0), .val (.int c1), .val (.int c2), .val (.int d0), .val (.int d1), .val (.int d2), .val (.ref b7), .val (.ref b9), .val (.int m0), .val (.int m1), .val (.int m2), .val (.int B0), .val (.int B1), .val (.int B2), .val (.int K0), .val (.int B2), .val (.int (1 : Int32)), .val (.int (own_expect K0 m0 d0)), .val (.int (own_expect B2 m1 d1)), .val (.int (own_expect (1 : Int32) m2 d2)), .val (.int EX), .val (.int (own_r nn d0 d1 d2 c0 c1 c2))] []))
        refine Go.st (fun U hr => XS.aload X30.here hx rfl (hb hby at_354) rfl rfl hr) ?_
        show Go p.tables e below _ (T30.setTop (mkF m 356 #[.val (.int p1), .val (.long q2), .second, .val (.long q3), .second, .val (.long q4), .second, .val (.int nn), .val (.int c0), .val (.int c1), .val (.int c2), .val (.int d0), .val (.int d1), .val (.int d2), .val (.ref b7), .val (.ref b9), .val (.int m0), .val (.int m1), .val (.int m2), .val (.int B0), .val (.int B1), .val (.int B2), .val (.int K0), .val (.int B2), .val (.int (1 : Int32)), .val (.int (own_expect K0 m0 d0)), .val (.int (own_expect B2 m1 d1)), .val (.int (own_expect (1 : Int32) m2 d2)), .val (.int EX), .val (.int (own_r nn d0 d1 d2 c0 c1 c2))] [(.ref b9)]))
        refine Go.st (fun U hr => XS.iconst X30.here hx rfl (hb hby at_356) hr) ?_
        show Go p.tables e below _ (T30.setTop (mkF m 357 #[.val (.int p1), .val (.long q2), .second, .val (.long q3), .second, .val (.long q4), .second, .val (.int nn), .val (.int c0), .val (.int c1), .val (.int c2), .val (.int d0), .val (.int d1), .val (.int d2), .val (.ref b7), .val (.ref b9), .val (.int m0), .val (.int m1), .val (.int m2), .val (.int B0), .val (.int B1), .val (.int B2), .val (.int K0), .val (.int B2), .val (.int (1 : Int32)), .val (.int (own_expect K0 m0 d0)), .val (.int (own_expect B2 m1 d1)), .val (.int (own_expect (1 : Int32) m2 d2)), .val (.int EX), .val (.int (own_r nn d0 d1 d2 c0 c1 c2))] [(.int (2 : Int32)), (.ref b9)]))
        obtain ⟨cl40, Ar40, qa40, Sa40, Na40, Ha40, Ga40⟩ := id Vq30
        have hin40 : ¬ ((2 : Int32) < 0 ∨ cl40.slots.size ≤ ((2 : Int32)).toNatClampNeg) := inb_of Sa40 ⟨by decide, hc351_39⟩
        refine Go.st (X30.iaload hx (j := (2 : Int32)) (v := (.int (own_y2 nn d0 d1 d2 c0 c1 c2))) Ar40.1 (State.isArrayOf_alike hZ.alike Ar40.2.1) Ar40.2.2 hin40 (Ha40.at hin40 rfl) (g := (mkF m 357 #[.val (.int p1), .val (.long q2), .second, .val (.long q3), .second, .val (.long q4), .second, .val (.int nn), .val (.int c0), .val (.int c1), .val (.int c2), .val (.int d0), .val (.int d1), .val (.int d2), .val (.ref b7), .val (.ref b9), .val (.int m0), .val (.int m1), .val (.int m2), .val (.int B0), .val (.int B1), .val (.int B2), .val (.int K0), .val (.int B2), .val (.int (1 : Int32)), .val (.int (own_expect K0 m0 d0)), .val (.int (own_expect B2 m1 d1)), .val (.int (own_expect (1 : Int32) m2 d2)), .val (.int EX), .val (.int (own_r nn d0 d1 d2 c0 c1 c2))] [(.int (2 : Int32)), (.ref b9)])) rfl rfl (hb hby at_357)) ?_
        show Go p.tables e below _ (T30.setTop (mkF m 358 #[.val (.int p1), .val (.long q2), .second, .val (.long q3), .second, .val (.long q4), .second, .val (.int nn), .val (.int c0), .val (.int c1), .val (.int c2), .val (.int d0), .val (.int d1), .val (.int d2), .val (.ref b7), .val (.ref b9), .val (.int m0), .val (.int m1), .val (.int m2), .val (.int B0), .val (.int B1), .val (.int B2), .val (.int K0), .val (.int B2), .val (.int (1 : Int32)), .val (.int (own_expect K0 m0 d0)), .val (.int (own_expect B2 m1 d1)), .val (.int (own_expect (1 : Int32) m2 d2)), .val (.int EX), .val (.int (own_r nn d0 d1 d2 c0 c1 c2))] [(.int (own_y2 nn d0 d1 d2 c0 c1 c2))]))
        refine Go.st (fun U hr => XS.iload X30.here hx rfl (hb hby at_358) rfl hr) ?_
        show Go p.tables e below _ (T30.setTop (mkF m 360 #[.val (.int p1), .val (.long q2), .second, .val (.long q3), .second, .val (.long q4), .second, .val (.int nn), .val (.int c0), .val (.int c1), .val (.int c2), .val (.int d0), .val (.int d1), .val (.int d2), .val (.ref b7), .val (.ref b9), .val (.int m0), .val (.int m1), .val (.int m2), .val (.int B0), .val (.int B1), .val (.int B2), .val (.int K0), .val (.int B2), .val (.int (1 : Int32)), .val (.int (own_expect K0 m0 d0)), .val (.int (own_expect B2 m1 d1)), .val (.int (own_expect (1 : Int32) m2 d2)), .val (.int EX), .val (.int (own_r nn d0 d1 d2 c0 c1 c2))] [(.int (own_expect (1 : Int32) m2 d2)), (.int (own_y2 nn d0 d1 d2 c0 c1 c2))]))
        have hc360_41 : (own_y2 nn d0 d1 d2 c0 c1 c2) = (own_expect (1 : Int32) m2 d2) := by
          have hgt := hc351_39
          subst h_EX; subst h_K0; subst h_B0; subst h_B1; subst h_B2; clear h_m0 h_m1 h_m2 h_nn; rcases hn with rfl | rfl | rfl | rfl <;> rcases hm0 with ⟨rfl, u0⟩ | ⟨rfl, u0, v0⟩ <;> rcases hm1 with ⟨rfl, u1⟩ | ⟨rfl, u1, v1⟩ <;> rcases hm2 with ⟨rfl, u2⟩ | ⟨rfl, u2, v2⟩ <;> simp_all +decide [own_r, own_y0, own_y1, own_y2, own_expect]
        refine Go.st (fun U hr => XS.icmpYes X30.here hx rfl (pc0 := 360) (pc' := 365) rfl (hb hby at_360) rfl (teq hc360_41).1 (by decide) (by decide) hr) ?_
        show Go p.tables e below _ (T30.setTop (mkF m 365 #[.val (.int p1), .val (.long q2), .second, .val (.long q3), .second, .val (.long q4), .second, .val (.int nn), .val (.int c0), .val (.int c1), .val (.int c2), .val (.int d0), .val (.int d1), .val (.int d2), .val (.ref b7), .val (.ref b9), .val (.int m0), .val (.int m1), .val (.int m2), .val (.int B0), .val (.int B1), .val (.int B2), .val (.int K0), .val (.int B2), .val (.int (1 : Int32)), .val (.int (own_expect K0 m0 d0)), .val (.int (own_expect B2 m1 d1)), .val (.int (own_expect (1 : Int32) m2 d2)), .val (.int EX), .val (.int (own_r nn d0 d1 d2 c0 c1 c2))] []))
        simpa only [if_pos hc351_39] using hj351_39
      · refine Go.st (fun U hr => XS.icmpYes X30.here hx rfl (pc0 := 351) (pc' := 365) rfl (hb hby at_351) rfl (flt hc351_39).2.2.2 (by decide) (by decide) hr) ?_
        show Go p.tables e below _ (T30.setTop (mkF m 365 #[.val (.int p1), .val (.long q2), .second, .val (.long q3), .second, .val (.long q4), .second, .val (.int nn), .val (.int c0), .val (.int c1), .val (.int c2), .val (.int d0), .val (.int d1), .val (.int d2), .val (.ref b7), .val (.ref b9), .val (.int m0), .val (.int m1), .val (.int m2), .val (.int B0), .val (.int B1), .val (.int B2), .val (.int K0), .val (.int B2), .val (.int (1 : Int32)), .val (.int (own_expect K0 m0 d0)), .val (.int (own_expect B2 m1 d1)), .val (.int (own_expect (1 : Int32) m2 d2)), .val (.int EX), .val (.int (own_r nn d0 d1 d2 c0 c1 c2))] []))
        simpa only [if_neg hc351_39] using hj351_39
    refine Go.st (fun U hr => XS.iconst X30.here hx rfl (hb hby at_365) hr) ?_
    show Go p.tables e below _ (T30.setTop (mkF m 366 #[.val (.int p1), .val (.long q2), .second, .val (.long q3), .second, .val (.long q4), .second, .val (.int nn), .val (.int c0), .val (.int c1), .val (.int c2), .val (.int d0), .val (.int d1), .val (.int d2), .val (.ref b7), .val (.ref b9), .val (.int m0), .val (.int m1), .val (.int m2), .val (.int B0), .val (.int B1), .val (.int B2), .val (.int K0), .val (.int B2), .val (.int (1 : Int32)), .val (.int (own_expect K0 m0 d0)), .val (.int (own_expect B2 m1 d1)), .val (.int (own_expect (1 : Int32) m2 d2)), .val (.int EX), .val (.int (own_r nn d0 d1 d2 c0 c1 c2))] [(.int (1 : Int32))]))
    exact own_retN X30 hx Bd.notSynchronized (t := .boolean) Bd.returns (by simp) (hb hby at_366) ⟨rfl, N30⟩ (by decide) (by decide)
  rcases hn with hn | hn | hn | hn
  · subst hn
    show Go p.tables e below _ (T9.setTop (mkF m 64 #[.val (.int p1), .val (.long q2), .second, .val (.long q3), .second, .val (.long q4), .second, .val (.int (0 : Int32)), .val (.int c0), .val (.int c1), .val (.int c2), .val (.int d0), .val (.int d1), .val (.int d2), .val (.ref b7), .val (.ref b9), .unset, .unset, .unset, .unset, .unset, .unset, .unset, .unset, .unset, .unset, .unset, .unset, .unset, .unset] []))
    refine Go.st (fun U hr => XS.iload X9.here hx rfl (hb hby at_64) rfl hr) ?_
    show Go p.tables e below _ (T9.setTop (mkF m 66 #[.val (.int p1), .val (.long q2), .second, .val (.long q3), .second, .val (.long q4), .second, .val (.int (0 : Int32)), .val (.int c0), .val (.int c1), .val (.int c2), .val (.int d0), .val (.int d1), .val (.int d2), .val (.ref b7), .val (.ref b9), .unset, .unset, .unset, .unset, .unset, .unset, .unset, .unset, .unset, .unset, .unset, .unset, .unset, .unset] [(.int (0 : Int32))]))
    refine Go.st (fun U hr => XS.ifYes X9.here hx rfl (pc0 := 66) (pc' := 81) rfl (hb hby at_66) rfl (by decide) (by decide) (by decide) hr) ?_
    show Go p.tables e below _ (T9.setTop (mkF m 81 #[.val (.int p1), .val (.long q2), .second, .val (.long q3), .second, .val (.long q4), .second, .val (.int (0 : Int32)), .val (.int c0), .val (.int c1), .val (.int c2), .val (.int d0), .val (.int d1), .val (.int d2), .val (.ref b7), .val (.ref b9), .unset, .unset, .unset, .unset, .unset, .unset, .unset, .unset, .unset, .unset, .unset, .unset, .unset, .unset] []))
    refine Go.st (fun U hr => XS.iload X9.here hx rfl (hb hby at_81) rfl hr) ?_
    show Go p.tables e below _ (T9.setTop (mkF m 83 #[.val (.int p1), .val (.long q2), .second, .val (.long q3), .second, .val (.long q4), .second, .val (.int (0 : Int32)), .val (.int c0), .val (.int c1), .val (.int c2), .val (.int d0), .val (.int d1), .val (.int d2), .val (.ref b7), .val (.ref b9), .unset, .unset, .unset, .unset, .unset, .unset, .unset, .unset, .unset, .unset, .unset, .unset, .unset, .unset] [(.int (0 : Int32))]))
    refine Go.st (fun U hr => XS.iconst X9.here hx rfl (hb hby at_83) hr) ?_
    show Go p.tables e below _ (T9.setTop (mkF m 84 #[.val (.int p1), .val (.long q2), .second, .val (.long q3), .second, .val (.long q4), .second, .val (.int (0 : Int32)), .val (.int c0), .val (.int c1), .val (.int c2), .val (.int d0), .val (.int d1), .val (.int d2), .val (.ref b7), .val (.ref b9), .unset, .unset, .unset, .unset, .unset, .unset, .unset, .unset, .unset, .unset, .unset, .unset, .unset, .unset] [(.int (1 : Int32)), (.int (0 : Int32))]))
    refine Go.st (fun U hr => XS.icmpYes X9.here hx rfl (pc0 := 84) (pc' := 99) rfl (hb hby at_84) rfl (by decide) (by decide) (by decide) hr) ?_
    show Go p.tables e below _ (T9.setTop (mkF m 99 #[.val (.int p1), .val (.long q2), .second, .val (.long q3), .second, .val (.long q4), .second, .val (.int (0 : Int32)), .val (.int c0), .val (.int c1), .val (.int c2), .val (.int d0), .val (.int d1), .val (.int d2), .val (.ref b7), .val (.ref b9), .unset, .unset, .unset, .unset, .unset, .unset, .unset, .unset, .unset, .unset, .unset, .unset, .unset, .unset] []))
    refine Go.st (fun U hr => XS.iload X9.here hx rfl (hb hby at_99) rfl hr) ?_
    show Go p.tables e below _ (T9.setTop (mkF m 101 #[.val (.int p1), .val (.long q2), .second, .val (.long q3), .second, .val (.long q4), .second, .val (.int (0 : Int32)), .val (.int c0), .val (.int c1), .val (.int c2), .val (.int d0), .val (.int d1), .val (.int d2), .val (.ref b7), .val (.ref b9), .unset, .unset, .unset, .unset, .unset, .unset, .unset, .unset, .unset, .unset, .unset, .unset, .unset, .unset] [(.int (0 : Int32))]))
    refine Go.st (fun U hr => XS.iconst X9.here hx rfl (hb hby at_101) hr) ?_
    show Go p.tables e below _ (T9.setTop (mkF m 102 #[.val (.int p1), .val (.long q2), .second, .val (.long q3), .second, .val (.long q4), .second, .val (.int (0 : Int32)), .val (.int c0), .val (.int c1), .val (.int c2), .val (.int d0), .val (.int d1), .val (.int d2), .val (.ref b7), .val (.ref b9), .unset, .unset, .unset, .unset, .unset, .unset, .unset, .unset, .unset, .unset, .unset, .unset, .unset, .unset] [(.int (2 : Int32)), (.int (0 : Int32))]))
    refine Go.st (fun U hr => XS.icmpYes X9.here hx rfl (pc0 := 102) (pc' := 117) rfl (hb hby at_102) rfl (by decide) (by decide) (by decide) hr) ?_
    show Go p.tables e below _ (T9.setTop (mkF m 117 #[.val (.int p1), .val (.long q2), .second, .val (.long q3), .second, .val (.long q4), .second, .val (.int (0 : Int32)), .val (.int c0), .val (.int c1), .val (.int c2), .val (.int d0), .val (.int d1), .val (.int d2), .val (.ref b7), .val (.ref b9), .unset, .unset, .unset, .unset, .unset, .unset, .unset, .unset, .unset, .unset, .unset, .unset, .unset, .unset] []))
    exact k117 _ _ _ X9 e9 N6 z12 (own_pad0 f11) (own_pad0 V9)
  · subst hn
    show Go p.tables e below _ (T9.setTop (mkF m 64 #[.val (.int p1), .val (.long q2), .second, .val (.long q3), .second, .val (.long q4), .second, .val (.int (1 : Int32)), .val (.int c0), .val (.int c1), .val (.int c2), .val (.int d0), .val (.int d1), .val (.int d2), .val (.ref b7), .val (.ref b9), .unset, .unset, .unset, .unset, .unset, .unset, .unset, .unset, .unset, .unset, .unset, .unset, .unset, .unset] []))
    refine Go.st (fun U hr => XS.iload X9.here hx rfl (hb hby at_64) rfl hr) ?_
    show Go p.tables e below _ (T9.setTop (mkF m 66 #[.val (.int p1), .val (.long q2), .second, .val (.long q3), .second, .val (.long q4), .second, .val (.int (1 : Int32)), .val (.int c0), .val (.int c1), .val (.int c2), .val (.int d0), .val (.int d1), .val (.int d2), .val (.ref b7), .val (.ref b9), .unset, .unset, .unset, .unset, .unset, .unset, .unset, .unset, .unset, .unset, .unset, .unset, .unset, .unset] [(.int (1 : Int32))]))
    refine Go.st (fun U hr => XS.ifNo X9.here hx rfl (hb hby at_66) rfl (by decide) hr) ?_
    show Go p.tables e below _ (T9.setTop (mkF m 69 #[.val (.int p1), .val (.long q2), .second, .val (.long q3), .second, .val (.long q4), .second, .val (.int (1 : Int32)), .val (.int c0), .val (.int c1), .val (.int c2), .val (.int d0), .val (.int d1), .val (.int d2), .val (.ref b7), .val (.ref b9), .unset, .unset, .unset, .unset, .unset, .unset, .unset, .unset, .unset, .unset, .unset, .unset, .unset, .unset] []))
    refine Go.st (fun U hr => XS.aload X9.here hx rfl (hb hby at_69) rfl rfl hr) ?_
    show Go p.tables e below _ (T9.setTop (mkF m 71 #[.val (.int p1), .val (.long q2), .second, .val (.long q3), .second, .val (.long q4), .second, .val (.int (1 : Int32)), .val (.int c0), .val (.int c1), .val (.int c2), .val (.int d0), .val (.int d1), .val (.int d2), .val (.ref b7), .val (.ref b9), .unset, .unset, .unset, .unset, .unset, .unset, .unset, .unset, .unset, .unset, .unset, .unset, .unset, .unset] [(.ref b7)]))
    refine Go.st (fun U hr => XS.iconst X9.here hx rfl (hb hby at_71) hr) ?_
    show Go p.tables e below _ (T9.setTop (mkF m 72 #[.val (.int p1), .val (.long q2), .second, .val (.long q3), .second, .val (.long q4), .second, .val (.int (1 : Int32)), .val (.int c0), .val (.int c1), .val (.int c2), .val (.int d0), .val (.int d1), .val (.int d2), .val (.ref b7), .val (.ref b9), .unset, .unset, .unset, .unset, .unset, .unset, .unset, .unset, .unset, .unset, .unset, .unset, .unset, .unset] [(.int (0 : Int32)), (.ref b7)]))
    refine Go.st (fun U hr => XS.iload X9.here hx rfl (hb hby at_72) rfl hr) ?_
    show Go p.tables e below _ (T9.setTop (mkF m 74 #[.val (.int p1), .val (.long q2), .second, .val (.long q3), .second, .val (.long q4), .second, .val (.int (1 : Int32)), .val (.int c0), .val (.int c1), .val (.int c2), .val (.int d0), .val (.int d1), .val (.int d2), .val (.ref b7), .val (.ref b9), .unset, .unset, .unset, .unset, .unset, .unset, .unset, .unset, .unset, .unset, .unset, .unset, .unset, .unset] [(.int c0), (.int (0 : Int32)), (.ref b7)]))
    obtain ⟨cl42, Ar42, qa42, Sa42, Na42, Ha42, Ga42⟩ := id f11
    have hin42 : ¬ ((0 : Int32) < 0 ∨ cl42.slots.size ≤ ((0 : Int32)).toNatClampNeg) := inb_of Sa42 ⟨by decide, by decide⟩
    obtain ⟨T43, h43, X43, e43, W43, st43⟩ := stI X9 hx hZ e9 Ar42 (j := (0 : Int32)) hin42 (g := (mkF m 74 #[.val (.int p1), .val (.long q2), .second, .val (.long q3), .second, .val (.long q4), .second, .val (.int (1 : Int32)), .val (.int c0), .val (.int c1), .val (.int c2), .val (.int d0), .val (.int d1), .val (.int d2), .val (.ref b7), .val (.ref b9), .unset, .unset, .unset, .unset, .unset, .unset, .unset, .unset, .unset, .unset, .unset, .unset, .unset, .unset] [(.int c0), (.int (0 : Int32)), (.ref b7)])) rfl rfl (hb hby at_74)
    refine Go.st st43 ?_
    have V43 := Arv.set Ar42 qa42 Sa42 Na42 Ha42 Ga42 rfl W43 0 rfl (Nat.le_of_ble_eq_true rfl)
    have f45 := (V9).other W43 (Ne.symm n10)
    have z46 := Nat.le_trans z12 (Keep.of_wr W43).1
    have N43 := Fr.snoc X43 N6 gb7
    show Go p.tables e below _ (T43.setTop (mkF m 75 #[.val (.int p1), .val (.long q2), .second, .val (.long q3), .second, .val (.long q4), .second, .val (.int (1 : Int32)), .val (.int c0), .val (.int c1), .val (.int c2), .val (.int d0), .val (.int d1), .val (.int d2), .val (.ref b7), .val (.ref b9), .unset, .unset, .unset, .unset, .unset, .unset, .unset, .unset, .unset, .unset, .unset, .unset, .unset, .unset] []))
    refine Go.st (fun U hr => XS.aload X43.here hx rfl (hb hby at_75) rfl rfl hr) ?_
    show Go p.tables e below _ (T43.setTop (mkF m 77 #[.val (.int p1), .val (.long q2), .second, .val (.long q3), .second, .val (.long q4), .second, .val (.int (1 : Int32)), .val (.int c0), .val (.int c1), .val (.int c2), .val (.int d0), .val (.int d1), .val (.int d2), .val (.ref b7), .val (.ref b9), .unset, .unset, .unset, .unset, .unset, .unset, .unset, .unset, .unset, .unset, .unset, .unset, .unset, .unset] [(.ref b9)]))
    refine Go.st (fun U hr => XS.iconst X43.here hx rfl (hb hby at_77) hr) ?_
    show Go p.tables e below _ (T43.setTop (mkF m 78 #[.val (.int p1), .val (.long q2), .second, .val (.long q3), .second, .val (.long q4), .second, .val (.int (1 : Int32)), .val (.int c0), .val (.int c1), .val (.int c2), .val (.int d0), .val (.int d1), .val (.int d2), .val (.ref b7), .val (.ref b9), .unset, .unset, .unset, .unset, .unset, .unset, .unset, .unset, .unset, .unset, .unset, .unset, .unset, .unset] [(.int (0 : Int32)), (.ref b9)]))
    refine Go.st (fun U hr => XS.iload X43.here hx rfl (hb hby at_78) rfl hr) ?_
    show Go p.tables e below _ (T43.setTop (mkF m 80 #[.val (.int p1), .val (.long q2), .second, .val (.long q3), .second, .val (.long q4), .second, .val (.int (1 : Int32)), .val (.int c0), .val (.int c1), .val (.int c2), .val (.int d0), .val (.int d1), .val (.int d2), .val (.ref b7), .val (.ref b9), .unset, .unset, .unset, .unset, .unset, .unset, .unset, .unset, .unset, .unset, .unset, .unset, .unset, .unset] [(.int d0), (.int (0 : Int32)), (.ref b9)]))
    obtain ⟨cl47, Ar47, qa47, Sa47, Na47, Ha47, Ga47⟩ := id f45
    have hin47 : ¬ ((0 : Int32) < 0 ∨ cl47.slots.size ≤ ((0 : Int32)).toNatClampNeg) := inb_of Sa47 ⟨by decide, by decide⟩
    obtain ⟨T48, h48, X48, e48, W48, st48⟩ := stI X43 hx hZ e43 Ar47 (j := (0 : Int32)) hin47 (g := (mkF m 80 #[.val (.int p1), .val (.long q2), .second, .val (.long q3), .second, .val (.long q4), .second, .val (.int (1 : Int32)), .val (.int c0), .val (.int c1), .val (.int c2), .val (.int d0), .val (.int d1), .val (.int d2), .val (.ref b7), .val (.ref b9), .unset, .unset, .unset, .unset, .unset, .unset, .unset, .unset, .unset, .unset, .unset, .unset, .unset, .unset] [(.int d0), (.int (0 : Int32)), (.ref b9)])) rfl rfl (hb hby at_80)
    refine Go.st st48 ?_
    have V48 := Arv.set Ar47 qa47 Sa47 Na47 Ha47 Ga47 rfl W48 0 rfl (Nat.le_of_ble_eq_true rfl)
    have f50 := (V43).other W48 n10
    have z51 := Nat.le_trans z46 (Keep.of_wr W48).1
    have N48 := Fr.snoc X48 N43 gb9
    show Go p.tables e below _ (T48.setTop (mkF m 81 #[.val (.int p1), .val (.long q2), .second, .val (.long q3), .second, .val (.long q4), .second, .val (.int (1 : Int32)), .val (.int c0), .val (.int c1), .val (.int c2), .val (.int d0), .val (.int d1), .val (.int d2), .val (.ref b7), .val (.ref b9), .unset, .unset, .unset, .unset, .unset, .unset, .unset, .unset, .unset, .unset, .unset, .unset, .unset, .unset] []))
    refine Go.st (fun U hr => XS.iload X48.here hx rfl (hb hby at_81) rfl hr) ?_
    show Go p.tables e below _ (T48.setTop (mkF m 83 #[.val (.int p1), .val (.long q2), .second, .val (.long q3), .second, .val (.long q4), .second, .val (.int (1 : Int32)), .val (.int c0), .val (.int c1), .val (.int c2), .val (.int d0), .val (.int d1), .val (.int d2), .val (.ref b7), .val (.ref b9), .unset, .unset, .unset, .unset, .unset, .unset, .unset, .unset, .unset, .unset, .unset, .unset, .unset, .unset] [(.int (1 : Int32))]))
    refine Go.st (fun U hr => XS.iconst X48.here hx rfl (hb hby at_83) hr) ?_
    show Go p.tables e below _ (T48.setTop (mkF m 84 #[.val (.int p1), .val (.long q2), .second, .val (.long q3), .second, .val (.long q4), .second, .val (.int (1 : Int32)), .val (.int c0), .val (.int c1), .val (.int c2), .val (.int d0), .val (.int d1), .val (.int d2), .val (.ref b7), .val (.ref b9), .unset, .unset, .unset, .unset, .unset, .unset, .unset, .unset, .unset, .unset, .unset, .unset, .unset, .unset] [(.int (1 : Int32)), (.int (1 : Int32))]))
    refine Go.st (fun U hr => XS.icmpYes X48.here hx rfl (pc0 := 84) (pc' := 99) rfl (hb hby at_84) rfl (by decide) (by decide) (by decide) hr) ?_
    show Go p.tables e below _ (T48.setTop (mkF m 99 #[.val (.int p1), .val (.long q2), .second, .val (.long q3), .second, .val (.long q4), .second, .val (.int (1 : Int32)), .val (.int c0), .val (.int c1), .val (.int c2), .val (.int d0), .val (.int d1), .val (.int d2), .val (.ref b7), .val (.ref b9), .unset, .unset, .unset, .unset, .unset, .unset, .unset, .unset, .unset, .unset, .unset, .unset, .unset, .unset] []))
    refine Go.st (fun U hr => XS.iload X48.here hx rfl (hb hby at_99) rfl hr) ?_
    show Go p.tables e below _ (T48.setTop (mkF m 101 #[.val (.int p1), .val (.long q2), .second, .val (.long q3), .second, .val (.long q4), .second, .val (.int (1 : Int32)), .val (.int c0), .val (.int c1), .val (.int c2), .val (.int d0), .val (.int d1), .val (.int d2), .val (.ref b7), .val (.ref b9), .unset, .unset, .unset, .unset, .unset, .unset, .unset, .unset, .unset, .unset, .unset, .unset, .unset, .unset] [(.int (1 : Int32))]))
    refine Go.st (fun U hr => XS.iconst X48.here hx rfl (hb hby at_101) hr) ?_
    show Go p.tables e below _ (T48.setTop (mkF m 102 #[.val (.int p1), .val (.long q2), .second, .val (.long q3), .second, .val (.long q4), .second, .val (.int (1 : Int32)), .val (.int c0), .val (.int c1), .val (.int c2), .val (.int d0), .val (.int d1), .val (.int d2), .val (.ref b7), .val (.ref b9), .unset, .unset, .unset, .unset, .unset, .unset, .unset, .unset, .unset, .unset, .unset, .unset, .unset, .unset] [(.int (2 : Int32)), (.int (1 : Int32))]))
    refine Go.st (fun U hr => XS.icmpYes X48.here hx rfl (pc0 := 102) (pc' := 117) rfl (hb hby at_102) rfl (by decide) (by decide) (by decide) hr) ?_
    show Go p.tables e below _ (T48.setTop (mkF m 117 #[.val (.int p1), .val (.long q2), .second, .val (.long q3), .second, .val (.long q4), .second, .val (.int (1 : Int32)), .val (.int c0), .val (.int c1), .val (.int c2), .val (.int d0), .val (.int d1), .val (.int d2), .val (.ref b7), .val (.ref b9), .unset, .unset, .unset, .unset, .unset, .unset, .unset, .unset, .unset, .unset, .unset, .unset, .unset, .unset] []))
    exact k117 _ _ _ X48 e48 N48 z51 (own_pad1 f50) (own_pad1 V48)
  · subst hn
    show Go p.tables e below _ (T9.setTop (mkF m 64 #[.val (.int p1), .val (.long q2), .second, .val (.long q3), .second, .val (.long q4), .second, .val (.int (2 : Int32)), .val (.int c0), .val (.int c1), .val (.int c2), .val (.int d0), .val (.int d1), .val (.int d2), .val (.ref b7), .val (.ref b9), .unset, .unset, .unset, .unset, .unset, .unset, .unset, .unset, .unset, .unset, .unset, .unset, .unset, .unset] []))
    refine Go.st (fun U hr => XS.iload X9.here hx rfl (hb hby at_64) rfl hr) ?_
    show Go p.tables e below _ (T9.setTop (mkF m 66 #[.val (.int p1), .val (.long q2), .second, .val (.long q3), .second, .val (.long q4), .second, .val (.int (2 : Int32)), .val (.int c0), .val (.int c1), .val (.int c2), .val (.int d0), .val (.int d1), .val (.int d2), .val (.ref b7), .val (.ref b9), .unset, .unset, .unset, .unset, .unset, .unset, .unset, .unset, .unset, .unset, .unset, .unset, .unset, .unset] [(.int (2 : Int32))]))
    refine Go.st (fun U hr => XS.ifNo X9.here hx rfl (hb hby at_66) rfl (by decide) hr) ?_
    show Go p.tables e below _ (T9.setTop (mkF m 69 #[.val (.int p1), .val (.long q2), .second, .val (.long q3), .second, .val (.long q4), .second, .val (.int (2 : Int32)), .val (.int c0), .val (.int c1), .val (.int c2), .val (.int d0), .val (.int d1), .val (.int d2), .val (.ref b7), .val (.ref b9), .unset, .unset, .unset, .unset, .unset, .unset, .unset, .unset, .unset, .unset, .unset, .unset, .unset, .unset] []))
    refine Go.st (fun U hr => XS.aload X9.here hx rfl (hb hby at_69) rfl rfl hr) ?_
    show Go p.tables e below _ (T9.setTop (mkF m 71 #[.val (.int p1), .val (.long q2), .second, .val (.long q3), .second, .val (.long q4), .second, .val (.int (2 : Int32)), .val (.int c0), .val (.int c1), .val (.int c2), .val (.int d0), .val (.int d1), .val (.int d2), .val (.ref b7), .val (.ref b9), .unset, .unset, .unset, .unset, .unset, .unset, .unset, .unset, .unset, .unset, .unset, .unset, .unset, .unset] [(.ref b7)]))
    refine Go.st (fun U hr => XS.iconst X9.here hx rfl (hb hby at_71) hr) ?_
    show Go p.tables e below _ (T9.setTop (mkF m 72 #[.val (.int p1), .val (.long q2), .second, .val (.long q3), .second, .val (.long q4), .second, .val (.int (2 : Int32)), .val (.int c0), .val (.int c1), .val (.int c2), .val (.int d0), .val (.int d1), .val (.int d2), .val (.ref b7), .val (.ref b9), .unset, .unset, .unset, .unset, .unset, .unset, .unset, .unset, .unset, .unset, .unset, .unset, .unset, .unset] [(.int (0 : Int32)), (.ref b7)]))
    refine Go.st (fun U hr => XS.iload X9.here hx rfl (hb hby at_72) rfl hr) ?_
    show Go p.tables e below _ (T9.setTop (mkF m 74 #[.val (.int p1), .val (.long q2), .second, .val (.long q3), .second, .val (.long q4), .second, .val (.int (2 : Int32)), .val (.int c0), .val (.int c1), .val (.int c2), .val (.int d0), .val (.int d1), .val (.int d2), .val (.ref b7), .val (.ref b9), .unset, .unset, .unset, .unset, .unset, .unset, .unset, .unset, .unset, .unset, .unset, .unset, .unset, .unset] [(.int c0), (.int (0 : Int32)), (.ref b7)]))
    obtain ⟨cl52, Ar52, qa52, Sa52, Na52, Ha52, Ga52⟩ := id f11
    have hin52 : ¬ ((0 : Int32) < 0 ∨ cl52.slots.size ≤ ((0 : Int32)).toNatClampNeg) := inb_of Sa52 ⟨by decide, by decide⟩
    obtain ⟨T53, h53, X53, e53, W53, st53⟩ := stI X9 hx hZ e9 Ar52 (j := (0 : Int32)) hin52 (g := (mkF m 74 #[.val (.int p1), .val (.long q2), .second, .val (.long q3), .second, .val (.long q4), .second, .val (.int (2 : Int32)), .val (.int c0), .val (.int c1), .val (.int c2), .val (.int d0), .val (.int d1), .val (.int d2), .val (.ref b7), .val (.ref b9), .unset, .unset, .unset, .unset, .unset, .unset, .unset, .unset, .unset, .unset, .unset, .unset, .unset, .unset] [(.int c0), (.int (0 : Int32)), (.ref b7)])) rfl rfl (hb hby at_74)
    refine Go.st st53 ?_
    have V53 := Arv.set Ar52 qa52 Sa52 Na52 Ha52 Ga52 rfl W53 0 rfl (Nat.le_of_ble_eq_true rfl)
    have f55 := (V9).other W53 (Ne.symm n10)
    have z56 := Nat.le_trans z12 (Keep.of_wr W53).1
    have N53 := Fr.snoc X53 N6 gb7
    show Go p.tables e below _ (T53.setTop (mkF m 75 #[.val (.int p1), .val (.long q2), .second, .val (.long q3), .second, .val (.long q4), .second, .val (.int (2 : Int32)), .val (.int c0), .val (.int c1), .val (.int c2), .val (.int d0), .val (.int d1), .val (.int d2), .val (.ref b7), .val (.ref b9), .unset, .unset, .unset, .unset, .unset, .unset, .unset, .unset, .unset, .unset, .unset, .unset, .unset, .unset] []))
    refine Go.st (fun U hr => XS.aload X53.here hx rfl (hb hby at_75) rfl rfl hr) ?_
    show Go p.tables e below _ (T53.setTop (mkF m 77 #[.val (.int p1), .val (.long q2), .second, .val (.long q3), .second, .val (.long q4), .second, .val (.int (2 : Int32)), .val (.int c0), .val (.int c1), .val (.int c2), .val (.int d0), .val (.int d1), .val (.int d2), .val (.ref b7), .val (.ref b9), .unset, .unset, .unset, .unset, .unset, .unset, .unset, .unset, .unset, .unset, .unset, .unset, .unset, .unset] [(.ref b9)]))
    refine Go.st (fun U hr => XS.iconst X53.here hx rfl (hb hby at_77) hr) ?_
    show Go p.tables e below _ (T53.setTop (mkF m 78 #[.val (.int p1), .val (.long q2), .second, .val (.long q3), .second, .val (.long q4), .second, .val (.int (2 : Int32)), .val (.int c0), .val (.int c1), .val (.int c2), .val (.int d0), .val (.int d1), .val (.int d2), .val (.ref b7), .val (.ref b9), .unset, .unset, .unset, .unset, .unset, .unset, .unset, .unset, .unset, .unset, .unset, .unset, .unset, .unset] [(.int (0 : Int32)), (.ref b9)]))
    refine Go.st (fun U hr => XS.iload X53.here hx rfl (hb hby at_78) rfl hr) ?_
    show Go p.tables e below _ (T53.setTop (mkF m 80 #[.val (.int p1), .val (.long q2), .second, .val (.long q3), .second, .val (.long q4), .second, .val (.int (2 : Int32)), .val (.int c0), .val (.int c1), .val (.int c2), .val (.int d0), .val (.int d1), .val (.int d2), .val (.ref b7), .val (.ref b9), .unset, .unset, .unset, .unset, .unset, .unset, .unset, .unset, .unset, .unset, .unset, .unset, .unset, .unset] [(.int d0), (.int (0 : Int32)), (.ref b9)]))
    obtain ⟨cl57, Ar57, qa57, Sa57, Na57, Ha57, Ga57⟩ := id f55
    have hin57 : ¬ ((0 : Int32) < 0 ∨ cl57.slots.size ≤ ((0 : Int32)).toNatClampNeg) := inb_of Sa57 ⟨by decide, by decide⟩
    obtain ⟨T58, h58, X58, e58, W58, st58⟩ := stI X53 hx hZ e53 Ar57 (j := (0 : Int32)) hin57 (g := (mkF m 80 #[.val (.int p1), .val (.long q2), .second, .val (.long q3), .second, .val (.long q4), .second, .val (.int (2 : Int32)), .val (.int c0), .val (.int c1), .val (.int c2), .val (.int d0), .val (.int d1), .val (.int d2), .val (.ref b7), .val (.ref b9), .unset, .unset, .unset, .unset, .unset, .unset, .unset, .unset, .unset, .unset, .unset, .unset, .unset, .unset] [(.int d0), (.int (0 : Int32)), (.ref b9)])) rfl rfl (hb hby at_80)
    refine Go.st st58 ?_
    have V58 := Arv.set Ar57 qa57 Sa57 Na57 Ha57 Ga57 rfl W58 0 rfl (Nat.le_of_ble_eq_true rfl)
    have f60 := (V53).other W58 n10
    have z61 := Nat.le_trans z56 (Keep.of_wr W58).1
    have N58 := Fr.snoc X58 N53 gb9
    show Go p.tables e below _ (T58.setTop (mkF m 81 #[.val (.int p1), .val (.long q2), .second, .val (.long q3), .second, .val (.long q4), .second, .val (.int (2 : Int32)), .val (.int c0), .val (.int c1), .val (.int c2), .val (.int d0), .val (.int d1), .val (.int d2), .val (.ref b7), .val (.ref b9), .unset, .unset, .unset, .unset, .unset, .unset, .unset, .unset, .unset, .unset, .unset, .unset, .unset, .unset] []))
    refine Go.st (fun U hr => XS.iload X58.here hx rfl (hb hby at_81) rfl hr) ?_
    show Go p.tables e below _ (T58.setTop (mkF m 83 #[.val (.int p1), .val (.long q2), .second, .val (.long q3), .second, .val (.long q4), .second, .val (.int (2 : Int32)), .val (.int c0), .val (.int c1), .val (.int c2), .val (.int d0), .val (.int d1), .val (.int d2), .val (.ref b7), .val (.ref b9), .unset, .unset, .unset, .unset, .unset, .unset, .unset, .unset, .unset, .unset, .unset, .unset, .unset, .unset] [(.int (2 : Int32))]))
    refine Go.st (fun U hr => XS.iconst X58.here hx rfl (hb hby at_83) hr) ?_
    show Go p.tables e below _ (T58.setTop (mkF m 84 #[.val (.int p1), .val (.long q2), .second, .val (.long q3), .second, .val (.long q4), .second, .val (.int (2 : Int32)), .val (.int c0), .val (.int c1), .val (.int c2), .val (.int d0), .val (.int d1), .val (.int d2), .val (.ref b7), .val (.ref b9), .unset, .unset, .unset, .unset, .unset, .unset, .unset, .unset, .unset, .unset, .unset, .unset, .unset, .unset] [(.int (1 : Int32)), (.int (2 : Int32))]))
    refine Go.st (fun U hr => XS.icmpNo X58.here hx rfl (hb hby at_84) rfl (by decide) hr) ?_
    show Go p.tables e below _ (T58.setTop (mkF m 87 #[.val (.int p1), .val (.long q2), .second, .val (.long q3), .second, .val (.long q4), .second, .val (.int (2 : Int32)), .val (.int c0), .val (.int c1), .val (.int c2), .val (.int d0), .val (.int d1), .val (.int d2), .val (.ref b7), .val (.ref b9), .unset, .unset, .unset, .unset, .unset, .unset, .unset, .unset, .unset, .unset, .unset, .unset, .unset, .unset] []))
    refine Go.st (fun U hr => XS.aload X58.here hx rfl (hb hby at_87) rfl rfl hr) ?_
    show Go p.tables e below _ (T58.setTop (mkF m 89 #[.val (.int p1), .val (.long q2), .second, .val (.long q3), .second, .val (.long q4), .second, .val (.int (2 : Int32)), .val (.int c0), .val (.int c1), .val (.int c2), .val (.int d0), .val (.int d1), .val (.int d2), .val (.ref b7), .val (.ref b9), .unset, .unset, .unset, .unset, .unset, .unset, .unset, .unset, .unset, .unset, .unset, .unset, .unset, .unset] [(.ref b7)]))
    refine Go.st (fun U hr => XS.iconst X58.here hx rfl (hb hby at_89) hr) ?_
    show Go p.tables e below _ (T58.setTop (mkF m 90 #[.val (.int p1), .val (.long q2), .second, .val (.long q3), .second, .val (.long q4), .second, .val (.int (2 : Int32)), .val (.int c0), .val (.int c1), .val (.int c2), .val (.int d0), .val (.int d1), .val (.int d2), .val (.ref b7), .val (.ref b9), .unset, .unset, .unset, .unset, .unset, .unset, .unset, .unset, .unset, .unset, .unset, .unset, .unset, .unset] [(.int (1 : Int32)), (.ref b7)]))
    refine Go.st (fun U hr => XS.iload X58.here hx rfl (hb hby at_90) rfl hr) ?_
    show Go p.tables e below _ (T58.setTop (mkF m 92 #[.val (.int p1), .val (.long q2), .second, .val (.long q3), .second, .val (.long q4), .second, .val (.int (2 : Int32)), .val (.int c0), .val (.int c1), .val (.int c2), .val (.int d0), .val (.int d1), .val (.int d2), .val (.ref b7), .val (.ref b9), .unset, .unset, .unset, .unset, .unset, .unset, .unset, .unset, .unset, .unset, .unset, .unset, .unset, .unset] [(.int c1), (.int (1 : Int32)), (.ref b7)]))
    obtain ⟨cl62, Ar62, qa62, Sa62, Na62, Ha62, Ga62⟩ := id f60
    have hin62 : ¬ ((1 : Int32) < 0 ∨ cl62.slots.size ≤ ((1 : Int32)).toNatClampNeg) := inb_of Sa62 ⟨by decide, by decide⟩
    obtain ⟨T63, h63, X63, e63, W63, st63⟩ := stI X58 hx hZ e58 Ar62 (j := (1 : Int32)) hin62 (g := (mkF m 92 #[.val (.int p1), .val (.long q2), .second, .val (.long q3), .second, .val (.long q4), .second, .val (.int (2 : Int32)), .val (.int c0), .val (.int c1), .val (.int c2), .val (.int d0), .val (.int d1), .val (.int d2), .val (.ref b7), .val (.ref b9), .unset, .unset, .unset, .unset, .unset, .unset, .unset, .unset, .unset, .unset, .unset, .unset, .unset, .unset] [(.int c1), (.int (1 : Int32)), (.ref b7)])) rfl rfl (hb hby at_92)
    refine Go.st st63 ?_
    have V63 := Arv.set Ar62 qa62 Sa62 Na62 Ha62 Ga62 rfl W63 1 rfl (Nat.le_of_ble_eq_true rfl)
    have f65 := (V58).other W63 (Ne.symm n10)
    have z66 := Nat.le_trans z61 (Keep.of_wr W63).1
    have N63 := Fr.snoc X63 N58 gb7
    show Go p.tables e below _ (T63.setTop (mkF m 93 #[.val (.int p1), .val (.long q2), .second, .val (.long q3), .second, .val (.long q4), .second, .val (.int (2 : Int32)), .val (.int c0), .val (.int c1), .val (.int c2), .val (.int d0), .val (.int d1), .val (.int d2), .val (.ref b7), .val (.ref b9), .unset, .unset, .unset, .unset, .unset, .unset, .unset, .unset, .unset, .unset, .unset, .unset, .unset, .unset] []))
    refine Go.st (fun U hr => XS.aload X63.here hx rfl (hb hby at_93) rfl rfl hr) ?_
    show Go p.tables e below _ (T63.setTop (mkF m 95 #[.val (.int p1), .val (.long q2), .second, .val (.long q3), .second, .val (.long q4), .second, .val (.int (2 : Int32)), .val (.int c0), .val (.int c1), .val (.int c2), .val (.int d0), .val (.int d1), .val (.int d2), .val (.ref b7), .val (.ref b9), .unset, .unset, .unset, .unset, .unset, .unset, .unset, .unset, .unset, .unset, .unset, .unset, .unset, .unset] [(.ref b9)]))
    refine Go.st (fun U hr => XS.iconst X63.here hx rfl (hb hby at_95) hr) ?_
    show Go p.tables e below _ (T63.setTop (mkF m 96 #[.val (.int p1), .val (.long q2), .second, .val (.long q3), .second, .val (.long q4), .second, .val (.int (2 : Int32)), .val (.int c0), .val (.int c1), .val (.int c2), .val (.int d0), .val (.int d1), .val (.int d2), .val (.ref b7), .val (.ref b9), .unset, .unset, .unset, .unset, .unset, .unset, .unset, .unset, .unset, .unset, .unset, .unset, .unset, .unset] [(.int (1 : Int32)), (.ref b9)]))
    refine Go.st (fun U hr => XS.iload X63.here hx rfl (hb hby at_96) rfl hr) ?_
    show Go p.tables e below _ (T63.setTop (mkF m 98 #[.val (.int p1), .val (.long q2), .second, .val (.long q3), .second, .val (.long q4), .second, .val (.int (2 : Int32)), .val (.int c0), .val (.int c1), .val (.int c2), .val (.int d0), .val (.int d1), .val (.int d2), .val (.ref b7), .val (.ref b9), .unset, .unset, .unset, .unset, .unset, .unset, .unset, .unset, .unset, .unset, .unset, .unset, .unset, .unset] [(.int d1), (.int (1 : Int32)), (.ref b9)]))
    obtain ⟨cl67, Ar67, qa67, Sa67, Na67, Ha67, Ga67⟩ := id f65
    have hin67 : ¬ ((1 : Int32) < 0 ∨ cl67.slots.size ≤ ((1 : Int32)).toNatClampNeg) := inb_of Sa67 ⟨by decide, by decide⟩
    obtain ⟨T68, h68, X68, e68, W68, st68⟩ := stI X63 hx hZ e63 Ar67 (j := (1 : Int32)) hin67 (g := (mkF m 98 #[.val (.int p1), .val (.long q2), .second, .val (.long q3), .second, .val (.long q4), .second, .val (.int (2 : Int32)), .val (.int c0), .val (.int c1), .val (.int c2), .val (.int d0), .val (.int d1), .val (.int d2), .val (.ref b7), .val (.ref b9), .unset, .unset, .unset, .unset, .unset, .unset, .unset, .unset, .unset, .unset, .unset, .unset, .unset, .unset] [(.int d1), (.int (1 : Int32)), (.ref b9)])) rfl rfl (hb hby at_98)
    refine Go.st st68 ?_
    have V68 := Arv.set Ar67 qa67 Sa67 Na67 Ha67 Ga67 rfl W68 1 rfl (Nat.le_of_ble_eq_true rfl)
    have f70 := (V63).other W68 n10
    have z71 := Nat.le_trans z66 (Keep.of_wr W68).1
    have N68 := Fr.snoc X68 N63 gb9
    show Go p.tables e below _ (T68.setTop (mkF m 99 #[.val (.int p1), .val (.long q2), .second, .val (.long q3), .second, .val (.long q4), .second, .val (.int (2 : Int32)), .val (.int c0), .val (.int c1), .val (.int c2), .val (.int d0), .val (.int d1), .val (.int d2), .val (.ref b7), .val (.ref b9), .unset, .unset, .unset, .unset, .unset, .unset, .unset, .unset, .unset, .unset, .unset, .unset, .unset, .unset] []))
    refine Go.st (fun U hr => XS.iload X68.here hx rfl (hb hby at_99) rfl hr) ?_
    show Go p.tables e below _ (T68.setTop (mkF m 101 #[.val (.int p1), .val (.long q2), .second, .val (.long q3), .second, .val (.long q4), .second, .val (.int (2 : Int32)), .val (.int c0), .val (.int c1), .val (.int c2), .val (.int d0), .val (.int d1), .val (.int d2), .val (.ref b7), .val (.ref b9), .unset, .unset, .unset, .unset, .unset, .unset, .unset, .unset, .unset, .unset, .unset, .unset, .unset, .unset] [(.int (2 : Int32))]))
    refine Go.st (fun U hr => XS.iconst X68.here hx rfl (hb hby at_101) hr) ?_
    show Go p.tables e below _ (T68.setTop (mkF m 102 #[.val (.int p1), .val (.long q2), .second, .val (.long q3), .second, .val (.long q4), .second, .val (.int (2 : Int32)), .val (.int c0), .val (.int c1), .val (.int c2), .val (.int d0), .val (.int d1), .val (.int d2), .val (.ref b7), .val (.ref b9), .unset, .unset, .unset, .unset, .unset, .unset, .unset, .unset, .unset, .unset, .unset, .unset, .unset, .unset] [(.int (2 : Int32)), (.int (2 : Int32))]))
    refine Go.st (fun U hr => XS.icmpYes X68.here hx rfl (pc0 := 102) (pc' := 117) rfl (hb hby at_102) rfl (by decide) (by decide) (by decide) hr) ?_
    show Go p.tables e below _ (T68.setTop (mkF m 117 #[.val (.int p1), .val (.long q2), .second, .val (.long q3), .second, .val (.long q4), .second, .val (.int (2 : Int32)), .val (.int c0), .val (.int c1), .val (.int c2), .val (.int d0), .val (.int d1), .val (.int d2), .val (.ref b7), .val (.ref b9), .unset, .unset, .unset, .unset, .unset, .unset, .unset, .unset, .unset, .unset, .unset, .unset, .unset, .unset] []))
    exact k117 _ _ _ X68 e68 N68 z71 (own_pad2 f70) (own_pad2 V68)
  · subst hn
    show Go p.tables e below _ (T9.setTop (mkF m 64 #[.val (.int p1), .val (.long q2), .second, .val (.long q3), .second, .val (.long q4), .second, .val (.int (3 : Int32)), .val (.int c0), .val (.int c1), .val (.int c2), .val (.int d0), .val (.int d1), .val (.int d2), .val (.ref b7), .val (.ref b9), .unset, .unset, .unset, .unset, .unset, .unset, .unset, .unset, .unset, .unset, .unset, .unset, .unset, .unset] []))
    refine Go.st (fun U hr => XS.iload X9.here hx rfl (hb hby at_64) rfl hr) ?_
    show Go p.tables e below _ (T9.setTop (mkF m 66 #[.val (.int p1), .val (.long q2), .second, .val (.long q3), .second, .val (.long q4), .second, .val (.int (3 : Int32)), .val (.int c0), .val (.int c1), .val (.int c2), .val (.int d0), .val (.int d1), .val (.int d2), .val (.ref b7), .val (.ref b9), .unset, .unset, .unset, .unset, .unset, .unset, .unset, .unset, .unset, .unset, .unset, .unset, .unset, .unset] [(.int (3 : Int32))]))
    refine Go.st (fun U hr => XS.ifNo X9.here hx rfl (hb hby at_66) rfl (by decide) hr) ?_
    show Go p.tables e below _ (T9.setTop (mkF m 69 #[.val (.int p1), .val (.long q2), .second, .val (.long q3), .second, .val (.long q4), .second, .val (.int (3 : Int32)), .val (.int c0), .val (.int c1), .val (.int c2), .val (.int d0), .val (.int d1), .val (.int d2), .val (.ref b7), .val (.ref b9), .unset, .unset, .unset, .unset, .unset, .unset, .unset, .unset, .unset, .unset, .unset, .unset, .unset, .unset] []))
    refine Go.st (fun U hr => XS.aload X9.here hx rfl (hb hby at_69) rfl rfl hr) ?_
    show Go p.tables e below _ (T9.setTop (mkF m 71 #[.val (.int p1), .val (.long q2), .second, .val (.long q3), .second, .val (.long q4), .second, .val (.int (3 : Int32)), .val (.int c0), .val (.int c1), .val (.int c2), .val (.int d0), .val (.int d1), .val (.int d2), .val (.ref b7), .val (.ref b9), .unset, .unset, .unset, .unset, .unset, .unset, .unset, .unset, .unset, .unset, .unset, .unset, .unset, .unset] [(.ref b7)]))
    refine Go.st (fun U hr => XS.iconst X9.here hx rfl (hb hby at_71) hr) ?_
    show Go p.tables e below _ (T9.setTop (mkF m 72 #[.val (.int p1), .val (.long q2), .second, .val (.long q3), .second, .val (.long q4), .second, .val (.int (3 : Int32)), .val (.int c0), .val (.int c1), .val (.int c2), .val (.int d0), .val (.int d1), .val (.int d2), .val (.ref b7), .val (.ref b9), .unset, .unset, .unset, .unset, .unset, .unset, .unset, .unset, .unset, .unset, .unset, .unset, .unset, .unset] [(.int (0 : Int32)), (.ref b7)]))
    refine Go.st (fun U hr => XS.iload X9.here hx rfl (hb hby at_72) rfl hr) ?_
    show Go p.tables e below _ (T9.setTop (mkF m 74 #[.val (.int p1), .val (.long q2), .second, .val (.long q3), .second, .val (.long q4), .second, .val (.int (3 : Int32)), .val (.int c0), .val (.int c1), .val (.int c2), .val (.int d0), .val (.int d1), .val (.int d2), .val (.ref b7), .val (.ref b9), .unset, .unset, .unset, .unset, .unset, .unset, .unset, .unset, .unset, .unset, .unset, .unset, .unset, .unset] [(.int c0), (.int (0 : Int32)), (.ref b7)]))
    obtain ⟨cl72, Ar72, qa72, Sa72, Na72, Ha72, Ga72⟩ := id f11
    have hin72 : ¬ ((0 : Int32) < 0 ∨ cl72.slots.size ≤ ((0 : Int32)).toNatClampNeg) := inb_of Sa72 ⟨by decide, by decide⟩
    obtain ⟨T73, h73, X73, e73, W73, st73⟩ := stI X9 hx hZ e9 Ar72 (j := (0 : Int32)) hin72 (g := (mkF m 74 #[.val (.int p1), .val (.long q2), .second, .val (.long q3), .second, .val (.long q4), .second, .val (.int (3 : Int32)), .val (.int c0), .val (.int c1), .val (.int c2), .val (.int d0), .val (.int d1), .val (.int d2), .val (.ref b7), .val (.ref b9), .unset, .unset, .unset, .unset, .unset, .unset, .unset, .unset, .unset, .unset, .unset, .unset, .unset, .unset] [(.int c0), (.int (0 : Int32)), (.ref b7)])) rfl rfl (hb hby at_74)
    refine Go.st st73 ?_
    have V73 := Arv.set Ar72 qa72 Sa72 Na72 Ha72 Ga72 rfl W73 0 rfl (Nat.le_of_ble_eq_true rfl)
    have f75 := (V9).other W73 (Ne.symm n10)
    have z76 := Nat.le_trans z12 (Keep.of_wr W73).1
    have N73 := Fr.snoc X73 N6 gb7
    show Go p.tables e below _ (T73.setTop (mkF m 75 #[.val (.int p1), .val (.long q2), .second, .val (.long q3), .second, .val (.long q4), .second, .val (.int (3 : Int32)), .val (.int c0), .val (.int c1), .val (.int c2), .val (.int d0), .val (.int d1), .val (.int d2), .val (.ref b7), .val (.ref b9), .unset, .unset, .unset, .unset, .unset, .unset, .unset, .unset, .unset, .unset, .unset, .unset, .unset, .unset] []))
    refine Go.st (fun U hr => XS.aload X73.here hx rfl (hb hby at_75) rfl rfl hr) ?_
    show Go p.tables e below _ (T73.setTop (mkF m 77 #[.val (.int p1), .val (.long q2), .second, .val (.long q3), .second, .val (.long q4), .second, .val (.int (3 : Int32)), .val (.int c0), .val (.int c1), .val (.int c2), .val (.int d0), .val (.int d1), .val (.int d2), .val (.ref b7), .val (.ref b9), .unset, .unset, .unset, .unset, .unset, .unset, .unset, .unset, .unset, .unset, .unset, .unset, .unset, .unset] [(.ref b9)]))
    refine Go.st (fun U hr => XS.iconst X73.here hx rfl (hb hby at_77) hr) ?_
    show Go p.tables e below _ (T73.setTop (mkF m 78 #[.val (.int p1), .val (.long q2), .second, .val (.long q3), .second, .val (.long q4), .second, .val (.int (3 : Int32)), .val (.int c0), .val (.int c1), .val (.int c2), .val (.int d0), .val (.int d1), .val (.int d2), .val (.ref b7), .val (.ref b9), .unset, .unset, .unset, .unset, .unset, .unset, .unset, .unset, .unset, .unset, .unset, .unset, .unset, .unset] [(.int (0 : Int32)), (.ref b9)]))
    refine Go.st (fun U hr => XS.iload X73.here hx rfl (hb hby at_78) rfl hr) ?_
    show Go p.tables e below _ (T73.setTop (mkF m 80 #[.val (.int p1), .val (.long q2), .second, .val (.long q3), .second, .val (.long q4), .second, .val (.int (3 : Int32)), .val (.int c0), .val (.int c1), .val (.int c2), .val (.int d0), .val (.int d1), .val (.int d2), .val (.ref b7), .val (.ref b9), .unset, .unset, .unset, .unset, .unset, .unset, .unset, .unset, .unset, .unset, .unset, .unset, .unset, .unset] [(.int d0), (.int (0 : Int32)), (.ref b9)]))
    obtain ⟨cl77, Ar77, qa77, Sa77, Na77, Ha77, Ga77⟩ := id f75
    have hin77 : ¬ ((0 : Int32) < 0 ∨ cl77.slots.size ≤ ((0 : Int32)).toNatClampNeg) := inb_of Sa77 ⟨by decide, by decide⟩
    obtain ⟨T78, h78, X78, e78, W78, st78⟩ := stI X73 hx hZ e73 Ar77 (j := (0 : Int32)) hin77 (g := (mkF m 80 #[.val (.int p1), .val (.long q2), .second, .val (.long q3), .second, .val (.long q4), .second, .val (.int (3 : Int32)), .val (.int c0), .val (.int c1), .val (.int c2), .val (.int d0), .val (.int d1), .val (.int d2), .val (.ref b7), .val (.ref b9), .unset, .unset, .unset, .unset, .unset, .unset, .unset, .unset, .unset, .unset, .unset, .unset, .unset, .unset] [(.int d0), (.int (0 : Int32)), (.ref b9)])) rfl rfl (hb hby at_80)
    refine Go.st st78 ?_
    have V78 := Arv.set Ar77 qa77 Sa77 Na77 Ha77 Ga77 rfl W78 0 rfl (Nat.le_of_ble_eq_true rfl)
    have f80 := (V73).other W78 n10
    have z81 := Nat.le_trans z76 (Keep.of_wr W78).1
    have N78 := Fr.snoc X78 N73 gb9
    show Go p.tables e below _ (T78.setTop (mkF m 81 #[.val (.int p1), .val (.long q2), .second, .val (.long q3), .second, .val (.long q4), .second, .val (.int (3 : Int32)), .val (.int c0), .val (.int c1), .val (.int c2), .val (.int d0), .val (.int d1), .val (.int d2), .val (.ref b7), .val (.ref b9), .unset, .unset, .unset, .unset, .unset, .unset, .unset, .unset, .unset, .unset, .unset, .unset, .unset, .unset] []))
    refine Go.st (fun U hr => XS.iload X78.here hx rfl (hb hby at_81) rfl hr) ?_
    show Go p.tables e below _ (T78.setTop (mkF m 83 #[.val (.int p1), .val (.long q2), .second, .val (.long q3), .second, .val (.long q4), .second, .val (.int (3 : Int32)), .val (.int c0), .val (.int c1), .val (.int c2), .val (.int d0), .val (.int d1), .val (.int d2), .val (.ref b7), .val (.ref b9), .unset, .unset, .unset, .unset, .unset, .unset, .unset, .unset, .unset, .unset, .unset, .unset, .unset, .unset] [(.int (3 : Int32))]))
    refine Go.st (fun U hr => XS.iconst X78.here hx rfl (hb hby at_83) hr) ?_
    show Go p.tables e below _ (T78.setTop (mkF m 84 #[.val (.int p1), .val (.long q2), .second, .val (.long q3), .second, .val (.long q4), .second, .val (.int (3 : Int32)), .val (.int c0), .val (.int c1), .val (.int c2), .val (.int d0), .val (.int d1), .val (.int d2), .val (.ref b7), .val (.ref b9), .unset, .unset, .unset, .unset, .unset, .unset, .unset, .unset, .unset, .unset, .unset, .unset, .unset, .unset] [(.int (1 : Int32)), (.int (3 : Int32))]))
    refine Go.st (fun U hr => XS.icmpNo X78.here hx rfl (hb hby at_84) rfl (by decide) hr) ?_
    show Go p.tables e below _ (T78.setTop (mkF m 87 #[.val (.int p1), .val (.long q2), .second, .val (.long q3), .second, .val (.long q4), .second, .val (.int (3 : Int32)), .val (.int c0), .val (.int c1), .val (.int c2), .val (.int d0), .val (.int d1), .val (.int d2), .val (.ref b7), .val (.ref b9), .unset, .unset, .unset, .unset, .unset, .unset, .unset, .unset, .unset, .unset, .unset, .unset, .unset, .unset] []))
    refine Go.st (fun U hr => XS.aload X78.here hx rfl (hb hby at_87) rfl rfl hr) ?_
    show Go p.tables e below _ (T78.setTop (mkF m 89 #[.val (.int p1), .val (.long q2), .second, .val (.long q3), .second, .val (.long q4), .second, .val (.int (3 : Int32)), .val (.int c0), .val (.int c1), .val (.int c2), .val (.int d0), .val (.int d1), .val (.int d2), .val (.ref b7), .val (.ref b9), .unset, .unset, .unset, .unset, .unset, .unset, .unset, .unset, .unset, .unset, .unset, .unset, .unset, .unset] [(.ref b7)]))
    refine Go.st (fun U hr => XS.iconst X78.here hx rfl (hb hby at_89) hr) ?_
    show Go p.tables e below _ (T78.setTop (mkF m 90 #[.val (.int p1), .val (.long q2), .second, .val (.long q3), .second, .val (.long q4), .second, .val (.int (3 : Int32)), .val (.int c0), .val (.int c1), .val (.int c2), .val (.int d0), .val (.int d1), .val (.int d2), .val (.ref b7), .val (.ref b9), .unset, .unset, .unset, .unset, .unset, .unset, .unset, .unset, .unset, .unset, .unset, .unset, .unset, .unset] [(.int (1 : Int32)), (.ref b7)]))
    refine Go.st (fun U hr => XS.iload X78.here hx rfl (hb hby at_90) rfl hr) ?_
    show Go p.tables e below _ (T78.setTop (mkF m 92 #[.val (.int p1), .val (.long q2), .second, .val (.long q3), .second, .val (.long q4), .second, .val (.int (3 : Int32)), .val (.int c0), .val (.int c1), .val (.int c2), .val (.int d0), .val (.int d1), .val (.int d2), .val (.ref b7), .val (.ref b9), .unset, .unset, .unset, .unset, .unset, .unset, .unset, .unset, .unset, .unset, .unset, .unset, .unset, .unset] [(.int c1), (.int (1 : Int32)), (.ref b7)]))
    obtain ⟨cl82, Ar82, qa82, Sa82, Na82, Ha82, Ga82⟩ := id f80
    have hin82 : ¬ ((1 : Int32) < 0 ∨ cl82.slots.size ≤ ((1 : Int32)).toNatClampNeg) := inb_of Sa82 ⟨by decide, by decide⟩
    obtain ⟨T83, h83, X83, e83, W83, st83⟩ := stI X78 hx hZ e78 Ar82 (j := (1 : Int32)) hin82 (g := (mkF m 92 #[.val (.int p1), .val (.long q2), .second, .val (.long q3), .second, .val (.long q4), .second, .val (.int (3 : Int32)), .val (.int c0), .val (.int c1), .val (.int c2), .val (.int d0), .val (.int d1), .val (.int d2), .val (.ref b7), .val (.ref b9), .unset, .unset, .unset, .unset, .unset, .unset, .unset, .unset, .unset, .unset, .unset, .unset, .unset, .unset] [(.int c1), (.int (1 : Int32)), (.ref b7)])) rfl rfl (hb hby at_92)
    refine Go.st st83 ?_
    have V83 := Arv.set Ar82 qa82 Sa82 Na82 Ha82 Ga82 rfl W83 1 rfl (Nat.le_of_ble_eq_true rfl)
    have f85 := (V78).other W83 (Ne.symm n10)
    have z86 := Nat.le_trans z81 (Keep.of_wr W83).1
    have N83 := Fr.snoc X83 N78 gb7
    show Go p.tables e below _ (T83.setTop (mkF m 93 #[.val (.int p1), .val (.long q2), .second, .val (.long q3), .second, .val (.long q4), .second, .val (.int (3 : Int32)), .val (.int c0), .val (.int c1), .val (.int c2), .val (.int d0), .val (.int d1), .val (.int d2), .val (.ref b7), .val (.ref b9), .unset, .unset, .unset, .unset, .unset, .unset, .unset, .unset, .unset, .unset, .unset, .unset, .unset, .unset] []))
    refine Go.st (fun U hr => XS.aload X83.here hx rfl (hb hby at_93) rfl rfl hr) ?_
    show Go p.tables e below _ (T83.setTop (mkF m 95 #[.val (.int p1), .val (.long q2), .second, .val (.long q3), .second, .val (.long q4), .second, .val (.int (3 : Int32)), .val (.int c0), .val (.int c1), .val (.int c2), .val (.int d0), .val (.int d1), .val (.int d2), .val (.ref b7), .val (.ref b9), .unset, .unset, .unset, .unset, .unset, .unset, .unset, .unset, .unset, .unset, .unset, .unset, .unset, .unset] [(.ref b9)]))
    refine Go.st (fun U hr => XS.iconst X83.here hx rfl (hb hby at_95) hr) ?_
    show Go p.tables e below _ (T83.setTop (mkF m 96 #[.val (.int p1), .val (.long q2), .second, .val (.long q3), .second, .val (.long q4), .second, .val (.int (3 : Int32)), .val (.int c0), .val (.int c1), .val (.int c2), .val (.int d0), .val (.int d1), .val (.int d2), .val (.ref b7), .val (.ref b9), .unset, .unset, .unset, .unset, .unset, .unset, .unset, .unset, .unset, .unset, .unset, .unset, .unset, .unset] [(.int (1 : Int32)), (.ref b9)]))
    refine Go.st (fun U hr => XS.iload X83.here hx rfl (hb hby at_96) rfl hr) ?_
    show Go p.tables e below _ (T83.setTop (mkF m 98 #[.val (.int p1), .val (.long q2), .second, .val (.long q3), .second, .val (.long q4), .second, .val (.int (3 : Int32)), .val (.int c0), .val (.int c1), .val (.int c2), .val (.int d0), .val (.int d1), .val (.int d2), .val (.ref b7), .val (.ref b9), .unset, .unset, .unset, .unset, .unset, .unset, .unset, .unset, .unset, .unset, .unset, .unset, .unset, .unset] [(.int d1), (.int (1 : Int32)), (.ref b9)]))
    obtain ⟨cl87, Ar87, qa87, Sa87, Na87, Ha87, Ga87⟩ := id f85
    have hin87 : ¬ ((1 : Int32) < 0 ∨ cl87.slots.size ≤ ((1 : Int32)).toNatClampNeg) := inb_of Sa87 ⟨by decide, by decide⟩
    obtain ⟨T88, h88, X88, e88, W88, st88⟩ := stI X83 hx hZ e83 Ar87 (j := (1 : Int32)) hin87 (g := (mkF m 98 #[.val (.int p1), .val (.long q2), .second, .val (.long q3), .second, .val (.long q4), .second, .val (.int (3 : Int32)), .val (.int c0), .val (.int c1), .val (.int c2), .val (.int d0), .val (.int d1), .val (.int d2), .val (.ref b7), .val (.ref b9), .unset, .unset, .unset, .unset, .unset, .unset, .unset, .unset, .unset, .unset, .unset, .unset, .unset, .unset] [(.int d1), (.int (1 : Int32)), (.ref b9)])) rfl rfl (hb hby at_98)
    refine Go.st st88 ?_
    have V88 := Arv.set Ar87 qa87 Sa87 Na87 Ha87 Ga87 rfl W88 1 rfl (Nat.le_of_ble_eq_true rfl)
    have f90 := (V83).other W88 n10
    have z91 := Nat.le_trans z86 (Keep.of_wr W88).1
    have N88 := Fr.snoc X88 N83 gb9
    show Go p.tables e below _ (T88.setTop (mkF m 99 #[.val (.int p1), .val (.long q2), .second, .val (.long q3), .second, .val (.long q4), .second, .val (.int (3 : Int32)), .val (.int c0), .val (.int c1), .val (.int c2), .val (.int d0), .val (.int d1), .val (.int d2), .val (.ref b7), .val (.ref b9), .unset, .unset, .unset, .unset, .unset, .unset, .unset, .unset, .unset, .unset, .unset, .unset, .unset, .unset] []))
    refine Go.st (fun U hr => XS.iload X88.here hx rfl (hb hby at_99) rfl hr) ?_
    show Go p.tables e below _ (T88.setTop (mkF m 101 #[.val (.int p1), .val (.long q2), .second, .val (.long q3), .second, .val (.long q4), .second, .val (.int (3 : Int32)), .val (.int c0), .val (.int c1), .val (.int c2), .val (.int d0), .val (.int d1), .val (.int d2), .val (.ref b7), .val (.ref b9), .unset, .unset, .unset, .unset, .unset, .unset, .unset, .unset, .unset, .unset, .unset, .unset, .unset, .unset] [(.int (3 : Int32))]))
    refine Go.st (fun U hr => XS.iconst X88.here hx rfl (hb hby at_101) hr) ?_
    show Go p.tables e below _ (T88.setTop (mkF m 102 #[.val (.int p1), .val (.long q2), .second, .val (.long q3), .second, .val (.long q4), .second, .val (.int (3 : Int32)), .val (.int c0), .val (.int c1), .val (.int c2), .val (.int d0), .val (.int d1), .val (.int d2), .val (.ref b7), .val (.ref b9), .unset, .unset, .unset, .unset, .unset, .unset, .unset, .unset, .unset, .unset, .unset, .unset, .unset, .unset] [(.int (2 : Int32)), (.int (3 : Int32))]))
    refine Go.st (fun U hr => XS.icmpNo X88.here hx rfl (hb hby at_102) rfl (by decide) hr) ?_
    show Go p.tables e below _ (T88.setTop (mkF m 105 #[.val (.int p1), .val (.long q2), .second, .val (.long q3), .second, .val (.long q4), .second, .val (.int (3 : Int32)), .val (.int c0), .val (.int c1), .val (.int c2), .val (.int d0), .val (.int d1), .val (.int d2), .val (.ref b7), .val (.ref b9), .unset, .unset, .unset, .unset, .unset, .unset, .unset, .unset, .unset, .unset, .unset, .unset, .unset, .unset] []))
    refine Go.st (fun U hr => XS.aload X88.here hx rfl (hb hby at_105) rfl rfl hr) ?_
    show Go p.tables e below _ (T88.setTop (mkF m 107 #[.val (.int p1), .val (.long q2), .second, .val (.long q3), .second, .val (.long q4), .second, .val (.int (3 : Int32)), .val (.int c0), .val (.int c1), .val (.int c2), .val (.int d0), .val (.int d1), .val (.int d2), .val (.ref b7), .val (.ref b9), .unset, .unset, .unset, .unset, .unset, .unset, .unset, .unset, .unset, .unset, .unset, .unset, .unset, .unset] [(.ref b7)]))
    refine Go.st (fun U hr => XS.iconst X88.here hx rfl (hb hby at_107) hr) ?_
    show Go p.tables e below _ (T88.setTop (mkF m 108 #[.val (.int p1), .val (.long q2), .second, .val (.long q3), .second, .val (.long q4), .second, .val (.int (3 : Int32)), .val (.int c0), .val (.int c1), .val (.int c2), .val (.int d0), .val (.int d1), .val (.int d2), .val (.ref b7), .val (.ref b9), .unset, .unset, .unset, .unset, .unset, .unset, .unset, .unset, .unset, .unset, .unset, .unset, .unset, .unset] [(.int (2 : Int32)), (.ref b7)]))
    refine Go.st (fun U hr => XS.iload X88.here hx rfl (hb hby at_108) rfl hr) ?_
    show Go p.tables e below _ (T88.setTop (mkF m 110 #[.val (.int p1), .val (.long q2), .second, .val (.long q3), .second, .val (.long q4), .second, .val (.int (3 : Int32)), .val (.int c0), .val (.int c1), .val (.int c2), .val (.int d0), .val (.int d1), .val (.int d2), .val (.ref b7), .val (.ref b9), .unset, .unset, .unset, .unset, .unset, .unset, .unset, .unset, .unset, .unset, .unset, .unset, .unset, .unset] [(.int c2), (.int (2 : Int32)), (.ref b7)]))
    obtain ⟨cl92, Ar92, qa92, Sa92, Na92, Ha92, Ga92⟩ := id f90
    have hin92 : ¬ ((2 : Int32) < 0 ∨ cl92.slots.size ≤ ((2 : Int32)).toNatClampNeg) := inb_of Sa92 ⟨by decide, by decide⟩
    obtain ⟨T93, h93, X93, e93, W93, st93⟩ := stI X88 hx hZ e88 Ar92 (j := (2 : Int32)) hin92 (g := (mkF m 110 #[.val (.int p1), .val (.long q2), .second, .val (.long q3), .second, .val (.long q4), .second, .val (.int (3 : Int32)), .val (.int c0), .val (.int c1), .val (.int c2), .val (.int d0), .val (.int d1), .val (.int d2), .val (.ref b7), .val (.ref b9), .unset, .unset, .unset, .unset, .unset, .unset, .unset, .unset, .unset, .unset, .unset, .unset, .unset, .unset] [(.int c2), (.int (2 : Int32)), (.ref b7)])) rfl rfl (hb hby at_110)
    refine Go.st st93 ?_
    have V93 := Arv.set Ar92 qa92 Sa92 Na92 Ha92 Ga92 rfl W93 2 rfl (Nat.le_of_ble_eq_true rfl)
    have f95 := (V88).other W93 (Ne.symm n10)
    have z96 := Nat.le_trans z91 (Keep.of_wr W93).1
    have N93 := Fr.snoc X93 N88 gb7
    show Go p.tables e below _ (T93.setTop (mkF m 111 #[.val (.int p1), .val (.long q2), .second, .val (.long q3), .second, .val (.long q4), .second, .val (.int (3 : Int32)), .val (.int c0), .val (.int c1), .val (.int c2), .val (.int d0), .val (.int d1), .val (.int d2), .val (.ref b7), .val (.ref b9), .unset, .unset, .unset, .unset, .unset, .unset, .unset, .unset, .unset, .unset, .unset, .unset, .unset, .unset] []))
    refine Go.st (fun U hr => XS.aload X93.here hx rfl (hb hby at_111) rfl rfl hr) ?_
    show Go p.tables e below _ (T93.setTop (mkF m 113 #[.val (.int p1), .val (.long q2), .second, .val (.long q3), .second, .val (.long q4), .second, .val (.int (3 : Int32)), .val (.int c0), .val (.int c1), .val (.int c2), .val (.int d0), .val (.int d1), .val (.int d2), .val (.ref b7), .val (.ref b9), .unset, .unset, .unset, .unset, .unset, .unset, .unset, .unset, .unset, .unset, .unset, .unset, .unset, .unset] [(.ref b9)]))
    refine Go.st (fun U hr => XS.iconst X93.here hx rfl (hb hby at_113) hr) ?_
    show Go p.tables e below _ (T93.setTop (mkF m 114 #[.val (.int p1), .val (.long q2), .second, .val (.long q3), .second, .val (.long q4), .second, .val (.int (3 : Int32)), .val (.int c0), .val (.int c1), .val (.int c2), .val (.int d0), .val (.int d1), .val (.int d2), .val (.ref b7), .val (.ref b9), .unset, .unset, .unset, .unset, .unset, .unset, .unset, .unset, .unset, .unset, .unset, .unset, .unset, .unset] [(.int (2 : Int32)), (.ref b9)]))
    refine Go.st (fun U hr => XS.iload X93.here hx rfl (hb hby at_114) rfl hr) ?_
    show Go p.tables e below _ (T93.setTop (mkF m 116 #[.val (.int p1), .val (.long q2), .second, .val (.long q3), .second, .val (.long q4), .second, .val (.int (3 : Int32)), .val (.int c0), .val (.int c1), .val (.int c2), .val (.int d0), .val (.int d1), .val (.int d2), .val (.ref b7), .val (.ref b9), .unset, .unset, .unset, .unset, .unset, .unset, .unset, .unset, .unset, .unset, .unset, .unset, .unset, .unset] [(.int d2), (.int (2 : Int32)), (.ref b9)]))
    obtain ⟨cl97, Ar97, qa97, Sa97, Na97, Ha97, Ga97⟩ := id f95
    have hin97 : ¬ ((2 : Int32) < 0 ∨ cl97.slots.size ≤ ((2 : Int32)).toNatClampNeg) := inb_of Sa97 ⟨by decide, by decide⟩
    obtain ⟨T98, h98, X98, e98, W98, st98⟩ := stI X93 hx hZ e93 Ar97 (j := (2 : Int32)) hin97 (g := (mkF m 116 #[.val (.int p1), .val (.long q2), .second, .val (.long q3), .second, .val (.long q4), .second, .val (.int (3 : Int32)), .val (.int c0), .val (.int c1), .val (.int c2), .val (.int d0), .val (.int d1), .val (.int d2), .val (.ref b7), .val (.ref b9), .unset, .unset, .unset, .unset, .unset, .unset, .unset, .unset, .unset, .unset, .unset, .unset, .unset, .unset] [(.int d2), (.int (2 : Int32)), (.ref b9)])) rfl rfl (hb hby at_116)
    refine Go.st st98 ?_
    have V98 := Arv.set Ar97 qa97 Sa97 Na97 Ha97 Ga97 rfl W98 2 rfl (Nat.le_of_ble_eq_true rfl)
    have f100 := (V93).other W98 n10
    have z101 := Nat.le_trans z96 (Keep.of_wr W98).1
    have N98 := Fr.snoc X98 N93 gb9
    show Go p.tables e below _ (T98.setTop (mkF m 117 #[.val (.int p1), .val (.long q2), .second, .val (.long q3), .second, .val (.long q4), .second, .val (.int (3 : Int32)), .val (.int c0), .val (.int c1), .val (.int c2), .val (.int d0), .val (.int d1), .val (.int d2), .val (.ref b7), .val (.ref b9), .unset, .unset, .unset, .unset, .unset, .unset, .unset, .unset, .unset, .unset, .unset, .unset, .unset, .unset] []))
    exact k117 _ _ _ X98 e98 N98 z101 (own_pad3 f100) (own_pad3 V98)
set_option maxRecDepth 65536 in
set_option maxHeartbeats 40000000 in
theorem comes_1 {Post : Tables → Env → Array Value → State → Outcome → State → Prop} (hpost : ∀ tb e args s v u, (limb_1_1.after args s (.returned v) u = true ∧ limb_1_2.after args s (.returned v) u = true ∧ True) → FrameEnd s (.returned v) u (Jvm.fieldLocs frame_1_writes args s ++ Jvm.arrayLocs frame_1_arrays args s ++ Jvm.staticLocs frame_1_statics s) 16 128 → Post tb e args s (.returned v) u) :
    ArmFor flags0 classFile x code maxLocals ret World_1 tables_1 room_1 Calls_1 rest_1 Pre_1 Post := by
  intro l hfl _ _ p e ha hc hk s m args below hf hA hF happ hP
  obtain ⟨hcalls, hrest, hpre⟩ := hP
  obtain ⟨-, -, -, hnamed, -, -, -, hat⟩ := (Spec.applies_iff hf).mp happ
  obtain ⟨hg, hn⟩ := and_e (Cond.before_iff.mp (show (Jvm.Cond.and given_1 narrow_1).before args s = true from hpre))
  obtain ⟨h1, h2⟩ := and_e hg
  obtain ⟨w0, w1, w2, w3, rfl⟩ : ∃ w0 w1 w2 w3 : Value, args = #[w0, w1, w2, w3] := by
    have hs : args.size = 4 := by simpa [Cond.value, given_1] using h1
    obtain ⟨L⟩ := args
    match L, hs with
    | [w0, w1, w2, w3], _ => exact ⟨w0, w1, w2, w3, rfl⟩
  have hw := fun d (hd : d ∈ tables_1) => atoms_spec (ws := Jvm.Cond.code x code maxLocals ret :: tables_1) hat d (List.mem_cons_of_mem _ hd)
  have hfit : Fit s := fun {y c} hc i hi => by
    obtain ⟨ha, rfl⟩ := Array.getElem?_eq_some_iff.mp hc
    have q := List.all_eq_true.mp ((Array.all_eq_true_iff_forall_mem.mp hF) _ (Array.getElem_mem ha)) i (List.mem_range.mpr hi)
    simpa [Array.getElem?_eq_getElem hi] using q
  obtain ⟨ha0, hb0⟩ := and_e h2
  obtain ⟨i0, e0⟩ := is_v ha0
  obtain rfl : w0 = (.int i0) := Option.some.inj e0
  obtain ⟨ha1, hb1⟩ := and_e hb0
  obtain ⟨i1, e1⟩ := isL_v ha1
  obtain rfl : w1 = (.long i1) := Option.some.inj e1
  obtain ⟨ha2, hb2⟩ := and_e hb1
  obtain ⟨i2, e2⟩ := isL_v ha2
  obtain rfl : w2 = (.long i2) := Option.some.inj e2
  obtain ⟨i3, e3⟩ := isL_v hb2
  obtain rfl : w3 = (.long i3) := Option.some.inj e3
  obtain ⟨n, o, h1, h2, h3, _, L, rfl, ⟨rfl, N⟩, hq⟩ := rm0 l s _ hw tables_1 i0 i1 i2 i3 s.heap s.heap.size (Nat.le_refl _)  p e ha hc hk s m _ below hf ((Spec.applies_iff_loose hf).mp happ).1 ⟨rfl, State.Warmed39.refl s, rfl⟩ trivial
  refine ⟨n, _, h1, h2, h3, hpost _ _ _ _ _ _ ⟨Cond.after_iff.mpr rfl, Cond.after_iff.mpr (eq_i res_at (Term.int_eval (1)) rfl), trivial⟩ ⟨hq.1, hq.2.1, (hq.2.2.sift fun y hy => Or.inr (N y hy)).mono (by decide) (by decide)⟩⟩
theorem main_1_1 : Claimed_1_1 := comes_1 fun _ _ _ _ _ _ h hF => ⟨h.1, hF⟩
theorem main_1_2 : Claimed_1_2 := comes_1 fun _ _ _ _ _ _ h hF => ⟨h.2.1, hF⟩
end Jvm.Pilot.@@N@@
namespace Jvm.Pilot.@@N@@
open Jvm Jvm.ClassFile Sem Op Lib Jvm.Free Jvm.Stand Jvm.Pilot.@@N@@.Jvm.D
/-! MADE BY PROGRAM (witnessworld.py) out of the Statement's table words and the real class files: 9 classes; the members and pool entries that the words name. The judged class is class 1, her method 4. -/
namespace start1
open Jvm.ClassFile
def u (s : String) : CpInfo := .utf8 (stringToUtf16 s)
/-- a pool by its gaps: so many unusable entries, then the entry; so many at the end -/
def gap : Nat → List CpInfo → List CpInfo
  | 0, r => r
  | n + 1, r => .unusable :: gap n r
def poolList (es : List (Nat × CpInfo)) (last : Nat) : List CpInfo := es.foldr (fun e r => gap e.1 (e.2 :: r)) (gap last [])
def pool (es : List (Nat × CpInfo)) (last : Nat) : Array CpInfo := ⟨poolList es last⟩
def fileOf (pool : Array CpInfo) (this : Nat) (attrs : Array Attribute := #[]) (ms : Array MethodInfo := #[]) (fl : Nat := 33) (sup : Nat := 0) (ifs : Array Nat := #[]) (fds : Array FieldInfo := #[]) : ClassFile where
  minorVersion := 0
  majorVersion := 65
  constantPool := pool
  accessFlags := fl
  thisClass := this
  superClass := sup
  interfaces := ifs
  fields := fds
  methods := ms
  attributes := attrs
def plain (name : String) (sup : Option ClassId) : Class where
  name := name
  kind := .ordinary
  loader := none
  accessFlags := 33
  super := sup
  interfaces := #[]
  cf := none
  fields := #[]
  methods := #[]
  instanceTypes := #[]
  staticTypes := #[]
  resolved := #[]
  callSites := []
  init := .initialized
  statics := none
  mirror := none

def pool0 : Array CpInfo := pool [(5, u "<init>"), (0, u "()V"), (1, .class_ 10), (1, u "java/lang/Object")] 113

def k0m0 : Method := { name := "<init>", desc := "()V", sig := { parameters := [], returnType := none }, accessFlags := 1, code := none }
/-- java/lang/Object -/
def k0 : Class := { plain "java/lang/Object" none with
  accessFlags := 33
  interfaces := #[]
  cf := some (fileOf pool0 8 #[] #[{ accessFlags := 1, nameIndex := 5, descriptorIndex := 6, attributes := #[] }] 33 0 #[] #[])
  fields := #[]
  methods := #[k0m0]
  instanceTypes := #[]
  staticTypes := #[]
  resolved := Array.replicate 124 none
  statics := none }

def pool1 : Array CpInfo := pool [(2, .class_ 4), (1, u "java/lang/Object"), (0, u "<init>"), (0, u "()V"), (0, .long 3), (1, .long 2147483647), (1, .integer 2147483647), (0, .methodref 13 14), (0, .class_ 15), (0, .nameAndType 16 17), (0, u "com/example/klipspringer/klipspringer/ChoicesAdvancePinLaw"), (0, u "count"), (0, u "(J)I"), (0, .methodref 13 19), (0, .nameAndType 20 21), (0, u "digit"), (0, u "(JI)I"), (0, .methodref 13 23), (0, .nameAndType 24 25), (0, u "expect"), (0, u "(ZZI)I"), (0, .methodref 27 28), (0, .class_ 29), (0, .nameAndType 30 31), (0, u "com/example/klipspringer/klipspringer/Choices"), (0, u "advance"), (0, u "([I[I)Z"), (3, u "law"), (0, u "(IJJJ)Z")] 4

def k1m0 : Method := { name := "<init>", desc := "()V", sig := { parameters := [], returnType := none }, accessFlags := 2, code := none }
def k1c1 : Code := { maxStack := 4, maxLocals := 4, code := method_2_code, exceptionTable := #[], attributes := #[] }
def k1m1 : Method := { name := "count", desc := "(J)I", sig := { parameters := [.long], returnType := some .int }, accessFlags := 10, code := some k1c1 }
def k1c2 : Code := { maxStack := 2, maxLocals := 4, code := method_3_code, exceptionTable := #[], attributes := #[] }
def k1m2 : Method := { name := "digit", desc := "(JI)I", sig := { parameters := [.long, .int], returnType := some .int }, accessFlags := 10, code := some k1c2 }
def k1c3 : Code := { maxStack := 2, maxLocals := 3, code := method_4_code, exceptionTable := #[], attributes := #[] }
def k1m3 : Method := { name := "expect", desc := "(ZZI)I", sig := { parameters := [.boolean, .boolean, .int], returnType := some .int }, accessFlags := 10, code := some k1c3 }
def k1c4 : Code := { maxStack := 3, maxLocals := 30, code := code, exceptionTable := #[], attributes := #[] }
def k1m4 : Method := { name := "law", desc := "(IJJJ)Z", sig := { parameters := [.int, .long, .long, .long], returnType := some .boolean }, accessFlags := 9, code := some k1c4 }
/-- com/example/klipspringer/klipspringer/ChoicesAdvancePinLaw -/
def k1 : Class := { plain "com/example/klipspringer/klipspringer/ChoicesAdvancePinLaw" (some 0) with
  accessFlags := 49
  interfaces := #[]
  cf := some (fileOf pool1 13 #[] #[{ accessFlags := 2, nameIndex := 5, descriptorIndex := 6, attributes := #[] }, { accessFlags := 10, nameIndex := 16, descriptorIndex := 17, attributes := #[] }, { accessFlags := 10, nameIndex := 20, descriptorIndex := 21, attributes := #[] }, { accessFlags := 10, nameIndex := 24, descriptorIndex := 25, attributes := #[] }, { accessFlags := 9, nameIndex := 35, descriptorIndex := 36, attributes := #[] }] 49 2 #[] #[])
  fields := #[]
  methods := #[k1m0, k1m1, k1m2, k1m3, k1m4]
  instanceTypes := #[]
  staticTypes := #[]
  resolved := Array.replicate 41 none
  statics := none }

def pool2 : Array CpInfo := pool [(2, .class_ 4), (1, u "java/lang/Object"), (0, u "<init>"), (0, u "()V"), (0, .class_ 8), (0, u "com/example/klipspringer/klipspringer/Choices"), (2, u "advance"), (0, u "([I[I)Z")] 3

def k2m0 : Method := { name := "<init>", desc := "()V", sig := { parameters := [], returnType := none }, accessFlags := 2, code := none }
def k2c1 : Code := { maxStack := 5, maxLocals := 4, code := prog_7_method_2_code, exceptionTable := #[], attributes := #[] }
def k2m1 : Method := { name := "advance", desc := "([I[I)Z", sig := { parameters := [(.array .int), (.array .int)], returnType := some .boolean }, accessFlags := 8, code := some k2c1 }
/-- com/example/klipspringer/klipspringer/Choices -/
def k2 : Class := { plain "com/example/klipspringer/klipspringer/Choices" (some 0) with
  accessFlags := 48
  interfaces := #[]
  cf := some (fileOf pool2 7 #[] #[{ accessFlags := 2, nameIndex := 5, descriptorIndex := 6, attributes := #[] }, { accessFlags := 8, nameIndex := 11, descriptorIndex := 12, attributes := #[] }] 48 2 #[] #[])
  fields := #[]
  methods := #[k2m0, k2m1]
  instanceTypes := #[]
  staticTypes := #[]
  resolved := Array.replicate 16 none
  statics := none }

def pool3 : Array CpInfo := pool [(1, u "java/lang/Cloneable"), (0, .class_ 1), (0, u "java/lang/Object"), (0, .class_ 3)] 3

/-- java/lang/Cloneable -/
def k3 : Class := { plain "java/lang/Cloneable" (some 0) with
  accessFlags := 1537
  interfaces := #[]
  cf := some (fileOf pool3 2 #[] #[] 1537 4 #[] #[])
  fields := #[]
  methods := #[]
  instanceTypes := #[]
  staticTypes := #[]
  resolved := Array.replicate 8 none
  statics := none }

def pool4 : Array CpInfo := pool [(1, u "java/io/Serializable"), (0, .class_ 1), (0, u "java/lang/Object"), (0, .class_ 3)] 3

/-- java/io/Serializable -/
def k4 : Class := { plain "java/io/Serializable" (some 0) with
  accessFlags := 1537
  interfaces := #[]
  cf := some (fileOf pool4 2 #[] #[] 1537 4 #[] #[])
  fields := #[]
  methods := #[]
  instanceTypes := #[]
  staticTypes := #[]
  resolved := Array.replicate 8 none
  statics := none }

/-- the primitive byte -/
def k5 : Class := { plain "byte" none with kind := .primitive 'B', accessFlags := 0x411 }
/-- [B -/
def k6 : Class := { plain "[B" (some 0) with kind := .array 5 .byte, interfaces := #[3, 4], accessFlags := 1041 }

/-- the primitive int -/
def k7 : Class := { plain "int" none with kind := .primitive 'I', accessFlags := 0x411 }
/-- [I -/
def k8 : Class := { plain "[I" (some 0) with kind := .array 7 .int, interfaces := #[3, 4], accessFlags := 1041 }

def heap : Heap := #[]
def classes : Array Class := #[k0, k1, k2, k3, k4, k5, k6, k7, k8]
def interned : List (Array UInt16 × Addr) := []
def slotsUsed : Nat := 0
def theMethod : MethodId := ⟨1, 4⟩
def args0 : Array Value := #[.int 3, .long 5, .long 300, .long 7]
def aboutOver (below : List Frame) : State where
  vm := { classes := classes, interned := interned.toArray }
  heap := heap
  slotsUsed := slotsUsed
  threads := #[{ frames := .invoking theMethod args0 :: below }]
def below0 : List Frame := [.native { method := ⟨0, 0⟩, args := #[] }]
def about1 : State := aboutOver below0
def p0 : Program := .bare "" "" ""
def e0 : Env := launch0.env 0 0 0
theorem w_frames : about1.frames = Frame.invoking theMethod args0 :: below0 := rfl
set_option maxRecDepth 65536 in
theorem w_args : argsFit about1.vm theMethod args0 = true := by decide +kernel
set_option maxRecDepth 65536 in
theorem w_heap : heapFits about1 = true := by decide +kernel
set_option maxRecDepth 65536 in
theorem w_runnable : about1.curStatus? = some .runnable := by decide +kernel
set_option maxRecDepth 65536 in
theorem w_alone : about1.alone = true := by decide +kernel
set_option maxRecDepth 65536 in
theorem w_named : about1.methodNamed? x = some theMethod := by decide +kernel
set_option maxRecDepth 65536 in
theorem w_hears : about1.hears theMethod below0 = true := by decide +kernel
set_option maxRecDepth 65536 in
theorem w_ripe : about1.ripe theMethod args0 below0 = true := by decide +kernel
theorem w_running : about1.status = .running := rfl
set_option maxRecDepth 65536 in
theorem w_room : about1.hasRoom e0.platform room_1 = true :=
  launch0.hasRoom_least _ room_1 (by decide +kernel) (by decide +kernel) (by decide +kernel) (by decide +kernel) (by decide +kernel) (by decide +kernel)
theorem allAtoms_all (ts : List Jvm.Cond) (a : Array Jvm.Value) (st : Jvm.State) : (allAtoms ts).before a st = ts.all (fun c => c.before a st) := by
  induction ts with
  | nil => rfl
  | cons c t ih =>
    show (Jvm.Cond.and c (allAtoms t)).before a st = _
    rw [Jvm.Cond.before_and, ih, List.all_cons]
def words1 : List Jvm.Cond := Jvm.Cond.code x code maxLocals ret :: tables_1
/-- a 'code' word, met by the world's own term for the bytes: nothing is compared byte by byte -/
theorem code_word {y : MethodName} {bytes : ByteArray} {mx : Nat} {rt : Option FieldType} {a : Array Value} {s : State} {m : MethodId} {meth : Method} {c : Code} (h1 : s.methodNamed? y = some m) (h2 : s.vm.method? m = some meth) (h3 : meth.code = some c) (h4 : c.code = bytes)
    (h5 : (c.maxLocals == mx && c.exceptionTable.isEmpty && decide (c.maxStack ≤ mostOperands) && decide (meth.sig.returnType = rt) && !meth.locks && decide (parseMethodDescriptor y.desc = some meth.sig)) = true) : (Jvm.Cond.code y bytes mx rt).before a s = true := by
  simp only [Bool.and_eq_true, beq_iff_eq, Bool.not_eq_true', decide_eq_true_eq] at h5
  obtain ⟨⟨⟨⟨⟨g1, g2⟩, g3⟩, g4⟩, g5⟩, g6⟩ := h5
  simp [Cond.before, Cond.holds, Cond.value, h1, h2, h3, h4, g1, g2, g3, g4, g5, g6]
def isCode : Jvm.Cond → Bool
  | .code _ _ _ _ => true
  | _ => false
theorem all_split {L : List Jvm.Cond} {P : Jvm.Cond → Bool} (h1 : L.all (fun c => isCode c || P c) = true) (h2 : ∀ c ∈ L.filter isCode, P c = true) : L.all P = true := by
  refine List.all_eq_true.mpr fun c hc => ?_
  have h := List.all_eq_true.mp h1 c hc
  rcases Bool.eq_false_or_eq_true (isCode c) with hi | hi
  · exact h2 c (List.mem_filter.mpr ⟨hc, hi⟩)
  · simpa [hi] using h
set_option maxRecDepth 65536 in
theorem w_c0 : (Jvm.Cond.code x code maxLocals ret).before args0 about1 = true := code_word (m := ⟨1, 4⟩) (meth := k1m4) (c := k1c4) (by decide +kernel) rfl rfl rfl (by decide +kernel)
set_option maxRecDepth 65536 in
theorem w_c1 : (Jvm.Cond.code ({ cls := "com/example/klipspringer/klipspringer/ChoicesAdvancePinLaw", name := "count", desc := "(J)I" } : Jvm.MethodName) method_2_code (4 : Nat) (Option.some Jvm.ClassFile.FieldType.int)).before args0 about1 = true := code_word (m := ⟨1, 1⟩) (meth := k1m1) (c := k1c1) (by decide +kernel) rfl rfl rfl (by decide +kernel)
set_option maxRecDepth 65536 in
theorem w_c2 : (Jvm.Cond.code ({ cls := "com/example/klipspringer/klipspringer/ChoicesAdvancePinLaw", name := "digit", desc := "(JI)I" } : Jvm.MethodName) method_3_code (4 : Nat) (Option.some Jvm.ClassFile.FieldType.int)).before args0 about1 = true := code_word (m := ⟨1, 2⟩) (meth := k1m2) (c := k1c2) (by decide +kernel) rfl rfl rfl (by decide +kernel)
set_option maxRecDepth 65536 in
theorem w_c3 : (Jvm.Cond.code ({ cls := "com/example/klipspringer/klipspringer/ChoicesAdvancePinLaw", name := "expect", desc := "(ZZI)I" } : Jvm.MethodName) method_4_code (3 : Nat) (Option.some Jvm.ClassFile.FieldType.int)).before args0 about1 = true := code_word (m := ⟨1, 3⟩) (meth := k1m3) (c := k1c3) (by decide +kernel) rfl rfl rfl (by decide +kernel)
set_option maxRecDepth 65536 in
theorem w_c4 : (Jvm.Cond.code ({ cls := "com/example/klipspringer/klipspringer/Choices", name := "advance", desc := "([I[I)Z" } : Jvm.MethodName) prog_7_method_2_code (4 : Nat) (Option.some Jvm.ClassFile.FieldType.boolean)).before args0 about1 = true := code_word (m := ⟨2, 1⟩) (meth := k2m1) (c := k2c1) (by decide +kernel) rfl rfl rfl (by decide +kernel)
def codes1 : List Jvm.Cond := [Jvm.Cond.code x code maxLocals ret, Jvm.Cond.code ({ cls := "com/example/klipspringer/klipspringer/ChoicesAdvancePinLaw", name := "count", desc := "(J)I" } : Jvm.MethodName) method_2_code (4 : Nat) (Option.some Jvm.ClassFile.FieldType.int), Jvm.Cond.code ({ cls := "com/example/klipspringer/klipspringer/ChoicesAdvancePinLaw", name := "digit", desc := "(JI)I" } : Jvm.MethodName) method_3_code (4 : Nat) (Option.some Jvm.ClassFile.FieldType.int), Jvm.Cond.code ({ cls := "com/example/klipspringer/klipspringer/ChoicesAdvancePinLaw", name := "expect", desc := "(ZZI)I" } : Jvm.MethodName) method_4_code (3 : Nat) (Option.some Jvm.ClassFile.FieldType.int), Jvm.Cond.code ({ cls := "com/example/klipspringer/klipspringer/Choices", name := "advance", desc := "([I[I)Z" } : Jvm.MethodName) prog_7_method_2_code (4 : Nat) (Option.some Jvm.ClassFile.FieldType.boolean)]
set_option maxRecDepth 65536 in
theorem codes_eq : words1.filter isCode = codes1 := rfl
theorem w_codes : ∀ c ∈ words1.filter isCode, c.before args0 about1 = true := by
  rw [codes_eq]
  intro c hc
  simp only [codes1, List.mem_cons, List.not_mem_nil, or_false] at hc
  rcases hc with rfl | rfl | rfl | rfl | rfl
  · exact w_c0
  · exact w_c1
  · exact w_c2
  · exact w_c3
  · exact w_c4
set_option maxRecDepth 65536 in
theorem w_t1 : words1.all (fun c => isCode c || c.before args0 about1) = true := by decide +kernel
theorem w_tables : (allAtoms (Jvm.Cond.code x code maxLocals ret :: tables_1)).before args0 about1 = true := by
  rw [allAtoms_all]
  show words1.all (fun c => c.before args0 about1) = true
  refine all_split ?_ w_codes
  rw [w_t1]
set_option maxRecDepth 65536 in
theorem w_case : (Jvm.Cond.and given_1 narrow_1).before args0 about1 = true := by decide +kernel
theorem w_applies : (headSpec (Jvm.Cond.code x code maxLocals ret :: tables_1) room_1).applies x e0.platform about1 = true :=
  (Spec.applies_iff w_frames).mpr ⟨w_running, w_runnable, w_alone, w_named, w_hears, w_ripe, w_room, w_tables⟩
theorem atStart : AtStart classFile x code maxLocals ret World_1 tables_1 room_1 Calls_1 rest_1 Pre_1 launch0 p0 e0 about1 theMethod args0 below0 :=
  ⟨lists_1, trivial, launch0.admits_env _ _ _, launch0.least_env, fairChoices_fair.cas, fairChoices_fair.clock, w_frames, w_args, w_heap, w_applies, trivial, trivial, w_case⟩
end start1
theorem witness_1 : WitnessClaimed_1 := ⟨start1.p0, start1.e0, start1.about1, start1.theMethod, start1.args0, start1.below0, start1.atStart⟩
end Jvm.Pilot.@@N@@
