import JvmDerived
import JvmDerived.Pilot.@@N@@Statement
import JvmDerived.Pilot.@@N@@Code
set_option linter.unusedVariables false
set_option linter.unusedSimpArgs false
namespace Jvm.Pilot.@@N@@
open Jvm Jvm.ClassFile Sem Op Lib Jvm.Free Jvm.Stand Jvm.LawKit Jvm.RoadKit Bundle Jvm.Pilot.@@N@@.Jvm.D
section OwnKit
variable {p : Program} {l : Launch} {e : Env} {R : Room} {s : State} {m : MethodId} {args : Array Value} {below : List Frame} {meth : Method} {c : Code} {T : State} {locs : List Loc} {cells slots : Nat}
/-- from here the run comes to a state of which K holds -/
def Go (tb : Tables) (e : Env) (below : List Frame) (K : State → Prop) (T : State) : Prop := ∃ U, Steps tb e below T U ∧ K U
theorem Go.st {tb : Tables} {K : State → Prop} {T T' : State} (h : ∀ U, Steps tb e below T' U → Steps tb e below T U) (g : Go tb e below K T') : Go tb e below K T := by
  obtain ⟨U, h1, h2⟩ := g; exact ⟨U, h U h1, h2⟩
theorem Go.tr {tb : Tables} {K : State → Prop} {T T' : State} (h : Steps tb e below T T') (g : Go tb e below K T') : Go tb e below K T := by
  obtain ⟨U, h1, h2⟩ := g; exact ⟨U, h.trans h1, h2⟩
/-- where a body may end -/
def own_Fin (s : State) (below : List Frame) (CC SS : Nat) (Q : Option Value → Heap → List Loc → Prop) (U : State) : Prop :=
  ∃ o, U.status = .running ∧ Ended U below o ∧ ∃ v L, o = .returned v ∧ Q v U.heap L ∧ FrameEnd s o U L CC SS
theorem own_start {tb : Tables} {CC SS : Nat} {Q : Option Value → Heap → List Loc → Prop} {T : State} (g : Go tb e below (own_Fin s below CC SS Q) T) :
    ∃ s₂ o, Steps tb e below T s₂ ∧ s₂.status = .running ∧ Ended s₂ below o ∧ ∃ v L, o = .returned v ∧ Q v s₂.heap L ∧ FrameEnd s o s₂ L CC SS := by
  obtain ⟨U, h1, o, h2, h3, h4⟩ := g; exact ⟨U, o, h1, h2, h3, h4⟩
theorem own_cast {tb : Tables} {K : State → Prop} {f f' : JFrame} (q : f = f') (g : Go tb e below K (T.setTop f')) : Go tb e below K (T.setTop f) := q ▸ g
section Ends
variable {CC SS : Nat} {Q : Option Value → Heap → List Loc → Prop}
theorem own_end (X : Stand p l e R s m args below meth c T locs cells slots) (hlocks : meth.locks = false) {v : Option Value} (hv : meth.sig.returnType = none → v = none) {f : JFrame}
    (k : ∀ fs, (∀ (f : JFrame) (acts : List Action), f.method = m → f.locked = none → f.entered = [] → (doReturn e (T.setTop f) acts v).1 = T.setFrames fs) → Steps p.tables e below (T.setTop f) (T.setFrames fs))
    (hq : Q v T.heap locs) (hc : cells ≤ CC) (hs : slots ≤ SS) : Go p.tables e below (own_Fin s below CC SS Q) (T.setTop f) := by
  obtain ⟨fs, hr, hrun, hended, hW, hsame⟩ := X.leave (v := v) hv hlocks
  exact ⟨_, k fs hr, _, hrun, hended, _, _, rfl, hq, ⟨_, rfl⟩, hW, hsame.mono hc hs⟩
theorem own_ret0 (X : Stand p l e R s m args below meth c T locs cells slots) (hx : p.tables.exec = Jvm.exec) (hlocks : meth.locks = false) {pc : Nat} {Ls : Array Slot} (hret : meth.sig.returnType = none) (hd : decode c.code pc = .ok (.return_, 1))
    (hq : Q none T.heap locs) (hc : cells ≤ CC) (hs : slots ≤ SS) : Go p.tables e below (own_Fin s below CC SS Q) (T.setTop (mkF m pc Ls [])) :=
  own_end X hlocks (fun _ => rfl) (fun _ hr => X.returnOut hx hret hd hr) hq hc hs
theorem own_retN (X : Stand p l e R s m args below meth c T locs cells slots) (hx : p.tables.exec = Jvm.exec) (hlocks : meth.locks = false) {pc : Nat} {Ls : Array Slot} {z : Int32} {t : FieldType} {rest : List Value} (hret : meth.sig.returnType = some t) (ht : t = .boolean ∨ t = .byte ∨ t = .char ∨ t = .short) (hd : decode c.code pc = .ok (.ireturn, 1))
    (hq : Q (some (.int (nar t z))) T.heap locs) (hc : cells ≤ CC) (hs : slots ≤ SS) : Go p.tables e below (own_Fin s below CC SS Q) (T.setTop (mkF m pc Ls (.int z :: rest))) :=
  own_end X hlocks (fun h => by rw [hret] at h; cases h) (fun _ hr => retN X hx hret ht hd hr) hq hc hs
theorem own_retO (X : Stand p l e R s m args below meth c T locs cells slots) (hx : p.tables.exec = Jvm.exec) (hlocks : meth.locks = false) {pc : Nat} {Ls : Array Slot} {w : Value} {t : FieldType} {i : Instr} {rest : List Value} (hret : meth.sig.returnType = some t) (hn : narrow t w = w)
    (hi : (i = .ireturn ∧ (t = .int ∨ t = .boolean ∨ t = .byte ∨ t = .char ∨ t = .short) ∧ ∃ z, w = .int z) ∨ (i = .lreturn ∧ t = .long ∧ ∃ z, w = .long z) ∨ (i = .dreturn ∧ t = .double ∧ ∃ z, w = .double z) ∨ (i = .freturn ∧ t = .float ∧ ∃ z, w = .float z) ∨ (i = .areturn ∧ t.isReference = true ∧ w.isRef = true))
    (hd : decode c.code pc = .ok (i, 1)) (hq : Q (some w) T.heap locs) (hc : cells ≤ CC) (hs : slots ≤ SS) : Go p.tables e below (own_Fin s below CC SS Q) (T.setTop (mkF m pc Ls (w :: rest))) :=
  own_end X hlocks (fun h => by rw [hret] at h; cases h) (fun _ hr => retOut X hx hret hn hi hd hr) hq hc hs
end Ends
end OwnKit
theorem own_lt32 (x y : Int32) : x < y ↔ x.toInt < y.toInt := Int32.lt_iff_toInt_lt
theorem own_nat {i : Int32} (h : 0 ≤ i.toInt) : (i.toNatClampNeg : Int) = i.toInt := Int.toNat_of_nonneg h
theorem own_ix {i : Int32} {n : Nat} (h : i.toInt = n) : i.toNatClampNeg = n := by
  have := own_nat (i := i) (by omega)
  omega
theorem own_inb {i z : Int32} (h : 0 ≤ i.toInt ∧ i.toInt < z.toInt) : ¬ i < 0 ∧ i < z := by
  rw [own_lt32, own_lt32, show (0 : Int32).toInt = 0 from by decide]; omega
def own_c (l : List Int32) (i : Nat) : Int32 := l.getD i 0
theorem own_gI (cs : List Int32) (i : Nat) : (cs.map Value.int).getD i (.int 0) = .int (own_c cs i) := by
  unfold own_c; simp only [List.getD_eq_getElem?_getD, List.getElem?_map]; cases cs[i]? <;> rfl
theorem own_gIn (cs : List Int32) {i : Int32} {n : Nat} (h : i.toInt = n) : (cs.map Value.int).getD i.toNatClampNeg (.int 0) = .int (own_c cs n) := by rw [own_gI, own_ix h]
def own_b (c : Int32) : Int32 := ((c.toInt8.toInt32).toInt8.toInt32)
def own_lo (c : Int32) : Int32 := (((c >>> ((0 : Int32) &&& 31)).toInt8.toInt32).toInt8.toInt32)
def own_hi (c : Int32) : Int32 := (((c >>> ((8 : Int32) &&& 31)).toInt8.toInt32).toInt8.toInt32)
def own_gc (l h : Int32) : Int32 := nar .char (((((l &&& (255 : Int32)) <<< ((0 : Int32) &&& 31)) ||| ((h &&& (255 : Int32)) <<< ((8 : Int32) &&& 31))).toUInt32.toUInt16.toUInt32.toInt32))
def own_ch (c : Int32) : Prop := 0 ≤ c.toInt ∧ c.toInt < 65536
theorem own_nar (x : Int32) (h : own_ch x) : nar .char x = x := by
  have h1 := c_i2c x
  apply Int32.toInt_inj.mp
  show x.toUInt32.toUInt16.toUInt32.toInt32.toInt = _
  have := h.1; have := h.2
  omega
theorem own_nar_ok (x : Int32) : own_ch (nar .char x) := (c_i2c x).2
theorem own_gc_ok (l h : Int32) : own_ch (own_gc l h) := own_nar_ok _
theorem own_gb (c : Int32) (h : 0 ≤ c.toInt ∧ c.toInt < 256) : nar .char ((own_b c &&& (255 : Int32)).toUInt32.toUInt16.toUInt32.toInt32) = c := by
  have h1 := c_i2b c
  have h2 := c_i2b (c.toInt8.toInt32)
  have h3 := c_mask (own_b c) 255 8 (by decide) (by decide)
  have h4 : (own_b c).toInt = (c.toInt8.toInt32).toInt8.toInt32.toInt := rfl
  have h5 := c_i2c (own_b c &&& (255 : Int32))
  have h6 := c_i2c ((own_b c &&& (255 : Int32)).toUInt32.toUInt16.toUInt32.toInt32)
  apply Int32.toInt_inj.mp
  show ((own_b c &&& (255 : Int32)).toUInt32.toUInt16.toUInt32.toInt32).toUInt32.toUInt16.toUInt32.toInt32.toInt = _
  omega
theorem own_gcc (c : Int32) (h : own_ch c) : own_gc (own_lo c) (own_hi c) = c := by
  obtain ⟨ha, hb⟩ := h
  have e0 := c_ishr c 0 0 (by decide)
  have e8 := c_ishr c 8 8 (by decide)
  have a1 := c_i2b (c >>> ((0 : Int32) &&& 31))
  have a2 := c_i2b ((c >>> ((0 : Int32) &&& 31)).toInt8.toInt32)
  have b1 := c_i2b (c >>> ((8 : Int32) &&& 31))
  have b2 := c_i2b ((c >>> ((8 : Int32) &&& 31)).toInt8.toInt32)
  have a3 : (own_lo c).toInt = _ := rfl
  have b3 : (own_hi c).toInt = (((c >>> ((8 : Int32) &&& 31)).toInt8.toInt32).toInt8.toInt32).toInt := rfl
  have a3 : (own_lo c).toInt = (((c >>> ((0 : Int32) &&& 31)).toInt8.toInt32).toInt8.toInt32).toInt := rfl
  have a4 := c_mask (own_lo c) 255 8 (by decide) (by decide)
  have b4 := c_mask (own_hi c) 255 8 (by decide) (by decide)
  have a5 := c_ishl (own_lo c &&& (255 : Int32)) 0 0 (by decide)
  have b5 := c_ishl (own_hi c &&& (255 : Int32)) 8 8 (by decide)
  generalize own_lo c = u at *
  generalize own_hi c = w at *
  have ra := rng32 ((u &&& (255 : Int32)) <<< ((0 : Int32) &&& 31))
  have rb := rng32 ((w &&& (255 : Int32)) <<< ((8 : Int32) &&& 31))
  have qa : ((u &&& (255 : Int32)) <<< ((0 : Int32) &&& 31)).toInt = c.toInt % 256 := by omega
  have qb : ((w &&& (255 : Int32)) <<< ((8 : Int32) &&& 31)).toInt = (c.toInt / 256) * 256 := by omega
  have o := c_or' ((u &&& (255 : Int32)) <<< ((0 : Int32) &&& 31)) ((w &&& (255 : Int32)) <<< ((8 : Int32) &&& 31)) 8 (by decide) 256 (by decide) (by omega) (by omega) (by omega)
  have ro := rng32 (((u &&& (255 : Int32)) <<< ((0 : Int32) &&& 31)) ||| ((w &&& (255 : Int32)) <<< ((8 : Int32) &&& 31)))
  unfold own_gc
  generalize (((u &&& (255 : Int32)) <<< ((0 : Int32) &&& 31)) ||| ((w &&& (255 : Int32)) <<< ((8 : Int32) &&& 31))) = y at *
  have c1 := c_i2c y
  have c2 := c_i2c (y.toUInt32.toUInt16.toUInt32.toInt32)
  apply Int32.toInt_inj.mp
  show (y.toUInt32.toUInt16.toUInt32.toInt32).toUInt32.toUInt16.toUInt32.toInt32.toInt = _
  omega
theorem own_sh {p : Int32} {n : Nat} (h : p.toInt = n) (hn : n ≤ 1000) : (p <<< ((1 : Int32) &&& 31)).toInt = ((2 * n : Nat) : Int) := by
  have h1 := c_ishl p 1 1 (by decide)
  have := rng32 (p <<< ((1 : Int32) &&& 31))
  omega
theorem own_half {p : Int32} {n : Nat} (h : p.toInt = ((2 * n : Nat) : Int)) : (p >>> ((1 : Int32) &&& 31)).toInt = n := by
  have h1 := c_ishr p 1 1 (by decide)
  omega
theorem own_p1 {p : Int32} {n : Nat} (h : p.toInt = n) (hn : n ≤ 1000000) : (p + (1 : Int32)).toInt = ((n + 1 : Nat) : Int) := by
  have h1 := c_iadd p 1
  rw [show (1 : Int32).toInt = 1 from by decide] at h1
  have := rng32 (p + 1)
  omega
theorem own_add {p q : Int32} {m n : Nat} (h : p.toInt = m) (h' : q.toInt = n) (hn : m + n ≤ 1000000) : (p + q).toInt = ((m + n : Nat) : Int) := by
  have h1 := c_iadd p q
  have := rng32 (p + q)
  omega
theorem own_sub {p q : Int32} {m n : Nat} (h : p.toInt = m) (h' : q.toInt = n) (hn : n ≤ m) : (p - q).toInt = ((m - n : Nat) : Int) := by
  have h1 := c_isub p q
  have := rng32 (p - q)
  have := rng32 p
  omega
/-- the bytes ys, with coder cd, spell the signs cs -/
def own_enc (cd : Int32) (ys cs : List Int32) : Prop :=
  (∀ i, i < cs.length → own_ch (own_c cs i)) ∧
  ((cd = 0 ∧ ys.length = cs.length ∧ ∀ i, i < cs.length → (own_c cs i).toInt < 256 ∧ own_c ys i = own_b (own_c cs i)) ∨
   (cd = 1 ∧ ys.length = 2 * cs.length ∧ ∀ i, i < cs.length → own_c ys (2 * i) = own_lo (own_c cs i) ∧ own_c ys (2 * i + 1) = own_hi (own_c cs i)))
def own_Str (Z : State) (h : Heap) (a va : Addr) (kb : ClassId) (cd zn : Int32) (ys cs : List Int32) : Prop :=
  Exa Z h a "java/lang/String" ∧ Fld Z h a "java/lang/String" "value" "[B" (.ref va) ∧ Fld Z h a "java/lang/String" "coder" "B" (.int cd) ∧ Arv Z h va kb .byte zn (ys.map Value.int) (.int (0 : Int32)) ∧ zn.toInt = ys.length ∧ own_enc cd ys cs ∧ cs.length ≤ 5
/-- a reference that may be null -/
abbrev own_rv (o : Option Addr) : Value := match o with | none => .null | some a => .ref a
def own_Sts (Z : State) (h : Heap) (wc : Int32) (sf : Option Addr) : Prop :=
  Sta Z h "java/lang/String" "COMPACT_STRINGS" "Z" (.int wc) ∧ ¬ wc = 0 ∧ Sta Z h "jdk/internal/util/Preconditions" "SIOOBE_FORMATTER" "Ljava/util/function/BiFunction;" (own_rv sf) ∧ Sta Z h "java/lang/StringUTF16" "$assertionsDisabled" "Z" (.int (1 : Int32)) ∧ Sta Z h "java/lang/StringUTF16" "HI_BYTE_SHIFT" "I" (.int (0 : Int32)) ∧ Sta Z h "java/lang/StringUTF16" "LO_BYTE_SHIFT" "I" (.int (8 : Int32))
/-- no statics cell -/
def own_ns (h : Heap) (x : Addr) : Prop := ∀ cell : Cell, h[x]? = some cell → cell.vm.isStatics = false
theorem own_nsE {Z : State} {h : Heap} {a : Addr} {C : String} (E : Exa Z h a C) : own_ns h a := fun cell q => by
  obtain ⟨ce, kk, q1, q2, q3, q4, q5⟩ := E
  rw [q] at q1; cases q1; exact q4
theorem own_nsV {Z : State} {h : Heap} {a : Addr} {k : ClassId} {ty : FieldType} {z : Int32} {vs : List Value} {d : Value} (V : Arv Z h a k ty z vs d) : own_ns h a := fun cell q => by
  obtain ⟨c, A, r⟩ := V
  have e := q.symm.trans A.1
  cases e
  unfold VmData.isStatics; split
  · rename_i k hk; exact absurd hk (A.2.1.1 k)
  · rfl
theorem own_stk {Z : State} {h h' : Heap} {C n d : String} {v : Value} {ws : List Addr} (Kp : Keep h h' ws) (hn : ∀ x ∈ ws, own_ns h x) (S : Sta Z h C n d v) : Sta Z h' C n d v := by
  obtain ⟨cf, i, k, f, st, cell, h1, h2, h3, h4, h5, h6, h7⟩ := S
  refine ⟨cf, i, k, f, st, cell, h1, h2, h3, h4, Kp.2.1 st cell h5 (fun z => ?_), h6, h7⟩
  have := hn st z cell h5
  rw [this] at h6; cases h6
theorem own_Sts.keep {Z : State} {h h' : Heap} {wc : Int32} {sf : Option Addr} {ws : List Addr} (S : own_Sts Z h wc sf) (Kp : Keep h h' ws) (hn : ∀ x ∈ ws, own_ns h x) : own_Sts Z h' wc sf :=
  ⟨own_stk Kp hn S.1, S.2.1, own_stk Kp hn S.2.2.1, own_stk Kp hn S.2.2.2.1, own_stk Kp hn S.2.2.2.2.1, own_stk Kp hn S.2.2.2.2.2⟩
theorem own_Sts.ext {Z : State} {h h' : Heap} {wc : Int32} {sf : Option Addr} (S : own_Sts Z h wc sf) (E : Ext h h') : own_Sts Z h' wc sf :=
  ⟨S.1.ext E, S.2.1, S.2.2.1.ext E, S.2.2.2.1.ext E, S.2.2.2.2.1.ext E, S.2.2.2.2.2.ext E⟩
theorem own_Str.keep {Z : State} {h h' : Heap} {a va : Addr} {kb : ClassId} {cd zn : Int32} {ys cs : List Int32} {ws : List Addr} (S : own_Str Z h a va kb cd zn ys cs) (Kp : Keep h h' ws) (h1 : a ∉ ws) (h2 : va ∉ ws) : own_Str Z h' a va kb cd zn ys cs :=
  ⟨S.1.keep Kp, S.2.1.keep Kp h1, S.2.2.1.keep Kp h1, S.2.2.2.1.keep Kp h2, S.2.2.2.2⟩
theorem own_Str.ext {Z : State} {h h' : Heap} {a va : Addr} {kb : ClassId} {cd zn : Int32} {ys cs : List Int32} (S : own_Str Z h a va kb cd zn ys cs) (E : Ext h h') : own_Str Z h' a va kb cd zn ys cs :=
  ⟨S.1.ext E, S.2.1.ext E, S.2.2.1.ext E, S.2.2.2.1.ext E, S.2.2.2.2⟩
theorem own_enc.cd {cd : Int32} {ys cs : List Int32} (e : own_enc cd ys cs) : cd = 0 ∨ cd = 1 := e.2.elim (fun q => Or.inl q.1) (fun q => Or.inr q.1)
theorem own_enc.lat {cd : Int32} {ys cs : List Int32} (e : own_enc cd ys cs) (h : cd = 0) : ys.length = cs.length ∧ ∀ i, i < cs.length → (own_c cs i).toInt < 256 ∧ own_c ys i = own_b (own_c cs i) :=
  e.2.elim (fun q => q.2) (fun q => absurd (q.1.symm.trans h) (by decide))
theorem own_enc.utf {cd : Int32} {ys cs : List Int32} (e : own_enc cd ys cs) (h : ¬ cd = 0) : ys.length = 2 * cs.length ∧ ∀ i, i < cs.length → own_c ys (2 * i) = own_lo (own_c cs i) ∧ own_c ys (2 * i + 1) = own_hi (own_c cs i) :=
  e.2.elim (fun q => absurd q.1 h) (fun q => q.2)
/-- length() -/
theorem own_len {cd zn : Int32} {ys cs : List Int32} (e : own_enc cd ys cs) (hz : zn.toInt = ys.length) : (zn >>> (cd &&& 31)).toInt = cs.length := by
  rcases e.2 with ⟨rfl, q, -⟩ | ⟨rfl, q, -⟩
  · have h1 := c_ishr zn 0 0 (by decide)
    omega
  · exact own_half (by omega)
/-- coderFromArrayLen -/
theorem own_cfa {cd zn p : Int32} {ys cs : List Int32} (e : own_enc cd ys cs) (hz : zn.toInt = ys.length) (hp : p.toInt = cs.length) (h0 : 0 < cs.length) (h5 : cs.length ≤ 5) : nar .byte (((p - zn).toUInt32 >>> ((31 : Int32) &&& 31).toUInt32).toInt32).toInt8.toInt32 = cd := by
  have h1 := c_isub p zn
  have h2 := c_iushr (p - zn) 31 31 (by decide) (by decide)
  have h3 := c_i2b (((p - zn).toUInt32 >>> ((31 : Int32) &&& 31).toUInt32).toInt32)
  have h4 := c_i2b ((((p - zn).toUInt32 >>> ((31 : Int32) &&& 31).toUInt32).toInt32).toInt8.toInt32)
  have r := rng32 (p - zn)
  apply Int32.toInt_inj.mp
  show ((((p - zn).toUInt32 >>> ((31 : Int32) &&& 31).toUInt32).toInt32).toInt8.toInt32).toInt8.toInt32.toInt = _
  rcases e.2 with ⟨rfl, q, -⟩ | ⟨rfl, q, -⟩
  · rw [show (0 : Int32).toInt = 0 from by decide]; omega
  · rw [show (1 : Int32).toInt = 1 from by decide]; omega

section OwnKitS
variable {p : Program} {l : Launch} {e : Env} {R : Room} {s : State} {m : MethodId} {args : Array Value} {below : List Frame} {meth : Method} {c : Code} {T : State} {locs : List Loc} {cells slots : Nat}
variable {Z : State} {a0 : Array Value} {EL : List (String × Nat)} {vm0 : Vm} {h0 h : Heap} {k0 : Nat}
/-- where a body that may intern may end -/
def own_FinS (Z : State) (EL : List (String × Nat)) (s : State) (below : List Frame) (CC SS : Nat) (Q : Option Value → Heap → List Loc → Prop) (U : State) : Prop :=
  ∃ o, U.status = .running ∧ Ended U below o ∧ ∃ v L, o = .returned v ∧ Q v U.heap L ∧ CHr Z EL s.vm s.heap U.vm U.heap ∧ ReturnedEndW s o U L CC SS
theorem own_startS {tb : Tables} {CC SS : Nat} {Q : Option Value → Heap → List Loc → Prop} {T : State} (g : Go tb e below (own_FinS Z EL s below CC SS Q) T) :
    ∃ s₂ o, Steps tb e below T s₂ ∧ s₂.status = .running ∧ Ended s₂ below o ∧ ∃ v L, o = .returned v ∧ Q v s₂.heap L ∧ CHr Z EL s.vm s.heap s₂.vm s₂.heap ∧ ReturnedEndW s o s₂ L CC SS := by
  obtain ⟨U, h1, o, h2, h3, h4⟩ := g; exact ⟨U, o, h1, h2, h3, h4⟩
section EndsS
variable {CC SS : Nat} {Q : Option Value → Heap → List Loc → Prop}
theorem own_endS (X : Stand p l e R (s.setVm vm0) m args below meth c T locs cells slots) (hlocks : meth.locks = false) {v : Option Value} (hv : meth.sig.returnType = none → v = none) {f : JFrame}
    (k : ∀ fs, (∀ (f : JFrame) (acts : List Action), f.method = m → f.locked = none → f.entered = [] → (doReturn e (T.setTop f) acts v).1 = T.setFrames fs) → Steps p.tables e below (T.setTop f) (T.setFrames fs))
    (hS : s.Since vm0 k0) (hk : k0 ≤ h.size) (hC : CHr Z EL s.vm h0 vm0 h) (hZ : Z.Warmed39 vm0) (hEL : EW Z a0 EL) (hh : s.heap = h0) (eT : T.heap = h)
    (hq : Q v T.heap locs) (hc : cells ≤ CC) (hs : slots ≤ SS) : Go p.tables e below (own_FinS Z EL s below CC SS Q) (T.setTop f) := by
  subst hh eT
  obtain ⟨fs, hr, hrun, hended, hW⟩ := (X.mono hc hs).leaveW hS hk (v := v) hv hlocks
  have hD : CHr Z EL vm0 T.heap T.vm T.heap := CHv.at X hZ hEL hC.1
  exact ⟨_, k fs hr, _, hrun, hended, _, _, rfl, hq, hC.trans hD, hW⟩
theorem own_ret0S (X : Stand p l e R (s.setVm vm0) m args below meth c T locs cells slots) (hx : p.tables.exec = Jvm.exec) (hlocks : meth.locks = false) {pc : Nat} {Ls : Array Slot} (hret : meth.sig.returnType = none) (hd : decode c.code pc = .ok (.return_, 1))
    (hS : s.Since vm0 k0) (hk : k0 ≤ h.size) (hC : CHr Z EL s.vm h0 vm0 h) (hZ : Z.Warmed39 vm0) (hEL : EW Z a0 EL) (hh : s.heap = h0) (eT : T.heap = h)
    (hq : Q none T.heap locs) (hc : cells ≤ CC) (hs : slots ≤ SS) : Go p.tables e below (own_FinS Z EL s below CC SS Q) (T.setTop (mkF m pc Ls [])) :=
  own_endS X hlocks (fun _ => rfl) (fun _ hr => X.returnOut hx hret hd hr) hS hk hC hZ hEL hh eT hq hc hs
theorem own_retNS (X : Stand p l e R (s.setVm vm0) m args below meth c T locs cells slots) (hx : p.tables.exec = Jvm.exec) (hlocks : meth.locks = false) {pc : Nat} {Ls : Array Slot} {z : Int32} {t : FieldType} {rest : List Value} (hret : meth.sig.returnType = some t) (ht : t = .boolean ∨ t = .byte ∨ t = .char ∨ t = .short) (hd : decode c.code pc = .ok (.ireturn, 1))
    (hS : s.Since vm0 k0) (hk : k0 ≤ h.size) (hC : CHr Z EL s.vm h0 vm0 h) (hZ : Z.Warmed39 vm0) (hEL : EW Z a0 EL) (hh : s.heap = h0) (eT : T.heap = h)
    (hq : Q (some (.int (nar t z))) T.heap locs) (hc : cells ≤ CC) (hs : slots ≤ SS) : Go p.tables e below (own_FinS Z EL s below CC SS Q) (T.setTop (mkF m pc Ls (.int z :: rest))) :=
  own_endS X hlocks (fun h => by rw [hret] at h; cases h) (fun _ hr => retN X hx hret ht hd hr) hS hk hC hZ hEL hh eT hq hc hs
theorem own_retAS (X : Stand p l e R (s.setVm vm0) m args below meth c T locs cells slots) (hx : p.tables.exec = Jvm.exec) (hlocks : meth.locks = false) {pc : Nat} {Ls : Array Slot} {w : Value} {t : FieldType} {rest : List Value} (hret : meth.sig.returnType = some t) (hn : narrow t w = w) (ht : t.isReference = true) (hw : w.isRef = true)
    (hd : decode c.code pc = .ok (.areturn, 1)) (hS : s.Since vm0 k0) (hk : k0 ≤ h.size) (hC : CHr Z EL s.vm h0 vm0 h) (hZ : Z.Warmed39 vm0) (hEL : EW Z a0 EL) (hh : s.heap = h0) (eT : T.heap = h)
    (hq : Q (some w) T.heap locs) (hc : cells ≤ CC) (hs : slots ≤ SS) : Go p.tables e below (own_FinS Z EL s below CC SS Q) (T.setTop (mkF m pc Ls (w :: rest))) :=
  own_endS X hlocks (fun h => by rw [hret] at h; cases h) (fun _ hr => retOut X hx hret hn (Or.inr (Or.inr (Or.inr (Or.inr ⟨rfl, ht, hw⟩)))) hd hr) hS hk hC hZ hEL hh eT hq hc hs
end EndsS
theorem own_lit0 : (∀ c ∈ ("" : String).toList, c.toNat < 256) ∧ ("" : String).toList.map (fun c => Value.int (Jvm.Lit.byteI c.toNat.toUInt16)) = [] := ⟨by simp, by simp⟩
/-- a String whose value is still null is no booked one -/
theorem own_safe {x : Addr} (hal : Z.vm.Alike vm0) (E : Exa Z h x "java/lang/String") (F : Fld Z h x "java/lang/String" "value" "[B" .null) : Safe Z EL vm0 h x := fun B => by
  obtain ⟨pr, -, u, a, -, q, -, G, rfl | rfl⟩ := B
  · obtain ⟨cell, cf, k, i, f, f1, f2, -, -, -, -, f7⟩ := F
    have hq : h[q.sa]? = some q.sC := G.ha
    obtain ⟨cS, ⟨⟨-, -, -, ⟨c1, k1, i1, g1, -⟩, -, -, -, v1, -⟩, -⟩, -⟩ := G
    obtain ⟨k3, e3, -⟩ := State.fieldFound?_setVm (s := ({ Z with heap := h } : State)) hal f2
    have e4 := e3.symm.trans g1
    simp only [Option.some.injEq, Prod.mk.injEq] at e4
    cases f1.symm.trans hq
    rw [e4.2.2.2, v1] at f7
    cases f7
  · obtain ⟨cell, k, e1, e2, -⟩ := E
    have hq : h[q.sd]? = some q.SA := G.hd
    cases e1.symm.trans hq
    obtain ⟨cS, -, -, g3, -⟩ := G
    have g3 : vm0.findClass "[B" = some q.SA.cls := g3
    rw [hal.findClass] at g3
    obtain ⟨k1, a1, a2⟩ := Vm.findClass_spec e2
    obtain ⟨k2, b1, b2⟩ := Vm.findClass_spec g3
    cases a1.symm.trans b1
    exact absurd (a2.symm.trans b2) (by decide)
end OwnKitS

def own_ws (x : Int32) : Int32 := if x &&& 3 = 0 then 32 else if x &&& 3 = 1 then 9 else if x &&& 3 = 2 then 13 else 10
def own_is (c : Int32) : Int32 := if c = 32 then 1 else if c = 9 then 1 else if c = 13 then 1 else if c = 10 then 1 else 0
def own_non (x : Int32) : Int32 := if own_is ((x &&& 65535).toUInt32.toUInt16.toUInt32.toInt32) = 0 then nar .char ((x &&& 65535).toUInt32.toUInt16.toUInt32.toInt32) else 160
def own_any (x : Int32) : Int32 := if x &&& 65536 = 0 then nar .char ((x &&& 65535).toUInt32.toUInt16.toUInt32.toInt32) else own_ws ((x.toUInt32 >>> ((17 : Int32) &&& 31).toUInt32).toInt32)
def own_pick (i a k x : Int32) : Int32 := if i < a then own_ws x else if i < a + k then (if i = a then own_non x else if i = a + k - 1 then own_non x else own_any x) else own_ws x
theorem own_ws_ch (x : Int32) : own_ch (own_ws x) := by unfold own_ws own_ch; (repeat' split) <;> decide
theorem own_ws_is (x : Int32) : own_is (own_ws x) = 1 := by unfold own_ws; (repeat' split) <;> decide
theorem own_non_ch (x : Int32) : own_ch (own_non x) := by
  unfold own_non; split
  · exact own_nar_ok _
  · unfold own_ch; decide
theorem own_nn (y : Int32) : nar .char (y.toUInt32.toUInt16.toUInt32.toInt32) = y.toUInt32.toUInt16.toUInt32.toInt32 := own_nar _ (c_i2c y).2
theorem own_non_is (x : Int32) : own_is (own_non x) = 0 := by
  unfold own_non; split
  · rw [own_nn]; assumption
  · decide
theorem own_any_ch (x : Int32) : own_ch (own_any x) := by
  unfold own_any; split
  · exact own_nar_ok _
  · exact own_ws_ch _
theorem own_pick_ch (i a k x : Int32) : own_ch (own_pick i a k x) := by
  unfold own_pick
  by_cases h1 : i < a
  · rw [if_pos h1]; exact own_ws_ch x
  · rw [if_neg h1]
    by_cases h2 : i < a + k
    · rw [if_pos h2]
      by_cases h3 : i = a
      · rw [if_pos h3]; exact own_non_ch x
      · rw [if_neg h3]
        by_cases h4 : i = a + k - 1
        · rw [if_pos h4]; exact own_non_ch x
        · rw [if_neg h4]; exact own_any_ch x
    · rw [if_neg h2]; exact own_ws_ch x

theorem d2_0 : decode method_5_code 0 = .ok (.iload_n 0, 1) := by decide +kernel
theorem d2_1 : decode method_5_code 1 = .ok (.iconst 3, 1) := by decide +kernel
theorem d2_2 : decode method_5_code 2 = .ok (.iand, 1) := by decide +kernel
theorem d2_3 : decode method_5_code 3 = .ok (.istore_n 1, 1) := by decide +kernel
theorem d2_4 : decode method_5_code 4 = .ok (.iload_n 1, 1) := by decide +kernel
theorem d2_5 : decode method_5_code 5 = .ok (.ifCond .ne 6, 3) := by decide +kernel
theorem d2_8 : decode method_5_code 8 = .ok (.bipush 32, 2) := by decide +kernel
theorem d2_10 : decode method_5_code 10 = .ok (.ireturn, 1) := by decide +kernel
theorem d2_11 : decode method_5_code 11 = .ok (.iload_n 1, 1) := by decide +kernel
theorem d2_12 : decode method_5_code 12 = .ok (.iconst 1, 1) := by decide +kernel
theorem d2_13 : decode method_5_code 13 = .ok (.if_icmp .ne 6, 3) := by decide +kernel
theorem d2_16 : decode method_5_code 16 = .ok (.bipush 9, 2) := by decide +kernel
theorem d2_18 : decode method_5_code 18 = .ok (.ireturn, 1) := by decide +kernel
theorem d2_19 : decode method_5_code 19 = .ok (.iload_n 1, 1) := by decide +kernel
theorem d2_20 : decode method_5_code 20 = .ok (.iconst 2, 1) := by decide +kernel
theorem d2_21 : decode method_5_code 21 = .ok (.if_icmp .ne 6, 3) := by decide +kernel
theorem d2_24 : decode method_5_code 24 = .ok (.bipush 13, 2) := by decide +kernel
theorem d2_26 : decode method_5_code 26 = .ok (.ireturn, 1) := by decide +kernel
theorem d2_27 : decode method_5_code 27 = .ok (.bipush 10, 2) := by decide +kernel
theorem d2_29 : decode method_5_code 29 = .ok (.ireturn, 1) := by decide +kernel
theorem pn_2 : plainFor (⟨"adjunct/core/XmlSpaceStripPinLaw", "ws", "(I)C"⟩ : MethodName) = true := plainFor_of_name (by first | (simp [plainName, overriddenIn]; done) | decide +kernel)
theorem ef_2 (m : MethodId) (x0 : Int32) : entryFrame m #[(.int x0)] 2 = mkF m 0 #[.val (.int x0), .unset] [] := by first | (simp [entryFrame, mkF, argsToLocals, Value.category]; done) | rfl
def Q2 (Z : State) (p1 : Int32)  (h0 : Heap) (n0 : Nat) (v : Option Value) (h : Heap) (L : List Loc) : Prop := v = some (.int (own_ws p1)) ∧ Fr n0 L ∧ h = h0
set_option maxRecDepth 65536 in
set_option maxHeartbeats 40000000 in
theorem rm2 (l : Launch) (Z : State) (a0 : Array Value) (hw : ∀ d ∈ tables_1, d.before a0 Z = true) (ws : List Jvm.Cond) (p1 : Int32)  (h0 : Heap) (n0 : Nat) (Z0 : n0 ≤ h0.size) :
    MetFree l (⟨"adjunct/core/XmlSpaceStripPinLaw", "ws", "(I)C"⟩ : MethodName) (head1 (Jvm.Cond.code (⟨"adjunct/core/XmlSpaceStripPinLaw", "ws", "(I)C"⟩ : MethodName) method_5_code 2 (some .char) :: ws) ({ frames := 0, cells := 0, slots := 0, locals := 0 } : Room)) (fun a U => a = #[(.int p1)] ∧ Z.Warmed39 U.vm ∧ U.heap = h0) (fun _ _ _ _ _ => True) (fun _ U o U' => ∃ v L, o = .returned v ∧ Q2 Z p1 h0 n0 v U'.heap L ∧ FrameEnd U o U' L ({ frames := 0, cells := 0, slots := 0, locals := 0 } : Room).cells ({ frames := 0, cells := 0, slots := 0, locals := 0 } : Room).slots) := by
  refine MetFree.of_bodySF pn_2 hisR ?_
  intro p e s m args below meth c s₁ Bd hml0 hP hK
  obtain ⟨rfl, hZ, hh⟩ := hP
  have hx := Bd.exec
  have hby := Bd.bytes
  have hml : c.maxLocals = 2 := hml0
  have hown : s.vm.findClass "adjunct/core/XmlSpaceStripPinLaw" = some m.cls := findClass_of_methodNamed Bd.named
  have hnm := (name_of_methodNamed Bd.named Bd.method).1
  have X0 : Stand p l e ({ frames := 0, cells := 0, slots := 0, locals := 0 } : Room) s m #[(.int p1)] below meth c s₁ [] 0 0 := Stand.of_body Bd
  have e0 : s₁.heap = h0 := by rw [← hh, Bd.state]; rfl
  have N0 := Fr.nil n0
  refine own_start (Q := Q2 Z p1 h0 n0) (own_cast (ef_2 m p1) ?_)
  show Go p.tables e below _ (s₁.setTop (mkF m 0 #[.val (.int p1), .unset] []))
  refine Go.st (fun U hr => XS.iloadN X0.here hx rfl (hb hby d2_0) rfl hr) ?_
  show Go p.tables e below _ (s₁.setTop (mkF m 1 #[.val (.int p1), .unset] [(.int p1)]))
  refine Go.st (fun U hr => XS.iconst X0.here hx rfl (hb hby d2_1) hr) ?_
  show Go p.tables e below _ (s₁.setTop (mkF m 2 #[.val (.int p1), .unset] [(.int (3 : Int32)), (.int p1)]))
  refine Go.st (fun U hr => XS.iand X0.here hx rfl (hb hby d2_2) rfl hr) ?_
  show Go p.tables e below _ (s₁.setTop (mkF m 3 #[.val (.int p1), .unset] [(.int (p1 &&& (3 : Int32)))]))
  refine Go.st (fun U hr => XS.istoreN X0.here hx rfl (hb hby d2_3) rfl (l' := #[.val (.int p1), .val (.int (p1 &&& (3 : Int32)))]) rfl hr) ?_
  show Go p.tables e below _ (s₁.setTop (mkF m 4 #[.val (.int p1), .val (.int (p1 &&& (3 : Int32)))] []))
  refine Go.st (fun U hr => XS.iloadN X0.here hx rfl (hb hby d2_4) rfl hr) ?_
  show Go p.tables e below _ (s₁.setTop (mkF m 5 #[.val (.int p1), .val (.int (p1 &&& (3 : Int32)))] [(.int (p1 &&& (3 : Int32)))]))
  by_cases hc5_1 : (p1 &&& (3 : Int32)) = (0 : Int32)
  · refine Go.st (fun U hr => XS.ifNo X0.here hx rfl (hb hby d2_5) rfl ((if0 _ _).trans (teq hc5_1).2) hr) ?_
    show Go p.tables e below _ (s₁.setTop (mkF m 8 #[.val (.int p1), .val (.int (p1 &&& (3 : Int32)))] []))
    refine Go.st (fun U hr => XS.bipush X0.here hx rfl (hb hby d2_8) hr) ?_
    show Go p.tables e below _ (s₁.setTop (mkF m 10 #[.val (.int p1), .val (.int (p1 &&& (3 : Int32)))] [(.int (32 : Int32))]))
    exact own_retN X0 hx Bd.notSynchronized (t := .char) Bd.returns (by simp) (hb hby d2_10) ⟨by rw [show nar .char (32 : Int32) = (32 : Int32) from by decide]; simp [own_ws, hc5_1], N0, e0⟩ (by decide) (by decide)
  · refine Go.st (fun U hr => XS.ifYes X0.here hx rfl (pc0 := 5) (pc' := 11) rfl (hb hby d2_5) rfl ((if0 _ _).trans (feq hc5_1).2) (by decide) (by decide) hr) ?_
    show Go p.tables e below _ (s₁.setTop (mkF m 11 #[.val (.int p1), .val (.int (p1 &&& (3 : Int32)))] []))
    refine Go.st (fun U hr => XS.iloadN X0.here hx rfl (hb hby d2_11) rfl hr) ?_
    show Go p.tables e below _ (s₁.setTop (mkF m 12 #[.val (.int p1), .val (.int (p1 &&& (3 : Int32)))] [(.int (p1 &&& (3 : Int32)))]))
    refine Go.st (fun U hr => XS.iconst X0.here hx rfl (hb hby d2_12) hr) ?_
    show Go p.tables e below _ (s₁.setTop (mkF m 13 #[.val (.int p1), .val (.int (p1 &&& (3 : Int32)))] [(.int (1 : Int32)), (.int (p1 &&& (3 : Int32)))]))
    by_cases hc13_2 : (p1 &&& (3 : Int32)) = (1 : Int32)
    · refine Go.st (fun U hr => XS.icmpNo X0.here hx rfl (hb hby d2_13) rfl (teq hc13_2).2 hr) ?_
      show Go p.tables e below _ (s₁.setTop (mkF m 16 #[.val (.int p1), .val (.int (p1 &&& (3 : Int32)))] []))
      refine Go.st (fun U hr => XS.bipush X0.here hx rfl (hb hby d2_16) hr) ?_
      show Go p.tables e below _ (s₁.setTop (mkF m 18 #[.val (.int p1), .val (.int (p1 &&& (3 : Int32)))] [(.int (9 : Int32))]))
      exact own_retN X0 hx Bd.notSynchronized (t := .char) Bd.returns (by simp) (hb hby d2_18) ⟨by rw [show nar .char (9 : Int32) = (9 : Int32) from by decide]; simp [own_ws, hc5_1, hc13_2], N0, e0⟩ (by decide) (by decide)
    · refine Go.st (fun U hr => XS.icmpYes X0.here hx rfl (pc0 := 13) (pc' := 19) rfl (hb hby d2_13) rfl (feq hc13_2).2 (by decide) (by decide) hr) ?_
      show Go p.tables e below _ (s₁.setTop (mkF m 19 #[.val (.int p1), .val (.int (p1 &&& (3 : Int32)))] []))
      refine Go.st (fun U hr => XS.iloadN X0.here hx rfl (hb hby d2_19) rfl hr) ?_
      show Go p.tables e below _ (s₁.setTop (mkF m 20 #[.val (.int p1), .val (.int (p1 &&& (3 : Int32)))] [(.int (p1 &&& (3 : Int32)))]))
      refine Go.st (fun U hr => XS.iconst X0.here hx rfl (hb hby d2_20) hr) ?_
      show Go p.tables e below _ (s₁.setTop (mkF m 21 #[.val (.int p1), .val (.int (p1 &&& (3 : Int32)))] [(.int (2 : Int32)), (.int (p1 &&& (3 : Int32)))]))
      by_cases hc21_3 : (p1 &&& (3 : Int32)) = (2 : Int32)
      · refine Go.st (fun U hr => XS.icmpNo X0.here hx rfl (hb hby d2_21) rfl (teq hc21_3).2 hr) ?_
        show Go p.tables e below _ (s₁.setTop (mkF m 24 #[.val (.int p1), .val (.int (p1 &&& (3 : Int32)))] []))
        refine Go.st (fun U hr => XS.bipush X0.here hx rfl (hb hby d2_24) hr) ?_
        show Go p.tables e below _ (s₁.setTop (mkF m 26 #[.val (.int p1), .val (.int (p1 &&& (3 : Int32)))] [(.int (13 : Int32))]))
        exact own_retN X0 hx Bd.notSynchronized (t := .char) Bd.returns (by simp) (hb hby d2_26) ⟨by rw [show nar .char (13 : Int32) = (13 : Int32) from by decide]; simp [own_ws, hc5_1, hc13_2, hc21_3], N0, e0⟩ (by decide) (by decide)
      · refine Go.st (fun U hr => XS.icmpYes X0.here hx rfl (pc0 := 21) (pc' := 27) rfl (hb hby d2_21) rfl (feq hc21_3).2 (by decide) (by decide) hr) ?_
        show Go p.tables e below _ (s₁.setTop (mkF m 27 #[.val (.int p1), .val (.int (p1 &&& (3 : Int32)))] []))
        refine Go.st (fun U hr => XS.bipush X0.here hx rfl (hb hby d2_27) hr) ?_
        show Go p.tables e below _ (s₁.setTop (mkF m 29 #[.val (.int p1), .val (.int (p1 &&& (3 : Int32)))] [(.int (10 : Int32))]))
        exact own_retN X0 hx Bd.notSynchronized (t := .char) Bd.returns (by simp) (hb hby d2_29) ⟨by rw [show nar .char (10 : Int32) = (10 : Int32) from by decide]; simp [own_ws, hc5_1, hc13_2, hc21_3], N0, e0⟩ (by decide) (by decide)
theorem d25_0 : decode method_4_code 0 = .ok (.iload_n 0, 1) := by decide +kernel
theorem d25_1 : decode method_4_code 1 = .ok (.bipush 32, 2) := by decide +kernel
theorem d25_3 : decode method_4_code 3 = .ok (.if_icmp .eq 21, 3) := by decide +kernel
theorem d25_6 : decode method_4_code 6 = .ok (.iload_n 0, 1) := by decide +kernel
theorem d25_7 : decode method_4_code 7 = .ok (.bipush 9, 2) := by decide +kernel
theorem d25_9 : decode method_4_code 9 = .ok (.if_icmp .eq 15, 3) := by decide +kernel
theorem d25_12 : decode method_4_code 12 = .ok (.iload_n 0, 1) := by decide +kernel
theorem d25_13 : decode method_4_code 13 = .ok (.bipush 13, 2) := by decide +kernel
theorem d25_15 : decode method_4_code 15 = .ok (.if_icmp .eq 9, 3) := by decide +kernel
theorem d25_18 : decode method_4_code 18 = .ok (.iload_n 0, 1) := by decide +kernel
theorem d25_19 : decode method_4_code 19 = .ok (.bipush 10, 2) := by decide +kernel
theorem d25_21 : decode method_4_code 21 = .ok (.if_icmp .ne 7, 3) := by decide +kernel
theorem d25_24 : decode method_4_code 24 = .ok (.iconst 1, 1) := by decide +kernel
theorem d25_25 : decode method_4_code 25 = .ok (.goto 4, 3) := by decide +kernel
theorem d25_28 : decode method_4_code 28 = .ok (.iconst 0, 1) := by decide +kernel
theorem d25_29 : decode method_4_code 29 = .ok (.ireturn, 1) := by decide +kernel
theorem pn_25 : plainFor (⟨"adjunct/core/XmlSpaceStripPinLaw", "isWs", "(C)Z"⟩ : MethodName) = true := plainFor_of_name (by first | (simp [plainName, overriddenIn]; done) | decide +kernel)
theorem ef_25 (m : MethodId) (x0 : Int32) : entryFrame m #[(.int x0)] 1 = mkF m 0 #[.val (.int x0)] [] := by first | (simp [entryFrame, mkF, argsToLocals, Value.category]; done) | rfl
def Q25 (Z : State) (p1 : Int32)  (h0 : Heap) (n0 : Nat) (v : Option Value) (h : Heap) (L : List Loc) : Prop := v = some (.int (own_is p1)) ∧ Fr n0 L ∧ h = h0
set_option maxRecDepth 65536 in
set_option maxHeartbeats 40000000 in
theorem rm25 (l : Launch) (Z : State) (a0 : Array Value) (hw : ∀ d ∈ tables_1, d.before a0 Z = true) (ws : List Jvm.Cond) (p1 : Int32)  (h0 : Heap) (n0 : Nat) (Z0 : n0 ≤ h0.size) :
    MetFree l (⟨"adjunct/core/XmlSpaceStripPinLaw", "isWs", "(C)Z"⟩ : MethodName) (head1 (Jvm.Cond.code (⟨"adjunct/core/XmlSpaceStripPinLaw", "isWs", "(C)Z"⟩ : MethodName) method_4_code 1 (some .boolean) :: ws) ({ frames := 0, cells := 0, slots := 0, locals := 0 } : Room)) (fun a U => a = #[(.int p1)] ∧ Z.Warmed39 U.vm ∧ U.heap = h0) (fun _ _ _ _ _ => True) (fun _ U o U' => ∃ v L, o = .returned v ∧ Q25 Z p1 h0 n0 v U'.heap L ∧ FrameEnd U o U' L ({ frames := 0, cells := 0, slots := 0, locals := 0 } : Room).cells ({ frames := 0, cells := 0, slots := 0, locals := 0 } : Room).slots) := by
  refine MetFree.of_bodySF pn_25 hisR ?_
  intro p e s m args below meth c s₁ Bd hml0 hP hK
  obtain ⟨rfl, hZ, hh⟩ := hP
  have hx := Bd.exec
  have hby := Bd.bytes
  have hml : c.maxLocals = 1 := hml0
  have hown : s.vm.findClass "adjunct/core/XmlSpaceStripPinLaw" = some m.cls := findClass_of_methodNamed Bd.named
  have hnm := (name_of_methodNamed Bd.named Bd.method).1
  have X0 : Stand p l e ({ frames := 0, cells := 0, slots := 0, locals := 0 } : Room) s m #[(.int p1)] below meth c s₁ [] 0 0 := Stand.of_body Bd
  have e0 : s₁.heap = h0 := by rw [← hh, Bd.state]; rfl
  have N0 := Fr.nil n0
  refine own_start (Q := Q25 Z p1 h0 n0) (own_cast (ef_25 m p1) ?_)
  show Go p.tables e below _ (s₁.setTop (mkF m 0 #[.val (.int p1)] []))
  refine Go.st (fun U hr => XS.iloadN X0.here hx rfl (hb hby d25_0) rfl hr) ?_
  show Go p.tables e below _ (s₁.setTop (mkF m 1 #[.val (.int p1)] [(.int p1)]))
  refine Go.st (fun U hr => XS.bipush X0.here hx rfl (hb hby d25_1) hr) ?_
  show Go p.tables e below _ (s₁.setTop (mkF m 3 #[.val (.int p1)] [(.int (32 : Int32)), (.int p1)]))
  by_cases hc3_1 : p1 = (32 : Int32)
  · refine Go.st (fun U hr => XS.icmpYes X0.here hx rfl (pc0 := 3) (pc' := 24) rfl (hb hby d25_3) rfl (teq hc3_1).1 (by decide) (by decide) hr) ?_
    show Go p.tables e below _ (s₁.setTop (mkF m 24 #[.val (.int p1)] []))
    refine Go.st (fun U hr => XS.iconst X0.here hx rfl (hb hby d25_24) hr) ?_
    show Go p.tables e below _ (s₁.setTop (mkF m 25 #[.val (.int p1)] [(.int (1 : Int32))]))
    refine Go.st (fun U hr => XS.goto X0.here hx rfl (pc0 := 25) (pc' := 29) rfl (hb hby d25_25) (by decide) (by decide) hr) ?_
    show Go p.tables e below _ (s₁.setTop (mkF m 29 #[.val (.int p1)] [(.int (1 : Int32))]))
    exact own_retN X0 hx Bd.notSynchronized (t := .boolean) Bd.returns (by simp) (hb hby d25_29) ⟨by rw [show nar .boolean (1 : Int32) = (1 : Int32) from by decide]; simp [own_is, hc3_1], N0, e0⟩ (by decide) (by decide)
  · refine Go.st (fun U hr => XS.icmpNo X0.here hx rfl (hb hby d25_3) rfl (feq hc3_1).1 hr) ?_
    show Go p.tables e below _ (s₁.setTop (mkF m 6 #[.val (.int p1)] []))
    refine Go.st (fun U hr => XS.iloadN X0.here hx rfl (hb hby d25_6) rfl hr) ?_
    show Go p.tables e below _ (s₁.setTop (mkF m 7 #[.val (.int p1)] [(.int p1)]))
    refine Go.st (fun U hr => XS.bipush X0.here hx rfl (hb hby d25_7) hr) ?_
    show Go p.tables e below _ (s₁.setTop (mkF m 9 #[.val (.int p1)] [(.int (9 : Int32)), (.int p1)]))
    by_cases hc9_2 : p1 = (9 : Int32)
    · refine Go.st (fun U hr => XS.icmpYes X0.here hx rfl (pc0 := 9) (pc' := 24) rfl (hb hby d25_9) rfl (teq hc9_2).1 (by decide) (by decide) hr) ?_
      show Go p.tables e below _ (s₁.setTop (mkF m 24 #[.val (.int p1)] []))
      refine Go.st (fun U hr => XS.iconst X0.here hx rfl (hb hby d25_24) hr) ?_
      show Go p.tables e below _ (s₁.setTop (mkF m 25 #[.val (.int p1)] [(.int (1 : Int32))]))
      refine Go.st (fun U hr => XS.goto X0.here hx rfl (pc0 := 25) (pc' := 29) rfl (hb hby d25_25) (by decide) (by decide) hr) ?_
      show Go p.tables e below _ (s₁.setTop (mkF m 29 #[.val (.int p1)] [(.int (1 : Int32))]))
      exact own_retN X0 hx Bd.notSynchronized (t := .boolean) Bd.returns (by simp) (hb hby d25_29) ⟨by rw [show nar .boolean (1 : Int32) = (1 : Int32) from by decide]; simp [own_is, hc3_1, hc9_2], N0, e0⟩ (by decide) (by decide)
    · refine Go.st (fun U hr => XS.icmpNo X0.here hx rfl (hb hby d25_9) rfl (feq hc9_2).1 hr) ?_
      show Go p.tables e below _ (s₁.setTop (mkF m 12 #[.val (.int p1)] []))
      refine Go.st (fun U hr => XS.iloadN X0.here hx rfl (hb hby d25_12) rfl hr) ?_
      show Go p.tables e below _ (s₁.setTop (mkF m 13 #[.val (.int p1)] [(.int p1)]))
      refine Go.st (fun U hr => XS.bipush X0.here hx rfl (hb hby d25_13) hr) ?_
      show Go p.tables e below _ (s₁.setTop (mkF m 15 #[.val (.int p1)] [(.int (13 : Int32)), (.int p1)]))
      by_cases hc15_3 : p1 = (13 : Int32)
      · refine Go.st (fun U hr => XS.icmpYes X0.here hx rfl (pc0 := 15) (pc' := 24) rfl (hb hby d25_15) rfl (teq hc15_3).1 (by decide) (by decide) hr) ?_
        show Go p.tables e below _ (s₁.setTop (mkF m 24 #[.val (.int p1)] []))
        refine Go.st (fun U hr => XS.iconst X0.here hx rfl (hb hby d25_24) hr) ?_
        show Go p.tables e below _ (s₁.setTop (mkF m 25 #[.val (.int p1)] [(.int (1 : Int32))]))
        refine Go.st (fun U hr => XS.goto X0.here hx rfl (pc0 := 25) (pc' := 29) rfl (hb hby d25_25) (by decide) (by decide) hr) ?_
        show Go p.tables e below _ (s₁.setTop (mkF m 29 #[.val (.int p1)] [(.int (1 : Int32))]))
        exact own_retN X0 hx Bd.notSynchronized (t := .boolean) Bd.returns (by simp) (hb hby d25_29) ⟨by rw [show nar .boolean (1 : Int32) = (1 : Int32) from by decide]; simp [own_is, hc3_1, hc9_2, hc15_3], N0, e0⟩ (by decide) (by decide)
      · refine Go.st (fun U hr => XS.icmpNo X0.here hx rfl (hb hby d25_15) rfl (feq hc15_3).1 hr) ?_
        show Go p.tables e below _ (s₁.setTop (mkF m 18 #[.val (.int p1)] []))
        refine Go.st (fun U hr => XS.iloadN X0.here hx rfl (hb hby d25_18) rfl hr) ?_
        show Go p.tables e below _ (s₁.setTop (mkF m 19 #[.val (.int p1)] [(.int p1)]))
        refine Go.st (fun U hr => XS.bipush X0.here hx rfl (hb hby d25_19) hr) ?_
        show Go p.tables e below _ (s₁.setTop (mkF m 21 #[.val (.int p1)] [(.int (10 : Int32)), (.int p1)]))
        by_cases hc21_4 : p1 = (10 : Int32)
        · refine Go.st (fun U hr => XS.icmpNo X0.here hx rfl (hb hby d25_21) rfl (teq hc21_4).2 hr) ?_
          show Go p.tables e below _ (s₁.setTop (mkF m 24 #[.val (.int p1)] []))
          refine Go.st (fun U hr => XS.iconst X0.here hx rfl (hb hby d25_24) hr) ?_
          show Go p.tables e below _ (s₁.setTop (mkF m 25 #[.val (.int p1)] [(.int (1 : Int32))]))
          refine Go.st (fun U hr => XS.goto X0.here hx rfl (pc0 := 25) (pc' := 29) rfl (hb hby d25_25) (by decide) (by decide) hr) ?_
          show Go p.tables e below _ (s₁.setTop (mkF m 29 #[.val (.int p1)] [(.int (1 : Int32))]))
          exact own_retN X0 hx Bd.notSynchronized (t := .boolean) Bd.returns (by simp) (hb hby d25_29) ⟨by rw [show nar .boolean (1 : Int32) = (1 : Int32) from by decide]; simp [own_is, hc3_1, hc9_2, hc15_3, hc21_4], N0, e0⟩ (by decide) (by decide)
        · refine Go.st (fun U hr => XS.icmpYes X0.here hx rfl (pc0 := 21) (pc' := 28) rfl (hb hby d25_21) rfl (feq hc21_4).2 (by decide) (by decide) hr) ?_
          show Go p.tables e below _ (s₁.setTop (mkF m 28 #[.val (.int p1)] []))
          refine Go.st (fun U hr => XS.iconst X0.here hx rfl (hb hby d25_28) hr) ?_
          show Go p.tables e below _ (s₁.setTop (mkF m 29 #[.val (.int p1)] [(.int (0 : Int32))]))
          exact own_retN X0 hx Bd.notSynchronized (t := .boolean) Bd.returns (by simp) (hb hby d25_29) ⟨by rw [show nar .boolean (0 : Int32) = (0 : Int32) from by decide]; simp [own_is, hc3_1, hc9_2, hc15_3, hc21_4], N0, e0⟩ (by decide) (by decide)
theorem d17_0 : decode prog_65_method_2_code 0 = .ok (.iload_n 0, 1) := by decide +kernel
theorem d17_1 : decode prog_65_method_2_code 1 = .ok (.bipush 32, 2) := by decide +kernel
theorem d17_3 : decode prog_65_method_2_code 3 = .ok (.if_icmp .eq 21, 3) := by decide +kernel
theorem d17_6 : decode prog_65_method_2_code 6 = .ok (.iload_n 0, 1) := by decide +kernel
theorem d17_7 : decode prog_65_method_2_code 7 = .ok (.bipush 9, 2) := by decide +kernel
theorem d17_9 : decode prog_65_method_2_code 9 = .ok (.if_icmp .eq 15, 3) := by decide +kernel
theorem d17_12 : decode prog_65_method_2_code 12 = .ok (.iload_n 0, 1) := by decide +kernel
theorem d17_13 : decode prog_65_method_2_code 13 = .ok (.bipush 13, 2) := by decide +kernel
theorem d17_15 : decode prog_65_method_2_code 15 = .ok (.if_icmp .eq 9, 3) := by decide +kernel
theorem d17_18 : decode prog_65_method_2_code 18 = .ok (.iload_n 0, 1) := by decide +kernel
theorem d17_19 : decode prog_65_method_2_code 19 = .ok (.bipush 10, 2) := by decide +kernel
theorem d17_21 : decode prog_65_method_2_code 21 = .ok (.if_icmp .ne 7, 3) := by decide +kernel
theorem d17_24 : decode prog_65_method_2_code 24 = .ok (.iconst 1, 1) := by decide +kernel
theorem d17_25 : decode prog_65_method_2_code 25 = .ok (.goto 4, 3) := by decide +kernel
theorem d17_28 : decode prog_65_method_2_code 28 = .ok (.iconst 0, 1) := by decide +kernel
theorem d17_29 : decode prog_65_method_2_code 29 = .ok (.ireturn, 1) := by decide +kernel
theorem pn_17 : plainFor (⟨"adjunct/core/XmlSpace", "is", "(C)Z"⟩ : MethodName) = true := plainFor_of_name (by first | (simp [plainName, overriddenIn]; done) | decide +kernel)
theorem ef_17 (m : MethodId) (x0 : Int32) : entryFrame m #[(.int x0)] 1 = mkF m 0 #[.val (.int x0)] [] := by first | (simp [entryFrame, mkF, argsToLocals, Value.category]; done) | rfl
def Q17 (Z : State) (p1 : Int32)  (h0 : Heap) (n0 : Nat) (v : Option Value) (h : Heap) (L : List Loc) : Prop := v = some (.int (own_is p1)) ∧ Fr n0 L ∧ h = h0
set_option maxRecDepth 65536 in
set_option maxHeartbeats 40000000 in
theorem rm17 (l : Launch) (Z : State) (a0 : Array Value) (hw : ∀ d ∈ tables_1, d.before a0 Z = true) (ws : List Jvm.Cond) (p1 : Int32)  (h0 : Heap) (n0 : Nat) (Z0 : n0 ≤ h0.size) :
    MetFree l (⟨"adjunct/core/XmlSpace", "is", "(C)Z"⟩ : MethodName) (head1 (Jvm.Cond.code (⟨"adjunct/core/XmlSpace", "is", "(C)Z"⟩ : MethodName) prog_65_method_2_code 1 (some .boolean) :: ws) ({ frames := 0, cells := 0, slots := 0, locals := 0 } : Room)) (fun a U => a = #[(.int p1)] ∧ Z.Warmed39 U.vm ∧ U.heap = h0) (fun _ _ _ _ _ => True) (fun _ U o U' => ∃ v L, o = .returned v ∧ Q17 Z p1 h0 n0 v U'.heap L ∧ FrameEnd U o U' L ({ frames := 0, cells := 0, slots := 0, locals := 0 } : Room).cells ({ frames := 0, cells := 0, slots := 0, locals := 0 } : Room).slots) := by
  refine MetFree.of_bodySF pn_17 hisR ?_
  intro p e s m args below meth c s₁ Bd hml0 hP hK
  obtain ⟨rfl, hZ, hh⟩ := hP
  have hx := Bd.exec
  have hby := Bd.bytes
  have hml : c.maxLocals = 1 := hml0
  have hown : s.vm.findClass "adjunct/core/XmlSpace" = some m.cls := findClass_of_methodNamed Bd.named
  have hnm := (name_of_methodNamed Bd.named Bd.method).1
  have X0 : Stand p l e ({ frames := 0, cells := 0, slots := 0, locals := 0 } : Room) s m #[(.int p1)] below meth c s₁ [] 0 0 := Stand.of_body Bd
  have e0 : s₁.heap = h0 := by rw [← hh, Bd.state]; rfl
  have N0 := Fr.nil n0
  refine own_start (Q := Q17 Z p1 h0 n0) (own_cast (ef_17 m p1) ?_)
  show Go p.tables e below _ (s₁.setTop (mkF m 0 #[.val (.int p1)] []))
  refine Go.st (fun U hr => XS.iloadN X0.here hx rfl (hb hby d17_0) rfl hr) ?_
  show Go p.tables e below _ (s₁.setTop (mkF m 1 #[.val (.int p1)] [(.int p1)]))
  refine Go.st (fun U hr => XS.bipush X0.here hx rfl (hb hby d17_1) hr) ?_
  show Go p.tables e below _ (s₁.setTop (mkF m 3 #[.val (.int p1)] [(.int (32 : Int32)), (.int p1)]))
  by_cases hc3_1 : p1 = (32 : Int32)
  · refine Go.st (fun U hr => XS.icmpYes X0.here hx rfl (pc0 := 3) (pc' := 24) rfl (hb hby d17_3) rfl (teq hc3_1).1 (by decide) (by decide) hr) ?_
    show Go p.tables e below _ (s₁.setTop (mkF m 24 #[.val (.int p1)] []))
    refine Go.st (fun U hr => XS.iconst X0.here hx rfl (hb hby d17_24) hr) ?_
    show Go p.tables e below _ (s₁.setTop (mkF m 25 #[.val (.int p1)] [(.int (1 : Int32))]))
    refine Go.st (fun U hr => XS.goto X0.here hx rfl (pc0 := 25) (pc' := 29) rfl (hb hby d17_25) (by decide) (by decide) hr) ?_
    show Go p.tables e below _ (s₁.setTop (mkF m 29 #[.val (.int p1)] [(.int (1 : Int32))]))
    exact own_retN X0 hx Bd.notSynchronized (t := .boolean) Bd.returns (by simp) (hb hby d17_29) ⟨by rw [show nar .boolean (1 : Int32) = (1 : Int32) from by decide]; simp [own_is, hc3_1], N0, e0⟩ (by decide) (by decide)
  · refine Go.st (fun U hr => XS.icmpNo X0.here hx rfl (hb hby d17_3) rfl (feq hc3_1).1 hr) ?_
    show Go p.tables e below _ (s₁.setTop (mkF m 6 #[.val (.int p1)] []))
    refine Go.st (fun U hr => XS.iloadN X0.here hx rfl (hb hby d17_6) rfl hr) ?_
    show Go p.tables e below _ (s₁.setTop (mkF m 7 #[.val (.int p1)] [(.int p1)]))
    refine Go.st (fun U hr => XS.bipush X0.here hx rfl (hb hby d17_7) hr) ?_
    show Go p.tables e below _ (s₁.setTop (mkF m 9 #[.val (.int p1)] [(.int (9 : Int32)), (.int p1)]))
    by_cases hc9_2 : p1 = (9 : Int32)
    · refine Go.st (fun U hr => XS.icmpYes X0.here hx rfl (pc0 := 9) (pc' := 24) rfl (hb hby d17_9) rfl (teq hc9_2).1 (by decide) (by decide) hr) ?_
      show Go p.tables e below _ (s₁.setTop (mkF m 24 #[.val (.int p1)] []))
      refine Go.st (fun U hr => XS.iconst X0.here hx rfl (hb hby d17_24) hr) ?_
      show Go p.tables e below _ (s₁.setTop (mkF m 25 #[.val (.int p1)] [(.int (1 : Int32))]))
      refine Go.st (fun U hr => XS.goto X0.here hx rfl (pc0 := 25) (pc' := 29) rfl (hb hby d17_25) (by decide) (by decide) hr) ?_
      show Go p.tables e below _ (s₁.setTop (mkF m 29 #[.val (.int p1)] [(.int (1 : Int32))]))
      exact own_retN X0 hx Bd.notSynchronized (t := .boolean) Bd.returns (by simp) (hb hby d17_29) ⟨by rw [show nar .boolean (1 : Int32) = (1 : Int32) from by decide]; simp [own_is, hc3_1, hc9_2], N0, e0⟩ (by decide) (by decide)
    · refine Go.st (fun U hr => XS.icmpNo X0.here hx rfl (hb hby d17_9) rfl (feq hc9_2).1 hr) ?_
      show Go p.tables e below _ (s₁.setTop (mkF m 12 #[.val (.int p1)] []))
      refine Go.st (fun U hr => XS.iloadN X0.here hx rfl (hb hby d17_12) rfl hr) ?_
      show Go p.tables e below _ (s₁.setTop (mkF m 13 #[.val (.int p1)] [(.int p1)]))
      refine Go.st (fun U hr => XS.bipush X0.here hx rfl (hb hby d17_13) hr) ?_
      show Go p.tables e below _ (s₁.setTop (mkF m 15 #[.val (.int p1)] [(.int (13 : Int32)), (.int p1)]))
      by_cases hc15_3 : p1 = (13 : Int32)
      · refine Go.st (fun U hr => XS.icmpYes X0.here hx rfl (pc0 := 15) (pc' := 24) rfl (hb hby d17_15) rfl (teq hc15_3).1 (by decide) (by decide) hr) ?_
        show Go p.tables e below _ (s₁.setTop (mkF m 24 #[.val (.int p1)] []))
        refine Go.st (fun U hr => XS.iconst X0.here hx rfl (hb hby d17_24) hr) ?_
        show Go p.tables e below _ (s₁.setTop (mkF m 25 #[.val (.int p1)] [(.int (1 : Int32))]))
        refine Go.st (fun U hr => XS.goto X0.here hx rfl (pc0 := 25) (pc' := 29) rfl (hb hby d17_25) (by decide) (by decide) hr) ?_
        show Go p.tables e below _ (s₁.setTop (mkF m 29 #[.val (.int p1)] [(.int (1 : Int32))]))
        exact own_retN X0 hx Bd.notSynchronized (t := .boolean) Bd.returns (by simp) (hb hby d17_29) ⟨by rw [show nar .boolean (1 : Int32) = (1 : Int32) from by decide]; simp [own_is, hc3_1, hc9_2, hc15_3], N0, e0⟩ (by decide) (by decide)
      · refine Go.st (fun U hr => XS.icmpNo X0.here hx rfl (hb hby d17_15) rfl (feq hc15_3).1 hr) ?_
        show Go p.tables e below _ (s₁.setTop (mkF m 18 #[.val (.int p1)] []))
        refine Go.st (fun U hr => XS.iloadN X0.here hx rfl (hb hby d17_18) rfl hr) ?_
        show Go p.tables e below _ (s₁.setTop (mkF m 19 #[.val (.int p1)] [(.int p1)]))
        refine Go.st (fun U hr => XS.bipush X0.here hx rfl (hb hby d17_19) hr) ?_
        show Go p.tables e below _ (s₁.setTop (mkF m 21 #[.val (.int p1)] [(.int (10 : Int32)), (.int p1)]))
        by_cases hc21_4 : p1 = (10 : Int32)
        · refine Go.st (fun U hr => XS.icmpNo X0.here hx rfl (hb hby d17_21) rfl (teq hc21_4).2 hr) ?_
          show Go p.tables e below _ (s₁.setTop (mkF m 24 #[.val (.int p1)] []))
          refine Go.st (fun U hr => XS.iconst X0.here hx rfl (hb hby d17_24) hr) ?_
          show Go p.tables e below _ (s₁.setTop (mkF m 25 #[.val (.int p1)] [(.int (1 : Int32))]))
          refine Go.st (fun U hr => XS.goto X0.here hx rfl (pc0 := 25) (pc' := 29) rfl (hb hby d17_25) (by decide) (by decide) hr) ?_
          show Go p.tables e below _ (s₁.setTop (mkF m 29 #[.val (.int p1)] [(.int (1 : Int32))]))
          exact own_retN X0 hx Bd.notSynchronized (t := .boolean) Bd.returns (by simp) (hb hby d17_29) ⟨by rw [show nar .boolean (1 : Int32) = (1 : Int32) from by decide]; simp [own_is, hc3_1, hc9_2, hc15_3, hc21_4], N0, e0⟩ (by decide) (by decide)
        · refine Go.st (fun U hr => XS.icmpYes X0.here hx rfl (pc0 := 21) (pc' := 28) rfl (hb hby d17_21) rfl (feq hc21_4).2 (by decide) (by decide) hr) ?_
          show Go p.tables e below _ (s₁.setTop (mkF m 28 #[.val (.int p1)] []))
          refine Go.st (fun U hr => XS.iconst X0.here hx rfl (hb hby d17_28) hr) ?_
          show Go p.tables e below _ (s₁.setTop (mkF m 29 #[.val (.int p1)] [(.int (0 : Int32))]))
          exact own_retN X0 hx Bd.notSynchronized (t := .boolean) Bd.returns (by simp) (hb hby d17_29) ⟨by rw [show nar .boolean (0 : Int32) = (0 : Int32) from by decide]; simp [own_is, hc3_1, hc9_2, hc15_3, hc21_4], N0, e0⟩ (by decide) (by decide)
theorem d24_0 : decode method_6_code 0 = .ok (.iload_n 0, 1) := by decide +kernel
theorem d24_1 : decode method_6_code 1 = .ok (.ldc 41, 2) := by decide +kernel
theorem d24_3 : decode method_6_code 3 = .ok (.iand, 1) := by decide +kernel
theorem d24_4 : decode method_6_code 4 = .ok (.i2c, 1) := by decide +kernel
theorem d24_5 : decode method_6_code 5 = .ok (.istore_n 1, 1) := by decide +kernel
theorem d24_6 : decode method_6_code 6 = .ok (.iload_n 1, 1) := by decide +kernel
theorem d24_7 : decode method_6_code 7 = .ok (.invokestatic 42, 3) := by decide +kernel
theorem d24_10 : decode method_6_code 10 = .ok (.ifCond .eq 7, 3) := by decide +kernel
theorem d24_13 : decode method_6_code 13 = .ok (.sipush 160, 3) := by decide +kernel
theorem d24_16 : decode method_6_code 16 = .ok (.ireturn, 1) := by decide +kernel
theorem d24_17 : decode method_6_code 17 = .ok (.iload_n 1, 1) := by decide +kernel
theorem d24_18 : decode method_6_code 18 = .ok (.ireturn, 1) := by decide +kernel
theorem pn_24 : plainFor (⟨"adjunct/core/XmlSpaceStripPinLaw", "nonWs", "(I)C"⟩ : MethodName) = true := plainFor_of_name (by first | (simp [plainName, overriddenIn]; done) | decide +kernel)
theorem ef_24 (m : MethodId) (x0 : Int32) : entryFrame m #[(.int x0)] 2 = mkF m 0 #[.val (.int x0), .unset] [] := by first | (simp [entryFrame, mkF, argsToLocals, Value.category]; done) | rfl
theorem pd_0 : parseMethodDescriptor "(C)Z" = some ⟨[.char], some .boolean⟩ := by decide +kernel
def Q24 (Z : State) (p1 : Int32)  (h0 : Heap) (n0 : Nat) (v : Option Value) (h : Heap) (L : List Loc) : Prop := v = some (.int (own_non p1)) ∧ Fr n0 L ∧ h = h0
set_option maxRecDepth 65536 in
set_option maxHeartbeats 40000000 in
theorem rm24 (l : Launch) (Z : State) (a0 : Array Value) (hw : ∀ d ∈ tables_1, d.before a0 Z = true) (ws : List Jvm.Cond) (p1 : Int32)  (h0 : Heap) (n0 : Nat) (Z0 : n0 ≤ h0.size) :
    MetFree l (⟨"adjunct/core/XmlSpaceStripPinLaw", "nonWs", "(I)C"⟩ : MethodName) (head1 (Jvm.Cond.code (⟨"adjunct/core/XmlSpaceStripPinLaw", "nonWs", "(I)C"⟩ : MethodName) method_6_code 2 (some .char) :: ws) ({ frames := 1, cells := 0, slots := 0, locals := 12 } : Room)) (fun a U => a = #[(.int p1)] ∧ Z.Warmed39 U.vm ∧ U.heap = h0) (fun _ _ _ _ _ => True) (fun _ U o U' => ∃ v L, o = .returned v ∧ Q24 Z p1 h0 n0 v U'.heap L ∧ FrameEnd U o U' L ({ frames := 1, cells := 0, slots := 0, locals := 12 } : Room).cells ({ frames := 1, cells := 0, slots := 0, locals := 12 } : Room).slots) := by
  refine MetFree.of_bodySF pn_24 hisR ?_
  intro p e s m args below meth c s₁ Bd hml0 hP hK
  obtain ⟨rfl, hZ, hh⟩ := hP
  have hx := Bd.exec
  have hby := Bd.bytes
  have hml : c.maxLocals = 2 := hml0
  have hown : s.vm.findClass "adjunct/core/XmlSpaceStripPinLaw" = some m.cls := findClass_of_methodNamed Bd.named
  have hnm := (name_of_methodNamed Bd.named Bd.method).1
  have X0 : Stand p l e ({ frames := 1, cells := 0, slots := 0, locals := 12 } : Room) s m #[(.int p1)] below meth c s₁ [] 0 0 := Stand.of_body Bd
  have e0 : s₁.heap = h0 := by rw [← hh, Bd.state]; rfl
  have N0 := Fr.nil n0
  refine own_start (Q := Q24 Z p1 h0 n0) (own_cast (ef_24 m p1) ?_)
  show Go p.tables e below _ (s₁.setTop (mkF m 0 #[.val (.int p1), .unset] []))
  refine Go.st (fun U hr => XS.iloadN X0.here hx rfl (hb hby d24_0) rfl hr) ?_
  show Go p.tables e below _ (s₁.setTop (mkF m 1 #[.val (.int p1), .unset] [(.int p1)]))
  refine Go.st (X0.ldcInt hx hown (mvT hZ (hw _ (List.mem_of_getElem? (i := 108) rfl))) (g := (mkF m 1 #[.val (.int p1), .unset] [(.int p1)])) rfl (hb hby d24_1)) ?_
  show Go p.tables e below _ (s₁.setTop (mkF m 3 #[.val (.int p1), .unset] [(.int (65535 : Int32)), (.int p1)]))
  refine Go.st (fun U hr => XS.iand X0.here hx rfl (hb hby d24_3) rfl hr) ?_
  show Go p.tables e below _ (s₁.setTop (mkF m 4 #[.val (.int p1), .unset] [(.int (p1 &&& (65535 : Int32)))]))
  refine Go.st (fun U hr => XS.i2c X0.here hx rfl (hb hby d24_4) rfl hr) ?_
  show Go p.tables e below _ (s₁.setTop (mkF m 5 #[.val (.int p1), .unset] [(.int ((p1 &&& (65535 : Int32)).toUInt32.toUInt16.toUInt32.toInt32))]))
  refine Go.st (fun U hr => XS.istoreN X0.here hx rfl (hb hby d24_5) rfl (l' := #[.val (.int p1), .val (.int ((p1 &&& (65535 : Int32)).toUInt32.toUInt16.toUInt32.toInt32))]) rfl hr) ?_
  show Go p.tables e below _ (s₁.setTop (mkF m 6 #[.val (.int p1), .val (.int ((p1 &&& (65535 : Int32)).toUInt32.toUInt16.toUInt32.toInt32))] []))
  refine Go.st (fun U hr => XS.iloadN X0.here hx rfl (hb hby d24_6) rfl hr) ?_
  show Go p.tables e below _ (s₁.setTop (mkF m 7 #[.val (.int p1), .val (.int ((p1 &&& (65535 : Int32)).toUInt32.toUInt16.toUInt32.toInt32))] [(.int ((p1 &&& (65535 : Int32)).toUInt32.toUInt16.toUInt32.toInt32))]))
  obtain ⟨_, _, ⟨T1, L1, k1, n1⟩, -, X1, ⟨Lc1, hQ1, l1, y1, z1⟩, st1⟩ := Jvm.LawKit.callS X0 hx (y := (⟨"adjunct/core/XmlSpaceStripPinLaw", "isWs", "(C)Z"⟩ : MethodName)) hown (mvT hZ (hw _ (List.mem_of_getElem? (i := 109) rfl))) (mvT hZ (hw _ (List.mem_of_getElem? (i := 110) rfl))) (mvT hZ (hw _ (List.mem_of_getElem? (i := 4) rfl))) (mvT hZ (hw _ (List.mem_of_getElem? (i := 111) rfl))) (by decide) (backOf (W := 0) (rm25 l Z a0 hw [] ((p1 &&& (65535 : Int32)).toUInt32.toUInt16.toUInt32.toInt32) h0 n0 Z0 ) hZ (hw _ (List.mem_of_getElem? (i := 111) rfl)) (hw _ (List.mem_of_getElem? (i := 4) rfl)) (by decide) (by decide)) (g := (mkF m 7 #[.val (.int p1), .val (.int ((p1 &&& (65535 : Int32)).toUInt32.toUInt16.toUInt32.toInt32))] [(.int ((p1 &&& (65535 : Int32)).toUInt32.toUInt16.toUInt32.toInt32))])) rfl (by rw [hml]; rfl) (argsL := [(.int ((p1 &&& (65535 : Int32)).toUInt32.toUInt16.toUInt32.toInt32))]) (rest := []) (lenOf pd_0 rfl) rfl (by show 2 * 0 + _ ≤ _; exact Nat.le_of_eq rfl) (hb hby d24_7) (fun _ _ => ⟨rfl, e0, (by decide : 0 + 0 ≤ _), (by decide : 0 + 0 ≤ _)⟩)
  dsimp only [Pt.U, Pt.locs, Pt.cells, Pt.slots] at X1 l1 y1 z1 st1 hQ1
  subst l1 y1 z1
  obtain ⟨rfl, Nq1, ee1⟩ := hQ1
  have N1 := Fr.app N0 Nq1
  refine Go.st st1 ?_
  show Go p.tables e below _ (T1.setTop (mkF m 10 #[.val (.int p1), .val (.int ((p1 &&& (65535 : Int32)).toUInt32.toUInt16.toUInt32.toInt32))] [(.int (own_is ((p1 &&& (65535 : Int32)).toUInt32.toUInt16.toUInt32.toInt32)))]))
  by_cases hc10_2 : (own_is ((p1 &&& (65535 : Int32)).toUInt32.toUInt16.toUInt32.toInt32)) = (0 : Int32)
  · refine Go.st (fun U hr => XS.ifYes X1.here hx rfl (pc0 := 10) (pc' := 17) rfl (hb hby d24_10) rfl ((if0 _ _).trans (teq hc10_2).1) (by decide) (by decide) hr) ?_
    show Go p.tables e below _ (T1.setTop (mkF m 17 #[.val (.int p1), .val (.int ((p1 &&& (65535 : Int32)).toUInt32.toUInt16.toUInt32.toInt32))] []))
    refine Go.st (fun U hr => XS.iloadN X1.here hx rfl (hb hby d24_17) rfl hr) ?_
    show Go p.tables e below _ (T1.setTop (mkF m 18 #[.val (.int p1), .val (.int ((p1 &&& (65535 : Int32)).toUInt32.toUInt16.toUInt32.toInt32))] [(.int ((p1 &&& (65535 : Int32)).toUInt32.toUInt16.toUInt32.toInt32))]))
    exact own_retN X1 hx Bd.notSynchronized (t := .char) Bd.returns (by simp) (hb hby d24_18) ⟨by unfold own_non; rw [if_pos hc10_2], N1, ee1⟩ (by decide) (by decide)
  · refine Go.st (fun U hr => XS.ifNo X1.here hx rfl (hb hby d24_10) rfl ((if0 _ _).trans (feq hc10_2).1) hr) ?_
    show Go p.tables e below _ (T1.setTop (mkF m 13 #[.val (.int p1), .val (.int ((p1 &&& (65535 : Int32)).toUInt32.toUInt16.toUInt32.toInt32))] []))
    refine Go.st (fun U hr => XS.sipush X1.here hx rfl (hb hby d24_13) hr) ?_
    show Go p.tables e below _ (T1.setTop (mkF m 16 #[.val (.int p1), .val (.int ((p1 &&& (65535 : Int32)).toUInt32.toUInt16.toUInt32.toInt32))] [(.int (160 : Int32))]))
    exact own_retN X1 hx Bd.notSynchronized (t := .char) Bd.returns (by simp) (hb hby d24_16) ⟨by rw [show nar .char (160 : Int32) = 160 from by decide]; unfold own_non; rw [if_neg hc10_2], N1, ee1⟩ (by decide) (by decide)
theorem d26_0 : decode method_7_code 0 = .ok (.iload_n 0, 1) := by decide +kernel
theorem d26_1 : decode method_7_code 1 = .ok (.ldc 46, 2) := by decide +kernel
theorem d26_3 : decode method_7_code 3 = .ok (.iand, 1) := by decide +kernel
theorem d26_4 : decode method_7_code 4 = .ok (.ifCond .eq 11, 3) := by decide +kernel
theorem d26_7 : decode method_7_code 7 = .ok (.iload_n 0, 1) := by decide +kernel
theorem d26_8 : decode method_7_code 8 = .ok (.bipush 17, 2) := by decide +kernel
theorem d26_10 : decode method_7_code 10 = .ok (.iushr, 1) := by decide +kernel
theorem d26_11 : decode method_7_code 11 = .ok (.invokestatic 47, 3) := by decide +kernel
theorem d26_14 : decode method_7_code 14 = .ok (.ireturn, 1) := by decide +kernel
theorem d26_15 : decode method_7_code 15 = .ok (.iload_n 0, 1) := by decide +kernel
theorem d26_16 : decode method_7_code 16 = .ok (.ldc 41, 2) := by decide +kernel
theorem d26_18 : decode method_7_code 18 = .ok (.iand, 1) := by decide +kernel
theorem d26_19 : decode method_7_code 19 = .ok (.i2c, 1) := by decide +kernel
theorem d26_20 : decode method_7_code 20 = .ok (.ireturn, 1) := by decide +kernel
theorem pn_26 : plainFor (⟨"adjunct/core/XmlSpaceStripPinLaw", "any", "(I)C"⟩ : MethodName) = true := plainFor_of_name (by first | (simp [plainName, overriddenIn]; done) | decide +kernel)
theorem ef_26 (m : MethodId) (x0 : Int32) : entryFrame m #[(.int x0)] 1 = mkF m 0 #[.val (.int x0)] [] := by first | (simp [entryFrame, mkF, argsToLocals, Value.category]; done) | rfl
theorem pd_1 : parseMethodDescriptor "(I)C" = some ⟨[.int], some .char⟩ := by decide +kernel
def Q26 (Z : State) (p1 : Int32)  (h0 : Heap) (n0 : Nat) (v : Option Value) (h : Heap) (L : List Loc) : Prop := v = some (.int (own_any p1)) ∧ Fr n0 L ∧ h = h0
set_option maxRecDepth 65536 in
set_option maxHeartbeats 40000000 in
theorem rm26 (l : Launch) (Z : State) (a0 : Array Value) (hw : ∀ d ∈ tables_1, d.before a0 Z = true) (ws : List Jvm.Cond) (p1 : Int32)  (h0 : Heap) (n0 : Nat) (Z0 : n0 ≤ h0.size) :
    MetFree l (⟨"adjunct/core/XmlSpaceStripPinLaw", "any", "(I)C"⟩ : MethodName) (head1 (Jvm.Cond.code (⟨"adjunct/core/XmlSpaceStripPinLaw", "any", "(I)C"⟩ : MethodName) method_7_code 1 (some .char) :: ws) ({ frames := 1, cells := 0, slots := 0, locals := 13 } : Room)) (fun a U => a = #[(.int p1)] ∧ Z.Warmed39 U.vm ∧ U.heap = h0) (fun _ _ _ _ _ => True) (fun _ U o U' => ∃ v L, o = .returned v ∧ Q26 Z p1 h0 n0 v U'.heap L ∧ FrameEnd U o U' L ({ frames := 1, cells := 0, slots := 0, locals := 13 } : Room).cells ({ frames := 1, cells := 0, slots := 0, locals := 13 } : Room).slots) := by
  refine MetFree.of_bodySF pn_26 hisR ?_
  intro p e s m args below meth c s₁ Bd hml0 hP hK
  obtain ⟨rfl, hZ, hh⟩ := hP
  have hx := Bd.exec
  have hby := Bd.bytes
  have hml : c.maxLocals = 1 := hml0
  have hown : s.vm.findClass "adjunct/core/XmlSpaceStripPinLaw" = some m.cls := findClass_of_methodNamed Bd.named
  have hnm := (name_of_methodNamed Bd.named Bd.method).1
  have X0 : Stand p l e ({ frames := 1, cells := 0, slots := 0, locals := 13 } : Room) s m #[(.int p1)] below meth c s₁ [] 0 0 := Stand.of_body Bd
  have e0 : s₁.heap = h0 := by rw [← hh, Bd.state]; rfl
  have N0 := Fr.nil n0
  refine own_start (Q := Q26 Z p1 h0 n0) (own_cast (ef_26 m p1) ?_)
  show Go p.tables e below _ (s₁.setTop (mkF m 0 #[.val (.int p1)] []))
  refine Go.st (fun U hr => XS.iloadN X0.here hx rfl (hb hby d26_0) rfl hr) ?_
  show Go p.tables e below _ (s₁.setTop (mkF m 1 #[.val (.int p1)] [(.int p1)]))
  refine Go.st (X0.ldcInt hx hown (mvT hZ (hw _ (List.mem_of_getElem? (i := 115) rfl))) (g := (mkF m 1 #[.val (.int p1)] [(.int p1)])) rfl (hb hby d26_1)) ?_
  show Go p.tables e below _ (s₁.setTop (mkF m 3 #[.val (.int p1)] [(.int (65536 : Int32)), (.int p1)]))
  refine Go.st (fun U hr => XS.iand X0.here hx rfl (hb hby d26_3) rfl hr) ?_
  show Go p.tables e below _ (s₁.setTop (mkF m 4 #[.val (.int p1)] [(.int (p1 &&& (65536 : Int32)))]))
  by_cases hc4_1 : (p1 &&& (65536 : Int32)) = (0 : Int32)
  · refine Go.st (fun U hr => XS.ifYes X0.here hx rfl (pc0 := 4) (pc' := 15) rfl (hb hby d26_4) rfl ((if0 _ _).trans (teq hc4_1).1) (by decide) (by decide) hr) ?_
    show Go p.tables e below _ (s₁.setTop (mkF m 15 #[.val (.int p1)] []))
    refine Go.st (fun U hr => XS.iloadN X0.here hx rfl (hb hby d26_15) rfl hr) ?_
    show Go p.tables e below _ (s₁.setTop (mkF m 16 #[.val (.int p1)] [(.int p1)]))
    refine Go.st (X0.ldcInt hx hown (mvT hZ (hw _ (List.mem_of_getElem? (i := 108) rfl))) (g := (mkF m 16 #[.val (.int p1)] [(.int p1)])) rfl (hb hby d26_16)) ?_
    show Go p.tables e below _ (s₁.setTop (mkF m 18 #[.val (.int p1)] [(.int (65535 : Int32)), (.int p1)]))
    refine Go.st (fun U hr => XS.iand X0.here hx rfl (hb hby d26_18) rfl hr) ?_
    show Go p.tables e below _ (s₁.setTop (mkF m 19 #[.val (.int p1)] [(.int (p1 &&& (65535 : Int32)))]))
    refine Go.st (fun U hr => XS.i2c X0.here hx rfl (hb hby d26_19) rfl hr) ?_
    show Go p.tables e below _ (s₁.setTop (mkF m 20 #[.val (.int p1)] [(.int ((p1 &&& (65535 : Int32)).toUInt32.toUInt16.toUInt32.toInt32))]))
    exact own_retN X0 hx Bd.notSynchronized (t := .char) Bd.returns (by simp) (hb hby d26_20) ⟨by unfold own_any; rw [if_pos hc4_1], N0, e0⟩ (by decide) (by decide)
  · refine Go.st (fun U hr => XS.ifNo X0.here hx rfl (hb hby d26_4) rfl ((if0 _ _).trans (feq hc4_1).1) hr) ?_
    show Go p.tables e below _ (s₁.setTop (mkF m 7 #[.val (.int p1)] []))
    refine Go.st (fun U hr => XS.iloadN X0.here hx rfl (hb hby d26_7) rfl hr) ?_
    show Go p.tables e below _ (s₁.setTop (mkF m 8 #[.val (.int p1)] [(.int p1)]))
    refine Go.st (fun U hr => XS.bipush X0.here hx rfl (hb hby d26_8) hr) ?_
    show Go p.tables e below _ (s₁.setTop (mkF m 10 #[.val (.int p1)] [(.int (17 : Int32)), (.int p1)]))
    refine Go.st (fun U hr => XS.iushr X0.here hx rfl (hb hby d26_10) rfl hr) ?_
    show Go p.tables e below _ (s₁.setTop (mkF m 11 #[.val (.int p1)] [(.int ((p1.toUInt32 >>> ((17 : Int32) &&& 31).toUInt32).toInt32))]))
    obtain ⟨_, _, ⟨T2, L2, k2, n2⟩, -, X2, ⟨Lc2, hQ2, l2, y2, z2⟩, st2⟩ := Jvm.LawKit.callS X0 hx (y := (⟨"adjunct/core/XmlSpaceStripPinLaw", "ws", "(I)C"⟩ : MethodName)) hown (mvT hZ (hw _ (List.mem_of_getElem? (i := 6) rfl))) (mvT hZ (hw _ (List.mem_of_getElem? (i := 7) rfl))) (mvT hZ (hw _ (List.mem_of_getElem? (i := 4) rfl))) (mvT hZ (hw _ (List.mem_of_getElem? (i := 8) rfl))) (by decide) (backOf (W := 0) (rm2 l Z a0 hw [] ((p1.toUInt32 >>> ((17 : Int32) &&& 31).toUInt32).toInt32) h0 n0 Z0 ) hZ (hw _ (List.mem_of_getElem? (i := 8) rfl)) (hw _ (List.mem_of_getElem? (i := 4) rfl)) (by decide) (by decide)) (g := (mkF m 11 #[.val (.int p1)] [(.int ((p1.toUInt32 >>> ((17 : Int32) &&& 31).toUInt32).toInt32))])) rfl (by rw [hml]; rfl) (argsL := [(.int ((p1.toUInt32 >>> ((17 : Int32) &&& 31).toUInt32).toInt32))]) (rest := []) (lenOf pd_1 rfl) rfl (by show 2 * 0 + _ ≤ _; exact Nat.le_of_eq rfl) (hb hby d26_11) (fun _ _ => ⟨rfl, e0, (by decide : 0 + 0 ≤ _), (by decide : 0 + 0 ≤ _)⟩)
    dsimp only [Pt.U, Pt.locs, Pt.cells, Pt.slots] at X2 l2 y2 z2 st2 hQ2
    subst l2 y2 z2
    obtain ⟨rfl, Nq2, ee2⟩ := hQ2
    have N2 := Fr.app N0 Nq2
    refine Go.st st2 ?_
    show Go p.tables e below _ (T2.setTop (mkF m 14 #[.val (.int p1)] [(.int (own_ws ((p1.toUInt32 >>> ((17 : Int32) &&& 31).toUInt32).toInt32)))]))
    exact own_retN X2 hx Bd.notSynchronized (t := .char) Bd.returns (by simp) (hb hby d26_14) ⟨by rw [own_nar _ (own_ws_ch _)]; unfold own_any; rw [if_neg hc4_1], N2, ee2⟩ (by decide) (by decide)
theorem d1_0 : decode method_8_code 0 = .ok (.iload_n 0, 1) := by decide +kernel
theorem d1_1 : decode method_8_code 1 = .ok (.iload_n 1, 1) := by decide +kernel
theorem d1_2 : decode method_8_code 2 = .ok (.if_icmp .lt 10, 3) := by decide +kernel
theorem d1_5 : decode method_8_code 5 = .ok (.iload_n 0, 1) := by decide +kernel
theorem d1_6 : decode method_8_code 6 = .ok (.iload_n 1, 1) := by decide +kernel
theorem d1_7 : decode method_8_code 7 = .ok (.iload_n 2, 1) := by decide +kernel
theorem d1_8 : decode method_8_code 8 = .ok (.iadd, 1) := by decide +kernel
theorem d1_9 : decode method_8_code 9 = .ok (.if_icmp .lt 8, 3) := by decide +kernel
theorem d1_12 : decode method_8_code 12 = .ok (.iload_n 3, 1) := by decide +kernel
theorem d1_13 : decode method_8_code 13 = .ok (.invokestatic 47, 3) := by decide +kernel
theorem d1_16 : decode method_8_code 16 = .ok (.ireturn, 1) := by decide +kernel
theorem d1_17 : decode method_8_code 17 = .ok (.iload_n 0, 1) := by decide +kernel
theorem d1_18 : decode method_8_code 18 = .ok (.iload_n 1, 1) := by decide +kernel
theorem d1_19 : decode method_8_code 19 = .ok (.if_icmp .eq 12, 3) := by decide +kernel
theorem d1_22 : decode method_8_code 22 = .ok (.iload_n 0, 1) := by decide +kernel
theorem d1_23 : decode method_8_code 23 = .ok (.iload_n 1, 1) := by decide +kernel
theorem d1_24 : decode method_8_code 24 = .ok (.iload_n 2, 1) := by decide +kernel
theorem d1_25 : decode method_8_code 25 = .ok (.iadd, 1) := by decide +kernel
theorem d1_26 : decode method_8_code 26 = .ok (.iconst 1, 1) := by decide +kernel
theorem d1_27 : decode method_8_code 27 = .ok (.isub, 1) := by decide +kernel
theorem d1_28 : decode method_8_code 28 = .ok (.if_icmp .ne 8, 3) := by decide +kernel
theorem d1_31 : decode method_8_code 31 = .ok (.iload_n 3, 1) := by decide +kernel
theorem d1_32 : decode method_8_code 32 = .ok (.invokestatic 50, 3) := by decide +kernel
theorem d1_35 : decode method_8_code 35 = .ok (.ireturn, 1) := by decide +kernel
theorem d1_36 : decode method_8_code 36 = .ok (.iload_n 3, 1) := by decide +kernel
theorem d1_37 : decode method_8_code 37 = .ok (.invokestatic 53, 3) := by decide +kernel
theorem d1_40 : decode method_8_code 40 = .ok (.ireturn, 1) := by decide +kernel
theorem pn_1 : plainFor (⟨"adjunct/core/XmlSpaceStripPinLaw", "pick", "(IIII)C"⟩ : MethodName) = true := plainFor_of_name (by first | (simp [plainName, overriddenIn]; done) | decide +kernel)
theorem ef_1 (m : MethodId) (x0 : Int32) (x1 : Int32) (x2 : Int32) (x3 : Int32) : entryFrame m #[(.int x0), (.int x1), (.int x2), (.int x3)] 4 = mkF m 0 #[.val (.int x0), .val (.int x1), .val (.int x2), .val (.int x3)] [] := by first | (simp [entryFrame, mkF, argsToLocals, Value.category]; done) | rfl
def Q1 (Z : State) (p1 : Int32) (p2 : Int32) (p3 : Int32) (p4 : Int32)  (h0 : Heap) (n0 : Nat) (v : Option Value) (h : Heap) (L : List Loc) : Prop := v = some (.int (own_pick p1 p2 p3 p4)) ∧ Fr n0 L ∧ h = h0
set_option maxRecDepth 65536 in
set_option maxHeartbeats 40000000 in
theorem rm1 (l : Launch) (Z : State) (a0 : Array Value) (hw : ∀ d ∈ tables_1, d.before a0 Z = true) (ws : List Jvm.Cond) (p1 : Int32) (p2 : Int32) (p3 : Int32) (p4 : Int32)  (h0 : Heap) (n0 : Nat) (Z0 : n0 ≤ h0.size) :
    MetFree l (⟨"adjunct/core/XmlSpaceStripPinLaw", "pick", "(IIII)C"⟩ : MethodName) (head1 (Jvm.Cond.code (⟨"adjunct/core/XmlSpaceStripPinLaw", "pick", "(IIII)C"⟩ : MethodName) method_8_code 4 (some .char) :: ws) ({ frames := 2, cells := 0, slots := 0, locals := 25 } : Room)) (fun a U => a = #[(.int p1), (.int p2), (.int p3), (.int p4)] ∧ Z.Warmed39 U.vm ∧ U.heap = h0) (fun _ _ _ _ _ => True) (fun _ U o U' => ∃ v L, o = .returned v ∧ Q1 Z p1 p2 p3 p4 h0 n0 v U'.heap L ∧ FrameEnd U o U' L ({ frames := 2, cells := 0, slots := 0, locals := 25 } : Room).cells ({ frames := 2, cells := 0, slots := 0, locals := 25 } : Room).slots) := by
  refine MetFree.of_bodySF pn_1 hisR ?_
  intro p e s m args below meth c s₁ Bd hml0 hP hK
  obtain ⟨rfl, hZ, hh⟩ := hP
  have hx := Bd.exec
  have hby := Bd.bytes
  have hml : c.maxLocals = 4 := hml0
  have hown : s.vm.findClass "adjunct/core/XmlSpaceStripPinLaw" = some m.cls := findClass_of_methodNamed Bd.named
  have hnm := (name_of_methodNamed Bd.named Bd.method).1
  have X0 : Stand p l e ({ frames := 2, cells := 0, slots := 0, locals := 25 } : Room) s m #[(.int p1), (.int p2), (.int p3), (.int p4)] below meth c s₁ [] 0 0 := Stand.of_body Bd
  have e0 : s₁.heap = h0 := by rw [← hh, Bd.state]; rfl
  have N0 := Fr.nil n0
  refine own_start (Q := Q1 Z p1 p2 p3 p4 h0 n0) (own_cast (ef_1 m p1 p2 p3 p4) ?_)
  show Go p.tables e below _ (s₁.setTop (mkF m 0 #[.val (.int p1), .val (.int p2), .val (.int p3), .val (.int p4)] []))
  refine Go.st (fun U hr => XS.iloadN X0.here hx rfl (hb hby d1_0) rfl hr) ?_
  show Go p.tables e below _ (s₁.setTop (mkF m 1 #[.val (.int p1), .val (.int p2), .val (.int p3), .val (.int p4)] [(.int p1)]))
  refine Go.st (fun U hr => XS.iloadN X0.here hx rfl (hb hby d1_1) rfl hr) ?_
  show Go p.tables e below _ (s₁.setTop (mkF m 2 #[.val (.int p1), .val (.int p2), .val (.int p3), .val (.int p4)] [(.int p2), (.int p1)]))
  by_cases hc2_1 : p1 < p2
  · refine Go.st (fun U hr => XS.icmpYes X0.here hx rfl (pc0 := 2) (pc' := 12) rfl (hb hby d1_2) rfl (tlt hc2_1).1 (by decide) (by decide) hr) ?_
    show Go p.tables e below _ (s₁.setTop (mkF m 12 #[.val (.int p1), .val (.int p2), .val (.int p3), .val (.int p4)] []))
    refine Go.st (fun U hr => XS.iloadN X0.here hx rfl (hb hby d1_12) rfl hr) ?_
    show Go p.tables e below _ (s₁.setTop (mkF m 13 #[.val (.int p1), .val (.int p2), .val (.int p3), .val (.int p4)] [(.int p4)]))
    obtain ⟨_, _, ⟨T2, L2, k2, n2⟩, -, X2, ⟨Lc2, hQ2, l2, y2, z2⟩, st2⟩ := Jvm.LawKit.callS X0 hx (y := (⟨"adjunct/core/XmlSpaceStripPinLaw", "ws", "(I)C"⟩ : MethodName)) hown (mvT hZ (hw _ (List.mem_of_getElem? (i := 6) rfl))) (mvT hZ (hw _ (List.mem_of_getElem? (i := 7) rfl))) (mvT hZ (hw _ (List.mem_of_getElem? (i := 4) rfl))) (mvT hZ (hw _ (List.mem_of_getElem? (i := 8) rfl))) (by decide) (backOf (W := 0) (rm2 l Z a0 hw [] p4 h0 n0 Z0 ) hZ (hw _ (List.mem_of_getElem? (i := 8) rfl)) (hw _ (List.mem_of_getElem? (i := 4) rfl)) (by decide) (by decide)) (g := (mkF m 13 #[.val (.int p1), .val (.int p2), .val (.int p3), .val (.int p4)] [(.int p4)])) rfl (by rw [hml]; rfl) (argsL := [(.int p4)]) (rest := []) (lenOf pd_1 rfl) rfl (by show 2 * 0 + _ ≤ _; exact Nat.le_of_eq rfl) (hb hby d1_13) (fun _ _ => ⟨rfl, e0, (by decide : 0 + 0 ≤ _), (by decide : 0 + 0 ≤ _)⟩)
    dsimp only [Pt.U, Pt.locs, Pt.cells, Pt.slots] at X2 l2 y2 z2 st2 hQ2
    subst l2 y2 z2
    obtain ⟨rfl, Nq2, ee2⟩ := hQ2
    have N2 := Fr.app N0 Nq2
    refine Go.st st2 ?_
    show Go p.tables e below _ (T2.setTop (mkF m 16 #[.val (.int p1), .val (.int p2), .val (.int p3), .val (.int p4)] [(.int (own_ws p4))]))
    exact own_retN X2 hx Bd.notSynchronized (t := .char) Bd.returns (by simp) (hb hby d1_16) ⟨by rw [own_nar _ (own_ws_ch _)]; unfold own_pick; rw [if_pos hc2_1], N2, ee2⟩ (by decide) (by decide)
  · refine Go.st (fun U hr => XS.icmpNo X0.here hx rfl (hb hby d1_2) rfl (flt hc2_1).1 hr) ?_
    show Go p.tables e below _ (s₁.setTop (mkF m 5 #[.val (.int p1), .val (.int p2), .val (.int p3), .val (.int p4)] []))
    refine Go.st (fun U hr => XS.iloadN X0.here hx rfl (hb hby d1_5) rfl hr) ?_
    show Go p.tables e below _ (s₁.setTop (mkF m 6 #[.val (.int p1), .val (.int p2), .val (.int p3), .val (.int p4)] [(.int p1)]))
    refine Go.st (fun U hr => XS.iloadN X0.here hx rfl (hb hby d1_6) rfl hr) ?_
    show Go p.tables e below _ (s₁.setTop (mkF m 7 #[.val (.int p1), .val (.int p2), .val (.int p3), .val (.int p4)] [(.int p2), (.int p1)]))
    refine Go.st (fun U hr => XS.iloadN X0.here hx rfl (hb hby d1_7) rfl hr) ?_
    show Go p.tables e below _ (s₁.setTop (mkF m 8 #[.val (.int p1), .val (.int p2), .val (.int p3), .val (.int p4)] [(.int p3), (.int p2), (.int p1)]))
    refine Go.st (fun U hr => XS.iadd X0.here hx rfl (hb hby d1_8) rfl hr) ?_
    show Go p.tables e below _ (s₁.setTop (mkF m 9 #[.val (.int p1), .val (.int p2), .val (.int p3), .val (.int p4)] [(.int (p2 + p3)), (.int p1)]))
    by_cases hc9_3 : p1 < (p2 + p3)
    · refine Go.st (fun U hr => XS.icmpYes X0.here hx rfl (pc0 := 9) (pc' := 17) rfl (hb hby d1_9) rfl (tlt hc9_3).1 (by decide) (by decide) hr) ?_
      show Go p.tables e below _ (s₁.setTop (mkF m 17 #[.val (.int p1), .val (.int p2), .val (.int p3), .val (.int p4)] []))
      refine Go.st (fun U hr => XS.iloadN X0.here hx rfl (hb hby d1_17) rfl hr) ?_
      show Go p.tables e below _ (s₁.setTop (mkF m 18 #[.val (.int p1), .val (.int p2), .val (.int p3), .val (.int p4)] [(.int p1)]))
      refine Go.st (fun U hr => XS.iloadN X0.here hx rfl (hb hby d1_18) rfl hr) ?_
      show Go p.tables e below _ (s₁.setTop (mkF m 19 #[.val (.int p1), .val (.int p2), .val (.int p3), .val (.int p4)] [(.int p2), (.int p1)]))
      by_cases hc19_4 : p1 = p2
      · refine Go.st (fun U hr => XS.icmpYes X0.here hx rfl (pc0 := 19) (pc' := 31) rfl (hb hby d1_19) rfl (teq hc19_4).1 (by decide) (by decide) hr) ?_
        show Go p.tables e below _ (s₁.setTop (mkF m 31 #[.val (.int p1), .val (.int p2), .val (.int p3), .val (.int p4)] []))
        refine Go.st (fun U hr => XS.iloadN X0.here hx rfl (hb hby d1_31) rfl hr) ?_
        show Go p.tables e below _ (s₁.setTop (mkF m 32 #[.val (.int p1), .val (.int p2), .val (.int p3), .val (.int p4)] [(.int p4)]))
        obtain ⟨_, _, ⟨T5, L5, k5, n5⟩, -, X5, ⟨Lc5, hQ5, l5, y5, z5⟩, st5⟩ := Jvm.LawKit.callS X0 hx (y := (⟨"adjunct/core/XmlSpaceStripPinLaw", "nonWs", "(I)C"⟩ : MethodName)) hown (mvT hZ (hw _ (List.mem_of_getElem? (i := 105) rfl))) (mvT hZ (hw _ (List.mem_of_getElem? (i := 106) rfl))) (mvT hZ (hw _ (List.mem_of_getElem? (i := 4) rfl))) (mvT hZ (hw _ (List.mem_of_getElem? (i := 107) rfl))) (by decide) (backOf (W := 0) (rm24 l Z a0 hw [] p4 h0 n0 Z0 ) hZ (hw _ (List.mem_of_getElem? (i := 107) rfl)) (hw _ (List.mem_of_getElem? (i := 4) rfl)) (by decide) (by decide)) (g := (mkF m 32 #[.val (.int p1), .val (.int p2), .val (.int p3), .val (.int p4)] [(.int p4)])) rfl (by rw [hml]; rfl) (argsL := [(.int p4)]) (rest := []) (lenOf pd_1 rfl) rfl (by show 2 * 0 + _ ≤ _; exact Nat.le_of_eq rfl) (hb hby d1_32) (fun _ _ => ⟨rfl, e0, (by decide : 0 + 0 ≤ _), (by decide : 0 + 0 ≤ _)⟩)
        dsimp only [Pt.U, Pt.locs, Pt.cells, Pt.slots] at X5 l5 y5 z5 st5 hQ5
        subst l5 y5 z5
        obtain ⟨rfl, Nq5, ee5⟩ := hQ5
        have N5 := Fr.app N0 Nq5
        refine Go.st st5 ?_
        show Go p.tables e below _ (T5.setTop (mkF m 35 #[.val (.int p1), .val (.int p2), .val (.int p3), .val (.int p4)] [(.int (own_non p4))]))
        exact own_retN X5 hx Bd.notSynchronized (t := .char) Bd.returns (by simp) (hb hby d1_35) ⟨by rw [own_nar _ (own_non_ch _)]; unfold own_pick; rw [if_neg hc2_1, if_pos hc9_3, if_pos hc19_4], N5, ee5⟩ (by decide) (by decide)
      · refine Go.st (fun U hr => XS.icmpNo X0.here hx rfl (hb hby d1_19) rfl (feq hc19_4).1 hr) ?_
        show Go p.tables e below _ (s₁.setTop (mkF m 22 #[.val (.int p1), .val (.int p2), .val (.int p3), .val (.int p4)] []))
        refine Go.st (fun U hr => XS.iloadN X0.here hx rfl (hb hby d1_22) rfl hr) ?_
        show Go p.tables e below _ (s₁.setTop (mkF m 23 #[.val (.int p1), .val (.int p2), .val (.int p3), .val (.int p4)] [(.int p1)]))
        refine Go.st (fun U hr => XS.iloadN X0.here hx rfl (hb hby d1_23) rfl hr) ?_
        show Go p.tables e below _ (s₁.setTop (mkF m 24 #[.val (.int p1), .val (.int p2), .val (.int p3), .val (.int p4)] [(.int p2), (.int p1)]))
        refine Go.st (fun U hr => XS.iloadN X0.here hx rfl (hb hby d1_24) rfl hr) ?_
        show Go p.tables e below _ (s₁.setTop (mkF m 25 #[.val (.int p1), .val (.int p2), .val (.int p3), .val (.int p4)] [(.int p3), (.int p2), (.int p1)]))
        refine Go.st (fun U hr => XS.iadd X0.here hx rfl (hb hby d1_25) rfl hr) ?_
        show Go p.tables e below _ (s₁.setTop (mkF m 26 #[.val (.int p1), .val (.int p2), .val (.int p3), .val (.int p4)] [(.int (p2 + p3)), (.int p1)]))
        refine Go.st (fun U hr => XS.iconst X0.here hx rfl (hb hby d1_26) hr) ?_
        show Go p.tables e below _ (s₁.setTop (mkF m 27 #[.val (.int p1), .val (.int p2), .val (.int p3), .val (.int p4)] [(.int (1 : Int32)), (.int (p2 + p3)), (.int p1)]))
        refine Go.st (fun U hr => XS.isub X0.here hx rfl (hb hby d1_27) rfl hr) ?_
        show Go p.tables e below _ (s₁.setTop (mkF m 28 #[.val (.int p1), .val (.int p2), .val (.int p3), .val (.int p4)] [(.int ((p2 + p3) - (1 : Int32))), (.int p1)]))
        by_cases hc28_6 : p1 = ((p2 + p3) - (1 : Int32))
        · refine Go.st (fun U hr => XS.icmpNo X0.here hx rfl (hb hby d1_28) rfl (teq hc28_6).2 hr) ?_
          show Go p.tables e below _ (s₁.setTop (mkF m 31 #[.val (.int p1), .val (.int p2), .val (.int p3), .val (.int p4)] []))
          refine Go.st (fun U hr => XS.iloadN X0.here hx rfl (hb hby d1_31) rfl hr) ?_
          show Go p.tables e below _ (s₁.setTop (mkF m 32 #[.val (.int p1), .val (.int p2), .val (.int p3), .val (.int p4)] [(.int p4)]))
          obtain ⟨_, _, ⟨T7, L7, k7, n7⟩, -, X7, ⟨Lc7, hQ7, l7, y7, z7⟩, st7⟩ := Jvm.LawKit.callS X0 hx (y := (⟨"adjunct/core/XmlSpaceStripPinLaw", "nonWs", "(I)C"⟩ : MethodName)) hown (mvT hZ (hw _ (List.mem_of_getElem? (i := 105) rfl))) (mvT hZ (hw _ (List.mem_of_getElem? (i := 106) rfl))) (mvT hZ (hw _ (List.mem_of_getElem? (i := 4) rfl))) (mvT hZ (hw _ (List.mem_of_getElem? (i := 107) rfl))) (by decide) (backOf (W := 0) (rm24 l Z a0 hw [] p4 h0 n0 Z0 ) hZ (hw _ (List.mem_of_getElem? (i := 107) rfl)) (hw _ (List.mem_of_getElem? (i := 4) rfl)) (by decide) (by decide)) (g := (mkF m 32 #[.val (.int p1), .val (.int p2), .val (.int p3), .val (.int p4)] [(.int p4)])) rfl (by rw [hml]; rfl) (argsL := [(.int p4)]) (rest := []) (lenOf pd_1 rfl) rfl (by show 2 * 0 + _ ≤ _; exact Nat.le_of_eq rfl) (hb hby d1_32) (fun _ _ => ⟨rfl, e0, (by decide : 0 + 0 ≤ _), (by decide : 0 + 0 ≤ _)⟩)
          dsimp only [Pt.U, Pt.locs, Pt.cells, Pt.slots] at X7 l7 y7 z7 st7 hQ7
          subst l7 y7 z7
          obtain ⟨rfl, Nq7, ee7⟩ := hQ7
          have N7 := Fr.app N0 Nq7
          refine Go.st st7 ?_
          show Go p.tables e below _ (T7.setTop (mkF m 35 #[.val (.int p1), .val (.int p2), .val (.int p3), .val (.int p4)] [(.int (own_non p4))]))
          exact own_retN X7 hx Bd.notSynchronized (t := .char) Bd.returns (by simp) (hb hby d1_35) ⟨by rw [own_nar _ (own_non_ch _)]; unfold own_pick; rw [if_neg hc2_1, if_pos hc9_3, if_neg hc19_4, if_pos hc28_6], N7, ee7⟩ (by decide) (by decide)
        · refine Go.st (fun U hr => XS.icmpYes X0.here hx rfl (pc0 := 28) (pc' := 36) rfl (hb hby d1_28) rfl (feq hc28_6).2 (by decide) (by decide) hr) ?_
          show Go p.tables e below _ (s₁.setTop (mkF m 36 #[.val (.int p1), .val (.int p2), .val (.int p3), .val (.int p4)] []))
          refine Go.st (fun U hr => XS.iloadN X0.here hx rfl (hb hby d1_36) rfl hr) ?_
          show Go p.tables e below _ (s₁.setTop (mkF m 37 #[.val (.int p1), .val (.int p2), .val (.int p3), .val (.int p4)] [(.int p4)]))
          obtain ⟨_, _, ⟨T8, L8, k8, n8⟩, -, X8, ⟨Lc8, hQ8, l8, y8, z8⟩, st8⟩ := Jvm.LawKit.callS X0 hx (y := (⟨"adjunct/core/XmlSpaceStripPinLaw", "any", "(I)C"⟩ : MethodName)) hown (mvT hZ (hw _ (List.mem_of_getElem? (i := 112) rfl))) (mvT hZ (hw _ (List.mem_of_getElem? (i := 113) rfl))) (mvT hZ (hw _ (List.mem_of_getElem? (i := 4) rfl))) (mvT hZ (hw _ (List.mem_of_getElem? (i := 114) rfl))) (by decide) (backOf (W := 0) (rm26 l Z a0 hw [] p4 h0 n0 Z0 ) hZ (hw _ (List.mem_of_getElem? (i := 114) rfl)) (hw _ (List.mem_of_getElem? (i := 4) rfl)) (by decide) (by decide)) (g := (mkF m 37 #[.val (.int p1), .val (.int p2), .val (.int p3), .val (.int p4)] [(.int p4)])) rfl (by rw [hml]; rfl) (argsL := [(.int p4)]) (rest := []) (lenOf pd_1 rfl) rfl (by show 2 * 0 + _ ≤ _; exact Nat.le_of_eq rfl) (hb hby d1_37) (fun _ _ => ⟨rfl, e0, (by decide : 0 + 0 ≤ _), (by decide : 0 + 0 ≤ _)⟩)
          dsimp only [Pt.U, Pt.locs, Pt.cells, Pt.slots] at X8 l8 y8 z8 st8 hQ8
          subst l8 y8 z8
          obtain ⟨rfl, Nq8, ee8⟩ := hQ8
          have N8 := Fr.app N0 Nq8
          refine Go.st st8 ?_
          show Go p.tables e below _ (T8.setTop (mkF m 40 #[.val (.int p1), .val (.int p2), .val (.int p3), .val (.int p4)] [(.int (own_any p4))]))
          exact own_retN X8 hx Bd.notSynchronized (t := .char) Bd.returns (by simp) (hb hby d1_40) ⟨by rw [own_nar _ (own_any_ch _)]; unfold own_pick; rw [if_neg hc2_1, if_pos hc9_3, if_neg hc19_4, if_neg hc28_6], N8, ee8⟩ (by decide) (by decide)
    · refine Go.st (fun U hr => XS.icmpNo X0.here hx rfl (hb hby d1_9) rfl (flt hc9_3).1 hr) ?_
      show Go p.tables e below _ (s₁.setTop (mkF m 12 #[.val (.int p1), .val (.int p2), .val (.int p3), .val (.int p4)] []))
      refine Go.st (fun U hr => XS.iloadN X0.here hx rfl (hb hby d1_12) rfl hr) ?_
      show Go p.tables e below _ (s₁.setTop (mkF m 13 #[.val (.int p1), .val (.int p2), .val (.int p3), .val (.int p4)] [(.int p4)]))
      obtain ⟨_, _, ⟨T9, L9, k9, n9⟩, -, X9, ⟨Lc9, hQ9, l9, y9, z9⟩, st9⟩ := Jvm.LawKit.callS X0 hx (y := (⟨"adjunct/core/XmlSpaceStripPinLaw", "ws", "(I)C"⟩ : MethodName)) hown (mvT hZ (hw _ (List.mem_of_getElem? (i := 6) rfl))) (mvT hZ (hw _ (List.mem_of_getElem? (i := 7) rfl))) (mvT hZ (hw _ (List.mem_of_getElem? (i := 4) rfl))) (mvT hZ (hw _ (List.mem_of_getElem? (i := 8) rfl))) (by decide) (backOf (W := 0) (rm2 l Z a0 hw [] p4 h0 n0 Z0 ) hZ (hw _ (List.mem_of_getElem? (i := 8) rfl)) (hw _ (List.mem_of_getElem? (i := 4) rfl)) (by decide) (by decide)) (g := (mkF m 13 #[.val (.int p1), .val (.int p2), .val (.int p3), .val (.int p4)] [(.int p4)])) rfl (by rw [hml]; rfl) (argsL := [(.int p4)]) (rest := []) (lenOf pd_1 rfl) rfl (by show 2 * 0 + _ ≤ _; exact Nat.le_of_eq rfl) (hb hby d1_13) (fun _ _ => ⟨rfl, e0, (by decide : 0 + 0 ≤ _), (by decide : 0 + 0 ≤ _)⟩)
      dsimp only [Pt.U, Pt.locs, Pt.cells, Pt.slots] at X9 l9 y9 z9 st9 hQ9
      subst l9 y9 z9
      obtain ⟨rfl, Nq9, ee9⟩ := hQ9
      have N9 := Fr.app N0 Nq9
      refine Go.st st9 ?_
      show Go p.tables e below _ (T9.setTop (mkF m 16 #[.val (.int p1), .val (.int p2), .val (.int p3), .val (.int p4)] [(.int (own_ws p4))]))
      exact own_retN X9 hx Bd.notSynchronized (t := .char) Bd.returns (by simp) (hb hby d1_16) ⟨by rw [own_nar _ (own_ws_ch _)]; unfold own_pick; rw [if_neg hc2_1, if_neg hc9_3], N9, ee9⟩ (by decide) (by decide)
theorem d16_0 : decode jdk_41_method_11_code 0 = .ok (.iload_n 0, 1) := by decide +kernel
theorem d16_1 : decode jdk_41_method_11_code 1 = .ok (.ifCond .lt 8, 3) := by decide +kernel
theorem d16_4 : decode jdk_41_method_11_code 4 = .ok (.iload_n 0, 1) := by decide +kernel
theorem d16_5 : decode jdk_41_method_11_code 5 = .ok (.iload_n 1, 1) := by decide +kernel
theorem d16_6 : decode jdk_41_method_11_code 6 = .ok (.if_icmp .lt 10, 3) := by decide +kernel
theorem d16_16 : decode jdk_41_method_11_code 16 = .ok (.iload_n 0, 1) := by decide +kernel
theorem d16_17 : decode jdk_41_method_11_code 17 = .ok (.ireturn, 1) := by decide +kernel
theorem pn_16 : plainFor (⟨"jdk/internal/util/Preconditions", "checkIndex", "(IILjava/util/function/BiFunction;)I"⟩ : MethodName) = true := plainFor_of_name (by first | (simp [plainName, overriddenIn]; done) | decide +kernel)
theorem ef_16 (m : MethodId) (x0 : Int32) (x1 : Int32) (x2 : Addr) : entryFrame m #[(.int x0), (.int x1), (.ref x2)] 3 = mkF m 0 #[.val (.int x0), .val (.int x1), .val (.ref x2)] [] := by first | (simp [entryFrame, mkF, argsToLocals, Value.category]; done) | rfl
def Q16 (Z : State) (p1 : Int32) (p2 : Int32) (a3 : Addr)  (h0 : Heap) (n0 : Nat) (v : Option Value) (h : Heap) (L : List Loc) : Prop := v = some (.int p1) ∧ Fr n0 L ∧ h = h0
set_option maxRecDepth 65536 in
set_option maxHeartbeats 40000000 in
theorem rm16 (l : Launch) (Z : State) (a0 : Array Value) (hw : ∀ d ∈ tables_1, d.before a0 Z = true) (ws : List Jvm.Cond) (p1 : Int32) (p2 : Int32) (a3 : Addr)  (h0 : Heap) (n0 : Nat) (Z0 : n0 ≤ h0.size) (hp : 0 ≤ p1.toInt ∧ p1.toInt < p2.toInt) :
    MetFree l (⟨"jdk/internal/util/Preconditions", "checkIndex", "(IILjava/util/function/BiFunction;)I"⟩ : MethodName) (head1 (Jvm.Cond.code (⟨"jdk/internal/util/Preconditions", "checkIndex", "(IILjava/util/function/BiFunction;)I"⟩ : MethodName) jdk_41_method_11_code 3 (some .int) :: ws) ({ frames := 0, cells := 0, slots := 0, locals := 0 } : Room)) (fun a U => a = #[(.int p1), (.int p2), (.ref a3)] ∧ Z.Warmed39 U.vm ∧ U.heap = h0) (fun _ _ _ _ _ => True) (fun _ U o U' => ∃ v L, o = .returned v ∧ Q16 Z p1 p2 a3 h0 n0 v U'.heap L ∧ FrameEnd U o U' L ({ frames := 0, cells := 0, slots := 0, locals := 0 } : Room).cells ({ frames := 0, cells := 0, slots := 0, locals := 0 } : Room).slots) := by
  refine MetFree.of_bodySF pn_16 hisR ?_
  intro p e s m args below meth c s₁ Bd hml0 hP hK
  obtain ⟨rfl, hZ, hh⟩ := hP
  have hx := Bd.exec
  have hby := Bd.bytes
  have hml : c.maxLocals = 3 := hml0
  have hown : s.vm.findClass "jdk/internal/util/Preconditions" = some m.cls := findClass_of_methodNamed Bd.named
  have hnm := (name_of_methodNamed Bd.named Bd.method).1
  have X0 : Stand p l e ({ frames := 0, cells := 0, slots := 0, locals := 0 } : Room) s m #[(.int p1), (.int p2), (.ref a3)] below meth c s₁ [] 0 0 := Stand.of_body Bd
  have e0 : s₁.heap = h0 := by rw [← hh, Bd.state]; rfl
  have N0 := Fr.nil n0
  refine own_start (Q := Q16 Z p1 p2 a3 h0 n0) (own_cast (ef_16 m p1 p2 a3) ?_)
  show Go p.tables e below _ (s₁.setTop (mkF m 0 #[.val (.int p1), .val (.int p2), .val (.ref a3)] []))
  refine Go.st (fun U hr => XS.iloadN X0.here hx rfl (hb hby d16_0) rfl hr) ?_
  show Go p.tables e below _ (s₁.setTop (mkF m 1 #[.val (.int p1), .val (.int p2), .val (.ref a3)] [(.int p1)]))
  have hc1_1 : ¬ (p1 < (0 : Int32)) := (by rw [own_lt32, show (0 : Int32).toInt = 0 from by decide]; omega)
  refine Go.st (fun U hr => XS.ifNo X0.here hx rfl (hb hby d16_1) rfl ((if0 _ _).trans (flt hc1_1).1) hr) ?_
  show Go p.tables e below _ (s₁.setTop (mkF m 4 #[.val (.int p1), .val (.int p2), .val (.ref a3)] []))
  refine Go.st (fun U hr => XS.iloadN X0.here hx rfl (hb hby d16_4) rfl hr) ?_
  show Go p.tables e below _ (s₁.setTop (mkF m 5 #[.val (.int p1), .val (.int p2), .val (.ref a3)] [(.int p1)]))
  refine Go.st (fun U hr => XS.iloadN X0.here hx rfl (hb hby d16_5) rfl hr) ?_
  show Go p.tables e below _ (s₁.setTop (mkF m 6 #[.val (.int p1), .val (.int p2), .val (.ref a3)] [(.int p2), (.int p1)]))
  have hc6_2 : p1 < p2 := (by rw [own_lt32]; omega)
  refine Go.st (fun U hr => XS.icmpYes X0.here hx rfl (pc0 := 6) (pc' := 16) rfl (hb hby d16_6) rfl (tlt hc6_2).1 (by decide) (by decide) hr) ?_
  show Go p.tables e below _ (s₁.setTop (mkF m 16 #[.val (.int p1), .val (.int p2), .val (.ref a3)] []))
  refine Go.st (fun U hr => XS.iloadN X0.here hx rfl (hb hby d16_16) rfl hr) ?_
  show Go p.tables e below _ (s₁.setTop (mkF m 17 #[.val (.int p1), .val (.int p2), .val (.ref a3)] [(.int p1)]))
  exact own_retO X0 hx Bd.notSynchronized (t := .int) Bd.returns rfl (Or.inl ⟨rfl, Or.inl rfl, _, rfl⟩) (hb hby d16_17) ⟨rfl, N0, e0⟩ (by decide) (by decide)
theorem ef_16n (m : MethodId) (x0 : Int32) (x1 : Int32) : entryFrame m #[(.int x0), (.int x1), .null] 3 = mkF m 0 #[.val (.int x0), .val (.int x1), .val .null] [] := by first | (simp [entryFrame, mkF, argsToLocals, Value.category]; done) | rfl
def Q16n (Z : State) (p1 : Int32) (p2 : Int32)  (h0 : Heap) (n0 : Nat) (v : Option Value) (h : Heap) (L : List Loc) : Prop := v = some (.int p1) ∧ Fr n0 L ∧ h = h0
set_option maxRecDepth 65536 in
set_option maxHeartbeats 40000000 in
theorem rm16n (l : Launch) (Z : State) (a0 : Array Value) (hw : ∀ d ∈ tables_1, d.before a0 Z = true) (ws : List Jvm.Cond) (p1 : Int32) (p2 : Int32)  (h0 : Heap) (n0 : Nat) (Z0 : n0 ≤ h0.size) (hp : 0 ≤ p1.toInt ∧ p1.toInt < p2.toInt) :
    MetFree l (⟨"jdk/internal/util/Preconditions", "checkIndex", "(IILjava/util/function/BiFunction;)I"⟩ : MethodName) (head1 (Jvm.Cond.code (⟨"jdk/internal/util/Preconditions", "checkIndex", "(IILjava/util/function/BiFunction;)I"⟩ : MethodName) jdk_41_method_11_code 3 (some .int) :: ws) ({ frames := 0, cells := 0, slots := 0, locals := 0 } : Room)) (fun a U => a = #[(.int p1), (.int p2), .null] ∧ Z.Warmed39 U.vm ∧ U.heap = h0) (fun _ _ _ _ _ => True) (fun _ U o U' => ∃ v L, o = .returned v ∧ Q16n Z p1 p2 h0 n0 v U'.heap L ∧ FrameEnd U o U' L ({ frames := 0, cells := 0, slots := 0, locals := 0 } : Room).cells ({ frames := 0, cells := 0, slots := 0, locals := 0 } : Room).slots) := by
  refine MetFree.of_bodySF pn_16 hisR ?_
  intro p e s m args below meth c s₁ Bd hml0 hP hK
  obtain ⟨rfl, hZ, hh⟩ := hP
  have hx := Bd.exec
  have hby := Bd.bytes
  have hml : c.maxLocals = 3 := hml0
  have hown : s.vm.findClass "jdk/internal/util/Preconditions" = some m.cls := findClass_of_methodNamed Bd.named
  have hnm := (name_of_methodNamed Bd.named Bd.method).1
  have X0 : Stand p l e ({ frames := 0, cells := 0, slots := 0, locals := 0 } : Room) s m #[(.int p1), (.int p2), .null] below meth c s₁ [] 0 0 := Stand.of_body Bd
  have e0 : s₁.heap = h0 := by rw [← hh, Bd.state]; rfl
  have N0 := Fr.nil n0
  refine own_start (Q := Q16n Z p1 p2 h0 n0) (own_cast (ef_16n m p1 p2) ?_)
  show Go p.tables e below _ (s₁.setTop (mkF m 0 #[.val (.int p1), .val (.int p2), .val .null] []))
  refine Go.st (fun U hr => XS.iloadN X0.here hx rfl (hb hby d16_0) rfl hr) ?_
  show Go p.tables e below _ (s₁.setTop (mkF m 1 #[.val (.int p1), .val (.int p2), .val .null] [(.int p1)]))
  have hc1_1 : ¬ (p1 < (0 : Int32)) := (by rw [own_lt32, show (0 : Int32).toInt = 0 from by decide]; omega)
  refine Go.st (fun U hr => XS.ifNo X0.here hx rfl (hb hby d16_1) rfl ((if0 _ _).trans (flt hc1_1).1) hr) ?_
  show Go p.tables e below _ (s₁.setTop (mkF m 4 #[.val (.int p1), .val (.int p2), .val .null] []))
  refine Go.st (fun U hr => XS.iloadN X0.here hx rfl (hb hby d16_4) rfl hr) ?_
  show Go p.tables e below _ (s₁.setTop (mkF m 5 #[.val (.int p1), .val (.int p2), .val .null] [(.int p1)]))
  refine Go.st (fun U hr => XS.iloadN X0.here hx rfl (hb hby d16_5) rfl hr) ?_
  show Go p.tables e below _ (s₁.setTop (mkF m 6 #[.val (.int p1), .val (.int p2), .val .null] [(.int p2), (.int p1)]))
  have hc6_2 : p1 < p2 := (by rw [own_lt32]; omega)
  refine Go.st (fun U hr => XS.icmpYes X0.here hx rfl (pc0 := 6) (pc' := 16) rfl (hb hby d16_6) rfl (tlt hc6_2).1 (by decide) (by decide) hr) ?_
  show Go p.tables e below _ (s₁.setTop (mkF m 16 #[.val (.int p1), .val (.int p2), .val .null] []))
  refine Go.st (fun U hr => XS.iloadN X0.here hx rfl (hb hby d16_16) rfl hr) ?_
  show Go p.tables e below _ (s₁.setTop (mkF m 17 #[.val (.int p1), .val (.int p2), .val .null] [(.int p1)]))
  exact own_retO X0 hx Bd.notSynchronized (t := .int) Bd.returns rfl (Or.inl ⟨rfl, Or.inl rfl, _, rfl⟩) (hb hby d16_17) ⟨rfl, N0, e0⟩ (by decide) (by decide)
theorem d15_0 : decode jdk_42_method_155_code 0 = .ok (.iload_n 0, 1) := by decide +kernel
theorem d15_1 : decode jdk_42_method_155_code 1 = .ok (.iload_n 1, 1) := by decide +kernel
theorem d15_2 : decode jdk_42_method_155_code 2 = .ok (.getstatic 1053, 3) := by decide +kernel
theorem d15_5 : decode jdk_42_method_155_code 5 = .ok (.invokestatic 1059, 3) := by decide +kernel
theorem d15_8 : decode jdk_42_method_155_code 8 = .ok (.pop, 1) := by decide +kernel
theorem d15_9 : decode jdk_42_method_155_code 9 = .ok (.return_, 1) := by decide +kernel
theorem pn_15 : plainFor (⟨"java/lang/String", "checkIndex", "(II)V"⟩ : MethodName) = true := plainFor_of_name (by first | (simp [plainName, overriddenIn]; done) | decide +kernel)
theorem ef_15 (m : MethodId) (x0 : Int32) (x1 : Int32) : entryFrame m #[(.int x0), (.int x1)] 2 = mkF m 0 #[.val (.int x0), .val (.int x1)] [] := by first | (simp [entryFrame, mkF, argsToLocals, Value.category]; done) | rfl
theorem pd_2 : parseMethodDescriptor "(IILjava/util/function/BiFunction;)I" = some ⟨[.int, .int, (.object "java/util/function/BiFunction")], some .int⟩ := by decide +kernel
def Q15 (Z : State) (p1 : Int32) (p2 : Int32) (wc : Int32) (sf : Option Addr) (h0 : Heap) (n0 : Nat) (v : Option Value) (h : Heap) (L : List Loc) : Prop := v = none ∧ Fr n0 L ∧ h = h0
set_option maxRecDepth 65536 in
set_option maxHeartbeats 40000000 in
theorem rm15 (l : Launch) (Z : State) (a0 : Array Value) (hw : ∀ d ∈ tables_1, d.before a0 Z = true) (ws : List Jvm.Cond) (p1 : Int32) (p2 : Int32) (wc : Int32) (sf : Option Addr) (h0 : Heap) (n0 : Nat) (Z0 : n0 ≤ h0.size) (hS : own_Sts Z h0 wc sf) (hp : 0 ≤ p1.toInt ∧ p1.toInt < p2.toInt) :
    MetFree l (⟨"java/lang/String", "checkIndex", "(II)V"⟩ : MethodName) (head1 (Jvm.Cond.code (⟨"java/lang/String", "checkIndex", "(II)V"⟩ : MethodName) jdk_42_method_155_code 2 none :: ws) ({ frames := 1, cells := 0, slots := 0, locals := 14 } : Room)) (fun a U => a = #[(.int p1), (.int p2)] ∧ Z.Warmed39 U.vm ∧ U.heap = h0) (fun _ _ _ _ _ => True) (fun _ U o U' => ∃ v L, o = .returned v ∧ Q15 Z p1 p2 wc sf h0 n0 v U'.heap L ∧ FrameEnd U o U' L ({ frames := 1, cells := 0, slots := 0, locals := 14 } : Room).cells ({ frames := 1, cells := 0, slots := 0, locals := 14 } : Room).slots) := by
  refine MetFree.of_bodySF pn_15 hisR ?_
  intro p e s m args below meth c s₁ Bd hml0 hP hK
  obtain ⟨rfl, hZ, hh⟩ := hP
  have hx := Bd.exec
  have hby := Bd.bytes
  have hml : c.maxLocals = 2 := hml0
  have hown : s.vm.findClass "java/lang/String" = some m.cls := findClass_of_methodNamed Bd.named
  have hnm := (name_of_methodNamed Bd.named Bd.method).1
  have X0 : Stand p l e ({ frames := 1, cells := 0, slots := 0, locals := 14 } : Room) s m #[(.int p1), (.int p2)] below meth c s₁ [] 0 0 := Stand.of_body Bd
  have e0 : s₁.heap = h0 := by rw [← hh, Bd.state]; rfl
  have N0 := Fr.nil n0
  refine own_start (Q := Q15 Z p1 p2 wc sf h0 n0) (own_cast (ef_15 m p1 p2) ?_)
  obtain ⟨S1, hwc, S2, S3, S4, S5⟩ := id hS
  show Go p.tables e below _ (s₁.setTop (mkF m 0 #[.val (.int p1), .val (.int p2)] []))
  cases sf with
  | none =>
    have S2v : Sta Z h0 "jdk/internal/util/Preconditions" "SIOOBE_FORMATTER" "Ljava/util/function/BiFunction;" .null := S2
    refine Go.st (fun U hr => XS.iloadN X0.here hx rfl (hb hby d15_0) rfl hr) ?_
    show Go p.tables e below _ (s₁.setTop (mkF m 1 #[.val (.int p1), .val (.int p2)] [(.int p1)]))
    refine Go.st (fun U hr => XS.iloadN X0.here hx rfl (hb hby d15_1) rfl hr) ?_
    show Go p.tables e below _ (s₁.setTop (mkF m 2 #[.val (.int p1), .val (.int p2)] [(.int p2), (.int p1)]))
    obtain ⟨T1, X1, e1, st1⟩ := getS2 X0 hx hZ hown (host := "") (Or.inl (hw _ (List.mem_of_getElem? (i := 72) rfl))) Via.refl e0 S2v (g := (mkF m 2 #[.val (.int p1), .val (.int p2)] [(.int p2), (.int p1)])) rfl (hb hby d15_2)
    refine Go.st st1 ?_
    show Go p.tables e below _ (T1.setTop (mkF m 5 #[.val (.int p1), .val (.int p2)] [.null, (.int p2), (.int p1)]))
    obtain ⟨_, _, ⟨T2, L2, k2, n2⟩, -, X2, ⟨Lc2, hQ2, l2, y2, z2⟩, st2⟩ := Jvm.LawKit.callS X1 hx (y := (⟨"jdk/internal/util/Preconditions", "checkIndex", "(IILjava/util/function/BiFunction;)I"⟩ : MethodName)) hown (mvT hZ (hw _ (List.mem_of_getElem? (i := 74) rfl))) (mvT hZ (hw _ (List.mem_of_getElem? (i := 75) rfl))) (mvT hZ (hw _ (List.mem_of_getElem? (i := 73) rfl))) (mvT hZ (hw _ (List.mem_of_getElem? (i := 76) rfl))) (by decide) (backOf (W := 0) (rm16n l Z a0 hw [] p1 p2 h0 n0 Z0 hp) hZ (hw _ (List.mem_of_getElem? (i := 76) rfl)) (hw _ (List.mem_of_getElem? (i := 73) rfl)) (by decide) (by decide)) (g := (mkF m 5 #[.val (.int p1), .val (.int p2)] [.null, (.int p2), (.int p1)])) rfl (by rw [hml]; rfl) (argsL := [(.int p1), (.int p2), .null]) (rest := []) (lenOf pd_2 rfl) rfl (by show 2 * 0 + _ ≤ _; exact Nat.le_of_eq rfl) (hb hby d15_5) (fun _ _ => ⟨rfl, e1, (by decide : 0 + 0 ≤ _), (by decide : 0 + 0 ≤ _)⟩)
    dsimp only [Pt.U, Pt.locs, Pt.cells, Pt.slots] at X2 l2 y2 z2 st2 hQ2
    subst l2 y2 z2
    obtain ⟨rfl, Nq2, ee2⟩ := hQ2
    have N2 := Fr.app N0 Nq2
    refine Go.st st2 ?_
    show Go p.tables e below _ (T2.setTop (mkF m 8 #[.val (.int p1), .val (.int p2)] [(.int p1)]))
    refine Go.st (fun U hr => XS.pop X2.here hx rfl (hb hby d15_8) rfl rfl hr) ?_
    show Go p.tables e below _ (T2.setTop (mkF m 9 #[.val (.int p1), .val (.int p2)] []))
    exact own_ret0 X2 hx Bd.notSynchronized Bd.returns (hb hby d15_9) ⟨rfl, N2, ee2⟩ (by decide) (by decide)
  | some sf =>
    have S2v : Sta Z h0 "jdk/internal/util/Preconditions" "SIOOBE_FORMATTER" "Ljava/util/function/BiFunction;" (.ref sf) := S2
    refine Go.st (fun U hr => XS.iloadN X0.here hx rfl (hb hby d15_0) rfl hr) ?_
    show Go p.tables e below _ (s₁.setTop (mkF m 1 #[.val (.int p1), .val (.int p2)] [(.int p1)]))
    refine Go.st (fun U hr => XS.iloadN X0.here hx rfl (hb hby d15_1) rfl hr) ?_
    show Go p.tables e below _ (s₁.setTop (mkF m 2 #[.val (.int p1), .val (.int p2)] [(.int p2), (.int p1)]))
    obtain ⟨T3, X3, e3, st3⟩ := getS2 X0 hx hZ hown (host := "") (Or.inl (hw _ (List.mem_of_getElem? (i := 72) rfl))) Via.refl e0 S2v (g := (mkF m 2 #[.val (.int p1), .val (.int p2)] [(.int p2), (.int p1)])) rfl (hb hby d15_2)
    refine Go.st st3 ?_
    show Go p.tables e below _ (T3.setTop (mkF m 5 #[.val (.int p1), .val (.int p2)] [(.ref sf), (.int p2), (.int p1)]))
    obtain ⟨_, _, ⟨T4, L4, k4, n4⟩, -, X4, ⟨Lc4, hQ4, l4, y4, z4⟩, st4⟩ := Jvm.LawKit.callS X3 hx (y := (⟨"jdk/internal/util/Preconditions", "checkIndex", "(IILjava/util/function/BiFunction;)I"⟩ : MethodName)) hown (mvT hZ (hw _ (List.mem_of_getElem? (i := 74) rfl))) (mvT hZ (hw _ (List.mem_of_getElem? (i := 75) rfl))) (mvT hZ (hw _ (List.mem_of_getElem? (i := 73) rfl))) (mvT hZ (hw _ (List.mem_of_getElem? (i := 76) rfl))) (by decide) (backOf (W := 0) (rm16 l Z a0 hw [] p1 p2 sf h0 n0 Z0 hp) hZ (hw _ (List.mem_of_getElem? (i := 76) rfl)) (hw _ (List.mem_of_getElem? (i := 73) rfl)) (by decide) (by decide)) (g := (mkF m 5 #[.val (.int p1), .val (.int p2)] [(.ref sf), (.int p2), (.int p1)])) rfl (by rw [hml]; rfl) (argsL := [(.int p1), (.int p2), (.ref sf)]) (rest := []) (lenOf pd_2 rfl) rfl (by show 2 * 0 + _ ≤ _; exact Nat.le_of_eq rfl) (hb hby d15_5) (fun _ _ => ⟨rfl, e3, (by decide : 0 + 0 ≤ _), (by decide : 0 + 0 ≤ _)⟩)
    dsimp only [Pt.U, Pt.locs, Pt.cells, Pt.slots] at X4 l4 y4 z4 st4 hQ4
    subst l4 y4 z4
    obtain ⟨rfl, Nq4, ee4⟩ := hQ4
    have N4 := Fr.app N0 Nq4
    refine Go.st st4 ?_
    show Go p.tables e below _ (T4.setTop (mkF m 8 #[.val (.int p1), .val (.int p2)] [(.int p1)]))
    refine Go.st (fun U hr => XS.pop X4.here hx rfl (hb hby d15_8) rfl rfl hr) ?_
    show Go p.tables e below _ (T4.setTop (mkF m 9 #[.val (.int p1), .val (.int p2)] []))
    exact own_ret0 X4 hx Bd.notSynchronized Bd.returns (hb hby d15_9) ⟨rfl, N4, ee4⟩ (by decide) (by decide)
theorem d20_0 : decode jdk_41_method_12_code 0 = .ok (.iload_n 0, 1) := by decide +kernel
theorem d20_1 : decode jdk_41_method_12_code 1 = .ok (.ifCond .lt 13, 3) := by decide +kernel
theorem d20_4 : decode jdk_41_method_12_code 4 = .ok (.iload_n 0, 1) := by decide +kernel
theorem d20_5 : decode jdk_41_method_12_code 5 = .ok (.iload_n 1, 1) := by decide +kernel
theorem d20_6 : decode jdk_41_method_12_code 6 = .ok (.if_icmp .gt 8, 3) := by decide +kernel
theorem d20_9 : decode jdk_41_method_12_code 9 = .ok (.iload_n 1, 1) := by decide +kernel
theorem d20_10 : decode jdk_41_method_12_code 10 = .ok (.iload_n 2, 1) := by decide +kernel
theorem d20_11 : decode jdk_41_method_12_code 11 = .ok (.if_icmp .le 11, 3) := by decide +kernel
theorem d20_22 : decode jdk_41_method_12_code 22 = .ok (.iload_n 0, 1) := by decide +kernel
theorem d20_23 : decode jdk_41_method_12_code 23 = .ok (.ireturn, 1) := by decide +kernel
theorem pn_20 : plainFor (⟨"jdk/internal/util/Preconditions", "checkFromToIndex", "(IIILjava/util/function/BiFunction;)I"⟩ : MethodName) = true := plainFor_of_name (by first | (simp [plainName, overriddenIn]; done) | decide +kernel)
theorem ef_20 (m : MethodId) (x0 : Int32) (x1 : Int32) (x2 : Int32) (x3 : Addr) : entryFrame m #[(.int x0), (.int x1), (.int x2), (.ref x3)] 4 = mkF m 0 #[.val (.int x0), .val (.int x1), .val (.int x2), .val (.ref x3)] [] := by first | (simp [entryFrame, mkF, argsToLocals, Value.category]; done) | rfl
def Q20 (Z : State) (p1 : Int32) (p2 : Int32) (p3 : Int32) (a4 : Addr)  (h0 : Heap) (n0 : Nat) (v : Option Value) (h : Heap) (L : List Loc) : Prop := v = some (.int p1) ∧ Fr n0 L ∧ h = h0
set_option maxRecDepth 65536 in
set_option maxHeartbeats 40000000 in
theorem rm20 (l : Launch) (Z : State) (a0 : Array Value) (hw : ∀ d ∈ tables_1, d.before a0 Z = true) (ws : List Jvm.Cond) (p1 : Int32) (p2 : Int32) (p3 : Int32) (a4 : Addr)  (h0 : Heap) (n0 : Nat) (Z0 : n0 ≤ h0.size) (hp : 0 ≤ p1.toInt ∧ p1.toInt ≤ p2.toInt ∧ p2.toInt ≤ p3.toInt) :
    MetFree l (⟨"jdk/internal/util/Preconditions", "checkFromToIndex", "(IIILjava/util/function/BiFunction;)I"⟩ : MethodName) (head1 (Jvm.Cond.code (⟨"jdk/internal/util/Preconditions", "checkFromToIndex", "(IIILjava/util/function/BiFunction;)I"⟩ : MethodName) jdk_41_method_12_code 4 (some .int) :: ws) ({ frames := 0, cells := 0, slots := 0, locals := 0 } : Room)) (fun a U => a = #[(.int p1), (.int p2), (.int p3), (.ref a4)] ∧ Z.Warmed39 U.vm ∧ U.heap = h0) (fun _ _ _ _ _ => True) (fun _ U o U' => ∃ v L, o = .returned v ∧ Q20 Z p1 p2 p3 a4 h0 n0 v U'.heap L ∧ FrameEnd U o U' L ({ frames := 0, cells := 0, slots := 0, locals := 0 } : Room).cells ({ frames := 0, cells := 0, slots := 0, locals := 0 } : Room).slots) := by
  refine MetFree.of_bodySF pn_20 hisR ?_
  intro p e s m args below meth c s₁ Bd hml0 hP hK
  obtain ⟨rfl, hZ, hh⟩ := hP
  have hx := Bd.exec
  have hby := Bd.bytes
  have hml : c.maxLocals = 4 := hml0
  have hown : s.vm.findClass "jdk/internal/util/Preconditions" = some m.cls := findClass_of_methodNamed Bd.named
  have hnm := (name_of_methodNamed Bd.named Bd.method).1
  have X0 : Stand p l e ({ frames := 0, cells := 0, slots := 0, locals := 0 } : Room) s m #[(.int p1), (.int p2), (.int p3), (.ref a4)] below meth c s₁ [] 0 0 := Stand.of_body Bd
  have e0 : s₁.heap = h0 := by rw [← hh, Bd.state]; rfl
  have N0 := Fr.nil n0
  refine own_start (Q := Q20 Z p1 p2 p3 a4 h0 n0) (own_cast (ef_20 m p1 p2 p3 a4) ?_)
  show Go p.tables e below _ (s₁.setTop (mkF m 0 #[.val (.int p1), .val (.int p2), .val (.int p3), .val (.ref a4)] []))
  refine Go.st (fun U hr => XS.iloadN X0.here hx rfl (hb hby d20_0) rfl hr) ?_
  show Go p.tables e below _ (s₁.setTop (mkF m 1 #[.val (.int p1), .val (.int p2), .val (.int p3), .val (.ref a4)] [(.int p1)]))
  have hc1_1 : ¬ (p1 < (0 : Int32)) := (by rw [own_lt32, show (0 : Int32).toInt = 0 from by decide]; omega)
  refine Go.st (fun U hr => XS.ifNo X0.here hx rfl (hb hby d20_1) rfl ((if0 _ _).trans (flt hc1_1).1) hr) ?_
  show Go p.tables e below _ (s₁.setTop (mkF m 4 #[.val (.int p1), .val (.int p2), .val (.int p3), .val (.ref a4)] []))
  refine Go.st (fun U hr => XS.iloadN X0.here hx rfl (hb hby d20_4) rfl hr) ?_
  show Go p.tables e below _ (s₁.setTop (mkF m 5 #[.val (.int p1), .val (.int p2), .val (.int p3), .val (.ref a4)] [(.int p1)]))
  refine Go.st (fun U hr => XS.iloadN X0.here hx rfl (hb hby d20_5) rfl hr) ?_
  show Go p.tables e below _ (s₁.setTop (mkF m 6 #[.val (.int p1), .val (.int p2), .val (.int p3), .val (.ref a4)] [(.int p2), (.int p1)]))
  have hc6_2 : ¬ (p2 < p1) := (by rw [own_lt32]; omega)
  refine Go.st (fun U hr => XS.icmpNo X0.here hx rfl (hb hby d20_6) rfl (flt hc6_2).2.2.1 hr) ?_
  show Go p.tables e below _ (s₁.setTop (mkF m 9 #[.val (.int p1), .val (.int p2), .val (.int p3), .val (.ref a4)] []))
  refine Go.st (fun U hr => XS.iloadN X0.here hx rfl (hb hby d20_9) rfl hr) ?_
  show Go p.tables e below _ (s₁.setTop (mkF m 10 #[.val (.int p1), .val (.int p2), .val (.int p3), .val (.ref a4)] [(.int p2)]))
  refine Go.st (fun U hr => XS.iloadN X0.here hx rfl (hb hby d20_10) rfl hr) ?_
  show Go p.tables e below _ (s₁.setTop (mkF m 11 #[.val (.int p1), .val (.int p2), .val (.int p3), .val (.ref a4)] [(.int p3), (.int p2)]))
  have hc11_3 : ¬ (p3 < p2) := (by rw [own_lt32]; omega)
  refine Go.st (fun U hr => XS.icmpYes X0.here hx rfl (pc0 := 11) (pc' := 22) rfl (hb hby d20_11) rfl (flt hc11_3).2.2.2 (by decide) (by decide) hr) ?_
  show Go p.tables e below _ (s₁.setTop (mkF m 22 #[.val (.int p1), .val (.int p2), .val (.int p3), .val (.ref a4)] []))
  refine Go.st (fun U hr => XS.iloadN X0.here hx rfl (hb hby d20_22) rfl hr) ?_
  show Go p.tables e below _ (s₁.setTop (mkF m 23 #[.val (.int p1), .val (.int p2), .val (.int p3), .val (.ref a4)] [(.int p1)]))
  exact own_retO X0 hx Bd.notSynchronized (t := .int) Bd.returns rfl (Or.inl ⟨rfl, Or.inl rfl, _, rfl⟩) (hb hby d20_23) ⟨rfl, N0, e0⟩ (by decide) (by decide)
theorem ef_20n (m : MethodId) (x0 : Int32) (x1 : Int32) (x2 : Int32) : entryFrame m #[(.int x0), (.int x1), (.int x2), .null] 4 = mkF m 0 #[.val (.int x0), .val (.int x1), .val (.int x2), .val .null] [] := by first | (simp [entryFrame, mkF, argsToLocals, Value.category]; done) | rfl
def Q20n (Z : State) (p1 : Int32) (p2 : Int32) (p3 : Int32)  (h0 : Heap) (n0 : Nat) (v : Option Value) (h : Heap) (L : List Loc) : Prop := v = some (.int p1) ∧ Fr n0 L ∧ h = h0
set_option maxRecDepth 65536 in
set_option maxHeartbeats 40000000 in
theorem rm20n (l : Launch) (Z : State) (a0 : Array Value) (hw : ∀ d ∈ tables_1, d.before a0 Z = true) (ws : List Jvm.Cond) (p1 : Int32) (p2 : Int32) (p3 : Int32)  (h0 : Heap) (n0 : Nat) (Z0 : n0 ≤ h0.size) (hp : 0 ≤ p1.toInt ∧ p1.toInt ≤ p2.toInt ∧ p2.toInt ≤ p3.toInt) :
    MetFree l (⟨"jdk/internal/util/Preconditions", "checkFromToIndex", "(IIILjava/util/function/BiFunction;)I"⟩ : MethodName) (head1 (Jvm.Cond.code (⟨"jdk/internal/util/Preconditions", "checkFromToIndex", "(IIILjava/util/function/BiFunction;)I"⟩ : MethodName) jdk_41_method_12_code 4 (some .int) :: ws) ({ frames := 0, cells := 0, slots := 0, locals := 0 } : Room)) (fun a U => a = #[(.int p1), (.int p2), (.int p3), .null] ∧ Z.Warmed39 U.vm ∧ U.heap = h0) (fun _ _ _ _ _ => True) (fun _ U o U' => ∃ v L, o = .returned v ∧ Q20n Z p1 p2 p3 h0 n0 v U'.heap L ∧ FrameEnd U o U' L ({ frames := 0, cells := 0, slots := 0, locals := 0 } : Room).cells ({ frames := 0, cells := 0, slots := 0, locals := 0 } : Room).slots) := by
  refine MetFree.of_bodySF pn_20 hisR ?_
  intro p e s m args below meth c s₁ Bd hml0 hP hK
  obtain ⟨rfl, hZ, hh⟩ := hP
  have hx := Bd.exec
  have hby := Bd.bytes
  have hml : c.maxLocals = 4 := hml0
  have hown : s.vm.findClass "jdk/internal/util/Preconditions" = some m.cls := findClass_of_methodNamed Bd.named
  have hnm := (name_of_methodNamed Bd.named Bd.method).1
  have X0 : Stand p l e ({ frames := 0, cells := 0, slots := 0, locals := 0 } : Room) s m #[(.int p1), (.int p2), (.int p3), .null] below meth c s₁ [] 0 0 := Stand.of_body Bd
  have e0 : s₁.heap = h0 := by rw [← hh, Bd.state]; rfl
  have N0 := Fr.nil n0
  refine own_start (Q := Q20n Z p1 p2 p3 h0 n0) (own_cast (ef_20n m p1 p2 p3) ?_)
  show Go p.tables e below _ (s₁.setTop (mkF m 0 #[.val (.int p1), .val (.int p2), .val (.int p3), .val .null] []))
  refine Go.st (fun U hr => XS.iloadN X0.here hx rfl (hb hby d20_0) rfl hr) ?_
  show Go p.tables e below _ (s₁.setTop (mkF m 1 #[.val (.int p1), .val (.int p2), .val (.int p3), .val .null] [(.int p1)]))
  have hc1_1 : ¬ (p1 < (0 : Int32)) := (by rw [own_lt32, show (0 : Int32).toInt = 0 from by decide]; omega)
  refine Go.st (fun U hr => XS.ifNo X0.here hx rfl (hb hby d20_1) rfl ((if0 _ _).trans (flt hc1_1).1) hr) ?_
  show Go p.tables e below _ (s₁.setTop (mkF m 4 #[.val (.int p1), .val (.int p2), .val (.int p3), .val .null] []))
  refine Go.st (fun U hr => XS.iloadN X0.here hx rfl (hb hby d20_4) rfl hr) ?_
  show Go p.tables e below _ (s₁.setTop (mkF m 5 #[.val (.int p1), .val (.int p2), .val (.int p3), .val .null] [(.int p1)]))
  refine Go.st (fun U hr => XS.iloadN X0.here hx rfl (hb hby d20_5) rfl hr) ?_
  show Go p.tables e below _ (s₁.setTop (mkF m 6 #[.val (.int p1), .val (.int p2), .val (.int p3), .val .null] [(.int p2), (.int p1)]))
  have hc6_2 : ¬ (p2 < p1) := (by rw [own_lt32]; omega)
  refine Go.st (fun U hr => XS.icmpNo X0.here hx rfl (hb hby d20_6) rfl (flt hc6_2).2.2.1 hr) ?_
  show Go p.tables e below _ (s₁.setTop (mkF m 9 #[.val (.int p1), .val (.int p2), .val (.int p3), .val .null] []))
  refine Go.st (fun U hr => XS.iloadN X0.here hx rfl (hb hby d20_9) rfl hr) ?_
  show Go p.tables e below _ (s₁.setTop (mkF m 10 #[.val (.int p1), .val (.int p2), .val (.int p3), .val .null] [(.int p2)]))
  refine Go.st (fun U hr => XS.iloadN X0.here hx rfl (hb hby d20_10) rfl hr) ?_
  show Go p.tables e below _ (s₁.setTop (mkF m 11 #[.val (.int p1), .val (.int p2), .val (.int p3), .val .null] [(.int p3), (.int p2)]))
  have hc11_3 : ¬ (p3 < p2) := (by rw [own_lt32]; omega)
  refine Go.st (fun U hr => XS.icmpYes X0.here hx rfl (pc0 := 11) (pc' := 22) rfl (hb hby d20_11) rfl (flt hc11_3).2.2.2 (by decide) (by decide) hr) ?_
  show Go p.tables e below _ (s₁.setTop (mkF m 22 #[.val (.int p1), .val (.int p2), .val (.int p3), .val .null] []))
  refine Go.st (fun U hr => XS.iloadN X0.here hx rfl (hb hby d20_22) rfl hr) ?_
  show Go p.tables e below _ (s₁.setTop (mkF m 23 #[.val (.int p1), .val (.int p2), .val (.int p3), .val .null] [(.int p1)]))
  exact own_retO X0 hx Bd.notSynchronized (t := .int) Bd.returns rfl (Or.inl ⟨rfl, Or.inl rfl, _, rfl⟩) (hb hby d20_23) ⟨rfl, N0, e0⟩ (by decide) (by decide)
theorem d19_0 : decode jdk_42_method_158_code 0 = .ok (.iload_n 0, 1) := by decide +kernel
theorem d19_1 : decode jdk_42_method_158_code 1 = .ok (.iload_n 1, 1) := by decide +kernel
theorem d19_2 : decode jdk_42_method_158_code 2 = .ok (.iload_n 2, 1) := by decide +kernel
theorem d19_3 : decode jdk_42_method_158_code 3 = .ok (.getstatic 1053, 3) := by decide +kernel
theorem d19_6 : decode jdk_42_method_158_code 6 = .ok (.invokestatic 1062, 3) := by decide +kernel
theorem d19_9 : decode jdk_42_method_158_code 9 = .ok (.pop, 1) := by decide +kernel
theorem d19_10 : decode jdk_42_method_158_code 10 = .ok (.return_, 1) := by decide +kernel
theorem pn_19 : plainFor (⟨"java/lang/String", "checkBoundsBeginEnd", "(III)V"⟩ : MethodName) = true := plainFor_of_name (by first | (simp [plainName, overriddenIn]; done) | decide +kernel)
theorem ef_19 (m : MethodId) (x0 : Int32) (x1 : Int32) (x2 : Int32) : entryFrame m #[(.int x0), (.int x1), (.int x2)] 3 = mkF m 0 #[.val (.int x0), .val (.int x1), .val (.int x2)] [] := by first | (simp [entryFrame, mkF, argsToLocals, Value.category]; done) | rfl
theorem pd_3 : parseMethodDescriptor "(IIILjava/util/function/BiFunction;)I" = some ⟨[.int, .int, .int, (.object "java/util/function/BiFunction")], some .int⟩ := by decide +kernel
def Q19 (Z : State) (p1 : Int32) (p2 : Int32) (p3 : Int32) (wc : Int32) (sf : Option Addr) (h0 : Heap) (n0 : Nat) (v : Option Value) (h : Heap) (L : List Loc) : Prop := v = none ∧ Fr n0 L ∧ h = h0
set_option maxRecDepth 65536 in
set_option maxHeartbeats 40000000 in
theorem rm19 (l : Launch) (Z : State) (a0 : Array Value) (hw : ∀ d ∈ tables_1, d.before a0 Z = true) (ws : List Jvm.Cond) (p1 : Int32) (p2 : Int32) (p3 : Int32) (wc : Int32) (sf : Option Addr) (h0 : Heap) (n0 : Nat) (Z0 : n0 ≤ h0.size) (hS : own_Sts Z h0 wc sf) (hp : 0 ≤ p1.toInt ∧ p1.toInt ≤ p2.toInt ∧ p2.toInt ≤ p3.toInt) :
    MetFree l (⟨"java/lang/String", "checkBoundsBeginEnd", "(III)V"⟩ : MethodName) (head1 (Jvm.Cond.code (⟨"java/lang/String", "checkBoundsBeginEnd", "(III)V"⟩ : MethodName) jdk_42_method_158_code 3 none :: ws) ({ frames := 1, cells := 0, slots := 0, locals := 15 } : Room)) (fun a U => a = #[(.int p1), (.int p2), (.int p3)] ∧ Z.Warmed39 U.vm ∧ U.heap = h0) (fun _ _ _ _ _ => True) (fun _ U o U' => ∃ v L, o = .returned v ∧ Q19 Z p1 p2 p3 wc sf h0 n0 v U'.heap L ∧ FrameEnd U o U' L ({ frames := 1, cells := 0, slots := 0, locals := 15 } : Room).cells ({ frames := 1, cells := 0, slots := 0, locals := 15 } : Room).slots) := by
  refine MetFree.of_bodySF pn_19 hisR ?_
  intro p e s m args below meth c s₁ Bd hml0 hP hK
  obtain ⟨rfl, hZ, hh⟩ := hP
  have hx := Bd.exec
  have hby := Bd.bytes
  have hml : c.maxLocals = 3 := hml0
  have hown : s.vm.findClass "java/lang/String" = some m.cls := findClass_of_methodNamed Bd.named
  have hnm := (name_of_methodNamed Bd.named Bd.method).1
  have X0 : Stand p l e ({ frames := 1, cells := 0, slots := 0, locals := 15 } : Room) s m #[(.int p1), (.int p2), (.int p3)] below meth c s₁ [] 0 0 := Stand.of_body Bd
  have e0 : s₁.heap = h0 := by rw [← hh, Bd.state]; rfl
  have N0 := Fr.nil n0
  refine own_start (Q := Q19 Z p1 p2 p3 wc sf h0 n0) (own_cast (ef_19 m p1 p2 p3) ?_)
  obtain ⟨S1, hwc, S2, S3, S4, S5⟩ := id hS
  show Go p.tables e below _ (s₁.setTop (mkF m 0 #[.val (.int p1), .val (.int p2), .val (.int p3)] []))
  cases sf with
  | none =>
    have S2v : Sta Z h0 "jdk/internal/util/Preconditions" "SIOOBE_FORMATTER" "Ljava/util/function/BiFunction;" .null := S2
    refine Go.st (fun U hr => XS.iloadN X0.here hx rfl (hb hby d19_0) rfl hr) ?_
    show Go p.tables e below _ (s₁.setTop (mkF m 1 #[.val (.int p1), .val (.int p2), .val (.int p3)] [(.int p1)]))
    refine Go.st (fun U hr => XS.iloadN X0.here hx rfl (hb hby d19_1) rfl hr) ?_
    show Go p.tables e below _ (s₁.setTop (mkF m 2 #[.val (.int p1), .val (.int p2), .val (.int p3)] [(.int p2), (.int p1)]))
    refine Go.st (fun U hr => XS.iloadN X0.here hx rfl (hb hby d19_2) rfl hr) ?_
    show Go p.tables e below _ (s₁.setTop (mkF m 3 #[.val (.int p1), .val (.int p2), .val (.int p3)] [(.int p3), (.int p2), (.int p1)]))
    obtain ⟨T1, X1, e1, st1⟩ := getS2 X0 hx hZ hown (host := "") (Or.inl (hw _ (List.mem_of_getElem? (i := 72) rfl))) Via.refl e0 S2v (g := (mkF m 3 #[.val (.int p1), .val (.int p2), .val (.int p3)] [(.int p3), (.int p2), (.int p1)])) rfl (hb hby d19_3)
    refine Go.st st1 ?_
    show Go p.tables e below _ (T1.setTop (mkF m 6 #[.val (.int p1), .val (.int p2), .val (.int p3)] [.null, (.int p3), (.int p2), (.int p1)]))
    obtain ⟨_, _, ⟨T2, L2, k2, n2⟩, -, X2, ⟨Lc2, hQ2, l2, y2, z2⟩, st2⟩ := Jvm.LawKit.callS X1 hx (y := (⟨"jdk/internal/util/Preconditions", "checkFromToIndex", "(IIILjava/util/function/BiFunction;)I"⟩ : MethodName)) hown (mvT hZ (hw _ (List.mem_of_getElem? (i := 89) rfl))) (mvT hZ (hw _ (List.mem_of_getElem? (i := 90) rfl))) (mvT hZ (hw _ (List.mem_of_getElem? (i := 73) rfl))) (mvT hZ (hw _ (List.mem_of_getElem? (i := 91) rfl))) (by decide) (backOf (W := 0) (rm20n l Z a0 hw [] p1 p2 p3 h0 n0 Z0 hp) hZ (hw _ (List.mem_of_getElem? (i := 91) rfl)) (hw _ (List.mem_of_getElem? (i := 73) rfl)) (by decide) (by decide)) (g := (mkF m 6 #[.val (.int p1), .val (.int p2), .val (.int p3)] [.null, (.int p3), (.int p2), (.int p1)])) rfl (by rw [hml]; rfl) (argsL := [(.int p1), (.int p2), (.int p3), .null]) (rest := []) (lenOf pd_3 rfl) rfl (by show 2 * 0 + _ ≤ _; exact Nat.le_of_eq rfl) (hb hby d19_6) (fun _ _ => ⟨rfl, e1, (by decide : 0 + 0 ≤ _), (by decide : 0 + 0 ≤ _)⟩)
    dsimp only [Pt.U, Pt.locs, Pt.cells, Pt.slots] at X2 l2 y2 z2 st2 hQ2
    subst l2 y2 z2
    obtain ⟨rfl, Nq2, ee2⟩ := hQ2
    have N2 := Fr.app N0 Nq2
    refine Go.st st2 ?_
    show Go p.tables e below _ (T2.setTop (mkF m 9 #[.val (.int p1), .val (.int p2), .val (.int p3)] [(.int p1)]))
    refine Go.st (fun U hr => XS.pop X2.here hx rfl (hb hby d19_9) rfl rfl hr) ?_
    show Go p.tables e below _ (T2.setTop (mkF m 10 #[.val (.int p1), .val (.int p2), .val (.int p3)] []))
    exact own_ret0 X2 hx Bd.notSynchronized Bd.returns (hb hby d19_10) ⟨rfl, N2, ee2⟩ (by decide) (by decide)
  | some sf =>
    have S2v : Sta Z h0 "jdk/internal/util/Preconditions" "SIOOBE_FORMATTER" "Ljava/util/function/BiFunction;" (.ref sf) := S2
    refine Go.st (fun U hr => XS.iloadN X0.here hx rfl (hb hby d19_0) rfl hr) ?_
    show Go p.tables e below _ (s₁.setTop (mkF m 1 #[.val (.int p1), .val (.int p2), .val (.int p3)] [(.int p1)]))
    refine Go.st (fun U hr => XS.iloadN X0.here hx rfl (hb hby d19_1) rfl hr) ?_
    show Go p.tables e below _ (s₁.setTop (mkF m 2 #[.val (.int p1), .val (.int p2), .val (.int p3)] [(.int p2), (.int p1)]))
    refine Go.st (fun U hr => XS.iloadN X0.here hx rfl (hb hby d19_2) rfl hr) ?_
    show Go p.tables e below _ (s₁.setTop (mkF m 3 #[.val (.int p1), .val (.int p2), .val (.int p3)] [(.int p3), (.int p2), (.int p1)]))
    obtain ⟨T3, X3, e3, st3⟩ := getS2 X0 hx hZ hown (host := "") (Or.inl (hw _ (List.mem_of_getElem? (i := 72) rfl))) Via.refl e0 S2v (g := (mkF m 3 #[.val (.int p1), .val (.int p2), .val (.int p3)] [(.int p3), (.int p2), (.int p1)])) rfl (hb hby d19_3)
    refine Go.st st3 ?_
    show Go p.tables e below _ (T3.setTop (mkF m 6 #[.val (.int p1), .val (.int p2), .val (.int p3)] [(.ref sf), (.int p3), (.int p2), (.int p1)]))
    obtain ⟨_, _, ⟨T4, L4, k4, n4⟩, -, X4, ⟨Lc4, hQ4, l4, y4, z4⟩, st4⟩ := Jvm.LawKit.callS X3 hx (y := (⟨"jdk/internal/util/Preconditions", "checkFromToIndex", "(IIILjava/util/function/BiFunction;)I"⟩ : MethodName)) hown (mvT hZ (hw _ (List.mem_of_getElem? (i := 89) rfl))) (mvT hZ (hw _ (List.mem_of_getElem? (i := 90) rfl))) (mvT hZ (hw _ (List.mem_of_getElem? (i := 73) rfl))) (mvT hZ (hw _ (List.mem_of_getElem? (i := 91) rfl))) (by decide) (backOf (W := 0) (rm20 l Z a0 hw [] p1 p2 p3 sf h0 n0 Z0 hp) hZ (hw _ (List.mem_of_getElem? (i := 91) rfl)) (hw _ (List.mem_of_getElem? (i := 73) rfl)) (by decide) (by decide)) (g := (mkF m 6 #[.val (.int p1), .val (.int p2), .val (.int p3)] [(.ref sf), (.int p3), (.int p2), (.int p1)])) rfl (by rw [hml]; rfl) (argsL := [(.int p1), (.int p2), (.int p3), (.ref sf)]) (rest := []) (lenOf pd_3 rfl) rfl (by show 2 * 0 + _ ≤ _; exact Nat.le_of_eq rfl) (hb hby d19_6) (fun _ _ => ⟨rfl, e3, (by decide : 0 + 0 ≤ _), (by decide : 0 + 0 ≤ _)⟩)
    dsimp only [Pt.U, Pt.locs, Pt.cells, Pt.slots] at X4 l4 y4 z4 st4 hQ4
    subst l4 y4 z4
    obtain ⟨rfl, Nq4, ee4⟩ := hQ4
    have N4 := Fr.app N0 Nq4
    refine Go.st st4 ?_
    show Go p.tables e below _ (T4.setTop (mkF m 9 #[.val (.int p1), .val (.int p2), .val (.int p3)] [(.int p1)]))
    refine Go.st (fun U hr => XS.pop X4.here hx rfl (hb hby d19_9) rfl rfl hr) ?_
    show Go p.tables e below _ (T4.setTop (mkF m 10 #[.val (.int p1), .val (.int p2), .val (.int p3)] []))
    exact own_ret0 X4 hx Bd.notSynchronized Bd.returns (hb hby d19_10) ⟨rfl, N4, ee4⟩ (by decide) (by decide)
theorem d40_0 : decode jdk_41_method_13_code 0 = .ok (.iload_n 2, 1) := by decide +kernel
theorem d40_1 : decode jdk_41_method_13_code 1 = .ok (.iload_n 0, 1) := by decide +kernel
theorem d40_2 : decode jdk_41_method_13_code 2 = .ok (.ior, 1) := by decide +kernel
theorem d40_3 : decode jdk_41_method_13_code 3 = .ok (.iload_n 1, 1) := by decide +kernel
theorem d40_4 : decode jdk_41_method_13_code 4 = .ok (.ior, 1) := by decide +kernel
theorem d40_5 : decode jdk_41_method_13_code 5 = .ok (.ifCond .lt 10, 3) := by decide +kernel
theorem d40_8 : decode jdk_41_method_13_code 8 = .ok (.iload_n 1, 1) := by decide +kernel
theorem d40_9 : decode jdk_41_method_13_code 9 = .ok (.iload_n 2, 1) := by decide +kernel
theorem d40_10 : decode jdk_41_method_13_code 10 = .ok (.iload_n 0, 1) := by decide +kernel
theorem d40_11 : decode jdk_41_method_13_code 11 = .ok (.isub, 1) := by decide +kernel
theorem d40_12 : decode jdk_41_method_13_code 12 = .ok (.if_icmp .le 11, 3) := by decide +kernel
theorem d40_23 : decode jdk_41_method_13_code 23 = .ok (.iload_n 0, 1) := by decide +kernel
theorem d40_24 : decode jdk_41_method_13_code 24 = .ok (.ireturn, 1) := by decide +kernel
theorem pn_40 : plainFor (⟨"jdk/internal/util/Preconditions", "checkFromIndexSize", "(IIILjava/util/function/BiFunction;)I"⟩ : MethodName) = true := plainFor_of_name (by first | (simp [plainName, overriddenIn]; done) | decide +kernel)
theorem ef_40 (m : MethodId) (x0 : Int32) (x1 : Int32) (x2 : Int32) (x3 : Addr) : entryFrame m #[(.int x0), (.int x1), (.int x2), (.ref x3)] 4 = mkF m 0 #[.val (.int x0), .val (.int x1), .val (.int x2), .val (.ref x3)] [] := by first | (simp [entryFrame, mkF, argsToLocals, Value.category]; done) | rfl
def Q40 (Z : State) (p1 : Int32) (p2 : Int32) (p3 : Int32) (a4 : Addr)  (h0 : Heap) (n0 : Nat) (v : Option Value) (h : Heap) (L : List Loc) : Prop := v = some (.int p1) ∧ Fr n0 L ∧ h = h0
set_option maxRecDepth 65536 in
set_option maxHeartbeats 40000000 in
theorem rm40 (l : Launch) (Z : State) (a0 : Array Value) (hw : ∀ d ∈ tables_1, d.before a0 Z = true) (ws : List Jvm.Cond) (p1 : Int32) (p2 : Int32) (p3 : Int32) (a4 : Addr)  (h0 : Heap) (n0 : Nat) (Z0 : n0 ≤ h0.size) (hp : 0 ≤ p1.toInt ∧ 0 ≤ p2.toInt ∧ p1.toInt + p2.toInt ≤ p3.toInt ∧ p3.toInt ≤ 1000) :
    MetFree l (⟨"jdk/internal/util/Preconditions", "checkFromIndexSize", "(IIILjava/util/function/BiFunction;)I"⟩ : MethodName) (head1 (Jvm.Cond.code (⟨"jdk/internal/util/Preconditions", "checkFromIndexSize", "(IIILjava/util/function/BiFunction;)I"⟩ : MethodName) jdk_41_method_13_code 4 (some .int) :: ws) ({ frames := 0, cells := 0, slots := 0, locals := 0 } : Room)) (fun a U => a = #[(.int p1), (.int p2), (.int p3), (.ref a4)] ∧ Z.Warmed39 U.vm ∧ U.heap = h0) (fun _ _ _ _ _ => True) (fun _ U o U' => ∃ v L, o = .returned v ∧ Q40 Z p1 p2 p3 a4 h0 n0 v U'.heap L ∧ FrameEnd U o U' L ({ frames := 0, cells := 0, slots := 0, locals := 0 } : Room).cells ({ frames := 0, cells := 0, slots := 0, locals := 0 } : Room).slots) := by
  refine MetFree.of_bodySF pn_40 hisR ?_
  intro p e s m args below meth c s₁ Bd hml0 hP hK
  obtain ⟨rfl, hZ, hh⟩ := hP
  have hx := Bd.exec
  have hby := Bd.bytes
  have hml : c.maxLocals = 4 := hml0
  have hown : s.vm.findClass "jdk/internal/util/Preconditions" = some m.cls := findClass_of_methodNamed Bd.named
  have hnm := (name_of_methodNamed Bd.named Bd.method).1
  have X0 : Stand p l e ({ frames := 0, cells := 0, slots := 0, locals := 0 } : Room) s m #[(.int p1), (.int p2), (.int p3), (.ref a4)] below meth c s₁ [] 0 0 := Stand.of_body Bd
  have e0 : s₁.heap = h0 := by rw [← hh, Bd.state]; rfl
  have N0 := Fr.nil n0
  refine own_start (Q := Q40 Z p1 p2 p3 a4 h0 n0) (own_cast (ef_40 m p1 p2 p3 a4) ?_)
  show Go p.tables e below _ (s₁.setTop (mkF m 0 #[.val (.int p1), .val (.int p2), .val (.int p3), .val (.ref a4)] []))
  refine Go.st (fun U hr => XS.iloadN X0.here hx rfl (hb hby d40_0) rfl hr) ?_
  show Go p.tables e below _ (s₁.setTop (mkF m 1 #[.val (.int p1), .val (.int p2), .val (.int p3), .val (.ref a4)] [(.int p3)]))
  refine Go.st (fun U hr => XS.iloadN X0.here hx rfl (hb hby d40_1) rfl hr) ?_
  show Go p.tables e below _ (s₁.setTop (mkF m 2 #[.val (.int p1), .val (.int p2), .val (.int p3), .val (.ref a4)] [(.int p1), (.int p3)]))
  refine Go.st (fun U hr => XS.ior X0.here hx rfl (hb hby d40_2) rfl hr) ?_
  show Go p.tables e below _ (s₁.setTop (mkF m 3 #[.val (.int p1), .val (.int p2), .val (.int p3), .val (.ref a4)] [(.int (p3 ||| p1))]))
  refine Go.st (fun U hr => XS.iloadN X0.here hx rfl (hb hby d40_3) rfl hr) ?_
  show Go p.tables e below _ (s₁.setTop (mkF m 4 #[.val (.int p1), .val (.int p2), .val (.int p3), .val (.ref a4)] [(.int p2), (.int (p3 ||| p1))]))
  refine Go.st (fun U hr => XS.ior X0.here hx rfl (hb hby d40_4) rfl hr) ?_
  show Go p.tables e below _ (s₁.setTop (mkF m 5 #[.val (.int p1), .val (.int p2), .val (.int p3), .val (.ref a4)] [(.int ((p3 ||| p1) ||| p2))]))
  have hc5_1 : ¬ (((p3 ||| p1) ||| p2) < (0 : Int32)) := (by rw [own_lt32, show (0 : Int32).toInt = 0 from by decide]; have q1 := (c_orS p3 p1).1 (by omega) (by omega); have q2 := (c_orS (p3 ||| p1) p2).1 q1 (by omega); omega)
  refine Go.st (fun U hr => XS.ifNo X0.here hx rfl (hb hby d40_5) rfl ((if0 _ _).trans (flt hc5_1).1) hr) ?_
  show Go p.tables e below _ (s₁.setTop (mkF m 8 #[.val (.int p1), .val (.int p2), .val (.int p3), .val (.ref a4)] []))
  refine Go.st (fun U hr => XS.iloadN X0.here hx rfl (hb hby d40_8) rfl hr) ?_
  show Go p.tables e below _ (s₁.setTop (mkF m 9 #[.val (.int p1), .val (.int p2), .val (.int p3), .val (.ref a4)] [(.int p2)]))
  refine Go.st (fun U hr => XS.iloadN X0.here hx rfl (hb hby d40_9) rfl hr) ?_
  show Go p.tables e below _ (s₁.setTop (mkF m 10 #[.val (.int p1), .val (.int p2), .val (.int p3), .val (.ref a4)] [(.int p3), (.int p2)]))
  refine Go.st (fun U hr => XS.iloadN X0.here hx rfl (hb hby d40_10) rfl hr) ?_
  show Go p.tables e below _ (s₁.setTop (mkF m 11 #[.val (.int p1), .val (.int p2), .val (.int p3), .val (.ref a4)] [(.int p1), (.int p3), (.int p2)]))
  refine Go.st (fun U hr => XS.isub X0.here hx rfl (hb hby d40_11) rfl hr) ?_
  show Go p.tables e below _ (s₁.setTop (mkF m 12 #[.val (.int p1), .val (.int p2), .val (.int p3), .val (.ref a4)] [(.int (p3 - p1)), (.int p2)]))
  have hc12_2 : ¬ ((p3 - p1) < p2) := (by rw [own_lt32]; have q1 := c_isub p3 p1; have q2 := rng32 (p3 - p1); omega)
  refine Go.st (fun U hr => XS.icmpYes X0.here hx rfl (pc0 := 12) (pc' := 23) rfl (hb hby d40_12) rfl (flt hc12_2).2.2.2 (by decide) (by decide) hr) ?_
  show Go p.tables e below _ (s₁.setTop (mkF m 23 #[.val (.int p1), .val (.int p2), .val (.int p3), .val (.ref a4)] []))
  refine Go.st (fun U hr => XS.iloadN X0.here hx rfl (hb hby d40_23) rfl hr) ?_
  show Go p.tables e below _ (s₁.setTop (mkF m 24 #[.val (.int p1), .val (.int p2), .val (.int p3), .val (.ref a4)] [(.int p1)]))
  exact own_retO X0 hx Bd.notSynchronized (t := .int) Bd.returns rfl (Or.inl ⟨rfl, Or.inl rfl, _, rfl⟩) (hb hby d40_24) ⟨rfl, N0, e0⟩ (by decide) (by decide)
theorem ef_40n (m : MethodId) (x0 : Int32) (x1 : Int32) (x2 : Int32) : entryFrame m #[(.int x0), (.int x1), (.int x2), .null] 4 = mkF m 0 #[.val (.int x0), .val (.int x1), .val (.int x2), .val .null] [] := by first | (simp [entryFrame, mkF, argsToLocals, Value.category]; done) | rfl
def Q40n (Z : State) (p1 : Int32) (p2 : Int32) (p3 : Int32)  (h0 : Heap) (n0 : Nat) (v : Option Value) (h : Heap) (L : List Loc) : Prop := v = some (.int p1) ∧ Fr n0 L ∧ h = h0
set_option maxRecDepth 65536 in
set_option maxHeartbeats 40000000 in
theorem rm40n (l : Launch) (Z : State) (a0 : Array Value) (hw : ∀ d ∈ tables_1, d.before a0 Z = true) (ws : List Jvm.Cond) (p1 : Int32) (p2 : Int32) (p3 : Int32)  (h0 : Heap) (n0 : Nat) (Z0 : n0 ≤ h0.size) (hp : 0 ≤ p1.toInt ∧ 0 ≤ p2.toInt ∧ p1.toInt + p2.toInt ≤ p3.toInt ∧ p3.toInt ≤ 1000) :
    MetFree l (⟨"jdk/internal/util/Preconditions", "checkFromIndexSize", "(IIILjava/util/function/BiFunction;)I"⟩ : MethodName) (head1 (Jvm.Cond.code (⟨"jdk/internal/util/Preconditions", "checkFromIndexSize", "(IIILjava/util/function/BiFunction;)I"⟩ : MethodName) jdk_41_method_13_code 4 (some .int) :: ws) ({ frames := 0, cells := 0, slots := 0, locals := 0 } : Room)) (fun a U => a = #[(.int p1), (.int p2), (.int p3), .null] ∧ Z.Warmed39 U.vm ∧ U.heap = h0) (fun _ _ _ _ _ => True) (fun _ U o U' => ∃ v L, o = .returned v ∧ Q40n Z p1 p2 p3 h0 n0 v U'.heap L ∧ FrameEnd U o U' L ({ frames := 0, cells := 0, slots := 0, locals := 0 } : Room).cells ({ frames := 0, cells := 0, slots := 0, locals := 0 } : Room).slots) := by
  refine MetFree.of_bodySF pn_40 hisR ?_
  intro p e s m args below meth c s₁ Bd hml0 hP hK
  obtain ⟨rfl, hZ, hh⟩ := hP
  have hx := Bd.exec
  have hby := Bd.bytes
  have hml : c.maxLocals = 4 := hml0
  have hown : s.vm.findClass "jdk/internal/util/Preconditions" = some m.cls := findClass_of_methodNamed Bd.named
  have hnm := (name_of_methodNamed Bd.named Bd.method).1
  have X0 : Stand p l e ({ frames := 0, cells := 0, slots := 0, locals := 0 } : Room) s m #[(.int p1), (.int p2), (.int p3), .null] below meth c s₁ [] 0 0 := Stand.of_body Bd
  have e0 : s₁.heap = h0 := by rw [← hh, Bd.state]; rfl
  have N0 := Fr.nil n0
  refine own_start (Q := Q40n Z p1 p2 p3 h0 n0) (own_cast (ef_40n m p1 p2 p3) ?_)
  show Go p.tables e below _ (s₁.setTop (mkF m 0 #[.val (.int p1), .val (.int p2), .val (.int p3), .val .null] []))
  refine Go.st (fun U hr => XS.iloadN X0.here hx rfl (hb hby d40_0) rfl hr) ?_
  show Go p.tables e below _ (s₁.setTop (mkF m 1 #[.val (.int p1), .val (.int p2), .val (.int p3), .val .null] [(.int p3)]))
  refine Go.st (fun U hr => XS.iloadN X0.here hx rfl (hb hby d40_1) rfl hr) ?_
  show Go p.tables e below _ (s₁.setTop (mkF m 2 #[.val (.int p1), .val (.int p2), .val (.int p3), .val .null] [(.int p1), (.int p3)]))
  refine Go.st (fun U hr => XS.ior X0.here hx rfl (hb hby d40_2) rfl hr) ?_
  show Go p.tables e below _ (s₁.setTop (mkF m 3 #[.val (.int p1), .val (.int p2), .val (.int p3), .val .null] [(.int (p3 ||| p1))]))
  refine Go.st (fun U hr => XS.iloadN X0.here hx rfl (hb hby d40_3) rfl hr) ?_
  show Go p.tables e below _ (s₁.setTop (mkF m 4 #[.val (.int p1), .val (.int p2), .val (.int p3), .val .null] [(.int p2), (.int (p3 ||| p1))]))
  refine Go.st (fun U hr => XS.ior X0.here hx rfl (hb hby d40_4) rfl hr) ?_
  show Go p.tables e below _ (s₁.setTop (mkF m 5 #[.val (.int p1), .val (.int p2), .val (.int p3), .val .null] [(.int ((p3 ||| p1) ||| p2))]))
  have hc5_1 : ¬ (((p3 ||| p1) ||| p2) < (0 : Int32)) := (by rw [own_lt32, show (0 : Int32).toInt = 0 from by decide]; have q1 := (c_orS p3 p1).1 (by omega) (by omega); have q2 := (c_orS (p3 ||| p1) p2).1 q1 (by omega); omega)
  refine Go.st (fun U hr => XS.ifNo X0.here hx rfl (hb hby d40_5) rfl ((if0 _ _).trans (flt hc5_1).1) hr) ?_
  show Go p.tables e below _ (s₁.setTop (mkF m 8 #[.val (.int p1), .val (.int p2), .val (.int p3), .val .null] []))
  refine Go.st (fun U hr => XS.iloadN X0.here hx rfl (hb hby d40_8) rfl hr) ?_
  show Go p.tables e below _ (s₁.setTop (mkF m 9 #[.val (.int p1), .val (.int p2), .val (.int p3), .val .null] [(.int p2)]))
  refine Go.st (fun U hr => XS.iloadN X0.here hx rfl (hb hby d40_9) rfl hr) ?_
  show Go p.tables e below _ (s₁.setTop (mkF m 10 #[.val (.int p1), .val (.int p2), .val (.int p3), .val .null] [(.int p3), (.int p2)]))
  refine Go.st (fun U hr => XS.iloadN X0.here hx rfl (hb hby d40_10) rfl hr) ?_
  show Go p.tables e below _ (s₁.setTop (mkF m 11 #[.val (.int p1), .val (.int p2), .val (.int p3), .val .null] [(.int p1), (.int p3), (.int p2)]))
  refine Go.st (fun U hr => XS.isub X0.here hx rfl (hb hby d40_11) rfl hr) ?_
  show Go p.tables e below _ (s₁.setTop (mkF m 12 #[.val (.int p1), .val (.int p2), .val (.int p3), .val .null] [(.int (p3 - p1)), (.int p2)]))
  have hc12_2 : ¬ ((p3 - p1) < p2) := (by rw [own_lt32]; have q1 := c_isub p3 p1; have q2 := rng32 (p3 - p1); omega)
  refine Go.st (fun U hr => XS.icmpYes X0.here hx rfl (pc0 := 12) (pc' := 23) rfl (hb hby d40_12) rfl (flt hc12_2).2.2.2 (by decide) (by decide) hr) ?_
  show Go p.tables e below _ (s₁.setTop (mkF m 23 #[.val (.int p1), .val (.int p2), .val (.int p3), .val .null] []))
  refine Go.st (fun U hr => XS.iloadN X0.here hx rfl (hb hby d40_23) rfl hr) ?_
  show Go p.tables e below _ (s₁.setTop (mkF m 24 #[.val (.int p1), .val (.int p2), .val (.int p3), .val .null] [(.int p1)]))
  exact own_retO X0 hx Bd.notSynchronized (t := .int) Bd.returns rfl (Or.inl ⟨rfl, Or.inl rfl, _, rfl⟩) (hb hby d40_24) ⟨rfl, N0, e0⟩ (by decide) (by decide)
theorem d39_0 : decode jdk_42_method_157_code 0 = .ok (.iload_n 0, 1) := by decide +kernel
theorem d39_1 : decode jdk_42_method_157_code 1 = .ok (.iload_n 1, 1) := by decide +kernel
theorem d39_2 : decode jdk_42_method_157_code 2 = .ok (.iload_n 2, 1) := by decide +kernel
theorem d39_3 : decode jdk_42_method_157_code 3 = .ok (.getstatic 1053, 3) := by decide +kernel
theorem d39_6 : decode jdk_42_method_157_code 6 = .ok (.invokestatic 1065, 3) := by decide +kernel
theorem d39_9 : decode jdk_42_method_157_code 9 = .ok (.ireturn, 1) := by decide +kernel
theorem pn_39 : plainFor (⟨"java/lang/String", "checkBoundsOffCount", "(III)I"⟩ : MethodName) = true := plainFor_of_name (by first | (simp [plainName, overriddenIn]; done) | decide +kernel)
theorem ef_39 (m : MethodId) (x0 : Int32) (x1 : Int32) (x2 : Int32) : entryFrame m #[(.int x0), (.int x1), (.int x2)] 3 = mkF m 0 #[.val (.int x0), .val (.int x1), .val (.int x2)] [] := by first | (simp [entryFrame, mkF, argsToLocals, Value.category]; done) | rfl
def Q39 (Z : State) (p1 : Int32) (p2 : Int32) (p3 : Int32) (wc : Int32) (sf : Option Addr) (h0 : Heap) (n0 : Nat) (v : Option Value) (h : Heap) (L : List Loc) : Prop := v = some (.int p1) ∧ Fr n0 L ∧ h = h0
set_option maxRecDepth 65536 in
set_option maxHeartbeats 40000000 in
theorem rm39 (l : Launch) (Z : State) (a0 : Array Value) (hw : ∀ d ∈ tables_1, d.before a0 Z = true) (ws : List Jvm.Cond) (p1 : Int32) (p2 : Int32) (p3 : Int32) (wc : Int32) (sf : Option Addr) (h0 : Heap) (n0 : Nat) (Z0 : n0 ≤ h0.size) (hS : own_Sts Z h0 wc sf) (hp : 0 ≤ p1.toInt ∧ 0 ≤ p2.toInt ∧ p1.toInt + p2.toInt ≤ p3.toInt ∧ p3.toInt ≤ 1000) :
    MetFree l (⟨"java/lang/String", "checkBoundsOffCount", "(III)I"⟩ : MethodName) (head1 (Jvm.Cond.code (⟨"java/lang/String", "checkBoundsOffCount", "(III)I"⟩ : MethodName) jdk_42_method_157_code 3 (some .int) :: ws) ({ frames := 1, cells := 0, slots := 0, locals := 15 } : Room)) (fun a U => a = #[(.int p1), (.int p2), (.int p3)] ∧ Z.Warmed39 U.vm ∧ U.heap = h0) (fun _ _ _ _ _ => True) (fun _ U o U' => ∃ v L, o = .returned v ∧ Q39 Z p1 p2 p3 wc sf h0 n0 v U'.heap L ∧ FrameEnd U o U' L ({ frames := 1, cells := 0, slots := 0, locals := 15 } : Room).cells ({ frames := 1, cells := 0, slots := 0, locals := 15 } : Room).slots) := by
  refine MetFree.of_bodySF pn_39 hisR ?_
  intro p e s m args below meth c s₁ Bd hml0 hP hK
  obtain ⟨rfl, hZ, hh⟩ := hP
  have hx := Bd.exec
  have hby := Bd.bytes
  have hml : c.maxLocals = 3 := hml0
  have hown : s.vm.findClass "java/lang/String" = some m.cls := findClass_of_methodNamed Bd.named
  have hnm := (name_of_methodNamed Bd.named Bd.method).1
  have X0 : Stand p l e ({ frames := 1, cells := 0, slots := 0, locals := 15 } : Room) s m #[(.int p1), (.int p2), (.int p3)] below meth c s₁ [] 0 0 := Stand.of_body Bd
  have e0 : s₁.heap = h0 := by rw [← hh, Bd.state]; rfl
  have N0 := Fr.nil n0
  refine own_start (Q := Q39 Z p1 p2 p3 wc sf h0 n0) (own_cast (ef_39 m p1 p2 p3) ?_)
  obtain ⟨S1, hwc, S2, S3, S4, S5⟩ := id hS
  show Go p.tables e below _ (s₁.setTop (mkF m 0 #[.val (.int p1), .val (.int p2), .val (.int p3)] []))
  cases sf with
  | none =>
    have S2v : Sta Z h0 "jdk/internal/util/Preconditions" "SIOOBE_FORMATTER" "Ljava/util/function/BiFunction;" .null := S2
    refine Go.st (fun U hr => XS.iloadN X0.here hx rfl (hb hby d39_0) rfl hr) ?_
    show Go p.tables e below _ (s₁.setTop (mkF m 1 #[.val (.int p1), .val (.int p2), .val (.int p3)] [(.int p1)]))
    refine Go.st (fun U hr => XS.iloadN X0.here hx rfl (hb hby d39_1) rfl hr) ?_
    show Go p.tables e below _ (s₁.setTop (mkF m 2 #[.val (.int p1), .val (.int p2), .val (.int p3)] [(.int p2), (.int p1)]))
    refine Go.st (fun U hr => XS.iloadN X0.here hx rfl (hb hby d39_2) rfl hr) ?_
    show Go p.tables e below _ (s₁.setTop (mkF m 3 #[.val (.int p1), .val (.int p2), .val (.int p3)] [(.int p3), (.int p2), (.int p1)]))
    obtain ⟨T1, X1, e1, st1⟩ := getS2 X0 hx hZ hown (host := "") (Or.inl (hw _ (List.mem_of_getElem? (i := 72) rfl))) Via.refl e0 S2v (g := (mkF m 3 #[.val (.int p1), .val (.int p2), .val (.int p3)] [(.int p3), (.int p2), (.int p1)])) rfl (hb hby d39_3)
    refine Go.st st1 ?_
    show Go p.tables e below _ (T1.setTop (mkF m 6 #[.val (.int p1), .val (.int p2), .val (.int p3)] [.null, (.int p3), (.int p2), (.int p1)]))
    obtain ⟨_, _, ⟨T2, L2, k2, n2⟩, -, X2, ⟨Lc2, hQ2, l2, y2, z2⟩, st2⟩ := Jvm.LawKit.callS X1 hx (y := (⟨"jdk/internal/util/Preconditions", "checkFromIndexSize", "(IIILjava/util/function/BiFunction;)I"⟩ : MethodName)) hown (mvT hZ (hw _ (List.mem_of_getElem? (i := 161) rfl))) (mvT hZ (hw _ (List.mem_of_getElem? (i := 162) rfl))) (mvT hZ (hw _ (List.mem_of_getElem? (i := 73) rfl))) (mvT hZ (hw _ (List.mem_of_getElem? (i := 163) rfl))) (by decide) (backOf (W := 0) (rm40n l Z a0 hw [] p1 p2 p3 h0 n0 Z0 hp) hZ (hw _ (List.mem_of_getElem? (i := 163) rfl)) (hw _ (List.mem_of_getElem? (i := 73) rfl)) (by decide) (by decide)) (g := (mkF m 6 #[.val (.int p1), .val (.int p2), .val (.int p3)] [.null, (.int p3), (.int p2), (.int p1)])) rfl (by rw [hml]; rfl) (argsL := [(.int p1), (.int p2), (.int p3), .null]) (rest := []) (lenOf pd_3 rfl) rfl (by show 2 * 0 + _ ≤ _; exact Nat.le_of_eq rfl) (hb hby d39_6) (fun _ _ => ⟨rfl, e1, (by decide : 0 + 0 ≤ _), (by decide : 0 + 0 ≤ _)⟩)
    dsimp only [Pt.U, Pt.locs, Pt.cells, Pt.slots] at X2 l2 y2 z2 st2 hQ2
    subst l2 y2 z2
    obtain ⟨rfl, Nq2, ee2⟩ := hQ2
    have N2 := Fr.app N0 Nq2
    refine Go.st st2 ?_
    show Go p.tables e below _ (T2.setTop (mkF m 9 #[.val (.int p1), .val (.int p2), .val (.int p3)] [(.int p1)]))
    exact own_retO X2 hx Bd.notSynchronized (t := .int) Bd.returns rfl (Or.inl ⟨rfl, Or.inl rfl, _, rfl⟩) (hb hby d39_9) ⟨rfl, N2, ee2⟩ (by decide) (by decide)
  | some sf =>
    have S2v : Sta Z h0 "jdk/internal/util/Preconditions" "SIOOBE_FORMATTER" "Ljava/util/function/BiFunction;" (.ref sf) := S2
    refine Go.st (fun U hr => XS.iloadN X0.here hx rfl (hb hby d39_0) rfl hr) ?_
    show Go p.tables e below _ (s₁.setTop (mkF m 1 #[.val (.int p1), .val (.int p2), .val (.int p3)] [(.int p1)]))
    refine Go.st (fun U hr => XS.iloadN X0.here hx rfl (hb hby d39_1) rfl hr) ?_
    show Go p.tables e below _ (s₁.setTop (mkF m 2 #[.val (.int p1), .val (.int p2), .val (.int p3)] [(.int p2), (.int p1)]))
    refine Go.st (fun U hr => XS.iloadN X0.here hx rfl (hb hby d39_2) rfl hr) ?_
    show Go p.tables e below _ (s₁.setTop (mkF m 3 #[.val (.int p1), .val (.int p2), .val (.int p3)] [(.int p3), (.int p2), (.int p1)]))
    obtain ⟨T3, X3, e3, st3⟩ := getS2 X0 hx hZ hown (host := "") (Or.inl (hw _ (List.mem_of_getElem? (i := 72) rfl))) Via.refl e0 S2v (g := (mkF m 3 #[.val (.int p1), .val (.int p2), .val (.int p3)] [(.int p3), (.int p2), (.int p1)])) rfl (hb hby d39_3)
    refine Go.st st3 ?_
    show Go p.tables e below _ (T3.setTop (mkF m 6 #[.val (.int p1), .val (.int p2), .val (.int p3)] [(.ref sf), (.int p3), (.int p2), (.int p1)]))
    obtain ⟨_, _, ⟨T4, L4, k4, n4⟩, -, X4, ⟨Lc4, hQ4, l4, y4, z4⟩, st4⟩ := Jvm.LawKit.callS X3 hx (y := (⟨"jdk/internal/util/Preconditions", "checkFromIndexSize", "(IIILjava/util/function/BiFunction;)I"⟩ : MethodName)) hown (mvT hZ (hw _ (List.mem_of_getElem? (i := 161) rfl))) (mvT hZ (hw _ (List.mem_of_getElem? (i := 162) rfl))) (mvT hZ (hw _ (List.mem_of_getElem? (i := 73) rfl))) (mvT hZ (hw _ (List.mem_of_getElem? (i := 163) rfl))) (by decide) (backOf (W := 0) (rm40 l Z a0 hw [] p1 p2 p3 sf h0 n0 Z0 hp) hZ (hw _ (List.mem_of_getElem? (i := 163) rfl)) (hw _ (List.mem_of_getElem? (i := 73) rfl)) (by decide) (by decide)) (g := (mkF m 6 #[.val (.int p1), .val (.int p2), .val (.int p3)] [(.ref sf), (.int p3), (.int p2), (.int p1)])) rfl (by rw [hml]; rfl) (argsL := [(.int p1), (.int p2), (.int p3), (.ref sf)]) (rest := []) (lenOf pd_3 rfl) rfl (by show 2 * 0 + _ ≤ _; exact Nat.le_of_eq rfl) (hb hby d39_6) (fun _ _ => ⟨rfl, e3, (by decide : 0 + 0 ≤ _), (by decide : 0 + 0 ≤ _)⟩)
    dsimp only [Pt.U, Pt.locs, Pt.cells, Pt.slots] at X4 l4 y4 z4 st4 hQ4
    subst l4 y4 z4
    obtain ⟨rfl, Nq4, ee4⟩ := hQ4
    have N4 := Fr.app N0 Nq4
    refine Go.st st4 ?_
    show Go p.tables e below _ (T4.setTop (mkF m 9 #[.val (.int p1), .val (.int p2), .val (.int p3)] [(.int p1)]))
    exact own_retO X4 hx Bd.notSynchronized (t := .int) Bd.returns rfl (Or.inl ⟨rfl, Or.inl rfl, _, rfl⟩) (hb hby d39_9) ⟨rfl, N4, ee4⟩ (by decide) (by decide)
theorem d34_0 : decode jdk_52_method_6_code 0 = .ok (.aload_n 0, 1) := by decide +kernel
theorem d34_1 : decode jdk_52_method_6_code 1 = .ok (.arraylength, 1) := by decide +kernel
theorem d34_2 : decode jdk_52_method_6_code 2 = .ok (.iconst 1, 1) := by decide +kernel
theorem d34_3 : decode jdk_52_method_6_code 3 = .ok (.ishr, 1) := by decide +kernel
theorem d34_4 : decode jdk_52_method_6_code 4 = .ok (.ireturn, 1) := by decide +kernel
theorem pn_34 : plainFor (⟨"java/lang/StringUTF16", "length", "([B)I"⟩ : MethodName) = true := plainFor_of_name (by first | (simp [plainName, overriddenIn]; done) | decide +kernel)
theorem ef_34 (m : MethodId) (x0 : Addr) : entryFrame m #[(.ref x0)] 1 = mkF m 0 #[.val (.ref x0)] [] := by first | (simp [entryFrame, mkF, argsToLocals, Value.category]; done) | rfl
def Q34 (Z : State) (a1 : Addr) (kb : ClassId) (zn : Int32) (ys : List Int32) (h0 : Heap) (n0 : Nat) (v : Option Value) (h : Heap) (L : List Loc) : Prop := v = some (.int (zn >>> ((1 : Int32) &&& 31))) ∧ Fr n0 L ∧ h = h0
set_option maxRecDepth 65536 in
set_option maxHeartbeats 40000000 in
theorem rm34 (l : Launch) (Z : State) (a0 : Array Value) (hw : ∀ d ∈ tables_1, d.before a0 Z = true) (ws : List Jvm.Cond) (a1 : Addr) (kb : ClassId) (zn : Int32) (ys : List Int32) (h0 : Heap) (n0 : Nat) (Z0 : n0 ≤ h0.size) (V1 : Arv Z h0 a1 kb .byte zn (ys.map Value.int) (.int (0 : Int32))) (hz : zn.toInt = ys.length) (hz2 : ys.length ≤ 100) :
    MetFree l (⟨"java/lang/StringUTF16", "length", "([B)I"⟩ : MethodName) (head1 (Jvm.Cond.code (⟨"java/lang/StringUTF16", "length", "([B)I"⟩ : MethodName) jdk_52_method_6_code 1 (some .int) :: ws) ({ frames := 0, cells := 0, slots := 0, locals := 0 } : Room)) (fun a U => a = #[(.ref a1)] ∧ Z.Warmed39 U.vm ∧ U.heap = h0) (fun _ _ _ _ _ => True) (fun _ U o U' => ∃ v L, o = .returned v ∧ Q34 Z a1 kb zn ys h0 n0 v U'.heap L ∧ FrameEnd U o U' L ({ frames := 0, cells := 0, slots := 0, locals := 0 } : Room).cells ({ frames := 0, cells := 0, slots := 0, locals := 0 } : Room).slots) := by
  refine MetFree.of_bodySF pn_34 hisR ?_
  intro p e s m args below meth c s₁ Bd hml0 hP hK
  obtain ⟨rfl, hZ, hh⟩ := hP
  have hx := Bd.exec
  have hby := Bd.bytes
  have hml : c.maxLocals = 1 := hml0
  have hown : s.vm.findClass "java/lang/StringUTF16" = some m.cls := findClass_of_methodNamed Bd.named
  have hnm := (name_of_methodNamed Bd.named Bd.method).1
  have X0 : Stand p l e ({ frames := 0, cells := 0, slots := 0, locals := 0 } : Room) s m #[(.ref a1)] below meth c s₁ [] 0 0 := Stand.of_body Bd
  have e0 : s₁.heap = h0 := by rw [← hh, Bd.state]; rfl
  have N0 := Fr.nil n0
  refine own_start (Q := Q34 Z a1 kb zn ys h0 n0) (own_cast (ef_34 m a1) ?_)
  show Go p.tables e below _ (s₁.setTop (mkF m 0 #[.val (.ref a1)] []))
  refine Go.st (fun U hr => XS.aloadN X0.here hx rfl (hb hby d34_0) rfl rfl hr) ?_
  show Go p.tables e below _ (s₁.setTop (mkF m 1 #[.val (.ref a1)] [(.ref a1)]))
  obtain ⟨cl1, Ar1, qa1, Sa1, Na1, Ha1, Ga1⟩ := id V1
  refine Go.st (X0.arraylength hx (by rw [e0]; exact Ar1.1) (State.isArrayOf_alike hZ.alike Ar1.2.1) (g := (mkF m 1 #[.val (.ref a1)] [(.ref a1)])) rfl rfl (hb hby d34_1)) ?_
  rw [len_of Sa1 Na1]
  show Go p.tables e below _ (s₁.setTop (mkF m 2 #[.val (.ref a1)] [(.int zn)]))
  refine Go.st (fun U hr => XS.iconst X0.here hx rfl (hb hby d34_2) hr) ?_
  show Go p.tables e below _ (s₁.setTop (mkF m 3 #[.val (.ref a1)] [(.int (1 : Int32)), (.int zn)]))
  refine Go.st (fun U hr => XS.ishr X0.here hx rfl (hb hby d34_3) rfl hr) ?_
  show Go p.tables e below _ (s₁.setTop (mkF m 4 #[.val (.ref a1)] [(.int (zn >>> ((1 : Int32) &&& 31)))]))
  exact own_retO X0 hx Bd.notSynchronized (t := .int) Bd.returns rfl (Or.inl ⟨rfl, Or.inl rfl, _, rfl⟩) (hb hby d34_4) ⟨rfl, N0, e0⟩ (by decide) (by decide)
theorem d31_0 : decode jdk_52_method_5_code 0 = .ok (.getstatic 44, 3) := by decide +kernel
theorem d31_3 : decode jdk_52_method_5_code 3 = .ok (.ifCond .ne 25, 3) := by decide +kernel
theorem d31_28 : decode jdk_52_method_5_code 28 = .ok (.iload_n 1, 1) := by decide +kernel
theorem d31_29 : decode jdk_52_method_5_code 29 = .ok (.iconst 1, 1) := by decide +kernel
theorem d31_30 : decode jdk_52_method_5_code 30 = .ok (.ishl, 1) := by decide +kernel
theorem d31_31 : decode jdk_52_method_5_code 31 = .ok (.istore_n 1, 1) := by decide +kernel
theorem d31_32 : decode jdk_52_method_5_code 32 = .ok (.aload_n 0, 1) := by decide +kernel
theorem d31_33 : decode jdk_52_method_5_code 33 = .ok (.iload_n 1, 1) := by decide +kernel
theorem d31_34 : decode jdk_52_method_5_code 34 = .ok (.iinc 1 1, 3) := by decide +kernel
theorem d31_37 : decode jdk_52_method_5_code 37 = .ok (.baload, 1) := by decide +kernel
theorem d31_38 : decode jdk_52_method_5_code 38 = .ok (.sipush 255, 3) := by decide +kernel
theorem d31_41 : decode jdk_52_method_5_code 41 = .ok (.iand, 1) := by decide +kernel
theorem d31_42 : decode jdk_52_method_5_code 42 = .ok (.getstatic 59, 3) := by decide +kernel
theorem d31_45 : decode jdk_52_method_5_code 45 = .ok (.ishl, 1) := by decide +kernel
theorem d31_46 : decode jdk_52_method_5_code 46 = .ok (.aload_n 0, 1) := by decide +kernel
theorem d31_47 : decode jdk_52_method_5_code 47 = .ok (.iload_n 1, 1) := by decide +kernel
theorem d31_48 : decode jdk_52_method_5_code 48 = .ok (.baload, 1) := by decide +kernel
theorem d31_49 : decode jdk_52_method_5_code 49 = .ok (.sipush 255, 3) := by decide +kernel
theorem d31_52 : decode jdk_52_method_5_code 52 = .ok (.iand, 1) := by decide +kernel
theorem d31_53 : decode jdk_52_method_5_code 53 = .ok (.getstatic 63, 3) := by decide +kernel
theorem d31_56 : decode jdk_52_method_5_code 56 = .ok (.ishl, 1) := by decide +kernel
theorem d31_57 : decode jdk_52_method_5_code 57 = .ok (.ior, 1) := by decide +kernel
theorem d31_58 : decode jdk_52_method_5_code 58 = .ok (.i2c, 1) := by decide +kernel
theorem d31_59 : decode jdk_52_method_5_code 59 = .ok (.ireturn, 1) := by decide +kernel
theorem pn_31 : plainFor (⟨"java/lang/StringUTF16", "getChar", "([BI)C"⟩ : MethodName) = true := plainFor_of_name (by first | (simp [plainName, overriddenIn]; done) | decide +kernel)
theorem ef_31 (m : MethodId) (x0 : Addr) (x1 : Int32) : entryFrame m #[(.ref x0), (.int x1)] 2 = mkF m 0 #[.val (.ref x0), .val (.int x1)] [] := by first | (simp [entryFrame, mkF, argsToLocals, Value.category]; done) | rfl
def Q31 (Z : State) (a1 : Addr) (p2 : Int32) (wc : Int32) (sf : Option Addr) (kb : ClassId) (zn : Int32) (ys : List Int32) (i : Nat) (h0 : Heap) (n0 : Nat) (v : Option Value) (h : Heap) (L : List Loc) : Prop := v = some (.int (own_gc (own_c ys (2 * i)) (own_c ys (2 * i + 1)))) ∧ Fr n0 L ∧ h = h0
set_option maxRecDepth 65536 in
set_option maxHeartbeats 40000000 in
theorem rm31 (l : Launch) (Z : State) (a0 : Array Value) (hw : ∀ d ∈ tables_1, d.before a0 Z = true) (ws : List Jvm.Cond) (a1 : Addr) (p2 : Int32) (wc : Int32) (sf : Option Addr) (kb : ClassId) (zn : Int32) (ys : List Int32) (i : Nat) (h0 : Heap) (n0 : Nat) (Z0 : n0 ≤ h0.size) (hS : own_Sts Z h0 wc sf) (V1 : Arv Z h0 a1 kb .byte zn (ys.map Value.int) (.int (0 : Int32))) (hz : zn.toInt = ys.length) (hz2 : ys.length ≤ 100) (hi : p2.toInt = i) (hin : 2 * i + 1 < ys.length) :
    MetFree l (⟨"java/lang/StringUTF16", "getChar", "([BI)C"⟩ : MethodName) (head1 (Jvm.Cond.code (⟨"java/lang/StringUTF16", "getChar", "([BI)C"⟩ : MethodName) jdk_52_method_5_code 2 (some .char) :: ws) ({ frames := 0, cells := 0, slots := 0, locals := 0 } : Room)) (fun a U => a = #[(.ref a1), (.int p2)] ∧ Z.Warmed39 U.vm ∧ U.heap = h0) (fun _ _ _ _ _ => True) (fun _ U o U' => ∃ v L, o = .returned v ∧ Q31 Z a1 p2 wc sf kb zn ys i h0 n0 v U'.heap L ∧ FrameEnd U o U' L ({ frames := 0, cells := 0, slots := 0, locals := 0 } : Room).cells ({ frames := 0, cells := 0, slots := 0, locals := 0 } : Room).slots) := by
  refine MetFree.of_bodySF pn_31 hisR ?_
  intro p e s m args below meth c s₁ Bd hml0 hP hK
  obtain ⟨rfl, hZ, hh⟩ := hP
  have hx := Bd.exec
  have hby := Bd.bytes
  have hml : c.maxLocals = 2 := hml0
  have hown : s.vm.findClass "java/lang/StringUTF16" = some m.cls := findClass_of_methodNamed Bd.named
  have hnm := (name_of_methodNamed Bd.named Bd.method).1
  have X0 : Stand p l e ({ frames := 0, cells := 0, slots := 0, locals := 0 } : Room) s m #[(.ref a1), (.int p2)] below meth c s₁ [] 0 0 := Stand.of_body Bd
  have e0 : s₁.heap = h0 := by rw [← hh, Bd.state]; rfl
  have N0 := Fr.nil n0
  refine own_start (Q := Q31 Z a1 p2 wc sf kb zn ys i h0 n0) (own_cast (ef_31 m a1 p2) ?_)
  obtain ⟨S1, hwc, S2, S3, S4, S5⟩ := id hS
  show Go p.tables e below _ (s₁.setTop (mkF m 0 #[.val (.ref a1), .val (.int p2)] []))
  obtain ⟨T1, X1, e1, st1⟩ := getS2 X0 hx hZ hown (host := "") (Or.inl (hw _ (List.mem_of_getElem? (i := 129) rfl))) Via.refl e0 S3 (g := (mkF m 0 #[.val (.ref a1), .val (.int p2)] [])) rfl (hb hby d31_0)
  refine Go.st st1 ?_
  show Go p.tables e below _ (T1.setTop (mkF m 3 #[.val (.ref a1), .val (.int p2)] [(.int (1 : Int32))]))
  have hc3_2 : ¬ ((1 : Int32) = (0 : Int32)) := (by decide)
  refine Go.st (fun U hr => XS.ifYes X1.here hx rfl (pc0 := 3) (pc' := 28) rfl (hb hby d31_3) rfl ((if0 _ _).trans (feq hc3_2).2) (by decide) (by decide) hr) ?_
  show Go p.tables e below _ (T1.setTop (mkF m 28 #[.val (.ref a1), .val (.int p2)] []))
  refine Go.st (fun U hr => XS.iloadN X1.here hx rfl (hb hby d31_28) rfl hr) ?_
  show Go p.tables e below _ (T1.setTop (mkF m 29 #[.val (.ref a1), .val (.int p2)] [(.int p2)]))
  refine Go.st (fun U hr => XS.iconst X1.here hx rfl (hb hby d31_29) hr) ?_
  show Go p.tables e below _ (T1.setTop (mkF m 30 #[.val (.ref a1), .val (.int p2)] [(.int (1 : Int32)), (.int p2)]))
  refine Go.st (fun U hr => XS.ishl X1.here hx rfl (hb hby d31_30) rfl hr) ?_
  show Go p.tables e below _ (T1.setTop (mkF m 31 #[.val (.ref a1), .val (.int p2)] [(.int (p2 <<< ((1 : Int32) &&& 31)))]))
  refine Go.st (fun U hr => XS.istoreN X1.here hx rfl (hb hby d31_31) rfl (l' := #[.val (.ref a1), .val (.int (p2 <<< ((1 : Int32) &&& 31)))]) rfl hr) ?_
  show Go p.tables e below _ (T1.setTop (mkF m 32 #[.val (.ref a1), .val (.int (p2 <<< ((1 : Int32) &&& 31)))] []))
  refine Go.st (fun U hr => XS.aloadN X1.here hx rfl (hb hby d31_32) rfl rfl hr) ?_
  show Go p.tables e below _ (T1.setTop (mkF m 33 #[.val (.ref a1), .val (.int (p2 <<< ((1 : Int32) &&& 31)))] [(.ref a1)]))
  refine Go.st (fun U hr => XS.iloadN X1.here hx rfl (hb hby d31_33) rfl hr) ?_
  show Go p.tables e below _ (T1.setTop (mkF m 34 #[.val (.ref a1), .val (.int (p2 <<< ((1 : Int32) &&& 31)))] [(.int (p2 <<< ((1 : Int32) &&& 31))), (.ref a1)]))
  refine Go.st (fun U hr => XS.iinc X1.here hx rfl (hb hby d31_34) rfl (l' := #[.val (.ref a1), .val (.int ((p2 <<< ((1 : Int32) &&& 31)) + (1 : Int32)))]) rfl hr) ?_
  show Go p.tables e below _ (T1.setTop (mkF m 37 #[.val (.ref a1), .val (.int ((p2 <<< ((1 : Int32) &&& 31)) + (1 : Int32)))] [(.int (p2 <<< ((1 : Int32) &&& 31))), (.ref a1)]))
  obtain ⟨cl3, Ar3, qa3, Sa3, Na3, Ha3, Ga3⟩ := id V1
  have hin3 : ¬ ((p2 <<< ((1 : Int32) &&& 31)) < 0 ∨ cl3.slots.size ≤ ((p2 <<< ((1 : Int32) &&& 31))).toNatClampNeg) := inb_of Sa3 (own_inb (by rw [(own_sh hi (by omega))]; omega))
  refine Go.st (X1.baloadBytes hx (j := (p2 <<< ((1 : Int32) &&& 31))) (v := (.int (own_c ys (2 * i)))) (by rw [e1]; exact Ar3.1) (State.isArrayOf_alike hZ.alike Ar3.2.1) Ar3.2.2 hin3 (Ha3.at hin3 (own_gIn ys (own_sh hi (by omega)))) (g := (mkF m 37 #[.val (.ref a1), .val (.int ((p2 <<< ((1 : Int32) &&& 31)) + (1 : Int32)))] [(.int (p2 <<< ((1 : Int32) &&& 31))), (.ref a1)])) rfl rfl (hb hby d31_37)) ?_
  show Go p.tables e below _ (T1.setTop (mkF m 38 #[.val (.ref a1), .val (.int ((p2 <<< ((1 : Int32) &&& 31)) + (1 : Int32)))] [(.int (own_c ys (2 * i)))]))
  refine Go.st (fun U hr => XS.sipush X1.here hx rfl (hb hby d31_38) hr) ?_
  show Go p.tables e below _ (T1.setTop (mkF m 41 #[.val (.ref a1), .val (.int ((p2 <<< ((1 : Int32) &&& 31)) + (1 : Int32)))] [(.int (255 : Int32)), (.int (own_c ys (2 * i)))]))
  refine Go.st (fun U hr => XS.iand X1.here hx rfl (hb hby d31_41) rfl hr) ?_
  show Go p.tables e below _ (T1.setTop (mkF m 42 #[.val (.ref a1), .val (.int ((p2 <<< ((1 : Int32) &&& 31)) + (1 : Int32)))] [(.int ((own_c ys (2 * i)) &&& (255 : Int32)))]))
  obtain ⟨T4, X4, e4, st4⟩ := getS2 X1 hx hZ hown (host := "") (Or.inl (hw _ (List.mem_of_getElem? (i := 130) rfl))) Via.refl e1 S4 (g := (mkF m 42 #[.val (.ref a1), .val (.int ((p2 <<< ((1 : Int32) &&& 31)) + (1 : Int32)))] [(.int ((own_c ys (2 * i)) &&& (255 : Int32)))])) rfl (hb hby d31_42)
  refine Go.st st4 ?_
  show Go p.tables e below _ (T4.setTop (mkF m 45 #[.val (.ref a1), .val (.int ((p2 <<< ((1 : Int32) &&& 31)) + (1 : Int32)))] [(.int (0 : Int32)), (.int ((own_c ys (2 * i)) &&& (255 : Int32)))]))
  refine Go.st (fun U hr => XS.ishl X4.here hx rfl (hb hby d31_45) rfl hr) ?_
  show Go p.tables e below _ (T4.setTop (mkF m 46 #[.val (.ref a1), .val (.int ((p2 <<< ((1 : Int32) &&& 31)) + (1 : Int32)))] [(.int (((own_c ys (2 * i)) &&& (255 : Int32)) <<< ((0 : Int32) &&& 31)))]))
  refine Go.st (fun U hr => XS.aloadN X4.here hx rfl (hb hby d31_46) rfl rfl hr) ?_
  show Go p.tables e below _ (T4.setTop (mkF m 47 #[.val (.ref a1), .val (.int ((p2 <<< ((1 : Int32) &&& 31)) + (1 : Int32)))] [(.ref a1), (.int (((own_c ys (2 * i)) &&& (255 : Int32)) <<< ((0 : Int32) &&& 31)))]))
  refine Go.st (fun U hr => XS.iloadN X4.here hx rfl (hb hby d31_47) rfl hr) ?_
  show Go p.tables e below _ (T4.setTop (mkF m 48 #[.val (.ref a1), .val (.int ((p2 <<< ((1 : Int32) &&& 31)) + (1 : Int32)))] [(.int ((p2 <<< ((1 : Int32) &&& 31)) + (1 : Int32))), (.ref a1), (.int (((own_c ys (2 * i)) &&& (255 : Int32)) <<< ((0 : Int32) &&& 31)))]))
  obtain ⟨cl5, Ar5, qa5, Sa5, Na5, Ha5, Ga5⟩ := id V1
  have hin5 : ¬ (((p2 <<< ((1 : Int32) &&& 31)) + (1 : Int32)) < 0 ∨ cl5.slots.size ≤ (((p2 <<< ((1 : Int32) &&& 31)) + (1 : Int32))).toNatClampNeg) := inb_of Sa5 (own_inb (by rw [(own_p1 (own_sh hi (by omega)) (by omega))]; omega))
  refine Go.st (X4.baloadBytes hx (j := ((p2 <<< ((1 : Int32) &&& 31)) + (1 : Int32))) (v := (.int (own_c ys (2 * i + 1)))) (by rw [e4]; exact Ar5.1) (State.isArrayOf_alike hZ.alike Ar5.2.1) Ar5.2.2 hin5 (Ha5.at hin5 (own_gIn ys (own_p1 (own_sh hi (by omega)) (by omega)))) (g := (mkF m 48 #[.val (.ref a1), .val (.int ((p2 <<< ((1 : Int32) &&& 31)) + (1 : Int32)))] [(.int ((p2 <<< ((1 : Int32) &&& 31)) + (1 : Int32))), (.ref a1), (.int (((own_c ys (2 * i)) &&& (255 : Int32)) <<< ((0 : Int32) &&& 31)))])) rfl rfl (hb hby d31_48)) ?_
  show Go p.tables e below _ (T4.setTop (mkF m 49 #[.val (.ref a1), .val (.int ((p2 <<< ((1 : Int32) &&& 31)) + (1 : Int32)))] [(.int (own_c ys (2 * i + 1))), (.int (((own_c ys (2 * i)) &&& (255 : Int32)) <<< ((0 : Int32) &&& 31)))]))
  refine Go.st (fun U hr => XS.sipush X4.here hx rfl (hb hby d31_49) hr) ?_
  show Go p.tables e below _ (T4.setTop (mkF m 52 #[.val (.ref a1), .val (.int ((p2 <<< ((1 : Int32) &&& 31)) + (1 : Int32)))] [(.int (255 : Int32)), (.int (own_c ys (2 * i + 1))), (.int (((own_c ys (2 * i)) &&& (255 : Int32)) <<< ((0 : Int32) &&& 31)))]))
  refine Go.st (fun U hr => XS.iand X4.here hx rfl (hb hby d31_52) rfl hr) ?_
  show Go p.tables e below _ (T4.setTop (mkF m 53 #[.val (.ref a1), .val (.int ((p2 <<< ((1 : Int32) &&& 31)) + (1 : Int32)))] [(.int ((own_c ys (2 * i + 1)) &&& (255 : Int32))), (.int (((own_c ys (2 * i)) &&& (255 : Int32)) <<< ((0 : Int32) &&& 31)))]))
  obtain ⟨T6, X6, e6, st6⟩ := getS2 X4 hx hZ hown (host := "") (Or.inl (hw _ (List.mem_of_getElem? (i := 131) rfl))) Via.refl e4 S5 (g := (mkF m 53 #[.val (.ref a1), .val (.int ((p2 <<< ((1 : Int32) &&& 31)) + (1 : Int32)))] [(.int ((own_c ys (2 * i + 1)) &&& (255 : Int32))), (.int (((own_c ys (2 * i)) &&& (255 : Int32)) <<< ((0 : Int32) &&& 31)))])) rfl (hb hby d31_53)
  refine Go.st st6 ?_
  show Go p.tables e below _ (T6.setTop (mkF m 56 #[.val (.ref a1), .val (.int ((p2 <<< ((1 : Int32) &&& 31)) + (1 : Int32)))] [(.int (8 : Int32)), (.int ((own_c ys (2 * i + 1)) &&& (255 : Int32))), (.int (((own_c ys (2 * i)) &&& (255 : Int32)) <<< ((0 : Int32) &&& 31)))]))
  refine Go.st (fun U hr => XS.ishl X6.here hx rfl (hb hby d31_56) rfl hr) ?_
  show Go p.tables e below _ (T6.setTop (mkF m 57 #[.val (.ref a1), .val (.int ((p2 <<< ((1 : Int32) &&& 31)) + (1 : Int32)))] [(.int (((own_c ys (2 * i + 1)) &&& (255 : Int32)) <<< ((8 : Int32) &&& 31))), (.int (((own_c ys (2 * i)) &&& (255 : Int32)) <<< ((0 : Int32) &&& 31)))]))
  refine Go.st (fun U hr => XS.ior X6.here hx rfl (hb hby d31_57) rfl hr) ?_
  show Go p.tables e below _ (T6.setTop (mkF m 58 #[.val (.ref a1), .val (.int ((p2 <<< ((1 : Int32) &&& 31)) + (1 : Int32)))] [(.int ((((own_c ys (2 * i)) &&& (255 : Int32)) <<< ((0 : Int32) &&& 31)) ||| (((own_c ys (2 * i + 1)) &&& (255 : Int32)) <<< ((8 : Int32) &&& 31))))]))
  refine Go.st (fun U hr => XS.i2c X6.here hx rfl (hb hby d31_58) rfl hr) ?_
  show Go p.tables e below _ (T6.setTop (mkF m 59 #[.val (.ref a1), .val (.int ((p2 <<< ((1 : Int32) &&& 31)) + (1 : Int32)))] [(.int (((((own_c ys (2 * i)) &&& (255 : Int32)) <<< ((0 : Int32) &&& 31)) ||| (((own_c ys (2 * i + 1)) &&& (255 : Int32)) <<< ((8 : Int32) &&& 31))).toUInt32.toUInt16.toUInt32.toInt32))]))
  exact own_retN X6 hx Bd.notSynchronized (t := .char) Bd.returns (by simp) (hb hby d31_59) ⟨rfl, N0, e6⟩ (by decide) (by decide)
theorem d30_0 : decode jdk_52_method_4_code 0 = .ok (.getstatic 44, 3) := by decide +kernel
theorem d30_3 : decode jdk_52_method_4_code 3 = .ok (.ifCond .ne 25, 3) := by decide +kernel
theorem d30_28 : decode jdk_52_method_4_code 28 = .ok (.iload_n 1, 1) := by decide +kernel
theorem d30_29 : decode jdk_52_method_4_code 29 = .ok (.iconst 1, 1) := by decide +kernel
theorem d30_30 : decode jdk_52_method_4_code 30 = .ok (.ishl, 1) := by decide +kernel
theorem d30_31 : decode jdk_52_method_4_code 31 = .ok (.istore_n 1, 1) := by decide +kernel
theorem d30_32 : decode jdk_52_method_4_code 32 = .ok (.aload_n 0, 1) := by decide +kernel
theorem d30_33 : decode jdk_52_method_4_code 33 = .ok (.iload_n 1, 1) := by decide +kernel
theorem d30_34 : decode jdk_52_method_4_code 34 = .ok (.iinc 1 1, 3) := by decide +kernel
theorem d30_37 : decode jdk_52_method_4_code 37 = .ok (.iload_n 2, 1) := by decide +kernel
theorem d30_38 : decode jdk_52_method_4_code 38 = .ok (.getstatic 59, 3) := by decide +kernel
theorem d30_41 : decode jdk_52_method_4_code 41 = .ok (.ishr, 1) := by decide +kernel
theorem d30_42 : decode jdk_52_method_4_code 42 = .ok (.i2b, 1) := by decide +kernel
theorem d30_43 : decode jdk_52_method_4_code 43 = .ok (.bastore, 1) := by decide +kernel
theorem d30_44 : decode jdk_52_method_4_code 44 = .ok (.aload_n 0, 1) := by decide +kernel
theorem d30_45 : decode jdk_52_method_4_code 45 = .ok (.iload_n 1, 1) := by decide +kernel
theorem d30_46 : decode jdk_52_method_4_code 46 = .ok (.iload_n 2, 1) := by decide +kernel
theorem d30_47 : decode jdk_52_method_4_code 47 = .ok (.getstatic 63, 3) := by decide +kernel
theorem d30_50 : decode jdk_52_method_4_code 50 = .ok (.ishr, 1) := by decide +kernel
theorem d30_51 : decode jdk_52_method_4_code 51 = .ok (.i2b, 1) := by decide +kernel
theorem d30_52 : decode jdk_52_method_4_code 52 = .ok (.bastore, 1) := by decide +kernel
theorem d30_53 : decode jdk_52_method_4_code 53 = .ok (.return_, 1) := by decide +kernel
theorem pn_30 : plainFor (⟨"java/lang/StringUTF16", "putChar", "([BII)V"⟩ : MethodName) = true := plainFor_of_name (by first | (simp [plainName, overriddenIn]; done) | decide +kernel)
theorem ef_30 (m : MethodId) (x0 : Addr) (x1 : Int32) (x2 : Int32) : entryFrame m #[(.ref x0), (.int x1), (.int x2)] 3 = mkF m 0 #[.val (.ref x0), .val (.int x1), .val (.int x2)] [] := by first | (simp [entryFrame, mkF, argsToLocals, Value.category]; done) | rfl
def Q30 (Z : State) (a1 : Addr) (p2 : Int32) (p3 : Int32) (wc : Int32) (sf : Option Addr) (kb : ClassId) (zn : Int32) (ys : List Int32) (i : Nat) (h0 : Heap) (n0 : Nat) (v : Option Value) (h : Heap) (L : List Loc) : Prop := v = none ∧ Fr n0 L ∧ Keep h0 h [a1] ∧ Arv Z h a1 kb .byte zn (((ys.set (2 * i) (own_lo p3)).set (2 * i + 1) (own_hi p3)).map Value.int) (.int (0 : Int32))
set_option maxRecDepth 65536 in
set_option maxHeartbeats 40000000 in
theorem rm30 (l : Launch) (Z : State) (a0 : Array Value) (hw : ∀ d ∈ tables_1, d.before a0 Z = true) (ws : List Jvm.Cond) (a1 : Addr) (p2 : Int32) (p3 : Int32) (wc : Int32) (sf : Option Addr) (kb : ClassId) (zn : Int32) (ys : List Int32) (i : Nat) (h0 : Heap) (n0 : Nat) (Z0 : n0 ≤ h0.size) (hS : own_Sts Z h0 wc sf) (V1 : Arv Z h0 a1 kb .byte zn (ys.map Value.int) (.int (0 : Int32))) (hz : zn.toInt = ys.length) (hz2 : ys.length ≤ 100) (hi : p2.toInt = i) (hin : 2 * i + 1 < ys.length) (g1 : n0 ≤ a1) :
    MetFree l (⟨"java/lang/StringUTF16", "putChar", "([BII)V"⟩ : MethodName) (head1 (Jvm.Cond.code (⟨"java/lang/StringUTF16", "putChar", "([BII)V"⟩ : MethodName) jdk_52_method_4_code 3 none :: ws) ({ frames := 0, cells := 0, slots := 0, locals := 0 } : Room)) (fun a U => a = #[(.ref a1), (.int p2), (.int p3)] ∧ Z.Warmed39 U.vm ∧ U.heap = h0) (fun _ _ _ _ _ => True) (fun _ U o U' => ∃ v L, o = .returned v ∧ Q30 Z a1 p2 p3 wc sf kb zn ys i h0 n0 v U'.heap L ∧ FrameEnd U o U' L ({ frames := 0, cells := 0, slots := 0, locals := 0 } : Room).cells ({ frames := 0, cells := 0, slots := 0, locals := 0 } : Room).slots) := by
  refine MetFree.of_bodySF pn_30 hisR ?_
  intro p e s m args below meth c s₁ Bd hml0 hP hK
  obtain ⟨rfl, hZ, hh⟩ := hP
  have hx := Bd.exec
  have hby := Bd.bytes
  have hml : c.maxLocals = 3 := hml0
  have hown : s.vm.findClass "java/lang/StringUTF16" = some m.cls := findClass_of_methodNamed Bd.named
  have hnm := (name_of_methodNamed Bd.named Bd.method).1
  have X0 : Stand p l e ({ frames := 0, cells := 0, slots := 0, locals := 0 } : Room) s m #[(.ref a1), (.int p2), (.int p3)] below meth c s₁ [] 0 0 := Stand.of_body Bd
  have e0 : s₁.heap = h0 := by rw [← hh, Bd.state]; rfl
  have N0 := Fr.nil n0
  refine own_start (Q := Q30 Z a1 p2 p3 wc sf kb zn ys i h0 n0) (own_cast (ef_30 m a1 p2 p3) ?_)
  obtain ⟨S1, hwc, S2, S3, S4, S5⟩ := id hS
  show Go p.tables e below _ (s₁.setTop (mkF m 0 #[.val (.ref a1), .val (.int p2), .val (.int p3)] []))
  obtain ⟨T1, X1, e1, st1⟩ := getS2 X0 hx hZ hown (host := "") (Or.inl (hw _ (List.mem_of_getElem? (i := 129) rfl))) Via.refl e0 S3 (g := (mkF m 0 #[.val (.ref a1), .val (.int p2), .val (.int p3)] [])) rfl (hb hby d30_0)
  refine Go.st st1 ?_
  show Go p.tables e below _ (T1.setTop (mkF m 3 #[.val (.ref a1), .val (.int p2), .val (.int p3)] [(.int (1 : Int32))]))
  have hc3_2 : ¬ ((1 : Int32) = (0 : Int32)) := (by decide)
  refine Go.st (fun U hr => XS.ifYes X1.here hx rfl (pc0 := 3) (pc' := 28) rfl (hb hby d30_3) rfl ((if0 _ _).trans (feq hc3_2).2) (by decide) (by decide) hr) ?_
  show Go p.tables e below _ (T1.setTop (mkF m 28 #[.val (.ref a1), .val (.int p2), .val (.int p3)] []))
  refine Go.st (fun U hr => XS.iloadN X1.here hx rfl (hb hby d30_28) rfl hr) ?_
  show Go p.tables e below _ (T1.setTop (mkF m 29 #[.val (.ref a1), .val (.int p2), .val (.int p3)] [(.int p2)]))
  refine Go.st (fun U hr => XS.iconst X1.here hx rfl (hb hby d30_29) hr) ?_
  show Go p.tables e below _ (T1.setTop (mkF m 30 #[.val (.ref a1), .val (.int p2), .val (.int p3)] [(.int (1 : Int32)), (.int p2)]))
  refine Go.st (fun U hr => XS.ishl X1.here hx rfl (hb hby d30_30) rfl hr) ?_
  show Go p.tables e below _ (T1.setTop (mkF m 31 #[.val (.ref a1), .val (.int p2), .val (.int p3)] [(.int (p2 <<< ((1 : Int32) &&& 31)))]))
  refine Go.st (fun U hr => XS.istoreN X1.here hx rfl (hb hby d30_31) rfl (l' := #[.val (.ref a1), .val (.int (p2 <<< ((1 : Int32) &&& 31))), .val (.int p3)]) rfl hr) ?_
  show Go p.tables e below _ (T1.setTop (mkF m 32 #[.val (.ref a1), .val (.int (p2 <<< ((1 : Int32) &&& 31))), .val (.int p3)] []))
  refine Go.st (fun U hr => XS.aloadN X1.here hx rfl (hb hby d30_32) rfl rfl hr) ?_
  show Go p.tables e below _ (T1.setTop (mkF m 33 #[.val (.ref a1), .val (.int (p2 <<< ((1 : Int32) &&& 31))), .val (.int p3)] [(.ref a1)]))
  refine Go.st (fun U hr => XS.iloadN X1.here hx rfl (hb hby d30_33) rfl hr) ?_
  show Go p.tables e below _ (T1.setTop (mkF m 34 #[.val (.ref a1), .val (.int (p2 <<< ((1 : Int32) &&& 31))), .val (.int p3)] [(.int (p2 <<< ((1 : Int32) &&& 31))), (.ref a1)]))
  refine Go.st (fun U hr => XS.iinc X1.here hx rfl (hb hby d30_34) rfl (l' := #[.val (.ref a1), .val (.int ((p2 <<< ((1 : Int32) &&& 31)) + (1 : Int32))), .val (.int p3)]) rfl hr) ?_
  show Go p.tables e below _ (T1.setTop (mkF m 37 #[.val (.ref a1), .val (.int ((p2 <<< ((1 : Int32) &&& 31)) + (1 : Int32))), .val (.int p3)] [(.int (p2 <<< ((1 : Int32) &&& 31))), (.ref a1)]))
  refine Go.st (fun U hr => XS.iloadN X1.here hx rfl (hb hby d30_37) rfl hr) ?_
  show Go p.tables e below _ (T1.setTop (mkF m 38 #[.val (.ref a1), .val (.int ((p2 <<< ((1 : Int32) &&& 31)) + (1 : Int32))), .val (.int p3)] [(.int p3), (.int (p2 <<< ((1 : Int32) &&& 31))), (.ref a1)]))
  obtain ⟨T3, X3, e3, st3⟩ := getS2 X1 hx hZ hown (host := "") (Or.inl (hw _ (List.mem_of_getElem? (i := 130) rfl))) Via.refl e1 S4 (g := (mkF m 38 #[.val (.ref a1), .val (.int ((p2 <<< ((1 : Int32) &&& 31)) + (1 : Int32))), .val (.int p3)] [(.int p3), (.int (p2 <<< ((1 : Int32) &&& 31))), (.ref a1)])) rfl (hb hby d30_38)
  refine Go.st st3 ?_
  show Go p.tables e below _ (T3.setTop (mkF m 41 #[.val (.ref a1), .val (.int ((p2 <<< ((1 : Int32) &&& 31)) + (1 : Int32))), .val (.int p3)] [(.int (0 : Int32)), (.int p3), (.int (p2 <<< ((1 : Int32) &&& 31))), (.ref a1)]))
  refine Go.st (fun U hr => XS.ishr X3.here hx rfl (hb hby d30_41) rfl hr) ?_
  show Go p.tables e below _ (T3.setTop (mkF m 42 #[.val (.ref a1), .val (.int ((p2 <<< ((1 : Int32) &&& 31)) + (1 : Int32))), .val (.int p3)] [(.int (p3 >>> ((0 : Int32) &&& 31))), (.int (p2 <<< ((1 : Int32) &&& 31))), (.ref a1)]))
  refine Go.st (fun U hr => XS.i2b X3.here hx rfl (hb hby d30_42) rfl hr) ?_
  show Go p.tables e below _ (T3.setTop (mkF m 43 #[.val (.ref a1), .val (.int ((p2 <<< ((1 : Int32) &&& 31)) + (1 : Int32))), .val (.int p3)] [(.int ((p3 >>> ((0 : Int32) &&& 31)).toInt8.toInt32)), (.int (p2 <<< ((1 : Int32) &&& 31))), (.ref a1)]))
  obtain ⟨cl4, Ar4, qa4, Sa4, Na4, Ha4, Ga4⟩ := id V1
  have hin4 : ¬ ((p2 <<< ((1 : Int32) &&& 31)) < 0 ∨ cl4.slots.size ≤ ((p2 <<< ((1 : Int32) &&& 31))).toNatClampNeg) := inb_of Sa4 (own_inb (by rw [(own_sh hi (by omega))]; omega))
  obtain ⟨T5, h5, X5, e5, W5, st5⟩ := stB X3 hx hZ e3 Ar4 (j := (p2 <<< ((1 : Int32) &&& 31))) hin4 (g := (mkF m 43 #[.val (.ref a1), .val (.int ((p2 <<< ((1 : Int32) &&& 31)) + (1 : Int32))), .val (.int p3)] [(.int ((p3 >>> ((0 : Int32) &&& 31)).toInt8.toInt32)), (.int (p2 <<< ((1 : Int32) &&& 31))), (.ref a1)])) rfl rfl (hb hby d30_43)
  refine Go.st st5 ?_
  have V5' := Arv.set Ar4 qa4 Sa4 Na4 Ha4 Ga4 (fits_nar_byte _) W5 ((p2 <<< ((1 : Int32) &&& 31)).toNatClampNeg) rfl (by rw [List.length_map, own_ix (own_sh hi (by omega))]; omega)
  have V5 : Arv Z h5 a1 kb .byte zn ((ys.set (2 * i) (own_lo p3)).map Value.int) (.int (0 : Int32)) := by have q := V5'; rw [own_ix (own_sh hi (by omega)), ← List.map_set] at q; exact q
  have k6 := ((Keep.refl h0 [a1])).wr W5 (Or.inl (List.mem_of_getElem? (i := 0) rfl))
  have f7 := (S1).wr W5
  have f8 := (S2).wr W5
  have f9 := (S3).wr W5
  have f10 := (S4).wr W5
  have f11 := (S5).wr W5
  have z13 := Nat.le_trans Z0 (Keep.of_wr W5).1
  have N5 := Fr.snoc X5 N0 g1
  show Go p.tables e below _ (T5.setTop (mkF m 44 #[.val (.ref a1), .val (.int ((p2 <<< ((1 : Int32) &&& 31)) + (1 : Int32))), .val (.int p3)] []))
  refine Go.st (fun U hr => XS.aloadN X5.here hx rfl (hb hby d30_44) rfl rfl hr) ?_
  show Go p.tables e below _ (T5.setTop (mkF m 45 #[.val (.ref a1), .val (.int ((p2 <<< ((1 : Int32) &&& 31)) + (1 : Int32))), .val (.int p3)] [(.ref a1)]))
  refine Go.st (fun U hr => XS.iloadN X5.here hx rfl (hb hby d30_45) rfl hr) ?_
  show Go p.tables e below _ (T5.setTop (mkF m 46 #[.val (.ref a1), .val (.int ((p2 <<< ((1 : Int32) &&& 31)) + (1 : Int32))), .val (.int p3)] [(.int ((p2 <<< ((1 : Int32) &&& 31)) + (1 : Int32))), (.ref a1)]))
  refine Go.st (fun U hr => XS.iloadN X5.here hx rfl (hb hby d30_46) rfl hr) ?_
  show Go p.tables e below _ (T5.setTop (mkF m 47 #[.val (.ref a1), .val (.int ((p2 <<< ((1 : Int32) &&& 31)) + (1 : Int32))), .val (.int p3)] [(.int p3), (.int ((p2 <<< ((1 : Int32) &&& 31)) + (1 : Int32))), (.ref a1)]))
  obtain ⟨T14, X14, e14, st14⟩ := getS2 X5 hx hZ hown (host := "") (Or.inl (hw _ (List.mem_of_getElem? (i := 131) rfl))) Via.refl e5 f11 (g := (mkF m 47 #[.val (.ref a1), .val (.int ((p2 <<< ((1 : Int32) &&& 31)) + (1 : Int32))), .val (.int p3)] [(.int p3), (.int ((p2 <<< ((1 : Int32) &&& 31)) + (1 : Int32))), (.ref a1)])) rfl (hb hby d30_47)
  refine Go.st st14 ?_
  show Go p.tables e below _ (T14.setTop (mkF m 50 #[.val (.ref a1), .val (.int ((p2 <<< ((1 : Int32) &&& 31)) + (1 : Int32))), .val (.int p3)] [(.int (8 : Int32)), (.int p3), (.int ((p2 <<< ((1 : Int32) &&& 31)) + (1 : Int32))), (.ref a1)]))
  refine Go.st (fun U hr => XS.ishr X14.here hx rfl (hb hby d30_50) rfl hr) ?_
  show Go p.tables e below _ (T14.setTop (mkF m 51 #[.val (.ref a1), .val (.int ((p2 <<< ((1 : Int32) &&& 31)) + (1 : Int32))), .val (.int p3)] [(.int (p3 >>> ((8 : Int32) &&& 31))), (.int ((p2 <<< ((1 : Int32) &&& 31)) + (1 : Int32))), (.ref a1)]))
  refine Go.st (fun U hr => XS.i2b X14.here hx rfl (hb hby d30_51) rfl hr) ?_
  show Go p.tables e below _ (T14.setTop (mkF m 52 #[.val (.ref a1), .val (.int ((p2 <<< ((1 : Int32) &&& 31)) + (1 : Int32))), .val (.int p3)] [(.int ((p3 >>> ((8 : Int32) &&& 31)).toInt8.toInt32)), (.int ((p2 <<< ((1 : Int32) &&& 31)) + (1 : Int32))), (.ref a1)]))
  obtain ⟨cl15, Ar15, qa15, Sa15, Na15, Ha15, Ga15⟩ := id V5
  have hin15 : ¬ (((p2 <<< ((1 : Int32) &&& 31)) + (1 : Int32)) < 0 ∨ cl15.slots.size ≤ (((p2 <<< ((1 : Int32) &&& 31)) + (1 : Int32))).toNatClampNeg) := inb_of Sa15 (own_inb (by rw [(own_p1 (own_sh hi (by omega)) (by omega))]; omega))
  obtain ⟨T16, h16, X16, e16, W16, st16⟩ := stB X14 hx hZ e14 Ar15 (j := ((p2 <<< ((1 : Int32) &&& 31)) + (1 : Int32))) hin15 (g := (mkF m 52 #[.val (.ref a1), .val (.int ((p2 <<< ((1 : Int32) &&& 31)) + (1 : Int32))), .val (.int p3)] [(.int ((p3 >>> ((8 : Int32) &&& 31)).toInt8.toInt32)), (.int ((p2 <<< ((1 : Int32) &&& 31)) + (1 : Int32))), (.ref a1)])) rfl rfl (hb hby d30_52)
  refine Go.st st16 ?_
  have V16' := Arv.set Ar15 qa15 Sa15 Na15 Ha15 Ga15 (fits_nar_byte _) W16 (((p2 <<< ((1 : Int32) &&& 31)) + (1 : Int32)).toNatClampNeg) rfl (by rw [List.length_map, own_ix (own_p1 (own_sh hi (by omega)) (by omega))]; rw [List.length_set]; omega)
  have V16 : Arv Z h16 a1 kb .byte zn (((ys.set (2 * i) (own_lo p3)).set (2 * i + 1) (own_hi p3)).map Value.int) (.int (0 : Int32)) := by have q := V16'; rw [own_ix (own_p1 (own_sh hi (by omega)) (by omega)), ← List.map_set] at q; exact q
  have k17 := (k6).wr W16 (Or.inl (List.mem_of_getElem? (i := 0) rfl))
  have f18 := (f7).wr W16
  have f19 := (f8).wr W16
  have f20 := (f9).wr W16
  have f21 := (f10).wr W16
  have f22 := (f11).wr W16
  have z24 := Nat.le_trans z13 (Keep.of_wr W16).1
  have N16 := Fr.snoc X16 N5 g1
  show Go p.tables e below _ (T16.setTop (mkF m 53 #[.val (.ref a1), .val (.int ((p2 <<< ((1 : Int32) &&& 31)) + (1 : Int32))), .val (.int p3)] []))
  exact own_ret0 X16 hx Bd.notSynchronized Bd.returns (hb hby d30_53) (by rw [e16]; exact ⟨rfl, N16, k17, V16⟩) (by decide) (by decide)
theorem d11_0 : decode jdk_42_method_152_code 0 = .ok (.getstatic 38, 3) := by decide +kernel
theorem d11_3 : decode jdk_42_method_152_code 3 = .ok (.ifCond .eq 10, 3) := by decide +kernel
theorem d11_6 : decode jdk_42_method_152_code 6 = .ok (.aload_n 0, 1) := by decide +kernel
theorem d11_7 : decode jdk_42_method_152_code 7 = .ok (.getfield 15, 3) := by decide +kernel
theorem d11_10 : decode jdk_42_method_152_code 10 = .ok (.goto 4, 3) := by decide +kernel
theorem d11_14 : decode jdk_42_method_152_code 14 = .ok (.ireturn, 1) := by decide +kernel
theorem pn_11 : plainFor (⟨"java/lang/String", "coder", "()B"⟩ : MethodName) = true := plainFor_of_name (by first | (simp [plainName, overriddenIn]; done) | decide +kernel)
theorem ef_11 (m : MethodId) (x0 : Addr) : entryFrame m #[(.ref x0)] 1 = mkF m 0 #[.val (.ref x0)] [] := by first | (simp [entryFrame, mkF, argsToLocals, Value.category]; done) | rfl
def Q11 (Z : State) (a1 : Addr) (wc : Int32) (sf : Option Addr) (va : Addr) (kb : ClassId) (cd : Int32) (zn : Int32) (ys : List Int32) (cs : List Int32) (h0 : Heap) (n0 : Nat) (v : Option Value) (h : Heap) (L : List Loc) : Prop := v = some (.int cd) ∧ Fr n0 L ∧ h = h0
set_option maxRecDepth 65536 in
set_option maxHeartbeats 40000000 in
theorem rm11 (l : Launch) (Z : State) (a0 : Array Value) (hw : ∀ d ∈ tables_1, d.before a0 Z = true) (ws : List Jvm.Cond) (a1 : Addr) (wc : Int32) (sf : Option Addr) (va : Addr) (kb : ClassId) (cd : Int32) (zn : Int32) (ys : List Int32) (cs : List Int32) (h0 : Heap) (n0 : Nat) (Z0 : n0 ≤ h0.size) (hS : own_Sts Z h0 wc sf) (hT : own_Str Z h0 a1 va kb cd zn ys cs) :
    MetFree l (⟨"java/lang/String", "coder", "()B"⟩ : MethodName) (head1 (Jvm.Cond.code (⟨"java/lang/String", "coder", "()B"⟩ : MethodName) jdk_42_method_152_code 1 (some .byte) :: ws) ({ frames := 0, cells := 0, slots := 0, locals := 0 } : Room)) (fun a U => a = #[(.ref a1)] ∧ Z.Warmed39 U.vm ∧ U.heap = h0) (fun _ _ _ _ _ => True) (fun _ U o U' => ∃ v L, o = .returned v ∧ Q11 Z a1 wc sf va kb cd zn ys cs h0 n0 v U'.heap L ∧ FrameEnd U o U' L ({ frames := 0, cells := 0, slots := 0, locals := 0 } : Room).cells ({ frames := 0, cells := 0, slots := 0, locals := 0 } : Room).slots) := by
  refine MetFree.of_bodySF pn_11 hisR ?_
  intro p e s m args below meth c s₁ Bd hml0 hP hK
  obtain ⟨rfl, hZ, hh⟩ := hP
  have hx := Bd.exec
  have hby := Bd.bytes
  have hml : c.maxLocals = 1 := hml0
  have hown : s.vm.findClass "java/lang/String" = some m.cls := findClass_of_methodNamed Bd.named
  have hnm := (name_of_methodNamed Bd.named Bd.method).1
  have X0 : Stand p l e ({ frames := 0, cells := 0, slots := 0, locals := 0 } : Room) s m #[(.ref a1)] below meth c s₁ [] 0 0 := Stand.of_body Bd
  have e0 : s₁.heap = h0 := by rw [← hh, Bd.state]; rfl
  have N0 := Fr.nil n0
  refine own_start (Q := Q11 Z a1 wc sf va kb cd zn ys cs h0 n0) (own_cast (ef_11 m a1) ?_)
  obtain ⟨S1, hwc, S2, S3, S4, S5⟩ := id hS
  obtain ⟨E1, F1, F2, V1, hz, hen, h5⟩ := id hT
  have hl2 : ys.length ≤ 100 := by rcases hen.2 with ⟨_, q, _⟩ | ⟨_, q, _⟩ <;> omega
  show Go p.tables e below _ (s₁.setTop (mkF m 0 #[.val (.ref a1)] []))
  obtain ⟨T1, X1, e1, st1⟩ := getS2 X0 hx hZ hown (host := "") (Or.inl (hw _ (List.mem_of_getElem? (i := 22) rfl))) Via.refl e0 S1 (g := (mkF m 0 #[.val (.ref a1)] [])) rfl (hb hby d11_0)
  refine Go.st st1 ?_
  show Go p.tables e below _ (T1.setTop (mkF m 3 #[.val (.ref a1)] [(.int wc)]))
  have hc3_2 : ¬ (wc = (0 : Int32)) := hwc
  refine Go.st (fun U hr => XS.ifNo X1.here hx rfl (hb hby d11_3) rfl ((if0 _ _).trans (feq hc3_2).1) hr) ?_
  show Go p.tables e below _ (T1.setTop (mkF m 6 #[.val (.ref a1)] []))
  refine Go.st (fun U hr => XS.aloadN X1.here hx rfl (hb hby d11_6) rfl rfl hr) ?_
  show Go p.tables e below _ (T1.setTop (mkF m 7 #[.val (.ref a1)] [(.ref a1)]))
  obtain ⟨T3, X3, e3, st3⟩ := getF X1 hx hZ hown (host := "") (Or.inl (hw _ (List.mem_of_getElem? (i := 34) rfl))) Via.refl e1 F2 (g := (mkF m 7 #[.val (.ref a1)] [(.ref a1)])) rfl rfl (hb hby d11_7)
  refine Go.st st3 ?_
  show Go p.tables e below _ (T3.setTop (mkF m 10 #[.val (.ref a1)] [(.int cd)]))
  refine Go.st (fun U hr => XS.goto X3.here hx rfl (pc0 := 10) (pc' := 14) rfl (hb hby d11_10) (by decide) (by decide) hr) ?_
  show Go p.tables e below _ (T3.setTop (mkF m 14 #[.val (.ref a1)] [(.int cd)]))
  exact own_retN X3 hx Bd.notSynchronized (t := .byte) Bd.returns (by simp) (hb hby d11_14) ⟨by rcases hen.cd with rfl | rfl <;> rfl, N0, e3⟩ (by decide) (by decide)
theorem d13_0 : decode jdk_42_method_154_code 0 = .ok (.getstatic 38, 3) := by decide +kernel
theorem d13_3 : decode jdk_42_method_154_code 3 = .ok (.ifCond .eq 14, 3) := by decide +kernel
theorem d13_6 : decode jdk_42_method_154_code 6 = .ok (.aload_n 0, 1) := by decide +kernel
theorem d13_7 : decode jdk_42_method_154_code 7 = .ok (.getfield 15, 3) := by decide +kernel
theorem d13_10 : decode jdk_42_method_154_code 10 = .ok (.ifCond .ne 7, 3) := by decide +kernel
theorem d13_13 : decode jdk_42_method_154_code 13 = .ok (.iconst 1, 1) := by decide +kernel
theorem d13_14 : decode jdk_42_method_154_code 14 = .ok (.goto 4, 3) := by decide +kernel
theorem d13_17 : decode jdk_42_method_154_code 17 = .ok (.iconst 0, 1) := by decide +kernel
theorem d13_18 : decode jdk_42_method_154_code 18 = .ok (.ireturn, 1) := by decide +kernel
theorem pn_13 : plainFor (⟨"java/lang/String", "isLatin1", "()Z"⟩ : MethodName) = true := plainFor_of_name (by first | (simp [plainName, overriddenIn]; done) | decide +kernel)
theorem ef_13 (m : MethodId) (x0 : Addr) : entryFrame m #[(.ref x0)] 1 = mkF m 0 #[.val (.ref x0)] [] := by first | (simp [entryFrame, mkF, argsToLocals, Value.category]; done) | rfl
def Q13 (Z : State) (a1 : Addr) (wc : Int32) (sf : Option Addr) (va : Addr) (kb : ClassId) (cd : Int32) (zn : Int32) (ys : List Int32) (cs : List Int32) (h0 : Heap) (n0 : Nat) (v : Option Value) (h : Heap) (L : List Loc) : Prop := v = some (.int (if cd = 0 then (1 : Int32) else 0)) ∧ Fr n0 L ∧ h = h0
set_option maxRecDepth 65536 in
set_option maxHeartbeats 40000000 in
theorem rm13 (l : Launch) (Z : State) (a0 : Array Value) (hw : ∀ d ∈ tables_1, d.before a0 Z = true) (ws : List Jvm.Cond) (a1 : Addr) (wc : Int32) (sf : Option Addr) (va : Addr) (kb : ClassId) (cd : Int32) (zn : Int32) (ys : List Int32) (cs : List Int32) (h0 : Heap) (n0 : Nat) (Z0 : n0 ≤ h0.size) (hS : own_Sts Z h0 wc sf) (hT : own_Str Z h0 a1 va kb cd zn ys cs) :
    MetFree l (⟨"java/lang/String", "isLatin1", "()Z"⟩ : MethodName) (head1 (Jvm.Cond.code (⟨"java/lang/String", "isLatin1", "()Z"⟩ : MethodName) jdk_42_method_154_code 1 (some .boolean) :: ws) ({ frames := 0, cells := 0, slots := 0, locals := 0 } : Room)) (fun a U => a = #[(.ref a1)] ∧ Z.Warmed39 U.vm ∧ U.heap = h0) (fun _ _ _ _ _ => True) (fun _ U o U' => ∃ v L, o = .returned v ∧ Q13 Z a1 wc sf va kb cd zn ys cs h0 n0 v U'.heap L ∧ FrameEnd U o U' L ({ frames := 0, cells := 0, slots := 0, locals := 0 } : Room).cells ({ frames := 0, cells := 0, slots := 0, locals := 0 } : Room).slots) := by
  refine MetFree.of_bodySF pn_13 hisR ?_
  intro p e s m args below meth c s₁ Bd hml0 hP hK
  obtain ⟨rfl, hZ, hh⟩ := hP
  have hx := Bd.exec
  have hby := Bd.bytes
  have hml : c.maxLocals = 1 := hml0
  have hown : s.vm.findClass "java/lang/String" = some m.cls := findClass_of_methodNamed Bd.named
  have hnm := (name_of_methodNamed Bd.named Bd.method).1
  have X0 : Stand p l e ({ frames := 0, cells := 0, slots := 0, locals := 0 } : Room) s m #[(.ref a1)] below meth c s₁ [] 0 0 := Stand.of_body Bd
  have e0 : s₁.heap = h0 := by rw [← hh, Bd.state]; rfl
  have N0 := Fr.nil n0
  refine own_start (Q := Q13 Z a1 wc sf va kb cd zn ys cs h0 n0) (own_cast (ef_13 m a1) ?_)
  obtain ⟨S1, hwc, S2, S3, S4, S5⟩ := id hS
  obtain ⟨E1, F1, F2, V1, hz, hen, h5⟩ := id hT
  have hl2 : ys.length ≤ 100 := by rcases hen.2 with ⟨_, q, _⟩ | ⟨_, q, _⟩ <;> omega
  show Go p.tables e below _ (s₁.setTop (mkF m 0 #[.val (.ref a1)] []))
  obtain ⟨T1, X1, e1, st1⟩ := getS2 X0 hx hZ hown (host := "") (Or.inl (hw _ (List.mem_of_getElem? (i := 22) rfl))) Via.refl e0 S1 (g := (mkF m 0 #[.val (.ref a1)] [])) rfl (hb hby d13_0)
  refine Go.st st1 ?_
  show Go p.tables e below _ (T1.setTop (mkF m 3 #[.val (.ref a1)] [(.int wc)]))
  have hc3_2 : ¬ (wc = (0 : Int32)) := hwc
  refine Go.st (fun U hr => XS.ifNo X1.here hx rfl (hb hby d13_3) rfl ((if0 _ _).trans (feq hc3_2).1) hr) ?_
  show Go p.tables e below _ (T1.setTop (mkF m 6 #[.val (.ref a1)] []))
  refine Go.st (fun U hr => XS.aloadN X1.here hx rfl (hb hby d13_6) rfl rfl hr) ?_
  show Go p.tables e below _ (T1.setTop (mkF m 7 #[.val (.ref a1)] [(.ref a1)]))
  obtain ⟨T3, X3, e3, st3⟩ := getF X1 hx hZ hown (host := "") (Or.inl (hw _ (List.mem_of_getElem? (i := 34) rfl))) Via.refl e1 F2 (g := (mkF m 7 #[.val (.ref a1)] [(.ref a1)])) rfl rfl (hb hby d13_7)
  refine Go.st st3 ?_
  show Go p.tables e below _ (T3.setTop (mkF m 10 #[.val (.ref a1)] [(.int cd)]))
  by_cases hc10_4 : cd = (0 : Int32)
  · refine Go.st (fun U hr => XS.ifNo X3.here hx rfl (hb hby d13_10) rfl ((if0 _ _).trans (teq hc10_4).2) hr) ?_
    show Go p.tables e below _ (T3.setTop (mkF m 13 #[.val (.ref a1)] []))
    refine Go.st (fun U hr => XS.iconst X3.here hx rfl (hb hby d13_13) hr) ?_
    show Go p.tables e below _ (T3.setTop (mkF m 14 #[.val (.ref a1)] [(.int (1 : Int32))]))
    refine Go.st (fun U hr => XS.goto X3.here hx rfl (pc0 := 14) (pc' := 18) rfl (hb hby d13_14) (by decide) (by decide) hr) ?_
    show Go p.tables e below _ (T3.setTop (mkF m 18 #[.val (.ref a1)] [(.int (1 : Int32))]))
    exact own_retN X3 hx Bd.notSynchronized (t := .boolean) Bd.returns (by simp) (hb hby d13_18) ⟨by rw [show nar .boolean (1 : Int32) = (1 : Int32) from by decide]; rw [if_pos hc10_4], N0, e3⟩ (by decide) (by decide)
  · refine Go.st (fun U hr => XS.ifYes X3.here hx rfl (pc0 := 10) (pc' := 17) rfl (hb hby d13_10) rfl ((if0 _ _).trans (feq hc10_4).2) (by decide) (by decide) hr) ?_
    show Go p.tables e below _ (T3.setTop (mkF m 17 #[.val (.ref a1)] []))
    refine Go.st (fun U hr => XS.iconst X3.here hx rfl (hb hby d13_17) hr) ?_
    show Go p.tables e below _ (T3.setTop (mkF m 18 #[.val (.ref a1)] [(.int (0 : Int32))]))
    exact own_retN X3 hx Bd.notSynchronized (t := .boolean) Bd.returns (by simp) (hb hby d13_18) ⟨by rw [show nar .boolean (0 : Int32) = (0 : Int32) from by decide]; rw [if_neg hc10_4], N0, e3⟩ (by decide) (by decide)
theorem d10_0 : decode jdk_42_method_54_code 0 = .ok (.aload_n 0, 1) := by decide +kernel
theorem d10_1 : decode jdk_42_method_54_code 1 = .ok (.getfield 9, 3) := by decide +kernel
theorem d10_4 : decode jdk_42_method_54_code 4 = .ok (.arraylength, 1) := by decide +kernel
theorem d10_5 : decode jdk_42_method_54_code 5 = .ok (.aload_n 0, 1) := by decide +kernel
theorem d10_6 : decode jdk_42_method_54_code 6 = .ok (.invokevirtual 335, 3) := by decide +kernel
theorem d10_9 : decode jdk_42_method_54_code 9 = .ok (.ishr, 1) := by decide +kernel
theorem d10_10 : decode jdk_42_method_54_code 10 = .ok (.ireturn, 1) := by decide +kernel
theorem pn_10 : plainFor (⟨"java/lang/String", "length", "()I"⟩ : MethodName) = true := plainFor_of_name (by first | (simp [plainName, overriddenIn]; done) | decide +kernel)
theorem ef_10 (m : MethodId) (x0 : Addr) : entryFrame m #[(.ref x0)] 1 = mkF m 0 #[.val (.ref x0)] [] := by first | (simp [entryFrame, mkF, argsToLocals, Value.category]; done) | rfl
theorem pd_4 : parseMethodDescriptor "()B" = some ⟨[], some .byte⟩ := by decide +kernel
def Q10 (Z : State) (a1 : Addr) (wc : Int32) (sf : Option Addr) (va : Addr) (kb : ClassId) (cd : Int32) (zn : Int32) (ys : List Int32) (cs : List Int32) (h0 : Heap) (n0 : Nat) (v : Option Value) (h : Heap) (L : List Loc) : Prop := v = some (.int (zn >>> (cd &&& 31))) ∧ Fr n0 L ∧ h = h0
set_option maxRecDepth 65536 in
set_option maxHeartbeats 40000000 in
theorem rm10 (l : Launch) (Z : State) (a0 : Array Value) (hw : ∀ d ∈ tables_1, d.before a0 Z = true) (ws : List Jvm.Cond) (a1 : Addr) (wc : Int32) (sf : Option Addr) (va : Addr) (kb : ClassId) (cd : Int32) (zn : Int32) (ys : List Int32) (cs : List Int32) (h0 : Heap) (n0 : Nat) (Z0 : n0 ≤ h0.size) (hS : own_Sts Z h0 wc sf) (hT : own_Str Z h0 a1 va kb cd zn ys cs) :
    MetFree l (⟨"java/lang/String", "length", "()I"⟩ : MethodName) (head1 (Jvm.Cond.code (⟨"java/lang/String", "length", "()I"⟩ : MethodName) jdk_42_method_54_code 1 (some .int) :: ws) ({ frames := 1, cells := 0, slots := 0, locals := 13 } : Room)) (fun a U => a = #[(.ref a1)] ∧ Z.Warmed39 U.vm ∧ U.heap = h0) (fun _ _ _ _ _ => True) (fun _ U o U' => ∃ v L, o = .returned v ∧ Q10 Z a1 wc sf va kb cd zn ys cs h0 n0 v U'.heap L ∧ FrameEnd U o U' L ({ frames := 1, cells := 0, slots := 0, locals := 13 } : Room).cells ({ frames := 1, cells := 0, slots := 0, locals := 13 } : Room).slots) := by
  refine MetFree.of_bodySF pn_10 hisR ?_
  intro p e s m args below meth c s₁ Bd hml0 hP hK
  obtain ⟨rfl, hZ, hh⟩ := hP
  have hx := Bd.exec
  have hby := Bd.bytes
  have hml : c.maxLocals = 1 := hml0
  have hown : s.vm.findClass "java/lang/String" = some m.cls := findClass_of_methodNamed Bd.named
  have hnm := (name_of_methodNamed Bd.named Bd.method).1
  have X0 : Stand p l e ({ frames := 1, cells := 0, slots := 0, locals := 13 } : Room) s m #[(.ref a1)] below meth c s₁ [] 0 0 := Stand.of_body Bd
  have e0 : s₁.heap = h0 := by rw [← hh, Bd.state]; rfl
  have N0 := Fr.nil n0
  refine own_start (Q := Q10 Z a1 wc sf va kb cd zn ys cs h0 n0) (own_cast (ef_10 m a1) ?_)
  obtain ⟨S1, hwc, S2, S3, S4, S5⟩ := id hS
  obtain ⟨E1, F1, F2, V1, hz, hen, h5⟩ := id hT
  have hl2 : ys.length ≤ 100 := by rcases hen.2 with ⟨_, q, _⟩ | ⟨_, q, _⟩ <;> omega
  show Go p.tables e below _ (s₁.setTop (mkF m 0 #[.val (.ref a1)] []))
  refine Go.st (fun U hr => XS.aloadN X0.here hx rfl (hb hby d10_0) rfl rfl hr) ?_
  show Go p.tables e below _ (s₁.setTop (mkF m 1 #[.val (.ref a1)] [(.ref a1)]))
  obtain ⟨T1, X1, e1, st1⟩ := getF X0 hx hZ hown (host := "") (Or.inl (hw _ (List.mem_of_getElem? (i := 36) rfl))) Via.refl e0 F1 (g := (mkF m 1 #[.val (.ref a1)] [(.ref a1)])) rfl rfl (hb hby d10_1)
  refine Go.st st1 ?_
  show Go p.tables e below _ (T1.setTop (mkF m 4 #[.val (.ref a1)] [(.ref va)]))
  obtain ⟨cl2, Ar2, qa2, Sa2, Na2, Ha2, Ga2⟩ := id V1
  refine Go.st (X1.arraylength hx (by rw [e1]; exact Ar2.1) (State.isArrayOf_alike hZ.alike Ar2.2.1) (g := (mkF m 4 #[.val (.ref a1)] [(.ref va)])) rfl rfl (hb hby d10_4)) ?_
  rw [len_of Sa2 Na2]
  show Go p.tables e below _ (T1.setTop (mkF m 5 #[.val (.ref a1)] [(.int zn)]))
  refine Go.st (fun U hr => XS.aloadN X1.here hx rfl (hb hby d10_5) rfl rfl hr) ?_
  show Go p.tables e below _ (T1.setTop (mkF m 6 #[.val (.ref a1)] [(.ref a1), (.int zn)]))
  obtain ⟨cq3, kq3, q3a, q3b, q3c⟩ := isOf hZ e1 E1
  obtain ⟨_, _, ⟨T3, L3, k3, n3⟩, -, X3, ⟨Lc3, hQ3, l3, y3, z3⟩, st3⟩ := X1.virtualBack hx (y := (⟨"java/lang/String", "coder", "()B"⟩ : MethodName)) (z := (⟨"java/lang/String", "coder", "()B"⟩ : MethodName)) hown (mvT hZ (hw _ (List.mem_of_getElem? (i := 50) rfl))) (mvT hZ (hw _ (List.mem_of_getElem? (i := 51) rfl))) (notFace_of_selects (args := #[]) (mvT hZ (hw _ (List.mem_of_getElem? (i := 53) rfl)))) (mvT hZ (hw _ (List.mem_of_getElem? (i := 53) rfl))) (mvT hZ (hw _ (List.mem_of_getElem? (i := 52) rfl))) (by decide) (backOf (W := 1) (rm11 l Z a0 hw [] a1 wc sf va kb cd zn ys cs h0 n0 Z0 ⟨S1, hwc, S2, S3, S4, S5⟩ ⟨E1, F1, F2, V1, hz, hen, h5⟩) hZ (hw _ (List.mem_of_getElem? (i := 54) rfl)) (hw _ (List.mem_of_getElem? (i := 11) rfl)) (by decide) (by decide)) q3a q3c (g := (mkF m 6 #[.val (.ref a1)] [(.ref a1), (.int zn)])) rfl (by rw [hml]; rfl) (Steps.refl _) (argsL := []) (rest := [(.int zn)]) (lenOf pd_4 rfl) rfl (by show 2 * 0 + _ ≤ _; exact Nat.le_of_eq rfl) (hb hby d10_6) (fun _ _ => ⟨rfl, e1, (by decide : 0 + 0 ≤ _), (by decide : 0 + 0 ≤ _)⟩)
  dsimp only [Pt.U, Pt.locs, Pt.cells, Pt.slots] at X3 l3 y3 z3 st3 hQ3
  subst l3 y3 z3
  obtain ⟨rfl, Nq3, ee3⟩ := hQ3
  have N3 := Fr.app N0 Nq3
  refine Go.tr st3 ?_
  show Go p.tables e below _ (T3.setTop (mkF m 9 #[.val (.ref a1)] [(.int cd), (.int zn)]))
  refine Go.st (fun U hr => XS.ishr X3.here hx rfl (hb hby d10_9) rfl hr) ?_
  show Go p.tables e below _ (T3.setTop (mkF m 10 #[.val (.ref a1)] [(.int (zn >>> (cd &&& 31)))]))
  exact own_retO X3 hx Bd.notSynchronized (t := .int) Bd.returns rfl (Or.inl ⟨rfl, Or.inl rfl, _, rfl⟩) (hb hby d10_10) ⟨rfl, N3, ee3⟩ (by decide) (by decide)
theorem d22_0 : decode jdk_42_method_55_code 0 = .ok (.aload_n 0, 1) := by decide +kernel
theorem d22_1 : decode jdk_42_method_55_code 1 = .ok (.getfield 9, 3) := by decide +kernel
theorem d22_4 : decode jdk_42_method_55_code 4 = .ok (.arraylength, 1) := by decide +kernel
theorem d22_5 : decode jdk_42_method_55_code 5 = .ok (.ifCond .ne 7, 3) := by decide +kernel
theorem d22_8 : decode jdk_42_method_55_code 8 = .ok (.iconst 1, 1) := by decide +kernel
theorem d22_9 : decode jdk_42_method_55_code 9 = .ok (.goto 4, 3) := by decide +kernel
theorem d22_12 : decode jdk_42_method_55_code 12 = .ok (.iconst 0, 1) := by decide +kernel
theorem d22_13 : decode jdk_42_method_55_code 13 = .ok (.ireturn, 1) := by decide +kernel
theorem pn_22 : plainFor (⟨"java/lang/String", "isEmpty", "()Z"⟩ : MethodName) = true := plainFor_of_name (by first | (simp [plainName, overriddenIn]; done) | decide +kernel)
theorem ef_22 (m : MethodId) (x0 : Addr) : entryFrame m #[(.ref x0)] 1 = mkF m 0 #[.val (.ref x0)] [] := by first | (simp [entryFrame, mkF, argsToLocals, Value.category]; done) | rfl
def Q22 (Z : State) (a1 : Addr) (va : Addr) (kb : ClassId) (cd : Int32) (zn : Int32) (ys : List Int32) (cs : List Int32) (h0 : Heap) (n0 : Nat) (v : Option Value) (h : Heap) (L : List Loc) : Prop := v = some (.int (if zn = 0 then (1 : Int32) else 0)) ∧ Fr n0 L ∧ h = h0
set_option maxRecDepth 65536 in
set_option maxHeartbeats 40000000 in
theorem rm22 (l : Launch) (Z : State) (a0 : Array Value) (hw : ∀ d ∈ tables_1, d.before a0 Z = true) (ws : List Jvm.Cond) (a1 : Addr) (va : Addr) (kb : ClassId) (cd : Int32) (zn : Int32) (ys : List Int32) (cs : List Int32) (h0 : Heap) (n0 : Nat) (Z0 : n0 ≤ h0.size) (hT : own_Str Z h0 a1 va kb cd zn ys cs) :
    MetFree l (⟨"java/lang/String", "isEmpty", "()Z"⟩ : MethodName) (head1 (Jvm.Cond.code (⟨"java/lang/String", "isEmpty", "()Z"⟩ : MethodName) jdk_42_method_55_code 1 (some .boolean) :: ws) ({ frames := 0, cells := 0, slots := 0, locals := 0 } : Room)) (fun a U => a = #[(.ref a1)] ∧ Z.Warmed39 U.vm ∧ U.heap = h0) (fun _ _ _ _ _ => True) (fun _ U o U' => ∃ v L, o = .returned v ∧ Q22 Z a1 va kb cd zn ys cs h0 n0 v U'.heap L ∧ FrameEnd U o U' L ({ frames := 0, cells := 0, slots := 0, locals := 0 } : Room).cells ({ frames := 0, cells := 0, slots := 0, locals := 0 } : Room).slots) := by
  refine MetFree.of_bodySF pn_22 hisR ?_
  intro p e s m args below meth c s₁ Bd hml0 hP hK
  obtain ⟨rfl, hZ, hh⟩ := hP
  have hx := Bd.exec
  have hby := Bd.bytes
  have hml : c.maxLocals = 1 := hml0
  have hown : s.vm.findClass "java/lang/String" = some m.cls := findClass_of_methodNamed Bd.named
  have hnm := (name_of_methodNamed Bd.named Bd.method).1
  have X0 : Stand p l e ({ frames := 0, cells := 0, slots := 0, locals := 0 } : Room) s m #[(.ref a1)] below meth c s₁ [] 0 0 := Stand.of_body Bd
  have e0 : s₁.heap = h0 := by rw [← hh, Bd.state]; rfl
  have N0 := Fr.nil n0
  refine own_start (Q := Q22 Z a1 va kb cd zn ys cs h0 n0) (own_cast (ef_22 m a1) ?_)
  obtain ⟨E1, F1, F2, V1, hz, hen, h5⟩ := id hT
  show Go p.tables e below _ (s₁.setTop (mkF m 0 #[.val (.ref a1)] []))
  refine Go.st (fun U hr => XS.aloadN X0.here hx rfl (hb hby d22_0) rfl rfl hr) ?_
  show Go p.tables e below _ (s₁.setTop (mkF m 1 #[.val (.ref a1)] [(.ref a1)]))
  obtain ⟨T1, X1, e1, st1⟩ := getF X0 hx hZ hown (host := "") (Or.inl (hw _ (List.mem_of_getElem? (i := 36) rfl))) Via.refl e0 F1 (g := (mkF m 1 #[.val (.ref a1)] [(.ref a1)])) rfl rfl (hb hby d22_1)
  refine Go.st st1 ?_
  show Go p.tables e below _ (T1.setTop (mkF m 4 #[.val (.ref a1)] [(.ref va)]))
  obtain ⟨cl2, Ar2, qa2, Sa2, Na2, Ha2, Ga2⟩ := id V1
  refine Go.st (X1.arraylength hx (by rw [e1]; exact Ar2.1) (State.isArrayOf_alike hZ.alike Ar2.2.1) (g := (mkF m 4 #[.val (.ref a1)] [(.ref va)])) rfl rfl (hb hby d22_4)) ?_
  rw [len_of Sa2 Na2]
  show Go p.tables e below _ (T1.setTop (mkF m 5 #[.val (.ref a1)] [(.int zn)]))
  by_cases hc5_3 : zn = (0 : Int32)
  · refine Go.st (fun U hr => XS.ifNo X1.here hx rfl (hb hby d22_5) rfl ((if0 _ _).trans (teq hc5_3).2) hr) ?_
    show Go p.tables e below _ (T1.setTop (mkF m 8 #[.val (.ref a1)] []))
    refine Go.st (fun U hr => XS.iconst X1.here hx rfl (hb hby d22_8) hr) ?_
    show Go p.tables e below _ (T1.setTop (mkF m 9 #[.val (.ref a1)] [(.int (1 : Int32))]))
    refine Go.st (fun U hr => XS.goto X1.here hx rfl (pc0 := 9) (pc' := 13) rfl (hb hby d22_9) (by decide) (by decide) hr) ?_
    show Go p.tables e below _ (T1.setTop (mkF m 13 #[.val (.ref a1)] [(.int (1 : Int32))]))
    exact own_retN X1 hx Bd.notSynchronized (t := .boolean) Bd.returns (by simp) (hb hby d22_13) ⟨by rw [show nar .boolean (1 : Int32) = (1 : Int32) from by decide]; rw [if_pos hc5_3], N0, e1⟩ (by decide) (by decide)
  · refine Go.st (fun U hr => XS.ifYes X1.here hx rfl (pc0 := 5) (pc' := 12) rfl (hb hby d22_5) rfl ((if0 _ _).trans (feq hc5_3).2) (by decide) (by decide) hr) ?_
    show Go p.tables e below _ (T1.setTop (mkF m 12 #[.val (.ref a1)] []))
    refine Go.st (fun U hr => XS.iconst X1.here hx rfl (hb hby d22_12) hr) ?_
    show Go p.tables e below _ (T1.setTop (mkF m 13 #[.val (.ref a1)] [(.int (0 : Int32))]))
    exact own_retN X1 hx Bd.notSynchronized (t := .boolean) Bd.returns (by simp) (hb hby d22_13) ⟨by rw [show nar .boolean (0 : Int32) = (0 : Int32) from by decide]; rw [if_neg hc5_3], N0, e1⟩ (by decide) (by decide)
theorem d14_0 : decode jdk_43_method_2_code 0 = .ok (.iload_n 1, 1) := by decide +kernel
theorem d14_1 : decode jdk_43_method_2_code 1 = .ok (.aload_n 0, 1) := by decide +kernel
theorem d14_2 : decode jdk_43_method_2_code 2 = .ok (.arraylength, 1) := by decide +kernel
theorem d14_3 : decode jdk_43_method_2_code 3 = .ok (.invokestatic 9, 3) := by decide +kernel
theorem d14_6 : decode jdk_43_method_2_code 6 = .ok (.aload_n 0, 1) := by decide +kernel
theorem d14_7 : decode jdk_43_method_2_code 7 = .ok (.iload_n 1, 1) := by decide +kernel
theorem d14_8 : decode jdk_43_method_2_code 8 = .ok (.baload, 1) := by decide +kernel
theorem d14_9 : decode jdk_43_method_2_code 9 = .ok (.sipush 255, 3) := by decide +kernel
theorem d14_12 : decode jdk_43_method_2_code 12 = .ok (.iand, 1) := by decide +kernel
theorem d14_13 : decode jdk_43_method_2_code 13 = .ok (.i2c, 1) := by decide +kernel
theorem d14_14 : decode jdk_43_method_2_code 14 = .ok (.ireturn, 1) := by decide +kernel
theorem pn_14 : plainFor (⟨"java/lang/StringLatin1", "charAt", "([BI)C"⟩ : MethodName) = true := plainFor_of_name (by first | (simp [plainName, overriddenIn]; done) | decide +kernel)
theorem ef_14 (m : MethodId) (x0 : Addr) (x1 : Int32) : entryFrame m #[(.ref x0), (.int x1)] 2 = mkF m 0 #[.val (.ref x0), .val (.int x1)] [] := by first | (simp [entryFrame, mkF, argsToLocals, Value.category]; done) | rfl
theorem pd_5 : parseMethodDescriptor "(II)V" = some ⟨[.int, .int], none⟩ := by decide +kernel
def Q14 (Z : State) (a1 : Addr) (p2 : Int32) (wc : Int32) (sf : Option Addr) (kb : ClassId) (zn : Int32) (ys : List Int32) (i : Nat) (h0 : Heap) (n0 : Nat) (v : Option Value) (h : Heap) (L : List Loc) : Prop := v = some (.int (nar .char ((own_c ys i &&& (255 : Int32)).toUInt32.toUInt16.toUInt32.toInt32))) ∧ Fr n0 L ∧ h = h0
set_option maxRecDepth 65536 in
set_option maxHeartbeats 40000000 in
theorem rm14 (l : Launch) (Z : State) (a0 : Array Value) (hw : ∀ d ∈ tables_1, d.before a0 Z = true) (ws : List Jvm.Cond) (a1 : Addr) (p2 : Int32) (wc : Int32) (sf : Option Addr) (kb : ClassId) (zn : Int32) (ys : List Int32) (i : Nat) (h0 : Heap) (n0 : Nat) (Z0 : n0 ≤ h0.size) (hS : own_Sts Z h0 wc sf) (V1 : Arv Z h0 a1 kb .byte zn (ys.map Value.int) (.int (0 : Int32))) (hz : zn.toInt = ys.length) (hz2 : ys.length ≤ 100) (hi : p2.toInt = i) (hin : i < ys.length) :
    MetFree l (⟨"java/lang/StringLatin1", "charAt", "([BI)C"⟩ : MethodName) (head1 (Jvm.Cond.code (⟨"java/lang/StringLatin1", "charAt", "([BI)C"⟩ : MethodName) jdk_43_method_2_code 2 (some .char) :: ws) ({ frames := 2, cells := 0, slots := 0, locals := 27 } : Room)) (fun a U => a = #[(.ref a1), (.int p2)] ∧ Z.Warmed39 U.vm ∧ U.heap = h0) (fun _ _ _ _ _ => True) (fun _ U o U' => ∃ v L, o = .returned v ∧ Q14 Z a1 p2 wc sf kb zn ys i h0 n0 v U'.heap L ∧ FrameEnd U o U' L ({ frames := 2, cells := 0, slots := 0, locals := 27 } : Room).cells ({ frames := 2, cells := 0, slots := 0, locals := 27 } : Room).slots) := by
  refine MetFree.of_bodySF pn_14 hisR ?_
  intro p e s m args below meth c s₁ Bd hml0 hP hK
  obtain ⟨rfl, hZ, hh⟩ := hP
  have hx := Bd.exec
  have hby := Bd.bytes
  have hml : c.maxLocals = 2 := hml0
  have hown : s.vm.findClass "java/lang/StringLatin1" = some m.cls := findClass_of_methodNamed Bd.named
  have hnm := (name_of_methodNamed Bd.named Bd.method).1
  have X0 : Stand p l e ({ frames := 2, cells := 0, slots := 0, locals := 27 } : Room) s m #[(.ref a1), (.int p2)] below meth c s₁ [] 0 0 := Stand.of_body Bd
  have e0 : s₁.heap = h0 := by rw [← hh, Bd.state]; rfl
  have N0 := Fr.nil n0
  refine own_start (Q := Q14 Z a1 p2 wc sf kb zn ys i h0 n0) (own_cast (ef_14 m a1 p2) ?_)
  obtain ⟨S1, hwc, S2, S3, S4, S5⟩ := id hS
  show Go p.tables e below _ (s₁.setTop (mkF m 0 #[.val (.ref a1), .val (.int p2)] []))
  refine Go.st (fun U hr => XS.iloadN X0.here hx rfl (hb hby d14_0) rfl hr) ?_
  show Go p.tables e below _ (s₁.setTop (mkF m 1 #[.val (.ref a1), .val (.int p2)] [(.int p2)]))
  refine Go.st (fun U hr => XS.aloadN X0.here hx rfl (hb hby d14_1) rfl rfl hr) ?_
  show Go p.tables e below _ (s₁.setTop (mkF m 2 #[.val (.ref a1), .val (.int p2)] [(.ref a1), (.int p2)]))
  obtain ⟨cl1, Ar1, qa1, Sa1, Na1, Ha1, Ga1⟩ := id V1
  refine Go.st (X0.arraylength hx (by rw [e0]; exact Ar1.1) (State.isArrayOf_alike hZ.alike Ar1.2.1) (g := (mkF m 2 #[.val (.ref a1), .val (.int p2)] [(.ref a1), (.int p2)])) rfl rfl (hb hby d14_2)) ?_
  rw [len_of Sa1 Na1]
  show Go p.tables e below _ (s₁.setTop (mkF m 3 #[.val (.ref a1), .val (.int p2)] [(.int zn), (.int p2)]))
  obtain ⟨_, _, ⟨T2, L2, k2, n2⟩, -, X2, ⟨Lc2, hQ2, l2, y2, z2⟩, st2⟩ := Jvm.LawKit.callS X0 hx (y := (⟨"java/lang/String", "checkIndex", "(II)V"⟩ : MethodName)) hown (mvT hZ (hw _ (List.mem_of_getElem? (i := 69) rfl))) (mvT hZ (hw _ (List.mem_of_getElem? (i := 70) rfl))) (mvT hZ (hw _ (List.mem_of_getElem? (i := 11) rfl))) (mvT hZ (hw _ (List.mem_of_getElem? (i := 71) rfl))) (by decide) (backOf (W := 0) (rm15 l Z a0 hw [] p2 zn wc sf h0 n0 Z0 ⟨S1, hwc, S2, S3, S4, S5⟩ (by omega)) hZ (hw _ (List.mem_of_getElem? (i := 71) rfl)) (hw _ (List.mem_of_getElem? (i := 11) rfl)) (by decide) (by decide)) (g := (mkF m 3 #[.val (.ref a1), .val (.int p2)] [(.int zn), (.int p2)])) rfl (by rw [hml]; rfl) (argsL := [(.int p2), (.int zn)]) (rest := []) (lenOf pd_5 rfl) rfl (by show 2 * 0 + _ ≤ _; exact Nat.le_of_eq rfl) (hb hby d14_3) (fun _ _ => ⟨rfl, e0, (by decide : 0 + 0 ≤ _), (by decide : 0 + 0 ≤ _)⟩)
  dsimp only [Pt.U, Pt.locs, Pt.cells, Pt.slots] at X2 l2 y2 z2 st2 hQ2
  subst l2 y2 z2
  obtain ⟨rfl, Nq2, ee2⟩ := hQ2
  have N2 := Fr.app N0 Nq2
  refine Go.st st2 ?_
  show Go p.tables e below _ (T2.setTop (mkF m 6 #[.val (.ref a1), .val (.int p2)] []))
  refine Go.st (fun U hr => XS.aloadN X2.here hx rfl (hb hby d14_6) rfl rfl hr) ?_
  show Go p.tables e below _ (T2.setTop (mkF m 7 #[.val (.ref a1), .val (.int p2)] [(.ref a1)]))
  refine Go.st (fun U hr => XS.iloadN X2.here hx rfl (hb hby d14_7) rfl hr) ?_
  show Go p.tables e below _ (T2.setTop (mkF m 8 #[.val (.ref a1), .val (.int p2)] [(.int p2), (.ref a1)]))
  obtain ⟨cl3, Ar3, qa3, Sa3, Na3, Ha3, Ga3⟩ := id V1
  have hin3 : ¬ (p2 < 0 ∨ cl3.slots.size ≤ (p2).toNatClampNeg) := inb_of Sa3 (own_inb (by rw [hi]; omega))
  refine Go.st (X2.baloadBytes hx (j := p2) (v := (.int (own_c ys i))) (by rw [ee2]; exact Ar3.1) (State.isArrayOf_alike hZ.alike Ar3.2.1) Ar3.2.2 hin3 (Ha3.at hin3 (own_gIn ys hi)) (g := (mkF m 8 #[.val (.ref a1), .val (.int p2)] [(.int p2), (.ref a1)])) rfl rfl (hb hby d14_8)) ?_
  show Go p.tables e below _ (T2.setTop (mkF m 9 #[.val (.ref a1), .val (.int p2)] [(.int (own_c ys i))]))
  refine Go.st (fun U hr => XS.sipush X2.here hx rfl (hb hby d14_9) hr) ?_
  show Go p.tables e below _ (T2.setTop (mkF m 12 #[.val (.ref a1), .val (.int p2)] [(.int (255 : Int32)), (.int (own_c ys i))]))
  refine Go.st (fun U hr => XS.iand X2.here hx rfl (hb hby d14_12) rfl hr) ?_
  show Go p.tables e below _ (T2.setTop (mkF m 13 #[.val (.ref a1), .val (.int p2)] [(.int ((own_c ys i) &&& (255 : Int32)))]))
  refine Go.st (fun U hr => XS.i2c X2.here hx rfl (hb hby d14_13) rfl hr) ?_
  show Go p.tables e below _ (T2.setTop (mkF m 14 #[.val (.ref a1), .val (.int p2)] [(.int (((own_c ys i) &&& (255 : Int32)).toUInt32.toUInt16.toUInt32.toInt32))]))
  exact own_retN X2 hx Bd.notSynchronized (t := .char) Bd.returns (by simp) (hb hby d14_14) ⟨rfl, N2, ee2⟩ (by decide) (by decide)
theorem d33_0 : decode jdk_52_method_91_code 0 = .ok (.iload_n 0, 1) := by decide +kernel
theorem d33_1 : decode jdk_52_method_91_code 1 = .ok (.aload_n 1, 1) := by decide +kernel
theorem d33_2 : decode jdk_52_method_91_code 2 = .ok (.invokestatic 48, 3) := by decide +kernel
theorem d33_5 : decode jdk_52_method_91_code 5 = .ok (.invokestatic 414, 3) := by decide +kernel
theorem d33_8 : decode jdk_52_method_91_code 8 = .ok (.return_, 1) := by decide +kernel
theorem pn_33 : plainFor (⟨"java/lang/StringUTF16", "checkIndex", "(I[B)V"⟩ : MethodName) = true := plainFor_of_name (by first | (simp [plainName, overriddenIn]; done) | decide +kernel)
theorem ef_33 (m : MethodId) (x0 : Int32) (x1 : Addr) : entryFrame m #[(.int x0), (.ref x1)] 2 = mkF m 0 #[.val (.int x0), .val (.ref x1)] [] := by first | (simp [entryFrame, mkF, argsToLocals, Value.category]; done) | rfl
theorem pd_6 : parseMethodDescriptor "([B)I" = some ⟨[(.array .byte)], some .int⟩ := by decide +kernel
def Q33 (Z : State) (p1 : Int32) (a2 : Addr) (wc : Int32) (sf : Option Addr) (kb : ClassId) (zn : Int32) (ys : List Int32) (h0 : Heap) (n0 : Nat) (v : Option Value) (h : Heap) (L : List Loc) : Prop := v = none ∧ Fr n0 L ∧ h = h0
set_option maxRecDepth 65536 in
set_option maxHeartbeats 40000000 in
theorem rm33 (l : Launch) (Z : State) (a0 : Array Value) (hw : ∀ d ∈ tables_1, d.before a0 Z = true) (ws : List Jvm.Cond) (p1 : Int32) (a2 : Addr) (wc : Int32) (sf : Option Addr) (kb : ClassId) (zn : Int32) (ys : List Int32) (h0 : Heap) (n0 : Nat) (Z0 : n0 ≤ h0.size) (hS : own_Sts Z h0 wc sf) (V1 : Arv Z h0 a2 kb .byte zn (ys.map Value.int) (.int (0 : Int32))) (hz : zn.toInt = ys.length) (hz2 : ys.length ≤ 100) (hp : 0 ≤ p1.toInt ∧ p1.toInt < (zn >>> ((1 : Int32) &&& 31)).toInt) :
    MetFree l (⟨"java/lang/StringUTF16", "checkIndex", "(I[B)V"⟩ : MethodName) (head1 (Jvm.Cond.code (⟨"java/lang/StringUTF16", "checkIndex", "(I[B)V"⟩ : MethodName) jdk_52_method_91_code 2 none :: ws) ({ frames := 2, cells := 0, slots := 0, locals := 27 } : Room)) (fun a U => a = #[(.int p1), (.ref a2)] ∧ Z.Warmed39 U.vm ∧ U.heap = h0) (fun _ _ _ _ _ => True) (fun _ U o U' => ∃ v L, o = .returned v ∧ Q33 Z p1 a2 wc sf kb zn ys h0 n0 v U'.heap L ∧ FrameEnd U o U' L ({ frames := 2, cells := 0, slots := 0, locals := 27 } : Room).cells ({ frames := 2, cells := 0, slots := 0, locals := 27 } : Room).slots) := by
  refine MetFree.of_bodySF pn_33 hisR ?_
  intro p e s m args below meth c s₁ Bd hml0 hP hK
  obtain ⟨rfl, hZ, hh⟩ := hP
  have hx := Bd.exec
  have hby := Bd.bytes
  have hml : c.maxLocals = 2 := hml0
  have hown : s.vm.findClass "java/lang/StringUTF16" = some m.cls := findClass_of_methodNamed Bd.named
  have hnm := (name_of_methodNamed Bd.named Bd.method).1
  have X0 : Stand p l e ({ frames := 2, cells := 0, slots := 0, locals := 27 } : Room) s m #[(.int p1), (.ref a2)] below meth c s₁ [] 0 0 := Stand.of_body Bd
  have e0 : s₁.heap = h0 := by rw [← hh, Bd.state]; rfl
  have N0 := Fr.nil n0
  refine own_start (Q := Q33 Z p1 a2 wc sf kb zn ys h0 n0) (own_cast (ef_33 m p1 a2) ?_)
  obtain ⟨S1, hwc, S2, S3, S4, S5⟩ := id hS
  show Go p.tables e below _ (s₁.setTop (mkF m 0 #[.val (.int p1), .val (.ref a2)] []))
  refine Go.st (fun U hr => XS.iloadN X0.here hx rfl (hb hby d33_0) rfl hr) ?_
  show Go p.tables e below _ (s₁.setTop (mkF m 1 #[.val (.int p1), .val (.ref a2)] [(.int p1)]))
  refine Go.st (fun U hr => XS.aloadN X0.here hx rfl (hb hby d33_1) rfl rfl hr) ?_
  show Go p.tables e below _ (s₁.setTop (mkF m 2 #[.val (.int p1), .val (.ref a2)] [(.ref a2), (.int p1)]))
  obtain ⟨_, _, ⟨T1, L1, k1, n1⟩, -, X1, ⟨Lc1, hQ1, l1, y1, z1⟩, st1⟩ := Jvm.LawKit.callS X0 hx (y := (⟨"java/lang/StringUTF16", "length", "([B)I"⟩ : MethodName)) hown (mvT hZ (hw _ (List.mem_of_getElem? (i := 141) rfl))) (mvT hZ (hw _ (List.mem_of_getElem? (i := 142) rfl))) (mvT hZ (hw _ (List.mem_of_getElem? (i := 25) rfl))) (mvT hZ (hw _ (List.mem_of_getElem? (i := 143) rfl))) (by decide) (backOf (W := 1) (rm34 l Z a0 hw [] a2 kb zn ys h0 n0 Z0 V1 hz hz2) hZ (hw _ (List.mem_of_getElem? (i := 143) rfl)) (hw _ (List.mem_of_getElem? (i := 25) rfl)) (by decide) (by decide)) (g := (mkF m 2 #[.val (.int p1), .val (.ref a2)] [(.ref a2), (.int p1)])) rfl (by rw [hml]; rfl) (argsL := [(.ref a2)]) (rest := [(.int p1)]) (lenOf pd_6 rfl) rfl (by show 2 * 0 + _ ≤ _; exact Nat.le_of_eq rfl) (hb hby d33_2) (fun _ _ => ⟨rfl, e0, (by decide : 0 + 0 ≤ _), (by decide : 0 + 0 ≤ _)⟩)
  dsimp only [Pt.U, Pt.locs, Pt.cells, Pt.slots] at X1 l1 y1 z1 st1 hQ1
  subst l1 y1 z1
  obtain ⟨rfl, Nq1, ee1⟩ := hQ1
  have N1 := Fr.app N0 Nq1
  refine Go.st st1 ?_
  show Go p.tables e below _ (T1.setTop (mkF m 5 #[.val (.int p1), .val (.ref a2)] [(.int (zn >>> ((1 : Int32) &&& 31))), (.int p1)]))
  obtain ⟨_, _, ⟨T2, L2, k2, n2⟩, -, X2, ⟨Lc2, hQ2, l2, y2, z2⟩, st2⟩ := Jvm.LawKit.callS X1 hx (y := (⟨"java/lang/String", "checkIndex", "(II)V"⟩ : MethodName)) hown (mvT hZ (hw _ (List.mem_of_getElem? (i := 144) rfl))) (mvT hZ (hw _ (List.mem_of_getElem? (i := 70) rfl))) (mvT hZ (hw _ (List.mem_of_getElem? (i := 11) rfl))) (mvT hZ (hw _ (List.mem_of_getElem? (i := 71) rfl))) (by decide) (backOf (W := 0) (rm15 l Z a0 hw [] p1 (zn >>> ((1 : Int32) &&& 31)) wc sf h0 n0 Z0 ⟨S1, hwc, S2, S3, S4, S5⟩ hp) hZ (hw _ (List.mem_of_getElem? (i := 71) rfl)) (hw _ (List.mem_of_getElem? (i := 11) rfl)) (by decide) (by decide)) (g := (mkF m 5 #[.val (.int p1), .val (.ref a2)] [(.int (zn >>> ((1 : Int32) &&& 31))), (.int p1)])) rfl (by rw [hml]; rfl) (argsL := [(.int p1), (.int (zn >>> ((1 : Int32) &&& 31)))]) (rest := []) (lenOf pd_5 rfl) rfl (by show 2 * 0 + _ ≤ _; exact Nat.le_of_eq rfl) (hb hby d33_5) (fun _ _ => ⟨rfl, ee1, (by decide : 0 + 0 ≤ _), (by decide : 0 + 0 ≤ _)⟩)
  dsimp only [Pt.U, Pt.locs, Pt.cells, Pt.slots] at X2 l2 y2 z2 st2 hQ2
  subst l2 y2 z2
  obtain ⟨rfl, Nq2, ee2⟩ := hQ2
  have N2 := Fr.app N1 Nq2
  refine Go.st st2 ?_
  show Go p.tables e below _ (T2.setTop (mkF m 8 #[.val (.int p1), .val (.ref a2)] []))
  exact own_ret0 X2 hx Bd.notSynchronized Bd.returns (hb hby d33_8) ⟨rfl, N2, ee2⟩ (by decide) (by decide)
theorem d32_0 : decode jdk_52_method_83_code 0 = .ok (.iload_n 1, 1) := by decide +kernel
theorem d32_1 : decode jdk_52_method_83_code 1 = .ok (.aload_n 0, 1) := by decide +kernel
theorem d32_2 : decode jdk_52_method_83_code 2 = .ok (.invokestatic 67, 3) := by decide +kernel
theorem d32_5 : decode jdk_52_method_83_code 5 = .ok (.aload_n 0, 1) := by decide +kernel
theorem d32_6 : decode jdk_52_method_83_code 6 = .ok (.iload_n 1, 1) := by decide +kernel
theorem d32_7 : decode jdk_52_method_83_code 7 = .ok (.invokestatic 71, 3) := by decide +kernel
theorem d32_10 : decode jdk_52_method_83_code 10 = .ok (.ireturn, 1) := by decide +kernel
theorem pn_32 : plainFor (⟨"java/lang/StringUTF16", "charAt", "([BI)C"⟩ : MethodName) = true := plainFor_of_name (by first | (simp [plainName, overriddenIn]; done) | decide +kernel)
theorem ef_32 (m : MethodId) (x0 : Addr) (x1 : Int32) : entryFrame m #[(.ref x0), (.int x1)] 2 = mkF m 0 #[.val (.ref x0), .val (.int x1)] [] := by first | (simp [entryFrame, mkF, argsToLocals, Value.category]; done) | rfl
theorem pd_7 : parseMethodDescriptor "(I[B)V" = some ⟨[.int, (.array .byte)], none⟩ := by decide +kernel
theorem pd_8 : parseMethodDescriptor "([BI)C" = some ⟨[(.array .byte), .int], some .char⟩ := by decide +kernel
def Q32 (Z : State) (a1 : Addr) (p2 : Int32) (wc : Int32) (sf : Option Addr) (kb : ClassId) (zn : Int32) (ys : List Int32) (i : Nat) (h0 : Heap) (n0 : Nat) (v : Option Value) (h : Heap) (L : List Loc) : Prop := v = some (.int (own_gc (own_c ys (2 * i)) (own_c ys (2 * i + 1)))) ∧ Fr n0 L ∧ h = h0
set_option maxRecDepth 65536 in
set_option maxHeartbeats 40000000 in
theorem rm32 (l : Launch) (Z : State) (a0 : Array Value) (hw : ∀ d ∈ tables_1, d.before a0 Z = true) (ws : List Jvm.Cond) (a1 : Addr) (p2 : Int32) (wc : Int32) (sf : Option Addr) (kb : ClassId) (zn : Int32) (ys : List Int32) (i : Nat) (h0 : Heap) (n0 : Nat) (Z0 : n0 ≤ h0.size) (hS : own_Sts Z h0 wc sf) (V1 : Arv Z h0 a1 kb .byte zn (ys.map Value.int) (.int (0 : Int32))) (hz : zn.toInt = ys.length) (hz2 : ys.length ≤ 100) (hi : p2.toInt = i) (hin : 2 * i + 1 < ys.length) (he : ∃ n, ys.length = 2 * n) :
    MetFree l (⟨"java/lang/StringUTF16", "charAt", "([BI)C"⟩ : MethodName) (head1 (Jvm.Cond.code (⟨"java/lang/StringUTF16", "charAt", "([BI)C"⟩ : MethodName) jdk_52_method_83_code 2 (some .char) :: ws) ({ frames := 3, cells := 0, slots := 0, locals := 40 } : Room)) (fun a U => a = #[(.ref a1), (.int p2)] ∧ Z.Warmed39 U.vm ∧ U.heap = h0) (fun _ _ _ _ _ => True) (fun _ U o U' => ∃ v L, o = .returned v ∧ Q32 Z a1 p2 wc sf kb zn ys i h0 n0 v U'.heap L ∧ FrameEnd U o U' L ({ frames := 3, cells := 0, slots := 0, locals := 40 } : Room).cells ({ frames := 3, cells := 0, slots := 0, locals := 40 } : Room).slots) := by
  refine MetFree.of_bodySF pn_32 hisR ?_
  intro p e s m args below meth c s₁ Bd hml0 hP hK
  obtain ⟨rfl, hZ, hh⟩ := hP
  have hx := Bd.exec
  have hby := Bd.bytes
  have hml : c.maxLocals = 2 := hml0
  have hown : s.vm.findClass "java/lang/StringUTF16" = some m.cls := findClass_of_methodNamed Bd.named
  have hnm := (name_of_methodNamed Bd.named Bd.method).1
  have X0 : Stand p l e ({ frames := 3, cells := 0, slots := 0, locals := 40 } : Room) s m #[(.ref a1), (.int p2)] below meth c s₁ [] 0 0 := Stand.of_body Bd
  have e0 : s₁.heap = h0 := by rw [← hh, Bd.state]; rfl
  have N0 := Fr.nil n0
  refine own_start (Q := Q32 Z a1 p2 wc sf kb zn ys i h0 n0) (own_cast (ef_32 m a1 p2) ?_)
  obtain ⟨S1, hwc, S2, S3, S4, S5⟩ := id hS
  show Go p.tables e below _ (s₁.setTop (mkF m 0 #[.val (.ref a1), .val (.int p2)] []))
  refine Go.st (fun U hr => XS.iloadN X0.here hx rfl (hb hby d32_0) rfl hr) ?_
  show Go p.tables e below _ (s₁.setTop (mkF m 1 #[.val (.ref a1), .val (.int p2)] [(.int p2)]))
  refine Go.st (fun U hr => XS.aloadN X0.here hx rfl (hb hby d32_1) rfl rfl hr) ?_
  show Go p.tables e below _ (s₁.setTop (mkF m 2 #[.val (.ref a1), .val (.int p2)] [(.ref a1), (.int p2)]))
  obtain ⟨_, _, ⟨T1, L1, k1, n1⟩, -, X1, ⟨Lc1, hQ1, l1, y1, z1⟩, st1⟩ := Jvm.LawKit.callS X0 hx (y := (⟨"java/lang/StringUTF16", "checkIndex", "(I[B)V"⟩ : MethodName)) hown (mvT hZ (hw _ (List.mem_of_getElem? (i := 138) rfl))) (mvT hZ (hw _ (List.mem_of_getElem? (i := 139) rfl))) (mvT hZ (hw _ (List.mem_of_getElem? (i := 25) rfl))) (mvT hZ (hw _ (List.mem_of_getElem? (i := 140) rfl))) (by decide) (backOf (W := 0) (rm33 l Z a0 hw [] p2 a1 wc sf kb zn ys h0 n0 Z0 ⟨S1, hwc, S2, S3, S4, S5⟩ V1 hz hz2 (by obtain ⟨n, hn⟩ := he; rw [own_half (n := n) (by omega)]; omega)) hZ (hw _ (List.mem_of_getElem? (i := 140) rfl)) (hw _ (List.mem_of_getElem? (i := 25) rfl)) (by decide) (by decide)) (g := (mkF m 2 #[.val (.ref a1), .val (.int p2)] [(.ref a1), (.int p2)])) rfl (by rw [hml]; rfl) (argsL := [(.int p2), (.ref a1)]) (rest := []) (lenOf pd_7 rfl) rfl (by show 2 * 0 + _ ≤ _; exact Nat.le_of_eq rfl) (hb hby d32_2) (fun _ _ => ⟨rfl, e0, (by decide : 0 + 0 ≤ _), (by decide : 0 + 0 ≤ _)⟩)
  dsimp only [Pt.U, Pt.locs, Pt.cells, Pt.slots] at X1 l1 y1 z1 st1 hQ1
  subst l1 y1 z1
  obtain ⟨rfl, Nq1, ee1⟩ := hQ1
  have N1 := Fr.app N0 Nq1
  refine Go.st st1 ?_
  show Go p.tables e below _ (T1.setTop (mkF m 5 #[.val (.ref a1), .val (.int p2)] []))
  refine Go.st (fun U hr => XS.aloadN X1.here hx rfl (hb hby d32_5) rfl rfl hr) ?_
  show Go p.tables e below _ (T1.setTop (mkF m 6 #[.val (.ref a1), .val (.int p2)] [(.ref a1)]))
  refine Go.st (fun U hr => XS.iloadN X1.here hx rfl (hb hby d32_6) rfl hr) ?_
  show Go p.tables e below _ (T1.setTop (mkF m 7 #[.val (.ref a1), .val (.int p2)] [(.int p2), (.ref a1)]))
  obtain ⟨_, _, ⟨T2, L2, k2, n2⟩, -, X2, ⟨Lc2, hQ2, l2, y2, z2⟩, st2⟩ := Jvm.LawKit.callS X1 hx (y := (⟨"java/lang/StringUTF16", "getChar", "([BI)C"⟩ : MethodName)) hown (mvT hZ (hw _ (List.mem_of_getElem? (i := 132) rfl))) (mvT hZ (hw _ (List.mem_of_getElem? (i := 133) rfl))) (mvT hZ (hw _ (List.mem_of_getElem? (i := 25) rfl))) (mvT hZ (hw _ (List.mem_of_getElem? (i := 134) rfl))) (by decide) (backOf (W := 0) (rm31 l Z a0 hw [] a1 p2 wc sf kb zn ys i h0 n0 Z0 ⟨S1, hwc, S2, S3, S4, S5⟩ V1 hz hz2 hi hin) hZ (hw _ (List.mem_of_getElem? (i := 134) rfl)) (hw _ (List.mem_of_getElem? (i := 25) rfl)) (by decide) (by decide)) (g := (mkF m 7 #[.val (.ref a1), .val (.int p2)] [(.int p2), (.ref a1)])) rfl (by rw [hml]; rfl) (argsL := [(.ref a1), (.int p2)]) (rest := []) (lenOf pd_8 rfl) rfl (by show 2 * 0 + _ ≤ _; exact Nat.le_of_eq rfl) (hb hby d32_7) (fun _ _ => ⟨rfl, ee1, (by decide : 0 + 0 ≤ _), (by decide : 0 + 0 ≤ _)⟩)
  dsimp only [Pt.U, Pt.locs, Pt.cells, Pt.slots] at X2 l2 y2 z2 st2 hQ2
  subst l2 y2 z2
  obtain ⟨rfl, Nq2, ee2⟩ := hQ2
  have N2 := Fr.app N1 Nq2
  refine Go.st st2 ?_
  show Go p.tables e below _ (T2.setTop (mkF m 10 #[.val (.ref a1), .val (.int p2)] [(.int (own_gc (own_c ys (2 * i)) (own_c ys (2 * i + 1))))]))
  exact own_retN X2 hx Bd.notSynchronized (t := .char) Bd.returns (by simp) (hb hby d32_10) ⟨by rw [own_nar _ (own_gc_ok _ _)], N2, ee2⟩ (by decide) (by decide)
theorem d12_0 : decode jdk_42_method_56_code 0 = .ok (.aload_n 0, 1) := by decide +kernel
theorem d12_1 : decode jdk_42_method_56_code 1 = .ok (.invokevirtual 492, 3) := by decide +kernel
theorem d12_4 : decode jdk_42_method_56_code 4 = .ok (.ifCond .eq 12, 3) := by decide +kernel
theorem d12_7 : decode jdk_42_method_56_code 7 = .ok (.aload_n 0, 1) := by decide +kernel
theorem d12_8 : decode jdk_42_method_56_code 8 = .ok (.getfield 9, 3) := by decide +kernel
theorem d12_11 : decode jdk_42_method_56_code 11 = .ok (.iload_n 1, 1) := by decide +kernel
theorem d12_12 : decode jdk_42_method_56_code 12 = .ok (.invokestatic 495, 3) := by decide +kernel
theorem d12_15 : decode jdk_42_method_56_code 15 = .ok (.ireturn, 1) := by decide +kernel
theorem d12_16 : decode jdk_42_method_56_code 16 = .ok (.aload_n 0, 1) := by decide +kernel
theorem d12_17 : decode jdk_42_method_56_code 17 = .ok (.getfield 9, 3) := by decide +kernel
theorem d12_20 : decode jdk_42_method_56_code 20 = .ok (.iload_n 1, 1) := by decide +kernel
theorem d12_21 : decode jdk_42_method_56_code 21 = .ok (.invokestatic 498, 3) := by decide +kernel
theorem d12_24 : decode jdk_42_method_56_code 24 = .ok (.ireturn, 1) := by decide +kernel
theorem pn_12 : plainFor (⟨"java/lang/String", "charAt", "(I)C"⟩ : MethodName) = true := plainFor_of_name (by first | (simp [plainName, overriddenIn]; done) | decide +kernel)
theorem ef_12 (m : MethodId) (x0 : Addr) (x1 : Int32) : entryFrame m #[(.ref x0), (.int x1)] 2 = mkF m 0 #[.val (.ref x0), .val (.int x1)] [] := by first | (simp [entryFrame, mkF, argsToLocals, Value.category]; done) | rfl
theorem pd_9 : parseMethodDescriptor "()Z" = some ⟨[], some .boolean⟩ := by decide +kernel
def Q12 (Z : State) (a1 : Addr) (p2 : Int32) (wc : Int32) (sf : Option Addr) (va : Addr) (kb : ClassId) (cd : Int32) (zn : Int32) (ys : List Int32) (cs : List Int32) (i : Nat) (h0 : Heap) (n0 : Nat) (v : Option Value) (h : Heap) (L : List Loc) : Prop := v = some (.int (own_c cs i)) ∧ Fr n0 L ∧ h = h0
set_option maxRecDepth 65536 in
set_option maxHeartbeats 40000000 in
theorem rm12 (l : Launch) (Z : State) (a0 : Array Value) (hw : ∀ d ∈ tables_1, d.before a0 Z = true) (ws : List Jvm.Cond) (a1 : Addr) (p2 : Int32) (wc : Int32) (sf : Option Addr) (va : Addr) (kb : ClassId) (cd : Int32) (zn : Int32) (ys : List Int32) (cs : List Int32) (i : Nat) (h0 : Heap) (n0 : Nat) (Z0 : n0 ≤ h0.size) (hS : own_Sts Z h0 wc sf) (hT : own_Str Z h0 a1 va kb cd zn ys cs) (hi : p2.toInt = i) (hin : i < cs.length) :
    MetFree l (⟨"java/lang/String", "charAt", "(I)C"⟩ : MethodName) (head1 (Jvm.Cond.code (⟨"java/lang/String", "charAt", "(I)C"⟩ : MethodName) jdk_42_method_56_code 2 (some .char) :: ws) ({ frames := 4, cells := 0, slots := 0, locals := 53 } : Room)) (fun a U => a = #[(.ref a1), (.int p2)] ∧ Z.Warmed39 U.vm ∧ U.heap = h0) (fun _ _ _ _ _ => True) (fun _ U o U' => ∃ v L, o = .returned v ∧ Q12 Z a1 p2 wc sf va kb cd zn ys cs i h0 n0 v U'.heap L ∧ FrameEnd U o U' L ({ frames := 4, cells := 0, slots := 0, locals := 53 } : Room).cells ({ frames := 4, cells := 0, slots := 0, locals := 53 } : Room).slots) := by
  refine MetFree.of_bodySF pn_12 hisR ?_
  intro p e s m args below meth c s₁ Bd hml0 hP hK
  obtain ⟨rfl, hZ, hh⟩ := hP
  have hx := Bd.exec
  have hby := Bd.bytes
  have hml : c.maxLocals = 2 := hml0
  have hown : s.vm.findClass "java/lang/String" = some m.cls := findClass_of_methodNamed Bd.named
  have hnm := (name_of_methodNamed Bd.named Bd.method).1
  have X0 : Stand p l e ({ frames := 4, cells := 0, slots := 0, locals := 53 } : Room) s m #[(.ref a1), (.int p2)] below meth c s₁ [] 0 0 := Stand.of_body Bd
  have e0 : s₁.heap = h0 := by rw [← hh, Bd.state]; rfl
  have N0 := Fr.nil n0
  refine own_start (Q := Q12 Z a1 p2 wc sf va kb cd zn ys cs i h0 n0) (own_cast (ef_12 m a1 p2) ?_)
  obtain ⟨S1, hwc, S2, S3, S4, S5⟩ := id hS
  obtain ⟨E1, F1, F2, V1, hz, hen, h5⟩ := id hT
  have hl2 : ys.length ≤ 100 := by rcases hen.2 with ⟨_, q, _⟩ | ⟨_, q, _⟩ <;> omega
  show Go p.tables e below _ (s₁.setTop (mkF m 0 #[.val (.ref a1), .val (.int p2)] []))
  refine Go.st (fun U hr => XS.aloadN X0.here hx rfl (hb hby d12_0) rfl rfl hr) ?_
  show Go p.tables e below _ (s₁.setTop (mkF m 1 #[.val (.ref a1), .val (.int p2)] [(.ref a1)]))
  obtain ⟨cq1, kq1, q1a, q1b, q1c⟩ := isOf hZ e0 E1
  obtain ⟨_, _, ⟨T1, L1, k1, n1⟩, -, X1, ⟨Lc1, hQ1, l1, y1, z1⟩, st1⟩ := X0.virtualBack hx (y := (⟨"java/lang/String", "isLatin1", "()Z"⟩ : MethodName)) (z := (⟨"java/lang/String", "isLatin1", "()Z"⟩ : MethodName)) hown (mvT hZ (hw _ (List.mem_of_getElem? (i := 60) rfl))) (mvT hZ (hw _ (List.mem_of_getElem? (i := 61) rfl))) (notFace_of_selects (args := #[]) (mvT hZ (hw _ (List.mem_of_getElem? (i := 63) rfl)))) (mvT hZ (hw _ (List.mem_of_getElem? (i := 63) rfl))) (mvT hZ (hw _ (List.mem_of_getElem? (i := 62) rfl))) (by decide) (backOf (W := 0) (rm13 l Z a0 hw [] a1 wc sf va kb cd zn ys cs h0 n0 Z0 ⟨S1, hwc, S2, S3, S4, S5⟩ ⟨E1, F1, F2, V1, hz, hen, h5⟩) hZ (hw _ (List.mem_of_getElem? (i := 64) rfl)) (hw _ (List.mem_of_getElem? (i := 11) rfl)) (by decide) (by decide)) q1a q1c (g := (mkF m 1 #[.val (.ref a1), .val (.int p2)] [(.ref a1)])) rfl (by rw [hml]; rfl) (Steps.refl _) (argsL := []) (rest := []) (lenOf pd_9 rfl) rfl (by show 2 * 0 + _ ≤ _; exact Nat.le_of_eq rfl) (hb hby d12_1) (fun _ _ => ⟨rfl, e0, (by decide : 0 + 0 ≤ _), (by decide : 0 + 0 ≤ _)⟩)
  dsimp only [Pt.U, Pt.locs, Pt.cells, Pt.slots] at X1 l1 y1 z1 st1 hQ1
  subst l1 y1 z1
  obtain ⟨rfl, Nq1, ee1⟩ := hQ1
  have N1 := Fr.app N0 Nq1
  refine Go.tr st1 ?_
  show Go p.tables e below _ (T1.setTop (mkF m 4 #[.val (.ref a1), .val (.int p2)] [(.int (if cd = 0 then (1 : Int32) else 0))]))
  by_cases hc4_2 : (if cd = 0 then (1 : Int32) else 0) = (0 : Int32)
  · refine Go.st (fun U hr => XS.ifYes X1.here hx rfl (pc0 := 4) (pc' := 16) rfl (hb hby d12_4) rfl ((if0 _ _).trans (teq hc4_2).1) (by decide) (by decide) hr) ?_
    show Go p.tables e below _ (T1.setTop (mkF m 16 #[.val (.ref a1), .val (.int p2)] []))
    have hcd1 : ¬ cd = 0 := fun q => by
      have z := hc4_2
      rw [if_pos q] at z; exact absurd z (by decide)
    refine Go.st (fun U hr => XS.aloadN X1.here hx rfl (hb hby d12_16) rfl rfl hr) ?_
    show Go p.tables e below _ (T1.setTop (mkF m 17 #[.val (.ref a1), .val (.int p2)] [(.ref a1)]))
    obtain ⟨T3, X3, e3, st3⟩ := getF X1 hx hZ hown (host := "") (Or.inl (hw _ (List.mem_of_getElem? (i := 36) rfl))) Via.refl ee1 F1 (g := (mkF m 17 #[.val (.ref a1), .val (.int p2)] [(.ref a1)])) rfl rfl (hb hby d12_17)
    refine Go.st st3 ?_
    show Go p.tables e below _ (T3.setTop (mkF m 20 #[.val (.ref a1), .val (.int p2)] [(.ref va)]))
    refine Go.st (fun U hr => XS.iloadN X3.here hx rfl (hb hby d12_20) rfl hr) ?_
    show Go p.tables e below _ (T3.setTop (mkF m 21 #[.val (.ref a1), .val (.int p2)] [(.int p2), (.ref va)]))
    obtain ⟨_, _, ⟨T4, L4, k4, n4⟩, -, X4, ⟨Lc4, hQ4, l4, y4, z4⟩, st4⟩ := Jvm.LawKit.callS X3 hx (y := (⟨"java/lang/StringUTF16", "charAt", "([BI)C"⟩ : MethodName)) hown (mvT hZ (hw _ (List.mem_of_getElem? (i := 135) rfl))) (mvT hZ (hw _ (List.mem_of_getElem? (i := 136) rfl))) (mvT hZ (hw _ (List.mem_of_getElem? (i := 25) rfl))) (mvT hZ (hw _ (List.mem_of_getElem? (i := 137) rfl))) (by decide) (backOf (W := 0) (rm32 l Z a0 hw [] va p2 wc sf kb zn ys i h0 n0 Z0 ⟨S1, hwc, S2, S3, S4, S5⟩ V1 hz hl2 hi (by have := (hen.utf hcd1).1; omega) ⟨_, (hen.utf hcd1).1⟩) hZ (hw _ (List.mem_of_getElem? (i := 137) rfl)) (hw _ (List.mem_of_getElem? (i := 25) rfl)) (by decide) (by decide)) (g := (mkF m 21 #[.val (.ref a1), .val (.int p2)] [(.int p2), (.ref va)])) rfl (by rw [hml]; rfl) (argsL := [(.ref va), (.int p2)]) (rest := []) (lenOf pd_8 rfl) rfl (by show 2 * 0 + _ ≤ _; exact Nat.le_of_eq rfl) (hb hby d12_21) (fun _ _ => ⟨rfl, e3, (by decide : 0 + 0 ≤ _), (by decide : 0 + 0 ≤ _)⟩)
    dsimp only [Pt.U, Pt.locs, Pt.cells, Pt.slots] at X4 l4 y4 z4 st4 hQ4
    subst l4 y4 z4
    obtain ⟨rfl, Nq4, ee4⟩ := hQ4
    have N4 := Fr.app N1 Nq4
    refine Go.st st4 ?_
    show Go p.tables e below _ (T4.setTop (mkF m 24 #[.val (.ref a1), .val (.int p2)] [(.int (own_gc (own_c ys (2 * i)) (own_c ys (2 * i + 1))))]))
    exact own_retN X4 hx Bd.notSynchronized (t := .char) Bd.returns (by simp) (hb hby d12_24) ⟨by rw [own_nar _ (own_gc_ok _ _)]; rw [((hen.utf hcd1).2 i hin).1, ((hen.utf hcd1).2 i hin).2, own_gcc _ (hen.1 i hin)], N4, ee4⟩ (by decide) (by decide)
  · refine Go.st (fun U hr => XS.ifNo X1.here hx rfl (hb hby d12_4) rfl ((if0 _ _).trans (feq hc4_2).1) hr) ?_
    show Go p.tables e below _ (T1.setTop (mkF m 7 #[.val (.ref a1), .val (.int p2)] []))
    have hcd0 : cd = 0 := by
      apply Classical.byContradiction; intro q; exact hc4_2 (if_neg q)
    refine Go.st (fun U hr => XS.aloadN X1.here hx rfl (hb hby d12_7) rfl rfl hr) ?_
    show Go p.tables e below _ (T1.setTop (mkF m 8 #[.val (.ref a1), .val (.int p2)] [(.ref a1)]))
    obtain ⟨T5, X5, e5, st5⟩ := getF X1 hx hZ hown (host := "") (Or.inl (hw _ (List.mem_of_getElem? (i := 36) rfl))) Via.refl ee1 F1 (g := (mkF m 8 #[.val (.ref a1), .val (.int p2)] [(.ref a1)])) rfl rfl (hb hby d12_8)
    refine Go.st st5 ?_
    show Go p.tables e below _ (T5.setTop (mkF m 11 #[.val (.ref a1), .val (.int p2)] [(.ref va)]))
    refine Go.st (fun U hr => XS.iloadN X5.here hx rfl (hb hby d12_11) rfl hr) ?_
    show Go p.tables e below _ (T5.setTop (mkF m 12 #[.val (.ref a1), .val (.int p2)] [(.int p2), (.ref va)]))
    obtain ⟨_, _, ⟨T6, L6, k6, n6⟩, -, X6, ⟨Lc6, hQ6, l6, y6, z6⟩, st6⟩ := Jvm.LawKit.callS X5 hx (y := (⟨"java/lang/StringLatin1", "charAt", "([BI)C"⟩ : MethodName)) hown (mvT hZ (hw _ (List.mem_of_getElem? (i := 65) rfl))) (mvT hZ (hw _ (List.mem_of_getElem? (i := 66) rfl))) (mvT hZ (hw _ (List.mem_of_getElem? (i := 67) rfl))) (mvT hZ (hw _ (List.mem_of_getElem? (i := 68) rfl))) (by decide) (backOf (W := 0) (rm14 l Z a0 hw [] va p2 wc sf kb zn ys i h0 n0 Z0 ⟨S1, hwc, S2, S3, S4, S5⟩ V1 hz hl2 hi (by have := (hen.lat hcd0).1; omega)) hZ (hw _ (List.mem_of_getElem? (i := 68) rfl)) (hw _ (List.mem_of_getElem? (i := 67) rfl)) (by decide) (by decide)) (g := (mkF m 12 #[.val (.ref a1), .val (.int p2)] [(.int p2), (.ref va)])) rfl (by rw [hml]; rfl) (argsL := [(.ref va), (.int p2)]) (rest := []) (lenOf pd_8 rfl) rfl (by show 2 * 0 + _ ≤ _; exact Nat.le_of_eq rfl) (hb hby d12_12) (fun _ _ => ⟨rfl, e5, (by decide : 0 + 0 ≤ _), (by decide : 0 + 0 ≤ _)⟩)
    dsimp only [Pt.U, Pt.locs, Pt.cells, Pt.slots] at X6 l6 y6 z6 st6 hQ6
    subst l6 y6 z6
    obtain ⟨rfl, Nq6, ee6⟩ := hQ6
    have N6 := Fr.app N1 Nq6
    refine Go.st st6 ?_
    show Go p.tables e below _ (T6.setTop (mkF m 15 #[.val (.ref a1), .val (.int p2)] [(.int (nar .char ((own_c ys i &&& (255 : Int32)).toUInt32.toUInt16.toUInt32.toInt32)))]))
    exact own_retN X6 hx Bd.notSynchronized (t := .char) Bd.returns (by simp) (hb hby d12_15) ⟨by rw [own_nar _ (own_nar_ok _)]; rw [(hen.lat hcd0).2 i hin |>.2, own_gb _ ⟨(hen.1 i hin).1, ((hen.lat hcd0).2 i hin).1⟩], N6, ee6⟩ (by decide) (by decide)
theorem own_five {P : Nat → Prop} (h0 : P 0) (h1 : P 1) (h2 : P 2) (h3 : P 3) (h4 : P 4) : ∀ i, i < 5 → P i := fun i hi => by
  have q : i = 0 ∨ i = 1 ∨ i = 2 ∨ i = 3 ∨ i = 4 := by omega
  rcases q with rfl | rfl | rfl | rfl | rfl <;> assumption
def own_ch5 (x0 x1 x2 x3 x4 : Int32) : Prop := own_ch x0 ∧ own_ch x1 ∧ own_ch x2 ∧ own_ch x3 ∧ own_ch x4
def own_lat5 (x0 x1 x2 x3 x4 : Int32) : Prop := ¬ 255 < x0 ∧ ¬ 255 < x1 ∧ ¬ 255 < x2 ∧ ¬ 255 < x3 ∧ ¬ 255 < x4
theorem own_le255 {x : Int32} (h : ¬ 255 < x) : x.toInt < 256 := by
  rw [own_lt32, show (255 : Int32).toInt = 255 from by decide] at h; omega
theorem own_encL {x0 x1 x2 x3 x4 : Int32} (h : own_ch5 x0 x1 x2 x3 x4) (l : own_lat5 x0 x1 x2 x3 x4) : own_enc 0 [own_b x0, own_b x1, own_b x2, own_b x3, own_b x4] [x0, x1, x2, x3, x4] :=
  ⟨own_five h.1 h.2.1 h.2.2.1 h.2.2.2.1 h.2.2.2.2, Or.inl ⟨rfl, rfl, own_five ⟨own_le255 l.1, rfl⟩ ⟨own_le255 l.2.1, rfl⟩ ⟨own_le255 l.2.2.1, rfl⟩ ⟨own_le255 l.2.2.2.1, rfl⟩ ⟨own_le255 l.2.2.2.2, rfl⟩⟩⟩
theorem own_encU {x0 x1 x2 x3 x4 : Int32} (h : own_ch5 x0 x1 x2 x3 x4) : own_enc 1 [own_lo x0, own_hi x0, own_lo x1, own_hi x1, own_lo x2, own_hi x2, own_lo x3, own_hi x3, own_lo x4, own_hi x4] [x0, x1, x2, x3, x4] :=
  ⟨own_five h.1 h.2.1 h.2.2.1 h.2.2.2.1 h.2.2.2.2, Or.inr ⟨rfl, rfl, own_five ⟨rfl, rfl⟩ ⟨rfl, rfl⟩ ⟨rfl, rfl⟩ ⟨rfl, rfl⟩ ⟨rfl, rfl⟩⟩⟩

theorem d29_0 : decode jdk_52_method_3_code 0 = .ok (.iload_n 0, 1) := by decide +kernel
theorem d29_1 : decode jdk_52_method_3_code 1 = .ok (.ifCond .ge 11, 3) := by decide +kernel
theorem d29_12 : decode jdk_52_method_3_code 12 = .ok (.iload_n 0, 1) := by decide +kernel
theorem d29_13 : decode jdk_52_method_3_code 13 = .ok (.ldc 20, 2) := by decide +kernel
theorem d29_15 : decode jdk_52_method_3_code 15 = .ok (.if_icmp .lt 40, 3) := by decide +kernel
theorem d29_55 : decode jdk_52_method_3_code 55 = .ok (.iload_n 0, 1) := by decide +kernel
theorem d29_56 : decode jdk_52_method_3_code 56 = .ok (.iconst 1, 1) := by decide +kernel
theorem d29_57 : decode jdk_52_method_3_code 57 = .ok (.ishl, 1) := by decide +kernel
theorem d29_58 : decode jdk_52_method_3_code 58 = .ok (.ireturn, 1) := by decide +kernel
theorem pn_29 : plainFor (⟨"java/lang/StringUTF16", "newBytesLength", "(I)I"⟩ : MethodName) = true := plainFor_of_name (by first | (simp [plainName, overriddenIn]; done) | decide +kernel)
theorem ef_29 (m : MethodId) (x0 : Int32) : entryFrame m #[(.int x0)] 1 = mkF m 0 #[.val (.int x0)] [] := by first | (simp [entryFrame, mkF, argsToLocals, Value.category]; done) | rfl
def Q29 (Z : State) (p1 : Int32)  (h0 : Heap) (n0 : Nat) (v : Option Value) (h : Heap) (L : List Loc) : Prop := v = some (.int (p1 <<< ((1 : Int32) &&& 31))) ∧ Fr n0 L ∧ h = h0
set_option maxRecDepth 65536 in
set_option maxHeartbeats 40000000 in
theorem rm29 (l : Launch) (Z : State) (a0 : Array Value) (hw : ∀ d ∈ tables_1, d.before a0 Z = true) (ws : List Jvm.Cond) (p1 : Int32)  (h0 : Heap) (n0 : Nat) (Z0 : n0 ≤ h0.size) (hp : 0 ≤ p1.toInt ∧ p1.toInt ≤ 1000) :
    MetFree l (⟨"java/lang/StringUTF16", "newBytesLength", "(I)I"⟩ : MethodName) (head1 (Jvm.Cond.code (⟨"java/lang/StringUTF16", "newBytesLength", "(I)I"⟩ : MethodName) jdk_52_method_3_code 1 (some .int) :: ws) ({ frames := 0, cells := 0, slots := 0, locals := 0 } : Room)) (fun a U => a = #[(.int p1)] ∧ Z.Warmed39 U.vm ∧ U.heap = h0) (fun _ _ _ _ _ => True) (fun _ U o U' => ∃ v L, o = .returned v ∧ Q29 Z p1 h0 n0 v U'.heap L ∧ FrameEnd U o U' L ({ frames := 0, cells := 0, slots := 0, locals := 0 } : Room).cells ({ frames := 0, cells := 0, slots := 0, locals := 0 } : Room).slots) := by
  refine MetFree.of_bodySF pn_29 hisR ?_
  intro p e s m args below meth c s₁ Bd hml0 hP hK
  obtain ⟨rfl, hZ, hh⟩ := hP
  have hx := Bd.exec
  have hby := Bd.bytes
  have hml : c.maxLocals = 1 := hml0
  have hown : s.vm.findClass "java/lang/StringUTF16" = some m.cls := findClass_of_methodNamed Bd.named
  have hnm := (name_of_methodNamed Bd.named Bd.method).1
  have X0 : Stand p l e ({ frames := 0, cells := 0, slots := 0, locals := 0 } : Room) s m #[(.int p1)] below meth c s₁ [] 0 0 := Stand.of_body Bd
  have e0 : s₁.heap = h0 := by rw [← hh, Bd.state]; rfl
  have N0 := Fr.nil n0
  refine own_start (Q := Q29 Z p1 h0 n0) (own_cast (ef_29 m p1) ?_)
  show Go p.tables e below _ (s₁.setTop (mkF m 0 #[.val (.int p1)] []))
  refine Go.st (fun U hr => XS.iloadN X0.here hx rfl (hb hby d29_0) rfl hr) ?_
  show Go p.tables e below _ (s₁.setTop (mkF m 1 #[.val (.int p1)] [(.int p1)]))
  have hc1_1 : ¬ (p1 < (0 : Int32)) := (by rw [own_lt32, show (0 : Int32).toInt = 0 from by decide]; omega)
  refine Go.st (fun U hr => XS.ifYes X0.here hx rfl (pc0 := 1) (pc' := 12) rfl (hb hby d29_1) rfl ((if0 _ _).trans (flt hc1_1).2.1) (by decide) (by decide) hr) ?_
  show Go p.tables e below _ (s₁.setTop (mkF m 12 #[.val (.int p1)] []))
  refine Go.st (fun U hr => XS.iloadN X0.here hx rfl (hb hby d29_12) rfl hr) ?_
  show Go p.tables e below _ (s₁.setTop (mkF m 13 #[.val (.int p1)] [(.int p1)]))
  refine Go.st (X0.ldcInt hx hown (mvT hZ (hw _ (List.mem_of_getElem? (i := 125) rfl))) (g := (mkF m 13 #[.val (.int p1)] [(.int p1)])) rfl (hb hby d29_13)) ?_
  show Go p.tables e below _ (s₁.setTop (mkF m 15 #[.val (.int p1)] [(.int (1073741823 : Int32)), (.int p1)]))
  have hc15_2 : p1 < (1073741823 : Int32) := (by rw [own_lt32, show (1073741823 : Int32).toInt = 1073741823 from by decide]; omega)
  refine Go.st (fun U hr => XS.icmpYes X0.here hx rfl (pc0 := 15) (pc' := 55) rfl (hb hby d29_15) rfl (tlt hc15_2).1 (by decide) (by decide) hr) ?_
  show Go p.tables e below _ (s₁.setTop (mkF m 55 #[.val (.int p1)] []))
  refine Go.st (fun U hr => XS.iloadN X0.here hx rfl (hb hby d29_55) rfl hr) ?_
  show Go p.tables e below _ (s₁.setTop (mkF m 56 #[.val (.int p1)] [(.int p1)]))
  refine Go.st (fun U hr => XS.iconst X0.here hx rfl (hb hby d29_56) hr) ?_
  show Go p.tables e below _ (s₁.setTop (mkF m 57 #[.val (.int p1)] [(.int (1 : Int32)), (.int p1)]))
  refine Go.st (fun U hr => XS.ishl X0.here hx rfl (hb hby d29_57) rfl hr) ?_
  show Go p.tables e below _ (s₁.setTop (mkF m 58 #[.val (.int p1)] [(.int (p1 <<< ((1 : Int32) &&& 31)))]))
  exact own_retO X0 hx Bd.notSynchronized (t := .int) Bd.returns rfl (Or.inl ⟨rfl, Or.inl rfl, _, rfl⟩) (hb hby d29_58) ⟨rfl, N0, e0⟩ (by decide) (by decide)
theorem d28_0 : decode jdk_52_method_2_code 0 = .ok (.iload_n 0, 1) := by decide +kernel
theorem d28_1 : decode jdk_52_method_2_code 1 = .ok (.invokestatic 11, 3) := by decide +kernel
theorem d28_4 : decode jdk_52_method_2_code 4 = .ok (.newarray .byte, 2) := by decide +kernel
theorem d28_6 : decode jdk_52_method_2_code 6 = .ok (.areturn, 1) := by decide +kernel
theorem pn_28 : plainFor (⟨"java/lang/StringUTF16", "newBytesFor", "(I)[B"⟩ : MethodName) = true := plainFor_of_name (by first | (simp [plainName, overriddenIn]; done) | decide +kernel)
theorem ef_28 (m : MethodId) (x0 : Int32) : entryFrame m #[(.int x0)] 1 = mkF m 0 #[.val (.int x0)] [] := by first | (simp [entryFrame, mkF, argsToLocals, Value.category]; done) | rfl
theorem pd_10 : parseMethodDescriptor "(I)I" = some ⟨[.int], some .int⟩ := by decide +kernel
def Q28 (Z : State)   (h0 : Heap) (n0 : Nat) (v : Option Value) (h : Heap) (L : List Loc) : Prop := ∃ r : Addr, v = some (.ref r) ∧ Fr n0 L ∧ h0.size ≤ r ∧ Keep h0 h [] ∧ ∃ kb, Arv Z h r kb .byte (10 : Int32) ([(0 : Int32), (0 : Int32), (0 : Int32), (0 : Int32), (0 : Int32), (0 : Int32), (0 : Int32), (0 : Int32), (0 : Int32), (0 : Int32)].map Value.int) (.int (0 : Int32))
set_option maxRecDepth 65536 in
set_option maxHeartbeats 40000000 in
theorem rm28 (l : Launch) (Z : State) (a0 : Array Value) (hw : ∀ d ∈ tables_1, d.before a0 Z = true) (ws : List Jvm.Cond)   (h0 : Heap) (n0 : Nat) (Z0 : n0 ≤ h0.size) :
    MetFree l (⟨"java/lang/StringUTF16", "newBytesFor", "(I)[B"⟩ : MethodName) (head1 (Jvm.Cond.code (⟨"java/lang/StringUTF16", "newBytesFor", "(I)[B"⟩ : MethodName) jdk_52_method_2_code 1 (some (.array .byte)) :: ws) ({ frames := 1, cells := 1, slots := 10, locals := 12 } : Room)) (fun a U => a = #[(.int (5 : Int32))] ∧ Z.Warmed39 U.vm ∧ U.heap = h0) (fun _ _ _ _ _ => True) (fun _ U o U' => ∃ v L, o = .returned v ∧ Q28 Z  h0 n0 v U'.heap L ∧ FrameEnd U o U' L ({ frames := 1, cells := 1, slots := 10, locals := 12 } : Room).cells ({ frames := 1, cells := 1, slots := 10, locals := 12 } : Room).slots) := by
  refine MetFree.of_bodySF pn_28 hisR ?_
  intro p e s m args below meth c s₁ Bd hml0 hP hK
  obtain ⟨rfl, hZ, hh⟩ := hP
  have hx := Bd.exec
  have hby := Bd.bytes
  have hml : c.maxLocals = 1 := hml0
  have hown : s.vm.findClass "java/lang/StringUTF16" = some m.cls := findClass_of_methodNamed Bd.named
  have hnm := (name_of_methodNamed Bd.named Bd.method).1
  have X0 : Stand p l e ({ frames := 1, cells := 1, slots := 10, locals := 12 } : Room) s m #[(.int (5 : Int32))] below meth c s₁ [] 0 0 := Stand.of_body Bd
  have e0 : s₁.heap = h0 := by rw [← hh, Bd.state]; rfl
  have N0 := Fr.nil n0
  refine own_start (Q := Q28 Z  h0 n0) (own_cast (ef_28 m (5 : Int32)) ?_)
  show Go p.tables e below _ (s₁.setTop (mkF m 0 #[.val (.int (5 : Int32))] []))
  refine Go.st (fun U hr => XS.iloadN X0.here hx rfl (hb hby d28_0) rfl hr) ?_
  show Go p.tables e below _ (s₁.setTop (mkF m 1 #[.val (.int (5 : Int32))] [(.int (5 : Int32))]))
  obtain ⟨_, _, ⟨T1, L1, k1, n1⟩, -, X1, ⟨Lc1, hQ1, l1, y1, z1⟩, st1⟩ := Jvm.LawKit.callS X0 hx (y := (⟨"java/lang/StringUTF16", "newBytesLength", "(I)I"⟩ : MethodName)) hown (mvT hZ (hw _ (List.mem_of_getElem? (i := 122) rfl))) (mvT hZ (hw _ (List.mem_of_getElem? (i := 123) rfl))) (mvT hZ (hw _ (List.mem_of_getElem? (i := 25) rfl))) (mvT hZ (hw _ (List.mem_of_getElem? (i := 124) rfl))) (by decide) (backOf (W := 0) (rm29 l Z a0 hw [] (5 : Int32) h0 n0 Z0 (by decide)) hZ (hw _ (List.mem_of_getElem? (i := 124) rfl)) (hw _ (List.mem_of_getElem? (i := 25) rfl)) (by decide) (by decide)) (g := (mkF m 1 #[.val (.int (5 : Int32))] [(.int (5 : Int32))])) rfl (by rw [hml]; rfl) (argsL := [(.int (5 : Int32))]) (rest := []) (lenOf pd_10 rfl) rfl (by show 2 * 0 + _ ≤ _; exact Nat.le_of_eq rfl) (hb hby d28_1) (fun _ _ => ⟨rfl, e0, (by decide : 0 + 0 ≤ _), (by decide : 0 + 0 ≤ _)⟩)
  dsimp only [Pt.U, Pt.locs, Pt.cells, Pt.slots] at X1 l1 y1 z1 st1 hQ1
  subst l1 y1 z1
  obtain ⟨rfl, Nq1, ee1⟩ := hQ1
  have N1 := Fr.app N0 Nq1
  refine Go.st st1 ?_
  show Go p.tables e below _ (T1.setTop (mkF m 4 #[.val (.int (5 : Int32))] [(.int ((5 : Int32) <<< ((1 : Int32) &&& 31)))]))
  rw [show ((5 : Int32) <<< ((1 : Int32) &&& 31)) = (10 : Int32) from by decide]
  show Go p.tables e below _ (T1.setTop (mkF m 4 #[.val (.int (5 : Int32))] [(.int (10 : Int32))]))
  obtain ⟨T2, h2, k2, X2, e2, E2, A2, st2⟩ := newP X1 hx hZ (hw _ (List.mem_of_getElem? (i := 27) rfl)) ee1 (g := (mkF m 4 #[.val (.int (5 : Int32))] [(.int (10 : Int32))])) rfl (hb hby d28_4) rfl (by decide) (cap := 10) (by decide) (by decide) (by decide) (by decide)
  obtain ⟨b2, g2⟩ : ∃ z, z = h0.size := ⟨_, rfl⟩
  rw [← g2] at A2 st2
  refine Go.st st2 ?_
  have gb2 : n0 ≤ b2 := Nat.le_trans Z0 (Nat.le_of_eq g2.symm)
  have sb2 : h0.size ≤ b2 := Nat.le_trans ((Keep.refl h0 [])).1 (Nat.le_of_eq g2.symm)
  have k3 := ((Keep.refl h0 [])).ext E2
  have z4 := Nat.le_trans Z0 E2.1
  have V2 : Arv Z h2 b2 k2 .byte (10 : Int32) [(.int (0 : Int32)), (.int (0 : Int32)), (.int (0 : Int32)), (.int (0 : Int32)), (.int (0 : Int32)), (.int (0 : Int32)), (.int (0 : Int32)), (.int (0 : Int32)), (.int (0 : Int32)), (.int (0 : Int32))] (.int (0 : Int32)) := (Arv.new A2 (by decide)).pad (pad_rep [] (.int (0 : Int32)) 10)
  show Go p.tables e below _ (T2.setTop (mkF m 6 #[.val (.int (5 : Int32))] [(.ref b2)]))
  exact own_retO X2 hx Bd.notSynchronized (t := (.array .byte)) Bd.returns rfl (Or.inr (Or.inr (Or.inr (Or.inr ⟨rfl, rfl, rfl⟩)))) (hb hby d28_6) (by rw [e2]; exact ⟨_, rfl, N1, sb2, k3, _, V2⟩) (by decide) (by decide)
theorem d27_0 : decode jdk_52_method_14_code 0 = .ok (.iload_n 2, 1) := by decide +kernel
theorem d27_1 : decode jdk_52_method_14_code 1 = .ok (.invokestatic 107, 3) := by decide +kernel
theorem d27_4 : decode jdk_52_method_14_code 4 = .ok (.astore_n 3, 1) := by decide +kernel
theorem d27_5 : decode jdk_52_method_14_code 5 = .ok (.iconst 0, 1) := by decide +kernel
theorem d27_6 : decode jdk_52_method_14_code 6 = .ok (.istore 4, 2) := by decide +kernel
theorem d27_8 : decode jdk_52_method_14_code 8 = .ok (.iload 4, 2) := by decide +kernel
theorem d27_10 : decode jdk_52_method_14_code 10 = .ok (.iload_n 2, 1) := by decide +kernel
theorem d27_11 : decode jdk_52_method_14_code 11 = .ok (.if_icmp .ge 21, 3) := by decide +kernel
theorem d27_14 : decode jdk_52_method_14_code 14 = .ok (.aload_n 3, 1) := by decide +kernel
theorem d27_15 : decode jdk_52_method_14_code 15 = .ok (.iload 4, 2) := by decide +kernel
theorem d27_17 : decode jdk_52_method_14_code 17 = .ok (.aload_n 0, 1) := by decide +kernel
theorem d27_18 : decode jdk_52_method_14_code 18 = .ok (.iload_n 1, 1) := by decide +kernel
theorem d27_19 : decode jdk_52_method_14_code 19 = .ok (.caload, 1) := by decide +kernel
theorem d27_20 : decode jdk_52_method_14_code 20 = .ok (.invokestatic 111, 3) := by decide +kernel
theorem d27_23 : decode jdk_52_method_14_code 23 = .ok (.iinc 1 1, 3) := by decide +kernel
theorem d27_26 : decode jdk_52_method_14_code 26 = .ok (.iinc 4 1, 3) := by decide +kernel
theorem d27_29 : decode jdk_52_method_14_code 29 = .ok (.goto (-21), 3) := by decide +kernel
theorem d27_32 : decode jdk_52_method_14_code 32 = .ok (.aload_n 3, 1) := by decide +kernel
theorem d27_33 : decode jdk_52_method_14_code 33 = .ok (.areturn, 1) := by decide +kernel
theorem pn_27 : plainFor (⟨"java/lang/StringUTF16", "toBytes", "([CII)[B"⟩ : MethodName) = true := plainFor_of_name (by first | (simp [plainName, overriddenIn]; done) | decide +kernel)
theorem ef_27 (m : MethodId) (x0 : Addr) (x1 : Int32) (x2 : Int32) : entryFrame m #[(.ref x0), (.int x1), (.int x2)] 5 = mkF m 0 #[.val (.ref x0), .val (.int x1), .val (.int x2), .unset, .unset] [] := by first | (simp [entryFrame, mkF, argsToLocals, Value.category]; done) | rfl
theorem pd_11 : parseMethodDescriptor "(I)[B" = some ⟨[.int], some (.array .byte)⟩ := by decide +kernel
theorem pd_12 : parseMethodDescriptor "([BII)V" = some ⟨[(.array .byte), .int, .int], none⟩ := by decide +kernel
def Q27 (Z : State) (a1 : Addr) (wc : Int32) (sf : Option Addr) (kc : ClassId) (x0 : Int32) (x1 : Int32) (x2 : Int32) (x3 : Int32) (x4 : Int32) (h0 : Heap) (n0 : Nat) (v : Option Value) (h : Heap) (L : List Loc) : Prop := ∃ r : Addr, v = some (.ref r) ∧ Fr n0 L ∧ h0.size ≤ r ∧ Keep h0 h [] ∧ ∃ kb, Arv Z h r kb .byte (10 : Int32) ([(own_lo x0), (own_hi x0), (own_lo x1), (own_hi x1), (own_lo x2), (own_hi x2), (own_lo x3), (own_hi x3), (own_lo x4), (own_hi x4)].map Value.int) (.int (0 : Int32))
set_option maxRecDepth 65536 in
set_option maxHeartbeats 40000000 in
theorem rm27 (l : Launch) (Z : State) (a0 : Array Value) (hw : ∀ d ∈ tables_1, d.before a0 Z = true) (ws : List Jvm.Cond) (a1 : Addr) (wc : Int32) (sf : Option Addr) (kc : ClassId) (x0 : Int32) (x1 : Int32) (x2 : Int32) (x3 : Int32) (x4 : Int32) (h0 : Heap) (n0 : Nat) (Z0 : n0 ≤ h0.size) (hS : own_Sts Z h0 wc sf) (V1 : Arv Z h0 a1 kc .char (5 : Int32) [(.int x0), (.int x1), (.int x2), (.int x3), (.int x4)] (.int (0 : Int32))) :
    MetFree l (⟨"java/lang/StringUTF16", "toBytes", "([CII)[B"⟩ : MethodName) (head1 (Jvm.Cond.code (⟨"java/lang/StringUTF16", "toBytes", "([CII)[B"⟩ : MethodName) jdk_52_method_14_code 5 (some (.array .byte)) :: ws) ({ frames := 2, cells := 1, slots := 10, locals := 24 } : Room)) (fun a U => a = #[(.ref a1), (.int (0 : Int32)), (.int (5 : Int32))] ∧ Z.Warmed39 U.vm ∧ U.heap = h0) (fun _ _ _ _ _ => True) (fun _ U o U' => ∃ v L, o = .returned v ∧ Q27 Z a1 wc sf kc x0 x1 x2 x3 x4 h0 n0 v U'.heap L ∧ FrameEnd U o U' L ({ frames := 2, cells := 1, slots := 10, locals := 24 } : Room).cells ({ frames := 2, cells := 1, slots := 10, locals := 24 } : Room).slots) := by
  refine MetFree.of_bodySF pn_27 hisR ?_
  intro p e s m args below meth c s₁ Bd hml0 hP hK
  obtain ⟨rfl, hZ, hh⟩ := hP
  have hx := Bd.exec
  have hby := Bd.bytes
  have hml : c.maxLocals = 5 := hml0
  have hown : s.vm.findClass "java/lang/StringUTF16" = some m.cls := findClass_of_methodNamed Bd.named
  have hnm := (name_of_methodNamed Bd.named Bd.method).1
  have X0 : Stand p l e ({ frames := 2, cells := 1, slots := 10, locals := 24 } : Room) s m #[(.ref a1), (.int (0 : Int32)), (.int (5 : Int32))] below meth c s₁ [] 0 0 := Stand.of_body Bd
  have e0 : s₁.heap = h0 := by rw [← hh, Bd.state]; rfl
  have N0 := Fr.nil n0
  refine own_start (Q := Q27 Z a1 wc sf kc x0 x1 x2 x3 x4 h0 n0) (own_cast (ef_27 m a1 (0 : Int32) (5 : Int32)) ?_)
  obtain ⟨S1, hwc, S2, S3, S4, S5⟩ := id hS
  show Go p.tables e below _ (s₁.setTop (mkF m 0 #[.val (.ref a1), .val (.int (0 : Int32)), .val (.int (5 : Int32)), .unset, .unset] []))
  refine Go.st (fun U hr => XS.iloadN X0.here hx rfl (hb hby d27_0) rfl hr) ?_
  show Go p.tables e below _ (s₁.setTop (mkF m 1 #[.val (.ref a1), .val (.int (0 : Int32)), .val (.int (5 : Int32)), .unset, .unset] [(.int (5 : Int32))]))
  obtain ⟨_, _, ⟨T1, L1, k1, n1⟩, -, X1, ⟨Lc1, hQ1, l1, y1, z1⟩, st1⟩ := Jvm.LawKit.callS X0 hx (y := (⟨"java/lang/StringUTF16", "newBytesFor", "(I)[B"⟩ : MethodName)) hown (mvT hZ (hw _ (List.mem_of_getElem? (i := 119) rfl))) (mvT hZ (hw _ (List.mem_of_getElem? (i := 120) rfl))) (mvT hZ (hw _ (List.mem_of_getElem? (i := 25) rfl))) (mvT hZ (hw _ (List.mem_of_getElem? (i := 121) rfl))) (by decide) (backOf (W := 0) (rm28 l Z a0 hw [] h0 n0 Z0) hZ (hw _ (List.mem_of_getElem? (i := 121) rfl)) (hw _ (List.mem_of_getElem? (i := 25) rfl)) (by decide) (by decide)) (g := (mkF m 1 #[.val (.ref a1), .val (.int (0 : Int32)), .val (.int (5 : Int32)), .unset, .unset] [(.int (5 : Int32))])) rfl (by rw [hml]; rfl) (argsL := [(.int (5 : Int32))]) (rest := []) (lenOf pd_11 rfl) rfl (by show 2 * 0 + _ ≤ _; exact Nat.le_of_eq rfl) (hb hby d27_1) (fun _ _ => ⟨rfl, e0, (by decide : 0 + 1 ≤ _), (by decide : 0 + 10 ≤ _)⟩)
  dsimp only [Pt.U, Pt.locs, Pt.cells, Pt.slots] at X1 l1 y1 z1 st1 hQ1
  subst l1 y1 z1
  obtain ⟨r1, rfl, Nq1, sr1, Kq1, Vq1'⟩ := hQ1
  have N1 := Fr.app N0 Nq1
  refine Go.st st1 ?_
  show Go p.tables e below _ (T1.setTop (mkF m 4 #[.val (.ref a1), .val (.int (0 : Int32)), .val (.int (5 : Int32)), .unset, .unset] [(.ref r1)]))
  have f2 := own_stk Kq1 all0 S1
  have f3 := own_stk Kq1 all0 S2
  have f4 := own_stk Kq1 all0 S3
  have f5 := own_stk Kq1 all0 S4
  have f6 := own_stk Kq1 all0 S5
  have f7 := (V1).keep Kq1 nin0
  have k8 := ((Keep.refl h0 [])).trans Kq1 all0
  have z9 := Nat.le_trans Z0 Kq1.1
  obtain ⟨kb1, Vq1⟩ := Vq1'
  have gb_r1 : n0 ≤ r1 := Nat.le_trans Z0 sr1
  have sz_r1 : h0.size ≤ r1 := Nat.le_trans ((Keep.refl h0 [])).1 sr1
  have n10 : a1 ≠ r1 := Nat.ne_of_lt (Nat.lt_of_lt_of_le (V1).lt sr1)
  refine Go.st (fun U hr => XS.astoreN X1.here hx rfl (hb hby d27_4) rfl rfl (l' := #[.val (.ref a1), .val (.int (0 : Int32)), .val (.int (5 : Int32)), .val (.ref r1), .unset]) rfl hr) ?_
  show Go p.tables e below _ (T1.setTop (mkF m 5 #[.val (.ref a1), .val (.int (0 : Int32)), .val (.int (5 : Int32)), .val (.ref r1), .unset] []))
  refine Go.st (fun U hr => XS.iconst X1.here hx rfl (hb hby d27_5) hr) ?_
  show Go p.tables e below _ (T1.setTop (mkF m 6 #[.val (.ref a1), .val (.int (0 : Int32)), .val (.int (5 : Int32)), .val (.ref r1), .unset] [(.int (0 : Int32))]))
  refine Go.st (fun U hr => XS.istore X1.here hx rfl (hb hby d27_6) rfl (l' := #[.val (.ref a1), .val (.int (0 : Int32)), .val (.int (5 : Int32)), .val (.ref r1), .val (.int (0 : Int32))]) rfl hr) ?_
  show Go p.tables e below _ (T1.setTop (mkF m 8 #[.val (.ref a1), .val (.int (0 : Int32)), .val (.int (5 : Int32)), .val (.ref r1), .val (.int (0 : Int32))] []))
  show Go p.tables e below _ (T1.setTop (mkF m 8 #[.val (.ref a1), .val (.int (0 : Int32)), .val (.int (5 : Int32)), .val (.ref r1), .val (.int (0 : Int32))] []))
  refine Go.st (fun U hr => XS.iload X1.here hx rfl (hb hby d27_8) rfl hr) ?_
  show Go p.tables e below _ (T1.setTop (mkF m 10 #[.val (.ref a1), .val (.int (0 : Int32)), .val (.int (5 : Int32)), .val (.ref r1), .val (.int (0 : Int32))] [(.int (0 : Int32))]))
  refine Go.st (fun U hr => XS.iloadN X1.here hx rfl (hb hby d27_10) rfl hr) ?_
  show Go p.tables e below _ (T1.setTop (mkF m 11 #[.val (.ref a1), .val (.int (0 : Int32)), .val (.int (5 : Int32)), .val (.ref r1), .val (.int (0 : Int32))] [(.int (5 : Int32)), (.int (0 : Int32))]))
  refine Go.st (fun U hr => XS.icmpNo X1.here hx rfl (hb hby d27_11) rfl (by decide) hr) ?_
  show Go p.tables e below _ (T1.setTop (mkF m 14 #[.val (.ref a1), .val (.int (0 : Int32)), .val (.int (5 : Int32)), .val (.ref r1), .val (.int (0 : Int32))] []))
  refine Go.st (fun U hr => XS.aloadN X1.here hx rfl (hb hby d27_14) rfl rfl hr) ?_
  show Go p.tables e below _ (T1.setTop (mkF m 15 #[.val (.ref a1), .val (.int (0 : Int32)), .val (.int (5 : Int32)), .val (.ref r1), .val (.int (0 : Int32))] [(.ref r1)]))
  refine Go.st (fun U hr => XS.iload X1.here hx rfl (hb hby d27_15) rfl hr) ?_
  show Go p.tables e below _ (T1.setTop (mkF m 17 #[.val (.ref a1), .val (.int (0 : Int32)), .val (.int (5 : Int32)), .val (.ref r1), .val (.int (0 : Int32))] [(.int (0 : Int32)), (.ref r1)]))
  refine Go.st (fun U hr => XS.aloadN X1.here hx rfl (hb hby d27_17) rfl rfl hr) ?_
  show Go p.tables e below _ (T1.setTop (mkF m 18 #[.val (.ref a1), .val (.int (0 : Int32)), .val (.int (5 : Int32)), .val (.ref r1), .val (.int (0 : Int32))] [(.ref a1), (.int (0 : Int32)), (.ref r1)]))
  refine Go.st (fun U hr => XS.iloadN X1.here hx rfl (hb hby d27_18) rfl hr) ?_
  show Go p.tables e below _ (T1.setTop (mkF m 19 #[.val (.ref a1), .val (.int (0 : Int32)), .val (.int (5 : Int32)), .val (.ref r1), .val (.int (0 : Int32))] [(.int (0 : Int32)), (.ref a1), (.int (0 : Int32)), (.ref r1)]))
  obtain ⟨cl11, Ar11, qa11, Sa11, Na11, Ha11, Ga11⟩ := id f7
  have hin11 : ¬ ((0 : Int32) < 0 ∨ cl11.slots.size ≤ ((0 : Int32)).toNatClampNeg) := inb_of Sa11 ⟨by decide, by decide⟩
  refine Go.st (X1.caload hx (j := (0 : Int32)) (v := (.int x0)) Ar11.1 (State.isArrayOf_alike hZ.alike Ar11.2.1) Ar11.2.2 hin11 (Ha11.at hin11 rfl) (g := (mkF m 19 #[.val (.ref a1), .val (.int (0 : Int32)), .val (.int (5 : Int32)), .val (.ref r1), .val (.int (0 : Int32))] [(.int (0 : Int32)), (.ref a1), (.int (0 : Int32)), (.ref r1)])) rfl rfl (hb hby d27_19)) ?_
  show Go p.tables e below _ (T1.setTop (mkF m 20 #[.val (.ref a1), .val (.int (0 : Int32)), .val (.int (5 : Int32)), .val (.ref r1), .val (.int (0 : Int32))] [(.int x0), (.int (0 : Int32)), (.ref r1)]))
  obtain ⟨_, _, ⟨T12, L12, k12, n12⟩, -, X12, ⟨Lc12, hQ12, l12, y12, z12⟩, st12⟩ := Jvm.LawKit.callS X1 hx (y := (⟨"java/lang/StringUTF16", "putChar", "([BII)V"⟩ : MethodName)) hown (mvT hZ (hw _ (List.mem_of_getElem? (i := 126) rfl))) (mvT hZ (hw _ (List.mem_of_getElem? (i := 127) rfl))) (mvT hZ (hw _ (List.mem_of_getElem? (i := 25) rfl))) (mvT hZ (hw _ (List.mem_of_getElem? (i := 128) rfl))) (by decide) (backOf (W := 0) (rm30 l Z a0 hw [] r1 (0 : Int32) x0 wc sf kb1 (10 : Int32) [(0 : Int32), (0 : Int32), (0 : Int32), (0 : Int32), (0 : Int32), (0 : Int32), (0 : Int32), (0 : Int32), (0 : Int32), (0 : Int32)] 0 T1.heap n0 z9 ⟨f2, hwc, f3, f4, f5, f6⟩ Vq1 rfl (Nat.le_of_ble_eq_true rfl) (by decide) (Nat.le_of_ble_eq_true rfl) gb_r1) hZ (hw _ (List.mem_of_getElem? (i := 128) rfl)) (hw _ (List.mem_of_getElem? (i := 25) rfl)) (by decide) (by decide)) (g := (mkF m 20 #[.val (.ref a1), .val (.int (0 : Int32)), .val (.int (5 : Int32)), .val (.ref r1), .val (.int (0 : Int32))] [(.int x0), (.int (0 : Int32)), (.ref r1)])) rfl (by rw [hml]; rfl) (argsL := [(.ref r1), (.int (0 : Int32)), (.int x0)]) (rest := []) (lenOf pd_12 rfl) rfl (by show 2 * 0 + _ ≤ _; exact Nat.le_of_eq rfl) (hb hby d27_20) (fun _ _ => ⟨rfl, rfl, (by decide : 1 + 0 ≤ _), (by decide : 10 + 0 ≤ _)⟩)
  dsimp only [Pt.U, Pt.locs, Pt.cells, Pt.slots] at X12 l12 y12 z12 st12 hQ12
  subst l12 y12 z12
  obtain ⟨rfl, Nq12, Kq12, Vq12⟩ := hQ12
  have N12 := Fr.app N1 Nq12
  refine Go.st st12 ?_
  show Go p.tables e below _ (T12.setTop (mkF m 23 #[.val (.ref a1), .val (.int (0 : Int32)), .val (.int (5 : Int32)), .val (.ref r1), .val (.int (0 : Int32))] []))
  have f13 := own_stk Kq12 (allS (own_nsV Vq1) all0) f2
  have f14 := own_stk Kq12 (allS (own_nsV Vq1) all0) f3
  have f15 := own_stk Kq12 (allS (own_nsV Vq1) all0) f4
  have f16 := own_stk Kq12 (allS (own_nsV Vq1) all0) f5
  have f17 := own_stk Kq12 (allS (own_nsV Vq1) all0) f6
  have f18 := (f7).keep Kq12 (ninS n10 nin0)
  have k20 := (k8).trans Kq12 (allS (Or.inr sz_r1) all0)
  have z21 := Nat.le_trans z9 Kq12.1
  have Vr12 : Arv Z T12.heap r1 kb1 .byte (10 : Int32) ([(own_lo x0), (own_hi x0), (0 : Int32), (0 : Int32), (0 : Int32), (0 : Int32), (0 : Int32), (0 : Int32), (0 : Int32), (0 : Int32)].map Value.int) (.int (0 : Int32)) := Vq12
  refine Go.st (fun U hr => XS.iinc X12.here hx rfl (hb hby d27_23) rfl (l' := #[.val (.ref a1), .val (.int ((0 : Int32) + (1 : Int32))), .val (.int (5 : Int32)), .val (.ref r1), .val (.int (0 : Int32))]) rfl hr) ?_
  show Go p.tables e below _ (T12.setTop (mkF m 26 #[.val (.ref a1), .val (.int ((0 : Int32) + (1 : Int32))), .val (.int (5 : Int32)), .val (.ref r1), .val (.int (0 : Int32))] []))
  refine Go.st (fun U hr => XS.iinc X12.here hx rfl (hb hby d27_26) rfl (l' := #[.val (.ref a1), .val (.int ((0 : Int32) + (1 : Int32))), .val (.int (5 : Int32)), .val (.ref r1), .val (.int ((0 : Int32) + (1 : Int32)))]) rfl hr) ?_
  show Go p.tables e below _ (T12.setTop (mkF m 29 #[.val (.ref a1), .val (.int ((0 : Int32) + (1 : Int32))), .val (.int (5 : Int32)), .val (.ref r1), .val (.int ((0 : Int32) + (1 : Int32)))] []))
  refine Go.st (fun U hr => XS.goto X12.here hx rfl (pc0 := 29) (pc' := 8) rfl (hb hby d27_29) (by decide) (by decide) hr) ?_
  show Go p.tables e below _ (T12.setTop (mkF m 8 #[.val (.ref a1), .val (.int ((0 : Int32) + (1 : Int32))), .val (.int (5 : Int32)), .val (.ref r1), .val (.int ((0 : Int32) + (1 : Int32)))] []))
  rw [show ((0 : Int32) + (1 : Int32)) = (1 : Int32) from by decide]
  show Go p.tables e below _ (T12.setTop (mkF m 8 #[.val (.ref a1), .val (.int (1 : Int32)), .val (.int (5 : Int32)), .val (.ref r1), .val (.int (1 : Int32))] []))
  refine Go.st (fun U hr => XS.iload X12.here hx rfl (hb hby d27_8) rfl hr) ?_
  show Go p.tables e below _ (T12.setTop (mkF m 10 #[.val (.ref a1), .val (.int (1 : Int32)), .val (.int (5 : Int32)), .val (.ref r1), .val (.int (1 : Int32))] [(.int (1 : Int32))]))
  refine Go.st (fun U hr => XS.iloadN X12.here hx rfl (hb hby d27_10) rfl hr) ?_
  show Go p.tables e below _ (T12.setTop (mkF m 11 #[.val (.ref a1), .val (.int (1 : Int32)), .val (.int (5 : Int32)), .val (.ref r1), .val (.int (1 : Int32))] [(.int (5 : Int32)), (.int (1 : Int32))]))
  refine Go.st (fun U hr => XS.icmpNo X12.here hx rfl (hb hby d27_11) rfl (by decide) hr) ?_
  show Go p.tables e below _ (T12.setTop (mkF m 14 #[.val (.ref a1), .val (.int (1 : Int32)), .val (.int (5 : Int32)), .val (.ref r1), .val (.int (1 : Int32))] []))
  refine Go.st (fun U hr => XS.aloadN X12.here hx rfl (hb hby d27_14) rfl rfl hr) ?_
  show Go p.tables e below _ (T12.setTop (mkF m 15 #[.val (.ref a1), .val (.int (1 : Int32)), .val (.int (5 : Int32)), .val (.ref r1), .val (.int (1 : Int32))] [(.ref r1)]))
  refine Go.st (fun U hr => XS.iload X12.here hx rfl (hb hby d27_15) rfl hr) ?_
  show Go p.tables e below _ (T12.setTop (mkF m 17 #[.val (.ref a1), .val (.int (1 : Int32)), .val (.int (5 : Int32)), .val (.ref r1), .val (.int (1 : Int32))] [(.int (1 : Int32)), (.ref r1)]))
  refine Go.st (fun U hr => XS.aloadN X12.here hx rfl (hb hby d27_17) rfl rfl hr) ?_
  show Go p.tables e below _ (T12.setTop (mkF m 18 #[.val (.ref a1), .val (.int (1 : Int32)), .val (.int (5 : Int32)), .val (.ref r1), .val (.int (1 : Int32))] [(.ref a1), (.int (1 : Int32)), (.ref r1)]))
  refine Go.st (fun U hr => XS.iloadN X12.here hx rfl (hb hby d27_18) rfl hr) ?_
  show Go p.tables e below _ (T12.setTop (mkF m 19 #[.val (.ref a1), .val (.int (1 : Int32)), .val (.int (5 : Int32)), .val (.ref r1), .val (.int (1 : Int32))] [(.int (1 : Int32)), (.ref a1), (.int (1 : Int32)), (.ref r1)]))
  obtain ⟨cl22, Ar22, qa22, Sa22, Na22, Ha22, Ga22⟩ := id f18
  have hin22 : ¬ ((1 : Int32) < 0 ∨ cl22.slots.size ≤ ((1 : Int32)).toNatClampNeg) := inb_of Sa22 ⟨by decide, by decide⟩
  refine Go.st (X12.caload hx (j := (1 : Int32)) (v := (.int x1)) Ar22.1 (State.isArrayOf_alike hZ.alike Ar22.2.1) Ar22.2.2 hin22 (Ha22.at hin22 rfl) (g := (mkF m 19 #[.val (.ref a1), .val (.int (1 : Int32)), .val (.int (5 : Int32)), .val (.ref r1), .val (.int (1 : Int32))] [(.int (1 : Int32)), (.ref a1), (.int (1 : Int32)), (.ref r1)])) rfl rfl (hb hby d27_19)) ?_
  show Go p.tables e below _ (T12.setTop (mkF m 20 #[.val (.ref a1), .val (.int (1 : Int32)), .val (.int (5 : Int32)), .val (.ref r1), .val (.int (1 : Int32))] [(.int x1), (.int (1 : Int32)), (.ref r1)]))
  obtain ⟨_, _, ⟨T23, L23, k23, n23⟩, -, X23, ⟨Lc23, hQ23, l23, y23, z23⟩, st23⟩ := Jvm.LawKit.callS X12 hx (y := (⟨"java/lang/StringUTF16", "putChar", "([BII)V"⟩ : MethodName)) hown (mvT hZ (hw _ (List.mem_of_getElem? (i := 126) rfl))) (mvT hZ (hw _ (List.mem_of_getElem? (i := 127) rfl))) (mvT hZ (hw _ (List.mem_of_getElem? (i := 25) rfl))) (mvT hZ (hw _ (List.mem_of_getElem? (i := 128) rfl))) (by decide) (backOf (W := 0) (rm30 l Z a0 hw [] r1 (1 : Int32) x1 wc sf kb1 (10 : Int32) [(own_lo x0), (own_hi x0), (0 : Int32), (0 : Int32), (0 : Int32), (0 : Int32), (0 : Int32), (0 : Int32), (0 : Int32), (0 : Int32)] 1 T12.heap n0 z21 ⟨f13, hwc, f14, f15, f16, f17⟩ Vr12 rfl (Nat.le_of_ble_eq_true rfl) (by decide) (Nat.le_of_ble_eq_true rfl) gb_r1) hZ (hw _ (List.mem_of_getElem? (i := 128) rfl)) (hw _ (List.mem_of_getElem? (i := 25) rfl)) (by decide) (by decide)) (g := (mkF m 20 #[.val (.ref a1), .val (.int (1 : Int32)), .val (.int (5 : Int32)), .val (.ref r1), .val (.int (1 : Int32))] [(.int x1), (.int (1 : Int32)), (.ref r1)])) rfl (by rw [hml]; rfl) (argsL := [(.ref r1), (.int (1 : Int32)), (.int x1)]) (rest := []) (lenOf pd_12 rfl) rfl (by show 2 * 0 + _ ≤ _; exact Nat.le_of_eq rfl) (hb hby d27_20) (fun _ _ => ⟨rfl, rfl, (by decide : 1 + 0 ≤ _), (by decide : 10 + 0 ≤ _)⟩)
  dsimp only [Pt.U, Pt.locs, Pt.cells, Pt.slots] at X23 l23 y23 z23 st23 hQ23
  subst l23 y23 z23
  obtain ⟨rfl, Nq23, Kq23, Vq23⟩ := hQ23
  have N23 := Fr.app N12 Nq23
  refine Go.st st23 ?_
  show Go p.tables e below _ (T23.setTop (mkF m 23 #[.val (.ref a1), .val (.int (1 : Int32)), .val (.int (5 : Int32)), .val (.ref r1), .val (.int (1 : Int32))] []))
  have f24 := own_stk Kq23 (allS (own_nsV Vr12) all0) f13
  have f25 := own_stk Kq23 (allS (own_nsV Vr12) all0) f14
  have f26 := own_stk Kq23 (allS (own_nsV Vr12) all0) f15
  have f27 := own_stk Kq23 (allS (own_nsV Vr12) all0) f16
  have f28 := own_stk Kq23 (allS (own_nsV Vr12) all0) f17
  have f29 := (f18).keep Kq23 (ninS n10 nin0)
  have k31 := (k20).trans Kq23 (allS (Or.inr sz_r1) all0)
  have z32 := Nat.le_trans z21 Kq23.1
  have Vr23 : Arv Z T23.heap r1 kb1 .byte (10 : Int32) ([(own_lo x0), (own_hi x0), (own_lo x1), (own_hi x1), (0 : Int32), (0 : Int32), (0 : Int32), (0 : Int32), (0 : Int32), (0 : Int32)].map Value.int) (.int (0 : Int32)) := Vq23
  refine Go.st (fun U hr => XS.iinc X23.here hx rfl (hb hby d27_23) rfl (l' := #[.val (.ref a1), .val (.int ((1 : Int32) + (1 : Int32))), .val (.int (5 : Int32)), .val (.ref r1), .val (.int (1 : Int32))]) rfl hr) ?_
  show Go p.tables e below _ (T23.setTop (mkF m 26 #[.val (.ref a1), .val (.int ((1 : Int32) + (1 : Int32))), .val (.int (5 : Int32)), .val (.ref r1), .val (.int (1 : Int32))] []))
  refine Go.st (fun U hr => XS.iinc X23.here hx rfl (hb hby d27_26) rfl (l' := #[.val (.ref a1), .val (.int ((1 : Int32) + (1 : Int32))), .val (.int (5 : Int32)), .val (.ref r1), .val (.int ((1 : Int32) + (1 : Int32)))]) rfl hr) ?_
  show Go p.tables e below _ (T23.setTop (mkF m 29 #[.val (.ref a1), .val (.int ((1 : Int32) + (1 : Int32))), .val (.int (5 : Int32)), .val (.ref r1), .val (.int ((1 : Int32) + (1 : Int32)))] []))
  refine Go.st (fun U hr => XS.goto X23.here hx rfl (pc0 := 29) (pc' := 8) rfl (hb hby d27_29) (by decide) (by decide) hr) ?_
  show Go p.tables e below _ (T23.setTop (mkF m 8 #[.val (.ref a1), .val (.int ((1 : Int32) + (1 : Int32))), .val (.int (5 : Int32)), .val (.ref r1), .val (.int ((1 : Int32) + (1 : Int32)))] []))
  rw [show ((1 : Int32) + (1 : Int32)) = (2 : Int32) from by decide]
  show Go p.tables e below _ (T23.setTop (mkF m 8 #[.val (.ref a1), .val (.int (2 : Int32)), .val (.int (5 : Int32)), .val (.ref r1), .val (.int (2 : Int32))] []))
  refine Go.st (fun U hr => XS.iload X23.here hx rfl (hb hby d27_8) rfl hr) ?_
  show Go p.tables e below _ (T23.setTop (mkF m 10 #[.val (.ref a1), .val (.int (2 : Int32)), .val (.int (5 : Int32)), .val (.ref r1), .val (.int (2 : Int32))] [(.int (2 : Int32))]))
  refine Go.st (fun U hr => XS.iloadN X23.here hx rfl (hb hby d27_10) rfl hr) ?_
  show Go p.tables e below _ (T23.setTop (mkF m 11 #[.val (.ref a1), .val (.int (2 : Int32)), .val (.int (5 : Int32)), .val (.ref r1), .val (.int (2 : Int32))] [(.int (5 : Int32)), (.int (2 : Int32))]))
  refine Go.st (fun U hr => XS.icmpNo X23.here hx rfl (hb hby d27_11) rfl (by decide) hr) ?_
  show Go p.tables e below _ (T23.setTop (mkF m 14 #[.val (.ref a1), .val (.int (2 : Int32)), .val (.int (5 : Int32)), .val (.ref r1), .val (.int (2 : Int32))] []))
  refine Go.st (fun U hr => XS.aloadN X23.here hx rfl (hb hby d27_14) rfl rfl hr) ?_
  show Go p.tables e below _ (T23.setTop (mkF m 15 #[.val (.ref a1), .val (.int (2 : Int32)), .val (.int (5 : Int32)), .val (.ref r1), .val (.int (2 : Int32))] [(.ref r1)]))
  refine Go.st (fun U hr => XS.iload X23.here hx rfl (hb hby d27_15) rfl hr) ?_
  show Go p.tables e below _ (T23.setTop (mkF m 17 #[.val (.ref a1), .val (.int (2 : Int32)), .val (.int (5 : Int32)), .val (.ref r1), .val (.int (2 : Int32))] [(.int (2 : Int32)), (.ref r1)]))
  refine Go.st (fun U hr => XS.aloadN X23.here hx rfl (hb hby d27_17) rfl rfl hr) ?_
  show Go p.tables e below _ (T23.setTop (mkF m 18 #[.val (.ref a1), .val (.int (2 : Int32)), .val (.int (5 : Int32)), .val (.ref r1), .val (.int (2 : Int32))] [(.ref a1), (.int (2 : Int32)), (.ref r1)]))
  refine Go.st (fun U hr => XS.iloadN X23.here hx rfl (hb hby d27_18) rfl hr) ?_
  show Go p.tables e below _ (T23.setTop (mkF m 19 #[.val (.ref a1), .val (.int (2 : Int32)), .val (.int (5 : Int32)), .val (.ref r1), .val (.int (2 : Int32))] [(.int (2 : Int32)), (.ref a1), (.int (2 : Int32)), (.ref r1)]))
  obtain ⟨cl33, Ar33, qa33, Sa33, Na33, Ha33, Ga33⟩ := id f29
  have hin33 : ¬ ((2 : Int32) < 0 ∨ cl33.slots.size ≤ ((2 : Int32)).toNatClampNeg) := inb_of Sa33 ⟨by decide, by decide⟩
  refine Go.st (X23.caload hx (j := (2 : Int32)) (v := (.int x2)) Ar33.1 (State.isArrayOf_alike hZ.alike Ar33.2.1) Ar33.2.2 hin33 (Ha33.at hin33 rfl) (g := (mkF m 19 #[.val (.ref a1), .val (.int (2 : Int32)), .val (.int (5 : Int32)), .val (.ref r1), .val (.int (2 : Int32))] [(.int (2 : Int32)), (.ref a1), (.int (2 : Int32)), (.ref r1)])) rfl rfl (hb hby d27_19)) ?_
  show Go p.tables e below _ (T23.setTop (mkF m 20 #[.val (.ref a1), .val (.int (2 : Int32)), .val (.int (5 : Int32)), .val (.ref r1), .val (.int (2 : Int32))] [(.int x2), (.int (2 : Int32)), (.ref r1)]))
  obtain ⟨_, _, ⟨T34, L34, k34, n34⟩, -, X34, ⟨Lc34, hQ34, l34, y34, z34⟩, st34⟩ := Jvm.LawKit.callS X23 hx (y := (⟨"java/lang/StringUTF16", "putChar", "([BII)V"⟩ : MethodName)) hown (mvT hZ (hw _ (List.mem_of_getElem? (i := 126) rfl))) (mvT hZ (hw _ (List.mem_of_getElem? (i := 127) rfl))) (mvT hZ (hw _ (List.mem_of_getElem? (i := 25) rfl))) (mvT hZ (hw _ (List.mem_of_getElem? (i := 128) rfl))) (by decide) (backOf (W := 0) (rm30 l Z a0 hw [] r1 (2 : Int32) x2 wc sf kb1 (10 : Int32) [(own_lo x0), (own_hi x0), (own_lo x1), (own_hi x1), (0 : Int32), (0 : Int32), (0 : Int32), (0 : Int32), (0 : Int32), (0 : Int32)] 2 T23.heap n0 z32 ⟨f24, hwc, f25, f26, f27, f28⟩ Vr23 rfl (Nat.le_of_ble_eq_true rfl) (by decide) (Nat.le_of_ble_eq_true rfl) gb_r1) hZ (hw _ (List.mem_of_getElem? (i := 128) rfl)) (hw _ (List.mem_of_getElem? (i := 25) rfl)) (by decide) (by decide)) (g := (mkF m 20 #[.val (.ref a1), .val (.int (2 : Int32)), .val (.int (5 : Int32)), .val (.ref r1), .val (.int (2 : Int32))] [(.int x2), (.int (2 : Int32)), (.ref r1)])) rfl (by rw [hml]; rfl) (argsL := [(.ref r1), (.int (2 : Int32)), (.int x2)]) (rest := []) (lenOf pd_12 rfl) rfl (by show 2 * 0 + _ ≤ _; exact Nat.le_of_eq rfl) (hb hby d27_20) (fun _ _ => ⟨rfl, rfl, (by decide : 1 + 0 ≤ _), (by decide : 10 + 0 ≤ _)⟩)
  dsimp only [Pt.U, Pt.locs, Pt.cells, Pt.slots] at X34 l34 y34 z34 st34 hQ34
  subst l34 y34 z34
  obtain ⟨rfl, Nq34, Kq34, Vq34⟩ := hQ34
  have N34 := Fr.app N23 Nq34
  refine Go.st st34 ?_
  show Go p.tables e below _ (T34.setTop (mkF m 23 #[.val (.ref a1), .val (.int (2 : Int32)), .val (.int (5 : Int32)), .val (.ref r1), .val (.int (2 : Int32))] []))
  have f35 := own_stk Kq34 (allS (own_nsV Vr23) all0) f24
  have f36 := own_stk Kq34 (allS (own_nsV Vr23) all0) f25
  have f37 := own_stk Kq34 (allS (own_nsV Vr23) all0) f26
  have f38 := own_stk Kq34 (allS (own_nsV Vr23) all0) f27
  have f39 := own_stk Kq34 (allS (own_nsV Vr23) all0) f28
  have f40 := (f29).keep Kq34 (ninS n10 nin0)
  have k42 := (k31).trans Kq34 (allS (Or.inr sz_r1) all0)
  have z43 := Nat.le_trans z32 Kq34.1
  have Vr34 : Arv Z T34.heap r1 kb1 .byte (10 : Int32) ([(own_lo x0), (own_hi x0), (own_lo x1), (own_hi x1), (own_lo x2), (own_hi x2), (0 : Int32), (0 : Int32), (0 : Int32), (0 : Int32)].map Value.int) (.int (0 : Int32)) := Vq34
  refine Go.st (fun U hr => XS.iinc X34.here hx rfl (hb hby d27_23) rfl (l' := #[.val (.ref a1), .val (.int ((2 : Int32) + (1 : Int32))), .val (.int (5 : Int32)), .val (.ref r1), .val (.int (2 : Int32))]) rfl hr) ?_
  show Go p.tables e below _ (T34.setTop (mkF m 26 #[.val (.ref a1), .val (.int ((2 : Int32) + (1 : Int32))), .val (.int (5 : Int32)), .val (.ref r1), .val (.int (2 : Int32))] []))
  refine Go.st (fun U hr => XS.iinc X34.here hx rfl (hb hby d27_26) rfl (l' := #[.val (.ref a1), .val (.int ((2 : Int32) + (1 : Int32))), .val (.int (5 : Int32)), .val (.ref r1), .val (.int ((2 : Int32) + (1 : Int32)))]) rfl hr) ?_
  show Go p.tables e below _ (T34.setTop (mkF m 29 #[.val (.ref a1), .val (.int ((2 : Int32) + (1 : Int32))), .val (.int (5 : Int32)), .val (.ref r1), .val (.int ((2 : Int32) + (1 : Int32)))] []))
  refine Go.st (fun U hr => XS.goto X34.here hx rfl (pc0 := 29) (pc' := 8) rfl (hb hby d27_29) (by decide) (by decide) hr) ?_
  show Go p.tables e below _ (T34.setTop (mkF m 8 #[.val (.ref a1), .val (.int ((2 : Int32) + (1 : Int32))), .val (.int (5 : Int32)), .val (.ref r1), .val (.int ((2 : Int32) + (1 : Int32)))] []))
  rw [show ((2 : Int32) + (1 : Int32)) = (3 : Int32) from by decide]
  show Go p.tables e below _ (T34.setTop (mkF m 8 #[.val (.ref a1), .val (.int (3 : Int32)), .val (.int (5 : Int32)), .val (.ref r1), .val (.int (3 : Int32))] []))
  refine Go.st (fun U hr => XS.iload X34.here hx rfl (hb hby d27_8) rfl hr) ?_
  show Go p.tables e below _ (T34.setTop (mkF m 10 #[.val (.ref a1), .val (.int (3 : Int32)), .val (.int (5 : Int32)), .val (.ref r1), .val (.int (3 : Int32))] [(.int (3 : Int32))]))
  refine Go.st (fun U hr => XS.iloadN X34.here hx rfl (hb hby d27_10) rfl hr) ?_
  show Go p.tables e below _ (T34.setTop (mkF m 11 #[.val (.ref a1), .val (.int (3 : Int32)), .val (.int (5 : Int32)), .val (.ref r1), .val (.int (3 : Int32))] [(.int (5 : Int32)), (.int (3 : Int32))]))
  refine Go.st (fun U hr => XS.icmpNo X34.here hx rfl (hb hby d27_11) rfl (by decide) hr) ?_
  show Go p.tables e below _ (T34.setTop (mkF m 14 #[.val (.ref a1), .val (.int (3 : Int32)), .val (.int (5 : Int32)), .val (.ref r1), .val (.int (3 : Int32))] []))
  refine Go.st (fun U hr => XS.aloadN X34.here hx rfl (hb hby d27_14) rfl rfl hr) ?_
  show Go p.tables e below _ (T34.setTop (mkF m 15 #[.val (.ref a1), .val (.int (3 : Int32)), .val (.int (5 : Int32)), .val (.ref r1), .val (.int (3 : Int32))] [(.ref r1)]))
  refine Go.st (fun U hr => XS.iload X34.here hx rfl (hb hby d27_15) rfl hr) ?_
  show Go p.tables e below _ (T34.setTop (mkF m 17 #[.val (.ref a1), .val (.int (3 : Int32)), .val (.int (5 : Int32)), .val (.ref r1), .val (.int (3 : Int32))] [(.int (3 : Int32)), (.ref r1)]))
  refine Go.st (fun U hr => XS.aloadN X34.here hx rfl (hb hby d27_17) rfl rfl hr) ?_
  show Go p.tables e below _ (T34.setTop (mkF m 18 #[.val (.ref a1), .val (.int (3 : Int32)), .val (.int (5 : Int32)), .val (.ref r1), .val (.int (3 : Int32))] [(.ref a1), (.int (3 : Int32)), (.ref r1)]))
  refine Go.st (fun U hr => XS.iloadN X34.here hx rfl (hb hby d27_18) rfl hr) ?_
  show Go p.tables e below _ (T34.setTop (mkF m 19 #[.val (.ref a1), .val (.int (3 : Int32)), .val (.int (5 : Int32)), .val (.ref r1), .val (.int (3 : Int32))] [(.int (3 : Int32)), (.ref a1), (.int (3 : Int32)), (.ref r1)]))
  obtain ⟨cl44, Ar44, qa44, Sa44, Na44, Ha44, Ga44⟩ := id f40
  have hin44 : ¬ ((3 : Int32) < 0 ∨ cl44.slots.size ≤ ((3 : Int32)).toNatClampNeg) := inb_of Sa44 ⟨by decide, by decide⟩
  refine Go.st (X34.caload hx (j := (3 : Int32)) (v := (.int x3)) Ar44.1 (State.isArrayOf_alike hZ.alike Ar44.2.1) Ar44.2.2 hin44 (Ha44.at hin44 rfl) (g := (mkF m 19 #[.val (.ref a1), .val (.int (3 : Int32)), .val (.int (5 : Int32)), .val (.ref r1), .val (.int (3 : Int32))] [(.int (3 : Int32)), (.ref a1), (.int (3 : Int32)), (.ref r1)])) rfl rfl (hb hby d27_19)) ?_
  show Go p.tables e below _ (T34.setTop (mkF m 20 #[.val (.ref a1), .val (.int (3 : Int32)), .val (.int (5 : Int32)), .val (.ref r1), .val (.int (3 : Int32))] [(.int x3), (.int (3 : Int32)), (.ref r1)]))
  obtain ⟨_, _, ⟨T45, L45, k45, n45⟩, -, X45, ⟨Lc45, hQ45, l45, y45, z45⟩, st45⟩ := Jvm.LawKit.callS X34 hx (y := (⟨"java/lang/StringUTF16", "putChar", "([BII)V"⟩ : MethodName)) hown (mvT hZ (hw _ (List.mem_of_getElem? (i := 126) rfl))) (mvT hZ (hw _ (List.mem_of_getElem? (i := 127) rfl))) (mvT hZ (hw _ (List.mem_of_getElem? (i := 25) rfl))) (mvT hZ (hw _ (List.mem_of_getElem? (i := 128) rfl))) (by decide) (backOf (W := 0) (rm30 l Z a0 hw [] r1 (3 : Int32) x3 wc sf kb1 (10 : Int32) [(own_lo x0), (own_hi x0), (own_lo x1), (own_hi x1), (own_lo x2), (own_hi x2), (0 : Int32), (0 : Int32), (0 : Int32), (0 : Int32)] 3 T34.heap n0 z43 ⟨f35, hwc, f36, f37, f38, f39⟩ Vr34 rfl (Nat.le_of_ble_eq_true rfl) (by decide) (Nat.le_of_ble_eq_true rfl) gb_r1) hZ (hw _ (List.mem_of_getElem? (i := 128) rfl)) (hw _ (List.mem_of_getElem? (i := 25) rfl)) (by decide) (by decide)) (g := (mkF m 20 #[.val (.ref a1), .val (.int (3 : Int32)), .val (.int (5 : Int32)), .val (.ref r1), .val (.int (3 : Int32))] [(.int x3), (.int (3 : Int32)), (.ref r1)])) rfl (by rw [hml]; rfl) (argsL := [(.ref r1), (.int (3 : Int32)), (.int x3)]) (rest := []) (lenOf pd_12 rfl) rfl (by show 2 * 0 + _ ≤ _; exact Nat.le_of_eq rfl) (hb hby d27_20) (fun _ _ => ⟨rfl, rfl, (by decide : 1 + 0 ≤ _), (by decide : 10 + 0 ≤ _)⟩)
  dsimp only [Pt.U, Pt.locs, Pt.cells, Pt.slots] at X45 l45 y45 z45 st45 hQ45
  subst l45 y45 z45
  obtain ⟨rfl, Nq45, Kq45, Vq45⟩ := hQ45
  have N45 := Fr.app N34 Nq45
  refine Go.st st45 ?_
  show Go p.tables e below _ (T45.setTop (mkF m 23 #[.val (.ref a1), .val (.int (3 : Int32)), .val (.int (5 : Int32)), .val (.ref r1), .val (.int (3 : Int32))] []))
  have f46 := own_stk Kq45 (allS (own_nsV Vr34) all0) f35
  have f47 := own_stk Kq45 (allS (own_nsV Vr34) all0) f36
  have f48 := own_stk Kq45 (allS (own_nsV Vr34) all0) f37
  have f49 := own_stk Kq45 (allS (own_nsV Vr34) all0) f38
  have f50 := own_stk Kq45 (allS (own_nsV Vr34) all0) f39
  have f51 := (f40).keep Kq45 (ninS n10 nin0)
  have k53 := (k42).trans Kq45 (allS (Or.inr sz_r1) all0)
  have z54 := Nat.le_trans z43 Kq45.1
  have Vr45 : Arv Z T45.heap r1 kb1 .byte (10 : Int32) ([(own_lo x0), (own_hi x0), (own_lo x1), (own_hi x1), (own_lo x2), (own_hi x2), (own_lo x3), (own_hi x3), (0 : Int32), (0 : Int32)].map Value.int) (.int (0 : Int32)) := Vq45
  refine Go.st (fun U hr => XS.iinc X45.here hx rfl (hb hby d27_23) rfl (l' := #[.val (.ref a1), .val (.int ((3 : Int32) + (1 : Int32))), .val (.int (5 : Int32)), .val (.ref r1), .val (.int (3 : Int32))]) rfl hr) ?_
  show Go p.tables e below _ (T45.setTop (mkF m 26 #[.val (.ref a1), .val (.int ((3 : Int32) + (1 : Int32))), .val (.int (5 : Int32)), .val (.ref r1), .val (.int (3 : Int32))] []))
  refine Go.st (fun U hr => XS.iinc X45.here hx rfl (hb hby d27_26) rfl (l' := #[.val (.ref a1), .val (.int ((3 : Int32) + (1 : Int32))), .val (.int (5 : Int32)), .val (.ref r1), .val (.int ((3 : Int32) + (1 : Int32)))]) rfl hr) ?_
  show Go p.tables e below _ (T45.setTop (mkF m 29 #[.val (.ref a1), .val (.int ((3 : Int32) + (1 : Int32))), .val (.int (5 : Int32)), .val (.ref r1), .val (.int ((3 : Int32) + (1 : Int32)))] []))
  refine Go.st (fun U hr => XS.goto X45.here hx rfl (pc0 := 29) (pc' := 8) rfl (hb hby d27_29) (by decide) (by decide) hr) ?_
  show Go p.tables e below _ (T45.setTop (mkF m 8 #[.val (.ref a1), .val (.int ((3 : Int32) + (1 : Int32))), .val (.int (5 : Int32)), .val (.ref r1), .val (.int ((3 : Int32) + (1 : Int32)))] []))
  rw [show ((3 : Int32) + (1 : Int32)) = (4 : Int32) from by decide]
  show Go p.tables e below _ (T45.setTop (mkF m 8 #[.val (.ref a1), .val (.int (4 : Int32)), .val (.int (5 : Int32)), .val (.ref r1), .val (.int (4 : Int32))] []))
  refine Go.st (fun U hr => XS.iload X45.here hx rfl (hb hby d27_8) rfl hr) ?_
  show Go p.tables e below _ (T45.setTop (mkF m 10 #[.val (.ref a1), .val (.int (4 : Int32)), .val (.int (5 : Int32)), .val (.ref r1), .val (.int (4 : Int32))] [(.int (4 : Int32))]))
  refine Go.st (fun U hr => XS.iloadN X45.here hx rfl (hb hby d27_10) rfl hr) ?_
  show Go p.tables e below _ (T45.setTop (mkF m 11 #[.val (.ref a1), .val (.int (4 : Int32)), .val (.int (5 : Int32)), .val (.ref r1), .val (.int (4 : Int32))] [(.int (5 : Int32)), (.int (4 : Int32))]))
  refine Go.st (fun U hr => XS.icmpNo X45.here hx rfl (hb hby d27_11) rfl (by decide) hr) ?_
  show Go p.tables e below _ (T45.setTop (mkF m 14 #[.val (.ref a1), .val (.int (4 : Int32)), .val (.int (5 : Int32)), .val (.ref r1), .val (.int (4 : Int32))] []))
  refine Go.st (fun U hr => XS.aloadN X45.here hx rfl (hb hby d27_14) rfl rfl hr) ?_
  show Go p.tables e below _ (T45.setTop (mkF m 15 #[.val (.ref a1), .val (.int (4 : Int32)), .val (.int (5 : Int32)), .val (.ref r1), .val (.int (4 : Int32))] [(.ref r1)]))
  refine Go.st (fun U hr => XS.iload X45.here hx rfl (hb hby d27_15) rfl hr) ?_
  show Go p.tables e below _ (T45.setTop (mkF m 17 #[.val (.ref a1), .val (.int (4 : Int32)), .val (.int (5 : Int32)), .val (.ref r1), .val (.int (4 : Int32))] [(.int (4 : Int32)), (.ref r1)]))
  refine Go.st (fun U hr => XS.aloadN X45.here hx rfl (hb hby d27_17) rfl rfl hr) ?_
  show Go p.tables e below _ (T45.setTop (mkF m 18 #[.val (.ref a1), .val (.int (4 : Int32)), .val (.int (5 : Int32)), .val (.ref r1), .val (.int (4 : Int32))] [(.ref a1), (.int (4 : Int32)), (.ref r1)]))
  refine Go.st (fun U hr => XS.iloadN X45.here hx rfl (hb hby d27_18) rfl hr) ?_
  show Go p.tables e below _ (T45.setTop (mkF m 19 #[.val (.ref a1), .val (.int (4 : Int32)), .val (.int (5 : Int32)), .val (.ref r1), .val (.int (4 : Int32))] [(.int (4 : Int32)), (.ref a1), (.int (4 : Int32)), (.ref r1)]))
  obtain ⟨cl55, Ar55, qa55, Sa55, Na55, Ha55, Ga55⟩ := id f51
  have hin55 : ¬ ((4 : Int32) < 0 ∨ cl55.slots.size ≤ ((4 : Int32)).toNatClampNeg) := inb_of Sa55 ⟨by decide, by decide⟩
  refine Go.st (X45.caload hx (j := (4 : Int32)) (v := (.int x4)) Ar55.1 (State.isArrayOf_alike hZ.alike Ar55.2.1) Ar55.2.2 hin55 (Ha55.at hin55 rfl) (g := (mkF m 19 #[.val (.ref a1), .val (.int (4 : Int32)), .val (.int (5 : Int32)), .val (.ref r1), .val (.int (4 : Int32))] [(.int (4 : Int32)), (.ref a1), (.int (4 : Int32)), (.ref r1)])) rfl rfl (hb hby d27_19)) ?_
  show Go p.tables e below _ (T45.setTop (mkF m 20 #[.val (.ref a1), .val (.int (4 : Int32)), .val (.int (5 : Int32)), .val (.ref r1), .val (.int (4 : Int32))] [(.int x4), (.int (4 : Int32)), (.ref r1)]))
  obtain ⟨_, _, ⟨T56, L56, k56, n56⟩, -, X56, ⟨Lc56, hQ56, l56, y56, z56⟩, st56⟩ := Jvm.LawKit.callS X45 hx (y := (⟨"java/lang/StringUTF16", "putChar", "([BII)V"⟩ : MethodName)) hown (mvT hZ (hw _ (List.mem_of_getElem? (i := 126) rfl))) (mvT hZ (hw _ (List.mem_of_getElem? (i := 127) rfl))) (mvT hZ (hw _ (List.mem_of_getElem? (i := 25) rfl))) (mvT hZ (hw _ (List.mem_of_getElem? (i := 128) rfl))) (by decide) (backOf (W := 0) (rm30 l Z a0 hw [] r1 (4 : Int32) x4 wc sf kb1 (10 : Int32) [(own_lo x0), (own_hi x0), (own_lo x1), (own_hi x1), (own_lo x2), (own_hi x2), (own_lo x3), (own_hi x3), (0 : Int32), (0 : Int32)] 4 T45.heap n0 z54 ⟨f46, hwc, f47, f48, f49, f50⟩ Vr45 rfl (Nat.le_of_ble_eq_true rfl) (by decide) (Nat.le_of_ble_eq_true rfl) gb_r1) hZ (hw _ (List.mem_of_getElem? (i := 128) rfl)) (hw _ (List.mem_of_getElem? (i := 25) rfl)) (by decide) (by decide)) (g := (mkF m 20 #[.val (.ref a1), .val (.int (4 : Int32)), .val (.int (5 : Int32)), .val (.ref r1), .val (.int (4 : Int32))] [(.int x4), (.int (4 : Int32)), (.ref r1)])) rfl (by rw [hml]; rfl) (argsL := [(.ref r1), (.int (4 : Int32)), (.int x4)]) (rest := []) (lenOf pd_12 rfl) rfl (by show 2 * 0 + _ ≤ _; exact Nat.le_of_eq rfl) (hb hby d27_20) (fun _ _ => ⟨rfl, rfl, (by decide : 1 + 0 ≤ _), (by decide : 10 + 0 ≤ _)⟩)
  dsimp only [Pt.U, Pt.locs, Pt.cells, Pt.slots] at X56 l56 y56 z56 st56 hQ56
  subst l56 y56 z56
  obtain ⟨rfl, Nq56, Kq56, Vq56⟩ := hQ56
  have N56 := Fr.app N45 Nq56
  refine Go.st st56 ?_
  show Go p.tables e below _ (T56.setTop (mkF m 23 #[.val (.ref a1), .val (.int (4 : Int32)), .val (.int (5 : Int32)), .val (.ref r1), .val (.int (4 : Int32))] []))
  have f57 := own_stk Kq56 (allS (own_nsV Vr45) all0) f46
  have f58 := own_stk Kq56 (allS (own_nsV Vr45) all0) f47
  have f59 := own_stk Kq56 (allS (own_nsV Vr45) all0) f48
  have f60 := own_stk Kq56 (allS (own_nsV Vr45) all0) f49
  have f61 := own_stk Kq56 (allS (own_nsV Vr45) all0) f50
  have f62 := (f51).keep Kq56 (ninS n10 nin0)
  have k64 := (k53).trans Kq56 (allS (Or.inr sz_r1) all0)
  have z65 := Nat.le_trans z54 Kq56.1
  have Vr56 : Arv Z T56.heap r1 kb1 .byte (10 : Int32) ([(own_lo x0), (own_hi x0), (own_lo x1), (own_hi x1), (own_lo x2), (own_hi x2), (own_lo x3), (own_hi x3), (own_lo x4), (own_hi x4)].map Value.int) (.int (0 : Int32)) := Vq56
  refine Go.st (fun U hr => XS.iinc X56.here hx rfl (hb hby d27_23) rfl (l' := #[.val (.ref a1), .val (.int ((4 : Int32) + (1 : Int32))), .val (.int (5 : Int32)), .val (.ref r1), .val (.int (4 : Int32))]) rfl hr) ?_
  show Go p.tables e below _ (T56.setTop (mkF m 26 #[.val (.ref a1), .val (.int ((4 : Int32) + (1 : Int32))), .val (.int (5 : Int32)), .val (.ref r1), .val (.int (4 : Int32))] []))
  refine Go.st (fun U hr => XS.iinc X56.here hx rfl (hb hby d27_26) rfl (l' := #[.val (.ref a1), .val (.int ((4 : Int32) + (1 : Int32))), .val (.int (5 : Int32)), .val (.ref r1), .val (.int ((4 : Int32) + (1 : Int32)))]) rfl hr) ?_
  show Go p.tables e below _ (T56.setTop (mkF m 29 #[.val (.ref a1), .val (.int ((4 : Int32) + (1 : Int32))), .val (.int (5 : Int32)), .val (.ref r1), .val (.int ((4 : Int32) + (1 : Int32)))] []))
  refine Go.st (fun U hr => XS.goto X56.here hx rfl (pc0 := 29) (pc' := 8) rfl (hb hby d27_29) (by decide) (by decide) hr) ?_
  show Go p.tables e below _ (T56.setTop (mkF m 8 #[.val (.ref a1), .val (.int ((4 : Int32) + (1 : Int32))), .val (.int (5 : Int32)), .val (.ref r1), .val (.int ((4 : Int32) + (1 : Int32)))] []))
  rw [show ((4 : Int32) + (1 : Int32)) = (5 : Int32) from by decide]
  show Go p.tables e below _ (T56.setTop (mkF m 8 #[.val (.ref a1), .val (.int (5 : Int32)), .val (.int (5 : Int32)), .val (.ref r1), .val (.int (5 : Int32))] []))
  refine Go.st (fun U hr => XS.iload X56.here hx rfl (hb hby d27_8) rfl hr) ?_
  show Go p.tables e below _ (T56.setTop (mkF m 10 #[.val (.ref a1), .val (.int (5 : Int32)), .val (.int (5 : Int32)), .val (.ref r1), .val (.int (5 : Int32))] [(.int (5 : Int32))]))
  refine Go.st (fun U hr => XS.iloadN X56.here hx rfl (hb hby d27_10) rfl hr) ?_
  show Go p.tables e below _ (T56.setTop (mkF m 11 #[.val (.ref a1), .val (.int (5 : Int32)), .val (.int (5 : Int32)), .val (.ref r1), .val (.int (5 : Int32))] [(.int (5 : Int32)), (.int (5 : Int32))]))
  refine Go.st (fun U hr => XS.icmpYes X56.here hx rfl (pc0 := 11) (pc' := 32) rfl (hb hby d27_11) rfl (by decide) (by decide) (by decide) hr) ?_
  show Go p.tables e below _ (T56.setTop (mkF m 32 #[.val (.ref a1), .val (.int (5 : Int32)), .val (.int (5 : Int32)), .val (.ref r1), .val (.int (5 : Int32))] []))
  refine Go.st (fun U hr => XS.aloadN X56.here hx rfl (hb hby d27_32) rfl rfl hr) ?_
  show Go p.tables e below _ (T56.setTop (mkF m 33 #[.val (.ref a1), .val (.int (5 : Int32)), .val (.int (5 : Int32)), .val (.ref r1), .val (.int (5 : Int32))] [(.ref r1)]))
  exact own_retO X56 hx Bd.notSynchronized (t := (.array .byte)) Bd.returns rfl (Or.inr (Or.inr (Or.inr (Or.inr ⟨rfl, rfl, rfl⟩)))) (hb hby d27_33) ⟨_, rfl, N56, sz_r1, k64, _, Vr56⟩ (by decide) (by decide)
theorem d7_0 : decode jdk_52_method_21_code 0 = .ok (.iconst 0, 1) := by decide +kernel
theorem d7_1 : decode jdk_52_method_21_code 1 = .ok (.istore 5, 2) := by decide +kernel
theorem d7_3 : decode jdk_52_method_21_code 3 = .ok (.iload 5, 2) := by decide +kernel
theorem d7_5 : decode jdk_52_method_21_code 5 = .ok (.iload 4, 2) := by decide +kernel
theorem d7_7 : decode jdk_52_method_21_code 7 = .ok (.if_icmp .ge 37, 3) := by decide +kernel
theorem d7_10 : decode jdk_52_method_21_code 10 = .ok (.aload_n 0, 1) := by decide +kernel
theorem d7_11 : decode jdk_52_method_21_code 11 = .ok (.iload_n 1, 1) := by decide +kernel
theorem d7_12 : decode jdk_52_method_21_code 12 = .ok (.caload, 1) := by decide +kernel
theorem d7_13 : decode jdk_52_method_21_code 13 = .ok (.istore 6, 2) := by decide +kernel
theorem d7_15 : decode jdk_52_method_21_code 15 = .ok (.iload 6, 2) := by decide +kernel
theorem d7_17 : decode jdk_52_method_21_code 17 = .ok (.sipush 255, 3) := by decide +kernel
theorem d7_20 : decode jdk_52_method_21_code 20 = .ok (.if_icmp .le 6, 3) := by decide +kernel
theorem d7_23 : decode jdk_52_method_21_code 23 = .ok (.iload 5, 2) := by decide +kernel
theorem d7_25 : decode jdk_52_method_21_code 25 = .ok (.ireturn, 1) := by decide +kernel
theorem d7_26 : decode jdk_52_method_21_code 26 = .ok (.aload_n 2, 1) := by decide +kernel
theorem d7_27 : decode jdk_52_method_21_code 27 = .ok (.iload_n 3, 1) := by decide +kernel
theorem d7_28 : decode jdk_52_method_21_code 28 = .ok (.iload 6, 2) := by decide +kernel
theorem d7_30 : decode jdk_52_method_21_code 30 = .ok (.i2b, 1) := by decide +kernel
theorem d7_31 : decode jdk_52_method_21_code 31 = .ok (.bastore, 1) := by decide +kernel
theorem d7_32 : decode jdk_52_method_21_code 32 = .ok (.iinc 1 1, 3) := by decide +kernel
theorem d7_35 : decode jdk_52_method_21_code 35 = .ok (.iinc 3 1, 3) := by decide +kernel
theorem d7_38 : decode jdk_52_method_21_code 38 = .ok (.iinc 5 1, 3) := by decide +kernel
theorem d7_41 : decode jdk_52_method_21_code 41 = .ok (.goto (-38), 3) := by decide +kernel
theorem d7_44 : decode jdk_52_method_21_code 44 = .ok (.iload 4, 2) := by decide +kernel
theorem d7_46 : decode jdk_52_method_21_code 46 = .ok (.ireturn, 1) := by decide +kernel
theorem pn_7 : plainFor (⟨"java/lang/StringUTF16", "compress", "([CI[BII)I"⟩ : MethodName) = true := plainFor_of_name (by first | (simp [plainName, overriddenIn]; done) | decide +kernel)
theorem ef_7 (m : MethodId) (x0 : Addr) (x1 : Int32) (x2 : Addr) (x3 : Int32) (x4 : Int32) : entryFrame m #[(.ref x0), (.int x1), (.ref x2), (.int x3), (.int x4)] 7 = mkF m 0 #[.val (.ref x0), .val (.int x1), .val (.ref x2), .val (.int x3), .val (.int x4), .unset, .unset] [] := by first | (simp [entryFrame, mkF, argsToLocals, Value.category]; done) | rfl
def Q7 (Z : State) (a1 : Addr) (a3 : Addr) (kc : ClassId) (kb : ClassId) (x0 : Int32) (x1 : Int32) (x2 : Int32) (x3 : Int32) (x4 : Int32) (h0 : Heap) (n0 : Nat) (v : Option Value) (h : Heap) (L : List Loc) : Prop := ∃ r : Int32, v = some (.int r) ∧ Fr n0 L ∧ Keep h0 h [a3] ∧ ((r = 5 ∧ own_lat5 x0 x1 x2 x3 x4 ∧ Arv Z h a3 kb .byte (5 : Int32) ([(own_b x0), (own_b x1), (own_b x2), (own_b x3), (own_b x4)].map Value.int) (.int (0 : Int32))) ∨ (¬ r = 5 ∧ ∃ i : Nat, r.toInt = i ∧ i < 5 ∧ 255 < own_c [x0, x1, x2, x3, x4] i))
set_option maxRecDepth 65536 in
set_option maxHeartbeats 40000000 in
theorem rm7 (l : Launch) (Z : State) (a0 : Array Value) (hw : ∀ d ∈ tables_1, d.before a0 Z = true) (ws : List Jvm.Cond) (a1 : Addr) (a3 : Addr) (kc : ClassId) (kb : ClassId) (x0 : Int32) (x1 : Int32) (x2 : Int32) (x3 : Int32) (x4 : Int32) (h0 : Heap) (n0 : Nat) (Z0 : n0 ≤ h0.size) (V1 : Arv Z h0 a1 kc .char (5 : Int32) [(.int x0), (.int x1), (.int x2), (.int x3), (.int x4)] (.int (0 : Int32))) (V3 : Arv Z h0 a3 kb .byte (5 : Int32) [(.int (0 : Int32)), (.int (0 : Int32)), (.int (0 : Int32)), (.int (0 : Int32)), (.int (0 : Int32))] (.int (0 : Int32))) (ne : a1 ≠ a3) (g3 : n0 ≤ a3) :
    MetFree l (⟨"java/lang/StringUTF16", "compress", "([CI[BII)I"⟩ : MethodName) (head1 (Jvm.Cond.code (⟨"java/lang/StringUTF16", "compress", "([CI[BII)I"⟩ : MethodName) jdk_52_method_21_code 7 (some .int) :: ws) ({ frames := 0, cells := 0, slots := 0, locals := 0 } : Room)) (fun a U => a = #[(.ref a1), (.int (0 : Int32)), (.ref a3), (.int (0 : Int32)), (.int (5 : Int32))] ∧ Z.Warmed39 U.vm ∧ U.heap = h0) (fun _ _ _ _ _ => True) (fun _ U o U' => ∃ v L, o = .returned v ∧ Q7 Z a1 a3 kc kb x0 x1 x2 x3 x4 h0 n0 v U'.heap L ∧ FrameEnd U o U' L ({ frames := 0, cells := 0, slots := 0, locals := 0 } : Room).cells ({ frames := 0, cells := 0, slots := 0, locals := 0 } : Room).slots) := by
  refine MetFree.of_bodySF pn_7 hisR ?_
  intro p e s m args below meth c s₁ Bd hml0 hP hK
  obtain ⟨rfl, hZ, hh⟩ := hP
  have hx := Bd.exec
  have hby := Bd.bytes
  have hml : c.maxLocals = 7 := hml0
  have hown : s.vm.findClass "java/lang/StringUTF16" = some m.cls := findClass_of_methodNamed Bd.named
  have hnm := (name_of_methodNamed Bd.named Bd.method).1
  have X0 : Stand p l e ({ frames := 0, cells := 0, slots := 0, locals := 0 } : Room) s m #[(.ref a1), (.int (0 : Int32)), (.ref a3), (.int (0 : Int32)), (.int (5 : Int32))] below meth c s₁ [] 0 0 := Stand.of_body Bd
  have e0 : s₁.heap = h0 := by rw [← hh, Bd.state]; rfl
  have N0 := Fr.nil n0
  refine own_start (Q := Q7 Z a1 a3 kc kb x0 x1 x2 x3 x4 h0 n0) (own_cast (ef_7 m a1 (0 : Int32) a3 (0 : Int32) (5 : Int32)) ?_)
  show Go p.tables e below _ (s₁.setTop (mkF m 0 #[.val (.ref a1), .val (.int (0 : Int32)), .val (.ref a3), .val (.int (0 : Int32)), .val (.int (5 : Int32)), .unset, .unset] []))
  refine Go.st (fun U hr => XS.iconst X0.here hx rfl (hb hby d7_0) hr) ?_
  show Go p.tables e below _ (s₁.setTop (mkF m 1 #[.val (.ref a1), .val (.int (0 : Int32)), .val (.ref a3), .val (.int (0 : Int32)), .val (.int (5 : Int32)), .unset, .unset] [(.int (0 : Int32))]))
  refine Go.st (fun U hr => XS.istore X0.here hx rfl (hb hby d7_1) rfl (l' := #[.val (.ref a1), .val (.int (0 : Int32)), .val (.ref a3), .val (.int (0 : Int32)), .val (.int (5 : Int32)), .val (.int (0 : Int32)), .unset]) rfl hr) ?_
  show Go p.tables e below _ (s₁.setTop (mkF m 3 #[.val (.ref a1), .val (.int (0 : Int32)), .val (.ref a3), .val (.int (0 : Int32)), .val (.int (5 : Int32)), .val (.int (0 : Int32)), .unset] []))
  show Go p.tables e below _ (s₁.setTop (mkF m 3 #[.val (.ref a1), .val (.int (0 : Int32)), .val (.ref a3), .val (.int (0 : Int32)), .val (.int (5 : Int32)), .val (.int (0 : Int32)), .unset] []))
  refine Go.st (fun U hr => XS.iload X0.here hx rfl (hb hby d7_3) rfl hr) ?_
  show Go p.tables e below _ (s₁.setTop (mkF m 5 #[.val (.ref a1), .val (.int (0 : Int32)), .val (.ref a3), .val (.int (0 : Int32)), .val (.int (5 : Int32)), .val (.int (0 : Int32)), .unset] [(.int (0 : Int32))]))
  refine Go.st (fun U hr => XS.iload X0.here hx rfl (hb hby d7_5) rfl hr) ?_
  show Go p.tables e below _ (s₁.setTop (mkF m 7 #[.val (.ref a1), .val (.int (0 : Int32)), .val (.ref a3), .val (.int (0 : Int32)), .val (.int (5 : Int32)), .val (.int (0 : Int32)), .unset] [(.int (5 : Int32)), (.int (0 : Int32))]))
  refine Go.st (fun U hr => XS.icmpNo X0.here hx rfl (hb hby d7_7) rfl (by decide) hr) ?_
  show Go p.tables e below _ (s₁.setTop (mkF m 10 #[.val (.ref a1), .val (.int (0 : Int32)), .val (.ref a3), .val (.int (0 : Int32)), .val (.int (5 : Int32)), .val (.int (0 : Int32)), .unset] []))
  refine Go.st (fun U hr => XS.aloadN X0.here hx rfl (hb hby d7_10) rfl rfl hr) ?_
  show Go p.tables e below _ (s₁.setTop (mkF m 11 #[.val (.ref a1), .val (.int (0 : Int32)), .val (.ref a3), .val (.int (0 : Int32)), .val (.int (5 : Int32)), .val (.int (0 : Int32)), .unset] [(.ref a1)]))
  refine Go.st (fun U hr => XS.iloadN X0.here hx rfl (hb hby d7_11) rfl hr) ?_
  show Go p.tables e below _ (s₁.setTop (mkF m 12 #[.val (.ref a1), .val (.int (0 : Int32)), .val (.ref a3), .val (.int (0 : Int32)), .val (.int (5 : Int32)), .val (.int (0 : Int32)), .unset] [(.int (0 : Int32)), (.ref a1)]))
  obtain ⟨cl1, Ar1, qa1, Sa1, Na1, Ha1, Ga1⟩ := id V1
  have hin1 : ¬ ((0 : Int32) < 0 ∨ cl1.slots.size ≤ ((0 : Int32)).toNatClampNeg) := inb_of Sa1 ⟨by decide, by decide⟩
  refine Go.st (X0.caload hx (j := (0 : Int32)) (v := (.int x0)) (by rw [e0]; exact Ar1.1) (State.isArrayOf_alike hZ.alike Ar1.2.1) Ar1.2.2 hin1 (Ha1.at hin1 rfl) (g := (mkF m 12 #[.val (.ref a1), .val (.int (0 : Int32)), .val (.ref a3), .val (.int (0 : Int32)), .val (.int (5 : Int32)), .val (.int (0 : Int32)), .unset] [(.int (0 : Int32)), (.ref a1)])) rfl rfl (hb hby d7_12)) ?_
  show Go p.tables e below _ (s₁.setTop (mkF m 13 #[.val (.ref a1), .val (.int (0 : Int32)), .val (.ref a3), .val (.int (0 : Int32)), .val (.int (5 : Int32)), .val (.int (0 : Int32)), .unset] [(.int x0)]))
  refine Go.st (fun U hr => XS.istore X0.here hx rfl (hb hby d7_13) rfl (l' := #[.val (.ref a1), .val (.int (0 : Int32)), .val (.ref a3), .val (.int (0 : Int32)), .val (.int (5 : Int32)), .val (.int (0 : Int32)), .val (.int x0)]) rfl hr) ?_
  show Go p.tables e below _ (s₁.setTop (mkF m 15 #[.val (.ref a1), .val (.int (0 : Int32)), .val (.ref a3), .val (.int (0 : Int32)), .val (.int (5 : Int32)), .val (.int (0 : Int32)), .val (.int x0)] []))
  refine Go.st (fun U hr => XS.iload X0.here hx rfl (hb hby d7_15) rfl hr) ?_
  show Go p.tables e below _ (s₁.setTop (mkF m 17 #[.val (.ref a1), .val (.int (0 : Int32)), .val (.ref a3), .val (.int (0 : Int32)), .val (.int (5 : Int32)), .val (.int (0 : Int32)), .val (.int x0)] [(.int x0)]))
  refine Go.st (fun U hr => XS.sipush X0.here hx rfl (hb hby d7_17) hr) ?_
  show Go p.tables e below _ (s₁.setTop (mkF m 20 #[.val (.ref a1), .val (.int (0 : Int32)), .val (.ref a3), .val (.int (0 : Int32)), .val (.int (5 : Int32)), .val (.int (0 : Int32)), .val (.int x0)] [(.int (255 : Int32)), (.int x0)]))
  by_cases hc20_2 : (255 : Int32) < x0
  · refine Go.st (fun U hr => XS.icmpNo X0.here hx rfl (hb hby d7_20) rfl (tlt hc20_2).2.2.2 hr) ?_
    show Go p.tables e below _ (s₁.setTop (mkF m 23 #[.val (.ref a1), .val (.int (0 : Int32)), .val (.ref a3), .val (.int (0 : Int32)), .val (.int (5 : Int32)), .val (.int (0 : Int32)), .val (.int x0)] []))
    refine Go.st (fun U hr => XS.iload X0.here hx rfl (hb hby d7_23) rfl hr) ?_
    show Go p.tables e below _ (s₁.setTop (mkF m 25 #[.val (.ref a1), .val (.int (0 : Int32)), .val (.ref a3), .val (.int (0 : Int32)), .val (.int (5 : Int32)), .val (.int (0 : Int32)), .val (.int x0)] [(.int (0 : Int32))]))
    exact own_retO X0 hx Bd.notSynchronized (t := .int) Bd.returns rfl (Or.inl ⟨rfl, Or.inl rfl, _, rfl⟩) (hb hby d7_25) (by rw [e0]; exact ⟨_, rfl, N0, (Keep.refl h0 [a3]), Or.inr ⟨by decide, 0, by decide, by decide, hc20_2⟩⟩) (by decide) (by decide)
  · refine Go.st (fun U hr => XS.icmpYes X0.here hx rfl (pc0 := 20) (pc' := 26) rfl (hb hby d7_20) rfl (flt hc20_2).2.2.2 (by decide) (by decide) hr) ?_
    show Go p.tables e below _ (s₁.setTop (mkF m 26 #[.val (.ref a1), .val (.int (0 : Int32)), .val (.ref a3), .val (.int (0 : Int32)), .val (.int (5 : Int32)), .val (.int (0 : Int32)), .val (.int x0)] []))
    refine Go.st (fun U hr => XS.aloadN X0.here hx rfl (hb hby d7_26) rfl rfl hr) ?_
    show Go p.tables e below _ (s₁.setTop (mkF m 27 #[.val (.ref a1), .val (.int (0 : Int32)), .val (.ref a3), .val (.int (0 : Int32)), .val (.int (5 : Int32)), .val (.int (0 : Int32)), .val (.int x0)] [(.ref a3)]))
    refine Go.st (fun U hr => XS.iloadN X0.here hx rfl (hb hby d7_27) rfl hr) ?_
    show Go p.tables e below _ (s₁.setTop (mkF m 28 #[.val (.ref a1), .val (.int (0 : Int32)), .val (.ref a3), .val (.int (0 : Int32)), .val (.int (5 : Int32)), .val (.int (0 : Int32)), .val (.int x0)] [(.int (0 : Int32)), (.ref a3)]))
    refine Go.st (fun U hr => XS.iload X0.here hx rfl (hb hby d7_28) rfl hr) ?_
    show Go p.tables e below _ (s₁.setTop (mkF m 30 #[.val (.ref a1), .val (.int (0 : Int32)), .val (.ref a3), .val (.int (0 : Int32)), .val (.int (5 : Int32)), .val (.int (0 : Int32)), .val (.int x0)] [(.int x0), (.int (0 : Int32)), (.ref a3)]))
    refine Go.st (fun U hr => XS.i2b X0.here hx rfl (hb hby d7_30) rfl hr) ?_
    show Go p.tables e below _ (s₁.setTop (mkF m 31 #[.val (.ref a1), .val (.int (0 : Int32)), .val (.ref a3), .val (.int (0 : Int32)), .val (.int (5 : Int32)), .val (.int (0 : Int32)), .val (.int x0)] [(.int (x0.toInt8.toInt32)), (.int (0 : Int32)), (.ref a3)]))
    obtain ⟨cl3, Ar3, qa3, Sa3, Na3, Ha3, Ga3⟩ := id V3
    have hin3 : ¬ ((0 : Int32) < 0 ∨ cl3.slots.size ≤ ((0 : Int32)).toNatClampNeg) := inb_of Sa3 ⟨by decide, by decide⟩
    obtain ⟨T4, h4, X4, e4, W4, st4⟩ := stB X0 hx hZ e0 Ar3 (j := (0 : Int32)) hin3 (g := (mkF m 31 #[.val (.ref a1), .val (.int (0 : Int32)), .val (.ref a3), .val (.int (0 : Int32)), .val (.int (5 : Int32)), .val (.int (0 : Int32)), .val (.int x0)] [(.int (x0.toInt8.toInt32)), (.int (0 : Int32)), (.ref a3)])) rfl rfl (hb hby d7_31)
    refine Go.st st4 ?_
    have V4 := Arv.set Ar3 qa3 Sa3 Na3 Ha3 Ga3 (fits_nar_byte _) W4 0 rfl (Nat.le_of_ble_eq_true rfl)
    have k5 := ((Keep.refl h0 [a3])).wr W4 (Or.inl (List.mem_of_getElem? (i := 0) rfl))
    have f6 := (V1).other W4 ne
    have z8 := Nat.le_trans Z0 (Keep.of_wr W4).1
    have N4 := Fr.snoc X4 N0 g3
    show Go p.tables e below _ (T4.setTop (mkF m 32 #[.val (.ref a1), .val (.int (0 : Int32)), .val (.ref a3), .val (.int (0 : Int32)), .val (.int (5 : Int32)), .val (.int (0 : Int32)), .val (.int x0)] []))
    refine Go.st (fun U hr => XS.iinc X4.here hx rfl (hb hby d7_32) rfl (l' := #[.val (.ref a1), .val (.int ((0 : Int32) + (1 : Int32))), .val (.ref a3), .val (.int (0 : Int32)), .val (.int (5 : Int32)), .val (.int (0 : Int32)), .val (.int x0)]) rfl hr) ?_
    show Go p.tables e below _ (T4.setTop (mkF m 35 #[.val (.ref a1), .val (.int ((0 : Int32) + (1 : Int32))), .val (.ref a3), .val (.int (0 : Int32)), .val (.int (5 : Int32)), .val (.int (0 : Int32)), .val (.int x0)] []))
    refine Go.st (fun U hr => XS.iinc X4.here hx rfl (hb hby d7_35) rfl (l' := #[.val (.ref a1), .val (.int ((0 : Int32) + (1 : Int32))), .val (.ref a3), .val (.int ((0 : Int32) + (1 : Int32))), .val (.int (5 : Int32)), .val (.int (0 : Int32)), .val (.int x0)]) rfl hr) ?_
    show Go p.tables e below _ (T4.setTop (mkF m 38 #[.val (.ref a1), .val (.int ((0 : Int32) + (1 : Int32))), .val (.ref a3), .val (.int ((0 : Int32) + (1 : Int32))), .val (.int (5 : Int32)), .val (.int (0 : Int32)), .val (.int x0)] []))
    refine Go.st (fun U hr => XS.iinc X4.here hx rfl (hb hby d7_38) rfl (l' := #[.val (.ref a1), .val (.int ((0 : Int32) + (1 : Int32))), .val (.ref a3), .val (.int ((0 : Int32) + (1 : Int32))), .val (.int (5 : Int32)), .val (.int ((0 : Int32) + (1 : Int32))), .val (.int x0)]) rfl hr) ?_
    show Go p.tables e below _ (T4.setTop (mkF m 41 #[.val (.ref a1), .val (.int ((0 : Int32) + (1 : Int32))), .val (.ref a3), .val (.int ((0 : Int32) + (1 : Int32))), .val (.int (5 : Int32)), .val (.int ((0 : Int32) + (1 : Int32))), .val (.int x0)] []))
    refine Go.st (fun U hr => XS.goto X4.here hx rfl (pc0 := 41) (pc' := 3) rfl (hb hby d7_41) (by decide) (by decide) hr) ?_
    show Go p.tables e below _ (T4.setTop (mkF m 3 #[.val (.ref a1), .val (.int ((0 : Int32) + (1 : Int32))), .val (.ref a3), .val (.int ((0 : Int32) + (1 : Int32))), .val (.int (5 : Int32)), .val (.int ((0 : Int32) + (1 : Int32))), .val (.int x0)] []))
    rw [show ((0 : Int32) + (1 : Int32)) = (1 : Int32) from by decide]
    show Go p.tables e below _ (T4.setTop (mkF m 3 #[.val (.ref a1), .val (.int (1 : Int32)), .val (.ref a3), .val (.int (1 : Int32)), .val (.int (5 : Int32)), .val (.int (1 : Int32)), .val (.int x0)] []))
    refine Go.st (fun U hr => XS.iload X4.here hx rfl (hb hby d7_3) rfl hr) ?_
    show Go p.tables e below _ (T4.setTop (mkF m 5 #[.val (.ref a1), .val (.int (1 : Int32)), .val (.ref a3), .val (.int (1 : Int32)), .val (.int (5 : Int32)), .val (.int (1 : Int32)), .val (.int x0)] [(.int (1 : Int32))]))
    refine Go.st (fun U hr => XS.iload X4.here hx rfl (hb hby d7_5) rfl hr) ?_
    show Go p.tables e below _ (T4.setTop (mkF m 7 #[.val (.ref a1), .val (.int (1 : Int32)), .val (.ref a3), .val (.int (1 : Int32)), .val (.int (5 : Int32)), .val (.int (1 : Int32)), .val (.int x0)] [(.int (5 : Int32)), (.int (1 : Int32))]))
    refine Go.st (fun U hr => XS.icmpNo X4.here hx rfl (hb hby d7_7) rfl (by decide) hr) ?_
    show Go p.tables e below _ (T4.setTop (mkF m 10 #[.val (.ref a1), .val (.int (1 : Int32)), .val (.ref a3), .val (.int (1 : Int32)), .val (.int (5 : Int32)), .val (.int (1 : Int32)), .val (.int x0)] []))
    refine Go.st (fun U hr => XS.aloadN X4.here hx rfl (hb hby d7_10) rfl rfl hr) ?_
    show Go p.tables e below _ (T4.setTop (mkF m 11 #[.val (.ref a1), .val (.int (1 : Int32)), .val (.ref a3), .val (.int (1 : Int32)), .val (.int (5 : Int32)), .val (.int (1 : Int32)), .val (.int x0)] [(.ref a1)]))
    refine Go.st (fun U hr => XS.iloadN X4.here hx rfl (hb hby d7_11) rfl hr) ?_
    show Go p.tables e below _ (T4.setTop (mkF m 12 #[.val (.ref a1), .val (.int (1 : Int32)), .val (.ref a3), .val (.int (1 : Int32)), .val (.int (5 : Int32)), .val (.int (1 : Int32)), .val (.int x0)] [(.int (1 : Int32)), (.ref a1)]))
    obtain ⟨cl9, Ar9, qa9, Sa9, Na9, Ha9, Ga9⟩ := id f6
    have hin9 : ¬ ((1 : Int32) < 0 ∨ cl9.slots.size ≤ ((1 : Int32)).toNatClampNeg) := inb_of Sa9 ⟨by decide, by decide⟩
    refine Go.st (X4.caload hx (j := (1 : Int32)) (v := (.int x1)) (by rw [e4]; exact Ar9.1) (State.isArrayOf_alike hZ.alike Ar9.2.1) Ar9.2.2 hin9 (Ha9.at hin9 rfl) (g := (mkF m 12 #[.val (.ref a1), .val (.int (1 : Int32)), .val (.ref a3), .val (.int (1 : Int32)), .val (.int (5 : Int32)), .val (.int (1 : Int32)), .val (.int x0)] [(.int (1 : Int32)), (.ref a1)])) rfl rfl (hb hby d7_12)) ?_
    show Go p.tables e below _ (T4.setTop (mkF m 13 #[.val (.ref a1), .val (.int (1 : Int32)), .val (.ref a3), .val (.int (1 : Int32)), .val (.int (5 : Int32)), .val (.int (1 : Int32)), .val (.int x0)] [(.int x1)]))
    refine Go.st (fun U hr => XS.istore X4.here hx rfl (hb hby d7_13) rfl (l' := #[.val (.ref a1), .val (.int (1 : Int32)), .val (.ref a3), .val (.int (1 : Int32)), .val (.int (5 : Int32)), .val (.int (1 : Int32)), .val (.int x1)]) rfl hr) ?_
    show Go p.tables e below _ (T4.setTop (mkF m 15 #[.val (.ref a1), .val (.int (1 : Int32)), .val (.ref a3), .val (.int (1 : Int32)), .val (.int (5 : Int32)), .val (.int (1 : Int32)), .val (.int x1)] []))
    refine Go.st (fun U hr => XS.iload X4.here hx rfl (hb hby d7_15) rfl hr) ?_
    show Go p.tables e below _ (T4.setTop (mkF m 17 #[.val (.ref a1), .val (.int (1 : Int32)), .val (.ref a3), .val (.int (1 : Int32)), .val (.int (5 : Int32)), .val (.int (1 : Int32)), .val (.int x1)] [(.int x1)]))
    refine Go.st (fun U hr => XS.sipush X4.here hx rfl (hb hby d7_17) hr) ?_
    show Go p.tables e below _ (T4.setTop (mkF m 20 #[.val (.ref a1), .val (.int (1 : Int32)), .val (.ref a3), .val (.int (1 : Int32)), .val (.int (5 : Int32)), .val (.int (1 : Int32)), .val (.int x1)] [(.int (255 : Int32)), (.int x1)]))
    by_cases hc20_10 : (255 : Int32) < x1
    · refine Go.st (fun U hr => XS.icmpNo X4.here hx rfl (hb hby d7_20) rfl (tlt hc20_10).2.2.2 hr) ?_
      show Go p.tables e below _ (T4.setTop (mkF m 23 #[.val (.ref a1), .val (.int (1 : Int32)), .val (.ref a3), .val (.int (1 : Int32)), .val (.int (5 : Int32)), .val (.int (1 : Int32)), .val (.int x1)] []))
      refine Go.st (fun U hr => XS.iload X4.here hx rfl (hb hby d7_23) rfl hr) ?_
      show Go p.tables e below _ (T4.setTop (mkF m 25 #[.val (.ref a1), .val (.int (1 : Int32)), .val (.ref a3), .val (.int (1 : Int32)), .val (.int (5 : Int32)), .val (.int (1 : Int32)), .val (.int x1)] [(.int (1 : Int32))]))
      exact own_retO X4 hx Bd.notSynchronized (t := .int) Bd.returns rfl (Or.inl ⟨rfl, Or.inl rfl, _, rfl⟩) (hb hby d7_25) (by rw [e4]; exact ⟨_, rfl, N4, k5, Or.inr ⟨by decide, 1, by decide, by decide, hc20_10⟩⟩) (by decide) (by decide)
    · refine Go.st (fun U hr => XS.icmpYes X4.here hx rfl (pc0 := 20) (pc' := 26) rfl (hb hby d7_20) rfl (flt hc20_10).2.2.2 (by decide) (by decide) hr) ?_
      show Go p.tables e below _ (T4.setTop (mkF m 26 #[.val (.ref a1), .val (.int (1 : Int32)), .val (.ref a3), .val (.int (1 : Int32)), .val (.int (5 : Int32)), .val (.int (1 : Int32)), .val (.int x1)] []))
      refine Go.st (fun U hr => XS.aloadN X4.here hx rfl (hb hby d7_26) rfl rfl hr) ?_
      show Go p.tables e below _ (T4.setTop (mkF m 27 #[.val (.ref a1), .val (.int (1 : Int32)), .val (.ref a3), .val (.int (1 : Int32)), .val (.int (5 : Int32)), .val (.int (1 : Int32)), .val (.int x1)] [(.ref a3)]))
      refine Go.st (fun U hr => XS.iloadN X4.here hx rfl (hb hby d7_27) rfl hr) ?_
      show Go p.tables e below _ (T4.setTop (mkF m 28 #[.val (.ref a1), .val (.int (1 : Int32)), .val (.ref a3), .val (.int (1 : Int32)), .val (.int (5 : Int32)), .val (.int (1 : Int32)), .val (.int x1)] [(.int (1 : Int32)), (.ref a3)]))
      refine Go.st (fun U hr => XS.iload X4.here hx rfl (hb hby d7_28) rfl hr) ?_
      show Go p.tables e below _ (T4.setTop (mkF m 30 #[.val (.ref a1), .val (.int (1 : Int32)), .val (.ref a3), .val (.int (1 : Int32)), .val (.int (5 : Int32)), .val (.int (1 : Int32)), .val (.int x1)] [(.int x1), (.int (1 : Int32)), (.ref a3)]))
      refine Go.st (fun U hr => XS.i2b X4.here hx rfl (hb hby d7_30) rfl hr) ?_
      show Go p.tables e below _ (T4.setTop (mkF m 31 #[.val (.ref a1), .val (.int (1 : Int32)), .val (.ref a3), .val (.int (1 : Int32)), .val (.int (5 : Int32)), .val (.int (1 : Int32)), .val (.int x1)] [(.int (x1.toInt8.toInt32)), (.int (1 : Int32)), (.ref a3)]))
      obtain ⟨cl11, Ar11, qa11, Sa11, Na11, Ha11, Ga11⟩ := id V4
      have hin11 : ¬ ((1 : Int32) < 0 ∨ cl11.slots.size ≤ ((1 : Int32)).toNatClampNeg) := inb_of Sa11 ⟨by decide, by decide⟩
      obtain ⟨T12, h12, X12, e12, W12, st12⟩ := stB X4 hx hZ e4 Ar11 (j := (1 : Int32)) hin11 (g := (mkF m 31 #[.val (.ref a1), .val (.int (1 : Int32)), .val (.ref a3), .val (.int (1 : Int32)), .val (.int (5 : Int32)), .val (.int (1 : Int32)), .val (.int x1)] [(.int (x1.toInt8.toInt32)), (.int (1 : Int32)), (.ref a3)])) rfl rfl (hb hby d7_31)
      refine Go.st st12 ?_
      have V12 := Arv.set Ar11 qa11 Sa11 Na11 Ha11 Ga11 (fits_nar_byte _) W12 1 rfl (Nat.le_of_ble_eq_true rfl)
      have k13 := (k5).wr W12 (Or.inl (List.mem_of_getElem? (i := 0) rfl))
      have f14 := (f6).other W12 ne
      have z16 := Nat.le_trans z8 (Keep.of_wr W12).1
      have N12 := Fr.snoc X12 N4 g3
      show Go p.tables e below _ (T12.setTop (mkF m 32 #[.val (.ref a1), .val (.int (1 : Int32)), .val (.ref a3), .val (.int (1 : Int32)), .val (.int (5 : Int32)), .val (.int (1 : Int32)), .val (.int x1)] []))
      refine Go.st (fun U hr => XS.iinc X12.here hx rfl (hb hby d7_32) rfl (l' := #[.val (.ref a1), .val (.int ((1 : Int32) + (1 : Int32))), .val (.ref a3), .val (.int (1 : Int32)), .val (.int (5 : Int32)), .val (.int (1 : Int32)), .val (.int x1)]) rfl hr) ?_
      show Go p.tables e below _ (T12.setTop (mkF m 35 #[.val (.ref a1), .val (.int ((1 : Int32) + (1 : Int32))), .val (.ref a3), .val (.int (1 : Int32)), .val (.int (5 : Int32)), .val (.int (1 : Int32)), .val (.int x1)] []))
      refine Go.st (fun U hr => XS.iinc X12.here hx rfl (hb hby d7_35) rfl (l' := #[.val (.ref a1), .val (.int ((1 : Int32) + (1 : Int32))), .val (.ref a3), .val (.int ((1 : Int32) + (1 : Int32))), .val (.int (5 : Int32)), .val (.int (1 : Int32)), .val (.int x1)]) rfl hr) ?_
      show Go p.tables e below _ (T12.setTop (mkF m 38 #[.val (.ref a1), .val (.int ((1 : Int32) + (1 : Int32))), .val (.ref a3), .val (.int ((1 : Int32) + (1 : Int32))), .val (.int (5 : Int32)), .val (.int (1 : Int32)), .val (.int x1)] []))
      refine Go.st (fun U hr => XS.iinc X12.here hx rfl (hb hby d7_38) rfl (l' := #[.val (.ref a1), .val (.int ((1 : Int32) + (1 : Int32))), .val (.ref a3), .val (.int ((1 : Int32) + (1 : Int32))), .val (.int (5 : Int32)), .val (.int ((1 : Int32) + (1 : Int32))), .val (.int x1)]) rfl hr) ?_
      show Go p.tables e below _ (T12.setTop (mkF m 41 #[.val (.ref a1), .val (.int ((1 : Int32) + (1 : Int32))), .val (.ref a3), .val (.int ((1 : Int32) + (1 : Int32))), .val (.int (5 : Int32)), .val (.int ((1 : Int32) + (1 : Int32))), .val (.int x1)] []))
      refine Go.st (fun U hr => XS.goto X12.here hx rfl (pc0 := 41) (pc' := 3) rfl (hb hby d7_41) (by decide) (by decide) hr) ?_
      show Go p.tables e below _ (T12.setTop (mkF m 3 #[.val (.ref a1), .val (.int ((1 : Int32) + (1 : Int32))), .val (.ref a3), .val (.int ((1 : Int32) + (1 : Int32))), .val (.int (5 : Int32)), .val (.int ((1 : Int32) + (1 : Int32))), .val (.int x1)] []))
      rw [show ((1 : Int32) + (1 : Int32)) = (2 : Int32) from by decide]
      show Go p.tables e below _ (T12.setTop (mkF m 3 #[.val (.ref a1), .val (.int (2 : Int32)), .val (.ref a3), .val (.int (2 : Int32)), .val (.int (5 : Int32)), .val (.int (2 : Int32)), .val (.int x1)] []))
      refine Go.st (fun U hr => XS.iload X12.here hx rfl (hb hby d7_3) rfl hr) ?_
      show Go p.tables e below _ (T12.setTop (mkF m 5 #[.val (.ref a1), .val (.int (2 : Int32)), .val (.ref a3), .val (.int (2 : Int32)), .val (.int (5 : Int32)), .val (.int (2 : Int32)), .val (.int x1)] [(.int (2 : Int32))]))
      refine Go.st (fun U hr => XS.iload X12.here hx rfl (hb hby d7_5) rfl hr) ?_
      show Go p.tables e below _ (T12.setTop (mkF m 7 #[.val (.ref a1), .val (.int (2 : Int32)), .val (.ref a3), .val (.int (2 : Int32)), .val (.int (5 : Int32)), .val (.int (2 : Int32)), .val (.int x1)] [(.int (5 : Int32)), (.int (2 : Int32))]))
      refine Go.st (fun U hr => XS.icmpNo X12.here hx rfl (hb hby d7_7) rfl (by decide) hr) ?_
      show Go p.tables e below _ (T12.setTop (mkF m 10 #[.val (.ref a1), .val (.int (2 : Int32)), .val (.ref a3), .val (.int (2 : Int32)), .val (.int (5 : Int32)), .val (.int (2 : Int32)), .val (.int x1)] []))
      refine Go.st (fun U hr => XS.aloadN X12.here hx rfl (hb hby d7_10) rfl rfl hr) ?_
      show Go p.tables e below _ (T12.setTop (mkF m 11 #[.val (.ref a1), .val (.int (2 : Int32)), .val (.ref a3), .val (.int (2 : Int32)), .val (.int (5 : Int32)), .val (.int (2 : Int32)), .val (.int x1)] [(.ref a1)]))
      refine Go.st (fun U hr => XS.iloadN X12.here hx rfl (hb hby d7_11) rfl hr) ?_
      show Go p.tables e below _ (T12.setTop (mkF m 12 #[.val (.ref a1), .val (.int (2 : Int32)), .val (.ref a3), .val (.int (2 : Int32)), .val (.int (5 : Int32)), .val (.int (2 : Int32)), .val (.int x1)] [(.int (2 : Int32)), (.ref a1)]))
      obtain ⟨cl17, Ar17, qa17, Sa17, Na17, Ha17, Ga17⟩ := id f14
      have hin17 : ¬ ((2 : Int32) < 0 ∨ cl17.slots.size ≤ ((2 : Int32)).toNatClampNeg) := inb_of Sa17 ⟨by decide, by decide⟩
      refine Go.st (X12.caload hx (j := (2 : Int32)) (v := (.int x2)) (by rw [e12]; exact Ar17.1) (State.isArrayOf_alike hZ.alike Ar17.2.1) Ar17.2.2 hin17 (Ha17.at hin17 rfl) (g := (mkF m 12 #[.val (.ref a1), .val (.int (2 : Int32)), .val (.ref a3), .val (.int (2 : Int32)), .val (.int (5 : Int32)), .val (.int (2 : Int32)), .val (.int x1)] [(.int (2 : Int32)), (.ref a1)])) rfl rfl (hb hby d7_12)) ?_
      show Go p.tables e below _ (T12.setTop (mkF m 13 #[.val (.ref a1), .val (.int (2 : Int32)), .val (.ref a3), .val (.int (2 : Int32)), .val (.int (5 : Int32)), .val (.int (2 : Int32)), .val (.int x1)] [(.int x2)]))
      refine Go.st (fun U hr => XS.istore X12.here hx rfl (hb hby d7_13) rfl (l' := #[.val (.ref a1), .val (.int (2 : Int32)), .val (.ref a3), .val (.int (2 : Int32)), .val (.int (5 : Int32)), .val (.int (2 : Int32)), .val (.int x2)]) rfl hr) ?_
      show Go p.tables e below _ (T12.setTop (mkF m 15 #[.val (.ref a1), .val (.int (2 : Int32)), .val (.ref a3), .val (.int (2 : Int32)), .val (.int (5 : Int32)), .val (.int (2 : Int32)), .val (.int x2)] []))
      refine Go.st (fun U hr => XS.iload X12.here hx rfl (hb hby d7_15) rfl hr) ?_
      show Go p.tables e below _ (T12.setTop (mkF m 17 #[.val (.ref a1), .val (.int (2 : Int32)), .val (.ref a3), .val (.int (2 : Int32)), .val (.int (5 : Int32)), .val (.int (2 : Int32)), .val (.int x2)] [(.int x2)]))
      refine Go.st (fun U hr => XS.sipush X12.here hx rfl (hb hby d7_17) hr) ?_
      show Go p.tables e below _ (T12.setTop (mkF m 20 #[.val (.ref a1), .val (.int (2 : Int32)), .val (.ref a3), .val (.int (2 : Int32)), .val (.int (5 : Int32)), .val (.int (2 : Int32)), .val (.int x2)] [(.int (255 : Int32)), (.int x2)]))
      by_cases hc20_18 : (255 : Int32) < x2
      · refine Go.st (fun U hr => XS.icmpNo X12.here hx rfl (hb hby d7_20) rfl (tlt hc20_18).2.2.2 hr) ?_
        show Go p.tables e below _ (T12.setTop (mkF m 23 #[.val (.ref a1), .val (.int (2 : Int32)), .val (.ref a3), .val (.int (2 : Int32)), .val (.int (5 : Int32)), .val (.int (2 : Int32)), .val (.int x2)] []))
        refine Go.st (fun U hr => XS.iload X12.here hx rfl (hb hby d7_23) rfl hr) ?_
        show Go p.tables e below _ (T12.setTop (mkF m 25 #[.val (.ref a1), .val (.int (2 : Int32)), .val (.ref a3), .val (.int (2 : Int32)), .val (.int (5 : Int32)), .val (.int (2 : Int32)), .val (.int x2)] [(.int (2 : Int32))]))
        exact own_retO X12 hx Bd.notSynchronized (t := .int) Bd.returns rfl (Or.inl ⟨rfl, Or.inl rfl, _, rfl⟩) (hb hby d7_25) (by rw [e12]; exact ⟨_, rfl, N12, k13, Or.inr ⟨by decide, 2, by decide, by decide, hc20_18⟩⟩) (by decide) (by decide)
      · refine Go.st (fun U hr => XS.icmpYes X12.here hx rfl (pc0 := 20) (pc' := 26) rfl (hb hby d7_20) rfl (flt hc20_18).2.2.2 (by decide) (by decide) hr) ?_
        show Go p.tables e below _ (T12.setTop (mkF m 26 #[.val (.ref a1), .val (.int (2 : Int32)), .val (.ref a3), .val (.int (2 : Int32)), .val (.int (5 : Int32)), .val (.int (2 : Int32)), .val (.int x2)] []))
        refine Go.st (fun U hr => XS.aloadN X12.here hx rfl (hb hby d7_26) rfl rfl hr) ?_
        show Go p.tables e below _ (T12.setTop (mkF m 27 #[.val (.ref a1), .val (.int (2 : Int32)), .val (.ref a3), .val (.int (2 : Int32)), .val (.int (5 : Int32)), .val (.int (2 : Int32)), .val (.int x2)] [(.ref a3)]))
        refine Go.st (fun U hr => XS.iloadN X12.here hx rfl (hb hby d7_27) rfl hr) ?_
        show Go p.tables e below _ (T12.setTop (mkF m 28 #[.val (.ref a1), .val (.int (2 : Int32)), .val (.ref a3), .val (.int (2 : Int32)), .val (.int (5 : Int32)), .val (.int (2 : Int32)), .val (.int x2)] [(.int (2 : Int32)), (.ref a3)]))
        refine Go.st (fun U hr => XS.iload X12.here hx rfl (hb hby d7_28) rfl hr) ?_
        show Go p.tables e below _ (T12.setTop (mkF m 30 #[.val (.ref a1), .val (.int (2 : Int32)), .val (.ref a3), .val (.int (2 : Int32)), .val (.int (5 : Int32)), .val (.int (2 : Int32)), .val (.int x2)] [(.int x2), (.int (2 : Int32)), (.ref a3)]))
        refine Go.st (fun U hr => XS.i2b X12.here hx rfl (hb hby d7_30) rfl hr) ?_
        show Go p.tables e below _ (T12.setTop (mkF m 31 #[.val (.ref a1), .val (.int (2 : Int32)), .val (.ref a3), .val (.int (2 : Int32)), .val (.int (5 : Int32)), .val (.int (2 : Int32)), .val (.int x2)] [(.int (x2.toInt8.toInt32)), (.int (2 : Int32)), (.ref a3)]))
        obtain ⟨cl19, Ar19, qa19, Sa19, Na19, Ha19, Ga19⟩ := id V12
        have hin19 : ¬ ((2 : Int32) < 0 ∨ cl19.slots.size ≤ ((2 : Int32)).toNatClampNeg) := inb_of Sa19 ⟨by decide, by decide⟩
        obtain ⟨T20, h20, X20, e20, W20, st20⟩ := stB X12 hx hZ e12 Ar19 (j := (2 : Int32)) hin19 (g := (mkF m 31 #[.val (.ref a1), .val (.int (2 : Int32)), .val (.ref a3), .val (.int (2 : Int32)), .val (.int (5 : Int32)), .val (.int (2 : Int32)), .val (.int x2)] [(.int (x2.toInt8.toInt32)), (.int (2 : Int32)), (.ref a3)])) rfl rfl (hb hby d7_31)
        refine Go.st st20 ?_
        have V20 := Arv.set Ar19 qa19 Sa19 Na19 Ha19 Ga19 (fits_nar_byte _) W20 2 rfl (Nat.le_of_ble_eq_true rfl)
        have k21 := (k13).wr W20 (Or.inl (List.mem_of_getElem? (i := 0) rfl))
        have f22 := (f14).other W20 ne
        have z24 := Nat.le_trans z16 (Keep.of_wr W20).1
        have N20 := Fr.snoc X20 N12 g3
        show Go p.tables e below _ (T20.setTop (mkF m 32 #[.val (.ref a1), .val (.int (2 : Int32)), .val (.ref a3), .val (.int (2 : Int32)), .val (.int (5 : Int32)), .val (.int (2 : Int32)), .val (.int x2)] []))
        refine Go.st (fun U hr => XS.iinc X20.here hx rfl (hb hby d7_32) rfl (l' := #[.val (.ref a1), .val (.int ((2 : Int32) + (1 : Int32))), .val (.ref a3), .val (.int (2 : Int32)), .val (.int (5 : Int32)), .val (.int (2 : Int32)), .val (.int x2)]) rfl hr) ?_
        show Go p.tables e below _ (T20.setTop (mkF m 35 #[.val (.ref a1), .val (.int ((2 : Int32) + (1 : Int32))), .val (.ref a3), .val (.int (2 : Int32)), .val (.int (5 : Int32)), .val (.int (2 : Int32)), .val (.int x2)] []))
        refine Go.st (fun U hr => XS.iinc X20.here hx rfl (hb hby d7_35) rfl (l' := #[.val (.ref a1), .val (.int ((2 : Int32) + (1 : Int32))), .val (.ref a3), .val (.int ((2 : Int32) + (1 : Int32))), .val (.int (5 : Int32)), .val (.int (2 : Int32)), .val (.int x2)]) rfl hr) ?_
        show Go p.tables e below _ (T20.setTop (mkF m 38 #[.val (.ref a1), .val (.int ((2 : Int32) + (1 : Int32))), .val (.ref a3), .val (.int ((2 : Int32) + (1 : Int32))), .val (.int (5 : Int32)), .val (.int (2 : Int32)), .val (.int x2)] []))
        refine Go.st (fun U hr => XS.iinc X20.here hx rfl (hb hby d7_38) rfl (l' := #[.val (.ref a1), .val (.int ((2 : Int32) + (1 : Int32))), .val (.ref a3), .val (.int ((2 : Int32) + (1 : Int32))), .val (.int (5 : Int32)), .val (.int ((2 : Int32) + (1 : Int32))), .val (.int x2)]) rfl hr) ?_
        show Go p.tables e below _ (T20.setTop (mkF m 41 #[.val (.ref a1), .val (.int ((2 : Int32) + (1 : Int32))), .val (.ref a3), .val (.int ((2 : Int32) + (1 : Int32))), .val (.int (5 : Int32)), .val (.int ((2 : Int32) + (1 : Int32))), .val (.int x2)] []))
        refine Go.st (fun U hr => XS.goto X20.here hx rfl (pc0 := 41) (pc' := 3) rfl (hb hby d7_41) (by decide) (by decide) hr) ?_
        show Go p.tables e below _ (T20.setTop (mkF m 3 #[.val (.ref a1), .val (.int ((2 : Int32) + (1 : Int32))), .val (.ref a3), .val (.int ((2 : Int32) + (1 : Int32))), .val (.int (5 : Int32)), .val (.int ((2 : Int32) + (1 : Int32))), .val (.int x2)] []))
        rw [show ((2 : Int32) + (1 : Int32)) = (3 : Int32) from by decide]
        show Go p.tables e below _ (T20.setTop (mkF m 3 #[.val (.ref a1), .val (.int (3 : Int32)), .val (.ref a3), .val (.int (3 : Int32)), .val (.int (5 : Int32)), .val (.int (3 : Int32)), .val (.int x2)] []))
        refine Go.st (fun U hr => XS.iload X20.here hx rfl (hb hby d7_3) rfl hr) ?_
        show Go p.tables e below _ (T20.setTop (mkF m 5 #[.val (.ref a1), .val (.int (3 : Int32)), .val (.ref a3), .val (.int (3 : Int32)), .val (.int (5 : Int32)), .val (.int (3 : Int32)), .val (.int x2)] [(.int (3 : Int32))]))
        refine Go.st (fun U hr => XS.iload X20.here hx rfl (hb hby d7_5) rfl hr) ?_
        show Go p.tables e below _ (T20.setTop (mkF m 7 #[.val (.ref a1), .val (.int (3 : Int32)), .val (.ref a3), .val (.int (3 : Int32)), .val (.int (5 : Int32)), .val (.int (3 : Int32)), .val (.int x2)] [(.int (5 : Int32)), (.int (3 : Int32))]))
        refine Go.st (fun U hr => XS.icmpNo X20.here hx rfl (hb hby d7_7) rfl (by decide) hr) ?_
        show Go p.tables e below _ (T20.setTop (mkF m 10 #[.val (.ref a1), .val (.int (3 : Int32)), .val (.ref a3), .val (.int (3 : Int32)), .val (.int (5 : Int32)), .val (.int (3 : Int32)), .val (.int x2)] []))
        refine Go.st (fun U hr => XS.aloadN X20.here hx rfl (hb hby d7_10) rfl rfl hr) ?_
        show Go p.tables e below _ (T20.setTop (mkF m 11 #[.val (.ref a1), .val (.int (3 : Int32)), .val (.ref a3), .val (.int (3 : Int32)), .val (.int (5 : Int32)), .val (.int (3 : Int32)), .val (.int x2)] [(.ref a1)]))
        refine Go.st (fun U hr => XS.iloadN X20.here hx rfl (hb hby d7_11) rfl hr) ?_
        show Go p.tables e below _ (T20.setTop (mkF m 12 #[.val (.ref a1), .val (.int (3 : Int32)), .val (.ref a3), .val (.int (3 : Int32)), .val (.int (5 : Int32)), .val (.int (3 : Int32)), .val (.int x2)] [(.int (3 : Int32)), (.ref a1)]))
        obtain ⟨cl25, Ar25, qa25, Sa25, Na25, Ha25, Ga25⟩ := id f22
        have hin25 : ¬ ((3 : Int32) < 0 ∨ cl25.slots.size ≤ ((3 : Int32)).toNatClampNeg) := inb_of Sa25 ⟨by decide, by decide⟩
        refine Go.st (X20.caload hx (j := (3 : Int32)) (v := (.int x3)) (by rw [e20]; exact Ar25.1) (State.isArrayOf_alike hZ.alike Ar25.2.1) Ar25.2.2 hin25 (Ha25.at hin25 rfl) (g := (mkF m 12 #[.val (.ref a1), .val (.int (3 : Int32)), .val (.ref a3), .val (.int (3 : Int32)), .val (.int (5 : Int32)), .val (.int (3 : Int32)), .val (.int x2)] [(.int (3 : Int32)), (.ref a1)])) rfl rfl (hb hby d7_12)) ?_
        show Go p.tables e below _ (T20.setTop (mkF m 13 #[.val (.ref a1), .val (.int (3 : Int32)), .val (.ref a3), .val (.int (3 : Int32)), .val (.int (5 : Int32)), .val (.int (3 : Int32)), .val (.int x2)] [(.int x3)]))
        refine Go.st (fun U hr => XS.istore X20.here hx rfl (hb hby d7_13) rfl (l' := #[.val (.ref a1), .val (.int (3 : Int32)), .val (.ref a3), .val (.int (3 : Int32)), .val (.int (5 : Int32)), .val (.int (3 : Int32)), .val (.int x3)]) rfl hr) ?_
        show Go p.tables e below _ (T20.setTop (mkF m 15 #[.val (.ref a1), .val (.int (3 : Int32)), .val (.ref a3), .val (.int (3 : Int32)), .val (.int (5 : Int32)), .val (.int (3 : Int32)), .val (.int x3)] []))
        refine Go.st (fun U hr => XS.iload X20.here hx rfl (hb hby d7_15) rfl hr) ?_
        show Go p.tables e below _ (T20.setTop (mkF m 17 #[.val (.ref a1), .val (.int (3 : Int32)), .val (.ref a3), .val (.int (3 : Int32)), .val (.int (5 : Int32)), .val (.int (3 : Int32)), .val (.int x3)] [(.int x3)]))
        refine Go.st (fun U hr => XS.sipush X20.here hx rfl (hb hby d7_17) hr) ?_
        show Go p.tables e below _ (T20.setTop (mkF m 20 #[.val (.ref a1), .val (.int (3 : Int32)), .val (.ref a3), .val (.int (3 : Int32)), .val (.int (5 : Int32)), .val (.int (3 : Int32)), .val (.int x3)] [(.int (255 : Int32)), (.int x3)]))
        by_cases hc20_26 : (255 : Int32) < x3
        · refine Go.st (fun U hr => XS.icmpNo X20.here hx rfl (hb hby d7_20) rfl (tlt hc20_26).2.2.2 hr) ?_
          show Go p.tables e below _ (T20.setTop (mkF m 23 #[.val (.ref a1), .val (.int (3 : Int32)), .val (.ref a3), .val (.int (3 : Int32)), .val (.int (5 : Int32)), .val (.int (3 : Int32)), .val (.int x3)] []))
          refine Go.st (fun U hr => XS.iload X20.here hx rfl (hb hby d7_23) rfl hr) ?_
          show Go p.tables e below _ (T20.setTop (mkF m 25 #[.val (.ref a1), .val (.int (3 : Int32)), .val (.ref a3), .val (.int (3 : Int32)), .val (.int (5 : Int32)), .val (.int (3 : Int32)), .val (.int x3)] [(.int (3 : Int32))]))
          exact own_retO X20 hx Bd.notSynchronized (t := .int) Bd.returns rfl (Or.inl ⟨rfl, Or.inl rfl, _, rfl⟩) (hb hby d7_25) (by rw [e20]; exact ⟨_, rfl, N20, k21, Or.inr ⟨by decide, 3, by decide, by decide, hc20_26⟩⟩) (by decide) (by decide)
        · refine Go.st (fun U hr => XS.icmpYes X20.here hx rfl (pc0 := 20) (pc' := 26) rfl (hb hby d7_20) rfl (flt hc20_26).2.2.2 (by decide) (by decide) hr) ?_
          show Go p.tables e below _ (T20.setTop (mkF m 26 #[.val (.ref a1), .val (.int (3 : Int32)), .val (.ref a3), .val (.int (3 : Int32)), .val (.int (5 : Int32)), .val (.int (3 : Int32)), .val (.int x3)] []))
          refine Go.st (fun U hr => XS.aloadN X20.here hx rfl (hb hby d7_26) rfl rfl hr) ?_
          show Go p.tables e below _ (T20.setTop (mkF m 27 #[.val (.ref a1), .val (.int (3 : Int32)), .val (.ref a3), .val (.int (3 : Int32)), .val (.int (5 : Int32)), .val (.int (3 : Int32)), .val (.int x3)] [(.ref a3)]))
          refine Go.st (fun U hr => XS.iloadN X20.here hx rfl (hb hby d7_27) rfl hr) ?_
          show Go p.tables e below _ (T20.setTop (mkF m 28 #[.val (.ref a1), .val (.int (3 : Int32)), .val (.ref a3), .val (.int (3 : Int32)), .val (.int (5 : Int32)), .val (.int (3 : Int32)), .val (.int x3)] [(.int (3 : Int32)), (.ref a3)]))
          refine Go.st (fun U hr => XS.iload X20.here hx rfl (hb hby d7_28) rfl hr) ?_
          show Go p.tables e below _ (T20.setTop (mkF m 30 #[.val (.ref a1), .val (.int (3 : Int32)), .val (.ref a3), .val (.int (3 : Int32)), .val (.int (5 : Int32)), .val (.int (3 : Int32)), .val (.int x3)] [(.int x3), (.int (3 : Int32)), (.ref a3)]))
          refine Go.st (fun U hr => XS.i2b X20.here hx rfl (hb hby d7_30) rfl hr) ?_
          show Go p.tables e below _ (T20.setTop (mkF m 31 #[.val (.ref a1), .val (.int (3 : Int32)), .val (.ref a3), .val (.int (3 : Int32)), .val (.int (5 : Int32)), .val (.int (3 : Int32)), .val (.int x3)] [(.int (x3.toInt8.toInt32)), (.int (3 : Int32)), (.ref a3)]))
          obtain ⟨cl27, Ar27, qa27, Sa27, Na27, Ha27, Ga27⟩ := id V20
          have hin27 : ¬ ((3 : Int32) < 0 ∨ cl27.slots.size ≤ ((3 : Int32)).toNatClampNeg) := inb_of Sa27 ⟨by decide, by decide⟩
          obtain ⟨T28, h28, X28, e28, W28, st28⟩ := stB X20 hx hZ e20 Ar27 (j := (3 : Int32)) hin27 (g := (mkF m 31 #[.val (.ref a1), .val (.int (3 : Int32)), .val (.ref a3), .val (.int (3 : Int32)), .val (.int (5 : Int32)), .val (.int (3 : Int32)), .val (.int x3)] [(.int (x3.toInt8.toInt32)), (.int (3 : Int32)), (.ref a3)])) rfl rfl (hb hby d7_31)
          refine Go.st st28 ?_
          have V28 := Arv.set Ar27 qa27 Sa27 Na27 Ha27 Ga27 (fits_nar_byte _) W28 3 rfl (Nat.le_of_ble_eq_true rfl)
          have k29 := (k21).wr W28 (Or.inl (List.mem_of_getElem? (i := 0) rfl))
          have f30 := (f22).other W28 ne
          have z32 := Nat.le_trans z24 (Keep.of_wr W28).1
          have N28 := Fr.snoc X28 N20 g3
          show Go p.tables e below _ (T28.setTop (mkF m 32 #[.val (.ref a1), .val (.int (3 : Int32)), .val (.ref a3), .val (.int (3 : Int32)), .val (.int (5 : Int32)), .val (.int (3 : Int32)), .val (.int x3)] []))
          refine Go.st (fun U hr => XS.iinc X28.here hx rfl (hb hby d7_32) rfl (l' := #[.val (.ref a1), .val (.int ((3 : Int32) + (1 : Int32))), .val (.ref a3), .val (.int (3 : Int32)), .val (.int (5 : Int32)), .val (.int (3 : Int32)), .val (.int x3)]) rfl hr) ?_
          show Go p.tables e below _ (T28.setTop (mkF m 35 #[.val (.ref a1), .val (.int ((3 : Int32) + (1 : Int32))), .val (.ref a3), .val (.int (3 : Int32)), .val (.int (5 : Int32)), .val (.int (3 : Int32)), .val (.int x3)] []))
          refine Go.st (fun U hr => XS.iinc X28.here hx rfl (hb hby d7_35) rfl (l' := #[.val (.ref a1), .val (.int ((3 : Int32) + (1 : Int32))), .val (.ref a3), .val (.int ((3 : Int32) + (1 : Int32))), .val (.int (5 : Int32)), .val (.int (3 : Int32)), .val (.int x3)]) rfl hr) ?_
          show Go p.tables e below _ (T28.setTop (mkF m 38 #[.val (.ref a1), .val (.int ((3 : Int32) + (1 : Int32))), .val (.ref a3), .val (.int ((3 : Int32) + (1 : Int32))), .val (.int (5 : Int32)), .val (.int (3 : Int32)), .val (.int x3)] []))
          refine Go.st (fun U hr => XS.iinc X28.here hx rfl (hb hby d7_38) rfl (l' := #[.val (.ref a1), .val (.int ((3 : Int32) + (1 : Int32))), .val (.ref a3), .val (.int ((3 : Int32) + (1 : Int32))), .val (.int (5 : Int32)), .val (.int ((3 : Int32) + (1 : Int32))), .val (.int x3)]) rfl hr) ?_
          show Go p.tables e below _ (T28.setTop (mkF m 41 #[.val (.ref a1), .val (.int ((3 : Int32) + (1 : Int32))), .val (.ref a3), .val (.int ((3 : Int32) + (1 : Int32))), .val (.int (5 : Int32)), .val (.int ((3 : Int32) + (1 : Int32))), .val (.int x3)] []))
          refine Go.st (fun U hr => XS.goto X28.here hx rfl (pc0 := 41) (pc' := 3) rfl (hb hby d7_41) (by decide) (by decide) hr) ?_
          show Go p.tables e below _ (T28.setTop (mkF m 3 #[.val (.ref a1), .val (.int ((3 : Int32) + (1 : Int32))), .val (.ref a3), .val (.int ((3 : Int32) + (1 : Int32))), .val (.int (5 : Int32)), .val (.int ((3 : Int32) + (1 : Int32))), .val (.int x3)] []))
          rw [show ((3 : Int32) + (1 : Int32)) = (4 : Int32) from by decide]
          show Go p.tables e below _ (T28.setTop (mkF m 3 #[.val (.ref a1), .val (.int (4 : Int32)), .val (.ref a3), .val (.int (4 : Int32)), .val (.int (5 : Int32)), .val (.int (4 : Int32)), .val (.int x3)] []))
          refine Go.st (fun U hr => XS.iload X28.here hx rfl (hb hby d7_3) rfl hr) ?_
          show Go p.tables e below _ (T28.setTop (mkF m 5 #[.val (.ref a1), .val (.int (4 : Int32)), .val (.ref a3), .val (.int (4 : Int32)), .val (.int (5 : Int32)), .val (.int (4 : Int32)), .val (.int x3)] [(.int (4 : Int32))]))
          refine Go.st (fun U hr => XS.iload X28.here hx rfl (hb hby d7_5) rfl hr) ?_
          show Go p.tables e below _ (T28.setTop (mkF m 7 #[.val (.ref a1), .val (.int (4 : Int32)), .val (.ref a3), .val (.int (4 : Int32)), .val (.int (5 : Int32)), .val (.int (4 : Int32)), .val (.int x3)] [(.int (5 : Int32)), (.int (4 : Int32))]))
          refine Go.st (fun U hr => XS.icmpNo X28.here hx rfl (hb hby d7_7) rfl (by decide) hr) ?_
          show Go p.tables e below _ (T28.setTop (mkF m 10 #[.val (.ref a1), .val (.int (4 : Int32)), .val (.ref a3), .val (.int (4 : Int32)), .val (.int (5 : Int32)), .val (.int (4 : Int32)), .val (.int x3)] []))
          refine Go.st (fun U hr => XS.aloadN X28.here hx rfl (hb hby d7_10) rfl rfl hr) ?_
          show Go p.tables e below _ (T28.setTop (mkF m 11 #[.val (.ref a1), .val (.int (4 : Int32)), .val (.ref a3), .val (.int (4 : Int32)), .val (.int (5 : Int32)), .val (.int (4 : Int32)), .val (.int x3)] [(.ref a1)]))
          refine Go.st (fun U hr => XS.iloadN X28.here hx rfl (hb hby d7_11) rfl hr) ?_
          show Go p.tables e below _ (T28.setTop (mkF m 12 #[.val (.ref a1), .val (.int (4 : Int32)), .val (.ref a3), .val (.int (4 : Int32)), .val (.int (5 : Int32)), .val (.int (4 : Int32)), .val (.int x3)] [(.int (4 : Int32)), (.ref a1)]))
          obtain ⟨cl33, Ar33, qa33, Sa33, Na33, Ha33, Ga33⟩ := id f30
          have hin33 : ¬ ((4 : Int32) < 0 ∨ cl33.slots.size ≤ ((4 : Int32)).toNatClampNeg) := inb_of Sa33 ⟨by decide, by decide⟩
          refine Go.st (X28.caload hx (j := (4 : Int32)) (v := (.int x4)) (by rw [e28]; exact Ar33.1) (State.isArrayOf_alike hZ.alike Ar33.2.1) Ar33.2.2 hin33 (Ha33.at hin33 rfl) (g := (mkF m 12 #[.val (.ref a1), .val (.int (4 : Int32)), .val (.ref a3), .val (.int (4 : Int32)), .val (.int (5 : Int32)), .val (.int (4 : Int32)), .val (.int x3)] [(.int (4 : Int32)), (.ref a1)])) rfl rfl (hb hby d7_12)) ?_
          show Go p.tables e below _ (T28.setTop (mkF m 13 #[.val (.ref a1), .val (.int (4 : Int32)), .val (.ref a3), .val (.int (4 : Int32)), .val (.int (5 : Int32)), .val (.int (4 : Int32)), .val (.int x3)] [(.int x4)]))
          refine Go.st (fun U hr => XS.istore X28.here hx rfl (hb hby d7_13) rfl (l' := #[.val (.ref a1), .val (.int (4 : Int32)), .val (.ref a3), .val (.int (4 : Int32)), .val (.int (5 : Int32)), .val (.int (4 : Int32)), .val (.int x4)]) rfl hr) ?_
          show Go p.tables e below _ (T28.setTop (mkF m 15 #[.val (.ref a1), .val (.int (4 : Int32)), .val (.ref a3), .val (.int (4 : Int32)), .val (.int (5 : Int32)), .val (.int (4 : Int32)), .val (.int x4)] []))
          refine Go.st (fun U hr => XS.iload X28.here hx rfl (hb hby d7_15) rfl hr) ?_
          show Go p.tables e below _ (T28.setTop (mkF m 17 #[.val (.ref a1), .val (.int (4 : Int32)), .val (.ref a3), .val (.int (4 : Int32)), .val (.int (5 : Int32)), .val (.int (4 : Int32)), .val (.int x4)] [(.int x4)]))
          refine Go.st (fun U hr => XS.sipush X28.here hx rfl (hb hby d7_17) hr) ?_
          show Go p.tables e below _ (T28.setTop (mkF m 20 #[.val (.ref a1), .val (.int (4 : Int32)), .val (.ref a3), .val (.int (4 : Int32)), .val (.int (5 : Int32)), .val (.int (4 : Int32)), .val (.int x4)] [(.int (255 : Int32)), (.int x4)]))
          by_cases hc20_34 : (255 : Int32) < x4
          · refine Go.st (fun U hr => XS.icmpNo X28.here hx rfl (hb hby d7_20) rfl (tlt hc20_34).2.2.2 hr) ?_
            show Go p.tables e below _ (T28.setTop (mkF m 23 #[.val (.ref a1), .val (.int (4 : Int32)), .val (.ref a3), .val (.int (4 : Int32)), .val (.int (5 : Int32)), .val (.int (4 : Int32)), .val (.int x4)] []))
            refine Go.st (fun U hr => XS.iload X28.here hx rfl (hb hby d7_23) rfl hr) ?_
            show Go p.tables e below _ (T28.setTop (mkF m 25 #[.val (.ref a1), .val (.int (4 : Int32)), .val (.ref a3), .val (.int (4 : Int32)), .val (.int (5 : Int32)), .val (.int (4 : Int32)), .val (.int x4)] [(.int (4 : Int32))]))
            exact own_retO X28 hx Bd.notSynchronized (t := .int) Bd.returns rfl (Or.inl ⟨rfl, Or.inl rfl, _, rfl⟩) (hb hby d7_25) (by rw [e28]; exact ⟨_, rfl, N28, k29, Or.inr ⟨by decide, 4, by decide, by decide, hc20_34⟩⟩) (by decide) (by decide)
          · refine Go.st (fun U hr => XS.icmpYes X28.here hx rfl (pc0 := 20) (pc' := 26) rfl (hb hby d7_20) rfl (flt hc20_34).2.2.2 (by decide) (by decide) hr) ?_
            show Go p.tables e below _ (T28.setTop (mkF m 26 #[.val (.ref a1), .val (.int (4 : Int32)), .val (.ref a3), .val (.int (4 : Int32)), .val (.int (5 : Int32)), .val (.int (4 : Int32)), .val (.int x4)] []))
            refine Go.st (fun U hr => XS.aloadN X28.here hx rfl (hb hby d7_26) rfl rfl hr) ?_
            show Go p.tables e below _ (T28.setTop (mkF m 27 #[.val (.ref a1), .val (.int (4 : Int32)), .val (.ref a3), .val (.int (4 : Int32)), .val (.int (5 : Int32)), .val (.int (4 : Int32)), .val (.int x4)] [(.ref a3)]))
            refine Go.st (fun U hr => XS.iloadN X28.here hx rfl (hb hby d7_27) rfl hr) ?_
            show Go p.tables e below _ (T28.setTop (mkF m 28 #[.val (.ref a1), .val (.int (4 : Int32)), .val (.ref a3), .val (.int (4 : Int32)), .val (.int (5 : Int32)), .val (.int (4 : Int32)), .val (.int x4)] [(.int (4 : Int32)), (.ref a3)]))
            refine Go.st (fun U hr => XS.iload X28.here hx rfl (hb hby d7_28) rfl hr) ?_
            show Go p.tables e below _ (T28.setTop (mkF m 30 #[.val (.ref a1), .val (.int (4 : Int32)), .val (.ref a3), .val (.int (4 : Int32)), .val (.int (5 : Int32)), .val (.int (4 : Int32)), .val (.int x4)] [(.int x4), (.int (4 : Int32)), (.ref a3)]))
            refine Go.st (fun U hr => XS.i2b X28.here hx rfl (hb hby d7_30) rfl hr) ?_
            show Go p.tables e below _ (T28.setTop (mkF m 31 #[.val (.ref a1), .val (.int (4 : Int32)), .val (.ref a3), .val (.int (4 : Int32)), .val (.int (5 : Int32)), .val (.int (4 : Int32)), .val (.int x4)] [(.int (x4.toInt8.toInt32)), (.int (4 : Int32)), (.ref a3)]))
            obtain ⟨cl35, Ar35, qa35, Sa35, Na35, Ha35, Ga35⟩ := id V28
            have hin35 : ¬ ((4 : Int32) < 0 ∨ cl35.slots.size ≤ ((4 : Int32)).toNatClampNeg) := inb_of Sa35 ⟨by decide, by decide⟩
            obtain ⟨T36, h36, X36, e36, W36, st36⟩ := stB X28 hx hZ e28 Ar35 (j := (4 : Int32)) hin35 (g := (mkF m 31 #[.val (.ref a1), .val (.int (4 : Int32)), .val (.ref a3), .val (.int (4 : Int32)), .val (.int (5 : Int32)), .val (.int (4 : Int32)), .val (.int x4)] [(.int (x4.toInt8.toInt32)), (.int (4 : Int32)), (.ref a3)])) rfl rfl (hb hby d7_31)
            refine Go.st st36 ?_
            have V36 := Arv.set Ar35 qa35 Sa35 Na35 Ha35 Ga35 (fits_nar_byte _) W36 4 rfl (Nat.le_of_ble_eq_true rfl)
            have k37 := (k29).wr W36 (Or.inl (List.mem_of_getElem? (i := 0) rfl))
            have f38 := (f30).other W36 ne
            have z40 := Nat.le_trans z32 (Keep.of_wr W36).1
            have N36 := Fr.snoc X36 N28 g3
            show Go p.tables e below _ (T36.setTop (mkF m 32 #[.val (.ref a1), .val (.int (4 : Int32)), .val (.ref a3), .val (.int (4 : Int32)), .val (.int (5 : Int32)), .val (.int (4 : Int32)), .val (.int x4)] []))
            refine Go.st (fun U hr => XS.iinc X36.here hx rfl (hb hby d7_32) rfl (l' := #[.val (.ref a1), .val (.int ((4 : Int32) + (1 : Int32))), .val (.ref a3), .val (.int (4 : Int32)), .val (.int (5 : Int32)), .val (.int (4 : Int32)), .val (.int x4)]) rfl hr) ?_
            show Go p.tables e below _ (T36.setTop (mkF m 35 #[.val (.ref a1), .val (.int ((4 : Int32) + (1 : Int32))), .val (.ref a3), .val (.int (4 : Int32)), .val (.int (5 : Int32)), .val (.int (4 : Int32)), .val (.int x4)] []))
            refine Go.st (fun U hr => XS.iinc X36.here hx rfl (hb hby d7_35) rfl (l' := #[.val (.ref a1), .val (.int ((4 : Int32) + (1 : Int32))), .val (.ref a3), .val (.int ((4 : Int32) + (1 : Int32))), .val (.int (5 : Int32)), .val (.int (4 : Int32)), .val (.int x4)]) rfl hr) ?_
            show Go p.tables e below _ (T36.setTop (mkF m 38 #[.val (.ref a1), .val (.int ((4 : Int32) + (1 : Int32))), .val (.ref a3), .val (.int ((4 : Int32) + (1 : Int32))), .val (.int (5 : Int32)), .val (.int (4 : Int32)), .val (.int x4)] []))
            refine Go.st (fun U hr => XS.iinc X36.here hx rfl (hb hby d7_38) rfl (l' := #[.val (.ref a1), .val (.int ((4 : Int32) + (1 : Int32))), .val (.ref a3), .val (.int ((4 : Int32) + (1 : Int32))), .val (.int (5 : Int32)), .val (.int ((4 : Int32) + (1 : Int32))), .val (.int x4)]) rfl hr) ?_
            show Go p.tables e below _ (T36.setTop (mkF m 41 #[.val (.ref a1), .val (.int ((4 : Int32) + (1 : Int32))), .val (.ref a3), .val (.int ((4 : Int32) + (1 : Int32))), .val (.int (5 : Int32)), .val (.int ((4 : Int32) + (1 : Int32))), .val (.int x4)] []))
            refine Go.st (fun U hr => XS.goto X36.here hx rfl (pc0 := 41) (pc' := 3) rfl (hb hby d7_41) (by decide) (by decide) hr) ?_
            show Go p.tables e below _ (T36.setTop (mkF m 3 #[.val (.ref a1), .val (.int ((4 : Int32) + (1 : Int32))), .val (.ref a3), .val (.int ((4 : Int32) + (1 : Int32))), .val (.int (5 : Int32)), .val (.int ((4 : Int32) + (1 : Int32))), .val (.int x4)] []))
            rw [show ((4 : Int32) + (1 : Int32)) = (5 : Int32) from by decide]
            show Go p.tables e below _ (T36.setTop (mkF m 3 #[.val (.ref a1), .val (.int (5 : Int32)), .val (.ref a3), .val (.int (5 : Int32)), .val (.int (5 : Int32)), .val (.int (5 : Int32)), .val (.int x4)] []))
            refine Go.st (fun U hr => XS.iload X36.here hx rfl (hb hby d7_3) rfl hr) ?_
            show Go p.tables e below _ (T36.setTop (mkF m 5 #[.val (.ref a1), .val (.int (5 : Int32)), .val (.ref a3), .val (.int (5 : Int32)), .val (.int (5 : Int32)), .val (.int (5 : Int32)), .val (.int x4)] [(.int (5 : Int32))]))
            refine Go.st (fun U hr => XS.iload X36.here hx rfl (hb hby d7_5) rfl hr) ?_
            show Go p.tables e below _ (T36.setTop (mkF m 7 #[.val (.ref a1), .val (.int (5 : Int32)), .val (.ref a3), .val (.int (5 : Int32)), .val (.int (5 : Int32)), .val (.int (5 : Int32)), .val (.int x4)] [(.int (5 : Int32)), (.int (5 : Int32))]))
            refine Go.st (fun U hr => XS.icmpYes X36.here hx rfl (pc0 := 7) (pc' := 44) rfl (hb hby d7_7) rfl (by decide) (by decide) (by decide) hr) ?_
            show Go p.tables e below _ (T36.setTop (mkF m 44 #[.val (.ref a1), .val (.int (5 : Int32)), .val (.ref a3), .val (.int (5 : Int32)), .val (.int (5 : Int32)), .val (.int (5 : Int32)), .val (.int x4)] []))
            refine Go.st (fun U hr => XS.iload X36.here hx rfl (hb hby d7_44) rfl hr) ?_
            show Go p.tables e below _ (T36.setTop (mkF m 46 #[.val (.ref a1), .val (.int (5 : Int32)), .val (.ref a3), .val (.int (5 : Int32)), .val (.int (5 : Int32)), .val (.int (5 : Int32)), .val (.int x4)] [(.int (5 : Int32))]))
            exact own_retO X36 hx Bd.notSynchronized (t := .int) Bd.returns rfl (Or.inl ⟨rfl, Or.inl rfl, _, rfl⟩) (hb hby d7_46) (by rw [e36]; exact ⟨_, rfl, N36, k37, Or.inl ⟨rfl, ⟨hc20_2, hc20_10, hc20_18, hc20_26, hc20_34⟩, V36⟩⟩) (by decide) (by decide)
theorem d6_0 : decode jdk_52_method_16_code 0 = .ok (.iload_n 2, 1) := by decide +kernel
theorem d6_1 : decode jdk_52_method_16_code 1 = .ok (.newarray .byte, 2) := by decide +kernel
theorem d6_3 : decode jdk_52_method_16_code 3 = .ok (.astore_n 3, 1) := by decide +kernel
theorem d6_4 : decode jdk_52_method_16_code 4 = .ok (.aload_n 0, 1) := by decide +kernel
theorem d6_5 : decode jdk_52_method_16_code 5 = .ok (.iload_n 1, 1) := by decide +kernel
theorem d6_6 : decode jdk_52_method_16_code 6 = .ok (.aload_n 3, 1) := by decide +kernel
theorem d6_7 : decode jdk_52_method_16_code 7 = .ok (.iconst 0, 1) := by decide +kernel
theorem d6_8 : decode jdk_52_method_16_code 8 = .ok (.iload_n 2, 1) := by decide +kernel
theorem d6_9 : decode jdk_52_method_16_code 9 = .ok (.invokestatic 115, 3) := by decide +kernel
theorem d6_12 : decode jdk_52_method_16_code 12 = .ok (.istore 4, 2) := by decide +kernel
theorem d6_14 : decode jdk_52_method_16_code 14 = .ok (.iload 4, 2) := by decide +kernel
theorem d6_16 : decode jdk_52_method_16_code 16 = .ok (.iload_n 2, 1) := by decide +kernel
theorem d6_17 : decode jdk_52_method_16_code 17 = .ok (.if_icmp .eq 40, 3) := by decide +kernel
theorem d6_20 : decode jdk_52_method_16_code 20 = .ok (.aload_n 0, 1) := by decide +kernel
theorem d6_21 : decode jdk_52_method_16_code 21 = .ok (.iload_n 1, 1) := by decide +kernel
theorem d6_22 : decode jdk_52_method_16_code 22 = .ok (.iload_n 2, 1) := by decide +kernel
theorem d6_23 : decode jdk_52_method_16_code 23 = .ok (.invokestatic 119, 3) := by decide +kernel
theorem d6_26 : decode jdk_52_method_16_code 26 = .ok (.astore 5, 2) := by decide +kernel
theorem d6_28 : decode jdk_52_method_16_code 28 = .ok (.aload 5, 2) := by decide +kernel
theorem d6_30 : decode jdk_52_method_16_code 30 = .ok (.iload 4, 2) := by decide +kernel
theorem d6_32 : decode jdk_52_method_16_code 32 = .ok (.invokestatic 71, 3) := by decide +kernel
theorem d6_35 : decode jdk_52_method_16_code 35 = .ok (.sipush 255, 3) := by decide +kernel
theorem d6_38 : decode jdk_52_method_16_code 38 = .ok (.if_icmp .gt 16, 3) := by decide +kernel
theorem d6_54 : decode jdk_52_method_16_code 54 = .ok (.aload 5, 2) := by decide +kernel
theorem d6_56 : decode jdk_52_method_16_code 56 = .ok (.areturn, 1) := by decide +kernel
theorem d6_57 : decode jdk_52_method_16_code 57 = .ok (.aload_n 3, 1) := by decide +kernel
theorem d6_58 : decode jdk_52_method_16_code 58 = .ok (.areturn, 1) := by decide +kernel
theorem pn_6 : plainFor (⟨"java/lang/StringUTF16", "compress", "([CII)[B"⟩ : MethodName) = true := plainFor_of_name (by first | (simp [plainName, overriddenIn]; done) | decide +kernel)
theorem ef_6 (m : MethodId) (x0 : Addr) (x1 : Int32) (x2 : Int32) : entryFrame m #[(.ref x0), (.int x1), (.int x2)] 6 = mkF m 0 #[.val (.ref x0), .val (.int x1), .val (.int x2), .unset, .unset, .unset] [] := by first | (simp [entryFrame, mkF, argsToLocals, Value.category]; done) | rfl
theorem pd_13 : parseMethodDescriptor "([CI[BII)I" = some ⟨[(.array .char), .int, (.array .byte), .int, .int], some .int⟩ := by decide +kernel
theorem pd_14 : parseMethodDescriptor "([CII)[B" = some ⟨[(.array .char), .int, .int], some (.array .byte)⟩ := by decide +kernel
def Q6 (Z : State) (a1 : Addr) (wc : Int32) (sf : Option Addr) (kc : ClassId) (x0 : Int32) (x1 : Int32) (x2 : Int32) (x3 : Int32) (x4 : Int32) (h0 : Heap) (n0 : Nat) (v : Option Value) (h : Heap) (L : List Loc) : Prop := ∃ r : Addr, v = some (.ref r) ∧ Fr n0 L ∧ h0.size ≤ r ∧ Keep h0 h [] ∧ ∃ (kb : ClassId) (cd zn : Int32) (ys : List Int32), Arv Z h r kb .byte zn (ys.map Value.int) (.int (0 : Int32)) ∧ zn.toInt = ys.length ∧ own_enc cd ys [x0, x1, x2, x3, x4] ∧ (cd = 0 ∨ ∃ i : Nat, i < 5 ∧ 255 < own_c [x0, x1, x2, x3, x4] i)
set_option maxRecDepth 65536 in
set_option maxHeartbeats 40000000 in
theorem rm6 (l : Launch) (Z : State) (a0 : Array Value) (hw : ∀ d ∈ tables_1, d.before a0 Z = true) (ws : List Jvm.Cond) (a1 : Addr) (wc : Int32) (sf : Option Addr) (kc : ClassId) (x0 : Int32) (x1 : Int32) (x2 : Int32) (x3 : Int32) (x4 : Int32) (h0 : Heap) (n0 : Nat) (Z0 : n0 ≤ h0.size) (hS : own_Sts Z h0 wc sf) (V1 : Arv Z h0 a1 kc .char (5 : Int32) [(.int x0), (.int x1), (.int x2), (.int x3), (.int x4)] (.int (0 : Int32))) (hch : own_ch5 x0 x1 x2 x3 x4) :
    MetFree l (⟨"java/lang/StringUTF16", "compress", "([CII)[B"⟩ : MethodName) (head1 (Jvm.Cond.code (⟨"java/lang/StringUTF16", "compress", "([CII)[B"⟩ : MethodName) jdk_52_method_16_code 6 (some (.array .byte)) :: ws) ({ frames := 3, cells := 2, slots := 15, locals := 40 } : Room)) (fun a U => a = #[(.ref a1), (.int (0 : Int32)), (.int (5 : Int32))] ∧ Z.Warmed39 U.vm ∧ U.heap = h0) (fun _ _ _ _ _ => True) (fun _ U o U' => ∃ v L, o = .returned v ∧ Q6 Z a1 wc sf kc x0 x1 x2 x3 x4 h0 n0 v U'.heap L ∧ FrameEnd U o U' L ({ frames := 3, cells := 2, slots := 15, locals := 40 } : Room).cells ({ frames := 3, cells := 2, slots := 15, locals := 40 } : Room).slots) := by
  refine MetFree.of_bodySF pn_6 hisR ?_
  intro p e s m args below meth c s₁ Bd hml0 hP hK
  obtain ⟨rfl, hZ, hh⟩ := hP
  have hx := Bd.exec
  have hby := Bd.bytes
  have hml : c.maxLocals = 6 := hml0
  have hown : s.vm.findClass "java/lang/StringUTF16" = some m.cls := findClass_of_methodNamed Bd.named
  have hnm := (name_of_methodNamed Bd.named Bd.method).1
  have X0 : Stand p l e ({ frames := 3, cells := 2, slots := 15, locals := 40 } : Room) s m #[(.ref a1), (.int (0 : Int32)), (.int (5 : Int32))] below meth c s₁ [] 0 0 := Stand.of_body Bd
  have e0 : s₁.heap = h0 := by rw [← hh, Bd.state]; rfl
  have N0 := Fr.nil n0
  refine own_start (Q := Q6 Z a1 wc sf kc x0 x1 x2 x3 x4 h0 n0) (own_cast (ef_6 m a1 (0 : Int32) (5 : Int32)) ?_)
  obtain ⟨S1, hwc, S2, S3, S4, S5⟩ := id hS
  show Go p.tables e below _ (s₁.setTop (mkF m 0 #[.val (.ref a1), .val (.int (0 : Int32)), .val (.int (5 : Int32)), .unset, .unset, .unset] []))
  refine Go.st (fun U hr => XS.iloadN X0.here hx rfl (hb hby d6_0) rfl hr) ?_
  show Go p.tables e below _ (s₁.setTop (mkF m 1 #[.val (.ref a1), .val (.int (0 : Int32)), .val (.int (5 : Int32)), .unset, .unset, .unset] [(.int (5 : Int32))]))
  obtain ⟨T1, h1, k1, X1, e1, E1, A1, st1⟩ := newP X0 hx hZ (hw _ (List.mem_of_getElem? (i := 27) rfl)) e0 (g := (mkF m 1 #[.val (.ref a1), .val (.int (0 : Int32)), .val (.int (5 : Int32)), .unset, .unset, .unset] [(.int (5 : Int32))])) rfl (hb hby d6_1) rfl (by decide) (cap := 5) (by decide) (by decide) (by decide) (by decide)
  obtain ⟨b1, g1⟩ : ∃ z, z = h0.size := ⟨_, rfl⟩
  rw [← g1] at A1 st1
  refine Go.st st1 ?_
  have gb1 : n0 ≤ b1 := Nat.le_trans Z0 (Nat.le_of_eq g1.symm)
  have sb1 : h0.size ≤ b1 := Nat.le_trans ((Keep.refl h0 [])).1 (Nat.le_of_eq g1.symm)
  have k2 := ((Keep.refl h0 [])).ext E1
  have n3 : a1 ≠ b1 := Nat.ne_of_lt (Nat.lt_of_lt_of_le (V1).lt (Nat.le_of_eq g1.symm))
  have f4 := (S1).ext E1
  have f5 := (S2).ext E1
  have f6 := (S3).ext E1
  have f7 := (S4).ext E1
  have f8 := (S5).ext E1
  have f9 := (V1).ext E1
  have z10 := Nat.le_trans Z0 E1.1
  have V1 : Arv Z h1 b1 k1 .byte (5 : Int32) [(.int (0 : Int32)), (.int (0 : Int32)), (.int (0 : Int32)), (.int (0 : Int32)), (.int (0 : Int32))] (.int (0 : Int32)) := (Arv.new A1 (by decide)).pad (pad_rep [] (.int (0 : Int32)) 5)
  show Go p.tables e below _ (T1.setTop (mkF m 3 #[.val (.ref a1), .val (.int (0 : Int32)), .val (.int (5 : Int32)), .unset, .unset, .unset] [(.ref b1)]))
  refine Go.st (fun U hr => XS.astoreN X1.here hx rfl (hb hby d6_3) rfl rfl (l' := #[.val (.ref a1), .val (.int (0 : Int32)), .val (.int (5 : Int32)), .val (.ref b1), .unset, .unset]) rfl hr) ?_
  show Go p.tables e below _ (T1.setTop (mkF m 4 #[.val (.ref a1), .val (.int (0 : Int32)), .val (.int (5 : Int32)), .val (.ref b1), .unset, .unset] []))
  refine Go.st (fun U hr => XS.aloadN X1.here hx rfl (hb hby d6_4) rfl rfl hr) ?_
  show Go p.tables e below _ (T1.setTop (mkF m 5 #[.val (.ref a1), .val (.int (0 : Int32)), .val (.int (5 : Int32)), .val (.ref b1), .unset, .unset] [(.ref a1)]))
  refine Go.st (fun U hr => XS.iloadN X1.here hx rfl (hb hby d6_5) rfl hr) ?_
  show Go p.tables e below _ (T1.setTop (mkF m 6 #[.val (.ref a1), .val (.int (0 : Int32)), .val (.int (5 : Int32)), .val (.ref b1), .unset, .unset] [(.int (0 : Int32)), (.ref a1)]))
  refine Go.st (fun U hr => XS.aloadN X1.here hx rfl (hb hby d6_6) rfl rfl hr) ?_
  show Go p.tables e below _ (T1.setTop (mkF m 7 #[.val (.ref a1), .val (.int (0 : Int32)), .val (.int (5 : Int32)), .val (.ref b1), .unset, .unset] [(.ref b1), (.int (0 : Int32)), (.ref a1)]))
  refine Go.st (fun U hr => XS.iconst X1.here hx rfl (hb hby d6_7) hr) ?_
  show Go p.tables e below _ (T1.setTop (mkF m 8 #[.val (.ref a1), .val (.int (0 : Int32)), .val (.int (5 : Int32)), .val (.ref b1), .unset, .unset] [(.int (0 : Int32)), (.ref b1), (.int (0 : Int32)), (.ref a1)]))
  refine Go.st (fun U hr => XS.iloadN X1.here hx rfl (hb hby d6_8) rfl hr) ?_
  show Go p.tables e below _ (T1.setTop (mkF m 9 #[.val (.ref a1), .val (.int (0 : Int32)), .val (.int (5 : Int32)), .val (.ref b1), .unset, .unset] [(.int (5 : Int32)), (.int (0 : Int32)), (.ref b1), (.int (0 : Int32)), (.ref a1)]))
  obtain ⟨_, _, ⟨T11, L11, k11, n11⟩, -, X11, ⟨Lc11, hQ11, l11, y11, z11⟩, st11⟩ := Jvm.LawKit.callS X1 hx (y := (⟨"java/lang/StringUTF16", "compress", "([CI[BII)I"⟩ : MethodName)) hown (mvT hZ (hw _ (List.mem_of_getElem? (i := 28) rfl))) (mvT hZ (hw _ (List.mem_of_getElem? (i := 29) rfl))) (mvT hZ (hw _ (List.mem_of_getElem? (i := 25) rfl))) (mvT hZ (hw _ (List.mem_of_getElem? (i := 30) rfl))) (by decide) (backOf (W := 0) (rm7 l Z a0 hw [] a1 b1 kc k1 x0 x1 x2 x3 x4 h1 n0 z10 f9 V1 n3 gb1) hZ (hw _ (List.mem_of_getElem? (i := 30) rfl)) (hw _ (List.mem_of_getElem? (i := 25) rfl)) (by decide) (by decide)) (g := (mkF m 9 #[.val (.ref a1), .val (.int (0 : Int32)), .val (.int (5 : Int32)), .val (.ref b1), .unset, .unset] [(.int (5 : Int32)), (.int (0 : Int32)), (.ref b1), (.int (0 : Int32)), (.ref a1)])) rfl (by rw [hml]; rfl) (argsL := [(.ref a1), (.int (0 : Int32)), (.ref b1), (.int (0 : Int32)), (.int (5 : Int32))]) (rest := []) (lenOf pd_13 rfl) rfl (by show 2 * 0 + _ ≤ _; exact Nat.le_of_eq rfl) (hb hby d6_9) (fun _ _ => ⟨rfl, e1, (by decide : 1 + 0 ≤ _), (by decide : 5 + 0 ≤ _)⟩)
  dsimp only [Pt.U, Pt.locs, Pt.cells, Pt.slots] at X11 l11 y11 z11 st11 hQ11
  subst l11 y11 z11
  obtain ⟨i11, rfl, Nq11, Kq11, hor11⟩ := hQ11
  have N11 := Fr.app N0 Nq11
  refine Go.st st11 ?_
  show Go p.tables e below _ (T11.setTop (mkF m 12 #[.val (.ref a1), .val (.int (0 : Int32)), .val (.int (5 : Int32)), .val (.ref b1), .unset, .unset] [(.int i11)]))
  have f12 := own_stk Kq11 (allS (own_nsV V1) all0) f4
  have f13 := own_stk Kq11 (allS (own_nsV V1) all0) f5
  have f14 := own_stk Kq11 (allS (own_nsV V1) all0) f6
  have f15 := own_stk Kq11 (allS (own_nsV V1) all0) f7
  have f16 := own_stk Kq11 (allS (own_nsV V1) all0) f8
  have f17 := (f9).keep Kq11 (ninS n3 nin0)
  have k19 := (k2).trans Kq11 (allS (Or.inr sb1) all0)
  have z20 := Nat.le_trans z10 Kq11.1
  refine Go.st (fun U hr => XS.istore X11.here hx rfl (hb hby d6_12) rfl (l' := #[.val (.ref a1), .val (.int (0 : Int32)), .val (.int (5 : Int32)), .val (.ref b1), .val (.int i11), .unset]) rfl hr) ?_
  show Go p.tables e below _ (T11.setTop (mkF m 14 #[.val (.ref a1), .val (.int (0 : Int32)), .val (.int (5 : Int32)), .val (.ref b1), .val (.int i11), .unset] []))
  refine Go.st (fun U hr => XS.iload X11.here hx rfl (hb hby d6_14) rfl hr) ?_
  show Go p.tables e below _ (T11.setTop (mkF m 16 #[.val (.ref a1), .val (.int (0 : Int32)), .val (.int (5 : Int32)), .val (.ref b1), .val (.int i11), .unset] [(.int i11)]))
  refine Go.st (fun U hr => XS.iloadN X11.here hx rfl (hb hby d6_16) rfl hr) ?_
  show Go p.tables e below _ (T11.setTop (mkF m 17 #[.val (.ref a1), .val (.int (0 : Int32)), .val (.int (5 : Int32)), .val (.ref b1), .val (.int i11), .unset] [(.int (5 : Int32)), (.int i11)]))
  by_cases hc17_21 : i11 = (5 : Int32)
  · refine Go.st (fun U hr => XS.icmpYes X11.here hx rfl (pc0 := 17) (pc' := 57) rfl (hb hby d6_17) rfl (teq hc17_21).1 (by decide) (by decide) hr) ?_
    show Go p.tables e below _ (T11.setTop (mkF m 57 #[.val (.ref a1), .val (.int (0 : Int32)), .val (.int (5 : Int32)), .val (.ref b1), .val (.int i11), .unset] []))
    refine Go.st (fun U hr => XS.aloadN X11.here hx rfl (hb hby d6_57) rfl rfl hr) ?_
    show Go p.tables e below _ (T11.setTop (mkF m 58 #[.val (.ref a1), .val (.int (0 : Int32)), .val (.int (5 : Int32)), .val (.ref b1), .val (.int i11), .unset] [(.ref b1)]))
    obtain ⟨-, hl5, Vl5⟩ := hor11.resolve_right (fun q => q.1 hc17_21)
    exact own_retO X11 hx Bd.notSynchronized (t := (.array .byte)) Bd.returns rfl (Or.inr (Or.inr (Or.inr (Or.inr ⟨rfl, rfl, rfl⟩)))) (hb hby d6_58) ⟨_, rfl, N11, sb1, k19, _, _, _, _, Vl5, rfl, own_encL hch hl5, Or.inl rfl⟩ (by decide) (by decide)
  · refine Go.st (fun U hr => XS.icmpNo X11.here hx rfl (hb hby d6_17) rfl (feq hc17_21).1 hr) ?_
    show Go p.tables e below _ (T11.setTop (mkF m 20 #[.val (.ref a1), .val (.int (0 : Int32)), .val (.int (5 : Int32)), .val (.ref b1), .val (.int i11), .unset] []))
    obtain ⟨-, ii, hi1, hi2, hi3⟩ := hor11.resolve_left (fun q => hc17_21 q.1)
    refine Go.st (fun U hr => XS.aloadN X11.here hx rfl (hb hby d6_20) rfl rfl hr) ?_
    show Go p.tables e below _ (T11.setTop (mkF m 21 #[.val (.ref a1), .val (.int (0 : Int32)), .val (.int (5 : Int32)), .val (.ref b1), .val (.int i11), .unset] [(.ref a1)]))
    refine Go.st (fun U hr => XS.iloadN X11.here hx rfl (hb hby d6_21) rfl hr) ?_
    show Go p.tables e below _ (T11.setTop (mkF m 22 #[.val (.ref a1), .val (.int (0 : Int32)), .val (.int (5 : Int32)), .val (.ref b1), .val (.int i11), .unset] [(.int (0 : Int32)), (.ref a1)]))
    refine Go.st (fun U hr => XS.iloadN X11.here hx rfl (hb hby d6_22) rfl hr) ?_
    show Go p.tables e below _ (T11.setTop (mkF m 23 #[.val (.ref a1), .val (.int (0 : Int32)), .val (.int (5 : Int32)), .val (.ref b1), .val (.int i11), .unset] [(.int (5 : Int32)), (.int (0 : Int32)), (.ref a1)]))
    obtain ⟨_, _, ⟨T22, L22, k22, n22⟩, -, X22, ⟨Lc22, hQ22, l22, y22, z22⟩, st22⟩ := Jvm.LawKit.callS X11 hx (y := (⟨"java/lang/StringUTF16", "toBytes", "([CII)[B"⟩ : MethodName)) hown (mvT hZ (hw _ (List.mem_of_getElem? (i := 116) rfl))) (mvT hZ (hw _ (List.mem_of_getElem? (i := 117) rfl))) (mvT hZ (hw _ (List.mem_of_getElem? (i := 25) rfl))) (mvT hZ (hw _ (List.mem_of_getElem? (i := 118) rfl))) (by decide) (backOf (W := 0) (rm27 l Z a0 hw [] a1 wc sf kc x0 x1 x2 x3 x4 T11.heap n0 z20 ⟨f12, hwc, f13, f14, f15, f16⟩ f17) hZ (hw _ (List.mem_of_getElem? (i := 118) rfl)) (hw _ (List.mem_of_getElem? (i := 25) rfl)) (by decide) (by decide)) (g := (mkF m 23 #[.val (.ref a1), .val (.int (0 : Int32)), .val (.int (5 : Int32)), .val (.ref b1), .val (.int i11), .unset] [(.int (5 : Int32)), (.int (0 : Int32)), (.ref a1)])) rfl (by rw [hml]; rfl) (argsL := [(.ref a1), (.int (0 : Int32)), (.int (5 : Int32))]) (rest := []) (lenOf pd_14 rfl) rfl (by show 2 * 0 + _ ≤ _; exact Nat.le_of_eq rfl) (hb hby d6_23) (fun _ _ => ⟨rfl, rfl, (by decide : 1 + 1 ≤ _), (by decide : 5 + 10 ≤ _)⟩)
    dsimp only [Pt.U, Pt.locs, Pt.cells, Pt.slots] at X22 l22 y22 z22 st22 hQ22
    subst l22 y22 z22
    obtain ⟨r22, rfl, Nq22, sr22, Kq22, Vq22'⟩ := hQ22
    have N22 := Fr.app N11 Nq22
    refine Go.st st22 ?_
    show Go p.tables e below _ (T22.setTop (mkF m 26 #[.val (.ref a1), .val (.int (0 : Int32)), .val (.int (5 : Int32)), .val (.ref b1), .val (.int i11), .unset] [(.ref r22)]))
    have f23 := own_stk Kq22 all0 f12
    have f24 := own_stk Kq22 all0 f13
    have f25 := own_stk Kq22 all0 f14
    have f26 := own_stk Kq22 all0 f15
    have f27 := own_stk Kq22 all0 f16
    have f28 := (f17).keep Kq22 nin0
    have k29 := (k19).trans Kq22 all0
    have z30 := Nat.le_trans z20 Kq22.1
    obtain ⟨kb22, Vq22⟩ := Vq22'
    have gb_r22 : n0 ≤ r22 := Nat.le_trans z20 sr22
    have sz_r22 : h0.size ≤ r22 := Nat.le_trans (k19).1 sr22
    have n31 : a1 ≠ r22 := Nat.ne_of_lt (Nat.lt_of_lt_of_le (f17).lt sr22)
    refine Go.st (fun U hr => XS.astore X22.here hx rfl (hb hby d6_26) rfl rfl (l' := #[.val (.ref a1), .val (.int (0 : Int32)), .val (.int (5 : Int32)), .val (.ref b1), .val (.int i11), .val (.ref r22)]) rfl hr) ?_
    show Go p.tables e below _ (T22.setTop (mkF m 28 #[.val (.ref a1), .val (.int (0 : Int32)), .val (.int (5 : Int32)), .val (.ref b1), .val (.int i11), .val (.ref r22)] []))
    refine Go.st (fun U hr => XS.aload X22.here hx rfl (hb hby d6_28) rfl rfl hr) ?_
    show Go p.tables e below _ (T22.setTop (mkF m 30 #[.val (.ref a1), .val (.int (0 : Int32)), .val (.int (5 : Int32)), .val (.ref b1), .val (.int i11), .val (.ref r22)] [(.ref r22)]))
    refine Go.st (fun U hr => XS.iload X22.here hx rfl (hb hby d6_30) rfl hr) ?_
    show Go p.tables e below _ (T22.setTop (mkF m 32 #[.val (.ref a1), .val (.int (0 : Int32)), .val (.int (5 : Int32)), .val (.ref b1), .val (.int i11), .val (.ref r22)] [(.int i11), (.ref r22)]))
    obtain ⟨_, _, ⟨T32, L32, k32, n32⟩, -, X32, ⟨Lc32, hQ32, l32, y32, z32⟩, st32⟩ := Jvm.LawKit.callS X22 hx (y := (⟨"java/lang/StringUTF16", "getChar", "([BI)C"⟩ : MethodName)) hown (mvT hZ (hw _ (List.mem_of_getElem? (i := 132) rfl))) (mvT hZ (hw _ (List.mem_of_getElem? (i := 133) rfl))) (mvT hZ (hw _ (List.mem_of_getElem? (i := 25) rfl))) (mvT hZ (hw _ (List.mem_of_getElem? (i := 134) rfl))) (by decide) (backOf (W := 0) (rm31 l Z a0 hw [] r22 i11 wc sf kb22 (10 : Int32) [(own_lo x0), (own_hi x0), (own_lo x1), (own_hi x1), (own_lo x2), (own_hi x2), (own_lo x3), (own_hi x3), (own_lo x4), (own_hi x4)] ii T22.heap n0 z30 ⟨f23, hwc, f24, f25, f26, f27⟩ Vq22 rfl (Nat.le_of_ble_eq_true rfl) hi1 (by show _ < 10; omega)) hZ (hw _ (List.mem_of_getElem? (i := 134) rfl)) (hw _ (List.mem_of_getElem? (i := 25) rfl)) (by decide) (by decide)) (g := (mkF m 32 #[.val (.ref a1), .val (.int (0 : Int32)), .val (.int (5 : Int32)), .val (.ref b1), .val (.int i11), .val (.ref r22)] [(.int i11), (.ref r22)])) rfl (by rw [hml]; rfl) (argsL := [(.ref r22), (.int i11)]) (rest := []) (lenOf pd_8 rfl) rfl (by show 2 * 0 + _ ≤ _; exact Nat.le_of_eq rfl) (hb hby d6_32) (fun _ _ => ⟨rfl, rfl, (by decide : 2 + 0 ≤ _), (by decide : 15 + 0 ≤ _)⟩)
    dsimp only [Pt.U, Pt.locs, Pt.cells, Pt.slots] at X32 l32 y32 z32 st32 hQ32
    subst l32 y32 z32
    obtain ⟨rfl, Nq32, ee32⟩ := hQ32
    have N32 := Fr.app N22 Nq32
    refine Go.st st32 ?_
    show Go p.tables e below _ (T32.setTop (mkF m 35 #[.val (.ref a1), .val (.int (0 : Int32)), .val (.int (5 : Int32)), .val (.ref b1), .val (.int i11), .val (.ref r22)] [(.int (own_gc (own_c [(own_lo x0), (own_hi x0), (own_lo x1), (own_hi x1), (own_lo x2), (own_hi x2), (own_lo x3), (own_hi x3), (own_lo x4), (own_hi x4)] (2 * ii)) (own_c [(own_lo x0), (own_hi x0), (own_lo x1), (own_hi x1), (own_lo x2), (own_hi x2), (own_lo x3), (own_hi x3), (own_lo x4), (own_hi x4)] (2 * ii + 1))))]))
    refine Go.st (fun U hr => XS.sipush X32.here hx rfl (hb hby d6_35) hr) ?_
    show Go p.tables e below _ (T32.setTop (mkF m 38 #[.val (.ref a1), .val (.int (0 : Int32)), .val (.int (5 : Int32)), .val (.ref b1), .val (.int i11), .val (.ref r22)] [(.int (255 : Int32)), (.int (own_gc (own_c [(own_lo x0), (own_hi x0), (own_lo x1), (own_hi x1), (own_lo x2), (own_hi x2), (own_lo x3), (own_hi x3), (own_lo x4), (own_hi x4)] (2 * ii)) (own_c [(own_lo x0), (own_hi x0), (own_lo x1), (own_hi x1), (own_lo x2), (own_hi x2), (own_lo x3), (own_hi x3), (own_lo x4), (own_hi x4)] (2 * ii + 1))))]))
    have hc38_33 : (255 : Int32) < (own_gc (own_c [(own_lo x0), (own_hi x0), (own_lo x1), (own_hi x1), (own_lo x2), (own_hi x2), (own_lo x3), (own_hi x3), (own_lo x4), (own_hi x4)] (2 * ii)) (own_c [(own_lo x0), (own_hi x0), (own_lo x1), (own_hi x1), (own_lo x2), (own_hi x2), (own_lo x3), (own_hi x3), (own_lo x4), (own_hi x4)] (2 * ii + 1))) := by
      have q := ((own_encU hch).utf (by decide)).2 ii hi2
      rw [q.1, q.2, own_gcc _ ((own_encU hch).1 ii hi2)]; exact hi3
    refine Go.st (fun U hr => XS.icmpYes X32.here hx rfl (pc0 := 38) (pc' := 54) rfl (hb hby d6_38) rfl (tlt hc38_33).2.2.1 (by decide) (by decide) hr) ?_
    show Go p.tables e below _ (T32.setTop (mkF m 54 #[.val (.ref a1), .val (.int (0 : Int32)), .val (.int (5 : Int32)), .val (.ref b1), .val (.int i11), .val (.ref r22)] []))
    refine Go.st (fun U hr => XS.aload X32.here hx rfl (hb hby d6_54) rfl rfl hr) ?_
    show Go p.tables e below _ (T32.setTop (mkF m 56 #[.val (.ref a1), .val (.int (0 : Int32)), .val (.int (5 : Int32)), .val (.ref b1), .val (.int i11), .val (.ref r22)] [(.ref r22)]))
    exact own_retO X32 hx Bd.notSynchronized (t := (.array .byte)) Bd.returns rfl (Or.inr (Or.inr (Or.inr (Or.inr ⟨rfl, rfl, rfl⟩)))) (hb hby d6_56) (by rw [ee32]; exact ⟨_, rfl, N32, sz_r22, k29, _, _, _, _, Vq22, rfl, own_encU hch, Or.inr ⟨ii, hi2, hi3⟩⟩) (by decide) (by decide)
theorem d8_0 : decode jdk_52_method_15_code 0 = .ok (.iload_n 1, 1) := by decide +kernel
theorem d8_1 : decode jdk_52_method_15_code 1 = .ok (.aload_n 0, 1) := by decide +kernel
theorem d8_2 : decode jdk_52_method_15_code 2 = .ok (.arraylength, 1) := by decide +kernel
theorem d8_3 : decode jdk_52_method_15_code 3 = .ok (.isub, 1) := by decide +kernel
theorem d8_4 : decode jdk_52_method_15_code 4 = .ok (.bipush 31, 2) := by decide +kernel
theorem d8_6 : decode jdk_52_method_15_code 6 = .ok (.iushr, 1) := by decide +kernel
theorem d8_7 : decode jdk_52_method_15_code 7 = .ok (.i2b, 1) := by decide +kernel
theorem d8_8 : decode jdk_52_method_15_code 8 = .ok (.ireturn, 1) := by decide +kernel
theorem pn_8 : plainFor (⟨"java/lang/StringUTF16", "coderFromArrayLen", "([BI)B"⟩ : MethodName) = true := plainFor_of_name (by first | (simp [plainName, overriddenIn]; done) | decide +kernel)
theorem ef_8 (m : MethodId) (x0 : Addr) (x1 : Int32) : entryFrame m #[(.ref x0), (.int x1)] 2 = mkF m 0 #[.val (.ref x0), .val (.int x1)] [] := by first | (simp [entryFrame, mkF, argsToLocals, Value.category]; done) | rfl
def Q8 (Z : State) (a1 : Addr) (p2 : Int32) (kb : ClassId) (zn : Int32) (ys : List Int32) (cd : Int32) (cs : List Int32) (h0 : Heap) (n0 : Nat) (v : Option Value) (h : Heap) (L : List Loc) : Prop := v = some (.int cd) ∧ Fr n0 L ∧ h = h0
set_option maxRecDepth 65536 in
set_option maxHeartbeats 40000000 in
theorem rm8 (l : Launch) (Z : State) (a0 : Array Value) (hw : ∀ d ∈ tables_1, d.before a0 Z = true) (ws : List Jvm.Cond) (a1 : Addr) (p2 : Int32) (kb : ClassId) (zn : Int32) (ys : List Int32) (cd : Int32) (cs : List Int32) (h0 : Heap) (n0 : Nat) (Z0 : n0 ≤ h0.size) (V1 : Arv Z h0 a1 kb .byte zn (ys.map Value.int) (.int (0 : Int32))) (hz : zn.toInt = ys.length) (hz2 : ys.length ≤ 100) (hen : own_enc cd ys cs) (hp : p2.toInt = cs.length) (h0' : 0 < cs.length) (h5 : cs.length ≤ 5) :
    MetFree l (⟨"java/lang/StringUTF16", "coderFromArrayLen", "([BI)B"⟩ : MethodName) (head1 (Jvm.Cond.code (⟨"java/lang/StringUTF16", "coderFromArrayLen", "([BI)B"⟩ : MethodName) jdk_52_method_15_code 2 (some .byte) :: ws) ({ frames := 0, cells := 0, slots := 0, locals := 0 } : Room)) (fun a U => a = #[(.ref a1), (.int p2)] ∧ Z.Warmed39 U.vm ∧ U.heap = h0) (fun _ _ _ _ _ => True) (fun _ U o U' => ∃ v L, o = .returned v ∧ Q8 Z a1 p2 kb zn ys cd cs h0 n0 v U'.heap L ∧ FrameEnd U o U' L ({ frames := 0, cells := 0, slots := 0, locals := 0 } : Room).cells ({ frames := 0, cells := 0, slots := 0, locals := 0 } : Room).slots) := by
  refine MetFree.of_bodySF pn_8 hisR ?_
  intro p e s m args below meth c s₁ Bd hml0 hP hK
  obtain ⟨rfl, hZ, hh⟩ := hP
  have hx := Bd.exec
  have hby := Bd.bytes
  have hml : c.maxLocals = 2 := hml0
  have hown : s.vm.findClass "java/lang/StringUTF16" = some m.cls := findClass_of_methodNamed Bd.named
  have hnm := (name_of_methodNamed Bd.named Bd.method).1
  have X0 : Stand p l e ({ frames := 0, cells := 0, slots := 0, locals := 0 } : Room) s m #[(.ref a1), (.int p2)] below meth c s₁ [] 0 0 := Stand.of_body Bd
  have e0 : s₁.heap = h0 := by rw [← hh, Bd.state]; rfl
  have N0 := Fr.nil n0
  refine own_start (Q := Q8 Z a1 p2 kb zn ys cd cs h0 n0) (own_cast (ef_8 m a1 p2) ?_)
  show Go p.tables e below _ (s₁.setTop (mkF m 0 #[.val (.ref a1), .val (.int p2)] []))
  refine Go.st (fun U hr => XS.iloadN X0.here hx rfl (hb hby d8_0) rfl hr) ?_
  show Go p.tables e below _ (s₁.setTop (mkF m 1 #[.val (.ref a1), .val (.int p2)] [(.int p2)]))
  refine Go.st (fun U hr => XS.aloadN X0.here hx rfl (hb hby d8_1) rfl rfl hr) ?_
  show Go p.tables e below _ (s₁.setTop (mkF m 2 #[.val (.ref a1), .val (.int p2)] [(.ref a1), (.int p2)]))
  obtain ⟨cl1, Ar1, qa1, Sa1, Na1, Ha1, Ga1⟩ := id V1
  refine Go.st (X0.arraylength hx (by rw [e0]; exact Ar1.1) (State.isArrayOf_alike hZ.alike Ar1.2.1) (g := (mkF m 2 #[.val (.ref a1), .val (.int p2)] [(.ref a1), (.int p2)])) rfl rfl (hb hby d8_2)) ?_
  rw [len_of Sa1 Na1]
  show Go p.tables e below _ (s₁.setTop (mkF m 3 #[.val (.ref a1), .val (.int p2)] [(.int zn), (.int p2)]))
  refine Go.st (fun U hr => XS.isub X0.here hx rfl (hb hby d8_3) rfl hr) ?_
  show Go p.tables e below _ (s₁.setTop (mkF m 4 #[.val (.ref a1), .val (.int p2)] [(.int (p2 - zn))]))
  refine Go.st (fun U hr => XS.bipush X0.here hx rfl (hb hby d8_4) hr) ?_
  show Go p.tables e below _ (s₁.setTop (mkF m 6 #[.val (.ref a1), .val (.int p2)] [(.int (31 : Int32)), (.int (p2 - zn))]))
  refine Go.st (fun U hr => XS.iushr X0.here hx rfl (hb hby d8_6) rfl hr) ?_
  show Go p.tables e below _ (s₁.setTop (mkF m 7 #[.val (.ref a1), .val (.int p2)] [(.int (((p2 - zn).toUInt32 >>> ((31 : Int32) &&& 31).toUInt32).toInt32))]))
  refine Go.st (fun U hr => XS.i2b X0.here hx rfl (hb hby d8_7) rfl hr) ?_
  show Go p.tables e below _ (s₁.setTop (mkF m 8 #[.val (.ref a1), .val (.int p2)] [(.int ((((p2 - zn).toUInt32 >>> ((31 : Int32) &&& 31).toUInt32).toInt32).toInt8.toInt32))]))
  exact own_retN X0 hx Bd.notSynchronized (t := .byte) Bd.returns (by simp) (hb hby d8_8) ⟨congrArg (fun z => some (Value.int z)) (own_cfa hen hz hp h0' h5), N0, e0⟩ (by decide) (by decide)
theorem d4_0 : decode jdk_42_method_149_code 0 = .ok (.aload_n 0, 1) := by decide +kernel
theorem d4_1 : decode jdk_42_method_149_code 1 = .ok (.invokespecial 1, 3) := by decide +kernel
theorem d4_4 : decode jdk_42_method_149_code 4 = .ok (.iload_n 3, 1) := by decide +kernel
theorem d4_5 : decode jdk_42_method_149_code 5 = .ok (.ifCond .ne 22, 3) := by decide +kernel
theorem d4_27 : decode jdk_42_method_149_code 27 = .ok (.getstatic 38, 3) := by decide +kernel
theorem d4_30 : decode jdk_42_method_149_code 30 = .ok (.ifCond .eq 28, 3) := by decide +kernel
theorem d4_33 : decode jdk_42_method_149_code 33 = .ok (.aload_n 1, 1) := by decide +kernel
theorem d4_34 : decode jdk_42_method_149_code 34 = .ok (.iload_n 2, 1) := by decide +kernel
theorem d4_35 : decode jdk_42_method_149_code 35 = .ok (.iload_n 3, 1) := by decide +kernel
theorem d4_36 : decode jdk_42_method_149_code 36 = .ok (.invokestatic 177, 3) := by decide +kernel
theorem d4_39 : decode jdk_42_method_149_code 39 = .ok (.astore 5, 2) := by decide +kernel
theorem d4_41 : decode jdk_42_method_149_code 41 = .ok (.aload_n 0, 1) := by decide +kernel
theorem d4_42 : decode jdk_42_method_149_code 42 = .ok (.aload 5, 2) := by decide +kernel
theorem d4_44 : decode jdk_42_method_149_code 44 = .ok (.iload_n 3, 1) := by decide +kernel
theorem d4_45 : decode jdk_42_method_149_code 45 = .ok (.invokestatic 47, 3) := by decide +kernel
theorem d4_48 : decode jdk_42_method_149_code 48 = .ok (.putfield 15, 3) := by decide +kernel
theorem d4_51 : decode jdk_42_method_149_code 51 = .ok (.aload_n 0, 1) := by decide +kernel
theorem d4_52 : decode jdk_42_method_149_code 52 = .ok (.aload 5, 2) := by decide +kernel
theorem d4_54 : decode jdk_42_method_149_code 54 = .ok (.putfield 9, 3) := by decide +kernel
theorem d4_57 : decode jdk_42_method_149_code 57 = .ok (.return_, 1) := by decide +kernel
theorem pn_4 : plainFor (⟨"java/lang/String", "<init>", "([CIILjava/lang/Void;)V"⟩ : MethodName) = true := plainFor_of_name (by first | (simp [plainName, overriddenIn]; done) | decide +kernel)
theorem ef_4n (m : MethodId) (x0 : Addr) (x1 : Addr) (x2 : Int32) (x3 : Int32) : entryFrame m #[(.ref x0), (.ref x1), (.int x2), (.int x3), .null] 6 = mkF m 0 #[.val (.ref x0), .val (.ref x1), .val (.int x2), .val (.int x3), .val .null, .unset] [] := by first | (simp [entryFrame, mkF, argsToLocals, Value.category]; done) | rfl
theorem pd_15 : parseMethodDescriptor "([BI)B" = some ⟨[(.array .byte), .int], some .byte⟩ := by decide +kernel
def Q4 (Z : State) (a1 : Addr) (a2 : Addr) (wc : Int32) (sf : Option Addr) (kc : ClassId) (x0 : Int32) (x1 : Int32) (x2 : Int32) (x3 : Int32) (x4 : Int32) (h0 : Heap) (n0 : Nat) (v : Option Value) (h : Heap) (L : List Loc) : Prop := v = none ∧ Fr n0 L ∧ Keep h0 h [a1] ∧ ∃ (va : Addr) (kb : ClassId) (cd zn : Int32) (ys : List Int32), h0.size ≤ va ∧ own_Str Z h a1 va kb cd zn ys [x0, x1, x2, x3, x4] ∧ (cd = 0 ∨ ∃ i : Nat, i < 5 ∧ 255 < own_c [x0, x1, x2, x3, x4] i)
set_option maxRecDepth 65536 in
set_option maxHeartbeats 40000000 in
theorem rm4 (l : Launch) (Z : State) (a0 : Array Value) (hw : ∀ d ∈ tables_1, d.before a0 Z = true) (ws : List Jvm.Cond) (a1 : Addr) (a2 : Addr) (wc : Int32) (sf : Option Addr) (kc : ClassId) (x0 : Int32) (x1 : Int32) (x2 : Int32) (x3 : Int32) (x4 : Int32) (h0 : Heap) (n0 : Nat) (Z0 : n0 ≤ h0.size) (hS : own_Sts Z h0 wc sf) (E1 : Exa Z h0 a1 "java/lang/String") (F1 : Fld Z h0 a1 "java/lang/String" "value" "[B" .null) (F2 : Fld Z h0 a1 "java/lang/String" "coder" "B" (.int (0 : Int32))) (g1 : n0 ≤ a1) (V2 : Arv Z h0 a2 kc .char (5 : Int32) [(.int x0), (.int x1), (.int x2), (.int x3), (.int x4)] (.int (0 : Int32))) (hch : own_ch5 x0 x1 x2 x3 x4) (ne : a2 ≠ a1) :
    MetFree l (⟨"java/lang/String", "<init>", "([CIILjava/lang/Void;)V"⟩ : MethodName) (head1 (Jvm.Cond.code (⟨"java/lang/String", "<init>", "([CIILjava/lang/Void;)V"⟩ : MethodName) jdk_42_method_149_code 6 none :: ws) ({ frames := 4, cells := 2, slots := 15, locals := 57 } : Room)) (fun a U => a = #[(.ref a1), (.ref a2), (.int (0 : Int32)), (.int (5 : Int32)), .null] ∧ Z.Warmed39 U.vm ∧ U.heap = h0) (fun _ _ _ _ _ => True) (fun _ U o U' => ∃ v L, o = .returned v ∧ Q4 Z a1 a2 wc sf kc x0 x1 x2 x3 x4 h0 n0 v U'.heap L ∧ FrameEnd U o U' L ({ frames := 4, cells := 2, slots := 15, locals := 57 } : Room).cells ({ frames := 4, cells := 2, slots := 15, locals := 57 } : Room).slots) := by
  refine MetFree.of_bodySF pn_4 hisR ?_
  intro p e s m args below meth c s₁ Bd hml0 hP hK
  obtain ⟨rfl, hZ, hh⟩ := hP
  have hx := Bd.exec
  have hby := Bd.bytes
  have hml : c.maxLocals = 6 := hml0
  have hown : s.vm.findClass "java/lang/String" = some m.cls := findClass_of_methodNamed Bd.named
  have hnm := (name_of_methodNamed Bd.named Bd.method).1
  have X0 : Stand p l e ({ frames := 4, cells := 2, slots := 15, locals := 57 } : Room) s m #[(.ref a1), (.ref a2), (.int (0 : Int32)), (.int (5 : Int32)), .null] below meth c s₁ [] 0 0 := Stand.of_body Bd
  have e0 : s₁.heap = h0 := by rw [← hh, Bd.state]; rfl
  have N0 := Fr.nil n0
  refine own_start (Q := Q4 Z a1 a2 wc sf kc x0 x1 x2 x3 x4 h0 n0) (own_cast (ef_4n m a1 a2 (0 : Int32) (5 : Int32)) ?_)
  obtain ⟨S1, hwc, S2, S3, S4, S5⟩ := id hS
  show Go p.tables e below _ (s₁.setTop (mkF m 0 #[.val (.ref a1), .val (.ref a2), .val (.int (0 : Int32)), .val (.int (5 : Int32)), .val .null, .unset] []))
  refine Go.st (fun U hr => XS.aloadN X0.here hx rfl (hb hby d4_0) rfl rfl hr) ?_
  show Go p.tables e below _ (s₁.setTop (mkF m 1 #[.val (.ref a1), .val (.ref a2), .val (.int (0 : Int32)), .val (.int (5 : Int32)), .val .null, .unset] [(.ref a1)]))
  obtain ⟨T1, X1, e1, st1⟩ := initO X0 hx hZ hown (hw _ (List.mem_of_getElem? (i := 19) rfl)) (hw _ (List.mem_of_getElem? (i := 20) rfl)) (hw _ (List.mem_of_getElem? (i := 21) rfl)) e0 (g := (mkF m 1 #[.val (.ref a1), .val (.ref a2), .val (.int (0 : Int32)), .val (.int (5 : Int32)), .val .null, .unset] [(.ref a1)])) rfl (by rw [hml]; rfl) rfl (hb hby d4_1) (by decide) (W := 0) (by show 2 * 0 + _ ≤ _; exact Nat.le_of_eq rfl) (by decide)
  refine Go.st st1 ?_
  show Go p.tables e below _ (T1.setTop (mkF m 4 #[.val (.ref a1), .val (.ref a2), .val (.int (0 : Int32)), .val (.int (5 : Int32)), .val .null, .unset] []))
  refine Go.st (fun U hr => XS.iloadN X1.here hx rfl (hb hby d4_4) rfl hr) ?_
  show Go p.tables e below _ (T1.setTop (mkF m 5 #[.val (.ref a1), .val (.ref a2), .val (.int (0 : Int32)), .val (.int (5 : Int32)), .val .null, .unset] [(.int (5 : Int32))]))
  refine Go.st (fun U hr => XS.ifYes X1.here hx rfl (pc0 := 5) (pc' := 27) rfl (hb hby d4_5) rfl (by decide) (by decide) (by decide) hr) ?_
  show Go p.tables e below _ (T1.setTop (mkF m 27 #[.val (.ref a1), .val (.ref a2), .val (.int (0 : Int32)), .val (.int (5 : Int32)), .val .null, .unset] []))
  obtain ⟨T2, X2, e2, st2⟩ := getS2 X1 hx hZ hown (host := "") (Or.inl (hw _ (List.mem_of_getElem? (i := 22) rfl))) Via.refl e1 S1 (g := (mkF m 27 #[.val (.ref a1), .val (.ref a2), .val (.int (0 : Int32)), .val (.int (5 : Int32)), .val .null, .unset] [])) rfl (hb hby d4_27)
  refine Go.st st2 ?_
  show Go p.tables e below _ (T2.setTop (mkF m 30 #[.val (.ref a1), .val (.ref a2), .val (.int (0 : Int32)), .val (.int (5 : Int32)), .val .null, .unset] [(.int wc)]))
  have hc30_3 : ¬ (wc = (0 : Int32)) := hwc
  refine Go.st (fun U hr => XS.ifNo X2.here hx rfl (hb hby d4_30) rfl ((if0 _ _).trans (feq hc30_3).1) hr) ?_
  show Go p.tables e below _ (T2.setTop (mkF m 33 #[.val (.ref a1), .val (.ref a2), .val (.int (0 : Int32)), .val (.int (5 : Int32)), .val .null, .unset] []))
  refine Go.st (fun U hr => XS.aloadN X2.here hx rfl (hb hby d4_33) rfl rfl hr) ?_
  show Go p.tables e below _ (T2.setTop (mkF m 34 #[.val (.ref a1), .val (.ref a2), .val (.int (0 : Int32)), .val (.int (5 : Int32)), .val .null, .unset] [(.ref a2)]))
  refine Go.st (fun U hr => XS.iloadN X2.here hx rfl (hb hby d4_34) rfl hr) ?_
  show Go p.tables e below _ (T2.setTop (mkF m 35 #[.val (.ref a1), .val (.ref a2), .val (.int (0 : Int32)), .val (.int (5 : Int32)), .val .null, .unset] [(.int (0 : Int32)), (.ref a2)]))
  refine Go.st (fun U hr => XS.iloadN X2.here hx rfl (hb hby d4_35) rfl hr) ?_
  show Go p.tables e below _ (T2.setTop (mkF m 36 #[.val (.ref a1), .val (.ref a2), .val (.int (0 : Int32)), .val (.int (5 : Int32)), .val .null, .unset] [(.int (5 : Int32)), (.int (0 : Int32)), (.ref a2)]))
  obtain ⟨_, _, ⟨T4, L4, k4, n4⟩, -, X4, ⟨Lc4, hQ4, l4, y4, z4⟩, st4⟩ := Jvm.LawKit.callS X2 hx (y := (⟨"java/lang/StringUTF16", "compress", "([CII)[B"⟩ : MethodName)) hown (mvT hZ (hw _ (List.mem_of_getElem? (i := 23) rfl))) (mvT hZ (hw _ (List.mem_of_getElem? (i := 24) rfl))) (mvT hZ (hw _ (List.mem_of_getElem? (i := 25) rfl))) (mvT hZ (hw _ (List.mem_of_getElem? (i := 26) rfl))) (by decide) (backOf (W := 0) (rm6 l Z a0 hw [] a2 wc sf kc x0 x1 x2 x3 x4 h0 n0 Z0 ⟨S1, hwc, S2, S3, S4, S5⟩ V2 hch) hZ (hw _ (List.mem_of_getElem? (i := 26) rfl)) (hw _ (List.mem_of_getElem? (i := 25) rfl)) (by decide) (by decide)) (g := (mkF m 36 #[.val (.ref a1), .val (.ref a2), .val (.int (0 : Int32)), .val (.int (5 : Int32)), .val .null, .unset] [(.int (5 : Int32)), (.int (0 : Int32)), (.ref a2)])) rfl (by rw [hml]; rfl) (argsL := [(.ref a2), (.int (0 : Int32)), (.int (5 : Int32))]) (rest := []) (lenOf pd_14 rfl) rfl (by show 2 * 0 + _ ≤ _; exact Nat.le_of_eq rfl) (hb hby d4_36) (fun _ _ => ⟨rfl, e2, (by decide : 0 + 2 ≤ _), (by decide : 0 + 15 ≤ _)⟩)
  dsimp only [Pt.U, Pt.locs, Pt.cells, Pt.slots] at X4 l4 y4 z4 st4 hQ4
  subst l4 y4 z4
  obtain ⟨r4, rfl, Nq4, sr4, Kq4, Vq4'⟩ := hQ4
  have N4 := Fr.app N0 Nq4
  refine Go.st st4 ?_
  show Go p.tables e below _ (T4.setTop (mkF m 39 #[.val (.ref a1), .val (.ref a2), .val (.int (0 : Int32)), .val (.int (5 : Int32)), .val .null, .unset] [(.ref r4)]))
  have f5 := own_stk Kq4 all0 S1
  have f6 := own_stk Kq4 all0 S2
  have f7 := own_stk Kq4 all0 S3
  have f8 := own_stk Kq4 all0 S4
  have f9 := own_stk Kq4 all0 S5
  have f10 := (E1).keep Kq4
  have f11 := (F1).keep Kq4 nin0
  have f12 := (F2).keep Kq4 nin0
  have f13 := (V2).keep Kq4 nin0
  have k14 := ((Keep.refl h0 [a1])).trans Kq4 all0
  have z15 := Nat.le_trans Z0 Kq4.1
  obtain ⟨kb, cd, zn, ys, Vq4, hz, hen, hbig⟩ := Vq4'
  have hl2 : ys.length ≤ 100 := by rcases hen.2 with ⟨_, q, _⟩ | ⟨_, q, _⟩ <;> (have q5 : ([x0, x1, x2, x3, x4]).length = 5 := rfl; omega)
  have gb_r4 : n0 ≤ r4 := Nat.le_trans Z0 sr4
  have sz_r4 : h0.size ≤ r4 := Nat.le_trans ((Keep.refl h0 [a1])).1 sr4
  have n16 : a1 ≠ r4 := Nat.ne_of_lt (Nat.lt_of_lt_of_le (E1).lt sr4)
  have n17 : a2 ≠ r4 := Nat.ne_of_lt (Nat.lt_of_lt_of_le (V2).lt sr4)
  refine Go.st (fun U hr => XS.astore X4.here hx rfl (hb hby d4_39) rfl rfl (l' := #[.val (.ref a1), .val (.ref a2), .val (.int (0 : Int32)), .val (.int (5 : Int32)), .val .null, .val (.ref r4)]) rfl hr) ?_
  show Go p.tables e below _ (T4.setTop (mkF m 41 #[.val (.ref a1), .val (.ref a2), .val (.int (0 : Int32)), .val (.int (5 : Int32)), .val .null, .val (.ref r4)] []))
  refine Go.st (fun U hr => XS.aloadN X4.here hx rfl (hb hby d4_41) rfl rfl hr) ?_
  show Go p.tables e below _ (T4.setTop (mkF m 42 #[.val (.ref a1), .val (.ref a2), .val (.int (0 : Int32)), .val (.int (5 : Int32)), .val .null, .val (.ref r4)] [(.ref a1)]))
  refine Go.st (fun U hr => XS.aload X4.here hx rfl (hb hby d4_42) rfl rfl hr) ?_
  show Go p.tables e below _ (T4.setTop (mkF m 44 #[.val (.ref a1), .val (.ref a2), .val (.int (0 : Int32)), .val (.int (5 : Int32)), .val .null, .val (.ref r4)] [(.ref r4), (.ref a1)]))
  refine Go.st (fun U hr => XS.iloadN X4.here hx rfl (hb hby d4_44) rfl hr) ?_
  show Go p.tables e below _ (T4.setTop (mkF m 45 #[.val (.ref a1), .val (.ref a2), .val (.int (0 : Int32)), .val (.int (5 : Int32)), .val .null, .val (.ref r4)] [(.int (5 : Int32)), (.ref r4), (.ref a1)]))
  obtain ⟨_, _, ⟨T18, L18, k18, n18⟩, -, X18, ⟨Lc18, hQ18, l18, y18, z18⟩, st18⟩ := Jvm.LawKit.callS X4 hx (y := (⟨"java/lang/StringUTF16", "coderFromArrayLen", "([BI)B"⟩ : MethodName)) hown (mvT hZ (hw _ (List.mem_of_getElem? (i := 31) rfl))) (mvT hZ (hw _ (List.mem_of_getElem? (i := 32) rfl))) (mvT hZ (hw _ (List.mem_of_getElem? (i := 25) rfl))) (mvT hZ (hw _ (List.mem_of_getElem? (i := 33) rfl))) (by decide) (backOf (W := 1) (rm8 l Z a0 hw [] r4 (5 : Int32) kb zn ys cd [x0, x1, x2, x3, x4] T4.heap n0 z15 Vq4 hz hl2 hen rfl (Nat.le_of_ble_eq_true rfl) (Nat.le_of_ble_eq_true rfl)) hZ (hw _ (List.mem_of_getElem? (i := 33) rfl)) (hw _ (List.mem_of_getElem? (i := 25) rfl)) (by decide) (by decide)) (g := (mkF m 45 #[.val (.ref a1), .val (.ref a2), .val (.int (0 : Int32)), .val (.int (5 : Int32)), .val .null, .val (.ref r4)] [(.int (5 : Int32)), (.ref r4), (.ref a1)])) rfl (by rw [hml]; rfl) (argsL := [(.ref r4), (.int (5 : Int32))]) (rest := [(.ref a1)]) (lenOf pd_15 rfl) rfl (by show 2 * 0 + _ ≤ _; exact Nat.le_of_eq rfl) (hb hby d4_45) (fun _ _ => ⟨rfl, rfl, (by decide : 2 + 0 ≤ _), (by decide : 15 + 0 ≤ _)⟩)
  dsimp only [Pt.U, Pt.locs, Pt.cells, Pt.slots] at X18 l18 y18 z18 st18 hQ18
  subst l18 y18 z18
  obtain ⟨rfl, Nq18, ee18⟩ := hQ18
  have N18 := Fr.app N4 Nq18
  refine Go.st st18 ?_
  show Go p.tables e below _ (T18.setTop (mkF m 48 #[.val (.ref a1), .val (.ref a2), .val (.int (0 : Int32)), .val (.int (5 : Int32)), .val .null, .val (.ref r4)] [(.int cd), (.ref a1)]))
  obtain ⟨T19, h19, X19, e19, W19, st19⟩ := putFN X18 hx hZ hown (hw _ (List.mem_of_getElem? (i := 34) rfl)) Via.refl ee18 f12 f10 (Or.inr ⟨(hw _ (List.mem_of_getElem? (i := 35) rfl)), rfl, hnm⟩) (hw _ (List.mem_of_getElem? (i := 10) rfl)) (ty := .byte) (v' := (.int (nar .byte cd))) (by decide) rfl (fits_nar_byte _) (g := (mkF m 48 #[.val (.ref a1), .val (.ref a2), .val (.int (0 : Int32)), .val (.int (5 : Int32)), .val .null, .val (.ref r4)] [(.int cd), (.ref a1)])) rfl rfl (hb hby d4_48)
  refine Go.st st19 ?_
  have k20 := (k14).wr W19 (Or.inl (List.mem_of_getElem? (i := 0) rfl))
  have f21 := (f5).wr W19
  have f22 := (f6).wr W19
  have f23 := (f7).wr W19
  have f24 := (f8).wr W19
  have f25 := (f9).wr W19
  have f26 := (f10).wr W19
  have f27 := (f11).other W19 (Or.inr (slot_ne (Or.inr (hw _ (List.mem_of_getElem? (i := 37) rfl))) (Or.inr (hw _ (List.mem_of_getElem? (i := 35) rfl))) (by decide) (t := (.array .byte)) (t' := .byte) (by decide) (by decide)))
  have f28 := (f12).same W19
  have f29 := (f13).other W19 ne
  have f30 := (Vq4).other W19 (Ne.symm n16)
  have z31 := Nat.le_trans z15 (Keep.of_wr W19).1
  have N19 := Fr.snoc X19 N18 g1
  show Go p.tables e below _ (T19.setTop (mkF m 51 #[.val (.ref a1), .val (.ref a2), .val (.int (0 : Int32)), .val (.int (5 : Int32)), .val .null, .val (.ref r4)] []))
  refine Go.st (fun U hr => XS.aloadN X19.here hx rfl (hb hby d4_51) rfl rfl hr) ?_
  show Go p.tables e below _ (T19.setTop (mkF m 52 #[.val (.ref a1), .val (.ref a2), .val (.int (0 : Int32)), .val (.int (5 : Int32)), .val .null, .val (.ref r4)] [(.ref a1)]))
  refine Go.st (fun U hr => XS.aload X19.here hx rfl (hb hby d4_52) rfl rfl hr) ?_
  show Go p.tables e below _ (T19.setTop (mkF m 54 #[.val (.ref a1), .val (.ref a2), .val (.int (0 : Int32)), .val (.int (5 : Int32)), .val .null, .val (.ref r4)] [(.ref r4), (.ref a1)]))
  obtain ⟨T32, h32, X32, e32, W32, st32⟩ := putF X19 hx hZ hown (host := "") (Or.inl (hw _ (List.mem_of_getElem? (i := 36) rfl))) Via.refl e19 f27 f26 (Or.inr ⟨(hw _ (List.mem_of_getElem? (i := 37) rfl)), rfl, hnm⟩) (hw _ (List.mem_of_getElem? (i := 10) rfl)) (ty := (.array .byte)) (by decide) rfl rfl (g := (mkF m 54 #[.val (.ref a1), .val (.ref a2), .val (.int (0 : Int32)), .val (.int (5 : Int32)), .val .null, .val (.ref r4)] [(.ref r4), (.ref a1)])) rfl rfl (hb hby d4_54)
  refine Go.st st32 ?_
  have k33 := (k20).wr W32 (Or.inl (List.mem_of_getElem? (i := 0) rfl))
  have f34 := (f21).wr W32
  have f35 := (f22).wr W32
  have f36 := (f23).wr W32
  have f37 := (f24).wr W32
  have f38 := (f25).wr W32
  have f39 := (f26).wr W32
  have f40 := (f27).same W32
  have f41 := (f28).other W32 (Or.inr (slot_ne (Or.inr (hw _ (List.mem_of_getElem? (i := 35) rfl))) (Or.inr (hw _ (List.mem_of_getElem? (i := 37) rfl))) (by decide) (t := .byte) (t' := (.array .byte)) (by decide) (by decide)))
  have f42 := (f29).other W32 ne
  have f43 := (f30).other W32 (Ne.symm n16)
  have z44 := Nat.le_trans z31 (Keep.of_wr W32).1
  have N32 := Fr.snoc X32 N19 g1
  show Go p.tables e below _ (T32.setTop (mkF m 57 #[.val (.ref a1), .val (.ref a2), .val (.int (0 : Int32)), .val (.int (5 : Int32)), .val .null, .val (.ref r4)] []))
  have ecd : nar .byte cd = cd := by rcases hen.cd with rfl | rfl <;> rfl
  have Cc := f41
  rw [ecd] at Cc
  exact own_ret0 X32 hx Bd.notSynchronized Bd.returns (hb hby d4_57) (by rw [e32]; exact ⟨rfl, N32, k33, _, _, _, _, _, sz_r4, ⟨f39, f40, Cc, f43, hz, hen, Nat.le_of_ble_eq_true rfl⟩, hbig⟩) (by decide) (by decide)
theorem d3_0 : decode jdk_42_method_3_code 0 = .ok (.aload_n 0, 1) := by decide +kernel
theorem d3_1 : decode jdk_42_method_3_code 1 = .ok (.aload_n 1, 1) := by decide +kernel
theorem d3_2 : decode jdk_42_method_3_code 2 = .ok (.iconst 0, 1) := by decide +kernel
theorem d3_3 : decode jdk_42_method_3_code 3 = .ok (.aload_n 1, 1) := by decide +kernel
theorem d3_4 : decode jdk_42_method_3_code 4 = .ok (.arraylength, 1) := by decide +kernel
theorem d3_5 : decode jdk_42_method_3_code 5 = .ok (.aconst_null, 1) := by decide +kernel
theorem d3_6 : decode jdk_42_method_3_code 6 = .ok (.invokespecial 27, 3) := by decide +kernel
theorem d3_9 : decode jdk_42_method_3_code 9 = .ok (.return_, 1) := by decide +kernel
theorem pn_3 : plainFor (⟨"java/lang/String", "<init>", "([C)V"⟩ : MethodName) = true := plainFor_of_name (by first | (simp [plainName, overriddenIn]; done) | decide +kernel)
theorem ef_3 (m : MethodId) (x0 : Addr) (x1 : Addr) : entryFrame m #[(.ref x0), (.ref x1)] 2 = mkF m 0 #[.val (.ref x0), .val (.ref x1)] [] := by first | (simp [entryFrame, mkF, argsToLocals, Value.category]; done) | rfl
theorem pd_16 : parseMethodDescriptor "([CIILjava/lang/Void;)V" = some ⟨[(.array .char), .int, .int, (.object "java/lang/Void")], none⟩ := by decide +kernel
def Q3 (Z : State) (a1 : Addr) (a2 : Addr) (wc : Int32) (sf : Option Addr) (kc : ClassId) (x0 : Int32) (x1 : Int32) (x2 : Int32) (x3 : Int32) (x4 : Int32) (h0 : Heap) (n0 : Nat) (v : Option Value) (h : Heap) (L : List Loc) : Prop := v = none ∧ Fr n0 L ∧ Keep h0 h [a1] ∧ ∃ (va : Addr) (kb : ClassId) (cd zn : Int32) (ys : List Int32), h0.size ≤ va ∧ own_Str Z h a1 va kb cd zn ys [x0, x1, x2, x3, x4] ∧ (cd = 0 ∨ ∃ i : Nat, i < 5 ∧ 255 < own_c [x0, x1, x2, x3, x4] i)
set_option maxRecDepth 65536 in
set_option maxHeartbeats 40000000 in
theorem rm3 (l : Launch) (Z : State) (a0 : Array Value) (hw : ∀ d ∈ tables_1, d.before a0 Z = true) (ws : List Jvm.Cond) (a1 : Addr) (a2 : Addr) (wc : Int32) (sf : Option Addr) (kc : ClassId) (x0 : Int32) (x1 : Int32) (x2 : Int32) (x3 : Int32) (x4 : Int32) (h0 : Heap) (n0 : Nat) (Z0 : n0 ≤ h0.size) (hS : own_Sts Z h0 wc sf) (E1 : Exa Z h0 a1 "java/lang/String") (F1 : Fld Z h0 a1 "java/lang/String" "value" "[B" .null) (F2 : Fld Z h0 a1 "java/lang/String" "coder" "B" (.int (0 : Int32))) (g1 : n0 ≤ a1) (V2 : Arv Z h0 a2 kc .char (5 : Int32) [(.int x0), (.int x1), (.int x2), (.int x3), (.int x4)] (.int (0 : Int32))) (hch : own_ch5 x0 x1 x2 x3 x4) (ne : a2 ≠ a1) :
    MetFree l (⟨"java/lang/String", "<init>", "([C)V"⟩ : MethodName) (head1 (Jvm.Cond.code (⟨"java/lang/String", "<init>", "([C)V"⟩ : MethodName) jdk_42_method_3_code 2 none :: ws) ({ frames := 5, cells := 2, slots := 15, locals := 74 } : Room)) (fun a U => a = #[(.ref a1), (.ref a2)] ∧ Z.Warmed39 U.vm ∧ U.heap = h0) (fun _ _ _ _ _ => True) (fun _ U o U' => ∃ v L, o = .returned v ∧ Q3 Z a1 a2 wc sf kc x0 x1 x2 x3 x4 h0 n0 v U'.heap L ∧ FrameEnd U o U' L ({ frames := 5, cells := 2, slots := 15, locals := 74 } : Room).cells ({ frames := 5, cells := 2, slots := 15, locals := 74 } : Room).slots) := by
  refine MetFree.of_bodySF pn_3 hisR ?_
  intro p e s m args below meth c s₁ Bd hml0 hP hK
  obtain ⟨rfl, hZ, hh⟩ := hP
  have hx := Bd.exec
  have hby := Bd.bytes
  have hml : c.maxLocals = 2 := hml0
  have hown : s.vm.findClass "java/lang/String" = some m.cls := findClass_of_methodNamed Bd.named
  have hnm := (name_of_methodNamed Bd.named Bd.method).1
  have X0 : Stand p l e ({ frames := 5, cells := 2, slots := 15, locals := 74 } : Room) s m #[(.ref a1), (.ref a2)] below meth c s₁ [] 0 0 := Stand.of_body Bd
  have e0 : s₁.heap = h0 := by rw [← hh, Bd.state]; rfl
  have N0 := Fr.nil n0
  refine own_start (Q := Q3 Z a1 a2 wc sf kc x0 x1 x2 x3 x4 h0 n0) (own_cast (ef_3 m a1 a2) ?_)
  obtain ⟨S1, hwc, S2, S3, S4, S5⟩ := id hS
  show Go p.tables e below _ (s₁.setTop (mkF m 0 #[.val (.ref a1), .val (.ref a2)] []))
  refine Go.st (fun U hr => XS.aloadN X0.here hx rfl (hb hby d3_0) rfl rfl hr) ?_
  show Go p.tables e below _ (s₁.setTop (mkF m 1 #[.val (.ref a1), .val (.ref a2)] [(.ref a1)]))
  refine Go.st (fun U hr => XS.aloadN X0.here hx rfl (hb hby d3_1) rfl rfl hr) ?_
  show Go p.tables e below _ (s₁.setTop (mkF m 2 #[.val (.ref a1), .val (.ref a2)] [(.ref a2), (.ref a1)]))
  refine Go.st (fun U hr => XS.iconst X0.here hx rfl (hb hby d3_2) hr) ?_
  show Go p.tables e below _ (s₁.setTop (mkF m 3 #[.val (.ref a1), .val (.ref a2)] [(.int (0 : Int32)), (.ref a2), (.ref a1)]))
  refine Go.st (fun U hr => XS.aloadN X0.here hx rfl (hb hby d3_3) rfl rfl hr) ?_
  show Go p.tables e below _ (s₁.setTop (mkF m 4 #[.val (.ref a1), .val (.ref a2)] [(.ref a2), (.int (0 : Int32)), (.ref a2), (.ref a1)]))
  obtain ⟨cl1, Ar1, qa1, Sa1, Na1, Ha1, Ga1⟩ := id V2
  refine Go.st (X0.arraylength hx (by rw [e0]; exact Ar1.1) (State.isArrayOf_alike hZ.alike Ar1.2.1) (g := (mkF m 4 #[.val (.ref a1), .val (.ref a2)] [(.ref a2), (.int (0 : Int32)), (.ref a2), (.ref a1)])) rfl rfl (hb hby d3_4)) ?_
  rw [len_of Sa1 Na1]
  show Go p.tables e below _ (s₁.setTop (mkF m 5 #[.val (.ref a1), .val (.ref a2)] [(.int (5 : Int32)), (.int (0 : Int32)), (.ref a2), (.ref a1)]))
  refine Go.st (fun U hr => XS.aconstNull X0.here hx rfl (hb hby d3_5) hr) ?_
  show Go p.tables e below _ (s₁.setTop (mkF m 6 #[.val (.ref a1), .val (.ref a2)] [.null, (.int (5 : Int32)), (.int (0 : Int32)), (.ref a2), (.ref a1)]))
  obtain ⟨_, _, ⟨T2, L2, k2, n2⟩, -, X2, ⟨Lc2, hQ2, l2, y2, z2⟩, st2⟩ := X0.specialBack hx (y := (⟨"java/lang/String", "<init>", "([CIILjava/lang/Void;)V"⟩ : MethodName)) rfl hown (mvT hZ (hw _ (List.mem_of_getElem? (i := 15) rfl))) (mvT hZ (hw _ (List.mem_of_getElem? (i := 16) rfl))) (mvT hZ (hw _ (List.mem_of_getElem? (i := 18) rfl))) (by decide) (backOf (W := 0) (rm4 l Z a0 hw [] a1 a2 wc sf kc x0 x1 x2 x3 x4 h0 n0 Z0 hS E1 F1 F2 g1 V2 hch ne) hZ (hw _ (List.mem_of_getElem? (i := 18) rfl)) (hw _ (List.mem_of_getElem? (i := 11) rfl)) (by decide) (by decide)) (g := (mkF m 6 #[.val (.ref a1), .val (.ref a2)] [.null, (.int (5 : Int32)), (.int (0 : Int32)), (.ref a2), (.ref a1)])) rfl (by rw [hml]; rfl) (Steps.refl _) (a := a1) (argsL := [(.ref a2), (.int (0 : Int32)), (.int (5 : Int32)), .null]) (rest := []) (lenOf pd_16 rfl) rfl (by show 2 * 0 + _ ≤ _; exact Nat.le_of_eq rfl) (hb hby d3_6) (fun _ _ => ⟨rfl, e0, (by decide : 0 + 2 ≤ _), (by decide : 0 + 15 ≤ _)⟩)
  dsimp only [Pt.U, Pt.locs, Pt.cells, Pt.slots] at X2 l2 y2 z2 st2 hQ2
  subst l2 y2 z2
  obtain ⟨rfl, Nq2, Kq2, Sq2⟩ := hQ2
  have N2 := Fr.app N0 Nq2
  refine Go.tr st2 ?_
  show Go p.tables e below _ (T2.setTop (mkF m 9 #[.val (.ref a1), .val (.ref a2)] []))
  exact own_ret0 X2 hx Bd.notSynchronized Bd.returns (hb hby d3_9) ⟨rfl, N2, Kq2, Sq2⟩ (by decide) (by decide)
theorem d45_0 : decode jdk_42_method_151_code 0 = .ok (.aload_n 0, 1) := by decide +kernel
theorem d45_1 : decode jdk_42_method_151_code 1 = .ok (.invokespecial 1, 3) := by decide +kernel
theorem d45_4 : decode jdk_42_method_151_code 4 = .ok (.aload_n 0, 1) := by decide +kernel
theorem d45_5 : decode jdk_42_method_151_code 5 = .ok (.aload_n 1, 1) := by decide +kernel
theorem d45_6 : decode jdk_42_method_151_code 6 = .ok (.putfield 9, 3) := by decide +kernel
theorem d45_9 : decode jdk_42_method_151_code 9 = .ok (.aload_n 0, 1) := by decide +kernel
theorem d45_10 : decode jdk_42_method_151_code 10 = .ok (.iload_n 2, 1) := by decide +kernel
theorem d45_11 : decode jdk_42_method_151_code 11 = .ok (.putfield 15, 3) := by decide +kernel
theorem d45_14 : decode jdk_42_method_151_code 14 = .ok (.return_, 1) := by decide +kernel
theorem pn_45 : plainFor (⟨"java/lang/String", "<init>", "([BB)V"⟩ : MethodName) = true := plainFor_of_name (by first | (simp [plainName, overriddenIn]; done) | decide +kernel)
theorem ef_45 (m : MethodId) (x0 : Addr) (x1 : Addr) (x2 : Int32) : entryFrame m #[(.ref x0), (.ref x1), (.int x2)] 3 = mkF m 0 #[.val (.ref x0), .val (.ref x1), .val (.int x2)] [] := by first | (simp [entryFrame, mkF, argsToLocals, Value.category]; done) | rfl
def Q45 (Z : State) (a1 : Addr) (a2 : Addr) (p3 : Int32) (kb : ClassId) (zn : Int32) (ys : List Int32) (cs : List Int32) (h0 : Heap) (n0 : Nat) (v : Option Value) (h : Heap) (L : List Loc) : Prop := v = none ∧ Fr n0 L ∧ Keep h0 h [a1] ∧ own_Str Z h a1 a2 kb p3 zn ys cs
set_option maxRecDepth 65536 in
set_option maxHeartbeats 40000000 in
theorem rm45 (l : Launch) (Z : State) (a0 : Array Value) (hw : ∀ d ∈ tables_1, d.before a0 Z = true) (ws : List Jvm.Cond) (a1 : Addr) (a2 : Addr) (p3 : Int32) (kb : ClassId) (zn : Int32) (ys : List Int32) (cs : List Int32) (h0 : Heap) (n0 : Nat) (Z0 : n0 ≤ h0.size) (E1 : Exa Z h0 a1 "java/lang/String") (F1 : Fld Z h0 a1 "java/lang/String" "value" "[B" .null) (F2 : Fld Z h0 a1 "java/lang/String" "coder" "B" (.int (0 : Int32))) (g1 : n0 ≤ a1) (V1 : Arv Z h0 a2 kb .byte zn (ys.map Value.int) (.int (0 : Int32))) (hz : zn.toInt = ys.length) (hen : own_enc p3 ys cs) (h5 : cs.length ≤ 5) (ne : a2 ≠ a1) :
    MetFree l (⟨"java/lang/String", "<init>", "([BB)V"⟩ : MethodName) (head1 (Jvm.Cond.code (⟨"java/lang/String", "<init>", "([BB)V"⟩ : MethodName) jdk_42_method_151_code 3 none :: ws) ({ frames := 1, cells := 0, slots := 0, locals := 12 } : Room)) (fun a U => a = #[(.ref a1), (.ref a2), (.int p3)] ∧ Z.Warmed39 U.vm ∧ U.heap = h0) (fun _ _ _ _ _ => True) (fun _ U o U' => ∃ v L, o = .returned v ∧ Q45 Z a1 a2 p3 kb zn ys cs h0 n0 v U'.heap L ∧ FrameEnd U o U' L ({ frames := 1, cells := 0, slots := 0, locals := 12 } : Room).cells ({ frames := 1, cells := 0, slots := 0, locals := 12 } : Room).slots) := by
  refine MetFree.of_bodySF pn_45 hisR ?_
  intro p e s m args below meth c s₁ Bd hml0 hP hK
  obtain ⟨rfl, hZ, hh⟩ := hP
  have hx := Bd.exec
  have hby := Bd.bytes
  have hml : c.maxLocals = 3 := hml0
  have hown : s.vm.findClass "java/lang/String" = some m.cls := findClass_of_methodNamed Bd.named
  have hnm := (name_of_methodNamed Bd.named Bd.method).1
  have X0 : Stand p l e ({ frames := 1, cells := 0, slots := 0, locals := 12 } : Room) s m #[(.ref a1), (.ref a2), (.int p3)] below meth c s₁ [] 0 0 := Stand.of_body Bd
  have e0 : s₁.heap = h0 := by rw [← hh, Bd.state]; rfl
  have N0 := Fr.nil n0
  refine own_start (Q := Q45 Z a1 a2 p3 kb zn ys cs h0 n0) (own_cast (ef_45 m a1 a2 p3) ?_)
  show Go p.tables e below _ (s₁.setTop (mkF m 0 #[.val (.ref a1), .val (.ref a2), .val (.int p3)] []))
  refine Go.st (fun U hr => XS.aloadN X0.here hx rfl (hb hby d45_0) rfl rfl hr) ?_
  show Go p.tables e below _ (s₁.setTop (mkF m 1 #[.val (.ref a1), .val (.ref a2), .val (.int p3)] [(.ref a1)]))
  obtain ⟨T1, X1, e1, st1⟩ := initO X0 hx hZ hown (hw _ (List.mem_of_getElem? (i := 19) rfl)) (hw _ (List.mem_of_getElem? (i := 20) rfl)) (hw _ (List.mem_of_getElem? (i := 21) rfl)) e0 (g := (mkF m 1 #[.val (.ref a1), .val (.ref a2), .val (.int p3)] [(.ref a1)])) rfl (by rw [hml]; rfl) rfl (hb hby d45_1) (by decide) (W := 0) (by show 2 * 0 + _ ≤ _; exact Nat.le_of_eq rfl) (by decide)
  refine Go.st st1 ?_
  show Go p.tables e below _ (T1.setTop (mkF m 4 #[.val (.ref a1), .val (.ref a2), .val (.int p3)] []))
  refine Go.st (fun U hr => XS.aloadN X1.here hx rfl (hb hby d45_4) rfl rfl hr) ?_
  show Go p.tables e below _ (T1.setTop (mkF m 5 #[.val (.ref a1), .val (.ref a2), .val (.int p3)] [(.ref a1)]))
  refine Go.st (fun U hr => XS.aloadN X1.here hx rfl (hb hby d45_5) rfl rfl hr) ?_
  show Go p.tables e below _ (T1.setTop (mkF m 6 #[.val (.ref a1), .val (.ref a2), .val (.int p3)] [(.ref a2), (.ref a1)]))
  obtain ⟨T2, h2, X2, e2, W2, st2⟩ := putF X1 hx hZ hown (host := "") (Or.inl (hw _ (List.mem_of_getElem? (i := 36) rfl))) Via.refl e1 F1 E1 (Or.inr ⟨(hw _ (List.mem_of_getElem? (i := 37) rfl)), rfl, hnm⟩) (hw _ (List.mem_of_getElem? (i := 10) rfl)) (ty := (.array .byte)) (by decide) rfl rfl (g := (mkF m 6 #[.val (.ref a1), .val (.ref a2), .val (.int p3)] [(.ref a2), (.ref a1)])) rfl rfl (hb hby d45_6)
  refine Go.st st2 ?_
  have k3 := ((Keep.refl h0 [a1])).wr W2 (Or.inl (List.mem_of_getElem? (i := 0) rfl))
  have f4 := (E1).wr W2
  have f5 := (F1).same W2
  have f6 := (F2).other W2 (Or.inr (slot_ne (Or.inr (hw _ (List.mem_of_getElem? (i := 35) rfl))) (Or.inr (hw _ (List.mem_of_getElem? (i := 37) rfl))) (by decide) (t := .byte) (t' := (.array .byte)) (by decide) (by decide)))
  have f7 := (V1).other W2 ne
  have z8 := Nat.le_trans Z0 (Keep.of_wr W2).1
  have N2 := Fr.snoc X2 N0 g1
  show Go p.tables e below _ (T2.setTop (mkF m 9 #[.val (.ref a1), .val (.ref a2), .val (.int p3)] []))
  refine Go.st (fun U hr => XS.aloadN X2.here hx rfl (hb hby d45_9) rfl rfl hr) ?_
  show Go p.tables e below _ (T2.setTop (mkF m 10 #[.val (.ref a1), .val (.ref a2), .val (.int p3)] [(.ref a1)]))
  refine Go.st (fun U hr => XS.iloadN X2.here hx rfl (hb hby d45_10) rfl hr) ?_
  show Go p.tables e below _ (T2.setTop (mkF m 11 #[.val (.ref a1), .val (.ref a2), .val (.int p3)] [(.int p3), (.ref a1)]))
  obtain ⟨T9, h9, X9, e9, W9, st9⟩ := putFN X2 hx hZ hown (hw _ (List.mem_of_getElem? (i := 34) rfl)) Via.refl e2 f6 f4 (Or.inr ⟨(hw _ (List.mem_of_getElem? (i := 35) rfl)), rfl, hnm⟩) (hw _ (List.mem_of_getElem? (i := 10) rfl)) (ty := .byte) (v' := (.int (nar .byte p3))) (by decide) rfl (fits_nar_byte _) (g := (mkF m 11 #[.val (.ref a1), .val (.ref a2), .val (.int p3)] [(.int p3), (.ref a1)])) rfl rfl (hb hby d45_11)
  refine Go.st st9 ?_
  have k10 := (k3).wr W9 (Or.inl (List.mem_of_getElem? (i := 0) rfl))
  have f11 := (f4).wr W9
  have f12 := (f5).other W9 (Or.inr (slot_ne (Or.inr (hw _ (List.mem_of_getElem? (i := 37) rfl))) (Or.inr (hw _ (List.mem_of_getElem? (i := 35) rfl))) (by decide) (t := (.array .byte)) (t' := .byte) (by decide) (by decide)))
  have f13 := (f6).same W9
  have f14 := (f7).other W9 ne
  have z15 := Nat.le_trans z8 (Keep.of_wr W9).1
  have N9 := Fr.snoc X9 N2 g1
  show Go p.tables e below _ (T9.setTop (mkF m 14 #[.val (.ref a1), .val (.ref a2), .val (.int p3)] []))
  have ecd : nar .byte p3 = p3 := by rcases hen.cd with rfl | rfl <;> rfl
  have Cc := f13
  rw [ecd] at Cc
  exact own_ret0 X9 hx Bd.notSynchronized Bd.returns (hb hby d45_14) (by rw [e9]; exact ⟨rfl, N9, k10, f11, f12, Cc, f14, hz, hen, h5⟩) (by decide) (by decide)
theorem own_c_rep (n i : Nat) : own_c (List.replicate n 0) i = 0 := by
  unfold own_c; simp only [List.getD_eq_getElem?_getD, List.getElem?_replicate]; split <;> rfl
theorem own_repI (n : Nat) : ∀ i, ((List.replicate n (0 : Int32)).map Value.int).getD i (.int 0) = ([] : List Value).getD i (.int 0) := fun i => by rw [own_gI, own_c_rep]; rfl
def own_sl (ys : List Int32) (f n : Nat) : List Int32 := (List.range n).map fun i => own_c ys (f + i)
theorem own_sl_len (ys : List Int32) (f n : Nat) : (own_sl ys f n).length = n := by simp [own_sl]
theorem own_sl_c (ys : List Int32) (f n i : Nat) (h : i < n) : own_c (own_sl ys f n) i = own_c ys (f + i) := by
  unfold own_sl; rw [own_c, List.getD_eq_getElem?_getD, List.getElem?_map, List.getElem?_range h]; rfl
theorem own_c_set (l : List Int32) (i j : Nat) (v : Int32) (h : i < l.length) : own_c (l.set i v) j = if j = i then v else own_c l j := by
  unfold own_c; simp only [List.getD_eq_getElem?_getD, List.getElem?_set]
  by_cases q : i = j
  · subst q; simp [h]
  · rw [if_neg q, if_neg (fun z => q z.symm)]
theorem own_cp (ys : List Int32) {sp nn : Int32} {f n : Nat} (h1 : sp.toInt = f) (h2 : nn.toInt = n) :
    ((List.replicate n (0 : Int32)).map Value.int).take (0 : Int32).toNatClampNeg ++ (List.range nn.toNatClampNeg).map (fun i => (ys.map Value.int).getD (sp.toNatClampNeg + i) (.int 0)) ++ ((List.replicate n (0 : Int32)).map Value.int).drop ((0 : Int32).toNatClampNeg + nn.toNatClampNeg) = (own_sl ys f n).map Value.int := by
  rw [own_ix h1, own_ix h2, show (0 : Int32).toNatClampNeg = 0 from by decide, List.take_zero, Nat.zero_add, List.drop_eq_nil_of_le (by simp), List.nil_append, List.append_nil]
  unfold own_sl; rw [List.map_map]
  exact List.map_congr_left fun i _ => own_gI ys (f + i)
theorem own_enc_slL {ys cs : List Int32} {b n : Nat} (e : own_enc 0 ys cs) (h : b + n ≤ cs.length) : own_enc 0 (own_sl ys b n) (own_sl cs b n) := by
  have e2 := (e.lat rfl).2
  refine ⟨fun i hi => ?_, Or.inl ⟨rfl, by rw [own_sl_len, own_sl_len], fun i hi => ?_⟩⟩
  · rw [own_sl_len] at hi; rw [own_sl_c _ _ _ _ hi]; exact e.1 _ (by omega)
  · rw [own_sl_len] at hi; rw [own_sl_c _ _ _ _ hi, own_sl_c _ _ _ _ hi]; exact e2 _ (by omega)
theorem own_enc_slU {ys cs : List Int32} {b n : Nat} (e : own_enc 1 ys cs) (h : b + n ≤ cs.length) : own_enc 1 (own_sl ys (2 * b) (2 * n)) (own_sl cs b n) := by
  have e2 := (e.utf (by decide)).2
  refine ⟨fun i hi => ?_, Or.inr ⟨rfl, by rw [own_sl_len, own_sl_len], fun i hi => ?_⟩⟩
  · rw [own_sl_len] at hi; rw [own_sl_c _ _ _ _ hi]; exact e.1 _ (by omega)
  · rw [own_sl_len] at hi
    rw [own_sl_c _ _ _ _ hi, own_sl_c _ _ _ _ (by omega), own_sl_c _ _ _ _ (by omega), show 2 * b + 2 * i = 2 * (b + i) by omega, show 2 * b + (2 * i + 1) = 2 * (b + i) + 1 by omega]
    exact e2 _ (by omega)
theorem own_neg {i : Int32} {n : Nat} (h : i.toInt = n) : ¬ i < 0 := by rw [own_lt32, show (0 : Int32).toInt = 0 from by decide]; omega

theorem d44_0 : decode jdk_29_method_69_code 0 = .ok (.iload_n 0, 1) := by decide +kernel
theorem d44_1 : decode jdk_29_method_69_code 1 = .ok (.iload_n 1, 1) := by decide +kernel
theorem d44_2 : decode jdk_29_method_69_code 2 = .ok (.if_icmp .gt 7, 3) := by decide +kernel
theorem d44_5 : decode jdk_29_method_69_code 5 = .ok (.iload_n 0, 1) := by decide +kernel
theorem d44_6 : decode jdk_29_method_69_code 6 = .ok (.goto 4, 3) := by decide +kernel
theorem d44_9 : decode jdk_29_method_69_code 9 = .ok (.iload_n 1, 1) := by decide +kernel
theorem d44_10 : decode jdk_29_method_69_code 10 = .ok (.ireturn, 1) := by decide +kernel
theorem pn_44 : plainFor (⟨"java/lang/Math", "min", "(II)I"⟩ : MethodName) = true := by decide +kernel
theorem ef_44 (m : MethodId) (x0 : Int32) (x1 : Int32) : entryFrame m #[(.int x0), (.int x1)] 2 = mkF m 0 #[.val (.int x0), .val (.int x1)] [] := by first | (simp [entryFrame, mkF, argsToLocals, Value.category]; done) | rfl
def Q44 (Z : State) (p1 : Int32) (p2 : Int32)  (h0 : Heap) (n0 : Nat) (v : Option Value) (h : Heap) (L : List Loc) : Prop := v = some (.int p2) ∧ Fr n0 L ∧ h = h0
set_option maxRecDepth 65536 in
set_option maxHeartbeats 40000000 in
theorem rm44 (l : Launch) (Z : State) (a0 : Array Value) (hw : ∀ d ∈ tables_1, d.before a0 Z = true) (ws : List Jvm.Cond) (p1 : Int32) (p2 : Int32)  (h0 : Heap) (n0 : Nat) (Z0 : n0 ≤ h0.size) (hp : p2.toInt ≤ p1.toInt) :
    MetFree l (⟨"java/lang/Math", "min", "(II)I"⟩ : MethodName) (head1 (Jvm.Cond.code (⟨"java/lang/Math", "min", "(II)I"⟩ : MethodName) jdk_29_method_69_code 2 (some .int) :: ws) ({ frames := 0, cells := 0, slots := 0, locals := 0 } : Room)) (fun a U => a = #[(.int p1), (.int p2)] ∧ Z.Warmed39 U.vm ∧ U.heap = h0) (fun _ _ _ _ _ => True) (fun _ U o U' => ∃ v L, o = .returned v ∧ Q44 Z p1 p2 h0 n0 v U'.heap L ∧ FrameEnd U o U' L ({ frames := 0, cells := 0, slots := 0, locals := 0 } : Room).cells ({ frames := 0, cells := 0, slots := 0, locals := 0 } : Room).slots) := by
  refine MetFree.of_bodySF pn_44 hisR ?_
  intro p e s m args below meth c s₁ Bd hml0 hP hK
  obtain ⟨rfl, hZ, hh⟩ := hP
  have hx := Bd.exec
  have hby := Bd.bytes
  have hml : c.maxLocals = 2 := hml0
  have hown : s.vm.findClass "java/lang/Math" = some m.cls := findClass_of_methodNamed Bd.named
  have hnm := (name_of_methodNamed Bd.named Bd.method).1
  have X0 : Stand p l e ({ frames := 0, cells := 0, slots := 0, locals := 0 } : Room) s m #[(.int p1), (.int p2)] below meth c s₁ [] 0 0 := Stand.of_body Bd
  have e0 : s₁.heap = h0 := by rw [← hh, Bd.state]; rfl
  have N0 := Fr.nil n0
  refine own_start (Q := Q44 Z p1 p2 h0 n0) (own_cast (ef_44 m p1 p2) ?_)
  show Go p.tables e below _ (s₁.setTop (mkF m 0 #[.val (.int p1), .val (.int p2)] []))
  refine Go.st (fun U hr => XS.iloadN X0.here hx rfl (hb hby d44_0) rfl hr) ?_
  show Go p.tables e below _ (s₁.setTop (mkF m 1 #[.val (.int p1), .val (.int p2)] [(.int p1)]))
  refine Go.st (fun U hr => XS.iloadN X0.here hx rfl (hb hby d44_1) rfl hr) ?_
  show Go p.tables e below _ (s₁.setTop (mkF m 2 #[.val (.int p1), .val (.int p2)] [(.int p2), (.int p1)]))
  by_cases hc2_1 : p2 < p1
  · refine Go.st (fun U hr => XS.icmpYes X0.here hx rfl (pc0 := 2) (pc' := 9) rfl (hb hby d44_2) rfl (tlt hc2_1).2.2.1 (by decide) (by decide) hr) ?_
    show Go p.tables e below _ (s₁.setTop (mkF m 9 #[.val (.int p1), .val (.int p2)] []))
    refine Go.st (fun U hr => XS.iloadN X0.here hx rfl (hb hby d44_9) rfl hr) ?_
    show Go p.tables e below _ (s₁.setTop (mkF m 10 #[.val (.int p1), .val (.int p2)] [(.int p2)]))
    exact own_retO X0 hx Bd.notSynchronized (t := .int) Bd.returns rfl (Or.inl ⟨rfl, Or.inl rfl, _, rfl⟩) (hb hby d44_10) ⟨rfl, N0, e0⟩ (by decide) (by decide)
  · refine Go.st (fun U hr => XS.icmpNo X0.here hx rfl (hb hby d44_2) rfl (flt hc2_1).2.2.1 hr) ?_
    show Go p.tables e below _ (s₁.setTop (mkF m 5 #[.val (.int p1), .val (.int p2)] []))
    refine Go.st (fun U hr => XS.iloadN X0.here hx rfl (hb hby d44_5) rfl hr) ?_
    show Go p.tables e below _ (s₁.setTop (mkF m 6 #[.val (.int p1), .val (.int p2)] [(.int p1)]))
    refine Go.st (fun U hr => XS.goto X0.here hx rfl (pc0 := 6) (pc' := 10) rfl (hb hby d44_6) (by decide) (by decide) hr) ?_
    show Go p.tables e below _ (s₁.setTop (mkF m 10 #[.val (.int p1), .val (.int p2)] [(.int p1)]))
    exact own_retO X0 hx Bd.notSynchronized (t := .int) Bd.returns rfl (Or.inl ⟨rfl, Or.inl rfl, _, rfl⟩) (hb hby d44_10) ⟨congrArg (fun z => some (Value.int z)) (Int32.toInt_inj.mp (by have q := hc2_1; rw [own_lt32] at q; omega)), N0, e0⟩ (by decide) (by decide)
theorem d43_0 : decode jdk_65_method_131_code 0 = .ok (.iload_n 1, 1) := by decide +kernel
theorem d43_1 : decode jdk_65_method_131_code 1 = .ok (.iload_n 0, 1) := by decide +kernel
theorem d43_2 : decode jdk_65_method_131_code 2 = .ok (.if_icmp .ge 35, 3) := by decide +kernel
theorem d43_37 : decode jdk_65_method_131_code 37 = .ok (.return_, 1) := by decide +kernel
theorem pn_43 : plainFor (⟨"java/util/Arrays", "checkLength", "(II)V"⟩ : MethodName) = true := plainFor_of_name (by first | (simp [plainName, overriddenIn]; done) | decide +kernel)
theorem ef_43 (m : MethodId) (x0 : Int32) (x1 : Int32) : entryFrame m #[(.int x0), (.int x1)] 2 = mkF m 0 #[.val (.int x0), .val (.int x1)] [] := by first | (simp [entryFrame, mkF, argsToLocals, Value.category]; done) | rfl
def Q43 (Z : State) (p1 : Int32) (p2 : Int32)  (h0 : Heap) (n0 : Nat) (v : Option Value) (h : Heap) (L : List Loc) : Prop := v = none ∧ Fr n0 L ∧ h = h0
set_option maxRecDepth 65536 in
set_option maxHeartbeats 40000000 in
theorem rm43 (l : Launch) (Z : State) (a0 : Array Value) (hw : ∀ d ∈ tables_1, d.before a0 Z = true) (ws : List Jvm.Cond) (p1 : Int32) (p2 : Int32)  (h0 : Heap) (n0 : Nat) (Z0 : n0 ≤ h0.size) (hp : p1.toInt ≤ p2.toInt) :
    MetFree l (⟨"java/util/Arrays", "checkLength", "(II)V"⟩ : MethodName) (head1 (Jvm.Cond.code (⟨"java/util/Arrays", "checkLength", "(II)V"⟩ : MethodName) jdk_65_method_131_code 2 none :: ws) ({ frames := 0, cells := 0, slots := 0, locals := 0 } : Room)) (fun a U => a = #[(.int p1), (.int p2)] ∧ Z.Warmed39 U.vm ∧ U.heap = h0) (fun _ _ _ _ _ => True) (fun _ U o U' => ∃ v L, o = .returned v ∧ Q43 Z p1 p2 h0 n0 v U'.heap L ∧ FrameEnd U o U' L ({ frames := 0, cells := 0, slots := 0, locals := 0 } : Room).cells ({ frames := 0, cells := 0, slots := 0, locals := 0 } : Room).slots) := by
  refine MetFree.of_bodySF pn_43 hisR ?_
  intro p e s m args below meth c s₁ Bd hml0 hP hK
  obtain ⟨rfl, hZ, hh⟩ := hP
  have hx := Bd.exec
  have hby := Bd.bytes
  have hml : c.maxLocals = 2 := hml0
  have hown : s.vm.findClass "java/util/Arrays" = some m.cls := findClass_of_methodNamed Bd.named
  have hnm := (name_of_methodNamed Bd.named Bd.method).1
  have X0 : Stand p l e ({ frames := 0, cells := 0, slots := 0, locals := 0 } : Room) s m #[(.int p1), (.int p2)] below meth c s₁ [] 0 0 := Stand.of_body Bd
  have e0 : s₁.heap = h0 := by rw [← hh, Bd.state]; rfl
  have N0 := Fr.nil n0
  refine own_start (Q := Q43 Z p1 p2 h0 n0) (own_cast (ef_43 m p1 p2) ?_)
  show Go p.tables e below _ (s₁.setTop (mkF m 0 #[.val (.int p1), .val (.int p2)] []))
  refine Go.st (fun U hr => XS.iloadN X0.here hx rfl (hb hby d43_0) rfl hr) ?_
  show Go p.tables e below _ (s₁.setTop (mkF m 1 #[.val (.int p1), .val (.int p2)] [(.int p2)]))
  refine Go.st (fun U hr => XS.iloadN X0.here hx rfl (hb hby d43_1) rfl hr) ?_
  show Go p.tables e below _ (s₁.setTop (mkF m 2 #[.val (.int p1), .val (.int p2)] [(.int p1), (.int p2)]))
  have hc2_1 : ¬ (p2 < p1) := (by rw [own_lt32]; omega)
  refine Go.st (fun U hr => XS.icmpYes X0.here hx rfl (pc0 := 2) (pc' := 37) rfl (hb hby d43_2) rfl (flt hc2_1).2.1 (by decide) (by decide) hr) ?_
  show Go p.tables e below _ (s₁.setTop (mkF m 37 #[.val (.int p1), .val (.int p2)] []))
  exact own_ret0 X0 hx Bd.notSynchronized Bd.returns (hb hby d43_37) ⟨rfl, N0, e0⟩ (by decide) (by decide)
theorem d42_0 : decode jdk_65_method_133_code 0 = .ok (.iload_n 1, 1) := by decide +kernel
theorem d42_1 : decode jdk_65_method_133_code 1 = .ok (.iload_n 2, 1) := by decide +kernel
theorem d42_2 : decode jdk_65_method_133_code 2 = .ok (.invokestatic 343, 3) := by decide +kernel
theorem d42_5 : decode jdk_65_method_133_code 5 = .ok (.iload_n 2, 1) := by decide +kernel
theorem d42_6 : decode jdk_65_method_133_code 6 = .ok (.iload_n 1, 1) := by decide +kernel
theorem d42_7 : decode jdk_65_method_133_code 7 = .ok (.isub, 1) := by decide +kernel
theorem d42_8 : decode jdk_65_method_133_code 8 = .ok (.istore_n 3, 1) := by decide +kernel
theorem d42_9 : decode jdk_65_method_133_code 9 = .ok (.iload_n 3, 1) := by decide +kernel
theorem d42_10 : decode jdk_65_method_133_code 10 = .ok (.newarray .byte, 2) := by decide +kernel
theorem d42_12 : decode jdk_65_method_133_code 12 = .ok (.astore 4, 2) := by decide +kernel
theorem d42_14 : decode jdk_65_method_133_code 14 = .ok (.aload_n 0, 1) := by decide +kernel
theorem d42_15 : decode jdk_65_method_133_code 15 = .ok (.iload_n 1, 1) := by decide +kernel
theorem d42_16 : decode jdk_65_method_133_code 16 = .ok (.aload 4, 2) := by decide +kernel
theorem d42_18 : decode jdk_65_method_133_code 18 = .ok (.iconst 0, 1) := by decide +kernel
theorem d42_19 : decode jdk_65_method_133_code 19 = .ok (.aload_n 0, 1) := by decide +kernel
theorem d42_20 : decode jdk_65_method_133_code 20 = .ok (.arraylength, 1) := by decide +kernel
theorem d42_21 : decode jdk_65_method_133_code 21 = .ok (.iload_n 1, 1) := by decide +kernel
theorem d42_22 : decode jdk_65_method_133_code 22 = .ok (.isub, 1) := by decide +kernel
theorem d42_23 : decode jdk_65_method_133_code 23 = .ok (.iload_n 3, 1) := by decide +kernel
theorem d42_24 : decode jdk_65_method_133_code 24 = .ok (.invokestatic 304, 3) := by decide +kernel
theorem d42_27 : decode jdk_65_method_133_code 27 = .ok (.invokestatic 150, 3) := by decide +kernel
theorem d42_30 : decode jdk_65_method_133_code 30 = .ok (.aload 4, 2) := by decide +kernel
theorem d42_32 : decode jdk_65_method_133_code 32 = .ok (.areturn, 1) := by decide +kernel
theorem pn_42 : plainFor (⟨"java/util/Arrays", "copyOfRangeByte", "([BII)[B"⟩ : MethodName) = true := plainFor_of_name (by first | (simp [plainName, overriddenIn]; done) | decide +kernel)
theorem ef_42 (m : MethodId) (x0 : Addr) (x1 : Int32) (x2 : Int32) : entryFrame m #[(.ref x0), (.int x1), (.int x2)] 5 = mkF m 0 #[.val (.ref x0), .val (.int x1), .val (.int x2), .unset, .unset] [] := by first | (simp [entryFrame, mkF, argsToLocals, Value.category]; done) | rfl
theorem pd_17 : parseMethodDescriptor "(II)I" = some ⟨[.int, .int], some .int⟩ := by decide +kernel
def Q42 (Z : State) (a1 : Addr) (p2 : Int32) (p3 : Int32) (kb : ClassId) (zn : Int32) (ys : List Int32) (f : Nat) (n : Nat) (h0 : Heap) (n0 : Nat) (v : Option Value) (h : Heap) (L : List Loc) : Prop := ∃ r : Addr, v = some (.ref r) ∧ Fr n0 L ∧ h0.size ≤ r ∧ Keep h0 h [] ∧ ∃ kb', Arv Z h r kb' .byte (p3 - p2) ((own_sl ys f n).map Value.int) (.int (0 : Int32))
set_option maxRecDepth 65536 in
set_option maxHeartbeats 40000000 in
theorem rm42 (l : Launch) (Z : State) (a0 : Array Value) (hw : ∀ d ∈ tables_1, d.before a0 Z = true) (ws : List Jvm.Cond) (a1 : Addr) (p2 : Int32) (p3 : Int32) (kb : ClassId) (zn : Int32) (ys : List Int32) (f : Nat) (n : Nat) (h0 : Heap) (n0 : Nat) (Z0 : n0 ≤ h0.size) (V1 : Arv Z h0 a1 kb .byte zn (ys.map Value.int) (.int (0 : Int32))) (hz : zn.toInt = ys.length) (hz2 : ys.length ≤ 100) (hf : p2.toInt = f) (ht : p3.toInt = ((f + n : Nat) : Int)) (hfn : f + n ≤ ys.length) (hn10 : n ≤ 10) :
    MetFree l (⟨"java/util/Arrays", "copyOfRangeByte", "([BII)[B"⟩ : MethodName) (head1 (Jvm.Cond.code (⟨"java/util/Arrays", "copyOfRangeByte", "([BII)[B"⟩ : MethodName) jdk_65_method_133_code 5 (some (.array .byte)) :: ws) ({ frames := 1, cells := 1, slots := 10, locals := 18 } : Room)) (fun a U => a = #[(.ref a1), (.int p2), (.int p3)] ∧ Z.Warmed39 U.vm ∧ U.heap = h0) (fun _ _ _ _ _ => True) (fun _ U o U' => ∃ v L, o = .returned v ∧ Q42 Z a1 p2 p3 kb zn ys f n h0 n0 v U'.heap L ∧ FrameEnd U o U' L ({ frames := 1, cells := 1, slots := 10, locals := 18 } : Room).cells ({ frames := 1, cells := 1, slots := 10, locals := 18 } : Room).slots) := by
  refine MetFree.of_bodySF pn_42 hisR ?_
  intro p e s m args below meth c s₁ Bd hml0 hP hK
  obtain ⟨rfl, hZ, hh⟩ := hP
  have hx := Bd.exec
  have hby := Bd.bytes
  have hml : c.maxLocals = 5 := hml0
  have hown : s.vm.findClass "java/util/Arrays" = some m.cls := findClass_of_methodNamed Bd.named
  have hnm := (name_of_methodNamed Bd.named Bd.method).1
  have X0 : Stand p l e ({ frames := 1, cells := 1, slots := 10, locals := 18 } : Room) s m #[(.ref a1), (.int p2), (.int p3)] below meth c s₁ [] 0 0 := Stand.of_body Bd
  have e0 : s₁.heap = h0 := by rw [← hh, Bd.state]; rfl
  have N0 := Fr.nil n0
  refine own_start (Q := Q42 Z a1 p2 p3 kb zn ys f n h0 n0) (own_cast (ef_42 m a1 p2 p3) ?_)
  have hd : (p3 - p2).toInt = n := by have q := own_sub ht hf (by omega); omega
  show Go p.tables e below _ (s₁.setTop (mkF m 0 #[.val (.ref a1), .val (.int p2), .val (.int p3), .unset, .unset] []))
  refine Go.st (fun U hr => XS.iloadN X0.here hx rfl (hb hby d42_0) rfl hr) ?_
  show Go p.tables e below _ (s₁.setTop (mkF m 1 #[.val (.ref a1), .val (.int p2), .val (.int p3), .unset, .unset] [(.int p2)]))
  refine Go.st (fun U hr => XS.iloadN X0.here hx rfl (hb hby d42_1) rfl hr) ?_
  show Go p.tables e below _ (s₁.setTop (mkF m 2 #[.val (.ref a1), .val (.int p2), .val (.int p3), .unset, .unset] [(.int p3), (.int p2)]))
  obtain ⟨_, _, ⟨T1, L1, k1, n1⟩, -, X1, ⟨Lc1, hQ1, l1, y1, z1⟩, st1⟩ := Jvm.LawKit.callS X0 hx (y := (⟨"java/util/Arrays", "checkLength", "(II)V"⟩ : MethodName)) hown (mvT hZ (hw _ (List.mem_of_getElem? (i := 171) rfl))) (mvT hZ (hw _ (List.mem_of_getElem? (i := 172) rfl))) (mvT hZ (hw _ (List.mem_of_getElem? (i := 166) rfl))) (mvT hZ (hw _ (List.mem_of_getElem? (i := 173) rfl))) (by decide) (backOf (W := 0) (rm43 l Z a0 hw [] p2 p3 h0 n0 Z0 (by omega)) hZ (hw _ (List.mem_of_getElem? (i := 173) rfl)) (hw _ (List.mem_of_getElem? (i := 166) rfl)) (by decide) (by decide)) (g := (mkF m 2 #[.val (.ref a1), .val (.int p2), .val (.int p3), .unset, .unset] [(.int p3), (.int p2)])) rfl (by rw [hml]; rfl) (argsL := [(.int p2), (.int p3)]) (rest := []) (lenOf pd_5 rfl) rfl (by show 2 * 0 + _ ≤ _; exact Nat.le_of_eq rfl) (hb hby d42_2) (fun _ _ => ⟨rfl, e0, (by decide : 0 + 0 ≤ _), (by decide : 0 + 0 ≤ _)⟩)
  dsimp only [Pt.U, Pt.locs, Pt.cells, Pt.slots] at X1 l1 y1 z1 st1 hQ1
  subst l1 y1 z1
  obtain ⟨rfl, Nq1, ee1⟩ := hQ1
  have N1 := Fr.app N0 Nq1
  refine Go.st st1 ?_
  show Go p.tables e below _ (T1.setTop (mkF m 5 #[.val (.ref a1), .val (.int p2), .val (.int p3), .unset, .unset] []))
  refine Go.st (fun U hr => XS.iloadN X1.here hx rfl (hb hby d42_5) rfl hr) ?_
  show Go p.tables e below _ (T1.setTop (mkF m 6 #[.val (.ref a1), .val (.int p2), .val (.int p3), .unset, .unset] [(.int p3)]))
  refine Go.st (fun U hr => XS.iloadN X1.here hx rfl (hb hby d42_6) rfl hr) ?_
  show Go p.tables e below _ (T1.setTop (mkF m 7 #[.val (.ref a1), .val (.int p2), .val (.int p3), .unset, .unset] [(.int p2), (.int p3)]))
  refine Go.st (fun U hr => XS.isub X1.here hx rfl (hb hby d42_7) rfl hr) ?_
  show Go p.tables e below _ (T1.setTop (mkF m 8 #[.val (.ref a1), .val (.int p2), .val (.int p3), .unset, .unset] [(.int (p3 - p2))]))
  refine Go.st (fun U hr => XS.istoreN X1.here hx rfl (hb hby d42_8) rfl (l' := #[.val (.ref a1), .val (.int p2), .val (.int p3), .val (.int (p3 - p2)), .unset]) rfl hr) ?_
  show Go p.tables e below _ (T1.setTop (mkF m 9 #[.val (.ref a1), .val (.int p2), .val (.int p3), .val (.int (p3 - p2)), .unset] []))
  refine Go.st (fun U hr => XS.iloadN X1.here hx rfl (hb hby d42_9) rfl hr) ?_
  show Go p.tables e below _ (T1.setTop (mkF m 10 #[.val (.ref a1), .val (.int p2), .val (.int p3), .val (.int (p3 - p2)), .unset] [(.int (p3 - p2))]))
  obtain ⟨T2, h2, k2, X2, e2, E2, A2, st2⟩ := newP X1 hx hZ (hw _ (List.mem_of_getElem? (i := 27) rfl)) ee1 (g := (mkF m 10 #[.val (.ref a1), .val (.int p2), .val (.int p3), .val (.int (p3 - p2)), .unset] [(.int (p3 - p2))])) rfl (hb hby d42_10) rfl (own_neg hd) (cap := 10) (by rw [own_ix hd]; exact hn10) (by decide) (by decide) (by decide)
  obtain ⟨b2, g2⟩ : ∃ z, z = h0.size := ⟨_, rfl⟩
  rw [← g2] at A2 st2
  refine Go.st st2 ?_
  have gb2 : n0 ≤ b2 := Nat.le_trans Z0 (Nat.le_of_eq g2.symm)
  have sb2 : h0.size ≤ b2 := Nat.le_trans ((Keep.refl h0 [])).1 (Nat.le_of_eq g2.symm)
  have k3 := ((Keep.refl h0 [])).ext E2
  have n4 : a1 ≠ b2 := Nat.ne_of_lt (Nat.lt_of_lt_of_le (V1).lt (Nat.le_of_eq g2.symm))
  have f5 := (V1).ext E2
  have z6 := Nat.le_trans Z0 E2.1
  have V2 : Arv Z h2 b2 k2 .byte (p3 - p2) ((List.replicate n (0 : Int32)).map Value.int) (.int (0 : Int32)) := (Arv.new A2 (own_neg hd)).pad (own_repI _)
  show Go p.tables e below _ (T2.setTop (mkF m 12 #[.val (.ref a1), .val (.int p2), .val (.int p3), .val (.int (p3 - p2)), .unset] [(.ref b2)]))
  refine Go.st (fun U hr => XS.astore X2.here hx rfl (hb hby d42_12) rfl rfl (l' := #[.val (.ref a1), .val (.int p2), .val (.int p3), .val (.int (p3 - p2)), .val (.ref b2)]) rfl hr) ?_
  show Go p.tables e below _ (T2.setTop (mkF m 14 #[.val (.ref a1), .val (.int p2), .val (.int p3), .val (.int (p3 - p2)), .val (.ref b2)] []))
  refine Go.st (fun U hr => XS.aloadN X2.here hx rfl (hb hby d42_14) rfl rfl hr) ?_
  show Go p.tables e below _ (T2.setTop (mkF m 15 #[.val (.ref a1), .val (.int p2), .val (.int p3), .val (.int (p3 - p2)), .val (.ref b2)] [(.ref a1)]))
  refine Go.st (fun U hr => XS.iloadN X2.here hx rfl (hb hby d42_15) rfl hr) ?_
  show Go p.tables e below _ (T2.setTop (mkF m 16 #[.val (.ref a1), .val (.int p2), .val (.int p3), .val (.int (p3 - p2)), .val (.ref b2)] [(.int p2), (.ref a1)]))
  refine Go.st (fun U hr => XS.aload X2.here hx rfl (hb hby d42_16) rfl rfl hr) ?_
  show Go p.tables e below _ (T2.setTop (mkF m 18 #[.val (.ref a1), .val (.int p2), .val (.int p3), .val (.int (p3 - p2)), .val (.ref b2)] [(.ref b2), (.int p2), (.ref a1)]))
  refine Go.st (fun U hr => XS.iconst X2.here hx rfl (hb hby d42_18) hr) ?_
  show Go p.tables e below _ (T2.setTop (mkF m 19 #[.val (.ref a1), .val (.int p2), .val (.int p3), .val (.int (p3 - p2)), .val (.ref b2)] [(.int (0 : Int32)), (.ref b2), (.int p2), (.ref a1)]))
  refine Go.st (fun U hr => XS.aloadN X2.here hx rfl (hb hby d42_19) rfl rfl hr) ?_
  show Go p.tables e below _ (T2.setTop (mkF m 20 #[.val (.ref a1), .val (.int p2), .val (.int p3), .val (.int (p3 - p2)), .val (.ref b2)] [(.ref a1), (.int (0 : Int32)), (.ref b2), (.int p2), (.ref a1)]))
  obtain ⟨cl7, Ar7, qa7, Sa7, Na7, Ha7, Ga7⟩ := id f5
  refine Go.st (X2.arraylength hx (by rw [e2]; exact Ar7.1) (State.isArrayOf_alike hZ.alike Ar7.2.1) (g := (mkF m 20 #[.val (.ref a1), .val (.int p2), .val (.int p3), .val (.int (p3 - p2)), .val (.ref b2)] [(.ref a1), (.int (0 : Int32)), (.ref b2), (.int p2), (.ref a1)])) rfl rfl (hb hby d42_20)) ?_
  rw [len_of Sa7 Na7]
  show Go p.tables e below _ (T2.setTop (mkF m 21 #[.val (.ref a1), .val (.int p2), .val (.int p3), .val (.int (p3 - p2)), .val (.ref b2)] [(.int zn), (.int (0 : Int32)), (.ref b2), (.int p2), (.ref a1)]))
  refine Go.st (fun U hr => XS.iloadN X2.here hx rfl (hb hby d42_21) rfl hr) ?_
  show Go p.tables e below _ (T2.setTop (mkF m 22 #[.val (.ref a1), .val (.int p2), .val (.int p3), .val (.int (p3 - p2)), .val (.ref b2)] [(.int p2), (.int zn), (.int (0 : Int32)), (.ref b2), (.int p2), (.ref a1)]))
  refine Go.st (fun U hr => XS.isub X2.here hx rfl (hb hby d42_22) rfl hr) ?_
  show Go p.tables e below _ (T2.setTop (mkF m 23 #[.val (.ref a1), .val (.int p2), .val (.int p3), .val (.int (p3 - p2)), .val (.ref b2)] [(.int (zn - p2)), (.int (0 : Int32)), (.ref b2), (.int p2), (.ref a1)]))
  refine Go.st (fun U hr => XS.iloadN X2.here hx rfl (hb hby d42_23) rfl hr) ?_
  show Go p.tables e below _ (T2.setTop (mkF m 24 #[.val (.ref a1), .val (.int p2), .val (.int p3), .val (.int (p3 - p2)), .val (.ref b2)] [(.int (p3 - p2)), (.int (zn - p2)), (.int (0 : Int32)), (.ref b2), (.int p2), (.ref a1)]))
  obtain ⟨_, _, ⟨T8, L8, k8, n8⟩, -, X8, ⟨Lc8, hQ8, l8, y8, z8⟩, st8⟩ := Jvm.LawKit.callS X2 hx (y := (⟨"java/lang/Math", "min", "(II)I"⟩ : MethodName)) hown (mvT hZ (hw _ (List.mem_of_getElem? (i := 174) rfl))) (mvT hZ (hw _ (List.mem_of_getElem? (i := 175) rfl))) (mvT hZ (hw _ (List.mem_of_getElem? (i := 176) rfl))) (mvT hZ (hw _ (List.mem_of_getElem? (i := 177) rfl))) (by decide) (backOf (W := 4) (rm44 l Z a0 hw [] (zn - p2) (p3 - p2) h2 n0 z6 (by have q := own_sub (m := ys.length) (n := f) hz hf (by omega); omega)) hZ (hw _ (List.mem_of_getElem? (i := 177) rfl)) (hw _ (List.mem_of_getElem? (i := 176) rfl)) (by decide) (by decide)) (g := (mkF m 24 #[.val (.ref a1), .val (.int p2), .val (.int p3), .val (.int (p3 - p2)), .val (.ref b2)] [(.int (p3 - p2)), (.int (zn - p2)), (.int (0 : Int32)), (.ref b2), (.int p2), (.ref a1)])) rfl (by rw [hml]; rfl) (argsL := [(.int (zn - p2)), (.int (p3 - p2))]) (rest := [(.int (0 : Int32)), (.ref b2), (.int p2), (.ref a1)]) (lenOf pd_17 rfl) rfl (by show 2 * 0 + _ ≤ _; exact Nat.le_of_eq rfl) (hb hby d42_24) (fun _ _ => ⟨rfl, e2, (by decide : 1 + 0 ≤ _), (by decide : 10 + 0 ≤ _)⟩)
  dsimp only [Pt.U, Pt.locs, Pt.cells, Pt.slots] at X8 l8 y8 z8 st8 hQ8
  subst l8 y8 z8
  obtain ⟨rfl, Nq8, ee8⟩ := hQ8
  have N8 := Fr.app N1 Nq8
  refine Go.st st8 ?_
  show Go p.tables e below _ (T8.setTop (mkF m 27 #[.val (.ref a1), .val (.int p2), .val (.int p3), .val (.int (p3 - p2)), .val (.ref b2)] [(.int (p3 - p2)), (.int (0 : Int32)), (.ref b2), (.int p2), (.ref a1)]))
  obtain ⟨T9, h9, L9, X9, e9, N9, Kc9, V9', st9⟩ := cpA X8 hx hZ hown (hw _ (List.mem_of_getElem? (i := 178) rfl)) (hw _ (List.mem_of_getElem? (i := 181) rfl)) (hw _ (List.mem_of_getElem? (i := 179) rfl)) (hw _ (List.mem_of_getElem? (i := 180) rfl)) ee8 f5 V2 (Or.inl ⟨rfl, rfl⟩) (sp := p2) (dp := (0 : Int32)) (nn := (p3 - p2)) (own_neg hf) (by decide) (own_neg hd) (by rw [own_ix hf, own_ix hd, own_ix hz]; omega) (by rw [own_ix hd]; exact Nat.le_of_eq (Nat.zero_add _)) rfl (by rw [own_ix hd, List.length_map, List.length_replicate]; exact Nat.le_of_eq (Nat.zero_add _)) N8 gb2 (g := (mkF m 27 #[.val (.ref a1), .val (.int p2), .val (.int p3), .val (.int (p3 - p2)), .val (.ref b2)] [(.int (p3 - p2)), (.int (0 : Int32)), (.ref b2), (.int p2), (.ref a1)])) rfl (by rw [hml]; rfl) rfl (hb hby d42_27) (by decide) (W := 0) (by show 2 * 0 + _ ≤ _; exact Nat.le_of_eq rfl) (by decide)
  have V9 : Arv Z h9 b2 k2 .byte (p3 - p2) ((own_sl ys f n).map Value.int) (.int (0 : Int32)) := by rw [← own_cp ys hf hd]; exact V9'
  have f10 := (f5).keep Kc9 (ninS n4 nin0)
  have k12 := (k3).trans Kc9 (allS (Or.inr sb2) all0)
  have z13 := Nat.le_trans z6 Kc9.1
  refine Go.st st9 ?_
  show Go p.tables e below _ (T9.setTop (mkF m 30 #[.val (.ref a1), .val (.int p2), .val (.int p3), .val (.int (p3 - p2)), .val (.ref b2)] []))
  refine Go.st (fun U hr => XS.aload X9.here hx rfl (hb hby d42_30) rfl rfl hr) ?_
  show Go p.tables e below _ (T9.setTop (mkF m 32 #[.val (.ref a1), .val (.int p2), .val (.int p3), .val (.int (p3 - p2)), .val (.ref b2)] [(.ref b2)]))
  exact own_retO X9 hx Bd.notSynchronized (t := (.array .byte)) Bd.returns rfl (Or.inr (Or.inr (Or.inr (Or.inr ⟨rfl, rfl, rfl⟩)))) (hb hby d42_32) (by rw [e9]; exact ⟨_, rfl, N9, sb2, k12, _, V9⟩) (by decide) (by decide)
theorem d41_0 : decode jdk_65_method_132_code 0 = .ok (.iload_n 1, 1) := by decide +kernel
theorem d41_1 : decode jdk_65_method_132_code 1 = .ok (.ifCond .ne 9, 3) := by decide +kernel
theorem d41_4 : decode jdk_65_method_132_code 4 = .ok (.iload_n 2, 1) := by decide +kernel
theorem d41_5 : decode jdk_65_method_132_code 5 = .ok (.aload_n 0, 1) := by decide +kernel
theorem d41_6 : decode jdk_65_method_132_code 6 = .ok (.arraylength, 1) := by decide +kernel
theorem d41_7 : decode jdk_65_method_132_code 7 = .ok (.if_icmp .eq 10, 3) := by decide +kernel
theorem d41_10 : decode jdk_65_method_132_code 10 = .ok (.aload_n 0, 1) := by decide +kernel
theorem d41_11 : decode jdk_65_method_132_code 11 = .ok (.iload_n 1, 1) := by decide +kernel
theorem d41_12 : decode jdk_65_method_132_code 12 = .ok (.iload_n 2, 1) := by decide +kernel
theorem d41_13 : decode jdk_65_method_132_code 13 = .ok (.invokestatic 339, 3) := by decide +kernel
theorem d41_16 : decode jdk_65_method_132_code 16 = .ok (.areturn, 1) := by decide +kernel
theorem pn_41 : plainFor (⟨"java/util/Arrays", "copyOfRange", "([BII)[B"⟩ : MethodName) = true := plainFor_of_name (by first | (simp [plainName, overriddenIn]; done) | decide +kernel)
theorem ef_41 (m : MethodId) (x0 : Addr) (x1 : Int32) (x2 : Int32) : entryFrame m #[(.ref x0), (.int x1), (.int x2)] 3 = mkF m 0 #[.val (.ref x0), .val (.int x1), .val (.int x2)] [] := by first | (simp [entryFrame, mkF, argsToLocals, Value.category]; done) | rfl
theorem pd_18 : parseMethodDescriptor "([BII)[B" = some ⟨[(.array .byte), .int, .int], some (.array .byte)⟩ := by decide +kernel
def Q41 (Z : State) (a1 : Addr) (p2 : Int32) (p3 : Int32) (kb : ClassId) (zn : Int32) (ys : List Int32) (f : Nat) (n : Nat) (h0 : Heap) (n0 : Nat) (v : Option Value) (h : Heap) (L : List Loc) : Prop := ∃ r : Addr, v = some (.ref r) ∧ Fr n0 L ∧ h0.size ≤ r ∧ Keep h0 h [] ∧ ∃ kb', Arv Z h r kb' .byte (p3 - p2) ((own_sl ys f n).map Value.int) (.int (0 : Int32))
set_option maxRecDepth 65536 in
set_option maxHeartbeats 40000000 in
theorem rm41 (l : Launch) (Z : State) (a0 : Array Value) (hw : ∀ d ∈ tables_1, d.before a0 Z = true) (ws : List Jvm.Cond) (a1 : Addr) (p2 : Int32) (p3 : Int32) (kb : ClassId) (zn : Int32) (ys : List Int32) (f : Nat) (n : Nat) (h0 : Heap) (n0 : Nat) (Z0 : n0 ≤ h0.size) (V1 : Arv Z h0 a1 kb .byte zn (ys.map Value.int) (.int (0 : Int32))) (hz : zn.toInt = ys.length) (hz2 : ys.length ≤ 100) (hf : p2.toInt = f) (ht : p3.toInt = ((f + n : Nat) : Int)) (hfn : f + n ≤ ys.length) (hn10 : n ≤ 10) (hnot : p2 = 0 → ¬ p3 = zn) :
    MetFree l (⟨"java/util/Arrays", "copyOfRange", "([BII)[B"⟩ : MethodName) (head1 (Jvm.Cond.code (⟨"java/util/Arrays", "copyOfRange", "([BII)[B"⟩ : MethodName) jdk_65_method_132_code 3 (some (.array .byte)) :: ws) ({ frames := 2, cells := 1, slots := 10, locals := 34 } : Room)) (fun a U => a = #[(.ref a1), (.int p2), (.int p3)] ∧ Z.Warmed39 U.vm ∧ U.heap = h0) (fun _ _ _ _ _ => True) (fun _ U o U' => ∃ v L, o = .returned v ∧ Q41 Z a1 p2 p3 kb zn ys f n h0 n0 v U'.heap L ∧ FrameEnd U o U' L ({ frames := 2, cells := 1, slots := 10, locals := 34 } : Room).cells ({ frames := 2, cells := 1, slots := 10, locals := 34 } : Room).slots) := by
  refine MetFree.of_bodySF pn_41 hisR ?_
  intro p e s m args below meth c s₁ Bd hml0 hP hK
  obtain ⟨rfl, hZ, hh⟩ := hP
  have hx := Bd.exec
  have hby := Bd.bytes
  have hml : c.maxLocals = 3 := hml0
  have hown : s.vm.findClass "java/util/Arrays" = some m.cls := findClass_of_methodNamed Bd.named
  have hnm := (name_of_methodNamed Bd.named Bd.method).1
  have X0 : Stand p l e ({ frames := 2, cells := 1, slots := 10, locals := 34 } : Room) s m #[(.ref a1), (.int p2), (.int p3)] below meth c s₁ [] 0 0 := Stand.of_body Bd
  have e0 : s₁.heap = h0 := by rw [← hh, Bd.state]; rfl
  have N0 := Fr.nil n0
  refine own_start (Q := Q41 Z a1 p2 p3 kb zn ys f n h0 n0) (own_cast (ef_41 m a1 p2 p3) ?_)
  show Go p.tables e below _ (s₁.setTop (mkF m 0 #[.val (.ref a1), .val (.int p2), .val (.int p3)] []))
  refine Go.st (fun U hr => XS.iloadN X0.here hx rfl (hb hby d41_0) rfl hr) ?_
  show Go p.tables e below _ (s₁.setTop (mkF m 1 #[.val (.ref a1), .val (.int p2), .val (.int p3)] [(.int p2)]))
  by_cases hc1_1 : p2 = (0 : Int32)
  · refine Go.st (fun U hr => XS.ifNo X0.here hx rfl (hb hby d41_1) rfl ((if0 _ _).trans (teq hc1_1).2) hr) ?_
    show Go p.tables e below _ (s₁.setTop (mkF m 4 #[.val (.ref a1), .val (.int p2), .val (.int p3)] []))
    refine Go.st (fun U hr => XS.iloadN X0.here hx rfl (hb hby d41_4) rfl hr) ?_
    show Go p.tables e below _ (s₁.setTop (mkF m 5 #[.val (.ref a1), .val (.int p2), .val (.int p3)] [(.int p3)]))
    refine Go.st (fun U hr => XS.aloadN X0.here hx rfl (hb hby d41_5) rfl rfl hr) ?_
    show Go p.tables e below _ (s₁.setTop (mkF m 6 #[.val (.ref a1), .val (.int p2), .val (.int p3)] [(.ref a1), (.int p3)]))
    obtain ⟨cl2, Ar2, qa2, Sa2, Na2, Ha2, Ga2⟩ := id V1
    refine Go.st (X0.arraylength hx (by rw [e0]; exact Ar2.1) (State.isArrayOf_alike hZ.alike Ar2.2.1) (g := (mkF m 6 #[.val (.ref a1), .val (.int p2), .val (.int p3)] [(.ref a1), (.int p3)])) rfl rfl (hb hby d41_6)) ?_
    rw [len_of Sa2 Na2]
    show Go p.tables e below _ (s₁.setTop (mkF m 7 #[.val (.ref a1), .val (.int p2), .val (.int p3)] [(.int zn), (.int p3)]))
    have hc7_3 : ¬ (p3 = zn) := hnot hc1_1
    refine Go.st (fun U hr => XS.icmpNo X0.here hx rfl (hb hby d41_7) rfl (feq hc7_3).1 hr) ?_
    show Go p.tables e below _ (s₁.setTop (mkF m 10 #[.val (.ref a1), .val (.int p2), .val (.int p3)] []))
    refine Go.st (fun U hr => XS.aloadN X0.here hx rfl (hb hby d41_10) rfl rfl hr) ?_
    show Go p.tables e below _ (s₁.setTop (mkF m 11 #[.val (.ref a1), .val (.int p2), .val (.int p3)] [(.ref a1)]))
    refine Go.st (fun U hr => XS.iloadN X0.here hx rfl (hb hby d41_11) rfl hr) ?_
    show Go p.tables e below _ (s₁.setTop (mkF m 12 #[.val (.ref a1), .val (.int p2), .val (.int p3)] [(.int p2), (.ref a1)]))
    refine Go.st (fun U hr => XS.iloadN X0.here hx rfl (hb hby d41_12) rfl hr) ?_
    show Go p.tables e below _ (s₁.setTop (mkF m 13 #[.val (.ref a1), .val (.int p2), .val (.int p3)] [(.int p3), (.int p2), (.ref a1)]))
    obtain ⟨_, _, ⟨T4, L4, k4, n4⟩, -, X4, ⟨Lc4, hQ4, l4, y4, z4⟩, st4⟩ := Jvm.LawKit.callS X0 hx (y := (⟨"java/util/Arrays", "copyOfRangeByte", "([BII)[B"⟩ : MethodName)) hown (mvT hZ (hw _ (List.mem_of_getElem? (i := 168) rfl))) (mvT hZ (hw _ (List.mem_of_getElem? (i := 169) rfl))) (mvT hZ (hw _ (List.mem_of_getElem? (i := 166) rfl))) (mvT hZ (hw _ (List.mem_of_getElem? (i := 170) rfl))) (by decide) (backOf (W := 0) (rm42 l Z a0 hw [] a1 p2 p3 kb zn ys f n h0 n0 Z0 V1 hz hz2 hf ht hfn hn10) hZ (hw _ (List.mem_of_getElem? (i := 170) rfl)) (hw _ (List.mem_of_getElem? (i := 166) rfl)) (by decide) (by decide)) (g := (mkF m 13 #[.val (.ref a1), .val (.int p2), .val (.int p3)] [(.int p3), (.int p2), (.ref a1)])) rfl (by rw [hml]; rfl) (argsL := [(.ref a1), (.int p2), (.int p3)]) (rest := []) (lenOf pd_18 rfl) rfl (by show 2 * 0 + _ ≤ _; exact Nat.le_of_eq rfl) (hb hby d41_13) (fun _ _ => ⟨rfl, e0, (by decide : 0 + 1 ≤ _), (by decide : 0 + 10 ≤ _)⟩)
    dsimp only [Pt.U, Pt.locs, Pt.cells, Pt.slots] at X4 l4 y4 z4 st4 hQ4
    subst l4 y4 z4
    obtain ⟨r4, rfl, Nq4, sr4, Kq4, Vq4⟩ := hQ4
    have N4 := Fr.app N0 Nq4
    refine Go.st st4 ?_
    show Go p.tables e below _ (T4.setTop (mkF m 16 #[.val (.ref a1), .val (.int p2), .val (.int p3)] [(.ref r4)]))
    exact own_retO X4 hx Bd.notSynchronized (t := (.array .byte)) Bd.returns rfl (Or.inr (Or.inr (Or.inr (Or.inr ⟨rfl, rfl, rfl⟩)))) (hb hby d41_16) ⟨_, rfl, N4, sr4, Kq4, Vq4⟩ (by decide) (by decide)
  · refine Go.st (fun U hr => XS.ifYes X0.here hx rfl (pc0 := 1) (pc' := 10) rfl (hb hby d41_1) rfl ((if0 _ _).trans (feq hc1_1).2) (by decide) (by decide) hr) ?_
    show Go p.tables e below _ (s₁.setTop (mkF m 10 #[.val (.ref a1), .val (.int p2), .val (.int p3)] []))
    refine Go.st (fun U hr => XS.aloadN X0.here hx rfl (hb hby d41_10) rfl rfl hr) ?_
    show Go p.tables e below _ (s₁.setTop (mkF m 11 #[.val (.ref a1), .val (.int p2), .val (.int p3)] [(.ref a1)]))
    refine Go.st (fun U hr => XS.iloadN X0.here hx rfl (hb hby d41_11) rfl hr) ?_
    show Go p.tables e below _ (s₁.setTop (mkF m 12 #[.val (.ref a1), .val (.int p2), .val (.int p3)] [(.int p2), (.ref a1)]))
    refine Go.st (fun U hr => XS.iloadN X0.here hx rfl (hb hby d41_12) rfl hr) ?_
    show Go p.tables e below _ (s₁.setTop (mkF m 13 #[.val (.ref a1), .val (.int p2), .val (.int p3)] [(.int p3), (.int p2), (.ref a1)]))
    obtain ⟨_, _, ⟨T5, L5, k5, n5⟩, -, X5, ⟨Lc5, hQ5, l5, y5, z5⟩, st5⟩ := Jvm.LawKit.callS X0 hx (y := (⟨"java/util/Arrays", "copyOfRangeByte", "([BII)[B"⟩ : MethodName)) hown (mvT hZ (hw _ (List.mem_of_getElem? (i := 168) rfl))) (mvT hZ (hw _ (List.mem_of_getElem? (i := 169) rfl))) (mvT hZ (hw _ (List.mem_of_getElem? (i := 166) rfl))) (mvT hZ (hw _ (List.mem_of_getElem? (i := 170) rfl))) (by decide) (backOf (W := 0) (rm42 l Z a0 hw [] a1 p2 p3 kb zn ys f n h0 n0 Z0 V1 hz hz2 hf ht hfn hn10) hZ (hw _ (List.mem_of_getElem? (i := 170) rfl)) (hw _ (List.mem_of_getElem? (i := 166) rfl)) (by decide) (by decide)) (g := (mkF m 13 #[.val (.ref a1), .val (.int p2), .val (.int p3)] [(.int p3), (.int p2), (.ref a1)])) rfl (by rw [hml]; rfl) (argsL := [(.ref a1), (.int p2), (.int p3)]) (rest := []) (lenOf pd_18 rfl) rfl (by show 2 * 0 + _ ≤ _; exact Nat.le_of_eq rfl) (hb hby d41_13) (fun _ _ => ⟨rfl, e0, (by decide : 0 + 1 ≤ _), (by decide : 0 + 10 ≤ _)⟩)
    dsimp only [Pt.U, Pt.locs, Pt.cells, Pt.slots] at X5 l5 y5 z5 st5 hQ5
    subst l5 y5 z5
    obtain ⟨r5, rfl, Nq5, sr5, Kq5, Vq5⟩ := hQ5
    have N5 := Fr.app N0 Nq5
    refine Go.st st5 ?_
    show Go p.tables e below _ (T5.setTop (mkF m 16 #[.val (.ref a1), .val (.int p2), .val (.int p3)] [(.ref r5)]))
    exact own_retO X5 hx Bd.notSynchronized (t := (.array .byte)) Bd.returns rfl (Or.inr (Or.inr (Or.inr (Or.inr ⟨rfl, rfl, rfl⟩)))) (hb hby d41_16) ⟨_, rfl, N5, sr5, Kq5, Vq5⟩ (by decide) (by decide)
theorem d38_0 : decode jdk_52_method_94_code 0 = .ok (.iload_n 0, 1) := by decide +kernel
theorem d38_1 : decode jdk_52_method_94_code 1 = .ok (.iload_n 1, 1) := by decide +kernel
theorem d38_2 : decode jdk_52_method_94_code 2 = .ok (.aload_n 2, 1) := by decide +kernel
theorem d38_3 : decode jdk_52_method_94_code 3 = .ok (.invokestatic 48, 3) := by decide +kernel
theorem d38_6 : decode jdk_52_method_94_code 6 = .ok (.invokestatic 419, 3) := by decide +kernel
theorem d38_9 : decode jdk_52_method_94_code 9 = .ok (.pop, 1) := by decide +kernel
theorem d38_10 : decode jdk_52_method_94_code 10 = .ok (.return_, 1) := by decide +kernel
theorem pn_38 : plainFor (⟨"java/lang/StringUTF16", "checkBoundsOffCount", "(II[B)V"⟩ : MethodName) = true := plainFor_of_name (by first | (simp [plainName, overriddenIn]; done) | decide +kernel)
theorem ef_38 (m : MethodId) (x0 : Int32) (x1 : Int32) (x2 : Addr) : entryFrame m #[(.int x0), (.int x1), (.ref x2)] 3 = mkF m 0 #[.val (.int x0), .val (.int x1), .val (.ref x2)] [] := by first | (simp [entryFrame, mkF, argsToLocals, Value.category]; done) | rfl
theorem pd_19 : parseMethodDescriptor "(III)I" = some ⟨[.int, .int, .int], some .int⟩ := by decide +kernel
def Q38 (Z : State) (p1 : Int32) (p2 : Int32) (a3 : Addr) (wc : Int32) (sf : Option Addr) (kb : ClassId) (zn : Int32) (ys : List Int32) (h0 : Heap) (n0 : Nat) (v : Option Value) (h : Heap) (L : List Loc) : Prop := v = none ∧ Fr n0 L ∧ h = h0
set_option maxRecDepth 65536 in
set_option maxHeartbeats 40000000 in
theorem rm38 (l : Launch) (Z : State) (a0 : Array Value) (hw : ∀ d ∈ tables_1, d.before a0 Z = true) (ws : List Jvm.Cond) (p1 : Int32) (p2 : Int32) (a3 : Addr) (wc : Int32) (sf : Option Addr) (kb : ClassId) (zn : Int32) (ys : List Int32) (h0 : Heap) (n0 : Nat) (Z0 : n0 ≤ h0.size) (hS : own_Sts Z h0 wc sf) (V1 : Arv Z h0 a3 kb .byte zn (ys.map Value.int) (.int (0 : Int32))) (hz : zn.toInt = ys.length) (hz2 : ys.length ≤ 100) (hp : 0 ≤ p1.toInt ∧ 0 ≤ p2.toInt ∧ p1.toInt + p2.toInt ≤ (zn >>> ((1 : Int32) &&& 31)).toInt ∧ (zn >>> ((1 : Int32) &&& 31)).toInt ≤ 1000) :
    MetFree l (⟨"java/lang/StringUTF16", "checkBoundsOffCount", "(II[B)V"⟩ : MethodName) (head1 (Jvm.Cond.code (⟨"java/lang/StringUTF16", "checkBoundsOffCount", "(II[B)V"⟩ : MethodName) jdk_52_method_94_code 3 none :: ws) ({ frames := 2, cells := 0, slots := 0, locals := 29 } : Room)) (fun a U => a = #[(.int p1), (.int p2), (.ref a3)] ∧ Z.Warmed39 U.vm ∧ U.heap = h0) (fun _ _ _ _ _ => True) (fun _ U o U' => ∃ v L, o = .returned v ∧ Q38 Z p1 p2 a3 wc sf kb zn ys h0 n0 v U'.heap L ∧ FrameEnd U o U' L ({ frames := 2, cells := 0, slots := 0, locals := 29 } : Room).cells ({ frames := 2, cells := 0, slots := 0, locals := 29 } : Room).slots) := by
  refine MetFree.of_bodySF pn_38 hisR ?_
  intro p e s m args below meth c s₁ Bd hml0 hP hK
  obtain ⟨rfl, hZ, hh⟩ := hP
  have hx := Bd.exec
  have hby := Bd.bytes
  have hml : c.maxLocals = 3 := hml0
  have hown : s.vm.findClass "java/lang/StringUTF16" = some m.cls := findClass_of_methodNamed Bd.named
  have hnm := (name_of_methodNamed Bd.named Bd.method).1
  have X0 : Stand p l e ({ frames := 2, cells := 0, slots := 0, locals := 29 } : Room) s m #[(.int p1), (.int p2), (.ref a3)] below meth c s₁ [] 0 0 := Stand.of_body Bd
  have e0 : s₁.heap = h0 := by rw [← hh, Bd.state]; rfl
  have N0 := Fr.nil n0
  refine own_start (Q := Q38 Z p1 p2 a3 wc sf kb zn ys h0 n0) (own_cast (ef_38 m p1 p2 a3) ?_)
  obtain ⟨S1, hwc, S2, S3, S4, S5⟩ := id hS
  show Go p.tables e below _ (s₁.setTop (mkF m 0 #[.val (.int p1), .val (.int p2), .val (.ref a3)] []))
  refine Go.st (fun U hr => XS.iloadN X0.here hx rfl (hb hby d38_0) rfl hr) ?_
  show Go p.tables e below _ (s₁.setTop (mkF m 1 #[.val (.int p1), .val (.int p2), .val (.ref a3)] [(.int p1)]))
  refine Go.st (fun U hr => XS.iloadN X0.here hx rfl (hb hby d38_1) rfl hr) ?_
  show Go p.tables e below _ (s₁.setTop (mkF m 2 #[.val (.int p1), .val (.int p2), .val (.ref a3)] [(.int p2), (.int p1)]))
  refine Go.st (fun U hr => XS.aloadN X0.here hx rfl (hb hby d38_2) rfl rfl hr) ?_
  show Go p.tables e below _ (s₁.setTop (mkF m 3 #[.val (.int p1), .val (.int p2), .val (.ref a3)] [(.ref a3), (.int p2), (.int p1)]))
  obtain ⟨_, _, ⟨T1, L1, k1, n1⟩, -, X1, ⟨Lc1, hQ1, l1, y1, z1⟩, st1⟩ := Jvm.LawKit.callS X0 hx (y := (⟨"java/lang/StringUTF16", "length", "([B)I"⟩ : MethodName)) hown (mvT hZ (hw _ (List.mem_of_getElem? (i := 141) rfl))) (mvT hZ (hw _ (List.mem_of_getElem? (i := 142) rfl))) (mvT hZ (hw _ (List.mem_of_getElem? (i := 25) rfl))) (mvT hZ (hw _ (List.mem_of_getElem? (i := 143) rfl))) (by decide) (backOf (W := 2) (rm34 l Z a0 hw [] a3 kb zn ys h0 n0 Z0 V1 hz hz2) hZ (hw _ (List.mem_of_getElem? (i := 143) rfl)) (hw _ (List.mem_of_getElem? (i := 25) rfl)) (by decide) (by decide)) (g := (mkF m 3 #[.val (.int p1), .val (.int p2), .val (.ref a3)] [(.ref a3), (.int p2), (.int p1)])) rfl (by rw [hml]; rfl) (argsL := [(.ref a3)]) (rest := [(.int p2), (.int p1)]) (lenOf pd_6 rfl) rfl (by show 2 * 0 + _ ≤ _; exact Nat.le_of_eq rfl) (hb hby d38_3) (fun _ _ => ⟨rfl, e0, (by decide : 0 + 0 ≤ _), (by decide : 0 + 0 ≤ _)⟩)
  dsimp only [Pt.U, Pt.locs, Pt.cells, Pt.slots] at X1 l1 y1 z1 st1 hQ1
  subst l1 y1 z1
  obtain ⟨rfl, Nq1, ee1⟩ := hQ1
  have N1 := Fr.app N0 Nq1
  refine Go.st st1 ?_
  show Go p.tables e below _ (T1.setTop (mkF m 6 #[.val (.int p1), .val (.int p2), .val (.ref a3)] [(.int (zn >>> ((1 : Int32) &&& 31))), (.int p2), (.int p1)]))
  obtain ⟨_, _, ⟨T2, L2, k2, n2⟩, -, X2, ⟨Lc2, hQ2, l2, y2, z2⟩, st2⟩ := Jvm.LawKit.callS X1 hx (y := (⟨"java/lang/String", "checkBoundsOffCount", "(III)I"⟩ : MethodName)) hown (mvT hZ (hw _ (List.mem_of_getElem? (i := 158) rfl))) (mvT hZ (hw _ (List.mem_of_getElem? (i := 159) rfl))) (mvT hZ (hw _ (List.mem_of_getElem? (i := 11) rfl))) (mvT hZ (hw _ (List.mem_of_getElem? (i := 160) rfl))) (by decide) (backOf (W := 0) (rm39 l Z a0 hw [] p1 p2 (zn >>> ((1 : Int32) &&& 31)) wc sf h0 n0 Z0 ⟨S1, hwc, S2, S3, S4, S5⟩ hp) hZ (hw _ (List.mem_of_getElem? (i := 160) rfl)) (hw _ (List.mem_of_getElem? (i := 11) rfl)) (by decide) (by decide)) (g := (mkF m 6 #[.val (.int p1), .val (.int p2), .val (.ref a3)] [(.int (zn >>> ((1 : Int32) &&& 31))), (.int p2), (.int p1)])) rfl (by rw [hml]; rfl) (argsL := [(.int p1), (.int p2), (.int (zn >>> ((1 : Int32) &&& 31)))]) (rest := []) (lenOf pd_19 rfl) rfl (by show 2 * 0 + _ ≤ _; exact Nat.le_of_eq rfl) (hb hby d38_6) (fun _ _ => ⟨rfl, ee1, (by decide : 0 + 0 ≤ _), (by decide : 0 + 0 ≤ _)⟩)
  dsimp only [Pt.U, Pt.locs, Pt.cells, Pt.slots] at X2 l2 y2 z2 st2 hQ2
  subst l2 y2 z2
  obtain ⟨rfl, Nq2, ee2⟩ := hQ2
  have N2 := Fr.app N1 Nq2
  refine Go.st st2 ?_
  show Go p.tables e below _ (T2.setTop (mkF m 9 #[.val (.int p1), .val (.int p2), .val (.ref a3)] [(.int p1)]))
  refine Go.st (fun U hr => XS.pop X2.here hx rfl (hb hby d38_9) rfl rfl hr) ?_
  show Go p.tables e below _ (T2.setTop (mkF m 10 #[.val (.int p1), .val (.int p2), .val (.ref a3)] []))
  exact own_ret0 X2 hx Bd.notSynchronized Bd.returns (hb hby d38_10) ⟨rfl, N2, ee2⟩ (by decide) (by decide)
theorem own_good_step {cs ds : List Int32} {b n j : Nat} (G : ds.length = n ∧ ∀ t, t < j → ¬ 255 < own_c cs (b + t) ∧ own_c ds t = own_b (own_c cs (b + t))) (hj : j < n) (h : ¬ 255 < own_c cs (b + j)) : (ds.set j (own_b (own_c cs (b + j)))).length = n ∧ ∀ t, t < (j + 1) → ¬ 255 < own_c cs (b + t) ∧ own_c (ds.set j (own_b (own_c cs (b + j)))) t = own_b (own_c cs (b + t)) := by
  refine ⟨by rw [List.length_set]; exact G.1, fun t ht => ?_⟩
  rw [own_c_set _ _ _ _ (by omega)]
  by_cases q : t = j
  · subst q; rw [if_pos rfl]; exact ⟨h, rfl⟩
  · rw [if_neg q]; exact G.2 t (by omega)

theorem d37_0 : decode jdk_52_method_22_code 0 = .ok (.iload_n 1, 1) := by decide +kernel
theorem d37_1 : decode jdk_52_method_22_code 1 = .ok (.iload 4, 2) := by decide +kernel
theorem d37_3 : decode jdk_52_method_22_code 3 = .ok (.aload_n 0, 1) := by decide +kernel
theorem d37_4 : decode jdk_52_method_22_code 4 = .ok (.invokestatic 173, 3) := by decide +kernel
theorem d37_7 : decode jdk_52_method_22_code 7 = .ok (.iconst 0, 1) := by decide +kernel
theorem d37_8 : decode jdk_52_method_22_code 8 = .ok (.istore 5, 2) := by decide +kernel
theorem d37_10 : decode jdk_52_method_22_code 10 = .ok (.iload 5, 2) := by decide +kernel
theorem d37_12 : decode jdk_52_method_22_code 12 = .ok (.iload 4, 2) := by decide +kernel
theorem d37_14 : decode jdk_52_method_22_code 14 = .ok (.if_icmp .ge 39, 3) := by decide +kernel
theorem d37_17 : decode jdk_52_method_22_code 17 = .ok (.aload_n 0, 1) := by decide +kernel
theorem d37_18 : decode jdk_52_method_22_code 18 = .ok (.iload_n 1, 1) := by decide +kernel
theorem d37_19 : decode jdk_52_method_22_code 19 = .ok (.invokestatic 71, 3) := by decide +kernel
theorem d37_22 : decode jdk_52_method_22_code 22 = .ok (.istore 6, 2) := by decide +kernel
theorem d37_24 : decode jdk_52_method_22_code 24 = .ok (.iload 6, 2) := by decide +kernel
theorem d37_26 : decode jdk_52_method_22_code 26 = .ok (.sipush 255, 3) := by decide +kernel
theorem d37_29 : decode jdk_52_method_22_code 29 = .ok (.if_icmp .le 6, 3) := by decide +kernel
theorem d37_32 : decode jdk_52_method_22_code 32 = .ok (.iload 5, 2) := by decide +kernel
theorem d37_34 : decode jdk_52_method_22_code 34 = .ok (.ireturn, 1) := by decide +kernel
theorem d37_35 : decode jdk_52_method_22_code 35 = .ok (.aload_n 2, 1) := by decide +kernel
theorem d37_36 : decode jdk_52_method_22_code 36 = .ok (.iload_n 3, 1) := by decide +kernel
theorem d37_37 : decode jdk_52_method_22_code 37 = .ok (.iload 6, 2) := by decide +kernel
theorem d37_39 : decode jdk_52_method_22_code 39 = .ok (.i2b, 1) := by decide +kernel
theorem d37_40 : decode jdk_52_method_22_code 40 = .ok (.bastore, 1) := by decide +kernel
theorem d37_41 : decode jdk_52_method_22_code 41 = .ok (.iinc 1 1, 3) := by decide +kernel
theorem d37_44 : decode jdk_52_method_22_code 44 = .ok (.iinc 3 1, 3) := by decide +kernel
theorem d37_47 : decode jdk_52_method_22_code 47 = .ok (.iinc 5 1, 3) := by decide +kernel
theorem d37_50 : decode jdk_52_method_22_code 50 = .ok (.goto (-40), 3) := by decide +kernel
theorem d37_53 : decode jdk_52_method_22_code 53 = .ok (.iload 4, 2) := by decide +kernel
theorem d37_55 : decode jdk_52_method_22_code 55 = .ok (.ireturn, 1) := by decide +kernel
theorem pn_37 : plainFor (⟨"java/lang/StringUTF16", "compress", "([BI[BII)I"⟩ : MethodName) = true := plainFor_of_name (by first | (simp [plainName, overriddenIn]; done) | decide +kernel)
theorem ef_37 (m : MethodId) (x0 : Addr) (x1 : Int32) (x2 : Addr) (x3 : Int32) (x4 : Int32) : entryFrame m #[(.ref x0), (.int x1), (.ref x2), (.int x3), (.int x4)] 7 = mkF m 0 #[.val (.ref x0), .val (.int x1), .val (.ref x2), .val (.int x3), .val (.int x4), .unset, .unset] [] := by first | (simp [entryFrame, mkF, argsToLocals, Value.category]; done) | rfl
theorem pd_20 : parseMethodDescriptor "(II[B)V" = some ⟨[.int, .int, (.array .byte)], none⟩ := by decide +kernel
def Q37 (Z : State) (a1 : Addr) (p2 : Int32) (a3 : Addr) (p5 : Int32) (wc : Int32) (sf : Option Addr) (kb : ClassId) (zn : Int32) (ys : List Int32) (cs : List Int32) (kd : ClassId) (b : Nat) (n : Nat) (h0 : Heap) (n0 : Nat) (v : Option Value) (h : Heap) (L : List Loc) : Prop := ∃ r : Int32, v = some (.int r) ∧ Fr n0 L ∧ Keep h0 h [a3] ∧ ((r = p5 ∧ ∃ ds : List Int32, Arv Z h a3 kd .byte p5 (ds.map Value.int) (.int (0 : Int32)) ∧ ds.length = n ∧ ∀ t, t < n → ¬ 255 < own_c cs (b + t) ∧ own_c ds t = own_b (own_c cs (b + t))) ∨ (¬ r = p5 ∧ ∃ i : Nat, r.toInt = i ∧ i < n ∧ 255 < own_c cs (b + i)))
set_option maxRecDepth 65536 in
set_option maxHeartbeats 40000000 in
theorem rm37 (l : Launch) (Z : State) (a0 : Array Value) (hw : ∀ d ∈ tables_1, d.before a0 Z = true) (ws : List Jvm.Cond) (a1 : Addr) (p2 : Int32) (a3 : Addr) (p5 : Int32) (wc : Int32) (sf : Option Addr) (kb : ClassId) (zn : Int32) (ys : List Int32) (cs : List Int32) (kd : ClassId) (b : Nat) (n : Nat) (h0 : Heap) (n0 : Nat) (Z0 : n0 ≤ h0.size) (hS : own_Sts Z h0 wc sf) (V1 : Arv Z h0 a1 kb .byte zn (ys.map Value.int) (.int (0 : Int32))) (hz : zn.toInt = ys.length) (hz2 : ys.length ≤ 100) (hen : own_enc 1 ys cs) (hb0 : p2.toInt = b) (hn0 : p5.toInt = n) (hbn : b + n ≤ cs.length) (V3 : Arv Z h0 a3 kd .byte p5 ((List.replicate n (0 : Int32)).map Value.int) (.int (0 : Int32))) (ne : a1 ≠ a3) (g3 : n0 ≤ a3) :
    MetFree l (⟨"java/lang/StringUTF16", "compress", "([BI[BII)I"⟩ : MethodName) (head1 (Jvm.Cond.code (⟨"java/lang/StringUTF16", "compress", "([BI[BII)I"⟩ : MethodName) jdk_52_method_22_code 7 (some .int) :: ws) ({ frames := 5, cells := 0, slots := 0, locals := 100 } : Room)) (fun a U => a = #[(.ref a1), (.int p2), (.ref a3), (.int (0 : Int32)), (.int p5)] ∧ Z.Warmed39 U.vm ∧ U.heap = h0) (fun _ _ _ _ _ => True) (fun _ U o U' => ∃ v L, o = .returned v ∧ Q37 Z a1 p2 a3 p5 wc sf kb zn ys cs kd b n h0 n0 v U'.heap L ∧ FrameEnd U o U' L ({ frames := 5, cells := 0, slots := 0, locals := 100 } : Room).cells ({ frames := 5, cells := 0, slots := 0, locals := 100 } : Room).slots) := by
  refine MetFree.of_bodySF pn_37 hisR ?_
  intro p e s m args below meth c s₁ Bd hml0 hP hK
  obtain ⟨rfl, hZ, hh⟩ := hP
  have hx := Bd.exec
  have hby := Bd.bytes
  have hml : c.maxLocals = 7 := hml0
  have hown : s.vm.findClass "java/lang/StringUTF16" = some m.cls := findClass_of_methodNamed Bd.named
  have hnm := (name_of_methodNamed Bd.named Bd.method).1
  have X0 : Stand p l e ({ frames := 5, cells := 0, slots := 0, locals := 100 } : Room) s m #[(.ref a1), (.int p2), (.ref a3), (.int (0 : Int32)), (.int p5)] below meth c s₁ [] 0 0 := Stand.of_body Bd
  have e0 : s₁.heap = h0 := by rw [← hh, Bd.state]; rfl
  have N0 := Fr.nil n0
  refine own_start (Q := Q37 Z a1 p2 a3 p5 wc sf kb zn ys cs kd b n h0 n0) (own_cast (ef_37 m a1 p2 a3 (0 : Int32) p5) ?_)
  obtain ⟨S1, hwc, S2, S3, S4, S5⟩ := id hS
  have hyl := (hen.utf (by decide)).1
  have hhf := own_half (p := zn) (n := cs.length) (by omega)
  show Go p.tables e below _ (s₁.setTop (mkF m 0 #[.val (.ref a1), .val (.int p2), .val (.ref a3), .val (.int (0 : Int32)), .val (.int p5), .unset, .unset] []))
  refine Go.st (fun U hr => XS.iloadN X0.here hx rfl (hb hby d37_0) rfl hr) ?_
  show Go p.tables e below _ (s₁.setTop (mkF m 1 #[.val (.ref a1), .val (.int p2), .val (.ref a3), .val (.int (0 : Int32)), .val (.int p5), .unset, .unset] [(.int p2)]))
  refine Go.st (fun U hr => XS.iload X0.here hx rfl (hb hby d37_1) rfl hr) ?_
  show Go p.tables e below _ (s₁.setTop (mkF m 3 #[.val (.ref a1), .val (.int p2), .val (.ref a3), .val (.int (0 : Int32)), .val (.int p5), .unset, .unset] [(.int p5), (.int p2)]))
  refine Go.st (fun U hr => XS.aloadN X0.here hx rfl (hb hby d37_3) rfl rfl hr) ?_
  show Go p.tables e below _ (s₁.setTop (mkF m 4 #[.val (.ref a1), .val (.int p2), .val (.ref a3), .val (.int (0 : Int32)), .val (.int p5), .unset, .unset] [(.ref a1), (.int p5), (.int p2)]))
  obtain ⟨_, _, ⟨T1, L1, k1, n1⟩, -, X1, ⟨Lc1, hQ1, l1, y1, z1⟩, st1⟩ := Jvm.LawKit.callS X0 hx (y := (⟨"java/lang/StringUTF16", "checkBoundsOffCount", "(II[B)V"⟩ : MethodName)) hown (mvT hZ (hw _ (List.mem_of_getElem? (i := 155) rfl))) (mvT hZ (hw _ (List.mem_of_getElem? (i := 156) rfl))) (mvT hZ (hw _ (List.mem_of_getElem? (i := 25) rfl))) (mvT hZ (hw _ (List.mem_of_getElem? (i := 157) rfl))) (by decide) (backOf (W := 0) (rm38 l Z a0 hw [] p2 p5 a1 wc sf kb zn ys h0 n0 Z0 ⟨S1, hwc, S2, S3, S4, S5⟩ V1 hz hz2 (by omega)) hZ (hw _ (List.mem_of_getElem? (i := 157) rfl)) (hw _ (List.mem_of_getElem? (i := 25) rfl)) (by decide) (by decide)) (g := (mkF m 4 #[.val (.ref a1), .val (.int p2), .val (.ref a3), .val (.int (0 : Int32)), .val (.int p5), .unset, .unset] [(.ref a1), (.int p5), (.int p2)])) rfl (by rw [hml]; rfl) (argsL := [(.int p2), (.int p5), (.ref a1)]) (rest := []) (lenOf pd_20 rfl) rfl (by show 2 * 0 + _ ≤ _; exact Nat.le_of_eq rfl) (hb hby d37_4) (fun _ _ => ⟨rfl, e0, (by decide : 0 + 0 ≤ _), (by decide : 0 + 0 ≤ _)⟩)
  dsimp only [Pt.U, Pt.locs, Pt.cells, Pt.slots] at X1 l1 y1 z1 st1 hQ1
  subst l1 y1 z1
  obtain ⟨rfl, Nq1, ee1⟩ := hQ1
  have N1 := Fr.app N0 Nq1
  refine Go.st st1 ?_
  show Go p.tables e below _ (T1.setTop (mkF m 7 #[.val (.ref a1), .val (.int p2), .val (.ref a3), .val (.int (0 : Int32)), .val (.int p5), .unset, .unset] []))
  refine Go.st (fun U hr => XS.iconst X1.here hx rfl (hb hby d37_7) hr) ?_
  show Go p.tables e below _ (T1.setTop (mkF m 8 #[.val (.ref a1), .val (.int p2), .val (.ref a3), .val (.int (0 : Int32)), .val (.int p5), .unset, .unset] [(.int (0 : Int32))]))
  refine Go.st (fun U hr => XS.istore X1.here hx rfl (hb hby d37_8) rfl (l' := #[.val (.ref a1), .val (.int p2), .val (.ref a3), .val (.int (0 : Int32)), .val (.int p5), .val (.int (0 : Int32)), .unset]) rfl hr) ?_
  show Go p.tables e below _ (T1.setTop (mkF m 10 #[.val (.ref a1), .val (.int p2), .val (.ref a3), .val (.int (0 : Int32)), .val (.int p5), .val (.int (0 : Int32)), .unset] []))
  have loop : ∀ (k j : Nat) (si di ci : Int32) (o6 : Slot) (Tl : State) (lo : List Loc) (hl : Heap) (ds : List Int32), k + j = n → si.toInt = ((b + j : Nat) : Int) → di.toInt = j → ci.toInt = j → One o6 → Stand p l e ({ frames := 5, cells := 0, slots := 0, locals := 100 } : Room) s m #[(.ref a1), (.int p2), (.ref a3), (.int (0 : Int32)), (.int p5)] below meth c Tl lo 0 0 → Tl.heap = hl → Fr n0 lo → n0 ≤ hl.size → Keep h0 hl [a3] → own_Sts Z hl wc sf → Arv Z hl a1 kb .byte zn (ys.map Value.int) (.int (0 : Int32)) → Arv Z hl a3 kd .byte p5 (ds.map Value.int) (.int (0 : Int32)) → (ds.length = n ∧ ∀ t, t < j → ¬ 255 < own_c cs (b + t) ∧ own_c ds t = own_b (own_c cs (b + t))) → Go p.tables e below (own_Fin s below ({ frames := 5, cells := 0, slots := 0, locals := 100 } : Room).cells ({ frames := 5, cells := 0, slots := 0, locals := 100 } : Room).slots (Q37 Z a1 p2 a3 p5 wc sf kb zn ys cs kd b n h0 n0)) (Tl.setTop (mkF m 10 #[.val (.ref a1), .val (.int si), .val (.ref a3), .val (.int di), .val (.int p5), .val (.int ci), o6] [])) := by
    intro k
    induction k with
    | zero =>
      intro j si di ci o6 Tl lo hl ds hk hsi hdi hci o6h Xl el Nl zl Kl hSl Va Vd hG
      obtain ⟨S1l, hwc, S2l, S3l, S4l, S5l⟩ := id hSl
      have ej : j = n := by omega
      subst ej
      refine Go.st (fun U hr => XS.iload Xl.here hx rfl (hb hby d37_10) rfl hr) ?_
      show Go p.tables e below _ (Tl.setTop (mkF m 12 #[.val (.ref a1), .val (.int si), .val (.ref a3), .val (.int di), .val (.int p5), .val (.int ci), o6] [(.int ci)]))
      refine Go.st (fun U hr => XS.iload Xl.here hx rfl (hb hby d37_12) rfl hr) ?_
      show Go p.tables e below _ (Tl.setTop (mkF m 14 #[.val (.ref a1), .val (.int si), .val (.ref a3), .val (.int di), .val (.int p5), .val (.int ci), o6] [(.int p5), (.int ci)]))
      have hc14_2 : ¬ (ci < p5) := fun q => by rw [own_lt32] at q; omega
      refine Go.st (fun U hr => XS.icmpYes Xl.here hx rfl (pc0 := 14) (pc' := 53) rfl (hb hby d37_14) rfl (flt hc14_2).2.1 (by decide) (by decide) hr) ?_
      show Go p.tables e below _ (Tl.setTop (mkF m 53 #[.val (.ref a1), .val (.int si), .val (.ref a3), .val (.int di), .val (.int p5), .val (.int ci), o6] []))
      refine Go.st (fun U hr => XS.iload Xl.here hx rfl (hb hby d37_53) rfl hr) ?_
      show Go p.tables e below _ (Tl.setTop (mkF m 55 #[.val (.ref a1), .val (.int si), .val (.ref a3), .val (.int di), .val (.int p5), .val (.int ci), o6] [(.int p5)]))
      exact own_retO Xl hx Bd.notSynchronized (t := .int) Bd.returns rfl (Or.inl ⟨rfl, Or.inl rfl, _, rfl⟩) (hb hby d37_55) (by rw [el]; exact ⟨_, rfl, Nl, Kl, Or.inl ⟨rfl, ds, Vd, hG⟩⟩) (by decide) (by decide)
    | succ k ih =>
      intro j si di ci o6 Tl lo hl ds hk hsi hdi hci o6h Xl el Nl zl Kl hSl Va Vd hG
      obtain ⟨S1l, hwc, S2l, S3l, S4l, S5l⟩ := id hSl
      refine Go.st (fun U hr => XS.iload Xl.here hx rfl (hb hby d37_10) rfl hr) ?_
      show Go p.tables e below _ (Tl.setTop (mkF m 12 #[.val (.ref a1), .val (.int si), .val (.ref a3), .val (.int di), .val (.int p5), .val (.int ci), o6] [(.int ci)]))
      refine Go.st (fun U hr => XS.iload Xl.here hx rfl (hb hby d37_12) rfl hr) ?_
      show Go p.tables e below _ (Tl.setTop (mkF m 14 #[.val (.ref a1), .val (.int si), .val (.ref a3), .val (.int di), .val (.int p5), .val (.int ci), o6] [(.int p5), (.int ci)]))
      have hc14_3 : ci < p5 := by rw [own_lt32]; omega
      refine Go.st (fun U hr => XS.icmpNo Xl.here hx rfl (hb hby d37_14) rfl (tlt hc14_3).2.1 hr) ?_
      show Go p.tables e below _ (Tl.setTop (mkF m 17 #[.val (.ref a1), .val (.int si), .val (.ref a3), .val (.int di), .val (.int p5), .val (.int ci), o6] []))
      refine Go.st (fun U hr => XS.aloadN Xl.here hx rfl (hb hby d37_17) rfl rfl hr) ?_
      show Go p.tables e below _ (Tl.setTop (mkF m 18 #[.val (.ref a1), .val (.int si), .val (.ref a3), .val (.int di), .val (.int p5), .val (.int ci), o6] [(.ref a1)]))
      refine Go.st (fun U hr => XS.iloadN Xl.here hx rfl (hb hby d37_18) rfl hr) ?_
      show Go p.tables e below _ (Tl.setTop (mkF m 19 #[.val (.ref a1), .val (.int si), .val (.ref a3), .val (.int di), .val (.int p5), .val (.int ci), o6] [(.int si), (.ref a1)]))
      obtain ⟨_, _, ⟨T4, L4, k4, n4⟩, -, X4, ⟨Lc4, hQ4, l4, y4, z4⟩, st4⟩ := Jvm.LawKit.callS Xl hx (y := (⟨"java/lang/StringUTF16", "getChar", "([BI)C"⟩ : MethodName)) hown (mvT hZ (hw _ (List.mem_of_getElem? (i := 132) rfl))) (mvT hZ (hw _ (List.mem_of_getElem? (i := 133) rfl))) (mvT hZ (hw _ (List.mem_of_getElem? (i := 25) rfl))) (mvT hZ (hw _ (List.mem_of_getElem? (i := 134) rfl))) (by decide) (backOf (W := 0) (rm31 l Z a0 hw [] a1 si wc sf kb zn ys (b + j) hl n0 zl ⟨S1l, hwc, S2l, S3l, S4l, S5l⟩ Va hz hz2 hsi (by omega)) hZ (hw _ (List.mem_of_getElem? (i := 134) rfl)) (hw _ (List.mem_of_getElem? (i := 25) rfl)) (by decide) (by decide)) (g := (mkF m 19 #[.val (.ref a1), .val (.int si), .val (.ref a3), .val (.int di), .val (.int p5), .val (.int ci), o6] [(.int si), (.ref a1)])) rfl (by rw [hml]; rfl) (argsL := [(.ref a1), (.int si)]) (rest := []) (lenOf pd_8 rfl) rfl (by show 2 * 0 + _ ≤ _; exact Nat.le_of_eq rfl) (hb hby d37_19) (fun _ _ => ⟨rfl, el, (by decide : 0 + 0 ≤ _), (by decide : 0 + 0 ≤ _)⟩)
      dsimp only [Pt.U, Pt.locs, Pt.cells, Pt.slots] at X4 l4 y4 z4 st4 hQ4
      subst l4 y4 z4
      obtain ⟨rfl, Nq4, ee4⟩ := hQ4
      have N4 := Fr.app Nl Nq4
      refine Go.st st4 ?_
      show Go p.tables e below _ (T4.setTop (mkF m 22 #[.val (.ref a1), .val (.int si), .val (.ref a3), .val (.int di), .val (.int p5), .val (.int ci), o6] [(.int (own_gc (own_c ys (2 * (b + j))) (own_c ys (2 * (b + j) + 1))))]))
      rw [show (own_gc (own_c ys (2 * (b + j))) (own_c ys (2 * (b + j) + 1))) = (own_c cs (b + j)) from by rw [((hen.utf (by decide)).2 (b + j) (by omega)).1, ((hen.utf (by decide)).2 (b + j) (by omega)).2, own_gcc _ (hen.1 (b + j) (by omega))]]
      show Go p.tables e below _ (T4.setTop (mkF m 22 #[.val (.ref a1), .val (.int si), .val (.ref a3), .val (.int di), .val (.int p5), .val (.int ci), o6] [(.int (own_c cs (b + j)))]))
      refine Go.st (fun U hr => XS.istoreS X4.here hx rfl (hb hby d37_22) rfl (o := o6) rfl o6h hr) ?_
      show Go p.tables e below _ (T4.setTop (mkF m 24 #[.val (.ref a1), .val (.int si), .val (.ref a3), .val (.int di), .val (.int p5), .val (.int ci), .val (.int (own_c cs (b + j)))] []))
      refine Go.st (fun U hr => XS.iload X4.here hx rfl (hb hby d37_24) rfl hr) ?_
      show Go p.tables e below _ (T4.setTop (mkF m 26 #[.val (.ref a1), .val (.int si), .val (.ref a3), .val (.int di), .val (.int p5), .val (.int ci), .val (.int (own_c cs (b + j)))] [(.int (own_c cs (b + j)))]))
      refine Go.st (fun U hr => XS.sipush X4.here hx rfl (hb hby d37_26) hr) ?_
      show Go p.tables e below _ (T4.setTop (mkF m 29 #[.val (.ref a1), .val (.int si), .val (.ref a3), .val (.int di), .val (.int p5), .val (.int ci), .val (.int (own_c cs (b + j)))] [(.int (255 : Int32)), (.int (own_c cs (b + j)))]))
      by_cases hc29_5 : (255 : Int32) < (own_c cs (b + j))
      · refine Go.st (fun U hr => XS.icmpNo X4.here hx rfl (hb hby d37_29) rfl (tlt hc29_5).2.2.2 hr) ?_
        show Go p.tables e below _ (T4.setTop (mkF m 32 #[.val (.ref a1), .val (.int si), .val (.ref a3), .val (.int di), .val (.int p5), .val (.int ci), .val (.int (own_c cs (b + j)))] []))
        refine Go.st (fun U hr => XS.iload X4.here hx rfl (hb hby d37_32) rfl hr) ?_
        show Go p.tables e below _ (T4.setTop (mkF m 34 #[.val (.ref a1), .val (.int si), .val (.ref a3), .val (.int di), .val (.int p5), .val (.int ci), .val (.int (own_c cs (b + j)))] [(.int ci)]))
        exact own_retO X4 hx Bd.notSynchronized (t := .int) Bd.returns rfl (Or.inl ⟨rfl, Or.inl rfl, _, rfl⟩) (hb hby d37_34) (by rw [ee4]; exact ⟨_, rfl, N4, Kl, Or.inr ⟨fun q => by rw [q] at hci; omega, j, hci, by omega, hc29_5⟩⟩) (by decide) (by decide)
      · refine Go.st (fun U hr => XS.icmpYes X4.here hx rfl (pc0 := 29) (pc' := 35) rfl (hb hby d37_29) rfl (flt hc29_5).2.2.2 (by decide) (by decide) hr) ?_
        show Go p.tables e below _ (T4.setTop (mkF m 35 #[.val (.ref a1), .val (.int si), .val (.ref a3), .val (.int di), .val (.int p5), .val (.int ci), .val (.int (own_c cs (b + j)))] []))
        refine Go.st (fun U hr => XS.aloadN X4.here hx rfl (hb hby d37_35) rfl rfl hr) ?_
        show Go p.tables e below _ (T4.setTop (mkF m 36 #[.val (.ref a1), .val (.int si), .val (.ref a3), .val (.int di), .val (.int p5), .val (.int ci), .val (.int (own_c cs (b + j)))] [(.ref a3)]))
        refine Go.st (fun U hr => XS.iloadN X4.here hx rfl (hb hby d37_36) rfl hr) ?_
        show Go p.tables e below _ (T4.setTop (mkF m 37 #[.val (.ref a1), .val (.int si), .val (.ref a3), .val (.int di), .val (.int p5), .val (.int ci), .val (.int (own_c cs (b + j)))] [(.int di), (.ref a3)]))
        refine Go.st (fun U hr => XS.iload X4.here hx rfl (hb hby d37_37) rfl hr) ?_
        show Go p.tables e below _ (T4.setTop (mkF m 39 #[.val (.ref a1), .val (.int si), .val (.ref a3), .val (.int di), .val (.int p5), .val (.int ci), .val (.int (own_c cs (b + j)))] [(.int (own_c cs (b + j))), (.int di), (.ref a3)]))
        refine Go.st (fun U hr => XS.i2b X4.here hx rfl (hb hby d37_39) rfl hr) ?_
        show Go p.tables e below _ (T4.setTop (mkF m 40 #[.val (.ref a1), .val (.int si), .val (.ref a3), .val (.int di), .val (.int p5), .val (.int ci), .val (.int (own_c cs (b + j)))] [(.int ((own_c cs (b + j)).toInt8.toInt32)), (.int di), (.ref a3)]))
        obtain ⟨cl6, Ar6, qa6, Sa6, Na6, Ha6, Ga6⟩ := id Vd
        have hin6 : ¬ (di < 0 ∨ cl6.slots.size ≤ (di).toNatClampNeg) := inb_of Sa6 (own_inb (by rw [hdi]; omega))
        obtain ⟨T7, h7, X7, e7, W7, st7⟩ := stB X4 hx hZ ee4 Ar6 (j := di) hin6 (g := (mkF m 40 #[.val (.ref a1), .val (.int si), .val (.ref a3), .val (.int di), .val (.int p5), .val (.int ci), .val (.int (own_c cs (b + j)))] [(.int ((own_c cs (b + j)).toInt8.toInt32)), (.int di), (.ref a3)])) rfl rfl (hb hby d37_40)
        refine Go.st st7 ?_
        have V7' := Arv.set Ar6 qa6 Sa6 Na6 Ha6 Ga6 (fits_nar_byte _) W7 (di.toNatClampNeg) rfl (by rw [List.length_map, own_ix hdi]; omega)
        have V7 : Arv Z h7 a3 kd .byte p5 ((ds.set j (own_b (own_c cs (b + j)))).map Value.int) (.int (0 : Int32)) := by have q := V7'; rw [own_ix hdi, ← List.map_set] at q; exact q
        have k8 := (Kl).wr W7 (Or.inl (List.mem_of_getElem? (i := 0) rfl))
        have f9 := (Va).other W7 ne
        have f11 := (S1l).wr W7
        have f12 := (S2l).wr W7
        have f13 := (S3l).wr W7
        have f14 := (S4l).wr W7
        have f15 := (S5l).wr W7
        have z16 := Nat.le_trans zl (Keep.of_wr W7).1
        have N7 := Fr.snoc X7 N4 g3
        show Go p.tables e below _ (T7.setTop (mkF m 41 #[.val (.ref a1), .val (.int si), .val (.ref a3), .val (.int di), .val (.int p5), .val (.int ci), .val (.int (own_c cs (b + j)))] []))
        refine Go.st (fun U hr => XS.iinc X7.here hx rfl (hb hby d37_41) rfl (l' := #[.val (.ref a1), .val (.int (si + (1 : Int32))), .val (.ref a3), .val (.int di), .val (.int p5), .val (.int ci), .val (.int (own_c cs (b + j)))]) rfl hr) ?_
        show Go p.tables e below _ (T7.setTop (mkF m 44 #[.val (.ref a1), .val (.int (si + (1 : Int32))), .val (.ref a3), .val (.int di), .val (.int p5), .val (.int ci), .val (.int (own_c cs (b + j)))] []))
        refine Go.st (fun U hr => XS.iinc X7.here hx rfl (hb hby d37_44) rfl (l' := #[.val (.ref a1), .val (.int (si + (1 : Int32))), .val (.ref a3), .val (.int (di + (1 : Int32))), .val (.int p5), .val (.int ci), .val (.int (own_c cs (b + j)))]) rfl hr) ?_
        show Go p.tables e below _ (T7.setTop (mkF m 47 #[.val (.ref a1), .val (.int (si + (1 : Int32))), .val (.ref a3), .val (.int (di + (1 : Int32))), .val (.int p5), .val (.int ci), .val (.int (own_c cs (b + j)))] []))
        refine Go.st (fun U hr => XS.iinc X7.here hx rfl (hb hby d37_47) rfl (l' := #[.val (.ref a1), .val (.int (si + (1 : Int32))), .val (.ref a3), .val (.int (di + (1 : Int32))), .val (.int p5), .val (.int (ci + (1 : Int32))), .val (.int (own_c cs (b + j)))]) rfl hr) ?_
        show Go p.tables e below _ (T7.setTop (mkF m 50 #[.val (.ref a1), .val (.int (si + (1 : Int32))), .val (.ref a3), .val (.int (di + (1 : Int32))), .val (.int p5), .val (.int (ci + (1 : Int32))), .val (.int (own_c cs (b + j)))] []))
        refine Go.st (fun U hr => XS.goto X7.here hx rfl (pc0 := 50) (pc' := 10) rfl (hb hby d37_50) (by decide) (by decide) hr) ?_
        show Go p.tables e below _ (T7.setTop (mkF m 10 #[.val (.ref a1), .val (.int (si + (1 : Int32))), .val (.ref a3), .val (.int (di + (1 : Int32))), .val (.int p5), .val (.int (ci + (1 : Int32))), .val (.int (own_c cs (b + j)))] []))
        exact ih (j + 1) (si + 1) (di + 1) (ci + 1) _ T7 _ h7 _ (by omega) (own_p1 (n := b + j) hsi (by omega)) (own_p1 hdi (by omega)) (own_p1 hci (by omega)) (One.val rfl) X7 e7 N7 z16 k8 ⟨f11, hwc, f12, f13, f14, f15⟩ f9 V7 (own_good_step hG (by omega) hc29_5)
  exact loop n 0 _ _ _ .unset T1 _ h0 _ (by omega) hb0 (by decide) (by decide) One.u X1 ee1 N1 Z0 (Keep.refl h0 [a3]) ⟨S1, hwc, S2, S3, S4, S5⟩ V1 V3 ⟨by simp, fun t h => absurd h (Nat.not_lt_zero _)⟩
theorem own_encD {ds cs : List Int32} {b n : Nat} (hc : ∀ i, i < cs.length → own_ch (own_c cs i)) (h : b + n ≤ cs.length) (G : ds.length = n ∧ ∀ t, t < n → ¬ 255 < own_c cs (b + t) ∧ own_c ds t = own_b (own_c cs (b + t))) : own_enc 0 ds (own_sl cs b n) := by
  refine ⟨fun i hi => ?_, Or.inl ⟨rfl, by rw [own_sl_len]; exact G.1, fun i hi => ?_⟩⟩
  · rw [own_sl_len] at hi; rw [own_sl_c _ _ _ _ hi]; exact hc _ (by omega)
  · rw [own_sl_len] at hi; rw [own_sl_c _ _ _ _ hi]; exact ⟨own_le255 (G.2 i hi).1, (G.2 i hi).2⟩
theorem own_sl_all (cs : List Int32) : own_sl cs 0 cs.length = cs := by
  apply List.ext_getElem?
  intro i
  unfold own_sl own_c
  rw [List.getElem?_map]
  by_cases h : i < cs.length
  · rw [List.getElem?_range h]; simp [List.getD_eq_getElem?_getD, h]
  · rw [List.getElem?_eq_none (by simpa using h), List.getElem?_eq_none (by simpa using h)]; rfl

theorem d36_0 : decode jdk_52_method_17_code 0 = .ok (.iload_n 2, 1) := by decide +kernel
theorem d36_1 : decode jdk_52_method_17_code 1 = .ok (.newarray .byte, 2) := by decide +kernel
theorem d36_3 : decode jdk_52_method_17_code 3 = .ok (.astore_n 3, 1) := by decide +kernel
theorem d36_4 : decode jdk_52_method_17_code 4 = .ok (.aload_n 0, 1) := by decide +kernel
theorem d36_5 : decode jdk_52_method_17_code 5 = .ok (.iload_n 1, 1) := by decide +kernel
theorem d36_6 : decode jdk_52_method_17_code 6 = .ok (.aload_n 3, 1) := by decide +kernel
theorem d36_7 : decode jdk_52_method_17_code 7 = .ok (.iconst 0, 1) := by decide +kernel
theorem d36_8 : decode jdk_52_method_17_code 8 = .ok (.iload_n 2, 1) := by decide +kernel
theorem d36_9 : decode jdk_52_method_17_code 9 = .ok (.invokestatic 123, 3) := by decide +kernel
theorem d36_12 : decode jdk_52_method_17_code 12 = .ok (.istore 4, 2) := by decide +kernel
theorem d36_14 : decode jdk_52_method_17_code 14 = .ok (.iload 4, 2) := by decide +kernel
theorem d36_16 : decode jdk_52_method_17_code 16 = .ok (.iload_n 2, 1) := by decide +kernel
theorem d36_17 : decode jdk_52_method_17_code 17 = .ok (.if_icmp .eq 47, 3) := by decide +kernel
theorem d36_20 : decode jdk_52_method_17_code 20 = .ok (.aload_n 0, 1) := by decide +kernel
theorem d36_21 : decode jdk_52_method_17_code 21 = .ok (.iload_n 1, 1) := by decide +kernel
theorem d36_22 : decode jdk_52_method_17_code 22 = .ok (.iconst 1, 1) := by decide +kernel
theorem d36_23 : decode jdk_52_method_17_code 23 = .ok (.ishl, 1) := by decide +kernel
theorem d36_24 : decode jdk_52_method_17_code 24 = .ok (.iload_n 1, 1) := by decide +kernel
theorem d36_25 : decode jdk_52_method_17_code 25 = .ok (.iload_n 2, 1) := by decide +kernel
theorem d36_26 : decode jdk_52_method_17_code 26 = .ok (.iadd, 1) := by decide +kernel
theorem d36_27 : decode jdk_52_method_17_code 27 = .ok (.invokestatic 11, 3) := by decide +kernel
theorem d36_30 : decode jdk_52_method_17_code 30 = .ok (.invokestatic 126, 3) := by decide +kernel
theorem d36_33 : decode jdk_52_method_17_code 33 = .ok (.astore 5, 2) := by decide +kernel
theorem d36_35 : decode jdk_52_method_17_code 35 = .ok (.aload 5, 2) := by decide +kernel
theorem d36_37 : decode jdk_52_method_17_code 37 = .ok (.iload 4, 2) := by decide +kernel
theorem d36_39 : decode jdk_52_method_17_code 39 = .ok (.invokestatic 71, 3) := by decide +kernel
theorem d36_42 : decode jdk_52_method_17_code 42 = .ok (.sipush 255, 3) := by decide +kernel
theorem d36_45 : decode jdk_52_method_17_code 45 = .ok (.if_icmp .gt 16, 3) := by decide +kernel
theorem d36_61 : decode jdk_52_method_17_code 61 = .ok (.aload 5, 2) := by decide +kernel
theorem d36_63 : decode jdk_52_method_17_code 63 = .ok (.areturn, 1) := by decide +kernel
theorem d36_64 : decode jdk_52_method_17_code 64 = .ok (.aload_n 3, 1) := by decide +kernel
theorem d36_65 : decode jdk_52_method_17_code 65 = .ok (.areturn, 1) := by decide +kernel
theorem pn_36 : plainFor (⟨"java/lang/StringUTF16", "compress", "([BII)[B"⟩ : MethodName) = true := plainFor_of_name (by first | (simp [plainName, overriddenIn]; done) | decide +kernel)
theorem ef_36 (m : MethodId) (x0 : Addr) (x1 : Int32) (x2 : Int32) : entryFrame m #[(.ref x0), (.int x1), (.int x2)] 6 = mkF m 0 #[.val (.ref x0), .val (.int x1), .val (.int x2), .unset, .unset, .unset] [] := by first | (simp [entryFrame, mkF, argsToLocals, Value.category]; done) | rfl
theorem pd_21 : parseMethodDescriptor "([BI[BII)I" = some ⟨[(.array .byte), .int, (.array .byte), .int, .int], some .int⟩ := by decide +kernel
def Q36 (Z : State) (a1 : Addr) (p2 : Int32) (p3 : Int32) (wc : Int32) (sf : Option Addr) (kb : ClassId) (zn : Int32) (ys : List Int32) (cs : List Int32) (b : Nat) (n : Nat) (h0 : Heap) (n0 : Nat) (v : Option Value) (h : Heap) (L : List Loc) : Prop := ∃ r : Addr, v = some (.ref r) ∧ Fr n0 L ∧ h0.size ≤ r ∧ Keep h0 h [] ∧ ∃ (kb : ClassId) (cd zn : Int32) (ys : List Int32), Arv Z h r kb .byte zn (ys.map Value.int) (.int (0 : Int32)) ∧ zn.toInt = ys.length ∧ own_enc cd ys (own_sl cs b n)
set_option maxRecDepth 65536 in
set_option maxHeartbeats 40000000 in
theorem rm36 (l : Launch) (Z : State) (a0 : Array Value) (hw : ∀ d ∈ tables_1, d.before a0 Z = true) (ws : List Jvm.Cond) (a1 : Addr) (p2 : Int32) (p3 : Int32) (wc : Int32) (sf : Option Addr) (kb : ClassId) (zn : Int32) (ys : List Int32) (cs : List Int32) (b : Nat) (n : Nat) (h0 : Heap) (n0 : Nat) (Z0 : n0 ≤ h0.size) (hS : own_Sts Z h0 wc sf) (V1 : Arv Z h0 a1 kb .byte zn (ys.map Value.int) (.int (0 : Int32))) (hz : zn.toInt = ys.length) (hz2 : ys.length ≤ 100) (hen : own_enc 1 ys cs) (hb0 : p2.toInt = b) (hn0 : p3.toInt = n) (hbn : b + n ≤ cs.length) (h5 : cs.length ≤ 5) (hnot : ¬ (b = 0 ∧ n = cs.length)) (hpos : 0 < n) :
    MetFree l (⟨"java/lang/StringUTF16", "compress", "([BII)[B"⟩ : MethodName) (head1 (Jvm.Cond.code (⟨"java/lang/StringUTF16", "compress", "([BII)[B"⟩ : MethodName) jdk_52_method_17_code 6 (some (.array .byte)) :: ws) ({ frames := 6, cells := 2, slots := 15, locals := 118 } : Room)) (fun a U => a = #[(.ref a1), (.int p2), (.int p3)] ∧ Z.Warmed39 U.vm ∧ U.heap = h0) (fun _ _ _ _ _ => True) (fun _ U o U' => ∃ v L, o = .returned v ∧ Q36 Z a1 p2 p3 wc sf kb zn ys cs b n h0 n0 v U'.heap L ∧ FrameEnd U o U' L ({ frames := 6, cells := 2, slots := 15, locals := 118 } : Room).cells ({ frames := 6, cells := 2, slots := 15, locals := 118 } : Room).slots) := by
  refine MetFree.of_bodySF pn_36 hisR ?_
  intro p e s m args below meth c s₁ Bd hml0 hP hK
  obtain ⟨rfl, hZ, hh⟩ := hP
  have hx := Bd.exec
  have hby := Bd.bytes
  have hml : c.maxLocals = 6 := hml0
  have hown : s.vm.findClass "java/lang/StringUTF16" = some m.cls := findClass_of_methodNamed Bd.named
  have hnm := (name_of_methodNamed Bd.named Bd.method).1
  have X0 : Stand p l e ({ frames := 6, cells := 2, slots := 15, locals := 118 } : Room) s m #[(.ref a1), (.int p2), (.int p3)] below meth c s₁ [] 0 0 := Stand.of_body Bd
  have e0 : s₁.heap = h0 := by rw [← hh, Bd.state]; rfl
  have N0 := Fr.nil n0
  refine own_start (Q := Q36 Z a1 p2 p3 wc sf kb zn ys cs b n h0 n0) (own_cast (ef_36 m a1 p2 p3) ?_)
  obtain ⟨S1, hwc, S2, S3, S4, S5⟩ := id hS
  have hyl := (hen.utf (by decide)).1
  have hsb := own_sh hb0 (by omega)
  have hsum := own_add hb0 hn0 (by omega)
  have hse := own_sh hsum (by omega)
  show Go p.tables e below _ (s₁.setTop (mkF m 0 #[.val (.ref a1), .val (.int p2), .val (.int p3), .unset, .unset, .unset] []))
  refine Go.st (fun U hr => XS.iloadN X0.here hx rfl (hb hby d36_0) rfl hr) ?_
  show Go p.tables e below _ (s₁.setTop (mkF m 1 #[.val (.ref a1), .val (.int p2), .val (.int p3), .unset, .unset, .unset] [(.int p3)]))
  obtain ⟨T1, h1, k1, X1, e1, E1, A1, st1⟩ := newP X0 hx hZ (hw _ (List.mem_of_getElem? (i := 27) rfl)) e0 (g := (mkF m 1 #[.val (.ref a1), .val (.int p2), .val (.int p3), .unset, .unset, .unset] [(.int p3)])) rfl (hb hby d36_1) rfl (own_neg hn0) (cap := 5) (by rw [own_ix hn0]; omega) (by decide) (by decide) (by decide)
  obtain ⟨b1, g1⟩ : ∃ z, z = h0.size := ⟨_, rfl⟩
  rw [← g1] at A1 st1
  refine Go.st st1 ?_
  have gb1 : n0 ≤ b1 := Nat.le_trans Z0 (Nat.le_of_eq g1.symm)
  have sb1 : h0.size ≤ b1 := Nat.le_trans ((Keep.refl h0 [])).1 (Nat.le_of_eq g1.symm)
  have k2 := ((Keep.refl h0 [])).ext E1
  have n3 : a1 ≠ b1 := Nat.ne_of_lt (Nat.lt_of_lt_of_le (V1).lt (Nat.le_of_eq g1.symm))
  have f4 := (S1).ext E1
  have f5 := (S2).ext E1
  have f6 := (S3).ext E1
  have f7 := (S4).ext E1
  have f8 := (S5).ext E1
  have f9 := (V1).ext E1
  have z10 := Nat.le_trans Z0 E1.1
  have V1 : Arv Z h1 b1 k1 .byte p3 ((List.replicate n (0 : Int32)).map Value.int) (.int (0 : Int32)) := (Arv.new A1 (own_neg hn0)).pad (own_repI _)
  show Go p.tables e below _ (T1.setTop (mkF m 3 #[.val (.ref a1), .val (.int p2), .val (.int p3), .unset, .unset, .unset] [(.ref b1)]))
  refine Go.st (fun U hr => XS.astoreN X1.here hx rfl (hb hby d36_3) rfl rfl (l' := #[.val (.ref a1), .val (.int p2), .val (.int p3), .val (.ref b1), .unset, .unset]) rfl hr) ?_
  show Go p.tables e below _ (T1.setTop (mkF m 4 #[.val (.ref a1), .val (.int p2), .val (.int p3), .val (.ref b1), .unset, .unset] []))
  refine Go.st (fun U hr => XS.aloadN X1.here hx rfl (hb hby d36_4) rfl rfl hr) ?_
  show Go p.tables e below _ (T1.setTop (mkF m 5 #[.val (.ref a1), .val (.int p2), .val (.int p3), .val (.ref b1), .unset, .unset] [(.ref a1)]))
  refine Go.st (fun U hr => XS.iloadN X1.here hx rfl (hb hby d36_5) rfl hr) ?_
  show Go p.tables e below _ (T1.setTop (mkF m 6 #[.val (.ref a1), .val (.int p2), .val (.int p3), .val (.ref b1), .unset, .unset] [(.int p2), (.ref a1)]))
  refine Go.st (fun U hr => XS.aloadN X1.here hx rfl (hb hby d36_6) rfl rfl hr) ?_
  show Go p.tables e below _ (T1.setTop (mkF m 7 #[.val (.ref a1), .val (.int p2), .val (.int p3), .val (.ref b1), .unset, .unset] [(.ref b1), (.int p2), (.ref a1)]))
  refine Go.st (fun U hr => XS.iconst X1.here hx rfl (hb hby d36_7) hr) ?_
  show Go p.tables e below _ (T1.setTop (mkF m 8 #[.val (.ref a1), .val (.int p2), .val (.int p3), .val (.ref b1), .unset, .unset] [(.int (0 : Int32)), (.ref b1), (.int p2), (.ref a1)]))
  refine Go.st (fun U hr => XS.iloadN X1.here hx rfl (hb hby d36_8) rfl hr) ?_
  show Go p.tables e below _ (T1.setTop (mkF m 9 #[.val (.ref a1), .val (.int p2), .val (.int p3), .val (.ref b1), .unset, .unset] [(.int p3), (.int (0 : Int32)), (.ref b1), (.int p2), (.ref a1)]))
  obtain ⟨_, _, ⟨T11, L11, k11, n11⟩, -, X11, ⟨Lc11, hQ11, l11, y11, z11⟩, st11⟩ := Jvm.LawKit.callS X1 hx (y := (⟨"java/lang/StringUTF16", "compress", "([BI[BII)I"⟩ : MethodName)) hown (mvT hZ (hw _ (List.mem_of_getElem? (i := 152) rfl))) (mvT hZ (hw _ (List.mem_of_getElem? (i := 153) rfl))) (mvT hZ (hw _ (List.mem_of_getElem? (i := 25) rfl))) (mvT hZ (hw _ (List.mem_of_getElem? (i := 154) rfl))) (by decide) (backOf (W := 0) (rm37 l Z a0 hw [] a1 p2 b1 p3 wc sf kb zn ys cs k1 b n h1 n0 z10 ⟨f4, hwc, f5, f6, f7, f8⟩ f9 hz hz2 hen hb0 hn0 hbn V1 n3 gb1) hZ (hw _ (List.mem_of_getElem? (i := 154) rfl)) (hw _ (List.mem_of_getElem? (i := 25) rfl)) (by decide) (by decide)) (g := (mkF m 9 #[.val (.ref a1), .val (.int p2), .val (.int p3), .val (.ref b1), .unset, .unset] [(.int p3), (.int (0 : Int32)), (.ref b1), (.int p2), (.ref a1)])) rfl (by rw [hml]; rfl) (argsL := [(.ref a1), (.int p2), (.ref b1), (.int (0 : Int32)), (.int p3)]) (rest := []) (lenOf pd_21 rfl) rfl (by show 2 * 0 + _ ≤ _; exact Nat.le_of_eq rfl) (hb hby d36_9) (fun _ _ => ⟨rfl, e1, (by decide : 1 + 0 ≤ _), (by decide : 5 + 0 ≤ _)⟩)
  dsimp only [Pt.U, Pt.locs, Pt.cells, Pt.slots] at X11 l11 y11 z11 st11 hQ11
  subst l11 y11 z11
  obtain ⟨i11, rfl, Nq11, Kq11, hor11⟩ := hQ11
  have N11 := Fr.app N0 Nq11
  refine Go.st st11 ?_
  show Go p.tables e below _ (T11.setTop (mkF m 12 #[.val (.ref a1), .val (.int p2), .val (.int p3), .val (.ref b1), .unset, .unset] [(.int i11)]))
  have f12 := own_stk Kq11 (allS (own_nsV V1) all0) f4
  have f13 := own_stk Kq11 (allS (own_nsV V1) all0) f5
  have f14 := own_stk Kq11 (allS (own_nsV V1) all0) f6
  have f15 := own_stk Kq11 (allS (own_nsV V1) all0) f7
  have f16 := own_stk Kq11 (allS (own_nsV V1) all0) f8
  have f17 := (f9).keep Kq11 (ninS n3 nin0)
  have k19 := (k2).trans Kq11 (allS (Or.inr sb1) all0)
  have z20 := Nat.le_trans z10 Kq11.1
  refine Go.st (fun U hr => XS.istore X11.here hx rfl (hb hby d36_12) rfl (l' := #[.val (.ref a1), .val (.int p2), .val (.int p3), .val (.ref b1), .val (.int i11), .unset]) rfl hr) ?_
  show Go p.tables e below _ (T11.setTop (mkF m 14 #[.val (.ref a1), .val (.int p2), .val (.int p3), .val (.ref b1), .val (.int i11), .unset] []))
  refine Go.st (fun U hr => XS.iload X11.here hx rfl (hb hby d36_14) rfl hr) ?_
  show Go p.tables e below _ (T11.setTop (mkF m 16 #[.val (.ref a1), .val (.int p2), .val (.int p3), .val (.ref b1), .val (.int i11), .unset] [(.int i11)]))
  refine Go.st (fun U hr => XS.iloadN X11.here hx rfl (hb hby d36_16) rfl hr) ?_
  show Go p.tables e below _ (T11.setTop (mkF m 17 #[.val (.ref a1), .val (.int p2), .val (.int p3), .val (.ref b1), .val (.int i11), .unset] [(.int p3), (.int i11)]))
  by_cases hc17_21 : i11 = p3
  · refine Go.st (fun U hr => XS.icmpYes X11.here hx rfl (pc0 := 17) (pc' := 64) rfl (hb hby d36_17) rfl (teq hc17_21).1 (by decide) (by decide) hr) ?_
    show Go p.tables e below _ (T11.setTop (mkF m 64 #[.val (.ref a1), .val (.int p2), .val (.int p3), .val (.ref b1), .val (.int i11), .unset] []))
    refine Go.st (fun U hr => XS.aloadN X11.here hx rfl (hb hby d36_64) rfl rfl hr) ?_
    show Go p.tables e below _ (T11.setTop (mkF m 65 #[.val (.ref a1), .val (.int p2), .val (.int p3), .val (.ref b1), .val (.int i11), .unset] [(.ref b1)]))
    obtain ⟨-, ds, Vl5, hG⟩ := hor11.resolve_right (fun q => q.1 hc17_21)
    exact own_retO X11 hx Bd.notSynchronized (t := (.array .byte)) Bd.returns rfl (Or.inr (Or.inr (Or.inr (Or.inr ⟨rfl, rfl, rfl⟩)))) (hb hby d36_65) ⟨_, rfl, N11, sb1, k19, _, _, _, _, Vl5, (by rw [hG.1]; exact hn0), own_encD hen.1 hbn hG⟩ (by decide) (by decide)
  · refine Go.st (fun U hr => XS.icmpNo X11.here hx rfl (hb hby d36_17) rfl (feq hc17_21).1 hr) ?_
    show Go p.tables e below _ (T11.setTop (mkF m 20 #[.val (.ref a1), .val (.int p2), .val (.int p3), .val (.ref b1), .val (.int i11), .unset] []))
    obtain ⟨-, ii, hi1, hi2, hi3⟩ := hor11.resolve_left (fun q => hc17_21 q.1)
    refine Go.st (fun U hr => XS.aloadN X11.here hx rfl (hb hby d36_20) rfl rfl hr) ?_
    show Go p.tables e below _ (T11.setTop (mkF m 21 #[.val (.ref a1), .val (.int p2), .val (.int p3), .val (.ref b1), .val (.int i11), .unset] [(.ref a1)]))
    refine Go.st (fun U hr => XS.iloadN X11.here hx rfl (hb hby d36_21) rfl hr) ?_
    show Go p.tables e below _ (T11.setTop (mkF m 22 #[.val (.ref a1), .val (.int p2), .val (.int p3), .val (.ref b1), .val (.int i11), .unset] [(.int p2), (.ref a1)]))
    refine Go.st (fun U hr => XS.iconst X11.here hx rfl (hb hby d36_22) hr) ?_
    show Go p.tables e below _ (T11.setTop (mkF m 23 #[.val (.ref a1), .val (.int p2), .val (.int p3), .val (.ref b1), .val (.int i11), .unset] [(.int (1 : Int32)), (.int p2), (.ref a1)]))
    refine Go.st (fun U hr => XS.ishl X11.here hx rfl (hb hby d36_23) rfl hr) ?_
    show Go p.tables e below _ (T11.setTop (mkF m 24 #[.val (.ref a1), .val (.int p2), .val (.int p3), .val (.ref b1), .val (.int i11), .unset] [(.int (p2 <<< ((1 : Int32) &&& 31))), (.ref a1)]))
    refine Go.st (fun U hr => XS.iloadN X11.here hx rfl (hb hby d36_24) rfl hr) ?_
    show Go p.tables e below _ (T11.setTop (mkF m 25 #[.val (.ref a1), .val (.int p2), .val (.int p3), .val (.ref b1), .val (.int i11), .unset] [(.int p2), (.int (p2 <<< ((1 : Int32) &&& 31))), (.ref a1)]))
    refine Go.st (fun U hr => XS.iloadN X11.here hx rfl (hb hby d36_25) rfl hr) ?_
    show Go p.tables e below _ (T11.setTop (mkF m 26 #[.val (.ref a1), .val (.int p2), .val (.int p3), .val (.ref b1), .val (.int i11), .unset] [(.int p3), (.int p2), (.int (p2 <<< ((1 : Int32) &&& 31))), (.ref a1)]))
    refine Go.st (fun U hr => XS.iadd X11.here hx rfl (hb hby d36_26) rfl hr) ?_
    show Go p.tables e below _ (T11.setTop (mkF m 27 #[.val (.ref a1), .val (.int p2), .val (.int p3), .val (.ref b1), .val (.int i11), .unset] [(.int (p2 + p3)), (.int (p2 <<< ((1 : Int32) &&& 31))), (.ref a1)]))
    obtain ⟨_, _, ⟨T22, L22, k22, n22⟩, -, X22, ⟨Lc22, hQ22, l22, y22, z22⟩, st22⟩ := Jvm.LawKit.callS X11 hx (y := (⟨"java/lang/StringUTF16", "newBytesLength", "(I)I"⟩ : MethodName)) hown (mvT hZ (hw _ (List.mem_of_getElem? (i := 122) rfl))) (mvT hZ (hw _ (List.mem_of_getElem? (i := 123) rfl))) (mvT hZ (hw _ (List.mem_of_getElem? (i := 25) rfl))) (mvT hZ (hw _ (List.mem_of_getElem? (i := 124) rfl))) (by decide) (backOf (W := 2) (rm29 l Z a0 hw [] (p2 + p3) T11.heap n0 z20 (by omega)) hZ (hw _ (List.mem_of_getElem? (i := 124) rfl)) (hw _ (List.mem_of_getElem? (i := 25) rfl)) (by decide) (by decide)) (g := (mkF m 27 #[.val (.ref a1), .val (.int p2), .val (.int p3), .val (.ref b1), .val (.int i11), .unset] [(.int (p2 + p3)), (.int (p2 <<< ((1 : Int32) &&& 31))), (.ref a1)])) rfl (by rw [hml]; rfl) (argsL := [(.int (p2 + p3))]) (rest := [(.int (p2 <<< ((1 : Int32) &&& 31))), (.ref a1)]) (lenOf pd_10 rfl) rfl (by show 2 * 0 + _ ≤ _; exact Nat.le_of_eq rfl) (hb hby d36_27) (fun _ _ => ⟨rfl, rfl, (by decide : 1 + 0 ≤ _), (by decide : 5 + 0 ≤ _)⟩)
    dsimp only [Pt.U, Pt.locs, Pt.cells, Pt.slots] at X22 l22 y22 z22 st22 hQ22
    subst l22 y22 z22
    obtain ⟨rfl, Nq22, ee22⟩ := hQ22
    have N22 := Fr.app N11 Nq22
    refine Go.st st22 ?_
    show Go p.tables e below _ (T22.setTop (mkF m 30 #[.val (.ref a1), .val (.int p2), .val (.int p3), .val (.ref b1), .val (.int i11), .unset] [(.int ((p2 + p3) <<< ((1 : Int32) &&& 31))), (.int (p2 <<< ((1 : Int32) &&& 31))), (.ref a1)]))
    obtain ⟨_, _, ⟨T23, L23, k23, n23⟩, -, X23, ⟨Lc23, hQ23, l23, y23, z23⟩, st23⟩ := Jvm.LawKit.callS X22 hx (y := (⟨"java/util/Arrays", "copyOfRange", "([BII)[B"⟩ : MethodName)) hown (mvT hZ (hw _ (List.mem_of_getElem? (i := 164) rfl))) (mvT hZ (hw _ (List.mem_of_getElem? (i := 165) rfl))) (mvT hZ (hw _ (List.mem_of_getElem? (i := 166) rfl))) (mvT hZ (hw _ (List.mem_of_getElem? (i := 167) rfl))) (by decide) (backOf (W := 0) (rm41 l Z a0 hw [] a1 (p2 <<< ((1 : Int32) &&& 31)) ((p2 + p3) <<< ((1 : Int32) &&& 31)) kb zn ys (2 * b) (2 * n) T11.heap n0 z20 f17 hz hz2 hsb (by rw [hse]; omega) (by omega) (by omega) (fun q1 q2 => hnot (by have z1 := hsb; have z2 := hse; rw [q1] at z1; rw [q2] at z2; rw [show (0 : Int32).toInt = 0 from by decide] at z1; omega))) hZ (hw _ (List.mem_of_getElem? (i := 167) rfl)) (hw _ (List.mem_of_getElem? (i := 166) rfl)) (by decide) (by decide)) (g := (mkF m 30 #[.val (.ref a1), .val (.int p2), .val (.int p3), .val (.ref b1), .val (.int i11), .unset] [(.int ((p2 + p3) <<< ((1 : Int32) &&& 31))), (.int (p2 <<< ((1 : Int32) &&& 31))), (.ref a1)])) rfl (by rw [hml]; rfl) (argsL := [(.ref a1), (.int (p2 <<< ((1 : Int32) &&& 31))), (.int ((p2 + p3) <<< ((1 : Int32) &&& 31)))]) (rest := []) (lenOf pd_18 rfl) rfl (by show 2 * 0 + _ ≤ _; exact Nat.le_of_eq rfl) (hb hby d36_30) (fun _ _ => ⟨rfl, ee22, (by decide : 1 + 1 ≤ _), (by decide : 5 + 10 ≤ _)⟩)
    dsimp only [Pt.U, Pt.locs, Pt.cells, Pt.slots] at X23 l23 y23 z23 st23 hQ23
    subst l23 y23 z23
    obtain ⟨r23, rfl, Nq23, sr23, Kq23, Vq23'⟩ := hQ23
    have N23 := Fr.app N22 Nq23
    refine Go.st st23 ?_
    show Go p.tables e below _ (T23.setTop (mkF m 33 #[.val (.ref a1), .val (.int p2), .val (.int p3), .val (.ref b1), .val (.int i11), .unset] [(.ref r23)]))
    have f24 := own_stk Kq23 all0 f12
    have f25 := own_stk Kq23 all0 f13
    have f26 := own_stk Kq23 all0 f14
    have f27 := own_stk Kq23 all0 f15
    have f28 := own_stk Kq23 all0 f16
    have f29 := (f17).keep Kq23 nin0
    have k30 := (k19).trans Kq23 all0
    have z31 := Nat.le_trans z20 Kq23.1
    obtain ⟨kb23, Vq23⟩ := Vq23'
    have hzs : (((p2 + p3) <<< ((1 : Int32) &&& 31)) - (p2 <<< ((1 : Int32) &&& 31))).toInt = ((own_sl ys (2 * b) (2 * n)).length : Int) := by
      rw [own_sl_len]; have q := own_sub hse hsb (by omega); omega
    have gb_r23 : n0 ≤ r23 := Nat.le_trans z20 sr23
    have sz_r23 : h0.size ≤ r23 := Nat.le_trans (k19).1 sr23
    have n32 : a1 ≠ r23 := Nat.ne_of_lt (Nat.lt_of_lt_of_le (f17).lt sr23)
    refine Go.st (fun U hr => XS.astore X23.here hx rfl (hb hby d36_33) rfl rfl (l' := #[.val (.ref a1), .val (.int p2), .val (.int p3), .val (.ref b1), .val (.int i11), .val (.ref r23)]) rfl hr) ?_
    show Go p.tables e below _ (T23.setTop (mkF m 35 #[.val (.ref a1), .val (.int p2), .val (.int p3), .val (.ref b1), .val (.int i11), .val (.ref r23)] []))
    refine Go.st (fun U hr => XS.aload X23.here hx rfl (hb hby d36_35) rfl rfl hr) ?_
    show Go p.tables e below _ (T23.setTop (mkF m 37 #[.val (.ref a1), .val (.int p2), .val (.int p3), .val (.ref b1), .val (.int i11), .val (.ref r23)] [(.ref r23)]))
    refine Go.st (fun U hr => XS.iload X23.here hx rfl (hb hby d36_37) rfl hr) ?_
    show Go p.tables e below _ (T23.setTop (mkF m 39 #[.val (.ref a1), .val (.int p2), .val (.int p3), .val (.ref b1), .val (.int i11), .val (.ref r23)] [(.int i11), (.ref r23)]))
    obtain ⟨_, _, ⟨T33, L33, k33, n33⟩, -, X33, ⟨Lc33, hQ33, l33, y33, z33⟩, st33⟩ := Jvm.LawKit.callS X23 hx (y := (⟨"java/lang/StringUTF16", "getChar", "([BI)C"⟩ : MethodName)) hown (mvT hZ (hw _ (List.mem_of_getElem? (i := 132) rfl))) (mvT hZ (hw _ (List.mem_of_getElem? (i := 133) rfl))) (mvT hZ (hw _ (List.mem_of_getElem? (i := 25) rfl))) (mvT hZ (hw _ (List.mem_of_getElem? (i := 134) rfl))) (by decide) (backOf (W := 0) (rm31 l Z a0 hw [] r23 i11 wc sf kb23 (((p2 + p3) <<< ((1 : Int32) &&& 31)) - (p2 <<< ((1 : Int32) &&& 31))) (own_sl ys (2 * b) (2 * n)) ii T23.heap n0 z31 ⟨f24, hwc, f25, f26, f27, f28⟩ Vq23 hzs (by rw [own_sl_len]; omega) hi1 (by rw [own_sl_len]; omega)) hZ (hw _ (List.mem_of_getElem? (i := 134) rfl)) (hw _ (List.mem_of_getElem? (i := 25) rfl)) (by decide) (by decide)) (g := (mkF m 39 #[.val (.ref a1), .val (.int p2), .val (.int p3), .val (.ref b1), .val (.int i11), .val (.ref r23)] [(.int i11), (.ref r23)])) rfl (by rw [hml]; rfl) (argsL := [(.ref r23), (.int i11)]) (rest := []) (lenOf pd_8 rfl) rfl (by show 2 * 0 + _ ≤ _; exact Nat.le_of_eq rfl) (hb hby d36_39) (fun _ _ => ⟨rfl, rfl, (by decide : 2 + 0 ≤ _), (by decide : 15 + 0 ≤ _)⟩)
    dsimp only [Pt.U, Pt.locs, Pt.cells, Pt.slots] at X33 l33 y33 z33 st33 hQ33
    subst l33 y33 z33
    obtain ⟨rfl, Nq33, ee33⟩ := hQ33
    have N33 := Fr.app N23 Nq33
    refine Go.st st33 ?_
    show Go p.tables e below _ (T33.setTop (mkF m 42 #[.val (.ref a1), .val (.int p2), .val (.int p3), .val (.ref b1), .val (.int i11), .val (.ref r23)] [(.int (own_gc (own_c (own_sl ys (2 * b) (2 * n)) (2 * ii)) (own_c (own_sl ys (2 * b) (2 * n)) (2 * ii + 1))))]))
    refine Go.st (fun U hr => XS.sipush X33.here hx rfl (hb hby d36_42) hr) ?_
    show Go p.tables e below _ (T33.setTop (mkF m 45 #[.val (.ref a1), .val (.int p2), .val (.int p3), .val (.ref b1), .val (.int i11), .val (.ref r23)] [(.int (255 : Int32)), (.int (own_gc (own_c (own_sl ys (2 * b) (2 * n)) (2 * ii)) (own_c (own_sl ys (2 * b) (2 * n)) (2 * ii + 1))))]))
    have hc45_34 : (255 : Int32) < (own_gc (own_c (own_sl ys (2 * b) (2 * n)) (2 * ii)) (own_c (own_sl ys (2 * b) (2 * n)) (2 * ii + 1))) := by
      have es := own_enc_slU hen hbn
      have q := (es.utf (by decide)).2 ii (by rw [own_sl_len]; exact hi2)
      rw [q.1, q.2, own_gcc _ (es.1 ii (by rw [own_sl_len]; exact hi2)), own_sl_c _ _ _ _ hi2]; exact hi3
    refine Go.st (fun U hr => XS.icmpYes X33.here hx rfl (pc0 := 45) (pc' := 61) rfl (hb hby d36_45) rfl (tlt hc45_34).2.2.1 (by decide) (by decide) hr) ?_
    show Go p.tables e below _ (T33.setTop (mkF m 61 #[.val (.ref a1), .val (.int p2), .val (.int p3), .val (.ref b1), .val (.int i11), .val (.ref r23)] []))
    refine Go.st (fun U hr => XS.aload X33.here hx rfl (hb hby d36_61) rfl rfl hr) ?_
    show Go p.tables e below _ (T33.setTop (mkF m 63 #[.val (.ref a1), .val (.int p2), .val (.int p3), .val (.ref b1), .val (.int i11), .val (.ref r23)] [(.ref r23)]))
    exact own_retO X33 hx Bd.notSynchronized (t := (.array .byte)) Bd.returns rfl (Or.inr (Or.inr (Or.inr (Or.inr ⟨rfl, rfl, rfl⟩)))) (hb hby d36_63) (by rw [ee33]; exact ⟨_, rfl, N33, sz_r23, k30, _, _, _, _, Vq23, hzs, own_enc_slU hen hbn⟩) (by decide) (by decide)
theorem d35_0 : decode jdk_52_method_69_code 0 = .ok (.iload_n 2, 1) := by decide +kernel
theorem d35_1 : decode jdk_52_method_69_code 1 = .ok (.ifCond .ne 7, 3) := by decide +kernel
theorem d35_8 : decode jdk_52_method_69_code 8 = .ok (.getstatic 251, 3) := by decide +kernel
theorem d35_11 : decode jdk_52_method_69_code 11 = .ok (.ifCond .eq 28, 3) := by decide +kernel
theorem d35_14 : decode jdk_52_method_69_code 14 = .ok (.aload_n 0, 1) := by decide +kernel
theorem d35_15 : decode jdk_52_method_69_code 15 = .ok (.iload_n 1, 1) := by decide +kernel
theorem d35_16 : decode jdk_52_method_69_code 16 = .ok (.iload_n 2, 1) := by decide +kernel
theorem d35_17 : decode jdk_52_method_69_code 17 = .ok (.invokestatic 257, 3) := by decide +kernel
theorem d35_20 : decode jdk_52_method_69_code 20 = .ok (.astore_n 3, 1) := by decide +kernel
theorem d35_21 : decode jdk_52_method_69_code 21 = .ok (.aload_n 3, 1) := by decide +kernel
theorem d35_22 : decode jdk_52_method_69_code 22 = .ok (.iload_n 2, 1) := by decide +kernel
theorem d35_23 : decode jdk_52_method_69_code 23 = .ok (.invokestatic 259, 3) := by decide +kernel
theorem d35_26 : decode jdk_52_method_69_code 26 = .ok (.istore 4, 2) := by decide +kernel
theorem d35_28 : decode jdk_52_method_69_code 28 = .ok (.new 3, 3) := by decide +kernel
theorem d35_31 : decode jdk_52_method_69_code 31 = .ok (.dup, 1) := by decide +kernel
theorem d35_32 : decode jdk_52_method_69_code 32 = .ok (.aload_n 3, 1) := by decide +kernel
theorem d35_33 : decode jdk_52_method_69_code 33 = .ok (.iload 4, 2) := by decide +kernel
theorem d35_35 : decode jdk_52_method_69_code 35 = .ok (.invokespecial 263, 3) := by decide +kernel
theorem d35_38 : decode jdk_52_method_69_code 38 = .ok (.areturn, 1) := by decide +kernel
theorem pn_35 : plainFor (⟨"java/lang/StringUTF16", "newString", "([BII)Ljava/lang/String;"⟩ : MethodName) = true := plainFor_of_name (by first | (simp [plainName, overriddenIn]; done) | decide +kernel)
theorem ef_35 (m : MethodId) (x0 : Addr) (x1 : Int32) (x2 : Int32) : entryFrame m #[(.ref x0), (.int x1), (.int x2)] 5 = mkF m 0 #[.val (.ref x0), .val (.int x1), .val (.int x2), .unset, .unset] [] := by first | (simp [entryFrame, mkF, argsToLocals, Value.category]; done) | rfl
theorem pd_22 : parseMethodDescriptor "([BB)V" = some ⟨[(.array .byte), .byte], none⟩ := by decide +kernel
def Q35 (Z : State) (a1 : Addr) (p2 : Int32) (p3 : Int32) (wc : Int32) (sf : Option Addr) (kb : ClassId) (zn : Int32) (ys : List Int32) (cs : List Int32) (b : Nat) (n : Nat) (h0 : Heap) (n0 : Nat) (v : Option Value) (h : Heap) (L : List Loc) : Prop := ∃ r : Addr, v = some (.ref r) ∧ Fr n0 L ∧ Keep h0 h [] ∧ ∃ (va : Addr) (kb : ClassId) (cd zn : Int32) (ys : List Int32), own_Str Z h r va kb cd zn ys (own_sl cs b n)
set_option maxRecDepth 65536 in
set_option maxHeartbeats 40000000 in
theorem rm35 (l : Launch) (Z : State) (a0 : Array Value) (hw : ∀ d ∈ tables_1, d.before a0 Z = true) (ws : List Jvm.Cond) (a1 : Addr) (p2 : Int32) (p3 : Int32) (wc : Int32) (sf : Option Addr) (kb : ClassId) (zn : Int32) (ys : List Int32) (cs : List Int32) (b : Nat) (n : Nat) (h0 : Heap) (n0 : Nat) (Z0 : n0 ≤ h0.size) (hS : own_Sts Z h0 wc sf) (V1 : Arv Z h0 a1 kb .byte zn (ys.map Value.int) (.int (0 : Int32))) (hz : zn.toInt = ys.length) (hz2 : ys.length ≤ 100) (hen : own_enc 1 ys cs) (hb0 : p2.toInt = b) (hn0 : p3.toInt = n) (hbn : b + n ≤ cs.length) (h5 : cs.length ≤ 5) (hnot : ¬ (b = 0 ∧ n = cs.length)) (hpos : 0 < n) :
    MetFree l (⟨"java/lang/StringUTF16", "newString", "([BII)Ljava/lang/String;"⟩ : MethodName) (head1 (Jvm.Cond.code (⟨"java/lang/StringUTF16", "newString", "([BII)Ljava/lang/String;"⟩ : MethodName) jdk_52_method_69_code 5 (some (.object "java/lang/String")) :: ws) ({ frames := 7, cells := 3, slots := 19, locals := 135 } : Room)) (fun a U => a = #[(.ref a1), (.int p2), (.int p3)] ∧ Z.Warmed39 U.vm ∧ U.heap = h0) (fun _ _ _ _ _ => True) (fun _ U o U' => ∃ v L, o = .returned v ∧ Q35 Z a1 p2 p3 wc sf kb zn ys cs b n h0 n0 v U'.heap L ∧ FrameEnd U o U' L ({ frames := 7, cells := 3, slots := 19, locals := 135 } : Room).cells ({ frames := 7, cells := 3, slots := 19, locals := 135 } : Room).slots) := by
  refine MetFree.of_bodySF pn_35 hisR ?_
  intro p e s m args below meth c s₁ Bd hml0 hP hK
  obtain ⟨rfl, hZ, hh⟩ := hP
  have hx := Bd.exec
  have hby := Bd.bytes
  have hml : c.maxLocals = 5 := hml0
  have hown : s.vm.findClass "java/lang/StringUTF16" = some m.cls := findClass_of_methodNamed Bd.named
  have hnm := (name_of_methodNamed Bd.named Bd.method).1
  have X0 : Stand p l e ({ frames := 7, cells := 3, slots := 19, locals := 135 } : Room) s m #[(.ref a1), (.int p2), (.int p3)] below meth c s₁ [] 0 0 := Stand.of_body Bd
  have e0 : s₁.heap = h0 := by rw [← hh, Bd.state]; rfl
  have N0 := Fr.nil n0
  refine own_start (Q := Q35 Z a1 p2 p3 wc sf kb zn ys cs b n h0 n0) (own_cast (ef_35 m a1 p2 p3) ?_)
  obtain ⟨S1, hwc, S2, S3, S4, S5⟩ := id hS
  show Go p.tables e below _ (s₁.setTop (mkF m 0 #[.val (.ref a1), .val (.int p2), .val (.int p3), .unset, .unset] []))
  refine Go.st (fun U hr => XS.iloadN X0.here hx rfl (hb hby d35_0) rfl hr) ?_
  show Go p.tables e below _ (s₁.setTop (mkF m 1 #[.val (.ref a1), .val (.int p2), .val (.int p3), .unset, .unset] [(.int p3)]))
  have hc1_1 : ¬ (p3 = (0 : Int32)) := (fun q => by rw [q, show (0 : Int32).toInt = 0 from by decide] at hn0; omega)
  refine Go.st (fun U hr => XS.ifYes X0.here hx rfl (pc0 := 1) (pc' := 8) rfl (hb hby d35_1) rfl ((if0 _ _).trans (feq hc1_1).2) (by decide) (by decide) hr) ?_
  show Go p.tables e below _ (s₁.setTop (mkF m 8 #[.val (.ref a1), .val (.int p2), .val (.int p3), .unset, .unset] []))
  obtain ⟨T2, X2, e2, st2⟩ := getS2 X0 hx hZ hown (host := "") (Or.inl (hw _ (List.mem_of_getElem? (i := 148) rfl))) Via.refl e0 S1 (g := (mkF m 8 #[.val (.ref a1), .val (.int p2), .val (.int p3), .unset, .unset] [])) rfl (hb hby d35_8)
  refine Go.st st2 ?_
  show Go p.tables e below _ (T2.setTop (mkF m 11 #[.val (.ref a1), .val (.int p2), .val (.int p3), .unset, .unset] [(.int wc)]))
  have hc11_3 : ¬ (wc = (0 : Int32)) := hwc
  refine Go.st (fun U hr => XS.ifNo X2.here hx rfl (hb hby d35_11) rfl ((if0 _ _).trans (feq hc11_3).1) hr) ?_
  show Go p.tables e below _ (T2.setTop (mkF m 14 #[.val (.ref a1), .val (.int p2), .val (.int p3), .unset, .unset] []))
  refine Go.st (fun U hr => XS.aloadN X2.here hx rfl (hb hby d35_14) rfl rfl hr) ?_
  show Go p.tables e below _ (T2.setTop (mkF m 15 #[.val (.ref a1), .val (.int p2), .val (.int p3), .unset, .unset] [(.ref a1)]))
  refine Go.st (fun U hr => XS.iloadN X2.here hx rfl (hb hby d35_15) rfl hr) ?_
  show Go p.tables e below _ (T2.setTop (mkF m 16 #[.val (.ref a1), .val (.int p2), .val (.int p3), .unset, .unset] [(.int p2), (.ref a1)]))
  refine Go.st (fun U hr => XS.iloadN X2.here hx rfl (hb hby d35_16) rfl hr) ?_
  show Go p.tables e below _ (T2.setTop (mkF m 17 #[.val (.ref a1), .val (.int p2), .val (.int p3), .unset, .unset] [(.int p3), (.int p2), (.ref a1)]))
  obtain ⟨_, _, ⟨T4, L4, k4, n4⟩, -, X4, ⟨Lc4, hQ4, l4, y4, z4⟩, st4⟩ := Jvm.LawKit.callS X2 hx (y := (⟨"java/lang/StringUTF16", "compress", "([BII)[B"⟩ : MethodName)) hown (mvT hZ (hw _ (List.mem_of_getElem? (i := 149) rfl))) (mvT hZ (hw _ (List.mem_of_getElem? (i := 150) rfl))) (mvT hZ (hw _ (List.mem_of_getElem? (i := 25) rfl))) (mvT hZ (hw _ (List.mem_of_getElem? (i := 151) rfl))) (by decide) (backOf (W := 0) (rm36 l Z a0 hw [] a1 p2 p3 wc sf kb zn ys cs b n h0 n0 Z0 ⟨S1, hwc, S2, S3, S4, S5⟩ V1 hz hz2 hen hb0 hn0 hbn h5 hnot hpos) hZ (hw _ (List.mem_of_getElem? (i := 151) rfl)) (hw _ (List.mem_of_getElem? (i := 25) rfl)) (by decide) (by decide)) (g := (mkF m 17 #[.val (.ref a1), .val (.int p2), .val (.int p3), .unset, .unset] [(.int p3), (.int p2), (.ref a1)])) rfl (by rw [hml]; rfl) (argsL := [(.ref a1), (.int p2), (.int p3)]) (rest := []) (lenOf pd_18 rfl) rfl (by show 2 * 0 + _ ≤ _; exact Nat.le_of_eq rfl) (hb hby d35_17) (fun _ _ => ⟨rfl, e2, (by decide : 0 + 2 ≤ _), (by decide : 0 + 15 ≤ _)⟩)
  dsimp only [Pt.U, Pt.locs, Pt.cells, Pt.slots] at X4 l4 y4 z4 st4 hQ4
  subst l4 y4 z4
  obtain ⟨r4, rfl, Nq4, sr4, Kq4, Vq4'⟩ := hQ4
  have N4 := Fr.app N0 Nq4
  refine Go.st st4 ?_
  show Go p.tables e below _ (T4.setTop (mkF m 20 #[.val (.ref a1), .val (.int p2), .val (.int p3), .unset, .unset] [(.ref r4)]))
  have f5 := own_stk Kq4 all0 S1
  have f6 := own_stk Kq4 all0 S2
  have f7 := own_stk Kq4 all0 S3
  have f8 := own_stk Kq4 all0 S4
  have f9 := own_stk Kq4 all0 S5
  have f10 := (V1).keep Kq4 nin0
  have k11 := ((Keep.refl h0 [])).trans Kq4 all0
  have z12 := Nat.le_trans Z0 Kq4.1
  obtain ⟨kb', cd', zn', ys', Vq4, hz', hen'⟩ := Vq4'
  have hl2' : ys'.length ≤ 100 := by
    have q5 := own_sl_len cs b n
    rcases hen'.2 with ⟨_, q, _⟩ | ⟨_, q, _⟩ <;> omega
  have gb_r4 : n0 ≤ r4 := Nat.le_trans Z0 sr4
  have sz_r4 : h0.size ≤ r4 := Nat.le_trans ((Keep.refl h0 [])).1 sr4
  have n13 : a1 ≠ r4 := Nat.ne_of_lt (Nat.lt_of_lt_of_le (V1).lt sr4)
  refine Go.st (fun U hr => XS.astoreN X4.here hx rfl (hb hby d35_20) rfl rfl (l' := #[.val (.ref a1), .val (.int p2), .val (.int p3), .val (.ref r4), .unset]) rfl hr) ?_
  show Go p.tables e below _ (T4.setTop (mkF m 21 #[.val (.ref a1), .val (.int p2), .val (.int p3), .val (.ref r4), .unset] []))
  refine Go.st (fun U hr => XS.aloadN X4.here hx rfl (hb hby d35_21) rfl rfl hr) ?_
  show Go p.tables e below _ (T4.setTop (mkF m 22 #[.val (.ref a1), .val (.int p2), .val (.int p3), .val (.ref r4), .unset] [(.ref r4)]))
  refine Go.st (fun U hr => XS.iloadN X4.here hx rfl (hb hby d35_22) rfl hr) ?_
  show Go p.tables e below _ (T4.setTop (mkF m 23 #[.val (.ref a1), .val (.int p2), .val (.int p3), .val (.ref r4), .unset] [(.int p3), (.ref r4)]))
  obtain ⟨_, _, ⟨T14, L14, k14, n14⟩, -, X14, ⟨Lc14, hQ14, l14, y14, z14⟩, st14⟩ := Jvm.LawKit.callS X4 hx (y := (⟨"java/lang/StringUTF16", "coderFromArrayLen", "([BI)B"⟩ : MethodName)) hown (mvT hZ (hw _ (List.mem_of_getElem? (i := 182) rfl))) (mvT hZ (hw _ (List.mem_of_getElem? (i := 32) rfl))) (mvT hZ (hw _ (List.mem_of_getElem? (i := 25) rfl))) (mvT hZ (hw _ (List.mem_of_getElem? (i := 33) rfl))) (by decide) (backOf (W := 0) (rm8 l Z a0 hw [] r4 p3 kb' zn' ys' cd' (own_sl cs b n) T4.heap n0 z12 Vq4 hz' hl2' hen' (by rw [own_sl_len]; exact hn0) (by rw [own_sl_len]; exact hpos) (by rw [own_sl_len]; omega)) hZ (hw _ (List.mem_of_getElem? (i := 33) rfl)) (hw _ (List.mem_of_getElem? (i := 25) rfl)) (by decide) (by decide)) (g := (mkF m 23 #[.val (.ref a1), .val (.int p2), .val (.int p3), .val (.ref r4), .unset] [(.int p3), (.ref r4)])) rfl (by rw [hml]; rfl) (argsL := [(.ref r4), (.int p3)]) (rest := []) (lenOf pd_15 rfl) rfl (by show 2 * 0 + _ ≤ _; exact Nat.le_of_eq rfl) (hb hby d35_23) (fun _ _ => ⟨rfl, rfl, (by decide : 2 + 0 ≤ _), (by decide : 15 + 0 ≤ _)⟩)
  dsimp only [Pt.U, Pt.locs, Pt.cells, Pt.slots] at X14 l14 y14 z14 st14 hQ14
  subst l14 y14 z14
  obtain ⟨rfl, Nq14, ee14⟩ := hQ14
  have N14 := Fr.app N4 Nq14
  refine Go.st st14 ?_
  show Go p.tables e below _ (T14.setTop (mkF m 26 #[.val (.ref a1), .val (.int p2), .val (.int p3), .val (.ref r4), .unset] [(.int cd')]))
  refine Go.st (fun U hr => XS.istore X14.here hx rfl (hb hby d35_26) rfl (l' := #[.val (.ref a1), .val (.int p2), .val (.int p3), .val (.ref r4), .val (.int cd')]) rfl hr) ?_
  show Go p.tables e below _ (T14.setTop (mkF m 28 #[.val (.ref a1), .val (.int p2), .val (.int p3), .val (.ref r4), .val (.int cd')] []))
  obtain ⟨T15, h15, X15, e15, E15, A15, D15, -, st15⟩ := newO X14 hx hZ hown (hw _ (List.mem_of_getElem? (i := 183) rfl)) (hw _ (List.mem_of_getElem? (i := 10) rfl)) (hw _ (List.mem_of_getElem? (i := 11) rfl)) ee14 (g := (mkF m 28 #[.val (.ref a1), .val (.int p2), .val (.int p3), .val (.ref r4), .val (.int cd')] [])) rfl (hb hby d35_28) (by decide) (by decide)
  obtain ⟨b15, g15⟩ : ∃ z, z = T4.heap.size := ⟨_, rfl⟩
  rw [← g15] at A15 D15 st15
  refine Go.st st15 ?_
  have gb15 : n0 ≤ b15 := Nat.le_trans z12 (Nat.le_of_eq g15.symm)
  have sb15 : h0.size ≤ b15 := Nat.le_trans (k11).1 (Nat.le_of_eq g15.symm)
  have k16 := (k11).ext E15
  have n17 : a1 ≠ b15 := Nat.ne_of_lt (Nat.lt_of_lt_of_le (f10).lt (Nat.le_of_eq g15.symm))
  have n18 : r4 ≠ b15 := Nat.ne_of_lt (Nat.lt_of_lt_of_le (Vq4).lt (Nat.le_of_eq g15.symm))
  have f19 := (f5).ext E15
  have f20 := (f6).ext E15
  have f21 := (f7).ext E15
  have f22 := (f8).ext E15
  have f23 := (f9).ext E15
  have f24 := (f10).ext E15
  have f25 := (Vq4).ext E15
  have z26 := Nat.le_trans z12 E15.1
  have F15_coder : Fld Z h15 b15 "java/lang/String" "coder" "B" (.int (0 : Int32)) := D15 (Or.inr (hw _ (List.mem_of_getElem? (i := 35) rfl))) (ty := .byte) (by decide)
  have F15_value : Fld Z h15 b15 "java/lang/String" "value" "[B" .null := D15 (Or.inr (hw _ (List.mem_of_getElem? (i := 37) rfl))) (ty := (.array .byte)) (by decide)
  show Go p.tables e below _ (T15.setTop (mkF m 31 #[.val (.ref a1), .val (.int p2), .val (.int p3), .val (.ref r4), .val (.int cd')] [(.ref b15)]))
  refine Go.st (fun U hr => XS.dup X15.here hx rfl (hb hby d35_31) rfl rfl hr) ?_
  show Go p.tables e below _ (T15.setTop (mkF m 32 #[.val (.ref a1), .val (.int p2), .val (.int p3), .val (.ref r4), .val (.int cd')] [(.ref b15), (.ref b15)]))
  refine Go.st (fun U hr => XS.aloadN X15.here hx rfl (hb hby d35_32) rfl rfl hr) ?_
  show Go p.tables e below _ (T15.setTop (mkF m 33 #[.val (.ref a1), .val (.int p2), .val (.int p3), .val (.ref r4), .val (.int cd')] [(.ref r4), (.ref b15), (.ref b15)]))
  refine Go.st (fun U hr => XS.iload X15.here hx rfl (hb hby d35_33) rfl hr) ?_
  show Go p.tables e below _ (T15.setTop (mkF m 35 #[.val (.ref a1), .val (.int p2), .val (.int p3), .val (.ref r4), .val (.int cd')] [(.int cd'), (.ref r4), (.ref b15), (.ref b15)]))
  obtain ⟨_, _, ⟨T27, L27, k27, n27⟩, -, X27, ⟨Lc27, hQ27, l27, y27, z27⟩, st27⟩ := X15.specialBack hx (y := (⟨"java/lang/String", "<init>", "([BB)V"⟩ : MethodName)) rfl hown (mvT hZ (hw _ (List.mem_of_getElem? (i := 184) rfl))) (mvT hZ (hw _ (List.mem_of_getElem? (i := 185) rfl))) (mvT hZ (hw _ (List.mem_of_getElem? (i := 186) rfl))) (by decide) (backOf (W := 1) (rm45 l Z a0 hw [] b15 r4 cd' kb' zn' ys' (own_sl cs b n) h15 n0 z26 A15 F15_value F15_coder gb15 f25 hz' hen' (by rw [own_sl_len]; omega) n18) hZ (hw _ (List.mem_of_getElem? (i := 186) rfl)) (hw _ (List.mem_of_getElem? (i := 11) rfl)) (by decide) (by decide)) (g := (mkF m 35 #[.val (.ref a1), .val (.int p2), .val (.int p3), .val (.ref r4), .val (.int cd')] [(.int cd'), (.ref r4), (.ref b15), (.ref b15)])) rfl (by rw [hml]; rfl) (Steps.refl _) (a := b15) (argsL := [(.ref r4), (.int cd')]) (rest := [(.ref b15)]) (lenOf pd_22 rfl) rfl (by show 2 * 0 + _ ≤ _; exact Nat.le_of_eq rfl) (hb hby d35_35) (fun _ _ => ⟨rfl, e15, (by decide : 3 + 0 ≤ _), (by decide : 19 + 0 ≤ _)⟩)
  dsimp only [Pt.U, Pt.locs, Pt.cells, Pt.slots] at X27 l27 y27 z27 st27 hQ27
  subst l27 y27 z27
  obtain ⟨rfl, Nq27, Kq27, Sq27⟩ := hQ27
  have N27 := Fr.app N14 Nq27
  refine Go.tr st27 ?_
  show Go p.tables e below _ (T27.setTop (mkF m 38 #[.val (.ref a1), .val (.int p2), .val (.int p3), .val (.ref r4), .val (.int cd')] [(.ref b15)]))
  have f28 := own_stk Kq27 (allS (own_nsE A15) all0) f19
  have f29 := own_stk Kq27 (allS (own_nsE A15) all0) f20
  have f30 := own_stk Kq27 (allS (own_nsE A15) all0) f21
  have f31 := own_stk Kq27 (allS (own_nsE A15) all0) f22
  have f32 := own_stk Kq27 (allS (own_nsE A15) all0) f23
  have f33 := (f24).keep Kq27 (ninS n17 nin0)
  have f35 := (A15).keep Kq27
  have k38 := (k16).trans Kq27 (allS (Or.inr sb15) all0)
  have z39 := Nat.le_trans z26 Kq27.1
  exact own_retO X27 hx Bd.notSynchronized (t := (.object "java/lang/String")) Bd.returns rfl (Or.inr (Or.inr (Or.inr (Or.inr ⟨rfl, rfl, rfl⟩)))) (hb hby d35_38) ⟨_, rfl, N27, k38, _, _, _, _, _, Sq27⟩ (by decide) (by decide)
theorem d21_0 : decode jdk_43_method_47_code 0 = .ok (.iload_n 2, 1) := by decide +kernel
theorem d21_1 : decode jdk_43_method_47_code 1 = .ok (.ifCond .ne 6, 3) := by decide +kernel
theorem d21_7 : decode jdk_43_method_47_code 7 = .ok (.new 1, 3) := by decide +kernel
theorem d21_10 : decode jdk_43_method_47_code 10 = .ok (.dup, 1) := by decide +kernel
theorem d21_11 : decode jdk_43_method_47_code 11 = .ok (.aload_n 0, 1) := by decide +kernel
theorem d21_12 : decode jdk_43_method_47_code 12 = .ok (.iload_n 1, 1) := by decide +kernel
theorem d21_13 : decode jdk_43_method_47_code 13 = .ok (.iload_n 1, 1) := by decide +kernel
theorem d21_14 : decode jdk_43_method_47_code 14 = .ok (.iload_n 2, 1) := by decide +kernel
theorem d21_15 : decode jdk_43_method_47_code 15 = .ok (.iadd, 1) := by decide +kernel
theorem d21_16 : decode jdk_43_method_47_code 16 = .ok (.invokestatic 232, 3) := by decide +kernel
theorem d21_19 : decode jdk_43_method_47_code 19 = .ok (.iconst 0, 1) := by decide +kernel
theorem d21_20 : decode jdk_43_method_47_code 20 = .ok (.invokespecial 112, 3) := by decide +kernel
theorem d21_23 : decode jdk_43_method_47_code 23 = .ok (.areturn, 1) := by decide +kernel
theorem pn_21 : plainFor (⟨"java/lang/StringLatin1", "newString", "([BII)Ljava/lang/String;"⟩ : MethodName) = true := plainFor_of_name (by first | (simp [plainName, overriddenIn]; done) | decide +kernel)
theorem ef_21 (m : MethodId) (x0 : Addr) (x1 : Int32) (x2 : Int32) : entryFrame m #[(.ref x0), (.int x1), (.int x2)] 3 = mkF m 0 #[.val (.ref x0), .val (.int x1), .val (.int x2)] [] := by first | (simp [entryFrame, mkF, argsToLocals, Value.category]; done) | rfl
def Q21 (Z : State) (a1 : Addr) (p2 : Int32) (p3 : Int32) (kb : ClassId) (zn : Int32) (ys : List Int32) (cs : List Int32) (b : Nat) (n : Nat) (h0 : Heap) (n0 : Nat) (v : Option Value) (h : Heap) (L : List Loc) : Prop := ∃ r : Addr, v = some (.ref r) ∧ Fr n0 L ∧ Keep h0 h [] ∧ ∃ (va : Addr) (kb : ClassId) (cd zn : Int32) (ys : List Int32), own_Str Z h r va kb cd zn ys (own_sl cs b n)
set_option maxRecDepth 65536 in
set_option maxHeartbeats 40000000 in
theorem rm21 (l : Launch) (Z : State) (a0 : Array Value) (hw : ∀ d ∈ tables_1, d.before a0 Z = true) (ws : List Jvm.Cond) (a1 : Addr) (p2 : Int32) (p3 : Int32) (kb : ClassId) (zn : Int32) (ys : List Int32) (cs : List Int32) (b : Nat) (n : Nat) (h0 : Heap) (n0 : Nat) (Z0 : n0 ≤ h0.size) (V1 : Arv Z h0 a1 kb .byte zn (ys.map Value.int) (.int (0 : Int32))) (hz : zn.toInt = ys.length) (hz2 : ys.length ≤ 100) (hen : own_enc 0 ys cs) (hb0 : p2.toInt = b) (hn0 : p3.toInt = n) (hbn : b + n ≤ cs.length) (h5 : cs.length ≤ 5) (hnot : ¬ (b = 0 ∧ n = cs.length)) (hpos : 0 < n) :
    MetFree l (⟨"java/lang/StringLatin1", "newString", "([BII)Ljava/lang/String;"⟩ : MethodName) (head1 (Jvm.Cond.code (⟨"java/lang/StringLatin1", "newString", "([BII)Ljava/lang/String;"⟩ : MethodName) jdk_43_method_47_code 3 (some (.object "java/lang/String")) :: ws) ({ frames := 3, cells := 2, slots := 14, locals := 50 } : Room)) (fun a U => a = #[(.ref a1), (.int p2), (.int p3)] ∧ Z.Warmed39 U.vm ∧ U.heap = h0) (fun _ _ _ _ _ => True) (fun _ U o U' => ∃ v L, o = .returned v ∧ Q21 Z a1 p2 p3 kb zn ys cs b n h0 n0 v U'.heap L ∧ FrameEnd U o U' L ({ frames := 3, cells := 2, slots := 14, locals := 50 } : Room).cells ({ frames := 3, cells := 2, slots := 14, locals := 50 } : Room).slots) := by
  refine MetFree.of_bodySF pn_21 hisR ?_
  intro p e s m args below meth c s₁ Bd hml0 hP hK
  obtain ⟨rfl, hZ, hh⟩ := hP
  have hx := Bd.exec
  have hby := Bd.bytes
  have hml : c.maxLocals = 3 := hml0
  have hown : s.vm.findClass "java/lang/StringLatin1" = some m.cls := findClass_of_methodNamed Bd.named
  have hnm := (name_of_methodNamed Bd.named Bd.method).1
  have X0 : Stand p l e ({ frames := 3, cells := 2, slots := 14, locals := 50 } : Room) s m #[(.ref a1), (.int p2), (.int p3)] below meth c s₁ [] 0 0 := Stand.of_body Bd
  have e0 : s₁.heap = h0 := by rw [← hh, Bd.state]; rfl
  have N0 := Fr.nil n0
  refine own_start (Q := Q21 Z a1 p2 p3 kb zn ys cs b n h0 n0) (own_cast (ef_21 m a1 p2 p3) ?_)
  have hyl := (hen.lat rfl).1
  have hsum := own_add hb0 hn0 (by omega)
  have hzs : ((p2 + p3) - p2).toInt = ((own_sl ys b n).length : Int) := by
    rw [own_sl_len]; have q := own_sub hsum hb0 (by omega); omega
  have hens := own_enc_slL hen hbn
  show Go p.tables e below _ (s₁.setTop (mkF m 0 #[.val (.ref a1), .val (.int p2), .val (.int p3)] []))
  refine Go.st (fun U hr => XS.iloadN X0.here hx rfl (hb hby d21_0) rfl hr) ?_
  show Go p.tables e below _ (s₁.setTop (mkF m 1 #[.val (.ref a1), .val (.int p2), .val (.int p3)] [(.int p3)]))
  have hc1_1 : ¬ (p3 = (0 : Int32)) := (fun q => by rw [q, show (0 : Int32).toInt = 0 from by decide] at hn0; omega)
  refine Go.st (fun U hr => XS.ifYes X0.here hx rfl (pc0 := 1) (pc' := 7) rfl (hb hby d21_1) rfl ((if0 _ _).trans (feq hc1_1).2) (by decide) (by decide) hr) ?_
  show Go p.tables e below _ (s₁.setTop (mkF m 7 #[.val (.ref a1), .val (.int p2), .val (.int p3)] []))
  obtain ⟨T2, h2, X2, e2, E2, A2, D2, -, st2⟩ := newO X0 hx hZ hown (hw _ (List.mem_of_getElem? (i := 188) rfl)) (hw _ (List.mem_of_getElem? (i := 10) rfl)) (hw _ (List.mem_of_getElem? (i := 11) rfl)) e0 (g := (mkF m 7 #[.val (.ref a1), .val (.int p2), .val (.int p3)] [])) rfl (hb hby d21_7) (by decide) (by decide)
  obtain ⟨b2, g2⟩ : ∃ z, z = h0.size := ⟨_, rfl⟩
  rw [← g2] at A2 D2 st2
  refine Go.st st2 ?_
  have gb2 : n0 ≤ b2 := Nat.le_trans Z0 (Nat.le_of_eq g2.symm)
  have sb2 : h0.size ≤ b2 := Nat.le_trans ((Keep.refl h0 [])).1 (Nat.le_of_eq g2.symm)
  have k3 := ((Keep.refl h0 [])).ext E2
  have n4 : a1 ≠ b2 := Nat.ne_of_lt (Nat.lt_of_lt_of_le (V1).lt (Nat.le_of_eq g2.symm))
  have f5 := (V1).ext E2
  have z6 := Nat.le_trans Z0 E2.1
  have F2_coder : Fld Z h2 b2 "java/lang/String" "coder" "B" (.int (0 : Int32)) := D2 (Or.inr (hw _ (List.mem_of_getElem? (i := 35) rfl))) (ty := .byte) (by decide)
  have F2_value : Fld Z h2 b2 "java/lang/String" "value" "[B" .null := D2 (Or.inr (hw _ (List.mem_of_getElem? (i := 37) rfl))) (ty := (.array .byte)) (by decide)
  show Go p.tables e below _ (T2.setTop (mkF m 10 #[.val (.ref a1), .val (.int p2), .val (.int p3)] [(.ref b2)]))
  refine Go.st (fun U hr => XS.dup X2.here hx rfl (hb hby d21_10) rfl rfl hr) ?_
  show Go p.tables e below _ (T2.setTop (mkF m 11 #[.val (.ref a1), .val (.int p2), .val (.int p3)] [(.ref b2), (.ref b2)]))
  refine Go.st (fun U hr => XS.aloadN X2.here hx rfl (hb hby d21_11) rfl rfl hr) ?_
  show Go p.tables e below _ (T2.setTop (mkF m 12 #[.val (.ref a1), .val (.int p2), .val (.int p3)] [(.ref a1), (.ref b2), (.ref b2)]))
  refine Go.st (fun U hr => XS.iloadN X2.here hx rfl (hb hby d21_12) rfl hr) ?_
  show Go p.tables e below _ (T2.setTop (mkF m 13 #[.val (.ref a1), .val (.int p2), .val (.int p3)] [(.int p2), (.ref a1), (.ref b2), (.ref b2)]))
  refine Go.st (fun U hr => XS.iloadN X2.here hx rfl (hb hby d21_13) rfl hr) ?_
  show Go p.tables e below _ (T2.setTop (mkF m 14 #[.val (.ref a1), .val (.int p2), .val (.int p3)] [(.int p2), (.int p2), (.ref a1), (.ref b2), (.ref b2)]))
  refine Go.st (fun U hr => XS.iloadN X2.here hx rfl (hb hby d21_14) rfl hr) ?_
  show Go p.tables e below _ (T2.setTop (mkF m 15 #[.val (.ref a1), .val (.int p2), .val (.int p3)] [(.int p3), (.int p2), (.int p2), (.ref a1), (.ref b2), (.ref b2)]))
  refine Go.st (fun U hr => XS.iadd X2.here hx rfl (hb hby d21_15) rfl hr) ?_
  show Go p.tables e below _ (T2.setTop (mkF m 16 #[.val (.ref a1), .val (.int p2), .val (.int p3)] [(.int (p2 + p3)), (.int p2), (.ref a1), (.ref b2), (.ref b2)]))
  obtain ⟨_, _, ⟨T7, L7, k7, n7⟩, -, X7, ⟨Lc7, hQ7, l7, y7, z7⟩, st7⟩ := Jvm.LawKit.callS X2 hx (y := (⟨"java/util/Arrays", "copyOfRange", "([BII)[B"⟩ : MethodName)) hown (mvT hZ (hw _ (List.mem_of_getElem? (i := 189) rfl))) (mvT hZ (hw _ (List.mem_of_getElem? (i := 165) rfl))) (mvT hZ (hw _ (List.mem_of_getElem? (i := 166) rfl))) (mvT hZ (hw _ (List.mem_of_getElem? (i := 167) rfl))) (by decide) (backOf (W := 2) (rm41 l Z a0 hw [] a1 p2 (p2 + p3) kb zn ys b n h2 n0 z6 f5 hz hz2 hb0 hsum (by omega) (by omega) (fun q1 q2 => hnot (by have z1 := hb0; have z2 := hsum; rw [q1] at z1; rw [q2] at z2; rw [show (0 : Int32).toInt = 0 from by decide] at z1; omega))) hZ (hw _ (List.mem_of_getElem? (i := 167) rfl)) (hw _ (List.mem_of_getElem? (i := 166) rfl)) (by decide) (by decide)) (g := (mkF m 16 #[.val (.ref a1), .val (.int p2), .val (.int p3)] [(.int (p2 + p3)), (.int p2), (.ref a1), (.ref b2), (.ref b2)])) rfl (by rw [hml]; rfl) (argsL := [(.ref a1), (.int p2), (.int (p2 + p3))]) (rest := [(.ref b2), (.ref b2)]) (lenOf pd_18 rfl) rfl (by show 2 * 0 + _ ≤ _; exact Nat.le_of_eq rfl) (hb hby d21_16) (fun _ _ => ⟨rfl, e2, (by decide : 1 + 1 ≤ _), (by decide : 4 + 10 ≤ _)⟩)
  dsimp only [Pt.U, Pt.locs, Pt.cells, Pt.slots] at X7 l7 y7 z7 st7 hQ7
  subst l7 y7 z7
  obtain ⟨r7, rfl, Nq7, sr7, Kq7, Vq7'⟩ := hQ7
  have N7 := Fr.app N0 Nq7
  refine Go.st st7 ?_
  show Go p.tables e below _ (T7.setTop (mkF m 19 #[.val (.ref a1), .val (.int p2), .val (.int p3)] [(.ref r7), (.ref b2), (.ref b2)]))
  have f8 := (f5).keep Kq7 nin0
  have f9 := (A2).keep Kq7
  have f10 := (F2_coder).keep Kq7 nin0
  have f11 := (F2_value).keep Kq7 nin0
  have k12 := (k3).trans Kq7 all0
  have z13 := Nat.le_trans z6 Kq7.1
  obtain ⟨kb', Vq7⟩ := Vq7'
  have gb_r7 : n0 ≤ r7 := Nat.le_trans z6 sr7
  have sz_r7 : h0.size ≤ r7 := Nat.le_trans (k3).1 sr7
  have n14 : a1 ≠ r7 := Nat.ne_of_lt (Nat.lt_of_lt_of_le (f5).lt sr7)
  have n15 : b2 ≠ r7 := Nat.ne_of_lt (Nat.lt_of_lt_of_le (A2).lt sr7)
  refine Go.st (fun U hr => XS.iconst X7.here hx rfl (hb hby d21_19) hr) ?_
  show Go p.tables e below _ (T7.setTop (mkF m 20 #[.val (.ref a1), .val (.int p2), .val (.int p3)] [(.int (0 : Int32)), (.ref r7), (.ref b2), (.ref b2)]))
  obtain ⟨_, _, ⟨T16, L16, k16, n16⟩, -, X16, ⟨Lc16, hQ16, l16, y16, z16⟩, st16⟩ := X7.specialBack hx (y := (⟨"java/lang/String", "<init>", "([BB)V"⟩ : MethodName)) rfl hown (mvT hZ (hw _ (List.mem_of_getElem? (i := 190) rfl))) (mvT hZ (hw _ (List.mem_of_getElem? (i := 185) rfl))) (mvT hZ (hw _ (List.mem_of_getElem? (i := 186) rfl))) (by decide) (backOf (W := 1) (rm45 l Z a0 hw [] b2 r7 (0 : Int32) kb' ((p2 + p3) - p2) (own_sl ys b n) (own_sl cs b n) T7.heap n0 z13 f9 f11 f10 gb2 Vq7 hzs hens (by rw [own_sl_len]; omega) (Ne.symm n15)) hZ (hw _ (List.mem_of_getElem? (i := 186) rfl)) (hw _ (List.mem_of_getElem? (i := 11) rfl)) (by decide) (by decide)) (g := (mkF m 20 #[.val (.ref a1), .val (.int p2), .val (.int p3)] [(.int (0 : Int32)), (.ref r7), (.ref b2), (.ref b2)])) rfl (by rw [hml]; rfl) (Steps.refl _) (a := b2) (argsL := [(.ref r7), (.int (0 : Int32))]) (rest := [(.ref b2)]) (lenOf pd_22 rfl) rfl (by show 2 * 0 + _ ≤ _; exact Nat.le_of_eq rfl) (hb hby d21_20) (fun _ _ => ⟨rfl, rfl, (by decide : 2 + 0 ≤ _), (by decide : 14 + 0 ≤ _)⟩)
  dsimp only [Pt.U, Pt.locs, Pt.cells, Pt.slots] at X16 l16 y16 z16 st16 hQ16
  subst l16 y16 z16
  obtain ⟨rfl, Nq16, Kq16, Sq16⟩ := hQ16
  have N16 := Fr.app N7 Nq16
  refine Go.tr st16 ?_
  show Go p.tables e below _ (T16.setTop (mkF m 23 #[.val (.ref a1), .val (.int p2), .val (.int p3)] [(.ref b2)]))
  have f17 := (f8).keep Kq16 (ninS n4 nin0)
  have f18 := (f9).keep Kq16
  have k22 := (k12).trans Kq16 (allS (Or.inr sb2) all0)
  have z23 := Nat.le_trans z13 Kq16.1
  exact own_retO X16 hx Bd.notSynchronized (t := (.object "java/lang/String")) Bd.returns rfl (Or.inr (Or.inr (Or.inr (Or.inr ⟨rfl, rfl, rfl⟩)))) (hb hby d21_23) ⟨_, rfl, N16, k22, _, _, _, _, _, Sq16⟩ (by decide) (by decide)
theorem d18_0 : decode jdk_42_method_92_code 0 = .ok (.aload_n 0, 1) := by decide +kernel
theorem d18_1 : decode jdk_42_method_92_code 1 = .ok (.invokevirtual 505, 3) := by decide +kernel
theorem d18_4 : decode jdk_42_method_92_code 4 = .ok (.istore_n 3, 1) := by decide +kernel
theorem d18_5 : decode jdk_42_method_92_code 5 = .ok (.iload_n 1, 1) := by decide +kernel
theorem d18_6 : decode jdk_42_method_92_code 6 = .ok (.iload_n 2, 1) := by decide +kernel
theorem d18_7 : decode jdk_42_method_92_code 7 = .ok (.iload_n 3, 1) := by decide +kernel
theorem d18_8 : decode jdk_42_method_92_code 8 = .ok (.invokestatic 521, 3) := by decide +kernel
theorem d18_11 : decode jdk_42_method_92_code 11 = .ok (.iload_n 1, 1) := by decide +kernel
theorem d18_12 : decode jdk_42_method_92_code 12 = .ok (.ifCond .ne 10, 3) := by decide +kernel
theorem d18_15 : decode jdk_42_method_92_code 15 = .ok (.iload_n 2, 1) := by decide +kernel
theorem d18_16 : decode jdk_42_method_92_code 16 = .ok (.iload_n 3, 1) := by decide +kernel
theorem d18_17 : decode jdk_42_method_92_code 17 = .ok (.if_icmp .ne 5, 3) := by decide +kernel
theorem d18_20 : decode jdk_42_method_92_code 20 = .ok (.aload_n 0, 1) := by decide +kernel
theorem d18_21 : decode jdk_42_method_92_code 21 = .ok (.areturn, 1) := by decide +kernel
theorem d18_22 : decode jdk_42_method_92_code 22 = .ok (.iload_n 2, 1) := by decide +kernel
theorem d18_23 : decode jdk_42_method_92_code 23 = .ok (.iload_n 1, 1) := by decide +kernel
theorem d18_24 : decode jdk_42_method_92_code 24 = .ok (.isub, 1) := by decide +kernel
theorem d18_25 : decode jdk_42_method_92_code 25 = .ok (.istore 4, 2) := by decide +kernel
theorem d18_27 : decode jdk_42_method_92_code 27 = .ok (.aload_n 0, 1) := by decide +kernel
theorem d18_28 : decode jdk_42_method_92_code 28 = .ok (.invokevirtual 492, 3) := by decide +kernel
theorem d18_31 : decode jdk_42_method_92_code 31 = .ok (.ifCond .eq 16, 3) := by decide +kernel
theorem d18_34 : decode jdk_42_method_92_code 34 = .ok (.aload_n 0, 1) := by decide +kernel
theorem d18_35 : decode jdk_42_method_92_code 35 = .ok (.getfield 9, 3) := by decide +kernel
theorem d18_38 : decode jdk_42_method_92_code 38 = .ok (.iload_n 1, 1) := by decide +kernel
theorem d18_39 : decode jdk_42_method_92_code 39 = .ok (.iload 4, 2) := by decide +kernel
theorem d18_41 : decode jdk_42_method_92_code 41 = .ok (.invokestatic 685, 3) := by decide +kernel
theorem d18_44 : decode jdk_42_method_92_code 44 = .ok (.goto 13, 3) := by decide +kernel
theorem d18_47 : decode jdk_42_method_92_code 47 = .ok (.aload_n 0, 1) := by decide +kernel
theorem d18_48 : decode jdk_42_method_92_code 48 = .ok (.getfield 9, 3) := by decide +kernel
theorem d18_51 : decode jdk_42_method_92_code 51 = .ok (.iload_n 1, 1) := by decide +kernel
theorem d18_52 : decode jdk_42_method_92_code 52 = .ok (.iload 4, 2) := by decide +kernel
theorem d18_54 : decode jdk_42_method_92_code 54 = .ok (.invokestatic 689, 3) := by decide +kernel
theorem d18_57 : decode jdk_42_method_92_code 57 = .ok (.areturn, 1) := by decide +kernel
theorem pn_18 : plainFor (⟨"java/lang/String", "substring", "(II)Ljava/lang/String;"⟩ : MethodName) = true := plainFor_of_name (by first | (simp [plainName, overriddenIn]; done) | decide +kernel)
theorem ef_18 (m : MethodId) (x0 : Addr) (x1 : Int32) (x2 : Int32) : entryFrame m #[(.ref x0), (.int x1), (.int x2)] 5 = mkF m 0 #[.val (.ref x0), .val (.int x1), .val (.int x2), .unset, .unset] [] := by first | (simp [entryFrame, mkF, argsToLocals, Value.category]; done) | rfl
theorem pd_23 : parseMethodDescriptor "()I" = some ⟨[], some .int⟩ := by decide +kernel
theorem pd_24 : parseMethodDescriptor "(III)V" = some ⟨[.int, .int, .int], none⟩ := by decide +kernel
theorem pd_25 : parseMethodDescriptor "([BII)Ljava/lang/String;" = some ⟨[(.array .byte), .int, .int], some (.object "java/lang/String")⟩ := by decide +kernel
def Q18 (Z : State) (a1 : Addr) (p2 : Int32) (p3 : Int32) (wc : Int32) (sf : Option Addr) (va : Addr) (kb : ClassId) (cd : Int32) (zn : Int32) (ys : List Int32) (cs : List Int32) (b : Nat) (n : Nat) (h0 : Heap) (n0 : Nat) (v : Option Value) (h : Heap) (L : List Loc) : Prop := ∃ r : Addr, v = some (.ref r) ∧ Fr n0 L ∧ Keep h0 h [] ∧ ∃ (va : Addr) (kb : ClassId) (cd zn : Int32) (ys : List Int32), own_Str Z h r va kb cd zn ys (own_sl cs b n)
set_option maxRecDepth 65536 in
set_option maxHeartbeats 40000000 in
theorem rm18 (l : Launch) (Z : State) (a0 : Array Value) (hw : ∀ d ∈ tables_1, d.before a0 Z = true) (ws : List Jvm.Cond) (a1 : Addr) (p2 : Int32) (p3 : Int32) (wc : Int32) (sf : Option Addr) (va : Addr) (kb : ClassId) (cd : Int32) (zn : Int32) (ys : List Int32) (cs : List Int32) (b : Nat) (n : Nat) (h0 : Heap) (n0 : Nat) (Z0 : n0 ≤ h0.size) (hS : own_Sts Z h0 wc sf) (hT : own_Str Z h0 a1 va kb cd zn ys cs) (hb0 : p2.toInt = b) (he0 : p3.toInt = ((b + n : Nat) : Int)) (hbn : b + n ≤ cs.length) (hpos : 0 < n ∨ (b = 0 ∧ n = cs.length)) :
    MetFree l (⟨"java/lang/String", "substring", "(II)Ljava/lang/String;"⟩ : MethodName) (head1 (Jvm.Cond.code (⟨"java/lang/String", "substring", "(II)Ljava/lang/String;"⟩ : MethodName) jdk_42_method_92_code 5 (some (.object "java/lang/String")) :: ws) ({ frames := 8, cells := 3, slots := 19, locals := 151 } : Room)) (fun a U => a = #[(.ref a1), (.int p2), (.int p3)] ∧ Z.Warmed39 U.vm ∧ U.heap = h0) (fun _ _ _ _ _ => True) (fun _ U o U' => ∃ v L, o = .returned v ∧ Q18 Z a1 p2 p3 wc sf va kb cd zn ys cs b n h0 n0 v U'.heap L ∧ FrameEnd U o U' L ({ frames := 8, cells := 3, slots := 19, locals := 151 } : Room).cells ({ frames := 8, cells := 3, slots := 19, locals := 151 } : Room).slots) := by
  refine MetFree.of_bodySF pn_18 hisR ?_
  intro p e s m args below meth c s₁ Bd hml0 hP hK
  obtain ⟨rfl, hZ, hh⟩ := hP
  have hx := Bd.exec
  have hby := Bd.bytes
  have hml : c.maxLocals = 5 := hml0
  have hown : s.vm.findClass "java/lang/String" = some m.cls := findClass_of_methodNamed Bd.named
  have hnm := (name_of_methodNamed Bd.named Bd.method).1
  have X0 : Stand p l e ({ frames := 8, cells := 3, slots := 19, locals := 151 } : Room) s m #[(.ref a1), (.int p2), (.int p3)] below meth c s₁ [] 0 0 := Stand.of_body Bd
  have e0 : s₁.heap = h0 := by rw [← hh, Bd.state]; rfl
  have N0 := Fr.nil n0
  refine own_start (Q := Q18 Z a1 p2 p3 wc sf va kb cd zn ys cs b n h0 n0) (own_cast (ef_18 m a1 p2 p3) ?_)
  obtain ⟨S1, hwc, S2, S3, S4, S5⟩ := id hS
  obtain ⟨E1, F1, F2, V1, hz, hen, h5⟩ := id hT
  have hl2 : ys.length ≤ 100 := by rcases hen.2 with ⟨_, q, _⟩ | ⟨_, q, _⟩ <;> omega
  have hln := own_len hen hz
  have hd0 : (p3 - p2).toInt = n := by have q := own_sub he0 hb0 (by omega); omega
  show Go p.tables e below _ (s₁.setTop (mkF m 0 #[.val (.ref a1), .val (.int p2), .val (.int p3), .unset, .unset] []))
  refine Go.st (fun U hr => XS.aloadN X0.here hx rfl (hb hby d18_0) rfl rfl hr) ?_
  show Go p.tables e below _ (s₁.setTop (mkF m 1 #[.val (.ref a1), .val (.int p2), .val (.int p3), .unset, .unset] [(.ref a1)]))
  obtain ⟨cq1, kq1, q1a, q1b, q1c⟩ := isOf hZ e0 E1
  obtain ⟨_, _, ⟨T1, L1, k1, n1⟩, -, X1, ⟨Lc1, hQ1, l1, y1, z1⟩, st1⟩ := X0.virtualBack hx (y := (⟨"java/lang/String", "length", "()I"⟩ : MethodName)) (z := (⟨"java/lang/String", "length", "()I"⟩ : MethodName)) hown (mvT hZ (hw _ (List.mem_of_getElem? (i := 85) rfl))) (mvT hZ (hw _ (List.mem_of_getElem? (i := 46) rfl))) (notFace_of_selects (args := #[]) (mvT hZ (hw _ (List.mem_of_getElem? (i := 48) rfl)))) (mvT hZ (hw _ (List.mem_of_getElem? (i := 48) rfl))) (mvT hZ (hw _ (List.mem_of_getElem? (i := 47) rfl))) (by decide) (backOf (W := 0) (rm10 l Z a0 hw [] a1 wc sf va kb cd zn ys cs h0 n0 Z0 ⟨S1, hwc, S2, S3, S4, S5⟩ ⟨E1, F1, F2, V1, hz, hen, h5⟩) hZ (hw _ (List.mem_of_getElem? (i := 49) rfl)) (hw _ (List.mem_of_getElem? (i := 11) rfl)) (by decide) (by decide)) q1a q1c (g := (mkF m 1 #[.val (.ref a1), .val (.int p2), .val (.int p3), .unset, .unset] [(.ref a1)])) rfl (by rw [hml]; rfl) (Steps.refl _) (argsL := []) (rest := []) (lenOf pd_23 rfl) rfl (by show 2 * 0 + _ ≤ _; exact Nat.le_of_eq rfl) (hb hby d18_1) (fun _ _ => ⟨rfl, e0, (by decide : 0 + 0 ≤ _), (by decide : 0 + 0 ≤ _)⟩)
  dsimp only [Pt.U, Pt.locs, Pt.cells, Pt.slots] at X1 l1 y1 z1 st1 hQ1
  subst l1 y1 z1
  obtain ⟨rfl, Nq1, ee1⟩ := hQ1
  have N1 := Fr.app N0 Nq1
  refine Go.tr st1 ?_
  show Go p.tables e below _ (T1.setTop (mkF m 4 #[.val (.ref a1), .val (.int p2), .val (.int p3), .unset, .unset] [(.int (zn >>> (cd &&& 31)))]))
  refine Go.st (fun U hr => XS.istoreN X1.here hx rfl (hb hby d18_4) rfl (l' := #[.val (.ref a1), .val (.int p2), .val (.int p3), .val (.int (zn >>> (cd &&& 31))), .unset]) rfl hr) ?_
  show Go p.tables e below _ (T1.setTop (mkF m 5 #[.val (.ref a1), .val (.int p2), .val (.int p3), .val (.int (zn >>> (cd &&& 31))), .unset] []))
  refine Go.st (fun U hr => XS.iloadN X1.here hx rfl (hb hby d18_5) rfl hr) ?_
  show Go p.tables e below _ (T1.setTop (mkF m 6 #[.val (.ref a1), .val (.int p2), .val (.int p3), .val (.int (zn >>> (cd &&& 31))), .unset] [(.int p2)]))
  refine Go.st (fun U hr => XS.iloadN X1.here hx rfl (hb hby d18_6) rfl hr) ?_
  show Go p.tables e below _ (T1.setTop (mkF m 7 #[.val (.ref a1), .val (.int p2), .val (.int p3), .val (.int (zn >>> (cd &&& 31))), .unset] [(.int p3), (.int p2)]))
  refine Go.st (fun U hr => XS.iloadN X1.here hx rfl (hb hby d18_7) rfl hr) ?_
  show Go p.tables e below _ (T1.setTop (mkF m 8 #[.val (.ref a1), .val (.int p2), .val (.int p3), .val (.int (zn >>> (cd &&& 31))), .unset] [(.int (zn >>> (cd &&& 31))), (.int p3), (.int p2)]))
  obtain ⟨_, _, ⟨T2, L2, k2, n2⟩, -, X2, ⟨Lc2, hQ2, l2, y2, z2⟩, st2⟩ := Jvm.LawKit.callS X1 hx (y := (⟨"java/lang/String", "checkBoundsBeginEnd", "(III)V"⟩ : MethodName)) hown (mvT hZ (hw _ (List.mem_of_getElem? (i := 86) rfl))) (mvT hZ (hw _ (List.mem_of_getElem? (i := 87) rfl))) (mvT hZ (hw _ (List.mem_of_getElem? (i := 11) rfl))) (mvT hZ (hw _ (List.mem_of_getElem? (i := 88) rfl))) (by decide) (backOf (W := 0) (rm19 l Z a0 hw [] p2 p3 (zn >>> (cd &&& 31)) wc sf h0 n0 Z0 ⟨S1, hwc, S2, S3, S4, S5⟩ (by omega)) hZ (hw _ (List.mem_of_getElem? (i := 88) rfl)) (hw _ (List.mem_of_getElem? (i := 11) rfl)) (by decide) (by decide)) (g := (mkF m 8 #[.val (.ref a1), .val (.int p2), .val (.int p3), .val (.int (zn >>> (cd &&& 31))), .unset] [(.int (zn >>> (cd &&& 31))), (.int p3), (.int p2)])) rfl (by rw [hml]; rfl) (argsL := [(.int p2), (.int p3), (.int (zn >>> (cd &&& 31)))]) (rest := []) (lenOf pd_24 rfl) rfl (by show 2 * 0 + _ ≤ _; exact Nat.le_of_eq rfl) (hb hby d18_8) (fun _ _ => ⟨rfl, ee1, (by decide : 0 + 0 ≤ _), (by decide : 0 + 0 ≤ _)⟩)
  dsimp only [Pt.U, Pt.locs, Pt.cells, Pt.slots] at X2 l2 y2 z2 st2 hQ2
  subst l2 y2 z2
  obtain ⟨rfl, Nq2, ee2⟩ := hQ2
  have N2 := Fr.app N1 Nq2
  refine Go.st st2 ?_
  show Go p.tables e below _ (T2.setTop (mkF m 11 #[.val (.ref a1), .val (.int p2), .val (.int p3), .val (.int (zn >>> (cd &&& 31))), .unset] []))
  refine Go.st (fun U hr => XS.iloadN X2.here hx rfl (hb hby d18_11) rfl hr) ?_
  show Go p.tables e below _ (T2.setTop (mkF m 12 #[.val (.ref a1), .val (.int p2), .val (.int p3), .val (.int (zn >>> (cd &&& 31))), .unset] [(.int p2)]))
  by_cases hc12_3 : p2 = (0 : Int32)
  · refine Go.st (fun U hr => XS.ifNo X2.here hx rfl (hb hby d18_12) rfl ((if0 _ _).trans (teq hc12_3).2) hr) ?_
    show Go p.tables e below _ (T2.setTop (mkF m 15 #[.val (.ref a1), .val (.int p2), .val (.int p3), .val (.int (zn >>> (cd &&& 31))), .unset] []))
    refine Go.st (fun U hr => XS.iloadN X2.here hx rfl (hb hby d18_15) rfl hr) ?_
    show Go p.tables e below _ (T2.setTop (mkF m 16 #[.val (.ref a1), .val (.int p2), .val (.int p3), .val (.int (zn >>> (cd &&& 31))), .unset] [(.int p3)]))
    refine Go.st (fun U hr => XS.iloadN X2.here hx rfl (hb hby d18_16) rfl hr) ?_
    show Go p.tables e below _ (T2.setTop (mkF m 17 #[.val (.ref a1), .val (.int p2), .val (.int p3), .val (.int (zn >>> (cd &&& 31))), .unset] [(.int (zn >>> (cd &&& 31))), (.int p3)]))
    by_cases hc17_4 : p3 = (zn >>> (cd &&& 31))
    · refine Go.st (fun U hr => XS.icmpNo X2.here hx rfl (hb hby d18_17) rfl (teq hc17_4).2 hr) ?_
      show Go p.tables e below _ (T2.setTop (mkF m 20 #[.val (.ref a1), .val (.int p2), .val (.int p3), .val (.int (zn >>> (cd &&& 31))), .unset] []))
      refine Go.st (fun U hr => XS.aloadN X2.here hx rfl (hb hby d18_20) rfl rfl hr) ?_
      show Go p.tables e below _ (T2.setTop (mkF m 21 #[.val (.ref a1), .val (.int p2), .val (.int p3), .val (.int (zn >>> (cd &&& 31))), .unset] [(.ref a1)]))
      have eb : b = 0 := by have q := hc12_3; rw [q, show (0 : Int32).toInt = 0 from by decide] at hb0; omega
      have en : n = cs.length := by have q := hc17_4; rw [q, hln] at he0; omega
      subst eb en
      exact own_retO X2 hx Bd.notSynchronized (t := (.object "java/lang/String")) Bd.returns rfl (Or.inr (Or.inr (Or.inr (Or.inr ⟨rfl, rfl, rfl⟩)))) (hb hby d18_21) (by rw [ee2]; exact ⟨_, rfl, N2, (Keep.refl h0 []), _, _, _, _, _, (by rw [own_sl_all]; exact ⟨E1, F1, F2, V1, hz, hen, h5⟩)⟩) (by decide) (by decide)
    · refine Go.st (fun U hr => XS.icmpYes X2.here hx rfl (pc0 := 17) (pc' := 22) rfl (hb hby d18_17) rfl (feq hc17_4).2 (by decide) (by decide) hr) ?_
      show Go p.tables e below _ (T2.setTop (mkF m 22 #[.val (.ref a1), .val (.int p2), .val (.int p3), .val (.int (zn >>> (cd &&& 31))), .unset] []))
      have hnot : ¬ (b = 0 ∧ n = cs.length) := fun q => hc17_4 (Int32.toInt_inj.mp (by omega))
      have hpos' : 0 < n := hpos.resolve_right hnot
      refine Go.st (fun U hr => XS.iloadN X2.here hx rfl (hb hby d18_22) rfl hr) ?_
      show Go p.tables e below _ (T2.setTop (mkF m 23 #[.val (.ref a1), .val (.int p2), .val (.int p3), .val (.int (zn >>> (cd &&& 31))), .unset] [(.int p3)]))
      refine Go.st (fun U hr => XS.iloadN X2.here hx rfl (hb hby d18_23) rfl hr) ?_
      show Go p.tables e below _ (T2.setTop (mkF m 24 #[.val (.ref a1), .val (.int p2), .val (.int p3), .val (.int (zn >>> (cd &&& 31))), .unset] [(.int p2), (.int p3)]))
      refine Go.st (fun U hr => XS.isub X2.here hx rfl (hb hby d18_24) rfl hr) ?_
      show Go p.tables e below _ (T2.setTop (mkF m 25 #[.val (.ref a1), .val (.int p2), .val (.int p3), .val (.int (zn >>> (cd &&& 31))), .unset] [(.int (p3 - p2))]))
      refine Go.st (fun U hr => XS.istore X2.here hx rfl (hb hby d18_25) rfl (l' := #[.val (.ref a1), .val (.int p2), .val (.int p3), .val (.int (zn >>> (cd &&& 31))), .val (.int (p3 - p2))]) rfl hr) ?_
      show Go p.tables e below _ (T2.setTop (mkF m 27 #[.val (.ref a1), .val (.int p2), .val (.int p3), .val (.int (zn >>> (cd &&& 31))), .val (.int (p3 - p2))] []))
      refine Go.st (fun U hr => XS.aloadN X2.here hx rfl (hb hby d18_27) rfl rfl hr) ?_
      show Go p.tables e below _ (T2.setTop (mkF m 28 #[.val (.ref a1), .val (.int p2), .val (.int p3), .val (.int (zn >>> (cd &&& 31))), .val (.int (p3 - p2))] [(.ref a1)]))
      obtain ⟨cq5, kq5, q5a, q5b, q5c⟩ := isOf hZ ee2 E1
      obtain ⟨_, _, ⟨T5, L5, k5, n5⟩, -, X5, ⟨Lc5, hQ5, l5, y5, z5⟩, st5⟩ := X2.virtualBack hx (y := (⟨"java/lang/String", "isLatin1", "()Z"⟩ : MethodName)) (z := (⟨"java/lang/String", "isLatin1", "()Z"⟩ : MethodName)) hown (mvT hZ (hw _ (List.mem_of_getElem? (i := 60) rfl))) (mvT hZ (hw _ (List.mem_of_getElem? (i := 61) rfl))) (notFace_of_selects (args := #[]) (mvT hZ (hw _ (List.mem_of_getElem? (i := 63) rfl)))) (mvT hZ (hw _ (List.mem_of_getElem? (i := 63) rfl))) (mvT hZ (hw _ (List.mem_of_getElem? (i := 62) rfl))) (by decide) (backOf (W := 0) (rm13 l Z a0 hw [] a1 wc sf va kb cd zn ys cs h0 n0 Z0 ⟨S1, hwc, S2, S3, S4, S5⟩ ⟨E1, F1, F2, V1, hz, hen, h5⟩) hZ (hw _ (List.mem_of_getElem? (i := 64) rfl)) (hw _ (List.mem_of_getElem? (i := 11) rfl)) (by decide) (by decide)) q5a q5c (g := (mkF m 28 #[.val (.ref a1), .val (.int p2), .val (.int p3), .val (.int (zn >>> (cd &&& 31))), .val (.int (p3 - p2))] [(.ref a1)])) rfl (by rw [hml]; rfl) (Steps.refl _) (argsL := []) (rest := []) (lenOf pd_9 rfl) rfl (by show 2 * 0 + _ ≤ _; exact Nat.le_of_eq rfl) (hb hby d18_28) (fun _ _ => ⟨rfl, ee2, (by decide : 0 + 0 ≤ _), (by decide : 0 + 0 ≤ _)⟩)
      dsimp only [Pt.U, Pt.locs, Pt.cells, Pt.slots] at X5 l5 y5 z5 st5 hQ5
      subst l5 y5 z5
      obtain ⟨rfl, Nq5, ee5⟩ := hQ5
      have N5 := Fr.app N2 Nq5
      refine Go.tr st5 ?_
      show Go p.tables e below _ (T5.setTop (mkF m 31 #[.val (.ref a1), .val (.int p2), .val (.int p3), .val (.int (zn >>> (cd &&& 31))), .val (.int (p3 - p2))] [(.int (if cd = 0 then (1 : Int32) else 0))]))
      by_cases hc31_6 : (if cd = 0 then (1 : Int32) else 0) = (0 : Int32)
      · refine Go.st (fun U hr => XS.ifYes X5.here hx rfl (pc0 := 31) (pc' := 47) rfl (hb hby d18_31) rfl ((if0 _ _).trans (teq hc31_6).1) (by decide) (by decide) hr) ?_
        show Go p.tables e below _ (T5.setTop (mkF m 47 #[.val (.ref a1), .val (.int p2), .val (.int p3), .val (.int (zn >>> (cd &&& 31))), .val (.int (p3 - p2))] []))
        have hcd1 : cd = 1 := hen.cd.resolve_left (fun q => by
          have z := hc31_6
          rw [if_pos q] at z; exact absurd z (by decide))
        subst hcd1
        show Go p.tables e below _ (T5.setTop (mkF m 47 #[.val (.ref a1), .val (.int p2), .val (.int p3), .val (.int (zn >>> ((1 : Int32) &&& 31))), .val (.int (p3 - p2))] []))
        refine Go.st (fun U hr => XS.aloadN X5.here hx rfl (hb hby d18_47) rfl rfl hr) ?_
        show Go p.tables e below _ (T5.setTop (mkF m 48 #[.val (.ref a1), .val (.int p2), .val (.int p3), .val (.int (zn >>> ((1 : Int32) &&& 31))), .val (.int (p3 - p2))] [(.ref a1)]))
        obtain ⟨T7, X7, e7, st7⟩ := getF X5 hx hZ hown (host := "") (Or.inl (hw _ (List.mem_of_getElem? (i := 36) rfl))) Via.refl ee5 F1 (g := (mkF m 48 #[.val (.ref a1), .val (.int p2), .val (.int p3), .val (.int (zn >>> ((1 : Int32) &&& 31))), .val (.int (p3 - p2))] [(.ref a1)])) rfl rfl (hb hby d18_48)
        refine Go.st st7 ?_
        show Go p.tables e below _ (T7.setTop (mkF m 51 #[.val (.ref a1), .val (.int p2), .val (.int p3), .val (.int (zn >>> ((1 : Int32) &&& 31))), .val (.int (p3 - p2))] [(.ref va)]))
        refine Go.st (fun U hr => XS.iloadN X7.here hx rfl (hb hby d18_51) rfl hr) ?_
        show Go p.tables e below _ (T7.setTop (mkF m 52 #[.val (.ref a1), .val (.int p2), .val (.int p3), .val (.int (zn >>> ((1 : Int32) &&& 31))), .val (.int (p3 - p2))] [(.int p2), (.ref va)]))
        refine Go.st (fun U hr => XS.iload X7.here hx rfl (hb hby d18_52) rfl hr) ?_
        show Go p.tables e below _ (T7.setTop (mkF m 54 #[.val (.ref a1), .val (.int p2), .val (.int p3), .val (.int (zn >>> ((1 : Int32) &&& 31))), .val (.int (p3 - p2))] [(.int (p3 - p2)), (.int p2), (.ref va)]))
        obtain ⟨_, _, ⟨T8, L8, k8, n8⟩, -, X8, ⟨Lc8, hQ8, l8, y8, z8⟩, st8⟩ := Jvm.LawKit.callS X7 hx (y := (⟨"java/lang/StringUTF16", "newString", "([BII)Ljava/lang/String;"⟩ : MethodName)) hown (mvT hZ (hw _ (List.mem_of_getElem? (i := 145) rfl))) (mvT hZ (hw _ (List.mem_of_getElem? (i := 146) rfl))) (mvT hZ (hw _ (List.mem_of_getElem? (i := 25) rfl))) (mvT hZ (hw _ (List.mem_of_getElem? (i := 147) rfl))) (by decide) (backOf (W := 0) (rm35 l Z a0 hw [] va p2 (p3 - p2) wc sf kb zn ys cs b n h0 n0 Z0 ⟨S1, hwc, S2, S3, S4, S5⟩ V1 hz hl2 hen hb0 hd0 hbn h5 hnot hpos') hZ (hw _ (List.mem_of_getElem? (i := 147) rfl)) (hw _ (List.mem_of_getElem? (i := 25) rfl)) (by decide) (by decide)) (g := (mkF m 54 #[.val (.ref a1), .val (.int p2), .val (.int p3), .val (.int (zn >>> ((1 : Int32) &&& 31))), .val (.int (p3 - p2))] [(.int (p3 - p2)), (.int p2), (.ref va)])) rfl (by rw [hml]; rfl) (argsL := [(.ref va), (.int p2), (.int (p3 - p2))]) (rest := []) (lenOf pd_25 rfl) rfl (by show 2 * 0 + _ ≤ _; exact Nat.le_of_eq rfl) (hb hby d18_54) (fun _ _ => ⟨rfl, e7, (by decide : 0 + 3 ≤ _), (by decide : 0 + 19 ≤ _)⟩)
        dsimp only [Pt.U, Pt.locs, Pt.cells, Pt.slots] at X8 l8 y8 z8 st8 hQ8
        subst l8 y8 z8
        obtain ⟨r8, rfl, Nq8, Kq8, Sq8⟩ := hQ8
        have N8 := Fr.app N5 Nq8
        refine Go.st st8 ?_
        show Go p.tables e below _ (T8.setTop (mkF m 57 #[.val (.ref a1), .val (.int p2), .val (.int p3), .val (.int (zn >>> ((1 : Int32) &&& 31))), .val (.int (p3 - p2))] [(.ref r8)]))
        exact own_retO X8 hx Bd.notSynchronized (t := (.object "java/lang/String")) Bd.returns rfl (Or.inr (Or.inr (Or.inr (Or.inr ⟨rfl, rfl, rfl⟩)))) (hb hby d18_57) ⟨_, rfl, N8, Kq8, Sq8⟩ (by decide) (by decide)
      · refine Go.st (fun U hr => XS.ifNo X5.here hx rfl (hb hby d18_31) rfl ((if0 _ _).trans (feq hc31_6).1) hr) ?_
        show Go p.tables e below _ (T5.setTop (mkF m 34 #[.val (.ref a1), .val (.int p2), .val (.int p3), .val (.int (zn >>> (cd &&& 31))), .val (.int (p3 - p2))] []))
        have hcd0 : cd = 0 := by
          apply Classical.byContradiction; intro q; exact hc31_6 (if_neg q)
        subst hcd0
        show Go p.tables e below _ (T5.setTop (mkF m 34 #[.val (.ref a1), .val (.int p2), .val (.int p3), .val (.int (zn >>> ((0 : Int32) &&& 31))), .val (.int (p3 - p2))] []))
        refine Go.st (fun U hr => XS.aloadN X5.here hx rfl (hb hby d18_34) rfl rfl hr) ?_
        show Go p.tables e below _ (T5.setTop (mkF m 35 #[.val (.ref a1), .val (.int p2), .val (.int p3), .val (.int (zn >>> ((0 : Int32) &&& 31))), .val (.int (p3 - p2))] [(.ref a1)]))
        obtain ⟨T9, X9, e9, st9⟩ := getF X5 hx hZ hown (host := "") (Or.inl (hw _ (List.mem_of_getElem? (i := 36) rfl))) Via.refl ee5 F1 (g := (mkF m 35 #[.val (.ref a1), .val (.int p2), .val (.int p3), .val (.int (zn >>> ((0 : Int32) &&& 31))), .val (.int (p3 - p2))] [(.ref a1)])) rfl rfl (hb hby d18_35)
        refine Go.st st9 ?_
        show Go p.tables e below _ (T9.setTop (mkF m 38 #[.val (.ref a1), .val (.int p2), .val (.int p3), .val (.int (zn >>> ((0 : Int32) &&& 31))), .val (.int (p3 - p2))] [(.ref va)]))
        refine Go.st (fun U hr => XS.iloadN X9.here hx rfl (hb hby d18_38) rfl hr) ?_
        show Go p.tables e below _ (T9.setTop (mkF m 39 #[.val (.ref a1), .val (.int p2), .val (.int p3), .val (.int (zn >>> ((0 : Int32) &&& 31))), .val (.int (p3 - p2))] [(.int p2), (.ref va)]))
        refine Go.st (fun U hr => XS.iload X9.here hx rfl (hb hby d18_39) rfl hr) ?_
        show Go p.tables e below _ (T9.setTop (mkF m 41 #[.val (.ref a1), .val (.int p2), .val (.int p3), .val (.int (zn >>> ((0 : Int32) &&& 31))), .val (.int (p3 - p2))] [(.int (p3 - p2)), (.int p2), (.ref va)]))
        obtain ⟨_, _, ⟨T10, L10, k10, n10⟩, -, X10, ⟨Lc10, hQ10, l10, y10, z10⟩, st10⟩ := Jvm.LawKit.callS X9 hx (y := (⟨"java/lang/StringLatin1", "newString", "([BII)Ljava/lang/String;"⟩ : MethodName)) hown (mvT hZ (hw _ (List.mem_of_getElem? (i := 92) rfl))) (mvT hZ (hw _ (List.mem_of_getElem? (i := 93) rfl))) (mvT hZ (hw _ (List.mem_of_getElem? (i := 67) rfl))) (mvT hZ (hw _ (List.mem_of_getElem? (i := 94) rfl))) (by decide) (backOf (W := 0) (rm21 l Z a0 hw [] va p2 (p3 - p2) kb zn ys cs b n h0 n0 Z0 V1 hz hl2 hen hb0 hd0 hbn h5 hnot hpos') hZ (hw _ (List.mem_of_getElem? (i := 94) rfl)) (hw _ (List.mem_of_getElem? (i := 67) rfl)) (by decide) (by decide)) (g := (mkF m 41 #[.val (.ref a1), .val (.int p2), .val (.int p3), .val (.int (zn >>> ((0 : Int32) &&& 31))), .val (.int (p3 - p2))] [(.int (p3 - p2)), (.int p2), (.ref va)])) rfl (by rw [hml]; rfl) (argsL := [(.ref va), (.int p2), (.int (p3 - p2))]) (rest := []) (lenOf pd_25 rfl) rfl (by show 2 * 0 + _ ≤ _; exact Nat.le_of_eq rfl) (hb hby d18_41) (fun _ _ => ⟨rfl, e9, (by decide : 0 + 2 ≤ _), (by decide : 0 + 14 ≤ _)⟩)
        dsimp only [Pt.U, Pt.locs, Pt.cells, Pt.slots] at X10 l10 y10 z10 st10 hQ10
        subst l10 y10 z10
        obtain ⟨r10, rfl, Nq10, Kq10, Sq10⟩ := hQ10
        have N10 := Fr.app N5 Nq10
        refine Go.st st10 ?_
        show Go p.tables e below _ (T10.setTop (mkF m 44 #[.val (.ref a1), .val (.int p2), .val (.int p3), .val (.int (zn >>> ((0 : Int32) &&& 31))), .val (.int (p3 - p2))] [(.ref r10)]))
        refine Go.st (fun U hr => XS.goto X10.here hx rfl (pc0 := 44) (pc' := 57) rfl (hb hby d18_44) (by decide) (by decide) hr) ?_
        show Go p.tables e below _ (T10.setTop (mkF m 57 #[.val (.ref a1), .val (.int p2), .val (.int p3), .val (.int (zn >>> ((0 : Int32) &&& 31))), .val (.int (p3 - p2))] [(.ref r10)]))
        exact own_retO X10 hx Bd.notSynchronized (t := (.object "java/lang/String")) Bd.returns rfl (Or.inr (Or.inr (Or.inr (Or.inr ⟨rfl, rfl, rfl⟩)))) (hb hby d18_57) ⟨_, rfl, N10, Kq10, Sq10⟩ (by decide) (by decide)
  · refine Go.st (fun U hr => XS.ifYes X2.here hx rfl (pc0 := 12) (pc' := 22) rfl (hb hby d18_12) rfl ((if0 _ _).trans (feq hc12_3).2) (by decide) (by decide) hr) ?_
    show Go p.tables e below _ (T2.setTop (mkF m 22 #[.val (.ref a1), .val (.int p2), .val (.int p3), .val (.int (zn >>> (cd &&& 31))), .unset] []))
    have hnot : ¬ (b = 0 ∧ n = cs.length) := fun q => hc12_3 (Int32.toInt_inj.mp (by rw [show (0 : Int32).toInt = 0 from by decide]; omega))
    have hpos' : 0 < n := hpos.resolve_right hnot
    refine Go.st (fun U hr => XS.iloadN X2.here hx rfl (hb hby d18_22) rfl hr) ?_
    show Go p.tables e below _ (T2.setTop (mkF m 23 #[.val (.ref a1), .val (.int p2), .val (.int p3), .val (.int (zn >>> (cd &&& 31))), .unset] [(.int p3)]))
    refine Go.st (fun U hr => XS.iloadN X2.here hx rfl (hb hby d18_23) rfl hr) ?_
    show Go p.tables e below _ (T2.setTop (mkF m 24 #[.val (.ref a1), .val (.int p2), .val (.int p3), .val (.int (zn >>> (cd &&& 31))), .unset] [(.int p2), (.int p3)]))
    refine Go.st (fun U hr => XS.isub X2.here hx rfl (hb hby d18_24) rfl hr) ?_
    show Go p.tables e below _ (T2.setTop (mkF m 25 #[.val (.ref a1), .val (.int p2), .val (.int p3), .val (.int (zn >>> (cd &&& 31))), .unset] [(.int (p3 - p2))]))
    refine Go.st (fun U hr => XS.istore X2.here hx rfl (hb hby d18_25) rfl (l' := #[.val (.ref a1), .val (.int p2), .val (.int p3), .val (.int (zn >>> (cd &&& 31))), .val (.int (p3 - p2))]) rfl hr) ?_
    show Go p.tables e below _ (T2.setTop (mkF m 27 #[.val (.ref a1), .val (.int p2), .val (.int p3), .val (.int (zn >>> (cd &&& 31))), .val (.int (p3 - p2))] []))
    refine Go.st (fun U hr => XS.aloadN X2.here hx rfl (hb hby d18_27) rfl rfl hr) ?_
    show Go p.tables e below _ (T2.setTop (mkF m 28 #[.val (.ref a1), .val (.int p2), .val (.int p3), .val (.int (zn >>> (cd &&& 31))), .val (.int (p3 - p2))] [(.ref a1)]))
    obtain ⟨cq11, kq11, q11a, q11b, q11c⟩ := isOf hZ ee2 E1
    obtain ⟨_, _, ⟨T11, L11, k11, n11⟩, -, X11, ⟨Lc11, hQ11, l11, y11, z11⟩, st11⟩ := X2.virtualBack hx (y := (⟨"java/lang/String", "isLatin1", "()Z"⟩ : MethodName)) (z := (⟨"java/lang/String", "isLatin1", "()Z"⟩ : MethodName)) hown (mvT hZ (hw _ (List.mem_of_getElem? (i := 60) rfl))) (mvT hZ (hw _ (List.mem_of_getElem? (i := 61) rfl))) (notFace_of_selects (args := #[]) (mvT hZ (hw _ (List.mem_of_getElem? (i := 63) rfl)))) (mvT hZ (hw _ (List.mem_of_getElem? (i := 63) rfl))) (mvT hZ (hw _ (List.mem_of_getElem? (i := 62) rfl))) (by decide) (backOf (W := 0) (rm13 l Z a0 hw [] a1 wc sf va kb cd zn ys cs h0 n0 Z0 ⟨S1, hwc, S2, S3, S4, S5⟩ ⟨E1, F1, F2, V1, hz, hen, h5⟩) hZ (hw _ (List.mem_of_getElem? (i := 64) rfl)) (hw _ (List.mem_of_getElem? (i := 11) rfl)) (by decide) (by decide)) q11a q11c (g := (mkF m 28 #[.val (.ref a1), .val (.int p2), .val (.int p3), .val (.int (zn >>> (cd &&& 31))), .val (.int (p3 - p2))] [(.ref a1)])) rfl (by rw [hml]; rfl) (Steps.refl _) (argsL := []) (rest := []) (lenOf pd_9 rfl) rfl (by show 2 * 0 + _ ≤ _; exact Nat.le_of_eq rfl) (hb hby d18_28) (fun _ _ => ⟨rfl, ee2, (by decide : 0 + 0 ≤ _), (by decide : 0 + 0 ≤ _)⟩)
    dsimp only [Pt.U, Pt.locs, Pt.cells, Pt.slots] at X11 l11 y11 z11 st11 hQ11
    subst l11 y11 z11
    obtain ⟨rfl, Nq11, ee11⟩ := hQ11
    have N11 := Fr.app N2 Nq11
    refine Go.tr st11 ?_
    show Go p.tables e below _ (T11.setTop (mkF m 31 #[.val (.ref a1), .val (.int p2), .val (.int p3), .val (.int (zn >>> (cd &&& 31))), .val (.int (p3 - p2))] [(.int (if cd = 0 then (1 : Int32) else 0))]))
    by_cases hc31_12 : (if cd = 0 then (1 : Int32) else 0) = (0 : Int32)
    · refine Go.st (fun U hr => XS.ifYes X11.here hx rfl (pc0 := 31) (pc' := 47) rfl (hb hby d18_31) rfl ((if0 _ _).trans (teq hc31_12).1) (by decide) (by decide) hr) ?_
      show Go p.tables e below _ (T11.setTop (mkF m 47 #[.val (.ref a1), .val (.int p2), .val (.int p3), .val (.int (zn >>> (cd &&& 31))), .val (.int (p3 - p2))] []))
      have hcd1 : cd = 1 := hen.cd.resolve_left (fun q => by
        have z := hc31_12
        rw [if_pos q] at z; exact absurd z (by decide))
      subst hcd1
      show Go p.tables e below _ (T11.setTop (mkF m 47 #[.val (.ref a1), .val (.int p2), .val (.int p3), .val (.int (zn >>> ((1 : Int32) &&& 31))), .val (.int (p3 - p2))] []))
      refine Go.st (fun U hr => XS.aloadN X11.here hx rfl (hb hby d18_47) rfl rfl hr) ?_
      show Go p.tables e below _ (T11.setTop (mkF m 48 #[.val (.ref a1), .val (.int p2), .val (.int p3), .val (.int (zn >>> ((1 : Int32) &&& 31))), .val (.int (p3 - p2))] [(.ref a1)]))
      obtain ⟨T13, X13, e13, st13⟩ := getF X11 hx hZ hown (host := "") (Or.inl (hw _ (List.mem_of_getElem? (i := 36) rfl))) Via.refl ee11 F1 (g := (mkF m 48 #[.val (.ref a1), .val (.int p2), .val (.int p3), .val (.int (zn >>> ((1 : Int32) &&& 31))), .val (.int (p3 - p2))] [(.ref a1)])) rfl rfl (hb hby d18_48)
      refine Go.st st13 ?_
      show Go p.tables e below _ (T13.setTop (mkF m 51 #[.val (.ref a1), .val (.int p2), .val (.int p3), .val (.int (zn >>> ((1 : Int32) &&& 31))), .val (.int (p3 - p2))] [(.ref va)]))
      refine Go.st (fun U hr => XS.iloadN X13.here hx rfl (hb hby d18_51) rfl hr) ?_
      show Go p.tables e below _ (T13.setTop (mkF m 52 #[.val (.ref a1), .val (.int p2), .val (.int p3), .val (.int (zn >>> ((1 : Int32) &&& 31))), .val (.int (p3 - p2))] [(.int p2), (.ref va)]))
      refine Go.st (fun U hr => XS.iload X13.here hx rfl (hb hby d18_52) rfl hr) ?_
      show Go p.tables e below _ (T13.setTop (mkF m 54 #[.val (.ref a1), .val (.int p2), .val (.int p3), .val (.int (zn >>> ((1 : Int32) &&& 31))), .val (.int (p3 - p2))] [(.int (p3 - p2)), (.int p2), (.ref va)]))
      obtain ⟨_, _, ⟨T14, L14, k14, n14⟩, -, X14, ⟨Lc14, hQ14, l14, y14, z14⟩, st14⟩ := Jvm.LawKit.callS X13 hx (y := (⟨"java/lang/StringUTF16", "newString", "([BII)Ljava/lang/String;"⟩ : MethodName)) hown (mvT hZ (hw _ (List.mem_of_getElem? (i := 145) rfl))) (mvT hZ (hw _ (List.mem_of_getElem? (i := 146) rfl))) (mvT hZ (hw _ (List.mem_of_getElem? (i := 25) rfl))) (mvT hZ (hw _ (List.mem_of_getElem? (i := 147) rfl))) (by decide) (backOf (W := 0) (rm35 l Z a0 hw [] va p2 (p3 - p2) wc sf kb zn ys cs b n h0 n0 Z0 ⟨S1, hwc, S2, S3, S4, S5⟩ V1 hz hl2 hen hb0 hd0 hbn h5 hnot hpos') hZ (hw _ (List.mem_of_getElem? (i := 147) rfl)) (hw _ (List.mem_of_getElem? (i := 25) rfl)) (by decide) (by decide)) (g := (mkF m 54 #[.val (.ref a1), .val (.int p2), .val (.int p3), .val (.int (zn >>> ((1 : Int32) &&& 31))), .val (.int (p3 - p2))] [(.int (p3 - p2)), (.int p2), (.ref va)])) rfl (by rw [hml]; rfl) (argsL := [(.ref va), (.int p2), (.int (p3 - p2))]) (rest := []) (lenOf pd_25 rfl) rfl (by show 2 * 0 + _ ≤ _; exact Nat.le_of_eq rfl) (hb hby d18_54) (fun _ _ => ⟨rfl, e13, (by decide : 0 + 3 ≤ _), (by decide : 0 + 19 ≤ _)⟩)
      dsimp only [Pt.U, Pt.locs, Pt.cells, Pt.slots] at X14 l14 y14 z14 st14 hQ14
      subst l14 y14 z14
      obtain ⟨r14, rfl, Nq14, Kq14, Sq14⟩ := hQ14
      have N14 := Fr.app N11 Nq14
      refine Go.st st14 ?_
      show Go p.tables e below _ (T14.setTop (mkF m 57 #[.val (.ref a1), .val (.int p2), .val (.int p3), .val (.int (zn >>> ((1 : Int32) &&& 31))), .val (.int (p3 - p2))] [(.ref r14)]))
      exact own_retO X14 hx Bd.notSynchronized (t := (.object "java/lang/String")) Bd.returns rfl (Or.inr (Or.inr (Or.inr (Or.inr ⟨rfl, rfl, rfl⟩)))) (hb hby d18_57) ⟨_, rfl, N14, Kq14, Sq14⟩ (by decide) (by decide)
    · refine Go.st (fun U hr => XS.ifNo X11.here hx rfl (hb hby d18_31) rfl ((if0 _ _).trans (feq hc31_12).1) hr) ?_
      show Go p.tables e below _ (T11.setTop (mkF m 34 #[.val (.ref a1), .val (.int p2), .val (.int p3), .val (.int (zn >>> (cd &&& 31))), .val (.int (p3 - p2))] []))
      have hcd0 : cd = 0 := by
        apply Classical.byContradiction; intro q; exact hc31_12 (if_neg q)
      subst hcd0
      show Go p.tables e below _ (T11.setTop (mkF m 34 #[.val (.ref a1), .val (.int p2), .val (.int p3), .val (.int (zn >>> ((0 : Int32) &&& 31))), .val (.int (p3 - p2))] []))
      refine Go.st (fun U hr => XS.aloadN X11.here hx rfl (hb hby d18_34) rfl rfl hr) ?_
      show Go p.tables e below _ (T11.setTop (mkF m 35 #[.val (.ref a1), .val (.int p2), .val (.int p3), .val (.int (zn >>> ((0 : Int32) &&& 31))), .val (.int (p3 - p2))] [(.ref a1)]))
      obtain ⟨T15, X15, e15, st15⟩ := getF X11 hx hZ hown (host := "") (Or.inl (hw _ (List.mem_of_getElem? (i := 36) rfl))) Via.refl ee11 F1 (g := (mkF m 35 #[.val (.ref a1), .val (.int p2), .val (.int p3), .val (.int (zn >>> ((0 : Int32) &&& 31))), .val (.int (p3 - p2))] [(.ref a1)])) rfl rfl (hb hby d18_35)
      refine Go.st st15 ?_
      show Go p.tables e below _ (T15.setTop (mkF m 38 #[.val (.ref a1), .val (.int p2), .val (.int p3), .val (.int (zn >>> ((0 : Int32) &&& 31))), .val (.int (p3 - p2))] [(.ref va)]))
      refine Go.st (fun U hr => XS.iloadN X15.here hx rfl (hb hby d18_38) rfl hr) ?_
      show Go p.tables e below _ (T15.setTop (mkF m 39 #[.val (.ref a1), .val (.int p2), .val (.int p3), .val (.int (zn >>> ((0 : Int32) &&& 31))), .val (.int (p3 - p2))] [(.int p2), (.ref va)]))
      refine Go.st (fun U hr => XS.iload X15.here hx rfl (hb hby d18_39) rfl hr) ?_
      show Go p.tables e below _ (T15.setTop (mkF m 41 #[.val (.ref a1), .val (.int p2), .val (.int p3), .val (.int (zn >>> ((0 : Int32) &&& 31))), .val (.int (p3 - p2))] [(.int (p3 - p2)), (.int p2), (.ref va)]))
      obtain ⟨_, _, ⟨T16, L16, k16, n16⟩, -, X16, ⟨Lc16, hQ16, l16, y16, z16⟩, st16⟩ := Jvm.LawKit.callS X15 hx (y := (⟨"java/lang/StringLatin1", "newString", "([BII)Ljava/lang/String;"⟩ : MethodName)) hown (mvT hZ (hw _ (List.mem_of_getElem? (i := 92) rfl))) (mvT hZ (hw _ (List.mem_of_getElem? (i := 93) rfl))) (mvT hZ (hw _ (List.mem_of_getElem? (i := 67) rfl))) (mvT hZ (hw _ (List.mem_of_getElem? (i := 94) rfl))) (by decide) (backOf (W := 0) (rm21 l Z a0 hw [] va p2 (p3 - p2) kb zn ys cs b n h0 n0 Z0 V1 hz hl2 hen hb0 hd0 hbn h5 hnot hpos') hZ (hw _ (List.mem_of_getElem? (i := 94) rfl)) (hw _ (List.mem_of_getElem? (i := 67) rfl)) (by decide) (by decide)) (g := (mkF m 41 #[.val (.ref a1), .val (.int p2), .val (.int p3), .val (.int (zn >>> ((0 : Int32) &&& 31))), .val (.int (p3 - p2))] [(.int (p3 - p2)), (.int p2), (.ref va)])) rfl (by rw [hml]; rfl) (argsL := [(.ref va), (.int p2), (.int (p3 - p2))]) (rest := []) (lenOf pd_25 rfl) rfl (by show 2 * 0 + _ ≤ _; exact Nat.le_of_eq rfl) (hb hby d18_41) (fun _ _ => ⟨rfl, e15, (by decide : 0 + 2 ≤ _), (by decide : 0 + 14 ≤ _)⟩)
      dsimp only [Pt.U, Pt.locs, Pt.cells, Pt.slots] at X16 l16 y16 z16 st16 hQ16
      subst l16 y16 z16
      obtain ⟨r16, rfl, Nq16, Kq16, Sq16⟩ := hQ16
      have N16 := Fr.app N11 Nq16
      refine Go.st st16 ?_
      show Go p.tables e below _ (T16.setTop (mkF m 44 #[.val (.ref a1), .val (.int p2), .val (.int p3), .val (.int (zn >>> ((0 : Int32) &&& 31))), .val (.int (p3 - p2))] [(.ref r16)]))
      refine Go.st (fun U hr => XS.goto X16.here hx rfl (pc0 := 44) (pc' := 57) rfl (hb hby d18_44) (by decide) (by decide) hr) ?_
      show Go p.tables e below _ (T16.setTop (mkF m 57 #[.val (.ref a1), .val (.int p2), .val (.int p3), .val (.int (zn >>> ((0 : Int32) &&& 31))), .val (.int (p3 - p2))] [(.ref r16)]))
      exact own_retO X16 hx Bd.notSynchronized (t := (.object "java/lang/String")) Bd.returns rfl (Or.inr (Or.inr (Or.inr (Or.inr ⟨rfl, rfl, rfl⟩)))) (hb hby d18_57) ⟨_, rfl, N16, Kq16, Sq16⟩ (by decide) (by decide)
theorem own_m1 {p : Int32} {n : Nat} (h : p.toInt = ((n + 1 : Nat) : Int)) : (p - (1 : Int32)).toInt = n ∧ (p + (-1 : Int32)).toInt = n := by
  have h1 := c_isub p 1
  rw [show (1 : Int32).toInt = 1 from by decide] at h1
  have h2 := c_iadd p (-1)
  rw [show (-1 : Int32).toInt = -1 from by decide] at h2
  have r1 := rng32 (p - 1)
  have r2 := rng32 (p + -1)
  have r3 := rng32 p
  omega
/-- cs is white up to b, then n signs that begin and end with one that isn't white, then white -/
def own_mid (cs : List Int32) (b n : Nat) : Prop := b + n ≤ cs.length ∧ (∀ i, i < b → own_is (own_c cs i) = 1) ∧ (∀ i, b + n ≤ i → i < cs.length → own_is (own_c cs i) = 1) ∧ (0 < n → own_is (own_c cs b) = 0 ∧ own_is (own_c cs (b + n - 1)) = 0)
/-- a def: omega must not see the two cases -/
def own_posn (cs : List Int32) (b n : Nat) : Prop := 0 < n ∨ (b = 0 ∧ n = cs.length)
theorem own_posn_lt {cs : List Int32} {b n : Nat} (h : own_posn cs b n) (q : b < cs.length) : 0 < n := by unfold own_posn at h; omega
/-- small facts of the second loop, each alone: omega over the whole context runs away -/
theorem own_l1 {sb ei : Int32} {b n k e : Nat} (h1 : sb.toInt = b) (h2 : ei.toInt = ((e + 1 : Nat) : Int)) (h3 : k + 1 + (b + n) = e + 1) : sb < ei := by rw [own_lt32]; omega
theorem own_l2 {e b n c : Nat} (ee : e = b + n) (h : 0 < n) (he : e ≤ c) : e - 1 < c := by omega
theorem own_l3 {e b n k : Nat} (hk : k + 1 + (b + n) = e + 1) : b + n ≤ e := by omega
theorem own_l4 {e b n k : Nat} (hk : k + 1 + (b + n) = e + 1) : k + (b + n) = e := by omega
theorem own_l5 {sb ei : Int32} {b n e : Nat} (h : sb < ei) (h1 : sb.toInt = b) (h2 : ei.toInt = e) (h3 : e = b + n) : 0 < n := by rw [own_lt32] at h; omega
theorem own_l6 {ei : Int32} {b n e : Nat} (h2 : ei.toInt = e) (h3 : e = b + n) (h : 0 < n) : ei.toInt = ((e - 1 + 1 : Nat) : Int) := by omega
theorem own_l7 {e b n k : Nat} (hk : k + 1 + (b + n) = e) : ∃ z, e = z + 1 := ⟨k + (b + n), by omega⟩
theorem own_is01 {x : Int32} (h : own_is x = 1) : ¬ own_is x = 0 := fun q => by rw [h] at q; exact absurd q (by decide)

theorem d9_0 : decode prog_65_method_3_code 0 = .ok (.iconst 0, 1) := by decide +kernel
theorem d9_1 : decode prog_65_method_3_code 1 = .ok (.istore_n 1, 1) := by decide +kernel
theorem d9_2 : decode prog_65_method_3_code 2 = .ok (.aload_n 0, 1) := by decide +kernel
theorem d9_3 : decode prog_65_method_3_code 3 = .ok (.invokevirtual 7, 3) := by decide +kernel
theorem d9_6 : decode prog_65_method_3_code 6 = .ok (.istore_n 2, 1) := by decide +kernel
theorem d9_7 : decode prog_65_method_3_code 7 = .ok (.iload_n 1, 1) := by decide +kernel
theorem d9_8 : decode prog_65_method_3_code 8 = .ok (.iload_n 2, 1) := by decide +kernel
theorem d9_9 : decode prog_65_method_3_code 9 = .ok (.if_icmp .ge 20, 3) := by decide +kernel
theorem d9_12 : decode prog_65_method_3_code 12 = .ok (.aload_n 0, 1) := by decide +kernel
theorem d9_13 : decode prog_65_method_3_code 13 = .ok (.iload_n 1, 1) := by decide +kernel
theorem d9_14 : decode prog_65_method_3_code 14 = .ok (.invokevirtual 13, 3) := by decide +kernel
theorem d9_17 : decode prog_65_method_3_code 17 = .ok (.invokestatic 17, 3) := by decide +kernel
theorem d9_20 : decode prog_65_method_3_code 20 = .ok (.ifCond .eq 9, 3) := by decide +kernel
theorem d9_23 : decode prog_65_method_3_code 23 = .ok (.iinc 1 1, 3) := by decide +kernel
theorem d9_26 : decode prog_65_method_3_code 26 = .ok (.goto (-19), 3) := by decide +kernel
theorem d9_29 : decode prog_65_method_3_code 29 = .ok (.iload_n 2, 1) := by decide +kernel
theorem d9_30 : decode prog_65_method_3_code 30 = .ok (.iload_n 1, 1) := by decide +kernel
theorem d9_31 : decode prog_65_method_3_code 31 = .ok (.if_icmp .le 22, 3) := by decide +kernel
theorem d9_34 : decode prog_65_method_3_code 34 = .ok (.aload_n 0, 1) := by decide +kernel
theorem d9_35 : decode prog_65_method_3_code 35 = .ok (.iload_n 2, 1) := by decide +kernel
theorem d9_36 : decode prog_65_method_3_code 36 = .ok (.iconst 1, 1) := by decide +kernel
theorem d9_37 : decode prog_65_method_3_code 37 = .ok (.isub, 1) := by decide +kernel
theorem d9_38 : decode prog_65_method_3_code 38 = .ok (.invokevirtual 13, 3) := by decide +kernel
theorem d9_41 : decode prog_65_method_3_code 41 = .ok (.invokestatic 17, 3) := by decide +kernel
theorem d9_44 : decode prog_65_method_3_code 44 = .ok (.ifCond .eq 9, 3) := by decide +kernel
theorem d9_47 : decode prog_65_method_3_code 47 = .ok (.iinc 2 (-1), 3) := by decide +kernel
theorem d9_50 : decode prog_65_method_3_code 50 = .ok (.goto (-21), 3) := by decide +kernel
theorem d9_53 : decode prog_65_method_3_code 53 = .ok (.aload_n 0, 1) := by decide +kernel
theorem d9_54 : decode prog_65_method_3_code 54 = .ok (.iload_n 1, 1) := by decide +kernel
theorem d9_55 : decode prog_65_method_3_code 55 = .ok (.iload_n 2, 1) := by decide +kernel
theorem d9_56 : decode prog_65_method_3_code 56 = .ok (.invokevirtual 23, 3) := by decide +kernel
theorem d9_59 : decode prog_65_method_3_code 59 = .ok (.areturn, 1) := by decide +kernel
theorem pn_9 : plainFor (⟨"adjunct/core/XmlSpace", "strip", "(Ljava/lang/String;)Ljava/lang/String;"⟩ : MethodName) = true := plainFor_of_name (by first | (simp [plainName, overriddenIn]; done) | decide +kernel)
theorem ef_9 (m : MethodId) (x0 : Addr) : entryFrame m #[(.ref x0)] 3 = mkF m 0 #[.val (.ref x0), .unset, .unset] [] := by first | (simp [entryFrame, mkF, argsToLocals, Value.category]; done) | rfl
theorem pd_26 : parseMethodDescriptor "(II)Ljava/lang/String;" = some ⟨[.int, .int], some (.object "java/lang/String")⟩ := by decide +kernel
def Qstrip (Z : State) (a1 : Addr) (wc : Int32) (sf : Option Addr) (va : Addr) (kb : ClassId) (cd : Int32) (zn : Int32) (ys : List Int32) (cs : List Int32) (b : Nat) (n : Nat) (h0 : Heap) (n0 : Nat) (v : Option Value) (h : Heap) (L : List Loc) : Prop := ∃ r : Addr, v = some (.ref r) ∧ Fr n0 L ∧ Keep h0 h [] ∧ ∃ (va : Addr) (kb : ClassId) (cd zn : Int32) (ys : List Int32), own_Str Z h r va kb cd zn ys (own_sl cs b n)
set_option maxRecDepth 65536 in
set_option maxHeartbeats 40000000 in
theorem rmstrip (l : Launch) (Z : State) (a0 : Array Value) (hw : ∀ d ∈ tables_1, d.before a0 Z = true) (ws : List Jvm.Cond) (a1 : Addr) (wc : Int32) (sf : Option Addr) (va : Addr) (kb : ClassId) (cd : Int32) (zn : Int32) (ys : List Int32) (cs : List Int32) (b : Nat) (n : Nat) (h0 : Heap) (n0 : Nat) (Z0 : n0 ≤ h0.size) (hS : own_Sts Z h0 wc sf) (hT : own_Str Z h0 a1 va kb cd zn ys cs) (hmid : own_mid cs b n) (hpos : own_posn cs b n) :
    MetFree l (⟨"adjunct/core/XmlSpace", "strip", "(Ljava/lang/String;)Ljava/lang/String;"⟩ : MethodName) (head1 (Jvm.Cond.code (⟨"adjunct/core/XmlSpace", "strip", "(Ljava/lang/String;)Ljava/lang/String;"⟩ : MethodName) prog_65_method_3_code 3 (some (.object "java/lang/String")) :: ws) ({ frames := 9, cells := 3, slots := 19, locals := 191 } : Room)) (fun a U => a = #[(.ref a1)] ∧ Z.Warmed39 U.vm ∧ U.heap = h0) (fun _ _ _ _ _ => True) (fun _ U o U' => ∃ v L, o = .returned v ∧ Qstrip Z a1 wc sf va kb cd zn ys cs b n h0 n0 v U'.heap L ∧ FrameEnd U o U' L ({ frames := 9, cells := 3, slots := 19, locals := 191 } : Room).cells ({ frames := 9, cells := 3, slots := 19, locals := 191 } : Room).slots) := by
  refine MetFree.of_bodySF pn_9 hisR ?_
  intro p e s m args below meth c s₁ Bd hml0 hP hK
  obtain ⟨rfl, hZ, hh⟩ := hP
  have hx := Bd.exec
  have hby := Bd.bytes
  have hml : c.maxLocals = 3 := hml0
  have hown : s.vm.findClass "adjunct/core/XmlSpace" = some m.cls := findClass_of_methodNamed Bd.named
  have hnm := (name_of_methodNamed Bd.named Bd.method).1
  have X0 : Stand p l e ({ frames := 9, cells := 3, slots := 19, locals := 191 } : Room) s m #[(.ref a1)] below meth c s₁ [] 0 0 := Stand.of_body Bd
  have e0 : s₁.heap = h0 := by rw [← hh, Bd.state]; rfl
  have N0 := Fr.nil n0
  refine own_start (Q := Qstrip Z a1 wc sf va kb cd zn ys cs b n h0 n0) (own_cast (ef_9 m a1) ?_)
  obtain ⟨S1, hwc, S2, S3, S4, S5⟩ := id hS
  obtain ⟨E1, F1, F2, V1, hz, hen, h5⟩ := id hT
  have hl2 : ys.length ≤ 100 := by rcases hen.2 with ⟨_, q, _⟩ | ⟨_, q, _⟩ <;> omega
  have hln := own_len hen hz
  have hbn := hmid.1
  show Go p.tables e below _ (s₁.setTop (mkF m 0 #[.val (.ref a1), .unset, .unset] []))
  refine Go.st (fun U hr => XS.iconst X0.here hx rfl (hb hby d9_0) hr) ?_
  show Go p.tables e below _ (s₁.setTop (mkF m 1 #[.val (.ref a1), .unset, .unset] [(.int (0 : Int32))]))
  refine Go.st (fun U hr => XS.istoreN X0.here hx rfl (hb hby d9_1) rfl (l' := #[.val (.ref a1), .val (.int (0 : Int32)), .unset]) rfl hr) ?_
  show Go p.tables e below _ (s₁.setTop (mkF m 2 #[.val (.ref a1), .val (.int (0 : Int32)), .unset] []))
  refine Go.st (fun U hr => XS.aloadN X0.here hx rfl (hb hby d9_2) rfl rfl hr) ?_
  show Go p.tables e below _ (s₁.setTop (mkF m 3 #[.val (.ref a1), .val (.int (0 : Int32)), .unset] [(.ref a1)]))
  obtain ⟨cq1, kq1, q1a, q1b, q1c⟩ := isOf hZ e0 E1
  obtain ⟨_, _, ⟨T1, L1, k1, n1⟩, -, X1, ⟨Lc1, hQ1, l1, y1, z1⟩, st1⟩ := X0.virtualBack hx (y := (⟨"java/lang/String", "length", "()I"⟩ : MethodName)) (z := (⟨"java/lang/String", "length", "()I"⟩ : MethodName)) hown (mvT hZ (hw _ (List.mem_of_getElem? (i := 45) rfl))) (mvT hZ (hw _ (List.mem_of_getElem? (i := 46) rfl))) (notFace_of_selects (args := #[]) (mvT hZ (hw _ (List.mem_of_getElem? (i := 48) rfl)))) (mvT hZ (hw _ (List.mem_of_getElem? (i := 48) rfl))) (mvT hZ (hw _ (List.mem_of_getElem? (i := 47) rfl))) (by decide) (backOf (W := 0) (rm10 l Z a0 hw [] a1 wc sf va kb cd zn ys cs h0 n0 Z0 ⟨S1, hwc, S2, S3, S4, S5⟩ ⟨E1, F1, F2, V1, hz, hen, h5⟩) hZ (hw _ (List.mem_of_getElem? (i := 49) rfl)) (hw _ (List.mem_of_getElem? (i := 11) rfl)) (by decide) (by decide)) q1a q1c (g := (mkF m 3 #[.val (.ref a1), .val (.int (0 : Int32)), .unset] [(.ref a1)])) rfl (by rw [hml]; rfl) (Steps.refl _) (argsL := []) (rest := []) (lenOf pd_23 rfl) rfl (by show 2 * 0 + _ ≤ _; exact Nat.le_of_eq rfl) (hb hby d9_3) (fun _ _ => ⟨rfl, e0, (by decide : 0 + 0 ≤ _), (by decide : 0 + 0 ≤ _)⟩)
  dsimp only [Pt.U, Pt.locs, Pt.cells, Pt.slots] at X1 l1 y1 z1 st1 hQ1
  subst l1 y1 z1
  obtain ⟨rfl, Nq1, ee1⟩ := hQ1
  have N1 := Fr.app N0 Nq1
  refine Go.tr st1 ?_
  show Go p.tables e below _ (T1.setTop (mkF m 6 #[.val (.ref a1), .val (.int (0 : Int32)), .unset] [(.int (zn >>> (cd &&& 31)))]))
  refine Go.st (fun U hr => XS.istoreN X1.here hx rfl (hb hby d9_6) rfl (l' := #[.val (.ref a1), .val (.int (0 : Int32)), .val (.int (zn >>> (cd &&& 31)))]) rfl hr) ?_
  show Go p.tables e below _ (T1.setTop (mkF m 7 #[.val (.ref a1), .val (.int (0 : Int32)), .val (.int (zn >>> (cd &&& 31)))] []))
  have loop2 : ∀ (k e2 : Nat) (sb ei : Int32) (Tl : State) (lo : List Loc), k + (b + n) = e2 → e2 ≤ cs.length → sb.toInt = b → ei.toInt = e2 → (Stand p l e ({ frames := 9, cells := 3, slots := 19, locals := 191 } : Room) s m #[(.ref a1)] below meth c Tl lo 0 0) → Tl.heap = h0 → Fr n0 lo → Go p.tables e below (own_Fin s below ({ frames := 9, cells := 3, slots := 19, locals := 191 } : Room).cells ({ frames := 9, cells := 3, slots := 19, locals := 191 } : Room).slots (Qstrip Z a1 wc sf va kb cd zn ys cs b n h0 n0)) (Tl.setTop (mkF m 29 #[.val (.ref a1), .val (.int sb), .val (.int ei)] [])) := by
    intro k
    induction k with
    | zero =>
      intro e2 sb ei Tl lo hk he2 hsb hei Xl el Nl
      have ee : e2 = b + n := hk.symm.trans (Nat.zero_add _)
      refine Go.st (fun U hr => XS.iloadN Xl.here hx rfl (hb hby d9_29) rfl hr) ?_
      show Go p.tables e below _ (Tl.setTop (mkF m 30 #[.val (.ref a1), .val (.int sb), .val (.int ei)] [(.int ei)]))
      refine Go.st (fun U hr => XS.iloadN Xl.here hx rfl (hb hby d9_30) rfl hr) ?_
      show Go p.tables e below _ (Tl.setTop (mkF m 31 #[.val (.ref a1), .val (.int sb), .val (.int ei)] [(.int sb), (.int ei)]))
      by_cases hc31_2 : sb < ei
      · refine Go.st (fun U hr => XS.icmpNo Xl.here hx rfl (hb hby d9_31) rfl (tlt hc31_2).2.2.2 hr) ?_
        show Go p.tables e below _ (Tl.setTop (mkF m 34 #[.val (.ref a1), .val (.int sb), .val (.int ei)] []))
        have hn1 : 0 < n := own_l5 hc31_2 hsb hei ee
        have hm := own_m1 (p := ei) (n := e2 - 1) (own_l6 hei ee hn1)
        refine Go.st (fun U hr => XS.aloadN Xl.here hx rfl (hb hby d9_34) rfl rfl hr) ?_
        show Go p.tables e below _ (Tl.setTop (mkF m 35 #[.val (.ref a1), .val (.int sb), .val (.int ei)] [(.ref a1)]))
        refine Go.st (fun U hr => XS.iloadN Xl.here hx rfl (hb hby d9_35) rfl hr) ?_
        show Go p.tables e below _ (Tl.setTop (mkF m 36 #[.val (.ref a1), .val (.int sb), .val (.int ei)] [(.int ei), (.ref a1)]))
        refine Go.st (fun U hr => XS.iconst Xl.here hx rfl (hb hby d9_36) hr) ?_
        show Go p.tables e below _ (Tl.setTop (mkF m 37 #[.val (.ref a1), .val (.int sb), .val (.int ei)] [(.int (1 : Int32)), (.int ei), (.ref a1)]))
        refine Go.st (fun U hr => XS.isub Xl.here hx rfl (hb hby d9_37) rfl hr) ?_
        show Go p.tables e below _ (Tl.setTop (mkF m 38 #[.val (.ref a1), .val (.int sb), .val (.int ei)] [(.int (ei - (1 : Int32))), (.ref a1)]))
        obtain ⟨cq3, kq3, q3a, q3b, q3c⟩ := isOf hZ el E1
        obtain ⟨_, _, ⟨T3, L3, k3, n3⟩, -, X3, ⟨Lc3, hQ3, l3, y3, z3⟩, st3⟩ := Xl.virtualBack hx (y := (⟨"java/lang/String", "charAt", "(I)C"⟩ : MethodName)) (z := (⟨"java/lang/String", "charAt", "(I)C"⟩ : MethodName)) hown (mvT hZ (hw _ (List.mem_of_getElem? (i := 55) rfl))) (mvT hZ (hw _ (List.mem_of_getElem? (i := 56) rfl))) (notFace_of_selects (args := #[]) (mvT hZ (hw _ (List.mem_of_getElem? (i := 58) rfl)))) (mvT hZ (hw _ (List.mem_of_getElem? (i := 58) rfl))) (mvT hZ (hw _ (List.mem_of_getElem? (i := 57) rfl))) (by decide) (backOf (W := 0) (rm12 l Z a0 hw [] a1 (ei - (1 : Int32)) wc sf va kb cd zn ys cs (e2 - 1) h0 n0 Z0 ⟨S1, hwc, S2, S3, S4, S5⟩ ⟨E1, F1, F2, V1, hz, hen, h5⟩ hm.1 (own_l2 ee hn1 he2)) hZ (hw _ (List.mem_of_getElem? (i := 59) rfl)) (hw _ (List.mem_of_getElem? (i := 11) rfl)) (by decide) (by decide)) q3a q3c (g := (mkF m 38 #[.val (.ref a1), .val (.int sb), .val (.int ei)] [(.int (ei - (1 : Int32))), (.ref a1)])) rfl (by rw [hml]; rfl) (Steps.refl _) (argsL := [(.int (ei - (1 : Int32)))]) (rest := []) (lenOf pd_1 rfl) rfl (by show 2 * 0 + _ ≤ _; exact Nat.le_of_eq rfl) (hb hby d9_38) (fun _ _ => ⟨rfl, el, (by decide : 0 + 0 ≤ _), (by decide : 0 + 0 ≤ _)⟩)
        dsimp only [Pt.U, Pt.locs, Pt.cells, Pt.slots] at X3 l3 y3 z3 st3 hQ3
        subst l3 y3 z3
        obtain ⟨rfl, Nq3, ee3⟩ := hQ3
        have N3 := Fr.app Nl Nq3
        refine Go.tr st3 ?_
        show Go p.tables e below _ (T3.setTop (mkF m 41 #[.val (.ref a1), .val (.int sb), .val (.int ei)] [(.int (own_c cs (e2 - 1)))]))
        obtain ⟨_, _, ⟨T4, L4, k4, n4⟩, -, X4, ⟨Lc4, hQ4, l4, y4, z4⟩, st4⟩ := Jvm.LawKit.callS X3 hx (y := (⟨"adjunct/core/XmlSpace", "is", "(C)Z"⟩ : MethodName)) hown (mvT hZ (hw _ (List.mem_of_getElem? (i := 77) rfl))) (mvT hZ (hw _ (List.mem_of_getElem? (i := 78) rfl))) (mvT hZ (hw _ (List.mem_of_getElem? (i := 43) rfl))) (mvT hZ (hw _ (List.mem_of_getElem? (i := 79) rfl))) (by decide) (backOf (W := 0) (rm17 l Z a0 hw [] (own_c cs (e2 - 1)) h0 n0 Z0) hZ (hw _ (List.mem_of_getElem? (i := 79) rfl)) (hw _ (List.mem_of_getElem? (i := 43) rfl)) (by decide) (by decide)) (g := (mkF m 41 #[.val (.ref a1), .val (.int sb), .val (.int ei)] [(.int (own_c cs (e2 - 1)))])) rfl (by rw [hml]; rfl) (argsL := [(.int (own_c cs (e2 - 1)))]) (rest := []) (lenOf pd_0 rfl) rfl (by show 2 * 0 + _ ≤ _; exact Nat.le_of_eq rfl) (hb hby d9_41) (fun _ _ => ⟨rfl, ee3, (by decide : 0 + 0 ≤ _), (by decide : 0 + 0 ≤ _)⟩)
        dsimp only [Pt.U, Pt.locs, Pt.cells, Pt.slots] at X4 l4 y4 z4 st4 hQ4
        subst l4 y4 z4
        obtain ⟨rfl, Nq4, ee4⟩ := hQ4
        have N4 := Fr.app N3 Nq4
        refine Go.st st4 ?_
        show Go p.tables e below _ (T4.setTop (mkF m 44 #[.val (.ref a1), .val (.int sb), .val (.int ei)] [(.int (own_is (own_c cs (e2 - 1))))]))
        have hc44_5 : (own_is (own_c cs (e2 - 1))) = (0 : Int32) := (by rw [ee]; exact (hmid.2.2.2 hn1).2)
        refine Go.st (fun U hr => XS.ifYes X4.here hx rfl (pc0 := 44) (pc' := 53) rfl (hb hby d9_44) rfl ((if0 _ _).trans (teq hc44_5).1) (by decide) (by decide) hr) ?_
        show Go p.tables e below _ (T4.setTop (mkF m 53 #[.val (.ref a1), .val (.int sb), .val (.int ei)] []))
        refine Go.st (fun U hr => XS.aloadN X4.here hx rfl (hb hby d9_53) rfl rfl hr) ?_
        show Go p.tables e below _ (T4.setTop (mkF m 54 #[.val (.ref a1), .val (.int sb), .val (.int ei)] [(.ref a1)]))
        refine Go.st (fun U hr => XS.iloadN X4.here hx rfl (hb hby d9_54) rfl hr) ?_
        show Go p.tables e below _ (T4.setTop (mkF m 55 #[.val (.ref a1), .val (.int sb), .val (.int ei)] [(.int sb), (.ref a1)]))
        refine Go.st (fun U hr => XS.iloadN X4.here hx rfl (hb hby d9_55) rfl hr) ?_
        show Go p.tables e below _ (T4.setTop (mkF m 56 #[.val (.ref a1), .val (.int sb), .val (.int ei)] [(.int ei), (.int sb), (.ref a1)]))
        obtain ⟨cq6, kq6, q6a, q6b, q6c⟩ := isOf hZ ee4 E1
        obtain ⟨_, _, ⟨T6, L6, k6, n6⟩, -, X6, ⟨Lc6, hQ6, l6, y6, z6⟩, st6⟩ := X4.virtualBack hx (y := (⟨"java/lang/String", "substring", "(II)Ljava/lang/String;"⟩ : MethodName)) (z := (⟨"java/lang/String", "substring", "(II)Ljava/lang/String;"⟩ : MethodName)) hown (mvT hZ (hw _ (List.mem_of_getElem? (i := 80) rfl))) (mvT hZ (hw _ (List.mem_of_getElem? (i := 81) rfl))) (notFace_of_selects (args := #[]) (mvT hZ (hw _ (List.mem_of_getElem? (i := 83) rfl)))) (mvT hZ (hw _ (List.mem_of_getElem? (i := 83) rfl))) (mvT hZ (hw _ (List.mem_of_getElem? (i := 82) rfl))) (by decide) (backOf (W := 0) (rm18 l Z a0 hw [] a1 sb ei wc sf va kb cd zn ys cs b n h0 n0 Z0 ⟨S1, hwc, S2, S3, S4, S5⟩ ⟨E1, F1, F2, V1, hz, hen, h5⟩ hsb (by rw [hei, ee]) hbn hpos) hZ (hw _ (List.mem_of_getElem? (i := 84) rfl)) (hw _ (List.mem_of_getElem? (i := 11) rfl)) (by decide) (by decide)) q6a q6c (g := (mkF m 56 #[.val (.ref a1), .val (.int sb), .val (.int ei)] [(.int ei), (.int sb), (.ref a1)])) rfl (by rw [hml]; rfl) (Steps.refl _) (argsL := [(.int sb), (.int ei)]) (rest := []) (lenOf pd_26 rfl) rfl (by show 2 * 0 + _ ≤ _; exact Nat.le_of_eq rfl) (hb hby d9_56) (fun _ _ => ⟨rfl, ee4, (by decide : 0 + 3 ≤ _), (by decide : 0 + 19 ≤ _)⟩)
        dsimp only [Pt.U, Pt.locs, Pt.cells, Pt.slots] at X6 l6 y6 z6 st6 hQ6
        subst l6 y6 z6
        obtain ⟨r6, rfl, Nq6, Kq6, Sq6⟩ := hQ6
        have N6 := Fr.app N4 Nq6
        refine Go.tr st6 ?_
        show Go p.tables e below _ (T6.setTop (mkF m 59 #[.val (.ref a1), .val (.int sb), .val (.int ei)] [(.ref r6)]))
        exact own_retO X6 hx Bd.notSynchronized (t := (.object "java/lang/String")) Bd.returns rfl (Or.inr (Or.inr (Or.inr (Or.inr ⟨rfl, rfl, rfl⟩)))) (hb hby d9_59) ⟨_, rfl, N6, Kq6, Sq6⟩ (by decide) (by decide)
      · refine Go.st (fun U hr => XS.icmpYes Xl.here hx rfl (pc0 := 31) (pc' := 53) rfl (hb hby d9_31) rfl (flt hc31_2).2.2.2 (by decide) (by decide) hr) ?_
        show Go p.tables e below _ (Tl.setTop (mkF m 53 #[.val (.ref a1), .val (.int sb), .val (.int ei)] []))
        refine Go.st (fun U hr => XS.aloadN Xl.here hx rfl (hb hby d9_53) rfl rfl hr) ?_
        show Go p.tables e below _ (Tl.setTop (mkF m 54 #[.val (.ref a1), .val (.int sb), .val (.int ei)] [(.ref a1)]))
        refine Go.st (fun U hr => XS.iloadN Xl.here hx rfl (hb hby d9_54) rfl hr) ?_
        show Go p.tables e below _ (Tl.setTop (mkF m 55 #[.val (.ref a1), .val (.int sb), .val (.int ei)] [(.int sb), (.ref a1)]))
        refine Go.st (fun U hr => XS.iloadN Xl.here hx rfl (hb hby d9_55) rfl hr) ?_
        show Go p.tables e below _ (Tl.setTop (mkF m 56 #[.val (.ref a1), .val (.int sb), .val (.int ei)] [(.int ei), (.int sb), (.ref a1)]))
        obtain ⟨cq7, kq7, q7a, q7b, q7c⟩ := isOf hZ el E1
        obtain ⟨_, _, ⟨T7, L7, k7, n7⟩, -, X7, ⟨Lc7, hQ7, l7, y7, z7⟩, st7⟩ := Xl.virtualBack hx (y := (⟨"java/lang/String", "substring", "(II)Ljava/lang/String;"⟩ : MethodName)) (z := (⟨"java/lang/String", "substring", "(II)Ljava/lang/String;"⟩ : MethodName)) hown (mvT hZ (hw _ (List.mem_of_getElem? (i := 80) rfl))) (mvT hZ (hw _ (List.mem_of_getElem? (i := 81) rfl))) (notFace_of_selects (args := #[]) (mvT hZ (hw _ (List.mem_of_getElem? (i := 83) rfl)))) (mvT hZ (hw _ (List.mem_of_getElem? (i := 83) rfl))) (mvT hZ (hw _ (List.mem_of_getElem? (i := 82) rfl))) (by decide) (backOf (W := 0) (rm18 l Z a0 hw [] a1 sb ei wc sf va kb cd zn ys cs b n h0 n0 Z0 ⟨S1, hwc, S2, S3, S4, S5⟩ ⟨E1, F1, F2, V1, hz, hen, h5⟩ hsb (by rw [hei, ee]) hbn hpos) hZ (hw _ (List.mem_of_getElem? (i := 84) rfl)) (hw _ (List.mem_of_getElem? (i := 11) rfl)) (by decide) (by decide)) q7a q7c (g := (mkF m 56 #[.val (.ref a1), .val (.int sb), .val (.int ei)] [(.int ei), (.int sb), (.ref a1)])) rfl (by rw [hml]; rfl) (Steps.refl _) (argsL := [(.int sb), (.int ei)]) (rest := []) (lenOf pd_26 rfl) rfl (by show 2 * 0 + _ ≤ _; exact Nat.le_of_eq rfl) (hb hby d9_56) (fun _ _ => ⟨rfl, el, (by decide : 0 + 3 ≤ _), (by decide : 0 + 19 ≤ _)⟩)
        dsimp only [Pt.U, Pt.locs, Pt.cells, Pt.slots] at X7 l7 y7 z7 st7 hQ7
        subst l7 y7 z7
        obtain ⟨r7, rfl, Nq7, Kq7, Sq7⟩ := hQ7
        have N7 := Fr.app Nl Nq7
        refine Go.tr st7 ?_
        show Go p.tables e below _ (T7.setTop (mkF m 59 #[.val (.ref a1), .val (.int sb), .val (.int ei)] [(.ref r7)]))
        exact own_retO X7 hx Bd.notSynchronized (t := (.object "java/lang/String")) Bd.returns rfl (Or.inr (Or.inr (Or.inr (Or.inr ⟨rfl, rfl, rfl⟩)))) (hb hby d9_59) ⟨_, rfl, N7, Kq7, Sq7⟩ (by decide) (by decide)
    | succ k ih =>
      intro e2 sb ei Tl lo hk he2 hsb hei Xl el Nl
      obtain ⟨e2', rfl⟩ : ∃ z, e2 = z + 1 := own_l7 hk
      have hm := own_m1 hei
      refine Go.st (fun U hr => XS.iloadN Xl.here hx rfl (hb hby d9_29) rfl hr) ?_
      show Go p.tables e below _ (Tl.setTop (mkF m 30 #[.val (.ref a1), .val (.int sb), .val (.int ei)] [(.int ei)]))
      refine Go.st (fun U hr => XS.iloadN Xl.here hx rfl (hb hby d9_30) rfl hr) ?_
      show Go p.tables e below _ (Tl.setTop (mkF m 31 #[.val (.ref a1), .val (.int sb), .val (.int ei)] [(.int sb), (.int ei)]))
      have hc31_8 : sb < ei := own_l1 hsb hei hk
      refine Go.st (fun U hr => XS.icmpNo Xl.here hx rfl (hb hby d9_31) rfl (tlt hc31_8).2.2.2 hr) ?_
      show Go p.tables e below _ (Tl.setTop (mkF m 34 #[.val (.ref a1), .val (.int sb), .val (.int ei)] []))
      refine Go.st (fun U hr => XS.aloadN Xl.here hx rfl (hb hby d9_34) rfl rfl hr) ?_
      show Go p.tables e below _ (Tl.setTop (mkF m 35 #[.val (.ref a1), .val (.int sb), .val (.int ei)] [(.ref a1)]))
      refine Go.st (fun U hr => XS.iloadN Xl.here hx rfl (hb hby d9_35) rfl hr) ?_
      show Go p.tables e below _ (Tl.setTop (mkF m 36 #[.val (.ref a1), .val (.int sb), .val (.int ei)] [(.int ei), (.ref a1)]))
      refine Go.st (fun U hr => XS.iconst Xl.here hx rfl (hb hby d9_36) hr) ?_
      show Go p.tables e below _ (Tl.setTop (mkF m 37 #[.val (.ref a1), .val (.int sb), .val (.int ei)] [(.int (1 : Int32)), (.int ei), (.ref a1)]))
      refine Go.st (fun U hr => XS.isub Xl.here hx rfl (hb hby d9_37) rfl hr) ?_
      show Go p.tables e below _ (Tl.setTop (mkF m 38 #[.val (.ref a1), .val (.int sb), .val (.int ei)] [(.int (ei - (1 : Int32))), (.ref a1)]))
      obtain ⟨cq9, kq9, q9a, q9b, q9c⟩ := isOf hZ el E1
      obtain ⟨_, _, ⟨T9, L9, k9, n9⟩, -, X9, ⟨Lc9, hQ9, l9, y9, z9⟩, st9⟩ := Xl.virtualBack hx (y := (⟨"java/lang/String", "charAt", "(I)C"⟩ : MethodName)) (z := (⟨"java/lang/String", "charAt", "(I)C"⟩ : MethodName)) hown (mvT hZ (hw _ (List.mem_of_getElem? (i := 55) rfl))) (mvT hZ (hw _ (List.mem_of_getElem? (i := 56) rfl))) (notFace_of_selects (args := #[]) (mvT hZ (hw _ (List.mem_of_getElem? (i := 58) rfl)))) (mvT hZ (hw _ (List.mem_of_getElem? (i := 58) rfl))) (mvT hZ (hw _ (List.mem_of_getElem? (i := 57) rfl))) (by decide) (backOf (W := 0) (rm12 l Z a0 hw [] a1 (ei - (1 : Int32)) wc sf va kb cd zn ys cs e2' h0 n0 Z0 ⟨S1, hwc, S2, S3, S4, S5⟩ ⟨E1, F1, F2, V1, hz, hen, h5⟩ hm.1 he2) hZ (hw _ (List.mem_of_getElem? (i := 59) rfl)) (hw _ (List.mem_of_getElem? (i := 11) rfl)) (by decide) (by decide)) q9a q9c (g := (mkF m 38 #[.val (.ref a1), .val (.int sb), .val (.int ei)] [(.int (ei - (1 : Int32))), (.ref a1)])) rfl (by rw [hml]; rfl) (Steps.refl _) (argsL := [(.int (ei - (1 : Int32)))]) (rest := []) (lenOf pd_1 rfl) rfl (by show 2 * 0 + _ ≤ _; exact Nat.le_of_eq rfl) (hb hby d9_38) (fun _ _ => ⟨rfl, el, (by decide : 0 + 0 ≤ _), (by decide : 0 + 0 ≤ _)⟩)
      dsimp only [Pt.U, Pt.locs, Pt.cells, Pt.slots] at X9 l9 y9 z9 st9 hQ9
      subst l9 y9 z9
      obtain ⟨rfl, Nq9, ee9⟩ := hQ9
      have N9 := Fr.app Nl Nq9
      refine Go.tr st9 ?_
      show Go p.tables e below _ (T9.setTop (mkF m 41 #[.val (.ref a1), .val (.int sb), .val (.int ei)] [(.int (own_c cs e2'))]))
      obtain ⟨_, _, ⟨T10, L10, k10, n10⟩, -, X10, ⟨Lc10, hQ10, l10, y10, z10⟩, st10⟩ := Jvm.LawKit.callS X9 hx (y := (⟨"adjunct/core/XmlSpace", "is", "(C)Z"⟩ : MethodName)) hown (mvT hZ (hw _ (List.mem_of_getElem? (i := 77) rfl))) (mvT hZ (hw _ (List.mem_of_getElem? (i := 78) rfl))) (mvT hZ (hw _ (List.mem_of_getElem? (i := 43) rfl))) (mvT hZ (hw _ (List.mem_of_getElem? (i := 79) rfl))) (by decide) (backOf (W := 0) (rm17 l Z a0 hw [] (own_c cs e2') h0 n0 Z0) hZ (hw _ (List.mem_of_getElem? (i := 79) rfl)) (hw _ (List.mem_of_getElem? (i := 43) rfl)) (by decide) (by decide)) (g := (mkF m 41 #[.val (.ref a1), .val (.int sb), .val (.int ei)] [(.int (own_c cs e2'))])) rfl (by rw [hml]; rfl) (argsL := [(.int (own_c cs e2'))]) (rest := []) (lenOf pd_0 rfl) rfl (by show 2 * 0 + _ ≤ _; exact Nat.le_of_eq rfl) (hb hby d9_41) (fun _ _ => ⟨rfl, ee9, (by decide : 0 + 0 ≤ _), (by decide : 0 + 0 ≤ _)⟩)
      dsimp only [Pt.U, Pt.locs, Pt.cells, Pt.slots] at X10 l10 y10 z10 st10 hQ10
      subst l10 y10 z10
      obtain ⟨rfl, Nq10, ee10⟩ := hQ10
      have N10 := Fr.app N9 Nq10
      refine Go.st st10 ?_
      show Go p.tables e below _ (T10.setTop (mkF m 44 #[.val (.ref a1), .val (.int sb), .val (.int ei)] [(.int (own_is (own_c cs e2')))]))
      have hc44_11 : ¬ ((own_is (own_c cs e2')) = (0 : Int32)) := own_is01 (hmid.2.2.1 e2' (own_l3 hk) he2)
      refine Go.st (fun U hr => XS.ifNo X10.here hx rfl (hb hby d9_44) rfl ((if0 _ _).trans (feq hc44_11).1) hr) ?_
      show Go p.tables e below _ (T10.setTop (mkF m 47 #[.val (.ref a1), .val (.int sb), .val (.int ei)] []))
      refine Go.st (fun U hr => XS.iinc X10.here hx rfl (hb hby d9_47) rfl (l' := #[.val (.ref a1), .val (.int sb), .val (.int (ei + (-1 : Int32)))]) rfl hr) ?_
      show Go p.tables e below _ (T10.setTop (mkF m 50 #[.val (.ref a1), .val (.int sb), .val (.int (ei + (-1 : Int32)))] []))
      refine Go.st (fun U hr => XS.goto X10.here hx rfl (pc0 := 50) (pc' := 29) rfl (hb hby d9_50) (by decide) (by decide) hr) ?_
      show Go p.tables e below _ (T10.setTop (mkF m 29 #[.val (.ref a1), .val (.int sb), .val (.int (ei + (-1 : Int32)))] []))
      exact ih e2' _ _ T10 _ (own_l4 hk) (Nat.le_of_succ_le he2) hsb hm.2 X10 ee10 N10
  have loop1 : ∀ (k j : Nat) (si : Int32) (Tl : State) (lo : List Loc), k + j = b → si.toInt = j → (Stand p l e ({ frames := 9, cells := 3, slots := 19, locals := 191 } : Room) s m #[(.ref a1)] below meth c Tl lo 0 0) → Tl.heap = h0 → Fr n0 lo → Go p.tables e below (own_Fin s below ({ frames := 9, cells := 3, slots := 19, locals := 191 } : Room).cells ({ frames := 9, cells := 3, slots := 19, locals := 191 } : Room).slots (Qstrip Z a1 wc sf va kb cd zn ys cs b n h0 n0)) (Tl.setTop (mkF m 7 #[.val (.ref a1), .val (.int si), .val (.int (zn >>> (cd &&& 31)))] [])) := by
    intro k
    induction k with
    | zero =>
      intro j si Tl lo hk hsi Xl el Nl
      have ej : j = b := by omega
      refine Go.st (fun U hr => XS.iloadN Xl.here hx rfl (hb hby d9_7) rfl hr) ?_
      show Go p.tables e below _ (Tl.setTop (mkF m 8 #[.val (.ref a1), .val (.int si), .val (.int (zn >>> (cd &&& 31)))] [(.int si)]))
      refine Go.st (fun U hr => XS.iloadN Xl.here hx rfl (hb hby d9_8) rfl hr) ?_
      show Go p.tables e below _ (Tl.setTop (mkF m 9 #[.val (.ref a1), .val (.int si), .val (.int (zn >>> (cd &&& 31)))] [(.int (zn >>> (cd &&& 31))), (.int si)]))
      by_cases hc9_12 : si < (zn >>> (cd &&& 31))
      · refine Go.st (fun U hr => XS.icmpNo Xl.here hx rfl (hb hby d9_9) rfl (tlt hc9_12).2.1 hr) ?_
        show Go p.tables e below _ (Tl.setTop (mkF m 12 #[.val (.ref a1), .val (.int si), .val (.int (zn >>> (cd &&& 31)))] []))
        have hlt := hc9_12
        rw [own_lt32] at hlt
        have hn1 : 0 < n := own_posn_lt hpos (by omega)
        refine Go.st (fun U hr => XS.aloadN Xl.here hx rfl (hb hby d9_12) rfl rfl hr) ?_
        show Go p.tables e below _ (Tl.setTop (mkF m 13 #[.val (.ref a1), .val (.int si), .val (.int (zn >>> (cd &&& 31)))] [(.ref a1)]))
        refine Go.st (fun U hr => XS.iloadN Xl.here hx rfl (hb hby d9_13) rfl hr) ?_
        show Go p.tables e below _ (Tl.setTop (mkF m 14 #[.val (.ref a1), .val (.int si), .val (.int (zn >>> (cd &&& 31)))] [(.int si), (.ref a1)]))
        obtain ⟨cq13, kq13, q13a, q13b, q13c⟩ := isOf hZ el E1
        obtain ⟨_, _, ⟨T13, L13, k13, n13⟩, -, X13, ⟨Lc13, hQ13, l13, y13, z13⟩, st13⟩ := Xl.virtualBack hx (y := (⟨"java/lang/String", "charAt", "(I)C"⟩ : MethodName)) (z := (⟨"java/lang/String", "charAt", "(I)C"⟩ : MethodName)) hown (mvT hZ (hw _ (List.mem_of_getElem? (i := 55) rfl))) (mvT hZ (hw _ (List.mem_of_getElem? (i := 56) rfl))) (notFace_of_selects (args := #[]) (mvT hZ (hw _ (List.mem_of_getElem? (i := 58) rfl)))) (mvT hZ (hw _ (List.mem_of_getElem? (i := 58) rfl))) (mvT hZ (hw _ (List.mem_of_getElem? (i := 57) rfl))) (by decide) (backOf (W := 0) (rm12 l Z a0 hw [] a1 si wc sf va kb cd zn ys cs j h0 n0 Z0 ⟨S1, hwc, S2, S3, S4, S5⟩ ⟨E1, F1, F2, V1, hz, hen, h5⟩ hsi (by omega)) hZ (hw _ (List.mem_of_getElem? (i := 59) rfl)) (hw _ (List.mem_of_getElem? (i := 11) rfl)) (by decide) (by decide)) q13a q13c (g := (mkF m 14 #[.val (.ref a1), .val (.int si), .val (.int (zn >>> (cd &&& 31)))] [(.int si), (.ref a1)])) rfl (by rw [hml]; rfl) (Steps.refl _) (argsL := [(.int si)]) (rest := []) (lenOf pd_1 rfl) rfl (by show 2 * 0 + _ ≤ _; exact Nat.le_of_eq rfl) (hb hby d9_14) (fun _ _ => ⟨rfl, el, (by decide : 0 + 0 ≤ _), (by decide : 0 + 0 ≤ _)⟩)
        dsimp only [Pt.U, Pt.locs, Pt.cells, Pt.slots] at X13 l13 y13 z13 st13 hQ13
        subst l13 y13 z13
        obtain ⟨rfl, Nq13, ee13⟩ := hQ13
        have N13 := Fr.app Nl Nq13
        refine Go.tr st13 ?_
        show Go p.tables e below _ (T13.setTop (mkF m 17 #[.val (.ref a1), .val (.int si), .val (.int (zn >>> (cd &&& 31)))] [(.int (own_c cs j))]))
        obtain ⟨_, _, ⟨T14, L14, k14, n14⟩, -, X14, ⟨Lc14, hQ14, l14, y14, z14⟩, st14⟩ := Jvm.LawKit.callS X13 hx (y := (⟨"adjunct/core/XmlSpace", "is", "(C)Z"⟩ : MethodName)) hown (mvT hZ (hw _ (List.mem_of_getElem? (i := 77) rfl))) (mvT hZ (hw _ (List.mem_of_getElem? (i := 78) rfl))) (mvT hZ (hw _ (List.mem_of_getElem? (i := 43) rfl))) (mvT hZ (hw _ (List.mem_of_getElem? (i := 79) rfl))) (by decide) (backOf (W := 0) (rm17 l Z a0 hw [] (own_c cs j) h0 n0 Z0) hZ (hw _ (List.mem_of_getElem? (i := 79) rfl)) (hw _ (List.mem_of_getElem? (i := 43) rfl)) (by decide) (by decide)) (g := (mkF m 17 #[.val (.ref a1), .val (.int si), .val (.int (zn >>> (cd &&& 31)))] [(.int (own_c cs j))])) rfl (by rw [hml]; rfl) (argsL := [(.int (own_c cs j))]) (rest := []) (lenOf pd_0 rfl) rfl (by show 2 * 0 + _ ≤ _; exact Nat.le_of_eq rfl) (hb hby d9_17) (fun _ _ => ⟨rfl, ee13, (by decide : 0 + 0 ≤ _), (by decide : 0 + 0 ≤ _)⟩)
        dsimp only [Pt.U, Pt.locs, Pt.cells, Pt.slots] at X14 l14 y14 z14 st14 hQ14
        subst l14 y14 z14
        obtain ⟨rfl, Nq14, ee14⟩ := hQ14
        have N14 := Fr.app N13 Nq14
        refine Go.st st14 ?_
        show Go p.tables e below _ (T14.setTop (mkF m 20 #[.val (.ref a1), .val (.int si), .val (.int (zn >>> (cd &&& 31)))] [(.int (own_is (own_c cs j)))]))
        have hc20_15 : (own_is (own_c cs j)) = (0 : Int32) := (by rw [ej]; exact (hmid.2.2.2 hn1).1)
        refine Go.st (fun U hr => XS.ifYes X14.here hx rfl (pc0 := 20) (pc' := 29) rfl (hb hby d9_20) rfl ((if0 _ _).trans (teq hc20_15).1) (by decide) (by decide) hr) ?_
        show Go p.tables e below _ (T14.setTop (mkF m 29 #[.val (.ref a1), .val (.int si), .val (.int (zn >>> (cd &&& 31)))] []))
        exact loop2 (cs.length - (b + n)) _ _ _ T14 _ (by omega) (Nat.le_refl _) (by rw [hsi, ej]) hln X14 ee14 N14
      · refine Go.st (fun U hr => XS.icmpYes Xl.here hx rfl (pc0 := 9) (pc' := 29) rfl (hb hby d9_9) rfl (flt hc9_12).2.1 (by decide) (by decide) hr) ?_
        show Go p.tables e below _ (Tl.setTop (mkF m 29 #[.val (.ref a1), .val (.int si), .val (.int (zn >>> (cd &&& 31)))] []))
        exact loop2 (cs.length - (b + n)) _ _ _ Tl _ (by omega) (Nat.le_refl _) (by rw [hsi, ej]) hln Xl el Nl
    | succ k ih =>
      intro j si Tl lo hk hsi Xl el Nl
      refine Go.st (fun U hr => XS.iloadN Xl.here hx rfl (hb hby d9_7) rfl hr) ?_
      show Go p.tables e below _ (Tl.setTop (mkF m 8 #[.val (.ref a1), .val (.int si), .val (.int (zn >>> (cd &&& 31)))] [(.int si)]))
      refine Go.st (fun U hr => XS.iloadN Xl.here hx rfl (hb hby d9_8) rfl hr) ?_
      show Go p.tables e below _ (Tl.setTop (mkF m 9 #[.val (.ref a1), .val (.int si), .val (.int (zn >>> (cd &&& 31)))] [(.int (zn >>> (cd &&& 31))), (.int si)]))
      have hc9_16 : si < (zn >>> (cd &&& 31)) := by rw [own_lt32]; omega
      refine Go.st (fun U hr => XS.icmpNo Xl.here hx rfl (hb hby d9_9) rfl (tlt hc9_16).2.1 hr) ?_
      show Go p.tables e below _ (Tl.setTop (mkF m 12 #[.val (.ref a1), .val (.int si), .val (.int (zn >>> (cd &&& 31)))] []))
      refine Go.st (fun U hr => XS.aloadN Xl.here hx rfl (hb hby d9_12) rfl rfl hr) ?_
      show Go p.tables e below _ (Tl.setTop (mkF m 13 #[.val (.ref a1), .val (.int si), .val (.int (zn >>> (cd &&& 31)))] [(.ref a1)]))
      refine Go.st (fun U hr => XS.iloadN Xl.here hx rfl (hb hby d9_13) rfl hr) ?_
      show Go p.tables e below _ (Tl.setTop (mkF m 14 #[.val (.ref a1), .val (.int si), .val (.int (zn >>> (cd &&& 31)))] [(.int si), (.ref a1)]))
      obtain ⟨cq17, kq17, q17a, q17b, q17c⟩ := isOf hZ el E1
      obtain ⟨_, _, ⟨T17, L17, k17, n17⟩, -, X17, ⟨Lc17, hQ17, l17, y17, z17⟩, st17⟩ := Xl.virtualBack hx (y := (⟨"java/lang/String", "charAt", "(I)C"⟩ : MethodName)) (z := (⟨"java/lang/String", "charAt", "(I)C"⟩ : MethodName)) hown (mvT hZ (hw _ (List.mem_of_getElem? (i := 55) rfl))) (mvT hZ (hw _ (List.mem_of_getElem? (i := 56) rfl))) (notFace_of_selects (args := #[]) (mvT hZ (hw _ (List.mem_of_getElem? (i := 58) rfl)))) (mvT hZ (hw _ (List.mem_of_getElem? (i := 58) rfl))) (mvT hZ (hw _ (List.mem_of_getElem? (i := 57) rfl))) (by decide) (backOf (W := 0) (rm12 l Z a0 hw [] a1 si wc sf va kb cd zn ys cs j h0 n0 Z0 ⟨S1, hwc, S2, S3, S4, S5⟩ ⟨E1, F1, F2, V1, hz, hen, h5⟩ hsi (by omega)) hZ (hw _ (List.mem_of_getElem? (i := 59) rfl)) (hw _ (List.mem_of_getElem? (i := 11) rfl)) (by decide) (by decide)) q17a q17c (g := (mkF m 14 #[.val (.ref a1), .val (.int si), .val (.int (zn >>> (cd &&& 31)))] [(.int si), (.ref a1)])) rfl (by rw [hml]; rfl) (Steps.refl _) (argsL := [(.int si)]) (rest := []) (lenOf pd_1 rfl) rfl (by show 2 * 0 + _ ≤ _; exact Nat.le_of_eq rfl) (hb hby d9_14) (fun _ _ => ⟨rfl, el, (by decide : 0 + 0 ≤ _), (by decide : 0 + 0 ≤ _)⟩)
      dsimp only [Pt.U, Pt.locs, Pt.cells, Pt.slots] at X17 l17 y17 z17 st17 hQ17
      subst l17 y17 z17
      obtain ⟨rfl, Nq17, ee17⟩ := hQ17
      have N17 := Fr.app Nl Nq17
      refine Go.tr st17 ?_
      show Go p.tables e below _ (T17.setTop (mkF m 17 #[.val (.ref a1), .val (.int si), .val (.int (zn >>> (cd &&& 31)))] [(.int (own_c cs j))]))
      obtain ⟨_, _, ⟨T18, L18, k18, n18⟩, -, X18, ⟨Lc18, hQ18, l18, y18, z18⟩, st18⟩ := Jvm.LawKit.callS X17 hx (y := (⟨"adjunct/core/XmlSpace", "is", "(C)Z"⟩ : MethodName)) hown (mvT hZ (hw _ (List.mem_of_getElem? (i := 77) rfl))) (mvT hZ (hw _ (List.mem_of_getElem? (i := 78) rfl))) (mvT hZ (hw _ (List.mem_of_getElem? (i := 43) rfl))) (mvT hZ (hw _ (List.mem_of_getElem? (i := 79) rfl))) (by decide) (backOf (W := 0) (rm17 l Z a0 hw [] (own_c cs j) h0 n0 Z0) hZ (hw _ (List.mem_of_getElem? (i := 79) rfl)) (hw _ (List.mem_of_getElem? (i := 43) rfl)) (by decide) (by decide)) (g := (mkF m 17 #[.val (.ref a1), .val (.int si), .val (.int (zn >>> (cd &&& 31)))] [(.int (own_c cs j))])) rfl (by rw [hml]; rfl) (argsL := [(.int (own_c cs j))]) (rest := []) (lenOf pd_0 rfl) rfl (by show 2 * 0 + _ ≤ _; exact Nat.le_of_eq rfl) (hb hby d9_17) (fun _ _ => ⟨rfl, ee17, (by decide : 0 + 0 ≤ _), (by decide : 0 + 0 ≤ _)⟩)
      dsimp only [Pt.U, Pt.locs, Pt.cells, Pt.slots] at X18 l18 y18 z18 st18 hQ18
      subst l18 y18 z18
      obtain ⟨rfl, Nq18, ee18⟩ := hQ18
      have N18 := Fr.app N17 Nq18
      refine Go.st st18 ?_
      show Go p.tables e below _ (T18.setTop (mkF m 20 #[.val (.ref a1), .val (.int si), .val (.int (zn >>> (cd &&& 31)))] [(.int (own_is (own_c cs j)))]))
      have hc20_19 : ¬ ((own_is (own_c cs j)) = (0 : Int32)) := own_is01 (hmid.2.1 j (by omega))
      refine Go.st (fun U hr => XS.ifNo X18.here hx rfl (hb hby d9_20) rfl ((if0 _ _).trans (feq hc20_19).1) hr) ?_
      show Go p.tables e below _ (T18.setTop (mkF m 23 #[.val (.ref a1), .val (.int si), .val (.int (zn >>> (cd &&& 31)))] []))
      refine Go.st (fun U hr => XS.iinc X18.here hx rfl (hb hby d9_23) rfl (l' := #[.val (.ref a1), .val (.int (si + (1 : Int32))), .val (.int (zn >>> (cd &&& 31)))]) rfl hr) ?_
      show Go p.tables e below _ (T18.setTop (mkF m 26 #[.val (.ref a1), .val (.int (si + (1 : Int32))), .val (.int (zn >>> (cd &&& 31)))] []))
      refine Go.st (fun U hr => XS.goto X18.here hx rfl (pc0 := 26) (pc' := 7) rfl (hb hby d9_26) (by decide) (by decide) hr) ?_
      show Go p.tables e below _ (T18.setTop (mkF m 7 #[.val (.ref a1), .val (.int (si + (1 : Int32))), .val (.int (zn >>> (cd &&& 31)))] []))
      exact ih (j + 1) _ T18 _ (by omega) (own_p1 hsi (by omega)) X18 ee18 N18
  exact loop1 b 0 _ T1 _ (by omega) (by decide) X1 ee1 N1
theorem d23_0 : decode method_3_code 0 = .ok (.iload_n 3, 1) := by decide +kernel
theorem d23_1 : decode method_3_code 1 = .ok (.aload_n 0, 1) := by decide +kernel
theorem d23_2 : decode method_3_code 2 = .ok (.invokevirtual 29, 3) := by decide +kernel
theorem d23_5 : decode method_3_code 5 = .ok (.if_icmp .ge 18, 3) := by decide +kernel
theorem d23_8 : decode method_3_code 8 = .ok (.aload_n 0, 1) := by decide +kernel
theorem d23_9 : decode method_3_code 9 = .ok (.iload_n 3, 1) := by decide +kernel
theorem d23_10 : decode method_3_code 10 = .ok (.invokevirtual 37, 3) := by decide +kernel
theorem d23_13 : decode method_3_code 13 = .ok (.aload_n 1, 1) := by decide +kernel
theorem d23_14 : decode method_3_code 14 = .ok (.iload_n 2, 1) := by decide +kernel
theorem d23_15 : decode method_3_code 15 = .ok (.iload_n 3, 1) := by decide +kernel
theorem d23_16 : decode method_3_code 16 = .ok (.iadd, 1) := by decide +kernel
theorem d23_17 : decode method_3_code 17 = .ok (.invokevirtual 37, 3) := by decide +kernel
theorem d23_20 : decode method_3_code 20 = .ok (.if_icmp .ne 7, 3) := by decide +kernel
theorem d23_23 : decode method_3_code 23 = .ok (.iconst 1, 1) := by decide +kernel
theorem d23_24 : decode method_3_code 24 = .ok (.goto 4, 3) := by decide +kernel
theorem d23_28 : decode method_3_code 28 = .ok (.ireturn, 1) := by decide +kernel
theorem pn_23 : plainFor (⟨"adjunct/core/XmlSpaceStripPinLaw", "same", "(Ljava/lang/String;Ljava/lang/String;II)Z"⟩ : MethodName) = true := plainFor_of_name (by first | (simp [plainName, overriddenIn]; done) | decide +kernel)
theorem ef_23 (m : MethodId) (x0 : Addr) (x1 : Addr) (x2 : Int32) (x3 : Int32) : entryFrame m #[(.ref x0), (.ref x1), (.int x2), (.int x3)] 4 = mkF m 0 #[.val (.ref x0), .val (.ref x1), .val (.int x2), .val (.int x3)] [] := by first | (simp [entryFrame, mkF, argsToLocals, Value.category]; done) | rfl
def Q23 (Z : State) (a1 : Addr) (a2 : Addr) (p3 : Int32) (p4 : Int32) (wc : Int32) (sf : Option Addr) (vr : Addr) (kr : ClassId) (cr : Int32) (zr : Int32) (yr : List Int32) (va : Addr) (kb : ClassId) (cd : Int32) (zn : Int32) (ys : List Int32) (cs : List Int32) (A : Nat) (K : Nat) (j : Nat) (h0 : Heap) (n0 : Nat) (v : Option Value) (h : Heap) (L : List Loc) : Prop := v = some (.int (1 : Int32)) ∧ Fr n0 L ∧ h = h0
set_option maxRecDepth 65536 in
set_option maxHeartbeats 40000000 in
theorem rm23 (l : Launch) (Z : State) (a0 : Array Value) (hw : ∀ d ∈ tables_1, d.before a0 Z = true) (ws : List Jvm.Cond) (a1 : Addr) (a2 : Addr) (p3 : Int32) (p4 : Int32) (wc : Int32) (sf : Option Addr) (vr : Addr) (kr : ClassId) (cr : Int32) (zr : Int32) (yr : List Int32) (va : Addr) (kb : ClassId) (cd : Int32) (zn : Int32) (ys : List Int32) (cs : List Int32) (A : Nat) (K : Nat) (j : Nat) (h0 : Heap) (n0 : Nat) (Z0 : n0 ≤ h0.size) (hS : own_Sts Z h0 wc sf) (hR : own_Str Z h0 a1 vr kr cr zr yr (own_sl cs A K)) (hT : own_Str Z h0 a2 va kb cd zn ys cs) (hA : p3.toInt = A) (hj : p4.toInt = j) (hAK : A + K ≤ cs.length) :
    MetFree l (⟨"adjunct/core/XmlSpaceStripPinLaw", "same", "(Ljava/lang/String;Ljava/lang/String;II)Z"⟩ : MethodName) (head1 (Jvm.Cond.code (⟨"adjunct/core/XmlSpaceStripPinLaw", "same", "(Ljava/lang/String;Ljava/lang/String;II)Z"⟩ : MethodName) method_3_code 4 (some .boolean) :: ws) ({ frames := 5, cells := 0, slots := 0, locals := 67 } : Room)) (fun a U => a = #[(.ref a1), (.ref a2), (.int p3), (.int p4)] ∧ Z.Warmed39 U.vm ∧ U.heap = h0) (fun _ _ _ _ _ => True) (fun _ U o U' => ∃ v L, o = .returned v ∧ Q23 Z a1 a2 p3 p4 wc sf vr kr cr zr yr va kb cd zn ys cs A K j h0 n0 v U'.heap L ∧ FrameEnd U o U' L ({ frames := 5, cells := 0, slots := 0, locals := 67 } : Room).cells ({ frames := 5, cells := 0, slots := 0, locals := 67 } : Room).slots) := by
  refine MetFree.of_bodySF pn_23 hisR ?_
  intro p e s m args below meth c s₁ Bd hml0 hP hK
  obtain ⟨rfl, hZ, hh⟩ := hP
  have hx := Bd.exec
  have hby := Bd.bytes
  have hml : c.maxLocals = 4 := hml0
  have hown : s.vm.findClass "adjunct/core/XmlSpaceStripPinLaw" = some m.cls := findClass_of_methodNamed Bd.named
  have hnm := (name_of_methodNamed Bd.named Bd.method).1
  have X0 : Stand p l e ({ frames := 5, cells := 0, slots := 0, locals := 67 } : Room) s m #[(.ref a1), (.ref a2), (.int p3), (.int p4)] below meth c s₁ [] 0 0 := Stand.of_body Bd
  have e0 : s₁.heap = h0 := by rw [← hh, Bd.state]; rfl
  have N0 := Fr.nil n0
  refine own_start (Q := Q23 Z a1 a2 p3 p4 wc sf vr kr cr zr yr va kb cd zn ys cs A K j h0 n0) (own_cast (ef_23 m a1 a2 p3 p4) ?_)
  obtain ⟨S1, hwc, S2, S3, S4, S5⟩ := id hS
  obtain ⟨Er, Fr1, Fr2, Vr, hzr, henr, h5r⟩ := id hR
  obtain ⟨E1, F1, F2, V1, hz, hen, h5⟩ := id hT
  show Go p.tables e below _ (s₁.setTop (mkF m 0 #[.val (.ref a1), .val (.ref a2), .val (.int p3), .val (.int p4)] []))
  refine Go.st (fun U hr => XS.iloadN X0.here hx rfl (hb hby d23_0) rfl hr) ?_
  show Go p.tables e below _ (s₁.setTop (mkF m 1 #[.val (.ref a1), .val (.ref a2), .val (.int p3), .val (.int p4)] [(.int p4)]))
  refine Go.st (fun U hr => XS.aloadN X0.here hx rfl (hb hby d23_1) rfl rfl hr) ?_
  show Go p.tables e below _ (s₁.setTop (mkF m 2 #[.val (.ref a1), .val (.ref a2), .val (.int p3), .val (.int p4)] [(.ref a1), (.int p4)]))
  obtain ⟨cq1, kq1, q1a, q1b, q1c⟩ := isOf hZ e0 Er
  obtain ⟨_, _, ⟨T1, L1, k1, n1⟩, -, X1, ⟨Lc1, hQ1, l1, y1, z1⟩, st1⟩ := X0.virtualBack hx (y := (⟨"java/lang/String", "length", "()I"⟩ : MethodName)) (z := (⟨"java/lang/String", "length", "()I"⟩ : MethodName)) hown (mvT hZ (hw _ (List.mem_of_getElem? (i := 101) rfl))) (mvT hZ (hw _ (List.mem_of_getElem? (i := 46) rfl))) (notFace_of_selects (args := #[]) (mvT hZ (hw _ (List.mem_of_getElem? (i := 48) rfl)))) (mvT hZ (hw _ (List.mem_of_getElem? (i := 48) rfl))) (mvT hZ (hw _ (List.mem_of_getElem? (i := 47) rfl))) (by decide) (backOf (W := 1) (rm10 l Z a0 hw [] a1 wc sf vr kr cr zr yr (own_sl cs A K) h0 n0 Z0 ⟨S1, hwc, S2, S3, S4, S5⟩ hR) hZ (hw _ (List.mem_of_getElem? (i := 49) rfl)) (hw _ (List.mem_of_getElem? (i := 11) rfl)) (by decide) (by decide)) q1a q1c (g := (mkF m 2 #[.val (.ref a1), .val (.ref a2), .val (.int p3), .val (.int p4)] [(.ref a1), (.int p4)])) rfl (by rw [hml]; rfl) (Steps.refl _) (argsL := []) (rest := [(.int p4)]) (lenOf pd_23 rfl) rfl (by show 2 * 0 + _ ≤ _; exact Nat.le_of_eq rfl) (hb hby d23_2) (fun _ _ => ⟨rfl, e0, (by decide : 0 + 0 ≤ _), (by decide : 0 + 0 ≤ _)⟩)
  dsimp only [Pt.U, Pt.locs, Pt.cells, Pt.slots] at X1 l1 y1 z1 st1 hQ1
  subst l1 y1 z1
  obtain ⟨rfl, Nq1, ee1⟩ := hQ1
  have N1 := Fr.app N0 Nq1
  refine Go.tr st1 ?_
  show Go p.tables e below _ (T1.setTop (mkF m 5 #[.val (.ref a1), .val (.ref a2), .val (.int p3), .val (.int p4)] [(.int (zr >>> (cr &&& 31))), (.int p4)]))
  by_cases hc5_2 : p4 < (zr >>> (cr &&& 31))
  · refine Go.st (fun U hr => XS.icmpNo X1.here hx rfl (hb hby d23_5) rfl (tlt hc5_2).2.1 hr) ?_
    show Go p.tables e below _ (T1.setTop (mkF m 8 #[.val (.ref a1), .val (.ref a2), .val (.int p3), .val (.int p4)] []))
    have hjK : j < K := by
      have q := hc5_2
      rw [own_lt32, own_len henr hzr, own_sl_len] at q; omega
    refine Go.st (fun U hr => XS.aloadN X1.here hx rfl (hb hby d23_8) rfl rfl hr) ?_
    show Go p.tables e below _ (T1.setTop (mkF m 9 #[.val (.ref a1), .val (.ref a2), .val (.int p3), .val (.int p4)] [(.ref a1)]))
    refine Go.st (fun U hr => XS.iloadN X1.here hx rfl (hb hby d23_9) rfl hr) ?_
    show Go p.tables e below _ (T1.setTop (mkF m 10 #[.val (.ref a1), .val (.ref a2), .val (.int p3), .val (.int p4)] [(.int p4), (.ref a1)]))
    obtain ⟨cq3, kq3, q3a, q3b, q3c⟩ := isOf hZ ee1 Er
    obtain ⟨_, _, ⟨T3, L3, k3, n3⟩, -, X3, ⟨Lc3, hQ3, l3, y3, z3⟩, st3⟩ := X1.virtualBack hx (y := (⟨"java/lang/String", "charAt", "(I)C"⟩ : MethodName)) (z := (⟨"java/lang/String", "charAt", "(I)C"⟩ : MethodName)) hown (mvT hZ (hw _ (List.mem_of_getElem? (i := 187) rfl))) (mvT hZ (hw _ (List.mem_of_getElem? (i := 56) rfl))) (notFace_of_selects (args := #[]) (mvT hZ (hw _ (List.mem_of_getElem? (i := 58) rfl)))) (mvT hZ (hw _ (List.mem_of_getElem? (i := 58) rfl))) (mvT hZ (hw _ (List.mem_of_getElem? (i := 57) rfl))) (by decide) (backOf (W := 0) (rm12 l Z a0 hw [] a1 p4 wc sf vr kr cr zr yr (own_sl cs A K) j h0 n0 Z0 ⟨S1, hwc, S2, S3, S4, S5⟩ hR hj (by rw [own_sl_len]; exact hjK)) hZ (hw _ (List.mem_of_getElem? (i := 59) rfl)) (hw _ (List.mem_of_getElem? (i := 11) rfl)) (by decide) (by decide)) q3a q3c (g := (mkF m 10 #[.val (.ref a1), .val (.ref a2), .val (.int p3), .val (.int p4)] [(.int p4), (.ref a1)])) rfl (by rw [hml]; rfl) (Steps.refl _) (argsL := [(.int p4)]) (rest := []) (lenOf pd_1 rfl) rfl (by show 2 * 0 + _ ≤ _; exact Nat.le_of_eq rfl) (hb hby d23_10) (fun _ _ => ⟨rfl, ee1, (by decide : 0 + 0 ≤ _), (by decide : 0 + 0 ≤ _)⟩)
    dsimp only [Pt.U, Pt.locs, Pt.cells, Pt.slots] at X3 l3 y3 z3 st3 hQ3
    subst l3 y3 z3
    obtain ⟨rfl, Nq3, ee3⟩ := hQ3
    have N3 := Fr.app N1 Nq3
    refine Go.tr st3 ?_
    show Go p.tables e below _ (T3.setTop (mkF m 13 #[.val (.ref a1), .val (.ref a2), .val (.int p3), .val (.int p4)] [(.int (own_c (own_sl cs A K) j))]))
    refine Go.st (fun U hr => XS.aloadN X3.here hx rfl (hb hby d23_13) rfl rfl hr) ?_
    show Go p.tables e below _ (T3.setTop (mkF m 14 #[.val (.ref a1), .val (.ref a2), .val (.int p3), .val (.int p4)] [(.ref a2), (.int (own_c (own_sl cs A K) j))]))
    refine Go.st (fun U hr => XS.iloadN X3.here hx rfl (hb hby d23_14) rfl hr) ?_
    show Go p.tables e below _ (T3.setTop (mkF m 15 #[.val (.ref a1), .val (.ref a2), .val (.int p3), .val (.int p4)] [(.int p3), (.ref a2), (.int (own_c (own_sl cs A K) j))]))
    refine Go.st (fun U hr => XS.iloadN X3.here hx rfl (hb hby d23_15) rfl hr) ?_
    show Go p.tables e below _ (T3.setTop (mkF m 16 #[.val (.ref a1), .val (.ref a2), .val (.int p3), .val (.int p4)] [(.int p4), (.int p3), (.ref a2), (.int (own_c (own_sl cs A K) j))]))
    refine Go.st (fun U hr => XS.iadd X3.here hx rfl (hb hby d23_16) rfl hr) ?_
    show Go p.tables e below _ (T3.setTop (mkF m 17 #[.val (.ref a1), .val (.ref a2), .val (.int p3), .val (.int p4)] [(.int (p3 + p4)), (.ref a2), (.int (own_c (own_sl cs A K) j))]))
    obtain ⟨cq4, kq4, q4a, q4b, q4c⟩ := isOf hZ ee3 E1
    obtain ⟨_, _, ⟨T4, L4, k4, n4⟩, -, X4, ⟨Lc4, hQ4, l4, y4, z4⟩, st4⟩ := X3.virtualBack hx (y := (⟨"java/lang/String", "charAt", "(I)C"⟩ : MethodName)) (z := (⟨"java/lang/String", "charAt", "(I)C"⟩ : MethodName)) hown (mvT hZ (hw _ (List.mem_of_getElem? (i := 187) rfl))) (mvT hZ (hw _ (List.mem_of_getElem? (i := 56) rfl))) (notFace_of_selects (args := #[]) (mvT hZ (hw _ (List.mem_of_getElem? (i := 58) rfl)))) (mvT hZ (hw _ (List.mem_of_getElem? (i := 58) rfl))) (mvT hZ (hw _ (List.mem_of_getElem? (i := 57) rfl))) (by decide) (backOf (W := 1) (rm12 l Z a0 hw [] a2 (p3 + p4) wc sf va kb cd zn ys cs (A + j) h0 n0 Z0 ⟨S1, hwc, S2, S3, S4, S5⟩ hT (own_add hA hj (by omega)) (by omega)) hZ (hw _ (List.mem_of_getElem? (i := 59) rfl)) (hw _ (List.mem_of_getElem? (i := 11) rfl)) (by decide) (by decide)) q4a q4c (g := (mkF m 17 #[.val (.ref a1), .val (.ref a2), .val (.int p3), .val (.int p4)] [(.int (p3 + p4)), (.ref a2), (.int (own_c (own_sl cs A K) j))])) rfl (by rw [hml]; rfl) (Steps.refl _) (argsL := [(.int (p3 + p4))]) (rest := [(.int (own_c (own_sl cs A K) j))]) (lenOf pd_1 rfl) rfl (by show 2 * 0 + _ ≤ _; exact Nat.le_of_eq rfl) (hb hby d23_17) (fun _ _ => ⟨rfl, ee3, (by decide : 0 + 0 ≤ _), (by decide : 0 + 0 ≤ _)⟩)
    dsimp only [Pt.U, Pt.locs, Pt.cells, Pt.slots] at X4 l4 y4 z4 st4 hQ4
    subst l4 y4 z4
    obtain ⟨rfl, Nq4, ee4⟩ := hQ4
    have N4 := Fr.app N3 Nq4
    refine Go.tr st4 ?_
    show Go p.tables e below _ (T4.setTop (mkF m 20 #[.val (.ref a1), .val (.ref a2), .val (.int p3), .val (.int p4)] [(.int (own_c cs (A + j))), (.int (own_c (own_sl cs A K) j))]))
    have hc20_5 : (own_c (own_sl cs A K) j) = (own_c cs (A + j)) := own_sl_c _ _ _ _ hjK
    refine Go.st (fun U hr => XS.icmpNo X4.here hx rfl (hb hby d23_20) rfl (teq hc20_5).2 hr) ?_
    show Go p.tables e below _ (T4.setTop (mkF m 23 #[.val (.ref a1), .val (.ref a2), .val (.int p3), .val (.int p4)] []))
    refine Go.st (fun U hr => XS.iconst X4.here hx rfl (hb hby d23_23) hr) ?_
    show Go p.tables e below _ (T4.setTop (mkF m 24 #[.val (.ref a1), .val (.ref a2), .val (.int p3), .val (.int p4)] [(.int (1 : Int32))]))
    refine Go.st (fun U hr => XS.goto X4.here hx rfl (pc0 := 24) (pc' := 28) rfl (hb hby d23_24) (by decide) (by decide) hr) ?_
    show Go p.tables e below _ (T4.setTop (mkF m 28 #[.val (.ref a1), .val (.ref a2), .val (.int p3), .val (.int p4)] [(.int (1 : Int32))]))
    exact own_retN X4 hx Bd.notSynchronized (t := .boolean) Bd.returns (by simp) (hb hby d23_28) ⟨by rw [show nar .boolean (1 : Int32) = 1 from by decide], N4, ee4⟩ (by decide) (by decide)
  · refine Go.st (fun U hr => XS.icmpYes X1.here hx rfl (pc0 := 5) (pc' := 23) rfl (hb hby d23_5) rfl (flt hc5_2).2.1 (by decide) (by decide) hr) ?_
    show Go p.tables e below _ (T1.setTop (mkF m 23 #[.val (.ref a1), .val (.ref a2), .val (.int p3), .val (.int p4)] []))
    refine Go.st (fun U hr => XS.iconst X1.here hx rfl (hb hby d23_23) hr) ?_
    show Go p.tables e below _ (T1.setTop (mkF m 24 #[.val (.ref a1), .val (.ref a2), .val (.int p3), .val (.int p4)] [(.int (1 : Int32))]))
    refine Go.st (fun U hr => XS.goto X1.here hx rfl (pc0 := 24) (pc' := 28) rfl (hb hby d23_24) (by decide) (by decide) hr) ?_
    show Go p.tables e below _ (T1.setTop (mkF m 28 #[.val (.ref a1), .val (.ref a2), .val (.int p3), .val (.int p4)] [(.int (1 : Int32))]))
    exact own_retN X1 hx Bd.notSynchronized (t := .boolean) Bd.returns (by simp) (hb hby d23_28) ⟨by rw [show nar .boolean (1 : Int32) = 1 from by decide], N1, ee1⟩ (by decide) (by decide)
theorem own_EW {Z : State} {a0 : Array Value} (hw : ∀ d ∈ tables_1, d.before a0 Z = true) : EW Z a0 consts_1 :=
  EW.cons (text := "") (hw _ (List.mem_of_getElem? (i := 38) rfl)) own_lit0.1 (EW.cons (text := "") (hw _ (List.mem_of_getElem? (i := 95) rfl)) own_lit0.1 EW.nil)
theorem own_wS {Z : State} {a0 : Array Value} (hw : ∀ d ∈ tables_1, d.before a0 Z = true) : ∀ d ∈ Bundle.stringAtoms, d.before a0 Z = true := fun d hd => by
  simp only [Bundle.stringAtoms, List.mem_cons, List.not_mem_nil, or_false] at hd
  rcases hd with rfl | rfl | rfl | rfl | rfl | rfl | rfl
  · exact (hw _ (List.mem_of_getElem? (i := 11) rfl))
  · exact (hw _ (List.mem_of_getElem? (i := 10) rfl))
  · exact (hw _ (List.mem_of_getElem? (i := 27) rfl))
  · exact (hw _ (List.mem_of_getElem? (i := 37) rfl))
  · exact (hw _ (List.mem_of_getElem? (i := 35) rfl))
  · exact (hw _ (List.mem_of_getElem? (i := 39) rfl))
  · exact (hw _ (List.mem_of_getElem? (i := 40) rfl))
theorem own_zz : (0 : Int32).toInt = (([] : List Int32).length : Int) := by decide
theorem own_enc0 : own_enc 0 [] [] := ⟨fun i hi => absurd hi (Nat.not_lt_zero _), Or.inl ⟨rfl, rfl, fun i hi => absurd hi (Nat.not_lt_zero _)⟩⟩
theorem own_zn0 {cd zn : Int32} {ys cs : List Int32} (e : own_enc cd ys cs) (hz : zn.toInt = ys.length) (h : cs.length = 0) : zn = 0 := by
  apply Int32.toInt_inj.mp
  rw [show (0 : Int32).toInt = 0 from by decide]
  rcases e.2 with ⟨_, q, _⟩ | ⟨_, q, _⟩ <;> omega
theorem own_is_small {x : Int32} (h : own_is x = 1) : ¬ 255 < x := by
  unfold own_is at h
  split at h
  · rename_i q; subst q; decide
  split at h
  · rename_i q; subst q; decide
  split at h
  · rename_i q; subst q; decide
  split at h
  · rename_i q; subst q; decide
  · exact absurd h (by decide)
theorem own_mid_all {cs : List Int32} {A : Nat} (h : own_mid cs A 0) : own_mid cs cs.length 0 :=
  ⟨Nat.le_refl _, fun i hi => by
    by_cases q : i < A
    · exact h.2.1 i q
    · exact h.2.2.1 i (by omega) hi, fun i h1 h2 => absurd h2 (by omega), fun q => absurd q (Nat.lt_irrefl _)⟩
theorem own_mid0 : own_mid [] 0 0 := ⟨Nat.le_refl _, fun i hi => absurd hi (Nat.not_lt_zero _), fun i h1 h2 => absurd h2 (Nat.not_lt_zero _), fun q => absurd q (Nat.lt_irrefl _)⟩

theorem d4_8 : decode jdk_42_method_149_code 8 = .ok (.aload_n 0, 1) := by decide +kernel
theorem d4_9 : decode jdk_42_method_149_code 9 = .ok (.ldc 7, 2) := by decide +kernel
theorem d4_11 : decode jdk_42_method_149_code 11 = .ok (.getfield 9, 3) := by decide +kernel
theorem d4_14 : decode jdk_42_method_149_code 14 = .ok (.putfield 9, 3) := by decide +kernel
theorem d4_17 : decode jdk_42_method_149_code 17 = .ok (.aload_n 0, 1) := by decide +kernel
theorem d4_18 : decode jdk_42_method_149_code 18 = .ok (.ldc 7, 2) := by decide +kernel
theorem d4_20 : decode jdk_42_method_149_code 20 = .ok (.getfield 15, 3) := by decide +kernel
theorem d4_23 : decode jdk_42_method_149_code 23 = .ok (.putfield 15, 3) := by decide +kernel
theorem d4_26 : decode jdk_42_method_149_code 26 = .ok (.return_, 1) := by decide +kernel
def Q4z (Z : State) (a1 : Addr) (a2 : Addr)  (h0 : Heap) (n0 : Nat) (v : Option Value) (h : Heap) (L : List Loc) : Prop := v = none ∧ Fr n0 L ∧ Keep h0 h [a1] ∧ ∃ (va : Addr) (kb : ClassId), own_Str Z h a1 va kb 0 0 [] []
set_option maxRecDepth 65536 in
set_option maxHeartbeats 40000000 in
theorem rm4z (l : Launch) (Z : State) (a0 : Array Value) (hw : ∀ d ∈ tables_1, d.before a0 Z = true) (ws : List Jvm.Cond) (a1 : Addr) (a2 : Addr)  (h0 : Heap) (n0 : Nat) (Z0 : n0 ≤ h0.size) (E1 : Exa Z h0 a1 "java/lang/String") (F1 : Fld Z h0 a1 "java/lang/String" "value" "[B" .null) (F2 : Fld Z h0 a1 "java/lang/String" "coder" "B" (.int (0 : Int32))) (g1 : n0 ≤ a1) :
    MetFree l (⟨"java/lang/String", "<init>", "([CIILjava/lang/Void;)V"⟩ : MethodName) (head1 (Jvm.Cond.code (⟨"java/lang/String", "<init>", "([CIILjava/lang/Void;)V"⟩ : MethodName) jdk_42_method_149_code 6 none :: ws) ({ frames := 1, cells := 4, slots := 8, locals := 12 } : Room)) (fun a U => a = #[(.ref a1), (.ref a2), (.int (0 : Int32)), (.int (0 : Int32)), .null] ∧ Z.Warmed39 U.vm ∧ U.heap = h0 ∧ CHv Z consts_1 U.vm h0) (fun _ _ _ _ _ => True) (fun _ U o U' => ∃ v L, o = .returned v ∧ Q4z Z a1 a2 h0 n0 v U'.heap L ∧ CHr Z consts_1 U.vm U.heap U'.vm U'.heap ∧ ReturnedEndW U o U' L ({ frames := 1, cells := 4, slots := 8, locals := 12 } : Room).cells ({ frames := 1, cells := 4, slots := 8, locals := 12 } : Room).slots) := by
  refine MetFree.of_bodySF pn_4 hisR ?_
  intro p e s m args below meth c s₁ Bd hml0 hP hK
  obtain ⟨rfl, hZ0, hh, hCH⟩ := hP
  have hZ : Z.Warmed39 (s.setVm s.vm).vm := hZ0
  have hx := Bd.exec
  have hby := Bd.bytes
  have hml : c.maxLocals = 6 := hml0
  have hown : (s.setVm s.vm).vm.findClass "java/lang/String" = some m.cls := findClass_of_methodNamed Bd.named
  have hnm := (name_of_methodNamed Bd.named Bd.method).1
  have X0 : Stand p l e ({ frames := 1, cells := 4, slots := 8, locals := 12 } : Room) (s.setVm s.vm) m #[(.ref a1), (.ref a2), (.int (0 : Int32)), (.int (0 : Int32)), .null] below meth c s₁ [] 0 0 := Stand.of_body Bd
  have e0 : s₁.heap = h0 := by rw [← hh, Bd.state]; rfl
  have N0 := Fr.nil n0
  have hS0 : s.Since s.vm h0.size := (State.WarmedH.refl s).since _
  have hk0 : h0.size ≤ h0.size := Nat.le_refl _
  have CR0 := CHr.refl hCH
  have hEL := own_EW hw
  have wS := own_wS hw
  have sfa1 := own_safe (EL := consts_1) hZ0.alike E1 F1
  refine own_startS (Q := Q4z Z a1 a2 h0 n0) (own_cast (ef_4n m a1 a2 (0 : Int32) (0 : Int32)) ?_)
  show Go p.tables e below _ (s₁.setTop (mkF m 0 #[.val (.ref a1), .val (.ref a2), .val (.int (0 : Int32)), .val (.int (0 : Int32)), .val .null, .unset] []))
  refine Go.st (fun U hr => XS.aloadN X0.here hx rfl (hb hby d4_0) rfl rfl hr) ?_
  show Go p.tables e below _ (s₁.setTop (mkF m 1 #[.val (.ref a1), .val (.ref a2), .val (.int (0 : Int32)), .val (.int (0 : Int32)), .val .null, .unset] [(.ref a1)]))
  obtain ⟨T1, X1, e1, st1⟩ := initO X0 hx hZ hown (hw _ (List.mem_of_getElem? (i := 19) rfl)) (hw _ (List.mem_of_getElem? (i := 20) rfl)) (hw _ (List.mem_of_getElem? (i := 21) rfl)) e0 (g := (mkF m 1 #[.val (.ref a1), .val (.ref a2), .val (.int (0 : Int32)), .val (.int (0 : Int32)), .val .null, .unset] [(.ref a1)])) rfl (by rw [hml]; rfl) rfl (hb hby d4_1) (by decide) (W := 0) (by show 2 * 0 + _ ≤ _; exact Nat.le_of_eq rfl) (by decide)
  refine Go.st st1 ?_
  show Go p.tables e below _ (T1.setTop (mkF m 4 #[.val (.ref a1), .val (.ref a2), .val (.int (0 : Int32)), .val (.int (0 : Int32)), .val .null, .unset] []))
  refine Go.st (fun U hr => XS.iloadN X1.here hx rfl (hb hby d4_4) rfl hr) ?_
  show Go p.tables e below _ (T1.setTop (mkF m 5 #[.val (.ref a1), .val (.ref a2), .val (.int (0 : Int32)), .val (.int (0 : Int32)), .val .null, .unset] [(.int (0 : Int32))]))
  refine Go.st (fun U hr => XS.ifNo X1.here hx rfl (hb hby d4_5) rfl (by decide) hr) ?_
  show Go p.tables e below _ (T1.setTop (mkF m 8 #[.val (.ref a1), .val (.ref a2), .val (.int (0 : Int32)), .val (.int (0 : Int32)), .val .null, .unset] []))
  refine Go.st (fun U hr => XS.aloadN X1.here hx rfl (hb hby d4_8) rfl rfl hr) ?_
  show Go p.tables e below _ (T1.setTop (mkF m 9 #[.val (.ref a1), .val (.ref a2), .val (.int (0 : Int32)), .val (.int (0 : Int32)), .val .null, .unset] [(.ref a1)]))
  obtain ⟨x2, T2, h2, kk2, vb2, kc2, X2, e2, E2, hS2, hk2, hZ, hown, Ea2, Fc2, Fv2, Va2, -, -, Cc2, -, sx2, st2⟩ := ldcCH X1 hx hZ hown (hw _ (List.mem_of_getElem? (i := 38) rfl)) wS e1 hS0 hk0 hEL (List.mem_of_getElem? (i := 0) rfl) CR0.1 (vs := []) (z := (0 : Int32)) own_lit0 (by decide) rfl (g := (mkF m 9 #[.val (.ref a1), .val (.ref a2), .val (.int (0 : Int32)), .val (.int (0 : Int32)), .val .null, .unset] [(.ref a1)])) rfl (hb hby d4_9) (n := 0) (by decide) (by decide) (by decide) (by decide)
  refine Go.st st2 ?_
  have k3 := ((Keep.refl h0 [a1])).ext E2
  have sf4 := Cc2.safe (E1).lt sfa1
  have f5 := (E1).ext E2
  have f6 := (F1).ext E2
  have f7 := (F2).ext E2
  have z8 := Nat.le_trans Z0 E2.1
  have cr9 := (CR0).trans Cc2
  have n10 : a1 ≠ x2 := (sx2 a1 sf4).1
  have n11 : a1 ≠ vb2 := (sx2 a1 sf4).2
  have Vl2 : Arv Z h2 vb2 kc2 .byte (0 : Int32) (([] : List Int32).map Value.int) (.int (0 : Int32)) := Va2
  show Go p.tables e below _ (T2.setTop (mkF m 11 #[.val (.ref a1), .val (.ref a2), .val (.int (0 : Int32)), .val (.int (0 : Int32)), .val .null, .unset] [(.ref x2), (.ref a1)]))
  obtain ⟨T12, X12, e12, st12⟩ := getF X2 hx hZ hown (host := "") (Or.inl (hw _ (List.mem_of_getElem? (i := 36) rfl))) Via.refl e2 Fv2 (g := (mkF m 11 #[.val (.ref a1), .val (.ref a2), .val (.int (0 : Int32)), .val (.int (0 : Int32)), .val .null, .unset] [(.ref x2), (.ref a1)])) rfl rfl (hb hby d4_11)
  refine Go.st st12 ?_
  show Go p.tables e below _ (T12.setTop (mkF m 14 #[.val (.ref a1), .val (.ref a2), .val (.int (0 : Int32)), .val (.int (0 : Int32)), .val .null, .unset] [(.ref vb2), (.ref a1)]))
  obtain ⟨T13, h13, X13, e13, W13, st13⟩ := putF X12 hx hZ hown (host := "") (Or.inl (hw _ (List.mem_of_getElem? (i := 36) rfl))) Via.refl e12 f6 f5 (Or.inr ⟨(hw _ (List.mem_of_getElem? (i := 37) rfl)), rfl, hnm⟩) (hw _ (List.mem_of_getElem? (i := 10) rfl)) (ty := (.array .byte)) (by decide) rfl rfl (g := (mkF m 14 #[.val (.ref a1), .val (.ref a2), .val (.int (0 : Int32)), .val (.int (0 : Int32)), .val .null, .unset] [(.ref vb2), (.ref a1)])) rfl rfl (hb hby d4_14)
  refine Go.st st13 ?_
  have k14 := (k3).wr W13 (Or.inl (List.mem_of_getElem? (i := 0) rfl))
  have sf15 := Safe.wr W13 sf4 cr9.1 sf4
  have cr16 := (cr9).trans (CHr.wr W13 sf4 cr9.1)
  have hk17 := Nat.le_trans hk2 (Keep.of_wr W13).1
  have f18 := (f5).wr W13
  have f19 := (f6).same W13
  have f20 := (f7).other W13 (Or.inr (slot_ne (Or.inr (hw _ (List.mem_of_getElem? (i := 35) rfl))) (Or.inr (hw _ (List.mem_of_getElem? (i := 37) rfl))) (by decide) (t := .byte) (t' := (.array .byte)) (by decide) (by decide)))
  have f21 := (Ea2).wr W13
  have f22 := (Fv2).other W13 (Or.inl (Ne.symm n10))
  have f23 := (Fc2).other W13 (Or.inl (Ne.symm n10))
  have f24 := (Vl2).other W13 (Ne.symm n11)
  have z25 := Nat.le_trans z8 (Keep.of_wr W13).1
  have N13 := Fr.snoc X13 N0 g1
  show Go p.tables e below _ (T13.setTop (mkF m 17 #[.val (.ref a1), .val (.ref a2), .val (.int (0 : Int32)), .val (.int (0 : Int32)), .val .null, .unset] []))
  refine Go.st (fun U hr => XS.aloadN X13.here hx rfl (hb hby d4_17) rfl rfl hr) ?_
  show Go p.tables e below _ (T13.setTop (mkF m 18 #[.val (.ref a1), .val (.ref a2), .val (.int (0 : Int32)), .val (.int (0 : Int32)), .val .null, .unset] [(.ref a1)]))
  obtain ⟨x26, T26, h26, kk26, vb26, kc26, X26, e26, E26, hS26, hk26, hZ, hown, Ea26, Fc26, Fv26, Va26, -, -, Cc26, -, sx26, st26⟩ := ldcCH X13 hx hZ hown (hw _ (List.mem_of_getElem? (i := 38) rfl)) wS e13 hS2 hk17 hEL (List.mem_of_getElem? (i := 0) rfl) cr16.1 (vs := []) (z := (0 : Int32)) own_lit0 (by decide) rfl (g := (mkF m 18 #[.val (.ref a1), .val (.ref a2), .val (.int (0 : Int32)), .val (.int (0 : Int32)), .val .null, .unset] [(.ref a1)])) rfl (hb hby d4_18) (n := 0) (by decide) (by decide) (by decide) (by decide)
  refine Go.st st26 ?_
  have k27 := (k14).ext E26
  have sf28 := Cc26.safe (f18).lt sf15
  have f29 := (f18).ext E26
  have f30 := (f19).ext E26
  have f31 := (f20).ext E26
  have f32 := (f21).ext E26
  have f33 := (f22).ext E26
  have f34 := (f23).ext E26
  have f35 := (f24).ext E26
  have z36 := Nat.le_trans z25 E26.1
  have cr37 := (cr16).trans Cc26
  have n38 : a1 ≠ x26 := (sx26 a1 sf28).1
  have n39 : a1 ≠ vb26 := (sx26 a1 sf28).2
  have Vl26 : Arv Z h26 vb26 kc26 .byte (0 : Int32) (([] : List Int32).map Value.int) (.int (0 : Int32)) := Va26
  show Go p.tables e below _ (T26.setTop (mkF m 20 #[.val (.ref a1), .val (.ref a2), .val (.int (0 : Int32)), .val (.int (0 : Int32)), .val .null, .unset] [(.ref x26), (.ref a1)]))
  obtain ⟨T40, X40, e40, st40⟩ := getF X26 hx hZ hown (host := "") (Or.inl (hw _ (List.mem_of_getElem? (i := 34) rfl))) Via.refl e26 Fc26 (g := (mkF m 20 #[.val (.ref a1), .val (.ref a2), .val (.int (0 : Int32)), .val (.int (0 : Int32)), .val .null, .unset] [(.ref x26), (.ref a1)])) rfl rfl (hb hby d4_20)
  refine Go.st st40 ?_
  show Go p.tables e below _ (T40.setTop (mkF m 23 #[.val (.ref a1), .val (.ref a2), .val (.int (0 : Int32)), .val (.int (0 : Int32)), .val .null, .unset] [(.int (0 : Int32)), (.ref a1)]))
  obtain ⟨T41, h41, X41, e41, W41, st41⟩ := putFN X40 hx hZ hown (hw _ (List.mem_of_getElem? (i := 34) rfl)) Via.refl e40 f31 f29 (Or.inr ⟨(hw _ (List.mem_of_getElem? (i := 35) rfl)), rfl, hnm⟩) (hw _ (List.mem_of_getElem? (i := 10) rfl)) (ty := .byte) (v' := (.int (nar .byte (0 : Int32)))) (by decide) rfl (fits_nar_byte _) (g := (mkF m 23 #[.val (.ref a1), .val (.ref a2), .val (.int (0 : Int32)), .val (.int (0 : Int32)), .val .null, .unset] [(.int (0 : Int32)), (.ref a1)])) rfl rfl (hb hby d4_23)
  refine Go.st st41 ?_
  have k42 := (k27).wr W41 (Or.inl (List.mem_of_getElem? (i := 0) rfl))
  have sf43 := Safe.wr W41 sf28 cr37.1 sf28
  have cr44 := (cr37).trans (CHr.wr W41 sf28 cr37.1)
  have hk45 := Nat.le_trans hk26 (Keep.of_wr W41).1
  have f46 := (f29).wr W41
  have f47 := (f30).other W41 (Or.inr (slot_ne (Or.inr (hw _ (List.mem_of_getElem? (i := 37) rfl))) (Or.inr (hw _ (List.mem_of_getElem? (i := 35) rfl))) (by decide) (t := (.array .byte)) (t' := .byte) (by decide) (by decide)))
  have f48 := (f31).same W41
  have f49 := (f32).wr W41
  have f50 := (f33).other W41 (Or.inl (Ne.symm n10))
  have f51 := (f34).other W41 (Or.inl (Ne.symm n10))
  have f52 := (f35).other W41 (Ne.symm n11)
  have f53 := (Ea26).wr W41
  have f54 := (Fv26).other W41 (Or.inl (Ne.symm n38))
  have f55 := (Fc26).other W41 (Or.inl (Ne.symm n38))
  have f56 := (Vl26).other W41 (Ne.symm n39)
  have z57 := Nat.le_trans z36 (Keep.of_wr W41).1
  have N41 := Fr.snoc X41 N13 g1
  show Go p.tables e below _ (T41.setTop (mkF m 26 #[.val (.ref a1), .val (.ref a2), .val (.int (0 : Int32)), .val (.int (0 : Int32)), .val .null, .unset] []))
  have Cc := f48
  rw [show nar .byte (0 : Int32) = 0 from by decide] at Cc
  exact own_ret0S X41 hx Bd.notSynchronized Bd.returns (hb hby d4_26) hS26 hk45 cr44 hZ hEL hh e41 (by rw [e41]; exact ⟨rfl, N41, k42, _, _, f46, f47, Cc, f52, own_zz, own_enc0, Nat.zero_le _⟩) (by decide) (by decide)

def Q3z (Z : State) (a1 : Addr) (a2 : Addr) (kc : ClassId) (h0 : Heap) (n0 : Nat) (v : Option Value) (h : Heap) (L : List Loc) : Prop := v = none ∧ Fr n0 L ∧ Keep h0 h [a1] ∧ ∃ (va : Addr) (kb : ClassId), own_Str Z h a1 va kb 0 0 [] []
set_option maxRecDepth 65536 in
set_option maxHeartbeats 40000000 in
theorem rm3z (l : Launch) (Z : State) (a0 : Array Value) (hw : ∀ d ∈ tables_1, d.before a0 Z = true) (ws : List Jvm.Cond) (a1 : Addr) (a2 : Addr) (kc : ClassId) (h0 : Heap) (n0 : Nat) (Z0 : n0 ≤ h0.size) (E1 : Exa Z h0 a1 "java/lang/String") (F1 : Fld Z h0 a1 "java/lang/String" "value" "[B" .null) (F2 : Fld Z h0 a1 "java/lang/String" "coder" "B" (.int (0 : Int32))) (g1 : n0 ≤ a1) (V2 : Arv Z h0 a2 kc .char (0 : Int32) [] (.int (0 : Int32))) :
    MetFree l (⟨"java/lang/String", "<init>", "([C)V"⟩ : MethodName) (head1 (Jvm.Cond.code (⟨"java/lang/String", "<init>", "([C)V"⟩ : MethodName) jdk_42_method_3_code 2 none :: ws) ({ frames := 2, cells := 4, slots := 8, locals := 29 } : Room)) (fun a U => a = #[(.ref a1), (.ref a2)] ∧ Z.Warmed39 U.vm ∧ U.heap = h0 ∧ CHv Z consts_1 U.vm h0) (fun _ _ _ _ _ => True) (fun _ U o U' => ∃ v L, o = .returned v ∧ Q3z Z a1 a2 kc h0 n0 v U'.heap L ∧ CHr Z consts_1 U.vm U.heap U'.vm U'.heap ∧ ReturnedEndW U o U' L ({ frames := 2, cells := 4, slots := 8, locals := 29 } : Room).cells ({ frames := 2, cells := 4, slots := 8, locals := 29 } : Room).slots) := by
  refine MetFree.of_bodySF pn_3 hisR ?_
  intro p e s m args below meth c s₁ Bd hml0 hP hK
  obtain ⟨rfl, hZ0, hh, hCH⟩ := hP
  have hZ : Z.Warmed39 (s.setVm s.vm).vm := hZ0
  have hx := Bd.exec
  have hby := Bd.bytes
  have hml : c.maxLocals = 2 := hml0
  have hown : (s.setVm s.vm).vm.findClass "java/lang/String" = some m.cls := findClass_of_methodNamed Bd.named
  have hnm := (name_of_methodNamed Bd.named Bd.method).1
  have X0 : Stand p l e ({ frames := 2, cells := 4, slots := 8, locals := 29 } : Room) (s.setVm s.vm) m #[(.ref a1), (.ref a2)] below meth c s₁ [] 0 0 := Stand.of_body Bd
  have e0 : s₁.heap = h0 := by rw [← hh, Bd.state]; rfl
  have N0 := Fr.nil n0
  have hS0 : s.Since s.vm h0.size := (State.WarmedH.refl s).since _
  have hk0 : h0.size ≤ h0.size := Nat.le_refl _
  have CR0 := CHr.refl hCH
  have hEL := own_EW hw
  have wS := own_wS hw
  refine own_startS (Q := Q3z Z a1 a2 kc h0 n0) (own_cast (ef_3 m a1 a2) ?_)
  show Go p.tables e below _ (s₁.setTop (mkF m 0 #[.val (.ref a1), .val (.ref a2)] []))
  refine Go.st (fun U hr => XS.aloadN X0.here hx rfl (hb hby d3_0) rfl rfl hr) ?_
  show Go p.tables e below _ (s₁.setTop (mkF m 1 #[.val (.ref a1), .val (.ref a2)] [(.ref a1)]))
  refine Go.st (fun U hr => XS.aloadN X0.here hx rfl (hb hby d3_1) rfl rfl hr) ?_
  show Go p.tables e below _ (s₁.setTop (mkF m 2 #[.val (.ref a1), .val (.ref a2)] [(.ref a2), (.ref a1)]))
  refine Go.st (fun U hr => XS.iconst X0.here hx rfl (hb hby d3_2) hr) ?_
  show Go p.tables e below _ (s₁.setTop (mkF m 3 #[.val (.ref a1), .val (.ref a2)] [(.int (0 : Int32)), (.ref a2), (.ref a1)]))
  refine Go.st (fun U hr => XS.aloadN X0.here hx rfl (hb hby d3_3) rfl rfl hr) ?_
  show Go p.tables e below _ (s₁.setTop (mkF m 4 #[.val (.ref a1), .val (.ref a2)] [(.ref a2), (.int (0 : Int32)), (.ref a2), (.ref a1)]))
  obtain ⟨cl1, Ar1, qa1, Sa1, Na1, Ha1, Ga1⟩ := id V2
  refine Go.st (X0.arraylength hx (by rw [e0]; exact Ar1.1) (State.isArrayOf_alike hZ.alike Ar1.2.1) (g := (mkF m 4 #[.val (.ref a1), .val (.ref a2)] [(.ref a2), (.int (0 : Int32)), (.ref a2), (.ref a1)])) rfl rfl (hb hby d3_4)) ?_
  rw [len_of Sa1 Na1]
  show Go p.tables e below _ (s₁.setTop (mkF m 5 #[.val (.ref a1), .val (.ref a2)] [(.int (0 : Int32)), (.int (0 : Int32)), (.ref a2), (.ref a1)]))
  refine Go.st (fun U hr => XS.aconstNull X0.here hx rfl (hb hby d3_5) hr) ?_
  show Go p.tables e below _ (s₁.setTop (mkF m 6 #[.val (.ref a1), .val (.ref a2)] [.null, (.int (0 : Int32)), (.int (0 : Int32)), (.ref a2), (.ref a1)]))
  obtain ⟨_, _, ⟨T2, L2, k2, n2⟩, -, Xq2, hSq2, hgq2, ⟨Lc2, hQ2, l2, y2, z2, Cc2⟩, st2⟩ := X0.specialBackS hx (y := (⟨"java/lang/String", "<init>", "([CIILjava/lang/Void;)V"⟩ : MethodName)) rfl hown (mvT hZ (hw _ (List.mem_of_getElem? (i := 15) rfl))) (mvT hZ (hw _ (List.mem_of_getElem? (i := 16) rfl))) (mvT hZ (hw _ (List.mem_of_getElem? (i := 18) rfl))) (by decide) (backOfSH (W := 0) (rm4z l Z a0 hw [] a1 a2 h0 n0 Z0 E1 F1 F2 g1) hZ (hw _ (List.mem_of_getElem? (i := 18) rfl)) (hw _ (List.mem_of_getElem? (i := 11) rfl)) (by decide) (by decide) hEL CR0.1) (g := (mkF m 6 #[.val (.ref a1), .val (.ref a2)] [.null, (.int (0 : Int32)), (.int (0 : Int32)), (.ref a2), (.ref a1)])) rfl (by rw [hml]; rfl) (Steps.refl _) (a := a1) (argsL := [(.ref a2), (.int (0 : Int32)), (.int (0 : Int32)), .null]) (rest := []) (lenOf pd_16 rfl) rfl (by show 2 * 0 + _ ≤ _; exact Nat.le_of_eq rfl) (hb hby d3_6) (fun _ _ => ⟨rfl, e0, (by decide : 0 + 4 ≤ _), (by decide : 0 + 8 ≤ _)⟩)
  dsimp only [Pt.U, Pt.locs, Pt.cells, Pt.slots] at Xq2 hSq2 hgq2 l2 y2 z2 Cc2 st2 hQ2
  subst l2 y2 z2
  obtain ⟨X2, hS2, hZ, hown⟩ := rebS hS0 (by rw [e0]; exact hk0) Xq2 hSq2 hgq2 hZ hown
  have cr2 := (CR0).trans Cc2
  have hk2 : T2.heap.size ≤ T2.heap.size := Nat.le_refl _
  obtain ⟨rfl, Nq2, Kq2, Sq2⟩ := hQ2
  have N2 := Fr.app N0 Nq2
  refine Go.tr st2 ?_
  show Go p.tables e below _ (T2.setTop (mkF m 9 #[.val (.ref a1), .val (.ref a2)] []))
  exact own_ret0S X2 hx Bd.notSynchronized Bd.returns (hb hby d3_9) hS2 hk2 cr2 hZ hEL hh rfl ⟨rfl, N2, Kq2, Sq2⟩ (by decide) (by decide)
theorem d21_4 : decode jdk_43_method_47_code 4 = .ok (.ldc 151, 2) := by decide +kernel
theorem d21_6 : decode jdk_43_method_47_code 6 = .ok (.areturn, 1) := by decide +kernel
def Q21z (Z : State) (a1 : Addr) (p2 : Int32) (p3 : Int32)  (h0 : Heap) (n0 : Nat) (v : Option Value) (h : Heap) (L : List Loc) : Prop := ∃ r : Addr, v = some (.ref r) ∧ Fr n0 L ∧ Keep h0 h [] ∧ ∃ (va : Addr) (kb : ClassId), own_Str Z h r va kb 0 0 [] []
set_option maxRecDepth 65536 in
set_option maxHeartbeats 40000000 in
theorem rm21z (l : Launch) (Z : State) (a0 : Array Value) (hw : ∀ d ∈ tables_1, d.before a0 Z = true) (ws : List Jvm.Cond) (a1 : Addr) (p2 : Int32) (p3 : Int32)  (h0 : Heap) (n0 : Nat) (Z0 : n0 ≤ h0.size) (hp3 : p3 = 0) :
    MetFree l (⟨"java/lang/StringLatin1", "newString", "([BII)Ljava/lang/String;"⟩ : MethodName) (head1 (Jvm.Cond.code (⟨"java/lang/StringLatin1", "newString", "([BII)Ljava/lang/String;"⟩ : MethodName) jdk_43_method_47_code 3 (some (.object "java/lang/String")) :: ws) ({ frames := 0, cells := 2, slots := 4, locals := 0 } : Room)) (fun a U => a = #[(.ref a1), (.int p2), (.int p3)] ∧ Z.Warmed39 U.vm ∧ U.heap = h0 ∧ CHv Z consts_1 U.vm h0) (fun _ _ _ _ _ => True) (fun _ U o U' => ∃ v L, o = .returned v ∧ Q21z Z a1 p2 p3 h0 n0 v U'.heap L ∧ CHr Z consts_1 U.vm U.heap U'.vm U'.heap ∧ ReturnedEndW U o U' L ({ frames := 0, cells := 2, slots := 4, locals := 0 } : Room).cells ({ frames := 0, cells := 2, slots := 4, locals := 0 } : Room).slots) := by
  refine MetFree.of_bodySF pn_21 hisR ?_
  intro p e s m args below meth c s₁ Bd hml0 hP hK
  obtain ⟨rfl, hZ0, hh, hCH⟩ := hP
  have hZ : Z.Warmed39 (s.setVm s.vm).vm := hZ0
  have hx := Bd.exec
  have hby := Bd.bytes
  have hml : c.maxLocals = 3 := hml0
  have hown : (s.setVm s.vm).vm.findClass "java/lang/StringLatin1" = some m.cls := findClass_of_methodNamed Bd.named
  have hnm := (name_of_methodNamed Bd.named Bd.method).1
  have X0 : Stand p l e ({ frames := 0, cells := 2, slots := 4, locals := 0 } : Room) (s.setVm s.vm) m #[(.ref a1), (.int p2), (.int p3)] below meth c s₁ [] 0 0 := Stand.of_body Bd
  have e0 : s₁.heap = h0 := by rw [← hh, Bd.state]; rfl
  have N0 := Fr.nil n0
  have hS0 : s.Since s.vm h0.size := (State.WarmedH.refl s).since _
  have hk0 : h0.size ≤ h0.size := Nat.le_refl _
  have CR0 := CHr.refl hCH
  have hEL := own_EW hw
  have wS := own_wS hw
  refine own_startS (Q := Q21z Z a1 p2 p3 h0 n0) (own_cast (ef_21 m a1 p2 p3) ?_)
  show Go p.tables e below _ (s₁.setTop (mkF m 0 #[.val (.ref a1), .val (.int p2), .val (.int p3)] []))
  refine Go.st (fun U hr => XS.iloadN X0.here hx rfl (hb hby d21_0) rfl hr) ?_
  show Go p.tables e below _ (s₁.setTop (mkF m 1 #[.val (.ref a1), .val (.int p2), .val (.int p3)] [(.int p3)]))
  have hc1_1 : p3 = (0 : Int32) := hp3
  refine Go.st (fun U hr => XS.ifNo X0.here hx rfl (hb hby d21_1) rfl ((if0 _ _).trans (teq hc1_1).2) hr) ?_
  show Go p.tables e below _ (s₁.setTop (mkF m 4 #[.val (.ref a1), .val (.int p2), .val (.int p3)] []))
  obtain ⟨x2, T2, h2, kk2, vb2, kc2, X2, e2, E2, hS2, hk2, hZ, hown, Ea2, Fc2, Fv2, Va2, -, -, Cc2, -, sx2, st2⟩ := ldcCH X0 hx hZ hown (hw _ (List.mem_of_getElem? (i := 95) rfl)) wS e0 hS0 hk0 hEL (List.mem_of_getElem? (i := 1) rfl) CR0.1 (vs := []) (z := (0 : Int32)) own_lit0 (by decide) rfl (g := (mkF m 4 #[.val (.ref a1), .val (.int p2), .val (.int p3)] [])) rfl (hb hby d21_4) (n := 0) (by decide) (by decide) (by decide) (by decide)
  refine Go.st st2 ?_
  have k3 := ((Keep.refl h0 [])).ext E2
  have z4 := Nat.le_trans Z0 E2.1
  have cr5 := (CR0).trans Cc2
  have Vl2 : Arv Z h2 vb2 kc2 .byte (0 : Int32) (([] : List Int32).map Value.int) (.int (0 : Int32)) := Va2
  show Go p.tables e below _ (T2.setTop (mkF m 6 #[.val (.ref a1), .val (.int p2), .val (.int p3)] [(.ref x2)]))
  exact own_retAS X2 hx Bd.notSynchronized (t := (.object "java/lang/String")) Bd.returns rfl rfl rfl (hb hby d21_6) hS2 hk2 cr5 hZ hEL hh e2 (by rw [e2]; exact ⟨_, rfl, N0, k3, _, _, Ea2, Fv2, Fc2, Vl2, own_zz, own_enc0, Nat.zero_le _⟩) (by decide) (by decide)

def Q18z (Z : State) (a1 : Addr) (p2 : Int32) (p3 : Int32) (wc : Int32) (sf : Option Addr) (va : Addr) (kb : ClassId) (cd : Int32) (zn : Int32) (ys : List Int32) (cs : List Int32) (h0 : Heap) (n0 : Nat) (v : Option Value) (h : Heap) (L : List Loc) : Prop := ∃ r : Addr, v = some (.ref r) ∧ Fr n0 L ∧ Keep h0 h [] ∧ ∃ (va : Addr) (kb : ClassId), own_Str Z h r va kb 0 0 [] []
set_option maxRecDepth 65536 in
set_option maxHeartbeats 40000000 in
theorem rm18z (l : Launch) (Z : State) (a0 : Array Value) (hw : ∀ d ∈ tables_1, d.before a0 Z = true) (ws : List Jvm.Cond) (a1 : Addr) (p2 : Int32) (p3 : Int32) (wc : Int32) (sf : Option Addr) (va : Addr) (kb : ClassId) (cd : Int32) (zn : Int32) (ys : List Int32) (cs : List Int32) (h0 : Heap) (n0 : Nat) (Z0 : n0 ≤ h0.size) (hS : own_Sts Z h0 wc sf) (hT : own_Str Z h0 a1 va kb cd zn ys cs) (hb0 : p2.toInt = cs.length) (he0 : p3.toInt = cs.length) (hcd : cd = 0) (hpos : 0 < cs.length) :
    MetFree l (⟨"java/lang/String", "substring", "(II)Ljava/lang/String;"⟩ : MethodName) (head1 (Jvm.Cond.code (⟨"java/lang/String", "substring", "(II)Ljava/lang/String;"⟩ : MethodName) jdk_42_method_92_code 5 (some (.object "java/lang/String")) :: ws) ({ frames := 2, cells := 2, slots := 4, locals := 29 } : Room)) (fun a U => a = #[(.ref a1), (.int p2), (.int p3)] ∧ Z.Warmed39 U.vm ∧ U.heap = h0 ∧ CHv Z consts_1 U.vm h0) (fun _ _ _ _ _ => True) (fun _ U o U' => ∃ v L, o = .returned v ∧ Q18z Z a1 p2 p3 wc sf va kb cd zn ys cs h0 n0 v U'.heap L ∧ CHr Z consts_1 U.vm U.heap U'.vm U'.heap ∧ ReturnedEndW U o U' L ({ frames := 2, cells := 2, slots := 4, locals := 29 } : Room).cells ({ frames := 2, cells := 2, slots := 4, locals := 29 } : Room).slots) := by
  refine MetFree.of_bodySF pn_18 hisR ?_
  intro p e s m args below meth c s₁ Bd hml0 hP hK
  obtain ⟨rfl, hZ0, hh, hCH⟩ := hP
  have hZ : Z.Warmed39 (s.setVm s.vm).vm := hZ0
  have hx := Bd.exec
  have hby := Bd.bytes
  have hml : c.maxLocals = 5 := hml0
  have hown : (s.setVm s.vm).vm.findClass "java/lang/String" = some m.cls := findClass_of_methodNamed Bd.named
  have hnm := (name_of_methodNamed Bd.named Bd.method).1
  have X0 : Stand p l e ({ frames := 2, cells := 2, slots := 4, locals := 29 } : Room) (s.setVm s.vm) m #[(.ref a1), (.int p2), (.int p3)] below meth c s₁ [] 0 0 := Stand.of_body Bd
  have e0 : s₁.heap = h0 := by rw [← hh, Bd.state]; rfl
  have N0 := Fr.nil n0
  have hS0 : s.Since s.vm h0.size := (State.WarmedH.refl s).since _
  have hk0 : h0.size ≤ h0.size := Nat.le_refl _
  have CR0 := CHr.refl hCH
  have hEL := own_EW hw
  have wS := own_wS hw
  refine own_startS (Q := Q18z Z a1 p2 p3 wc sf va kb cd zn ys cs h0 n0) (own_cast (ef_18 m a1 p2 p3) ?_)
  obtain ⟨S1, hwc, S2, S3, S4, S5⟩ := id hS
  obtain ⟨E1, F1, F2, V1, hz, hen, h5⟩ := id hT
  have hl2 : ys.length ≤ 100 := by rcases hen.2 with ⟨_, q, _⟩ | ⟨_, q, _⟩ <;> omega
  have hln := own_len hen hz
  show Go p.tables e below _ (s₁.setTop (mkF m 0 #[.val (.ref a1), .val (.int p2), .val (.int p3), .unset, .unset] []))
  refine Go.st (fun U hr => XS.aloadN X0.here hx rfl (hb hby d18_0) rfl rfl hr) ?_
  show Go p.tables e below _ (s₁.setTop (mkF m 1 #[.val (.ref a1), .val (.int p2), .val (.int p3), .unset, .unset] [(.ref a1)]))
  obtain ⟨cq1, kq1, q1a, q1b, q1c⟩ := isOf hZ e0 E1
  obtain ⟨_, _, ⟨T1, L1, k1, n1⟩, -, X1, ⟨Lc1, hQ1, l1, y1, z1⟩, st1⟩ := X0.virtualBack hx (y := (⟨"java/lang/String", "length", "()I"⟩ : MethodName)) (z := (⟨"java/lang/String", "length", "()I"⟩ : MethodName)) hown (mvT hZ (hw _ (List.mem_of_getElem? (i := 85) rfl))) (mvT hZ (hw _ (List.mem_of_getElem? (i := 46) rfl))) (notFace_of_selects (args := #[]) (mvT hZ (hw _ (List.mem_of_getElem? (i := 48) rfl)))) (mvT hZ (hw _ (List.mem_of_getElem? (i := 48) rfl))) (mvT hZ (hw _ (List.mem_of_getElem? (i := 47) rfl))) (by decide) (backOf (W := 0) (rm10 l Z a0 hw [] a1 wc sf va kb cd zn ys cs h0 n0 Z0 ⟨S1, hwc, S2, S3, S4, S5⟩ ⟨E1, F1, F2, V1, hz, hen, h5⟩) hZ (hw _ (List.mem_of_getElem? (i := 49) rfl)) (hw _ (List.mem_of_getElem? (i := 11) rfl)) (by decide) (by decide)) q1a q1c (g := (mkF m 1 #[.val (.ref a1), .val (.int p2), .val (.int p3), .unset, .unset] [(.ref a1)])) rfl (by rw [hml]; rfl) (Steps.refl _) (argsL := []) (rest := []) (lenOf pd_23 rfl) rfl (by show 2 * 0 + _ ≤ _; exact Nat.le_of_eq rfl) (hb hby d18_1) (fun _ _ => ⟨rfl, e0, (by decide : 0 + 0 ≤ _), (by decide : 0 + 0 ≤ _)⟩)
  dsimp only [Pt.U, Pt.locs, Pt.cells, Pt.slots] at X1 l1 y1 z1 st1 hQ1
  subst l1 y1 z1
  obtain ⟨rfl, Nq1, ee1⟩ := hQ1
  have N1 := Fr.app N0 Nq1
  refine Go.tr st1 ?_
  show Go p.tables e below _ (T1.setTop (mkF m 4 #[.val (.ref a1), .val (.int p2), .val (.int p3), .unset, .unset] [(.int (zn >>> (cd &&& 31)))]))
  refine Go.st (fun U hr => XS.istoreN X1.here hx rfl (hb hby d18_4) rfl (l' := #[.val (.ref a1), .val (.int p2), .val (.int p3), .val (.int (zn >>> (cd &&& 31))), .unset]) rfl hr) ?_
  show Go p.tables e below _ (T1.setTop (mkF m 5 #[.val (.ref a1), .val (.int p2), .val (.int p3), .val (.int (zn >>> (cd &&& 31))), .unset] []))
  refine Go.st (fun U hr => XS.iloadN X1.here hx rfl (hb hby d18_5) rfl hr) ?_
  show Go p.tables e below _ (T1.setTop (mkF m 6 #[.val (.ref a1), .val (.int p2), .val (.int p3), .val (.int (zn >>> (cd &&& 31))), .unset] [(.int p2)]))
  refine Go.st (fun U hr => XS.iloadN X1.here hx rfl (hb hby d18_6) rfl hr) ?_
  show Go p.tables e below _ (T1.setTop (mkF m 7 #[.val (.ref a1), .val (.int p2), .val (.int p3), .val (.int (zn >>> (cd &&& 31))), .unset] [(.int p3), (.int p2)]))
  refine Go.st (fun U hr => XS.iloadN X1.here hx rfl (hb hby d18_7) rfl hr) ?_
  show Go p.tables e below _ (T1.setTop (mkF m 8 #[.val (.ref a1), .val (.int p2), .val (.int p3), .val (.int (zn >>> (cd &&& 31))), .unset] [(.int (zn >>> (cd &&& 31))), (.int p3), (.int p2)]))
  obtain ⟨_, _, ⟨T2, L2, k2, n2⟩, -, X2, ⟨Lc2, hQ2, l2, y2, z2⟩, st2⟩ := Jvm.LawKit.callS X1 hx (y := (⟨"java/lang/String", "checkBoundsBeginEnd", "(III)V"⟩ : MethodName)) hown (mvT hZ (hw _ (List.mem_of_getElem? (i := 86) rfl))) (mvT hZ (hw _ (List.mem_of_getElem? (i := 87) rfl))) (mvT hZ (hw _ (List.mem_of_getElem? (i := 11) rfl))) (mvT hZ (hw _ (List.mem_of_getElem? (i := 88) rfl))) (by decide) (backOf (W := 0) (rm19 l Z a0 hw [] p2 p3 (zn >>> (cd &&& 31)) wc sf h0 n0 Z0 ⟨S1, hwc, S2, S3, S4, S5⟩ (by omega)) hZ (hw _ (List.mem_of_getElem? (i := 88) rfl)) (hw _ (List.mem_of_getElem? (i := 11) rfl)) (by decide) (by decide)) (g := (mkF m 8 #[.val (.ref a1), .val (.int p2), .val (.int p3), .val (.int (zn >>> (cd &&& 31))), .unset] [(.int (zn >>> (cd &&& 31))), (.int p3), (.int p2)])) rfl (by rw [hml]; rfl) (argsL := [(.int p2), (.int p3), (.int (zn >>> (cd &&& 31)))]) (rest := []) (lenOf pd_24 rfl) rfl (by show 2 * 0 + _ ≤ _; exact Nat.le_of_eq rfl) (hb hby d18_8) (fun _ _ => ⟨rfl, ee1, (by decide : 0 + 0 ≤ _), (by decide : 0 + 0 ≤ _)⟩)
  dsimp only [Pt.U, Pt.locs, Pt.cells, Pt.slots] at X2 l2 y2 z2 st2 hQ2
  subst l2 y2 z2
  obtain ⟨rfl, Nq2, ee2⟩ := hQ2
  have N2 := Fr.app N1 Nq2
  refine Go.st st2 ?_
  show Go p.tables e below _ (T2.setTop (mkF m 11 #[.val (.ref a1), .val (.int p2), .val (.int p3), .val (.int (zn >>> (cd &&& 31))), .unset] []))
  refine Go.st (fun U hr => XS.iloadN X2.here hx rfl (hb hby d18_11) rfl hr) ?_
  show Go p.tables e below _ (T2.setTop (mkF m 12 #[.val (.ref a1), .val (.int p2), .val (.int p3), .val (.int (zn >>> (cd &&& 31))), .unset] [(.int p2)]))
  have hc12_3 : ¬ (p2 = (0 : Int32)) := (fun q => by rw [q, show (0 : Int32).toInt = 0 from by decide] at hb0; omega)
  refine Go.st (fun U hr => XS.ifYes X2.here hx rfl (pc0 := 12) (pc' := 22) rfl (hb hby d18_12) rfl ((if0 _ _).trans (feq hc12_3).2) (by decide) (by decide) hr) ?_
  show Go p.tables e below _ (T2.setTop (mkF m 22 #[.val (.ref a1), .val (.int p2), .val (.int p3), .val (.int (zn >>> (cd &&& 31))), .unset] []))
  refine Go.st (fun U hr => XS.iloadN X2.here hx rfl (hb hby d18_22) rfl hr) ?_
  show Go p.tables e below _ (T2.setTop (mkF m 23 #[.val (.ref a1), .val (.int p2), .val (.int p3), .val (.int (zn >>> (cd &&& 31))), .unset] [(.int p3)]))
  refine Go.st (fun U hr => XS.iloadN X2.here hx rfl (hb hby d18_23) rfl hr) ?_
  show Go p.tables e below _ (T2.setTop (mkF m 24 #[.val (.ref a1), .val (.int p2), .val (.int p3), .val (.int (zn >>> (cd &&& 31))), .unset] [(.int p2), (.int p3)]))
  refine Go.st (fun U hr => XS.isub X2.here hx rfl (hb hby d18_24) rfl hr) ?_
  show Go p.tables e below _ (T2.setTop (mkF m 25 #[.val (.ref a1), .val (.int p2), .val (.int p3), .val (.int (zn >>> (cd &&& 31))), .unset] [(.int (p3 - p2))]))
  refine Go.st (fun U hr => XS.istore X2.here hx rfl (hb hby d18_25) rfl (l' := #[.val (.ref a1), .val (.int p2), .val (.int p3), .val (.int (zn >>> (cd &&& 31))), .val (.int (p3 - p2))]) rfl hr) ?_
  show Go p.tables e below _ (T2.setTop (mkF m 27 #[.val (.ref a1), .val (.int p2), .val (.int p3), .val (.int (zn >>> (cd &&& 31))), .val (.int (p3 - p2))] []))
  refine Go.st (fun U hr => XS.aloadN X2.here hx rfl (hb hby d18_27) rfl rfl hr) ?_
  show Go p.tables e below _ (T2.setTop (mkF m 28 #[.val (.ref a1), .val (.int p2), .val (.int p3), .val (.int (zn >>> (cd &&& 31))), .val (.int (p3 - p2))] [(.ref a1)]))
  obtain ⟨cq4, kq4, q4a, q4b, q4c⟩ := isOf hZ ee2 E1
  obtain ⟨_, _, ⟨T4, L4, k4, n4⟩, -, X4, ⟨Lc4, hQ4, l4, y4, z4⟩, st4⟩ := X2.virtualBack hx (y := (⟨"java/lang/String", "isLatin1", "()Z"⟩ : MethodName)) (z := (⟨"java/lang/String", "isLatin1", "()Z"⟩ : MethodName)) hown (mvT hZ (hw _ (List.mem_of_getElem? (i := 60) rfl))) (mvT hZ (hw _ (List.mem_of_getElem? (i := 61) rfl))) (notFace_of_selects (args := #[]) (mvT hZ (hw _ (List.mem_of_getElem? (i := 63) rfl)))) (mvT hZ (hw _ (List.mem_of_getElem? (i := 63) rfl))) (mvT hZ (hw _ (List.mem_of_getElem? (i := 62) rfl))) (by decide) (backOf (W := 0) (rm13 l Z a0 hw [] a1 wc sf va kb cd zn ys cs h0 n0 Z0 ⟨S1, hwc, S2, S3, S4, S5⟩ ⟨E1, F1, F2, V1, hz, hen, h5⟩) hZ (hw _ (List.mem_of_getElem? (i := 64) rfl)) (hw _ (List.mem_of_getElem? (i := 11) rfl)) (by decide) (by decide)) q4a q4c (g := (mkF m 28 #[.val (.ref a1), .val (.int p2), .val (.int p3), .val (.int (zn >>> (cd &&& 31))), .val (.int (p3 - p2))] [(.ref a1)])) rfl (by rw [hml]; rfl) (Steps.refl _) (argsL := []) (rest := []) (lenOf pd_9 rfl) rfl (by show 2 * 0 + _ ≤ _; exact Nat.le_of_eq rfl) (hb hby d18_28) (fun _ _ => ⟨rfl, ee2, (by decide : 0 + 0 ≤ _), (by decide : 0 + 0 ≤ _)⟩)
  dsimp only [Pt.U, Pt.locs, Pt.cells, Pt.slots] at X4 l4 y4 z4 st4 hQ4
  subst l4 y4 z4
  obtain ⟨rfl, Nq4, ee4⟩ := hQ4
  have N4 := Fr.app N2 Nq4
  refine Go.tr st4 ?_
  show Go p.tables e below _ (T4.setTop (mkF m 31 #[.val (.ref a1), .val (.int p2), .val (.int p3), .val (.int (zn >>> (cd &&& 31))), .val (.int (p3 - p2))] [(.int (if cd = 0 then (1 : Int32) else 0))]))
  have hc31_5 : ¬ ((if cd = 0 then (1 : Int32) else 0) = (0 : Int32)) := (fun q => by rw [if_pos hcd] at q; exact absurd q (by decide))
  refine Go.st (fun U hr => XS.ifNo X4.here hx rfl (hb hby d18_31) rfl ((if0 _ _).trans (feq hc31_5).1) hr) ?_
  show Go p.tables e below _ (T4.setTop (mkF m 34 #[.val (.ref a1), .val (.int p2), .val (.int p3), .val (.int (zn >>> (cd &&& 31))), .val (.int (p3 - p2))] []))
  refine Go.st (fun U hr => XS.aloadN X4.here hx rfl (hb hby d18_34) rfl rfl hr) ?_
  show Go p.tables e below _ (T4.setTop (mkF m 35 #[.val (.ref a1), .val (.int p2), .val (.int p3), .val (.int (zn >>> (cd &&& 31))), .val (.int (p3 - p2))] [(.ref a1)]))
  obtain ⟨T6, X6, e6, st6⟩ := getF X4 hx hZ hown (host := "") (Or.inl (hw _ (List.mem_of_getElem? (i := 36) rfl))) Via.refl ee4 F1 (g := (mkF m 35 #[.val (.ref a1), .val (.int p2), .val (.int p3), .val (.int (zn >>> (cd &&& 31))), .val (.int (p3 - p2))] [(.ref a1)])) rfl rfl (hb hby d18_35)
  refine Go.st st6 ?_
  show Go p.tables e below _ (T6.setTop (mkF m 38 #[.val (.ref a1), .val (.int p2), .val (.int p3), .val (.int (zn >>> (cd &&& 31))), .val (.int (p3 - p2))] [(.ref va)]))
  refine Go.st (fun U hr => XS.iloadN X6.here hx rfl (hb hby d18_38) rfl hr) ?_
  show Go p.tables e below _ (T6.setTop (mkF m 39 #[.val (.ref a1), .val (.int p2), .val (.int p3), .val (.int (zn >>> (cd &&& 31))), .val (.int (p3 - p2))] [(.int p2), (.ref va)]))
  refine Go.st (fun U hr => XS.iload X6.here hx rfl (hb hby d18_39) rfl hr) ?_
  show Go p.tables e below _ (T6.setTop (mkF m 41 #[.val (.ref a1), .val (.int p2), .val (.int p3), .val (.int (zn >>> (cd &&& 31))), .val (.int (p3 - p2))] [(.int (p3 - p2)), (.int p2), (.ref va)]))
  obtain ⟨_, _, ⟨T7, L7, k7, n7⟩, -, Xq7, hSq7, hgq7, ⟨Lc7, hQ7, l7, y7, z7, Cc7⟩, st7⟩ := callSS X6 hx (y := (⟨"java/lang/StringLatin1", "newString", "([BII)Ljava/lang/String;"⟩ : MethodName)) hown (mvT hZ (hw _ (List.mem_of_getElem? (i := 92) rfl))) (mvT hZ (hw _ (List.mem_of_getElem? (i := 93) rfl))) (mvT hZ (hw _ (List.mem_of_getElem? (i := 67) rfl))) (mvT hZ (hw _ (List.mem_of_getElem? (i := 94) rfl))) (by decide) (backOfSH (W := 0) (rm21z l Z a0 hw [] va p2 (p3 - p2) h0 n0 Z0 (Int32.toInt_inj.mp (by have q := own_sub he0 hb0 (Nat.le_refl _); rw [show (0 : Int32).toInt = 0 from by decide]; omega))) hZ (hw _ (List.mem_of_getElem? (i := 94) rfl)) (hw _ (List.mem_of_getElem? (i := 67) rfl)) (by decide) (by decide) hEL CR0.1) (g := (mkF m 41 #[.val (.ref a1), .val (.int p2), .val (.int p3), .val (.int (zn >>> (cd &&& 31))), .val (.int (p3 - p2))] [(.int (p3 - p2)), (.int p2), (.ref va)])) rfl (by rw [hml]; rfl) (argsL := [(.ref va), (.int p2), (.int (p3 - p2))]) (rest := []) (lenOf pd_25 rfl) rfl (by show 2 * 0 + _ ≤ _; exact Nat.le_of_eq rfl) (hb hby d18_41) (fun _ _ => ⟨rfl, e6, (by decide : 0 + 2 ≤ _), (by decide : 0 + 4 ≤ _)⟩)
  dsimp only [Pt.U, Pt.locs, Pt.cells, Pt.slots] at Xq7 hSq7 hgq7 l7 y7 z7 Cc7 st7 hQ7
  subst l7 y7 z7
  obtain ⟨X7, hS7, hZ, hown⟩ := rebS hS0 (by rw [e6]; exact hk0) Xq7 hSq7 hgq7 hZ hown
  have cr7 := (CR0).trans Cc7
  have hk7 : T7.heap.size ≤ T7.heap.size := Nat.le_refl _
  obtain ⟨r7, rfl, Nq7, Kq7, Sq7⟩ := hQ7
  have N7 := Fr.app N4 Nq7
  refine Go.tr st7 ?_
  show Go p.tables e below _ (T7.setTop (mkF m 44 #[.val (.ref a1), .val (.int p2), .val (.int p3), .val (.int (zn >>> (cd &&& 31))), .val (.int (p3 - p2))] [(.ref r7)]))
  refine Go.st (fun U hr => XS.goto X7.here hx rfl (pc0 := 44) (pc' := 57) rfl (hb hby d18_44) (by decide) (by decide) hr) ?_
  show Go p.tables e below _ (T7.setTop (mkF m 57 #[.val (.ref a1), .val (.int p2), .val (.int p3), .val (.int (zn >>> (cd &&& 31))), .val (.int (p3 - p2))] [(.ref r7)]))
  exact own_retAS X7 hx Bd.notSynchronized (t := (.object "java/lang/String")) Bd.returns rfl rfl rfl (hb hby d18_57) hS7 hk7 cr7 hZ hEL hh rfl ⟨_, rfl, N7, Kq7, Sq7⟩ (by decide) (by decide)

def Q9z (Z : State) (a1 : Addr) (wc : Int32) (sf : Option Addr) (va : Addr) (kb : ClassId) (cd : Int32) (zn : Int32) (ys : List Int32) (cs : List Int32) (b : Nat) (n : Nat) (h0 : Heap) (n0 : Nat) (v : Option Value) (h : Heap) (L : List Loc) : Prop := ∃ r : Addr, v = some (.ref r) ∧ Fr n0 L ∧ Keep h0 h [] ∧ ∃ (va : Addr) (kb : ClassId), own_Str Z h r va kb 0 0 [] []
set_option maxRecDepth 65536 in
set_option maxHeartbeats 40000000 in
theorem rm9z (l : Launch) (Z : State) (a0 : Array Value) (hw : ∀ d ∈ tables_1, d.before a0 Z = true) (ws : List Jvm.Cond) (a1 : Addr) (wc : Int32) (sf : Option Addr) (va : Addr) (kb : ClassId) (cd : Int32) (zn : Int32) (ys : List Int32) (cs : List Int32) (b : Nat) (n : Nat) (h0 : Heap) (n0 : Nat) (Z0 : n0 ≤ h0.size) (hS : own_Sts Z h0 wc sf) (hT : own_Str Z h0 a1 va kb cd zn ys cs) (hmid : own_mid cs b n) (hall : b = cs.length ∧ n = 0) (hcd : cd = 0) (hpos : 0 < cs.length) :
    MetFree l (⟨"adjunct/core/XmlSpace", "strip", "(Ljava/lang/String;)Ljava/lang/String;"⟩ : MethodName) (head1 (Jvm.Cond.code (⟨"adjunct/core/XmlSpace", "strip", "(Ljava/lang/String;)Ljava/lang/String;"⟩ : MethodName) prog_65_method_3_code 3 (some (.object "java/lang/String")) :: ws) ({ frames := 8, cells := 2, slots := 4, locals := 170 } : Room)) (fun a U => a = #[(.ref a1)] ∧ Z.Warmed39 U.vm ∧ U.heap = h0 ∧ CHv Z consts_1 U.vm h0) (fun _ _ _ _ _ => True) (fun _ U o U' => ∃ v L, o = .returned v ∧ Q9z Z a1 wc sf va kb cd zn ys cs b n h0 n0 v U'.heap L ∧ CHr Z consts_1 U.vm U.heap U'.vm U'.heap ∧ ReturnedEndW U o U' L ({ frames := 8, cells := 2, slots := 4, locals := 170 } : Room).cells ({ frames := 8, cells := 2, slots := 4, locals := 170 } : Room).slots) := by
  refine MetFree.of_bodySF pn_9 hisR ?_
  intro p e s m args below meth c s₁ Bd hml0 hP hK
  obtain ⟨rfl, hZ0, hh, hCH⟩ := hP
  have hZ : Z.Warmed39 (s.setVm s.vm).vm := hZ0
  have hx := Bd.exec
  have hby := Bd.bytes
  have hml : c.maxLocals = 3 := hml0
  have hown : (s.setVm s.vm).vm.findClass "adjunct/core/XmlSpace" = some m.cls := findClass_of_methodNamed Bd.named
  have hnm := (name_of_methodNamed Bd.named Bd.method).1
  have X0 : Stand p l e ({ frames := 8, cells := 2, slots := 4, locals := 170 } : Room) (s.setVm s.vm) m #[(.ref a1)] below meth c s₁ [] 0 0 := Stand.of_body Bd
  have e0 : s₁.heap = h0 := by rw [← hh, Bd.state]; rfl
  have N0 := Fr.nil n0
  have hS0 : s.Since s.vm h0.size := (State.WarmedH.refl s).since _
  have hk0 : h0.size ≤ h0.size := Nat.le_refl _
  have CR0 := CHr.refl hCH
  have hEL := own_EW hw
  have wS := own_wS hw
  refine own_startS (Q := Q9z Z a1 wc sf va kb cd zn ys cs b n h0 n0) (own_cast (ef_9 m a1) ?_)
  obtain ⟨S1, hwc, S2, S3, S4, S5⟩ := id hS
  obtain ⟨E1, F1, F2, V1, hz, hen, h5⟩ := id hT
  have hl2 : ys.length ≤ 100 := by rcases hen.2 with ⟨_, q, _⟩ | ⟨_, q, _⟩ <;> omega
  have hln := own_len hen hz
  have hbn := hmid.1
  show Go p.tables e below _ (s₁.setTop (mkF m 0 #[.val (.ref a1), .unset, .unset] []))
  refine Go.st (fun U hr => XS.iconst X0.here hx rfl (hb hby d9_0) hr) ?_
  show Go p.tables e below _ (s₁.setTop (mkF m 1 #[.val (.ref a1), .unset, .unset] [(.int (0 : Int32))]))
  refine Go.st (fun U hr => XS.istoreN X0.here hx rfl (hb hby d9_1) rfl (l' := #[.val (.ref a1), .val (.int (0 : Int32)), .unset]) rfl hr) ?_
  show Go p.tables e below _ (s₁.setTop (mkF m 2 #[.val (.ref a1), .val (.int (0 : Int32)), .unset] []))
  refine Go.st (fun U hr => XS.aloadN X0.here hx rfl (hb hby d9_2) rfl rfl hr) ?_
  show Go p.tables e below _ (s₁.setTop (mkF m 3 #[.val (.ref a1), .val (.int (0 : Int32)), .unset] [(.ref a1)]))
  obtain ⟨cq1, kq1, q1a, q1b, q1c⟩ := isOf hZ e0 E1
  obtain ⟨_, _, ⟨T1, L1, k1, n1⟩, -, X1, ⟨Lc1, hQ1, l1, y1, z1⟩, st1⟩ := X0.virtualBack hx (y := (⟨"java/lang/String", "length", "()I"⟩ : MethodName)) (z := (⟨"java/lang/String", "length", "()I"⟩ : MethodName)) hown (mvT hZ (hw _ (List.mem_of_getElem? (i := 45) rfl))) (mvT hZ (hw _ (List.mem_of_getElem? (i := 46) rfl))) (notFace_of_selects (args := #[]) (mvT hZ (hw _ (List.mem_of_getElem? (i := 48) rfl)))) (mvT hZ (hw _ (List.mem_of_getElem? (i := 48) rfl))) (mvT hZ (hw _ (List.mem_of_getElem? (i := 47) rfl))) (by decide) (backOf (W := 0) (rm10 l Z a0 hw [] a1 wc sf va kb cd zn ys cs h0 n0 Z0 ⟨S1, hwc, S2, S3, S4, S5⟩ ⟨E1, F1, F2, V1, hz, hen, h5⟩) hZ (hw _ (List.mem_of_getElem? (i := 49) rfl)) (hw _ (List.mem_of_getElem? (i := 11) rfl)) (by decide) (by decide)) q1a q1c (g := (mkF m 3 #[.val (.ref a1), .val (.int (0 : Int32)), .unset] [(.ref a1)])) rfl (by rw [hml]; rfl) (Steps.refl _) (argsL := []) (rest := []) (lenOf pd_23 rfl) rfl (by show 2 * 0 + _ ≤ _; exact Nat.le_of_eq rfl) (hb hby d9_3) (fun _ _ => ⟨rfl, e0, (by decide : 0 + 0 ≤ _), (by decide : 0 + 0 ≤ _)⟩)
  dsimp only [Pt.U, Pt.locs, Pt.cells, Pt.slots] at X1 l1 y1 z1 st1 hQ1
  subst l1 y1 z1
  obtain ⟨rfl, Nq1, ee1⟩ := hQ1
  have N1 := Fr.app N0 Nq1
  refine Go.tr st1 ?_
  show Go p.tables e below _ (T1.setTop (mkF m 6 #[.val (.ref a1), .val (.int (0 : Int32)), .unset] [(.int (zn >>> (cd &&& 31)))]))
  refine Go.st (fun U hr => XS.istoreN X1.here hx rfl (hb hby d9_6) rfl (l' := #[.val (.ref a1), .val (.int (0 : Int32)), .val (.int (zn >>> (cd &&& 31)))]) rfl hr) ?_
  show Go p.tables e below _ (T1.setTop (mkF m 7 #[.val (.ref a1), .val (.int (0 : Int32)), .val (.int (zn >>> (cd &&& 31)))] []))
  have loop2 : ∀ (k e2 : Nat) (sb ei : Int32) (Tl : State) (lo : List Loc), k + (b + n) = e2 → e2 ≤ cs.length → sb.toInt = b → ei.toInt = e2 → (Stand p l e ({ frames := 8, cells := 2, slots := 4, locals := 170 } : Room) (s.setVm s.vm) m #[(.ref a1)] below meth c Tl lo 0 0) → Tl.heap = h0 → Fr n0 lo → Go p.tables e below (own_FinS Z consts_1 s below ({ frames := 8, cells := 2, slots := 4, locals := 170 } : Room).cells ({ frames := 8, cells := 2, slots := 4, locals := 170 } : Room).slots (Q9z Z a1 wc sf va kb cd zn ys cs b n h0 n0)) (Tl.setTop (mkF m 29 #[.val (.ref a1), .val (.int sb), .val (.int ei)] [])) := by
    intro k
    induction k with
    | zero =>
      intro e2 sb ei Tl lo hk he2 hsb hei Xl el Nl
      have ee : e2 = b + n := hk.symm.trans (Nat.zero_add _)
      refine Go.st (fun U hr => XS.iloadN Xl.here hx rfl (hb hby d9_29) rfl hr) ?_
      show Go p.tables e below _ (Tl.setTop (mkF m 30 #[.val (.ref a1), .val (.int sb), .val (.int ei)] [(.int ei)]))
      refine Go.st (fun U hr => XS.iloadN Xl.here hx rfl (hb hby d9_30) rfl hr) ?_
      show Go p.tables e below _ (Tl.setTop (mkF m 31 #[.val (.ref a1), .val (.int sb), .val (.int ei)] [(.int sb), (.int ei)]))
      have hc31_2 : ¬ (sb < ei) := fun q => by rw [own_lt32] at q; omega
      refine Go.st (fun U hr => XS.icmpYes Xl.here hx rfl (pc0 := 31) (pc' := 53) rfl (hb hby d9_31) rfl (flt hc31_2).2.2.2 (by decide) (by decide) hr) ?_
      show Go p.tables e below _ (Tl.setTop (mkF m 53 #[.val (.ref a1), .val (.int sb), .val (.int ei)] []))
      refine Go.st (fun U hr => XS.aloadN Xl.here hx rfl (hb hby d9_53) rfl rfl hr) ?_
      show Go p.tables e below _ (Tl.setTop (mkF m 54 #[.val (.ref a1), .val (.int sb), .val (.int ei)] [(.ref a1)]))
      refine Go.st (fun U hr => XS.iloadN Xl.here hx rfl (hb hby d9_54) rfl hr) ?_
      show Go p.tables e below _ (Tl.setTop (mkF m 55 #[.val (.ref a1), .val (.int sb), .val (.int ei)] [(.int sb), (.ref a1)]))
      refine Go.st (fun U hr => XS.iloadN Xl.here hx rfl (hb hby d9_55) rfl hr) ?_
      show Go p.tables e below _ (Tl.setTop (mkF m 56 #[.val (.ref a1), .val (.int sb), .val (.int ei)] [(.int ei), (.int sb), (.ref a1)]))
      obtain ⟨cq3, kq3, q3a, q3b, q3c⟩ := isOf hZ el E1
      obtain ⟨_, _, ⟨T3, L3, k3, n3⟩, -, Xq3, hSq3, hgq3, ⟨Lc3, hQ3, l3, y3, z3, Cc3⟩, st3⟩ := Xl.virtualBackS hx (y := (⟨"java/lang/String", "substring", "(II)Ljava/lang/String;"⟩ : MethodName)) (z := (⟨"java/lang/String", "substring", "(II)Ljava/lang/String;"⟩ : MethodName)) hown (mvT hZ (hw _ (List.mem_of_getElem? (i := 80) rfl))) (mvT hZ (hw _ (List.mem_of_getElem? (i := 81) rfl))) (notFace_of_selects (args := #[]) (mvT hZ (hw _ (List.mem_of_getElem? (i := 83) rfl)))) (mvT hZ (hw _ (List.mem_of_getElem? (i := 83) rfl))) (mvT hZ (hw _ (List.mem_of_getElem? (i := 82) rfl))) (by decide) (backOfSH (W := 0) (rm18z l Z a0 hw [] a1 sb ei wc sf va kb cd zn ys cs h0 n0 Z0 ⟨S1, hwc, S2, S3, S4, S5⟩ ⟨E1, F1, F2, V1, hz, hen, h5⟩ (by omega) (by omega) hcd hpos) hZ (hw _ (List.mem_of_getElem? (i := 84) rfl)) (hw _ (List.mem_of_getElem? (i := 11) rfl)) (by decide) (by decide) hEL CR0.1) q3a q3c (g := (mkF m 56 #[.val (.ref a1), .val (.int sb), .val (.int ei)] [(.int ei), (.int sb), (.ref a1)])) rfl (by rw [hml]; rfl) (Steps.refl _) (argsL := [(.int sb), (.int ei)]) (rest := []) (lenOf pd_26 rfl) rfl (by show 2 * 0 + _ ≤ _; exact Nat.le_of_eq rfl) (hb hby d9_56) (fun _ _ => ⟨rfl, el, (by decide : 0 + 2 ≤ _), (by decide : 0 + 4 ≤ _)⟩)
      dsimp only [Pt.U, Pt.locs, Pt.cells, Pt.slots] at Xq3 hSq3 hgq3 l3 y3 z3 Cc3 st3 hQ3
      subst l3 y3 z3
      obtain ⟨X3, hS3, hZ, hown⟩ := rebS hS0 (by rw [el]; exact hk0) Xq3 hSq3 hgq3 hZ hown
      have cr3 := (CR0).trans Cc3
      have hk3 : T3.heap.size ≤ T3.heap.size := Nat.le_refl _
      obtain ⟨r3, rfl, Nq3, Kq3, Sq3⟩ := hQ3
      have N3 := Fr.app Nl Nq3
      refine Go.tr st3 ?_
      show Go p.tables e below _ (T3.setTop (mkF m 59 #[.val (.ref a1), .val (.int sb), .val (.int ei)] [(.ref r3)]))
      exact own_retAS X3 hx Bd.notSynchronized (t := (.object "java/lang/String")) Bd.returns rfl rfl rfl (hb hby d9_59) hS3 hk3 cr3 hZ hEL hh rfl ⟨_, rfl, N3, Kq3, Sq3⟩ (by decide) (by decide)
    | succ k ih =>
      intro e2 sb ei Tl lo hk he2 hsb hei Xl el Nl
      obtain ⟨e2', rfl⟩ : ∃ z, e2 = z + 1 := own_l7 hk
      have hm := own_m1 hei
      refine Go.st (fun U hr => XS.iloadN Xl.here hx rfl (hb hby d9_29) rfl hr) ?_
      show Go p.tables e below _ (Tl.setTop (mkF m 30 #[.val (.ref a1), .val (.int sb), .val (.int ei)] [(.int ei)]))
      refine Go.st (fun U hr => XS.iloadN Xl.here hx rfl (hb hby d9_30) rfl hr) ?_
      show Go p.tables e below _ (Tl.setTop (mkF m 31 #[.val (.ref a1), .val (.int sb), .val (.int ei)] [(.int sb), (.int ei)]))
      have hc31_4 : sb < ei := own_l1 hsb hei hk
      refine Go.st (fun U hr => XS.icmpNo Xl.here hx rfl (hb hby d9_31) rfl (tlt hc31_4).2.2.2 hr) ?_
      show Go p.tables e below _ (Tl.setTop (mkF m 34 #[.val (.ref a1), .val (.int sb), .val (.int ei)] []))
      refine Go.st (fun U hr => XS.aloadN Xl.here hx rfl (hb hby d9_34) rfl rfl hr) ?_
      show Go p.tables e below _ (Tl.setTop (mkF m 35 #[.val (.ref a1), .val (.int sb), .val (.int ei)] [(.ref a1)]))
      refine Go.st (fun U hr => XS.iloadN Xl.here hx rfl (hb hby d9_35) rfl hr) ?_
      show Go p.tables e below _ (Tl.setTop (mkF m 36 #[.val (.ref a1), .val (.int sb), .val (.int ei)] [(.int ei), (.ref a1)]))
      refine Go.st (fun U hr => XS.iconst Xl.here hx rfl (hb hby d9_36) hr) ?_
      show Go p.tables e below _ (Tl.setTop (mkF m 37 #[.val (.ref a1), .val (.int sb), .val (.int ei)] [(.int (1 : Int32)), (.int ei), (.ref a1)]))
      refine Go.st (fun U hr => XS.isub Xl.here hx rfl (hb hby d9_37) rfl hr) ?_
      show Go p.tables e below _ (Tl.setTop (mkF m 38 #[.val (.ref a1), .val (.int sb), .val (.int ei)] [(.int (ei - (1 : Int32))), (.ref a1)]))
      obtain ⟨cq5, kq5, q5a, q5b, q5c⟩ := isOf hZ el E1
      obtain ⟨_, _, ⟨T5, L5, k5, n5⟩, -, X5, ⟨Lc5, hQ5, l5, y5, z5⟩, st5⟩ := Xl.virtualBack hx (y := (⟨"java/lang/String", "charAt", "(I)C"⟩ : MethodName)) (z := (⟨"java/lang/String", "charAt", "(I)C"⟩ : MethodName)) hown (mvT hZ (hw _ (List.mem_of_getElem? (i := 55) rfl))) (mvT hZ (hw _ (List.mem_of_getElem? (i := 56) rfl))) (notFace_of_selects (args := #[]) (mvT hZ (hw _ (List.mem_of_getElem? (i := 58) rfl)))) (mvT hZ (hw _ (List.mem_of_getElem? (i := 58) rfl))) (mvT hZ (hw _ (List.mem_of_getElem? (i := 57) rfl))) (by decide) (backOf (W := 0) (rm12 l Z a0 hw [] a1 (ei - (1 : Int32)) wc sf va kb cd zn ys cs e2' h0 n0 Z0 ⟨S1, hwc, S2, S3, S4, S5⟩ ⟨E1, F1, F2, V1, hz, hen, h5⟩ hm.1 he2) hZ (hw _ (List.mem_of_getElem? (i := 59) rfl)) (hw _ (List.mem_of_getElem? (i := 11) rfl)) (by decide) (by decide)) q5a q5c (g := (mkF m 38 #[.val (.ref a1), .val (.int sb), .val (.int ei)] [(.int (ei - (1 : Int32))), (.ref a1)])) rfl (by rw [hml]; rfl) (Steps.refl _) (argsL := [(.int (ei - (1 : Int32)))]) (rest := []) (lenOf pd_1 rfl) rfl (by show 2 * 0 + _ ≤ _; exact Nat.le_of_eq rfl) (hb hby d9_38) (fun _ _ => ⟨rfl, el, (by decide : 0 + 0 ≤ _), (by decide : 0 + 0 ≤ _)⟩)
      dsimp only [Pt.U, Pt.locs, Pt.cells, Pt.slots] at X5 l5 y5 z5 st5 hQ5
      subst l5 y5 z5
      obtain ⟨rfl, Nq5, ee5⟩ := hQ5
      have N5 := Fr.app Nl Nq5
      refine Go.tr st5 ?_
      show Go p.tables e below _ (T5.setTop (mkF m 41 #[.val (.ref a1), .val (.int sb), .val (.int ei)] [(.int (own_c cs e2'))]))
      obtain ⟨_, _, ⟨T6, L6, k6, n6⟩, -, X6, ⟨Lc6, hQ6, l6, y6, z6⟩, st6⟩ := Jvm.LawKit.callS X5 hx (y := (⟨"adjunct/core/XmlSpace", "is", "(C)Z"⟩ : MethodName)) hown (mvT hZ (hw _ (List.mem_of_getElem? (i := 77) rfl))) (mvT hZ (hw _ (List.mem_of_getElem? (i := 78) rfl))) (mvT hZ (hw _ (List.mem_of_getElem? (i := 43) rfl))) (mvT hZ (hw _ (List.mem_of_getElem? (i := 79) rfl))) (by decide) (backOf (W := 0) (rm17 l Z a0 hw [] (own_c cs e2') h0 n0 Z0) hZ (hw _ (List.mem_of_getElem? (i := 79) rfl)) (hw _ (List.mem_of_getElem? (i := 43) rfl)) (by decide) (by decide)) (g := (mkF m 41 #[.val (.ref a1), .val (.int sb), .val (.int ei)] [(.int (own_c cs e2'))])) rfl (by rw [hml]; rfl) (argsL := [(.int (own_c cs e2'))]) (rest := []) (lenOf pd_0 rfl) rfl (by show 2 * 0 + _ ≤ _; exact Nat.le_of_eq rfl) (hb hby d9_41) (fun _ _ => ⟨rfl, ee5, (by decide : 0 + 0 ≤ _), (by decide : 0 + 0 ≤ _)⟩)
      dsimp only [Pt.U, Pt.locs, Pt.cells, Pt.slots] at X6 l6 y6 z6 st6 hQ6
      subst l6 y6 z6
      obtain ⟨rfl, Nq6, ee6⟩ := hQ6
      have N6 := Fr.app N5 Nq6
      refine Go.st st6 ?_
      show Go p.tables e below _ (T6.setTop (mkF m 44 #[.val (.ref a1), .val (.int sb), .val (.int ei)] [(.int (own_is (own_c cs e2')))]))
      have hc44_7 : ¬ ((own_is (own_c cs e2')) = (0 : Int32)) := own_is01 (hmid.2.2.1 e2' (own_l3 hk) he2)
      refine Go.st (fun U hr => XS.ifNo X6.here hx rfl (hb hby d9_44) rfl ((if0 _ _).trans (feq hc44_7).1) hr) ?_
      show Go p.tables e below _ (T6.setTop (mkF m 47 #[.val (.ref a1), .val (.int sb), .val (.int ei)] []))
      refine Go.st (fun U hr => XS.iinc X6.here hx rfl (hb hby d9_47) rfl (l' := #[.val (.ref a1), .val (.int sb), .val (.int (ei + (-1 : Int32)))]) rfl hr) ?_
      show Go p.tables e below _ (T6.setTop (mkF m 50 #[.val (.ref a1), .val (.int sb), .val (.int (ei + (-1 : Int32)))] []))
      refine Go.st (fun U hr => XS.goto X6.here hx rfl (pc0 := 50) (pc' := 29) rfl (hb hby d9_50) (by decide) (by decide) hr) ?_
      show Go p.tables e below _ (T6.setTop (mkF m 29 #[.val (.ref a1), .val (.int sb), .val (.int (ei + (-1 : Int32)))] []))
      exact ih e2' _ _ T6 _ (own_l4 hk) (Nat.le_of_succ_le he2) hsb hm.2 X6 ee6 N6
  have loop1 : ∀ (k j : Nat) (si : Int32) (Tl : State) (lo : List Loc), k + j = b → si.toInt = j → (Stand p l e ({ frames := 8, cells := 2, slots := 4, locals := 170 } : Room) (s.setVm s.vm) m #[(.ref a1)] below meth c Tl lo 0 0) → Tl.heap = h0 → Fr n0 lo → Go p.tables e below (own_FinS Z consts_1 s below ({ frames := 8, cells := 2, slots := 4, locals := 170 } : Room).cells ({ frames := 8, cells := 2, slots := 4, locals := 170 } : Room).slots (Q9z Z a1 wc sf va kb cd zn ys cs b n h0 n0)) (Tl.setTop (mkF m 7 #[.val (.ref a1), .val (.int si), .val (.int (zn >>> (cd &&& 31)))] [])) := by
    intro k
    induction k with
    | zero =>
      intro j si Tl lo hk hsi Xl el Nl
      have ej : j = b := by omega
      refine Go.st (fun U hr => XS.iloadN Xl.here hx rfl (hb hby d9_7) rfl hr) ?_
      show Go p.tables e below _ (Tl.setTop (mkF m 8 #[.val (.ref a1), .val (.int si), .val (.int (zn >>> (cd &&& 31)))] [(.int si)]))
      refine Go.st (fun U hr => XS.iloadN Xl.here hx rfl (hb hby d9_8) rfl hr) ?_
      show Go p.tables e below _ (Tl.setTop (mkF m 9 #[.val (.ref a1), .val (.int si), .val (.int (zn >>> (cd &&& 31)))] [(.int (zn >>> (cd &&& 31))), (.int si)]))
      have hc9_8 : ¬ (si < (zn >>> (cd &&& 31))) := fun q => by rw [own_lt32] at q; omega
      refine Go.st (fun U hr => XS.icmpYes Xl.here hx rfl (pc0 := 9) (pc' := 29) rfl (hb hby d9_9) rfl (flt hc9_8).2.1 (by decide) (by decide) hr) ?_
      show Go p.tables e below _ (Tl.setTop (mkF m 29 #[.val (.ref a1), .val (.int si), .val (.int (zn >>> (cd &&& 31)))] []))
      exact loop2 (cs.length - (b + n)) _ _ _ Tl _ (by omega) (Nat.le_refl _) (by rw [hsi, ej]) hln Xl el Nl
    | succ k ih =>
      intro j si Tl lo hk hsi Xl el Nl
      refine Go.st (fun U hr => XS.iloadN Xl.here hx rfl (hb hby d9_7) rfl hr) ?_
      show Go p.tables e below _ (Tl.setTop (mkF m 8 #[.val (.ref a1), .val (.int si), .val (.int (zn >>> (cd &&& 31)))] [(.int si)]))
      refine Go.st (fun U hr => XS.iloadN Xl.here hx rfl (hb hby d9_8) rfl hr) ?_
      show Go p.tables e below _ (Tl.setTop (mkF m 9 #[.val (.ref a1), .val (.int si), .val (.int (zn >>> (cd &&& 31)))] [(.int (zn >>> (cd &&& 31))), (.int si)]))
      have hc9_9 : si < (zn >>> (cd &&& 31)) := by rw [own_lt32]; omega
      refine Go.st (fun U hr => XS.icmpNo Xl.here hx rfl (hb hby d9_9) rfl (tlt hc9_9).2.1 hr) ?_
      show Go p.tables e below _ (Tl.setTop (mkF m 12 #[.val (.ref a1), .val (.int si), .val (.int (zn >>> (cd &&& 31)))] []))
      refine Go.st (fun U hr => XS.aloadN Xl.here hx rfl (hb hby d9_12) rfl rfl hr) ?_
      show Go p.tables e below _ (Tl.setTop (mkF m 13 #[.val (.ref a1), .val (.int si), .val (.int (zn >>> (cd &&& 31)))] [(.ref a1)]))
      refine Go.st (fun U hr => XS.iloadN Xl.here hx rfl (hb hby d9_13) rfl hr) ?_
      show Go p.tables e below _ (Tl.setTop (mkF m 14 #[.val (.ref a1), .val (.int si), .val (.int (zn >>> (cd &&& 31)))] [(.int si), (.ref a1)]))
      obtain ⟨cq10, kq10, q10a, q10b, q10c⟩ := isOf hZ el E1
      obtain ⟨_, _, ⟨T10, L10, k10, n10⟩, -, X10, ⟨Lc10, hQ10, l10, y10, z10⟩, st10⟩ := Xl.virtualBack hx (y := (⟨"java/lang/String", "charAt", "(I)C"⟩ : MethodName)) (z := (⟨"java/lang/String", "charAt", "(I)C"⟩ : MethodName)) hown (mvT hZ (hw _ (List.mem_of_getElem? (i := 55) rfl))) (mvT hZ (hw _ (List.mem_of_getElem? (i := 56) rfl))) (notFace_of_selects (args := #[]) (mvT hZ (hw _ (List.mem_of_getElem? (i := 58) rfl)))) (mvT hZ (hw _ (List.mem_of_getElem? (i := 58) rfl))) (mvT hZ (hw _ (List.mem_of_getElem? (i := 57) rfl))) (by decide) (backOf (W := 0) (rm12 l Z a0 hw [] a1 si wc sf va kb cd zn ys cs j h0 n0 Z0 ⟨S1, hwc, S2, S3, S4, S5⟩ ⟨E1, F1, F2, V1, hz, hen, h5⟩ hsi (by omega)) hZ (hw _ (List.mem_of_getElem? (i := 59) rfl)) (hw _ (List.mem_of_getElem? (i := 11) rfl)) (by decide) (by decide)) q10a q10c (g := (mkF m 14 #[.val (.ref a1), .val (.int si), .val (.int (zn >>> (cd &&& 31)))] [(.int si), (.ref a1)])) rfl (by rw [hml]; rfl) (Steps.refl _) (argsL := [(.int si)]) (rest := []) (lenOf pd_1 rfl) rfl (by show 2 * 0 + _ ≤ _; exact Nat.le_of_eq rfl) (hb hby d9_14) (fun _ _ => ⟨rfl, el, (by decide : 0 + 0 ≤ _), (by decide : 0 + 0 ≤ _)⟩)
      dsimp only [Pt.U, Pt.locs, Pt.cells, Pt.slots] at X10 l10 y10 z10 st10 hQ10
      subst l10 y10 z10
      obtain ⟨rfl, Nq10, ee10⟩ := hQ10
      have N10 := Fr.app Nl Nq10
      refine Go.tr st10 ?_
      show Go p.tables e below _ (T10.setTop (mkF m 17 #[.val (.ref a1), .val (.int si), .val (.int (zn >>> (cd &&& 31)))] [(.int (own_c cs j))]))
      obtain ⟨_, _, ⟨T11, L11, k11, n11⟩, -, X11, ⟨Lc11, hQ11, l11, y11, z11⟩, st11⟩ := Jvm.LawKit.callS X10 hx (y := (⟨"adjunct/core/XmlSpace", "is", "(C)Z"⟩ : MethodName)) hown (mvT hZ (hw _ (List.mem_of_getElem? (i := 77) rfl))) (mvT hZ (hw _ (List.mem_of_getElem? (i := 78) rfl))) (mvT hZ (hw _ (List.mem_of_getElem? (i := 43) rfl))) (mvT hZ (hw _ (List.mem_of_getElem? (i := 79) rfl))) (by decide) (backOf (W := 0) (rm17 l Z a0 hw [] (own_c cs j) h0 n0 Z0) hZ (hw _ (List.mem_of_getElem? (i := 79) rfl)) (hw _ (List.mem_of_getElem? (i := 43) rfl)) (by decide) (by decide)) (g := (mkF m 17 #[.val (.ref a1), .val (.int si), .val (.int (zn >>> (cd &&& 31)))] [(.int (own_c cs j))])) rfl (by rw [hml]; rfl) (argsL := [(.int (own_c cs j))]) (rest := []) (lenOf pd_0 rfl) rfl (by show 2 * 0 + _ ≤ _; exact Nat.le_of_eq rfl) (hb hby d9_17) (fun _ _ => ⟨rfl, ee10, (by decide : 0 + 0 ≤ _), (by decide : 0 + 0 ≤ _)⟩)
      dsimp only [Pt.U, Pt.locs, Pt.cells, Pt.slots] at X11 l11 y11 z11 st11 hQ11
      subst l11 y11 z11
      obtain ⟨rfl, Nq11, ee11⟩ := hQ11
      have N11 := Fr.app N10 Nq11
      refine Go.st st11 ?_
      show Go p.tables e below _ (T11.setTop (mkF m 20 #[.val (.ref a1), .val (.int si), .val (.int (zn >>> (cd &&& 31)))] [(.int (own_is (own_c cs j)))]))
      have hc20_12 : ¬ ((own_is (own_c cs j)) = (0 : Int32)) := own_is01 (hmid.2.1 j (by omega))
      refine Go.st (fun U hr => XS.ifNo X11.here hx rfl (hb hby d9_20) rfl ((if0 _ _).trans (feq hc20_12).1) hr) ?_
      show Go p.tables e below _ (T11.setTop (mkF m 23 #[.val (.ref a1), .val (.int si), .val (.int (zn >>> (cd &&& 31)))] []))
      refine Go.st (fun U hr => XS.iinc X11.here hx rfl (hb hby d9_23) rfl (l' := #[.val (.ref a1), .val (.int (si + (1 : Int32))), .val (.int (zn >>> (cd &&& 31)))]) rfl hr) ?_
      show Go p.tables e below _ (T11.setTop (mkF m 26 #[.val (.ref a1), .val (.int (si + (1 : Int32))), .val (.int (zn >>> (cd &&& 31)))] []))
      refine Go.st (fun U hr => XS.goto X11.here hx rfl (pc0 := 26) (pc' := 7) rfl (hb hby d9_26) (by decide) (by decide) hr) ?_
      show Go p.tables e below _ (T11.setTop (mkF m 7 #[.val (.ref a1), .val (.int (si + (1 : Int32))), .val (.int (zn >>> (cd &&& 31)))] []))
      exact ih (j + 1) _ T11 _ (by omega) (own_p1 hsi (by omega)) X11 ee11 N11
  exact loop1 b 0 _ T1 _ (by omega) (by decide) X1 ee1 N1
theorem own_irem (x y : Int32) (hy : 0 < y.toInt) : x - (x / y) * y = x % y := by
  have h1 : y ≠ -1 := fun q => by subst q; exact absurd hy (by decide)
  apply Int32.toInt_inj.mp
  have e1 := Int32.toInt_div_of_ne_right x y h1
  have e2 := c_isub x (x / y * y)
  have e3 := c_imul (x / y) y
  have e4 : (x % y).toInt = x.toInt.tmod y.toInt := Int32.toInt_mod x y
  have e5 := Int.tmod_add_mul_tdiv x.toInt y.toInt
  rw [e1, Int.mul_comm] at e3
  have r1 := rng32 (x - x / y * y)
  have r2 := rng32 (x % y)
  omega
theorem own_rem (x y : Int32) (hx : 0 ≤ x.toInt) (hy : 0 < y.toInt) : 0 ≤ (x - (x / y) * y).toInt ∧ (x - (x / y) * y).toInt < y.toInt := by
  rw [own_irem x y hy, (c_irem x y y.toInt rfl).1 hx]
  exact ⟨Int.emod_nonneg _ (by omega), Int.emod_lt_of_pos _ hy⟩
theorem own_lawA (p1 : Int32) : ∃ A : Nat, ((p1 &&& (2147483647 : Int32)) - ((p1 &&& (2147483647 : Int32)) / (6 : Int32)) * (6 : Int32)).toInt = A ∧ A ≤ 5 := by
  have h0 := c_mask p1 2147483647 31 (by decide) (by decide)
  have h1 : 0 ≤ (p1 &&& (2147483647 : Int32)).toInt := by rw [h0]; exact Int.emod_nonneg _ (by decide)
  obtain ⟨h2, h3⟩ := own_rem (p1 &&& (2147483647 : Int32)) 6 h1 (by decide)
  rw [show (6 : Int32).toInt = 6 from by decide] at h3
  exact ⟨((p1 &&& (2147483647 : Int32)) - ((p1 &&& (2147483647 : Int32)) / (6 : Int32)) * (6 : Int32)).toInt.toNat, by omega, by omega⟩
theorem own_lawD {av : Int32} {A : Nat} (hA : av.toInt = A) (h5 : A ≤ 5) : ((6 : Int32) - av).toInt = 6 - A := by
  have h1 := c_isub 6 av
  rw [show (6 : Int32).toInt = 6 from by decide] at h1
  have := rng32 ((6 : Int32) - av)
  omega
theorem own_lawK (p1 : Int32) {av : Int32} {A : Nat} (hA : av.toInt = A) (h5 : A ≤ 5) : ∃ K : Nat, (((p1.toUInt32 >>> ((8 : Int32) &&& 31).toUInt32).toInt32) - (((p1.toUInt32 >>> ((8 : Int32) &&& 31).toUInt32).toInt32) / ((6 : Int32) - av)) * ((6 : Int32) - av)).toInt = K ∧ A + K ≤ 5 := by
  have hd := own_lawD hA h5
  have h0 := c_iushr p1 8 8 (by decide) (by decide)
  have h1 : 0 ≤ ((p1.toUInt32 >>> ((8 : Int32) &&& 31).toUInt32).toInt32).toInt := by rw [h0]; omega
  obtain ⟨h2, h3⟩ := own_rem ((p1.toUInt32 >>> ((8 : Int32) &&& 31).toUInt32).toInt32) ((6 : Int32) - av) h1 (by omega)
  exact ⟨(((p1.toUInt32 >>> ((8 : Int32) &&& 31).toUInt32).toInt32) - (((p1.toUInt32 >>> ((8 : Int32) &&& 31).toUInt32).toInt32) / ((6 : Int32) - av)) * ((6 : Int32) - av)).toInt.toNat, by omega, by omega⟩
/-- what pick gives at place n -/
theorem own_pk {i av kv x : Int32} {n A K : Nat} (hi : i.toInt = n) (hA : av.toInt = A) (hK : kv.toInt = K) (h5 : A + K ≤ 5) :
    (n < A → own_is (own_pick i av kv x) = 1) ∧ (A + K ≤ n → own_is (own_pick i av kv x) = 1) ∧ (0 < K → n = A → own_is (own_pick i av kv x) = 0) ∧ (0 < K → n = A + K - 1 → own_is (own_pick i av kv x) = 0) := by
  have hs := own_add hA hK (by omega)
  have hm : 0 < K → (av + kv - 1).toInt = ((A + K - 1 : Nat) : Int) := fun q => own_sub (n := 1) hs (by decide) (by omega)
  unfold own_pick
  refine ⟨fun q => ?_, fun q => ?_, fun q1 q2 => ?_, fun q1 q2 => ?_⟩
  · rw [if_pos (by rw [own_lt32]; omega)]; exact own_ws_is x
  · rw [if_neg (by rw [own_lt32]; omega), if_neg (by rw [own_lt32]; omega)]; exact own_ws_is x
  · rw [if_neg (by rw [own_lt32]; omega), if_pos (by rw [own_lt32]; omega), if_pos (Int32.toInt_inj.mp (by omega))]; exact own_non_is x
  · rw [if_neg (by rw [own_lt32]; omega), if_pos (by rw [own_lt32]; omega)]
    by_cases q : i = av
    · rw [if_pos q]; exact own_non_is x
    · rw [if_neg q, if_pos (Int32.toInt_inj.mp (by rw [hm q1]; omega))]; exact own_non_is x
theorem own_mid_pick {av kv q0 q1 q2 q3 q4 c0 c1 c2 c3 c4 : Int32} {A K : Nat} (hA : av.toInt = A) (hK : kv.toInt = K) (h5 : A + K ≤ 5)
    (e0 : c0 = own_pick 0 av kv q0) (e1 : c1 = own_pick 1 av kv q1) (e2 : c2 = own_pick 2 av kv q2) (e3 : c3 = own_pick 3 av kv q3) (e4 : c4 = own_pick 4 av kv q4) : own_mid [c0, c1, c2, c3, c4] A K := by
  have key : ∀ n, n < 5 → (n < A → own_is (own_c [c0, c1, c2, c3, c4] n) = 1) ∧ (A + K ≤ n → own_is (own_c [c0, c1, c2, c3, c4] n) = 1) ∧ (0 < K → n = A → own_is (own_c [c0, c1, c2, c3, c4] n) = 0) ∧ (0 < K → n = A + K - 1 → own_is (own_c [c0, c1, c2, c3, c4] n) = 0) := by
    subst e0 e1 e2 e3 e4
    exact own_five (own_pk (i := 0) (n := 0) (x := q0) (by decide) hA hK h5) (own_pk (i := 1) (n := 1) (x := q1) (by decide) hA hK h5) (own_pk (i := 2) (n := 2) (x := q2) (by decide) hA hK h5) (own_pk (i := 3) (n := 3) (x := q3) (by decide) hA hK h5) (own_pk (i := 4) (n := 4) (x := q4) (by decide) hA hK h5)
  refine ⟨h5, fun i hi => (key i (by omega)).1 hi, fun i h1 h2 => (key i h2).2.1 h1, fun h => ⟨(key A (by omega)).2.2.1 h rfl, (key (A + K - 1) (by omega)).2.2.2 h rfl⟩⟩

theorem pn_0 : plainFor x = true := plainFor_of_name (by first | (simp [plainName, overriddenIn]; done) | decide +kernel)
theorem ef_0 (m : MethodId) (x0 : Int32) (x1 : Int32) (x2 : Int32) (x3 : Int32) (x4 : Int32) (x5 : Int32) : entryFrame m #[(.int x0), (.int x1), (.int x2), (.int x3), (.int x4), (.int x5)] maxLocals = mkF m 0 #[.val (.int x0), .val (.int x1), .val (.int x2), .val (.int x3), .val (.int x4), .val (.int x5), .unset, .unset, .unset, .unset, .unset, .unset, .unset] [] := by first | (simp [entryFrame, mkF, argsToLocals, Value.category, maxLocals]; done) | rfl
theorem pd_27 : parseMethodDescriptor "(IIII)C" = some ⟨[.int, .int, .int, .int], some .char⟩ := by decide +kernel
theorem pd_28 : parseMethodDescriptor "([C)V" = some ⟨[(.array .char)], none⟩ := by decide +kernel
theorem pd_29 : parseMethodDescriptor "(Ljava/lang/String;)Ljava/lang/String;" = some ⟨[(.object "java/lang/String")], some (.object "java/lang/String")⟩ := by decide +kernel
theorem pd_30 : parseMethodDescriptor "(Ljava/lang/String;Ljava/lang/String;II)Z" = some ⟨[(.object "java/lang/String"), (.object "java/lang/String"), .int, .int], some .boolean⟩ := by decide +kernel
def Q0 (Z : State) (p1 : Int32) (p2 : Int32) (p3 : Int32) (p4 : Int32) (p5 : Int32) (p6 : Int32) (wc : Int32) (sf : Option Addr) (h0 : Heap) (n0 : Nat) (v : Option Value) (h : Heap) (L : List Loc) : Prop := v = some (.int (1 : Int32)) ∧ Fr n0 L
set_option maxRecDepth 65536 in
set_option maxHeartbeats 40000000 in
theorem rm0 (l : Launch) (Z : State) (a0 : Array Value) (hw : ∀ d ∈ tables_1, d.before a0 Z = true) (ws : List Jvm.Cond) (p1 : Int32) (p2 : Int32) (p3 : Int32) (p4 : Int32) (p5 : Int32) (p6 : Int32) (wc : Int32) (sf : Option Addr) (h0 : Heap) (n0 : Nat) (Z0 : n0 ≤ h0.size) (hS : own_Sts Z h0 wc sf) :
    MetFree l x (head1 (Jvm.Cond.code x code maxLocals ret :: ws) room_1) (fun a U => a = #[(.int p1), (.int p2), (.int p3), (.int p4), (.int p5), (.int p6)] ∧ Z.Warmed39 U.vm ∧ U.heap = h0 ∧ CHv Z consts_1 U.vm h0) (fun _ _ _ _ _ => True) (fun _ U o U' => ∃ v L, o = .returned v ∧ Q0 Z p1 p2 p3 p4 p5 p6 wc sf h0 n0 v U'.heap L ∧ CHr Z consts_1 U.vm U.heap U'.vm U'.heap ∧ ReturnedEndW U o U' L room_1.cells room_1.slots) := by
  refine MetFree.of_bodySF pn_0 hisR ?_
  intro p e s m args below meth c s₁ Bd hml0 hP hK
  obtain ⟨rfl, hZ0, hh, hCH⟩ := hP
  have hZ : Z.Warmed39 (s.setVm s.vm).vm := hZ0
  have hx := Bd.exec
  have hby := Bd.bytes
  have hml : c.maxLocals = 13 := hml0
  have hown : (s.setVm s.vm).vm.findClass "adjunct/core/XmlSpaceStripPinLaw" = some m.cls := findClass_of_methodNamed Bd.named
  have hnm := (name_of_methodNamed Bd.named Bd.method).1
  have X0 : Stand p l e room_1 (s.setVm s.vm) m #[(.int p1), (.int p2), (.int p3), (.int p4), (.int p5), (.int p6)] below meth c s₁ [] 0 0 := Stand.of_body Bd
  have e0 : s₁.heap = h0 := by rw [← hh, Bd.state]; rfl
  have N0 := Fr.nil n0
  have hS0 : s.Since s.vm h0.size := (State.WarmedH.refl s).since _
  have hk0 : h0.size ≤ h0.size := Nat.le_refl _
  have CR0 := CHr.refl hCH
  have hEL := own_EW hw
  have wS := own_wS hw
  refine own_startS (Q := Q0 Z p1 p2 p3 p4 p5 p6 wc sf h0 n0) (own_cast (ef_0 m p1 p2 p3 p4 p5 p6) ?_)
  obtain ⟨S1, hwc, S2, S3, S4, S5⟩ := id hS
  show Go p.tables e below _ (s₁.setTop (mkF m 0 #[.val (.int p1), .val (.int p2), .val (.int p3), .val (.int p4), .val (.int p5), .val (.int p6), .unset, .unset, .unset, .unset, .unset, .unset, .unset] []))
  refine Go.st (fun U hr => XS.iloadN X0.here hx rfl (hb hby at_0) rfl hr) ?_
  show Go p.tables e below _ (s₁.setTop (mkF m 1 #[.val (.int p1), .val (.int p2), .val (.int p3), .val (.int p4), .val (.int p5), .val (.int p6), .unset, .unset, .unset, .unset, .unset, .unset, .unset] [(.int p1)]))
  refine Go.st (X0.ldcInt hx hown (mvT hZ (hw _ (List.mem_of_getElem? (i := 0) rfl))) (g := (mkF m 1 #[.val (.int p1), .val (.int p2), .val (.int p3), .val (.int p4), .val (.int p5), .val (.int p6), .unset, .unset, .unset, .unset, .unset, .unset, .unset] [(.int p1)])) rfl (hb hby at_1)) ?_
  show Go p.tables e below _ (s₁.setTop (mkF m 3 #[.val (.int p1), .val (.int p2), .val (.int p3), .val (.int p4), .val (.int p5), .val (.int p6), .unset, .unset, .unset, .unset, .unset, .unset, .unset] [(.int (2147483647 : Int32)), (.int p1)]))
  refine Go.st (fun U hr => XS.iand X0.here hx rfl (hb hby at_3) rfl hr) ?_
  show Go p.tables e below _ (s₁.setTop (mkF m 4 #[.val (.int p1), .val (.int p2), .val (.int p3), .val (.int p4), .val (.int p5), .val (.int p6), .unset, .unset, .unset, .unset, .unset, .unset, .unset] [(.int (p1 &&& (2147483647 : Int32)))]))
  refine Go.st (fun U hr => XS.bipush X0.here hx rfl (hb hby at_4) hr) ?_
  show Go p.tables e below _ (s₁.setTop (mkF m 6 #[.val (.int p1), .val (.int p2), .val (.int p3), .val (.int p4), .val (.int p5), .val (.int p6), .unset, .unset, .unset, .unset, .unset, .unset, .unset] [(.int (6 : Int32)), (.int (p1 &&& (2147483647 : Int32)))]))
  refine Go.st (fun U hr => XS.irem X0.here hx rfl (hb hby at_6) rfl (by decide) hr) ?_
  show Go p.tables e below _ (s₁.setTop (mkF m 7 #[.val (.int p1), .val (.int p2), .val (.int p3), .val (.int p4), .val (.int p5), .val (.int p6), .unset, .unset, .unset, .unset, .unset, .unset, .unset] [(.int ((p1 &&& (2147483647 : Int32)) - ((p1 &&& (2147483647 : Int32)) / (6 : Int32)) * (6 : Int32)))]))
  obtain ⟨av, hav⟩ : ∃ z, z = ((p1 &&& (2147483647 : Int32)) - ((p1 &&& (2147483647 : Int32)) / (6 : Int32)) * (6 : Int32)) := ⟨_, rfl⟩
  rw [← hav]
  obtain ⟨A, hA, hA5⟩ := own_lawA p1
  rw [← hav] at hA
  show Go p.tables e below _ (s₁.setTop (mkF m 7 #[.val (.int p1), .val (.int p2), .val (.int p3), .val (.int p4), .val (.int p5), .val (.int p6), .unset, .unset, .unset, .unset, .unset, .unset, .unset] [(.int av)]))
  refine Go.st (fun U hr => XS.istore X0.here hx rfl (hb hby at_7) rfl (l' := #[.val (.int p1), .val (.int p2), .val (.int p3), .val (.int p4), .val (.int p5), .val (.int p6), .val (.int av), .unset, .unset, .unset, .unset, .unset, .unset]) rfl hr) ?_
  show Go p.tables e below _ (s₁.setTop (mkF m 9 #[.val (.int p1), .val (.int p2), .val (.int p3), .val (.int p4), .val (.int p5), .val (.int p6), .val (.int av), .unset, .unset, .unset, .unset, .unset, .unset] []))
  refine Go.st (fun U hr => XS.iloadN X0.here hx rfl (hb hby at_9) rfl hr) ?_
  show Go p.tables e below _ (s₁.setTop (mkF m 10 #[.val (.int p1), .val (.int p2), .val (.int p3), .val (.int p4), .val (.int p5), .val (.int p6), .val (.int av), .unset, .unset, .unset, .unset, .unset, .unset] [(.int p1)]))
  refine Go.st (fun U hr => XS.bipush X0.here hx rfl (hb hby at_10) hr) ?_
  show Go p.tables e below _ (s₁.setTop (mkF m 12 #[.val (.int p1), .val (.int p2), .val (.int p3), .val (.int p4), .val (.int p5), .val (.int p6), .val (.int av), .unset, .unset, .unset, .unset, .unset, .unset] [(.int (8 : Int32)), (.int p1)]))
  refine Go.st (fun U hr => XS.iushr X0.here hx rfl (hb hby at_12) rfl hr) ?_
  show Go p.tables e below _ (s₁.setTop (mkF m 13 #[.val (.int p1), .val (.int p2), .val (.int p3), .val (.int p4), .val (.int p5), .val (.int p6), .val (.int av), .unset, .unset, .unset, .unset, .unset, .unset] [(.int ((p1.toUInt32 >>> ((8 : Int32) &&& 31).toUInt32).toInt32))]))
  refine Go.st (fun U hr => XS.bipush X0.here hx rfl (hb hby at_13) hr) ?_
  show Go p.tables e below _ (s₁.setTop (mkF m 15 #[.val (.int p1), .val (.int p2), .val (.int p3), .val (.int p4), .val (.int p5), .val (.int p6), .val (.int av), .unset, .unset, .unset, .unset, .unset, .unset] [(.int (6 : Int32)), (.int ((p1.toUInt32 >>> ((8 : Int32) &&& 31).toUInt32).toInt32))]))
  refine Go.st (fun U hr => XS.iload X0.here hx rfl (hb hby at_15) rfl hr) ?_
  show Go p.tables e below _ (s₁.setTop (mkF m 17 #[.val (.int p1), .val (.int p2), .val (.int p3), .val (.int p4), .val (.int p5), .val (.int p6), .val (.int av), .unset, .unset, .unset, .unset, .unset, .unset] [(.int av), (.int (6 : Int32)), (.int ((p1.toUInt32 >>> ((8 : Int32) &&& 31).toUInt32).toInt32))]))
  refine Go.st (fun U hr => XS.isub X0.here hx rfl (hb hby at_17) rfl hr) ?_
  show Go p.tables e below _ (s₁.setTop (mkF m 18 #[.val (.int p1), .val (.int p2), .val (.int p3), .val (.int p4), .val (.int p5), .val (.int p6), .val (.int av), .unset, .unset, .unset, .unset, .unset, .unset] [(.int ((6 : Int32) - av)), (.int ((p1.toUInt32 >>> ((8 : Int32) &&& 31).toUInt32).toInt32))]))
  refine Go.st (fun U hr => XS.irem X0.here hx rfl (hb hby at_18) rfl (fun q => by have z := own_lawD hA hA5; rw [q, show (0 : Int32).toInt = 0 from by decide] at z; omega) hr) ?_
  show Go p.tables e below _ (s₁.setTop (mkF m 19 #[.val (.int p1), .val (.int p2), .val (.int p3), .val (.int p4), .val (.int p5), .val (.int p6), .val (.int av), .unset, .unset, .unset, .unset, .unset, .unset] [(.int (((p1.toUInt32 >>> ((8 : Int32) &&& 31).toUInt32).toInt32) - (((p1.toUInt32 >>> ((8 : Int32) &&& 31).toUInt32).toInt32) / ((6 : Int32) - av)) * ((6 : Int32) - av)))]))
  obtain ⟨kv, hkv⟩ : ∃ z, z = (((p1.toUInt32 >>> ((8 : Int32) &&& 31).toUInt32).toInt32) - (((p1.toUInt32 >>> ((8 : Int32) &&& 31).toUInt32).toInt32) / ((6 : Int32) - av)) * ((6 : Int32) - av)) := ⟨_, rfl⟩
  rw [← hkv]
  obtain ⟨K, hKv, hAK⟩ := own_lawK p1 hA hA5
  rw [← hkv] at hKv
  show Go p.tables e below _ (s₁.setTop (mkF m 19 #[.val (.int p1), .val (.int p2), .val (.int p3), .val (.int p4), .val (.int p5), .val (.int p6), .val (.int av), .unset, .unset, .unset, .unset, .unset, .unset] [(.int kv)]))
  refine Go.st (fun U hr => XS.istore X0.here hx rfl (hb hby at_19) rfl (l' := #[.val (.int p1), .val (.int p2), .val (.int p3), .val (.int p4), .val (.int p5), .val (.int p6), .val (.int av), .val (.int kv), .unset, .unset, .unset, .unset, .unset]) rfl hr) ?_
  show Go p.tables e below _ (s₁.setTop (mkF m 21 #[.val (.int p1), .val (.int p2), .val (.int p3), .val (.int p4), .val (.int p5), .val (.int p6), .val (.int av), .val (.int kv), .unset, .unset, .unset, .unset, .unset] []))
  refine Go.st (fun U hr => XS.iconst X0.here hx rfl (hb hby at_21) hr) ?_
  show Go p.tables e below _ (s₁.setTop (mkF m 22 #[.val (.int p1), .val (.int p2), .val (.int p3), .val (.int p4), .val (.int p5), .val (.int p6), .val (.int av), .val (.int kv), .unset, .unset, .unset, .unset, .unset] [(.int (5 : Int32))]))
  obtain ⟨T1, h1, k1, X1, e1, E1, A1, st1⟩ := newP X0 hx hZ (hw _ (List.mem_of_getElem? (i := 1) rfl)) e0 (g := (mkF m 22 #[.val (.int p1), .val (.int p2), .val (.int p3), .val (.int p4), .val (.int p5), .val (.int p6), .val (.int av), .val (.int kv), .unset, .unset, .unset, .unset, .unset] [(.int (5 : Int32))])) rfl (hb hby at_22) rfl (by decide) (cap := 5) (by decide) (by decide) (by decide) (by decide)
  obtain ⟨b1, g1⟩ : ∃ z, z = h0.size := ⟨_, rfl⟩
  rw [← g1] at A1 st1
  refine Go.st st1 ?_
  have gb1 : n0 ≤ b1 := Nat.le_trans Z0 (Nat.le_of_eq g1.symm)
  have cr2 := (CR0).trans (CHr.ext E1 CR0.1)
  have hk3 := Nat.le_trans hk0 E1.1
  have f4 := (S1).ext E1
  have f5 := (S2).ext E1
  have f6 := (S3).ext E1
  have f7 := (S4).ext E1
  have f8 := (S5).ext E1
  have z9 := Nat.le_trans Z0 E1.1
  have sn1 := Safe.ext E1 CR0.1 (Safe.new (Nat.le_of_eq g1.symm))
  have V1 : Arv Z h1 b1 k1 .char (5 : Int32) [(.int (0 : Int32)), (.int (0 : Int32)), (.int (0 : Int32)), (.int (0 : Int32)), (.int (0 : Int32))] (.int (0 : Int32)) := (Arv.new A1 (by decide)).pad (pad_rep [] (.int (0 : Int32)) 5)
  show Go p.tables e below _ (T1.setTop (mkF m 24 #[.val (.int p1), .val (.int p2), .val (.int p3), .val (.int p4), .val (.int p5), .val (.int p6), .val (.int av), .val (.int kv), .unset, .unset, .unset, .unset, .unset] [(.ref b1)]))
  refine Go.st (fun U hr => XS.astore X1.here hx rfl (hb hby at_24) rfl rfl (l' := #[.val (.int p1), .val (.int p2), .val (.int p3), .val (.int p4), .val (.int p5), .val (.int p6), .val (.int av), .val (.int kv), .val (.ref b1), .unset, .unset, .unset, .unset]) rfl hr) ?_
  show Go p.tables e below _ (T1.setTop (mkF m 26 #[.val (.int p1), .val (.int p2), .val (.int p3), .val (.int p4), .val (.int p5), .val (.int p6), .val (.int av), .val (.int kv), .val (.ref b1), .unset, .unset, .unset, .unset] []))
  refine Go.st (fun U hr => XS.aload X1.here hx rfl (hb hby at_26) rfl rfl hr) ?_
  show Go p.tables e below _ (T1.setTop (mkF m 28 #[.val (.int p1), .val (.int p2), .val (.int p3), .val (.int p4), .val (.int p5), .val (.int p6), .val (.int av), .val (.int kv), .val (.ref b1), .unset, .unset, .unset, .unset] [(.ref b1)]))
  refine Go.st (fun U hr => XS.iconst X1.here hx rfl (hb hby at_28) hr) ?_
  show Go p.tables e below _ (T1.setTop (mkF m 29 #[.val (.int p1), .val (.int p2), .val (.int p3), .val (.int p4), .val (.int p5), .val (.int p6), .val (.int av), .val (.int kv), .val (.ref b1), .unset, .unset, .unset, .unset] [(.int (0 : Int32)), (.ref b1)]))
  refine Go.st (fun U hr => XS.iconst X1.here hx rfl (hb hby at_29) hr) ?_
  show Go p.tables e below _ (T1.setTop (mkF m 30 #[.val (.int p1), .val (.int p2), .val (.int p3), .val (.int p4), .val (.int p5), .val (.int p6), .val (.int av), .val (.int kv), .val (.ref b1), .unset, .unset, .unset, .unset] [(.int (0 : Int32)), (.int (0 : Int32)), (.ref b1)]))
  refine Go.st (fun U hr => XS.iload X1.here hx rfl (hb hby at_30) rfl hr) ?_
  show Go p.tables e below _ (T1.setTop (mkF m 32 #[.val (.int p1), .val (.int p2), .val (.int p3), .val (.int p4), .val (.int p5), .val (.int p6), .val (.int av), .val (.int kv), .val (.ref b1), .unset, .unset, .unset, .unset] [(.int av), (.int (0 : Int32)), (.int (0 : Int32)), (.ref b1)]))
  refine Go.st (fun U hr => XS.iload X1.here hx rfl (hb hby at_32) rfl hr) ?_
  show Go p.tables e below _ (T1.setTop (mkF m 34 #[.val (.int p1), .val (.int p2), .val (.int p3), .val (.int p4), .val (.int p5), .val (.int p6), .val (.int av), .val (.int kv), .val (.ref b1), .unset, .unset, .unset, .unset] [(.int kv), (.int av), (.int (0 : Int32)), (.int (0 : Int32)), (.ref b1)]))
  refine Go.st (fun U hr => XS.iloadN X1.here hx rfl (hb hby at_34) rfl hr) ?_
  show Go p.tables e below _ (T1.setTop (mkF m 35 #[.val (.int p1), .val (.int p2), .val (.int p3), .val (.int p4), .val (.int p5), .val (.int p6), .val (.int av), .val (.int kv), .val (.ref b1), .unset, .unset, .unset, .unset] [(.int p2), (.int kv), (.int av), (.int (0 : Int32)), (.int (0 : Int32)), (.ref b1)]))
  obtain ⟨_, _, ⟨T10, L10, k10, n10⟩, -, X10, ⟨Lc10, hQ10, l10, y10, z10⟩, st10⟩ := Jvm.LawKit.callS X1 hx (y := (⟨"adjunct/core/XmlSpaceStripPinLaw", "pick", "(IIII)C"⟩ : MethodName)) hown (mvT hZ (hw _ (List.mem_of_getElem? (i := 2) rfl))) (mvT hZ (hw _ (List.mem_of_getElem? (i := 3) rfl))) (mvT hZ (hw _ (List.mem_of_getElem? (i := 4) rfl))) (mvT hZ (hw _ (List.mem_of_getElem? (i := 5) rfl))) (by decide) (backOf (W := 2) (rm1 l Z a0 hw [] (0 : Int32) av kv p2 h1 n0 z9) hZ (hw _ (List.mem_of_getElem? (i := 5) rfl)) (hw _ (List.mem_of_getElem? (i := 4) rfl)) (by decide) (by decide)) (g := (mkF m 35 #[.val (.int p1), .val (.int p2), .val (.int p3), .val (.int p4), .val (.int p5), .val (.int p6), .val (.int av), .val (.int kv), .val (.ref b1), .unset, .unset, .unset, .unset] [(.int p2), (.int kv), (.int av), (.int (0 : Int32)), (.int (0 : Int32)), (.ref b1)])) rfl (by rw [hml]; rfl) (argsL := [(.int (0 : Int32)), (.int av), (.int kv), (.int p2)]) (rest := [(.int (0 : Int32)), (.ref b1)]) (lenOf pd_27 rfl) rfl (by show 2 * 0 + _ ≤ _; exact Nat.le_of_eq rfl) (hb hby at_35) (fun _ _ => ⟨rfl, e1, (by decide : 1 + 0 ≤ _), (by decide : 5 + 0 ≤ _)⟩)
  dsimp only [Pt.U, Pt.locs, Pt.cells, Pt.slots] at X10 l10 y10 z10 st10 hQ10
  subst l10 y10 z10
  obtain ⟨rfl, Nq10, ee10⟩ := hQ10
  have N10 := Fr.app N0 Nq10
  refine Go.st st10 ?_
  show Go p.tables e below _ (T10.setTop (mkF m 38 #[.val (.int p1), .val (.int p2), .val (.int p3), .val (.int p4), .val (.int p5), .val (.int p6), .val (.int av), .val (.int kv), .val (.ref b1), .unset, .unset, .unset, .unset] [(.int (own_pick (0 : Int32) av kv p2)), (.int (0 : Int32)), (.ref b1)]))
  obtain ⟨c0, hc0⟩ : ∃ z, z = (own_pick (0 : Int32) av kv p2) := ⟨_, rfl⟩
  rw [← hc0]
  have ch0 : own_ch c0 := by rw [hc0]; exact own_pick_ch _ _ _ _
  show Go p.tables e below _ (T10.setTop (mkF m 38 #[.val (.int p1), .val (.int p2), .val (.int p3), .val (.int p4), .val (.int p5), .val (.int p6), .val (.int av), .val (.int kv), .val (.ref b1), .unset, .unset, .unset, .unset] [(.int c0), (.int (0 : Int32)), (.ref b1)]))
  obtain ⟨cl11, Ar11, qa11, Sa11, Na11, Ha11, Ga11⟩ := id V1
  have hin11 : ¬ ((0 : Int32) < 0 ∨ cl11.slots.size ≤ ((0 : Int32)).toNatClampNeg) := inb_of Sa11 ⟨by decide, by decide⟩
  obtain ⟨T12, h12, X12, e12, W12, st12⟩ := stC X10 hx hZ ee10 Ar11 (j := (0 : Int32)) hin11 (g := (mkF m 38 #[.val (.int p1), .val (.int p2), .val (.int p3), .val (.int p4), .val (.int p5), .val (.int p6), .val (.int av), .val (.int kv), .val (.ref b1), .unset, .unset, .unset, .unset] [(.int c0), (.int (0 : Int32)), (.ref b1)])) rfl rfl (hb hby at_38)
  refine Go.st st12 ?_
  have V12 := Arv.set Ar11 qa11 Sa11 Na11 Ha11 Ga11 (fits_nar_char _) W12 0 rfl (Nat.le_of_ble_eq_true rfl)
  have sf13 := Safe.wr W12 sn1 cr2.1 sn1
  have cr14 := (cr2).trans (CHr.wr W12 sn1 cr2.1)
  have hk15 := Nat.le_trans hk3 (Keep.of_wr W12).1
  have f16 := (f4).wr W12
  have f17 := (f5).wr W12
  have f18 := (f6).wr W12
  have f19 := (f7).wr W12
  have f20 := (f8).wr W12
  have z22 := Nat.le_trans z9 (Keep.of_wr W12).1
  have N12 := Fr.snoc X12 N10 gb1
  show Go p.tables e below _ (T12.setTop (mkF m 39 #[.val (.int p1), .val (.int p2), .val (.int p3), .val (.int p4), .val (.int p5), .val (.int p6), .val (.int av), .val (.int kv), .val (.ref b1), .unset, .unset, .unset, .unset] []))
  refine Go.st (fun U hr => XS.aload X12.here hx rfl (hb hby at_39) rfl rfl hr) ?_
  show Go p.tables e below _ (T12.setTop (mkF m 41 #[.val (.int p1), .val (.int p2), .val (.int p3), .val (.int p4), .val (.int p5), .val (.int p6), .val (.int av), .val (.int kv), .val (.ref b1), .unset, .unset, .unset, .unset] [(.ref b1)]))
  refine Go.st (fun U hr => XS.iconst X12.here hx rfl (hb hby at_41) hr) ?_
  show Go p.tables e below _ (T12.setTop (mkF m 42 #[.val (.int p1), .val (.int p2), .val (.int p3), .val (.int p4), .val (.int p5), .val (.int p6), .val (.int av), .val (.int kv), .val (.ref b1), .unset, .unset, .unset, .unset] [(.int (1 : Int32)), (.ref b1)]))
  refine Go.st (fun U hr => XS.iconst X12.here hx rfl (hb hby at_42) hr) ?_
  show Go p.tables e below _ (T12.setTop (mkF m 43 #[.val (.int p1), .val (.int p2), .val (.int p3), .val (.int p4), .val (.int p5), .val (.int p6), .val (.int av), .val (.int kv), .val (.ref b1), .unset, .unset, .unset, .unset] [(.int (1 : Int32)), (.int (1 : Int32)), (.ref b1)]))
  refine Go.st (fun U hr => XS.iload X12.here hx rfl (hb hby at_43) rfl hr) ?_
  show Go p.tables e below _ (T12.setTop (mkF m 45 #[.val (.int p1), .val (.int p2), .val (.int p3), .val (.int p4), .val (.int p5), .val (.int p6), .val (.int av), .val (.int kv), .val (.ref b1), .unset, .unset, .unset, .unset] [(.int av), (.int (1 : Int32)), (.int (1 : Int32)), (.ref b1)]))
  refine Go.st (fun U hr => XS.iload X12.here hx rfl (hb hby at_45) rfl hr) ?_
  show Go p.tables e below _ (T12.setTop (mkF m 47 #[.val (.int p1), .val (.int p2), .val (.int p3), .val (.int p4), .val (.int p5), .val (.int p6), .val (.int av), .val (.int kv), .val (.ref b1), .unset, .unset, .unset, .unset] [(.int kv), (.int av), (.int (1 : Int32)), (.int (1 : Int32)), (.ref b1)]))
  refine Go.st (fun U hr => XS.iloadN X12.here hx rfl (hb hby at_47) rfl hr) ?_
  show Go p.tables e below _ (T12.setTop (mkF m 48 #[.val (.int p1), .val (.int p2), .val (.int p3), .val (.int p4), .val (.int p5), .val (.int p6), .val (.int av), .val (.int kv), .val (.ref b1), .unset, .unset, .unset, .unset] [(.int p3), (.int kv), (.int av), (.int (1 : Int32)), (.int (1 : Int32)), (.ref b1)]))
  obtain ⟨_, _, ⟨T23, L23, k23, n23⟩, -, X23, ⟨Lc23, hQ23, l23, y23, z23⟩, st23⟩ := Jvm.LawKit.callS X12 hx (y := (⟨"adjunct/core/XmlSpaceStripPinLaw", "pick", "(IIII)C"⟩ : MethodName)) hown (mvT hZ (hw _ (List.mem_of_getElem? (i := 2) rfl))) (mvT hZ (hw _ (List.mem_of_getElem? (i := 3) rfl))) (mvT hZ (hw _ (List.mem_of_getElem? (i := 4) rfl))) (mvT hZ (hw _ (List.mem_of_getElem? (i := 5) rfl))) (by decide) (backOf (W := 2) (rm1 l Z a0 hw [] (1 : Int32) av kv p3 h12 n0 z22) hZ (hw _ (List.mem_of_getElem? (i := 5) rfl)) (hw _ (List.mem_of_getElem? (i := 4) rfl)) (by decide) (by decide)) (g := (mkF m 48 #[.val (.int p1), .val (.int p2), .val (.int p3), .val (.int p4), .val (.int p5), .val (.int p6), .val (.int av), .val (.int kv), .val (.ref b1), .unset, .unset, .unset, .unset] [(.int p3), (.int kv), (.int av), (.int (1 : Int32)), (.int (1 : Int32)), (.ref b1)])) rfl (by rw [hml]; rfl) (argsL := [(.int (1 : Int32)), (.int av), (.int kv), (.int p3)]) (rest := [(.int (1 : Int32)), (.ref b1)]) (lenOf pd_27 rfl) rfl (by show 2 * 0 + _ ≤ _; exact Nat.le_of_eq rfl) (hb hby at_48) (fun _ _ => ⟨rfl, e12, (by decide : 1 + 0 ≤ _), (by decide : 5 + 0 ≤ _)⟩)
  dsimp only [Pt.U, Pt.locs, Pt.cells, Pt.slots] at X23 l23 y23 z23 st23 hQ23
  subst l23 y23 z23
  obtain ⟨rfl, Nq23, ee23⟩ := hQ23
  have N23 := Fr.app N12 Nq23
  refine Go.st st23 ?_
  show Go p.tables e below _ (T23.setTop (mkF m 51 #[.val (.int p1), .val (.int p2), .val (.int p3), .val (.int p4), .val (.int p5), .val (.int p6), .val (.int av), .val (.int kv), .val (.ref b1), .unset, .unset, .unset, .unset] [(.int (own_pick (1 : Int32) av kv p3)), (.int (1 : Int32)), (.ref b1)]))
  obtain ⟨c1, hc1⟩ : ∃ z, z = (own_pick (1 : Int32) av kv p3) := ⟨_, rfl⟩
  rw [← hc1]
  have ch1 : own_ch c1 := by rw [hc1]; exact own_pick_ch _ _ _ _
  show Go p.tables e below _ (T23.setTop (mkF m 51 #[.val (.int p1), .val (.int p2), .val (.int p3), .val (.int p4), .val (.int p5), .val (.int p6), .val (.int av), .val (.int kv), .val (.ref b1), .unset, .unset, .unset, .unset] [(.int c1), (.int (1 : Int32)), (.ref b1)]))
  obtain ⟨cl24, Ar24, qa24, Sa24, Na24, Ha24, Ga24⟩ := id V12
  have hin24 : ¬ ((1 : Int32) < 0 ∨ cl24.slots.size ≤ ((1 : Int32)).toNatClampNeg) := inb_of Sa24 ⟨by decide, by decide⟩
  obtain ⟨T25, h25, X25, e25, W25, st25⟩ := stC X23 hx hZ ee23 Ar24 (j := (1 : Int32)) hin24 (g := (mkF m 51 #[.val (.int p1), .val (.int p2), .val (.int p3), .val (.int p4), .val (.int p5), .val (.int p6), .val (.int av), .val (.int kv), .val (.ref b1), .unset, .unset, .unset, .unset] [(.int c1), (.int (1 : Int32)), (.ref b1)])) rfl rfl (hb hby at_51)
  refine Go.st st25 ?_
  have V25 := Arv.set Ar24 qa24 Sa24 Na24 Ha24 Ga24 (fits_nar_char _) W25 1 rfl (Nat.le_of_ble_eq_true rfl)
  have sf26 := Safe.wr W25 sf13 cr14.1 sf13
  have cr27 := (cr14).trans (CHr.wr W25 sf13 cr14.1)
  have hk28 := Nat.le_trans hk15 (Keep.of_wr W25).1
  have f29 := (f16).wr W25
  have f30 := (f17).wr W25
  have f31 := (f18).wr W25
  have f32 := (f19).wr W25
  have f33 := (f20).wr W25
  have z35 := Nat.le_trans z22 (Keep.of_wr W25).1
  have N25 := Fr.snoc X25 N23 gb1
  show Go p.tables e below _ (T25.setTop (mkF m 52 #[.val (.int p1), .val (.int p2), .val (.int p3), .val (.int p4), .val (.int p5), .val (.int p6), .val (.int av), .val (.int kv), .val (.ref b1), .unset, .unset, .unset, .unset] []))
  refine Go.st (fun U hr => XS.aload X25.here hx rfl (hb hby at_52) rfl rfl hr) ?_
  show Go p.tables e below _ (T25.setTop (mkF m 54 #[.val (.int p1), .val (.int p2), .val (.int p3), .val (.int p4), .val (.int p5), .val (.int p6), .val (.int av), .val (.int kv), .val (.ref b1), .unset, .unset, .unset, .unset] [(.ref b1)]))
  refine Go.st (fun U hr => XS.iconst X25.here hx rfl (hb hby at_54) hr) ?_
  show Go p.tables e below _ (T25.setTop (mkF m 55 #[.val (.int p1), .val (.int p2), .val (.int p3), .val (.int p4), .val (.int p5), .val (.int p6), .val (.int av), .val (.int kv), .val (.ref b1), .unset, .unset, .unset, .unset] [(.int (2 : Int32)), (.ref b1)]))
  refine Go.st (fun U hr => XS.iconst X25.here hx rfl (hb hby at_55) hr) ?_
  show Go p.tables e below _ (T25.setTop (mkF m 56 #[.val (.int p1), .val (.int p2), .val (.int p3), .val (.int p4), .val (.int p5), .val (.int p6), .val (.int av), .val (.int kv), .val (.ref b1), .unset, .unset, .unset, .unset] [(.int (2 : Int32)), (.int (2 : Int32)), (.ref b1)]))
  refine Go.st (fun U hr => XS.iload X25.here hx rfl (hb hby at_56) rfl hr) ?_
  show Go p.tables e below _ (T25.setTop (mkF m 58 #[.val (.int p1), .val (.int p2), .val (.int p3), .val (.int p4), .val (.int p5), .val (.int p6), .val (.int av), .val (.int kv), .val (.ref b1), .unset, .unset, .unset, .unset] [(.int av), (.int (2 : Int32)), (.int (2 : Int32)), (.ref b1)]))
  refine Go.st (fun U hr => XS.iload X25.here hx rfl (hb hby at_58) rfl hr) ?_
  show Go p.tables e below _ (T25.setTop (mkF m 60 #[.val (.int p1), .val (.int p2), .val (.int p3), .val (.int p4), .val (.int p5), .val (.int p6), .val (.int av), .val (.int kv), .val (.ref b1), .unset, .unset, .unset, .unset] [(.int kv), (.int av), (.int (2 : Int32)), (.int (2 : Int32)), (.ref b1)]))
  refine Go.st (fun U hr => XS.iloadN X25.here hx rfl (hb hby at_60) rfl hr) ?_
  show Go p.tables e below _ (T25.setTop (mkF m 61 #[.val (.int p1), .val (.int p2), .val (.int p3), .val (.int p4), .val (.int p5), .val (.int p6), .val (.int av), .val (.int kv), .val (.ref b1), .unset, .unset, .unset, .unset] [(.int p4), (.int kv), (.int av), (.int (2 : Int32)), (.int (2 : Int32)), (.ref b1)]))
  obtain ⟨_, _, ⟨T36, L36, k36, n36⟩, -, X36, ⟨Lc36, hQ36, l36, y36, z36⟩, st36⟩ := Jvm.LawKit.callS X25 hx (y := (⟨"adjunct/core/XmlSpaceStripPinLaw", "pick", "(IIII)C"⟩ : MethodName)) hown (mvT hZ (hw _ (List.mem_of_getElem? (i := 2) rfl))) (mvT hZ (hw _ (List.mem_of_getElem? (i := 3) rfl))) (mvT hZ (hw _ (List.mem_of_getElem? (i := 4) rfl))) (mvT hZ (hw _ (List.mem_of_getElem? (i := 5) rfl))) (by decide) (backOf (W := 2) (rm1 l Z a0 hw [] (2 : Int32) av kv p4 h25 n0 z35) hZ (hw _ (List.mem_of_getElem? (i := 5) rfl)) (hw _ (List.mem_of_getElem? (i := 4) rfl)) (by decide) (by decide)) (g := (mkF m 61 #[.val (.int p1), .val (.int p2), .val (.int p3), .val (.int p4), .val (.int p5), .val (.int p6), .val (.int av), .val (.int kv), .val (.ref b1), .unset, .unset, .unset, .unset] [(.int p4), (.int kv), (.int av), (.int (2 : Int32)), (.int (2 : Int32)), (.ref b1)])) rfl (by rw [hml]; rfl) (argsL := [(.int (2 : Int32)), (.int av), (.int kv), (.int p4)]) (rest := [(.int (2 : Int32)), (.ref b1)]) (lenOf pd_27 rfl) rfl (by show 2 * 0 + _ ≤ _; exact Nat.le_of_eq rfl) (hb hby at_61) (fun _ _ => ⟨rfl, e25, (by decide : 1 + 0 ≤ _), (by decide : 5 + 0 ≤ _)⟩)
  dsimp only [Pt.U, Pt.locs, Pt.cells, Pt.slots] at X36 l36 y36 z36 st36 hQ36
  subst l36 y36 z36
  obtain ⟨rfl, Nq36, ee36⟩ := hQ36
  have N36 := Fr.app N25 Nq36
  refine Go.st st36 ?_
  show Go p.tables e below _ (T36.setTop (mkF m 64 #[.val (.int p1), .val (.int p2), .val (.int p3), .val (.int p4), .val (.int p5), .val (.int p6), .val (.int av), .val (.int kv), .val (.ref b1), .unset, .unset, .unset, .unset] [(.int (own_pick (2 : Int32) av kv p4)), (.int (2 : Int32)), (.ref b1)]))
  obtain ⟨c2, hc2⟩ : ∃ z, z = (own_pick (2 : Int32) av kv p4) := ⟨_, rfl⟩
  rw [← hc2]
  have ch2 : own_ch c2 := by rw [hc2]; exact own_pick_ch _ _ _ _
  show Go p.tables e below _ (T36.setTop (mkF m 64 #[.val (.int p1), .val (.int p2), .val (.int p3), .val (.int p4), .val (.int p5), .val (.int p6), .val (.int av), .val (.int kv), .val (.ref b1), .unset, .unset, .unset, .unset] [(.int c2), (.int (2 : Int32)), (.ref b1)]))
  obtain ⟨cl37, Ar37, qa37, Sa37, Na37, Ha37, Ga37⟩ := id V25
  have hin37 : ¬ ((2 : Int32) < 0 ∨ cl37.slots.size ≤ ((2 : Int32)).toNatClampNeg) := inb_of Sa37 ⟨by decide, by decide⟩
  obtain ⟨T38, h38, X38, e38, W38, st38⟩ := stC X36 hx hZ ee36 Ar37 (j := (2 : Int32)) hin37 (g := (mkF m 64 #[.val (.int p1), .val (.int p2), .val (.int p3), .val (.int p4), .val (.int p5), .val (.int p6), .val (.int av), .val (.int kv), .val (.ref b1), .unset, .unset, .unset, .unset] [(.int c2), (.int (2 : Int32)), (.ref b1)])) rfl rfl (hb hby at_64)
  refine Go.st st38 ?_
  have V38 := Arv.set Ar37 qa37 Sa37 Na37 Ha37 Ga37 (fits_nar_char _) W38 2 rfl (Nat.le_of_ble_eq_true rfl)
  have sf39 := Safe.wr W38 sf26 cr27.1 sf26
  have cr40 := (cr27).trans (CHr.wr W38 sf26 cr27.1)
  have hk41 := Nat.le_trans hk28 (Keep.of_wr W38).1
  have f42 := (f29).wr W38
  have f43 := (f30).wr W38
  have f44 := (f31).wr W38
  have f45 := (f32).wr W38
  have f46 := (f33).wr W38
  have z48 := Nat.le_trans z35 (Keep.of_wr W38).1
  have N38 := Fr.snoc X38 N36 gb1
  show Go p.tables e below _ (T38.setTop (mkF m 65 #[.val (.int p1), .val (.int p2), .val (.int p3), .val (.int p4), .val (.int p5), .val (.int p6), .val (.int av), .val (.int kv), .val (.ref b1), .unset, .unset, .unset, .unset] []))
  refine Go.st (fun U hr => XS.aload X38.here hx rfl (hb hby at_65) rfl rfl hr) ?_
  show Go p.tables e below _ (T38.setTop (mkF m 67 #[.val (.int p1), .val (.int p2), .val (.int p3), .val (.int p4), .val (.int p5), .val (.int p6), .val (.int av), .val (.int kv), .val (.ref b1), .unset, .unset, .unset, .unset] [(.ref b1)]))
  refine Go.st (fun U hr => XS.iconst X38.here hx rfl (hb hby at_67) hr) ?_
  show Go p.tables e below _ (T38.setTop (mkF m 68 #[.val (.int p1), .val (.int p2), .val (.int p3), .val (.int p4), .val (.int p5), .val (.int p6), .val (.int av), .val (.int kv), .val (.ref b1), .unset, .unset, .unset, .unset] [(.int (3 : Int32)), (.ref b1)]))
  refine Go.st (fun U hr => XS.iconst X38.here hx rfl (hb hby at_68) hr) ?_
  show Go p.tables e below _ (T38.setTop (mkF m 69 #[.val (.int p1), .val (.int p2), .val (.int p3), .val (.int p4), .val (.int p5), .val (.int p6), .val (.int av), .val (.int kv), .val (.ref b1), .unset, .unset, .unset, .unset] [(.int (3 : Int32)), (.int (3 : Int32)), (.ref b1)]))
  refine Go.st (fun U hr => XS.iload X38.here hx rfl (hb hby at_69) rfl hr) ?_
  show Go p.tables e below _ (T38.setTop (mkF m 71 #[.val (.int p1), .val (.int p2), .val (.int p3), .val (.int p4), .val (.int p5), .val (.int p6), .val (.int av), .val (.int kv), .val (.ref b1), .unset, .unset, .unset, .unset] [(.int av), (.int (3 : Int32)), (.int (3 : Int32)), (.ref b1)]))
  refine Go.st (fun U hr => XS.iload X38.here hx rfl (hb hby at_71) rfl hr) ?_
  show Go p.tables e below _ (T38.setTop (mkF m 73 #[.val (.int p1), .val (.int p2), .val (.int p3), .val (.int p4), .val (.int p5), .val (.int p6), .val (.int av), .val (.int kv), .val (.ref b1), .unset, .unset, .unset, .unset] [(.int kv), (.int av), (.int (3 : Int32)), (.int (3 : Int32)), (.ref b1)]))
  refine Go.st (fun U hr => XS.iload X38.here hx rfl (hb hby at_73) rfl hr) ?_
  show Go p.tables e below _ (T38.setTop (mkF m 75 #[.val (.int p1), .val (.int p2), .val (.int p3), .val (.int p4), .val (.int p5), .val (.int p6), .val (.int av), .val (.int kv), .val (.ref b1), .unset, .unset, .unset, .unset] [(.int p5), (.int kv), (.int av), (.int (3 : Int32)), (.int (3 : Int32)), (.ref b1)]))
  obtain ⟨_, _, ⟨T49, L49, k49, n49⟩, -, X49, ⟨Lc49, hQ49, l49, y49, z49⟩, st49⟩ := Jvm.LawKit.callS X38 hx (y := (⟨"adjunct/core/XmlSpaceStripPinLaw", "pick", "(IIII)C"⟩ : MethodName)) hown (mvT hZ (hw _ (List.mem_of_getElem? (i := 2) rfl))) (mvT hZ (hw _ (List.mem_of_getElem? (i := 3) rfl))) (mvT hZ (hw _ (List.mem_of_getElem? (i := 4) rfl))) (mvT hZ (hw _ (List.mem_of_getElem? (i := 5) rfl))) (by decide) (backOf (W := 2) (rm1 l Z a0 hw [] (3 : Int32) av kv p5 h38 n0 z48) hZ (hw _ (List.mem_of_getElem? (i := 5) rfl)) (hw _ (List.mem_of_getElem? (i := 4) rfl)) (by decide) (by decide)) (g := (mkF m 75 #[.val (.int p1), .val (.int p2), .val (.int p3), .val (.int p4), .val (.int p5), .val (.int p6), .val (.int av), .val (.int kv), .val (.ref b1), .unset, .unset, .unset, .unset] [(.int p5), (.int kv), (.int av), (.int (3 : Int32)), (.int (3 : Int32)), (.ref b1)])) rfl (by rw [hml]; rfl) (argsL := [(.int (3 : Int32)), (.int av), (.int kv), (.int p5)]) (rest := [(.int (3 : Int32)), (.ref b1)]) (lenOf pd_27 rfl) rfl (by show 2 * 0 + _ ≤ _; exact Nat.le_of_eq rfl) (hb hby at_75) (fun _ _ => ⟨rfl, e38, (by decide : 1 + 0 ≤ _), (by decide : 5 + 0 ≤ _)⟩)
  dsimp only [Pt.U, Pt.locs, Pt.cells, Pt.slots] at X49 l49 y49 z49 st49 hQ49
  subst l49 y49 z49
  obtain ⟨rfl, Nq49, ee49⟩ := hQ49
  have N49 := Fr.app N38 Nq49
  refine Go.st st49 ?_
  show Go p.tables e below _ (T49.setTop (mkF m 78 #[.val (.int p1), .val (.int p2), .val (.int p3), .val (.int p4), .val (.int p5), .val (.int p6), .val (.int av), .val (.int kv), .val (.ref b1), .unset, .unset, .unset, .unset] [(.int (own_pick (3 : Int32) av kv p5)), (.int (3 : Int32)), (.ref b1)]))
  obtain ⟨c3, hc3⟩ : ∃ z, z = (own_pick (3 : Int32) av kv p5) := ⟨_, rfl⟩
  rw [← hc3]
  have ch3 : own_ch c3 := by rw [hc3]; exact own_pick_ch _ _ _ _
  show Go p.tables e below _ (T49.setTop (mkF m 78 #[.val (.int p1), .val (.int p2), .val (.int p3), .val (.int p4), .val (.int p5), .val (.int p6), .val (.int av), .val (.int kv), .val (.ref b1), .unset, .unset, .unset, .unset] [(.int c3), (.int (3 : Int32)), (.ref b1)]))
  obtain ⟨cl50, Ar50, qa50, Sa50, Na50, Ha50, Ga50⟩ := id V38
  have hin50 : ¬ ((3 : Int32) < 0 ∨ cl50.slots.size ≤ ((3 : Int32)).toNatClampNeg) := inb_of Sa50 ⟨by decide, by decide⟩
  obtain ⟨T51, h51, X51, e51, W51, st51⟩ := stC X49 hx hZ ee49 Ar50 (j := (3 : Int32)) hin50 (g := (mkF m 78 #[.val (.int p1), .val (.int p2), .val (.int p3), .val (.int p4), .val (.int p5), .val (.int p6), .val (.int av), .val (.int kv), .val (.ref b1), .unset, .unset, .unset, .unset] [(.int c3), (.int (3 : Int32)), (.ref b1)])) rfl rfl (hb hby at_78)
  refine Go.st st51 ?_
  have V51 := Arv.set Ar50 qa50 Sa50 Na50 Ha50 Ga50 (fits_nar_char _) W51 3 rfl (Nat.le_of_ble_eq_true rfl)
  have sf52 := Safe.wr W51 sf39 cr40.1 sf39
  have cr53 := (cr40).trans (CHr.wr W51 sf39 cr40.1)
  have hk54 := Nat.le_trans hk41 (Keep.of_wr W51).1
  have f55 := (f42).wr W51
  have f56 := (f43).wr W51
  have f57 := (f44).wr W51
  have f58 := (f45).wr W51
  have f59 := (f46).wr W51
  have z61 := Nat.le_trans z48 (Keep.of_wr W51).1
  have N51 := Fr.snoc X51 N49 gb1
  show Go p.tables e below _ (T51.setTop (mkF m 79 #[.val (.int p1), .val (.int p2), .val (.int p3), .val (.int p4), .val (.int p5), .val (.int p6), .val (.int av), .val (.int kv), .val (.ref b1), .unset, .unset, .unset, .unset] []))
  refine Go.st (fun U hr => XS.aload X51.here hx rfl (hb hby at_79) rfl rfl hr) ?_
  show Go p.tables e below _ (T51.setTop (mkF m 81 #[.val (.int p1), .val (.int p2), .val (.int p3), .val (.int p4), .val (.int p5), .val (.int p6), .val (.int av), .val (.int kv), .val (.ref b1), .unset, .unset, .unset, .unset] [(.ref b1)]))
  refine Go.st (fun U hr => XS.iconst X51.here hx rfl (hb hby at_81) hr) ?_
  show Go p.tables e below _ (T51.setTop (mkF m 82 #[.val (.int p1), .val (.int p2), .val (.int p3), .val (.int p4), .val (.int p5), .val (.int p6), .val (.int av), .val (.int kv), .val (.ref b1), .unset, .unset, .unset, .unset] [(.int (4 : Int32)), (.ref b1)]))
  refine Go.st (fun U hr => XS.iconst X51.here hx rfl (hb hby at_82) hr) ?_
  show Go p.tables e below _ (T51.setTop (mkF m 83 #[.val (.int p1), .val (.int p2), .val (.int p3), .val (.int p4), .val (.int p5), .val (.int p6), .val (.int av), .val (.int kv), .val (.ref b1), .unset, .unset, .unset, .unset] [(.int (4 : Int32)), (.int (4 : Int32)), (.ref b1)]))
  refine Go.st (fun U hr => XS.iload X51.here hx rfl (hb hby at_83) rfl hr) ?_
  show Go p.tables e below _ (T51.setTop (mkF m 85 #[.val (.int p1), .val (.int p2), .val (.int p3), .val (.int p4), .val (.int p5), .val (.int p6), .val (.int av), .val (.int kv), .val (.ref b1), .unset, .unset, .unset, .unset] [(.int av), (.int (4 : Int32)), (.int (4 : Int32)), (.ref b1)]))
  refine Go.st (fun U hr => XS.iload X51.here hx rfl (hb hby at_85) rfl hr) ?_
  show Go p.tables e below _ (T51.setTop (mkF m 87 #[.val (.int p1), .val (.int p2), .val (.int p3), .val (.int p4), .val (.int p5), .val (.int p6), .val (.int av), .val (.int kv), .val (.ref b1), .unset, .unset, .unset, .unset] [(.int kv), (.int av), (.int (4 : Int32)), (.int (4 : Int32)), (.ref b1)]))
  refine Go.st (fun U hr => XS.iload X51.here hx rfl (hb hby at_87) rfl hr) ?_
  show Go p.tables e below _ (T51.setTop (mkF m 89 #[.val (.int p1), .val (.int p2), .val (.int p3), .val (.int p4), .val (.int p5), .val (.int p6), .val (.int av), .val (.int kv), .val (.ref b1), .unset, .unset, .unset, .unset] [(.int p6), (.int kv), (.int av), (.int (4 : Int32)), (.int (4 : Int32)), (.ref b1)]))
  obtain ⟨_, _, ⟨T62, L62, k62, n62⟩, -, X62, ⟨Lc62, hQ62, l62, y62, z62⟩, st62⟩ := Jvm.LawKit.callS X51 hx (y := (⟨"adjunct/core/XmlSpaceStripPinLaw", "pick", "(IIII)C"⟩ : MethodName)) hown (mvT hZ (hw _ (List.mem_of_getElem? (i := 2) rfl))) (mvT hZ (hw _ (List.mem_of_getElem? (i := 3) rfl))) (mvT hZ (hw _ (List.mem_of_getElem? (i := 4) rfl))) (mvT hZ (hw _ (List.mem_of_getElem? (i := 5) rfl))) (by decide) (backOf (W := 2) (rm1 l Z a0 hw [] (4 : Int32) av kv p6 h51 n0 z61) hZ (hw _ (List.mem_of_getElem? (i := 5) rfl)) (hw _ (List.mem_of_getElem? (i := 4) rfl)) (by decide) (by decide)) (g := (mkF m 89 #[.val (.int p1), .val (.int p2), .val (.int p3), .val (.int p4), .val (.int p5), .val (.int p6), .val (.int av), .val (.int kv), .val (.ref b1), .unset, .unset, .unset, .unset] [(.int p6), (.int kv), (.int av), (.int (4 : Int32)), (.int (4 : Int32)), (.ref b1)])) rfl (by rw [hml]; rfl) (argsL := [(.int (4 : Int32)), (.int av), (.int kv), (.int p6)]) (rest := [(.int (4 : Int32)), (.ref b1)]) (lenOf pd_27 rfl) rfl (by show 2 * 0 + _ ≤ _; exact Nat.le_of_eq rfl) (hb hby at_89) (fun _ _ => ⟨rfl, e51, (by decide : 1 + 0 ≤ _), (by decide : 5 + 0 ≤ _)⟩)
  dsimp only [Pt.U, Pt.locs, Pt.cells, Pt.slots] at X62 l62 y62 z62 st62 hQ62
  subst l62 y62 z62
  obtain ⟨rfl, Nq62, ee62⟩ := hQ62
  have N62 := Fr.app N51 Nq62
  refine Go.st st62 ?_
  show Go p.tables e below _ (T62.setTop (mkF m 92 #[.val (.int p1), .val (.int p2), .val (.int p3), .val (.int p4), .val (.int p5), .val (.int p6), .val (.int av), .val (.int kv), .val (.ref b1), .unset, .unset, .unset, .unset] [(.int (own_pick (4 : Int32) av kv p6)), (.int (4 : Int32)), (.ref b1)]))
  obtain ⟨c4, hc4⟩ : ∃ z, z = (own_pick (4 : Int32) av kv p6) := ⟨_, rfl⟩
  rw [← hc4]
  have ch4 : own_ch c4 := by rw [hc4]; exact own_pick_ch _ _ _ _
  show Go p.tables e below _ (T62.setTop (mkF m 92 #[.val (.int p1), .val (.int p2), .val (.int p3), .val (.int p4), .val (.int p5), .val (.int p6), .val (.int av), .val (.int kv), .val (.ref b1), .unset, .unset, .unset, .unset] [(.int c4), (.int (4 : Int32)), (.ref b1)]))
  obtain ⟨cl63, Ar63, qa63, Sa63, Na63, Ha63, Ga63⟩ := id V51
  have hin63 : ¬ ((4 : Int32) < 0 ∨ cl63.slots.size ≤ ((4 : Int32)).toNatClampNeg) := inb_of Sa63 ⟨by decide, by decide⟩
  obtain ⟨T64, h64, X64, e64, W64, st64⟩ := stC X62 hx hZ ee62 Ar63 (j := (4 : Int32)) hin63 (g := (mkF m 92 #[.val (.int p1), .val (.int p2), .val (.int p3), .val (.int p4), .val (.int p5), .val (.int p6), .val (.int av), .val (.int kv), .val (.ref b1), .unset, .unset, .unset, .unset] [(.int c4), (.int (4 : Int32)), (.ref b1)])) rfl rfl (hb hby at_92)
  refine Go.st st64 ?_
  have V64 := Arv.set Ar63 qa63 Sa63 Na63 Ha63 Ga63 (fits_nar_char _) W64 4 rfl (Nat.le_of_ble_eq_true rfl)
  have sf65 := Safe.wr W64 sf52 cr53.1 sf52
  have cr66 := (cr53).trans (CHr.wr W64 sf52 cr53.1)
  have hk67 := Nat.le_trans hk54 (Keep.of_wr W64).1
  have f68 := (f55).wr W64
  have f69 := (f56).wr W64
  have f70 := (f57).wr W64
  have f71 := (f58).wr W64
  have f72 := (f59).wr W64
  have z74 := Nat.le_trans z61 (Keep.of_wr W64).1
  have N64 := Fr.snoc X64 N62 gb1
  show Go p.tables e below _ (T64.setTop (mkF m 93 #[.val (.int p1), .val (.int p2), .val (.int p3), .val (.int p4), .val (.int p5), .val (.int p6), .val (.int av), .val (.int kv), .val (.ref b1), .unset, .unset, .unset, .unset] []))
  obtain ⟨T75, h75, X75, e75, E75, A75, D75, -, st75⟩ := newO X64 hx hZ hown (hw _ (List.mem_of_getElem? (i := 9) rfl)) (hw _ (List.mem_of_getElem? (i := 10) rfl)) (hw _ (List.mem_of_getElem? (i := 11) rfl)) e64 (g := (mkF m 93 #[.val (.int p1), .val (.int p2), .val (.int p3), .val (.int p4), .val (.int p5), .val (.int p6), .val (.int av), .val (.int kv), .val (.ref b1), .unset, .unset, .unset, .unset] [])) rfl (hb hby at_93) (by decide) (by decide)
  obtain ⟨b75, g75⟩ : ∃ z, z = h64.size := ⟨_, rfl⟩
  rw [← g75] at A75 D75 st75
  refine Go.st st75 ?_
  have gb75 : n0 ≤ b75 := Nat.le_trans z74 (Nat.le_of_eq g75.symm)
  have n76 : b1 ≠ b75 := Nat.ne_of_lt (Nat.lt_of_lt_of_le (V64).lt (Nat.le_of_eq g75.symm))
  have sf77 := Safe.ext E75 cr66.1 sf65
  have cr78 := (cr66).trans (CHr.ext E75 cr66.1)
  have hk79 := Nat.le_trans hk67 E75.1
  have f80 := (f68).ext E75
  have f81 := (f69).ext E75
  have f82 := (f70).ext E75
  have f83 := (f71).ext E75
  have f84 := (f72).ext E75
  have f85 := (V64).ext E75
  have z86 := Nat.le_trans z74 E75.1
  have sn75 := Safe.ext E75 cr66.1 (Safe.new (Nat.le_of_eq g75.symm))
  have F75_coder : Fld Z h75 b75 "java/lang/String" "coder" "B" (.int (0 : Int32)) := D75 (Or.inr (hw _ (List.mem_of_getElem? (i := 35) rfl))) (ty := .byte) (by decide)
  have F75_value : Fld Z h75 b75 "java/lang/String" "value" "[B" .null := D75 (Or.inr (hw _ (List.mem_of_getElem? (i := 37) rfl))) (ty := (.array .byte)) (by decide)
  show Go p.tables e below _ (T75.setTop (mkF m 96 #[.val (.int p1), .val (.int p2), .val (.int p3), .val (.int p4), .val (.int p5), .val (.int p6), .val (.int av), .val (.int kv), .val (.ref b1), .unset, .unset, .unset, .unset] [(.ref b75)]))
  refine Go.st (fun U hr => XS.dup X75.here hx rfl (hb hby at_96) rfl rfl hr) ?_
  show Go p.tables e below _ (T75.setTop (mkF m 97 #[.val (.int p1), .val (.int p2), .val (.int p3), .val (.int p4), .val (.int p5), .val (.int p6), .val (.int av), .val (.int kv), .val (.ref b1), .unset, .unset, .unset, .unset] [(.ref b75), (.ref b75)]))
  refine Go.st (fun U hr => XS.aload X75.here hx rfl (hb hby at_97) rfl rfl hr) ?_
  show Go p.tables e below _ (T75.setTop (mkF m 99 #[.val (.int p1), .val (.int p2), .val (.int p3), .val (.int p4), .val (.int p5), .val (.int p6), .val (.int av), .val (.int kv), .val (.ref b1), .unset, .unset, .unset, .unset] [(.ref b1), (.ref b75), (.ref b75)]))
  have Vc : Arv Z h75 b1 k1 .char (5 : Int32) [(.int c0), (.int c1), (.int c2), (.int c3), (.int c4)] (.int (0 : Int32)) := by
    have q : Arv Z h75 b1 k1 .char (5 : Int32) [(.int (nar .char c0)), (.int (nar .char c1)), (.int (nar .char c2)), (.int (nar .char c3)), (.int (nar .char c4))] (.int (0 : Int32)) := f85
    rw [own_nar c0 ch0, own_nar c1 ch1, own_nar c2 ch2, own_nar c3 ch3, own_nar c4 ch4] at q; exact q
  obtain ⟨_, _, ⟨T87, L87, k87, n87⟩, -, X87, ⟨Lc87, hQ87, l87, y87, z87⟩, st87⟩ := X75.specialBack hx (y := (⟨"java/lang/String", "<init>", "([C)V"⟩ : MethodName)) rfl hown (mvT hZ (hw _ (List.mem_of_getElem? (i := 12) rfl))) (mvT hZ (hw _ (List.mem_of_getElem? (i := 13) rfl))) (mvT hZ (hw _ (List.mem_of_getElem? (i := 14) rfl))) (by decide) (backOf (W := 1) (rm3 l Z a0 hw [] b75 b1 wc sf k1 c0 c1 c2 c3 c4 h75 n0 z86 ⟨f80, hwc, f81, f82, f83, f84⟩ A75 F75_value F75_coder gb75 Vc ⟨ch0, ch1, ch2, ch3, ch4⟩ n76) hZ (hw _ (List.mem_of_getElem? (i := 14) rfl)) (hw _ (List.mem_of_getElem? (i := 11) rfl)) (by decide) (by decide)) (g := (mkF m 99 #[.val (.int p1), .val (.int p2), .val (.int p3), .val (.int p4), .val (.int p5), .val (.int p6), .val (.int av), .val (.int kv), .val (.ref b1), .unset, .unset, .unset, .unset] [(.ref b1), (.ref b75), (.ref b75)])) rfl (by rw [hml]; rfl) (Steps.refl _) (a := b75) (argsL := [(.ref b1)]) (rest := [(.ref b75)]) (lenOf pd_28 rfl) rfl (by show 2 * 0 + _ ≤ _; exact Nat.le_of_eq rfl) (hb hby at_99) (fun _ _ => ⟨rfl, e75, (by decide : 2 + 2 ≤ _), (by decide : 9 + 15 ≤ _)⟩)
  dsimp only [Pt.U, Pt.locs, Pt.cells, Pt.slots] at X87 l87 y87 z87 st87 hQ87
  subst l87 y87 z87
  obtain ⟨rfl, Nq87, Kq87, Sq87⟩ := hQ87
  have N87 := Fr.app N64 Nq87
  refine Go.tr st87 ?_
  show Go p.tables e below _ (T87.setTop (mkF m 102 #[.val (.int p1), .val (.int p2), .val (.int p3), .val (.int p4), .val (.int p5), .val (.int p6), .val (.int av), .val (.int kv), .val (.ref b1), .unset, .unset, .unset, .unset] [(.ref b75)]))
  have sf88 := Safe.keep Kq87 (allS sn75 all0) cr78.1 sf77
  have sf89 := Safe.keep Kq87 (allS sn75 all0) cr78.1 sn75
  have cr90 := (cr78).trans (CHr.keep Kq87 (allS sn75 all0) cr78.1)
  have hk91 := Nat.le_trans hk79 Kq87.1
  have f92 := own_stk Kq87 (allS (own_nsE A75) all0) f80
  have f93 := own_stk Kq87 (allS (own_nsE A75) all0) f81
  have f94 := own_stk Kq87 (allS (own_nsE A75) all0) f82
  have f95 := own_stk Kq87 (allS (own_nsE A75) all0) f83
  have f96 := own_stk Kq87 (allS (own_nsE A75) all0) f84
  have f97 := (f85).keep Kq87 (ninS n76 nin0)
  have f98 := (A75).keep Kq87
  have z101 := Nat.le_trans z86 Kq87.1
  obtain ⟨va, kb, cd, zn, ys, sva, St, hbig⟩ := Sq87
  obtain ⟨cs, hcs⟩ : ∃ z, z = [c0, c1, c2, c3, c4] := ⟨_, rfl⟩
  rw [← hcs] at St hbig
  have hcl : cs.length = 5 := by rw [hcs]; rfl
  have hmid : own_mid cs A K := by rw [hcs]; exact own_mid_pick hA hKv hAK hc0 hc1 hc2 hc3 hc4
  obtain ⟨E1, F1, F2, V1, hz, hen, h5⟩ := id St
  refine Go.st (fun U hr => XS.astore X87.here hx rfl (hb hby at_102) rfl rfl (l' := #[.val (.int p1), .val (.int p2), .val (.int p3), .val (.int p4), .val (.int p5), .val (.int p6), .val (.int av), .val (.int kv), .val (.ref b1), .val (.ref b75), .unset, .unset, .unset]) rfl hr) ?_
  show Go p.tables e below _ (T87.setTop (mkF m 104 #[.val (.int p1), .val (.int p2), .val (.int p3), .val (.int p4), .val (.int p5), .val (.int p6), .val (.int av), .val (.int kv), .val (.ref b1), .val (.ref b75), .unset, .unset, .unset] []))
  obtain ⟨T102, h102, X102, e102, E102, A102, D102, -, st102⟩ := newO X87 hx hZ hown (hw _ (List.mem_of_getElem? (i := 9) rfl)) (hw _ (List.mem_of_getElem? (i := 10) rfl)) (hw _ (List.mem_of_getElem? (i := 11) rfl)) rfl (g := (mkF m 104 #[.val (.int p1), .val (.int p2), .val (.int p3), .val (.int p4), .val (.int p5), .val (.int p6), .val (.int av), .val (.int kv), .val (.ref b1), .val (.ref b75), .unset, .unset, .unset] [])) rfl (hb hby at_104) (by decide) (by decide)
  obtain ⟨b102, g102⟩ : ∃ z, z = T87.heap.size := ⟨_, rfl⟩
  rw [← g102] at A102 D102 st102
  refine Go.st st102 ?_
  have gb102 : n0 ≤ b102 := Nat.le_trans z101 (Nat.le_of_eq g102.symm)
  have n103 : b1 ≠ b102 := Nat.ne_of_lt (Nat.lt_of_lt_of_le (f97).lt (Nat.le_of_eq g102.symm))
  have n104 : b75 ≠ b102 := Nat.ne_of_lt (Nat.lt_of_lt_of_le (E1).lt (Nat.le_of_eq g102.symm))
  have n105 : va ≠ b102 := Nat.ne_of_lt (Nat.lt_of_lt_of_le (V1).lt (Nat.le_of_eq g102.symm))
  have sf106 := Safe.ext E102 cr90.1 sf88
  have sf107 := Safe.ext E102 cr90.1 sf89
  have cr108 := (cr90).trans (CHr.ext E102 cr90.1)
  have hk109 := Nat.le_trans hk91 E102.1
  have f110 := (f92).ext E102
  have f111 := (f93).ext E102
  have f112 := (f94).ext E102
  have f113 := (f95).ext E102
  have f114 := (f96).ext E102
  have f115 := (f97).ext E102
  have f116 := (E1).ext E102
  have f117 := (F1).ext E102
  have f118 := (F2).ext E102
  have f119 := (V1).ext E102
  have z120 := Nat.le_trans z101 E102.1
  have sn102 := Safe.ext E102 cr90.1 (Safe.new (Nat.le_of_eq g102.symm))
  have F102_coder : Fld Z h102 b102 "java/lang/String" "coder" "B" (.int (0 : Int32)) := D102 (Or.inr (hw _ (List.mem_of_getElem? (i := 35) rfl))) (ty := .byte) (by decide)
  have F102_value : Fld Z h102 b102 "java/lang/String" "value" "[B" .null := D102 (Or.inr (hw _ (List.mem_of_getElem? (i := 37) rfl))) (ty := (.array .byte)) (by decide)
  show Go p.tables e below _ (T102.setTop (mkF m 107 #[.val (.int p1), .val (.int p2), .val (.int p3), .val (.int p4), .val (.int p5), .val (.int p6), .val (.int av), .val (.int kv), .val (.ref b1), .val (.ref b75), .unset, .unset, .unset] [(.ref b102)]))
  refine Go.st (fun U hr => XS.dup X102.here hx rfl (hb hby at_107) rfl rfl hr) ?_
  show Go p.tables e below _ (T102.setTop (mkF m 108 #[.val (.int p1), .val (.int p2), .val (.int p3), .val (.int p4), .val (.int p5), .val (.int p6), .val (.int av), .val (.int kv), .val (.ref b1), .val (.ref b75), .unset, .unset, .unset] [(.ref b102), (.ref b102)]))
  refine Go.st (fun U hr => XS.iconst X102.here hx rfl (hb hby at_108) hr) ?_
  show Go p.tables e below _ (T102.setTop (mkF m 109 #[.val (.int p1), .val (.int p2), .val (.int p3), .val (.int p4), .val (.int p5), .val (.int p6), .val (.int av), .val (.int kv), .val (.ref b1), .val (.ref b75), .unset, .unset, .unset] [(.int (0 : Int32)), (.ref b102), (.ref b102)]))
  obtain ⟨T121, h121, k121, X121, e121, E121, A121, st121⟩ := newP X102 hx hZ (hw _ (List.mem_of_getElem? (i := 1) rfl)) e102 (g := (mkF m 109 #[.val (.int p1), .val (.int p2), .val (.int p3), .val (.int p4), .val (.int p5), .val (.int p6), .val (.int av), .val (.int kv), .val (.ref b1), .val (.ref b75), .unset, .unset, .unset] [(.int (0 : Int32)), (.ref b102), (.ref b102)])) rfl (hb hby at_109) rfl (by decide) (cap := 0) (by decide) (by decide) (by decide) (by decide)
  obtain ⟨b121, g121⟩ : ∃ z, z = h102.size := ⟨_, rfl⟩
  rw [← g121] at A121 st121
  refine Go.st st121 ?_
  have gb121 : n0 ≤ b121 := Nat.le_trans z120 (Nat.le_of_eq g121.symm)
  have n122 : b1 ≠ b121 := Nat.ne_of_lt (Nat.lt_of_lt_of_le (f115).lt (Nat.le_of_eq g121.symm))
  have n123 : b75 ≠ b121 := Nat.ne_of_lt (Nat.lt_of_lt_of_le (f116).lt (Nat.le_of_eq g121.symm))
  have n124 : va ≠ b121 := Nat.ne_of_lt (Nat.lt_of_lt_of_le (f119).lt (Nat.le_of_eq g121.symm))
  have n125 : b102 ≠ b121 := Nat.ne_of_lt (Nat.lt_of_lt_of_le (A102).lt (Nat.le_of_eq g121.symm))
  have sf126 := Safe.ext E121 cr108.1 sf106
  have sf127 := Safe.ext E121 cr108.1 sf107
  have sf128 := Safe.ext E121 cr108.1 sn102
  have cr129 := (cr108).trans (CHr.ext E121 cr108.1)
  have hk130 := Nat.le_trans hk109 E121.1
  have f131 := (f110).ext E121
  have f132 := (f111).ext E121
  have f133 := (f112).ext E121
  have f134 := (f113).ext E121
  have f135 := (f114).ext E121
  have f136 := (f115).ext E121
  have f137 := (f116).ext E121
  have f138 := (f117).ext E121
  have f139 := (f118).ext E121
  have f140 := (f119).ext E121
  have f141 := (A102).ext E121
  have f142 := (F102_coder).ext E121
  have f143 := (F102_value).ext E121
  have z144 := Nat.le_trans z120 E121.1
  have sn121 := Safe.ext E121 cr108.1 (Safe.new (Nat.le_of_eq g121.symm))
  have V121 : Arv Z h121 b121 k121 .char (0 : Int32) [] (.int (0 : Int32)) := (Arv.new A121 (by decide)).pad (pad_rep [] (.int (0 : Int32)) 0)
  show Go p.tables e below _ (T121.setTop (mkF m 111 #[.val (.int p1), .val (.int p2), .val (.int p3), .val (.int p4), .val (.int p5), .val (.int p6), .val (.int av), .val (.int kv), .val (.ref b1), .val (.ref b75), .unset, .unset, .unset] [(.ref b121), (.ref b102), (.ref b102)]))
  obtain ⟨_, _, ⟨T145, L145, k145, n145⟩, -, Xq145, hSq145, hgq145, ⟨Lc145, hQ145, l145, y145, z145, Cc145⟩, st145⟩ := X121.specialBackS hx (y := (⟨"java/lang/String", "<init>", "([C)V"⟩ : MethodName)) rfl hown (mvT hZ (hw _ (List.mem_of_getElem? (i := 12) rfl))) (mvT hZ (hw _ (List.mem_of_getElem? (i := 13) rfl))) (mvT hZ (hw _ (List.mem_of_getElem? (i := 14) rfl))) (by decide) (backOfSH (W := 1) (rm3z l Z a0 hw [] b102 b121 k121 h121 n0 z144 f141 f143 f142 gb102 V121) hZ (hw _ (List.mem_of_getElem? (i := 14) rfl)) (hw _ (List.mem_of_getElem? (i := 11) rfl)) (by decide) (by decide) hEL cr129.1) (g := (mkF m 111 #[.val (.int p1), .val (.int p2), .val (.int p3), .val (.int p4), .val (.int p5), .val (.int p6), .val (.int av), .val (.int kv), .val (.ref b1), .val (.ref b75), .unset, .unset, .unset] [(.ref b121), (.ref b102), (.ref b102)])) rfl (by rw [hml]; rfl) (Steps.refl _) (a := b102) (argsL := [(.ref b121)]) (rest := [(.ref b102)]) (lenOf pd_28 rfl) rfl (by show 2 * 0 + _ ≤ _; exact Nat.le_of_eq rfl) (hb hby at_111) (fun _ _ => ⟨rfl, e121, (by decide : 6 + 4 ≤ _), (by decide : 28 + 8 ≤ _)⟩)
  dsimp only [Pt.U, Pt.locs, Pt.cells, Pt.slots] at Xq145 hSq145 hgq145 l145 y145 z145 Cc145 st145 hQ145
  subst l145 y145 z145
  obtain ⟨X145, hS145, hZ, hown⟩ := rebS hS0 (by rw [e121]; exact hk130) Xq145 hSq145 hgq145 hZ hown
  have cr145 := (cr129).trans Cc145
  have hk145 : T145.heap.size ≤ T145.heap.size := Nat.le_refl _
  obtain ⟨rfl, Nq145, Kq145, Sq145⟩ := hQ145
  have N145 := Fr.app N87 Nq145
  refine Go.tr st145 ?_
  show Go p.tables e below _ (T145.setTop (mkF m 114 #[.val (.int p1), .val (.int p2), .val (.int p3), .val (.int p4), .val (.int p5), .val (.int p6), .val (.int av), .val (.int kv), .val (.ref b1), .val (.ref b75), .unset, .unset, .unset] [(.ref b102)]))
  have f146 := own_stk Kq145 (allS (own_nsE f141) all0) f131
  have f147 := own_stk Kq145 (allS (own_nsE f141) all0) f132
  have f148 := own_stk Kq145 (allS (own_nsE f141) all0) f133
  have f149 := own_stk Kq145 (allS (own_nsE f141) all0) f134
  have f150 := own_stk Kq145 (allS (own_nsE f141) all0) f135
  have f151 := (f136).keep Kq145 (ninS n103 nin0)
  have f152 := (f137).keep Kq145
  have f153 := (f138).keep Kq145 (ninS n104 nin0)
  have f154 := (f139).keep Kq145 (ninS n104 nin0)
  have f155 := (f140).keep Kq145 (ninS n105 nin0)
  have f156 := (f141).keep Kq145
  have f159 := (V121).keep Kq145 (ninS (Ne.symm n125) nin0)
  have z160 := Nat.le_trans z144 Kq145.1
  obtain ⟨ve, ke, Se⟩ := Sq145
  obtain ⟨E1e, F1e, F2e, V1e, hze, hene, h5e⟩ := id Se
  refine Go.st (fun U hr => XS.astore X145.here hx rfl (hb hby at_114) rfl rfl (l' := #[.val (.int p1), .val (.int p2), .val (.int p3), .val (.int p4), .val (.int p5), .val (.int p6), .val (.int av), .val (.int kv), .val (.ref b1), .val (.ref b75), .val (.ref b102), .unset, .unset]) rfl hr) ?_
  show Go p.tables e below _ (T145.setTop (mkF m 116 #[.val (.int p1), .val (.int p2), .val (.int p3), .val (.int p4), .val (.int p5), .val (.int p6), .val (.int av), .val (.int kv), .val (.ref b1), .val (.ref b75), .val (.ref b102), .unset, .unset] []))
  refine Go.st (fun U hr => XS.aload X145.here hx rfl (hb hby at_116) rfl rfl hr) ?_
  show Go p.tables e below _ (T145.setTop (mkF m 118 #[.val (.int p1), .val (.int p2), .val (.int p3), .val (.int p4), .val (.int p5), .val (.int p6), .val (.int av), .val (.int kv), .val (.ref b1), .val (.ref b75), .val (.ref b102), .unset, .unset] [(.ref b75)]))
  rcases Nat.eq_zero_or_pos K with hK | hK
  · subst hK
    have hmidz := own_mid_all hmid
    have hcd : cd = 0 := hbig.resolve_right (fun ⟨i, hi, q⟩ => own_is_small (hmidz.2.1 i (by omega)) q)
    obtain ⟨_, _, ⟨T161, L161, k161, n161⟩, -, Xq161, hSq161, hgq161, ⟨Lc161, hQ161, l161, y161, z161, Cc161⟩, st161⟩ := callSS X145 hx (y := (⟨"adjunct/core/XmlSpace", "strip", "(Ljava/lang/String;)Ljava/lang/String;"⟩ : MethodName)) hown (mvT hZ (hw _ (List.mem_of_getElem? (i := 41) rfl))) (mvT hZ (hw _ (List.mem_of_getElem? (i := 42) rfl))) (mvT hZ (hw _ (List.mem_of_getElem? (i := 43) rfl))) (mvT hZ (hw _ (List.mem_of_getElem? (i := 44) rfl))) (by decide) (backOfSH (W := 0) (rm9z l Z a0 hw [] b75 wc sf va kb cd zn ys cs cs.length 0 T145.heap n0 z160 ⟨f146, hwc, f147, f148, f149, f150⟩ ⟨f152, f153, f154, f155, hz, hen, h5⟩ hmidz ⟨rfl, rfl⟩ hcd (by omega)) hZ (hw _ (List.mem_of_getElem? (i := 44) rfl)) (hw _ (List.mem_of_getElem? (i := 43) rfl)) (by decide) (by decide) hEL cr145.1) (g := (mkF m 118 #[.val (.int p1), .val (.int p2), .val (.int p3), .val (.int p4), .val (.int p5), .val (.int p6), .val (.int av), .val (.int kv), .val (.ref b1), .val (.ref b75), .val (.ref b102), .unset, .unset] [(.ref b75)])) rfl (by rw [hml]; rfl) (argsL := [(.ref b75)]) (rest := []) (lenOf pd_29 rfl) rfl (by show 2 * 0 + _ ≤ _; exact Nat.le_of_eq rfl) (hb hby at_118) (fun _ _ => ⟨rfl, rfl, (by decide : 10 + 2 ≤ _), (by decide : 36 + 4 ≤ _)⟩)
    dsimp only [Pt.U, Pt.locs, Pt.cells, Pt.slots] at Xq161 hSq161 hgq161 l161 y161 z161 Cc161 st161 hQ161
    subst l161 y161 z161
    obtain ⟨X161, hS161, hZ, hown⟩ := rebS hS145 hk145 Xq161 hSq161 hgq161 hZ hown
    have cr161 := (cr145).trans Cc161
    have hk161 : T161.heap.size ≤ T161.heap.size := Nat.le_refl _
    obtain ⟨r161, rfl, Nq161, Kq161, Sq161⟩ := hQ161
    have N161 := Fr.app N145 Nq161
    refine Go.tr st161 ?_
    show Go p.tables e below _ (T161.setTop (mkF m 121 #[.val (.int p1), .val (.int p2), .val (.int p3), .val (.int p4), .val (.int p5), .val (.int p6), .val (.int av), .val (.int kv), .val (.ref b1), .val (.ref b75), .val (.ref b102), .unset, .unset] [(.ref r161)]))
    have f162 := own_stk Kq161 all0 f146
    have f163 := own_stk Kq161 all0 f147
    have f164 := own_stk Kq161 all0 f148
    have f165 := own_stk Kq161 all0 f149
    have f166 := own_stk Kq161 all0 f150
    have f167 := (f151).keep Kq161 nin0
    have f168 := (f152).keep Kq161
    have f169 := (f153).keep Kq161 nin0
    have f170 := (f154).keep Kq161 nin0
    have f171 := (f155).keep Kq161 nin0
    have f172 := (E1e).keep Kq161
    have f173 := (f159).keep Kq161 nin0
    have f174 := (F1e).keep Kq161 nin0
    have f175 := (F2e).keep Kq161 nin0
    have f176 := (V1e).keep Kq161 nin0
    have z177 := Nat.le_trans z160 Kq161.1
    obtain ⟨vr, kr, Sr⟩ := Sq161
    have Sr' : own_Str Z T161.heap r161 vr kr 0 0 [] (own_sl cs A 0) := Sr
    obtain ⟨Er, Fr1, Fr2, Vr, hzr, henr, h5r⟩ := id Sr'
    refine Go.st (fun U hr => XS.astore X161.here hx rfl (hb hby at_121) rfl rfl (l' := #[.val (.int p1), .val (.int p2), .val (.int p3), .val (.int p4), .val (.int p5), .val (.int p6), .val (.int av), .val (.int kv), .val (.ref b1), .val (.ref b75), .val (.ref b102), .val (.ref r161), .unset]) rfl hr) ?_
    show Go p.tables e below _ (T161.setTop (mkF m 123 #[.val (.int p1), .val (.int p2), .val (.int p3), .val (.int p4), .val (.int p5), .val (.int p6), .val (.int av), .val (.int kv), .val (.ref b1), .val (.ref b75), .val (.ref b102), .val (.ref r161), .unset] []))
    refine Go.st (fun U hr => XS.aload X161.here hx rfl (hb hby at_123) rfl rfl hr) ?_
    show Go p.tables e below _ (T161.setTop (mkF m 125 #[.val (.int p1), .val (.int p2), .val (.int p3), .val (.int p4), .val (.int p5), .val (.int p6), .val (.int av), .val (.int kv), .val (.ref b1), .val (.ref b75), .val (.ref b102), .val (.ref r161), .unset] [(.ref b102)]))
    obtain ⟨_, _, ⟨T178, L178, k178, n178⟩, -, X178, ⟨Lc178, hQ178, l178, y178, z178⟩, st178⟩ := Jvm.LawKit.callS X161 hx (y := (⟨"adjunct/core/XmlSpace", "strip", "(Ljava/lang/String;)Ljava/lang/String;"⟩ : MethodName)) hown (mvT hZ (hw _ (List.mem_of_getElem? (i := 41) rfl))) (mvT hZ (hw _ (List.mem_of_getElem? (i := 42) rfl))) (mvT hZ (hw _ (List.mem_of_getElem? (i := 43) rfl))) (mvT hZ (hw _ (List.mem_of_getElem? (i := 44) rfl))) (by decide) (backOf (W := 0) (rmstrip l Z a0 hw [] b102 wc sf ve ke 0 0 [] [] 0 0 T161.heap n0 z177 ⟨f162, hwc, f163, f164, f165, f166⟩ ⟨f172, f174, f175, f176, hze, hene, h5e⟩ own_mid0 (Or.inr ⟨rfl, rfl⟩)) hZ (hw _ (List.mem_of_getElem? (i := 44) rfl)) (hw _ (List.mem_of_getElem? (i := 43) rfl)) (by decide) (by decide)) (g := (mkF m 125 #[.val (.int p1), .val (.int p2), .val (.int p3), .val (.int p4), .val (.int p5), .val (.int p6), .val (.int av), .val (.int kv), .val (.ref b1), .val (.ref b75), .val (.ref b102), .val (.ref r161), .unset] [(.ref b102)])) rfl (by rw [hml]; rfl) (argsL := [(.ref b102)]) (rest := []) (lenOf pd_29 rfl) rfl (by show 2 * 0 + _ ≤ _; exact Nat.le_of_eq rfl) (hb hby at_125) (fun _ _ => ⟨rfl, rfl, (by decide : 12 + 3 ≤ _), (by decide : 40 + 19 ≤ _)⟩)
    dsimp only [Pt.U, Pt.locs, Pt.cells, Pt.slots] at X178 l178 y178 z178 st178 hQ178
    subst l178 y178 z178
    obtain ⟨r178, rfl, Nq178, Kq178, Sq178⟩ := hQ178
    have N178 := Fr.app N161 Nq178
    refine Go.st st178 ?_
    show Go p.tables e below _ (T178.setTop (mkF m 128 #[.val (.int p1), .val (.int p2), .val (.int p3), .val (.int p4), .val (.int p5), .val (.int p6), .val (.int av), .val (.int kv), .val (.ref b1), .val (.ref b75), .val (.ref b102), .val (.ref r161), .unset] [(.ref r178)]))
    have cr179 := (cr161).trans (CHr.keep Kq178 all0 cr161.1)
    have hk180 := Nat.le_trans hk161 Kq178.1
    have f181 := own_stk Kq178 all0 f162
    have f182 := own_stk Kq178 all0 f163
    have f183 := own_stk Kq178 all0 f164
    have f184 := own_stk Kq178 all0 f165
    have f185 := own_stk Kq178 all0 f166
    have f186 := (f167).keep Kq178 nin0
    have f187 := (f168).keep Kq178
    have f188 := (f169).keep Kq178 nin0
    have f189 := (f170).keep Kq178 nin0
    have f190 := (f171).keep Kq178 nin0
    have f191 := (f172).keep Kq178
    have f192 := (f173).keep Kq178 nin0
    have f193 := (f174).keep Kq178 nin0
    have f194 := (f175).keep Kq178 nin0
    have f195 := (f176).keep Kq178 nin0
    have f196 := (Er).keep Kq178
    have f197 := (Fr1).keep Kq178 nin0
    have f198 := (Fr2).keep Kq178 nin0
    have f199 := (Vr).keep Kq178 nin0
    have z200 := Nat.le_trans z177 Kq178.1
    obtain ⟨v2, k2, cd2, zn2, ys2, Sz⟩ := Sq178
    obtain ⟨E2, Fz1, Fz2, Vz, hz2, hen2, h52⟩ := id Sz
    refine Go.st (fun U hr => XS.astore X178.here hx rfl (hb hby at_128) rfl rfl (l' := #[.val (.int p1), .val (.int p2), .val (.int p3), .val (.int p4), .val (.int p5), .val (.int p6), .val (.int av), .val (.int kv), .val (.ref b1), .val (.ref b75), .val (.ref b102), .val (.ref r161), .val (.ref r178)]) rfl hr) ?_
    show Go p.tables e below _ (T178.setTop (mkF m 130 #[.val (.int p1), .val (.int p2), .val (.int p3), .val (.int p4), .val (.int p5), .val (.int p6), .val (.int av), .val (.int kv), .val (.ref b1), .val (.ref b75), .val (.ref b102), .val (.ref r161), .val (.ref r178)] []))
    refine Go.st (fun U hr => XS.aload X178.here hx rfl (hb hby at_130) rfl rfl hr) ?_
    show Go p.tables e below _ (T178.setTop (mkF m 132 #[.val (.int p1), .val (.int p2), .val (.int p3), .val (.int p4), .val (.int p5), .val (.int p6), .val (.int av), .val (.int kv), .val (.ref b1), .val (.ref b75), .val (.ref b102), .val (.ref r161), .val (.ref r178)] [(.ref r178)]))
    obtain ⟨cq201, kq201, q201a, q201b, q201c⟩ := isOf hZ rfl E2
    obtain ⟨_, _, ⟨T201, L201, k201, n201⟩, -, X201, ⟨Lc201, hQ201, l201, y201, z201⟩, st201⟩ := X178.virtualBack hx (y := (⟨"java/lang/String", "isEmpty", "()Z"⟩ : MethodName)) (z := (⟨"java/lang/String", "isEmpty", "()Z"⟩ : MethodName)) hown (mvT hZ (hw _ (List.mem_of_getElem? (i := 96) rfl))) (mvT hZ (hw _ (List.mem_of_getElem? (i := 97) rfl))) (notFace_of_selects (args := #[]) (mvT hZ (hw _ (List.mem_of_getElem? (i := 99) rfl)))) (mvT hZ (hw _ (List.mem_of_getElem? (i := 99) rfl))) (mvT hZ (hw _ (List.mem_of_getElem? (i := 98) rfl))) (by decide) (backOf (W := 0) (rm22 l Z a0 hw [] r178 v2 k2 cd2 zn2 ys2 (own_sl [] 0 0) T178.heap n0 z200 ⟨E2, Fz1, Fz2, Vz, hz2, hen2, h52⟩) hZ (hw _ (List.mem_of_getElem? (i := 100) rfl)) (hw _ (List.mem_of_getElem? (i := 11) rfl)) (by decide) (by decide)) q201a q201c (g := (mkF m 132 #[.val (.int p1), .val (.int p2), .val (.int p3), .val (.int p4), .val (.int p5), .val (.int p6), .val (.int av), .val (.int kv), .val (.ref b1), .val (.ref b75), .val (.ref b102), .val (.ref r161), .val (.ref r178)] [(.ref r178)])) rfl (by rw [hml]; rfl) (Steps.refl _) (argsL := []) (rest := []) (lenOf pd_9 rfl) rfl (by show 2 * 0 + _ ≤ _; exact Nat.le_of_eq rfl) (hb hby at_132) (fun _ _ => ⟨rfl, rfl, (by decide : 15 + 0 ≤ _), (by decide : 59 + 0 ≤ _)⟩)
    dsimp only [Pt.U, Pt.locs, Pt.cells, Pt.slots] at X201 l201 y201 z201 st201 hQ201
    subst l201 y201 z201
    obtain ⟨rfl, Nq201, ee201⟩ := hQ201
    have N201 := Fr.app N178 Nq201
    refine Go.tr st201 ?_
    show Go p.tables e below _ (T201.setTop (mkF m 135 #[.val (.int p1), .val (.int p2), .val (.int p3), .val (.int p4), .val (.int p5), .val (.int p6), .val (.int av), .val (.int kv), .val (.ref b1), .val (.ref b75), .val (.ref b102), .val (.ref r161), .val (.ref r178)] [(.int (if zn2 = 0 then (1 : Int32) else 0))]))
    have hc135_202 : ¬ ((if zn2 = 0 then (1 : Int32) else 0) = (0 : Int32)) := (fun q => by rw [if_pos (own_zn0 hen2 hz2 (own_sl_len _ _ _))] at q; exact absurd q (by decide))
    refine Go.st (fun U hr => XS.ifNo X201.here hx rfl (hb hby at_135) rfl ((if0 _ _).trans (feq hc135_202).1) hr) ?_
    show Go p.tables e below _ (T201.setTop (mkF m 138 #[.val (.int p1), .val (.int p2), .val (.int p3), .val (.int p4), .val (.int p5), .val (.int p6), .val (.int av), .val (.int kv), .val (.ref b1), .val (.ref b75), .val (.ref b102), .val (.ref r161), .val (.ref r178)] []))
    refine Go.st (fun U hr => XS.aload X201.here hx rfl (hb hby at_138) rfl rfl hr) ?_
    show Go p.tables e below _ (T201.setTop (mkF m 140 #[.val (.int p1), .val (.int p2), .val (.int p3), .val (.int p4), .val (.int p5), .val (.int p6), .val (.int av), .val (.int kv), .val (.ref b1), .val (.ref b75), .val (.ref b102), .val (.ref r161), .val (.ref r178)] [(.ref r161)]))
    obtain ⟨cq203, kq203, q203a, q203b, q203c⟩ := isOf hZ ee201 f196
    obtain ⟨_, _, ⟨T203, L203, k203, n203⟩, -, X203, ⟨Lc203, hQ203, l203, y203, z203⟩, st203⟩ := X201.virtualBack hx (y := (⟨"java/lang/String", "length", "()I"⟩ : MethodName)) (z := (⟨"java/lang/String", "length", "()I"⟩ : MethodName)) hown (mvT hZ (hw _ (List.mem_of_getElem? (i := 101) rfl))) (mvT hZ (hw _ (List.mem_of_getElem? (i := 46) rfl))) (notFace_of_selects (args := #[]) (mvT hZ (hw _ (List.mem_of_getElem? (i := 48) rfl)))) (mvT hZ (hw _ (List.mem_of_getElem? (i := 48) rfl))) (mvT hZ (hw _ (List.mem_of_getElem? (i := 47) rfl))) (by decide) (backOf (W := 0) (rm10 l Z a0 hw [] r161 wc sf vr kr (0 : Int32) (0 : Int32) [] (own_sl cs A 0) T178.heap n0 z200 ⟨f181, hwc, f182, f183, f184, f185⟩ ⟨f196, f197, f198, f199, hzr, henr, h5r⟩) hZ (hw _ (List.mem_of_getElem? (i := 49) rfl)) (hw _ (List.mem_of_getElem? (i := 11) rfl)) (by decide) (by decide)) q203a q203c (g := (mkF m 140 #[.val (.int p1), .val (.int p2), .val (.int p3), .val (.int p4), .val (.int p5), .val (.int p6), .val (.int av), .val (.int kv), .val (.ref b1), .val (.ref b75), .val (.ref b102), .val (.ref r161), .val (.ref r178)] [(.ref r161)])) rfl (by rw [hml]; rfl) (Steps.refl _) (argsL := []) (rest := []) (lenOf pd_23 rfl) rfl (by show 2 * 0 + _ ≤ _; exact Nat.le_of_eq rfl) (hb hby at_140) (fun _ _ => ⟨rfl, ee201, (by decide : 15 + 0 ≤ _), (by decide : 59 + 0 ≤ _)⟩)
    dsimp only [Pt.U, Pt.locs, Pt.cells, Pt.slots] at X203 l203 y203 z203 st203 hQ203
    subst l203 y203 z203
    obtain ⟨rfl, Nq203, ee203⟩ := hQ203
    have N203 := Fr.app N201 Nq203
    refine Go.tr st203 ?_
    show Go p.tables e below _ (T203.setTop (mkF m 143 #[.val (.int p1), .val (.int p2), .val (.int p3), .val (.int p4), .val (.int p5), .val (.int p6), .val (.int av), .val (.int kv), .val (.ref b1), .val (.ref b75), .val (.ref b102), .val (.ref r161), .val (.ref r178)] [(.int ((0 : Int32) >>> ((0 : Int32) &&& 31)))]))
    refine Go.st (fun U hr => XS.iload X203.here hx rfl (hb hby at_143) rfl hr) ?_
    show Go p.tables e below _ (T203.setTop (mkF m 145 #[.val (.int p1), .val (.int p2), .val (.int p3), .val (.int p4), .val (.int p5), .val (.int p6), .val (.int av), .val (.int kv), .val (.ref b1), .val (.ref b75), .val (.ref b102), .val (.ref r161), .val (.ref r178)] [(.int kv), (.int ((0 : Int32) >>> ((0 : Int32) &&& 31)))]))
    have hc145_204 : ((0 : Int32) >>> ((0 : Int32) &&& 31)) = kv := Int32.toInt_inj.mp (by rw [own_len henr hzr, own_sl_len, hKv])
    refine Go.st (fun U hr => XS.icmpNo X203.here hx rfl (hb hby at_145) rfl (teq hc145_204).2 hr) ?_
    show Go p.tables e below _ (T203.setTop (mkF m 148 #[.val (.int p1), .val (.int p2), .val (.int p3), .val (.int p4), .val (.int p5), .val (.int p6), .val (.int av), .val (.int kv), .val (.ref b1), .val (.ref b75), .val (.ref b102), .val (.ref r161), .val (.ref r178)] []))
    refine Go.st (fun U hr => XS.aload X203.here hx rfl (hb hby at_148) rfl rfl hr) ?_
    show Go p.tables e below _ (T203.setTop (mkF m 150 #[.val (.int p1), .val (.int p2), .val (.int p3), .val (.int p4), .val (.int p5), .val (.int p6), .val (.int av), .val (.int kv), .val (.ref b1), .val (.ref b75), .val (.ref b102), .val (.ref r161), .val (.ref r178)] [(.ref r161)]))
    refine Go.st (fun U hr => XS.aload X203.here hx rfl (hb hby at_150) rfl rfl hr) ?_
    show Go p.tables e below _ (T203.setTop (mkF m 152 #[.val (.int p1), .val (.int p2), .val (.int p3), .val (.int p4), .val (.int p5), .val (.int p6), .val (.int av), .val (.int kv), .val (.ref b1), .val (.ref b75), .val (.ref b102), .val (.ref r161), .val (.ref r178)] [(.ref b75), (.ref r161)]))
    refine Go.st (fun U hr => XS.iload X203.here hx rfl (hb hby at_152) rfl hr) ?_
    show Go p.tables e below _ (T203.setTop (mkF m 154 #[.val (.int p1), .val (.int p2), .val (.int p3), .val (.int p4), .val (.int p5), .val (.int p6), .val (.int av), .val (.int kv), .val (.ref b1), .val (.ref b75), .val (.ref b102), .val (.ref r161), .val (.ref r178)] [(.int av), (.ref b75), (.ref r161)]))
    refine Go.st (fun U hr => XS.iconst X203.here hx rfl (hb hby at_154) hr) ?_
    show Go p.tables e below _ (T203.setTop (mkF m 155 #[.val (.int p1), .val (.int p2), .val (.int p3), .val (.int p4), .val (.int p5), .val (.int p6), .val (.int av), .val (.int kv), .val (.ref b1), .val (.ref b75), .val (.ref b102), .val (.ref r161), .val (.ref r178)] [(.int (0 : Int32)), (.int av), (.ref b75), (.ref r161)]))
    obtain ⟨_, _, ⟨T205, L205, k205, n205⟩, -, X205, ⟨Lc205, hQ205, l205, y205, z205⟩, st205⟩ := Jvm.LawKit.callS X203 hx (y := (⟨"adjunct/core/XmlSpaceStripPinLaw", "same", "(Ljava/lang/String;Ljava/lang/String;II)Z"⟩ : MethodName)) hown (mvT hZ (hw _ (List.mem_of_getElem? (i := 102) rfl))) (mvT hZ (hw _ (List.mem_of_getElem? (i := 103) rfl))) (mvT hZ (hw _ (List.mem_of_getElem? (i := 4) rfl))) (mvT hZ (hw _ (List.mem_of_getElem? (i := 104) rfl))) (by decide) (backOf (W := 0) (rm23 l Z a0 hw [] r161 b75 av (0 : Int32) wc sf vr kr (0 : Int32) (0 : Int32) [] va kb cd zn ys cs A 0 0 T178.heap n0 z200 ⟨f181, hwc, f182, f183, f184, f185⟩ ⟨f196, f197, f198, f199, hzr, henr, h5r⟩ ⟨f187, f188, f189, f190, hz, hen, h5⟩ hA (by decide) (by omega)) hZ (hw _ (List.mem_of_getElem? (i := 104) rfl)) (hw _ (List.mem_of_getElem? (i := 4) rfl)) (by decide) (by decide)) (g := (mkF m 155 #[.val (.int p1), .val (.int p2), .val (.int p3), .val (.int p4), .val (.int p5), .val (.int p6), .val (.int av), .val (.int kv), .val (.ref b1), .val (.ref b75), .val (.ref b102), .val (.ref r161), .val (.ref r178)] [(.int (0 : Int32)), (.int av), (.ref b75), (.ref r161)])) rfl (by rw [hml]; rfl) (argsL := [(.ref r161), (.ref b75), (.int av), (.int (0 : Int32))]) (rest := []) (lenOf pd_30 rfl) rfl (by show 2 * 0 + _ ≤ _; exact Nat.le_of_eq rfl) (hb hby at_155) (fun _ _ => ⟨rfl, ee203, (by decide : 15 + 0 ≤ _), (by decide : 59 + 0 ≤ _)⟩)
    dsimp only [Pt.U, Pt.locs, Pt.cells, Pt.slots] at X205 l205 y205 z205 st205 hQ205
    subst l205 y205 z205
    obtain ⟨rfl, Nq205, ee205⟩ := hQ205
    have N205 := Fr.app N203 Nq205
    refine Go.st st205 ?_
    show Go p.tables e below _ (T205.setTop (mkF m 158 #[.val (.int p1), .val (.int p2), .val (.int p3), .val (.int p4), .val (.int p5), .val (.int p6), .val (.int av), .val (.int kv), .val (.ref b1), .val (.ref b75), .val (.ref b102), .val (.ref r161), .val (.ref r178)] [(.int (1 : Int32))]))
    refine Go.st (fun U hr => XS.ifNo X205.here hx rfl (hb hby at_158) rfl (by decide) hr) ?_
    show Go p.tables e below _ (T205.setTop (mkF m 161 #[.val (.int p1), .val (.int p2), .val (.int p3), .val (.int p4), .val (.int p5), .val (.int p6), .val (.int av), .val (.int kv), .val (.ref b1), .val (.ref b75), .val (.ref b102), .val (.ref r161), .val (.ref r178)] []))
    refine Go.st (fun U hr => XS.aload X205.here hx rfl (hb hby at_161) rfl rfl hr) ?_
    show Go p.tables e below _ (T205.setTop (mkF m 163 #[.val (.int p1), .val (.int p2), .val (.int p3), .val (.int p4), .val (.int p5), .val (.int p6), .val (.int av), .val (.int kv), .val (.ref b1), .val (.ref b75), .val (.ref b102), .val (.ref r161), .val (.ref r178)] [(.ref r161)]))
    refine Go.st (fun U hr => XS.aload X205.here hx rfl (hb hby at_163) rfl rfl hr) ?_
    show Go p.tables e below _ (T205.setTop (mkF m 165 #[.val (.int p1), .val (.int p2), .val (.int p3), .val (.int p4), .val (.int p5), .val (.int p6), .val (.int av), .val (.int kv), .val (.ref b1), .val (.ref b75), .val (.ref b102), .val (.ref r161), .val (.ref r178)] [(.ref b75), (.ref r161)]))
    refine Go.st (fun U hr => XS.iload X205.here hx rfl (hb hby at_165) rfl hr) ?_
    show Go p.tables e below _ (T205.setTop (mkF m 167 #[.val (.int p1), .val (.int p2), .val (.int p3), .val (.int p4), .val (.int p5), .val (.int p6), .val (.int av), .val (.int kv), .val (.ref b1), .val (.ref b75), .val (.ref b102), .val (.ref r161), .val (.ref r178)] [(.int av), (.ref b75), (.ref r161)]))
    refine Go.st (fun U hr => XS.iconst X205.here hx rfl (hb hby at_167) hr) ?_
    show Go p.tables e below _ (T205.setTop (mkF m 168 #[.val (.int p1), .val (.int p2), .val (.int p3), .val (.int p4), .val (.int p5), .val (.int p6), .val (.int av), .val (.int kv), .val (.ref b1), .val (.ref b75), .val (.ref b102), .val (.ref r161), .val (.ref r178)] [(.int (1 : Int32)), (.int av), (.ref b75), (.ref r161)]))
    obtain ⟨_, _, ⟨T206, L206, k206, n206⟩, -, X206, ⟨Lc206, hQ206, l206, y206, z206⟩, st206⟩ := Jvm.LawKit.callS X205 hx (y := (⟨"adjunct/core/XmlSpaceStripPinLaw", "same", "(Ljava/lang/String;Ljava/lang/String;II)Z"⟩ : MethodName)) hown (mvT hZ (hw _ (List.mem_of_getElem? (i := 102) rfl))) (mvT hZ (hw _ (List.mem_of_getElem? (i := 103) rfl))) (mvT hZ (hw _ (List.mem_of_getElem? (i := 4) rfl))) (mvT hZ (hw _ (List.mem_of_getElem? (i := 104) rfl))) (by decide) (backOf (W := 0) (rm23 l Z a0 hw [] r161 b75 av (1 : Int32) wc sf vr kr (0 : Int32) (0 : Int32) [] va kb cd zn ys cs A 0 1 T178.heap n0 z200 ⟨f181, hwc, f182, f183, f184, f185⟩ ⟨f196, f197, f198, f199, hzr, henr, h5r⟩ ⟨f187, f188, f189, f190, hz, hen, h5⟩ hA (by decide) (by omega)) hZ (hw _ (List.mem_of_getElem? (i := 104) rfl)) (hw _ (List.mem_of_getElem? (i := 4) rfl)) (by decide) (by decide)) (g := (mkF m 168 #[.val (.int p1), .val (.int p2), .val (.int p3), .val (.int p4), .val (.int p5), .val (.int p6), .val (.int av), .val (.int kv), .val (.ref b1), .val (.ref b75), .val (.ref b102), .val (.ref r161), .val (.ref r178)] [(.int (1 : Int32)), (.int av), (.ref b75), (.ref r161)])) rfl (by rw [hml]; rfl) (argsL := [(.ref r161), (.ref b75), (.int av), (.int (1 : Int32))]) (rest := []) (lenOf pd_30 rfl) rfl (by show 2 * 0 + _ ≤ _; exact Nat.le_of_eq rfl) (hb hby at_168) (fun _ _ => ⟨rfl, ee205, (by decide : 15 + 0 ≤ _), (by decide : 59 + 0 ≤ _)⟩)
    dsimp only [Pt.U, Pt.locs, Pt.cells, Pt.slots] at X206 l206 y206 z206 st206 hQ206
    subst l206 y206 z206
    obtain ⟨rfl, Nq206, ee206⟩ := hQ206
    have N206 := Fr.app N205 Nq206
    refine Go.st st206 ?_
    show Go p.tables e below _ (T206.setTop (mkF m 171 #[.val (.int p1), .val (.int p2), .val (.int p3), .val (.int p4), .val (.int p5), .val (.int p6), .val (.int av), .val (.int kv), .val (.ref b1), .val (.ref b75), .val (.ref b102), .val (.ref r161), .val (.ref r178)] [(.int (1 : Int32))]))
    refine Go.st (fun U hr => XS.ifNo X206.here hx rfl (hb hby at_171) rfl (by decide) hr) ?_
    show Go p.tables e below _ (T206.setTop (mkF m 174 #[.val (.int p1), .val (.int p2), .val (.int p3), .val (.int p4), .val (.int p5), .val (.int p6), .val (.int av), .val (.int kv), .val (.ref b1), .val (.ref b75), .val (.ref b102), .val (.ref r161), .val (.ref r178)] []))
    refine Go.st (fun U hr => XS.aload X206.here hx rfl (hb hby at_174) rfl rfl hr) ?_
    show Go p.tables e below _ (T206.setTop (mkF m 176 #[.val (.int p1), .val (.int p2), .val (.int p3), .val (.int p4), .val (.int p5), .val (.int p6), .val (.int av), .val (.int kv), .val (.ref b1), .val (.ref b75), .val (.ref b102), .val (.ref r161), .val (.ref r178)] [(.ref r161)]))
    refine Go.st (fun U hr => XS.aload X206.here hx rfl (hb hby at_176) rfl rfl hr) ?_
    show Go p.tables e below _ (T206.setTop (mkF m 178 #[.val (.int p1), .val (.int p2), .val (.int p3), .val (.int p4), .val (.int p5), .val (.int p6), .val (.int av), .val (.int kv), .val (.ref b1), .val (.ref b75), .val (.ref b102), .val (.ref r161), .val (.ref r178)] [(.ref b75), (.ref r161)]))
    refine Go.st (fun U hr => XS.iload X206.here hx rfl (hb hby at_178) rfl hr) ?_
    show Go p.tables e below _ (T206.setTop (mkF m 180 #[.val (.int p1), .val (.int p2), .val (.int p3), .val (.int p4), .val (.int p5), .val (.int p6), .val (.int av), .val (.int kv), .val (.ref b1), .val (.ref b75), .val (.ref b102), .val (.ref r161), .val (.ref r178)] [(.int av), (.ref b75), (.ref r161)]))
    refine Go.st (fun U hr => XS.iconst X206.here hx rfl (hb hby at_180) hr) ?_
    show Go p.tables e below _ (T206.setTop (mkF m 181 #[.val (.int p1), .val (.int p2), .val (.int p3), .val (.int p4), .val (.int p5), .val (.int p6), .val (.int av), .val (.int kv), .val (.ref b1), .val (.ref b75), .val (.ref b102), .val (.ref r161), .val (.ref r178)] [(.int (2 : Int32)), (.int av), (.ref b75), (.ref r161)]))
    obtain ⟨_, _, ⟨T207, L207, k207, n207⟩, -, X207, ⟨Lc207, hQ207, l207, y207, z207⟩, st207⟩ := Jvm.LawKit.callS X206 hx (y := (⟨"adjunct/core/XmlSpaceStripPinLaw", "same", "(Ljava/lang/String;Ljava/lang/String;II)Z"⟩ : MethodName)) hown (mvT hZ (hw _ (List.mem_of_getElem? (i := 102) rfl))) (mvT hZ (hw _ (List.mem_of_getElem? (i := 103) rfl))) (mvT hZ (hw _ (List.mem_of_getElem? (i := 4) rfl))) (mvT hZ (hw _ (List.mem_of_getElem? (i := 104) rfl))) (by decide) (backOf (W := 0) (rm23 l Z a0 hw [] r161 b75 av (2 : Int32) wc sf vr kr (0 : Int32) (0 : Int32) [] va kb cd zn ys cs A 0 2 T178.heap n0 z200 ⟨f181, hwc, f182, f183, f184, f185⟩ ⟨f196, f197, f198, f199, hzr, henr, h5r⟩ ⟨f187, f188, f189, f190, hz, hen, h5⟩ hA (by decide) (by omega)) hZ (hw _ (List.mem_of_getElem? (i := 104) rfl)) (hw _ (List.mem_of_getElem? (i := 4) rfl)) (by decide) (by decide)) (g := (mkF m 181 #[.val (.int p1), .val (.int p2), .val (.int p3), .val (.int p4), .val (.int p5), .val (.int p6), .val (.int av), .val (.int kv), .val (.ref b1), .val (.ref b75), .val (.ref b102), .val (.ref r161), .val (.ref r178)] [(.int (2 : Int32)), (.int av), (.ref b75), (.ref r161)])) rfl (by rw [hml]; rfl) (argsL := [(.ref r161), (.ref b75), (.int av), (.int (2 : Int32))]) (rest := []) (lenOf pd_30 rfl) rfl (by show 2 * 0 + _ ≤ _; exact Nat.le_of_eq rfl) (hb hby at_181) (fun _ _ => ⟨rfl, ee206, (by decide : 15 + 0 ≤ _), (by decide : 59 + 0 ≤ _)⟩)
    dsimp only [Pt.U, Pt.locs, Pt.cells, Pt.slots] at X207 l207 y207 z207 st207 hQ207
    subst l207 y207 z207
    obtain ⟨rfl, Nq207, ee207⟩ := hQ207
    have N207 := Fr.app N206 Nq207
    refine Go.st st207 ?_
    show Go p.tables e below _ (T207.setTop (mkF m 184 #[.val (.int p1), .val (.int p2), .val (.int p3), .val (.int p4), .val (.int p5), .val (.int p6), .val (.int av), .val (.int kv), .val (.ref b1), .val (.ref b75), .val (.ref b102), .val (.ref r161), .val (.ref r178)] [(.int (1 : Int32))]))
    refine Go.st (fun U hr => XS.ifNo X207.here hx rfl (hb hby at_184) rfl (by decide) hr) ?_
    show Go p.tables e below _ (T207.setTop (mkF m 187 #[.val (.int p1), .val (.int p2), .val (.int p3), .val (.int p4), .val (.int p5), .val (.int p6), .val (.int av), .val (.int kv), .val (.ref b1), .val (.ref b75), .val (.ref b102), .val (.ref r161), .val (.ref r178)] []))
    refine Go.st (fun U hr => XS.aload X207.here hx rfl (hb hby at_187) rfl rfl hr) ?_
    show Go p.tables e below _ (T207.setTop (mkF m 189 #[.val (.int p1), .val (.int p2), .val (.int p3), .val (.int p4), .val (.int p5), .val (.int p6), .val (.int av), .val (.int kv), .val (.ref b1), .val (.ref b75), .val (.ref b102), .val (.ref r161), .val (.ref r178)] [(.ref r161)]))
    refine Go.st (fun U hr => XS.aload X207.here hx rfl (hb hby at_189) rfl rfl hr) ?_
    show Go p.tables e below _ (T207.setTop (mkF m 191 #[.val (.int p1), .val (.int p2), .val (.int p3), .val (.int p4), .val (.int p5), .val (.int p6), .val (.int av), .val (.int kv), .val (.ref b1), .val (.ref b75), .val (.ref b102), .val (.ref r161), .val (.ref r178)] [(.ref b75), (.ref r161)]))
    refine Go.st (fun U hr => XS.iload X207.here hx rfl (hb hby at_191) rfl hr) ?_
    show Go p.tables e below _ (T207.setTop (mkF m 193 #[.val (.int p1), .val (.int p2), .val (.int p3), .val (.int p4), .val (.int p5), .val (.int p6), .val (.int av), .val (.int kv), .val (.ref b1), .val (.ref b75), .val (.ref b102), .val (.ref r161), .val (.ref r178)] [(.int av), (.ref b75), (.ref r161)]))
    refine Go.st (fun U hr => XS.iconst X207.here hx rfl (hb hby at_193) hr) ?_
    show Go p.tables e below _ (T207.setTop (mkF m 194 #[.val (.int p1), .val (.int p2), .val (.int p3), .val (.int p4), .val (.int p5), .val (.int p6), .val (.int av), .val (.int kv), .val (.ref b1), .val (.ref b75), .val (.ref b102), .val (.ref r161), .val (.ref r178)] [(.int (3 : Int32)), (.int av), (.ref b75), (.ref r161)]))
    obtain ⟨_, _, ⟨T208, L208, k208, n208⟩, -, X208, ⟨Lc208, hQ208, l208, y208, z208⟩, st208⟩ := Jvm.LawKit.callS X207 hx (y := (⟨"adjunct/core/XmlSpaceStripPinLaw", "same", "(Ljava/lang/String;Ljava/lang/String;II)Z"⟩ : MethodName)) hown (mvT hZ (hw _ (List.mem_of_getElem? (i := 102) rfl))) (mvT hZ (hw _ (List.mem_of_getElem? (i := 103) rfl))) (mvT hZ (hw _ (List.mem_of_getElem? (i := 4) rfl))) (mvT hZ (hw _ (List.mem_of_getElem? (i := 104) rfl))) (by decide) (backOf (W := 0) (rm23 l Z a0 hw [] r161 b75 av (3 : Int32) wc sf vr kr (0 : Int32) (0 : Int32) [] va kb cd zn ys cs A 0 3 T178.heap n0 z200 ⟨f181, hwc, f182, f183, f184, f185⟩ ⟨f196, f197, f198, f199, hzr, henr, h5r⟩ ⟨f187, f188, f189, f190, hz, hen, h5⟩ hA (by decide) (by omega)) hZ (hw _ (List.mem_of_getElem? (i := 104) rfl)) (hw _ (List.mem_of_getElem? (i := 4) rfl)) (by decide) (by decide)) (g := (mkF m 194 #[.val (.int p1), .val (.int p2), .val (.int p3), .val (.int p4), .val (.int p5), .val (.int p6), .val (.int av), .val (.int kv), .val (.ref b1), .val (.ref b75), .val (.ref b102), .val (.ref r161), .val (.ref r178)] [(.int (3 : Int32)), (.int av), (.ref b75), (.ref r161)])) rfl (by rw [hml]; rfl) (argsL := [(.ref r161), (.ref b75), (.int av), (.int (3 : Int32))]) (rest := []) (lenOf pd_30 rfl) rfl (by show 2 * 0 + _ ≤ _; exact Nat.le_of_eq rfl) (hb hby at_194) (fun _ _ => ⟨rfl, ee207, (by decide : 15 + 0 ≤ _), (by decide : 59 + 0 ≤ _)⟩)
    dsimp only [Pt.U, Pt.locs, Pt.cells, Pt.slots] at X208 l208 y208 z208 st208 hQ208
    subst l208 y208 z208
    obtain ⟨rfl, Nq208, ee208⟩ := hQ208
    have N208 := Fr.app N207 Nq208
    refine Go.st st208 ?_
    show Go p.tables e below _ (T208.setTop (mkF m 197 #[.val (.int p1), .val (.int p2), .val (.int p3), .val (.int p4), .val (.int p5), .val (.int p6), .val (.int av), .val (.int kv), .val (.ref b1), .val (.ref b75), .val (.ref b102), .val (.ref r161), .val (.ref r178)] [(.int (1 : Int32))]))
    refine Go.st (fun U hr => XS.ifNo X208.here hx rfl (hb hby at_197) rfl (by decide) hr) ?_
    show Go p.tables e below _ (T208.setTop (mkF m 200 #[.val (.int p1), .val (.int p2), .val (.int p3), .val (.int p4), .val (.int p5), .val (.int p6), .val (.int av), .val (.int kv), .val (.ref b1), .val (.ref b75), .val (.ref b102), .val (.ref r161), .val (.ref r178)] []))
    refine Go.st (fun U hr => XS.aload X208.here hx rfl (hb hby at_200) rfl rfl hr) ?_
    show Go p.tables e below _ (T208.setTop (mkF m 202 #[.val (.int p1), .val (.int p2), .val (.int p3), .val (.int p4), .val (.int p5), .val (.int p6), .val (.int av), .val (.int kv), .val (.ref b1), .val (.ref b75), .val (.ref b102), .val (.ref r161), .val (.ref r178)] [(.ref r161)]))
    refine Go.st (fun U hr => XS.aload X208.here hx rfl (hb hby at_202) rfl rfl hr) ?_
    show Go p.tables e below _ (T208.setTop (mkF m 204 #[.val (.int p1), .val (.int p2), .val (.int p3), .val (.int p4), .val (.int p5), .val (.int p6), .val (.int av), .val (.int kv), .val (.ref b1), .val (.ref b75), .val (.ref b102), .val (.ref r161), .val (.ref r178)] [(.ref b75), (.ref r161)]))
    refine Go.st (fun U hr => XS.iload X208.here hx rfl (hb hby at_204) rfl hr) ?_
    show Go p.tables e below _ (T208.setTop (mkF m 206 #[.val (.int p1), .val (.int p2), .val (.int p3), .val (.int p4), .val (.int p5), .val (.int p6), .val (.int av), .val (.int kv), .val (.ref b1), .val (.ref b75), .val (.ref b102), .val (.ref r161), .val (.ref r178)] [(.int av), (.ref b75), (.ref r161)]))
    refine Go.st (fun U hr => XS.iconst X208.here hx rfl (hb hby at_206) hr) ?_
    show Go p.tables e below _ (T208.setTop (mkF m 207 #[.val (.int p1), .val (.int p2), .val (.int p3), .val (.int p4), .val (.int p5), .val (.int p6), .val (.int av), .val (.int kv), .val (.ref b1), .val (.ref b75), .val (.ref b102), .val (.ref r161), .val (.ref r178)] [(.int (4 : Int32)), (.int av), (.ref b75), (.ref r161)]))
    obtain ⟨_, _, ⟨T209, L209, k209, n209⟩, -, X209, ⟨Lc209, hQ209, l209, y209, z209⟩, st209⟩ := Jvm.LawKit.callS X208 hx (y := (⟨"adjunct/core/XmlSpaceStripPinLaw", "same", "(Ljava/lang/String;Ljava/lang/String;II)Z"⟩ : MethodName)) hown (mvT hZ (hw _ (List.mem_of_getElem? (i := 102) rfl))) (mvT hZ (hw _ (List.mem_of_getElem? (i := 103) rfl))) (mvT hZ (hw _ (List.mem_of_getElem? (i := 4) rfl))) (mvT hZ (hw _ (List.mem_of_getElem? (i := 104) rfl))) (by decide) (backOf (W := 0) (rm23 l Z a0 hw [] r161 b75 av (4 : Int32) wc sf vr kr (0 : Int32) (0 : Int32) [] va kb cd zn ys cs A 0 4 T178.heap n0 z200 ⟨f181, hwc, f182, f183, f184, f185⟩ ⟨f196, f197, f198, f199, hzr, henr, h5r⟩ ⟨f187, f188, f189, f190, hz, hen, h5⟩ hA (by decide) (by omega)) hZ (hw _ (List.mem_of_getElem? (i := 104) rfl)) (hw _ (List.mem_of_getElem? (i := 4) rfl)) (by decide) (by decide)) (g := (mkF m 207 #[.val (.int p1), .val (.int p2), .val (.int p3), .val (.int p4), .val (.int p5), .val (.int p6), .val (.int av), .val (.int kv), .val (.ref b1), .val (.ref b75), .val (.ref b102), .val (.ref r161), .val (.ref r178)] [(.int (4 : Int32)), (.int av), (.ref b75), (.ref r161)])) rfl (by rw [hml]; rfl) (argsL := [(.ref r161), (.ref b75), (.int av), (.int (4 : Int32))]) (rest := []) (lenOf pd_30 rfl) rfl (by show 2 * 0 + _ ≤ _; exact Nat.le_of_eq rfl) (hb hby at_207) (fun _ _ => ⟨rfl, ee208, (by decide : 15 + 0 ≤ _), (by decide : 59 + 0 ≤ _)⟩)
    dsimp only [Pt.U, Pt.locs, Pt.cells, Pt.slots] at X209 l209 y209 z209 st209 hQ209
    subst l209 y209 z209
    obtain ⟨rfl, Nq209, ee209⟩ := hQ209
    have N209 := Fr.app N208 Nq209
    refine Go.st st209 ?_
    show Go p.tables e below _ (T209.setTop (mkF m 210 #[.val (.int p1), .val (.int p2), .val (.int p3), .val (.int p4), .val (.int p5), .val (.int p6), .val (.int av), .val (.int kv), .val (.ref b1), .val (.ref b75), .val (.ref b102), .val (.ref r161), .val (.ref r178)] [(.int (1 : Int32))]))
    refine Go.st (fun U hr => XS.ifNo X209.here hx rfl (hb hby at_210) rfl (by decide) hr) ?_
    show Go p.tables e below _ (T209.setTop (mkF m 213 #[.val (.int p1), .val (.int p2), .val (.int p3), .val (.int p4), .val (.int p5), .val (.int p6), .val (.int av), .val (.int kv), .val (.ref b1), .val (.ref b75), .val (.ref b102), .val (.ref r161), .val (.ref r178)] []))
    refine Go.st (fun U hr => XS.iconst X209.here hx rfl (hb hby at_213) hr) ?_
    show Go p.tables e below _ (T209.setTop (mkF m 214 #[.val (.int p1), .val (.int p2), .val (.int p3), .val (.int p4), .val (.int p5), .val (.int p6), .val (.int av), .val (.int kv), .val (.ref b1), .val (.ref b75), .val (.ref b102), .val (.ref r161), .val (.ref r178)] [(.int (1 : Int32))]))
    refine Go.st (fun U hr => XS.goto X209.here hx rfl (pc0 := 214) (pc' := 218) rfl (hb hby at_214) (by decide) (by decide) hr) ?_
    show Go p.tables e below _ (T209.setTop (mkF m 218 #[.val (.int p1), .val (.int p2), .val (.int p3), .val (.int p4), .val (.int p5), .val (.int p6), .val (.int av), .val (.int kv), .val (.ref b1), .val (.ref b75), .val (.ref b102), .val (.ref r161), .val (.ref r178)] [(.int (1 : Int32))]))
    exact own_retNS X209 hx Bd.notSynchronized (t := .boolean) Bd.returns (by simp) (hb hby at_218) hS161 hk180 cr179 hZ hEL hh ee209 ⟨by rw [show nar .boolean (1 : Int32) = 1 from by decide], N209⟩ (by decide) (by decide)
  · obtain ⟨_, _, ⟨T210, L210, k210, n210⟩, -, X210, ⟨Lc210, hQ210, l210, y210, z210⟩, st210⟩ := Jvm.LawKit.callS X145 hx (y := (⟨"adjunct/core/XmlSpace", "strip", "(Ljava/lang/String;)Ljava/lang/String;"⟩ : MethodName)) hown (mvT hZ (hw _ (List.mem_of_getElem? (i := 41) rfl))) (mvT hZ (hw _ (List.mem_of_getElem? (i := 42) rfl))) (mvT hZ (hw _ (List.mem_of_getElem? (i := 43) rfl))) (mvT hZ (hw _ (List.mem_of_getElem? (i := 44) rfl))) (by decide) (backOf (W := 0) (rmstrip l Z a0 hw [] b75 wc sf va kb cd zn ys cs A K T145.heap n0 z160 ⟨f146, hwc, f147, f148, f149, f150⟩ ⟨f152, f153, f154, f155, hz, hen, h5⟩ hmid (Or.inl hK)) hZ (hw _ (List.mem_of_getElem? (i := 44) rfl)) (hw _ (List.mem_of_getElem? (i := 43) rfl)) (by decide) (by decide)) (g := (mkF m 118 #[.val (.int p1), .val (.int p2), .val (.int p3), .val (.int p4), .val (.int p5), .val (.int p6), .val (.int av), .val (.int kv), .val (.ref b1), .val (.ref b75), .val (.ref b102), .unset, .unset] [(.ref b75)])) rfl (by rw [hml]; rfl) (argsL := [(.ref b75)]) (rest := []) (lenOf pd_29 rfl) rfl (by show 2 * 0 + _ ≤ _; exact Nat.le_of_eq rfl) (hb hby at_118) (fun _ _ => ⟨rfl, rfl, (by decide : 10 + 3 ≤ _), (by decide : 36 + 19 ≤ _)⟩)
    dsimp only [Pt.U, Pt.locs, Pt.cells, Pt.slots] at X210 l210 y210 z210 st210 hQ210
    subst l210 y210 z210
    obtain ⟨r210, rfl, Nq210, Kq210, Sq210⟩ := hQ210
    have N210 := Fr.app N145 Nq210
    refine Go.st st210 ?_
    show Go p.tables e below _ (T210.setTop (mkF m 121 #[.val (.int p1), .val (.int p2), .val (.int p3), .val (.int p4), .val (.int p5), .val (.int p6), .val (.int av), .val (.int kv), .val (.ref b1), .val (.ref b75), .val (.ref b102), .unset, .unset] [(.ref r210)]))
    have cr211 := (cr145).trans (CHr.keep Kq210 all0 cr145.1)
    have hk212 := Nat.le_trans hk145 Kq210.1
    have f213 := own_stk Kq210 all0 f146
    have f214 := own_stk Kq210 all0 f147
    have f215 := own_stk Kq210 all0 f148
    have f216 := own_stk Kq210 all0 f149
    have f217 := own_stk Kq210 all0 f150
    have f218 := (f151).keep Kq210 nin0
    have f219 := (f152).keep Kq210
    have f220 := (f153).keep Kq210 nin0
    have f221 := (f154).keep Kq210 nin0
    have f222 := (f155).keep Kq210 nin0
    have f223 := (E1e).keep Kq210
    have f224 := (f159).keep Kq210 nin0
    have f225 := (F1e).keep Kq210 nin0
    have f226 := (F2e).keep Kq210 nin0
    have f227 := (V1e).keep Kq210 nin0
    have z228 := Nat.le_trans z160 Kq210.1
    obtain ⟨vr, kr, cdr, zr, yr, Sr⟩ := Sq210
    obtain ⟨Er, Fr1, Fr2, Vr, hzr, henr, h5r⟩ := id Sr
    refine Go.st (fun U hr => XS.astore X210.here hx rfl (hb hby at_121) rfl rfl (l' := #[.val (.int p1), .val (.int p2), .val (.int p3), .val (.int p4), .val (.int p5), .val (.int p6), .val (.int av), .val (.int kv), .val (.ref b1), .val (.ref b75), .val (.ref b102), .val (.ref r210), .unset]) rfl hr) ?_
    show Go p.tables e below _ (T210.setTop (mkF m 123 #[.val (.int p1), .val (.int p2), .val (.int p3), .val (.int p4), .val (.int p5), .val (.int p6), .val (.int av), .val (.int kv), .val (.ref b1), .val (.ref b75), .val (.ref b102), .val (.ref r210), .unset] []))
    refine Go.st (fun U hr => XS.aload X210.here hx rfl (hb hby at_123) rfl rfl hr) ?_
    show Go p.tables e below _ (T210.setTop (mkF m 125 #[.val (.int p1), .val (.int p2), .val (.int p3), .val (.int p4), .val (.int p5), .val (.int p6), .val (.int av), .val (.int kv), .val (.ref b1), .val (.ref b75), .val (.ref b102), .val (.ref r210), .unset] [(.ref b102)]))
    obtain ⟨_, _, ⟨T229, L229, k229, n229⟩, -, X229, ⟨Lc229, hQ229, l229, y229, z229⟩, st229⟩ := Jvm.LawKit.callS X210 hx (y := (⟨"adjunct/core/XmlSpace", "strip", "(Ljava/lang/String;)Ljava/lang/String;"⟩ : MethodName)) hown (mvT hZ (hw _ (List.mem_of_getElem? (i := 41) rfl))) (mvT hZ (hw _ (List.mem_of_getElem? (i := 42) rfl))) (mvT hZ (hw _ (List.mem_of_getElem? (i := 43) rfl))) (mvT hZ (hw _ (List.mem_of_getElem? (i := 44) rfl))) (by decide) (backOf (W := 0) (rmstrip l Z a0 hw [] b102 wc sf ve ke 0 0 [] [] 0 0 T210.heap n0 z228 ⟨f213, hwc, f214, f215, f216, f217⟩ ⟨f223, f225, f226, f227, hze, hene, h5e⟩ own_mid0 (Or.inr ⟨rfl, rfl⟩)) hZ (hw _ (List.mem_of_getElem? (i := 44) rfl)) (hw _ (List.mem_of_getElem? (i := 43) rfl)) (by decide) (by decide)) (g := (mkF m 125 #[.val (.int p1), .val (.int p2), .val (.int p3), .val (.int p4), .val (.int p5), .val (.int p6), .val (.int av), .val (.int kv), .val (.ref b1), .val (.ref b75), .val (.ref b102), .val (.ref r210), .unset] [(.ref b102)])) rfl (by rw [hml]; rfl) (argsL := [(.ref b102)]) (rest := []) (lenOf pd_29 rfl) rfl (by show 2 * 0 + _ ≤ _; exact Nat.le_of_eq rfl) (hb hby at_125) (fun _ _ => ⟨rfl, rfl, (by decide : 13 + 3 ≤ _), (by decide : 55 + 19 ≤ _)⟩)
    dsimp only [Pt.U, Pt.locs, Pt.cells, Pt.slots] at X229 l229 y229 z229 st229 hQ229
    subst l229 y229 z229
    obtain ⟨r229, rfl, Nq229, Kq229, Sq229⟩ := hQ229
    have N229 := Fr.app N210 Nq229
    refine Go.st st229 ?_
    show Go p.tables e below _ (T229.setTop (mkF m 128 #[.val (.int p1), .val (.int p2), .val (.int p3), .val (.int p4), .val (.int p5), .val (.int p6), .val (.int av), .val (.int kv), .val (.ref b1), .val (.ref b75), .val (.ref b102), .val (.ref r210), .unset] [(.ref r229)]))
    have cr230 := (cr211).trans (CHr.keep Kq229 all0 cr211.1)
    have hk231 := Nat.le_trans hk212 Kq229.1
    have f232 := own_stk Kq229 all0 f213
    have f233 := own_stk Kq229 all0 f214
    have f234 := own_stk Kq229 all0 f215
    have f235 := own_stk Kq229 all0 f216
    have f236 := own_stk Kq229 all0 f217
    have f237 := (f218).keep Kq229 nin0
    have f238 := (f219).keep Kq229
    have f239 := (f220).keep Kq229 nin0
    have f240 := (f221).keep Kq229 nin0
    have f241 := (f222).keep Kq229 nin0
    have f242 := (f223).keep Kq229
    have f243 := (f224).keep Kq229 nin0
    have f244 := (f225).keep Kq229 nin0
    have f245 := (f226).keep Kq229 nin0
    have f246 := (f227).keep Kq229 nin0
    have f247 := (Er).keep Kq229
    have f248 := (Fr1).keep Kq229 nin0
    have f249 := (Fr2).keep Kq229 nin0
    have f250 := (Vr).keep Kq229 nin0
    have z251 := Nat.le_trans z228 Kq229.1
    obtain ⟨v2, k2, cd2, zn2, ys2, Sz⟩ := Sq229
    obtain ⟨E2, Fz1, Fz2, Vz, hz2, hen2, h52⟩ := id Sz
    refine Go.st (fun U hr => XS.astore X229.here hx rfl (hb hby at_128) rfl rfl (l' := #[.val (.int p1), .val (.int p2), .val (.int p3), .val (.int p4), .val (.int p5), .val (.int p6), .val (.int av), .val (.int kv), .val (.ref b1), .val (.ref b75), .val (.ref b102), .val (.ref r210), .val (.ref r229)]) rfl hr) ?_
    show Go p.tables e below _ (T229.setTop (mkF m 130 #[.val (.int p1), .val (.int p2), .val (.int p3), .val (.int p4), .val (.int p5), .val (.int p6), .val (.int av), .val (.int kv), .val (.ref b1), .val (.ref b75), .val (.ref b102), .val (.ref r210), .val (.ref r229)] []))
    refine Go.st (fun U hr => XS.aload X229.here hx rfl (hb hby at_130) rfl rfl hr) ?_
    show Go p.tables e below _ (T229.setTop (mkF m 132 #[.val (.int p1), .val (.int p2), .val (.int p3), .val (.int p4), .val (.int p5), .val (.int p6), .val (.int av), .val (.int kv), .val (.ref b1), .val (.ref b75), .val (.ref b102), .val (.ref r210), .val (.ref r229)] [(.ref r229)]))
    obtain ⟨cq252, kq252, q252a, q252b, q252c⟩ := isOf hZ rfl E2
    obtain ⟨_, _, ⟨T252, L252, k252, n252⟩, -, X252, ⟨Lc252, hQ252, l252, y252, z252⟩, st252⟩ := X229.virtualBack hx (y := (⟨"java/lang/String", "isEmpty", "()Z"⟩ : MethodName)) (z := (⟨"java/lang/String", "isEmpty", "()Z"⟩ : MethodName)) hown (mvT hZ (hw _ (List.mem_of_getElem? (i := 96) rfl))) (mvT hZ (hw _ (List.mem_of_getElem? (i := 97) rfl))) (notFace_of_selects (args := #[]) (mvT hZ (hw _ (List.mem_of_getElem? (i := 99) rfl)))) (mvT hZ (hw _ (List.mem_of_getElem? (i := 99) rfl))) (mvT hZ (hw _ (List.mem_of_getElem? (i := 98) rfl))) (by decide) (backOf (W := 0) (rm22 l Z a0 hw [] r229 v2 k2 cd2 zn2 ys2 (own_sl [] 0 0) T229.heap n0 z251 ⟨E2, Fz1, Fz2, Vz, hz2, hen2, h52⟩) hZ (hw _ (List.mem_of_getElem? (i := 100) rfl)) (hw _ (List.mem_of_getElem? (i := 11) rfl)) (by decide) (by decide)) q252a q252c (g := (mkF m 132 #[.val (.int p1), .val (.int p2), .val (.int p3), .val (.int p4), .val (.int p5), .val (.int p6), .val (.int av), .val (.int kv), .val (.ref b1), .val (.ref b75), .val (.ref b102), .val (.ref r210), .val (.ref r229)] [(.ref r229)])) rfl (by rw [hml]; rfl) (Steps.refl _) (argsL := []) (rest := []) (lenOf pd_9 rfl) rfl (by show 2 * 0 + _ ≤ _; exact Nat.le_of_eq rfl) (hb hby at_132) (fun _ _ => ⟨rfl, rfl, (by decide : 16 + 0 ≤ _), (by decide : 74 + 0 ≤ _)⟩)
    dsimp only [Pt.U, Pt.locs, Pt.cells, Pt.slots] at X252 l252 y252 z252 st252 hQ252
    subst l252 y252 z252
    obtain ⟨rfl, Nq252, ee252⟩ := hQ252
    have N252 := Fr.app N229 Nq252
    refine Go.tr st252 ?_
    show Go p.tables e below _ (T252.setTop (mkF m 135 #[.val (.int p1), .val (.int p2), .val (.int p3), .val (.int p4), .val (.int p5), .val (.int p6), .val (.int av), .val (.int kv), .val (.ref b1), .val (.ref b75), .val (.ref b102), .val (.ref r210), .val (.ref r229)] [(.int (if zn2 = 0 then (1 : Int32) else 0))]))
    have hc135_253 : ¬ ((if zn2 = 0 then (1 : Int32) else 0) = (0 : Int32)) := (fun q => by rw [if_pos (own_zn0 hen2 hz2 (own_sl_len _ _ _))] at q; exact absurd q (by decide))
    refine Go.st (fun U hr => XS.ifNo X252.here hx rfl (hb hby at_135) rfl ((if0 _ _).trans (feq hc135_253).1) hr) ?_
    show Go p.tables e below _ (T252.setTop (mkF m 138 #[.val (.int p1), .val (.int p2), .val (.int p3), .val (.int p4), .val (.int p5), .val (.int p6), .val (.int av), .val (.int kv), .val (.ref b1), .val (.ref b75), .val (.ref b102), .val (.ref r210), .val (.ref r229)] []))
    refine Go.st (fun U hr => XS.aload X252.here hx rfl (hb hby at_138) rfl rfl hr) ?_
    show Go p.tables e below _ (T252.setTop (mkF m 140 #[.val (.int p1), .val (.int p2), .val (.int p3), .val (.int p4), .val (.int p5), .val (.int p6), .val (.int av), .val (.int kv), .val (.ref b1), .val (.ref b75), .val (.ref b102), .val (.ref r210), .val (.ref r229)] [(.ref r210)]))
    obtain ⟨cq254, kq254, q254a, q254b, q254c⟩ := isOf hZ ee252 f247
    obtain ⟨_, _, ⟨T254, L254, k254, n254⟩, -, X254, ⟨Lc254, hQ254, l254, y254, z254⟩, st254⟩ := X252.virtualBack hx (y := (⟨"java/lang/String", "length", "()I"⟩ : MethodName)) (z := (⟨"java/lang/String", "length", "()I"⟩ : MethodName)) hown (mvT hZ (hw _ (List.mem_of_getElem? (i := 101) rfl))) (mvT hZ (hw _ (List.mem_of_getElem? (i := 46) rfl))) (notFace_of_selects (args := #[]) (mvT hZ (hw _ (List.mem_of_getElem? (i := 48) rfl)))) (mvT hZ (hw _ (List.mem_of_getElem? (i := 48) rfl))) (mvT hZ (hw _ (List.mem_of_getElem? (i := 47) rfl))) (by decide) (backOf (W := 0) (rm10 l Z a0 hw [] r210 wc sf vr kr cdr zr yr (own_sl cs A K) T229.heap n0 z251 ⟨f232, hwc, f233, f234, f235, f236⟩ ⟨f247, f248, f249, f250, hzr, henr, h5r⟩) hZ (hw _ (List.mem_of_getElem? (i := 49) rfl)) (hw _ (List.mem_of_getElem? (i := 11) rfl)) (by decide) (by decide)) q254a q254c (g := (mkF m 140 #[.val (.int p1), .val (.int p2), .val (.int p3), .val (.int p4), .val (.int p5), .val (.int p6), .val (.int av), .val (.int kv), .val (.ref b1), .val (.ref b75), .val (.ref b102), .val (.ref r210), .val (.ref r229)] [(.ref r210)])) rfl (by rw [hml]; rfl) (Steps.refl _) (argsL := []) (rest := []) (lenOf pd_23 rfl) rfl (by show 2 * 0 + _ ≤ _; exact Nat.le_of_eq rfl) (hb hby at_140) (fun _ _ => ⟨rfl, ee252, (by decide : 16 + 0 ≤ _), (by decide : 74 + 0 ≤ _)⟩)
    dsimp only [Pt.U, Pt.locs, Pt.cells, Pt.slots] at X254 l254 y254 z254 st254 hQ254
    subst l254 y254 z254
    obtain ⟨rfl, Nq254, ee254⟩ := hQ254
    have N254 := Fr.app N252 Nq254
    refine Go.tr st254 ?_
    show Go p.tables e below _ (T254.setTop (mkF m 143 #[.val (.int p1), .val (.int p2), .val (.int p3), .val (.int p4), .val (.int p5), .val (.int p6), .val (.int av), .val (.int kv), .val (.ref b1), .val (.ref b75), .val (.ref b102), .val (.ref r210), .val (.ref r229)] [(.int (zr >>> (cdr &&& 31)))]))
    refine Go.st (fun U hr => XS.iload X254.here hx rfl (hb hby at_143) rfl hr) ?_
    show Go p.tables e below _ (T254.setTop (mkF m 145 #[.val (.int p1), .val (.int p2), .val (.int p3), .val (.int p4), .val (.int p5), .val (.int p6), .val (.int av), .val (.int kv), .val (.ref b1), .val (.ref b75), .val (.ref b102), .val (.ref r210), .val (.ref r229)] [(.int kv), (.int (zr >>> (cdr &&& 31)))]))
    have hc145_255 : (zr >>> (cdr &&& 31)) = kv := Int32.toInt_inj.mp (by rw [own_len henr hzr, own_sl_len, hKv])
    refine Go.st (fun U hr => XS.icmpNo X254.here hx rfl (hb hby at_145) rfl (teq hc145_255).2 hr) ?_
    show Go p.tables e below _ (T254.setTop (mkF m 148 #[.val (.int p1), .val (.int p2), .val (.int p3), .val (.int p4), .val (.int p5), .val (.int p6), .val (.int av), .val (.int kv), .val (.ref b1), .val (.ref b75), .val (.ref b102), .val (.ref r210), .val (.ref r229)] []))
    refine Go.st (fun U hr => XS.aload X254.here hx rfl (hb hby at_148) rfl rfl hr) ?_
    show Go p.tables e below _ (T254.setTop (mkF m 150 #[.val (.int p1), .val (.int p2), .val (.int p3), .val (.int p4), .val (.int p5), .val (.int p6), .val (.int av), .val (.int kv), .val (.ref b1), .val (.ref b75), .val (.ref b102), .val (.ref r210), .val (.ref r229)] [(.ref r210)]))
    refine Go.st (fun U hr => XS.aload X254.here hx rfl (hb hby at_150) rfl rfl hr) ?_
    show Go p.tables e below _ (T254.setTop (mkF m 152 #[.val (.int p1), .val (.int p2), .val (.int p3), .val (.int p4), .val (.int p5), .val (.int p6), .val (.int av), .val (.int kv), .val (.ref b1), .val (.ref b75), .val (.ref b102), .val (.ref r210), .val (.ref r229)] [(.ref b75), (.ref r210)]))
    refine Go.st (fun U hr => XS.iload X254.here hx rfl (hb hby at_152) rfl hr) ?_
    show Go p.tables e below _ (T254.setTop (mkF m 154 #[.val (.int p1), .val (.int p2), .val (.int p3), .val (.int p4), .val (.int p5), .val (.int p6), .val (.int av), .val (.int kv), .val (.ref b1), .val (.ref b75), .val (.ref b102), .val (.ref r210), .val (.ref r229)] [(.int av), (.ref b75), (.ref r210)]))
    refine Go.st (fun U hr => XS.iconst X254.here hx rfl (hb hby at_154) hr) ?_
    show Go p.tables e below _ (T254.setTop (mkF m 155 #[.val (.int p1), .val (.int p2), .val (.int p3), .val (.int p4), .val (.int p5), .val (.int p6), .val (.int av), .val (.int kv), .val (.ref b1), .val (.ref b75), .val (.ref b102), .val (.ref r210), .val (.ref r229)] [(.int (0 : Int32)), (.int av), (.ref b75), (.ref r210)]))
    obtain ⟨_, _, ⟨T256, L256, k256, n256⟩, -, X256, ⟨Lc256, hQ256, l256, y256, z256⟩, st256⟩ := Jvm.LawKit.callS X254 hx (y := (⟨"adjunct/core/XmlSpaceStripPinLaw", "same", "(Ljava/lang/String;Ljava/lang/String;II)Z"⟩ : MethodName)) hown (mvT hZ (hw _ (List.mem_of_getElem? (i := 102) rfl))) (mvT hZ (hw _ (List.mem_of_getElem? (i := 103) rfl))) (mvT hZ (hw _ (List.mem_of_getElem? (i := 4) rfl))) (mvT hZ (hw _ (List.mem_of_getElem? (i := 104) rfl))) (by decide) (backOf (W := 0) (rm23 l Z a0 hw [] r210 b75 av (0 : Int32) wc sf vr kr cdr zr yr va kb cd zn ys cs A K 0 T229.heap n0 z251 ⟨f232, hwc, f233, f234, f235, f236⟩ ⟨f247, f248, f249, f250, hzr, henr, h5r⟩ ⟨f238, f239, f240, f241, hz, hen, h5⟩ hA (by decide) (by omega)) hZ (hw _ (List.mem_of_getElem? (i := 104) rfl)) (hw _ (List.mem_of_getElem? (i := 4) rfl)) (by decide) (by decide)) (g := (mkF m 155 #[.val (.int p1), .val (.int p2), .val (.int p3), .val (.int p4), .val (.int p5), .val (.int p6), .val (.int av), .val (.int kv), .val (.ref b1), .val (.ref b75), .val (.ref b102), .val (.ref r210), .val (.ref r229)] [(.int (0 : Int32)), (.int av), (.ref b75), (.ref r210)])) rfl (by rw [hml]; rfl) (argsL := [(.ref r210), (.ref b75), (.int av), (.int (0 : Int32))]) (rest := []) (lenOf pd_30 rfl) rfl (by show 2 * 0 + _ ≤ _; exact Nat.le_of_eq rfl) (hb hby at_155) (fun _ _ => ⟨rfl, ee254, (by decide : 16 + 0 ≤ _), (by decide : 74 + 0 ≤ _)⟩)
    dsimp only [Pt.U, Pt.locs, Pt.cells, Pt.slots] at X256 l256 y256 z256 st256 hQ256
    subst l256 y256 z256
    obtain ⟨rfl, Nq256, ee256⟩ := hQ256
    have N256 := Fr.app N254 Nq256
    refine Go.st st256 ?_
    show Go p.tables e below _ (T256.setTop (mkF m 158 #[.val (.int p1), .val (.int p2), .val (.int p3), .val (.int p4), .val (.int p5), .val (.int p6), .val (.int av), .val (.int kv), .val (.ref b1), .val (.ref b75), .val (.ref b102), .val (.ref r210), .val (.ref r229)] [(.int (1 : Int32))]))
    refine Go.st (fun U hr => XS.ifNo X256.here hx rfl (hb hby at_158) rfl (by decide) hr) ?_
    show Go p.tables e below _ (T256.setTop (mkF m 161 #[.val (.int p1), .val (.int p2), .val (.int p3), .val (.int p4), .val (.int p5), .val (.int p6), .val (.int av), .val (.int kv), .val (.ref b1), .val (.ref b75), .val (.ref b102), .val (.ref r210), .val (.ref r229)] []))
    refine Go.st (fun U hr => XS.aload X256.here hx rfl (hb hby at_161) rfl rfl hr) ?_
    show Go p.tables e below _ (T256.setTop (mkF m 163 #[.val (.int p1), .val (.int p2), .val (.int p3), .val (.int p4), .val (.int p5), .val (.int p6), .val (.int av), .val (.int kv), .val (.ref b1), .val (.ref b75), .val (.ref b102), .val (.ref r210), .val (.ref r229)] [(.ref r210)]))
    refine Go.st (fun U hr => XS.aload X256.here hx rfl (hb hby at_163) rfl rfl hr) ?_
    show Go p.tables e below _ (T256.setTop (mkF m 165 #[.val (.int p1), .val (.int p2), .val (.int p3), .val (.int p4), .val (.int p5), .val (.int p6), .val (.int av), .val (.int kv), .val (.ref b1), .val (.ref b75), .val (.ref b102), .val (.ref r210), .val (.ref r229)] [(.ref b75), (.ref r210)]))
    refine Go.st (fun U hr => XS.iload X256.here hx rfl (hb hby at_165) rfl hr) ?_
    show Go p.tables e below _ (T256.setTop (mkF m 167 #[.val (.int p1), .val (.int p2), .val (.int p3), .val (.int p4), .val (.int p5), .val (.int p6), .val (.int av), .val (.int kv), .val (.ref b1), .val (.ref b75), .val (.ref b102), .val (.ref r210), .val (.ref r229)] [(.int av), (.ref b75), (.ref r210)]))
    refine Go.st (fun U hr => XS.iconst X256.here hx rfl (hb hby at_167) hr) ?_
    show Go p.tables e below _ (T256.setTop (mkF m 168 #[.val (.int p1), .val (.int p2), .val (.int p3), .val (.int p4), .val (.int p5), .val (.int p6), .val (.int av), .val (.int kv), .val (.ref b1), .val (.ref b75), .val (.ref b102), .val (.ref r210), .val (.ref r229)] [(.int (1 : Int32)), (.int av), (.ref b75), (.ref r210)]))
    obtain ⟨_, _, ⟨T257, L257, k257, n257⟩, -, X257, ⟨Lc257, hQ257, l257, y257, z257⟩, st257⟩ := Jvm.LawKit.callS X256 hx (y := (⟨"adjunct/core/XmlSpaceStripPinLaw", "same", "(Ljava/lang/String;Ljava/lang/String;II)Z"⟩ : MethodName)) hown (mvT hZ (hw _ (List.mem_of_getElem? (i := 102) rfl))) (mvT hZ (hw _ (List.mem_of_getElem? (i := 103) rfl))) (mvT hZ (hw _ (List.mem_of_getElem? (i := 4) rfl))) (mvT hZ (hw _ (List.mem_of_getElem? (i := 104) rfl))) (by decide) (backOf (W := 0) (rm23 l Z a0 hw [] r210 b75 av (1 : Int32) wc sf vr kr cdr zr yr va kb cd zn ys cs A K 1 T229.heap n0 z251 ⟨f232, hwc, f233, f234, f235, f236⟩ ⟨f247, f248, f249, f250, hzr, henr, h5r⟩ ⟨f238, f239, f240, f241, hz, hen, h5⟩ hA (by decide) (by omega)) hZ (hw _ (List.mem_of_getElem? (i := 104) rfl)) (hw _ (List.mem_of_getElem? (i := 4) rfl)) (by decide) (by decide)) (g := (mkF m 168 #[.val (.int p1), .val (.int p2), .val (.int p3), .val (.int p4), .val (.int p5), .val (.int p6), .val (.int av), .val (.int kv), .val (.ref b1), .val (.ref b75), .val (.ref b102), .val (.ref r210), .val (.ref r229)] [(.int (1 : Int32)), (.int av), (.ref b75), (.ref r210)])) rfl (by rw [hml]; rfl) (argsL := [(.ref r210), (.ref b75), (.int av), (.int (1 : Int32))]) (rest := []) (lenOf pd_30 rfl) rfl (by show 2 * 0 + _ ≤ _; exact Nat.le_of_eq rfl) (hb hby at_168) (fun _ _ => ⟨rfl, ee256, (by decide : 16 + 0 ≤ _), (by decide : 74 + 0 ≤ _)⟩)
    dsimp only [Pt.U, Pt.locs, Pt.cells, Pt.slots] at X257 l257 y257 z257 st257 hQ257
    subst l257 y257 z257
    obtain ⟨rfl, Nq257, ee257⟩ := hQ257
    have N257 := Fr.app N256 Nq257
    refine Go.st st257 ?_
    show Go p.tables e below _ (T257.setTop (mkF m 171 #[.val (.int p1), .val (.int p2), .val (.int p3), .val (.int p4), .val (.int p5), .val (.int p6), .val (.int av), .val (.int kv), .val (.ref b1), .val (.ref b75), .val (.ref b102), .val (.ref r210), .val (.ref r229)] [(.int (1 : Int32))]))
    refine Go.st (fun U hr => XS.ifNo X257.here hx rfl (hb hby at_171) rfl (by decide) hr) ?_
    show Go p.tables e below _ (T257.setTop (mkF m 174 #[.val (.int p1), .val (.int p2), .val (.int p3), .val (.int p4), .val (.int p5), .val (.int p6), .val (.int av), .val (.int kv), .val (.ref b1), .val (.ref b75), .val (.ref b102), .val (.ref r210), .val (.ref r229)] []))
    refine Go.st (fun U hr => XS.aload X257.here hx rfl (hb hby at_174) rfl rfl hr) ?_
    show Go p.tables e below _ (T257.setTop (mkF m 176 #[.val (.int p1), .val (.int p2), .val (.int p3), .val (.int p4), .val (.int p5), .val (.int p6), .val (.int av), .val (.int kv), .val (.ref b1), .val (.ref b75), .val (.ref b102), .val (.ref r210), .val (.ref r229)] [(.ref r210)]))
    refine Go.st (fun U hr => XS.aload X257.here hx rfl (hb hby at_176) rfl rfl hr) ?_
    show Go p.tables e below _ (T257.setTop (mkF m 178 #[.val (.int p1), .val (.int p2), .val (.int p3), .val (.int p4), .val (.int p5), .val (.int p6), .val (.int av), .val (.int kv), .val (.ref b1), .val (.ref b75), .val (.ref b102), .val (.ref r210), .val (.ref r229)] [(.ref b75), (.ref r210)]))
    refine Go.st (fun U hr => XS.iload X257.here hx rfl (hb hby at_178) rfl hr) ?_
    show Go p.tables e below _ (T257.setTop (mkF m 180 #[.val (.int p1), .val (.int p2), .val (.int p3), .val (.int p4), .val (.int p5), .val (.int p6), .val (.int av), .val (.int kv), .val (.ref b1), .val (.ref b75), .val (.ref b102), .val (.ref r210), .val (.ref r229)] [(.int av), (.ref b75), (.ref r210)]))
    refine Go.st (fun U hr => XS.iconst X257.here hx rfl (hb hby at_180) hr) ?_
    show Go p.tables e below _ (T257.setTop (mkF m 181 #[.val (.int p1), .val (.int p2), .val (.int p3), .val (.int p4), .val (.int p5), .val (.int p6), .val (.int av), .val (.int kv), .val (.ref b1), .val (.ref b75), .val (.ref b102), .val (.ref r210), .val (.ref r229)] [(.int (2 : Int32)), (.int av), (.ref b75), (.ref r210)]))
    obtain ⟨_, _, ⟨T258, L258, k258, n258⟩, -, X258, ⟨Lc258, hQ258, l258, y258, z258⟩, st258⟩ := Jvm.LawKit.callS X257 hx (y := (⟨"adjunct/core/XmlSpaceStripPinLaw", "same", "(Ljava/lang/String;Ljava/lang/String;II)Z"⟩ : MethodName)) hown (mvT hZ (hw _ (List.mem_of_getElem? (i := 102) rfl))) (mvT hZ (hw _ (List.mem_of_getElem? (i := 103) rfl))) (mvT hZ (hw _ (List.mem_of_getElem? (i := 4) rfl))) (mvT hZ (hw _ (List.mem_of_getElem? (i := 104) rfl))) (by decide) (backOf (W := 0) (rm23 l Z a0 hw [] r210 b75 av (2 : Int32) wc sf vr kr cdr zr yr va kb cd zn ys cs A K 2 T229.heap n0 z251 ⟨f232, hwc, f233, f234, f235, f236⟩ ⟨f247, f248, f249, f250, hzr, henr, h5r⟩ ⟨f238, f239, f240, f241, hz, hen, h5⟩ hA (by decide) (by omega)) hZ (hw _ (List.mem_of_getElem? (i := 104) rfl)) (hw _ (List.mem_of_getElem? (i := 4) rfl)) (by decide) (by decide)) (g := (mkF m 181 #[.val (.int p1), .val (.int p2), .val (.int p3), .val (.int p4), .val (.int p5), .val (.int p6), .val (.int av), .val (.int kv), .val (.ref b1), .val (.ref b75), .val (.ref b102), .val (.ref r210), .val (.ref r229)] [(.int (2 : Int32)), (.int av), (.ref b75), (.ref r210)])) rfl (by rw [hml]; rfl) (argsL := [(.ref r210), (.ref b75), (.int av), (.int (2 : Int32))]) (rest := []) (lenOf pd_30 rfl) rfl (by show 2 * 0 + _ ≤ _; exact Nat.le_of_eq rfl) (hb hby at_181) (fun _ _ => ⟨rfl, ee257, (by decide : 16 + 0 ≤ _), (by decide : 74 + 0 ≤ _)⟩)
    dsimp only [Pt.U, Pt.locs, Pt.cells, Pt.slots] at X258 l258 y258 z258 st258 hQ258
    subst l258 y258 z258
    obtain ⟨rfl, Nq258, ee258⟩ := hQ258
    have N258 := Fr.app N257 Nq258
    refine Go.st st258 ?_
    show Go p.tables e below _ (T258.setTop (mkF m 184 #[.val (.int p1), .val (.int p2), .val (.int p3), .val (.int p4), .val (.int p5), .val (.int p6), .val (.int av), .val (.int kv), .val (.ref b1), .val (.ref b75), .val (.ref b102), .val (.ref r210), .val (.ref r229)] [(.int (1 : Int32))]))
    refine Go.st (fun U hr => XS.ifNo X258.here hx rfl (hb hby at_184) rfl (by decide) hr) ?_
    show Go p.tables e below _ (T258.setTop (mkF m 187 #[.val (.int p1), .val (.int p2), .val (.int p3), .val (.int p4), .val (.int p5), .val (.int p6), .val (.int av), .val (.int kv), .val (.ref b1), .val (.ref b75), .val (.ref b102), .val (.ref r210), .val (.ref r229)] []))
    refine Go.st (fun U hr => XS.aload X258.here hx rfl (hb hby at_187) rfl rfl hr) ?_
    show Go p.tables e below _ (T258.setTop (mkF m 189 #[.val (.int p1), .val (.int p2), .val (.int p3), .val (.int p4), .val (.int p5), .val (.int p6), .val (.int av), .val (.int kv), .val (.ref b1), .val (.ref b75), .val (.ref b102), .val (.ref r210), .val (.ref r229)] [(.ref r210)]))
    refine Go.st (fun U hr => XS.aload X258.here hx rfl (hb hby at_189) rfl rfl hr) ?_
    show Go p.tables e below _ (T258.setTop (mkF m 191 #[.val (.int p1), .val (.int p2), .val (.int p3), .val (.int p4), .val (.int p5), .val (.int p6), .val (.int av), .val (.int kv), .val (.ref b1), .val (.ref b75), .val (.ref b102), .val (.ref r210), .val (.ref r229)] [(.ref b75), (.ref r210)]))
    refine Go.st (fun U hr => XS.iload X258.here hx rfl (hb hby at_191) rfl hr) ?_
    show Go p.tables e below _ (T258.setTop (mkF m 193 #[.val (.int p1), .val (.int p2), .val (.int p3), .val (.int p4), .val (.int p5), .val (.int p6), .val (.int av), .val (.int kv), .val (.ref b1), .val (.ref b75), .val (.ref b102), .val (.ref r210), .val (.ref r229)] [(.int av), (.ref b75), (.ref r210)]))
    refine Go.st (fun U hr => XS.iconst X258.here hx rfl (hb hby at_193) hr) ?_
    show Go p.tables e below _ (T258.setTop (mkF m 194 #[.val (.int p1), .val (.int p2), .val (.int p3), .val (.int p4), .val (.int p5), .val (.int p6), .val (.int av), .val (.int kv), .val (.ref b1), .val (.ref b75), .val (.ref b102), .val (.ref r210), .val (.ref r229)] [(.int (3 : Int32)), (.int av), (.ref b75), (.ref r210)]))
    obtain ⟨_, _, ⟨T259, L259, k259, n259⟩, -, X259, ⟨Lc259, hQ259, l259, y259, z259⟩, st259⟩ := Jvm.LawKit.callS X258 hx (y := (⟨"adjunct/core/XmlSpaceStripPinLaw", "same", "(Ljava/lang/String;Ljava/lang/String;II)Z"⟩ : MethodName)) hown (mvT hZ (hw _ (List.mem_of_getElem? (i := 102) rfl))) (mvT hZ (hw _ (List.mem_of_getElem? (i := 103) rfl))) (mvT hZ (hw _ (List.mem_of_getElem? (i := 4) rfl))) (mvT hZ (hw _ (List.mem_of_getElem? (i := 104) rfl))) (by decide) (backOf (W := 0) (rm23 l Z a0 hw [] r210 b75 av (3 : Int32) wc sf vr kr cdr zr yr va kb cd zn ys cs A K 3 T229.heap n0 z251 ⟨f232, hwc, f233, f234, f235, f236⟩ ⟨f247, f248, f249, f250, hzr, henr, h5r⟩ ⟨f238, f239, f240, f241, hz, hen, h5⟩ hA (by decide) (by omega)) hZ (hw _ (List.mem_of_getElem? (i := 104) rfl)) (hw _ (List.mem_of_getElem? (i := 4) rfl)) (by decide) (by decide)) (g := (mkF m 194 #[.val (.int p1), .val (.int p2), .val (.int p3), .val (.int p4), .val (.int p5), .val (.int p6), .val (.int av), .val (.int kv), .val (.ref b1), .val (.ref b75), .val (.ref b102), .val (.ref r210), .val (.ref r229)] [(.int (3 : Int32)), (.int av), (.ref b75), (.ref r210)])) rfl (by rw [hml]; rfl) (argsL := [(.ref r210), (.ref b75), (.int av), (.int (3 : Int32))]) (rest := []) (lenOf pd_30 rfl) rfl (by show 2 * 0 + _ ≤ _; exact Nat.le_of_eq rfl) (hb hby at_194) (fun _ _ => ⟨rfl, ee258, (by decide : 16 + 0 ≤ _), (by decide : 74 + 0 ≤ _)⟩)
    dsimp only [Pt.U, Pt.locs, Pt.cells, Pt.slots] at X259 l259 y259 z259 st259 hQ259
    subst l259 y259 z259
    obtain ⟨rfl, Nq259, ee259⟩ := hQ259
    have N259 := Fr.app N258 Nq259
    refine Go.st st259 ?_
    show Go p.tables e below _ (T259.setTop (mkF m 197 #[.val (.int p1), .val (.int p2), .val (.int p3), .val (.int p4), .val (.int p5), .val (.int p6), .val (.int av), .val (.int kv), .val (.ref b1), .val (.ref b75), .val (.ref b102), .val (.ref r210), .val (.ref r229)] [(.int (1 : Int32))]))
    refine Go.st (fun U hr => XS.ifNo X259.here hx rfl (hb hby at_197) rfl (by decide) hr) ?_
    show Go p.tables e below _ (T259.setTop (mkF m 200 #[.val (.int p1), .val (.int p2), .val (.int p3), .val (.int p4), .val (.int p5), .val (.int p6), .val (.int av), .val (.int kv), .val (.ref b1), .val (.ref b75), .val (.ref b102), .val (.ref r210), .val (.ref r229)] []))
    refine Go.st (fun U hr => XS.aload X259.here hx rfl (hb hby at_200) rfl rfl hr) ?_
    show Go p.tables e below _ (T259.setTop (mkF m 202 #[.val (.int p1), .val (.int p2), .val (.int p3), .val (.int p4), .val (.int p5), .val (.int p6), .val (.int av), .val (.int kv), .val (.ref b1), .val (.ref b75), .val (.ref b102), .val (.ref r210), .val (.ref r229)] [(.ref r210)]))
    refine Go.st (fun U hr => XS.aload X259.here hx rfl (hb hby at_202) rfl rfl hr) ?_
    show Go p.tables e below _ (T259.setTop (mkF m 204 #[.val (.int p1), .val (.int p2), .val (.int p3), .val (.int p4), .val (.int p5), .val (.int p6), .val (.int av), .val (.int kv), .val (.ref b1), .val (.ref b75), .val (.ref b102), .val (.ref r210), .val (.ref r229)] [(.ref b75), (.ref r210)]))
    refine Go.st (fun U hr => XS.iload X259.here hx rfl (hb hby at_204) rfl hr) ?_
    show Go p.tables e below _ (T259.setTop (mkF m 206 #[.val (.int p1), .val (.int p2), .val (.int p3), .val (.int p4), .val (.int p5), .val (.int p6), .val (.int av), .val (.int kv), .val (.ref b1), .val (.ref b75), .val (.ref b102), .val (.ref r210), .val (.ref r229)] [(.int av), (.ref b75), (.ref r210)]))
    refine Go.st (fun U hr => XS.iconst X259.here hx rfl (hb hby at_206) hr) ?_
    show Go p.tables e below _ (T259.setTop (mkF m 207 #[.val (.int p1), .val (.int p2), .val (.int p3), .val (.int p4), .val (.int p5), .val (.int p6), .val (.int av), .val (.int kv), .val (.ref b1), .val (.ref b75), .val (.ref b102), .val (.ref r210), .val (.ref r229)] [(.int (4 : Int32)), (.int av), (.ref b75), (.ref r210)]))
    obtain ⟨_, _, ⟨T260, L260, k260, n260⟩, -, X260, ⟨Lc260, hQ260, l260, y260, z260⟩, st260⟩ := Jvm.LawKit.callS X259 hx (y := (⟨"adjunct/core/XmlSpaceStripPinLaw", "same", "(Ljava/lang/String;Ljava/lang/String;II)Z"⟩ : MethodName)) hown (mvT hZ (hw _ (List.mem_of_getElem? (i := 102) rfl))) (mvT hZ (hw _ (List.mem_of_getElem? (i := 103) rfl))) (mvT hZ (hw _ (List.mem_of_getElem? (i := 4) rfl))) (mvT hZ (hw _ (List.mem_of_getElem? (i := 104) rfl))) (by decide) (backOf (W := 0) (rm23 l Z a0 hw [] r210 b75 av (4 : Int32) wc sf vr kr cdr zr yr va kb cd zn ys cs A K 4 T229.heap n0 z251 ⟨f232, hwc, f233, f234, f235, f236⟩ ⟨f247, f248, f249, f250, hzr, henr, h5r⟩ ⟨f238, f239, f240, f241, hz, hen, h5⟩ hA (by decide) (by omega)) hZ (hw _ (List.mem_of_getElem? (i := 104) rfl)) (hw _ (List.mem_of_getElem? (i := 4) rfl)) (by decide) (by decide)) (g := (mkF m 207 #[.val (.int p1), .val (.int p2), .val (.int p3), .val (.int p4), .val (.int p5), .val (.int p6), .val (.int av), .val (.int kv), .val (.ref b1), .val (.ref b75), .val (.ref b102), .val (.ref r210), .val (.ref r229)] [(.int (4 : Int32)), (.int av), (.ref b75), (.ref r210)])) rfl (by rw [hml]; rfl) (argsL := [(.ref r210), (.ref b75), (.int av), (.int (4 : Int32))]) (rest := []) (lenOf pd_30 rfl) rfl (by show 2 * 0 + _ ≤ _; exact Nat.le_of_eq rfl) (hb hby at_207) (fun _ _ => ⟨rfl, ee259, (by decide : 16 + 0 ≤ _), (by decide : 74 + 0 ≤ _)⟩)
    dsimp only [Pt.U, Pt.locs, Pt.cells, Pt.slots] at X260 l260 y260 z260 st260 hQ260
    subst l260 y260 z260
    obtain ⟨rfl, Nq260, ee260⟩ := hQ260
    have N260 := Fr.app N259 Nq260
    refine Go.st st260 ?_
    show Go p.tables e below _ (T260.setTop (mkF m 210 #[.val (.int p1), .val (.int p2), .val (.int p3), .val (.int p4), .val (.int p5), .val (.int p6), .val (.int av), .val (.int kv), .val (.ref b1), .val (.ref b75), .val (.ref b102), .val (.ref r210), .val (.ref r229)] [(.int (1 : Int32))]))
    refine Go.st (fun U hr => XS.ifNo X260.here hx rfl (hb hby at_210) rfl (by decide) hr) ?_
    show Go p.tables e below _ (T260.setTop (mkF m 213 #[.val (.int p1), .val (.int p2), .val (.int p3), .val (.int p4), .val (.int p5), .val (.int p6), .val (.int av), .val (.int kv), .val (.ref b1), .val (.ref b75), .val (.ref b102), .val (.ref r210), .val (.ref r229)] []))
    refine Go.st (fun U hr => XS.iconst X260.here hx rfl (hb hby at_213) hr) ?_
    show Go p.tables e below _ (T260.setTop (mkF m 214 #[.val (.int p1), .val (.int p2), .val (.int p3), .val (.int p4), .val (.int p5), .val (.int p6), .val (.int av), .val (.int kv), .val (.ref b1), .val (.ref b75), .val (.ref b102), .val (.ref r210), .val (.ref r229)] [(.int (1 : Int32))]))
    refine Go.st (fun U hr => XS.goto X260.here hx rfl (pc0 := 214) (pc' := 218) rfl (hb hby at_214) (by decide) (by decide) hr) ?_
    show Go p.tables e below _ (T260.setTop (mkF m 218 #[.val (.int p1), .val (.int p2), .val (.int p3), .val (.int p4), .val (.int p5), .val (.int p6), .val (.int av), .val (.int kv), .val (.ref b1), .val (.ref b75), .val (.ref b102), .val (.ref r210), .val (.ref r229)] [(.int (1 : Int32))]))
    exact own_retNS X260 hx Bd.notSynchronized (t := .boolean) Bd.returns (by simp) (hb hby at_218) hS145 hk231 cr230 hZ hEL hh ee260 ⟨by rw [show nar .boolean (1 : Int32) = 1 from by decide], N260⟩ (by decide) (by decide)
theorem own_eqint {args : Array Value} {first s : State} {o : Option Outcome} {idx : List Nat} {a : Term} {k : Int32} (h : (Jvm.Cond.eq a (.int k)).value args first o s idx = some true) : a.eval args first o idx s = some (.int k) := by
  have e : (Term.int k).eval args first o idx s = some (.int k) := rfl
  simp only [Cond.value, e] at h
  cases hq : a.eval args first o idx s with
  | none => simp [hq] at h
  | some v => cases v <;> simp_all
theorem own_rvof {v : Value} (h : v.isRef = true) : ∃ o, v = own_rv o := (ref_cases h).elim (fun q => ⟨none, q⟩) (fun ⟨a, q⟩ => ⟨some a, q⟩)

set_option maxRecDepth 65536 in
set_option maxHeartbeats 40000000 in
theorem comes_1 {Post : Tables → Env → Array Value → State → Outcome → State → Prop} (hpost : ∀ tb e args s v u, (limb_1_1.after args s (.returned v) u = true ∧ limb_1_2.after args s (.returned v) u = true ∧ True) → FramedW s (.returned v) u (Jvm.fieldLocs frame_1_writes args s ++ Jvm.arrayLocs frame_1_arrays args s ++ Jvm.staticLocs frame_1_statics s) 32 2240 → Post tb e args s (.returned v) u) :
    ArmFor flags0 classFile x code maxLocals ret World_1 tables_1 room_1 Calls_1 rest_1 Pre_1 Post := by
  intro l hfl _ _ p e ha hc hk s m args below hf hA hF happ hP
  obtain ⟨hcalls, hrest, hpre⟩ := hP
  obtain ⟨-, -, -, hnamed, -, -, -, hat⟩ := (Spec.applies_iff hf).mp happ
  obtain ⟨hg, hn⟩ := and_e (Cond.before_iff.mp (show (Jvm.Cond.and given_1 narrow_1).before args s = true from hpre))
  obtain ⟨h1, h2⟩ := and_e hg
  obtain ⟨w0, w1, w2, w3, w4, w5, rfl⟩ : ∃ w0 w1 w2 w3 w4 w5 : Value, args = #[w0, w1, w2, w3, w4, w5] := by
    have hs : args.size = 6 := by simpa [Cond.value, given_1] using h1
    obtain ⟨L⟩ := args
    match L, hs with
    | [w0, w1, w2, w3, w4, w5], _ => exact ⟨w0, w1, w2, w3, w4, w5, rfl⟩
  have hw := fun d (hd : d ∈ tables_1) => atoms_spec (ws := Jvm.Cond.code x code maxLocals ret :: tables_1) hat d (List.mem_cons_of_mem _ hd)
  have hfit : Fit s := fun {y c} hc i hi => by
    obtain ⟨ha, rfl⟩ := Array.getElem?_eq_some_iff.mp hc
    have q := List.all_eq_true.mp ((Array.all_eq_true_iff_forall_mem.mp hF) _ (Array.getElem_mem ha)) i (List.mem_range.mpr hi)
    simpa [Array.getElem?_eq_getElem hi] using q
  obtain ⟨ha0, hb0⟩ := and_e h2
  obtain ⟨i0, e0⟩ := is_v ha0
  obtain rfl : w0 = (.int i0) := Option.some.inj e0
  obtain ⟨ha1, hb1⟩ := and_e hb0
  obtain ⟨i1, e1⟩ := is_v ha1
  obtain rfl : w1 = (.int i1) := Option.some.inj e1
  obtain ⟨ha2, hb2⟩ := and_e hb1
  obtain ⟨i2, e2⟩ := is_v ha2
  obtain rfl : w2 = (.int i2) := Option.some.inj e2
  obtain ⟨ha3, hb3⟩ := and_e hb2
  obtain ⟨i3, e3⟩ := is_v ha3
  obtain rfl : w3 = (.int i3) := Option.some.inj e3
  obtain ⟨ha4, hb4⟩ := and_e hb3
  obtain ⟨i4, e4⟩ := is_v ha4
  obtain rfl : w4 = (.int i4) := Option.some.inj e4
  obtain ⟨i5, e5⟩ := is_v hb4
  obtain rfl : w5 = (.int i5) := Option.some.inj e5
  obtain ⟨hsets, hown0⟩ := atoms_of _ (rest_1_c_eq ▸ (show rest_1_c.before _ s = true from hrest))
  have q0 := hsets _ (List.mem_of_getElem? (i := 0) rfl)
  have q1 := hsets _ (List.mem_of_getElem? (i := 1) rfl)
  have q2 := hsets _ (List.mem_of_getElem? (i := 2) rfl)
  have q7 := hsets _ (List.mem_of_getElem? (i := 7) rfl)
  have q8 := hsets _ (List.mem_of_getElem? (i := 8) rfl)
  have q11 := hsets _ (List.mem_of_getElem? (i := 11) rfl)
  have q12 := hsets _ (List.mem_of_getElem? (i := 12) rfl)
  have q14 := hsets _ (List.mem_of_getElem? (i := 14) rfl)
  have q15 := hsets _ (List.mem_of_getElem? (i := 15) rfl)
  have q17 := hsets _ (List.mem_of_getElem? (i := 17) rfl)
  have q18 := hsets _ (List.mem_of_getElem? (i := 18) rfl)
  obtain ⟨wc, ewc⟩ := is_v (Cond.before_iff.mp q1)
  have S1 := Sta.start ewc (Or.inl q0)
  have hwc : ¬ wc = 0 := gotF (Cond.eq_ints ewc (Term.int_eval (0))) (not_v (Cond.before_iff.mp q2))
  obtain ⟨fv, efv, hfv⟩ := isR_v (Cond.before_iff.mp q8)
  obtain ⟨sf, rfl⟩ := own_rvof hfv
  have S2 := Sta.start efv (Or.inl q7)
  have S3 := Sta.start (own_eqint (Cond.before_iff.mp q12)) (Or.inl q11)
  have S4 := Sta.start (own_eqint (Cond.before_iff.mp q15)) (Or.inl q14)
  have S5 := Sta.start (own_eqint (Cond.before_iff.mp q18)) (Or.inl q17)
  have hCH := CHv.start (own_EW hw) hcalls.1 q2 (hw _ (List.mem_of_getElem? (i := 27) rfl)) (hw _ (List.mem_of_getElem? (i := 10) rfl))
  obtain ⟨n, o, h1, h2, h3, _, L, rfl, ⟨rfl, N⟩, -, hq⟩ := rm0 l s _ hw tables_1 i0 i1 i2 i3 i4 i5 wc sf s.heap s.heap.size (Nat.le_refl _) ⟨S1, hwc, S2, S3, S4, S5⟩ p e ha hc hk s m _ below hf ((Spec.applies_iff_loose hf).mp happ).1 ⟨rfl, State.Warmed39.refl s, rfl, hCH⟩ trivial
  refine ⟨n, _, h1, h2, h3, hpost _ _ _ _ _ _ ⟨Cond.after_iff.mpr rfl, Cond.after_iff.mpr (eq_i res_at (Term.int_eval (1)) rfl), trivial⟩ ⟨hq.1, hq.2.1, hq.2.2.1, (hq.2.2.2.sift fun y hy => Or.inr (N y hy)).mono (by decide) (by decide)⟩⟩
theorem main_1_1 : Claimed_1_1 := comes_1 fun _ _ _ _ _ _ h hF => ⟨h.1, hF⟩
theorem main_1_2 : Claimed_1_2 := comes_1 fun _ _ _ _ _ _ h hF => ⟨h.2.1, hF⟩
end Jvm.Pilot.@@N@@
namespace Jvm.Pilot.@@N@@
open Jvm Jvm.ClassFile Sem Op Lib Jvm.Free Jvm.Stand Jvm.Pilot.@@N@@.Jvm.D
/-! MADE BY PROGRAM (witnessworld.py) out of the Statement's table words and the real class files: 23 classes; the members and pool entries that the words name. The judged class is class 1, her method 1. -/
namespace start1
open Jvm.ClassFile
def u (s : String) : CpInfo := .utf8 (stringToUtf16 s)
/-- a pool by its gaps: so many unusable entries, then the entry; so many at the end -/
def gap : Nat → List CpInfo → List CpInfo
  | 0, r => r
  | n + 1, r => .unusable :: gap n r
def poolList (es : List (Nat × CpInfo)) (last : Nat) : List CpInfo := es.foldr (fun e r => gap e.1 (e.2 :: r)) (gap last [])
def pool (es : List (Nat × CpInfo)) (last : Nat) : Array CpInfo := ⟨poolList es last⟩
def fileOf (pool : Array CpInfo) (this : Nat) (attrs : Array Attribute := #[]) (ms : Array MethodInfo := #[]) (fl : Nat := 33) (sup : Nat := 0) (ifs : Array Nat := #[]) (fds : Array FieldInfo := #[]) : ClassFile where
  minorVersion := 0
  majorVersion := 65
  constantPool := pool
  accessFlags := fl
  thisClass := this
  superClass := sup
  interfaces := ifs
  fields := fds
  methods := ms
  attributes := attrs
def plain (name : String) (sup : Option ClassId) : Class where
  name := name
  kind := .ordinary
  loader := none
  accessFlags := 33
  super := sup
  interfaces := #[]
  cf := none
  fields := #[]
  methods := #[]
  instanceTypes := #[]
  staticTypes := #[]
  resolved := #[]
  callSites := []
  init := .initialized
  statics := none
  mirror := none

def pool0 : Array CpInfo := pool [(5, u "<init>"), (0, u "()V"), (1, .class_ 10), (1, u "java/lang/Object")] 113

def k0c0 : Code := { maxStack := 0, maxLocals := 1, code := object_method_1_code, exceptionTable := #[], attributes := #[] }
def k0m0 : Method := { name := "<init>", desc := "()V", sig := { parameters := [], returnType := none }, accessFlags := 1, code := some k0c0 }
/-- java/lang/Object -/
def k0 : Class := { plain "java/lang/Object" none with
  accessFlags := 33
  interfaces := #[]
  cf := some (fileOf pool0 8 #[] #[{ accessFlags := 1, nameIndex := 5, descriptorIndex := 6, attributes := #[] }] 33 0 #[] #[])
  fields := #[]
  methods := #[k0m0]
  instanceTypes := #[]
  staticTypes := #[]
  resolved := Array.replicate 124 none
  statics := none }

def pool1 : Array CpInfo := pool [(2, .class_ 4), (1, u "java/lang/Object"), (0, u "<init>"), (0, u "()V"), (0, .integer 2147483647), (0, .methodref 9 10), (0, .class_ 11), (0, .nameAndType 12 13), (0, u "adjunct/core/XmlSpaceStripPinLaw"), (0, u "pick"), (0, u "(IIII)C"), (0, .class_ 15), (0, u "java/lang/String"), (0, .methodref 14 17), (0, .nameAndType 5 18), (0, u "([C)V"), (0, .methodref 20 21), (0, .class_ 22), (0, .nameAndType 23 24), (0, u "adjunct/core/XmlSpace"), (0, u "strip"), (0, u "(Ljava/lang/String;)Ljava/lang/String;"), (0, .methodref 14 26), (0, .nameAndType 27 28), (0, u "isEmpty"), (0, u "()Z"), (0, .methodref 14 30), (0, .nameAndType 31 32), (0, u "length"), (0, u "()I"), (0, .methodref 9 34), (0, .nameAndType 35 36), (0, u "same"), (0, u "(Ljava/lang/String;Ljava/lang/String;II)Z"), (0, .methodref 14 38), (0, .nameAndType 39 40), (0, u "charAt"), (0, u "(I)C"), (0, .integer 65535), (0, .methodref 9 43), (0, .nameAndType 44 45), (0, u "isWs"), (0, u "(C)Z"), (0, .integer 65536), (0, .methodref 9 48), (0, .nameAndType 49 40), (0, u "ws"), (0, .methodref 9 51), (0, .nameAndType 52 40), (0, u "nonWs"), (0, .methodref 9 54), (0, .nameAndType 55 40), (0, u "any"), (2, u "law"), (0, u "(IIIIII)Z")] 5

def k1m0 : Method := { name := "<init>", desc := "()V", sig := { parameters := [], returnType := none }, accessFlags := 1, code := none }
def k1c1 : Code := { maxStack := 6, maxLocals := 13, code := code, exceptionTable := #[], attributes := #[] }
def k1m1 : Method := { name := "law", desc := "(IIIIII)Z", sig := { parameters := [.int, .int, .int, .int, .int, .int], returnType := some .boolean }, accessFlags := 9, code := some k1c1 }
def k1c2 : Code := { maxStack := 4, maxLocals := 4, code := method_3_code, exceptionTable := #[], attributes := #[] }
def k1m2 : Method := { name := "same", desc := "(Ljava/lang/String;Ljava/lang/String;II)Z", sig := { parameters := [(.object "java/lang/String"), (.object "java/lang/String"), .int, .int], returnType := some .boolean }, accessFlags := 10, code := some k1c2 }
def k1c3 : Code := { maxStack := 2, maxLocals := 1, code := method_4_code, exceptionTable := #[], attributes := #[] }
def k1m3 : Method := { name := "isWs", desc := "(C)Z", sig := { parameters := [.char], returnType := some .boolean }, accessFlags := 10, code := some k1c3 }
def k1c4 : Code := { maxStack := 2, maxLocals := 2, code := method_5_code, exceptionTable := #[], attributes := #[] }
def k1m4 : Method := { name := "ws", desc := "(I)C", sig := { parameters := [.int], returnType := some .char }, accessFlags := 10, code := some k1c4 }
def k1c5 : Code := { maxStack := 2, maxLocals := 2, code := method_6_code, exceptionTable := #[], attributes := #[] }
def k1m5 : Method := { name := "nonWs", desc := "(I)C", sig := { parameters := [.int], returnType := some .char }, accessFlags := 10, code := some k1c5 }
def k1c6 : Code := { maxStack := 2, maxLocals := 1, code := method_7_code, exceptionTable := #[], attributes := #[] }
def k1m6 : Method := { name := "any", desc := "(I)C", sig := { parameters := [.int], returnType := some .char }, accessFlags := 10, code := some k1c6 }
def k1c7 : Code := { maxStack := 3, maxLocals := 4, code := method_8_code, exceptionTable := #[], attributes := #[] }
def k1m7 : Method := { name := "pick", desc := "(IIII)C", sig := { parameters := [.int, .int, .int, .int], returnType := some .char }, accessFlags := 10, code := some k1c7 }
/-- adjunct/core/XmlSpaceStripPinLaw -/
def k1 : Class := { plain "adjunct/core/XmlSpaceStripPinLaw" (some 0) with
  accessFlags := 49
  interfaces := #[]
  cf := some (fileOf pool1 9 #[] #[{ accessFlags := 1, nameIndex := 5, descriptorIndex := 6, attributes := #[] }, { accessFlags := 9, nameIndex := 58, descriptorIndex := 59, attributes := #[] }, { accessFlags := 10, nameIndex := 35, descriptorIndex := 36, attributes := #[] }, { accessFlags := 10, nameIndex := 44, descriptorIndex := 45, attributes := #[] }, { accessFlags := 10, nameIndex := 49, descriptorIndex := 40, attributes := #[] }, { accessFlags := 10, nameIndex := 52, descriptorIndex := 40, attributes := #[] }, { accessFlags := 10, nameIndex := 55, descriptorIndex := 40, attributes := #[] }, { accessFlags := 10, nameIndex := 12, descriptorIndex := 13, attributes := #[] }] 49 2 #[] #[])
  fields := #[]
  methods := #[k1m0, k1m1, k1m2, k1m3, k1m4, k1m5, k1m6, k1m7]
  instanceTypes := #[]
  staticTypes := #[]
  resolved := Array.replicate 65 none
  statics := none }

def pool2 : Array CpInfo := pool [(1, .class_ 2), (0, u "java/io/Serializable"), (0, .class_ 4), (0, u "java/lang/Object")] 2

/-- java/io/Serializable -/
def k2 : Class := { plain "java/io/Serializable" (some 0) with
  accessFlags := 1537
  interfaces := #[]
  cf := some (fileOf pool2 1 #[] #[] 1537 3 #[] #[])
  fields := #[]
  methods := #[]
  instanceTypes := #[]
  staticTypes := #[]
  resolved := Array.replicate 7 none
  statics := none }

def pool3 : Array CpInfo := pool [(1, .class_ 2), (0, u "java/lang/Comparable"), (0, .class_ 4), (0, u "java/lang/Object")] 7

/-- java/lang/Comparable -/
def k3 : Class := { plain "java/lang/Comparable" (some 0) with
  accessFlags := 1537
  interfaces := #[]
  cf := some (fileOf pool3 1 #[] #[] 1537 3 #[] #[])
  fields := #[]
  methods := #[]
  instanceTypes := #[]
  staticTypes := #[]
  resolved := Array.replicate 12 none
  statics := none }

def pool4 : Array CpInfo := pool [(2, .class_ 4), (1, u "java/lang/CharSequence"), (42, .class_ 48), (0, u "java/lang/CharSequence$1CodePointIterator"), (10, .class_ 60), (0, u "java/lang/CharSequence$1CharIterator"), (5, .class_ 67), (0, u "java/lang/Object")] 63

/-- java/lang/CharSequence -/
def k4 : Class := { plain "java/lang/CharSequence" (some 0) with
  accessFlags := 1537
  interfaces := #[]
  cf := some (fileOf pool4 2 #[.nestMembers #[47, 59]] #[] 1537 66 #[] #[])
  fields := #[]
  methods := #[]
  instanceTypes := #[]
  staticTypes := #[]
  resolved := Array.replicate 131 none
  statics := none }

def pool5 : Array CpInfo := pool [(1, .class_ 2), (0, u "java/lang/constant/Constable"), (0, .class_ 4), (0, u "java/lang/Object")] 6

/-- java/lang/constant/Constable -/
def k5 : Class := { plain "java/lang/constant/Constable" (some 0) with
  accessFlags := 1537
  interfaces := #[]
  cf := some (fileOf pool5 1 #[] #[] 1537 3 #[] #[])
  fields := #[]
  methods := #[]
  instanceTypes := #[]
  staticTypes := #[]
  resolved := Array.replicate 11 none
  statics := none }

def pool6 : Array CpInfo := pool [(1, .class_ 2), (0, u "java/lang/constant/ConstantDesc"), (0, .class_ 4), (0, u "java/lang/Object")] 32

/-- java/lang/constant/ConstantDesc -/
def k6 : Class := { plain "java/lang/constant/ConstantDesc" (some 0) with
  accessFlags := 1537
  interfaces := #[]
  cf := some (fileOf pool6 1 #[] #[] 1537 3 #[] #[])
  fields := #[]
  methods := #[]
  instanceTypes := #[]
  staticTypes := #[]
  resolved := Array.replicate 37 none
  statics := none }

def pool7 : Array CpInfo := pool [(1, .methodref 2 3), (0, .class_ 4), (0, .nameAndType 5 6), (0, u "java/lang/Object"), (0, u "<init>"), (0, u "()V"), (0, .string 8), (0, u ""), (0, .fieldref 10 11), (0, .class_ 12), (0, .nameAndType 13 14), (0, u "java/lang/String"), (0, u "value"), (0, u "[B"), (0, .fieldref 10 16), (0, .nameAndType 17 18), (0, u "coder"), (0, u "B"), (2, u "hash"), (0, u "I"), (2, u "hashIsZero"), (0, u "Z"), (0, .methodref 10 28), (0, .nameAndType 5 29), (0, u "([CIILjava/lang/Void;)V"), (6, u "checkBoundsOffCount"), (0, u "(III)I"), (0, .fieldref 10 39), (0, .nameAndType 40 26), (0, u "COMPACT_STRINGS"), (1, .class_ 44), (1, u "java/lang/StringUTF16"), (0, u "compress"), (1, .methodref 42 48), (0, .nameAndType 49 50), (0, u "coderFromArrayLen"), (0, u "([BI)B"), (56, .class_ 109), (1, u "java/lang/StringLatin1"), (32, u "()Z"), (34, .methodref 42 178), (0, .nameAndType 45 179), (0, u "([CII)[B"), (31, u "([BB)V"), (122, u "()I"), (0, .methodref 10 336), (0, .nameAndType 17 337), (0, u "()B"), (25, u "([BI)C"), (27, u "(II)V"), (35, u "(I)C"), (64, .methodref 10 493), (0, .nameAndType 494 142), (0, u "isLatin1"), (0, .methodref 107 496), (0, .nameAndType 497 363), (0, u "charAt"), (0, .methodref 42 496), (2, u "checkIndex"), (3, .methodref 10 506), (0, .nameAndType 507 334), (0, u "length"), (5, u "checkFromToIndex"), (7, .methodref 10 522), (0, .nameAndType 523 524), (0, u "checkBoundsBeginEnd"), (0, u "(III)V"), (50, .class_ 576), (0, u "java/lang/CharSequence"), (22, u "CASE_INSENSITIVE_ORDER"), (0, u "Ljava/util/Comparator;"), (82, u "substring"), (0, u "(II)Ljava/lang/String;"), (0, .methodref 107 686), (0, .nameAndType 687 688), (0, u "newString"), (0, u "([BII)Ljava/lang/String;"), (0, .methodref 42 686), (2, u "isEmpty"), (317, u "([C)V"), (42, .fieldref 1054 1055), (0, .class_ 1056), (0, .nameAndType 1057 1058), (0, u "jdk/internal/util/Preconditions"), (0, u "SIOOBE_FORMATTER"), (0, u "Ljava/util/function/BiFunction;"), (0, .methodref 1054 1060), (0, .nameAndType 501 1061), (0, u "(IILjava/util/function/BiFunction;)I"), (0, .methodref 1054 1063), (0, .nameAndType 513 1064), (0, u "(IIILjava/util/function/BiFunction;)I"), (0, .methodref 1054 1066), (0, .nameAndType 1067 1064), (0, u "checkFromIndexSize"), (33, u "serialPersistentFields"), (0, u "[Ljava/io/ObjectStreamField;"), (0, .class_ 1104), (0, u "java/lang/String$CaseInsensitiveComparator"), (1, .class_ 1107), (0, u "java/io/Serializable"), (0, .class_ 1109), (0, u "java/lang/Comparable"), (0, .class_ 1111), (0, u "java/lang/constant/Constable"), (0, .class_ 1113), (0, u "java/lang/constant/ConstantDesc"), (2, u "serialVersionUID"), (0, u "J"), (3, u "REPL"), (0, u "C"), (2, u "LATIN1"), (1, u "UTF16")] 323

def k7m0 : Method := { name := "<init>", desc := "()V", sig := { parameters := [], returnType := none }, accessFlags := 1, code := none }
def k7c1 : Code := { maxStack := 5, maxLocals := 2, code := jdk_42_method_3_code, exceptionTable := #[], attributes := #[] }
def k7m1 : Method := { name := "<init>", desc := "([C)V", sig := { parameters := [(.array .char)], returnType := none }, accessFlags := 1, code := some k7c1 }
def k7c2 : Code := { maxStack := 2, maxLocals := 1, code := jdk_42_method_54_code, exceptionTable := #[], attributes := #[] }
def k7m2 : Method := { name := "length", desc := "()I", sig := { parameters := [], returnType := some .int }, accessFlags := 1, code := some k7c2 }
def k7c3 : Code := { maxStack := 1, maxLocals := 1, code := jdk_42_method_55_code, exceptionTable := #[], attributes := #[] }
def k7m3 : Method := { name := "isEmpty", desc := "()Z", sig := { parameters := [], returnType := some .boolean }, accessFlags := 1, code := some k7c3 }
def k7c4 : Code := { maxStack := 2, maxLocals := 2, code := jdk_42_method_56_code, exceptionTable := #[], attributes := #[] }
def k7m4 : Method := { name := "charAt", desc := "(I)C", sig := { parameters := [.int], returnType := some .char }, accessFlags := 1, code := some k7c4 }
def k7c5 : Code := { maxStack := 3, maxLocals := 5, code := jdk_42_method_92_code, exceptionTable := #[], attributes := #[] }
def k7m5 : Method := { name := "substring", desc := "(II)Ljava/lang/String;", sig := { parameters := [.int, .int], returnType := some (.object "java/lang/String") }, accessFlags := 1, code := some k7c5 }
def k7c6 : Code := { maxStack := 4, maxLocals := 6, code := jdk_42_method_149_code, exceptionTable := #[], attributes := #[] }
def k7m6 : Method := { name := "<init>", desc := "([CIILjava/lang/Void;)V", sig := { parameters := [(.array .char), .int, .int, (.object "java/lang/Void")], returnType := none }, accessFlags := 2, code := some k7c6 }
def k7c7 : Code := { maxStack := 2, maxLocals := 3, code := jdk_42_method_151_code, exceptionTable := #[], attributes := #[] }
def k7m7 : Method := { name := "<init>", desc := "([BB)V", sig := { parameters := [(.array .byte), .byte], returnType := none }, accessFlags := 0, code := some k7c7 }
def k7c8 : Code := { maxStack := 1, maxLocals := 1, code := jdk_42_method_152_code, exceptionTable := #[], attributes := #[] }
def k7m8 : Method := { name := "coder", desc := "()B", sig := { parameters := [], returnType := some .byte }, accessFlags := 0, code := some k7c8 }
def k7c9 : Code := { maxStack := 1, maxLocals := 1, code := jdk_42_method_154_code, exceptionTable := #[], attributes := #[] }
def k7m9 : Method := { name := "isLatin1", desc := "()Z", sig := { parameters := [], returnType := some .boolean }, accessFlags := 0, code := some k7c9 }
def k7c10 : Code := { maxStack := 3, maxLocals := 2, code := jdk_42_method_155_code, exceptionTable := #[], attributes := #[] }
def k7m10 : Method := { name := "checkIndex", desc := "(II)V", sig := { parameters := [.int, .int], returnType := none }, accessFlags := 8, code := some k7c10 }
def k7c11 : Code := { maxStack := 4, maxLocals := 3, code := jdk_42_method_157_code, exceptionTable := #[], attributes := #[] }
def k7m11 : Method := { name := "checkBoundsOffCount", desc := "(III)I", sig := { parameters := [.int, .int, .int], returnType := some .int }, accessFlags := 8, code := some k7c11 }
def k7c12 : Code := { maxStack := 4, maxLocals := 3, code := jdk_42_method_158_code, exceptionTable := #[], attributes := #[] }
def k7m12 : Method := { name := "checkBoundsBeginEnd", desc := "(III)V", sig := { parameters := [.int, .int, .int], returnType := none }, accessFlags := 8, code := some k7c12 }
/-- java/lang/String -/
def k7 : Class := { plain "java/lang/String" (some 0) with
  accessFlags := 49
  interfaces := #[2, 3, 4, 5, 6]
  cf := some (fileOf pool7 10 #[.nestMembers #[1103]] #[{ accessFlags := 1, nameIndex := 5, descriptorIndex := 6, attributes := #[] }, { accessFlags := 1, nameIndex := 5, descriptorIndex := 1010, attributes := #[] }, { accessFlags := 1, nameIndex := 507, descriptorIndex := 334, attributes := #[] }, { accessFlags := 1, nameIndex := 692, descriptorIndex := 142, attributes := #[] }, { accessFlags := 1, nameIndex := 497, descriptorIndex := 427, attributes := #[] }, { accessFlags := 1, nameIndex := 683, descriptorIndex := 684, attributes := #[] }, { accessFlags := 2, nameIndex := 5, descriptorIndex := 29, attributes := #[] }, { accessFlags := 0, nameIndex := 5, descriptorIndex := 211, attributes := #[] }, { accessFlags := 0, nameIndex := 17, descriptorIndex := 337, attributes := #[] }, { accessFlags := 0, nameIndex := 494, descriptorIndex := 142, attributes := #[] }, { accessFlags := 8, nameIndex := 501, descriptorIndex := 391, attributes := #[] }, { accessFlags := 8, nameIndex := 36, descriptorIndex := 37, attributes := #[] }, { accessFlags := 8, nameIndex := 523, descriptorIndex := 524, attributes := #[] }] 49 2 #[1106, 1108, 575, 1110, 1112] #[{ accessFlags := 18, nameIndex := 13, descriptorIndex := 14, attributes := #[] }, { accessFlags := 18, nameIndex := 17, descriptorIndex := 18, attributes := #[] }, { accessFlags := 2, nameIndex := 21, descriptorIndex := 22, attributes := #[] }, { accessFlags := 2, nameIndex := 25, descriptorIndex := 26, attributes := #[] }, { accessFlags := 26, nameIndex := 1116, descriptorIndex := 1117, attributes := #[] }, { accessFlags := 24, nameIndex := 40, descriptorIndex := 26, attributes := #[] }, { accessFlags := 26, nameIndex := 1101, descriptorIndex := 1102, attributes := #[] }, { accessFlags := 26, nameIndex := 1121, descriptorIndex := 1122, attributes := #[] }, { accessFlags := 25, nameIndex := 599, descriptorIndex := 600, attributes := #[] }, { accessFlags := 24, nameIndex := 1125, descriptorIndex := 18, attributes := #[] }, { accessFlags := 24, nameIndex := 1127, descriptorIndex := 18, attributes := #[] }])
  fields := #[{ name := "value", type := (.array .byte), accessFlags := 18, slot := 0, constantValue := 0 }, { name := "coder", type := .byte, accessFlags := 18, slot := 1, constantValue := 0 }, { name := "hash", type := .int, accessFlags := 2, slot := 2, constantValue := 0 }, { name := "hashIsZero", type := .boolean, accessFlags := 2, slot := 3, constantValue := 0 }, { name := "serialVersionUID", type := .long, accessFlags := 26, slot := 0, constantValue := 0 }, { name := "COMPACT_STRINGS", type := .boolean, accessFlags := 24, slot := 1, constantValue := 0 }, { name := "serialPersistentFields", type := (.array (.object "java/io/ObjectStreamField")), accessFlags := 26, slot := 2, constantValue := 0 }, { name := "REPL", type := .char, accessFlags := 26, slot := 3, constantValue := 0 }, { name := "CASE_INSENSITIVE_ORDER", type := (.object "java/util/Comparator"), accessFlags := 25, slot := 4, constantValue := 0 }, { name := "LATIN1", type := .byte, accessFlags := 24, slot := 5, constantValue := 0 }, { name := "UTF16", type := .byte, accessFlags := 24, slot := 6, constantValue := 0 }]
  methods := #[k7m0, k7m1, k7m2, k7m3, k7m4, k7m5, k7m6, k7m7, k7m8, k7m9, k7m10, k7m11, k7m12]
  instanceTypes := #[(.array .byte), .byte, .int, .boolean]
  staticTypes := #[.long, .boolean, (.array (.object "java/io/ObjectStreamField")), .char, (.object "java/util/Comparator"), .byte, .byte]
  resolved := Array.replicate 1451 none
  statics := some 0 }

def pool8 : Array CpInfo := pool [(3, .class_ 4), (0, u "java/lang/String"), (1, .class_ 8), (1, u "java/lang/Object"), (0, u "<init>"), (0, u "()V"), (0, .methodref 12 13), (0, .class_ 14), (0, .nameAndType 15 16), (0, u "java/lang/StringUTF16"), (0, u "newBytesLength"), (0, u "(I)I"), (3, .integer 1073741823), (23, .fieldref 12 45), (0, .nameAndType 46 47), (0, u "$assertionsDisabled"), (0, u "Z"), (0, .methodref 12 49), (0, .nameAndType 50 51), (0, u "length"), (0, u "([B)I"), (7, .fieldref 12 60), (0, .nameAndType 61 62), (0, u "HI_BYTE_SHIFT"), (0, u "I"), (0, .fieldref 12 64), (0, .nameAndType 65 62), (0, u "LO_BYTE_SHIFT"), (1, .methodref 12 68), (0, .nameAndType 69 70), (0, u "checkIndex"), (0, u "(I[B)V"), (0, .methodref 12 72), (0, .nameAndType 73 74), (0, u "getChar"), (0, u "([BI)C"), (24, u "(II[B)V"), (7, .methodref 12 108), (0, .nameAndType 109 110), (0, u "newBytesFor"), (0, u "(I)[B"), (0, .methodref 12 112), (0, .nameAndType 113 114), (0, u "putChar"), (0, u "([BII)V"), (0, .methodref 12 116), (0, .nameAndType 117 118), (0, u "compress"), (0, u "([CI[BII)I"), (0, .methodref 12 120), (0, .nameAndType 121 122), (0, u "toBytes"), (0, u "([CII)[B"), (0, .methodref 12 124), (0, .nameAndType 117 125), (0, u "([BI[BII)I"), (0, .methodref 127 128), (0, .class_ 129), (0, .nameAndType 130 131), (0, u "java/util/Arrays"), (0, u "copyOfRange"), (0, u "([BII)[B"), (41, .methodref 12 174), (0, .nameAndType 175 99), (0, u "checkBoundsOffCount"), (75, .fieldref 3 252), (0, .nameAndType 253 47), (0, u "COMPACT_STRINGS"), (3, .methodref 12 258), (0, .nameAndType 117 131), (0, .methodref 12 260), (0, .nameAndType 261 262), (0, u "coderFromArrayLen"), (0, u "([BI)B"), (0, .methodref 3 264), (0, .nameAndType 9 265), (0, u "([BB)V"), (15, u "(III)I"), (45, u "newString"), (0, u "([BII)Ljava/lang/String;"), (40, .class_ 371), (1, u "java/lang/StringUTF16$LinesSpliterator"), (20, u "charAt"), (21, .methodref 3 415), (0, .nameAndType 69 416), (0, u "(II)V"), (2, .methodref 3 420), (0, .nameAndType 175 281), (9, u "MAX_LENGTH"), (196, .class_ 628), (0, u "java/lang/StringUTF16$CodePointsSpliterator"), (0, .class_ 630), (0, u "java/lang/StringUTF16$CharsSpliterator")] 4

def k8m0 : Method := { name := "<init>", desc := "()V", sig := { parameters := [], returnType := none }, accessFlags := 0, code := none }
def k8c1 : Code := { maxStack := 1, maxLocals := 1, code := jdk_52_method_2_code, exceptionTable := #[], attributes := #[] }
def k8m1 : Method := { name := "newBytesFor", desc := "(I)[B", sig := { parameters := [.int], returnType := some (.array .byte) }, accessFlags := 9, code := some k8c1 }
def k8c2 : Code := { maxStack := 4, maxLocals := 1, code := jdk_52_method_3_code, exceptionTable := #[], attributes := #[] }
def k8m2 : Method := { name := "newBytesLength", desc := "(I)I", sig := { parameters := [.int], returnType := some .int }, accessFlags := 9, code := some k8c2 }
def k8c3 : Code := { maxStack := 4, maxLocals := 3, code := jdk_52_method_4_code, exceptionTable := #[], attributes := #[] }
def k8m3 : Method := { name := "putChar", desc := "([BII)V", sig := { parameters := [(.array .byte), .int, .int], returnType := none }, accessFlags := 8, code := some k8c3 }
def k8c4 : Code := { maxStack := 3, maxLocals := 2, code := jdk_52_method_5_code, exceptionTable := #[], attributes := #[] }
def k8m4 : Method := { name := "getChar", desc := "([BI)C", sig := { parameters := [(.array .byte), .int], returnType := some .char }, accessFlags := 8, code := some k8c4 }
def k8c5 : Code := { maxStack := 2, maxLocals := 1, code := jdk_52_method_6_code, exceptionTable := #[], attributes := #[] }
def k8m5 : Method := { name := "length", desc := "([B)I", sig := { parameters := [(.array .byte)], returnType := some .int }, accessFlags := 9, code := some k8c5 }
def k8c6 : Code := { maxStack := 4, maxLocals := 5, code := jdk_52_method_14_code, exceptionTable := #[], attributes := #[] }
def k8m6 : Method := { name := "toBytes", desc := "([CII)[B", sig := { parameters := [(.array .char), .int, .int], returnType := some (.array .byte) }, accessFlags := 9, code := some k8c6 }
def k8c7 : Code := { maxStack := 2, maxLocals := 2, code := jdk_52_method_15_code, exceptionTable := #[], attributes := #[] }
def k8m7 : Method := { name := "coderFromArrayLen", desc := "([BI)B", sig := { parameters := [(.array .byte), .int], returnType := some .byte }, accessFlags := 8, code := some k8c7 }
def k8c8 : Code := { maxStack := 5, maxLocals := 6, code := jdk_52_method_16_code, exceptionTable := #[], attributes := #[] }
def k8m8 : Method := { name := "compress", desc := "([CII)[B", sig := { parameters := [(.array .char), .int, .int], returnType := some (.array .byte) }, accessFlags := 9, code := some k8c8 }
def k8c9 : Code := { maxStack := 5, maxLocals := 6, code := jdk_52_method_17_code, exceptionTable := #[], attributes := #[] }
def k8m9 : Method := { name := "compress", desc := "([BII)[B", sig := { parameters := [(.array .byte), .int, .int], returnType := some (.array .byte) }, accessFlags := 9, code := some k8c9 }
def k8c10 : Code := { maxStack := 3, maxLocals := 7, code := jdk_52_method_21_code, exceptionTable := #[], attributes := #[] }
def k8m10 : Method := { name := "compress", desc := "([CI[BII)I", sig := { parameters := [(.array .char), .int, (.array .byte), .int, .int], returnType := some .int }, accessFlags := 9, code := some k8c10 }
def k8c11 : Code := { maxStack := 3, maxLocals := 7, code := jdk_52_method_22_code, exceptionTable := #[], attributes := #[] }
def k8m11 : Method := { name := "compress", desc := "([BI[BII)I", sig := { parameters := [(.array .byte), .int, (.array .byte), .int, .int], returnType := some .int }, accessFlags := 9, code := some k8c11 }
def k8c12 : Code := { maxStack := 6, maxLocals := 5, code := jdk_52_method_69_code, exceptionTable := #[], attributes := #[] }
def k8m12 : Method := { name := "newString", desc := "([BII)Ljava/lang/String;", sig := { parameters := [(.array .byte), .int, .int], returnType := some (.object "java/lang/String") }, accessFlags := 9, code := some k8c12 }
def k8c13 : Code := { maxStack := 2, maxLocals := 2, code := jdk_52_method_83_code, exceptionTable := #[], attributes := #[] }
def k8m13 : Method := { name := "charAt", desc := "([BI)C", sig := { parameters := [(.array .byte), .int], returnType := some .char }, accessFlags := 9, code := some k8c13 }
def k8c14 : Code := { maxStack := 2, maxLocals := 2, code := jdk_52_method_91_code, exceptionTable := #[], attributes := #[] }
def k8m14 : Method := { name := "checkIndex", desc := "(I[B)V", sig := { parameters := [.int, (.array .byte)], returnType := none }, accessFlags := 9, code := some k8c14 }
def k8c15 : Code := { maxStack := 3, maxLocals := 3, code := jdk_52_method_94_code, exceptionTable := #[], attributes := #[] }
def k8m15 : Method := { name := "checkBoundsOffCount", desc := "(II[B)V", sig := { parameters := [.int, .int, (.array .byte)], returnType := none }, accessFlags := 9, code := some k8c15 }
/-- java/lang/StringUTF16 -/
def k8 : Class := { plain "java/lang/StringUTF16" (some 0) with
  accessFlags := 48
  interfaces := #[]
  cf := some (fileOf pool8 12 #[.nestMembers #[627, 629, 369]] #[{ accessFlags := 0, nameIndex := 9, descriptorIndex := 10, attributes := #[] }, { accessFlags := 9, nameIndex := 109, descriptorIndex := 110, attributes := #[] }, { accessFlags := 9, nameIndex := 15, descriptorIndex := 16, attributes := #[] }, { accessFlags := 8, nameIndex := 113, descriptorIndex := 114, attributes := #[] }, { accessFlags := 8, nameIndex := 73, descriptorIndex := 74, attributes := #[] }, { accessFlags := 9, nameIndex := 50, descriptorIndex := 51, attributes := #[] }, { accessFlags := 9, nameIndex := 121, descriptorIndex := 122, attributes := #[] }, { accessFlags := 8, nameIndex := 261, descriptorIndex := 262, attributes := #[] }, { accessFlags := 9, nameIndex := 117, descriptorIndex := 122, attributes := #[] }, { accessFlags := 9, nameIndex := 117, descriptorIndex := 131, attributes := #[] }, { accessFlags := 9, nameIndex := 117, descriptorIndex := 118, attributes := #[] }, { accessFlags := 9, nameIndex := 117, descriptorIndex := 125, attributes := #[] }, { accessFlags := 9, nameIndex := 327, descriptorIndex := 328, attributes := #[] }, { accessFlags := 9, nameIndex := 392, descriptorIndex := 74, attributes := #[] }, { accessFlags := 9, nameIndex := 69, descriptorIndex := 70, attributes := #[] }, { accessFlags := 9, nameIndex := 175, descriptorIndex := 99, attributes := #[] }] 48 6 #[] #[{ accessFlags := 26, nameIndex := 61, descriptorIndex := 62, attributes := #[] }, { accessFlags := 26, nameIndex := 65, descriptorIndex := 62, attributes := #[] }, { accessFlags := 24, nameIndex := 430, descriptorIndex := 62, attributes := #[] }, { accessFlags := 4120, nameIndex := 46, descriptorIndex := 47, attributes := #[] }])
  fields := #[{ name := "HI_BYTE_SHIFT", type := .int, accessFlags := 26, slot := 0, constantValue := 0 }, { name := "LO_BYTE_SHIFT", type := .int, accessFlags := 26, slot := 1, constantValue := 0 }, { name := "MAX_LENGTH", type := .int, accessFlags := 24, slot := 2, constantValue := 0 }, { name := "$assertionsDisabled", type := .boolean, accessFlags := 4120, slot := 3, constantValue := 0 }]
  methods := #[k8m0, k8m1, k8m2, k8m3, k8m4, k8m5, k8m6, k8m7, k8m8, k8m9, k8m10, k8m11, k8m12, k8m13, k8m14, k8m15]
  instanceTypes := #[]
  staticTypes := #[.int, .int, .int, .boolean]
  resolved := Array.replicate 635 none
  statics := some 1 }

def pool9 : Array CpInfo := pool [(2, .class_ 4), (1, u "java/lang/Object"), (0, u "<init>"), (0, u "()V"), (0, .methodref 8 9), (0, .class_ 10), (0, .nameAndType 11 12), (0, u "java/lang/String"), (0, u "length"), (0, u "()I"), (0, .methodref 8 14), (0, .nameAndType 15 16), (0, u "charAt"), (0, u "(I)C"), (0, .methodref 18 19), (0, .class_ 20), (0, .nameAndType 21 22), (0, u "adjunct/core/XmlSpace"), (0, u "is"), (0, u "(C)Z"), (0, .methodref 8 24), (0, .nameAndType 25 26), (0, u "substring"), (0, u "(II)Ljava/lang/String;"), (17, u "strip"), (0, u "(Ljava/lang/String;)Ljava/lang/String;")] 3

def k9m0 : Method := { name := "<init>", desc := "()V", sig := { parameters := [], returnType := none }, accessFlags := 2, code := none }
def k9c1 : Code := { maxStack := 2, maxLocals := 1, code := prog_65_method_2_code, exceptionTable := #[], attributes := #[] }
def k9m1 : Method := { name := "is", desc := "(C)Z", sig := { parameters := [.char], returnType := some .boolean }, accessFlags := 8, code := some k9c1 }
def k9c2 : Code := { maxStack := 3, maxLocals := 3, code := prog_65_method_3_code, exceptionTable := #[], attributes := #[] }
def k9m2 : Method := { name := "strip", desc := "(Ljava/lang/String;)Ljava/lang/String;", sig := { parameters := [(.object "java/lang/String")], returnType := some (.object "java/lang/String") }, accessFlags := 8, code := some k9c2 }
/-- adjunct/core/XmlSpace -/
def k9 : Class := { plain "adjunct/core/XmlSpace" (some 0) with
  accessFlags := 48
  interfaces := #[]
  cf := some (fileOf pool9 18 #[] #[{ accessFlags := 2, nameIndex := 5, descriptorIndex := 6, attributes := #[] }, { accessFlags := 8, nameIndex := 21, descriptorIndex := 22, attributes := #[] }, { accessFlags := 8, nameIndex := 44, descriptorIndex := 45, attributes := #[] }] 48 2 #[] #[])
  fields := #[]
  methods := #[k9m0, k9m1, k9m2]
  instanceTypes := #[]
  staticTypes := #[]
  resolved := Array.replicate 49 none
  statics := none }

def pool10 : Array CpInfo := pool [(1, .class_ 2), (0, u "java/lang/String"), (1, .class_ 6), (1, u "java/lang/Object"), (0, u "<init>"), (0, u "()V"), (0, .methodref 1 10), (0, .nameAndType 11 12), (0, u "checkIndex"), (0, u "(II)V"), (1, .class_ 16), (1, u "java/lang/StringLatin1"), (36, u "([BI)C"), (58, .methodref 1 113), (0, .nameAndType 7 114), (0, u "([BB)V"), (6, u "$assertionsDisabled"), (0, u "Z"), (8, .class_ 133), (1, u "java/util/Arrays"), (17, .string 152), (0, u ""), (43, u "newString"), (0, u "([BII)Ljava/lang/String;"), (23, .class_ 223), (1, u "java/lang/StringLatin1$LinesSpliterator"), (8, .methodref 131 233), (0, .nameAndType 234 235), (0, u "copyOfRange"), (0, u "([BII)[B"), (16, u "charAt"), (137, .class_ 391), (0, u "java/lang/StringLatin1$CharsSpliterator")] 3

def k10m0 : Method := { name := "<init>", desc := "()V", sig := { parameters := [], returnType := none }, accessFlags := 0, code := none }
def k10c1 : Code := { maxStack := 2, maxLocals := 2, code := jdk_43_method_2_code, exceptionTable := #[], attributes := #[] }
def k10m1 : Method := { name := "charAt", desc := "([BI)C", sig := { parameters := [(.array .byte), .int], returnType := some .char }, accessFlags := 9, code := some k10c1 }
def k10c2 : Code := { maxStack := 6, maxLocals := 3, code := jdk_43_method_47_code, exceptionTable := #[], attributes := #[] }
def k10m2 : Method := { name := "newString", desc := "([BII)Ljava/lang/String;", sig := { parameters := [(.array .byte), .int, .int], returnType := some (.object "java/lang/String") }, accessFlags := 9, code := some k10c2 }
/-- java/lang/StringLatin1 -/
def k10 : Class := { plain "java/lang/StringLatin1" (some 0) with
  accessFlags := 48
  interfaces := #[]
  cf := some (fileOf pool10 14 #[.nestMembers #[390, 221]] #[{ accessFlags := 0, nameIndex := 7, descriptorIndex := 8, attributes := #[] }, { accessFlags := 9, nameIndex := 252, descriptorIndex := 53, attributes := #[] }, { accessFlags := 9, nameIndex := 196, descriptorIndex := 197, attributes := #[] }] 48 4 #[] #[{ accessFlags := 4120, nameIndex := 121, descriptorIndex := 122, attributes := #[] }])
  fields := #[{ name := "$assertionsDisabled", type := .boolean, accessFlags := 4120, slot := 0, constantValue := 0 }]
  methods := #[k10m0, k10m1, k10m2]
  instanceTypes := #[]
  staticTypes := #[.boolean]
  resolved := Array.replicate 395 none
  statics := none }

def pool11 : Array CpInfo := pool [(2, .class_ 4), (1, u "java/lang/Object"), (0, u "<init>"), (0, u "()V"), (17, .class_ 26), (1, u "jdk/internal/util/Preconditions"), (6, u "checkIndex"), (13, u "checkFromToIndex"), (1, u "checkFromIndexSize"), (5, .class_ 56), (0, u "jdk/internal/util/Preconditions$4"), (57, .class_ 115), (0, u "jdk/internal/util/Preconditions$1"), (7, u "SIOOBE_FORMATTER"), (0, u "Ljava/util/function/BiFunction;"), (0, .class_ 126), (0, u "jdk/internal/util/Preconditions$2"), (3, u "AIOOBE_FORMATTER"), (0, .class_ 132), (0, u "jdk/internal/util/Preconditions$3"), (3, u "IOOBE_FORMATTER"), (41, u "(IILjava/util/function/BiFunction;)I"), (4, u "(IIILjava/util/function/BiFunction;)I")] 10

def k11m0 : Method := { name := "<init>", desc := "()V", sig := { parameters := [], returnType := none }, accessFlags := 1, code := none }
def k11c1 : Code := { maxStack := 3, maxLocals := 3, code := jdk_41_method_11_code, exceptionTable := #[], attributes := #[] }
def k11m1 : Method := { name := "checkIndex", desc := "(IILjava/util/function/BiFunction;)I", sig := { parameters := [.int, .int, (.object "java/util/function/BiFunction")], returnType := some .int }, accessFlags := 9, code := some k11c1 }
def k11c2 : Code := { maxStack := 4, maxLocals := 4, code := jdk_41_method_12_code, exceptionTable := #[], attributes := #[] }
def k11m2 : Method := { name := "checkFromToIndex", desc := "(IIILjava/util/function/BiFunction;)I", sig := { parameters := [.int, .int, .int, (.object "java/util/function/BiFunction")], returnType := some .int }, accessFlags := 9, code := some k11c2 }
def k11c3 : Code := { maxStack := 4, maxLocals := 4, code := jdk_41_method_13_code, exceptionTable := #[], attributes := #[] }
def k11m3 : Method := { name := "checkFromIndexSize", desc := "(IIILjava/util/function/BiFunction;)I", sig := { parameters := [.int, .int, .int, (.object "java/util/function/BiFunction")], returnType := some .int }, accessFlags := 9, code := some k11c3 }
/-- jdk/internal/util/Preconditions -/
def k11 : Class := { plain "jdk/internal/util/Preconditions" (some 0) with
  accessFlags := 33
  interfaces := #[]
  cf := some (fileOf pool11 24 #[.nestMembers #[55, 131, 125, 114]] #[{ accessFlags := 1, nameIndex := 5, descriptorIndex := 6, attributes := #[] }, { accessFlags := 9, nameIndex := 33, descriptorIndex := 178, attributes := #[] }, { accessFlags := 9, nameIndex := 47, descriptorIndex := 183, attributes := #[] }, { accessFlags := 9, nameIndex := 49, descriptorIndex := 183, attributes := #[] }] 33 2 #[] #[{ accessFlags := 25, nameIndex := 123, descriptorIndex := 124, attributes := #[] }, { accessFlags := 25, nameIndex := 130, descriptorIndex := 124, attributes := #[] }, { accessFlags := 25, nameIndex := 136, descriptorIndex := 124, attributes := #[] }])
  fields := #[{ name := "SIOOBE_FORMATTER", type := (.object "java/util/function/BiFunction"), accessFlags := 25, slot := 0, constantValue := 0 }, { name := "AIOOBE_FORMATTER", type := (.object "java/util/function/BiFunction"), accessFlags := 25, slot := 1, constantValue := 0 }, { name := "IOOBE_FORMATTER", type := (.object "java/util/function/BiFunction"), accessFlags := 25, slot := 2, constantValue := 0 }]
  methods := #[k11m0, k11m1, k11m2, k11m3]
  instanceTypes := #[]
  staticTypes := #[(.object "java/util/function/BiFunction"), (.object "java/util/function/BiFunction"), (.object "java/util/function/BiFunction")]
  resolved := Array.replicate 194 none
  statics := some 2 }

def pool12 : Array CpInfo := pool [(2, .class_ 4), (1, u "java/lang/Object"), (0, u "<init>"), (0, u "()V"), (7, .class_ 16), (1, u "java/util/Arrays"), (57, .class_ 76), (1, u "java/util/Arrays$NaturalOrder"), (36, .class_ 115), (1, u "java/util/Arrays$LegacyMergeSort"), (1, u "Z"), (21, u "copyOfRange"), (10, .methodref 151 152), (0, .class_ 153), (0, .nameAndType 154 155), (0, u "java/lang/System"), (0, u "arraycopy"), (0, u "(Ljava/lang/Object;ILjava/lang/Object;II)V"), (148, .methodref 305 306), (0, .class_ 307), (0, .nameAndType 308 309), (0, u "java/lang/Math"), (0, u "min"), (0, u "(II)I"), (29, .methodref 14 340), (0, .nameAndType 341 342), (0, u "copyOfRangeByte"), (0, u "([BII)[B"), (0, .methodref 14 344), (0, .nameAndType 345 346), (0, u "checkLength"), (0, u "(II)V"), (28, .class_ 376), (0, u "java/util/Arrays$ArrayList"), (68, u "$assertionsDisabled"), (269, u "MIN_ARRAY_SORT_GRAN"), (0, u "I"), (2, u "INSERTIONSORT_THRESHOLD"), (255, .class_ 976), (0, u "java/util/Arrays$ArrayItr")] 52

def k12m0 : Method := { name := "<init>", desc := "()V", sig := { parameters := [], returnType := none }, accessFlags := 2, code := none }
def k12c1 : Code := { maxStack := 4, maxLocals := 2, code := jdk_65_method_131_code, exceptionTable := #[], attributes := #[] }
def k12m1 : Method := { name := "checkLength", desc := "(II)V", sig := { parameters := [.int, .int], returnType := none }, accessFlags := 10, code := some k12c1 }
def k12c2 : Code := { maxStack := 3, maxLocals := 3, code := jdk_65_method_132_code, exceptionTable := #[], attributes := #[] }
def k12m2 : Method := { name := "copyOfRange", desc := "([BII)[B", sig := { parameters := [(.array .byte), .int, .int], returnType := some (.array .byte) }, accessFlags := 9, code := some k12c2 }
def k12c3 : Code := { maxStack := 6, maxLocals := 5, code := jdk_65_method_133_code, exceptionTable := #[], attributes := #[] }
def k12m3 : Method := { name := "copyOfRangeByte", desc := "([BII)[B", sig := { parameters := [(.array .byte), .int, .int], returnType := some (.array .byte) }, accessFlags := 10, code := some k12c3 }
/-- java/util/Arrays -/
def k12 : Class := { plain "java/util/Arrays" (some 0) with
  accessFlags := 49
  interfaces := #[]
  cf := some (fileOf pool12 14 #[.nestMembers #[975, 375, 113, 74]] #[{ accessFlags := 2, nameIndex := 5, descriptorIndex := 6, attributes := #[] }, { accessFlags := 10, nameIndex := 345, descriptorIndex := 346, attributes := #[] }, { accessFlags := 9, nameIndex := 139, descriptorIndex := 342, attributes := #[] }, { accessFlags := 10, nameIndex := 341, descriptorIndex := 342, attributes := #[] }] 49 2 #[] #[{ accessFlags := 26, nameIndex := 715, descriptorIndex := 716, attributes := #[] }, { accessFlags := 26, nameIndex := 719, descriptorIndex := 716, attributes := #[] }, { accessFlags := 4120, nameIndex := 445, descriptorIndex := 117, attributes := #[] }])
  fields := #[{ name := "MIN_ARRAY_SORT_GRAN", type := .int, accessFlags := 26, slot := 0, constantValue := 0 }, { name := "INSERTIONSORT_THRESHOLD", type := .int, accessFlags := 26, slot := 1, constantValue := 0 }, { name := "$assertionsDisabled", type := .boolean, accessFlags := 4120, slot := 2, constantValue := 0 }]
  methods := #[k12m0, k12m1, k12m2, k12m3]
  instanceTypes := #[]
  staticTypes := #[.int, .int, .boolean]
  resolved := Array.replicate 1029 none
  statics := none }

def pool13 : Array CpInfo := pool [(1, .class_ 2), (0, u "java/lang/Math"), (1, .class_ 6), (1, u "java/lang/Object"), (0, u "<init>"), (0, u "()V"), (89, .class_ 100), (1, u "java/lang/Math$RandomNumberGeneratorHolder"), (71, u "negativeZeroFloatBits"), (0, u "J"), (2, u "negativeZeroDoubleBits"), (24, u "min"), (43, u "$assertionsDisabled"), (0, u "Z"), (88, u "(II)I"), (2, u "twoToTheDoubleScaleDown"), (0, u "D"), (4, u "twoToTheDoubleScaleUp"), (9, u "E"), (3, u "PI"), (2, u "TAU"), (2, u "DEGREES_TO_RADIANS"), (0, u "RADIANS_TO_DEGREES")] 94

def k13m0 : Method := { name := "<init>", desc := "()V", sig := { parameters := [], returnType := none }, accessFlags := 2, code := none }
def k13c1 : Code := { maxStack := 2, maxLocals := 2, code := jdk_29_method_69_code, exceptionTable := #[], attributes := #[] }
def k13m1 : Method := { name := "min", desc := "(II)I", sig := { parameters := [.int, .int], returnType := some .int }, accessFlags := 9, code := some k13c1 }
/-- java/lang/Math -/
def k13 : Class := { plain "java/lang/Math" (some 0) with
  accessFlags := 49
  interfaces := #[]
  cf := some (fileOf pool13 1 #[.nestMembers #[98]] #[{ accessFlags := 2, nameIndex := 7, descriptorIndex := 8, attributes := #[] }, { accessFlags := 9, nameIndex := 201, descriptorIndex := 335, attributes := #[] }] 49 4 #[] #[{ accessFlags := 25, nameIndex := 354, descriptorIndex := 339, attributes := #[] }, { accessFlags := 25, nameIndex := 358, descriptorIndex := 339, attributes := #[] }, { accessFlags := 25, nameIndex := 361, descriptorIndex := 339, attributes := #[] }, { accessFlags := 26, nameIndex := 364, descriptorIndex := 339, attributes := #[] }, { accessFlags := 26, nameIndex := 365, descriptorIndex := 339, attributes := #[] }, { accessFlags := 26, nameIndex := 172, descriptorIndex := 173, attributes := #[] }, { accessFlags := 26, nameIndex := 176, descriptorIndex := 173, attributes := #[] }, { accessFlags := 8, nameIndex := 344, descriptorIndex := 339, attributes := #[] }, { accessFlags := 8, nameIndex := 338, descriptorIndex := 339, attributes := #[] }, { accessFlags := 4120, nameIndex := 245, descriptorIndex := 246, attributes := #[] }])
  fields := #[{ name := "E", type := .double, accessFlags := 25, slot := 0, constantValue := 0 }, { name := "PI", type := .double, accessFlags := 25, slot := 1, constantValue := 0 }, { name := "TAU", type := .double, accessFlags := 25, slot := 2, constantValue := 0 }, { name := "DEGREES_TO_RADIANS", type := .double, accessFlags := 26, slot := 3, constantValue := 0 }, { name := "RADIANS_TO_DEGREES", type := .double, accessFlags := 26, slot := 4, constantValue := 0 }, { name := "negativeZeroFloatBits", type := .long, accessFlags := 26, slot := 5, constantValue := 0 }, { name := "negativeZeroDoubleBits", type := .long, accessFlags := 26, slot := 6, constantValue := 0 }, { name := "twoToTheDoubleScaleUp", type := .double, accessFlags := 8, slot := 7, constantValue := 0 }, { name := "twoToTheDoubleScaleDown", type := .double, accessFlags := 8, slot := 8, constantValue := 0 }, { name := "$assertionsDisabled", type := .boolean, accessFlags := 4120, slot := 9, constantValue := 0 }]
  methods := #[k13m0, k13m1]
  instanceTypes := #[]
  staticTypes := #[.double, .double, .double, .double, .double, .long, .long, .double, .double, .boolean]
  resolved := Array.replicate 460 none
  statics := none }

def pool14 : Array CpInfo := pool [(2, .class_ 4), (1, u "java/lang/Object"), (0, u "<init>"), (0, u "()V"), (1, .class_ 10), (1, u "java/lang/System"), (0, u "allowSecurityManager"), (0, u "I"), (16, u "cons"), (0, u "Ljava/io/Console;"), (77, .class_ 110), (1, u "java/lang/System$CallersHolder"), (43, u "initialErrStream"), (0, u "Ljava/io/PrintStream;"), (19, u "security"), (0, u "Ljava/lang/SecurityManager;"), (31, .class_ 209), (0, u "java/lang/System$1"), (7, u "props"), (0, u "Ljava/util/Properties;"), (2, u "lineSeparator"), (0, u "Ljava/lang/String;"), (96, .class_ 321), (1, u "java/lang/System$LoggerFinder"), (5, .class_ 328), (0, u "java/lang/System$Logger"), (67, u "err"), (2, u "out"), (91, u "notSupportedJnuEncoding"), (15, u "in"), (17, u "initialIn"), (0, u "Ljava/io/InputStream;"), (35, u "bootLayer"), (0, u "Ljava/lang/ModuleLayer;"), (99, .class_ 664), (0, u "java/lang/System$2"), (9, u "NEVER"), (2, u "MAYBE"), (49, u "arraycopy"), (0, u "(Ljava/lang/Object;ILjava/lang/Object;II)V"), (72, .class_ 802), (0, u "java/lang/System$Logger$Level")] 31

def k14m0 : Method := { name := "<init>", desc := "()V", sig := { parameters := [], returnType := none }, accessFlags := 2, code := none }
def k14m1 : Method := { name := "arraycopy", desc := "(Ljava/lang/Object;ILjava/lang/Object;II)V", sig := { parameters := [(.object "java/lang/Object"), .int, (.object "java/lang/Object"), .int, .int], returnType := none }, accessFlags := 265, code := none }
/-- java/lang/System -/
def k14 : Class := { plain "java/lang/System" (some 0) with
  accessFlags := 49
  interfaces := #[]
  cf := some (fileOf pool14 8 #[.nestMembers #[319, 327, 801, 108, 663, 208]] #[{ accessFlags := 2, nameIndex := 5, descriptorIndex := 6, attributes := #[] }, { accessFlags := 265, nameIndex := 727, descriptorIndex := 728, attributes := #[] }] 49 2 #[] #[{ accessFlags := 25, nameIndex := 507, descriptorIndex := 526, attributes := #[] }, { accessFlags := 25, nameIndex := 399, descriptorIndex := 155, attributes := #[] }, { accessFlags := 25, nameIndex := 396, descriptorIndex := 155, attributes := #[] }, { accessFlags := 10, nameIndex := 525, descriptorIndex := 526, attributes := #[] }, { accessFlags := 26, nameIndex := 674, descriptorIndex := 12, attributes := #[] }, { accessFlags := 26, nameIndex := 677, descriptorIndex := 12, attributes := #[] }, { accessFlags := 10, nameIndex := 11, descriptorIndex := 12, attributes := #[] }, { accessFlags := 74, nameIndex := 175, descriptorIndex := 176, attributes := #[] }, { accessFlags := 10, nameIndex := 491, descriptorIndex := 222, attributes := #[] }, { accessFlags := 74, nameIndex := 29, descriptorIndex := 30, attributes := #[] }, { accessFlags := 74, nameIndex := 154, descriptorIndex := 155, attributes := #[] }, { accessFlags := 10, nameIndex := 217, descriptorIndex := 218, attributes := #[] }, { accessFlags := 10, nameIndex := 221, descriptorIndex := 222, attributes := #[] }, { accessFlags := 8, nameIndex := 562, descriptorIndex := 563, attributes := #[] }])
  fields := #[{ name := "in", type := (.object "java/io/InputStream"), accessFlags := 25, slot := 0, constantValue := 0 }, { name := "out", type := (.object "java/io/PrintStream"), accessFlags := 25, slot := 1, constantValue := 0 }, { name := "err", type := (.object "java/io/PrintStream"), accessFlags := 25, slot := 2, constantValue := 0 }, { name := "initialIn", type := (.object "java/io/InputStream"), accessFlags := 10, slot := 3, constantValue := 0 }, { name := "NEVER", type := .int, accessFlags := 26, slot := 4, constantValue := 0 }, { name := "MAYBE", type := .int, accessFlags := 26, slot := 5, constantValue := 0 }, { name := "allowSecurityManager", type := .int, accessFlags := 10, slot := 6, constantValue := 0 }, { name := "security", type := (.object "java/lang/SecurityManager"), accessFlags := 74, slot := 7, constantValue := 0 }, { name := "notSupportedJnuEncoding", type := (.object "java/lang/String"), accessFlags := 10, slot := 8, constantValue := 0 }, { name := "cons", type := (.object "java/io/Console"), accessFlags := 74, slot := 9, constantValue := 0 }, { name := "initialErrStream", type := (.object "java/io/PrintStream"), accessFlags := 74, slot := 10, constantValue := 0 }, { name := "props", type := (.object "java/util/Properties"), accessFlags := 10, slot := 11, constantValue := 0 }, { name := "lineSeparator", type := (.object "java/lang/String"), accessFlags := 10, slot := 12, constantValue := 0 }, { name := "bootLayer", type := (.object "java/lang/ModuleLayer"), accessFlags := 8, slot := 13, constantValue := 0 }]
  methods := #[k14m0, k14m1]
  instanceTypes := #[]
  staticTypes := #[(.object "java/io/InputStream"), (.object "java/io/PrintStream"), (.object "java/io/PrintStream"), (.object "java/io/InputStream"), .int, .int, .int, (.object "java/lang/SecurityManager"), (.object "java/lang/String"), (.object "java/io/Console"), (.object "java/io/PrintStream"), (.object "java/util/Properties"), (.object "java/lang/String"), (.object "java/lang/ModuleLayer")]
  resolved := Array.replicate 834 none
  statics := none }

def pool15 : Array CpInfo := pool [(9, u "<init>"), (6, .class_ 18), (1, u "java/lang/Object"), (0, u "()V"), (1, .class_ 23), (1, u "jdk/internal/util/ArraysSupport"), (0, u "LOG2_ARRAY_LONG_INDEX_SCALE"), (0, u "I"), (2, u "U"), (0, u "Ljdk/internal/misc/Unsafe;"), (8, u "BIG_ENDIAN"), (0, u "Z"), (8, u "LOG2_BYTE_BIT_SIZE"), (4, u "LOG2_ARRAY_INT_INDEX_SCALE"), (54, u "JLA"), (0, u "Ljdk/internal/access/JavaLangAccess;"), (11, u "LOG2_ARRAY_BOOLEAN_INDEX_SCALE"), (9, u "LOG2_ARRAY_BYTE_INDEX_SCALE"), (5, u "LOG2_ARRAY_CHAR_INDEX_SCALE"), (5, u "LOG2_ARRAY_SHORT_INDEX_SCALE"), (18, u "LOG2_ARRAY_FLOAT_INDEX_SCALE"), (24, u "LOG2_ARRAY_DOUBLE_INDEX_SCALE"), (89, u "T_BOOLEAN"), (2, u "T_CHAR"), (1, u "T_FLOAT"), (1, u "T_DOUBLE"), (1, u "T_BYTE"), (1, u "T_SHORT"), (1, u "T_INT"), (1, u "T_LONG"), (1, u "SOFT_MAX_ARRAY_LENGTH")] 83

def k15m0 : Method := { name := "<init>", desc := "()V", sig := { parameters := [], returnType := none }, accessFlags := 2, code := none }
/-- jdk/internal/util/ArraysSupport -/
def k15 : Class := { plain "jdk/internal/util/ArraysSupport" (some 0) with
  accessFlags := 33
  interfaces := #[]
  cf := some (fileOf pool15 21 #[] #[{ accessFlags := 2, nameIndex := 9, descriptorIndex := 19, attributes := #[] }] 33 16 #[] #[{ accessFlags := 24, nameIndex := 28, descriptorIndex := 29, attributes := #[] }, { accessFlags := 26, nameIndex := 38, descriptorIndex := 39, attributes := #[] }, { accessFlags := 25, nameIndex := 121, descriptorIndex := 25, attributes := #[] }, { accessFlags := 25, nameIndex := 131, descriptorIndex := 25, attributes := #[] }, { accessFlags := 25, nameIndex := 137, descriptorIndex := 25, attributes := #[] }, { accessFlags := 25, nameIndex := 143, descriptorIndex := 25, attributes := #[] }, { accessFlags := 25, nameIndex := 53, descriptorIndex := 25, attributes := #[] }, { accessFlags := 25, nameIndex := 24, descriptorIndex := 25, attributes := #[] }, { accessFlags := 25, nameIndex := 162, descriptorIndex := 25, attributes := #[] }, { accessFlags := 25, nameIndex := 187, descriptorIndex := 25, attributes := #[] }, { accessFlags := 26, nameIndex := 48, descriptorIndex := 25, attributes := #[] }, { accessFlags := 25, nameIndex := 277, descriptorIndex := 25, attributes := #[] }, { accessFlags := 25, nameIndex := 280, descriptorIndex := 25, attributes := #[] }, { accessFlags := 25, nameIndex := 282, descriptorIndex := 25, attributes := #[] }, { accessFlags := 25, nameIndex := 284, descriptorIndex := 25, attributes := #[] }, { accessFlags := 25, nameIndex := 286, descriptorIndex := 25, attributes := #[] }, { accessFlags := 25, nameIndex := 288, descriptorIndex := 25, attributes := #[] }, { accessFlags := 25, nameIndex := 290, descriptorIndex := 25, attributes := #[] }, { accessFlags := 25, nameIndex := 292, descriptorIndex := 25, attributes := #[] }, { accessFlags := 26, nameIndex := 108, descriptorIndex := 109, attributes := #[] }, { accessFlags := 25, nameIndex := 294, descriptorIndex := 25, attributes := #[] }])
  fields := #[{ name := "U", type := (.object "jdk/internal/misc/Unsafe"), accessFlags := 24, slot := 0, constantValue := 0 }, { name := "BIG_ENDIAN", type := .boolean, accessFlags := 26, slot := 1, constantValue := 0 }, { name := "LOG2_ARRAY_BOOLEAN_INDEX_SCALE", type := .int, accessFlags := 25, slot := 2, constantValue := 0 }, { name := "LOG2_ARRAY_BYTE_INDEX_SCALE", type := .int, accessFlags := 25, slot := 3, constantValue := 0 }, { name := "LOG2_ARRAY_CHAR_INDEX_SCALE", type := .int, accessFlags := 25, slot := 4, constantValue := 0 }, { name := "LOG2_ARRAY_SHORT_INDEX_SCALE", type := .int, accessFlags := 25, slot := 5, constantValue := 0 }, { name := "LOG2_ARRAY_INT_INDEX_SCALE", type := .int, accessFlags := 25, slot := 6, constantValue := 0 }, { name := "LOG2_ARRAY_LONG_INDEX_SCALE", type := .int, accessFlags := 25, slot := 7, constantValue := 0 }, { name := "LOG2_ARRAY_FLOAT_INDEX_SCALE", type := .int, accessFlags := 25, slot := 8, constantValue := 0 }, { name := "LOG2_ARRAY_DOUBLE_INDEX_SCALE", type := .int, accessFlags := 25, slot := 9, constantValue := 0 }, { name := "LOG2_BYTE_BIT_SIZE", type := .int, accessFlags := 26, slot := 10, constantValue := 0 }, { name := "T_BOOLEAN", type := .int, accessFlags := 25, slot := 11, constantValue := 0 }, { name := "T_CHAR", type := .int, accessFlags := 25, slot := 12, constantValue := 0 }, { name := "T_FLOAT", type := .int, accessFlags := 25, slot := 13, constantValue := 0 }, { name := "T_DOUBLE", type := .int, accessFlags := 25, slot := 14, constantValue := 0 }, { name := "T_BYTE", type := .int, accessFlags := 25, slot := 15, constantValue := 0 }, { name := "T_SHORT", type := .int, accessFlags := 25, slot := 16, constantValue := 0 }, { name := "T_INT", type := .int, accessFlags := 25, slot := 17, constantValue := 0 }, { name := "T_LONG", type := .int, accessFlags := 25, slot := 18, constantValue := 0 }, { name := "JLA", type := (.object "jdk/internal/access/JavaLangAccess"), accessFlags := 26, slot := 19, constantValue := 0 }, { name := "SOFT_MAX_ARRAY_LENGTH", type := .int, accessFlags := 25, slot := 20, constantValue := 0 }]
  methods := #[k15m0]
  instanceTypes := #[]
  staticTypes := #[(.object "jdk/internal/misc/Unsafe"), .boolean, .int, .int, .int, .int, .int, .int, .int, .int, .int, .int, .int, .int, .int, .int, .int, .int, .int, (.object "jdk/internal/access/JavaLangAccess"), .int]
  resolved := Array.replicate 378 none
  statics := none }

def pool16 : Array CpInfo := pool [(1, u "java/lang/Cloneable"), (0, .class_ 1), (0, u "java/lang/Object"), (0, .class_ 3)] 3

/-- java/lang/Cloneable -/
def k16 : Class := { plain "java/lang/Cloneable" (some 0) with
  accessFlags := 1537
  interfaces := #[]
  cf := some (fileOf pool16 2 #[] #[] 1537 4 #[] #[])
  fields := #[]
  methods := #[]
  instanceTypes := #[]
  staticTypes := #[]
  resolved := Array.replicate 8 none
  statics := none }

/-- the primitive byte -/
def k17 : Class := { plain "byte" none with kind := .primitive 'B', accessFlags := 0x411 }
/-- [B -/
def k18 : Class := { plain "[B" (some 0) with kind := .array 17 .byte, interfaces := #[16, 2], accessFlags := 1041 }

/-- the primitive char -/
def k19 : Class := { plain "char" none with kind := .primitive 'C', accessFlags := 0x411 }
/-- [C -/
def k20 : Class := { plain "[C" (some 0) with kind := .array 19 .char, interfaces := #[16, 2], accessFlags := 1041 }

/-- the primitive int -/
def k21 : Class := { plain "int" none with kind := .primitive 'I', accessFlags := 0x411 }
/-- [I -/
def k22 : Class := { plain "[I" (some 0) with kind := .array 21 .int, interfaces := #[16, 2], accessFlags := 1041 }

def heap : Heap := #[{ cls := 7, slots := #[.long 0, .int 1, .null, .int 0, .null, .int 0, .int 0], vm := .statics 7 },
  { cls := 8, slots := #[.int 0, .int 8, .int 0, .int 1], vm := .statics 8 },
  { cls := 11, slots := #[.null, .null, .null], vm := .statics 11 }]
def classes : Array Class := #[k0, k1, k2, k3, k4, k5, k6, k7, k8, k9, k10, k11, k12, k13, k14, k15, k16, k17, k18, k19, k20, k21, k22]
def interned : List (Array UInt16 × Addr) := []
def slotsUsed : Nat := 14
def theMethod : MethodId := ⟨1, 1⟩
def args0 : Array Value := #[.int 1, .int 2, .int 3, .int 4, .int 5, .int 6]
def aboutOver (below : List Frame) : State where
  vm := { classes := classes, interned := interned.toArray }
  heap := heap
  slotsUsed := slotsUsed
  threads := #[{ frames := .invoking theMethod args0 :: below }]
def below0 : List Frame := [.native { method := ⟨0, 0⟩, args := #[] }]
def about1 : State := aboutOver below0
def p0 : Program := .bare "" "" ""
def e0 : Env := launch0.env 0 0 0
theorem w_frames : about1.frames = Frame.invoking theMethod args0 :: below0 := rfl
set_option maxRecDepth 65536 in
theorem w_args : argsFit about1.vm theMethod args0 = true := by decide +kernel
set_option maxRecDepth 65536 in
theorem w_heap : heapFits about1 = true := by decide +kernel
set_option maxRecDepth 65536 in
theorem w_runnable : about1.curStatus? = some .runnable := by decide +kernel
set_option maxRecDepth 65536 in
theorem w_alone : about1.alone = true := by decide +kernel
set_option maxRecDepth 65536 in
theorem w_named : about1.methodNamed? x = some theMethod := by decide +kernel
set_option maxRecDepth 65536 in
theorem w_hears : about1.hears theMethod below0 = true := by decide +kernel
set_option maxRecDepth 65536 in
theorem w_ripe : about1.ripe theMethod args0 below0 = true := by decide +kernel
theorem w_running : about1.status = .running := rfl
set_option maxRecDepth 65536 in
theorem w_room : about1.hasRoom e0.platform room_1 = true :=
  launch0.hasRoom_least _ room_1 (by decide +kernel) (by decide +kernel) (by decide +kernel) (by decide +kernel) (by decide +kernel) (by decide +kernel)
theorem allAtoms_all (ts : List Jvm.Cond) (a : Array Jvm.Value) (st : Jvm.State) : (allAtoms ts).before a st = ts.all (fun c => c.before a st) := by
  induction ts with
  | nil => rfl
  | cons c t ih =>
    show (Jvm.Cond.and c (allAtoms t)).before a st = _
    rw [Jvm.Cond.before_and, ih, List.all_cons]
def words1 : List Jvm.Cond := Jvm.Cond.code x code maxLocals ret :: tables_1
/-- a 'code' word, met by the world's own term for the bytes: nothing is compared byte by byte -/
theorem code_word {y : MethodName} {bytes : ByteArray} {mx : Nat} {rt : Option FieldType} {a : Array Value} {s : State} {m : MethodId} {meth : Method} {c : Code} (h1 : s.methodNamed? y = some m) (h2 : s.vm.method? m = some meth) (h3 : meth.code = some c) (h4 : c.code = bytes)
    (h5 : (c.maxLocals == mx && c.exceptionTable.isEmpty && decide (c.maxStack ≤ mostOperands) && decide (meth.sig.returnType = rt) && !meth.locks && decide (parseMethodDescriptor y.desc = some meth.sig)) = true) : (Jvm.Cond.code y bytes mx rt).before a s = true := by
  simp only [Bool.and_eq_true, beq_iff_eq, Bool.not_eq_true', decide_eq_true_eq] at h5
  obtain ⟨⟨⟨⟨⟨g1, g2⟩, g3⟩, g4⟩, g5⟩, g6⟩ := h5
  simp [Cond.before, Cond.holds, Cond.value, h1, h2, h3, h4, g1, g2, g3, g4, g5, g6]
def isCode : Jvm.Cond → Bool
  | .code _ _ _ _ => true
  | _ => false
theorem all_split {L : List Jvm.Cond} {P : Jvm.Cond → Bool} (h1 : L.all (fun c => isCode c || P c) = true) (h2 : ∀ c ∈ L.filter isCode, P c = true) : L.all P = true := by
  refine List.all_eq_true.mpr fun c hc => ?_
  have h := List.all_eq_true.mp h1 c hc
  rcases Bool.eq_false_or_eq_true (isCode c) with hi | hi
  · exact h2 c (List.mem_filter.mpr ⟨hc, hi⟩)
  · simpa [hi] using h
set_option maxRecDepth 65536 in
theorem w_c0 : (Jvm.Cond.code x code maxLocals ret).before args0 about1 = true := code_word (m := ⟨1, 1⟩) (meth := k1m1) (c := k1c1) (by decide +kernel) rfl rfl rfl (by decide +kernel)
set_option maxRecDepth 65536 in
theorem w_c1 : (Jvm.Cond.code ({ cls := "adjunct/core/XmlSpaceStripPinLaw", name := "pick", desc := "(IIII)C" } : Jvm.MethodName) method_8_code (4 : Nat) (Option.some Jvm.ClassFile.FieldType.char)).before args0 about1 = true := code_word (m := ⟨1, 7⟩) (meth := k1m7) (c := k1c7) (by decide +kernel) rfl rfl rfl (by decide +kernel)
set_option maxRecDepth 65536 in
theorem w_c2 : (Jvm.Cond.code ({ cls := "adjunct/core/XmlSpaceStripPinLaw", name := "ws", desc := "(I)C" } : Jvm.MethodName) method_5_code (2 : Nat) (Option.some Jvm.ClassFile.FieldType.char)).before args0 about1 = true := code_word (m := ⟨1, 4⟩) (meth := k1m4) (c := k1c4) (by decide +kernel) rfl rfl rfl (by decide +kernel)
set_option maxRecDepth 65536 in
theorem w_c3 : (Jvm.Cond.code ({ cls := "java/lang/String", name := "<init>", desc := "([C)V" } : Jvm.MethodName) jdk_42_method_3_code (2 : Nat) (Option.none : Option Jvm.ClassFile.FieldType)).before args0 about1 = true := code_word (m := ⟨7, 1⟩) (meth := k7m1) (c := k7c1) (by decide +kernel) rfl rfl rfl (by decide +kernel)
set_option maxRecDepth 65536 in
theorem w_c4 : (Jvm.Cond.code ({ cls := "java/lang/String", name := "<init>", desc := "([CIILjava/lang/Void;)V" } : Jvm.MethodName) jdk_42_method_149_code (6 : Nat) (Option.none : Option Jvm.ClassFile.FieldType)).before args0 about1 = true := code_word (m := ⟨7, 6⟩) (meth := k7m6) (c := k7c6) (by decide +kernel) rfl rfl rfl (by decide +kernel)
set_option maxRecDepth 65536 in
theorem w_c5 : (Jvm.Cond.code ({ cls := "java/lang/Object", name := "<init>", desc := "()V" } : Jvm.MethodName) object_method_1_code (1 : Nat) (Option.none : Option Jvm.ClassFile.FieldType)).before args0 about1 = true := code_word (m := ⟨0, 0⟩) (meth := k0m0) (c := k0c0) (by decide +kernel) rfl rfl rfl (by decide +kernel)
set_option maxRecDepth 65536 in
theorem w_c6 : (Jvm.Cond.code ({ cls := "java/lang/StringUTF16", name := "compress", desc := "([CII)[B" } : Jvm.MethodName) jdk_52_method_16_code (6 : Nat) (Option.some (Jvm.ClassFile.FieldType.array Jvm.ClassFile.FieldType.byte))).before args0 about1 = true := code_word (m := ⟨8, 8⟩) (meth := k8m8) (c := k8c8) (by decide +kernel) rfl rfl rfl (by decide +kernel)
set_option maxRecDepth 65536 in
theorem w_c7 : (Jvm.Cond.code ({ cls := "java/lang/StringUTF16", name := "compress", desc := "([CI[BII)I" } : Jvm.MethodName) jdk_52_method_21_code (7 : Nat) (Option.some Jvm.ClassFile.FieldType.int)).before args0 about1 = true := code_word (m := ⟨8, 10⟩) (meth := k8m10) (c := k8c10) (by decide +kernel) rfl rfl rfl (by decide +kernel)
set_option maxRecDepth 65536 in
theorem w_c8 : (Jvm.Cond.code ({ cls := "java/lang/StringUTF16", name := "coderFromArrayLen", desc := "([BI)B" } : Jvm.MethodName) jdk_52_method_15_code (2 : Nat) (Option.some Jvm.ClassFile.FieldType.byte)).before args0 about1 = true := code_word (m := ⟨8, 7⟩) (meth := k8m7) (c := k8c7) (by decide +kernel) rfl rfl rfl (by decide +kernel)
set_option maxRecDepth 65536 in
theorem w_c9 : (Jvm.Cond.code ({ cls := "adjunct/core/XmlSpace", name := "strip", desc := "(Ljava/lang/String;)Ljava/lang/String;" } : Jvm.MethodName) prog_65_method_3_code (3 : Nat) (Option.some (Jvm.ClassFile.FieldType.object "java/lang/String"))).before args0 about1 = true := code_word (m := ⟨9, 2⟩) (meth := k9m2) (c := k9c2) (by decide +kernel) rfl rfl rfl (by decide +kernel)
set_option maxRecDepth 65536 in
theorem w_c10 : (Jvm.Cond.code ({ cls := "java/lang/String", name := "length", desc := "()I" } : Jvm.MethodName) jdk_42_method_54_code (1 : Nat) (Option.some Jvm.ClassFile.FieldType.int)).before args0 about1 = true := code_word (m := ⟨7, 2⟩) (meth := k7m2) (c := k7c2) (by decide +kernel) rfl rfl rfl (by decide +kernel)
set_option maxRecDepth 65536 in
theorem w_c11 : (Jvm.Cond.code ({ cls := "java/lang/String", name := "coder", desc := "()B" } : Jvm.MethodName) jdk_42_method_152_code (1 : Nat) (Option.some Jvm.ClassFile.FieldType.byte)).before args0 about1 = true := code_word (m := ⟨7, 8⟩) (meth := k7m8) (c := k7c8) (by decide +kernel) rfl rfl rfl (by decide +kernel)
set_option maxRecDepth 65536 in
theorem w_c12 : (Jvm.Cond.code ({ cls := "java/lang/String", name := "charAt", desc := "(I)C" } : Jvm.MethodName) jdk_42_method_56_code (2 : Nat) (Option.some Jvm.ClassFile.FieldType.char)).before args0 about1 = true := code_word (m := ⟨7, 4⟩) (meth := k7m4) (c := k7c4) (by decide +kernel) rfl rfl rfl (by decide +kernel)
set_option maxRecDepth 65536 in
theorem w_c13 : (Jvm.Cond.code ({ cls := "java/lang/String", name := "isLatin1", desc := "()Z" } : Jvm.MethodName) jdk_42_method_154_code (1 : Nat) (Option.some Jvm.ClassFile.FieldType.boolean)).before args0 about1 = true := code_word (m := ⟨7, 9⟩) (meth := k7m9) (c := k7c9) (by decide +kernel) rfl rfl rfl (by decide +kernel)
set_option maxRecDepth 65536 in
theorem w_c14 : (Jvm.Cond.code ({ cls := "java/lang/StringLatin1", name := "charAt", desc := "([BI)C" } : Jvm.MethodName) jdk_43_method_2_code (2 : Nat) (Option.some Jvm.ClassFile.FieldType.char)).before args0 about1 = true := code_word (m := ⟨10, 1⟩) (meth := k10m1) (c := k10c1) (by decide +kernel) rfl rfl rfl (by decide +kernel)
set_option maxRecDepth 65536 in
theorem w_c15 : (Jvm.Cond.code ({ cls := "java/lang/String", name := "checkIndex", desc := "(II)V" } : Jvm.MethodName) jdk_42_method_155_code (2 : Nat) (Option.none : Option Jvm.ClassFile.FieldType)).before args0 about1 = true := code_word (m := ⟨7, 10⟩) (meth := k7m10) (c := k7c10) (by decide +kernel) rfl rfl rfl (by decide +kernel)
set_option maxRecDepth 65536 in
theorem w_c16 : (Jvm.Cond.code ({ cls := "jdk/internal/util/Preconditions", name := "checkIndex", desc := "(IILjava/util/function/BiFunction;)I" } : Jvm.MethodName) jdk_41_method_11_code (3 : Nat) (Option.some Jvm.ClassFile.FieldType.int)).before args0 about1 = true := code_word (m := ⟨11, 1⟩) (meth := k11m1) (c := k11c1) (by decide +kernel) rfl rfl rfl (by decide +kernel)
set_option maxRecDepth 65536 in
theorem w_c17 : (Jvm.Cond.code ({ cls := "adjunct/core/XmlSpace", name := "is", desc := "(C)Z" } : Jvm.MethodName) prog_65_method_2_code (1 : Nat) (Option.some Jvm.ClassFile.FieldType.boolean)).before args0 about1 = true := code_word (m := ⟨9, 1⟩) (meth := k9m1) (c := k9c1) (by decide +kernel) rfl rfl rfl (by decide +kernel)
set_option maxRecDepth 65536 in
theorem w_c18 : (Jvm.Cond.code ({ cls := "java/lang/String", name := "substring", desc := "(II)Ljava/lang/String;" } : Jvm.MethodName) jdk_42_method_92_code (5 : Nat) (Option.some (Jvm.ClassFile.FieldType.object "java/lang/String"))).before args0 about1 = true := code_word (m := ⟨7, 5⟩) (meth := k7m5) (c := k7c5) (by decide +kernel) rfl rfl rfl (by decide +kernel)
set_option maxRecDepth 65536 in
theorem w_c19 : (Jvm.Cond.code ({ cls := "java/lang/String", name := "checkBoundsBeginEnd", desc := "(III)V" } : Jvm.MethodName) jdk_42_method_158_code (3 : Nat) (Option.none : Option Jvm.ClassFile.FieldType)).before args0 about1 = true := code_word (m := ⟨7, 12⟩) (meth := k7m12) (c := k7c12) (by decide +kernel) rfl rfl rfl (by decide +kernel)
set_option maxRecDepth 65536 in
theorem w_c20 : (Jvm.Cond.code ({ cls := "jdk/internal/util/Preconditions", name := "checkFromToIndex", desc := "(IIILjava/util/function/BiFunction;)I" } : Jvm.MethodName) jdk_41_method_12_code (4 : Nat) (Option.some Jvm.ClassFile.FieldType.int)).before args0 about1 = true := code_word (m := ⟨11, 2⟩) (meth := k11m2) (c := k11c2) (by decide +kernel) rfl rfl rfl (by decide +kernel)
set_option maxRecDepth 65536 in
theorem w_c21 : (Jvm.Cond.code ({ cls := "java/lang/StringLatin1", name := "newString", desc := "([BII)Ljava/lang/String;" } : Jvm.MethodName) jdk_43_method_47_code (3 : Nat) (Option.some (Jvm.ClassFile.FieldType.object "java/lang/String"))).before args0 about1 = true := code_word (m := ⟨10, 2⟩) (meth := k10m2) (c := k10c2) (by decide +kernel) rfl rfl rfl (by decide +kernel)
set_option maxRecDepth 65536 in
theorem w_c22 : (Jvm.Cond.code ({ cls := "java/lang/String", name := "isEmpty", desc := "()Z" } : Jvm.MethodName) jdk_42_method_55_code (1 : Nat) (Option.some Jvm.ClassFile.FieldType.boolean)).before args0 about1 = true := code_word (m := ⟨7, 3⟩) (meth := k7m3) (c := k7c3) (by decide +kernel) rfl rfl rfl (by decide +kernel)
set_option maxRecDepth 65536 in
theorem w_c23 : (Jvm.Cond.code ({ cls := "adjunct/core/XmlSpaceStripPinLaw", name := "same", desc := "(Ljava/lang/String;Ljava/lang/String;II)Z" } : Jvm.MethodName) method_3_code (4 : Nat) (Option.some Jvm.ClassFile.FieldType.boolean)).before args0 about1 = true := code_word (m := ⟨1, 2⟩) (meth := k1m2) (c := k1c2) (by decide +kernel) rfl rfl rfl (by decide +kernel)
set_option maxRecDepth 65536 in
theorem w_c24 : (Jvm.Cond.code ({ cls := "adjunct/core/XmlSpaceStripPinLaw", name := "nonWs", desc := "(I)C" } : Jvm.MethodName) method_6_code (2 : Nat) (Option.some Jvm.ClassFile.FieldType.char)).before args0 about1 = true := code_word (m := ⟨1, 5⟩) (meth := k1m5) (c := k1c5) (by decide +kernel) rfl rfl rfl (by decide +kernel)
set_option maxRecDepth 65536 in
theorem w_c25 : (Jvm.Cond.code ({ cls := "adjunct/core/XmlSpaceStripPinLaw", name := "isWs", desc := "(C)Z" } : Jvm.MethodName) method_4_code (1 : Nat) (Option.some Jvm.ClassFile.FieldType.boolean)).before args0 about1 = true := code_word (m := ⟨1, 3⟩) (meth := k1m3) (c := k1c3) (by decide +kernel) rfl rfl rfl (by decide +kernel)
set_option maxRecDepth 65536 in
theorem w_c26 : (Jvm.Cond.code ({ cls := "adjunct/core/XmlSpaceStripPinLaw", name := "any", desc := "(I)C" } : Jvm.MethodName) method_7_code (1 : Nat) (Option.some Jvm.ClassFile.FieldType.char)).before args0 about1 = true := code_word (m := ⟨1, 6⟩) (meth := k1m6) (c := k1c6) (by decide +kernel) rfl rfl rfl (by decide +kernel)
set_option maxRecDepth 65536 in
theorem w_c27 : (Jvm.Cond.code ({ cls := "java/lang/StringUTF16", name := "toBytes", desc := "([CII)[B" } : Jvm.MethodName) jdk_52_method_14_code (5 : Nat) (Option.some (Jvm.ClassFile.FieldType.array Jvm.ClassFile.FieldType.byte))).before args0 about1 = true := code_word (m := ⟨8, 6⟩) (meth := k8m6) (c := k8c6) (by decide +kernel) rfl rfl rfl (by decide +kernel)
set_option maxRecDepth 65536 in
theorem w_c28 : (Jvm.Cond.code ({ cls := "java/lang/StringUTF16", name := "newBytesFor", desc := "(I)[B" } : Jvm.MethodName) jdk_52_method_2_code (1 : Nat) (Option.some (Jvm.ClassFile.FieldType.array Jvm.ClassFile.FieldType.byte))).before args0 about1 = true := code_word (m := ⟨8, 1⟩) (meth := k8m1) (c := k8c1) (by decide +kernel) rfl rfl rfl (by decide +kernel)
set_option maxRecDepth 65536 in
theorem w_c29 : (Jvm.Cond.code ({ cls := "java/lang/StringUTF16", name := "newBytesLength", desc := "(I)I" } : Jvm.MethodName) jdk_52_method_3_code (1 : Nat) (Option.some Jvm.ClassFile.FieldType.int)).before args0 about1 = true := code_word (m := ⟨8, 2⟩) (meth := k8m2) (c := k8c2) (by decide +kernel) rfl rfl rfl (by decide +kernel)
set_option maxRecDepth 65536 in
theorem w_c30 : (Jvm.Cond.code ({ cls := "java/lang/StringUTF16", name := "putChar", desc := "([BII)V" } : Jvm.MethodName) jdk_52_method_4_code (3 : Nat) (Option.none : Option Jvm.ClassFile.FieldType)).before args0 about1 = true := code_word (m := ⟨8, 3⟩) (meth := k8m3) (c := k8c3) (by decide +kernel) rfl rfl rfl (by decide +kernel)
set_option maxRecDepth 65536 in
theorem w_c31 : (Jvm.Cond.code ({ cls := "java/lang/StringUTF16", name := "getChar", desc := "([BI)C" } : Jvm.MethodName) jdk_52_method_5_code (2 : Nat) (Option.some Jvm.ClassFile.FieldType.char)).before args0 about1 = true := code_word (m := ⟨8, 4⟩) (meth := k8m4) (c := k8c4) (by decide +kernel) rfl rfl rfl (by decide +kernel)
set_option maxRecDepth 65536 in
theorem w_c32 : (Jvm.Cond.code ({ cls := "java/lang/StringUTF16", name := "charAt", desc := "([BI)C" } : Jvm.MethodName) jdk_52_method_83_code (2 : Nat) (Option.some Jvm.ClassFile.FieldType.char)).before args0 about1 = true := code_word (m := ⟨8, 13⟩) (meth := k8m13) (c := k8c13) (by decide +kernel) rfl rfl rfl (by decide +kernel)
set_option maxRecDepth 65536 in
theorem w_c33 : (Jvm.Cond.code ({ cls := "java/lang/StringUTF16", name := "checkIndex", desc := "(I[B)V" } : Jvm.MethodName) jdk_52_method_91_code (2 : Nat) (Option.none : Option Jvm.ClassFile.FieldType)).before args0 about1 = true := code_word (m := ⟨8, 14⟩) (meth := k8m14) (c := k8c14) (by decide +kernel) rfl rfl rfl (by decide +kernel)
set_option maxRecDepth 65536 in
theorem w_c34 : (Jvm.Cond.code ({ cls := "java/lang/StringUTF16", name := "length", desc := "([B)I" } : Jvm.MethodName) jdk_52_method_6_code (1 : Nat) (Option.some Jvm.ClassFile.FieldType.int)).before args0 about1 = true := code_word (m := ⟨8, 5⟩) (meth := k8m5) (c := k8c5) (by decide +kernel) rfl rfl rfl (by decide +kernel)
set_option maxRecDepth 65536 in
theorem w_c35 : (Jvm.Cond.code ({ cls := "java/lang/StringUTF16", name := "newString", desc := "([BII)Ljava/lang/String;" } : Jvm.MethodName) jdk_52_method_69_code (5 : Nat) (Option.some (Jvm.ClassFile.FieldType.object "java/lang/String"))).before args0 about1 = true := code_word (m := ⟨8, 12⟩) (meth := k8m12) (c := k8c12) (by decide +kernel) rfl rfl rfl (by decide +kernel)
set_option maxRecDepth 65536 in
theorem w_c36 : (Jvm.Cond.code ({ cls := "java/lang/StringUTF16", name := "compress", desc := "([BII)[B" } : Jvm.MethodName) jdk_52_method_17_code (6 : Nat) (Option.some (Jvm.ClassFile.FieldType.array Jvm.ClassFile.FieldType.byte))).before args0 about1 = true := code_word (m := ⟨8, 9⟩) (meth := k8m9) (c := k8c9) (by decide +kernel) rfl rfl rfl (by decide +kernel)
set_option maxRecDepth 65536 in
theorem w_c37 : (Jvm.Cond.code ({ cls := "java/lang/StringUTF16", name := "compress", desc := "([BI[BII)I" } : Jvm.MethodName) jdk_52_method_22_code (7 : Nat) (Option.some Jvm.ClassFile.FieldType.int)).before args0 about1 = true := code_word (m := ⟨8, 11⟩) (meth := k8m11) (c := k8c11) (by decide +kernel) rfl rfl rfl (by decide +kernel)
set_option maxRecDepth 65536 in
theorem w_c38 : (Jvm.Cond.code ({ cls := "java/lang/StringUTF16", name := "checkBoundsOffCount", desc := "(II[B)V" } : Jvm.MethodName) jdk_52_method_94_code (3 : Nat) (Option.none : Option Jvm.ClassFile.FieldType)).before args0 about1 = true := code_word (m := ⟨8, 15⟩) (meth := k8m15) (c := k8c15) (by decide +kernel) rfl rfl rfl (by decide +kernel)
set_option maxRecDepth 65536 in
theorem w_c39 : (Jvm.Cond.code ({ cls := "java/lang/String", name := "checkBoundsOffCount", desc := "(III)I" } : Jvm.MethodName) jdk_42_method_157_code (3 : Nat) (Option.some Jvm.ClassFile.FieldType.int)).before args0 about1 = true := code_word (m := ⟨7, 11⟩) (meth := k7m11) (c := k7c11) (by decide +kernel) rfl rfl rfl (by decide +kernel)
set_option maxRecDepth 65536 in
theorem w_c40 : (Jvm.Cond.code ({ cls := "jdk/internal/util/Preconditions", name := "checkFromIndexSize", desc := "(IIILjava/util/function/BiFunction;)I" } : Jvm.MethodName) jdk_41_method_13_code (4 : Nat) (Option.some Jvm.ClassFile.FieldType.int)).before args0 about1 = true := code_word (m := ⟨11, 3⟩) (meth := k11m3) (c := k11c3) (by decide +kernel) rfl rfl rfl (by decide +kernel)
set_option maxRecDepth 65536 in
theorem w_c41 : (Jvm.Cond.code ({ cls := "java/util/Arrays", name := "copyOfRange", desc := "([BII)[B" } : Jvm.MethodName) jdk_65_method_132_code (3 : Nat) (Option.some (Jvm.ClassFile.FieldType.array Jvm.ClassFile.FieldType.byte))).before args0 about1 = true := code_word (m := ⟨12, 2⟩) (meth := k12m2) (c := k12c2) (by decide +kernel) rfl rfl rfl (by decide +kernel)
set_option maxRecDepth 65536 in
theorem w_c42 : (Jvm.Cond.code ({ cls := "java/util/Arrays", name := "copyOfRangeByte", desc := "([BII)[B" } : Jvm.MethodName) jdk_65_method_133_code (5 : Nat) (Option.some (Jvm.ClassFile.FieldType.array Jvm.ClassFile.FieldType.byte))).before args0 about1 = true := code_word (m := ⟨12, 3⟩) (meth := k12m3) (c := k12c3) (by decide +kernel) rfl rfl rfl (by decide +kernel)
set_option maxRecDepth 65536 in
theorem w_c43 : (Jvm.Cond.code ({ cls := "java/util/Arrays", name := "checkLength", desc := "(II)V" } : Jvm.MethodName) jdk_65_method_131_code (2 : Nat) (Option.none : Option Jvm.ClassFile.FieldType)).before args0 about1 = true := code_word (m := ⟨12, 1⟩) (meth := k12m1) (c := k12c1) (by decide +kernel) rfl rfl rfl (by decide +kernel)
set_option maxRecDepth 65536 in
theorem w_c44 : (Jvm.Cond.code ({ cls := "java/lang/Math", name := "min", desc := "(II)I" } : Jvm.MethodName) jdk_29_method_69_code (2 : Nat) (Option.some Jvm.ClassFile.FieldType.int)).before args0 about1 = true := code_word (m := ⟨13, 1⟩) (meth := k13m1) (c := k13c1) (by decide +kernel) rfl rfl rfl (by decide +kernel)
set_option maxRecDepth 65536 in
theorem w_c45 : (Jvm.Cond.code ({ cls := "java/lang/String", name := "<init>", desc := "([BB)V" } : Jvm.MethodName) jdk_42_method_151_code (3 : Nat) (Option.none : Option Jvm.ClassFile.FieldType)).before args0 about1 = true := code_word (m := ⟨7, 7⟩) (meth := k7m7) (c := k7c7) (by decide +kernel) rfl rfl rfl (by decide +kernel)
def codes1 : List Jvm.Cond := [Jvm.Cond.code x code maxLocals ret, Jvm.Cond.code ({ cls := "adjunct/core/XmlSpaceStripPinLaw", name := "pick", desc := "(IIII)C" } : Jvm.MethodName) method_8_code (4 : Nat) (Option.some Jvm.ClassFile.FieldType.char), Jvm.Cond.code ({ cls := "adjunct/core/XmlSpaceStripPinLaw", name := "ws", desc := "(I)C" } : Jvm.MethodName) method_5_code (2 : Nat) (Option.some Jvm.ClassFile.FieldType.char), Jvm.Cond.code ({ cls := "java/lang/String", name := "<init>", desc := "([C)V" } : Jvm.MethodName) jdk_42_method_3_code (2 : Nat) (Option.none : Option Jvm.ClassFile.FieldType), Jvm.Cond.code ({ cls := "java/lang/String", name := "<init>", desc := "([CIILjava/lang/Void;)V" } : Jvm.MethodName) jdk_42_method_149_code (6 : Nat) (Option.none : Option Jvm.ClassFile.FieldType), Jvm.Cond.code ({ cls := "java/lang/Object", name := "<init>", desc := "()V" } : Jvm.MethodName) object_method_1_code (1 : Nat) (Option.none : Option Jvm.ClassFile.FieldType), Jvm.Cond.code ({ cls := "java/lang/StringUTF16", name := "compress", desc := "([CII)[B" } : Jvm.MethodName) jdk_52_method_16_code (6 : Nat) (Option.some (Jvm.ClassFile.FieldType.array Jvm.ClassFile.FieldType.byte)), Jvm.Cond.code ({ cls := "java/lang/StringUTF16", name := "compress", desc := "([CI[BII)I" } : Jvm.MethodName) jdk_52_method_21_code (7 : Nat) (Option.some Jvm.ClassFile.FieldType.int), Jvm.Cond.code ({ cls := "java/lang/StringUTF16", name := "coderFromArrayLen", desc := "([BI)B" } : Jvm.MethodName) jdk_52_method_15_code (2 : Nat) (Option.some Jvm.ClassFile.FieldType.byte), Jvm.Cond.code ({ cls := "adjunct/core/XmlSpace", name := "strip", desc := "(Ljava/lang/String;)Ljava/lang/String;" } : Jvm.MethodName) prog_65_method_3_code (3 : Nat) (Option.some (Jvm.ClassFile.FieldType.object "java/lang/String")), Jvm.Cond.code ({ cls := "java/lang/String", name := "length", desc := "()I" } : Jvm.MethodName) jdk_42_method_54_code (1 : Nat) (Option.some Jvm.ClassFile.FieldType.int), Jvm.Cond.code ({ cls := "java/lang/String", name := "coder", desc := "()B" } : Jvm.MethodName) jdk_42_method_152_code (1 : Nat) (Option.some Jvm.ClassFile.FieldType.byte), Jvm.Cond.code ({ cls := "java/lang/String", name := "charAt", desc := "(I)C" } : Jvm.MethodName) jdk_42_method_56_code (2 : Nat) (Option.some Jvm.ClassFile.FieldType.char), Jvm.Cond.code ({ cls := "java/lang/String", name := "isLatin1", desc := "()Z" } : Jvm.MethodName) jdk_42_method_154_code (1 : Nat) (Option.some Jvm.ClassFile.FieldType.boolean), Jvm.Cond.code ({ cls := "java/lang/StringLatin1", name := "charAt", desc := "([BI)C" } : Jvm.MethodName) jdk_43_method_2_code (2 : Nat) (Option.some Jvm.ClassFile.FieldType.char), Jvm.Cond.code ({ cls := "java/lang/String", name := "checkIndex", desc := "(II)V" } : Jvm.MethodName) jdk_42_method_155_code (2 : Nat) (Option.none : Option Jvm.ClassFile.FieldType), Jvm.Cond.code ({ cls := "jdk/internal/util/Preconditions", name := "checkIndex", desc := "(IILjava/util/function/BiFunction;)I" } : Jvm.MethodName) jdk_41_method_11_code (3 : Nat) (Option.some Jvm.ClassFile.FieldType.int), Jvm.Cond.code ({ cls := "adjunct/core/XmlSpace", name := "is", desc := "(C)Z" } : Jvm.MethodName) prog_65_method_2_code (1 : Nat) (Option.some Jvm.ClassFile.FieldType.boolean), Jvm.Cond.code ({ cls := "java/lang/String", name := "substring", desc := "(II)Ljava/lang/String;" } : Jvm.MethodName) jdk_42_method_92_code (5 : Nat) (Option.some (Jvm.ClassFile.FieldType.object "java/lang/String")), Jvm.Cond.code ({ cls := "java/lang/String", name := "checkBoundsBeginEnd", desc := "(III)V" } : Jvm.MethodName) jdk_42_method_158_code (3 : Nat) (Option.none : Option Jvm.ClassFile.FieldType), Jvm.Cond.code ({ cls := "jdk/internal/util/Preconditions", name := "checkFromToIndex", desc := "(IIILjava/util/function/BiFunction;)I" } : Jvm.MethodName) jdk_41_method_12_code (4 : Nat) (Option.some Jvm.ClassFile.FieldType.int), Jvm.Cond.code ({ cls := "java/lang/StringLatin1", name := "newString", desc := "([BII)Ljava/lang/String;" } : Jvm.MethodName) jdk_43_method_47_code (3 : Nat) (Option.some (Jvm.ClassFile.FieldType.object "java/lang/String")), Jvm.Cond.code ({ cls := "java/lang/String", name := "isEmpty", desc := "()Z" } : Jvm.MethodName) jdk_42_method_55_code (1 : Nat) (Option.some Jvm.ClassFile.FieldType.boolean), Jvm.Cond.code ({ cls := "adjunct/core/XmlSpaceStripPinLaw", name := "same", desc := "(Ljava/lang/String;Ljava/lang/String;II)Z" } : Jvm.MethodName) method_3_code (4 : Nat) (Option.some Jvm.ClassFile.FieldType.boolean), Jvm.Cond.code ({ cls := "adjunct/core/XmlSpaceStripPinLaw", name := "nonWs", desc := "(I)C" } : Jvm.MethodName) method_6_code (2 : Nat) (Option.some Jvm.ClassFile.FieldType.char), Jvm.Cond.code ({ cls := "adjunct/core/XmlSpaceStripPinLaw", name := "isWs", desc := "(C)Z" } : Jvm.MethodName) method_4_code (1 : Nat) (Option.some Jvm.ClassFile.FieldType.boolean), Jvm.Cond.code ({ cls := "adjunct/core/XmlSpaceStripPinLaw", name := "any", desc := "(I)C" } : Jvm.MethodName) method_7_code (1 : Nat) (Option.some Jvm.ClassFile.FieldType.char), Jvm.Cond.code ({ cls := "java/lang/StringUTF16", name := "toBytes", desc := "([CII)[B" } : Jvm.MethodName) jdk_52_method_14_code (5 : Nat) (Option.some (Jvm.ClassFile.FieldType.array Jvm.ClassFile.FieldType.byte)), Jvm.Cond.code ({ cls := "java/lang/StringUTF16", name := "newBytesFor", desc := "(I)[B" } : Jvm.MethodName) jdk_52_method_2_code (1 : Nat) (Option.some (Jvm.ClassFile.FieldType.array Jvm.ClassFile.FieldType.byte)), Jvm.Cond.code ({ cls := "java/lang/StringUTF16", name := "newBytesLength", desc := "(I)I" } : Jvm.MethodName) jdk_52_method_3_code (1 : Nat) (Option.some Jvm.ClassFile.FieldType.int), Jvm.Cond.code ({ cls := "java/lang/StringUTF16", name := "putChar", desc := "([BII)V" } : Jvm.MethodName) jdk_52_method_4_code (3 : Nat) (Option.none : Option Jvm.ClassFile.FieldType), Jvm.Cond.code ({ cls := "java/lang/StringUTF16", name := "getChar", desc := "([BI)C" } : Jvm.MethodName) jdk_52_method_5_code (2 : Nat) (Option.some Jvm.ClassFile.FieldType.char), Jvm.Cond.code ({ cls := "java/lang/StringUTF16", name := "charAt", desc := "([BI)C" } : Jvm.MethodName) jdk_52_method_83_code (2 : Nat) (Option.some Jvm.ClassFile.FieldType.char), Jvm.Cond.code ({ cls := "java/lang/StringUTF16", name := "checkIndex", desc := "(I[B)V" } : Jvm.MethodName) jdk_52_method_91_code (2 : Nat) (Option.none : Option Jvm.ClassFile.FieldType), Jvm.Cond.code ({ cls := "java/lang/StringUTF16", name := "length", desc := "([B)I" } : Jvm.MethodName) jdk_52_method_6_code (1 : Nat) (Option.some Jvm.ClassFile.FieldType.int), Jvm.Cond.code ({ cls := "java/lang/StringUTF16", name := "newString", desc := "([BII)Ljava/lang/String;" } : Jvm.MethodName) jdk_52_method_69_code (5 : Nat) (Option.some (Jvm.ClassFile.FieldType.object "java/lang/String")), Jvm.Cond.code ({ cls := "java/lang/StringUTF16", name := "compress", desc := "([BII)[B" } : Jvm.MethodName) jdk_52_method_17_code (6 : Nat) (Option.some (Jvm.ClassFile.FieldType.array Jvm.ClassFile.FieldType.byte)), Jvm.Cond.code ({ cls := "java/lang/StringUTF16", name := "compress", desc := "([BI[BII)I" } : Jvm.MethodName) jdk_52_method_22_code (7 : Nat) (Option.some Jvm.ClassFile.FieldType.int), Jvm.Cond.code ({ cls := "java/lang/StringUTF16", name := "checkBoundsOffCount", desc := "(II[B)V" } : Jvm.MethodName) jdk_52_method_94_code (3 : Nat) (Option.none : Option Jvm.ClassFile.FieldType), Jvm.Cond.code ({ cls := "java/lang/String", name := "checkBoundsOffCount", desc := "(III)I" } : Jvm.MethodName) jdk_42_method_157_code (3 : Nat) (Option.some Jvm.ClassFile.FieldType.int), Jvm.Cond.code ({ cls := "jdk/internal/util/Preconditions", name := "checkFromIndexSize", desc := "(IIILjava/util/function/BiFunction;)I" } : Jvm.MethodName) jdk_41_method_13_code (4 : Nat) (Option.some Jvm.ClassFile.FieldType.int), Jvm.Cond.code ({ cls := "java/util/Arrays", name := "copyOfRange", desc := "([BII)[B" } : Jvm.MethodName) jdk_65_method_132_code (3 : Nat) (Option.some (Jvm.ClassFile.FieldType.array Jvm.ClassFile.FieldType.byte)), Jvm.Cond.code ({ cls := "java/util/Arrays", name := "copyOfRangeByte", desc := "([BII)[B" } : Jvm.MethodName) jdk_65_method_133_code (5 : Nat) (Option.some (Jvm.ClassFile.FieldType.array Jvm.ClassFile.FieldType.byte)), Jvm.Cond.code ({ cls := "java/util/Arrays", name := "checkLength", desc := "(II)V" } : Jvm.MethodName) jdk_65_method_131_code (2 : Nat) (Option.none : Option Jvm.ClassFile.FieldType), Jvm.Cond.code ({ cls := "java/lang/Math", name := "min", desc := "(II)I" } : Jvm.MethodName) jdk_29_method_69_code (2 : Nat) (Option.some Jvm.ClassFile.FieldType.int), Jvm.Cond.code ({ cls := "java/lang/String", name := "<init>", desc := "([BB)V" } : Jvm.MethodName) jdk_42_method_151_code (3 : Nat) (Option.none : Option Jvm.ClassFile.FieldType)]
set_option maxRecDepth 65536 in
theorem codes_eq : words1.filter isCode = codes1 := rfl
theorem w_codes : ∀ c ∈ words1.filter isCode, c.before args0 about1 = true := by
  rw [codes_eq]
  intro c hc
  simp only [codes1, List.mem_cons, List.not_mem_nil, or_false] at hc
  rcases hc with rfl | rfl | rfl | rfl | rfl | rfl | rfl | rfl | rfl | rfl | rfl | rfl | rfl | rfl | rfl | rfl | rfl | rfl | rfl | rfl | rfl | rfl | rfl | rfl | rfl | rfl | rfl | rfl | rfl | rfl | rfl | rfl | rfl | rfl | rfl | rfl | rfl | rfl | rfl | rfl | rfl | rfl | rfl | rfl | rfl | rfl
  · exact w_c0
  · exact w_c1
  · exact w_c2
  · exact w_c3
  · exact w_c4
  · exact w_c5
  · exact w_c6
  · exact w_c7
  · exact w_c8
  · exact w_c9
  · exact w_c10
  · exact w_c11
  · exact w_c12
  · exact w_c13
  · exact w_c14
  · exact w_c15
  · exact w_c16
  · exact w_c17
  · exact w_c18
  · exact w_c19
  · exact w_c20
  · exact w_c21
  · exact w_c22
  · exact w_c23
  · exact w_c24
  · exact w_c25
  · exact w_c26
  · exact w_c27
  · exact w_c28
  · exact w_c29
  · exact w_c30
  · exact w_c31
  · exact w_c32
  · exact w_c33
  · exact w_c34
  · exact w_c35
  · exact w_c36
  · exact w_c37
  · exact w_c38
  · exact w_c39
  · exact w_c40
  · exact w_c41
  · exact w_c42
  · exact w_c43
  · exact w_c44
  · exact w_c45
set_option maxRecDepth 65536 in
theorem w_t1 : (words1.take 24).all (fun c => isCode c || c.before args0 about1) = true := by decide +kernel
set_option maxRecDepth 65536 in
theorem w_t2 : ((words1.drop 24).take 24).all (fun c => isCode c || c.before args0 about1) = true := by decide +kernel
set_option maxRecDepth 65536 in
theorem w_t3 : (((words1.drop 24).drop 24).take 24).all (fun c => isCode c || c.before args0 about1) = true := by decide +kernel
set_option maxRecDepth 65536 in
theorem w_t4 : ((((words1.drop 24).drop 24).drop 24).take 24).all (fun c => isCode c || c.before args0 about1) = true := by decide +kernel
set_option maxRecDepth 65536 in
theorem w_t5 : (((((words1.drop 24).drop 24).drop 24).drop 24).take 24).all (fun c => isCode c || c.before args0 about1) = true := by decide +kernel
set_option maxRecDepth 65536 in
theorem w_t6 : ((((((words1.drop 24).drop 24).drop 24).drop 24).drop 24).take 24).all (fun c => isCode c || c.before args0 about1) = true := by decide +kernel
set_option maxRecDepth 65536 in
theorem w_t7 : (((((((words1.drop 24).drop 24).drop 24).drop 24).drop 24).drop 24).take 24).all (fun c => isCode c || c.before args0 about1) = true := by decide +kernel
set_option maxRecDepth 65536 in
theorem w_t8 : (((((((words1.drop 24).drop 24).drop 24).drop 24).drop 24).drop 24).drop 24).all (fun c => isCode c || c.before args0 about1) = true := by decide +kernel
theorem w_tables : (allAtoms (Jvm.Cond.code x code maxLocals ret :: tables_1)).before args0 about1 = true := by
  rw [allAtoms_all]
  show words1.all (fun c => c.before args0 about1) = true
  refine all_split ?_ w_codes
  rw [← List.take_append_drop 24 words1, List.all_append, w_t1, ← List.take_append_drop 24 (words1.drop 24), List.all_append, w_t2, ← List.take_append_drop 24 ((words1.drop 24).drop 24), List.all_append, w_t3, ← List.take_append_drop 24 (((words1.drop 24).drop 24).drop 24), List.all_append, w_t4, ← List.take_append_drop 24 ((((words1.drop 24).drop 24).drop 24).drop 24), List.all_append, w_t5, ← List.take_append_drop 24 (((((words1.drop 24).drop 24).drop 24).drop 24).drop 24), List.all_append, w_t6, ← List.take_append_drop 24 ((((((words1.drop 24).drop 24).drop 24).drop 24).drop 24).drop 24), List.all_append, w_t7, w_t8]
  rfl
set_option maxRecDepth 65536 in
theorem w_rest : rest_1_c.before args0 about1 = true := by decide +kernel
set_option maxRecDepth 65536 in
theorem w_case : (Jvm.Cond.and given_1 narrow_1).before args0 about1 = true := by decide +kernel
set_option maxRecDepth 65536 in
theorem w_consts : constsHeld consts_1 about1 := Jvm.Lit.constsHeldB_iff.mp (by decide +kernel)
theorem w_applies : (headSpec (Jvm.Cond.code x code maxLocals ret :: tables_1) room_1).applies x e0.platform about1 = true :=
  (Spec.applies_iff w_frames).mpr ⟨w_running, w_runnable, w_alone, w_named, w_hears, w_ripe, w_room, w_tables⟩
theorem atStart : AtStart classFile x code maxLocals ret World_1 tables_1 room_1 Calls_1 rest_1 Pre_1 launch0 p0 e0 about1 theMethod args0 below0 :=
  ⟨lists_1, trivial, launch0.admits_env _ _ _, launch0.least_env, fairChoices_fair.cas, fairChoices_fair.clock, w_frames, w_args, w_heap, w_applies, ⟨w_consts, trivial⟩, w_rest, w_case⟩
end start1
theorem witness_1 : WitnessClaimed_1 := ⟨start1.p0, start1.e0, start1.about1, start1.theMethod, start1.args0, start1.below0, start1.atStart⟩
end Jvm.Pilot.@@N@@
