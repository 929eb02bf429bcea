import JvmDerived
import JvmDerived.Pilot.@@N@@Statement
import JvmDerived.Pilot.@@N@@Code
set_option linter.unusedVariables false
set_option linter.unusedSimpArgs false
namespace Jvm.Pilot.@@N@@
open Jvm Jvm.ClassFile Sem Op Lib Jvm.Free Jvm.Stand Jvm.LawKit Jvm.RoadKit Bundle Jvm.Pilot.@@N@@.Jvm.D
section OwnKit
variable {p : Program} {l : Launch} {e : Env} {R : Room} {s : State} {m : MethodId} {args : Array Value} {below : List Frame} {meth : Method} {c : Code} {T : State} {locs : List Loc} {cells slots : Nat}
/-- from here the run comes to a state of which K holds -/
def Go (tb : Tables) (e : Env) (below : List Frame) (K : State → Prop) (T : State) : Prop := ∃ U, Steps tb e below T U ∧ K U
theorem Go.st {tb : Tables} {K : State → Prop} {T T' : State} (h : ∀ U, Steps tb e below T' U → Steps tb e below T U) (g : Go tb e below K T') : Go tb e below K T := by
  obtain ⟨U, h1, h2⟩ := g; exact ⟨U, h U h1, h2⟩
theorem Go.tr {tb : Tables} {K : State → Prop} {T T' : State} (h : Steps tb e below T T') (g : Go tb e below K T') : Go tb e below K T := by
  obtain ⟨U, h1, h2⟩ := g; exact ⟨U, h.trans h1, h2⟩
/-- where a body may end -/
def own_Fin (s : State) (below : List Frame) (CC SS : Nat) (Q : Option Value → Heap → List Loc → Prop) (U : State) : Prop :=
  ∃ o, U.status = .running ∧ Ended U below o ∧ ∃ v L, o = .returned v ∧ Q v U.heap L ∧ FrameEnd s o U L CC SS
theorem own_start {tb : Tables} {CC SS : Nat} {Q : Option Value → Heap → List Loc → Prop} {T : State} (g : Go tb e below (own_Fin s below CC SS Q) T) :
    ∃ s₂ o, Steps tb e below T s₂ ∧ s₂.status = .running ∧ Ended s₂ below o ∧ ∃ v L, o = .returned v ∧ Q v s₂.heap L ∧ FrameEnd s o s₂ L CC SS := by
  obtain ⟨U, h1, o, h2, h3, h4⟩ := g; exact ⟨U, o, h1, h2, h3, h4⟩
theorem own_cast {tb : Tables} {K : State → Prop} {f f' : JFrame} (q : f = f') (g : Go tb e below K (T.setTop f')) : Go tb e below K (T.setTop f) := q ▸ g
section Ends
variable {CC SS : Nat} {Q : Option Value → Heap → List Loc → Prop}
theorem own_end (X : Stand p l e R s m args below meth c T locs cells slots) (hlocks : meth.locks = false) {v : Option Value} (hv : meth.sig.returnType = none → v = none) {f : JFrame}
    (k : ∀ fs, (∀ (f : JFrame) (acts : List Action), f.method = m → f.locked = none → f.entered = [] → (doReturn e (T.setTop f) acts v).1 = T.setFrames fs) → Steps p.tables e below (T.setTop f) (T.setFrames fs))
    (hq : Q v T.heap locs) (hc : cells ≤ CC) (hs : slots ≤ SS) : Go p.tables e below (own_Fin s below CC SS Q) (T.setTop f) := by
  obtain ⟨fs, hr, hrun, hended, hW, hsame⟩ := X.leave (v := v) hv hlocks
  exact ⟨_, k fs hr, _, hrun, hended, _, _, rfl, hq, ⟨_, rfl⟩, hW, hsame.mono hc hs⟩
theorem own_ret0 (X : Stand p l e R s m args below meth c T locs cells slots) (hx : p.tables.exec = Jvm.exec) (hlocks : meth.locks = false) {pc : Nat} {Ls : Array Slot} (hret : meth.sig.returnType = none) (hd : decode c.code pc = .ok (.return_, 1))
    (hq : Q none T.heap locs) (hc : cells ≤ CC) (hs : slots ≤ SS) : Go p.tables e below (own_Fin s below CC SS Q) (T.setTop (mkF m pc Ls [])) :=
  own_end X hlocks (fun _ => rfl) (fun _ hr => X.returnOut hx hret hd hr) hq hc hs
theorem own_retN (X : Stand p l e R s m args below meth c T locs cells slots) (hx : p.tables.exec = Jvm.exec) (hlocks : meth.locks = false) {pc : Nat} {Ls : Array Slot} {z : Int32} {t : FieldType} {rest : List Value} (hret : meth.sig.returnType = some t) (ht : t = .boolean ∨ t = .byte ∨ t = .char ∨ t = .short) (hd : decode c.code pc = .ok (.ireturn, 1))
    (hq : Q (some (.int (nar t z))) T.heap locs) (hc : cells ≤ CC) (hs : slots ≤ SS) : Go p.tables e below (own_Fin s below CC SS Q) (T.setTop (mkF m pc Ls (.int z :: rest))) :=
  own_end X hlocks (fun h => by rw [hret] at h; cases h) (fun _ hr => retN X hx hret ht hd hr) hq hc hs
theorem own_retO (X : Stand p l e R s m args below meth c T locs cells slots) (hx : p.tables.exec = Jvm.exec) (hlocks : meth.locks = false) {pc : Nat} {Ls : Array Slot} {w : Value} {t : FieldType} {i : Instr} {rest : List Value} (hret : meth.sig.returnType = some t) (hn : narrow t w = w)
    (hi : (i = .ireturn ∧ (t = .int ∨ t = .boolean ∨ t = .byte ∨ t = .char ∨ t = .short) ∧ ∃ z, w = .int z) ∨ (i = .lreturn ∧ t = .long ∧ ∃ z, w = .long z) ∨ (i = .dreturn ∧ t = .double ∧ ∃ z, w = .double z) ∨ (i = .freturn ∧ t = .float ∧ ∃ z, w = .float z) ∨ (i = .areturn ∧ t.isReference = true ∧ w.isRef = true))
    (hd : decode c.code pc = .ok (i, 1)) (hq : Q (some w) T.heap locs) (hc : cells ≤ CC) (hs : slots ≤ SS) : Go p.tables e below (own_Fin s below CC SS Q) (T.setTop (mkF m pc Ls (w :: rest))) :=
  own_end X hlocks (fun h => by rw [hret] at h; cases h) (fun _ hr => retOut X hx hret hn hi hd hr) hq hc hs
end Ends
end OwnKit

def own_k (ks : List Int64) (i : Nat) : Int64 := ks.getD i 0
theorem own_gL (ks : List Int64) (i : Nat) : (ks.map Value.long).getD i (.long 0) = .long (own_k ks i) := by
  unfold own_k; simp only [List.getD_eq_getElem?_getD, List.getElem?_map]; cases ks[i]? <;> rfl
theorem own_k_set {ks : List Int64} {i j : Nat} {x : Int64} (hi : i < ks.length) : own_k (ks.set i x) j = if j = i then x else own_k ks j := by
  unfold own_k
  simp only [List.getD_eq_getElem?_getD, List.getElem?_set]
  by_cases h : i = j
  · subst h; simp [hi]
  · simp [h, Ne.symm h]
theorem own_k_eq (ks : List Int64) (i : Nat) : own_k ks i = (ks[i]?).getD 0 := List.getD_eq_getElem?_getD
/-- the first k are in their order -/
def own_Srt (vs : List Int64) (k : Nat) : Prop := ∀ i j, i < j → j < k → own_k vs i < own_k vs j
def own_mv (vs : List Int64) (sp dp nn : Nat) : List Int64 := vs.take dp ++ (List.range nn).map (fun i => own_k vs (sp + i)) ++ vs.drop (dp + nn)
theorem own_mv_map (vs : List Int64) (sp dp nn : Nat) : (vs.map Value.long).take dp ++ ((List.range nn).map fun i => (vs.map Value.long).getD (sp + i) (.long 0)) ++ (vs.map Value.long).drop (dp + nn) = (own_mv vs sp dp nn).map Value.long := by
  unfold own_mv
  rw [List.map_append, List.map_append, List.map_take, List.map_drop, List.map_map]
  congr 2
  apply List.map_congr_left
  intro i _
  exact own_gL vs (sp + i)
theorem own_mv_len (vs : List Int64) (sp dp nn : Nat) (h : dp + nn ≤ vs.length) : (own_mv vs sp dp nn).length = vs.length := by
  unfold own_mv
  simp only [List.length_append, List.length_take, List.length_map, List.length_range, List.length_drop]
  omega
theorem own_mv_at (vs : List Int64) (sp dp nn : Nat) (h : dp + nn ≤ vs.length) (i : Nat) : own_k (own_mv vs sp dp nn) i = if i < dp then own_k vs i else if i < dp + nn then own_k vs (sp + (i - dp)) else own_k vs i := by
  have ht : (vs.take dp).length = dp := by rw [List.length_take]; omega
  have h2 : (vs.take dp ++ (List.range nn).map (fun i => own_k vs (sp + i))).length = dp + nn := by rw [List.length_append, ht, List.length_map, List.length_range]
  unfold own_mv
  by_cases c1 : i < dp
  · rw [if_pos c1]
    rw [own_k_eq, own_k_eq vs i, List.getElem?_append_left (by rw [h2]; omega), List.getElem?_append_left (by rw [ht]; exact c1), List.getElem?_take, if_pos c1]
  · rw [if_neg c1]
    by_cases c2 : i < dp + nn
    · rw [if_pos c2]
      show ((vs.take dp ++ (List.range nn).map (fun i => own_k vs (sp + i)) ++ vs.drop (dp + nn)).getD i 0) = _
      rw [List.getD_eq_getElem?_getD, List.getElem?_append_left (by rw [h2]; exact c2), List.getElem?_append_right (by rw [ht]; omega), ht, List.getElem?_map, List.getElem?_range (by omega)]
      rfl
    · rw [if_neg c2]
      rw [own_k_eq, own_k_eq vs i, List.getElem?_append_right (by rw [h2]; omega), h2, List.getElem?_drop]
      congr 2; omega
/-- what insertion leaves -/
theorem own_ins (vs : List Int64) (k p : Nat) (r : Int64) (hp : p ≤ k) (hk : k < vs.length) (hs : own_Srt vs k) (h1 : ∀ i, i < p → own_k vs i < r) (h2 : ∀ i, p ≤ i → i < k → r < own_k vs i) :
    own_Srt ((own_mv vs p (p + 1) (k - p)).set p r) (k + 1) ∧ (∀ x, (∃ i, i < k + 1 ∧ own_k ((own_mv vs p (p + 1) (k - p)).set p r) i = x) ↔ (∃ i, i < k ∧ own_k vs i = x) ∨ x = r) := by
  have hl := own_mv_len vs p (p + 1) (k - p) (by omega)
  have at_ : ∀ i, own_k ((own_mv vs p (p + 1) (k - p)).set p r) i = if i = p then r else if i < p then own_k vs i else if i < k + 1 then own_k vs (i - 1) else own_k vs i := fun i => by
    rw [own_k_set (by omega), own_mv_at vs p (p + 1) (k - p) (by omega)]
    by_cases c : i = p
    · rw [if_pos c, if_pos c]
    · rw [if_neg c, if_neg c]
      by_cases c1 : i < p
      · rw [if_pos (by omega), if_pos c1]
      · rw [if_neg (by omega), if_neg c1]
        by_cases c2 : i < k + 1
        · rw [if_pos (by omega), if_pos c2]; congr 1; omega
        · rw [if_neg (by omega), if_neg c2]
  refine ⟨fun i j hij hj => ?_, fun x => ⟨?_, ?_⟩⟩
  · rw [at_, at_]
    by_cases ci : i = p
    · rw [if_pos ci, if_neg (by omega), if_neg (by omega), if_pos hj]
      exact h2 (j - 1) (by omega) (by omega)
    · rw [if_neg ci]
      by_cases cj : j = p
      · rw [if_pos cj, if_pos (by omega)]
        exact h1 i (by omega)
      · rw [if_neg cj]
        by_cases c1 : j < p
        · rw [if_pos c1, if_pos (by omega)]; exact hs i j hij (by omega)
        · rw [if_neg c1, if_pos hj]
          by_cases c2 : i < p
          · rw [if_pos c2]; exact hs i (j - 1) (by omega) (by omega)
          · rw [if_neg c2, if_pos (by omega)]; exact hs (i - 1) (j - 1) (by omega) (by omega)
  · rintro ⟨i, hi, rfl⟩
    rw [at_]
    by_cases ci : i = p
    · rw [if_pos ci]; exact Or.inr rfl
    · rw [if_neg ci]
      by_cases c1 : i < p
      · rw [if_pos c1]; exact Or.inl ⟨i, by omega, rfl⟩
      · rw [if_neg c1, if_pos hi]; exact Or.inl ⟨i - 1, by omega, rfl⟩
  · rintro (⟨i, hi, rfl⟩ | rfl)
    · by_cases c1 : i < p
      · exact ⟨i, by omega, by rw [at_, if_neg (by omega), if_pos c1]⟩
      · exact ⟨i + 1, by omega, by rw [at_, if_neg (by omega), if_neg (by omega), if_pos (by omega)]; rfl⟩
    · exact ⟨p, by omega, by rw [at_, if_pos rfl]⟩
def own_xs (x : Int64) : Int64 := (x ^^^ ((x.toUInt64 >>> ((33 : Int32) &&& 0x3f).toInt64.toUInt64).toInt64))
def own_rank (x : Int64) : Int64 := own_xs ((own_xs ((own_xs x) * (-49064778989728563 : Int64))) * (-4265267296055464877 : Int64))
theorem own_xs_bv (x : Int64) : (own_xs x).toBitVec = x.toBitVec ^^^ (x.toBitVec >>> 33) := by
  show x.toBitVec ^^^ (x.toBitVec >>> ((33#64) % 64)) = _
  rfl
theorem own_xs_inv (x : Int64) : own_xs (own_xs x) = x := by
  apply Int64.toBitVec_inj.mp
  rw [own_xs_bv, own_xs_bv]
  apply BitVec.eq_of_getLsbD_eq
  intro i hi
  simp only [BitVec.getLsbD_xor, BitVec.getLsbD_ushiftRight]
  have : x.toBitVec.getLsbD (33 + (33 + i)) = false := BitVec.getLsbD_of_ge _ _ (by omega)
  rw [this]
  cases x.toBitVec.getLsbD i <;> cases x.toBitVec.getLsbD (33 + i) <;> rfl
theorem own_rank_inj {x y : Int64} (h : own_rank x = own_rank y) : x = y := by
  have mulinj : ∀ (c d a b : Int64), c * d = 1 → a * c = b * c → a = b := fun c d a b hcd q => by
    have := congrArg (· * d) q
    simp only [Int64.mul_assoc, hcd, Int64.mul_one] at this
    exact this
  have xinj : ∀ a b : Int64, own_xs a = own_xs b → a = b := fun a b q => by rw [← own_xs_inv a, q, own_xs_inv]
  unfold own_rank at h
  have h1 := xinj _ _ h
  have h2 := mulinj (-4265267296055464877) (-7154897129451604005) _ _ (by decide) h1
  have h3 := xinj _ _ h2
  have h4 := mulinj (-49064778989728563) 5725274745694666757 _ _ (by decide) h3
  exact xinj _ _ h4

theorem own_lt32 (x y : Int32) : x < y ↔ x.toInt < y.toInt := Int32.lt_iff_toInt_lt
theorem own_nat {i : Int32} (h : 0 ≤ i.toInt) : (i.toNatClampNeg : Int) = i.toInt := Int.toNat_of_nonneg h
theorem own_inb {i z : Int32} (h : 0 ≤ i.toInt ∧ i.toInt < z.toInt) : ¬ i < 0 ∧ i < z := by
  rw [own_lt32, own_lt32, show (0 : Int32).toInt = 0 from by decide]; omega
theorem own_neg {i : Int32} (h : 0 ≤ i.toInt) : ¬ i < 0 := by
  rw [own_lt32, show (0 : Int32).toInt = 0 from by decide]; omega
theorem own_mid (a b : Int32) (h : 0 ≤ a.toInt ∧ a.toInt < 100) (g : 0 ≤ b.toInt ∧ b.toInt < 100) : (((a + b).toUInt32 >>> ((1 : Int32) &&& 31).toUInt32).toInt32).toInt = (a.toInt + b.toInt) / 2 := by
  have h0 := c_iushr (a + b) 1 1 (by decide) (by decide)
  have h1 := c_iadd a b
  have r := rng32 (a + b)
  rw [show ((2 ^ 1 : Nat) : Int) = 2 from by decide] at h0
  omega
def own_min (a b : Int32) : Int32 := if b < a then b else a
theorem own_irem (x y : Int32) (hy : 0 < y.toInt) : x - (x / y) * y = x % y := by
  have h1 : y ≠ -1 := fun q => by subst q; exact absurd hy (by decide)
  apply Int32.toInt_inj.mp
  have e1 := Int32.toInt_div_of_ne_right x y h1
  have e2 := c_isub x (x / y * y)
  have e3 := c_imul (x / y) y
  have e4 : (x % y).toInt = x.toInt.tmod y.toInt := Int32.toInt_mod x y
  have e5 := Int.tmod_add_mul_tdiv x.toInt y.toInt
  rw [e1, Int.mul_comm] at e3
  have r1 := rng32 (x - x / y * y)
  have r2 := rng32 (x % y)
  omega
/-- what binarySearch says of the first k of vs -/
def own_Bs (vs : List Int64) (k : Nat) (key : Int64) (r : Int32) : Prop :=
  (0 ≤ r.toInt ∧ r.toInt < k ∧ own_k vs r.toNatClampNeg = key) ∨ (∃ p : Nat, r.toInt = -(p : Int) - 1 ∧ p ≤ k ∧ (∀ i, i < p → own_k vs i < key) ∧ ∀ i, p ≤ i → i < k → key < own_k vs i)
/-- the counter as it stands: S says which ranks it holds, k how many -/
def own_DB (Z : State) (h : Heap) (n0 : Nat) (a : Addr) (S : Int64 → Prop) (k : Nat) : Prop := ∃ (ra : Addr) (kr : ClassId) (z sz : Int32) (vs : List Int64),
  Exa Z h a "com/example/rigorous_layout/rigorouslayout/DistinctCount" ∧ Fld Z h a "com/example/rigorous_layout/rigorouslayout/DistinctCount" "ranks" "[J" (.ref ra) ∧ Fld Z h a "com/example/rigorous_layout/rigorouslayout/DistinctCount" "size" "I" (.int sz) ∧ Fld Z h a "com/example/rigorous_layout/rigorouslayout/DistinctCount" "estimated" "Z" (.int (0 : Int32)) ∧ Arv Z h ra kr .long z (vs.map Value.long) (.long (0 : Int64)) ∧
  n0 ≤ ra ∧ ra ≠ a ∧ (z = 4 ∨ z = 8) ∧ vs.length = z.toNatClampNeg ∧ sz.toInt = k ∧ k ≤ z.toNatClampNeg ∧ own_Srt vs k ∧ ∀ r, S r ↔ ∃ i, i < k ∧ own_k vs i = r
theorem own_DBE {Z : State} {h : Heap} {n0 : Nat} {a : Addr} {S : Int64 → Prop} {k : Nat} (D : own_DB Z h n0 a S k) : Exa Z h a "com/example/rigorous_layout/rigorouslayout/DistinctCount" := by
  obtain ⟨ra, kr, z, sz, vs, E1, -⟩ := D; exact E1
theorem own_DBc {Z : State} {h : Heap} {n0 : Nat} {a : Addr} {S S' : Int64 → Prop} {k : Nat} (D : own_DB Z h n0 a S k) (e : ∀ r, S' r ↔ S r) : own_DB Z h n0 a S' k := by
  obtain ⟨ra, kr, z, sz, vs, d1, d2, d3, d4, d5, d6, d7, d8, d9, d10, d11, d12, d13⟩ := D
  exact ⟨ra, kr, z, sz, vs, d1, d2, d3, d4, d5, d6, d7, d8, d9, d10, d11, d12, fun r => (e r).trans (d13 r)⟩
theorem own_zN {z : Int32} (hz : z = 4 ∨ z = 8) : (z.toNatClampNeg : Int) = z.toInt ∧ 4 ≤ z.toInt ∧ z.toInt ≤ 8 := by
  rcases hz with rfl | rfl <;> decide
theorem own_repL (n : Nat) : ∀ i, ((List.replicate n (0 : Int64)).map Value.long).getD i (.long 0) = ([] : List Value).getD i (.long 0) := fun i => by
  rw [own_gL]; unfold own_k; simp only [List.getD_eq_getElem?_getD, List.getElem?_replicate]; split <;> rfl

theorem d10_0 : decode jdk_29_method_69_code 0 = .ok (.iload_n 0, 1) := by decide +kernel
theorem d10_1 : decode jdk_29_method_69_code 1 = .ok (.iload_n 1, 1) := by decide +kernel
theorem d10_2 : decode jdk_29_method_69_code 2 = .ok (.if_icmp .gt 7, 3) := by decide +kernel
theorem d10_5 : decode jdk_29_method_69_code 5 = .ok (.iload_n 0, 1) := by decide +kernel
theorem d10_6 : decode jdk_29_method_69_code 6 = .ok (.goto 4, 3) := by decide +kernel
theorem d10_9 : decode jdk_29_method_69_code 9 = .ok (.iload_n 1, 1) := by decide +kernel
theorem d10_10 : decode jdk_29_method_69_code 10 = .ok (.ireturn, 1) := by decide +kernel
theorem pn_10 : plainFor (⟨"java/lang/Math", "min", "(II)I"⟩ : MethodName) = true := by decide +kernel
theorem ef_10 (m : MethodId) (x0 : Int32) (x1 : Int32) : entryFrame m #[(.int x0), (.int x1)] 2 = mkF m 0 #[.val (.int x0), .val (.int x1)] [] := by first | (simp [entryFrame, mkF, argsToLocals, Value.category]; done) | rfl
def Q10 (Z : State) (p1 : Int32) (p2 : Int32)  (h0 : Heap) (n0 : Nat) (v : Option Value) (h : Heap) (L : List Loc) : Prop := v = some (.int (own_min p1 p2)) ∧ Fr n0 L ∧ h = h0
set_option maxRecDepth 65536 in
set_option maxHeartbeats 40000000 in
theorem rm10 (l : Launch) (Z : State) (a0 : Array Value) (hw : ∀ d ∈ tables_1, d.before a0 Z = true) (ws : List Jvm.Cond) (p1 : Int32) (p2 : Int32)  (h0 : Heap) (n0 : Nat) (Z0 : n0 ≤ h0.size) :
    MetFree l (⟨"java/lang/Math", "min", "(II)I"⟩ : MethodName) (head1 (Jvm.Cond.code (⟨"java/lang/Math", "min", "(II)I"⟩ : MethodName) jdk_29_method_69_code 2 (some .int) :: ws) ({ frames := 0, cells := 0, slots := 0, locals := 0 } : Room)) (fun a U => a = #[(.int p1), (.int p2)] ∧ Z.Warmed39 U.vm ∧ U.heap = h0) (fun _ _ _ _ _ => True) (fun _ U o U' => ∃ v L, o = .returned v ∧ Q10 Z p1 p2 h0 n0 v U'.heap L ∧ FrameEnd U o U' L ({ frames := 0, cells := 0, slots := 0, locals := 0 } : Room).cells ({ frames := 0, cells := 0, slots := 0, locals := 0 } : Room).slots) := by
  refine MetFree.of_bodySF pn_10 hisR ?_
  intro p e s m args below meth c s₁ Bd hml0 hP hK
  obtain ⟨rfl, hZ, hh⟩ := hP
  have hx := Bd.exec
  have hby := Bd.bytes
  have hml : c.maxLocals = 2 := hml0
  have hown : s.vm.findClass "java/lang/Math" = some m.cls := findClass_of_methodNamed Bd.named
  have hnm := (name_of_methodNamed Bd.named Bd.method).1
  have X0 : Stand p l e ({ frames := 0, cells := 0, slots := 0, locals := 0 } : Room) s m #[(.int p1), (.int p2)] below meth c s₁ [] 0 0 := Stand.of_body Bd
  have e0 : s₁.heap = h0 := by rw [← hh, Bd.state]; rfl
  have N0 := Fr.nil n0
  refine own_start (Q := Q10 Z p1 p2 h0 n0) (own_cast (ef_10 m p1 p2) ?_)
  show Go p.tables e below _ (s₁.setTop (mkF m 0 #[.val (.int p1), .val (.int p2)] []))
  refine Go.st (fun U hr => XS.iloadN X0.here hx rfl (hb hby d10_0) rfl hr) ?_
  show Go p.tables e below _ (s₁.setTop (mkF m 1 #[.val (.int p1), .val (.int p2)] [(.int p1)]))
  refine Go.st (fun U hr => XS.iloadN X0.here hx rfl (hb hby d10_1) rfl hr) ?_
  show Go p.tables e below _ (s₁.setTop (mkF m 2 #[.val (.int p1), .val (.int p2)] [(.int p2), (.int p1)]))
  by_cases hc2_1 : p2 < p1
  · refine Go.st (fun U hr => XS.icmpYes X0.here hx rfl (pc0 := 2) (pc' := 9) rfl (hb hby d10_2) rfl (tlt hc2_1).2.2.1 (by decide) (by decide) hr) ?_
    show Go p.tables e below _ (s₁.setTop (mkF m 9 #[.val (.int p1), .val (.int p2)] []))
    refine Go.st (fun U hr => XS.iloadN X0.here hx rfl (hb hby d10_9) rfl hr) ?_
    show Go p.tables e below _ (s₁.setTop (mkF m 10 #[.val (.int p1), .val (.int p2)] [(.int p2)]))
    exact own_retO X0 hx Bd.notSynchronized (t := .int) Bd.returns rfl (Or.inl ⟨rfl, Or.inl rfl, _, rfl⟩) (hb hby d10_10) ⟨by simp [own_min, hc2_1], N0, e0⟩ (by decide) (by decide)
  · refine Go.st (fun U hr => XS.icmpNo X0.here hx rfl (hb hby d10_2) rfl (flt hc2_1).2.2.1 hr) ?_
    show Go p.tables e below _ (s₁.setTop (mkF m 5 #[.val (.int p1), .val (.int p2)] []))
    refine Go.st (fun U hr => XS.iloadN X0.here hx rfl (hb hby d10_5) rfl hr) ?_
    show Go p.tables e below _ (s₁.setTop (mkF m 6 #[.val (.int p1), .val (.int p2)] [(.int p1)]))
    refine Go.st (fun U hr => XS.goto X0.here hx rfl (pc0 := 6) (pc' := 10) rfl (hb hby d10_6) (by decide) (by decide) hr) ?_
    show Go p.tables e below _ (s₁.setTop (mkF m 10 #[.val (.int p1), .val (.int p2)] [(.int p1)]))
    exact own_retO X0 hx Bd.notSynchronized (t := .int) Bd.returns rfl (Or.inl ⟨rfl, Or.inl rfl, _, rfl⟩) (hb hby d10_10) ⟨by simp [own_min, hc2_1], N0, e0⟩ (by decide) (by decide)
theorem d5_0 : decode prog_5_method_6_code 0 = .ok (.lload_n 0, 1) := by decide +kernel
theorem d5_1 : decode prog_5_method_6_code 1 = .ok (.lload_n 0, 1) := by decide +kernel
theorem d5_2 : decode prog_5_method_6_code 2 = .ok (.bipush 33, 2) := by decide +kernel
theorem d5_4 : decode prog_5_method_6_code 4 = .ok (.lushr, 1) := by decide +kernel
theorem d5_5 : decode prog_5_method_6_code 5 = .ok (.lxor, 1) := by decide +kernel
theorem d5_6 : decode prog_5_method_6_code 6 = .ok (.ldc2_w 57, 3) := by decide +kernel
theorem d5_9 : decode prog_5_method_6_code 9 = .ok (.lmul, 1) := by decide +kernel
theorem d5_10 : decode prog_5_method_6_code 10 = .ok (.lstore_n 2, 1) := by decide +kernel
theorem d5_11 : decode prog_5_method_6_code 11 = .ok (.lload_n 2, 1) := by decide +kernel
theorem d5_12 : decode prog_5_method_6_code 12 = .ok (.lload_n 2, 1) := by decide +kernel
theorem d5_13 : decode prog_5_method_6_code 13 = .ok (.bipush 33, 2) := by decide +kernel
theorem d5_15 : decode prog_5_method_6_code 15 = .ok (.lushr, 1) := by decide +kernel
theorem d5_16 : decode prog_5_method_6_code 16 = .ok (.lxor, 1) := by decide +kernel
theorem d5_17 : decode prog_5_method_6_code 17 = .ok (.ldc2_w 59, 3) := by decide +kernel
theorem d5_20 : decode prog_5_method_6_code 20 = .ok (.lmul, 1) := by decide +kernel
theorem d5_21 : decode prog_5_method_6_code 21 = .ok (.lstore_n 2, 1) := by decide +kernel
theorem d5_22 : decode prog_5_method_6_code 22 = .ok (.lload_n 2, 1) := by decide +kernel
theorem d5_23 : decode prog_5_method_6_code 23 = .ok (.lload_n 2, 1) := by decide +kernel
theorem d5_24 : decode prog_5_method_6_code 24 = .ok (.bipush 33, 2) := by decide +kernel
theorem d5_26 : decode prog_5_method_6_code 26 = .ok (.lushr, 1) := by decide +kernel
theorem d5_27 : decode prog_5_method_6_code 27 = .ok (.lxor, 1) := by decide +kernel
theorem d5_28 : decode prog_5_method_6_code 28 = .ok (.lreturn, 1) := by decide +kernel
theorem pn_5 : plainFor (⟨"com/example/rigorous_layout/rigorouslayout/DistinctCount", "rank", "(J)J"⟩ : MethodName) = true := plainFor_of_name (by first | (simp [plainName, overriddenIn]; done) | decide +kernel)
theorem ef_5 (m : MethodId) (x0 : Int64) : entryFrame m #[(.long x0)] 4 = mkF m 0 #[.val (.long x0), .second, .unset, .unset] [] := by first | (simp [entryFrame, mkF, argsToLocals, Value.category]; done) | rfl
def Q5 (Z : State) (q1 : Int64)  (h0 : Heap) (n0 : Nat) (v : Option Value) (h : Heap) (L : List Loc) : Prop := v = some (.long (own_rank q1)) ∧ Fr n0 L ∧ h = h0
set_option maxRecDepth 65536 in
set_option maxHeartbeats 40000000 in
theorem rm5 (l : Launch) (Z : State) (a0 : Array Value) (hw : ∀ d ∈ tables_1, d.before a0 Z = true) (ws : List Jvm.Cond) (q1 : Int64)  (h0 : Heap) (n0 : Nat) (Z0 : n0 ≤ h0.size) :
    MetFree l (⟨"com/example/rigorous_layout/rigorouslayout/DistinctCount", "rank", "(J)J"⟩ : MethodName) (head1 (Jvm.Cond.code (⟨"com/example/rigorous_layout/rigorouslayout/DistinctCount", "rank", "(J)J"⟩ : MethodName) prog_5_method_6_code 4 (some .long) :: ws) ({ frames := 0, cells := 0, slots := 0, locals := 0 } : Room)) (fun a U => a = #[(.long q1)] ∧ Z.Warmed39 U.vm ∧ U.heap = h0) (fun _ _ _ _ _ => True) (fun _ U o U' => ∃ v L, o = .returned v ∧ Q5 Z q1 h0 n0 v U'.heap L ∧ FrameEnd U o U' L ({ frames := 0, cells := 0, slots := 0, locals := 0 } : Room).cells ({ frames := 0, cells := 0, slots := 0, locals := 0 } : Room).slots) := by
  refine MetFree.of_bodySF pn_5 hisR ?_
  intro p e s m args below meth c s₁ Bd hml0 hP hK
  obtain ⟨rfl, hZ, hh⟩ := hP
  have hx := Bd.exec
  have hby := Bd.bytes
  have hml : c.maxLocals = 4 := hml0
  have hown : s.vm.findClass "com/example/rigorous_layout/rigorouslayout/DistinctCount" = some m.cls := findClass_of_methodNamed Bd.named
  have hnm := (name_of_methodNamed Bd.named Bd.method).1
  have X0 : Stand p l e ({ frames := 0, cells := 0, slots := 0, locals := 0 } : Room) s m #[(.long q1)] below meth c s₁ [] 0 0 := Stand.of_body Bd
  have e0 : s₁.heap = h0 := by rw [← hh, Bd.state]; rfl
  have N0 := Fr.nil n0
  refine own_start (Q := Q5 Z q1 h0 n0) (own_cast (ef_5 m q1) ?_)
  show Go p.tables e below _ (s₁.setTop (mkF m 0 #[.val (.long q1), .second, .unset, .unset] []))
  refine Go.st (fun U hr => XS.lloadN X0.here hx rfl (hb hby d5_0) rfl hr) ?_
  show Go p.tables e below _ (s₁.setTop (mkF m 1 #[.val (.long q1), .second, .unset, .unset] [(.long q1)]))
  refine Go.st (fun U hr => XS.lloadN X0.here hx rfl (hb hby d5_1) rfl hr) ?_
  show Go p.tables e below _ (s₁.setTop (mkF m 2 #[.val (.long q1), .second, .unset, .unset] [(.long q1), (.long q1)]))
  refine Go.st (fun U hr => XS.bipush X0.here hx rfl (hb hby d5_2) hr) ?_
  show Go p.tables e below _ (s₁.setTop (mkF m 4 #[.val (.long q1), .second, .unset, .unset] [(.int (33 : Int32)), (.long q1), (.long q1)]))
  refine Go.st (fun U hr => XS.lushr X0.here hx rfl (hb hby d5_4) rfl hr) ?_
  show Go p.tables e below _ (s₁.setTop (mkF m 5 #[.val (.long q1), .second, .unset, .unset] [(.long ((q1.toUInt64 >>> ((33 : Int32) &&& 0x3f).toInt64.toUInt64).toInt64)), (.long q1)]))
  refine Go.st (fun U hr => XS.lxor X0.here hx rfl (hb hby d5_5) rfl hr) ?_
  show Go p.tables e below _ (s₁.setTop (mkF m 6 #[.val (.long q1), .second, .unset, .unset] [(.long (q1 ^^^ ((q1.toUInt64 >>> ((33 : Int32) &&& 0x3f).toInt64.toUInt64).toInt64)))]))
  refine Go.st (X0.ldc2Long hx hown (mvT hZ (hw _ (List.mem_of_getElem? (i := 29) rfl))) (g := (mkF m 6 #[.val (.long q1), .second, .unset, .unset] [(.long (q1 ^^^ ((q1.toUInt64 >>> ((33 : Int32) &&& 0x3f).toInt64.toUInt64).toInt64)))])) rfl (hb hby d5_6)) ?_
  show Go p.tables e below _ (s₁.setTop (mkF m 9 #[.val (.long q1), .second, .unset, .unset] [(.long (-49064778989728563 : Int64)), (.long (q1 ^^^ ((q1.toUInt64 >>> ((33 : Int32) &&& 0x3f).toInt64.toUInt64).toInt64)))]))
  refine Go.st (fun U hr => XS.lmul X0.here hx rfl (hb hby d5_9) rfl hr) ?_
  show Go p.tables e below _ (s₁.setTop (mkF m 10 #[.val (.long q1), .second, .unset, .unset] [(.long ((q1 ^^^ ((q1.toUInt64 >>> ((33 : Int32) &&& 0x3f).toInt64.toUInt64).toInt64)) * (-49064778989728563 : Int64)))]))
  refine Go.st (fun U hr => XS.lstoreN X0.here hx rfl (hb hby d5_10) rfl (l' := #[.val (.long q1), .second, .val (.long ((q1 ^^^ ((q1.toUInt64 >>> ((33 : Int32) &&& 0x3f).toInt64.toUInt64).toInt64)) * (-49064778989728563 : Int64))), .second]) rfl hr) ?_
  show Go p.tables e below _ (s₁.setTop (mkF m 11 #[.val (.long q1), .second, .val (.long ((q1 ^^^ ((q1.toUInt64 >>> ((33 : Int32) &&& 0x3f).toInt64.toUInt64).toInt64)) * (-49064778989728563 : Int64))), .second] []))
  refine Go.st (fun U hr => XS.lloadN X0.here hx rfl (hb hby d5_11) rfl hr) ?_
  show Go p.tables e below _ (s₁.setTop (mkF m 12 #[.val (.long q1), .second, .val (.long ((q1 ^^^ ((q1.toUInt64 >>> ((33 : Int32) &&& 0x3f).toInt64.toUInt64).toInt64)) * (-49064778989728563 : Int64))), .second] [(.long ((q1 ^^^ ((q1.toUInt64 >>> ((33 : Int32) &&& 0x3f).toInt64.toUInt64).toInt64)) * (-49064778989728563 : Int64)))]))
  refine Go.st (fun U hr => XS.lloadN X0.here hx rfl (hb hby d5_12) rfl hr) ?_
  show Go p.tables e below _ (s₁.setTop (mkF m 13 #[.val (.long q1), .second, .val (.long ((q1 ^^^ ((q1.toUInt64 >>> ((33 : Int32) &&& 0x3f).toInt64.toUInt64).toInt64)) * (-49064778989728563 : Int64))), .second] [(.long ((q1 ^^^ ((q1.toUInt64 >>> ((33 : Int32) &&& 0x3f).toInt64.toUInt64).toInt64)) * (-49064778989728563 : Int64))), (.long ((q1 ^^^ ((q1.toUInt64 >>> ((33 : Int32) &&& 0x3f).toInt64.toUInt64).toInt64)) * (-49064778989728563 : Int64)))]))
  refine Go.st (fun U hr => XS.bipush X0.here hx rfl (hb hby d5_13) hr) ?_
  show Go p.tables e below _ (s₁.setTop (mkF m 15 #[.val (.long q1), .second, .val (.long ((q1 ^^^ ((q1.toUInt64 >>> ((33 : Int32) &&& 0x3f).toInt64.toUInt64).toInt64)) * (-49064778989728563 : Int64))), .second] [(.int (33 : Int32)), (.long ((q1 ^^^ ((q1.toUInt64 >>> ((33 : Int32) &&& 0x3f).toInt64.toUInt64).toInt64)) * (-49064778989728563 : Int64))), (.long ((q1 ^^^ ((q1.toUInt64 >>> ((33 : Int32) &&& 0x3f).toInt64.toUInt64).toInt64)) * (-49064778989728563 : Int64)))]))
  refine Go.st (fun U hr => XS.lushr X0.here hx rfl (hb hby d5_15) rfl hr) ?_
  show Go p.tables e below _ (s₁.setTop (mkF m 16 #[.val (.long q1), .second, .val (.long ((q1 ^^^ ((q1.toUInt64 >>> ((33 : Int32) &&& 0x3f).toInt64.toUInt64).toInt64)) * (-49064778989728563 : Int64))), .second] [(.long ((((q1 ^^^ ((q1.toUInt64 >>> ((33 : Int32) &&& 0x3f).toInt64.toUInt64).toInt64)) * (-49064778989728563 : Int64)).toUInt64 >>> ((33 : Int32) &&& 0x3f).toInt64.toUInt64).toInt64)), (.long ((q1 ^^^ ((q1.toUInt64 >>> ((33 : Int32) &&& 0x3f).toInt64.toUInt64).toInt64)) * (-49064778989728563 : Int64)))]))
  refine Go.st (fun U hr => XS.lxor X0.here hx rfl (hb hby d5_16) rfl hr) ?_
  show Go p.tables e below _ (s₁.setTop (mkF m 17 #[.val (.long q1), .second, .val (.long ((q1 ^^^ ((q1.toUInt64 >>> ((33 : Int32) &&& 0x3f).toInt64.toUInt64).toInt64)) * (-49064778989728563 : Int64))), .second] [(.long (((q1 ^^^ ((q1.toUInt64 >>> ((33 : Int32) &&& 0x3f).toInt64.toUInt64).toInt64)) * (-49064778989728563 : Int64)) ^^^ ((((q1 ^^^ ((q1.toUInt64 >>> ((33 : Int32) &&& 0x3f).toInt64.toUInt64).toInt64)) * (-49064778989728563 : Int64)).toUInt64 >>> ((33 : Int32) &&& 0x3f).toInt64.toUInt64).toInt64)))]))
  refine Go.st (X0.ldc2Long hx hown (mvT hZ (hw _ (List.mem_of_getElem? (i := 30) rfl))) (g := (mkF m 17 #[.val (.long q1), .second, .val (.long ((q1 ^^^ ((q1.toUInt64 >>> ((33 : Int32) &&& 0x3f).toInt64.toUInt64).toInt64)) * (-49064778989728563 : Int64))), .second] [(.long (((q1 ^^^ ((q1.toUInt64 >>> ((33 : Int32) &&& 0x3f).toInt64.toUInt64).toInt64)) * (-49064778989728563 : Int64)) ^^^ ((((q1 ^^^ ((q1.toUInt64 >>> ((33 : Int32) &&& 0x3f).toInt64.toUInt64).toInt64)) * (-49064778989728563 : Int64)).toUInt64 >>> ((33 : Int32) &&& 0x3f).toInt64.toUInt64).toInt64)))])) rfl (hb hby d5_17)) ?_
  show Go p.tables e below _ (s₁.setTop (mkF m 20 #[.val (.long q1), .second, .val (.long ((q1 ^^^ ((q1.toUInt64 >>> ((33 : Int32) &&& 0x3f).toInt64.toUInt64).toInt64)) * (-49064778989728563 : Int64))), .second] [(.long (-4265267296055464877 : Int64)), (.long (((q1 ^^^ ((q1.toUInt64 >>> ((33 : Int32) &&& 0x3f).toInt64.toUInt64).toInt64)) * (-49064778989728563 : Int64)) ^^^ ((((q1 ^^^ ((q1.toUInt64 >>> ((33 : Int32) &&& 0x3f).toInt64.toUInt64).toInt64)) * (-49064778989728563 : Int64)).toUInt64 >>> ((33 : Int32) &&& 0x3f).toInt64.toUInt64).toInt64)))]))
  refine Go.st (fun U hr => XS.lmul X0.here hx rfl (hb hby d5_20) rfl hr) ?_
  show Go p.tables e below _ (s₁.setTop (mkF m 21 #[.val (.long q1), .second, .val (.long ((q1 ^^^ ((q1.toUInt64 >>> ((33 : Int32) &&& 0x3f).toInt64.toUInt64).toInt64)) * (-49064778989728563 : Int64))), .second] [(.long ((((q1 ^^^ ((q1.toUInt64 >>> ((33 : Int32) &&& 0x3f).toInt64.toUInt64).toInt64)) * (-49064778989728563 : Int64)) ^^^ ((((q1 ^^^ ((q1.toUInt64 >>> ((33 : Int32) &&& 0x3f).toInt64.toUInt64).toInt64)) * (-49064778989728563 : Int64)).toUInt64 >>> ((33 : Int32) &&& 0x3f).toInt64.toUInt64).toInt64)) * (-4265267296055464877 : Int64)))]))
  refine Go.st (fun U hr => XS.lstoreN X0.here hx rfl (hb hby d5_21) rfl (l' := #[.val (.long q1), .second, .val (.long ((((q1 ^^^ ((q1.toUInt64 >>> ((33 : Int32) &&& 0x3f).toInt64.toUInt64).toInt64)) * (-49064778989728563 : Int64)) ^^^ ((((q1 ^^^ ((q1.toUInt64 >>> ((33 : Int32) &&& 0x3f).toInt64.toUInt64).toInt64)) * (-49064778989728563 : Int64)).toUInt64 >>> ((33 : Int32) &&& 0x3f).toInt64.toUInt64).toInt64)) * (-4265267296055464877 : Int64))), .second]) rfl hr) ?_
  show Go p.tables e below _ (s₁.setTop (mkF m 22 #[.val (.long q1), .second, .val (.long ((((q1 ^^^ ((q1.toUInt64 >>> ((33 : Int32) &&& 0x3f).toInt64.toUInt64).toInt64)) * (-49064778989728563 : Int64)) ^^^ ((((q1 ^^^ ((q1.toUInt64 >>> ((33 : Int32) &&& 0x3f).toInt64.toUInt64).toInt64)) * (-49064778989728563 : Int64)).toUInt64 >>> ((33 : Int32) &&& 0x3f).toInt64.toUInt64).toInt64)) * (-4265267296055464877 : Int64))), .second] []))
  refine Go.st (fun U hr => XS.lloadN X0.here hx rfl (hb hby d5_22) rfl hr) ?_
  show Go p.tables e below _ (s₁.setTop (mkF m 23 #[.val (.long q1), .second, .val (.long ((((q1 ^^^ ((q1.toUInt64 >>> ((33 : Int32) &&& 0x3f).toInt64.toUInt64).toInt64)) * (-49064778989728563 : Int64)) ^^^ ((((q1 ^^^ ((q1.toUInt64 >>> ((33 : Int32) &&& 0x3f).toInt64.toUInt64).toInt64)) * (-49064778989728563 : Int64)).toUInt64 >>> ((33 : Int32) &&& 0x3f).toInt64.toUInt64).toInt64)) * (-4265267296055464877 : Int64))), .second] [(.long ((((q1 ^^^ ((q1.toUInt64 >>> ((33 : Int32) &&& 0x3f).toInt64.toUInt64).toInt64)) * (-49064778989728563 : Int64)) ^^^ ((((q1 ^^^ ((q1.toUInt64 >>> ((33 : Int32) &&& 0x3f).toInt64.toUInt64).toInt64)) * (-49064778989728563 : Int64)).toUInt64 >>> ((33 : Int32) &&& 0x3f).toInt64.toUInt64).toInt64)) * (-4265267296055464877 : Int64)))]))
  refine Go.st (fun U hr => XS.lloadN X0.here hx rfl (hb hby d5_23) rfl hr) ?_
  show Go p.tables e below _ (s₁.setTop (mkF m 24 #[.val (.long q1), .second, .val (.long ((((q1 ^^^ ((q1.toUInt64 >>> ((33 : Int32) &&& 0x3f).toInt64.toUInt64).toInt64)) * (-49064778989728563 : Int64)) ^^^ ((((q1 ^^^ ((q1.toUInt64 >>> ((33 : Int32) &&& 0x3f).toInt64.toUInt64).toInt64)) * (-49064778989728563 : Int64)).toUInt64 >>> ((33 : Int32) &&& 0x3f).toInt64.toUInt64).toInt64)) * (-4265267296055464877 : Int64))), .second] [(.long ((((q1 ^^^ ((q1.toUInt64 >>> ((33 : Int32) &&& 0x3f).toInt64.toUInt64).toInt64)) * (-49064778989728563 : Int64)) ^^^ ((((q1 ^^^ ((q1.toUInt64 >>> ((33 : Int32) &&& 0x3f).toInt64.toUInt64).toInt64)) * (-49064778989728563 : Int64)).toUInt64 >>> ((33 : Int32) &&& 0x3f).toInt64.toUInt64).toInt64)) * (-4265267296055464877 : Int64))), (.long ((((q1 ^^^ ((q1.toUInt64 >>> ((33 : Int32) &&& 0x3f).toInt64.toUInt64).toInt64)) * (-49064778989728563 : Int64)) ^^^ ((((q1 ^^^ ((q1.toUInt64 >>> ((33 : Int32) &&& 0x3f).toInt64.toUInt64).toInt64)) * (-49064778989728563 : Int64)).toUInt64 >>> ((33 : Int32) &&& 0x3f).toInt64.toUInt64).toInt64)) * (-4265267296055464877 : Int64)))]))
  refine Go.st (fun U hr => XS.bipush X0.here hx rfl (hb hby d5_24) hr) ?_
  show Go p.tables e below _ (s₁.setTop (mkF m 26 #[.val (.long q1), .second, .val (.long ((((q1 ^^^ ((q1.toUInt64 >>> ((33 : Int32) &&& 0x3f).toInt64.toUInt64).toInt64)) * (-49064778989728563 : Int64)) ^^^ ((((q1 ^^^ ((q1.toUInt64 >>> ((33 : Int32) &&& 0x3f).toInt64.toUInt64).toInt64)) * (-49064778989728563 : Int64)).toUInt64 >>> ((33 : Int32) &&& 0x3f).toInt64.toUInt64).toInt64)) * (-4265267296055464877 : Int64))), .second] [(.int (33 : Int32)), (.long ((((q1 ^^^ ((q1.toUInt64 >>> ((33 : Int32) &&& 0x3f).toInt64.toUInt64).toInt64)) * (-49064778989728563 : Int64)) ^^^ ((((q1 ^^^ ((q1.toUInt64 >>> ((33 : Int32) &&& 0x3f).toInt64.toUInt64).toInt64)) * (-49064778989728563 : Int64)).toUInt64 >>> ((33 : Int32) &&& 0x3f).toInt64.toUInt64).toInt64)) * (-4265267296055464877 : Int64))), (.long ((((q1 ^^^ ((q1.toUInt64 >>> ((33 : Int32) &&& 0x3f).toInt64.toUInt64).toInt64)) * (-49064778989728563 : Int64)) ^^^ ((((q1 ^^^ ((q1.toUInt64 >>> ((33 : Int32) &&& 0x3f).toInt64.toUInt64).toInt64)) * (-49064778989728563 : Int64)).toUInt64 >>> ((33 : Int32) &&& 0x3f).toInt64.toUInt64).toInt64)) * (-4265267296055464877 : Int64)))]))
  refine Go.st (fun U hr => XS.lushr X0.here hx rfl (hb hby d5_26) rfl hr) ?_
  show Go p.tables e below _ (s₁.setTop (mkF m 27 #[.val (.long q1), .second, .val (.long ((((q1 ^^^ ((q1.toUInt64 >>> ((33 : Int32) &&& 0x3f).toInt64.toUInt64).toInt64)) * (-49064778989728563 : Int64)) ^^^ ((((q1 ^^^ ((q1.toUInt64 >>> ((33 : Int32) &&& 0x3f).toInt64.toUInt64).toInt64)) * (-49064778989728563 : Int64)).toUInt64 >>> ((33 : Int32) &&& 0x3f).toInt64.toUInt64).toInt64)) * (-4265267296055464877 : Int64))), .second] [(.long ((((((q1 ^^^ ((q1.toUInt64 >>> ((33 : Int32) &&& 0x3f).toInt64.toUInt64).toInt64)) * (-49064778989728563 : Int64)) ^^^ ((((q1 ^^^ ((q1.toUInt64 >>> ((33 : Int32) &&& 0x3f).toInt64.toUInt64).toInt64)) * (-49064778989728563 : Int64)).toUInt64 >>> ((33 : Int32) &&& 0x3f).toInt64.toUInt64).toInt64)) * (-4265267296055464877 : Int64)).toUInt64 >>> ((33 : Int32) &&& 0x3f).toInt64.toUInt64).toInt64)), (.long ((((q1 ^^^ ((q1.toUInt64 >>> ((33 : Int32) &&& 0x3f).toInt64.toUInt64).toInt64)) * (-49064778989728563 : Int64)) ^^^ ((((q1 ^^^ ((q1.toUInt64 >>> ((33 : Int32) &&& 0x3f).toInt64.toUInt64).toInt64)) * (-49064778989728563 : Int64)).toUInt64 >>> ((33 : Int32) &&& 0x3f).toInt64.toUInt64).toInt64)) * (-4265267296055464877 : Int64)))]))
  refine Go.st (fun U hr => XS.lxor X0.here hx rfl (hb hby d5_27) rfl hr) ?_
  show Go p.tables e below _ (s₁.setTop (mkF m 28 #[.val (.long q1), .second, .val (.long ((((q1 ^^^ ((q1.toUInt64 >>> ((33 : Int32) &&& 0x3f).toInt64.toUInt64).toInt64)) * (-49064778989728563 : Int64)) ^^^ ((((q1 ^^^ ((q1.toUInt64 >>> ((33 : Int32) &&& 0x3f).toInt64.toUInt64).toInt64)) * (-49064778989728563 : Int64)).toUInt64 >>> ((33 : Int32) &&& 0x3f).toInt64.toUInt64).toInt64)) * (-4265267296055464877 : Int64))), .second] [(.long (((((q1 ^^^ ((q1.toUInt64 >>> ((33 : Int32) &&& 0x3f).toInt64.toUInt64).toInt64)) * (-49064778989728563 : Int64)) ^^^ ((((q1 ^^^ ((q1.toUInt64 >>> ((33 : Int32) &&& 0x3f).toInt64.toUInt64).toInt64)) * (-49064778989728563 : Int64)).toUInt64 >>> ((33 : Int32) &&& 0x3f).toInt64.toUInt64).toInt64)) * (-4265267296055464877 : Int64)) ^^^ ((((((q1 ^^^ ((q1.toUInt64 >>> ((33 : Int32) &&& 0x3f).toInt64.toUInt64).toInt64)) * (-49064778989728563 : Int64)) ^^^ ((((q1 ^^^ ((q1.toUInt64 >>> ((33 : Int32) &&& 0x3f).toInt64.toUInt64).toInt64)) * (-49064778989728563 : Int64)).toUInt64 >>> ((33 : Int32) &&& 0x3f).toInt64.toUInt64).toInt64)) * (-4265267296055464877 : Int64)).toUInt64 >>> ((33 : Int32) &&& 0x3f).toInt64.toUInt64).toInt64)))]))
  exact own_retO X0 hx Bd.notSynchronized (t := .long) Bd.returns rfl (Or.inr (Or.inl ⟨rfl, rfl, _, rfl⟩)) (hb hby d5_28) ⟨rfl, N0, e0⟩ (by decide) (by decide)
theorem d8_0 : decode jdk_65_method_30_code 0 = .ok (.iload_n 1, 1) := by decide +kernel
theorem d8_1 : decode jdk_65_method_30_code 1 = .ok (.iload_n 2, 1) := by decide +kernel
theorem d8_2 : decode jdk_65_method_30_code 2 = .ok (.if_icmp .le 44, 3) := by decide +kernel
theorem d8_46 : decode jdk_65_method_30_code 46 = .ok (.iload_n 1, 1) := by decide +kernel
theorem d8_47 : decode jdk_65_method_30_code 47 = .ok (.ifCond .ge 12, 3) := by decide +kernel
theorem d8_59 : decode jdk_65_method_30_code 59 = .ok (.iload_n 2, 1) := by decide +kernel
theorem d8_60 : decode jdk_65_method_30_code 60 = .ok (.iload_n 0, 1) := by decide +kernel
theorem d8_61 : decode jdk_65_method_30_code 61 = .ok (.if_icmp .le 12, 3) := by decide +kernel
theorem d8_73 : decode jdk_65_method_30_code 73 = .ok (.return_, 1) := by decide +kernel
theorem pn_8 : plainFor (⟨"java/util/Arrays", "rangeCheck", "(III)V"⟩ : MethodName) = true := plainFor_of_name (by first | (simp [plainName, overriddenIn]; done) | decide +kernel)
theorem ef_8 (m : MethodId) (x0 : Int32) (x1 : Int32) (x2 : Int32) : entryFrame m #[(.int x0), (.int x1), (.int x2)] 3 = mkF m 0 #[.val (.int x0), .val (.int x1), .val (.int x2)] [] := by first | (simp [entryFrame, mkF, argsToLocals, Value.category]; done) | rfl
def Q8 (Z : State) (p1 : Int32) (p3 : Int32)  (h0 : Heap) (n0 : Nat) (v : Option Value) (h : Heap) (L : List Loc) : Prop := v = none ∧ Fr n0 L ∧ h = h0
set_option maxRecDepth 65536 in
set_option maxHeartbeats 40000000 in
theorem rm8 (l : Launch) (Z : State) (a0 : Array Value) (hw : ∀ d ∈ tables_1, d.before a0 Z = true) (ws : List Jvm.Cond) (p1 : Int32) (p3 : Int32)  (h0 : Heap) (n0 : Nat) (Z0 : n0 ≤ h0.size) (hp3 : 0 ≤ p3.toInt ∧ p3.toInt ≤ p1.toInt) :
    MetFree l (⟨"java/util/Arrays", "rangeCheck", "(III)V"⟩ : MethodName) (head1 (Jvm.Cond.code (⟨"java/util/Arrays", "rangeCheck", "(III)V"⟩ : MethodName) jdk_65_method_30_code 3 none :: ws) ({ frames := 0, cells := 0, slots := 0, locals := 0 } : Room)) (fun a U => a = #[(.int p1), (.int (0 : Int32)), (.int p3)] ∧ Z.Warmed39 U.vm ∧ U.heap = h0) (fun _ _ _ _ _ => True) (fun _ U o U' => ∃ v L, o = .returned v ∧ Q8 Z p1 p3 h0 n0 v U'.heap L ∧ FrameEnd U o U' L ({ frames := 0, cells := 0, slots := 0, locals := 0 } : Room).cells ({ frames := 0, cells := 0, slots := 0, locals := 0 } : Room).slots) := by
  refine MetFree.of_bodySF pn_8 hisR ?_
  intro p e s m args below meth c s₁ Bd hml0 hP hK
  obtain ⟨rfl, hZ, hh⟩ := hP
  have hx := Bd.exec
  have hby := Bd.bytes
  have hml : c.maxLocals = 3 := hml0
  have hown : s.vm.findClass "java/util/Arrays" = some m.cls := findClass_of_methodNamed Bd.named
  have hnm := (name_of_methodNamed Bd.named Bd.method).1
  have X0 : Stand p l e ({ frames := 0, cells := 0, slots := 0, locals := 0 } : Room) s m #[(.int p1), (.int (0 : Int32)), (.int p3)] below meth c s₁ [] 0 0 := Stand.of_body Bd
  have e0 : s₁.heap = h0 := by rw [← hh, Bd.state]; rfl
  have N0 := Fr.nil n0
  refine own_start (Q := Q8 Z p1 p3 h0 n0) (own_cast (ef_8 m p1 (0 : Int32) p3) ?_)
  show Go p.tables e below _ (s₁.setTop (mkF m 0 #[.val (.int p1), .val (.int (0 : Int32)), .val (.int p3)] []))
  refine Go.st (fun U hr => XS.iloadN X0.here hx rfl (hb hby d8_0) rfl hr) ?_
  show Go p.tables e below _ (s₁.setTop (mkF m 1 #[.val (.int p1), .val (.int (0 : Int32)), .val (.int p3)] [(.int (0 : Int32))]))
  refine Go.st (fun U hr => XS.iloadN X0.here hx rfl (hb hby d8_1) rfl hr) ?_
  show Go p.tables e below _ (s₁.setTop (mkF m 2 #[.val (.int p1), .val (.int (0 : Int32)), .val (.int p3)] [(.int p3), (.int (0 : Int32))]))
  have hc2_1 : ¬ (p3 < (0 : Int32)) := own_neg hp3.1
  refine Go.st (fun U hr => XS.icmpYes X0.here hx rfl (pc0 := 2) (pc' := 46) rfl (hb hby d8_2) rfl (flt hc2_1).2.2.2 (by decide) (by decide) hr) ?_
  show Go p.tables e below _ (s₁.setTop (mkF m 46 #[.val (.int p1), .val (.int (0 : Int32)), .val (.int p3)] []))
  refine Go.st (fun U hr => XS.iloadN X0.here hx rfl (hb hby d8_46) rfl hr) ?_
  show Go p.tables e below _ (s₁.setTop (mkF m 47 #[.val (.int p1), .val (.int (0 : Int32)), .val (.int p3)] [(.int (0 : Int32))]))
  refine Go.st (fun U hr => XS.ifYes X0.here hx rfl (pc0 := 47) (pc' := 59) rfl (hb hby d8_47) rfl (by decide) (by decide) (by decide) hr) ?_
  show Go p.tables e below _ (s₁.setTop (mkF m 59 #[.val (.int p1), .val (.int (0 : Int32)), .val (.int p3)] []))
  refine Go.st (fun U hr => XS.iloadN X0.here hx rfl (hb hby d8_59) rfl hr) ?_
  show Go p.tables e below _ (s₁.setTop (mkF m 60 #[.val (.int p1), .val (.int (0 : Int32)), .val (.int p3)] [(.int p3)]))
  refine Go.st (fun U hr => XS.iloadN X0.here hx rfl (hb hby d8_60) rfl hr) ?_
  show Go p.tables e below _ (s₁.setTop (mkF m 61 #[.val (.int p1), .val (.int (0 : Int32)), .val (.int p3)] [(.int p1), (.int p3)]))
  have hc61_2 : ¬ (p1 < p3) := fun q => by rw [own_lt32] at q; omega
  refine Go.st (fun U hr => XS.icmpYes X0.here hx rfl (pc0 := 61) (pc' := 73) rfl (hb hby d8_61) rfl (flt hc61_2).2.2.2 (by decide) (by decide) hr) ?_
  show Go p.tables e below _ (s₁.setTop (mkF m 73 #[.val (.int p1), .val (.int (0 : Int32)), .val (.int p3)] []))
  exact own_ret0 X0 hx Bd.notSynchronized Bd.returns (hb hby d8_73) ⟨rfl, N0, e0⟩ (by decide) (by decide)
theorem d9_0 : decode jdk_65_method_56_code 0 = .ok (.iload_n 1, 1) := by decide +kernel
theorem d9_1 : decode jdk_65_method_56_code 1 = .ok (.istore 5, 2) := by decide +kernel
theorem d9_3 : decode jdk_65_method_56_code 3 = .ok (.iload_n 2, 1) := by decide +kernel
theorem d9_4 : decode jdk_65_method_56_code 4 = .ok (.iconst 1, 1) := by decide +kernel
theorem d9_5 : decode jdk_65_method_56_code 5 = .ok (.isub, 1) := by decide +kernel
theorem d9_6 : decode jdk_65_method_56_code 6 = .ok (.istore 6, 2) := by decide +kernel
theorem d9_8 : decode jdk_65_method_56_code 8 = .ok (.iload 5, 2) := by decide +kernel
theorem d9_10 : decode jdk_65_method_56_code 10 = .ok (.iload 6, 2) := by decide +kernel
theorem d9_12 : decode jdk_65_method_56_code 12 = .ok (.if_icmp .gt 56, 3) := by decide +kernel
theorem d9_15 : decode jdk_65_method_56_code 15 = .ok (.iload 5, 2) := by decide +kernel
theorem d9_17 : decode jdk_65_method_56_code 17 = .ok (.iload 6, 2) := by decide +kernel
theorem d9_19 : decode jdk_65_method_56_code 19 = .ok (.iadd, 1) := by decide +kernel
theorem d9_20 : decode jdk_65_method_56_code 20 = .ok (.iconst 1, 1) := by decide +kernel
theorem d9_21 : decode jdk_65_method_56_code 21 = .ok (.iushr, 1) := by decide +kernel
theorem d9_22 : decode jdk_65_method_56_code 22 = .ok (.istore 7, 2) := by decide +kernel
theorem d9_24 : decode jdk_65_method_56_code 24 = .ok (.aload_n 0, 1) := by decide +kernel
theorem d9_25 : decode jdk_65_method_56_code 25 = .ok (.iload 7, 2) := by decide +kernel
theorem d9_27 : decode jdk_65_method_56_code 27 = .ok (.laload, 1) := by decide +kernel
theorem d9_28 : decode jdk_65_method_56_code 28 = .ok (.lstore 8, 2) := by decide +kernel
theorem d9_30 : decode jdk_65_method_56_code 30 = .ok (.lload 8, 2) := by decide +kernel
theorem d9_32 : decode jdk_65_method_56_code 32 = .ok (.lload_n 3, 1) := by decide +kernel
theorem d9_33 : decode jdk_65_method_56_code 33 = .ok (.lcmp, 1) := by decide +kernel
theorem d9_34 : decode jdk_65_method_56_code 34 = .ok (.ifCond .ge 12, 3) := by decide +kernel
theorem d9_37 : decode jdk_65_method_56_code 37 = .ok (.iload 7, 2) := by decide +kernel
theorem d9_39 : decode jdk_65_method_56_code 39 = .ok (.iconst 1, 1) := by decide +kernel
theorem d9_40 : decode jdk_65_method_56_code 40 = .ok (.iadd, 1) := by decide +kernel
theorem d9_41 : decode jdk_65_method_56_code 41 = .ok (.istore 5, 2) := by decide +kernel
theorem d9_43 : decode jdk_65_method_56_code 43 = .ok (.goto 22, 3) := by decide +kernel
theorem d9_46 : decode jdk_65_method_56_code 46 = .ok (.lload 8, 2) := by decide +kernel
theorem d9_48 : decode jdk_65_method_56_code 48 = .ok (.lload_n 3, 1) := by decide +kernel
theorem d9_49 : decode jdk_65_method_56_code 49 = .ok (.lcmp, 1) := by decide +kernel
theorem d9_50 : decode jdk_65_method_56_code 50 = .ok (.ifCond .le 12, 3) := by decide +kernel
theorem d9_53 : decode jdk_65_method_56_code 53 = .ok (.iload 7, 2) := by decide +kernel
theorem d9_55 : decode jdk_65_method_56_code 55 = .ok (.iconst 1, 1) := by decide +kernel
theorem d9_56 : decode jdk_65_method_56_code 56 = .ok (.isub, 1) := by decide +kernel
theorem d9_57 : decode jdk_65_method_56_code 57 = .ok (.istore 6, 2) := by decide +kernel
theorem d9_59 : decode jdk_65_method_56_code 59 = .ok (.goto 6, 3) := by decide +kernel
theorem d9_62 : decode jdk_65_method_56_code 62 = .ok (.iload 7, 2) := by decide +kernel
theorem d9_64 : decode jdk_65_method_56_code 64 = .ok (.ireturn, 1) := by decide +kernel
theorem d9_65 : decode jdk_65_method_56_code 65 = .ok (.goto (-57), 3) := by decide +kernel
theorem d9_68 : decode jdk_65_method_56_code 68 = .ok (.iload 5, 2) := by decide +kernel
theorem d9_70 : decode jdk_65_method_56_code 70 = .ok (.iconst 1, 1) := by decide +kernel
theorem d9_71 : decode jdk_65_method_56_code 71 = .ok (.iadd, 1) := by decide +kernel
theorem d9_72 : decode jdk_65_method_56_code 72 = .ok (.ineg, 1) := by decide +kernel
theorem d9_73 : decode jdk_65_method_56_code 73 = .ok (.ireturn, 1) := by decide +kernel
theorem pn_9 : plainFor (⟨"java/util/Arrays", "binarySearch0", "([JIIJ)I"⟩ : MethodName) = true := plainFor_of_name (by first | (simp [plainName, overriddenIn]; done) | decide +kernel)
theorem ef_9 (m : MethodId) (x0 : Addr) (x1 : Int32) (x2 : Int32) (x3 : Int64) : entryFrame m #[(.ref x0), (.int x1), (.int x2), (.long x3)] 10 = mkF m 0 #[.val (.ref x0), .val (.int x1), .val (.int x2), .val (.long x3), .second, .unset, .unset, .unset, .unset, .unset] [] := by first | (simp [entryFrame, mkF, argsToLocals, Value.category]; done) | rfl
def Q9 (Z : State) (a1 : Addr) (p3 : Int32) (q4 : Int64) (kr : ClassId) (z : Int32) (vs : List Int64) (k : Nat) (h0 : Heap) (n0 : Nat) (v : Option Value) (h : Heap) (L : List Loc) : Prop := ∃ r : Int32, v = some (.int r) ∧ Fr n0 L ∧ h = h0 ∧ own_Bs vs k q4 r
set_option maxRecDepth 65536 in
set_option maxHeartbeats 40000000 in
theorem rm9 (l : Launch) (Z : State) (a0 : Array Value) (hw : ∀ d ∈ tables_1, d.before a0 Z = true) (ws : List Jvm.Cond) (a1 : Addr) (p3 : Int32) (q4 : Int64) (kr : ClassId) (z : Int32) (vs : List Int64) (k : Nat) (h0 : Heap) (n0 : Nat) (Z0 : n0 ≤ h0.size) (V1 : Arv Z h0 a1 kr .long z (vs.map Value.long) (.long (0 : Int64))) (hz : z = 4 ∨ z = 8) (hk : p3.toInt = k ∧ (k : Int) ≤ z.toInt) (hs : own_Srt vs k) :
    MetFree l (⟨"java/util/Arrays", "binarySearch0", "([JIIJ)I"⟩ : MethodName) (head1 (Jvm.Cond.code (⟨"java/util/Arrays", "binarySearch0", "([JIIJ)I"⟩ : MethodName) jdk_65_method_56_code 10 (some .int) :: ws) ({ frames := 0, cells := 0, slots := 0, locals := 0 } : Room)) (fun a U => a = #[(.ref a1), (.int (0 : Int32)), (.int p3), (.long q4)] ∧ Z.Warmed39 U.vm ∧ U.heap = h0) (fun _ _ _ _ _ => True) (fun _ U o U' => ∃ v L, o = .returned v ∧ Q9 Z a1 p3 q4 kr z vs k h0 n0 v U'.heap L ∧ FrameEnd U o U' L ({ frames := 0, cells := 0, slots := 0, locals := 0 } : Room).cells ({ frames := 0, cells := 0, slots := 0, locals := 0 } : Room).slots) := by
  refine MetFree.of_bodySF pn_9 hisR ?_
  intro p e s m args below meth c s₁ Bd hml0 hP hK
  obtain ⟨rfl, hZ, hh⟩ := hP
  have hx := Bd.exec
  have hby := Bd.bytes
  have hml : c.maxLocals = 10 := hml0
  have hown : s.vm.findClass "java/util/Arrays" = some m.cls := findClass_of_methodNamed Bd.named
  have hnm := (name_of_methodNamed Bd.named Bd.method).1
  have X0 : Stand p l e ({ frames := 0, cells := 0, slots := 0, locals := 0 } : Room) s m #[(.ref a1), (.int (0 : Int32)), (.int p3), (.long q4)] below meth c s₁ [] 0 0 := Stand.of_body Bd
  have e0 : s₁.heap = h0 := by rw [← hh, Bd.state]; rfl
  have N0 := Fr.nil n0
  refine own_start (Q := Q9 Z a1 p3 q4 kr z vs k h0 n0) (own_cast (ef_9 m a1 (0 : Int32) p3 q4) ?_)
  show Go p.tables e below _ (s₁.setTop (mkF m 0 #[.val (.ref a1), .val (.int (0 : Int32)), .val (.int p3), .val (.long q4), .second, .unset, .unset, .unset, .unset, .unset] []))
  refine Go.st (fun U hr => XS.iloadN X0.here hx rfl (hb hby d9_0) rfl hr) ?_
  show Go p.tables e below _ (s₁.setTop (mkF m 1 #[.val (.ref a1), .val (.int (0 : Int32)), .val (.int p3), .val (.long q4), .second, .unset, .unset, .unset, .unset, .unset] [(.int (0 : Int32))]))
  refine Go.st (fun U hr => XS.istore X0.here hx rfl (hb hby d9_1) rfl (l' := #[.val (.ref a1), .val (.int (0 : Int32)), .val (.int p3), .val (.long q4), .second, .val (.int (0 : Int32)), .unset, .unset, .unset, .unset]) rfl hr) ?_
  show Go p.tables e below _ (s₁.setTop (mkF m 3 #[.val (.ref a1), .val (.int (0 : Int32)), .val (.int p3), .val (.long q4), .second, .val (.int (0 : Int32)), .unset, .unset, .unset, .unset] []))
  refine Go.st (fun U hr => XS.iloadN X0.here hx rfl (hb hby d9_3) rfl hr) ?_
  show Go p.tables e below _ (s₁.setTop (mkF m 4 #[.val (.ref a1), .val (.int (0 : Int32)), .val (.int p3), .val (.long q4), .second, .val (.int (0 : Int32)), .unset, .unset, .unset, .unset] [(.int p3)]))
  refine Go.st (fun U hr => XS.iconst X0.here hx rfl (hb hby d9_4) hr) ?_
  show Go p.tables e below _ (s₁.setTop (mkF m 5 #[.val (.ref a1), .val (.int (0 : Int32)), .val (.int p3), .val (.long q4), .second, .val (.int (0 : Int32)), .unset, .unset, .unset, .unset] [(.int (1 : Int32)), (.int p3)]))
  refine Go.st (fun U hr => XS.isub X0.here hx rfl (hb hby d9_5) rfl hr) ?_
  show Go p.tables e below _ (s₁.setTop (mkF m 6 #[.val (.ref a1), .val (.int (0 : Int32)), .val (.int p3), .val (.long q4), .second, .val (.int (0 : Int32)), .unset, .unset, .unset, .unset] [(.int (p3 - (1 : Int32)))]))
  refine Go.st (fun U hr => XS.istore X0.here hx rfl (hb hby d9_6) rfl (l' := #[.val (.ref a1), .val (.int (0 : Int32)), .val (.int p3), .val (.long q4), .second, .val (.int (0 : Int32)), .val (.int (p3 - (1 : Int32))), .unset, .unset, .unset]) rfl hr) ?_
  show Go p.tables e below _ (s₁.setTop (mkF m 8 #[.val (.ref a1), .val (.int (0 : Int32)), .val (.int p3), .val (.long q4), .second, .val (.int (0 : Int32)), .val (.int (p3 - (1 : Int32))), .unset, .unset, .unset] []))
  have hN := own_zN hz
  have loop : ∀ (n : Nat) (lo hi m7 : Int32) (v8 : Int64), hi.toInt - lo.toInt + 1 ≤ n → (0 ≤ lo.toInt ∧ lo.toInt ≤ hi.toInt + 1 ∧ hi.toInt < k) → (∀ i : Nat, (i : Int) < lo.toInt → own_k vs i < q4) → (∀ i : Nat, hi.toInt < (i : Int) → i < k → q4 < own_k vs i) → Go p.tables e below (own_Fin s below ({ frames := 0, cells := 0, slots := 0, locals := 0 } : Room).cells ({ frames := 0, cells := 0, slots := 0, locals := 0 } : Room).slots (Q9 Z a1 p3 q4 kr z vs k h0 n0)) (s₁.setTop (mkF m 8 #[.val (.ref a1), .val (.int (0 : Int32)), .val (.int p3), .val (.long q4), .second, .val (.int lo), .val (.int hi), .val (.int m7), .val (.long v8), .second] [])) := by
    intro n
    induction n with
    | zero =>
      intro lo hi m7 v8 hn hbd hl hg
      refine Go.st (fun U hr => XS.iload X0.here hx rfl (hb hby d9_8) rfl hr) ?_
      show Go p.tables e below _ (s₁.setTop (mkF m 10 #[.val (.ref a1), .val (.int (0 : Int32)), .val (.int p3), .val (.long q4), .second, .val (.int lo), .val (.int hi), .val (.int m7), .val (.long v8), .second] [(.int lo)]))
      refine Go.st (fun U hr => XS.iload X0.here hx rfl (hb hby d9_10) rfl hr) ?_
      show Go p.tables e below _ (s₁.setTop (mkF m 12 #[.val (.ref a1), .val (.int (0 : Int32)), .val (.int p3), .val (.long q4), .second, .val (.int lo), .val (.int hi), .val (.int m7), .val (.long v8), .second] [(.int hi), (.int lo)]))
      have hc12_1 : hi < lo := by rw [own_lt32]; omega
      refine Go.st (fun U hr => XS.icmpYes X0.here hx rfl (pc0 := 12) (pc' := 68) rfl (hb hby d9_12) rfl (tlt hc12_1).2.2.1 (by decide) (by decide) hr) ?_
      show Go p.tables e below _ (s₁.setTop (mkF m 68 #[.val (.ref a1), .val (.int (0 : Int32)), .val (.int p3), .val (.long q4), .second, .val (.int lo), .val (.int hi), .val (.int m7), .val (.long v8), .second] []))
      refine Go.st (fun U hr => XS.iload X0.here hx rfl (hb hby d9_68) rfl hr) ?_
      show Go p.tables e below _ (s₁.setTop (mkF m 70 #[.val (.ref a1), .val (.int (0 : Int32)), .val (.int p3), .val (.long q4), .second, .val (.int lo), .val (.int hi), .val (.int m7), .val (.long v8), .second] [(.int lo)]))
      refine Go.st (fun U hr => XS.iconst X0.here hx rfl (hb hby d9_70) hr) ?_
      show Go p.tables e below _ (s₁.setTop (mkF m 71 #[.val (.ref a1), .val (.int (0 : Int32)), .val (.int p3), .val (.long q4), .second, .val (.int lo), .val (.int hi), .val (.int m7), .val (.long v8), .second] [(.int (1 : Int32)), (.int lo)]))
      refine Go.st (fun U hr => XS.iadd X0.here hx rfl (hb hby d9_71) rfl hr) ?_
      show Go p.tables e below _ (s₁.setTop (mkF m 72 #[.val (.ref a1), .val (.int (0 : Int32)), .val (.int p3), .val (.long q4), .second, .val (.int lo), .val (.int hi), .val (.int m7), .val (.long v8), .second] [(.int (lo + (1 : Int32)))]))
      refine Go.st (fun U hr => XS.ineg X0.here hx rfl (hb hby d9_72) rfl hr) ?_
      show Go p.tables e below _ (s₁.setTop (mkF m 73 #[.val (.ref a1), .val (.int (0 : Int32)), .val (.int p3), .val (.long q4), .second, .val (.int lo), .val (.int hi), .val (.int m7), .val (.long v8), .second] [(.int (-(lo + (1 : Int32))))]))
      have hgt2 := (own_lt32 _ _).mp hc12_1
      have hl1 : (lo + 1).toInt = lo.toInt + 1 := by
        have h1 := c_iadd lo 1
        rw [show (1 : Int32).toInt = 1 from by decide] at h1
        have r1 := rng32 (lo + 1)
        omega
      have hl2 : (-(lo + 1)).toInt = -(lo.toInt + 1) := by
        have h1 := c_ineg (lo + 1)
        have r1 := rng32 (-(lo + 1))
        omega
      have hln := own_nat hbd.1
      exact own_retO X0 hx Bd.notSynchronized (t := .int) Bd.returns rfl (Or.inl ⟨rfl, Or.inl rfl, _, rfl⟩) (hb hby d9_73) ⟨_, rfl, N0, e0, Or.inr ⟨lo.toNatClampNeg, by rw [hl2]; omega, by omega, fun i q => hl i (by omega), fun i q q2 => hg i (by omega) q2⟩⟩ (by decide) (by decide)
    | succ n ih =>
      intro lo hi m7 v8 hn hbd hl hg
      refine Go.st (fun U hr => XS.iload X0.here hx rfl (hb hby d9_8) rfl hr) ?_
      show Go p.tables e below _ (s₁.setTop (mkF m 10 #[.val (.ref a1), .val (.int (0 : Int32)), .val (.int p3), .val (.long q4), .second, .val (.int lo), .val (.int hi), .val (.int m7), .val (.long v8), .second] [(.int lo)]))
      refine Go.st (fun U hr => XS.iload X0.here hx rfl (hb hby d9_10) rfl hr) ?_
      show Go p.tables e below _ (s₁.setTop (mkF m 12 #[.val (.ref a1), .val (.int (0 : Int32)), .val (.int p3), .val (.long q4), .second, .val (.int lo), .val (.int hi), .val (.int m7), .val (.long v8), .second] [(.int hi), (.int lo)]))
      by_cases hc12_2 : hi < lo
      · refine Go.st (fun U hr => XS.icmpYes X0.here hx rfl (pc0 := 12) (pc' := 68) rfl (hb hby d9_12) rfl (tlt hc12_2).2.2.1 (by decide) (by decide) hr) ?_
        show Go p.tables e below _ (s₁.setTop (mkF m 68 #[.val (.ref a1), .val (.int (0 : Int32)), .val (.int p3), .val (.long q4), .second, .val (.int lo), .val (.int hi), .val (.int m7), .val (.long v8), .second] []))
        refine Go.st (fun U hr => XS.iload X0.here hx rfl (hb hby d9_68) rfl hr) ?_
        show Go p.tables e below _ (s₁.setTop (mkF m 70 #[.val (.ref a1), .val (.int (0 : Int32)), .val (.int p3), .val (.long q4), .second, .val (.int lo), .val (.int hi), .val (.int m7), .val (.long v8), .second] [(.int lo)]))
        refine Go.st (fun U hr => XS.iconst X0.here hx rfl (hb hby d9_70) hr) ?_
        show Go p.tables e below _ (s₁.setTop (mkF m 71 #[.val (.ref a1), .val (.int (0 : Int32)), .val (.int p3), .val (.long q4), .second, .val (.int lo), .val (.int hi), .val (.int m7), .val (.long v8), .second] [(.int (1 : Int32)), (.int lo)]))
        refine Go.st (fun U hr => XS.iadd X0.here hx rfl (hb hby d9_71) rfl hr) ?_
        show Go p.tables e below _ (s₁.setTop (mkF m 72 #[.val (.ref a1), .val (.int (0 : Int32)), .val (.int p3), .val (.long q4), .second, .val (.int lo), .val (.int hi), .val (.int m7), .val (.long v8), .second] [(.int (lo + (1 : Int32)))]))
        refine Go.st (fun U hr => XS.ineg X0.here hx rfl (hb hby d9_72) rfl hr) ?_
        show Go p.tables e below _ (s₁.setTop (mkF m 73 #[.val (.ref a1), .val (.int (0 : Int32)), .val (.int p3), .val (.long q4), .second, .val (.int lo), .val (.int hi), .val (.int m7), .val (.long v8), .second] [(.int (-(lo + (1 : Int32))))]))
        have hgt2 := (own_lt32 _ _).mp hc12_2
        have hl1 : (lo + 1).toInt = lo.toInt + 1 := by
          have h1 := c_iadd lo 1
          rw [show (1 : Int32).toInt = 1 from by decide] at h1
          have r1 := rng32 (lo + 1)
          omega
        have hl2 : (-(lo + 1)).toInt = -(lo.toInt + 1) := by
          have h1 := c_ineg (lo + 1)
          have r1 := rng32 (-(lo + 1))
          omega
        have hln := own_nat hbd.1
        exact own_retO X0 hx Bd.notSynchronized (t := .int) Bd.returns rfl (Or.inl ⟨rfl, Or.inl rfl, _, rfl⟩) (hb hby d9_73) ⟨_, rfl, N0, e0, Or.inr ⟨lo.toNatClampNeg, by rw [hl2]; omega, by omega, fun i q => hl i (by omega), fun i q q2 => hg i (by omega) q2⟩⟩ (by decide) (by decide)
      · refine Go.st (fun U hr => XS.icmpNo X0.here hx rfl (hb hby d9_12) rfl (flt hc12_2).2.2.1 hr) ?_
        show Go p.tables e below _ (s₁.setTop (mkF m 15 #[.val (.ref a1), .val (.int (0 : Int32)), .val (.int p3), .val (.long q4), .second, .val (.int lo), .val (.int hi), .val (.int m7), .val (.long v8), .second] []))
        refine Go.st (fun U hr => XS.iload X0.here hx rfl (hb hby d9_15) rfl hr) ?_
        show Go p.tables e below _ (s₁.setTop (mkF m 17 #[.val (.ref a1), .val (.int (0 : Int32)), .val (.int p3), .val (.long q4), .second, .val (.int lo), .val (.int hi), .val (.int m7), .val (.long v8), .second] [(.int lo)]))
        refine Go.st (fun U hr => XS.iload X0.here hx rfl (hb hby d9_17) rfl hr) ?_
        show Go p.tables e below _ (s₁.setTop (mkF m 19 #[.val (.ref a1), .val (.int (0 : Int32)), .val (.int p3), .val (.long q4), .second, .val (.int lo), .val (.int hi), .val (.int m7), .val (.long v8), .second] [(.int hi), (.int lo)]))
        refine Go.st (fun U hr => XS.iadd X0.here hx rfl (hb hby d9_19) rfl hr) ?_
        show Go p.tables e below _ (s₁.setTop (mkF m 20 #[.val (.ref a1), .val (.int (0 : Int32)), .val (.int p3), .val (.long q4), .second, .val (.int lo), .val (.int hi), .val (.int m7), .val (.long v8), .second] [(.int (lo + hi))]))
        refine Go.st (fun U hr => XS.iconst X0.here hx rfl (hb hby d9_20) hr) ?_
        show Go p.tables e below _ (s₁.setTop (mkF m 21 #[.val (.ref a1), .val (.int (0 : Int32)), .val (.int p3), .val (.long q4), .second, .val (.int lo), .val (.int hi), .val (.int m7), .val (.long v8), .second] [(.int (1 : Int32)), (.int (lo + hi))]))
        refine Go.st (fun U hr => XS.iushr X0.here hx rfl (hb hby d9_21) rfl hr) ?_
        show Go p.tables e below _ (s₁.setTop (mkF m 22 #[.val (.ref a1), .val (.int (0 : Int32)), .val (.int p3), .val (.long q4), .second, .val (.int lo), .val (.int hi), .val (.int m7), .val (.long v8), .second] [(.int (((lo + hi).toUInt32 >>> ((1 : Int32) &&& 31).toUInt32).toInt32))]))
        refine Go.st (fun U hr => XS.istore X0.here hx rfl (hb hby d9_22) rfl (l' := #[.val (.ref a1), .val (.int (0 : Int32)), .val (.int p3), .val (.long q4), .second, .val (.int lo), .val (.int hi), .val (.int (((lo + hi).toUInt32 >>> ((1 : Int32) &&& 31).toUInt32).toInt32)), .val (.long v8), .second]) rfl hr) ?_
        show Go p.tables e below _ (s₁.setTop (mkF m 24 #[.val (.ref a1), .val (.int (0 : Int32)), .val (.int p3), .val (.long q4), .second, .val (.int lo), .val (.int hi), .val (.int (((lo + hi).toUInt32 >>> ((1 : Int32) &&& 31).toUInt32).toInt32)), .val (.long v8), .second] []))
        generalize h_md : (((lo + hi).toUInt32 >>> ((1 : Int32) &&& 31).toUInt32).toInt32) = md
        have hle : ¬ hi.toInt < lo.toInt := fun q => hc12_2 ((own_lt32 _ _).mpr q)
        have hmd : md.toInt = (lo.toInt + hi.toInt) / 2 := by rw [← h_md]; exact own_mid lo hi ⟨hbd.1, by omega⟩ ⟨by omega, by omega⟩
        have hmr : 0 ≤ md.toInt ∧ md.toInt < z.toInt := by omega
        have hmn := own_nat hmr.1
        have hm1 : (md + 1).toInt = md.toInt + 1 := by
          have h1 := c_iadd md 1
          rw [show (1 : Int32).toInt = 1 from by decide] at h1
          have r1 := rng32 (md + 1)
          omega
        have hm2 : (md - 1).toInt = md.toInt - 1 := by
          have h1 := c_isub md 1
          rw [show (1 : Int32).toInt = 1 from by decide] at h1
          have r1 := rng32 (md - 1)
          omega
        refine Go.st (fun U hr => XS.aloadN X0.here hx rfl (hb hby d9_24) rfl rfl hr) ?_
        show Go p.tables e below _ (s₁.setTop (mkF m 25 #[.val (.ref a1), .val (.int (0 : Int32)), .val (.int p3), .val (.long q4), .second, .val (.int lo), .val (.int hi), .val (.int md), .val (.long v8), .second] [(.ref a1)]))
        refine Go.st (fun U hr => XS.iload X0.here hx rfl (hb hby d9_25) rfl hr) ?_
        show Go p.tables e below _ (s₁.setTop (mkF m 27 #[.val (.ref a1), .val (.int (0 : Int32)), .val (.int p3), .val (.long q4), .second, .val (.int lo), .val (.int hi), .val (.int md), .val (.long v8), .second] [(.int md), (.ref a1)]))
        obtain ⟨cl3, Ar3, qa3, Sa3, Na3, Ha3, Ga3⟩ := id V1
        have hin3 : ¬ (md < 0 ∨ cl3.slots.size ≤ (md).toNatClampNeg) := inb_of Sa3 (own_inb hmr)
        refine Go.st (X0.laload hx (j := md) (v := (.long (own_k vs md.toNatClampNeg))) (by rw [e0]; exact Ar3.1) (State.isArrayOf_alike hZ.alike Ar3.2.1) Ar3.2.2 hin3 (Ha3.at hin3 (own_gL vs _)) (g := (mkF m 27 #[.val (.ref a1), .val (.int (0 : Int32)), .val (.int p3), .val (.long q4), .second, .val (.int lo), .val (.int hi), .val (.int md), .val (.long v8), .second] [(.int md), (.ref a1)])) rfl rfl (hb hby d9_27)) ?_
        show Go p.tables e below _ (s₁.setTop (mkF m 28 #[.val (.ref a1), .val (.int (0 : Int32)), .val (.int p3), .val (.long q4), .second, .val (.int lo), .val (.int hi), .val (.int md), .val (.long v8), .second] [(.long (own_k vs md.toNatClampNeg))]))
        refine Go.st (fun U hr => XS.lstore X0.here hx rfl (hb hby d9_28) rfl (l' := #[.val (.ref a1), .val (.int (0 : Int32)), .val (.int p3), .val (.long q4), .second, .val (.int lo), .val (.int hi), .val (.int md), .val (.long (own_k vs md.toNatClampNeg)), .second]) rfl hr) ?_
        show Go p.tables e below _ (s₁.setTop (mkF m 30 #[.val (.ref a1), .val (.int (0 : Int32)), .val (.int p3), .val (.long q4), .second, .val (.int lo), .val (.int hi), .val (.int md), .val (.long (own_k vs md.toNatClampNeg)), .second] []))
        refine Go.st (fun U hr => XS.lload X0.here hx rfl (hb hby d9_30) rfl hr) ?_
        show Go p.tables e below _ (s₁.setTop (mkF m 32 #[.val (.ref a1), .val (.int (0 : Int32)), .val (.int p3), .val (.long q4), .second, .val (.int lo), .val (.int hi), .val (.int md), .val (.long (own_k vs md.toNatClampNeg)), .second] [(.long (own_k vs md.toNatClampNeg))]))
        refine Go.st (fun U hr => XS.lloadN X0.here hx rfl (hb hby d9_32) rfl hr) ?_
        show Go p.tables e below _ (s₁.setTop (mkF m 33 #[.val (.ref a1), .val (.int (0 : Int32)), .val (.int p3), .val (.long q4), .second, .val (.int lo), .val (.int hi), .val (.int md), .val (.long (own_k vs md.toNatClampNeg)), .second] [(.long q4), (.long (own_k vs md.toNatClampNeg))]))
        refine Go.st (fun U hr => XS.lcmp X0.here hx rfl (hb hby d9_33) rfl hr) ?_
        show Go p.tables e below _ (s₁.setTop (mkF m 34 #[.val (.ref a1), .val (.int (0 : Int32)), .val (.int p3), .val (.long q4), .second, .val (.int lo), .val (.int hi), .val (.int md), .val (.long (own_k vs md.toNatClampNeg)), .second] [(.int (lcmpW (own_k vs md.toNatClampNeg) q4))]))
        by_cases hc34_4 : (own_k vs md.toNatClampNeg) < q4
        · refine Go.st (fun U hr => XS.ifNo X0.here hx rfl (hb hby d9_34) rfl ((if0 _ _).trans (tlt ((lw_lt (own_k vs md.toNatClampNeg) q4).2 hc34_4)).2.1) hr) ?_
          show Go p.tables e below _ (s₁.setTop (mkF m 37 #[.val (.ref a1), .val (.int (0 : Int32)), .val (.int p3), .val (.long q4), .second, .val (.int lo), .val (.int hi), .val (.int md), .val (.long (own_k vs md.toNatClampNeg)), .second] []))
          have hlt := hc34_4
          refine Go.st (fun U hr => XS.iload X0.here hx rfl (hb hby d9_37) rfl hr) ?_
          show Go p.tables e below _ (s₁.setTop (mkF m 39 #[.val (.ref a1), .val (.int (0 : Int32)), .val (.int p3), .val (.long q4), .second, .val (.int lo), .val (.int hi), .val (.int md), .val (.long (own_k vs md.toNatClampNeg)), .second] [(.int md)]))
          refine Go.st (fun U hr => XS.iconst X0.here hx rfl (hb hby d9_39) hr) ?_
          show Go p.tables e below _ (s₁.setTop (mkF m 40 #[.val (.ref a1), .val (.int (0 : Int32)), .val (.int p3), .val (.long q4), .second, .val (.int lo), .val (.int hi), .val (.int md), .val (.long (own_k vs md.toNatClampNeg)), .second] [(.int (1 : Int32)), (.int md)]))
          refine Go.st (fun U hr => XS.iadd X0.here hx rfl (hb hby d9_40) rfl hr) ?_
          show Go p.tables e below _ (s₁.setTop (mkF m 41 #[.val (.ref a1), .val (.int (0 : Int32)), .val (.int p3), .val (.long q4), .second, .val (.int lo), .val (.int hi), .val (.int md), .val (.long (own_k vs md.toNatClampNeg)), .second] [(.int (md + (1 : Int32)))]))
          refine Go.st (fun U hr => XS.istore X0.here hx rfl (hb hby d9_41) rfl (l' := #[.val (.ref a1), .val (.int (0 : Int32)), .val (.int p3), .val (.long q4), .second, .val (.int (md + (1 : Int32))), .val (.int hi), .val (.int md), .val (.long (own_k vs md.toNatClampNeg)), .second]) rfl hr) ?_
          show Go p.tables e below _ (s₁.setTop (mkF m 43 #[.val (.ref a1), .val (.int (0 : Int32)), .val (.int p3), .val (.long q4), .second, .val (.int (md + (1 : Int32))), .val (.int hi), .val (.int md), .val (.long (own_k vs md.toNatClampNeg)), .second] []))
          refine Go.st (fun U hr => XS.goto X0.here hx rfl (pc0 := 43) (pc' := 65) rfl (hb hby d9_43) (by decide) (by decide) hr) ?_
          show Go p.tables e below _ (s₁.setTop (mkF m 65 #[.val (.ref a1), .val (.int (0 : Int32)), .val (.int p3), .val (.long q4), .second, .val (.int (md + (1 : Int32))), .val (.int hi), .val (.int md), .val (.long (own_k vs md.toNatClampNeg)), .second] []))
          refine Go.st (fun U hr => XS.goto X0.here hx rfl (pc0 := 65) (pc' := 8) rfl (hb hby d9_65) (by decide) (by decide) hr) ?_
          show Go p.tables e below _ (s₁.setTop (mkF m 8 #[.val (.ref a1), .val (.int (0 : Int32)), .val (.int p3), .val (.long q4), .second, .val (.int (md + (1 : Int32))), .val (.int hi), .val (.int md), .val (.long (own_k vs md.toNatClampNeg)), .second] []))
          exact ih _ _ _ _ (by rw [hm1]; omega) ⟨by rw [hm1]; omega, by rw [hm1]; omega, hbd.2.2⟩ (fun i hi' => by
            rw [hm1] at hi'
            by_cases q : (i : Int) = md.toInt
            · have e : i = md.toNatClampNeg := by omega
              rw [e]; exact hlt
            · by_cases q2 : (i : Int) < md.toInt
              · have := hs i md.toNatClampNeg (by omega) (by omega)
                exact Int64.lt_trans this hlt
              · omega) hg
        · refine Go.st (fun U hr => XS.ifYes X0.here hx rfl (pc0 := 34) (pc' := 46) rfl (hb hby d9_34) rfl ((if0 _ _).trans (flt (fun q => hc34_4 ((lw_lt (own_k vs md.toNatClampNeg) q4).1 q))).2.1) (by decide) (by decide) hr) ?_
          show Go p.tables e below _ (s₁.setTop (mkF m 46 #[.val (.ref a1), .val (.int (0 : Int32)), .val (.int p3), .val (.long q4), .second, .val (.int lo), .val (.int hi), .val (.int md), .val (.long (own_k vs md.toNatClampNeg)), .second] []))
          refine Go.st (fun U hr => XS.lload X0.here hx rfl (hb hby d9_46) rfl hr) ?_
          show Go p.tables e below _ (s₁.setTop (mkF m 48 #[.val (.ref a1), .val (.int (0 : Int32)), .val (.int p3), .val (.long q4), .second, .val (.int lo), .val (.int hi), .val (.int md), .val (.long (own_k vs md.toNatClampNeg)), .second] [(.long (own_k vs md.toNatClampNeg))]))
          refine Go.st (fun U hr => XS.lloadN X0.here hx rfl (hb hby d9_48) rfl hr) ?_
          show Go p.tables e below _ (s₁.setTop (mkF m 49 #[.val (.ref a1), .val (.int (0 : Int32)), .val (.int p3), .val (.long q4), .second, .val (.int lo), .val (.int hi), .val (.int md), .val (.long (own_k vs md.toNatClampNeg)), .second] [(.long q4), (.long (own_k vs md.toNatClampNeg))]))
          refine Go.st (fun U hr => XS.lcmp X0.here hx rfl (hb hby d9_49) rfl hr) ?_
          show Go p.tables e below _ (s₁.setTop (mkF m 50 #[.val (.ref a1), .val (.int (0 : Int32)), .val (.int p3), .val (.long q4), .second, .val (.int lo), .val (.int hi), .val (.int md), .val (.long (own_k vs md.toNatClampNeg)), .second] [(.int (lcmpW (own_k vs md.toNatClampNeg) q4))]))
          by_cases hc50_5 : q4 < (own_k vs md.toNatClampNeg)
          · refine Go.st (fun U hr => XS.ifNo X0.here hx rfl (hb hby d9_50) rfl ((if0 _ _).trans (tlt ((lw_gt (own_k vs md.toNatClampNeg) q4).2 hc50_5)).2.2.2) hr) ?_
            show Go p.tables e below _ (s₁.setTop (mkF m 53 #[.val (.ref a1), .val (.int (0 : Int32)), .val (.int p3), .val (.long q4), .second, .val (.int lo), .val (.int hi), .val (.int md), .val (.long (own_k vs md.toNatClampNeg)), .second] []))
            have hgt := hc50_5
            refine Go.st (fun U hr => XS.iload X0.here hx rfl (hb hby d9_53) rfl hr) ?_
            show Go p.tables e below _ (s₁.setTop (mkF m 55 #[.val (.ref a1), .val (.int (0 : Int32)), .val (.int p3), .val (.long q4), .second, .val (.int lo), .val (.int hi), .val (.int md), .val (.long (own_k vs md.toNatClampNeg)), .second] [(.int md)]))
            refine Go.st (fun U hr => XS.iconst X0.here hx rfl (hb hby d9_55) hr) ?_
            show Go p.tables e below _ (s₁.setTop (mkF m 56 #[.val (.ref a1), .val (.int (0 : Int32)), .val (.int p3), .val (.long q4), .second, .val (.int lo), .val (.int hi), .val (.int md), .val (.long (own_k vs md.toNatClampNeg)), .second] [(.int (1 : Int32)), (.int md)]))
            refine Go.st (fun U hr => XS.isub X0.here hx rfl (hb hby d9_56) rfl hr) ?_
            show Go p.tables e below _ (s₁.setTop (mkF m 57 #[.val (.ref a1), .val (.int (0 : Int32)), .val (.int p3), .val (.long q4), .second, .val (.int lo), .val (.int hi), .val (.int md), .val (.long (own_k vs md.toNatClampNeg)), .second] [(.int (md - (1 : Int32)))]))
            refine Go.st (fun U hr => XS.istore X0.here hx rfl (hb hby d9_57) rfl (l' := #[.val (.ref a1), .val (.int (0 : Int32)), .val (.int p3), .val (.long q4), .second, .val (.int lo), .val (.int (md - (1 : Int32))), .val (.int md), .val (.long (own_k vs md.toNatClampNeg)), .second]) rfl hr) ?_
            show Go p.tables e below _ (s₁.setTop (mkF m 59 #[.val (.ref a1), .val (.int (0 : Int32)), .val (.int p3), .val (.long q4), .second, .val (.int lo), .val (.int (md - (1 : Int32))), .val (.int md), .val (.long (own_k vs md.toNatClampNeg)), .second] []))
            refine Go.st (fun U hr => XS.goto X0.here hx rfl (pc0 := 59) (pc' := 65) rfl (hb hby d9_59) (by decide) (by decide) hr) ?_
            show Go p.tables e below _ (s₁.setTop (mkF m 65 #[.val (.ref a1), .val (.int (0 : Int32)), .val (.int p3), .val (.long q4), .second, .val (.int lo), .val (.int (md - (1 : Int32))), .val (.int md), .val (.long (own_k vs md.toNatClampNeg)), .second] []))
            refine Go.st (fun U hr => XS.goto X0.here hx rfl (pc0 := 65) (pc' := 8) rfl (hb hby d9_65) (by decide) (by decide) hr) ?_
            show Go p.tables e below _ (s₁.setTop (mkF m 8 #[.val (.ref a1), .val (.int (0 : Int32)), .val (.int p3), .val (.long q4), .second, .val (.int lo), .val (.int (md - (1 : Int32))), .val (.int md), .val (.long (own_k vs md.toNatClampNeg)), .second] []))
            exact ih _ _ _ _ (by rw [hm2]; omega) ⟨hbd.1, by rw [hm2]; omega, by rw [hm2]; omega⟩ hl (fun i hi' hik => by
              rw [hm2] at hi'
              by_cases q : (i : Int) = md.toInt
              · have e : i = md.toNatClampNeg := by omega
                rw [e]; exact hgt
              · have := hs md.toNatClampNeg i (by omega) (by omega)
                exact Int64.lt_trans hgt this)
          · refine Go.st (fun U hr => XS.ifYes X0.here hx rfl (pc0 := 50) (pc' := 62) rfl (hb hby d9_50) rfl ((if0 _ _).trans (flt (fun q => hc50_5 ((lw_gt (own_k vs md.toNatClampNeg) q4).1 q))).2.2.2) (by decide) (by decide) hr) ?_
            show Go p.tables e below _ (s₁.setTop (mkF m 62 #[.val (.ref a1), .val (.int (0 : Int32)), .val (.int p3), .val (.long q4), .second, .val (.int lo), .val (.int hi), .val (.int md), .val (.long (own_k vs md.toNatClampNeg)), .second] []))
            refine Go.st (fun U hr => XS.iload X0.here hx rfl (hb hby d9_62) rfl hr) ?_
            show Go p.tables e below _ (s₁.setTop (mkF m 64 #[.val (.ref a1), .val (.int (0 : Int32)), .val (.int p3), .val (.long q4), .second, .val (.int lo), .val (.int hi), .val (.int md), .val (.long (own_k vs md.toNatClampNeg)), .second] [(.int md)]))
            have heq : own_k vs md.toNatClampNeg = q4 := Int64.toInt_inj.mp (by have a := hc34_4; have c := hc50_5; rw [Int64.lt_iff_toInt_lt] at a c; omega)
            exact own_retO X0 hx Bd.notSynchronized (t := .int) Bd.returns rfl (Or.inl ⟨rfl, Or.inl rfl, _, rfl⟩) (hb hby d9_64) ⟨_, rfl, N0, e0, Or.inl ⟨hmr.1, by omega, heq⟩⟩ (by decide) (by decide)
  generalize h_hi : (p3 - (1 : Int32)) = hi
  obtain ⟨lo, h_lo⟩ : ∃ x : Int32, (0 : Int32) = x := ⟨_, rfl⟩
  have hhi : hi.toInt = p3.toInt - 1 := by
    rw [← h_hi]
    have h1 := c_isub p3 1
    rw [show (1 : Int32).toInt = 1 from by decide] at h1
    have r1 := rng32 (p3 - 1)
    omega
  have hlo : lo.toInt = 0 := by rw [← h_lo]; decide
  obtain ⟨n, hn⟩ : ∃ n : Nat, hi.toInt - lo.toInt + 1 ≤ n := ⟨k, by omega⟩
  have hbd : 0 ≤ lo.toInt ∧ lo.toInt ≤ hi.toInt + 1 ∧ hi.toInt < k := by omega
  have hl : ∀ i : Nat, (i : Int) < lo.toInt → own_k vs i < q4 := fun i q => by omega
  have hg : ∀ i : Nat, hi.toInt < (i : Int) → i < k → q4 < own_k vs i := fun i q q2 => by omega
  suffices hfirst : Go p.tables e below _ (s₁.setTop (mkF m 8 #[.val (.ref a1), .val (.int (0 : Int32)), .val (.int p3), .val (.long q4), .second, .val (.int lo), .val (.int hi), .unset, .unset, .unset] [])) by rw [← h_lo] at hfirst; exact hfirst
  refine Go.st (fun U hr => XS.iload X0.here hx rfl (hb hby d9_8) rfl hr) ?_
  show Go p.tables e below _ (s₁.setTop (mkF m 10 #[.val (.ref a1), .val (.int (0 : Int32)), .val (.int p3), .val (.long q4), .second, .val (.int lo), .val (.int hi), .unset, .unset, .unset] [(.int lo)]))
  refine Go.st (fun U hr => XS.iload X0.here hx rfl (hb hby d9_10) rfl hr) ?_
  show Go p.tables e below _ (s₁.setTop (mkF m 12 #[.val (.ref a1), .val (.int (0 : Int32)), .val (.int p3), .val (.long q4), .second, .val (.int lo), .val (.int hi), .unset, .unset, .unset] [(.int hi), (.int lo)]))
  by_cases hc12_6 : hi < lo
  · refine Go.st (fun U hr => XS.icmpYes X0.here hx rfl (pc0 := 12) (pc' := 68) rfl (hb hby d9_12) rfl (tlt hc12_6).2.2.1 (by decide) (by decide) hr) ?_
    show Go p.tables e below _ (s₁.setTop (mkF m 68 #[.val (.ref a1), .val (.int (0 : Int32)), .val (.int p3), .val (.long q4), .second, .val (.int lo), .val (.int hi), .unset, .unset, .unset] []))
    refine Go.st (fun U hr => XS.iload X0.here hx rfl (hb hby d9_68) rfl hr) ?_
    show Go p.tables e below _ (s₁.setTop (mkF m 70 #[.val (.ref a1), .val (.int (0 : Int32)), .val (.int p3), .val (.long q4), .second, .val (.int lo), .val (.int hi), .unset, .unset, .unset] [(.int lo)]))
    refine Go.st (fun U hr => XS.iconst X0.here hx rfl (hb hby d9_70) hr) ?_
    show Go p.tables e below _ (s₁.setTop (mkF m 71 #[.val (.ref a1), .val (.int (0 : Int32)), .val (.int p3), .val (.long q4), .second, .val (.int lo), .val (.int hi), .unset, .unset, .unset] [(.int (1 : Int32)), (.int lo)]))
    refine Go.st (fun U hr => XS.iadd X0.here hx rfl (hb hby d9_71) rfl hr) ?_
    show Go p.tables e below _ (s₁.setTop (mkF m 72 #[.val (.ref a1), .val (.int (0 : Int32)), .val (.int p3), .val (.long q4), .second, .val (.int lo), .val (.int hi), .unset, .unset, .unset] [(.int (lo + (1 : Int32)))]))
    refine Go.st (fun U hr => XS.ineg X0.here hx rfl (hb hby d9_72) rfl hr) ?_
    show Go p.tables e below _ (s₁.setTop (mkF m 73 #[.val (.ref a1), .val (.int (0 : Int32)), .val (.int p3), .val (.long q4), .second, .val (.int lo), .val (.int hi), .unset, .unset, .unset] [(.int (-(lo + (1 : Int32))))]))
    have hgt2 := (own_lt32 _ _).mp hc12_6
    have hl1 : (lo + 1).toInt = lo.toInt + 1 := by
      have h1 := c_iadd lo 1
      rw [show (1 : Int32).toInt = 1 from by decide] at h1
      have r1 := rng32 (lo + 1)
      omega
    have hl2 : (-(lo + 1)).toInt = -(lo.toInt + 1) := by
      have h1 := c_ineg (lo + 1)
      have r1 := rng32 (-(lo + 1))
      omega
    have hln := own_nat hbd.1
    exact own_retO X0 hx Bd.notSynchronized (t := .int) Bd.returns rfl (Or.inl ⟨rfl, Or.inl rfl, _, rfl⟩) (hb hby d9_73) ⟨_, rfl, N0, e0, Or.inr ⟨lo.toNatClampNeg, by rw [hl2]; omega, by omega, fun i q => hl i (by omega), fun i q q2 => hg i (by omega) q2⟩⟩ (by decide) (by decide)
  · refine Go.st (fun U hr => XS.icmpNo X0.here hx rfl (hb hby d9_12) rfl (flt hc12_6).2.2.1 hr) ?_
    show Go p.tables e below _ (s₁.setTop (mkF m 15 #[.val (.ref a1), .val (.int (0 : Int32)), .val (.int p3), .val (.long q4), .second, .val (.int lo), .val (.int hi), .unset, .unset, .unset] []))
    refine Go.st (fun U hr => XS.iload X0.here hx rfl (hb hby d9_15) rfl hr) ?_
    show Go p.tables e below _ (s₁.setTop (mkF m 17 #[.val (.ref a1), .val (.int (0 : Int32)), .val (.int p3), .val (.long q4), .second, .val (.int lo), .val (.int hi), .unset, .unset, .unset] [(.int lo)]))
    refine Go.st (fun U hr => XS.iload X0.here hx rfl (hb hby d9_17) rfl hr) ?_
    show Go p.tables e below _ (s₁.setTop (mkF m 19 #[.val (.ref a1), .val (.int (0 : Int32)), .val (.int p3), .val (.long q4), .second, .val (.int lo), .val (.int hi), .unset, .unset, .unset] [(.int hi), (.int lo)]))
    refine Go.st (fun U hr => XS.iadd X0.here hx rfl (hb hby d9_19) rfl hr) ?_
    show Go p.tables e below _ (s₁.setTop (mkF m 20 #[.val (.ref a1), .val (.int (0 : Int32)), .val (.int p3), .val (.long q4), .second, .val (.int lo), .val (.int hi), .unset, .unset, .unset] [(.int (lo + hi))]))
    refine Go.st (fun U hr => XS.iconst X0.here hx rfl (hb hby d9_20) hr) ?_
    show Go p.tables e below _ (s₁.setTop (mkF m 21 #[.val (.ref a1), .val (.int (0 : Int32)), .val (.int p3), .val (.long q4), .second, .val (.int lo), .val (.int hi), .unset, .unset, .unset] [(.int (1 : Int32)), (.int (lo + hi))]))
    refine Go.st (fun U hr => XS.iushr X0.here hx rfl (hb hby d9_21) rfl hr) ?_
    show Go p.tables e below _ (s₁.setTop (mkF m 22 #[.val (.ref a1), .val (.int (0 : Int32)), .val (.int p3), .val (.long q4), .second, .val (.int lo), .val (.int hi), .unset, .unset, .unset] [(.int (((lo + hi).toUInt32 >>> ((1 : Int32) &&& 31).toUInt32).toInt32))]))
    refine Go.st (fun U hr => XS.istore X0.here hx rfl (hb hby d9_22) rfl (l' := #[.val (.ref a1), .val (.int (0 : Int32)), .val (.int p3), .val (.long q4), .second, .val (.int lo), .val (.int hi), .val (.int (((lo + hi).toUInt32 >>> ((1 : Int32) &&& 31).toUInt32).toInt32)), .unset, .unset]) rfl hr) ?_
    show Go p.tables e below _ (s₁.setTop (mkF m 24 #[.val (.ref a1), .val (.int (0 : Int32)), .val (.int p3), .val (.long q4), .second, .val (.int lo), .val (.int hi), .val (.int (((lo + hi).toUInt32 >>> ((1 : Int32) &&& 31).toUInt32).toInt32)), .unset, .unset] []))
    generalize h_md : (((lo + hi).toUInt32 >>> ((1 : Int32) &&& 31).toUInt32).toInt32) = md
    have hle : ¬ hi.toInt < lo.toInt := fun q => hc12_6 ((own_lt32 _ _).mpr q)
    have hmd : md.toInt = (lo.toInt + hi.toInt) / 2 := by rw [← h_md]; exact own_mid lo hi ⟨hbd.1, by omega⟩ ⟨by omega, by omega⟩
    have hmr : 0 ≤ md.toInt ∧ md.toInt < z.toInt := by omega
    have hmn := own_nat hmr.1
    have hm1 : (md + 1).toInt = md.toInt + 1 := by
      have h1 := c_iadd md 1
      rw [show (1 : Int32).toInt = 1 from by decide] at h1
      have r1 := rng32 (md + 1)
      omega
    have hm2 : (md - 1).toInt = md.toInt - 1 := by
      have h1 := c_isub md 1
      rw [show (1 : Int32).toInt = 1 from by decide] at h1
      have r1 := rng32 (md - 1)
      omega
    refine Go.st (fun U hr => XS.aloadN X0.here hx rfl (hb hby d9_24) rfl rfl hr) ?_
    show Go p.tables e below _ (s₁.setTop (mkF m 25 #[.val (.ref a1), .val (.int (0 : Int32)), .val (.int p3), .val (.long q4), .second, .val (.int lo), .val (.int hi), .val (.int md), .unset, .unset] [(.ref a1)]))
    refine Go.st (fun U hr => XS.iload X0.here hx rfl (hb hby d9_25) rfl hr) ?_
    show Go p.tables e below _ (s₁.setTop (mkF m 27 #[.val (.ref a1), .val (.int (0 : Int32)), .val (.int p3), .val (.long q4), .second, .val (.int lo), .val (.int hi), .val (.int md), .unset, .unset] [(.int md), (.ref a1)]))
    obtain ⟨cl7, Ar7, qa7, Sa7, Na7, Ha7, Ga7⟩ := id V1
    have hin7 : ¬ (md < 0 ∨ cl7.slots.size ≤ (md).toNatClampNeg) := inb_of Sa7 (own_inb hmr)
    refine Go.st (X0.laload hx (j := md) (v := (.long (own_k vs md.toNatClampNeg))) (by rw [e0]; exact Ar7.1) (State.isArrayOf_alike hZ.alike Ar7.2.1) Ar7.2.2 hin7 (Ha7.at hin7 (own_gL vs _)) (g := (mkF m 27 #[.val (.ref a1), .val (.int (0 : Int32)), .val (.int p3), .val (.long q4), .second, .val (.int lo), .val (.int hi), .val (.int md), .unset, .unset] [(.int md), (.ref a1)])) rfl rfl (hb hby d9_27)) ?_
    show Go p.tables e below _ (s₁.setTop (mkF m 28 #[.val (.ref a1), .val (.int (0 : Int32)), .val (.int p3), .val (.long q4), .second, .val (.int lo), .val (.int hi), .val (.int md), .unset, .unset] [(.long (own_k vs md.toNatClampNeg))]))
    refine Go.st (fun U hr => XS.lstore X0.here hx rfl (hb hby d9_28) rfl (l' := #[.val (.ref a1), .val (.int (0 : Int32)), .val (.int p3), .val (.long q4), .second, .val (.int lo), .val (.int hi), .val (.int md), .val (.long (own_k vs md.toNatClampNeg)), .second]) rfl hr) ?_
    show Go p.tables e below _ (s₁.setTop (mkF m 30 #[.val (.ref a1), .val (.int (0 : Int32)), .val (.int p3), .val (.long q4), .second, .val (.int lo), .val (.int hi), .val (.int md), .val (.long (own_k vs md.toNatClampNeg)), .second] []))
    refine Go.st (fun U hr => XS.lload X0.here hx rfl (hb hby d9_30) rfl hr) ?_
    show Go p.tables e below _ (s₁.setTop (mkF m 32 #[.val (.ref a1), .val (.int (0 : Int32)), .val (.int p3), .val (.long q4), .second, .val (.int lo), .val (.int hi), .val (.int md), .val (.long (own_k vs md.toNatClampNeg)), .second] [(.long (own_k vs md.toNatClampNeg))]))
    refine Go.st (fun U hr => XS.lloadN X0.here hx rfl (hb hby d9_32) rfl hr) ?_
    show Go p.tables e below _ (s₁.setTop (mkF m 33 #[.val (.ref a1), .val (.int (0 : Int32)), .val (.int p3), .val (.long q4), .second, .val (.int lo), .val (.int hi), .val (.int md), .val (.long (own_k vs md.toNatClampNeg)), .second] [(.long q4), (.long (own_k vs md.toNatClampNeg))]))
    refine Go.st (fun U hr => XS.lcmp X0.here hx rfl (hb hby d9_33) rfl hr) ?_
    show Go p.tables e below _ (s₁.setTop (mkF m 34 #[.val (.ref a1), .val (.int (0 : Int32)), .val (.int p3), .val (.long q4), .second, .val (.int lo), .val (.int hi), .val (.int md), .val (.long (own_k vs md.toNatClampNeg)), .second] [(.int (lcmpW (own_k vs md.toNatClampNeg) q4))]))
    by_cases hc34_8 : (own_k vs md.toNatClampNeg) < q4
    · refine Go.st (fun U hr => XS.ifNo X0.here hx rfl (hb hby d9_34) rfl ((if0 _ _).trans (tlt ((lw_lt (own_k vs md.toNatClampNeg) q4).2 hc34_8)).2.1) hr) ?_
      show Go p.tables e below _ (s₁.setTop (mkF m 37 #[.val (.ref a1), .val (.int (0 : Int32)), .val (.int p3), .val (.long q4), .second, .val (.int lo), .val (.int hi), .val (.int md), .val (.long (own_k vs md.toNatClampNeg)), .second] []))
      have hlt := hc34_8
      refine Go.st (fun U hr => XS.iload X0.here hx rfl (hb hby d9_37) rfl hr) ?_
      show Go p.tables e below _ (s₁.setTop (mkF m 39 #[.val (.ref a1), .val (.int (0 : Int32)), .val (.int p3), .val (.long q4), .second, .val (.int lo), .val (.int hi), .val (.int md), .val (.long (own_k vs md.toNatClampNeg)), .second] [(.int md)]))
      refine Go.st (fun U hr => XS.iconst X0.here hx rfl (hb hby d9_39) hr) ?_
      show Go p.tables e below _ (s₁.setTop (mkF m 40 #[.val (.ref a1), .val (.int (0 : Int32)), .val (.int p3), .val (.long q4), .second, .val (.int lo), .val (.int hi), .val (.int md), .val (.long (own_k vs md.toNatClampNeg)), .second] [(.int (1 : Int32)), (.int md)]))
      refine Go.st (fun U hr => XS.iadd X0.here hx rfl (hb hby d9_40) rfl hr) ?_
      show Go p.tables e below _ (s₁.setTop (mkF m 41 #[.val (.ref a1), .val (.int (0 : Int32)), .val (.int p3), .val (.long q4), .second, .val (.int lo), .val (.int hi), .val (.int md), .val (.long (own_k vs md.toNatClampNeg)), .second] [(.int (md + (1 : Int32)))]))
      refine Go.st (fun U hr => XS.istore X0.here hx rfl (hb hby d9_41) rfl (l' := #[.val (.ref a1), .val (.int (0 : Int32)), .val (.int p3), .val (.long q4), .second, .val (.int (md + (1 : Int32))), .val (.int hi), .val (.int md), .val (.long (own_k vs md.toNatClampNeg)), .second]) rfl hr) ?_
      show Go p.tables e below _ (s₁.setTop (mkF m 43 #[.val (.ref a1), .val (.int (0 : Int32)), .val (.int p3), .val (.long q4), .second, .val (.int (md + (1 : Int32))), .val (.int hi), .val (.int md), .val (.long (own_k vs md.toNatClampNeg)), .second] []))
      refine Go.st (fun U hr => XS.goto X0.here hx rfl (pc0 := 43) (pc' := 65) rfl (hb hby d9_43) (by decide) (by decide) hr) ?_
      show Go p.tables e below _ (s₁.setTop (mkF m 65 #[.val (.ref a1), .val (.int (0 : Int32)), .val (.int p3), .val (.long q4), .second, .val (.int (md + (1 : Int32))), .val (.int hi), .val (.int md), .val (.long (own_k vs md.toNatClampNeg)), .second] []))
      refine Go.st (fun U hr => XS.goto X0.here hx rfl (pc0 := 65) (pc' := 8) rfl (hb hby d9_65) (by decide) (by decide) hr) ?_
      show Go p.tables e below _ (s₁.setTop (mkF m 8 #[.val (.ref a1), .val (.int (0 : Int32)), .val (.int p3), .val (.long q4), .second, .val (.int (md + (1 : Int32))), .val (.int hi), .val (.int md), .val (.long (own_k vs md.toNatClampNeg)), .second] []))
      exact loop n _ _ _ _ (by rw [hm1]; omega) ⟨by rw [hm1]; omega, by rw [hm1]; omega, hbd.2.2⟩ (fun i hi' => by
        rw [hm1] at hi'
        by_cases q : (i : Int) = md.toInt
        · have e : i = md.toNatClampNeg := by omega
          rw [e]; exact hlt
        · by_cases q2 : (i : Int) < md.toInt
          · have := hs i md.toNatClampNeg (by omega) (by omega)
            exact Int64.lt_trans this hlt
          · omega) hg
    · refine Go.st (fun U hr => XS.ifYes X0.here hx rfl (pc0 := 34) (pc' := 46) rfl (hb hby d9_34) rfl ((if0 _ _).trans (flt (fun q => hc34_8 ((lw_lt (own_k vs md.toNatClampNeg) q4).1 q))).2.1) (by decide) (by decide) hr) ?_
      show Go p.tables e below _ (s₁.setTop (mkF m 46 #[.val (.ref a1), .val (.int (0 : Int32)), .val (.int p3), .val (.long q4), .second, .val (.int lo), .val (.int hi), .val (.int md), .val (.long (own_k vs md.toNatClampNeg)), .second] []))
      refine Go.st (fun U hr => XS.lload X0.here hx rfl (hb hby d9_46) rfl hr) ?_
      show Go p.tables e below _ (s₁.setTop (mkF m 48 #[.val (.ref a1), .val (.int (0 : Int32)), .val (.int p3), .val (.long q4), .second, .val (.int lo), .val (.int hi), .val (.int md), .val (.long (own_k vs md.toNatClampNeg)), .second] [(.long (own_k vs md.toNatClampNeg))]))
      refine Go.st (fun U hr => XS.lloadN X0.here hx rfl (hb hby d9_48) rfl hr) ?_
      show Go p.tables e below _ (s₁.setTop (mkF m 49 #[.val (.ref a1), .val (.int (0 : Int32)), .val (.int p3), .val (.long q4), .second, .val (.int lo), .val (.int hi), .val (.int md), .val (.long (own_k vs md.toNatClampNeg)), .second] [(.long q4), (.long (own_k vs md.toNatClampNeg))]))
      refine Go.st (fun U hr => XS.lcmp X0.here hx rfl (hb hby d9_49) rfl hr) ?_
      show Go p.tables e below _ (s₁.setTop (mkF m 50 #[.val (.ref a1), .val (.int (0 : Int32)), .val (.int p3), .val (.long q4), .second, .val (.int lo), .val (.int hi), .val (.int md), .val (.long (own_k vs md.toNatClampNeg)), .second] [(.int (lcmpW (own_k vs md.toNatClampNeg) q4))]))
      by_cases hc50_9 : q4 < (own_k vs md.toNatClampNeg)
      · refine Go.st (fun U hr => XS.ifNo X0.here hx rfl (hb hby d9_50) rfl ((if0 _ _).trans (tlt ((lw_gt (own_k vs md.toNatClampNeg) q4).2 hc50_9)).2.2.2) hr) ?_
        show Go p.tables e below _ (s₁.setTop (mkF m 53 #[.val (.ref a1), .val (.int (0 : Int32)), .val (.int p3), .val (.long q4), .second, .val (.int lo), .val (.int hi), .val (.int md), .val (.long (own_k vs md.toNatClampNeg)), .second] []))
        have hgt := hc50_9
        refine Go.st (fun U hr => XS.iload X0.here hx rfl (hb hby d9_53) rfl hr) ?_
        show Go p.tables e below _ (s₁.setTop (mkF m 55 #[.val (.ref a1), .val (.int (0 : Int32)), .val (.int p3), .val (.long q4), .second, .val (.int lo), .val (.int hi), .val (.int md), .val (.long (own_k vs md.toNatClampNeg)), .second] [(.int md)]))
        refine Go.st (fun U hr => XS.iconst X0.here hx rfl (hb hby d9_55) hr) ?_
        show Go p.tables e below _ (s₁.setTop (mkF m 56 #[.val (.ref a1), .val (.int (0 : Int32)), .val (.int p3), .val (.long q4), .second, .val (.int lo), .val (.int hi), .val (.int md), .val (.long (own_k vs md.toNatClampNeg)), .second] [(.int (1 : Int32)), (.int md)]))
        refine Go.st (fun U hr => XS.isub X0.here hx rfl (hb hby d9_56) rfl hr) ?_
        show Go p.tables e below _ (s₁.setTop (mkF m 57 #[.val (.ref a1), .val (.int (0 : Int32)), .val (.int p3), .val (.long q4), .second, .val (.int lo), .val (.int hi), .val (.int md), .val (.long (own_k vs md.toNatClampNeg)), .second] [(.int (md - (1 : Int32)))]))
        refine Go.st (fun U hr => XS.istore X0.here hx rfl (hb hby d9_57) rfl (l' := #[.val (.ref a1), .val (.int (0 : Int32)), .val (.int p3), .val (.long q4), .second, .val (.int lo), .val (.int (md - (1 : Int32))), .val (.int md), .val (.long (own_k vs md.toNatClampNeg)), .second]) rfl hr) ?_
        show Go p.tables e below _ (s₁.setTop (mkF m 59 #[.val (.ref a1), .val (.int (0 : Int32)), .val (.int p3), .val (.long q4), .second, .val (.int lo), .val (.int (md - (1 : Int32))), .val (.int md), .val (.long (own_k vs md.toNatClampNeg)), .second] []))
        refine Go.st (fun U hr => XS.goto X0.here hx rfl (pc0 := 59) (pc' := 65) rfl (hb hby d9_59) (by decide) (by decide) hr) ?_
        show Go p.tables e below _ (s₁.setTop (mkF m 65 #[.val (.ref a1), .val (.int (0 : Int32)), .val (.int p3), .val (.long q4), .second, .val (.int lo), .val (.int (md - (1 : Int32))), .val (.int md), .val (.long (own_k vs md.toNatClampNeg)), .second] []))
        refine Go.st (fun U hr => XS.goto X0.here hx rfl (pc0 := 65) (pc' := 8) rfl (hb hby d9_65) (by decide) (by decide) hr) ?_
        show Go p.tables e below _ (s₁.setTop (mkF m 8 #[.val (.ref a1), .val (.int (0 : Int32)), .val (.int p3), .val (.long q4), .second, .val (.int lo), .val (.int (md - (1 : Int32))), .val (.int md), .val (.long (own_k vs md.toNatClampNeg)), .second] []))
        exact loop n _ _ _ _ (by rw [hm2]; omega) ⟨hbd.1, by rw [hm2]; omega, by rw [hm2]; omega⟩ hl (fun i hi' hik => by
          rw [hm2] at hi'
          by_cases q : (i : Int) = md.toInt
          · have e : i = md.toNatClampNeg := by omega
            rw [e]; exact hgt
          · have := hs md.toNatClampNeg i (by omega) (by omega)
            exact Int64.lt_trans hgt this)
      · refine Go.st (fun U hr => XS.ifYes X0.here hx rfl (pc0 := 50) (pc' := 62) rfl (hb hby d9_50) rfl ((if0 _ _).trans (flt (fun q => hc50_9 ((lw_gt (own_k vs md.toNatClampNeg) q4).1 q))).2.2.2) (by decide) (by decide) hr) ?_
        show Go p.tables e below _ (s₁.setTop (mkF m 62 #[.val (.ref a1), .val (.int (0 : Int32)), .val (.int p3), .val (.long q4), .second, .val (.int lo), .val (.int hi), .val (.int md), .val (.long (own_k vs md.toNatClampNeg)), .second] []))
        refine Go.st (fun U hr => XS.iload X0.here hx rfl (hb hby d9_62) rfl hr) ?_
        show Go p.tables e below _ (s₁.setTop (mkF m 64 #[.val (.ref a1), .val (.int (0 : Int32)), .val (.int p3), .val (.long q4), .second, .val (.int lo), .val (.int hi), .val (.int md), .val (.long (own_k vs md.toNatClampNeg)), .second] [(.int md)]))
        have heq : own_k vs md.toNatClampNeg = q4 := Int64.toInt_inj.mp (by have a := hc34_8; have c := hc50_9; rw [Int64.lt_iff_toInt_lt] at a c; omega)
        exact own_retO X0 hx Bd.notSynchronized (t := .int) Bd.returns rfl (Or.inl ⟨rfl, Or.inl rfl, _, rfl⟩) (hb hby d9_64) ⟨_, rfl, N0, e0, Or.inl ⟨hmr.1, by omega, heq⟩⟩ (by decide) (by decide)
theorem d7_0 : decode jdk_65_method_55_code 0 = .ok (.aload_n 0, 1) := by decide +kernel
theorem d7_1 : decode jdk_65_method_55_code 1 = .ok (.arraylength, 1) := by decide +kernel
theorem d7_2 : decode jdk_65_method_55_code 2 = .ok (.iload_n 1, 1) := by decide +kernel
theorem d7_3 : decode jdk_65_method_55_code 3 = .ok (.iload_n 2, 1) := by decide +kernel
theorem d7_4 : decode jdk_65_method_55_code 4 = .ok (.invokestatic 13, 3) := by decide +kernel
theorem d7_7 : decode jdk_65_method_55_code 7 = .ok (.aload_n 0, 1) := by decide +kernel
theorem d7_8 : decode jdk_65_method_55_code 8 = .ok (.iload_n 1, 1) := by decide +kernel
theorem d7_9 : decode jdk_65_method_55_code 9 = .ok (.iload_n 2, 1) := by decide +kernel
theorem d7_10 : decode jdk_65_method_55_code 10 = .ok (.lload_n 3, 1) := by decide +kernel
theorem d7_11 : decode jdk_65_method_55_code 11 = .ok (.invokestatic 205, 3) := by decide +kernel
theorem d7_14 : decode jdk_65_method_55_code 14 = .ok (.ireturn, 1) := by decide +kernel
theorem pn_7 : plainFor (⟨"java/util/Arrays", "binarySearch", "([JIIJ)I"⟩ : MethodName) = true := plainFor_of_name (by first | (simp [plainName, overriddenIn]; done) | decide +kernel)
theorem ef_7 (m : MethodId) (x0 : Addr) (x1 : Int32) (x2 : Int32) (x3 : Int64) : entryFrame m #[(.ref x0), (.int x1), (.int x2), (.long x3)] 5 = mkF m 0 #[.val (.ref x0), .val (.int x1), .val (.int x2), .val (.long x3), .second] [] := by first | (simp [entryFrame, mkF, argsToLocals, Value.category]; done) | rfl
theorem pd_0 : parseMethodDescriptor "(III)V" = some ⟨[.int, .int, .int], none⟩ := by decide +kernel
theorem pd_1 : parseMethodDescriptor "([JIIJ)I" = some ⟨[(.array .long), .int, .int, .long], some .int⟩ := by decide +kernel
def Q7 (Z : State) (a1 : Addr) (p3 : Int32) (q4 : Int64) (kr : ClassId) (z : Int32) (vs : List Int64) (k : Nat) (h0 : Heap) (n0 : Nat) (v : Option Value) (h : Heap) (L : List Loc) : Prop := ∃ r : Int32, v = some (.int r) ∧ Fr n0 L ∧ h = h0 ∧ own_Bs vs k q4 r
set_option maxRecDepth 65536 in
set_option maxHeartbeats 40000000 in
theorem rm7 (l : Launch) (Z : State) (a0 : Array Value) (hw : ∀ d ∈ tables_1, d.before a0 Z = true) (ws : List Jvm.Cond) (a1 : Addr) (p3 : Int32) (q4 : Int64) (kr : ClassId) (z : Int32) (vs : List Int64) (k : Nat) (h0 : Heap) (n0 : Nat) (Z0 : n0 ≤ h0.size) (V1 : Arv Z h0 a1 kr .long z (vs.map Value.long) (.long (0 : Int64))) (hz : z = 4 ∨ z = 8) (hk : p3.toInt = k ∧ (k : Int) ≤ z.toInt) (hs : own_Srt vs k) :
    MetFree l (⟨"java/util/Arrays", "binarySearch", "([JIIJ)I"⟩ : MethodName) (head1 (Jvm.Cond.code (⟨"java/util/Arrays", "binarySearch", "([JIIJ)I"⟩ : MethodName) jdk_65_method_55_code 5 (some .int) :: ws) ({ frames := 1, cells := 0, slots := 0, locals := 21 } : Room)) (fun a U => a = #[(.ref a1), (.int (0 : Int32)), (.int p3), (.long q4)] ∧ Z.Warmed39 U.vm ∧ U.heap = h0) (fun _ _ _ _ _ => True) (fun _ U o U' => ∃ v L, o = .returned v ∧ Q7 Z a1 p3 q4 kr z vs k h0 n0 v U'.heap L ∧ FrameEnd U o U' L ({ frames := 1, cells := 0, slots := 0, locals := 21 } : Room).cells ({ frames := 1, cells := 0, slots := 0, locals := 21 } : Room).slots) := by
  refine MetFree.of_bodySF pn_7 hisR ?_
  intro p e s m args below meth c s₁ Bd hml0 hP hK
  obtain ⟨rfl, hZ, hh⟩ := hP
  have hx := Bd.exec
  have hby := Bd.bytes
  have hml : c.maxLocals = 5 := hml0
  have hown : s.vm.findClass "java/util/Arrays" = some m.cls := findClass_of_methodNamed Bd.named
  have hnm := (name_of_methodNamed Bd.named Bd.method).1
  have X0 : Stand p l e ({ frames := 1, cells := 0, slots := 0, locals := 21 } : Room) s m #[(.ref a1), (.int (0 : Int32)), (.int p3), (.long q4)] below meth c s₁ [] 0 0 := Stand.of_body Bd
  have e0 : s₁.heap = h0 := by rw [← hh, Bd.state]; rfl
  have N0 := Fr.nil n0
  refine own_start (Q := Q7 Z a1 p3 q4 kr z vs k h0 n0) (own_cast (ef_7 m a1 (0 : Int32) p3 q4) ?_)
  show Go p.tables e below _ (s₁.setTop (mkF m 0 #[.val (.ref a1), .val (.int (0 : Int32)), .val (.int p3), .val (.long q4), .second] []))
  refine Go.st (fun U hr => XS.aloadN X0.here hx rfl (hb hby d7_0) rfl rfl hr) ?_
  show Go p.tables e below _ (s₁.setTop (mkF m 1 #[.val (.ref a1), .val (.int (0 : Int32)), .val (.int p3), .val (.long q4), .second] [(.ref a1)]))
  obtain ⟨cl1, Ar1, qa1, Sa1, Na1, Ha1, Ga1⟩ := id V1
  refine Go.st (X0.arraylength hx (by rw [e0]; exact Ar1.1) (State.isArrayOf_alike hZ.alike Ar1.2.1) (g := (mkF m 1 #[.val (.ref a1), .val (.int (0 : Int32)), .val (.int p3), .val (.long q4), .second] [(.ref a1)])) rfl rfl (hb hby d7_1)) ?_
  rw [len_of Sa1 Na1]
  show Go p.tables e below _ (s₁.setTop (mkF m 2 #[.val (.ref a1), .val (.int (0 : Int32)), .val (.int p3), .val (.long q4), .second] [(.int z)]))
  refine Go.st (fun U hr => XS.iloadN X0.here hx rfl (hb hby d7_2) rfl hr) ?_
  show Go p.tables e below _ (s₁.setTop (mkF m 3 #[.val (.ref a1), .val (.int (0 : Int32)), .val (.int p3), .val (.long q4), .second] [(.int (0 : Int32)), (.int z)]))
  refine Go.st (fun U hr => XS.iloadN X0.here hx rfl (hb hby d7_3) rfl hr) ?_
  show Go p.tables e below _ (s₁.setTop (mkF m 4 #[.val (.ref a1), .val (.int (0 : Int32)), .val (.int p3), .val (.long q4), .second] [(.int p3), (.int (0 : Int32)), (.int z)]))
  obtain ⟨_, _, ⟨T2, L2, k2, n2⟩, -, X2, ⟨Lc2, hQ2, l2, y2, z2⟩, st2⟩ := Jvm.LawKit.callS X0 hx (y := (⟨"java/util/Arrays", "rangeCheck", "(III)V"⟩ : MethodName)) hown (mvT hZ (hw _ (List.mem_of_getElem? (i := 39) rfl))) (mvT hZ (hw _ (List.mem_of_getElem? (i := 40) rfl))) (mvT hZ (hw _ (List.mem_of_getElem? (i := 37) rfl))) (mvT hZ (hw _ (List.mem_of_getElem? (i := 41) rfl))) (by decide) (backOf (W := 0) (rm8 l Z a0 hw [] z p3 h0 n0 Z0 ⟨by omega, by omega⟩) hZ (hw _ (List.mem_of_getElem? (i := 41) rfl)) (hw _ (List.mem_of_getElem? (i := 37) rfl)) (by decide) (by decide)) (g := (mkF m 4 #[.val (.ref a1), .val (.int (0 : Int32)), .val (.int p3), .val (.long q4), .second] [(.int p3), (.int (0 : Int32)), (.int z)])) rfl (by rw [hml]; rfl) (argsL := [(.int z), (.int (0 : Int32)), (.int p3)]) (rest := []) (lenOf pd_0 rfl) rfl (by show 2 * 0 + _ ≤ _; exact Nat.le_of_eq rfl) (hb hby d7_4) (fun _ _ => ⟨rfl, e0, (by decide : 0 + 0 ≤ _), (by decide : 0 + 0 ≤ _)⟩)
  dsimp only [Pt.U, Pt.locs, Pt.cells, Pt.slots] at X2 l2 y2 z2 st2 hQ2
  subst l2 y2 z2
  obtain ⟨rfl, Nq2, ee2⟩ := hQ2
  have N2 := Fr.app N0 Nq2
  refine Go.st st2 ?_
  show Go p.tables e below _ (T2.setTop (mkF m 7 #[.val (.ref a1), .val (.int (0 : Int32)), .val (.int p3), .val (.long q4), .second] []))
  refine Go.st (fun U hr => XS.aloadN X2.here hx rfl (hb hby d7_7) rfl rfl hr) ?_
  show Go p.tables e below _ (T2.setTop (mkF m 8 #[.val (.ref a1), .val (.int (0 : Int32)), .val (.int p3), .val (.long q4), .second] [(.ref a1)]))
  refine Go.st (fun U hr => XS.iloadN X2.here hx rfl (hb hby d7_8) rfl hr) ?_
  show Go p.tables e below _ (T2.setTop (mkF m 9 #[.val (.ref a1), .val (.int (0 : Int32)), .val (.int p3), .val (.long q4), .second] [(.int (0 : Int32)), (.ref a1)]))
  refine Go.st (fun U hr => XS.iloadN X2.here hx rfl (hb hby d7_9) rfl hr) ?_
  show Go p.tables e below _ (T2.setTop (mkF m 10 #[.val (.ref a1), .val (.int (0 : Int32)), .val (.int p3), .val (.long q4), .second] [(.int p3), (.int (0 : Int32)), (.ref a1)]))
  refine Go.st (fun U hr => XS.lloadN X2.here hx rfl (hb hby d7_10) rfl hr) ?_
  show Go p.tables e below _ (T2.setTop (mkF m 11 #[.val (.ref a1), .val (.int (0 : Int32)), .val (.int p3), .val (.long q4), .second] [(.long q4), (.int p3), (.int (0 : Int32)), (.ref a1)]))
  obtain ⟨_, _, ⟨T3, L3, k3, n3⟩, -, X3, ⟨Lc3, hQ3, l3, y3, z3⟩, st3⟩ := Jvm.LawKit.callS X2 hx (y := (⟨"java/util/Arrays", "binarySearch0", "([JIIJ)I"⟩ : MethodName)) hown (mvT hZ (hw _ (List.mem_of_getElem? (i := 42) rfl))) (mvT hZ (hw _ (List.mem_of_getElem? (i := 43) rfl))) (mvT hZ (hw _ (List.mem_of_getElem? (i := 37) rfl))) (mvT hZ (hw _ (List.mem_of_getElem? (i := 44) rfl))) (by decide) (backOf (W := 0) (rm9 l Z a0 hw [] a1 p3 q4 kr z vs k h0 n0 Z0 V1 hz hk hs) hZ (hw _ (List.mem_of_getElem? (i := 44) rfl)) (hw _ (List.mem_of_getElem? (i := 37) rfl)) (by decide) (by decide)) (g := (mkF m 11 #[.val (.ref a1), .val (.int (0 : Int32)), .val (.int p3), .val (.long q4), .second] [(.long q4), (.int p3), (.int (0 : Int32)), (.ref a1)])) rfl (by rw [hml]; rfl) (argsL := [(.ref a1), (.int (0 : Int32)), (.int p3), (.long q4)]) (rest := []) (lenOf pd_1 rfl) rfl (by show 2 * 0 + _ ≤ _; exact Nat.le_of_eq rfl) (hb hby d7_11) (fun _ _ => ⟨rfl, ee2, (by decide : 0 + 0 ≤ _), (by decide : 0 + 0 ≤ _)⟩)
  dsimp only [Pt.U, Pt.locs, Pt.cells, Pt.slots] at X3 l3 y3 z3 st3 hQ3
  subst l3 y3 z3
  obtain ⟨r3, rfl, Nq3, ee3, hr3⟩ := hQ3
  have N3 := Fr.app N2 Nq3
  refine Go.st st3 ?_
  show Go p.tables e below _ (T3.setTop (mkF m 14 #[.val (.ref a1), .val (.int (0 : Int32)), .val (.int p3), .val (.long q4), .second] [(.int r3)]))
  exact own_retO X3 hx Bd.notSynchronized (t := .int) Bd.returns rfl (Or.inl ⟨rfl, Or.inl rfl, _, rfl⟩) (hb hby d7_14) ⟨_, rfl, N3, ee3, hr3⟩ (by decide) (by decide)
def own_cp (vs : List Int64) : List Int64 := vs ++ List.replicate 4 0
theorem own_cp_eq (vs : List Int64) (h : vs.length = 4) : ((List.replicate 8 (0 : Int64)).map Value.long).take 0 ++ ((List.range 4).map fun i => (vs.map Value.long).getD (0 + i) (.long 0)) ++ ((List.replicate 8 (0 : Int64)).map Value.long).drop (0 + 4) = (own_cp vs).map Value.long := by
  match vs, h with
  | [a, b, c, d], _ => rfl
theorem own_cp_at (vs : List Int64) (h : vs.length = 4) (i : Nat) (hi : i < 4) : own_k (own_cp vs) i = own_k vs i := by
  unfold own_k own_cp
  rw [List.getD_eq_getElem?_getD, List.getD_eq_getElem?_getD, List.getElem?_append_left (by omega)]

theorem d11_0 : decode jdk_65_method_124_code 0 = .ok (.iload_n 1, 1) := by decide +kernel
theorem d11_1 : decode jdk_65_method_124_code 1 = .ok (.aload_n 0, 1) := by decide +kernel
theorem d11_2 : decode jdk_65_method_124_code 2 = .ok (.arraylength, 1) := by decide +kernel
theorem d11_3 : decode jdk_65_method_124_code 3 = .ok (.if_icmp .ne 11, 3) := by decide +kernel
theorem d11_14 : decode jdk_65_method_124_code 14 = .ok (.iload_n 1, 1) := by decide +kernel
theorem d11_15 : decode jdk_65_method_124_code 15 = .ok (.newarray .long, 2) := by decide +kernel
theorem d11_17 : decode jdk_65_method_124_code 17 = .ok (.astore_n 2, 1) := by decide +kernel
theorem d11_18 : decode jdk_65_method_124_code 18 = .ok (.aload_n 0, 1) := by decide +kernel
theorem d11_19 : decode jdk_65_method_124_code 19 = .ok (.iconst 0, 1) := by decide +kernel
theorem d11_20 : decode jdk_65_method_124_code 20 = .ok (.aload_n 2, 1) := by decide +kernel
theorem d11_21 : decode jdk_65_method_124_code 21 = .ok (.iconst 0, 1) := by decide +kernel
theorem d11_22 : decode jdk_65_method_124_code 22 = .ok (.aload_n 0, 1) := by decide +kernel
theorem d11_23 : decode jdk_65_method_124_code 23 = .ok (.arraylength, 1) := by decide +kernel
theorem d11_24 : decode jdk_65_method_124_code 24 = .ok (.iload_n 1, 1) := by decide +kernel
theorem d11_25 : decode jdk_65_method_124_code 25 = .ok (.invokestatic 304, 3) := by decide +kernel
theorem d11_28 : decode jdk_65_method_124_code 28 = .ok (.invokestatic 150, 3) := by decide +kernel
theorem d11_31 : decode jdk_65_method_124_code 31 = .ok (.aload_n 2, 1) := by decide +kernel
theorem d11_32 : decode jdk_65_method_124_code 32 = .ok (.areturn, 1) := by decide +kernel
theorem pn_11 : plainFor (⟨"java/util/Arrays", "copyOf", "([JI)[J"⟩ : MethodName) = true := plainFor_of_name (by first | (simp [plainName, overriddenIn]; done) | decide +kernel)
theorem ef_11 (m : MethodId) (x0 : Addr) (x1 : Int32) : entryFrame m #[(.ref x0), (.int x1)] 3 = mkF m 0 #[.val (.ref x0), .val (.int x1), .unset] [] := by first | (simp [entryFrame, mkF, argsToLocals, Value.category]; done) | rfl
theorem pd_2 : parseMethodDescriptor "(II)I" = some ⟨[.int, .int], some .int⟩ := by decide +kernel
def Q11 (Z : State) (a1 : Addr) (kr : ClassId) (vs : List Int64) (h0 : Heap) (n0 : Nat) (v : Option Value) (h : Heap) (L : List Loc) : Prop := ∃ r : Addr, v = some (.ref r) ∧ Fr n0 L ∧ h0.size ≤ r ∧ Keep h0 h [] ∧ ∃ kn, Arv Z h r kn .long (8 : Int32) ((own_cp vs).map Value.long) (.long (0 : Int64))
set_option maxRecDepth 65536 in
set_option maxHeartbeats 40000000 in
theorem rm11 (l : Launch) (Z : State) (a0 : Array Value) (hw : ∀ d ∈ tables_1, d.before a0 Z = true) (ws : List Jvm.Cond) (a1 : Addr) (kr : ClassId) (vs : List Int64) (h0 : Heap) (n0 : Nat) (Z0 : n0 ≤ h0.size) (V1 : Arv Z h0 a1 kr .long (4 : Int32) (vs.map Value.long) (.long (0 : Int64))) (hl : vs.length = 4) :
    MetFree l (⟨"java/util/Arrays", "copyOf", "([JI)[J"⟩ : MethodName) (head1 (Jvm.Cond.code (⟨"java/util/Arrays", "copyOf", "([JI)[J"⟩ : MethodName) jdk_65_method_124_code 3 (some (.array .long)) :: ws) ({ frames := 1, cells := 1, slots := 8, locals := 18 } : Room)) (fun a U => a = #[(.ref a1), (.int (8 : Int32))] ∧ Z.Warmed39 U.vm ∧ U.heap = h0) (fun _ _ _ _ _ => True) (fun _ U o U' => ∃ v L, o = .returned v ∧ Q11 Z a1 kr vs h0 n0 v U'.heap L ∧ FrameEnd U o U' L ({ frames := 1, cells := 1, slots := 8, locals := 18 } : Room).cells ({ frames := 1, cells := 1, slots := 8, locals := 18 } : Room).slots) := by
  refine MetFree.of_bodySF pn_11 hisR ?_
  intro p e s m args below meth c s₁ Bd hml0 hP hK
  obtain ⟨rfl, hZ, hh⟩ := hP
  have hx := Bd.exec
  have hby := Bd.bytes
  have hml : c.maxLocals = 3 := hml0
  have hown : s.vm.findClass "java/util/Arrays" = some m.cls := findClass_of_methodNamed Bd.named
  have hnm := (name_of_methodNamed Bd.named Bd.method).1
  have X0 : Stand p l e ({ frames := 1, cells := 1, slots := 8, locals := 18 } : Room) s m #[(.ref a1), (.int (8 : Int32))] below meth c s₁ [] 0 0 := Stand.of_body Bd
  have e0 : s₁.heap = h0 := by rw [← hh, Bd.state]; rfl
  have N0 := Fr.nil n0
  refine own_start (Q := Q11 Z a1 kr vs h0 n0) (own_cast (ef_11 m a1 (8 : Int32)) ?_)
  show Go p.tables e below _ (s₁.setTop (mkF m 0 #[.val (.ref a1), .val (.int (8 : Int32)), .unset] []))
  refine Go.st (fun U hr => XS.iloadN X0.here hx rfl (hb hby d11_0) rfl hr) ?_
  show Go p.tables e below _ (s₁.setTop (mkF m 1 #[.val (.ref a1), .val (.int (8 : Int32)), .unset] [(.int (8 : Int32))]))
  refine Go.st (fun U hr => XS.aloadN X0.here hx rfl (hb hby d11_1) rfl rfl hr) ?_
  show Go p.tables e below _ (s₁.setTop (mkF m 2 #[.val (.ref a1), .val (.int (8 : Int32)), .unset] [(.ref a1), (.int (8 : Int32))]))
  obtain ⟨cl1, Ar1, qa1, Sa1, Na1, Ha1, Ga1⟩ := id V1
  refine Go.st (X0.arraylength hx (by rw [e0]; exact Ar1.1) (State.isArrayOf_alike hZ.alike Ar1.2.1) (g := (mkF m 2 #[.val (.ref a1), .val (.int (8 : Int32)), .unset] [(.ref a1), (.int (8 : Int32))])) rfl rfl (hb hby d11_2)) ?_
  rw [len_of Sa1 Na1]
  show Go p.tables e below _ (s₁.setTop (mkF m 3 #[.val (.ref a1), .val (.int (8 : Int32)), .unset] [(.int (4 : Int32)), (.int (8 : Int32))]))
  refine Go.st (fun U hr => XS.icmpYes X0.here hx rfl (pc0 := 3) (pc' := 14) rfl (hb hby d11_3) rfl (by decide) (by decide) (by decide) hr) ?_
  show Go p.tables e below _ (s₁.setTop (mkF m 14 #[.val (.ref a1), .val (.int (8 : Int32)), .unset] []))
  refine Go.st (fun U hr => XS.iloadN X0.here hx rfl (hb hby d11_14) rfl hr) ?_
  show Go p.tables e below _ (s₁.setTop (mkF m 15 #[.val (.ref a1), .val (.int (8 : Int32)), .unset] [(.int (8 : Int32))]))
  obtain ⟨T2, h2, k2, X2, e2, E2, A2, st2⟩ := newP X0 hx hZ (hw _ (List.mem_of_getElem? (i := 9) rfl)) e0 (g := (mkF m 15 #[.val (.ref a1), .val (.int (8 : Int32)), .unset] [(.int (8 : Int32))])) rfl (hb hby d11_15) rfl (by decide) (cap := 8) (by decide) (by decide) (by decide) (by decide)
  obtain ⟨b2, g2⟩ : ∃ z, z = h0.size := ⟨_, rfl⟩
  rw [← g2] at A2 st2
  refine Go.st st2 ?_
  have gb2 : n0 ≤ b2 := Nat.le_trans Z0 (Nat.le_of_eq g2.symm)
  have sb2 : h0.size ≤ b2 := Nat.le_trans ((Keep.refl h0 [])).1 (Nat.le_of_eq g2.symm)
  have k3 := ((Keep.refl h0 [])).ext E2
  have n4 : a1 ≠ b2 := Nat.ne_of_lt (Nat.lt_of_lt_of_le (V1).lt (Nat.le_of_eq g2.symm))
  have f5 := (V1).ext E2
  have z6 := Nat.le_trans Z0 E2.1
  have V2 : Arv Z h2 b2 k2 .long (8 : Int32) ((List.replicate 8 (0 : Int64)).map Value.long) (.long (0 : Int64)) := (Arv.new A2 (by decide)).pad (own_repL _)
  show Go p.tables e below _ (T2.setTop (mkF m 17 #[.val (.ref a1), .val (.int (8 : Int32)), .unset] [(.ref b2)]))
  refine Go.st (fun U hr => XS.astoreN X2.here hx rfl (hb hby d11_17) rfl rfl (l' := #[.val (.ref a1), .val (.int (8 : Int32)), .val (.ref b2)]) rfl hr) ?_
  show Go p.tables e below _ (T2.setTop (mkF m 18 #[.val (.ref a1), .val (.int (8 : Int32)), .val (.ref b2)] []))
  refine Go.st (fun U hr => XS.aloadN X2.here hx rfl (hb hby d11_18) rfl rfl hr) ?_
  show Go p.tables e below _ (T2.setTop (mkF m 19 #[.val (.ref a1), .val (.int (8 : Int32)), .val (.ref b2)] [(.ref a1)]))
  refine Go.st (fun U hr => XS.iconst X2.here hx rfl (hb hby d11_19) hr) ?_
  show Go p.tables e below _ (T2.setTop (mkF m 20 #[.val (.ref a1), .val (.int (8 : Int32)), .val (.ref b2)] [(.int (0 : Int32)), (.ref a1)]))
  refine Go.st (fun U hr => XS.aloadN X2.here hx rfl (hb hby d11_20) rfl rfl hr) ?_
  show Go p.tables e below _ (T2.setTop (mkF m 21 #[.val (.ref a1), .val (.int (8 : Int32)), .val (.ref b2)] [(.ref b2), (.int (0 : Int32)), (.ref a1)]))
  refine Go.st (fun U hr => XS.iconst X2.here hx rfl (hb hby d11_21) hr) ?_
  show Go p.tables e below _ (T2.setTop (mkF m 22 #[.val (.ref a1), .val (.int (8 : Int32)), .val (.ref b2)] [(.int (0 : Int32)), (.ref b2), (.int (0 : Int32)), (.ref a1)]))
  refine Go.st (fun U hr => XS.aloadN X2.here hx rfl (hb hby d11_22) rfl rfl hr) ?_
  show Go p.tables e below _ (T2.setTop (mkF m 23 #[.val (.ref a1), .val (.int (8 : Int32)), .val (.ref b2)] [(.ref a1), (.int (0 : Int32)), (.ref b2), (.int (0 : Int32)), (.ref a1)]))
  obtain ⟨cl7, Ar7, qa7, Sa7, Na7, Ha7, Ga7⟩ := id f5
  refine Go.st (X2.arraylength hx (by rw [e2]; exact Ar7.1) (State.isArrayOf_alike hZ.alike Ar7.2.1) (g := (mkF m 23 #[.val (.ref a1), .val (.int (8 : Int32)), .val (.ref b2)] [(.ref a1), (.int (0 : Int32)), (.ref b2), (.int (0 : Int32)), (.ref a1)])) rfl rfl (hb hby d11_23)) ?_
  rw [len_of Sa7 Na7]
  show Go p.tables e below _ (T2.setTop (mkF m 24 #[.val (.ref a1), .val (.int (8 : Int32)), .val (.ref b2)] [(.int (4 : Int32)), (.int (0 : Int32)), (.ref b2), (.int (0 : Int32)), (.ref a1)]))
  refine Go.st (fun U hr => XS.iloadN X2.here hx rfl (hb hby d11_24) rfl hr) ?_
  show Go p.tables e below _ (T2.setTop (mkF m 25 #[.val (.ref a1), .val (.int (8 : Int32)), .val (.ref b2)] [(.int (8 : Int32)), (.int (4 : Int32)), (.int (0 : Int32)), (.ref b2), (.int (0 : Int32)), (.ref a1)]))
  obtain ⟨_, _, ⟨T8, L8, k8, n8⟩, -, X8, ⟨Lc8, hQ8, l8, y8, z8⟩, st8⟩ := Jvm.LawKit.callS X2 hx (y := (⟨"java/lang/Math", "min", "(II)I"⟩ : MethodName)) hown (mvT hZ (hw _ (List.mem_of_getElem? (i := 56) rfl))) (mvT hZ (hw _ (List.mem_of_getElem? (i := 50) rfl))) (mvT hZ (hw _ (List.mem_of_getElem? (i := 51) rfl))) (mvT hZ (hw _ (List.mem_of_getElem? (i := 52) rfl))) (by decide) (backOf (W := 4) (rm10 l Z a0 hw [] (4 : Int32) (8 : Int32) h2 n0 z6) hZ (hw _ (List.mem_of_getElem? (i := 52) rfl)) (hw _ (List.mem_of_getElem? (i := 51) rfl)) (by decide) (by decide)) (g := (mkF m 25 #[.val (.ref a1), .val (.int (8 : Int32)), .val (.ref b2)] [(.int (8 : Int32)), (.int (4 : Int32)), (.int (0 : Int32)), (.ref b2), (.int (0 : Int32)), (.ref a1)])) rfl (by rw [hml]; rfl) (argsL := [(.int (4 : Int32)), (.int (8 : Int32))]) (rest := [(.int (0 : Int32)), (.ref b2), (.int (0 : Int32)), (.ref a1)]) (lenOf pd_2 rfl) rfl (by show 2 * 0 + _ ≤ _; exact Nat.le_of_eq rfl) (hb hby d11_25) (fun _ _ => ⟨rfl, e2, (by decide : 1 + 0 ≤ _), (by decide : 8 + 0 ≤ _)⟩)
  dsimp only [Pt.U, Pt.locs, Pt.cells, Pt.slots] at X8 l8 y8 z8 st8 hQ8
  subst l8 y8 z8
  obtain ⟨rfl, Nq8, ee8⟩ := hQ8
  have N8 := Fr.app N0 Nq8
  refine Go.st st8 ?_
  show Go p.tables e below _ (T8.setTop (mkF m 28 #[.val (.ref a1), .val (.int (8 : Int32)), .val (.ref b2)] [(.int (own_min (4 : Int32) (8 : Int32))), (.int (0 : Int32)), (.ref b2), (.int (0 : Int32)), (.ref a1)]))
  rw [show (own_min (4 : Int32) (8 : Int32)) = (4 : Int32) from by decide]
  show Go p.tables e below _ (T8.setTop (mkF m 28 #[.val (.ref a1), .val (.int (8 : Int32)), .val (.ref b2)] [(.int (4 : Int32)), (.int (0 : Int32)), (.ref b2), (.int (0 : Int32)), (.ref a1)]))
  obtain ⟨T9, h9, L9, X9, e9, N9, Kc9, V9', st9⟩ := cpA X8 hx hZ hown (hw _ (List.mem_of_getElem? (i := 57) rfl)) (hw _ (List.mem_of_getElem? (i := 48) rfl)) (hw _ (List.mem_of_getElem? (i := 46) rfl)) (hw _ (List.mem_of_getElem? (i := 47) rfl)) ee8 f5 V2 (Or.inl ⟨rfl, rfl⟩) (sp := (0 : Int32)) (dp := (0 : Int32)) (nn := (4 : Int32)) (by decide) (by decide) (by decide) (by decide) (by decide) rfl (by simp) N8 gb2 (g := (mkF m 28 #[.val (.ref a1), .val (.int (8 : Int32)), .val (.ref b2)] [(.int (4 : Int32)), (.int (0 : Int32)), (.ref b2), (.int (0 : Int32)), (.ref a1)])) rfl (by rw [hml]; rfl) rfl (hb hby d11_28) (by decide) (W := 0) (by show 2 * 0 + _ ≤ _; exact Nat.le_of_eq rfl) (by decide)
  have V9 : Arv Z h9 b2 k2 .long (8 : Int32) ((own_cp vs).map Value.long) (.long (0 : Int64)) := by have q := own_cp_eq vs hl; rw [← q]; exact V9'
  have f10 := (f5).keep Kc9 (ninS n4 nin0)
  have k12 := (k3).trans Kc9 (allS (Or.inr sb2) all0)
  have z13 := Nat.le_trans z6 Kc9.1
  refine Go.st st9 ?_
  show Go p.tables e below _ (T9.setTop (mkF m 31 #[.val (.ref a1), .val (.int (8 : Int32)), .val (.ref b2)] []))
  refine Go.st (fun U hr => XS.aloadN X9.here hx rfl (hb hby d11_31) rfl rfl hr) ?_
  show Go p.tables e below _ (T9.setTop (mkF m 32 #[.val (.ref a1), .val (.int (8 : Int32)), .val (.ref b2)] [(.ref b2)]))
  exact own_retO X9 hx Bd.notSynchronized (t := (.array .long)) Bd.returns rfl (Or.inr (Or.inr (Or.inr (Or.inr ⟨rfl, rfl, rfl⟩)))) (hb hby d11_32) (by rw [e9]; exact ⟨_, rfl, N9, sb2, k12, _, V9⟩) (by decide) (by decide)
theorem d3_0 : decode prog_5_method_4_code 0 = .ok (.aload_n 0, 1) := by decide +kernel
theorem d3_1 : decode prog_5_method_4_code 1 = .ok (.getfield 25, 3) := by decide +kernel
theorem d3_4 : decode prog_5_method_4_code 4 = .ok (.ifCond .ne 9, 3) := by decide +kernel
theorem d3_7 : decode prog_5_method_4_code 7 = .ok (.aload_n 0, 1) := by decide +kernel
theorem d3_8 : decode prog_5_method_4_code 8 = .ok (.getfield 21, 3) := by decide +kernel
theorem d3_11 : decode prog_5_method_4_code 11 = .ok (.i2d, 1) := by decide +kernel
theorem d3_12 : decode prog_5_method_4_code 12 = .ok (.dreturn, 1) := by decide +kernel
theorem pn_3 : plainFor (⟨"com/example/rigorous_layout/rigorouslayout/DistinctCount", "count", "()D"⟩ : MethodName) = true := plainFor_of_name (by first | (simp [plainName, overriddenIn]; done) | decide +kernel)
theorem ef_3 (m : MethodId) (x0 : Addr) : entryFrame m #[(.ref x0)] 3 = mkF m 0 #[.val (.ref x0), .unset, .unset] [] := by first | (simp [entryFrame, mkF, argsToLocals, Value.category]; done) | rfl
def Q3 (Z : State) (a1 : Addr) (S : Int64 → Prop) (k : Nat) (h0 : Heap) (n0 : Nat) (v : Option Value) (h : Heap) (L : List Loc) : Prop := ∃ sz : Int32, v = some (.double (FP.i2d sz)) ∧ Fr n0 L ∧ h = h0 ∧ sz.toInt = k
set_option maxRecDepth 65536 in
set_option maxHeartbeats 40000000 in
theorem rm3 (l : Launch) (Z : State) (a0 : Array Value) (hw : ∀ d ∈ tables_1, d.before a0 Z = true) (ws : List Jvm.Cond) (a1 : Addr) (S : Int64 → Prop) (k : Nat) (h0 : Heap) (n0 : Nat) (Z0 : n0 ≤ h0.size) (hD : own_DB Z h0 n0 a1 S k) :
    MetFree l (⟨"com/example/rigorous_layout/rigorouslayout/DistinctCount", "count", "()D"⟩ : MethodName) (head1 (Jvm.Cond.code (⟨"com/example/rigorous_layout/rigorouslayout/DistinctCount", "count", "()D"⟩ : MethodName) prog_5_method_4_code 3 (some .double) :: ws) ({ frames := 0, cells := 0, slots := 0, locals := 0 } : Room)) (fun a U => a = #[(.ref a1)] ∧ Z.Warmed39 U.vm ∧ U.heap = h0) (fun _ _ _ _ _ => True) (fun _ U o U' => ∃ v L, o = .returned v ∧ Q3 Z a1 S k h0 n0 v U'.heap L ∧ FrameEnd U o U' L ({ frames := 0, cells := 0, slots := 0, locals := 0 } : Room).cells ({ frames := 0, cells := 0, slots := 0, locals := 0 } : Room).slots) := by
  refine MetFree.of_bodySF pn_3 hisR ?_
  intro p e s m args below meth c s₁ Bd hml0 hP hK
  obtain ⟨rfl, hZ, hh⟩ := hP
  have hx := Bd.exec
  have hby := Bd.bytes
  have hml : c.maxLocals = 3 := hml0
  have hown : s.vm.findClass "com/example/rigorous_layout/rigorouslayout/DistinctCount" = some m.cls := findClass_of_methodNamed Bd.named
  have hnm := (name_of_methodNamed Bd.named Bd.method).1
  have X0 : Stand p l e ({ frames := 0, cells := 0, slots := 0, locals := 0 } : Room) s m #[(.ref a1)] below meth c s₁ [] 0 0 := Stand.of_body Bd
  have e0 : s₁.heap = h0 := by rw [← hh, Bd.state]; rfl
  have N0 := Fr.nil n0
  refine own_start (Q := Q3 Z a1 S k h0 n0) (own_cast (ef_3 m a1) ?_)
  show Go p.tables e below _ (s₁.setTop (mkF m 0 #[.val (.ref a1), .unset, .unset] []))
  obtain ⟨ra, kr, z, sz, vs, E1, F1, F2, F3, V1, gr, ne1, hz, lv, hsz, hkz, hs, hS⟩ := hD
  have hN := own_zN hz
  refine Go.st (fun U hr => XS.aloadN X0.here hx rfl (hb hby d3_0) rfl rfl hr) ?_
  show Go p.tables e below _ (s₁.setTop (mkF m 1 #[.val (.ref a1), .unset, .unset] [(.ref a1)]))
  obtain ⟨T1, X1, e1, st1⟩ := getF X0 hx hZ hown (host := "") (Or.inl (hw _ (List.mem_of_getElem? (i := 17) rfl))) Via.refl e0 F3 (g := (mkF m 1 #[.val (.ref a1), .unset, .unset] [(.ref a1)])) rfl rfl (hb hby d3_1)
  refine Go.st st1 ?_
  show Go p.tables e below _ (T1.setTop (mkF m 4 #[.val (.ref a1), .unset, .unset] [(.int (0 : Int32))]))
  refine Go.st (fun U hr => XS.ifNo X1.here hx rfl (hb hby d3_4) rfl (by decide) hr) ?_
  show Go p.tables e below _ (T1.setTop (mkF m 7 #[.val (.ref a1), .unset, .unset] []))
  refine Go.st (fun U hr => XS.aloadN X1.here hx rfl (hb hby d3_7) rfl rfl hr) ?_
  show Go p.tables e below _ (T1.setTop (mkF m 8 #[.val (.ref a1), .unset, .unset] [(.ref a1)]))
  obtain ⟨T2, X2, e2, st2⟩ := getF X1 hx hZ hown (host := "") (Or.inl (hw _ (List.mem_of_getElem? (i := 19) rfl))) Via.refl e1 F2 (g := (mkF m 8 #[.val (.ref a1), .unset, .unset] [(.ref a1)])) rfl rfl (hb hby d3_8)
  refine Go.st st2 ?_
  show Go p.tables e below _ (T2.setTop (mkF m 11 #[.val (.ref a1), .unset, .unset] [(.int sz)]))
  refine Go.st (fun U hr => XS.i2dS X2.here hx rfl (hb hby d3_11) rfl rfl hr) ?_
  show Go p.tables e below _ (T2.setTop (mkF m 12 #[.val (.ref a1), .unset, .unset] [(.double (FP.i2d sz))]))
  exact own_retO X2 hx Bd.notSynchronized (t := .double) Bd.returns rfl (Or.inr (Or.inr (Or.inl ⟨rfl, rfl, _, rfl⟩))) (hb hby d3_12) ⟨_, rfl, N0, e2, hsz⟩ (by decide) (by decide)
theorem d6_0 : decode prog_5_method_5_code 0 = .ok (.aload_n 0, 1) := by decide +kernel
theorem d6_1 : decode prog_5_method_5_code 1 = .ok (.getfield 7, 3) := by decide +kernel
theorem d6_4 : decode prog_5_method_5_code 4 = .ok (.iconst 0, 1) := by decide +kernel
theorem d6_5 : decode prog_5_method_5_code 5 = .ok (.aload_n 0, 1) := by decide +kernel
theorem d6_6 : decode prog_5_method_5_code 6 = .ok (.getfield 21, 3) := by decide +kernel
theorem d6_9 : decode prog_5_method_5_code 9 = .ok (.lload_n 1, 1) := by decide +kernel
theorem d6_10 : decode prog_5_method_5_code 10 = .ok (.invokestatic 35, 3) := by decide +kernel
theorem d6_13 : decode prog_5_method_5_code 13 = .ok (.istore_n 3, 1) := by decide +kernel
theorem d6_14 : decode prog_5_method_5_code 14 = .ok (.iload_n 3, 1) := by decide +kernel
theorem d6_15 : decode prog_5_method_5_code 15 = .ok (.ifCond .lt 4, 3) := by decide +kernel
theorem d6_18 : decode prog_5_method_5_code 18 = .ok (.return_, 1) := by decide +kernel
theorem d6_19 : decode prog_5_method_5_code 19 = .ok (.iload_n 3, 1) := by decide +kernel
theorem d6_20 : decode prog_5_method_5_code 20 = .ok (.ineg, 1) := by decide +kernel
theorem d6_21 : decode prog_5_method_5_code 21 = .ok (.iconst 1, 1) := by decide +kernel
theorem d6_22 : decode prog_5_method_5_code 22 = .ok (.isub, 1) := by decide +kernel
theorem d6_23 : decode prog_5_method_5_code 23 = .ok (.istore_n 3, 1) := by decide +kernel
theorem d6_24 : decode prog_5_method_5_code 24 = .ok (.aload_n 0, 1) := by decide +kernel
theorem d6_25 : decode prog_5_method_5_code 25 = .ok (.getfield 21, 3) := by decide +kernel
theorem d6_28 : decode prog_5_method_5_code 28 = .ok (.sipush 256, 3) := by decide +kernel
theorem d6_31 : decode prog_5_method_5_code 31 = .ok (.if_icmp .ne 29, 3) := by decide +kernel
theorem d6_60 : decode prog_5_method_5_code 60 = .ok (.aload_n 0, 1) := by decide +kernel
theorem d6_61 : decode prog_5_method_5_code 61 = .ok (.getfield 21, 3) := by decide +kernel
theorem d6_64 : decode prog_5_method_5_code 64 = .ok (.aload_n 0, 1) := by decide +kernel
theorem d6_65 : decode prog_5_method_5_code 65 = .ok (.getfield 7, 3) := by decide +kernel
theorem d6_68 : decode prog_5_method_5_code 68 = .ok (.arraylength, 1) := by decide +kernel
theorem d6_69 : decode prog_5_method_5_code 69 = .ok (.if_icmp .ne 26, 3) := by decide +kernel
theorem d6_72 : decode prog_5_method_5_code 72 = .ok (.aload_n 0, 1) := by decide +kernel
theorem d6_73 : decode prog_5_method_5_code 73 = .ok (.aload_n 0, 1) := by decide +kernel
theorem d6_74 : decode prog_5_method_5_code 74 = .ok (.getfield 7, 3) := by decide +kernel
theorem d6_77 : decode prog_5_method_5_code 77 = .ok (.sipush 256, 3) := by decide +kernel
theorem d6_80 : decode prog_5_method_5_code 80 = .ok (.iconst 2, 1) := by decide +kernel
theorem d6_81 : decode prog_5_method_5_code 81 = .ok (.aload_n 0, 1) := by decide +kernel
theorem d6_82 : decode prog_5_method_5_code 82 = .ok (.getfield 21, 3) := by decide +kernel
theorem d6_85 : decode prog_5_method_5_code 85 = .ok (.imul, 1) := by decide +kernel
theorem d6_86 : decode prog_5_method_5_code 86 = .ok (.invokestatic 41, 3) := by decide +kernel
theorem d6_89 : decode prog_5_method_5_code 89 = .ok (.invokestatic 47, 3) := by decide +kernel
theorem d6_92 : decode prog_5_method_5_code 92 = .ok (.putfield 7, 3) := by decide +kernel
theorem d6_95 : decode prog_5_method_5_code 95 = .ok (.aload_n 0, 1) := by decide +kernel
theorem d6_96 : decode prog_5_method_5_code 96 = .ok (.getfield 7, 3) := by decide +kernel
theorem d6_99 : decode prog_5_method_5_code 99 = .ok (.iload_n 3, 1) := by decide +kernel
theorem d6_100 : decode prog_5_method_5_code 100 = .ok (.aload_n 0, 1) := by decide +kernel
theorem d6_101 : decode prog_5_method_5_code 101 = .ok (.getfield 7, 3) := by decide +kernel
theorem d6_104 : decode prog_5_method_5_code 104 = .ok (.iload_n 3, 1) := by decide +kernel
theorem d6_105 : decode prog_5_method_5_code 105 = .ok (.iconst 1, 1) := by decide +kernel
theorem d6_106 : decode prog_5_method_5_code 106 = .ok (.iadd, 1) := by decide +kernel
theorem d6_107 : decode prog_5_method_5_code 107 = .ok (.aload_n 0, 1) := by decide +kernel
theorem d6_108 : decode prog_5_method_5_code 108 = .ok (.getfield 21, 3) := by decide +kernel
theorem d6_111 : decode prog_5_method_5_code 111 = .ok (.iload_n 3, 1) := by decide +kernel
theorem d6_112 : decode prog_5_method_5_code 112 = .ok (.isub, 1) := by decide +kernel
theorem d6_113 : decode prog_5_method_5_code 113 = .ok (.invokestatic 51, 3) := by decide +kernel
theorem d6_116 : decode prog_5_method_5_code 116 = .ok (.aload_n 0, 1) := by decide +kernel
theorem d6_117 : decode prog_5_method_5_code 117 = .ok (.getfield 7, 3) := by decide +kernel
theorem d6_120 : decode prog_5_method_5_code 120 = .ok (.iload_n 3, 1) := by decide +kernel
theorem d6_121 : decode prog_5_method_5_code 121 = .ok (.lload_n 1, 1) := by decide +kernel
theorem d6_122 : decode prog_5_method_5_code 122 = .ok (.lastore, 1) := by decide +kernel
theorem d6_123 : decode prog_5_method_5_code 123 = .ok (.aload_n 0, 1) := by decide +kernel
theorem d6_124 : decode prog_5_method_5_code 124 = .ok (.dup, 1) := by decide +kernel
theorem d6_125 : decode prog_5_method_5_code 125 = .ok (.getfield 21, 3) := by decide +kernel
theorem d6_128 : decode prog_5_method_5_code 128 = .ok (.iconst 1, 1) := by decide +kernel
theorem d6_129 : decode prog_5_method_5_code 129 = .ok (.iadd, 1) := by decide +kernel
theorem d6_130 : decode prog_5_method_5_code 130 = .ok (.putfield 21, 3) := by decide +kernel
theorem d6_133 : decode prog_5_method_5_code 133 = .ok (.return_, 1) := by decide +kernel
theorem pn_6 : plainFor (⟨"com/example/rigorous_layout/rigorouslayout/DistinctCount", "insert", "(J)V"⟩ : MethodName) = true := plainFor_of_name (by first | (simp [plainName, overriddenIn]; done) | decide +kernel)
theorem ef_6 (m : MethodId) (x0 : Addr) (x1 : Int64) : entryFrame m #[(.ref x0), (.long x1)] 4 = mkF m 0 #[.val (.ref x0), .val (.long x1), .second, .unset] [] := by first | (simp [entryFrame, mkF, argsToLocals, Value.category]; done) | rfl
theorem pd_3 : parseMethodDescriptor "([JI)[J" = some ⟨[(.array .long), .int], some (.array .long)⟩ := by decide +kernel
def Q6 (Z : State) (a1 : Addr) (q2 : Int64) (S : Int64 → Prop) (k : Nat) (h0 : Heap) (n0 : Nat) (v : Option Value) (h : Heap) (L : List Loc) : Prop := v = none ∧ Fr n0 L ∧ h0.size ≤ h.size ∧ ∃ k', ((S q2 → k' = k) ∧ (¬ S q2 → k' = k + 1)) ∧ own_DB Z h n0 a1 (fun r => S r ∨ r = q2) k'
set_option maxRecDepth 65536 in
set_option maxHeartbeats 40000000 in
theorem rm6 (l : Launch) (Z : State) (a0 : Array Value) (hw : ∀ d ∈ tables_1, d.before a0 Z = true) (ws : List Jvm.Cond) (a1 : Addr) (q2 : Int64) (S : Int64 → Prop) (k : Nat) (h0 : Heap) (n0 : Nat) (Z0 : n0 ≤ h0.size) (hD : own_DB Z h0 n0 a1 S k) (g1 : n0 ≤ a1) (hk4 : k ≤ 4) :
    MetFree l (⟨"com/example/rigorous_layout/rigorouslayout/DistinctCount", "insert", "(J)V"⟩ : MethodName) (head1 (Jvm.Cond.code (⟨"com/example/rigorous_layout/rigorouslayout/DistinctCount", "insert", "(J)V"⟩ : MethodName) prog_5_method_5_code 4 none :: ws) ({ frames := 2, cells := 1, slots := 8, locals := 37 } : Room)) (fun a U => a = #[(.ref a1), (.long q2)] ∧ Z.Warmed39 U.vm ∧ U.heap = h0) (fun _ _ _ _ _ => True) (fun _ U o U' => ∃ v L, o = .returned v ∧ Q6 Z a1 q2 S k h0 n0 v U'.heap L ∧ FrameEnd U o U' L ({ frames := 2, cells := 1, slots := 8, locals := 37 } : Room).cells ({ frames := 2, cells := 1, slots := 8, locals := 37 } : Room).slots) := by
  refine MetFree.of_bodySF pn_6 hisR ?_
  intro p e s m args below meth c s₁ Bd hml0 hP hK
  obtain ⟨rfl, hZ, hh⟩ := hP
  have hx := Bd.exec
  have hby := Bd.bytes
  have hml : c.maxLocals = 4 := hml0
  have hown : s.vm.findClass "com/example/rigorous_layout/rigorouslayout/DistinctCount" = some m.cls := findClass_of_methodNamed Bd.named
  have hnm := (name_of_methodNamed Bd.named Bd.method).1
  have X0 : Stand p l e ({ frames := 2, cells := 1, slots := 8, locals := 37 } : Room) s m #[(.ref a1), (.long q2)] below meth c s₁ [] 0 0 := Stand.of_body Bd
  have e0 : s₁.heap = h0 := by rw [← hh, Bd.state]; rfl
  have N0 := Fr.nil n0
  refine own_start (Q := Q6 Z a1 q2 S k h0 n0) (own_cast (ef_6 m a1 q2) ?_)
  show Go p.tables e below _ (s₁.setTop (mkF m 0 #[.val (.ref a1), .val (.long q2), .second, .unset] []))
  obtain ⟨ra, kr, z, sz, vs, E1, F1, F2, F3, V1, gr, ne1, hz, lv, hsz, hkz, hs, hS⟩ := hD
  have hN := own_zN hz
  refine Go.st (fun U hr => XS.aloadN X0.here hx rfl (hb hby d6_0) rfl rfl hr) ?_
  show Go p.tables e below _ (s₁.setTop (mkF m 1 #[.val (.ref a1), .val (.long q2), .second, .unset] [(.ref a1)]))
  obtain ⟨T1, X1, e1, st1⟩ := getF X0 hx hZ hown (host := "") (Or.inl (hw _ (List.mem_of_getElem? (i := 10) rfl))) Via.refl e0 F1 (g := (mkF m 1 #[.val (.ref a1), .val (.long q2), .second, .unset] [(.ref a1)])) rfl rfl (hb hby d6_1)
  refine Go.st st1 ?_
  show Go p.tables e below _ (T1.setTop (mkF m 4 #[.val (.ref a1), .val (.long q2), .second, .unset] [(.ref ra)]))
  refine Go.st (fun U hr => XS.iconst X1.here hx rfl (hb hby d6_4) hr) ?_
  show Go p.tables e below _ (T1.setTop (mkF m 5 #[.val (.ref a1), .val (.long q2), .second, .unset] [(.int (0 : Int32)), (.ref ra)]))
  refine Go.st (fun U hr => XS.aloadN X1.here hx rfl (hb hby d6_5) rfl rfl hr) ?_
  show Go p.tables e below _ (T1.setTop (mkF m 6 #[.val (.ref a1), .val (.long q2), .second, .unset] [(.ref a1), (.int (0 : Int32)), (.ref ra)]))
  obtain ⟨T2, X2, e2, st2⟩ := getF X1 hx hZ hown (host := "") (Or.inl (hw _ (List.mem_of_getElem? (i := 19) rfl))) Via.refl e1 F2 (g := (mkF m 6 #[.val (.ref a1), .val (.long q2), .second, .unset] [(.ref a1), (.int (0 : Int32)), (.ref ra)])) rfl rfl (hb hby d6_6)
  refine Go.st st2 ?_
  show Go p.tables e below _ (T2.setTop (mkF m 9 #[.val (.ref a1), .val (.long q2), .second, .unset] [(.int sz), (.int (0 : Int32)), (.ref ra)]))
  refine Go.st (fun U hr => XS.lloadN X2.here hx rfl (hb hby d6_9) rfl hr) ?_
  show Go p.tables e below _ (T2.setTop (mkF m 10 #[.val (.ref a1), .val (.long q2), .second, .unset] [(.long q2), (.int sz), (.int (0 : Int32)), (.ref ra)]))
  obtain ⟨_, _, ⟨T3, L3, k3, n3⟩, -, X3, ⟨Lc3, hQ3, l3, y3, z3⟩, st3⟩ := Jvm.LawKit.callS X2 hx (y := (⟨"java/util/Arrays", "binarySearch", "([JIIJ)I"⟩ : MethodName)) hown (mvT hZ (hw _ (List.mem_of_getElem? (i := 35) rfl))) (mvT hZ (hw _ (List.mem_of_getElem? (i := 36) rfl))) (mvT hZ (hw _ (List.mem_of_getElem? (i := 37) rfl))) (mvT hZ (hw _ (List.mem_of_getElem? (i := 38) rfl))) (by decide) (backOf (W := 0) (rm7 l Z a0 hw [] ra sz q2 kr z vs k h0 n0 Z0 V1 hz ⟨hsz, by omega⟩ hs) hZ (hw _ (List.mem_of_getElem? (i := 38) rfl)) (hw _ (List.mem_of_getElem? (i := 37) rfl)) (by decide) (by decide)) (g := (mkF m 10 #[.val (.ref a1), .val (.long q2), .second, .unset] [(.long q2), (.int sz), (.int (0 : Int32)), (.ref ra)])) rfl (by rw [hml]; rfl) (argsL := [(.ref ra), (.int (0 : Int32)), (.int sz), (.long q2)]) (rest := []) (lenOf pd_1 rfl) rfl (by show 2 * 0 + _ ≤ _; exact Nat.le_of_eq rfl) (hb hby d6_10) (fun _ _ => ⟨rfl, e2, (by decide : 0 + 0 ≤ _), (by decide : 0 + 0 ≤ _)⟩)
  dsimp only [Pt.U, Pt.locs, Pt.cells, Pt.slots] at X3 l3 y3 z3 st3 hQ3
  subst l3 y3 z3
  obtain ⟨r3, rfl, Nq3, ee3, hr3⟩ := hQ3
  have N3 := Fr.app N0 Nq3
  refine Go.st st3 ?_
  show Go p.tables e below _ (T3.setTop (mkF m 13 #[.val (.ref a1), .val (.long q2), .second, .unset] [(.int r3)]))
  refine Go.st (fun U hr => XS.istoreN X3.here hx rfl (hb hby d6_13) rfl (l' := #[.val (.ref a1), .val (.long q2), .second, .val (.int r3)]) rfl hr) ?_
  show Go p.tables e below _ (T3.setTop (mkF m 14 #[.val (.ref a1), .val (.long q2), .second, .val (.int r3)] []))
  refine Go.st (fun U hr => XS.iloadN X3.here hx rfl (hb hby d6_14) rfl hr) ?_
  show Go p.tables e below _ (T3.setTop (mkF m 15 #[.val (.ref a1), .val (.long q2), .second, .val (.int r3)] [(.int r3)]))
  by_cases hc15_4 : r3 < (0 : Int32)
  · refine Go.st (fun U hr => XS.ifYes X3.here hx rfl (pc0 := 15) (pc' := 19) rfl (hb hby d6_15) rfl ((if0 _ _).trans (tlt hc15_4).1) (by decide) (by decide) hr) ?_
    show Go p.tables e below _ (T3.setTop (mkF m 19 #[.val (.ref a1), .val (.long q2), .second, .val (.int r3)] []))
    refine Go.st (fun U hr => XS.iloadN X3.here hx rfl (hb hby d6_19) rfl hr) ?_
    show Go p.tables e below _ (T3.setTop (mkF m 20 #[.val (.ref a1), .val (.long q2), .second, .val (.int r3)] [(.int r3)]))
    refine Go.st (fun U hr => XS.ineg X3.here hx rfl (hb hby d6_20) rfl hr) ?_
    show Go p.tables e below _ (T3.setTop (mkF m 21 #[.val (.ref a1), .val (.long q2), .second, .val (.int r3)] [(.int (-r3))]))
    refine Go.st (fun U hr => XS.iconst X3.here hx rfl (hb hby d6_21) hr) ?_
    show Go p.tables e below _ (T3.setTop (mkF m 22 #[.val (.ref a1), .val (.long q2), .second, .val (.int r3)] [(.int (1 : Int32)), (.int (-r3))]))
    refine Go.st (fun U hr => XS.isub X3.here hx rfl (hb hby d6_22) rfl hr) ?_
    show Go p.tables e below _ (T3.setTop (mkF m 23 #[.val (.ref a1), .val (.long q2), .second, .val (.int r3)] [(.int ((-r3) - (1 : Int32)))]))
    refine Go.st (fun U hr => XS.istoreN X3.here hx rfl (hb hby d6_23) rfl (l' := #[.val (.ref a1), .val (.long q2), .second, .val (.int ((-r3) - (1 : Int32)))]) rfl hr) ?_
    show Go p.tables e below _ (T3.setTop (mkF m 24 #[.val (.ref a1), .val (.long q2), .second, .val (.int ((-r3) - (1 : Int32)))] []))
    generalize h_ip : ((-r3) - (1 : Int32)) = ip
    have hneg : r3.toInt < 0 := by have q := (own_lt32 _ _).mp hc15_4; rw [show (0 : Int32).toInt = 0 from by decide] at q; exact q
    obtain ⟨pp, hp0, hpk, hp1, hp2⟩ := hr3.resolve_left (fun q => by omega)
    have hip : ip.toInt = pp := by
      rw [← h_ip]
      have h1 := c_ineg r3
      have r1 := rng32 (-r3)
      have h2 := c_isub (-r3) 1
      rw [show (1 : Int32).toInt = 1 from by decide] at h2
      have r2 := rng32 (-r3 - 1)
      omega
    have hipn := own_nat (i := ip) (by omega)
    have hnS : ¬ S q2 := fun q => by
      obtain ⟨i, i1, i2⟩ := (hS q2).mp q
      by_cases c : i < pp
      · have := hp1 i c; rw [i2] at this; exact absurd this Int64.lt_irrefl
      · have := hp2 i (by omega) i1; rw [i2] at this; exact absurd this Int64.lt_irrefl
    refine Go.st (fun U hr => XS.aloadN X3.here hx rfl (hb hby d6_24) rfl rfl hr) ?_
    show Go p.tables e below _ (T3.setTop (mkF m 25 #[.val (.ref a1), .val (.long q2), .second, .val (.int ip)] [(.ref a1)]))
    obtain ⟨T5, X5, e5, st5⟩ := getF X3 hx hZ hown (host := "") (Or.inl (hw _ (List.mem_of_getElem? (i := 19) rfl))) Via.refl ee3 F2 (g := (mkF m 25 #[.val (.ref a1), .val (.long q2), .second, .val (.int ip)] [(.ref a1)])) rfl rfl (hb hby d6_25)
    refine Go.st st5 ?_
    show Go p.tables e below _ (T5.setTop (mkF m 28 #[.val (.ref a1), .val (.long q2), .second, .val (.int ip)] [(.int sz)]))
    refine Go.st (fun U hr => XS.sipush X5.here hx rfl (hb hby d6_28) hr) ?_
    show Go p.tables e below _ (T5.setTop (mkF m 31 #[.val (.ref a1), .val (.long q2), .second, .val (.int ip)] [(.int (256 : Int32)), (.int sz)]))
    have hc31_6 : ¬ (sz = (256 : Int32)) := fun q => by rw [q, show (256 : Int32).toInt = 256 from by decide] at hsz; omega
    refine Go.st (fun U hr => XS.icmpYes X5.here hx rfl (pc0 := 31) (pc' := 60) rfl (hb hby d6_31) rfl (feq hc31_6).2 (by decide) (by decide) hr) ?_
    show Go p.tables e below _ (T5.setTop (mkF m 60 #[.val (.ref a1), .val (.long q2), .second, .val (.int ip)] []))
    have k95 : ∀ (Tc : State) (lc : List Loc) (hc : Heap) (rc : Addr) (kc : ClassId) (zc' : Int32) (vc : List Int64), Stand p l e ({ frames := 2, cells := 1, slots := 8, locals := 37 } : Room) s m #[(.ref a1), (.long q2)] below meth c Tc lc 1 8 → Tc.heap = hc → Fr n0 lc → n0 ≤ hc.size → h0.size ≤ hc.size → Exa Z hc a1 "com/example/rigorous_layout/rigorouslayout/DistinctCount" → Fld Z hc a1 "com/example/rigorous_layout/rigorouslayout/DistinctCount" "ranks" "[J" (.ref rc) → Fld Z hc a1 "com/example/rigorous_layout/rigorouslayout/DistinctCount" "size" "I" (.int sz) → Fld Z hc a1 "com/example/rigorous_layout/rigorouslayout/DistinctCount" "estimated" "Z" (.int (0 : Int32)) → Arv Z hc rc kc .long zc' (vc.map Value.long) (.long (0 : Int64)) → n0 ≤ rc → rc ≠ a1 → (zc' = 4 ∨ zc' = 8) → vc.length = zc'.toNatClampNeg → k < zc'.toNatClampNeg → (∀ i, i < k → own_k vc i = own_k vs i) → Go p.tables e below (own_Fin s below ({ frames := 2, cells := 1, slots := 8, locals := 37 } : Room).cells ({ frames := 2, cells := 1, slots := 8, locals := 37 } : Room).slots (Q6 Z a1 q2 S k h0 n0)) (Tc.setTop (mkF m 95 #[.val (.ref a1), .val (.long q2), .second, .val (.int ip)] [])) := by
      intro Tc lc hc rc kc zc' vc Xc ec Nc zc hsz0 Ec Fc1 Fc2 Fc3 Vc gc nec hzc lvc hkc hvc
      have hNc := own_zN hzc
      have hd1 : (ip + 1).toInt = pp + 1 := by
        have h1 := c_iadd ip 1
        rw [show (1 : Int32).toInt = 1 from by decide] at h1
        have r1 := rng32 (ip + 1)
        omega
      have hd1n := own_nat (i := ip + 1) (by omega)
      have hd2 : (sz - ip).toInt = k - pp := by
        have h1 := c_isub sz ip
        have r1 := rng32 (sz - ip)
        omega
      have hd2n := own_nat (i := sz - ip) (by omega)
      have e1 : ip.toNatClampNeg = pp := by omega
      have e2 : (ip + 1).toNatClampNeg = pp + 1 := by omega
      have e3 : (sz - ip).toNatClampNeg = k - pp := by omega
      show Go p.tables e below _ (Tc.setTop (mkF m 95 #[.val (.ref a1), .val (.long q2), .second, .val (.int ip)] []))
      refine Go.st (fun U hr => XS.aloadN Xc.here hx rfl (hb hby d6_95) rfl rfl hr) ?_
      show Go p.tables e below _ (Tc.setTop (mkF m 96 #[.val (.ref a1), .val (.long q2), .second, .val (.int ip)] [(.ref a1)]))
      obtain ⟨T7, X7, e7, st7⟩ := getF Xc hx hZ hown (host := "") (Or.inl (hw _ (List.mem_of_getElem? (i := 10) rfl))) Via.refl ec Fc1 (g := (mkF m 96 #[.val (.ref a1), .val (.long q2), .second, .val (.int ip)] [(.ref a1)])) rfl rfl (hb hby d6_96)
      refine Go.st st7 ?_
      show Go p.tables e below _ (T7.setTop (mkF m 99 #[.val (.ref a1), .val (.long q2), .second, .val (.int ip)] [(.ref rc)]))
      refine Go.st (fun U hr => XS.iloadN X7.here hx rfl (hb hby d6_99) rfl hr) ?_
      show Go p.tables e below _ (T7.setTop (mkF m 100 #[.val (.ref a1), .val (.long q2), .second, .val (.int ip)] [(.int ip), (.ref rc)]))
      refine Go.st (fun U hr => XS.aloadN X7.here hx rfl (hb hby d6_100) rfl rfl hr) ?_
      show Go p.tables e below _ (T7.setTop (mkF m 101 #[.val (.ref a1), .val (.long q2), .second, .val (.int ip)] [(.ref a1), (.int ip), (.ref rc)]))
      obtain ⟨T8, X8, e8, st8⟩ := getF X7 hx hZ hown (host := "") (Or.inl (hw _ (List.mem_of_getElem? (i := 10) rfl))) Via.refl e7 Fc1 (g := (mkF m 101 #[.val (.ref a1), .val (.long q2), .second, .val (.int ip)] [(.ref a1), (.int ip), (.ref rc)])) rfl rfl (hb hby d6_101)
      refine Go.st st8 ?_
      show Go p.tables e below _ (T8.setTop (mkF m 104 #[.val (.ref a1), .val (.long q2), .second, .val (.int ip)] [(.ref rc), (.int ip), (.ref rc)]))
      refine Go.st (fun U hr => XS.iloadN X8.here hx rfl (hb hby d6_104) rfl hr) ?_
      show Go p.tables e below _ (T8.setTop (mkF m 105 #[.val (.ref a1), .val (.long q2), .second, .val (.int ip)] [(.int ip), (.ref rc), (.int ip), (.ref rc)]))
      refine Go.st (fun U hr => XS.iconst X8.here hx rfl (hb hby d6_105) hr) ?_
      show Go p.tables e below _ (T8.setTop (mkF m 106 #[.val (.ref a1), .val (.long q2), .second, .val (.int ip)] [(.int (1 : Int32)), (.int ip), (.ref rc), (.int ip), (.ref rc)]))
      refine Go.st (fun U hr => XS.iadd X8.here hx rfl (hb hby d6_106) rfl hr) ?_
      show Go p.tables e below _ (T8.setTop (mkF m 107 #[.val (.ref a1), .val (.long q2), .second, .val (.int ip)] [(.int (ip + (1 : Int32))), (.ref rc), (.int ip), (.ref rc)]))
      refine Go.st (fun U hr => XS.aloadN X8.here hx rfl (hb hby d6_107) rfl rfl hr) ?_
      show Go p.tables e below _ (T8.setTop (mkF m 108 #[.val (.ref a1), .val (.long q2), .second, .val (.int ip)] [(.ref a1), (.int (ip + (1 : Int32))), (.ref rc), (.int ip), (.ref rc)]))
      obtain ⟨T9, X9, e9, st9⟩ := getF X8 hx hZ hown (host := "") (Or.inl (hw _ (List.mem_of_getElem? (i := 19) rfl))) Via.refl e8 Fc2 (g := (mkF m 108 #[.val (.ref a1), .val (.long q2), .second, .val (.int ip)] [(.ref a1), (.int (ip + (1 : Int32))), (.ref rc), (.int ip), (.ref rc)])) rfl rfl (hb hby d6_108)
      refine Go.st st9 ?_
      show Go p.tables e below _ (T9.setTop (mkF m 111 #[.val (.ref a1), .val (.long q2), .second, .val (.int ip)] [(.int sz), (.int (ip + (1 : Int32))), (.ref rc), (.int ip), (.ref rc)]))
      refine Go.st (fun U hr => XS.iloadN X9.here hx rfl (hb hby d6_111) rfl hr) ?_
      show Go p.tables e below _ (T9.setTop (mkF m 112 #[.val (.ref a1), .val (.long q2), .second, .val (.int ip)] [(.int ip), (.int sz), (.int (ip + (1 : Int32))), (.ref rc), (.int ip), (.ref rc)]))
      refine Go.st (fun U hr => XS.isub X9.here hx rfl (hb hby d6_112) rfl hr) ?_
      show Go p.tables e below _ (T9.setTop (mkF m 113 #[.val (.ref a1), .val (.long q2), .second, .val (.int ip)] [(.int (sz - ip)), (.int (ip + (1 : Int32))), (.ref rc), (.int ip), (.ref rc)]))
      obtain ⟨T10, h10, L10, X10, e10, N10, Kc10, V10', st10⟩ := cpA X9 hx hZ hown (hw _ (List.mem_of_getElem? (i := 45) rfl)) (hw _ (List.mem_of_getElem? (i := 48) rfl)) (hw _ (List.mem_of_getElem? (i := 46) rfl)) (hw _ (List.mem_of_getElem? (i := 47) rfl)) e9 Vc Vc (Or.inl ⟨rfl, rfl⟩) (sp := ip) (dp := (ip + (1 : Int32))) (nn := (sz - ip)) (own_neg (by omega)) (own_neg (by omega)) (own_neg (by omega)) (by omega) (by omega) rfl (by rw [List.length_map]; omega) Nc gc (g := (mkF m 113 #[.val (.ref a1), .val (.long q2), .second, .val (.int ip)] [(.int (sz - ip)), (.int (ip + (1 : Int32))), (.ref rc), (.int ip), (.ref rc)])) rfl (by rw [hml]; rfl) rfl (hb hby d6_113) (by decide) (W := 0) (by show 2 * 0 + _ ≤ _; exact Nat.le_of_eq rfl) (by decide)
      have V10 : Arv Z h10 rc kc .long zc' ((own_mv vc pp (pp + 1) (k - pp)).map Value.long) (.long (0 : Int64)) := by have q := V10'; rw [e1, e2, e3, own_mv_map] at q; exact q
      have f11 := (Ec).keep Kc10
      have f12 := (Fc1).keep Kc10 (ninS (Ne.symm nec) nin0)
      have f13 := (Fc2).keep Kc10 (ninS (Ne.symm nec) nin0)
      have f14 := (Fc3).keep Kc10 (ninS (Ne.symm nec) nin0)
      have k16 := ((Keep.refl hc [a1, rc])).trans Kc10 (allS (Or.inl (List.mem_of_getElem? (i := 1) rfl)) all0)
      have z17 := Nat.le_trans zc Kc10.1
      refine Go.st st10 ?_
      show Go p.tables e below _ (T10.setTop (mkF m 116 #[.val (.ref a1), .val (.long q2), .second, .val (.int ip)] []))
      refine Go.st (fun U hr => XS.aloadN X10.here hx rfl (hb hby d6_116) rfl rfl hr) ?_
      show Go p.tables e below _ (T10.setTop (mkF m 117 #[.val (.ref a1), .val (.long q2), .second, .val (.int ip)] [(.ref a1)]))
      obtain ⟨T18, X18, e18, st18⟩ := getF X10 hx hZ hown (host := "") (Or.inl (hw _ (List.mem_of_getElem? (i := 10) rfl))) Via.refl e10 f12 (g := (mkF m 117 #[.val (.ref a1), .val (.long q2), .second, .val (.int ip)] [(.ref a1)])) rfl rfl (hb hby d6_117)
      refine Go.st st18 ?_
      show Go p.tables e below _ (T18.setTop (mkF m 120 #[.val (.ref a1), .val (.long q2), .second, .val (.int ip)] [(.ref rc)]))
      refine Go.st (fun U hr => XS.iloadN X18.here hx rfl (hb hby d6_120) rfl hr) ?_
      show Go p.tables e below _ (T18.setTop (mkF m 121 #[.val (.ref a1), .val (.long q2), .second, .val (.int ip)] [(.int ip), (.ref rc)]))
      refine Go.st (fun U hr => XS.lloadN X18.here hx rfl (hb hby d6_121) rfl hr) ?_
      show Go p.tables e below _ (T18.setTop (mkF m 122 #[.val (.ref a1), .val (.long q2), .second, .val (.int ip)] [(.long q2), (.int ip), (.ref rc)]))
      obtain ⟨cl19, Ar19, qa19, Sa19, Na19, Ha19, Ga19⟩ := id V10
      have hin19 : ¬ (ip < 0 ∨ cl19.slots.size ≤ (ip).toNatClampNeg) := inb_of Sa19 (own_inb ⟨by omega, by omega⟩)
      obtain ⟨T20, h20, X20, e20, W20, st20⟩ := stJ X18 hx hZ e18 Ar19 (j := ip) hin19 (g := (mkF m 122 #[.val (.ref a1), .val (.long q2), .second, .val (.int ip)] [(.long q2), (.int ip), (.ref rc)])) rfl rfl (hb hby d6_122)
      refine Go.st st20 ?_
      have V20' := Arv.set Ar19 qa19 Sa19 Na19 Ha19 Ga19 rfl W20 (ip.toNatClampNeg) rfl (by rw [List.length_map, own_mv_len _ _ _ _ (by omega)]; omega)
      have V20 : Arv Z h20 rc kc .long zc' (((own_mv vc pp (pp + 1) (k - pp)).set pp q2).map Value.long) (.long (0 : Int64)) := by have q := V20'; rw [e1, ← List.map_set] at q; exact q
      have k21 := (k16).wr W20 (Or.inl (List.mem_of_getElem? (i := 1) rfl))
      have f22 := (f11).wr W20
      have f23 := (f12).other W20 (Or.inl (Ne.symm nec))
      have f24 := (f13).other W20 (Or.inl (Ne.symm nec))
      have f25 := (f14).other W20 (Or.inl (Ne.symm nec))
      have z27 := Nat.le_trans z17 (Keep.of_wr W20).1
      have N20 := Fr.snoc X20 N10 gc
      show Go p.tables e below _ (T20.setTop (mkF m 123 #[.val (.ref a1), .val (.long q2), .second, .val (.int ip)] []))
      refine Go.st (fun U hr => XS.aloadN X20.here hx rfl (hb hby d6_123) rfl rfl hr) ?_
      show Go p.tables e below _ (T20.setTop (mkF m 124 #[.val (.ref a1), .val (.long q2), .second, .val (.int ip)] [(.ref a1)]))
      refine Go.st (fun U hr => XS.dup X20.here hx rfl (hb hby d6_124) rfl rfl hr) ?_
      show Go p.tables e below _ (T20.setTop (mkF m 125 #[.val (.ref a1), .val (.long q2), .second, .val (.int ip)] [(.ref a1), (.ref a1)]))
      obtain ⟨T28, X28, e28, st28⟩ := getF X20 hx hZ hown (host := "") (Or.inl (hw _ (List.mem_of_getElem? (i := 19) rfl))) Via.refl e20 f24 (g := (mkF m 125 #[.val (.ref a1), .val (.long q2), .second, .val (.int ip)] [(.ref a1), (.ref a1)])) rfl rfl (hb hby d6_125)
      refine Go.st st28 ?_
      show Go p.tables e below _ (T28.setTop (mkF m 128 #[.val (.ref a1), .val (.long q2), .second, .val (.int ip)] [(.int sz), (.ref a1)]))
      refine Go.st (fun U hr => XS.iconst X28.here hx rfl (hb hby d6_128) hr) ?_
      show Go p.tables e below _ (T28.setTop (mkF m 129 #[.val (.ref a1), .val (.long q2), .second, .val (.int ip)] [(.int (1 : Int32)), (.int sz), (.ref a1)]))
      refine Go.st (fun U hr => XS.iadd X28.here hx rfl (hb hby d6_129) rfl hr) ?_
      show Go p.tables e below _ (T28.setTop (mkF m 130 #[.val (.ref a1), .val (.long q2), .second, .val (.int ip)] [(.int (sz + (1 : Int32))), (.ref a1)]))
      obtain ⟨T29, h29, X29, e29, W29, st29⟩ := putF X28 hx hZ hown (host := "") (Or.inl (hw _ (List.mem_of_getElem? (i := 19) rfl))) Via.refl e28 f24 f22 (Or.inl (hw _ (List.mem_of_getElem? (i := 20) rfl))) (hw _ (List.mem_of_getElem? (i := 1) rfl)) (ty := .int) (by decide) rfl rfl (g := (mkF m 130 #[.val (.ref a1), .val (.long q2), .second, .val (.int ip)] [(.int (sz + (1 : Int32))), (.ref a1)])) rfl rfl (hb hby d6_130)
      refine Go.st st29 ?_
      have k30 := (k21).wr W29 (Or.inl (List.mem_of_getElem? (i := 0) rfl))
      have f31 := (f22).wr W29
      have f32 := (f23).other W29 (Or.inr (slot_ne (Or.inl (hw _ (List.mem_of_getElem? (i := 11) rfl))) (Or.inl (hw _ (List.mem_of_getElem? (i := 20) rfl))) (by decide) (t := (.array .long)) (t' := .int) (by decide) (by decide)))
      have f33 := (f24).same W29
      have f34 := (f25).other W29 (Or.inr (slot_ne (Or.inl (hw _ (List.mem_of_getElem? (i := 18) rfl))) (Or.inl (hw _ (List.mem_of_getElem? (i := 20) rfl))) (by decide) (t := .boolean) (t' := .int) (by decide) (by decide)))
      have f35 := (V20).other W29 nec
      have z36 := Nat.le_trans z27 (Keep.of_wr W29).1
      have N29 := Fr.snoc X29 N20 g1
      show Go p.tables e below _ (T29.setTop (mkF m 133 #[.val (.ref a1), .val (.long q2), .second, .val (.int ip)] []))
      have hsz1 : (sz + 1).toInt = ((k + 1 : Nat) : Int) := by
        have h1 := c_iadd sz 1
        rw [show (1 : Int32).toInt = 1 from by decide] at h1
        have r1 := rng32 (sz + 1)
        omega
      have hJ := own_ins vc k pp q2 (by omega) (by omega) (fun i j hij hj => by rw [hvc i (by omega), hvc j hj]; exact hs i j hij hj) (fun i q => by rw [hvc i (by omega)]; exact hp1 i q) (fun i q q2' => by rw [hvc i q2']; exact hp2 i q q2')
      exact own_ret0 X29 hx Bd.notSynchronized Bd.returns (hb hby d6_133) (by rw [e29]; exact ⟨rfl, N29, Nat.le_trans hsz0 (k30).1, k + 1, ⟨fun q => absurd q hnS, fun _ => rfl⟩, rc, kc, zc', _, _, f31, f32, f33, f34, f35, gc, nec, hzc, by rw [List.length_set, own_mv_len _ _ _ _ (by omega)]; exact lvc, hsz1, by omega, hJ.1, fun r => by
          show (S r ∨ r = q2) ↔ _
          rw [hJ.2 r, hS r]
          constructor
          · rintro (⟨i, a, c⟩ | q)
            · exact Or.inl ⟨i, a, by rw [hvc i a]; exact c⟩
            · exact Or.inr q
          · rintro (⟨i, a, c⟩ | q)
            · exact Or.inl ⟨i, a, by rw [← hvc i a]; exact c⟩
            · exact Or.inr q⟩) (by decide) (by decide)
    refine Go.st (fun U hr => XS.aloadN X5.here hx rfl (hb hby d6_60) rfl rfl hr) ?_
    show Go p.tables e below _ (T5.setTop (mkF m 61 #[.val (.ref a1), .val (.long q2), .second, .val (.int ip)] [(.ref a1)]))
    obtain ⟨T37, X37, e37, st37⟩ := getF X5 hx hZ hown (host := "") (Or.inl (hw _ (List.mem_of_getElem? (i := 19) rfl))) Via.refl e5 F2 (g := (mkF m 61 #[.val (.ref a1), .val (.long q2), .second, .val (.int ip)] [(.ref a1)])) rfl rfl (hb hby d6_61)
    refine Go.st st37 ?_
    show Go p.tables e below _ (T37.setTop (mkF m 64 #[.val (.ref a1), .val (.long q2), .second, .val (.int ip)] [(.int sz)]))
    refine Go.st (fun U hr => XS.aloadN X37.here hx rfl (hb hby d6_64) rfl rfl hr) ?_
    show Go p.tables e below _ (T37.setTop (mkF m 65 #[.val (.ref a1), .val (.long q2), .second, .val (.int ip)] [(.ref a1), (.int sz)]))
    obtain ⟨T38, X38, e38, st38⟩ := getF X37 hx hZ hown (host := "") (Or.inl (hw _ (List.mem_of_getElem? (i := 10) rfl))) Via.refl e37 F1 (g := (mkF m 65 #[.val (.ref a1), .val (.long q2), .second, .val (.int ip)] [(.ref a1), (.int sz)])) rfl rfl (hb hby d6_65)
    refine Go.st st38 ?_
    show Go p.tables e below _ (T38.setTop (mkF m 68 #[.val (.ref a1), .val (.long q2), .second, .val (.int ip)] [(.ref ra), (.int sz)]))
    obtain ⟨cl39, Ar39, qa39, Sa39, Na39, Ha39, Ga39⟩ := id V1
    refine Go.st (X38.arraylength hx (by rw [e38]; exact Ar39.1) (State.isArrayOf_alike hZ.alike Ar39.2.1) (g := (mkF m 68 #[.val (.ref a1), .val (.long q2), .second, .val (.int ip)] [(.ref ra), (.int sz)])) rfl rfl (hb hby d6_68)) ?_
    rw [len_of Sa39 Na39]
    show Go p.tables e below _ (T38.setTop (mkF m 69 #[.val (.ref a1), .val (.long q2), .second, .val (.int ip)] [(.int z), (.int sz)]))
    by_cases hc69_40 : sz = z
    · refine Go.st (fun U hr => XS.icmpNo X38.here hx rfl (hb hby d6_69) rfl (teq hc69_40).2 hr) ?_
      show Go p.tables e below _ (T38.setTop (mkF m 72 #[.val (.ref a1), .val (.long q2), .second, .val (.int ip)] []))
      have hz4 : z = 4 := by
        rcases hz with q | q
        · exact q
        · exfalso
          have : sz.toInt = z.toInt := congrArg Int32.toInt hc69_40
          rw [q, show (8 : Int32).toInt = 8 from by decide] at this; omega
      have hsz4 : sz = 4 := hc69_40.trans hz4
      have lv4 : vs.length = 4 := by rw [lv, hz4]; decide
      have V4 := V1
      rw [hz4] at V4
      refine Go.st (fun U hr => XS.aloadN X38.here hx rfl (hb hby d6_72) rfl rfl hr) ?_
      show Go p.tables e below _ (T38.setTop (mkF m 73 #[.val (.ref a1), .val (.long q2), .second, .val (.int ip)] [(.ref a1)]))
      refine Go.st (fun U hr => XS.aloadN X38.here hx rfl (hb hby d6_73) rfl rfl hr) ?_
      show Go p.tables e below _ (T38.setTop (mkF m 74 #[.val (.ref a1), .val (.long q2), .second, .val (.int ip)] [(.ref a1), (.ref a1)]))
      obtain ⟨T41, X41, e41, st41⟩ := getF X38 hx hZ hown (host := "") (Or.inl (hw _ (List.mem_of_getElem? (i := 10) rfl))) Via.refl e38 F1 (g := (mkF m 74 #[.val (.ref a1), .val (.long q2), .second, .val (.int ip)] [(.ref a1), (.ref a1)])) rfl rfl (hb hby d6_74)
      refine Go.st st41 ?_
      show Go p.tables e below _ (T41.setTop (mkF m 77 #[.val (.ref a1), .val (.long q2), .second, .val (.int ip)] [(.ref ra), (.ref a1)]))
      refine Go.st (fun U hr => XS.sipush X41.here hx rfl (hb hby d6_77) hr) ?_
      show Go p.tables e below _ (T41.setTop (mkF m 80 #[.val (.ref a1), .val (.long q2), .second, .val (.int ip)] [(.int (256 : Int32)), (.ref ra), (.ref a1)]))
      refine Go.st (fun U hr => XS.iconst X41.here hx rfl (hb hby d6_80) hr) ?_
      show Go p.tables e below _ (T41.setTop (mkF m 81 #[.val (.ref a1), .val (.long q2), .second, .val (.int ip)] [(.int (2 : Int32)), (.int (256 : Int32)), (.ref ra), (.ref a1)]))
      refine Go.st (fun U hr => XS.aloadN X41.here hx rfl (hb hby d6_81) rfl rfl hr) ?_
      show Go p.tables e below _ (T41.setTop (mkF m 82 #[.val (.ref a1), .val (.long q2), .second, .val (.int ip)] [(.ref a1), (.int (2 : Int32)), (.int (256 : Int32)), (.ref ra), (.ref a1)]))
      obtain ⟨T42, X42, e42, st42⟩ := getF X41 hx hZ hown (host := "") (Or.inl (hw _ (List.mem_of_getElem? (i := 19) rfl))) Via.refl e41 F2 (g := (mkF m 82 #[.val (.ref a1), .val (.long q2), .second, .val (.int ip)] [(.ref a1), (.int (2 : Int32)), (.int (256 : Int32)), (.ref ra), (.ref a1)])) rfl rfl (hb hby d6_82)
      refine Go.st st42 ?_
      show Go p.tables e below _ (T42.setTop (mkF m 85 #[.val (.ref a1), .val (.long q2), .second, .val (.int ip)] [(.int sz), (.int (2 : Int32)), (.int (256 : Int32)), (.ref ra), (.ref a1)]))
      refine Go.st (fun U hr => XS.imul X42.here hx rfl (hb hby d6_85) rfl hr) ?_
      show Go p.tables e below _ (T42.setTop (mkF m 86 #[.val (.ref a1), .val (.long q2), .second, .val (.int ip)] [(.int ((2 : Int32) * sz)), (.int (256 : Int32)), (.ref ra), (.ref a1)]))
      obtain ⟨_, _, ⟨T43, L43, k43, n43⟩, -, X43, ⟨Lc43, hQ43, l43, y43, z43⟩, st43⟩ := Jvm.LawKit.callS X42 hx (y := (⟨"java/lang/Math", "min", "(II)I"⟩ : MethodName)) hown (mvT hZ (hw _ (List.mem_of_getElem? (i := 49) rfl))) (mvT hZ (hw _ (List.mem_of_getElem? (i := 50) rfl))) (mvT hZ (hw _ (List.mem_of_getElem? (i := 51) rfl))) (mvT hZ (hw _ (List.mem_of_getElem? (i := 52) rfl))) (by decide) (backOf (W := 2) (rm10 l Z a0 hw [] (256 : Int32) ((2 : Int32) * sz) h0 n0 Z0) hZ (hw _ (List.mem_of_getElem? (i := 52) rfl)) (hw _ (List.mem_of_getElem? (i := 51) rfl)) (by decide) (by decide)) (g := (mkF m 86 #[.val (.ref a1), .val (.long q2), .second, .val (.int ip)] [(.int ((2 : Int32) * sz)), (.int (256 : Int32)), (.ref ra), (.ref a1)])) rfl (by rw [hml]; rfl) (argsL := [(.int (256 : Int32)), (.int ((2 : Int32) * sz))]) (rest := [(.ref ra), (.ref a1)]) (lenOf pd_2 rfl) rfl (by show 2 * 0 + _ ≤ _; exact Nat.le_of_eq rfl) (hb hby d6_86) (fun _ _ => ⟨rfl, e42, (by decide : 0 + 0 ≤ _), (by decide : 0 + 0 ≤ _)⟩)
      dsimp only [Pt.U, Pt.locs, Pt.cells, Pt.slots] at X43 l43 y43 z43 st43 hQ43
      subst l43 y43 z43
      obtain ⟨rfl, Nq43, ee43⟩ := hQ43
      have N43 := Fr.app N3 Nq43
      refine Go.st st43 ?_
      show Go p.tables e below _ (T43.setTop (mkF m 89 #[.val (.ref a1), .val (.long q2), .second, .val (.int ip)] [(.int (own_min (256 : Int32) ((2 : Int32) * sz))), (.ref ra), (.ref a1)]))
      rw [show (own_min (256 : Int32) ((2 : Int32) * sz)) = (8 : Int32) from by rw [hsz4]; decide]
      show Go p.tables e below _ (T43.setTop (mkF m 89 #[.val (.ref a1), .val (.long q2), .second, .val (.int ip)] [(.int (8 : Int32)), (.ref ra), (.ref a1)]))
      obtain ⟨_, _, ⟨T44, L44, k44, n44⟩, -, X44, ⟨Lc44, hQ44, l44, y44, z44⟩, st44⟩ := Jvm.LawKit.callS X43 hx (y := (⟨"java/util/Arrays", "copyOf", "([JI)[J"⟩ : MethodName)) hown (mvT hZ (hw _ (List.mem_of_getElem? (i := 53) rfl))) (mvT hZ (hw _ (List.mem_of_getElem? (i := 54) rfl))) (mvT hZ (hw _ (List.mem_of_getElem? (i := 37) rfl))) (mvT hZ (hw _ (List.mem_of_getElem? (i := 55) rfl))) (by decide) (backOf (W := 1) (rm11 l Z a0 hw [] ra kr vs h0 n0 Z0 V4 lv4) hZ (hw _ (List.mem_of_getElem? (i := 55) rfl)) (hw _ (List.mem_of_getElem? (i := 37) rfl)) (by decide) (by decide)) (g := (mkF m 89 #[.val (.ref a1), .val (.long q2), .second, .val (.int ip)] [(.int (8 : Int32)), (.ref ra), (.ref a1)])) rfl (by rw [hml]; rfl) (argsL := [(.ref ra), (.int (8 : Int32))]) (rest := [(.ref a1)]) (lenOf pd_3 rfl) rfl (by show 2 * 0 + _ ≤ _; exact Nat.le_of_eq rfl) (hb hby d6_89) (fun _ _ => ⟨rfl, ee43, (by decide : 0 + 1 ≤ _), (by decide : 0 + 8 ≤ _)⟩)
      dsimp only [Pt.U, Pt.locs, Pt.cells, Pt.slots] at X44 l44 y44 z44 st44 hQ44
      subst l44 y44 z44
      obtain ⟨r44, rfl, Nq44, sr44, Kq44, Vq44'⟩ := hQ44
      have N44 := Fr.app N43 Nq44
      refine Go.st st44 ?_
      show Go p.tables e below _ (T44.setTop (mkF m 92 #[.val (.ref a1), .val (.long q2), .second, .val (.int ip)] [(.ref r44), (.ref a1)]))
      have n45 : r44 ≠ a1 := Ne.symm (Nat.ne_of_lt (Nat.lt_of_lt_of_le (E1).lt sr44))
      have gr44 : n0 ≤ r44 := Nat.le_trans Z0 sr44
      have f46 := (E1).keep Kq44
      have f47 := (F1).keep Kq44 nin0
      have f48 := (F2).keep Kq44 nin0
      have f49 := (F3).keep Kq44 nin0
      have f50 := (V4).keep Kq44 nin0
      obtain ⟨kn44, Vq44⟩ := Vq44'
      have k51 := ((Keep.refl h0 [a1, ra])).trans Kq44 all0
      have z52 := Nat.le_trans Z0 Kq44.1
      obtain ⟨T53, h53, X53, e53, W53, st53⟩ := putF X44 hx hZ hown (host := "") (Or.inl (hw _ (List.mem_of_getElem? (i := 10) rfl))) Via.refl rfl f47 f46 (Or.inl (hw _ (List.mem_of_getElem? (i := 11) rfl))) (hw _ (List.mem_of_getElem? (i := 1) rfl)) (ty := (.array .long)) (by decide) rfl rfl (g := (mkF m 92 #[.val (.ref a1), .val (.long q2), .second, .val (.int ip)] [(.ref r44), (.ref a1)])) rfl rfl (hb hby d6_92)
      refine Go.st st53 ?_
      have k54 := (k51).wr W53 (Or.inl (List.mem_of_getElem? (i := 0) rfl))
      have f55 := (f46).wr W53
      have f56 := (f47).same W53
      have f57 := (f48).other W53 (Or.inr (slot_ne (Or.inl (hw _ (List.mem_of_getElem? (i := 20) rfl))) (Or.inl (hw _ (List.mem_of_getElem? (i := 11) rfl))) (by decide) (t := .int) (t' := (.array .long)) (by decide) (by decide)))
      have f58 := (f49).other W53 (Or.inr (slot_ne (Or.inl (hw _ (List.mem_of_getElem? (i := 18) rfl))) (Or.inl (hw _ (List.mem_of_getElem? (i := 11) rfl))) (by decide) (t := .boolean) (t' := (.array .long)) (by decide) (by decide)))
      have f59 := (Vq44).other W53 n45
      have z60 := Nat.le_trans z52 (Keep.of_wr W53).1
      have N53 := Fr.snoc X53 N44 g1
      show Go p.tables e below _ (T53.setTop (mkF m 95 #[.val (.ref a1), .val (.long q2), .second, .val (.int ip)] []))
      exact k95 _ _ _ r44 _ (8 : Int32) (own_cp vs) X53 e53 N53 z60 (k54).1 f55 f56 f57 f58 f59 gr44 n45 (Or.inr rfl) (by unfold own_cp; rw [List.length_append, lv4]; rfl) (by rw [show ((8 : Int32)).toNatClampNeg = 8 from by decide]; omega) (fun i q => own_cp_at vs lv4 i (by omega))
    · refine Go.st (fun U hr => XS.icmpYes X38.here hx rfl (pc0 := 69) (pc' := 95) rfl (hb hby d6_69) rfl (feq hc69_40).2 (by decide) (by decide) hr) ?_
      show Go p.tables e below _ (T38.setTop (mkF m 95 #[.val (.ref a1), .val (.long q2), .second, .val (.int ip)] []))
      exact k95 _ _ _ ra kr z vs (X38.more (by decide) (by decide)) e38 N3 Z0 ((Keep.refl h0 [a1, ra])).1 E1 F1 F2 F3 V1 gr ne1 hz lv (by
        have : sz.toInt ≠ z.toInt := fun q => hc69_40 (Int32.toInt_inj.mp q)
        omega) (fun _ _ => rfl)
  · refine Go.st (fun U hr => XS.ifNo X3.here hx rfl (hb hby d6_15) rfl ((if0 _ _).trans (flt hc15_4).1) hr) ?_
    show Go p.tables e below _ (T3.setTop (mkF m 18 #[.val (.ref a1), .val (.long q2), .second, .val (.int r3)] []))
    have hpos : ¬ r3.toInt < 0 := fun q => hc15_4 ((own_lt32 _ _).mpr (by rw [show (0 : Int32).toInt = 0 from by decide]; exact q))
    have hSq : S q2 := by
      rcases hr3 with ⟨a, c, d⟩ | ⟨pp, a, -⟩
      · exact (hS q2).mpr ⟨_, by have := own_nat a; omega, d⟩
      · omega
    exact own_ret0 X3 hx Bd.notSynchronized Bd.returns (hb hby d6_18) (by rw [ee3]; exact ⟨rfl, N3, ((Keep.refl h0 [a1, ra])).1, k, ⟨fun _ => rfl, fun q => absurd hSq q⟩, own_DBc ⟨ra, kr, z, sz, vs, E1, F1, F2, F3, V1, gr, ne1, hz, lv, hsz, hkz, hs, hS⟩ (fun r => ⟨fun q => q.elim id (fun e => e ▸ hSq), Or.inl⟩)⟩) (by decide) (by decide)
theorem own_selp {s : State} {args args' : Array Value} {y y' z' : MethodName} (hinst : (Jvm.Cond.instanceMethod y).before args s = true) (hpriv : s.PrivateAt y) (hsel : (Jvm.Cond.selects y.cls y' z').before args' s = true)
    (hz : z'.cls = y.cls := by rfl) (hy : y.cls ≠ "java/lang/invoke/MethodHandle" ∧ y.cls ≠ "java/lang/invoke/VarHandle" := by decide) : (Jvm.Cond.selects y.cls y y).before args s = true := by
  obtain ⟨c, r, m', -, -, hm, -, mk, hmk, hni⟩ := Cond.selects_spec hsel
  have hc := findClass_of_methodNamed hm
  rw [hz] at hc
  exact selects_self_of_private hc hmk hni hpriv hinst hy

theorem d4_0 : decode prog_5_method_2_code 0 = .ok (.aload_n 0, 1) := by decide +kernel
theorem d4_1 : decode prog_5_method_2_code 1 = .ok (.lload_n 1, 1) := by decide +kernel
theorem d4_2 : decode prog_5_method_2_code 2 = .ok (.invokestatic 13, 3) := by decide +kernel
theorem d4_5 : decode prog_5_method_2_code 5 = .ok (.invokevirtual 17, 3) := by decide +kernel
theorem d4_8 : decode prog_5_method_2_code 8 = .ok (.return_, 1) := by decide +kernel
theorem pn_4 : plainFor (⟨"com/example/rigorous_layout/rigorouslayout/DistinctCount", "add", "(J)V"⟩ : MethodName) = true := plainFor_of_name (by first | (simp [plainName, overriddenIn]; done) | decide +kernel)
theorem ef_4 (m : MethodId) (x0 : Addr) (x1 : Int64) : entryFrame m #[(.ref x0), (.long x1)] 3 = mkF m 0 #[.val (.ref x0), .val (.long x1), .second] [] := by first | (simp [entryFrame, mkF, argsToLocals, Value.category]; done) | rfl
theorem pd_4 : parseMethodDescriptor "(J)J" = some ⟨[.long], some .long⟩ := by decide +kernel
theorem pd_5 : parseMethodDescriptor "(J)V" = some ⟨[.long], none⟩ := by decide +kernel
def Q4 (Z : State) (a1 : Addr) (q2 : Int64) (S : Int64 → Prop) (k : Nat) (h0 : Heap) (n0 : Nat) (v : Option Value) (h : Heap) (L : List Loc) : Prop := v = none ∧ Fr n0 L ∧ h0.size ≤ h.size ∧ ∃ k', ((S (own_rank q2) → k' = k) ∧ (¬ S (own_rank q2) → k' = k + 1)) ∧ own_DB Z h n0 a1 (fun r => S r ∨ r = (own_rank q2)) k'
set_option maxRecDepth 65536 in
set_option maxHeartbeats 40000000 in
theorem rm4 (l : Launch) (Z : State) (a0 : Array Value) (hw : ∀ d ∈ tables_1, d.before a0 Z = true) (ws : List Jvm.Cond) (a1 : Addr) (q2 : Int64) (S : Int64 → Prop) (k : Nat) (h0 : Heap) (n0 : Nat) (Z0 : n0 ≤ h0.size) (hD : own_DB Z h0 n0 a1 S k) (g1 : n0 ≤ a1) (hk4 : k ≤ 4) :
    MetFree l (⟨"com/example/rigorous_layout/rigorouslayout/DistinctCount", "add", "(J)V"⟩ : MethodName) (head1 (Jvm.Cond.code (⟨"com/example/rigorous_layout/rigorouslayout/DistinctCount", "add", "(J)V"⟩ : MethodName) prog_5_method_2_code 3 none :: ws) ({ frames := 3, cells := 1, slots := 8, locals := 52 } : Room)) (fun a U => a = #[(.ref a1), (.long q2)] ∧ Z.Warmed39 U.vm ∧ U.heap = h0) (fun _ _ _ _ _ => True) (fun _ U o U' => ∃ v L, o = .returned v ∧ Q4 Z a1 q2 S k h0 n0 v U'.heap L ∧ FrameEnd U o U' L ({ frames := 3, cells := 1, slots := 8, locals := 52 } : Room).cells ({ frames := 3, cells := 1, slots := 8, locals := 52 } : Room).slots) := by
  refine MetFree.of_bodySF pn_4 hisR ?_
  intro p e s m args below meth c s₁ Bd hml0 hP hK
  obtain ⟨rfl, hZ, hh⟩ := hP
  have hx := Bd.exec
  have hby := Bd.bytes
  have hml : c.maxLocals = 3 := hml0
  have hown : s.vm.findClass "com/example/rigorous_layout/rigorouslayout/DistinctCount" = some m.cls := findClass_of_methodNamed Bd.named
  have hnm := (name_of_methodNamed Bd.named Bd.method).1
  have X0 : Stand p l e ({ frames := 3, cells := 1, slots := 8, locals := 52 } : Room) s m #[(.ref a1), (.long q2)] below meth c s₁ [] 0 0 := Stand.of_body Bd
  have e0 : s₁.heap = h0 := by rw [← hh, Bd.state]; rfl
  have N0 := Fr.nil n0
  refine own_start (Q := Q4 Z a1 q2 S k h0 n0) (own_cast (ef_4 m a1 q2) ?_)
  show Go p.tables e below _ (s₁.setTop (mkF m 0 #[.val (.ref a1), .val (.long q2), .second] []))
  refine Go.st (fun U hr => XS.aloadN X0.here hx rfl (hb hby d4_0) rfl rfl hr) ?_
  show Go p.tables e below _ (s₁.setTop (mkF m 1 #[.val (.ref a1), .val (.long q2), .second] [(.ref a1)]))
  refine Go.st (fun U hr => XS.lloadN X0.here hx rfl (hb hby d4_1) rfl hr) ?_
  show Go p.tables e below _ (s₁.setTop (mkF m 2 #[.val (.ref a1), .val (.long q2), .second] [(.long q2), (.ref a1)]))
  obtain ⟨_, _, ⟨T1, L1, k1, n1⟩, -, X1, ⟨Lc1, hQ1, l1, y1, z1⟩, st1⟩ := Jvm.LawKit.callS X0 hx (y := (⟨"com/example/rigorous_layout/rigorouslayout/DistinctCount", "rank", "(J)J"⟩ : MethodName)) hown (mvT hZ (hw _ (List.mem_of_getElem? (i := 26) rfl))) (mvT hZ (hw _ (List.mem_of_getElem? (i := 27) rfl))) (mvT hZ (hw _ (List.mem_of_getElem? (i := 2) rfl))) (mvT hZ (hw _ (List.mem_of_getElem? (i := 28) rfl))) (by decide) (backOf (W := 1) (rm5 l Z a0 hw [] q2 h0 n0 Z0) hZ (hw _ (List.mem_of_getElem? (i := 28) rfl)) (hw _ (List.mem_of_getElem? (i := 2) rfl)) (by decide) (by decide)) (g := (mkF m 2 #[.val (.ref a1), .val (.long q2), .second] [(.long q2), (.ref a1)])) rfl (by rw [hml]; rfl) (argsL := [(.long q2)]) (rest := [(.ref a1)]) (lenOf pd_4 rfl) rfl (by show 2 * 0 + _ ≤ _; exact Nat.le_of_eq rfl) (hb hby d4_2) (fun _ _ => ⟨rfl, e0, (by decide : 0 + 0 ≤ _), (by decide : 0 + 0 ≤ _)⟩)
  dsimp only [Pt.U, Pt.locs, Pt.cells, Pt.slots] at X1 l1 y1 z1 st1 hQ1
  subst l1 y1 z1
  obtain ⟨rfl, Nq1, ee1⟩ := hQ1
  have N1 := Fr.app N0 Nq1
  refine Go.st st1 ?_
  show Go p.tables e below _ (T1.setTop (mkF m 5 #[.val (.ref a1), .val (.long q2), .second] [(.long (own_rank q2)), (.ref a1)]))
  have hsel0 := mvT (args := #[]) hZ (hw _ (List.mem_of_getElem? (i := 24) rfl))
  obtain ⟨cq2, qp2, qp2'⟩ := ((own_DBE hD)).cell
  obtain ⟨_, _, ⟨T2, L2, k2, n2⟩, -, X2, ⟨Lc2, hQ2, l2, y2, z2⟩, st2⟩ := X1.privateBack hx (y := (⟨"com/example/rigorous_layout/rigorouslayout/DistinctCount", "insert", "(J)V"⟩ : MethodName)) hown (mvT hZ (hw _ (List.mem_of_getElem? (i := 31) rfl))) (mvT hZ (hw _ (List.mem_of_getElem? (i := 32) rfl))) (own_selp (mvT hZ (hw _ (List.mem_of_getElem? (i := 32) rfl))) (Cond.privateMethod_at (mvP hZ (hw _ (List.mem_of_getElem? (i := 33) rfl)) (args := #[]))) hsel0) (Cond.privateMethod_at (mvP hZ (hw _ (List.mem_of_getElem? (i := 33) rfl)) (args := #[]))) (mvT hZ (hw _ (List.mem_of_getElem? (i := 34) rfl))) (by decide) (backOf (W := 0) (rm6 l Z a0 hw [] a1 (own_rank q2) S k h0 n0 Z0 hD g1 hk4) hZ (hw _ (List.mem_of_getElem? (i := 34) rfl)) (hw _ (List.mem_of_getElem? (i := 2) rfl)) (by decide) (by decide)) (g := (mkF m 5 #[.val (.ref a1), .val (.long q2), .second] [(.long (own_rank q2)), (.ref a1)])) rfl (by rw [hml]; rfl) (Steps.refl _) (a := a1) (by rw [ee1]; exact qp2) qp2' (argsL := [(.long (own_rank q2))]) (rest := []) (lenOf pd_5 rfl) rfl (by show 2 * 0 + _ ≤ _; exact Nat.le_of_eq rfl) (hb hby d4_5) (fun _ _ => ⟨rfl, ee1, (by decide : 0 + 1 ≤ _), (by decide : 0 + 8 ≤ _)⟩)
  dsimp only [Pt.U, Pt.locs, Pt.cells, Pt.slots] at X2 l2 y2 z2 st2 hQ2
  subst l2 y2 z2
  obtain ⟨rfl, Nq2, Sq2, Rq2⟩ := hQ2
  have N2 := Fr.app N1 Nq2
  refine Go.tr st2 ?_
  show Go p.tables e below _ (T2.setTop (mkF m 8 #[.val (.ref a1), .val (.long q2), .second] []))
  exact own_ret0 X2 hx Bd.notSynchronized Bd.returns (hb hby d4_8) ⟨rfl, N2, Sq2, Rq2⟩ (by decide) (by decide)
theorem d1_0 : decode prog_5_method_1_code 0 = .ok (.aload_n 0, 1) := by decide +kernel
theorem d1_1 : decode prog_5_method_1_code 1 = .ok (.invokespecial 1, 3) := by decide +kernel
theorem d1_4 : decode prog_5_method_1_code 4 = .ok (.aload_n 0, 1) := by decide +kernel
theorem d1_5 : decode prog_5_method_1_code 5 = .ok (.iconst 4, 1) := by decide +kernel
theorem d1_6 : decode prog_5_method_1_code 6 = .ok (.newarray .long, 2) := by decide +kernel
theorem d1_8 : decode prog_5_method_1_code 8 = .ok (.putfield 7, 3) := by decide +kernel
theorem d1_11 : decode prog_5_method_1_code 11 = .ok (.return_, 1) := by decide +kernel
theorem pn_1 : plainFor (⟨"com/example/rigorous_layout/rigorouslayout/DistinctCount", "<init>", "()V"⟩ : MethodName) = true := plainFor_of_name (by first | (simp [plainName, overriddenIn]; done) | decide +kernel)
theorem ef_1 (m : MethodId) (x0 : Addr) : entryFrame m #[(.ref x0)] 1 = mkF m 0 #[.val (.ref x0)] [] := by first | (simp [entryFrame, mkF, argsToLocals, Value.category]; done) | rfl
def Q1 (Z : State) (a1 : Addr)  (h0 : Heap) (n0 : Nat) (v : Option Value) (h : Heap) (L : List Loc) : Prop := v = none ∧ Fr n0 L ∧ h0.size ≤ h.size ∧ own_DB Z h n0 a1 (fun _ => False) 0
set_option maxRecDepth 65536 in
set_option maxHeartbeats 40000000 in
theorem rm1 (l : Launch) (Z : State) (a0 : Array Value) (hw : ∀ d ∈ tables_1, d.before a0 Z = true) (ws : List Jvm.Cond) (a1 : Addr)  (h0 : Heap) (n0 : Nat) (Z0 : n0 ≤ h0.size) (E1 : Exa Z h0 a1 "com/example/rigorous_layout/rigorouslayout/DistinctCount") (F1 : Fld Z h0 a1 "com/example/rigorous_layout/rigorouslayout/DistinctCount" "ranks" "[J" .null) (F2 : Fld Z h0 a1 "com/example/rigorous_layout/rigorouslayout/DistinctCount" "size" "I" (.int (0 : Int32))) (F3 : Fld Z h0 a1 "com/example/rigorous_layout/rigorouslayout/DistinctCount" "estimated" "Z" (.int (0 : Int32))) (g1 : n0 ≤ a1) :
    MetFree l (⟨"com/example/rigorous_layout/rigorouslayout/DistinctCount", "<init>", "()V"⟩ : MethodName) (head1 (Jvm.Cond.code (⟨"com/example/rigorous_layout/rigorouslayout/DistinctCount", "<init>", "()V"⟩ : MethodName) prog_5_method_1_code 1 none :: ws) ({ frames := 1, cells := 1, slots := 4, locals := 12 } : Room)) (fun a U => a = #[(.ref a1)] ∧ Z.Warmed39 U.vm ∧ U.heap = h0) (fun _ _ _ _ _ => True) (fun _ U o U' => ∃ v L, o = .returned v ∧ Q1 Z a1 h0 n0 v U'.heap L ∧ FrameEnd U o U' L ({ frames := 1, cells := 1, slots := 4, locals := 12 } : Room).cells ({ frames := 1, cells := 1, slots := 4, locals := 12 } : Room).slots) := by
  refine MetFree.of_bodySF pn_1 hisR ?_
  intro p e s m args below meth c s₁ Bd hml0 hP hK
  obtain ⟨rfl, hZ, hh⟩ := hP
  have hx := Bd.exec
  have hby := Bd.bytes
  have hml : c.maxLocals = 1 := hml0
  have hown : s.vm.findClass "com/example/rigorous_layout/rigorouslayout/DistinctCount" = some m.cls := findClass_of_methodNamed Bd.named
  have hnm := (name_of_methodNamed Bd.named Bd.method).1
  have X0 : Stand p l e ({ frames := 1, cells := 1, slots := 4, locals := 12 } : Room) s m #[(.ref a1)] below meth c s₁ [] 0 0 := Stand.of_body Bd
  have e0 : s₁.heap = h0 := by rw [← hh, Bd.state]; rfl
  have N0 := Fr.nil n0
  refine own_start (Q := Q1 Z a1 h0 n0) (own_cast (ef_1 m a1) ?_)
  show Go p.tables e below _ (s₁.setTop (mkF m 0 #[.val (.ref a1)] []))
  refine Go.st (fun U hr => XS.aloadN X0.here hx rfl (hb hby d1_0) rfl rfl hr) ?_
  show Go p.tables e below _ (s₁.setTop (mkF m 1 #[.val (.ref a1)] [(.ref a1)]))
  obtain ⟨T1, X1, e1, st1⟩ := initO X0 hx hZ hown (hw _ (List.mem_of_getElem? (i := 6) rfl)) (hw _ (List.mem_of_getElem? (i := 7) rfl)) (hw _ (List.mem_of_getElem? (i := 8) rfl)) e0 (g := (mkF m 1 #[.val (.ref a1)] [(.ref a1)])) rfl (by rw [hml]; rfl) rfl (hb hby d1_1) (by decide) (W := 0) (by show 2 * 0 + _ ≤ _; exact Nat.le_of_eq rfl) (by decide)
  refine Go.st st1 ?_
  show Go p.tables e below _ (T1.setTop (mkF m 4 #[.val (.ref a1)] []))
  refine Go.st (fun U hr => XS.aloadN X1.here hx rfl (hb hby d1_4) rfl rfl hr) ?_
  show Go p.tables e below _ (T1.setTop (mkF m 5 #[.val (.ref a1)] [(.ref a1)]))
  refine Go.st (fun U hr => XS.iconst X1.here hx rfl (hb hby d1_5) hr) ?_
  show Go p.tables e below _ (T1.setTop (mkF m 6 #[.val (.ref a1)] [(.int (4 : Int32)), (.ref a1)]))
  obtain ⟨T2, h2, k2, X2, e2, E2, A2, st2⟩ := newP X1 hx hZ (hw _ (List.mem_of_getElem? (i := 9) rfl)) e1 (g := (mkF m 6 #[.val (.ref a1)] [(.int (4 : Int32)), (.ref a1)])) rfl (hb hby d1_6) rfl (by decide) (cap := 4) (by decide) (by decide) (by decide) (by decide)
  obtain ⟨b2, g2⟩ : ∃ z, z = h0.size := ⟨_, rfl⟩
  rw [← g2] at A2 st2
  refine Go.st st2 ?_
  have gb2 : n0 ≤ b2 := Nat.le_trans Z0 (Nat.le_of_eq g2.symm)
  have sb2 : h0.size ≤ b2 := Nat.le_trans ((Keep.refl h0 [a1])).1 (Nat.le_of_eq g2.symm)
  have k3 := ((Keep.refl h0 [a1])).ext E2
  have n4 : a1 ≠ b2 := Nat.ne_of_lt (Nat.lt_of_lt_of_le (E1).lt (Nat.le_of_eq g2.symm))
  have f5 := (E1).ext E2
  have f6 := (F1).ext E2
  have f7 := (F2).ext E2
  have f8 := (F3).ext E2
  have z9 := Nat.le_trans Z0 E2.1
  have V2 : Arv Z h2 b2 k2 .long (4 : Int32) ((List.replicate 4 (0 : Int64)).map Value.long) (.long (0 : Int64)) := (Arv.new A2 (by decide)).pad (own_repL _)
  show Go p.tables e below _ (T2.setTop (mkF m 8 #[.val (.ref a1)] [(.ref b2), (.ref a1)]))
  obtain ⟨T10, h10, X10, e10, W10, st10⟩ := putF X2 hx hZ hown (host := "") (Or.inl (hw _ (List.mem_of_getElem? (i := 10) rfl))) Via.refl e2 f6 f5 (Or.inl (hw _ (List.mem_of_getElem? (i := 11) rfl))) (hw _ (List.mem_of_getElem? (i := 1) rfl)) (ty := (.array .long)) (by decide) rfl rfl (g := (mkF m 8 #[.val (.ref a1)] [(.ref b2), (.ref a1)])) rfl rfl (hb hby d1_8)
  refine Go.st st10 ?_
  have k11 := (k3).wr W10 (Or.inl (List.mem_of_getElem? (i := 0) rfl))
  have f12 := (f5).wr W10
  have f13 := (f6).same W10
  have f14 := (f7).other W10 (Or.inr (slot_ne (Or.inl (hw _ (List.mem_of_getElem? (i := 20) rfl))) (Or.inl (hw _ (List.mem_of_getElem? (i := 11) rfl))) (by decide) (t := .int) (t' := (.array .long)) (by decide) (by decide)))
  have f15 := (f8).other W10 (Or.inr (slot_ne (Or.inl (hw _ (List.mem_of_getElem? (i := 18) rfl))) (Or.inl (hw _ (List.mem_of_getElem? (i := 11) rfl))) (by decide) (t := .boolean) (t' := (.array .long)) (by decide) (by decide)))
  have f16 := (V2).other W10 (Ne.symm n4)
  have z17 := Nat.le_trans z9 (Keep.of_wr W10).1
  have N10 := Fr.snoc X10 N0 g1
  show Go p.tables e below _ (T10.setTop (mkF m 11 #[.val (.ref a1)] []))
  exact own_ret0 X10 hx Bd.notSynchronized Bd.returns (hb hby d1_11) (by rw [e10]; exact ⟨rfl, N10, (k11).1, b2, _, (4 : Int32), _, _, f12, f13, f14, f15, f16, gb2, (Ne.symm n4), Or.inl rfl, by simp, by decide, by decide, fun i j _ hj => absurd hj (Nat.not_lt_zero _), fun r => ⟨fun q => q.elim, fun ⟨i, q, _⟩ => absurd q (Nat.not_lt_zero _)⟩⟩) (by decide) (by decide)
theorem own_b53 (x : Int32) : B53 x.toInt64 := by
  have := rng32 x
  unfold B53
  rw [c_i2l]; omega

theorem pn_0 : plainFor x = true := plainFor_of_name (by first | (simp [plainName, overriddenIn]; done) | decide +kernel)
theorem ef_0 (m : MethodId) (x0 : Int64) (x1 : Int64) (x2 : Int64) (x3 : Int64) (x4 : Int64) (x5 : Int32) : entryFrame m #[(.long x0), (.long x1), (.long x2), (.long x3), (.long x4), (.int x5)] maxLocals = mkF m 0 #[.val (.long x0), .second, .val (.long x1), .second, .val (.long x2), .second, .val (.long x3), .second, .val (.long x4), .second, .val (.int x5), .unset, .unset, .unset, .unset, .unset, .unset, .unset, .unset, .unset, .unset, .unset, .unset, .unset] [] := by first | (simp [entryFrame, mkF, argsToLocals, Value.category, maxLocals]; done) | rfl
theorem pd_6 : parseMethodDescriptor "()V" = some ⟨[], none⟩ := by decide +kernel
theorem pd_7 : parseMethodDescriptor "()D" = some ⟨[], some .double⟩ := by decide +kernel
def Q0 (Z : State) (q1 : Int64) (q2 : Int64) (q3 : Int64) (q4 : Int64) (q5 : Int64) (p6 : Int32)  (h0 : Heap) (n0 : Nat) (v : Option Value) (h : Heap) (L : List Loc) : Prop := v = some (.int 1) ∧ Fr n0 L
set_option maxRecDepth 65536 in
set_option maxHeartbeats 40000000 in
theorem rm0 (l : Launch) (Z : State) (a0 : Array Value) (hw : ∀ d ∈ tables_1, d.before a0 Z = true) (ws : List Jvm.Cond) (q1 : Int64) (q2 : Int64) (q3 : Int64) (q4 : Int64) (q5 : Int64) (p6 : Int32)  (h0 : Heap) (n0 : Nat) (Z0 : n0 ≤ h0.size) :
    MetFree l x (head1 (Jvm.Cond.code x code maxLocals ret :: ws) room_1) (fun a U => a = #[(.long q1), (.long q2), (.long q3), (.long q4), (.long q5), (.int p6)] ∧ Z.Warmed39 U.vm ∧ U.heap = h0) (fun _ _ _ _ _ => True) (fun _ U o U' => ∃ v L, o = .returned v ∧ Q0 Z q1 q2 q3 q4 q5 p6 h0 n0 v U'.heap L ∧ FrameEnd U o U' L room_1.cells room_1.slots) := by
  refine MetFree.of_bodySF pn_0 hisR ?_
  intro p e s m args below meth c s₁ Bd hml0 hP hK
  obtain ⟨rfl, hZ, hh⟩ := hP
  have hx := Bd.exec
  have hby := Bd.bytes
  have hml : c.maxLocals = 24 := hml0
  have hown : s.vm.findClass "com/example/rigorous_layout/rigorouslayout/DistinctCountCountPinLaw" = some m.cls := findClass_of_methodNamed Bd.named
  have hnm := (name_of_methodNamed Bd.named Bd.method).1
  have X0 : Stand p l e room_1 s m #[(.long q1), (.long q2), (.long q3), (.long q4), (.long q5), (.int p6)] below meth c s₁ [] 0 0 := Stand.of_body Bd
  have e0 : s₁.heap = h0 := by rw [← hh, Bd.state]; rfl
  have N0 := Fr.nil n0
  refine own_start (Q := Q0 Z q1 q2 q3 q4 q5 p6 h0 n0) (own_cast (ef_0 m q1 q2 q3 q4 q5 p6) ?_)
  show Go p.tables e below _ (s₁.setTop (mkF m 0 #[.val (.long q1), .second, .val (.long q2), .second, .val (.long q3), .second, .val (.long q4), .second, .val (.long q5), .second, .val (.int p6), .unset, .unset, .unset, .unset, .unset, .unset, .unset, .unset, .unset, .unset, .unset, .unset, .unset] []))
  refine Go.st (fun U hr => XS.lloadN X0.here hx rfl (hb hby at_0) rfl hr) ?_
  show Go p.tables e below _ (s₁.setTop (mkF m 1 #[.val (.long q1), .second, .val (.long q2), .second, .val (.long q3), .second, .val (.long q4), .second, .val (.long q5), .second, .val (.int p6), .unset, .unset, .unset, .unset, .unset, .unset, .unset, .unset, .unset, .unset, .unset, .unset, .unset] [(.long q1)]))
  refine Go.st (fun U hr => XS.lstore X0.here hx rfl (hb hby at_1) rfl (l' := #[.val (.long q1), .second, .val (.long q2), .second, .val (.long q3), .second, .val (.long q4), .second, .val (.long q5), .second, .val (.int p6), .val (.long q1), .second, .unset, .unset, .unset, .unset, .unset, .unset, .unset, .unset, .unset, .unset, .unset]) rfl hr) ?_
  show Go p.tables e below _ (s₁.setTop (mkF m 3 #[.val (.long q1), .second, .val (.long q2), .second, .val (.long q3), .second, .val (.long q4), .second, .val (.long q5), .second, .val (.int p6), .val (.long q1), .second, .unset, .unset, .unset, .unset, .unset, .unset, .unset, .unset, .unset, .unset, .unset] []))
  refine Go.st (fun U hr => XS.iload X0.here hx rfl (hb hby at_3) rfl hr) ?_
  show Go p.tables e below _ (s₁.setTop (mkF m 5 #[.val (.long q1), .second, .val (.long q2), .second, .val (.long q3), .second, .val (.long q4), .second, .val (.long q5), .second, .val (.int p6), .val (.long q1), .second, .unset, .unset, .unset, .unset, .unset, .unset, .unset, .unset, .unset, .unset, .unset] [(.int p6)]))
  refine Go.st (fun U hr => XS.iconst X0.here hx rfl (hb hby at_5) hr) ?_
  show Go p.tables e below _ (s₁.setTop (mkF m 6 #[.val (.long q1), .second, .val (.long q2), .second, .val (.long q3), .second, .val (.long q4), .second, .val (.long q5), .second, .val (.int p6), .val (.long q1), .second, .unset, .unset, .unset, .unset, .unset, .unset, .unset, .unset, .unset, .unset, .unset] [(.int (1 : Int32)), (.int p6)]))
  refine Go.st (fun U hr => XS.iand X0.here hx rfl (hb hby at_6) rfl hr) ?_
  show Go p.tables e below _ (s₁.setTop (mkF m 7 #[.val (.long q1), .second, .val (.long q2), .second, .val (.long q3), .second, .val (.long q4), .second, .val (.long q5), .second, .val (.int p6), .val (.long q1), .second, .unset, .unset, .unset, .unset, .unset, .unset, .unset, .unset, .unset, .unset, .unset] [(.int (p6 &&& (1 : Int32)))]))
  suffices hj7_1 : Go p.tables e below (own_Fin s below room_1.cells room_1.slots (Q0 Z q1 q2 q3 q4 q5 p6 h0 n0)) (s₁.setTop (mkF m 15 #[.val (.long q1), .second, .val (.long q2), .second, .val (.long q3), .second, .val (.long q4), .second, .val (.long q5), .second, .val (.int p6), .val (.long q1), .second, .unset, .unset, .unset, .unset, .unset, .unset, .unset, .unset, .unset, .unset, .unset] [(.long (if (p6 &&& (1 : Int32)) = (0 : Int32) then q2 else q1))])) by
    by_cases hc7_1 : (p6 &&& (1 : Int32)) = (0 : Int32)
    · refine Go.st (fun U hr => XS.ifYes X0.here hx rfl (pc0 := 7) (pc' := 14) rfl (hb hby at_7) rfl ((if0 _ _).trans (teq hc7_1).1) (by decide) (by decide) hr) ?_
      show Go p.tables e below _ (s₁.setTop (mkF m 14 #[.val (.long q1), .second, .val (.long q2), .second, .val (.long q3), .second, .val (.long q4), .second, .val (.long q5), .second, .val (.int p6), .val (.long q1), .second, .unset, .unset, .unset, .unset, .unset, .unset, .unset, .unset, .unset, .unset, .unset] []))
      refine Go.st (fun U hr => XS.lloadN X0.here hx rfl (hb hby at_14) rfl hr) ?_
      show Go p.tables e below _ (s₁.setTop (mkF m 15 #[.val (.long q1), .second, .val (.long q2), .second, .val (.long q3), .second, .val (.long q4), .second, .val (.long q5), .second, .val (.int p6), .val (.long q1), .second, .unset, .unset, .unset, .unset, .unset, .unset, .unset, .unset, .unset, .unset, .unset] [(.long q2)]))
      simpa only [if_pos hc7_1] using hj7_1
    · refine Go.st (fun U hr => XS.ifNo X0.here hx rfl (hb hby at_7) rfl ((if0 _ _).trans (feq hc7_1).1) hr) ?_
      show Go p.tables e below _ (s₁.setTop (mkF m 10 #[.val (.long q1), .second, .val (.long q2), .second, .val (.long q3), .second, .val (.long q4), .second, .val (.long q5), .second, .val (.int p6), .val (.long q1), .second, .unset, .unset, .unset, .unset, .unset, .unset, .unset, .unset, .unset, .unset, .unset] []))
      refine Go.st (fun U hr => XS.lloadN X0.here hx rfl (hb hby at_10) rfl hr) ?_
      show Go p.tables e below _ (s₁.setTop (mkF m 11 #[.val (.long q1), .second, .val (.long q2), .second, .val (.long q3), .second, .val (.long q4), .second, .val (.long q5), .second, .val (.int p6), .val (.long q1), .second, .unset, .unset, .unset, .unset, .unset, .unset, .unset, .unset, .unset, .unset, .unset] [(.long q1)]))
      refine Go.st (fun U hr => XS.goto X0.here hx rfl (pc0 := 11) (pc' := 15) rfl (hb hby at_11) (by decide) (by decide) hr) ?_
      show Go p.tables e below _ (s₁.setTop (mkF m 15 #[.val (.long q1), .second, .val (.long q2), .second, .val (.long q3), .second, .val (.long q4), .second, .val (.long q5), .second, .val (.int p6), .val (.long q1), .second, .unset, .unset, .unset, .unset, .unset, .unset, .unset, .unset, .unset, .unset, .unset] [(.long q1)]))
      simpa only [if_neg hc7_1] using hj7_1
  generalize h_x2 : (if (p6 &&& (1 : Int32)) = (0 : Int32) then q2 else q1) = x2
  refine Go.st (fun U hr => XS.lstore X0.here hx rfl (hb hby at_15) rfl (l' := #[.val (.long q1), .second, .val (.long q2), .second, .val (.long q3), .second, .val (.long q4), .second, .val (.long q5), .second, .val (.int p6), .val (.long q1), .second, .val (.long x2), .second, .unset, .unset, .unset, .unset, .unset, .unset, .unset, .unset, .unset]) rfl hr) ?_
  show Go p.tables e below _ (s₁.setTop (mkF m 17 #[.val (.long q1), .second, .val (.long q2), .second, .val (.long q3), .second, .val (.long q4), .second, .val (.long q5), .second, .val (.int p6), .val (.long q1), .second, .val (.long x2), .second, .unset, .unset, .unset, .unset, .unset, .unset, .unset, .unset, .unset] []))
  refine Go.st (fun U hr => XS.iload X0.here hx rfl (hb hby at_17) rfl hr) ?_
  show Go p.tables e below _ (s₁.setTop (mkF m 19 #[.val (.long q1), .second, .val (.long q2), .second, .val (.long q3), .second, .val (.long q4), .second, .val (.long q5), .second, .val (.int p6), .val (.long q1), .second, .val (.long x2), .second, .unset, .unset, .unset, .unset, .unset, .unset, .unset, .unset, .unset] [(.int p6)]))
  refine Go.st (fun U hr => XS.iconst X0.here hx rfl (hb hby at_19) hr) ?_
  show Go p.tables e below _ (s₁.setTop (mkF m 20 #[.val (.long q1), .second, .val (.long q2), .second, .val (.long q3), .second, .val (.long q4), .second, .val (.long q5), .second, .val (.int p6), .val (.long q1), .second, .val (.long x2), .second, .unset, .unset, .unset, .unset, .unset, .unset, .unset, .unset, .unset] [(.int (2 : Int32)), (.int p6)]))
  refine Go.st (fun U hr => XS.iand X0.here hx rfl (hb hby at_20) rfl hr) ?_
  show Go p.tables e below _ (s₁.setTop (mkF m 21 #[.val (.long q1), .second, .val (.long q2), .second, .val (.long q3), .second, .val (.long q4), .second, .val (.long q5), .second, .val (.int p6), .val (.long q1), .second, .val (.long x2), .second, .unset, .unset, .unset, .unset, .unset, .unset, .unset, .unset, .unset] [(.int (p6 &&& (2 : Int32)))]))
  suffices hj21_2 : Go p.tables e below (own_Fin s below room_1.cells room_1.slots (Q0 Z q1 q2 q3 q4 q5 p6 h0 n0)) (s₁.setTop (mkF m 30 #[.val (.long q1), .second, .val (.long q2), .second, .val (.long q3), .second, .val (.long q4), .second, .val (.long q5), .second, .val (.int p6), .val (.long q1), .second, .val (.long x2), .second, .unset, .unset, .unset, .unset, .unset, .unset, .unset, .unset, .unset] [(.long (if (p6 &&& (2 : Int32)) = (0 : Int32) then q3 else q2))])) by
    by_cases hc21_2 : (p6 &&& (2 : Int32)) = (0 : Int32)
    · refine Go.st (fun U hr => XS.ifYes X0.here hx rfl (pc0 := 21) (pc' := 28) rfl (hb hby at_21) rfl ((if0 _ _).trans (teq hc21_2).1) (by decide) (by decide) hr) ?_
      show Go p.tables e below _ (s₁.setTop (mkF m 28 #[.val (.long q1), .second, .val (.long q2), .second, .val (.long q3), .second, .val (.long q4), .second, .val (.long q5), .second, .val (.int p6), .val (.long q1), .second, .val (.long x2), .second, .unset, .unset, .unset, .unset, .unset, .unset, .unset, .unset, .unset] []))
      refine Go.st (fun U hr => XS.lload X0.here hx rfl (hb hby at_28) rfl hr) ?_
      show Go p.tables e below _ (s₁.setTop (mkF m 30 #[.val (.long q1), .second, .val (.long q2), .second, .val (.long q3), .second, .val (.long q4), .second, .val (.long q5), .second, .val (.int p6), .val (.long q1), .second, .val (.long x2), .second, .unset, .unset, .unset, .unset, .unset, .unset, .unset, .unset, .unset] [(.long q3)]))
      simpa only [if_pos hc21_2] using hj21_2
    · refine Go.st (fun U hr => XS.ifNo X0.here hx rfl (hb hby at_21) rfl ((if0 _ _).trans (feq hc21_2).1) hr) ?_
      show Go p.tables e below _ (s₁.setTop (mkF m 24 #[.val (.long q1), .second, .val (.long q2), .second, .val (.long q3), .second, .val (.long q4), .second, .val (.long q5), .second, .val (.int p6), .val (.long q1), .second, .val (.long x2), .second, .unset, .unset, .unset, .unset, .unset, .unset, .unset, .unset, .unset] []))
      refine Go.st (fun U hr => XS.lloadN X0.here hx rfl (hb hby at_24) rfl hr) ?_
      show Go p.tables e below _ (s₁.setTop (mkF m 25 #[.val (.long q1), .second, .val (.long q2), .second, .val (.long q3), .second, .val (.long q4), .second, .val (.long q5), .second, .val (.int p6), .val (.long q1), .second, .val (.long x2), .second, .unset, .unset, .unset, .unset, .unset, .unset, .unset, .unset, .unset] [(.long q2)]))
      refine Go.st (fun U hr => XS.goto X0.here hx rfl (pc0 := 25) (pc' := 30) rfl (hb hby at_25) (by decide) (by decide) hr) ?_
      show Go p.tables e below _ (s₁.setTop (mkF m 30 #[.val (.long q1), .second, .val (.long q2), .second, .val (.long q3), .second, .val (.long q4), .second, .val (.long q5), .second, .val (.int p6), .val (.long q1), .second, .val (.long x2), .second, .unset, .unset, .unset, .unset, .unset, .unset, .unset, .unset, .unset] [(.long q2)]))
      simpa only [if_neg hc21_2] using hj21_2
  generalize h_x3 : (if (p6 &&& (2 : Int32)) = (0 : Int32) then q3 else q2) = x3
  refine Go.st (fun U hr => XS.lstore X0.here hx rfl (hb hby at_30) rfl (l' := #[.val (.long q1), .second, .val (.long q2), .second, .val (.long q3), .second, .val (.long q4), .second, .val (.long q5), .second, .val (.int p6), .val (.long q1), .second, .val (.long x2), .second, .val (.long x3), .second, .unset, .unset, .unset, .unset, .unset, .unset, .unset]) rfl hr) ?_
  show Go p.tables e below _ (s₁.setTop (mkF m 32 #[.val (.long q1), .second, .val (.long q2), .second, .val (.long q3), .second, .val (.long q4), .second, .val (.long q5), .second, .val (.int p6), .val (.long q1), .second, .val (.long x2), .second, .val (.long x3), .second, .unset, .unset, .unset, .unset, .unset, .unset, .unset] []))
  refine Go.st (fun U hr => XS.iload X0.here hx rfl (hb hby at_32) rfl hr) ?_
  show Go p.tables e below _ (s₁.setTop (mkF m 34 #[.val (.long q1), .second, .val (.long q2), .second, .val (.long q3), .second, .val (.long q4), .second, .val (.long q5), .second, .val (.int p6), .val (.long q1), .second, .val (.long x2), .second, .val (.long x3), .second, .unset, .unset, .unset, .unset, .unset, .unset, .unset] [(.int p6)]))
  refine Go.st (fun U hr => XS.iconst X0.here hx rfl (hb hby at_34) hr) ?_
  show Go p.tables e below _ (s₁.setTop (mkF m 35 #[.val (.long q1), .second, .val (.long q2), .second, .val (.long q3), .second, .val (.long q4), .second, .val (.long q5), .second, .val (.int p6), .val (.long q1), .second, .val (.long x2), .second, .val (.long x3), .second, .unset, .unset, .unset, .unset, .unset, .unset, .unset] [(.int (4 : Int32)), (.int p6)]))
  refine Go.st (fun U hr => XS.iand X0.here hx rfl (hb hby at_35) rfl hr) ?_
  show Go p.tables e below _ (s₁.setTop (mkF m 36 #[.val (.long q1), .second, .val (.long q2), .second, .val (.long q3), .second, .val (.long q4), .second, .val (.long q5), .second, .val (.int p6), .val (.long q1), .second, .val (.long x2), .second, .val (.long x3), .second, .unset, .unset, .unset, .unset, .unset, .unset, .unset] [(.int (p6 &&& (4 : Int32)))]))
  suffices hj36_3 : Go p.tables e below (own_Fin s below room_1.cells room_1.slots (Q0 Z q1 q2 q3 q4 q5 p6 h0 n0)) (s₁.setTop (mkF m 45 #[.val (.long q1), .second, .val (.long q2), .second, .val (.long q3), .second, .val (.long q4), .second, .val (.long q5), .second, .val (.int p6), .val (.long q1), .second, .val (.long x2), .second, .val (.long x3), .second, .unset, .unset, .unset, .unset, .unset, .unset, .unset] [(.long (if (p6 &&& (4 : Int32)) = (0 : Int32) then q4 else q1))])) by
    by_cases hc36_3 : (p6 &&& (4 : Int32)) = (0 : Int32)
    · refine Go.st (fun U hr => XS.ifYes X0.here hx rfl (pc0 := 36) (pc' := 43) rfl (hb hby at_36) rfl ((if0 _ _).trans (teq hc36_3).1) (by decide) (by decide) hr) ?_
      show Go p.tables e below _ (s₁.setTop (mkF m 43 #[.val (.long q1), .second, .val (.long q2), .second, .val (.long q3), .second, .val (.long q4), .second, .val (.long q5), .second, .val (.int p6), .val (.long q1), .second, .val (.long x2), .second, .val (.long x3), .second, .unset, .unset, .unset, .unset, .unset, .unset, .unset] []))
      refine Go.st (fun U hr => XS.lload X0.here hx rfl (hb hby at_43) rfl hr) ?_
      show Go p.tables e below _ (s₁.setTop (mkF m 45 #[.val (.long q1), .second, .val (.long q2), .second, .val (.long q3), .second, .val (.long q4), .second, .val (.long q5), .second, .val (.int p6), .val (.long q1), .second, .val (.long x2), .second, .val (.long x3), .second, .unset, .unset, .unset, .unset, .unset, .unset, .unset] [(.long q4)]))
      simpa only [if_pos hc36_3] using hj36_3
    · refine Go.st (fun U hr => XS.ifNo X0.here hx rfl (hb hby at_36) rfl ((if0 _ _).trans (feq hc36_3).1) hr) ?_
      show Go p.tables e below _ (s₁.setTop (mkF m 39 #[.val (.long q1), .second, .val (.long q2), .second, .val (.long q3), .second, .val (.long q4), .second, .val (.long q5), .second, .val (.int p6), .val (.long q1), .second, .val (.long x2), .second, .val (.long x3), .second, .unset, .unset, .unset, .unset, .unset, .unset, .unset] []))
      refine Go.st (fun U hr => XS.lloadN X0.here hx rfl (hb hby at_39) rfl hr) ?_
      show Go p.tables e below _ (s₁.setTop (mkF m 40 #[.val (.long q1), .second, .val (.long q2), .second, .val (.long q3), .second, .val (.long q4), .second, .val (.long q5), .second, .val (.int p6), .val (.long q1), .second, .val (.long x2), .second, .val (.long x3), .second, .unset, .unset, .unset, .unset, .unset, .unset, .unset] [(.long q1)]))
      refine Go.st (fun U hr => XS.goto X0.here hx rfl (pc0 := 40) (pc' := 45) rfl (hb hby at_40) (by decide) (by decide) hr) ?_
      show Go p.tables e below _ (s₁.setTop (mkF m 45 #[.val (.long q1), .second, .val (.long q2), .second, .val (.long q3), .second, .val (.long q4), .second, .val (.long q5), .second, .val (.int p6), .val (.long q1), .second, .val (.long x2), .second, .val (.long x3), .second, .unset, .unset, .unset, .unset, .unset, .unset, .unset] [(.long q1)]))
      simpa only [if_neg hc36_3] using hj36_3
  generalize h_x4 : (if (p6 &&& (4 : Int32)) = (0 : Int32) then q4 else q1) = x4
  refine Go.st (fun U hr => XS.lstore X0.here hx rfl (hb hby at_45) rfl (l' := #[.val (.long q1), .second, .val (.long q2), .second, .val (.long q3), .second, .val (.long q4), .second, .val (.long q5), .second, .val (.int p6), .val (.long q1), .second, .val (.long x2), .second, .val (.long x3), .second, .val (.long x4), .second, .unset, .unset, .unset, .unset, .unset]) rfl hr) ?_
  show Go p.tables e below _ (s₁.setTop (mkF m 47 #[.val (.long q1), .second, .val (.long q2), .second, .val (.long q3), .second, .val (.long q4), .second, .val (.long q5), .second, .val (.int p6), .val (.long q1), .second, .val (.long x2), .second, .val (.long x3), .second, .val (.long x4), .second, .unset, .unset, .unset, .unset, .unset] []))
  refine Go.st (fun U hr => XS.iload X0.here hx rfl (hb hby at_47) rfl hr) ?_
  show Go p.tables e below _ (s₁.setTop (mkF m 49 #[.val (.long q1), .second, .val (.long q2), .second, .val (.long q3), .second, .val (.long q4), .second, .val (.long q5), .second, .val (.int p6), .val (.long q1), .second, .val (.long x2), .second, .val (.long x3), .second, .val (.long x4), .second, .unset, .unset, .unset, .unset, .unset] [(.int p6)]))
  refine Go.st (fun U hr => XS.bipush X0.here hx rfl (hb hby at_49) hr) ?_
  show Go p.tables e below _ (s₁.setTop (mkF m 51 #[.val (.long q1), .second, .val (.long q2), .second, .val (.long q3), .second, .val (.long q4), .second, .val (.long q5), .second, .val (.int p6), .val (.long q1), .second, .val (.long x2), .second, .val (.long x3), .second, .val (.long x4), .second, .unset, .unset, .unset, .unset, .unset] [(.int (8 : Int32)), (.int p6)]))
  refine Go.st (fun U hr => XS.iand X0.here hx rfl (hb hby at_51) rfl hr) ?_
  show Go p.tables e below _ (s₁.setTop (mkF m 52 #[.val (.long q1), .second, .val (.long q2), .second, .val (.long q3), .second, .val (.long q4), .second, .val (.long q5), .second, .val (.int p6), .val (.long q1), .second, .val (.long x2), .second, .val (.long x3), .second, .val (.long x4), .second, .unset, .unset, .unset, .unset, .unset] [(.int (p6 &&& (8 : Int32)))]))
  suffices hj52_4 : Go p.tables e below (own_Fin s below room_1.cells room_1.slots (Q0 Z q1 q2 q3 q4 q5 p6 h0 n0)) (s₁.setTop (mkF m 62 #[.val (.long q1), .second, .val (.long q2), .second, .val (.long q3), .second, .val (.long q4), .second, .val (.long q5), .second, .val (.int p6), .val (.long q1), .second, .val (.long x2), .second, .val (.long x3), .second, .val (.long x4), .second, .unset, .unset, .unset, .unset, .unset] [(.long (if (p6 &&& (8 : Int32)) = (0 : Int32) then q5 else q3))])) by
    by_cases hc52_4 : (p6 &&& (8 : Int32)) = (0 : Int32)
    · refine Go.st (fun U hr => XS.ifYes X0.here hx rfl (pc0 := 52) (pc' := 60) rfl (hb hby at_52) rfl ((if0 _ _).trans (teq hc52_4).1) (by decide) (by decide) hr) ?_
      show Go p.tables e below _ (s₁.setTop (mkF m 60 #[.val (.long q1), .second, .val (.long q2), .second, .val (.long q3), .second, .val (.long q4), .second, .val (.long q5), .second, .val (.int p6), .val (.long q1), .second, .val (.long x2), .second, .val (.long x3), .second, .val (.long x4), .second, .unset, .unset, .unset, .unset, .unset] []))
      refine Go.st (fun U hr => XS.lload X0.here hx rfl (hb hby at_60) rfl hr) ?_
      show Go p.tables e below _ (s₁.setTop (mkF m 62 #[.val (.long q1), .second, .val (.long q2), .second, .val (.long q3), .second, .val (.long q4), .second, .val (.long q5), .second, .val (.int p6), .val (.long q1), .second, .val (.long x2), .second, .val (.long x3), .second, .val (.long x4), .second, .unset, .unset, .unset, .unset, .unset] [(.long q5)]))
      simpa only [if_pos hc52_4] using hj52_4
    · refine Go.st (fun U hr => XS.ifNo X0.here hx rfl (hb hby at_52) rfl ((if0 _ _).trans (feq hc52_4).1) hr) ?_
      show Go p.tables e below _ (s₁.setTop (mkF m 55 #[.val (.long q1), .second, .val (.long q2), .second, .val (.long q3), .second, .val (.long q4), .second, .val (.long q5), .second, .val (.int p6), .val (.long q1), .second, .val (.long x2), .second, .val (.long x3), .second, .val (.long x4), .second, .unset, .unset, .unset, .unset, .unset] []))
      refine Go.st (fun U hr => XS.lload X0.here hx rfl (hb hby at_55) rfl hr) ?_
      show Go p.tables e below _ (s₁.setTop (mkF m 57 #[.val (.long q1), .second, .val (.long q2), .second, .val (.long q3), .second, .val (.long q4), .second, .val (.long q5), .second, .val (.int p6), .val (.long q1), .second, .val (.long x2), .second, .val (.long x3), .second, .val (.long x4), .second, .unset, .unset, .unset, .unset, .unset] [(.long q3)]))
      refine Go.st (fun U hr => XS.goto X0.here hx rfl (pc0 := 57) (pc' := 62) rfl (hb hby at_57) (by decide) (by decide) hr) ?_
      show Go p.tables e below _ (s₁.setTop (mkF m 62 #[.val (.long q1), .second, .val (.long q2), .second, .val (.long q3), .second, .val (.long q4), .second, .val (.long q5), .second, .val (.int p6), .val (.long q1), .second, .val (.long x2), .second, .val (.long x3), .second, .val (.long x4), .second, .unset, .unset, .unset, .unset, .unset] [(.long q3)]))
      simpa only [if_neg hc52_4] using hj52_4
  generalize h_x5 : (if (p6 &&& (8 : Int32)) = (0 : Int32) then q5 else q3) = x5
  refine Go.st (fun U hr => XS.lstore X0.here hx rfl (hb hby at_62) rfl (l' := #[.val (.long q1), .second, .val (.long q2), .second, .val (.long q3), .second, .val (.long q4), .second, .val (.long q5), .second, .val (.int p6), .val (.long q1), .second, .val (.long x2), .second, .val (.long x3), .second, .val (.long x4), .second, .val (.long x5), .second, .unset, .unset, .unset]) rfl hr) ?_
  show Go p.tables e below _ (s₁.setTop (mkF m 64 #[.val (.long q1), .second, .val (.long q2), .second, .val (.long q3), .second, .val (.long q4), .second, .val (.long q5), .second, .val (.int p6), .val (.long q1), .second, .val (.long x2), .second, .val (.long x3), .second, .val (.long x4), .second, .val (.long x5), .second, .unset, .unset, .unset] []))
  refine Go.st (fun U hr => XS.iload X0.here hx rfl (hb hby at_64) rfl hr) ?_
  show Go p.tables e below _ (s₁.setTop (mkF m 66 #[.val (.long q1), .second, .val (.long q2), .second, .val (.long q3), .second, .val (.long q4), .second, .val (.long q5), .second, .val (.int p6), .val (.long q1), .second, .val (.long x2), .second, .val (.long x3), .second, .val (.long x4), .second, .val (.long x5), .second, .unset, .unset, .unset] [(.int p6)]))
  refine Go.st (fun U hr => XS.iconst X0.here hx rfl (hb hby at_66) hr) ?_
  show Go p.tables e below _ (s₁.setTop (mkF m 67 #[.val (.long q1), .second, .val (.long q2), .second, .val (.long q3), .second, .val (.long q4), .second, .val (.long q5), .second, .val (.int p6), .val (.long q1), .second, .val (.long x2), .second, .val (.long x3), .second, .val (.long x4), .second, .val (.long x5), .second, .unset, .unset, .unset] [(.int (4 : Int32)), (.int p6)]))
  refine Go.st (fun U hr => XS.iushr X0.here hx rfl (hb hby at_67) rfl hr) ?_
  show Go p.tables e below _ (s₁.setTop (mkF m 68 #[.val (.long q1), .second, .val (.long q2), .second, .val (.long q3), .second, .val (.long q4), .second, .val (.long q5), .second, .val (.int p6), .val (.long q1), .second, .val (.long x2), .second, .val (.long x3), .second, .val (.long x4), .second, .val (.long x5), .second, .unset, .unset, .unset] [(.int ((p6.toUInt32 >>> ((4 : Int32) &&& 31).toUInt32).toInt32))]))
  refine Go.st (fun U hr => XS.bipush X0.here hx rfl (hb hby at_68) hr) ?_
  show Go p.tables e below _ (s₁.setTop (mkF m 70 #[.val (.long q1), .second, .val (.long q2), .second, .val (.long q3), .second, .val (.long q4), .second, .val (.long q5), .second, .val (.int p6), .val (.long q1), .second, .val (.long x2), .second, .val (.long x3), .second, .val (.long x4), .second, .val (.long x5), .second, .unset, .unset, .unset] [(.int (6 : Int32)), (.int ((p6.toUInt32 >>> ((4 : Int32) &&& 31).toUInt32).toInt32))]))
  refine Go.st (fun U hr => XS.irem X0.here hx rfl (hb hby at_70) rfl (by decide) hr) ?_
  show Go p.tables e below _ (s₁.setTop (mkF m 71 #[.val (.long q1), .second, .val (.long q2), .second, .val (.long q3), .second, .val (.long q4), .second, .val (.long q5), .second, .val (.int p6), .val (.long q1), .second, .val (.long x2), .second, .val (.long x3), .second, .val (.long x4), .second, .val (.long x5), .second, .unset, .unset, .unset] [(.int (((p6.toUInt32 >>> ((4 : Int32) &&& 31).toUInt32).toInt32) - (((p6.toUInt32 >>> ((4 : Int32) &&& 31).toUInt32).toInt32) / (6 : Int32)) * (6 : Int32)))]))
  refine Go.st (fun U hr => XS.istore X0.here hx rfl (hb hby at_71) rfl (l' := #[.val (.long q1), .second, .val (.long q2), .second, .val (.long q3), .second, .val (.long q4), .second, .val (.long q5), .second, .val (.int p6), .val (.long q1), .second, .val (.long x2), .second, .val (.long x3), .second, .val (.long x4), .second, .val (.long x5), .second, .val (.int (((p6.toUInt32 >>> ((4 : Int32) &&& 31).toUInt32).toInt32) - (((p6.toUInt32 >>> ((4 : Int32) &&& 31).toUInt32).toInt32) / (6 : Int32)) * (6 : Int32))), .unset, .unset]) rfl hr) ?_
  show Go p.tables e below _ (s₁.setTop (mkF m 73 #[.val (.long q1), .second, .val (.long q2), .second, .val (.long q3), .second, .val (.long q4), .second, .val (.long q5), .second, .val (.int p6), .val (.long q1), .second, .val (.long x2), .second, .val (.long x3), .second, .val (.long x4), .second, .val (.long x5), .second, .val (.int (((p6.toUInt32 >>> ((4 : Int32) &&& 31).toUInt32).toInt32) - (((p6.toUInt32 >>> ((4 : Int32) &&& 31).toUInt32).toInt32) / (6 : Int32)) * (6 : Int32))), .unset, .unset] []))
  generalize h_nn : (((p6.toUInt32 >>> ((4 : Int32) &&& 31).toUInt32).toInt32) - (((p6.toUInt32 >>> ((4 : Int32) &&& 31).toUInt32).toInt32) / (6 : Int32)) * (6 : Int32)) = nn
  have hnn : 0 ≤ nn.toInt ∧ nn.toInt ≤ 5 := by
    have h0 := c_iushr p6 4 4 (by decide) (by decide)
    rw [show ((2 ^ 4 : Nat) : Int) = 16 from by decide] at h0
    generalize ((p6.toUInt32 >>> ((4 : Int32) &&& 31).toUInt32).toInt32) = u at *
    have h1 := (c_irem u 6 6 (by decide)).1 (by omega)
    rw [← own_irem u 6 (by decide), h_nn] at h1
    omega
  obtain ⟨T5, h5, X5, e5, E5, A5, D5, -, st5⟩ := newO X0 hx hZ hown (hw _ (List.mem_of_getElem? (i := 0) rfl)) (hw _ (List.mem_of_getElem? (i := 1) rfl)) (hw _ (List.mem_of_getElem? (i := 2) rfl)) e0 (g := (mkF m 73 #[.val (.long q1), .second, .val (.long q2), .second, .val (.long q3), .second, .val (.long q4), .second, .val (.long q5), .second, .val (.int p6), .val (.long q1), .second, .val (.long x2), .second, .val (.long x3), .second, .val (.long x4), .second, .val (.long x5), .second, .val (.int nn), .unset, .unset] [])) rfl (hb hby at_73) (by decide) (by decide)
  obtain ⟨b5, g5⟩ : ∃ z, z = h0.size := ⟨_, rfl⟩
  rw [← g5] at A5 D5 st5
  refine Go.st st5 ?_
  have gb5 : n0 ≤ b5 := Nat.le_trans Z0 (Nat.le_of_eq g5.symm)
  have z6 := Nat.le_trans Z0 E5.1
  have F5_ranks : Fld Z h5 b5 "com/example/rigorous_layout/rigorouslayout/DistinctCount" "ranks" "[J" .null := D5 (Or.inl (hw _ (List.mem_of_getElem? (i := 11) rfl))) (ty := (.array .long)) (by decide)
  have F5_estimated : Fld Z h5 b5 "com/example/rigorous_layout/rigorouslayout/DistinctCount" "estimated" "Z" (.int (0 : Int32)) := D5 (Or.inl (hw _ (List.mem_of_getElem? (i := 18) rfl))) (ty := .boolean) (by decide)
  have F5_size : Fld Z h5 b5 "com/example/rigorous_layout/rigorouslayout/DistinctCount" "size" "I" (.int (0 : Int32)) := D5 (Or.inl (hw _ (List.mem_of_getElem? (i := 20) rfl))) (ty := .int) (by decide)
  show Go p.tables e below _ (T5.setTop (mkF m 76 #[.val (.long q1), .second, .val (.long q2), .second, .val (.long q3), .second, .val (.long q4), .second, .val (.long q5), .second, .val (.int p6), .val (.long q1), .second, .val (.long x2), .second, .val (.long x3), .second, .val (.long x4), .second, .val (.long x5), .second, .val (.int nn), .unset, .unset] [(.ref b5)]))
  refine Go.st (fun U hr => XS.dup X5.here hx rfl (hb hby at_76) rfl rfl hr) ?_
  show Go p.tables e below _ (T5.setTop (mkF m 77 #[.val (.long q1), .second, .val (.long q2), .second, .val (.long q3), .second, .val (.long q4), .second, .val (.long q5), .second, .val (.int p6), .val (.long q1), .second, .val (.long x2), .second, .val (.long x3), .second, .val (.long x4), .second, .val (.long x5), .second, .val (.int nn), .unset, .unset] [(.ref b5), (.ref b5)]))
  obtain ⟨_, _, ⟨T7, L7, k7, n7⟩, -, X7, ⟨Lc7, hQ7, l7, y7, z7⟩, st7⟩ := X5.specialBack hx (y := (⟨"com/example/rigorous_layout/rigorouslayout/DistinctCount", "<init>", "()V"⟩ : MethodName)) rfl hown (mvT hZ (hw _ (List.mem_of_getElem? (i := 3) rfl))) (mvT hZ (hw _ (List.mem_of_getElem? (i := 4) rfl))) (mvT hZ (hw _ (List.mem_of_getElem? (i := 5) rfl))) (by decide) (backOf (W := 1) (rm1 l Z a0 hw [] b5 h5 n0 z6 A5 F5_ranks F5_size F5_estimated gb5) hZ (hw _ (List.mem_of_getElem? (i := 5) rfl)) (hw _ (List.mem_of_getElem? (i := 2) rfl)) (by decide) (by decide)) (g := (mkF m 77 #[.val (.long q1), .second, .val (.long q2), .second, .val (.long q3), .second, .val (.long q4), .second, .val (.long q5), .second, .val (.int p6), .val (.long q1), .second, .val (.long x2), .second, .val (.long x3), .second, .val (.long x4), .second, .val (.long x5), .second, .val (.int nn), .unset, .unset] [(.ref b5), (.ref b5)])) rfl (by rw [hml]; rfl) (Steps.refl _) (a := b5) (argsL := []) (rest := [(.ref b5)]) (lenOf pd_6 rfl) rfl (by show 2 * 0 + _ ≤ _; exact Nat.le_of_eq rfl) (hb hby at_77) (fun _ _ => ⟨rfl, e5, (by decide : 1 + 1 ≤ _), (by decide : 3 + 4 ≤ _)⟩)
  dsimp only [Pt.U, Pt.locs, Pt.cells, Pt.slots] at X7 l7 y7 z7 st7 hQ7
  subst l7 y7 z7
  obtain ⟨rfl, Nq7, Sq7, DB7⟩ := hQ7
  have N7 := Fr.app N0 Nq7
  refine Go.tr st7 ?_
  show Go p.tables e below _ (T7.setTop (mkF m 80 #[.val (.long q1), .second, .val (.long q2), .second, .val (.long q3), .second, .val (.long q4), .second, .val (.long q5), .second, .val (.int p6), .val (.long q1), .second, .val (.long x2), .second, .val (.long x3), .second, .val (.long x4), .second, .val (.long x5), .second, .val (.int nn), .unset, .unset] [(.ref b5)]))
  have z8 := Nat.le_trans z6 Sq7
  refine Go.st (fun U hr => XS.astore X7.here hx rfl (hb hby at_80) rfl rfl (l' := #[.val (.long q1), .second, .val (.long q2), .second, .val (.long q3), .second, .val (.long q4), .second, .val (.long q5), .second, .val (.int p6), .val (.long q1), .second, .val (.long x2), .second, .val (.long x3), .second, .val (.long x4), .second, .val (.long x5), .second, .val (.int nn), .val (.ref b5), .unset]) rfl hr) ?_
  show Go p.tables e below _ (T7.setTop (mkF m 82 #[.val (.long q1), .second, .val (.long q2), .second, .val (.long q3), .second, .val (.long q4), .second, .val (.long q5), .second, .val (.int p6), .val (.long q1), .second, .val (.long x2), .second, .val (.long x3), .second, .val (.long x4), .second, .val (.long x5), .second, .val (.int nn), .val (.ref b5), .unset] []))
  have hk0 : (0 : Nat) ≤ 0 := Nat.le_refl _
  have k95 : ∀ (Tc : State) (lc : List Loc) (hc : Heap) (Sc : Int64 → Prop) (kc : Nat), Stand p l e room_1 s m #[(.long q1), (.long q2), (.long q3), (.long q4), (.long q5), (.int p6)] below meth c Tc lc 3 15 → Tc.heap = hc → Fr n0 lc → n0 ≤ hc.size → own_DB Z hc n0 b5 Sc kc → kc ≤ 1 → (∀ r, Sc r ↔ ((fun _ => False) r ∨ (1 ≤ nn.toInt ∧ r = own_rank q1))) → ((1 ≤ nn.toInt ∧ ¬ (fun _ => False) (own_rank q1)) → kc = 0 + 1) → (¬ (1 ≤ nn.toInt ∧ ¬ (fun _ => False) (own_rank q1)) → kc = 0) → Go p.tables e below (own_Fin s below room_1.cells room_1.slots (Q0 Z q1 q2 q3 q4 q5 p6 h0 n0)) (Tc.setTop (mkF m 95 #[.val (.long q1), .second, .val (.long q2), .second, .val (.long q3), .second, .val (.long q4), .second, .val (.long q5), .second, .val (.int p6), .val (.long q1), .second, .val (.long x2), .second, .val (.long x3), .second, .val (.long x4), .second, .val (.long x5), .second, .val (.int nn), .val (.ref b5), .unset] [])) := by
    intro Tc1 lc1 hc1 Sc1 kc1 Xc1 ec1 Nc1 zc1 DBc1 hk1 hS1 hka1 hkb1
    show Go p.tables e below _ (Tc1.setTop (mkF m 95 #[.val (.long q1), .second, .val (.long q2), .second, .val (.long q3), .second, .val (.long q4), .second, .val (.long q5), .second, .val (.int p6), .val (.long q1), .second, .val (.long x2), .second, .val (.long x3), .second, .val (.long x4), .second, .val (.long x5), .second, .val (.int nn), .val (.ref b5), .unset] []))
    have k108 : ∀ (Tc : State) (lc : List Loc) (hc : Heap) (Sc : Int64 → Prop) (kc : Nat), Stand p l e room_1 s m #[(.long q1), (.long q2), (.long q3), (.long q4), (.long q5), (.int p6)] below meth c Tc lc 4 23 → Tc.heap = hc → Fr n0 lc → n0 ≤ hc.size → own_DB Z hc n0 b5 Sc kc → kc ≤ 2 → (∀ r, Sc r ↔ (Sc1 r ∨ (2 ≤ nn.toInt ∧ r = own_rank x2))) → ((2 ≤ nn.toInt ∧ ¬ Sc1 (own_rank x2)) → kc = kc1 + 1) → (¬ (2 ≤ nn.toInt ∧ ¬ Sc1 (own_rank x2)) → kc = kc1) → Go p.tables e below (own_Fin s below room_1.cells room_1.slots (Q0 Z q1 q2 q3 q4 q5 p6 h0 n0)) (Tc.setTop (mkF m 108 #[.val (.long q1), .second, .val (.long q2), .second, .val (.long q3), .second, .val (.long q4), .second, .val (.long q5), .second, .val (.int p6), .val (.long q1), .second, .val (.long x2), .second, .val (.long x3), .second, .val (.long x4), .second, .val (.long x5), .second, .val (.int nn), .val (.ref b5), .unset] [])) := by
      intro Tc2 lc2 hc2 Sc2 kc2 Xc2 ec2 Nc2 zc2 DBc2 hk2 hS2 hka2 hkb2
      show Go p.tables e below _ (Tc2.setTop (mkF m 108 #[.val (.long q1), .second, .val (.long q2), .second, .val (.long q3), .second, .val (.long q4), .second, .val (.long q5), .second, .val (.int p6), .val (.long q1), .second, .val (.long x2), .second, .val (.long x3), .second, .val (.long x4), .second, .val (.long x5), .second, .val (.int nn), .val (.ref b5), .unset] []))
      have k121 : ∀ (Tc : State) (lc : List Loc) (hc : Heap) (Sc : Int64 → Prop) (kc : Nat), Stand p l e room_1 s m #[(.long q1), (.long q2), (.long q3), (.long q4), (.long q5), (.int p6)] below meth c Tc lc 5 31 → Tc.heap = hc → Fr n0 lc → n0 ≤ hc.size → own_DB Z hc n0 b5 Sc kc → kc ≤ 3 → (∀ r, Sc r ↔ (Sc2 r ∨ (3 ≤ nn.toInt ∧ r = own_rank x3))) → ((3 ≤ nn.toInt ∧ ¬ Sc2 (own_rank x3)) → kc = kc2 + 1) → (¬ (3 ≤ nn.toInt ∧ ¬ Sc2 (own_rank x3)) → kc = kc2) → Go p.tables e below (own_Fin s below room_1.cells room_1.slots (Q0 Z q1 q2 q3 q4 q5 p6 h0 n0)) (Tc.setTop (mkF m 121 #[.val (.long q1), .second, .val (.long q2), .second, .val (.long q3), .second, .val (.long q4), .second, .val (.long q5), .second, .val (.int p6), .val (.long q1), .second, .val (.long x2), .second, .val (.long x3), .second, .val (.long x4), .second, .val (.long x5), .second, .val (.int nn), .val (.ref b5), .unset] [])) := by
        intro Tc3 lc3 hc3 Sc3 kc3 Xc3 ec3 Nc3 zc3 DBc3 hk3 hS3 hka3 hkb3
        show Go p.tables e below _ (Tc3.setTop (mkF m 121 #[.val (.long q1), .second, .val (.long q2), .second, .val (.long q3), .second, .val (.long q4), .second, .val (.long q5), .second, .val (.int p6), .val (.long q1), .second, .val (.long x2), .second, .val (.long x3), .second, .val (.long x4), .second, .val (.long x5), .second, .val (.int nn), .val (.ref b5), .unset] []))
        have k134 : ∀ (Tc : State) (lc : List Loc) (hc : Heap) (Sc : Int64 → Prop) (kc : Nat), Stand p l e room_1 s m #[(.long q1), (.long q2), (.long q3), (.long q4), (.long q5), (.int p6)] below meth c Tc lc 6 39 → Tc.heap = hc → Fr n0 lc → n0 ≤ hc.size → own_DB Z hc n0 b5 Sc kc → kc ≤ 4 → (∀ r, Sc r ↔ (Sc3 r ∨ (4 ≤ nn.toInt ∧ r = own_rank x4))) → ((4 ≤ nn.toInt ∧ ¬ Sc3 (own_rank x4)) → kc = kc3 + 1) → (¬ (4 ≤ nn.toInt ∧ ¬ Sc3 (own_rank x4)) → kc = kc3) → Go p.tables e below (own_Fin s below room_1.cells room_1.slots (Q0 Z q1 q2 q3 q4 q5 p6 h0 n0)) (Tc.setTop (mkF m 134 #[.val (.long q1), .second, .val (.long q2), .second, .val (.long q3), .second, .val (.long q4), .second, .val (.long q5), .second, .val (.int p6), .val (.long q1), .second, .val (.long x2), .second, .val (.long x3), .second, .val (.long x4), .second, .val (.long x5), .second, .val (.int nn), .val (.ref b5), .unset] [])) := by
          intro Tc4 lc4 hc4 Sc4 kc4 Xc4 ec4 Nc4 zc4 DBc4 hk4 hS4 hka4 hkb4
          show Go p.tables e below _ (Tc4.setTop (mkF m 134 #[.val (.long q1), .second, .val (.long q2), .second, .val (.long q3), .second, .val (.long q4), .second, .val (.long q5), .second, .val (.int p6), .val (.long q1), .second, .val (.long x2), .second, .val (.long x3), .second, .val (.long x4), .second, .val (.long x5), .second, .val (.int nn), .val (.ref b5), .unset] []))
          have k147 : ∀ (Tc : State) (lc : List Loc) (hc : Heap) (Sc : Int64 → Prop) (kc : Nat), Stand p l e room_1 s m #[(.long q1), (.long q2), (.long q3), (.long q4), (.long q5), (.int p6)] below meth c Tc lc 7 47 → Tc.heap = hc → Fr n0 lc → n0 ≤ hc.size → own_DB Z hc n0 b5 Sc kc → kc ≤ 5 → (∀ r, Sc r ↔ (Sc4 r ∨ (5 ≤ nn.toInt ∧ r = own_rank x5))) → ((5 ≤ nn.toInt ∧ ¬ Sc4 (own_rank x5)) → kc = kc4 + 1) → (¬ (5 ≤ nn.toInt ∧ ¬ Sc4 (own_rank x5)) → kc = kc4) → Go p.tables e below (own_Fin s below room_1.cells room_1.slots (Q0 Z q1 q2 q3 q4 q5 p6 h0 n0)) (Tc.setTop (mkF m 147 #[.val (.long q1), .second, .val (.long q2), .second, .val (.long q3), .second, .val (.long q4), .second, .val (.long q5), .second, .val (.int p6), .val (.long q1), .second, .val (.long x2), .second, .val (.long x3), .second, .val (.long x4), .second, .val (.long x5), .second, .val (.int nn), .val (.ref b5), .unset] [])) := by
            intro Tc5 lc5 hc5 Sc5 kc5 Xc5 ec5 Nc5 zc5 DBc5 hk5 hS5 hka5 hkb5
            show Go p.tables e below _ (Tc5.setTop (mkF m 147 #[.val (.long q1), .second, .val (.long q2), .second, .val (.long q3), .second, .val (.long q4), .second, .val (.long q5), .second, .val (.int p6), .val (.long q1), .second, .val (.long x2), .second, .val (.long x3), .second, .val (.long x4), .second, .val (.long x5), .second, .val (.int nn), .val (.ref b5), .unset] []))
            refine Go.st (fun U hr => XS.iconst Xc5.here hx rfl (hb hby at_147) hr) ?_
            show Go p.tables e below _ (Tc5.setTop (mkF m 148 #[.val (.long q1), .second, .val (.long q2), .second, .val (.long q3), .second, .val (.long q4), .second, .val (.long q5), .second, .val (.int p6), .val (.long q1), .second, .val (.long x2), .second, .val (.long x3), .second, .val (.long x4), .second, .val (.long x5), .second, .val (.int nn), .val (.ref b5), .unset] [(.int (0 : Int32))]))
            refine Go.st (fun U hr => XS.istore Xc5.here hx rfl (hb hby at_148) rfl (l' := #[.val (.long q1), .second, .val (.long q2), .second, .val (.long q3), .second, .val (.long q4), .second, .val (.long q5), .second, .val (.int p6), .val (.long q1), .second, .val (.long x2), .second, .val (.long x3), .second, .val (.long x4), .second, .val (.long x5), .second, .val (.int nn), .val (.ref b5), .val (.int (0 : Int32))]) rfl hr) ?_
            show Go p.tables e below _ (Tc5.setTop (mkF m 150 #[.val (.long q1), .second, .val (.long q2), .second, .val (.long q3), .second, .val (.long q4), .second, .val (.long q5), .second, .val (.int p6), .val (.long q1), .second, .val (.long x2), .second, .val (.long x3), .second, .val (.long x4), .second, .val (.long x5), .second, .val (.int nn), .val (.ref b5), .val (.int (0 : Int32))] []))
            refine Go.st (fun U hr => XS.iload Xc5.here hx rfl (hb hby at_150) rfl hr) ?_
            show Go p.tables e below _ (Tc5.setTop (mkF m 152 #[.val (.long q1), .second, .val (.long q2), .second, .val (.long q3), .second, .val (.long q4), .second, .val (.long q5), .second, .val (.int p6), .val (.long q1), .second, .val (.long x2), .second, .val (.long x3), .second, .val (.long x4), .second, .val (.long x5), .second, .val (.int nn), .val (.ref b5), .val (.int (0 : Int32))] [(.int nn)]))
            refine Go.st (fun U hr => XS.iconst Xc5.here hx rfl (hb hby at_152) hr) ?_
            show Go p.tables e below _ (Tc5.setTop (mkF m 153 #[.val (.long q1), .second, .val (.long q2), .second, .val (.long q3), .second, .val (.long q4), .second, .val (.long q5), .second, .val (.int p6), .val (.long q1), .second, .val (.long x2), .second, .val (.long x3), .second, .val (.long x4), .second, .val (.long x5), .second, .val (.int nn), .val (.ref b5), .val (.int (0 : Int32))] [(.int (1 : Int32)), (.int nn)]))
            suffices hj153_9 : Go p.tables e below (own_Fin s below room_1.cells room_1.slots (Q0 Z q1 q2 q3 q4 q5 p6 h0 n0)) (Tc5.setTop (mkF m 159 #[.val (.long q1), .second, .val (.long q2), .second, .val (.long q3), .second, .val (.long q4), .second, .val (.long q5), .second, .val (.int p6), .val (.long q1), .second, .val (.long x2), .second, .val (.long x3), .second, .val (.long x4), .second, .val (.long x5), .second, .val (.int nn), .val (.ref b5), .val (.int (if nn < (1 : Int32) then (0 : Int32) else (1 : Int32)))] [])) by
              by_cases hc153_9 : nn < (1 : Int32)
              · refine Go.st (fun U hr => XS.icmpYes Xc5.here hx rfl (pc0 := 153) (pc' := 159) rfl (hb hby at_153) rfl (tlt hc153_9).1 (by decide) (by decide) hr) ?_
                show Go p.tables e below _ (Tc5.setTop (mkF m 159 #[.val (.long q1), .second, .val (.long q2), .second, .val (.long q3), .second, .val (.long q4), .second, .val (.long q5), .second, .val (.int p6), .val (.long q1), .second, .val (.long x2), .second, .val (.long x3), .second, .val (.long x4), .second, .val (.long x5), .second, .val (.int nn), .val (.ref b5), .val (.int (0 : Int32))] []))
                simpa only [if_pos hc153_9] using hj153_9
              · refine Go.st (fun U hr => XS.icmpNo Xc5.here hx rfl (hb hby at_153) rfl (flt hc153_9).1 hr) ?_
                show Go p.tables e below _ (Tc5.setTop (mkF m 156 #[.val (.long q1), .second, .val (.long q2), .second, .val (.long q3), .second, .val (.long q4), .second, .val (.long q5), .second, .val (.int p6), .val (.long q1), .second, .val (.long x2), .second, .val (.long x3), .second, .val (.long x4), .second, .val (.long x5), .second, .val (.int nn), .val (.ref b5), .val (.int (0 : Int32))] []))
                refine Go.st (fun U hr => XS.iconst Xc5.here hx rfl (hb hby at_156) hr) ?_
                show Go p.tables e below _ (Tc5.setTop (mkF m 157 #[.val (.long q1), .second, .val (.long q2), .second, .val (.long q3), .second, .val (.long q4), .second, .val (.long q5), .second, .val (.int p6), .val (.long q1), .second, .val (.long x2), .second, .val (.long x3), .second, .val (.long x4), .second, .val (.long x5), .second, .val (.int nn), .val (.ref b5), .val (.int (0 : Int32))] [(.int (1 : Int32))]))
                refine Go.st (fun U hr => XS.istore Xc5.here hx rfl (hb hby at_157) rfl (l' := #[.val (.long q1), .second, .val (.long q2), .second, .val (.long q3), .second, .val (.long q4), .second, .val (.long q5), .second, .val (.int p6), .val (.long q1), .second, .val (.long x2), .second, .val (.long x3), .second, .val (.long x4), .second, .val (.long x5), .second, .val (.int nn), .val (.ref b5), .val (.int (1 : Int32))]) rfl hr) ?_
                show Go p.tables e below _ (Tc5.setTop (mkF m 159 #[.val (.long q1), .second, .val (.long q2), .second, .val (.long q3), .second, .val (.long q4), .second, .val (.long q5), .second, .val (.int p6), .val (.long q1), .second, .val (.long x2), .second, .val (.long x3), .second, .val (.long x4), .second, .val (.long x5), .second, .val (.int nn), .val (.ref b5), .val (.int (1 : Int32))] []))
                simpa only [if_neg hc153_9] using hj153_9
            generalize h_e1 : (if nn < (1 : Int32) then (0 : Int32) else (1 : Int32)) = e1
            refine Go.st (fun U hr => XS.iload Xc5.here hx rfl (hb hby at_159) rfl hr) ?_
            show Go p.tables e below _ (Tc5.setTop (mkF m 161 #[.val (.long q1), .second, .val (.long q2), .second, .val (.long q3), .second, .val (.long q4), .second, .val (.long q5), .second, .val (.int p6), .val (.long q1), .second, .val (.long x2), .second, .val (.long x3), .second, .val (.long x4), .second, .val (.long x5), .second, .val (.int nn), .val (.ref b5), .val (.int e1)] [(.int nn)]))
            refine Go.st (fun U hr => XS.iconst Xc5.here hx rfl (hb hby at_161) hr) ?_
            show Go p.tables e below _ (Tc5.setTop (mkF m 162 #[.val (.long q1), .second, .val (.long q2), .second, .val (.long q3), .second, .val (.long q4), .second, .val (.long q5), .second, .val (.int p6), .val (.long q1), .second, .val (.long x2), .second, .val (.long x3), .second, .val (.long x4), .second, .val (.long x5), .second, .val (.int nn), .val (.ref b5), .val (.int e1)] [(.int (2 : Int32)), (.int nn)]))
            suffices hj162_10 : Go p.tables e below (own_Fin s below room_1.cells room_1.slots (Q0 Z q1 q2 q3 q4 q5 p6 h0 n0)) (Tc5.setTop (mkF m 176 #[.val (.long q1), .second, .val (.long q2), .second, .val (.long q3), .second, .val (.long q4), .second, .val (.long q5), .second, .val (.int p6), .val (.long q1), .second, .val (.long x2), .second, .val (.long x3), .second, .val (.long x4), .second, .val (.long x5), .second, .val (.int nn), .val (.ref b5), .val (.int (if nn < (2 : Int32) then e1 else (if x2 = q1 then e1 else (e1 + (1 : Int32)))))] [])) by
              by_cases hc162_10 : nn < (2 : Int32)
              · refine Go.st (fun U hr => XS.icmpYes Xc5.here hx rfl (pc0 := 162) (pc' := 176) rfl (hb hby at_162) rfl (tlt hc162_10).1 (by decide) (by decide) hr) ?_
                show Go p.tables e below _ (Tc5.setTop (mkF m 176 #[.val (.long q1), .second, .val (.long q2), .second, .val (.long q3), .second, .val (.long q4), .second, .val (.long q5), .second, .val (.int p6), .val (.long q1), .second, .val (.long x2), .second, .val (.long x3), .second, .val (.long x4), .second, .val (.long x5), .second, .val (.int nn), .val (.ref b5), .val (.int e1)] []))
                simpa only [if_pos hc162_10] using hj162_10
              · refine Go.st (fun U hr => XS.icmpNo Xc5.here hx rfl (hb hby at_162) rfl (flt hc162_10).1 hr) ?_
                show Go p.tables e below _ (Tc5.setTop (mkF m 165 #[.val (.long q1), .second, .val (.long q2), .second, .val (.long q3), .second, .val (.long q4), .second, .val (.long q5), .second, .val (.int p6), .val (.long q1), .second, .val (.long x2), .second, .val (.long x3), .second, .val (.long x4), .second, .val (.long x5), .second, .val (.int nn), .val (.ref b5), .val (.int e1)] []))
                refine Go.st (fun U hr => XS.lload Xc5.here hx rfl (hb hby at_165) rfl hr) ?_
                show Go p.tables e below _ (Tc5.setTop (mkF m 167 #[.val (.long q1), .second, .val (.long q2), .second, .val (.long q3), .second, .val (.long q4), .second, .val (.long q5), .second, .val (.int p6), .val (.long q1), .second, .val (.long x2), .second, .val (.long x3), .second, .val (.long x4), .second, .val (.long x5), .second, .val (.int nn), .val (.ref b5), .val (.int e1)] [(.long x2)]))
                refine Go.st (fun U hr => XS.lload Xc5.here hx rfl (hb hby at_167) rfl hr) ?_
                show Go p.tables e below _ (Tc5.setTop (mkF m 169 #[.val (.long q1), .second, .val (.long q2), .second, .val (.long q3), .second, .val (.long q4), .second, .val (.long q5), .second, .val (.int p6), .val (.long q1), .second, .val (.long x2), .second, .val (.long x3), .second, .val (.long x4), .second, .val (.long x5), .second, .val (.int nn), .val (.ref b5), .val (.int e1)] [(.long q1), (.long x2)]))
                refine Go.st (fun U hr => XS.lcmp Xc5.here hx rfl (hb hby at_169) rfl hr) ?_
                show Go p.tables e below _ (Tc5.setTop (mkF m 170 #[.val (.long q1), .second, .val (.long q2), .second, .val (.long q3), .second, .val (.long q4), .second, .val (.long q5), .second, .val (.int p6), .val (.long q1), .second, .val (.long x2), .second, .val (.long x3), .second, .val (.long x4), .second, .val (.long x5), .second, .val (.int nn), .val (.ref b5), .val (.int e1)] [(.int (lcmpW x2 q1))]))
                suffices hj170_11 : Go p.tables e below (own_Fin s below room_1.cells room_1.slots (Q0 Z q1 q2 q3 q4 q5 p6 h0 n0)) (Tc5.setTop (mkF m 176 #[.val (.long q1), .second, .val (.long q2), .second, .val (.long q3), .second, .val (.long q4), .second, .val (.long q5), .second, .val (.int p6), .val (.long q1), .second, .val (.long x2), .second, .val (.long x3), .second, .val (.long x4), .second, .val (.long x5), .second, .val (.int nn), .val (.ref b5), .val (.int (if x2 = q1 then e1 else (e1 + (1 : Int32))))] [])) by
                  by_cases hc170_11 : x2 = q1
                  · refine Go.st (fun U hr => XS.ifYes Xc5.here hx rfl (pc0 := 170) (pc' := 176) rfl (hb hby at_170) rfl ((if0 _ _).trans (teq ((lw_eq x2 q1).2 hc170_11)).1) (by decide) (by decide) hr) ?_
                    show Go p.tables e below _ (Tc5.setTop (mkF m 176 #[.val (.long q1), .second, .val (.long q2), .second, .val (.long q3), .second, .val (.long q4), .second, .val (.long q5), .second, .val (.int p6), .val (.long q1), .second, .val (.long x2), .second, .val (.long x3), .second, .val (.long x4), .second, .val (.long x5), .second, .val (.int nn), .val (.ref b5), .val (.int e1)] []))
                    simpa only [if_pos hc170_11] using hj170_11
                  · refine Go.st (fun U hr => XS.ifNo Xc5.here hx rfl (hb hby at_170) rfl ((if0 _ _).trans (feq (fun q => hc170_11 ((lw_eq x2 q1).1 q))).1) hr) ?_
                    show Go p.tables e below _ (Tc5.setTop (mkF m 173 #[.val (.long q1), .second, .val (.long q2), .second, .val (.long q3), .second, .val (.long q4), .second, .val (.long q5), .second, .val (.int p6), .val (.long q1), .second, .val (.long x2), .second, .val (.long x3), .second, .val (.long x4), .second, .val (.long x5), .second, .val (.int nn), .val (.ref b5), .val (.int e1)] []))
                    refine Go.st (fun U hr => XS.iinc Xc5.here hx rfl (hb hby at_173) rfl (l' := #[.val (.long q1), .second, .val (.long q2), .second, .val (.long q3), .second, .val (.long q4), .second, .val (.long q5), .second, .val (.int p6), .val (.long q1), .second, .val (.long x2), .second, .val (.long x3), .second, .val (.long x4), .second, .val (.long x5), .second, .val (.int nn), .val (.ref b5), .val (.int (e1 + (1 : Int32)))]) rfl hr) ?_
                    show Go p.tables e below _ (Tc5.setTop (mkF m 176 #[.val (.long q1), .second, .val (.long q2), .second, .val (.long q3), .second, .val (.long q4), .second, .val (.long q5), .second, .val (.int p6), .val (.long q1), .second, .val (.long x2), .second, .val (.long x3), .second, .val (.long x4), .second, .val (.long x5), .second, .val (.int nn), .val (.ref b5), .val (.int (e1 + (1 : Int32)))] []))
                    simpa only [if_neg hc170_11] using hj170_11
                simpa only [if_neg hc162_10] using hj162_10
            generalize h_e2 : (if nn < (2 : Int32) then e1 else (if x2 = q1 then e1 else (e1 + (1 : Int32)))) = e2
            refine Go.st (fun U hr => XS.iload Xc5.here hx rfl (hb hby at_176) rfl hr) ?_
            show Go p.tables e below _ (Tc5.setTop (mkF m 178 #[.val (.long q1), .second, .val (.long q2), .second, .val (.long q3), .second, .val (.long q4), .second, .val (.long q5), .second, .val (.int p6), .val (.long q1), .second, .val (.long x2), .second, .val (.long x3), .second, .val (.long x4), .second, .val (.long x5), .second, .val (.int nn), .val (.ref b5), .val (.int e2)] [(.int nn)]))
            refine Go.st (fun U hr => XS.iconst Xc5.here hx rfl (hb hby at_178) hr) ?_
            show Go p.tables e below _ (Tc5.setTop (mkF m 179 #[.val (.long q1), .second, .val (.long q2), .second, .val (.long q3), .second, .val (.long q4), .second, .val (.long q5), .second, .val (.int p6), .val (.long q1), .second, .val (.long x2), .second, .val (.long x3), .second, .val (.long x4), .second, .val (.long x5), .second, .val (.int nn), .val (.ref b5), .val (.int e2)] [(.int (3 : Int32)), (.int nn)]))
            suffices hj179_12 : Go p.tables e below (own_Fin s below room_1.cells room_1.slots (Q0 Z q1 q2 q3 q4 q5 p6 h0 n0)) (Tc5.setTop (mkF m 201 #[.val (.long q1), .second, .val (.long q2), .second, .val (.long q3), .second, .val (.long q4), .second, .val (.long q5), .second, .val (.int p6), .val (.long q1), .second, .val (.long x2), .second, .val (.long x3), .second, .val (.long x4), .second, .val (.long x5), .second, .val (.int nn), .val (.ref b5), .val (.int (if nn < (3 : Int32) then e2 else (if x3 = q1 then e2 else (if x3 = x2 then e2 else (e2 + (1 : Int32))))))] [])) by
              by_cases hc179_12 : nn < (3 : Int32)
              · refine Go.st (fun U hr => XS.icmpYes Xc5.here hx rfl (pc0 := 179) (pc' := 201) rfl (hb hby at_179) rfl (tlt hc179_12).1 (by decide) (by decide) hr) ?_
                show Go p.tables e below _ (Tc5.setTop (mkF m 201 #[.val (.long q1), .second, .val (.long q2), .second, .val (.long q3), .second, .val (.long q4), .second, .val (.long q5), .second, .val (.int p6), .val (.long q1), .second, .val (.long x2), .second, .val (.long x3), .second, .val (.long x4), .second, .val (.long x5), .second, .val (.int nn), .val (.ref b5), .val (.int e2)] []))
                simpa only [if_pos hc179_12] using hj179_12
              · refine Go.st (fun U hr => XS.icmpNo Xc5.here hx rfl (hb hby at_179) rfl (flt hc179_12).1 hr) ?_
                show Go p.tables e below _ (Tc5.setTop (mkF m 182 #[.val (.long q1), .second, .val (.long q2), .second, .val (.long q3), .second, .val (.long q4), .second, .val (.long q5), .second, .val (.int p6), .val (.long q1), .second, .val (.long x2), .second, .val (.long x3), .second, .val (.long x4), .second, .val (.long x5), .second, .val (.int nn), .val (.ref b5), .val (.int e2)] []))
                refine Go.st (fun U hr => XS.lload Xc5.here hx rfl (hb hby at_182) rfl hr) ?_
                show Go p.tables e below _ (Tc5.setTop (mkF m 184 #[.val (.long q1), .second, .val (.long q2), .second, .val (.long q3), .second, .val (.long q4), .second, .val (.long q5), .second, .val (.int p6), .val (.long q1), .second, .val (.long x2), .second, .val (.long x3), .second, .val (.long x4), .second, .val (.long x5), .second, .val (.int nn), .val (.ref b5), .val (.int e2)] [(.long x3)]))
                refine Go.st (fun U hr => XS.lload Xc5.here hx rfl (hb hby at_184) rfl hr) ?_
                show Go p.tables e below _ (Tc5.setTop (mkF m 186 #[.val (.long q1), .second, .val (.long q2), .second, .val (.long q3), .second, .val (.long q4), .second, .val (.long q5), .second, .val (.int p6), .val (.long q1), .second, .val (.long x2), .second, .val (.long x3), .second, .val (.long x4), .second, .val (.long x5), .second, .val (.int nn), .val (.ref b5), .val (.int e2)] [(.long q1), (.long x3)]))
                refine Go.st (fun U hr => XS.lcmp Xc5.here hx rfl (hb hby at_186) rfl hr) ?_
                show Go p.tables e below _ (Tc5.setTop (mkF m 187 #[.val (.long q1), .second, .val (.long q2), .second, .val (.long q3), .second, .val (.long q4), .second, .val (.long q5), .second, .val (.int p6), .val (.long q1), .second, .val (.long x2), .second, .val (.long x3), .second, .val (.long x4), .second, .val (.long x5), .second, .val (.int nn), .val (.ref b5), .val (.int e2)] [(.int (lcmpW x3 q1))]))
                suffices hj187_13 : Go p.tables e below (own_Fin s below room_1.cells room_1.slots (Q0 Z q1 q2 q3 q4 q5 p6 h0 n0)) (Tc5.setTop (mkF m 201 #[.val (.long q1), .second, .val (.long q2), .second, .val (.long q3), .second, .val (.long q4), .second, .val (.long q5), .second, .val (.int p6), .val (.long q1), .second, .val (.long x2), .second, .val (.long x3), .second, .val (.long x4), .second, .val (.long x5), .second, .val (.int nn), .val (.ref b5), .val (.int (if x3 = q1 then e2 else (if x3 = x2 then e2 else (e2 + (1 : Int32)))))] [])) by
                  by_cases hc187_13 : x3 = q1
                  · refine Go.st (fun U hr => XS.ifYes Xc5.here hx rfl (pc0 := 187) (pc' := 201) rfl (hb hby at_187) rfl ((if0 _ _).trans (teq ((lw_eq x3 q1).2 hc187_13)).1) (by decide) (by decide) hr) ?_
                    show Go p.tables e below _ (Tc5.setTop (mkF m 201 #[.val (.long q1), .second, .val (.long q2), .second, .val (.long q3), .second, .val (.long q4), .second, .val (.long q5), .second, .val (.int p6), .val (.long q1), .second, .val (.long x2), .second, .val (.long x3), .second, .val (.long x4), .second, .val (.long x5), .second, .val (.int nn), .val (.ref b5), .val (.int e2)] []))
                    simpa only [if_pos hc187_13] using hj187_13
                  · refine Go.st (fun U hr => XS.ifNo Xc5.here hx rfl (hb hby at_187) rfl ((if0 _ _).trans (feq (fun q => hc187_13 ((lw_eq x3 q1).1 q))).1) hr) ?_
                    show Go p.tables e below _ (Tc5.setTop (mkF m 190 #[.val (.long q1), .second, .val (.long q2), .second, .val (.long q3), .second, .val (.long q4), .second, .val (.long q5), .second, .val (.int p6), .val (.long q1), .second, .val (.long x2), .second, .val (.long x3), .second, .val (.long x4), .second, .val (.long x5), .second, .val (.int nn), .val (.ref b5), .val (.int e2)] []))
                    refine Go.st (fun U hr => XS.lload Xc5.here hx rfl (hb hby at_190) rfl hr) ?_
                    show Go p.tables e below _ (Tc5.setTop (mkF m 192 #[.val (.long q1), .second, .val (.long q2), .second, .val (.long q3), .second, .val (.long q4), .second, .val (.long q5), .second, .val (.int p6), .val (.long q1), .second, .val (.long x2), .second, .val (.long x3), .second, .val (.long x4), .second, .val (.long x5), .second, .val (.int nn), .val (.ref b5), .val (.int e2)] [(.long x3)]))
                    refine Go.st (fun U hr => XS.lload Xc5.here hx rfl (hb hby at_192) rfl hr) ?_
                    show Go p.tables e below _ (Tc5.setTop (mkF m 194 #[.val (.long q1), .second, .val (.long q2), .second, .val (.long q3), .second, .val (.long q4), .second, .val (.long q5), .second, .val (.int p6), .val (.long q1), .second, .val (.long x2), .second, .val (.long x3), .second, .val (.long x4), .second, .val (.long x5), .second, .val (.int nn), .val (.ref b5), .val (.int e2)] [(.long x2), (.long x3)]))
                    refine Go.st (fun U hr => XS.lcmp Xc5.here hx rfl (hb hby at_194) rfl hr) ?_
                    show Go p.tables e below _ (Tc5.setTop (mkF m 195 #[.val (.long q1), .second, .val (.long q2), .second, .val (.long q3), .second, .val (.long q4), .second, .val (.long q5), .second, .val (.int p6), .val (.long q1), .second, .val (.long x2), .second, .val (.long x3), .second, .val (.long x4), .second, .val (.long x5), .second, .val (.int nn), .val (.ref b5), .val (.int e2)] [(.int (lcmpW x3 x2))]))
                    suffices hj195_14 : Go p.tables e below (own_Fin s below room_1.cells room_1.slots (Q0 Z q1 q2 q3 q4 q5 p6 h0 n0)) (Tc5.setTop (mkF m 201 #[.val (.long q1), .second, .val (.long q2), .second, .val (.long q3), .second, .val (.long q4), .second, .val (.long q5), .second, .val (.int p6), .val (.long q1), .second, .val (.long x2), .second, .val (.long x3), .second, .val (.long x4), .second, .val (.long x5), .second, .val (.int nn), .val (.ref b5), .val (.int (if x3 = x2 then e2 else (e2 + (1 : Int32))))] [])) by
                      by_cases hc195_14 : x3 = x2
                      · refine Go.st (fun U hr => XS.ifYes Xc5.here hx rfl (pc0 := 195) (pc' := 201) rfl (hb hby at_195) rfl ((if0 _ _).trans (teq ((lw_eq x3 x2).2 hc195_14)).1) (by decide) (by decide) hr) ?_
                        show Go p.tables e below _ (Tc5.setTop (mkF m 201 #[.val (.long q1), .second, .val (.long q2), .second, .val (.long q3), .second, .val (.long q4), .second, .val (.long q5), .second, .val (.int p6), .val (.long q1), .second, .val (.long x2), .second, .val (.long x3), .second, .val (.long x4), .second, .val (.long x5), .second, .val (.int nn), .val (.ref b5), .val (.int e2)] []))
                        simpa only [if_pos hc195_14] using hj195_14
                      · refine Go.st (fun U hr => XS.ifNo Xc5.here hx rfl (hb hby at_195) rfl ((if0 _ _).trans (feq (fun q => hc195_14 ((lw_eq x3 x2).1 q))).1) hr) ?_
                        show Go p.tables e below _ (Tc5.setTop (mkF m 198 #[.val (.long q1), .second, .val (.long q2), .second, .val (.long q3), .second, .val (.long q4), .second, .val (.long q5), .second, .val (.int p6), .val (.long q1), .second, .val (.long x2), .second, .val (.long x3), .second, .val (.long x4), .second, .val (.long x5), .second, .val (.int nn), .val (.ref b5), .val (.int e2)] []))
                        refine Go.st (fun U hr => XS.iinc Xc5.here hx rfl (hb hby at_198) rfl (l' := #[.val (.long q1), .second, .val (.long q2), .second, .val (.long q3), .second, .val (.long q4), .second, .val (.long q5), .second, .val (.int p6), .val (.long q1), .second, .val (.long x2), .second, .val (.long x3), .second, .val (.long x4), .second, .val (.long x5), .second, .val (.int nn), .val (.ref b5), .val (.int (e2 + (1 : Int32)))]) rfl hr) ?_
                        show Go p.tables e below _ (Tc5.setTop (mkF m 201 #[.val (.long q1), .second, .val (.long q2), .second, .val (.long q3), .second, .val (.long q4), .second, .val (.long q5), .second, .val (.int p6), .val (.long q1), .second, .val (.long x2), .second, .val (.long x3), .second, .val (.long x4), .second, .val (.long x5), .second, .val (.int nn), .val (.ref b5), .val (.int (e2 + (1 : Int32)))] []))
                        simpa only [if_neg hc195_14] using hj195_14
                    simpa only [if_neg hc187_13] using hj187_13
                simpa only [if_neg hc179_12] using hj179_12
            generalize h_e3 : (if nn < (3 : Int32) then e2 else (if x3 = q1 then e2 else (if x3 = x2 then e2 else (e2 + (1 : Int32))))) = e3
            refine Go.st (fun U hr => XS.iload Xc5.here hx rfl (hb hby at_201) rfl hr) ?_
            show Go p.tables e below _ (Tc5.setTop (mkF m 203 #[.val (.long q1), .second, .val (.long q2), .second, .val (.long q3), .second, .val (.long q4), .second, .val (.long q5), .second, .val (.int p6), .val (.long q1), .second, .val (.long x2), .second, .val (.long x3), .second, .val (.long x4), .second, .val (.long x5), .second, .val (.int nn), .val (.ref b5), .val (.int e3)] [(.int nn)]))
            refine Go.st (fun U hr => XS.iconst Xc5.here hx rfl (hb hby at_203) hr) ?_
            show Go p.tables e below _ (Tc5.setTop (mkF m 204 #[.val (.long q1), .second, .val (.long q2), .second, .val (.long q3), .second, .val (.long q4), .second, .val (.long q5), .second, .val (.int p6), .val (.long q1), .second, .val (.long x2), .second, .val (.long x3), .second, .val (.long x4), .second, .val (.long x5), .second, .val (.int nn), .val (.ref b5), .val (.int e3)] [(.int (4 : Int32)), (.int nn)]))
            suffices hj204_15 : Go p.tables e below (own_Fin s below room_1.cells room_1.slots (Q0 Z q1 q2 q3 q4 q5 p6 h0 n0)) (Tc5.setTop (mkF m 234 #[.val (.long q1), .second, .val (.long q2), .second, .val (.long q3), .second, .val (.long q4), .second, .val (.long q5), .second, .val (.int p6), .val (.long q1), .second, .val (.long x2), .second, .val (.long x3), .second, .val (.long x4), .second, .val (.long x5), .second, .val (.int nn), .val (.ref b5), .val (.int (if nn < (4 : Int32) then e3 else (if x4 = q1 then e3 else (if x4 = x2 then e3 else (if x4 = x3 then e3 else (e3 + (1 : Int32)))))))] [])) by
              by_cases hc204_15 : nn < (4 : Int32)
              · refine Go.st (fun U hr => XS.icmpYes Xc5.here hx rfl (pc0 := 204) (pc' := 234) rfl (hb hby at_204) rfl (tlt hc204_15).1 (by decide) (by decide) hr) ?_
                show Go p.tables e below _ (Tc5.setTop (mkF m 234 #[.val (.long q1), .second, .val (.long q2), .second, .val (.long q3), .second, .val (.long q4), .second, .val (.long q5), .second, .val (.int p6), .val (.long q1), .second, .val (.long x2), .second, .val (.long x3), .second, .val (.long x4), .second, .val (.long x5), .second, .val (.int nn), .val (.ref b5), .val (.int e3)] []))
                simpa only [if_pos hc204_15] using hj204_15
              · refine Go.st (fun U hr => XS.icmpNo Xc5.here hx rfl (hb hby at_204) rfl (flt hc204_15).1 hr) ?_
                show Go p.tables e below _ (Tc5.setTop (mkF m 207 #[.val (.long q1), .second, .val (.long q2), .second, .val (.long q3), .second, .val (.long q4), .second, .val (.long q5), .second, .val (.int p6), .val (.long q1), .second, .val (.long x2), .second, .val (.long x3), .second, .val (.long x4), .second, .val (.long x5), .second, .val (.int nn), .val (.ref b5), .val (.int e3)] []))
                refine Go.st (fun U hr => XS.lload Xc5.here hx rfl (hb hby at_207) rfl hr) ?_
                show Go p.tables e below _ (Tc5.setTop (mkF m 209 #[.val (.long q1), .second, .val (.long q2), .second, .val (.long q3), .second, .val (.long q4), .second, .val (.long q5), .second, .val (.int p6), .val (.long q1), .second, .val (.long x2), .second, .val (.long x3), .second, .val (.long x4), .second, .val (.long x5), .second, .val (.int nn), .val (.ref b5), .val (.int e3)] [(.long x4)]))
                refine Go.st (fun U hr => XS.lload Xc5.here hx rfl (hb hby at_209) rfl hr) ?_
                show Go p.tables e below _ (Tc5.setTop (mkF m 211 #[.val (.long q1), .second, .val (.long q2), .second, .val (.long q3), .second, .val (.long q4), .second, .val (.long q5), .second, .val (.int p6), .val (.long q1), .second, .val (.long x2), .second, .val (.long x3), .second, .val (.long x4), .second, .val (.long x5), .second, .val (.int nn), .val (.ref b5), .val (.int e3)] [(.long q1), (.long x4)]))
                refine Go.st (fun U hr => XS.lcmp Xc5.here hx rfl (hb hby at_211) rfl hr) ?_
                show Go p.tables e below _ (Tc5.setTop (mkF m 212 #[.val (.long q1), .second, .val (.long q2), .second, .val (.long q3), .second, .val (.long q4), .second, .val (.long q5), .second, .val (.int p6), .val (.long q1), .second, .val (.long x2), .second, .val (.long x3), .second, .val (.long x4), .second, .val (.long x5), .second, .val (.int nn), .val (.ref b5), .val (.int e3)] [(.int (lcmpW x4 q1))]))
                suffices hj212_16 : Go p.tables e below (own_Fin s below room_1.cells room_1.slots (Q0 Z q1 q2 q3 q4 q5 p6 h0 n0)) (Tc5.setTop (mkF m 234 #[.val (.long q1), .second, .val (.long q2), .second, .val (.long q3), .second, .val (.long q4), .second, .val (.long q5), .second, .val (.int p6), .val (.long q1), .second, .val (.long x2), .second, .val (.long x3), .second, .val (.long x4), .second, .val (.long x5), .second, .val (.int nn), .val (.ref b5), .val (.int (if x4 = q1 then e3 else (if x4 = x2 then e3 else (if x4 = x3 then e3 else (e3 + (1 : Int32))))))] [])) by
                  by_cases hc212_16 : x4 = q1
                  · refine Go.st (fun U hr => XS.ifYes Xc5.here hx rfl (pc0 := 212) (pc' := 234) rfl (hb hby at_212) rfl ((if0 _ _).trans (teq ((lw_eq x4 q1).2 hc212_16)).1) (by decide) (by decide) hr) ?_
                    show Go p.tables e below _ (Tc5.setTop (mkF m 234 #[.val (.long q1), .second, .val (.long q2), .second, .val (.long q3), .second, .val (.long q4), .second, .val (.long q5), .second, .val (.int p6), .val (.long q1), .second, .val (.long x2), .second, .val (.long x3), .second, .val (.long x4), .second, .val (.long x5), .second, .val (.int nn), .val (.ref b5), .val (.int e3)] []))
                    simpa only [if_pos hc212_16] using hj212_16
                  · refine Go.st (fun U hr => XS.ifNo Xc5.here hx rfl (hb hby at_212) rfl ((if0 _ _).trans (feq (fun q => hc212_16 ((lw_eq x4 q1).1 q))).1) hr) ?_
                    show Go p.tables e below _ (Tc5.setTop (mkF m 215 #[.val (.long q1), .second, .val (.long q2), .second, .val (.long q3), .second, .val (.long q4), .second, .val (.long q5), .second, .val (.int p6), .val (.long q1), .second, .val (.long x2), .second, .val (.long x3), .second, .val (.long x4), .second, .val (.long x5), .second, .val (.int nn), .val (.ref b5), .val (.int e3)] []))
                    refine Go.st (fun U hr => XS.lload Xc5.here hx rfl (hb hby at_215) rfl hr) ?_
                    show Go p.tables e below _ (Tc5.setTop (mkF m 217 #[.val (.long q1), .second, .val (.long q2), .second, .val (.long q3), .second, .val (.long q4), .second, .val (.long q5), .second, .val (.int p6), .val (.long q1), .second, .val (.long x2), .second, .val (.long x3), .second, .val (.long x4), .second, .val (.long x5), .second, .val (.int nn), .val (.ref b5), .val (.int e3)] [(.long x4)]))
                    refine Go.st (fun U hr => XS.lload Xc5.here hx rfl (hb hby at_217) rfl hr) ?_
                    show Go p.tables e below _ (Tc5.setTop (mkF m 219 #[.val (.long q1), .second, .val (.long q2), .second, .val (.long q3), .second, .val (.long q4), .second, .val (.long q5), .second, .val (.int p6), .val (.long q1), .second, .val (.long x2), .second, .val (.long x3), .second, .val (.long x4), .second, .val (.long x5), .second, .val (.int nn), .val (.ref b5), .val (.int e3)] [(.long x2), (.long x4)]))
                    refine Go.st (fun U hr => XS.lcmp Xc5.here hx rfl (hb hby at_219) rfl hr) ?_
                    show Go p.tables e below _ (Tc5.setTop (mkF m 220 #[.val (.long q1), .second, .val (.long q2), .second, .val (.long q3), .second, .val (.long q4), .second, .val (.long q5), .second, .val (.int p6), .val (.long q1), .second, .val (.long x2), .second, .val (.long x3), .second, .val (.long x4), .second, .val (.long x5), .second, .val (.int nn), .val (.ref b5), .val (.int e3)] [(.int (lcmpW x4 x2))]))
                    suffices hj220_17 : Go p.tables e below (own_Fin s below room_1.cells room_1.slots (Q0 Z q1 q2 q3 q4 q5 p6 h0 n0)) (Tc5.setTop (mkF m 234 #[.val (.long q1), .second, .val (.long q2), .second, .val (.long q3), .second, .val (.long q4), .second, .val (.long q5), .second, .val (.int p6), .val (.long q1), .second, .val (.long x2), .second, .val (.long x3), .second, .val (.long x4), .second, .val (.long x5), .second, .val (.int nn), .val (.ref b5), .val (.int (if x4 = x2 then e3 else (if x4 = x3 then e3 else (e3 + (1 : Int32)))))] [])) by
                      by_cases hc220_17 : x4 = x2
                      · refine Go.st (fun U hr => XS.ifYes Xc5.here hx rfl (pc0 := 220) (pc' := 234) rfl (hb hby at_220) rfl ((if0 _ _).trans (teq ((lw_eq x4 x2).2 hc220_17)).1) (by decide) (by decide) hr) ?_
                        show Go p.tables e below _ (Tc5.setTop (mkF m 234 #[.val (.long q1), .second, .val (.long q2), .second, .val (.long q3), .second, .val (.long q4), .second, .val (.long q5), .second, .val (.int p6), .val (.long q1), .second, .val (.long x2), .second, .val (.long x3), .second, .val (.long x4), .second, .val (.long x5), .second, .val (.int nn), .val (.ref b5), .val (.int e3)] []))
                        simpa only [if_pos hc220_17] using hj220_17
                      · refine Go.st (fun U hr => XS.ifNo Xc5.here hx rfl (hb hby at_220) rfl ((if0 _ _).trans (feq (fun q => hc220_17 ((lw_eq x4 x2).1 q))).1) hr) ?_
                        show Go p.tables e below _ (Tc5.setTop (mkF m 223 #[.val (.long q1), .second, .val (.long q2), .second, .val (.long q3), .second, .val (.long q4), .second, .val (.long q5), .second, .val (.int p6), .val (.long q1), .second, .val (.long x2), .second, .val (.long x3), .second, .val (.long x4), .second, .val (.long x5), .second, .val (.int nn), .val (.ref b5), .val (.int e3)] []))
                        refine Go.st (fun U hr => XS.lload Xc5.here hx rfl (hb hby at_223) rfl hr) ?_
                        show Go p.tables e below _ (Tc5.setTop (mkF m 225 #[.val (.long q1), .second, .val (.long q2), .second, .val (.long q3), .second, .val (.long q4), .second, .val (.long q5), .second, .val (.int p6), .val (.long q1), .second, .val (.long x2), .second, .val (.long x3), .second, .val (.long x4), .second, .val (.long x5), .second, .val (.int nn), .val (.ref b5), .val (.int e3)] [(.long x4)]))
                        refine Go.st (fun U hr => XS.lload Xc5.here hx rfl (hb hby at_225) rfl hr) ?_
                        show Go p.tables e below _ (Tc5.setTop (mkF m 227 #[.val (.long q1), .second, .val (.long q2), .second, .val (.long q3), .second, .val (.long q4), .second, .val (.long q5), .second, .val (.int p6), .val (.long q1), .second, .val (.long x2), .second, .val (.long x3), .second, .val (.long x4), .second, .val (.long x5), .second, .val (.int nn), .val (.ref b5), .val (.int e3)] [(.long x3), (.long x4)]))
                        refine Go.st (fun U hr => XS.lcmp Xc5.here hx rfl (hb hby at_227) rfl hr) ?_
                        show Go p.tables e below _ (Tc5.setTop (mkF m 228 #[.val (.long q1), .second, .val (.long q2), .second, .val (.long q3), .second, .val (.long q4), .second, .val (.long q5), .second, .val (.int p6), .val (.long q1), .second, .val (.long x2), .second, .val (.long x3), .second, .val (.long x4), .second, .val (.long x5), .second, .val (.int nn), .val (.ref b5), .val (.int e3)] [(.int (lcmpW x4 x3))]))
                        suffices hj228_18 : Go p.tables e below (own_Fin s below room_1.cells room_1.slots (Q0 Z q1 q2 q3 q4 q5 p6 h0 n0)) (Tc5.setTop (mkF m 234 #[.val (.long q1), .second, .val (.long q2), .second, .val (.long q3), .second, .val (.long q4), .second, .val (.long q5), .second, .val (.int p6), .val (.long q1), .second, .val (.long x2), .second, .val (.long x3), .second, .val (.long x4), .second, .val (.long x5), .second, .val (.int nn), .val (.ref b5), .val (.int (if x4 = x3 then e3 else (e3 + (1 : Int32))))] [])) by
                          by_cases hc228_18 : x4 = x3
                          · refine Go.st (fun U hr => XS.ifYes Xc5.here hx rfl (pc0 := 228) (pc' := 234) rfl (hb hby at_228) rfl ((if0 _ _).trans (teq ((lw_eq x4 x3).2 hc228_18)).1) (by decide) (by decide) hr) ?_
                            show Go p.tables e below _ (Tc5.setTop (mkF m 234 #[.val (.long q1), .second, .val (.long q2), .second, .val (.long q3), .second, .val (.long q4), .second, .val (.long q5), .second, .val (.int p6), .val (.long q1), .second, .val (.long x2), .second, .val (.long x3), .second, .val (.long x4), .second, .val (.long x5), .second, .val (.int nn), .val (.ref b5), .val (.int e3)] []))
                            simpa only [if_pos hc228_18] using hj228_18
                          · refine Go.st (fun U hr => XS.ifNo Xc5.here hx rfl (hb hby at_228) rfl ((if0 _ _).trans (feq (fun q => hc228_18 ((lw_eq x4 x3).1 q))).1) hr) ?_
                            show Go p.tables e below _ (Tc5.setTop (mkF m 231 #[.val (.long q1), .second, .val (.long q2), .second, .val (.long q3), .second, .val (.long q4), .second, .val (.long q5), .second, .val (.int p6), .val (.long q1), .second, .val (.long x2), .second, .val (.long x3), .second, .val (.long x4), .second, .val (.long x5), .second, .val (.int nn), .val (.ref b5), .val (.int e3)] []))
                            refine Go.st (fun U hr => XS.iinc Xc5.here hx rfl (hb hby at_231) rfl (l' := #[.val (.long q1), .second, .val (.long q2), .second, .val (.long q3), .second, .val (.long q4), .second, .val (.long q5), .second, .val (.int p6), .val (.long q1), .second, .val (.long x2), .second, .val (.long x3), .second, .val (.long x4), .second, .val (.long x5), .second, .val (.int nn), .val (.ref b5), .val (.int (e3 + (1 : Int32)))]) rfl hr) ?_
                            show Go p.tables e below _ (Tc5.setTop (mkF m 234 #[.val (.long q1), .second, .val (.long q2), .second, .val (.long q3), .second, .val (.long q4), .second, .val (.long q5), .second, .val (.int p6), .val (.long q1), .second, .val (.long x2), .second, .val (.long x3), .second, .val (.long x4), .second, .val (.long x5), .second, .val (.int nn), .val (.ref b5), .val (.int (e3 + (1 : Int32)))] []))
                            simpa only [if_neg hc228_18] using hj228_18
                        simpa only [if_neg hc220_17] using hj220_17
                    simpa only [if_neg hc212_16] using hj212_16
                simpa only [if_neg hc204_15] using hj204_15
            generalize h_e4 : (if nn < (4 : Int32) then e3 else (if x4 = q1 then e3 else (if x4 = x2 then e3 else (if x4 = x3 then e3 else (e3 + (1 : Int32)))))) = e4
            refine Go.st (fun U hr => XS.iload Xc5.here hx rfl (hb hby at_234) rfl hr) ?_
            show Go p.tables e below _ (Tc5.setTop (mkF m 236 #[.val (.long q1), .second, .val (.long q2), .second, .val (.long q3), .second, .val (.long q4), .second, .val (.long q5), .second, .val (.int p6), .val (.long q1), .second, .val (.long x2), .second, .val (.long x3), .second, .val (.long x4), .second, .val (.long x5), .second, .val (.int nn), .val (.ref b5), .val (.int e4)] [(.int nn)]))
            refine Go.st (fun U hr => XS.iconst Xc5.here hx rfl (hb hby at_236) hr) ?_
            show Go p.tables e below _ (Tc5.setTop (mkF m 237 #[.val (.long q1), .second, .val (.long q2), .second, .val (.long q3), .second, .val (.long q4), .second, .val (.long q5), .second, .val (.int p6), .val (.long q1), .second, .val (.long x2), .second, .val (.long x3), .second, .val (.long x4), .second, .val (.long x5), .second, .val (.int nn), .val (.ref b5), .val (.int e4)] [(.int (5 : Int32)), (.int nn)]))
            suffices hj237_19 : Go p.tables e below (own_Fin s below room_1.cells room_1.slots (Q0 Z q1 q2 q3 q4 q5 p6 h0 n0)) (Tc5.setTop (mkF m 275 #[.val (.long q1), .second, .val (.long q2), .second, .val (.long q3), .second, .val (.long q4), .second, .val (.long q5), .second, .val (.int p6), .val (.long q1), .second, .val (.long x2), .second, .val (.long x3), .second, .val (.long x4), .second, .val (.long x5), .second, .val (.int nn), .val (.ref b5), .val (.int (if nn < (5 : Int32) then e4 else (if x5 = q1 then e4 else (if x5 = x2 then e4 else (if x5 = x3 then e4 else (if x5 = x4 then e4 else (e4 + (1 : Int32))))))))] [])) by
              by_cases hc237_19 : nn < (5 : Int32)
              · refine Go.st (fun U hr => XS.icmpYes Xc5.here hx rfl (pc0 := 237) (pc' := 275) rfl (hb hby at_237) rfl (tlt hc237_19).1 (by decide) (by decide) hr) ?_
                show Go p.tables e below _ (Tc5.setTop (mkF m 275 #[.val (.long q1), .second, .val (.long q2), .second, .val (.long q3), .second, .val (.long q4), .second, .val (.long q5), .second, .val (.int p6), .val (.long q1), .second, .val (.long x2), .second, .val (.long x3), .second, .val (.long x4), .second, .val (.long x5), .second, .val (.int nn), .val (.ref b5), .val (.int e4)] []))
                simpa only [if_pos hc237_19] using hj237_19
              · refine Go.st (fun U hr => XS.icmpNo Xc5.here hx rfl (hb hby at_237) rfl (flt hc237_19).1 hr) ?_
                show Go p.tables e below _ (Tc5.setTop (mkF m 240 #[.val (.long q1), .second, .val (.long q2), .second, .val (.long q3), .second, .val (.long q4), .second, .val (.long q5), .second, .val (.int p6), .val (.long q1), .second, .val (.long x2), .second, .val (.long x3), .second, .val (.long x4), .second, .val (.long x5), .second, .val (.int nn), .val (.ref b5), .val (.int e4)] []))
                refine Go.st (fun U hr => XS.lload Xc5.here hx rfl (hb hby at_240) rfl hr) ?_
                show Go p.tables e below _ (Tc5.setTop (mkF m 242 #[.val (.long q1), .second, .val (.long q2), .second, .val (.long q3), .second, .val (.long q4), .second, .val (.long q5), .second, .val (.int p6), .val (.long q1), .second, .val (.long x2), .second, .val (.long x3), .second, .val (.long x4), .second, .val (.long x5), .second, .val (.int nn), .val (.ref b5), .val (.int e4)] [(.long x5)]))
                refine Go.st (fun U hr => XS.lload Xc5.here hx rfl (hb hby at_242) rfl hr) ?_
                show Go p.tables e below _ (Tc5.setTop (mkF m 244 #[.val (.long q1), .second, .val (.long q2), .second, .val (.long q3), .second, .val (.long q4), .second, .val (.long q5), .second, .val (.int p6), .val (.long q1), .second, .val (.long x2), .second, .val (.long x3), .second, .val (.long x4), .second, .val (.long x5), .second, .val (.int nn), .val (.ref b5), .val (.int e4)] [(.long q1), (.long x5)]))
                refine Go.st (fun U hr => XS.lcmp Xc5.here hx rfl (hb hby at_244) rfl hr) ?_
                show Go p.tables e below _ (Tc5.setTop (mkF m 245 #[.val (.long q1), .second, .val (.long q2), .second, .val (.long q3), .second, .val (.long q4), .second, .val (.long q5), .second, .val (.int p6), .val (.long q1), .second, .val (.long x2), .second, .val (.long x3), .second, .val (.long x4), .second, .val (.long x5), .second, .val (.int nn), .val (.ref b5), .val (.int e4)] [(.int (lcmpW x5 q1))]))
                suffices hj245_20 : Go p.tables e below (own_Fin s below room_1.cells room_1.slots (Q0 Z q1 q2 q3 q4 q5 p6 h0 n0)) (Tc5.setTop (mkF m 275 #[.val (.long q1), .second, .val (.long q2), .second, .val (.long q3), .second, .val (.long q4), .second, .val (.long q5), .second, .val (.int p6), .val (.long q1), .second, .val (.long x2), .second, .val (.long x3), .second, .val (.long x4), .second, .val (.long x5), .second, .val (.int nn), .val (.ref b5), .val (.int (if x5 = q1 then e4 else (if x5 = x2 then e4 else (if x5 = x3 then e4 else (if x5 = x4 then e4 else (e4 + (1 : Int32)))))))] [])) by
                  by_cases hc245_20 : x5 = q1
                  · refine Go.st (fun U hr => XS.ifYes Xc5.here hx rfl (pc0 := 245) (pc' := 275) rfl (hb hby at_245) rfl ((if0 _ _).trans (teq ((lw_eq x5 q1).2 hc245_20)).1) (by decide) (by decide) hr) ?_
                    show Go p.tables e below _ (Tc5.setTop (mkF m 275 #[.val (.long q1), .second, .val (.long q2), .second, .val (.long q3), .second, .val (.long q4), .second, .val (.long q5), .second, .val (.int p6), .val (.long q1), .second, .val (.long x2), .second, .val (.long x3), .second, .val (.long x4), .second, .val (.long x5), .second, .val (.int nn), .val (.ref b5), .val (.int e4)] []))
                    simpa only [if_pos hc245_20] using hj245_20
                  · refine Go.st (fun U hr => XS.ifNo Xc5.here hx rfl (hb hby at_245) rfl ((if0 _ _).trans (feq (fun q => hc245_20 ((lw_eq x5 q1).1 q))).1) hr) ?_
                    show Go p.tables e below _ (Tc5.setTop (mkF m 248 #[.val (.long q1), .second, .val (.long q2), .second, .val (.long q3), .second, .val (.long q4), .second, .val (.long q5), .second, .val (.int p6), .val (.long q1), .second, .val (.long x2), .second, .val (.long x3), .second, .val (.long x4), .second, .val (.long x5), .second, .val (.int nn), .val (.ref b5), .val (.int e4)] []))
                    refine Go.st (fun U hr => XS.lload Xc5.here hx rfl (hb hby at_248) rfl hr) ?_
                    show Go p.tables e below _ (Tc5.setTop (mkF m 250 #[.val (.long q1), .second, .val (.long q2), .second, .val (.long q3), .second, .val (.long q4), .second, .val (.long q5), .second, .val (.int p6), .val (.long q1), .second, .val (.long x2), .second, .val (.long x3), .second, .val (.long x4), .second, .val (.long x5), .second, .val (.int nn), .val (.ref b5), .val (.int e4)] [(.long x5)]))
                    refine Go.st (fun U hr => XS.lload Xc5.here hx rfl (hb hby at_250) rfl hr) ?_
                    show Go p.tables e below _ (Tc5.setTop (mkF m 252 #[.val (.long q1), .second, .val (.long q2), .second, .val (.long q3), .second, .val (.long q4), .second, .val (.long q5), .second, .val (.int p6), .val (.long q1), .second, .val (.long x2), .second, .val (.long x3), .second, .val (.long x4), .second, .val (.long x5), .second, .val (.int nn), .val (.ref b5), .val (.int e4)] [(.long x2), (.long x5)]))
                    refine Go.st (fun U hr => XS.lcmp Xc5.here hx rfl (hb hby at_252) rfl hr) ?_
                    show Go p.tables e below _ (Tc5.setTop (mkF m 253 #[.val (.long q1), .second, .val (.long q2), .second, .val (.long q3), .second, .val (.long q4), .second, .val (.long q5), .second, .val (.int p6), .val (.long q1), .second, .val (.long x2), .second, .val (.long x3), .second, .val (.long x4), .second, .val (.long x5), .second, .val (.int nn), .val (.ref b5), .val (.int e4)] [(.int (lcmpW x5 x2))]))
                    suffices hj253_21 : Go p.tables e below (own_Fin s below room_1.cells room_1.slots (Q0 Z q1 q2 q3 q4 q5 p6 h0 n0)) (Tc5.setTop (mkF m 275 #[.val (.long q1), .second, .val (.long q2), .second, .val (.long q3), .second, .val (.long q4), .second, .val (.long q5), .second, .val (.int p6), .val (.long q1), .second, .val (.long x2), .second, .val (.long x3), .second, .val (.long x4), .second, .val (.long x5), .second, .val (.int nn), .val (.ref b5), .val (.int (if x5 = x2 then e4 else (if x5 = x3 then e4 else (if x5 = x4 then e4 else (e4 + (1 : Int32))))))] [])) by
                      by_cases hc253_21 : x5 = x2
                      · refine Go.st (fun U hr => XS.ifYes Xc5.here hx rfl (pc0 := 253) (pc' := 275) rfl (hb hby at_253) rfl ((if0 _ _).trans (teq ((lw_eq x5 x2).2 hc253_21)).1) (by decide) (by decide) hr) ?_
                        show Go p.tables e below _ (Tc5.setTop (mkF m 275 #[.val (.long q1), .second, .val (.long q2), .second, .val (.long q3), .second, .val (.long q4), .second, .val (.long q5), .second, .val (.int p6), .val (.long q1), .second, .val (.long x2), .second, .val (.long x3), .second, .val (.long x4), .second, .val (.long x5), .second, .val (.int nn), .val (.ref b5), .val (.int e4)] []))
                        simpa only [if_pos hc253_21] using hj253_21
                      · refine Go.st (fun U hr => XS.ifNo Xc5.here hx rfl (hb hby at_253) rfl ((if0 _ _).trans (feq (fun q => hc253_21 ((lw_eq x5 x2).1 q))).1) hr) ?_
                        show Go p.tables e below _ (Tc5.setTop (mkF m 256 #[.val (.long q1), .second, .val (.long q2), .second, .val (.long q3), .second, .val (.long q4), .second, .val (.long q5), .second, .val (.int p6), .val (.long q1), .second, .val (.long x2), .second, .val (.long x3), .second, .val (.long x4), .second, .val (.long x5), .second, .val (.int nn), .val (.ref b5), .val (.int e4)] []))
                        refine Go.st (fun U hr => XS.lload Xc5.here hx rfl (hb hby at_256) rfl hr) ?_
                        show Go p.tables e below _ (Tc5.setTop (mkF m 258 #[.val (.long q1), .second, .val (.long q2), .second, .val (.long q3), .second, .val (.long q4), .second, .val (.long q5), .second, .val (.int p6), .val (.long q1), .second, .val (.long x2), .second, .val (.long x3), .second, .val (.long x4), .second, .val (.long x5), .second, .val (.int nn), .val (.ref b5), .val (.int e4)] [(.long x5)]))
                        refine Go.st (fun U hr => XS.lload Xc5.here hx rfl (hb hby at_258) rfl hr) ?_
                        show Go p.tables e below _ (Tc5.setTop (mkF m 260 #[.val (.long q1), .second, .val (.long q2), .second, .val (.long q3), .second, .val (.long q4), .second, .val (.long q5), .second, .val (.int p6), .val (.long q1), .second, .val (.long x2), .second, .val (.long x3), .second, .val (.long x4), .second, .val (.long x5), .second, .val (.int nn), .val (.ref b5), .val (.int e4)] [(.long x3), (.long x5)]))
                        refine Go.st (fun U hr => XS.lcmp Xc5.here hx rfl (hb hby at_260) rfl hr) ?_
                        show Go p.tables e below _ (Tc5.setTop (mkF m 261 #[.val (.long q1), .second, .val (.long q2), .second, .val (.long q3), .second, .val (.long q4), .second, .val (.long q5), .second, .val (.int p6), .val (.long q1), .second, .val (.long x2), .second, .val (.long x3), .second, .val (.long x4), .second, .val (.long x5), .second, .val (.int nn), .val (.ref b5), .val (.int e4)] [(.int (lcmpW x5 x3))]))
                        suffices hj261_22 : Go p.tables e below (own_Fin s below room_1.cells room_1.slots (Q0 Z q1 q2 q3 q4 q5 p6 h0 n0)) (Tc5.setTop (mkF m 275 #[.val (.long q1), .second, .val (.long q2), .second, .val (.long q3), .second, .val (.long q4), .second, .val (.long q5), .second, .val (.int p6), .val (.long q1), .second, .val (.long x2), .second, .val (.long x3), .second, .val (.long x4), .second, .val (.long x5), .second, .val (.int nn), .val (.ref b5), .val (.int (if x5 = x3 then e4 else (if x5 = x4 then e4 else (e4 + (1 : Int32)))))] [])) by
                          by_cases hc261_22 : x5 = x3
                          · refine Go.st (fun U hr => XS.ifYes Xc5.here hx rfl (pc0 := 261) (pc' := 275) rfl (hb hby at_261) rfl ((if0 _ _).trans (teq ((lw_eq x5 x3).2 hc261_22)).1) (by decide) (by decide) hr) ?_
                            show Go p.tables e below _ (Tc5.setTop (mkF m 275 #[.val (.long q1), .second, .val (.long q2), .second, .val (.long q3), .second, .val (.long q4), .second, .val (.long q5), .second, .val (.int p6), .val (.long q1), .second, .val (.long x2), .second, .val (.long x3), .second, .val (.long x4), .second, .val (.long x5), .second, .val (.int nn), .val (.ref b5), .val (.int e4)] []))
                            simpa only [if_pos hc261_22] using hj261_22
                          · refine Go.st (fun U hr => XS.ifNo Xc5.here hx rfl (hb hby at_261) rfl ((if0 _ _).trans (feq (fun q => hc261_22 ((lw_eq x5 x3).1 q))).1) hr) ?_
                            show Go p.tables e below _ (Tc5.setTop (mkF m 264 #[.val (.long q1), .second, .val (.long q2), .second, .val (.long q3), .second, .val (.long q4), .second, .val (.long q5), .second, .val (.int p6), .val (.long q1), .second, .val (.long x2), .second, .val (.long x3), .second, .val (.long x4), .second, .val (.long x5), .second, .val (.int nn), .val (.ref b5), .val (.int e4)] []))
                            refine Go.st (fun U hr => XS.lload Xc5.here hx rfl (hb hby at_264) rfl hr) ?_
                            show Go p.tables e below _ (Tc5.setTop (mkF m 266 #[.val (.long q1), .second, .val (.long q2), .second, .val (.long q3), .second, .val (.long q4), .second, .val (.long q5), .second, .val (.int p6), .val (.long q1), .second, .val (.long x2), .second, .val (.long x3), .second, .val (.long x4), .second, .val (.long x5), .second, .val (.int nn), .val (.ref b5), .val (.int e4)] [(.long x5)]))
                            refine Go.st (fun U hr => XS.lload Xc5.here hx rfl (hb hby at_266) rfl hr) ?_
                            show Go p.tables e below _ (Tc5.setTop (mkF m 268 #[.val (.long q1), .second, .val (.long q2), .second, .val (.long q3), .second, .val (.long q4), .second, .val (.long q5), .second, .val (.int p6), .val (.long q1), .second, .val (.long x2), .second, .val (.long x3), .second, .val (.long x4), .second, .val (.long x5), .second, .val (.int nn), .val (.ref b5), .val (.int e4)] [(.long x4), (.long x5)]))
                            refine Go.st (fun U hr => XS.lcmp Xc5.here hx rfl (hb hby at_268) rfl hr) ?_
                            show Go p.tables e below _ (Tc5.setTop (mkF m 269 #[.val (.long q1), .second, .val (.long q2), .second, .val (.long q3), .second, .val (.long q4), .second, .val (.long q5), .second, .val (.int p6), .val (.long q1), .second, .val (.long x2), .second, .val (.long x3), .second, .val (.long x4), .second, .val (.long x5), .second, .val (.int nn), .val (.ref b5), .val (.int e4)] [(.int (lcmpW x5 x4))]))
                            suffices hj269_23 : Go p.tables e below (own_Fin s below room_1.cells room_1.slots (Q0 Z q1 q2 q3 q4 q5 p6 h0 n0)) (Tc5.setTop (mkF m 275 #[.val (.long q1), .second, .val (.long q2), .second, .val (.long q3), .second, .val (.long q4), .second, .val (.long q5), .second, .val (.int p6), .val (.long q1), .second, .val (.long x2), .second, .val (.long x3), .second, .val (.long x4), .second, .val (.long x5), .second, .val (.int nn), .val (.ref b5), .val (.int (if x5 = x4 then e4 else (e4 + (1 : Int32))))] [])) by
                              by_cases hc269_23 : x5 = x4
                              · refine Go.st (fun U hr => XS.ifYes Xc5.here hx rfl (pc0 := 269) (pc' := 275) rfl (hb hby at_269) rfl ((if0 _ _).trans (teq ((lw_eq x5 x4).2 hc269_23)).1) (by decide) (by decide) hr) ?_
                                show Go p.tables e below _ (Tc5.setTop (mkF m 275 #[.val (.long q1), .second, .val (.long q2), .second, .val (.long q3), .second, .val (.long q4), .second, .val (.long q5), .second, .val (.int p6), .val (.long q1), .second, .val (.long x2), .second, .val (.long x3), .second, .val (.long x4), .second, .val (.long x5), .second, .val (.int nn), .val (.ref b5), .val (.int e4)] []))
                                simpa only [if_pos hc269_23] using hj269_23
                              · refine Go.st (fun U hr => XS.ifNo Xc5.here hx rfl (hb hby at_269) rfl ((if0 _ _).trans (feq (fun q => hc269_23 ((lw_eq x5 x4).1 q))).1) hr) ?_
                                show Go p.tables e below _ (Tc5.setTop (mkF m 272 #[.val (.long q1), .second, .val (.long q2), .second, .val (.long q3), .second, .val (.long q4), .second, .val (.long q5), .second, .val (.int p6), .val (.long q1), .second, .val (.long x2), .second, .val (.long x3), .second, .val (.long x4), .second, .val (.long x5), .second, .val (.int nn), .val (.ref b5), .val (.int e4)] []))
                                refine Go.st (fun U hr => XS.iinc Xc5.here hx rfl (hb hby at_272) rfl (l' := #[.val (.long q1), .second, .val (.long q2), .second, .val (.long q3), .second, .val (.long q4), .second, .val (.long q5), .second, .val (.int p6), .val (.long q1), .second, .val (.long x2), .second, .val (.long x3), .second, .val (.long x4), .second, .val (.long x5), .second, .val (.int nn), .val (.ref b5), .val (.int (e4 + (1 : Int32)))]) rfl hr) ?_
                                show Go p.tables e below _ (Tc5.setTop (mkF m 275 #[.val (.long q1), .second, .val (.long q2), .second, .val (.long q3), .second, .val (.long q4), .second, .val (.long q5), .second, .val (.int p6), .val (.long q1), .second, .val (.long x2), .second, .val (.long x3), .second, .val (.long x4), .second, .val (.long x5), .second, .val (.int nn), .val (.ref b5), .val (.int (e4 + (1 : Int32)))] []))
                                simpa only [if_neg hc269_23] using hj269_23
                            simpa only [if_neg hc261_22] using hj261_22
                        simpa only [if_neg hc253_21] using hj253_21
                    simpa only [if_neg hc245_20] using hj245_20
                simpa only [if_neg hc237_19] using hj237_19
            generalize h_e5 : (if nn < (5 : Int32) then e4 else (if x5 = q1 then e4 else (if x5 = x2 then e4 else (if x5 = x3 then e4 else (if x5 = x4 then e4 else (e4 + (1 : Int32))))))) = e5
            refine Go.st (fun U hr => XS.aload Xc5.here hx rfl (hb hby at_275) rfl rfl hr) ?_
            show Go p.tables e below _ (Tc5.setTop (mkF m 277 #[.val (.long q1), .second, .val (.long q2), .second, .val (.long q3), .second, .val (.long q4), .second, .val (.long q5), .second, .val (.int p6), .val (.long q1), .second, .val (.long x2), .second, .val (.long x3), .second, .val (.long x4), .second, .val (.long x5), .second, .val (.int nn), .val (.ref b5), .val (.int e5)] [(.ref b5)]))
            obtain ⟨cq24, kq24, q24a, q24b, q24c⟩ := isOf hZ ec5 (own_DBE DBc5)
            obtain ⟨_, _, ⟨T24, L24, k24, n24⟩, -, X24, ⟨Lc24, hQ24, l24, y24, z24⟩, st24⟩ := Xc5.virtualBack hx (y := (⟨"com/example/rigorous_layout/rigorouslayout/DistinctCount", "count", "()D"⟩ : MethodName)) (z := (⟨"com/example/rigorous_layout/rigorouslayout/DistinctCount", "count", "()D"⟩ : MethodName)) hown (mvT hZ (hw _ (List.mem_of_getElem? (i := 12) rfl))) (mvT hZ (hw _ (List.mem_of_getElem? (i := 13) rfl))) (notFace_of_selects (args := #[]) (mvT hZ (hw _ (List.mem_of_getElem? (i := 15) rfl)))) (mvT hZ (hw _ (List.mem_of_getElem? (i := 15) rfl))) (mvT hZ (hw _ (List.mem_of_getElem? (i := 14) rfl))) (by decide) (backOf (W := 0) (rm3 l Z a0 hw [] b5 Sc5 kc5 hc5 n0 zc5 DBc5) hZ (hw _ (List.mem_of_getElem? (i := 16) rfl)) (hw _ (List.mem_of_getElem? (i := 2) rfl)) (by decide) (by decide)) q24a q24c (g := (mkF m 277 #[.val (.long q1), .second, .val (.long q2), .second, .val (.long q3), .second, .val (.long q4), .second, .val (.long q5), .second, .val (.int p6), .val (.long q1), .second, .val (.long x2), .second, .val (.long x3), .second, .val (.long x4), .second, .val (.long x5), .second, .val (.int nn), .val (.ref b5), .val (.int e5)] [(.ref b5)])) rfl (by rw [hml]; rfl) (Steps.refl _) (argsL := []) (rest := []) (lenOf pd_7 rfl) rfl (by show 2 * 0 + _ ≤ _; exact Nat.le_of_eq rfl) (hb hby at_277) (fun _ _ => ⟨rfl, ec5, (by decide : 7 + 0 ≤ _), (by decide : 47 + 0 ≤ _)⟩)
            dsimp only [Pt.U, Pt.locs, Pt.cells, Pt.slots] at X24 l24 y24 z24 st24 hQ24
            subst l24 y24 z24
            obtain ⟨sz24, rfl, Nq24, ee24, hsz24⟩ := hQ24
            have N24 := Fr.app Nc5 Nq24
            refine Go.tr st24 ?_
            show Go p.tables e below _ (T24.setTop (mkF m 280 #[.val (.long q1), .second, .val (.long q2), .second, .val (.long q3), .second, .val (.long q4), .second, .val (.long q5), .second, .val (.int p6), .val (.long q1), .second, .val (.long x2), .second, .val (.long x3), .second, .val (.long x4), .second, .val (.long x5), .second, .val (.int nn), .val (.ref b5), .val (.int e5)] [(.double (FP.i2d sz24))]))
            refine Go.st (fun U hr => XS.iload X24.here hx rfl (hb hby at_280) rfl hr) ?_
            show Go p.tables e below _ (T24.setTop (mkF m 282 #[.val (.long q1), .second, .val (.long q2), .second, .val (.long q3), .second, .val (.long q4), .second, .val (.long q5), .second, .val (.int p6), .val (.long q1), .second, .val (.long x2), .second, .val (.long x3), .second, .val (.long x4), .second, .val (.long x5), .second, .val (.int nn), .val (.ref b5), .val (.int e5)] [(.int e5), (.double (FP.i2d sz24))]))
            refine Go.st (fun U hr => XS.i2dS X24.here hx rfl (hb hby at_282) rfl rfl hr) ?_
            show Go p.tables e below _ (T24.setTop (mkF m 283 #[.val (.long q1), .second, .val (.long q2), .second, .val (.long q3), .second, .val (.long q4), .second, .val (.long q5), .second, .val (.int p6), .val (.long q1), .second, .val (.long x2), .second, .val (.long x3), .second, .val (.long x4), .second, .val (.long x5), .second, .val (.int nn), .val (.ref b5), .val (.int e5)] [(.double (FP.i2d e5)), (.double (FP.i2d sz24))]))
            refine Go.st (fun U hr => XS.dcmpS X24.here hx rfl (hb hby at_283) rfl rfl hr) ?_
            show Go p.tables e below _ (T24.setTop (mkF m 284 #[.val (.long q1), .second, .val (.long q2), .second, .val (.long q3), .second, .val (.long q4), .second, .val (.long q5), .second, .val (.int p6), .val (.long q1), .second, .val (.long x2), .second, .val (.long x3), .second, .val (.long x4), .second, .val (.long x5), .second, .val (.int nn), .val (.ref b5), .val (.int e5)] [(.int (cmpValue (FP.dcmp (FP.i2d sz24) (FP.i2d e5)) .l))]))
            have hlt : ∀ j : Int32, nn < j ↔ ¬ j.toInt ≤ nn.toInt := fun j => by rw [own_lt32]; omega
            have hrk : ∀ x y : Int64, own_rank x = own_rank y ↔ x = y := fun x y => ⟨own_rank_inj, fun q => q ▸ rfl⟩
            have hfin : e5.toInt = kc5 := by
              have i1 : (1 : Int32).toInt = 1 := by decide
              have i2 : (2 : Int32).toInt = 2 := by decide
              have i3 : (3 : Int32).toInt = 3 := by decide
              have i4 : (4 : Int32).toInt = 4 := by decide
              have i5 : (5 : Int32).toInt = 5 := by decide
              have inc : ∀ a : Int32, 0 ≤ a.toInt → a.toInt ≤ 10 → (a + 1).toInt = a.toInt + 1 := fun a p1 p2 => by
                have h1 := c_iadd a 1
                rw [i1] at h1
                have r1 := rng32 (a + 1)
                omega
              have f1 : e1.toInt = kc1 := by
                rw [← h_e1]
                by_cases c : nn < 1
                · rw [if_pos c, hkb1 (fun q => by rw [hlt, i1] at c; exact c q.1)]; rfl
                · rw [if_neg c, hka1 ⟨by rw [hlt, i1] at c; omega, fun q => q⟩]; rfl
              have f2 : e2.toInt = kc2 := by
                rw [← h_e2]
                by_cases c : nn < 2
                · rw [if_pos c, hkb2 (fun q => by rw [hlt, i2] at c; exact c q.1)]; exact f1
                · rw [if_neg c]
                  have c' : 2 ≤ nn.toInt := by rw [hlt, i2] at c; omega
                  have m : Sc1 (own_rank x2) ↔ x2 = q1 := by
                    rw [hS1, hrk]
                    exact ⟨fun q => q.elim False.elim (·.2), fun q => Or.inr ⟨by omega, q⟩⟩
                  by_cases d : x2 = q1
                  · rw [if_pos d, hkb2 (fun q => q.2 (m.mpr d))]; exact f1
                  · rw [if_neg d, hka2 ⟨c', fun q => d (m.mp q)⟩, inc _ (by omega) (by omega)]; omega
              have f3 : e3.toInt = kc3 := by
                rw [← h_e3]
                by_cases c : nn < 3
                · rw [if_pos c, hkb3 (fun q => by rw [hlt, i3] at c; exact c q.1)]; exact f2
                · rw [if_neg c]
                  have c' : 3 ≤ nn.toInt := by rw [hlt, i3] at c; omega
                  have m : Sc2 (own_rank x3) ↔ (x3 = q1 ∨ x3 = x2) := by
                    rw [hS2, hS1, hrk, hrk]
                    constructor
                    · rintro ((q | q) | q)
                      · exact q.elim
                      · exact Or.inl q.2
                      · exact Or.inr q.2
                    · rintro (q | q)
                      · exact Or.inl (Or.inr ⟨by omega, q⟩)
                      · exact Or.inr ⟨by omega, q⟩
                  by_cases d : x3 = q1
                  · rw [if_pos d, hkb3 (fun q => q.2 (m.mpr (Or.inl d)))]; exact f2
                  · rw [if_neg d]
                    by_cases d2 : x3 = x2
                    · rw [if_pos d2, hkb3 (fun q => q.2 (m.mpr (Or.inr d2)))]; exact f2
                    · rw [if_neg d2, hka3 ⟨c', fun q => (m.mp q).elim d d2⟩, inc _ (by omega) (by omega)]; omega
              have f4 : e4.toInt = kc4 := by
                rw [← h_e4]
                by_cases c : nn < 4
                · rw [if_pos c, hkb4 (fun q => by rw [hlt, i4] at c; exact c q.1)]; exact f3
                · rw [if_neg c]
                  have c' : 4 ≤ nn.toInt := by rw [hlt, i4] at c; omega
                  have m : Sc3 (own_rank x4) ↔ (x4 = q1 ∨ x4 = x2 ∨ x4 = x3) := by
                    rw [hS3, hS2, hS1, hrk, hrk, hrk]
                    constructor
                    · rintro (((q | q) | q) | q)
                      · exact q.elim
                      · exact Or.inl q.2
                      · exact Or.inr (Or.inl q.2)
                      · exact Or.inr (Or.inr q.2)
                    · rintro (q | q | q)
                      · exact Or.inl (Or.inl (Or.inr ⟨by omega, q⟩))
                      · exact Or.inl (Or.inr ⟨by omega, q⟩)
                      · exact Or.inr ⟨by omega, q⟩
                  by_cases d : x4 = q1
                  · rw [if_pos d, hkb4 (fun q => q.2 (m.mpr (Or.inl d)))]; exact f3
                  · rw [if_neg d]
                    by_cases d2 : x4 = x2
                    · rw [if_pos d2, hkb4 (fun q => q.2 (m.mpr (Or.inr (Or.inl d2))))]; exact f3
                    · rw [if_neg d2]
                      by_cases d3 : x4 = x3
                      · rw [if_pos d3, hkb4 (fun q => q.2 (m.mpr (Or.inr (Or.inr d3))))]; exact f3
                      · rw [if_neg d3, hka4 ⟨c', fun q => (m.mp q).elim d fun q => q.elim d2 d3⟩, inc _ (by omega) (by omega)]; omega
              rw [← h_e5]
              by_cases c : nn < 5
              · rw [if_pos c, hkb5 (fun q => by rw [hlt, i5] at c; exact c q.1)]; exact f4
              · rw [if_neg c]
                have c' : 5 ≤ nn.toInt := by rw [hlt, i5] at c; omega
                have m : Sc4 (own_rank x5) ↔ (x5 = q1 ∨ x5 = x2 ∨ x5 = x3 ∨ x5 = x4) := by
                  rw [hS4, hS3, hS2, hS1, hrk, hrk, hrk, hrk]
                  constructor
                  · rintro ((((q | q) | q) | q) | q)
                    · exact q.elim
                    · exact Or.inl q.2
                    · exact Or.inr (Or.inl q.2)
                    · exact Or.inr (Or.inr (Or.inl q.2))
                    · exact Or.inr (Or.inr (Or.inr q.2))
                  · rintro (q | q | q | q)
                    · exact Or.inl (Or.inl (Or.inl (Or.inr ⟨by omega, q⟩)))
                    · exact Or.inl (Or.inl (Or.inr ⟨by omega, q⟩))
                    · exact Or.inl (Or.inr ⟨by omega, q⟩)
                    · exact Or.inr ⟨by omega, q⟩
                by_cases d : x5 = q1
                · rw [if_pos d, hkb5 (fun q => q.2 (m.mpr (Or.inl d)))]; exact f4
                · rw [if_neg d]
                  by_cases d2 : x5 = x2
                  · rw [if_pos d2, hkb5 (fun q => q.2 (m.mpr (Or.inr (Or.inl d2))))]; exact f4
                  · rw [if_neg d2]
                    by_cases d3 : x5 = x3
                    · rw [if_pos d3, hkb5 (fun q => q.2 (m.mpr (Or.inr (Or.inr (Or.inl d3)))))]; exact f4
                    · rw [if_neg d3]
                      by_cases d4 : x5 = x4
                      · rw [if_pos d4, hkb5 (fun q => q.2 (m.mpr (Or.inr (Or.inr (Or.inr d4)))))]; exact f4
                      · rw [if_neg d4, hka5 ⟨c', fun q => (m.mp q).elim d fun q => q.elim d2 fun q => q.elim d3 d4⟩, inc _ (by omega) (by omega)]; omega
            have heq : sz24 = e5 := Int32.toInt_inj.mp (by rw [hsz24, hfin])
            have hc284_25 : (cmpValue (FP.dcmp (FP.i2d sz24) (FP.i2d e5)) .l) = (0 : Int32) := by
              rw [heq, i2d_w, dcmpV_w (own_b53 e5) (own_b53 e5)]
              exact (lw_eq _ _).mpr rfl
            refine Go.st (fun U hr => XS.ifNo X24.here hx rfl (hb hby at_284) rfl ((if0 _ _).trans (teq hc284_25).2) hr) ?_
            show Go p.tables e below _ (T24.setTop (mkF m 287 #[.val (.long q1), .second, .val (.long q2), .second, .val (.long q3), .second, .val (.long q4), .second, .val (.long q5), .second, .val (.int p6), .val (.long q1), .second, .val (.long x2), .second, .val (.long x3), .second, .val (.long x4), .second, .val (.long x5), .second, .val (.int nn), .val (.ref b5), .val (.int e5)] []))
            refine Go.st (fun U hr => XS.iconst X24.here hx rfl (hb hby at_287) hr) ?_
            show Go p.tables e below _ (T24.setTop (mkF m 288 #[.val (.long q1), .second, .val (.long q2), .second, .val (.long q3), .second, .val (.long q4), .second, .val (.long q5), .second, .val (.int p6), .val (.long q1), .second, .val (.long x2), .second, .val (.long x3), .second, .val (.long x4), .second, .val (.long x5), .second, .val (.int nn), .val (.ref b5), .val (.int e5)] [(.int (1 : Int32))]))
            refine Go.st (fun U hr => XS.goto X24.here hx rfl (pc0 := 288) (pc' := 292) rfl (hb hby at_288) (by decide) (by decide) hr) ?_
            show Go p.tables e below _ (T24.setTop (mkF m 292 #[.val (.long q1), .second, .val (.long q2), .second, .val (.long q3), .second, .val (.long q4), .second, .val (.long q5), .second, .val (.int p6), .val (.long q1), .second, .val (.long x2), .second, .val (.long x3), .second, .val (.long x4), .second, .val (.long x5), .second, .val (.int nn), .val (.ref b5), .val (.int e5)] [(.int (1 : Int32))]))
            exact own_retN X24 hx Bd.notSynchronized (t := .boolean) Bd.returns (by simp) (hb hby at_292) ⟨rfl, N24⟩ (by decide) (by decide)
          refine Go.st (fun U hr => XS.iload Xc4.here hx rfl (hb hby at_134) rfl hr) ?_
          show Go p.tables e below _ (Tc4.setTop (mkF m 136 #[.val (.long q1), .second, .val (.long q2), .second, .val (.long q3), .second, .val (.long q4), .second, .val (.long q5), .second, .val (.int p6), .val (.long q1), .second, .val (.long x2), .second, .val (.long x3), .second, .val (.long x4), .second, .val (.long x5), .second, .val (.int nn), .val (.ref b5), .unset] [(.int nn)]))
          refine Go.st (fun U hr => XS.iconst Xc4.here hx rfl (hb hby at_136) hr) ?_
          show Go p.tables e below _ (Tc4.setTop (mkF m 137 #[.val (.long q1), .second, .val (.long q2), .second, .val (.long q3), .second, .val (.long q4), .second, .val (.long q5), .second, .val (.int p6), .val (.long q1), .second, .val (.long x2), .second, .val (.long x3), .second, .val (.long x4), .second, .val (.long x5), .second, .val (.int nn), .val (.ref b5), .unset] [(.int (5 : Int32)), (.int nn)]))
          by_cases hc134 : nn < (5 : Int32)
          · refine Go.st (fun U hr => XS.icmpYes Xc4.here hx rfl (pc0 := 137) (pc' := 147) rfl (hb hby at_137) rfl (tlt hc134).1 (by decide) (by decide) hr) ?_
            show Go p.tables e below _ (Tc4.setTop (mkF m 147 #[.val (.long q1), .second, .val (.long q2), .second, .val (.long q3), .second, .val (.long q4), .second, .val (.long q5), .second, .val (.int p6), .val (.long q1), .second, .val (.long x2), .second, .val (.long x3), .second, .val (.long x4), .second, .val (.long x5), .second, .val (.int nn), .val (.ref b5), .unset] []))
            have hq134 : ¬ 5 ≤ nn.toInt := by have q := hc134; rw [own_lt32, show (5 : Int32).toInt = 5 from by decide] at q; omega
            exact k147 _ _ _ Sc4 kc4 (Xc4.more (by decide) (by decide)) ec4 Nc4 zc4 DBc4 (by omega) (fun r => ⟨Or.inl, fun q => q.elim id (fun z => absurd z.1 hq134)⟩) (fun q => absurd q.1 hq134) (fun _ => rfl)
          · refine Go.st (fun U hr => XS.icmpNo Xc4.here hx rfl (hb hby at_137) rfl (flt hc134).1 hr) ?_
            show Go p.tables e below _ (Tc4.setTop (mkF m 140 #[.val (.long q1), .second, .val (.long q2), .second, .val (.long q3), .second, .val (.long q4), .second, .val (.long q5), .second, .val (.int p6), .val (.long q1), .second, .val (.long x2), .second, .val (.long x3), .second, .val (.long x4), .second, .val (.long x5), .second, .val (.int nn), .val (.ref b5), .unset] []))
            have hq134 : 5 ≤ nn.toInt := by have q := hc134; rw [own_lt32, show (5 : Int32).toInt = 5 from by decide] at q; omega
            refine Go.st (fun U hr => XS.aload Xc4.here hx rfl (hb hby at_140) rfl rfl hr) ?_
            show Go p.tables e below _ (Tc4.setTop (mkF m 142 #[.val (.long q1), .second, .val (.long q2), .second, .val (.long q3), .second, .val (.long q4), .second, .val (.long q5), .second, .val (.int p6), .val (.long q1), .second, .val (.long x2), .second, .val (.long x3), .second, .val (.long x4), .second, .val (.long x5), .second, .val (.int nn), .val (.ref b5), .unset] [(.ref b5)]))
            refine Go.st (fun U hr => XS.lload Xc4.here hx rfl (hb hby at_142) rfl hr) ?_
            show Go p.tables e below _ (Tc4.setTop (mkF m 144 #[.val (.long q1), .second, .val (.long q2), .second, .val (.long q3), .second, .val (.long q4), .second, .val (.long q5), .second, .val (.int p6), .val (.long q1), .second, .val (.long x2), .second, .val (.long x3), .second, .val (.long x4), .second, .val (.long x5), .second, .val (.int nn), .val (.ref b5), .unset] [(.long x5), (.ref b5)]))
            obtain ⟨cq26, kq26, q26a, q26b, q26c⟩ := isOf hZ ec4 (own_DBE DBc4)
            obtain ⟨_, _, ⟨T26, L26, k26, n26⟩, -, X26, ⟨Lc26, hQ26, l26, y26, z26⟩, st26⟩ := Xc4.virtualBack hx (y := (⟨"com/example/rigorous_layout/rigorouslayout/DistinctCount", "add", "(J)V"⟩ : MethodName)) (z := (⟨"com/example/rigorous_layout/rigorouslayout/DistinctCount", "add", "(J)V"⟩ : MethodName)) hown (mvT hZ (hw _ (List.mem_of_getElem? (i := 21) rfl))) (mvT hZ (hw _ (List.mem_of_getElem? (i := 22) rfl))) (notFace_of_selects (args := #[]) (mvT hZ (hw _ (List.mem_of_getElem? (i := 24) rfl)))) (mvT hZ (hw _ (List.mem_of_getElem? (i := 24) rfl))) (mvT hZ (hw _ (List.mem_of_getElem? (i := 23) rfl))) (by decide) (backOf (W := 0) (rm4 l Z a0 hw [] b5 x5 Sc4 kc4 hc4 n0 zc4 DBc4 gb5 (by omega)) hZ (hw _ (List.mem_of_getElem? (i := 25) rfl)) (hw _ (List.mem_of_getElem? (i := 2) rfl)) (by decide) (by decide)) q26a q26c (g := (mkF m 144 #[.val (.long q1), .second, .val (.long q2), .second, .val (.long q3), .second, .val (.long q4), .second, .val (.long q5), .second, .val (.int p6), .val (.long q1), .second, .val (.long x2), .second, .val (.long x3), .second, .val (.long x4), .second, .val (.long x5), .second, .val (.int nn), .val (.ref b5), .unset] [(.long x5), (.ref b5)])) rfl (by rw [hml]; rfl) (Steps.refl _) (argsL := [(.long x5)]) (rest := []) (lenOf pd_5 rfl) rfl (by show 2 * 0 + _ ≤ _; exact Nat.le_of_eq rfl) (hb hby at_144) (fun _ _ => ⟨rfl, ec4, (by decide : 6 + 1 ≤ _), (by decide : 39 + 8 ≤ _)⟩)
            dsimp only [Pt.U, Pt.locs, Pt.cells, Pt.slots] at X26 l26 y26 z26 st26 hQ26
            subst l26 y26 z26
            obtain ⟨rfl, Nq26, Sq26, Rq26⟩ := hQ26
            have N26 := Fr.app Nc4 Nq26
            refine Go.tr st26 ?_
            show Go p.tables e below _ (T26.setTop (mkF m 147 #[.val (.long q1), .second, .val (.long q2), .second, .val (.long q3), .second, .val (.long q4), .second, .val (.long q5), .second, .val (.int p6), .val (.long q1), .second, .val (.long x2), .second, .val (.long x3), .second, .val (.long x4), .second, .val (.long x5), .second, .val (.int nn), .val (.ref b5), .unset] []))
            have z27 := Nat.le_trans zc4 Sq26
            obtain ⟨kn26, hkn26, DB26⟩ := Rq26
            have hkle : kn26 ≤ 5 := by
              by_cases q : Sc4 (own_rank x5)
              · have := hkn26.1 q; omega
              · have := hkn26.2 q; omega
            exact k147 _ _ _ _ kn26 X26 rfl N26 z27 DB26 hkle (fun r => ⟨fun q => q.elim Or.inl (fun z => Or.inr ⟨hq134, z⟩), fun q => q.elim Or.inl (fun z => Or.inr z.2)⟩) (fun q => hkn26.2 q.2) (fun q => hkn26.1 (Classical.byContradiction fun z => q ⟨hq134, z⟩))
        refine Go.st (fun U hr => XS.iload Xc3.here hx rfl (hb hby at_121) rfl hr) ?_
        show Go p.tables e below _ (Tc3.setTop (mkF m 123 #[.val (.long q1), .second, .val (.long q2), .second, .val (.long q3), .second, .val (.long q4), .second, .val (.long q5), .second, .val (.int p6), .val (.long q1), .second, .val (.long x2), .second, .val (.long x3), .second, .val (.long x4), .second, .val (.long x5), .second, .val (.int nn), .val (.ref b5), .unset] [(.int nn)]))
        refine Go.st (fun U hr => XS.iconst Xc3.here hx rfl (hb hby at_123) hr) ?_
        show Go p.tables e below _ (Tc3.setTop (mkF m 124 #[.val (.long q1), .second, .val (.long q2), .second, .val (.long q3), .second, .val (.long q4), .second, .val (.long q5), .second, .val (.int p6), .val (.long q1), .second, .val (.long x2), .second, .val (.long x3), .second, .val (.long x4), .second, .val (.long x5), .second, .val (.int nn), .val (.ref b5), .unset] [(.int (4 : Int32)), (.int nn)]))
        by_cases hc121 : nn < (4 : Int32)
        · refine Go.st (fun U hr => XS.icmpYes Xc3.here hx rfl (pc0 := 124) (pc' := 134) rfl (hb hby at_124) rfl (tlt hc121).1 (by decide) (by decide) hr) ?_
          show Go p.tables e below _ (Tc3.setTop (mkF m 134 #[.val (.long q1), .second, .val (.long q2), .second, .val (.long q3), .second, .val (.long q4), .second, .val (.long q5), .second, .val (.int p6), .val (.long q1), .second, .val (.long x2), .second, .val (.long x3), .second, .val (.long x4), .second, .val (.long x5), .second, .val (.int nn), .val (.ref b5), .unset] []))
          have hq121 : ¬ 4 ≤ nn.toInt := by have q := hc121; rw [own_lt32, show (4 : Int32).toInt = 4 from by decide] at q; omega
          exact k134 _ _ _ Sc3 kc3 (Xc3.more (by decide) (by decide)) ec3 Nc3 zc3 DBc3 (by omega) (fun r => ⟨Or.inl, fun q => q.elim id (fun z => absurd z.1 hq121)⟩) (fun q => absurd q.1 hq121) (fun _ => rfl)
        · refine Go.st (fun U hr => XS.icmpNo Xc3.here hx rfl (hb hby at_124) rfl (flt hc121).1 hr) ?_
          show Go p.tables e below _ (Tc3.setTop (mkF m 127 #[.val (.long q1), .second, .val (.long q2), .second, .val (.long q3), .second, .val (.long q4), .second, .val (.long q5), .second, .val (.int p6), .val (.long q1), .second, .val (.long x2), .second, .val (.long x3), .second, .val (.long x4), .second, .val (.long x5), .second, .val (.int nn), .val (.ref b5), .unset] []))
          have hq121 : 4 ≤ nn.toInt := by have q := hc121; rw [own_lt32, show (4 : Int32).toInt = 4 from by decide] at q; omega
          refine Go.st (fun U hr => XS.aload Xc3.here hx rfl (hb hby at_127) rfl rfl hr) ?_
          show Go p.tables e below _ (Tc3.setTop (mkF m 129 #[.val (.long q1), .second, .val (.long q2), .second, .val (.long q3), .second, .val (.long q4), .second, .val (.long q5), .second, .val (.int p6), .val (.long q1), .second, .val (.long x2), .second, .val (.long x3), .second, .val (.long x4), .second, .val (.long x5), .second, .val (.int nn), .val (.ref b5), .unset] [(.ref b5)]))
          refine Go.st (fun U hr => XS.lload Xc3.here hx rfl (hb hby at_129) rfl hr) ?_
          show Go p.tables e below _ (Tc3.setTop (mkF m 131 #[.val (.long q1), .second, .val (.long q2), .second, .val (.long q3), .second, .val (.long q4), .second, .val (.long q5), .second, .val (.int p6), .val (.long q1), .second, .val (.long x2), .second, .val (.long x3), .second, .val (.long x4), .second, .val (.long x5), .second, .val (.int nn), .val (.ref b5), .unset] [(.long x4), (.ref b5)]))
          obtain ⟨cq28, kq28, q28a, q28b, q28c⟩ := isOf hZ ec3 (own_DBE DBc3)
          obtain ⟨_, _, ⟨T28, L28, k28, n28⟩, -, X28, ⟨Lc28, hQ28, l28, y28, z28⟩, st28⟩ := Xc3.virtualBack hx (y := (⟨"com/example/rigorous_layout/rigorouslayout/DistinctCount", "add", "(J)V"⟩ : MethodName)) (z := (⟨"com/example/rigorous_layout/rigorouslayout/DistinctCount", "add", "(J)V"⟩ : MethodName)) hown (mvT hZ (hw _ (List.mem_of_getElem? (i := 21) rfl))) (mvT hZ (hw _ (List.mem_of_getElem? (i := 22) rfl))) (notFace_of_selects (args := #[]) (mvT hZ (hw _ (List.mem_of_getElem? (i := 24) rfl)))) (mvT hZ (hw _ (List.mem_of_getElem? (i := 24) rfl))) (mvT hZ (hw _ (List.mem_of_getElem? (i := 23) rfl))) (by decide) (backOf (W := 0) (rm4 l Z a0 hw [] b5 x4 Sc3 kc3 hc3 n0 zc3 DBc3 gb5 (by omega)) hZ (hw _ (List.mem_of_getElem? (i := 25) rfl)) (hw _ (List.mem_of_getElem? (i := 2) rfl)) (by decide) (by decide)) q28a q28c (g := (mkF m 131 #[.val (.long q1), .second, .val (.long q2), .second, .val (.long q3), .second, .val (.long q4), .second, .val (.long q5), .second, .val (.int p6), .val (.long q1), .second, .val (.long x2), .second, .val (.long x3), .second, .val (.long x4), .second, .val (.long x5), .second, .val (.int nn), .val (.ref b5), .unset] [(.long x4), (.ref b5)])) rfl (by rw [hml]; rfl) (Steps.refl _) (argsL := [(.long x4)]) (rest := []) (lenOf pd_5 rfl) rfl (by show 2 * 0 + _ ≤ _; exact Nat.le_of_eq rfl) (hb hby at_131) (fun _ _ => ⟨rfl, ec3, (by decide : 5 + 1 ≤ _), (by decide : 31 + 8 ≤ _)⟩)
          dsimp only [Pt.U, Pt.locs, Pt.cells, Pt.slots] at X28 l28 y28 z28 st28 hQ28
          subst l28 y28 z28
          obtain ⟨rfl, Nq28, Sq28, Rq28⟩ := hQ28
          have N28 := Fr.app Nc3 Nq28
          refine Go.tr st28 ?_
          show Go p.tables e below _ (T28.setTop (mkF m 134 #[.val (.long q1), .second, .val (.long q2), .second, .val (.long q3), .second, .val (.long q4), .second, .val (.long q5), .second, .val (.int p6), .val (.long q1), .second, .val (.long x2), .second, .val (.long x3), .second, .val (.long x4), .second, .val (.long x5), .second, .val (.int nn), .val (.ref b5), .unset] []))
          have z29 := Nat.le_trans zc3 Sq28
          obtain ⟨kn28, hkn28, DB28⟩ := Rq28
          have hkle : kn28 ≤ 4 := by
            by_cases q : Sc3 (own_rank x4)
            · have := hkn28.1 q; omega
            · have := hkn28.2 q; omega
          exact k134 _ _ _ _ kn28 X28 rfl N28 z29 DB28 hkle (fun r => ⟨fun q => q.elim Or.inl (fun z => Or.inr ⟨hq121, z⟩), fun q => q.elim Or.inl (fun z => Or.inr z.2)⟩) (fun q => hkn28.2 q.2) (fun q => hkn28.1 (Classical.byContradiction fun z => q ⟨hq121, z⟩))
      refine Go.st (fun U hr => XS.iload Xc2.here hx rfl (hb hby at_108) rfl hr) ?_
      show Go p.tables e below _ (Tc2.setTop (mkF m 110 #[.val (.long q1), .second, .val (.long q2), .second, .val (.long q3), .second, .val (.long q4), .second, .val (.long q5), .second, .val (.int p6), .val (.long q1), .second, .val (.long x2), .second, .val (.long x3), .second, .val (.long x4), .second, .val (.long x5), .second, .val (.int nn), .val (.ref b5), .unset] [(.int nn)]))
      refine Go.st (fun U hr => XS.iconst Xc2.here hx rfl (hb hby at_110) hr) ?_
      show Go p.tables e below _ (Tc2.setTop (mkF m 111 #[.val (.long q1), .second, .val (.long q2), .second, .val (.long q3), .second, .val (.long q4), .second, .val (.long q5), .second, .val (.int p6), .val (.long q1), .second, .val (.long x2), .second, .val (.long x3), .second, .val (.long x4), .second, .val (.long x5), .second, .val (.int nn), .val (.ref b5), .unset] [(.int (3 : Int32)), (.int nn)]))
      by_cases hc108 : nn < (3 : Int32)
      · refine Go.st (fun U hr => XS.icmpYes Xc2.here hx rfl (pc0 := 111) (pc' := 121) rfl (hb hby at_111) rfl (tlt hc108).1 (by decide) (by decide) hr) ?_
        show Go p.tables e below _ (Tc2.setTop (mkF m 121 #[.val (.long q1), .second, .val (.long q2), .second, .val (.long q3), .second, .val (.long q4), .second, .val (.long q5), .second, .val (.int p6), .val (.long q1), .second, .val (.long x2), .second, .val (.long x3), .second, .val (.long x4), .second, .val (.long x5), .second, .val (.int nn), .val (.ref b5), .unset] []))
        have hq108 : ¬ 3 ≤ nn.toInt := by have q := hc108; rw [own_lt32, show (3 : Int32).toInt = 3 from by decide] at q; omega
        exact k121 _ _ _ Sc2 kc2 (Xc2.more (by decide) (by decide)) ec2 Nc2 zc2 DBc2 (by omega) (fun r => ⟨Or.inl, fun q => q.elim id (fun z => absurd z.1 hq108)⟩) (fun q => absurd q.1 hq108) (fun _ => rfl)
      · refine Go.st (fun U hr => XS.icmpNo Xc2.here hx rfl (hb hby at_111) rfl (flt hc108).1 hr) ?_
        show Go p.tables e below _ (Tc2.setTop (mkF m 114 #[.val (.long q1), .second, .val (.long q2), .second, .val (.long q3), .second, .val (.long q4), .second, .val (.long q5), .second, .val (.int p6), .val (.long q1), .second, .val (.long x2), .second, .val (.long x3), .second, .val (.long x4), .second, .val (.long x5), .second, .val (.int nn), .val (.ref b5), .unset] []))
        have hq108 : 3 ≤ nn.toInt := by have q := hc108; rw [own_lt32, show (3 : Int32).toInt = 3 from by decide] at q; omega
        refine Go.st (fun U hr => XS.aload Xc2.here hx rfl (hb hby at_114) rfl rfl hr) ?_
        show Go p.tables e below _ (Tc2.setTop (mkF m 116 #[.val (.long q1), .second, .val (.long q2), .second, .val (.long q3), .second, .val (.long q4), .second, .val (.long q5), .second, .val (.int p6), .val (.long q1), .second, .val (.long x2), .second, .val (.long x3), .second, .val (.long x4), .second, .val (.long x5), .second, .val (.int nn), .val (.ref b5), .unset] [(.ref b5)]))
        refine Go.st (fun U hr => XS.lload Xc2.here hx rfl (hb hby at_116) rfl hr) ?_
        show Go p.tables e below _ (Tc2.setTop (mkF m 118 #[.val (.long q1), .second, .val (.long q2), .second, .val (.long q3), .second, .val (.long q4), .second, .val (.long q5), .second, .val (.int p6), .val (.long q1), .second, .val (.long x2), .second, .val (.long x3), .second, .val (.long x4), .second, .val (.long x5), .second, .val (.int nn), .val (.ref b5), .unset] [(.long x3), (.ref b5)]))
        obtain ⟨cq30, kq30, q30a, q30b, q30c⟩ := isOf hZ ec2 (own_DBE DBc2)
        obtain ⟨_, _, ⟨T30, L30, k30, n30⟩, -, X30, ⟨Lc30, hQ30, l30, y30, z30⟩, st30⟩ := Xc2.virtualBack hx (y := (⟨"com/example/rigorous_layout/rigorouslayout/DistinctCount", "add", "(J)V"⟩ : MethodName)) (z := (⟨"com/example/rigorous_layout/rigorouslayout/DistinctCount", "add", "(J)V"⟩ : MethodName)) hown (mvT hZ (hw _ (List.mem_of_getElem? (i := 21) rfl))) (mvT hZ (hw _ (List.mem_of_getElem? (i := 22) rfl))) (notFace_of_selects (args := #[]) (mvT hZ (hw _ (List.mem_of_getElem? (i := 24) rfl)))) (mvT hZ (hw _ (List.mem_of_getElem? (i := 24) rfl))) (mvT hZ (hw _ (List.mem_of_getElem? (i := 23) rfl))) (by decide) (backOf (W := 0) (rm4 l Z a0 hw [] b5 x3 Sc2 kc2 hc2 n0 zc2 DBc2 gb5 (by omega)) hZ (hw _ (List.mem_of_getElem? (i := 25) rfl)) (hw _ (List.mem_of_getElem? (i := 2) rfl)) (by decide) (by decide)) q30a q30c (g := (mkF m 118 #[.val (.long q1), .second, .val (.long q2), .second, .val (.long q3), .second, .val (.long q4), .second, .val (.long q5), .second, .val (.int p6), .val (.long q1), .second, .val (.long x2), .second, .val (.long x3), .second, .val (.long x4), .second, .val (.long x5), .second, .val (.int nn), .val (.ref b5), .unset] [(.long x3), (.ref b5)])) rfl (by rw [hml]; rfl) (Steps.refl _) (argsL := [(.long x3)]) (rest := []) (lenOf pd_5 rfl) rfl (by show 2 * 0 + _ ≤ _; exact Nat.le_of_eq rfl) (hb hby at_118) (fun _ _ => ⟨rfl, ec2, (by decide : 4 + 1 ≤ _), (by decide : 23 + 8 ≤ _)⟩)
        dsimp only [Pt.U, Pt.locs, Pt.cells, Pt.slots] at X30 l30 y30 z30 st30 hQ30
        subst l30 y30 z30
        obtain ⟨rfl, Nq30, Sq30, Rq30⟩ := hQ30
        have N30 := Fr.app Nc2 Nq30
        refine Go.tr st30 ?_
        show Go p.tables e below _ (T30.setTop (mkF m 121 #[.val (.long q1), .second, .val (.long q2), .second, .val (.long q3), .second, .val (.long q4), .second, .val (.long q5), .second, .val (.int p6), .val (.long q1), .second, .val (.long x2), .second, .val (.long x3), .second, .val (.long x4), .second, .val (.long x5), .second, .val (.int nn), .val (.ref b5), .unset] []))
        have z31 := Nat.le_trans zc2 Sq30
        obtain ⟨kn30, hkn30, DB30⟩ := Rq30
        have hkle : kn30 ≤ 3 := by
          by_cases q : Sc2 (own_rank x3)
          · have := hkn30.1 q; omega
          · have := hkn30.2 q; omega
        exact k121 _ _ _ _ kn30 X30 rfl N30 z31 DB30 hkle (fun r => ⟨fun q => q.elim Or.inl (fun z => Or.inr ⟨hq108, z⟩), fun q => q.elim Or.inl (fun z => Or.inr z.2)⟩) (fun q => hkn30.2 q.2) (fun q => hkn30.1 (Classical.byContradiction fun z => q ⟨hq108, z⟩))
    refine Go.st (fun U hr => XS.iload Xc1.here hx rfl (hb hby at_95) rfl hr) ?_
    show Go p.tables e below _ (Tc1.setTop (mkF m 97 #[.val (.long q1), .second, .val (.long q2), .second, .val (.long q3), .second, .val (.long q4), .second, .val (.long q5), .second, .val (.int p6), .val (.long q1), .second, .val (.long x2), .second, .val (.long x3), .second, .val (.long x4), .second, .val (.long x5), .second, .val (.int nn), .val (.ref b5), .unset] [(.int nn)]))
    refine Go.st (fun U hr => XS.iconst Xc1.here hx rfl (hb hby at_97) hr) ?_
    show Go p.tables e below _ (Tc1.setTop (mkF m 98 #[.val (.long q1), .second, .val (.long q2), .second, .val (.long q3), .second, .val (.long q4), .second, .val (.long q5), .second, .val (.int p6), .val (.long q1), .second, .val (.long x2), .second, .val (.long x3), .second, .val (.long x4), .second, .val (.long x5), .second, .val (.int nn), .val (.ref b5), .unset] [(.int (2 : Int32)), (.int nn)]))
    by_cases hc95 : nn < (2 : Int32)
    · refine Go.st (fun U hr => XS.icmpYes Xc1.here hx rfl (pc0 := 98) (pc' := 108) rfl (hb hby at_98) rfl (tlt hc95).1 (by decide) (by decide) hr) ?_
      show Go p.tables e below _ (Tc1.setTop (mkF m 108 #[.val (.long q1), .second, .val (.long q2), .second, .val (.long q3), .second, .val (.long q4), .second, .val (.long q5), .second, .val (.int p6), .val (.long q1), .second, .val (.long x2), .second, .val (.long x3), .second, .val (.long x4), .second, .val (.long x5), .second, .val (.int nn), .val (.ref b5), .unset] []))
      have hq95 : ¬ 2 ≤ nn.toInt := by have q := hc95; rw [own_lt32, show (2 : Int32).toInt = 2 from by decide] at q; omega
      exact k108 _ _ _ Sc1 kc1 (Xc1.more (by decide) (by decide)) ec1 Nc1 zc1 DBc1 (by omega) (fun r => ⟨Or.inl, fun q => q.elim id (fun z => absurd z.1 hq95)⟩) (fun q => absurd q.1 hq95) (fun _ => rfl)
    · refine Go.st (fun U hr => XS.icmpNo Xc1.here hx rfl (hb hby at_98) rfl (flt hc95).1 hr) ?_
      show Go p.tables e below _ (Tc1.setTop (mkF m 101 #[.val (.long q1), .second, .val (.long q2), .second, .val (.long q3), .second, .val (.long q4), .second, .val (.long q5), .second, .val (.int p6), .val (.long q1), .second, .val (.long x2), .second, .val (.long x3), .second, .val (.long x4), .second, .val (.long x5), .second, .val (.int nn), .val (.ref b5), .unset] []))
      have hq95 : 2 ≤ nn.toInt := by have q := hc95; rw [own_lt32, show (2 : Int32).toInt = 2 from by decide] at q; omega
      refine Go.st (fun U hr => XS.aload Xc1.here hx rfl (hb hby at_101) rfl rfl hr) ?_
      show Go p.tables e below _ (Tc1.setTop (mkF m 103 #[.val (.long q1), .second, .val (.long q2), .second, .val (.long q3), .second, .val (.long q4), .second, .val (.long q5), .second, .val (.int p6), .val (.long q1), .second, .val (.long x2), .second, .val (.long x3), .second, .val (.long x4), .second, .val (.long x5), .second, .val (.int nn), .val (.ref b5), .unset] [(.ref b5)]))
      refine Go.st (fun U hr => XS.lload Xc1.here hx rfl (hb hby at_103) rfl hr) ?_
      show Go p.tables e below _ (Tc1.setTop (mkF m 105 #[.val (.long q1), .second, .val (.long q2), .second, .val (.long q3), .second, .val (.long q4), .second, .val (.long q5), .second, .val (.int p6), .val (.long q1), .second, .val (.long x2), .second, .val (.long x3), .second, .val (.long x4), .second, .val (.long x5), .second, .val (.int nn), .val (.ref b5), .unset] [(.long x2), (.ref b5)]))
      obtain ⟨cq32, kq32, q32a, q32b, q32c⟩ := isOf hZ ec1 (own_DBE DBc1)
      obtain ⟨_, _, ⟨T32, L32, k32, n32⟩, -, X32, ⟨Lc32, hQ32, l32, y32, z32⟩, st32⟩ := Xc1.virtualBack hx (y := (⟨"com/example/rigorous_layout/rigorouslayout/DistinctCount", "add", "(J)V"⟩ : MethodName)) (z := (⟨"com/example/rigorous_layout/rigorouslayout/DistinctCount", "add", "(J)V"⟩ : MethodName)) hown (mvT hZ (hw _ (List.mem_of_getElem? (i := 21) rfl))) (mvT hZ (hw _ (List.mem_of_getElem? (i := 22) rfl))) (notFace_of_selects (args := #[]) (mvT hZ (hw _ (List.mem_of_getElem? (i := 24) rfl)))) (mvT hZ (hw _ (List.mem_of_getElem? (i := 24) rfl))) (mvT hZ (hw _ (List.mem_of_getElem? (i := 23) rfl))) (by decide) (backOf (W := 0) (rm4 l Z a0 hw [] b5 x2 Sc1 kc1 hc1 n0 zc1 DBc1 gb5 (by omega)) hZ (hw _ (List.mem_of_getElem? (i := 25) rfl)) (hw _ (List.mem_of_getElem? (i := 2) rfl)) (by decide) (by decide)) q32a q32c (g := (mkF m 105 #[.val (.long q1), .second, .val (.long q2), .second, .val (.long q3), .second, .val (.long q4), .second, .val (.long q5), .second, .val (.int p6), .val (.long q1), .second, .val (.long x2), .second, .val (.long x3), .second, .val (.long x4), .second, .val (.long x5), .second, .val (.int nn), .val (.ref b5), .unset] [(.long x2), (.ref b5)])) rfl (by rw [hml]; rfl) (Steps.refl _) (argsL := [(.long x2)]) (rest := []) (lenOf pd_5 rfl) rfl (by show 2 * 0 + _ ≤ _; exact Nat.le_of_eq rfl) (hb hby at_105) (fun _ _ => ⟨rfl, ec1, (by decide : 3 + 1 ≤ _), (by decide : 15 + 8 ≤ _)⟩)
      dsimp only [Pt.U, Pt.locs, Pt.cells, Pt.slots] at X32 l32 y32 z32 st32 hQ32
      subst l32 y32 z32
      obtain ⟨rfl, Nq32, Sq32, Rq32⟩ := hQ32
      have N32 := Fr.app Nc1 Nq32
      refine Go.tr st32 ?_
      show Go p.tables e below _ (T32.setTop (mkF m 108 #[.val (.long q1), .second, .val (.long q2), .second, .val (.long q3), .second, .val (.long q4), .second, .val (.long q5), .second, .val (.int p6), .val (.long q1), .second, .val (.long x2), .second, .val (.long x3), .second, .val (.long x4), .second, .val (.long x5), .second, .val (.int nn), .val (.ref b5), .unset] []))
      have z33 := Nat.le_trans zc1 Sq32
      obtain ⟨kn32, hkn32, DB32⟩ := Rq32
      have hkle : kn32 ≤ 2 := by
        by_cases q : Sc1 (own_rank x2)
        · have := hkn32.1 q; omega
        · have := hkn32.2 q; omega
      exact k108 _ _ _ _ kn32 X32 rfl N32 z33 DB32 hkle (fun r => ⟨fun q => q.elim Or.inl (fun z => Or.inr ⟨hq95, z⟩), fun q => q.elim Or.inl (fun z => Or.inr z.2)⟩) (fun q => hkn32.2 q.2) (fun q => hkn32.1 (Classical.byContradiction fun z => q ⟨hq95, z⟩))
  refine Go.st (fun U hr => XS.iload X7.here hx rfl (hb hby at_82) rfl hr) ?_
  show Go p.tables e below _ (T7.setTop (mkF m 84 #[.val (.long q1), .second, .val (.long q2), .second, .val (.long q3), .second, .val (.long q4), .second, .val (.long q5), .second, .val (.int p6), .val (.long q1), .second, .val (.long x2), .second, .val (.long x3), .second, .val (.long x4), .second, .val (.long x5), .second, .val (.int nn), .val (.ref b5), .unset] [(.int nn)]))
  refine Go.st (fun U hr => XS.iconst X7.here hx rfl (hb hby at_84) hr) ?_
  show Go p.tables e below _ (T7.setTop (mkF m 85 #[.val (.long q1), .second, .val (.long q2), .second, .val (.long q3), .second, .val (.long q4), .second, .val (.long q5), .second, .val (.int p6), .val (.long q1), .second, .val (.long x2), .second, .val (.long x3), .second, .val (.long x4), .second, .val (.long x5), .second, .val (.int nn), .val (.ref b5), .unset] [(.int (1 : Int32)), (.int nn)]))
  by_cases hc82 : nn < (1 : Int32)
  · refine Go.st (fun U hr => XS.icmpYes X7.here hx rfl (pc0 := 85) (pc' := 95) rfl (hb hby at_85) rfl (tlt hc82).1 (by decide) (by decide) hr) ?_
    show Go p.tables e below _ (T7.setTop (mkF m 95 #[.val (.long q1), .second, .val (.long q2), .second, .val (.long q3), .second, .val (.long q4), .second, .val (.long q5), .second, .val (.int p6), .val (.long q1), .second, .val (.long x2), .second, .val (.long x3), .second, .val (.long x4), .second, .val (.long x5), .second, .val (.int nn), .val (.ref b5), .unset] []))
    have hq82 : ¬ 1 ≤ nn.toInt := by have q := hc82; rw [own_lt32, show (1 : Int32).toInt = 1 from by decide] at q; omega
    exact k95 _ _ _ (fun _ => False) 0 (X7.more (by decide) (by decide)) rfl N7 z8 DB7 (by omega) (fun r => ⟨Or.inl, fun q => q.elim id (fun z => absurd z.1 hq82)⟩) (fun q => absurd q.1 hq82) (fun _ => rfl)
  · refine Go.st (fun U hr => XS.icmpNo X7.here hx rfl (hb hby at_85) rfl (flt hc82).1 hr) ?_
    show Go p.tables e below _ (T7.setTop (mkF m 88 #[.val (.long q1), .second, .val (.long q2), .second, .val (.long q3), .second, .val (.long q4), .second, .val (.long q5), .second, .val (.int p6), .val (.long q1), .second, .val (.long x2), .second, .val (.long x3), .second, .val (.long x4), .second, .val (.long x5), .second, .val (.int nn), .val (.ref b5), .unset] []))
    have hq82 : 1 ≤ nn.toInt := by have q := hc82; rw [own_lt32, show (1 : Int32).toInt = 1 from by decide] at q; omega
    refine Go.st (fun U hr => XS.aload X7.here hx rfl (hb hby at_88) rfl rfl hr) ?_
    show Go p.tables e below _ (T7.setTop (mkF m 90 #[.val (.long q1), .second, .val (.long q2), .second, .val (.long q3), .second, .val (.long q4), .second, .val (.long q5), .second, .val (.int p6), .val (.long q1), .second, .val (.long x2), .second, .val (.long x3), .second, .val (.long x4), .second, .val (.long x5), .second, .val (.int nn), .val (.ref b5), .unset] [(.ref b5)]))
    refine Go.st (fun U hr => XS.lload X7.here hx rfl (hb hby at_90) rfl hr) ?_
    show Go p.tables e below _ (T7.setTop (mkF m 92 #[.val (.long q1), .second, .val (.long q2), .second, .val (.long q3), .second, .val (.long q4), .second, .val (.long q5), .second, .val (.int p6), .val (.long q1), .second, .val (.long x2), .second, .val (.long x3), .second, .val (.long x4), .second, .val (.long x5), .second, .val (.int nn), .val (.ref b5), .unset] [(.long q1), (.ref b5)]))
    obtain ⟨cq34, kq34, q34a, q34b, q34c⟩ := isOf hZ rfl (own_DBE DB7)
    obtain ⟨_, _, ⟨T34, L34, k34, n34⟩, -, X34, ⟨Lc34, hQ34, l34, y34, z34⟩, st34⟩ := X7.virtualBack hx (y := (⟨"com/example/rigorous_layout/rigorouslayout/DistinctCount", "add", "(J)V"⟩ : MethodName)) (z := (⟨"com/example/rigorous_layout/rigorouslayout/DistinctCount", "add", "(J)V"⟩ : MethodName)) hown (mvT hZ (hw _ (List.mem_of_getElem? (i := 21) rfl))) (mvT hZ (hw _ (List.mem_of_getElem? (i := 22) rfl))) (notFace_of_selects (args := #[]) (mvT hZ (hw _ (List.mem_of_getElem? (i := 24) rfl)))) (mvT hZ (hw _ (List.mem_of_getElem? (i := 24) rfl))) (mvT hZ (hw _ (List.mem_of_getElem? (i := 23) rfl))) (by decide) (backOf (W := 0) (rm4 l Z a0 hw [] b5 q1 (fun _ => False) 0 T7.heap n0 z8 DB7 gb5 (by omega)) hZ (hw _ (List.mem_of_getElem? (i := 25) rfl)) (hw _ (List.mem_of_getElem? (i := 2) rfl)) (by decide) (by decide)) q34a q34c (g := (mkF m 92 #[.val (.long q1), .second, .val (.long q2), .second, .val (.long q3), .second, .val (.long q4), .second, .val (.long q5), .second, .val (.int p6), .val (.long q1), .second, .val (.long x2), .second, .val (.long x3), .second, .val (.long x4), .second, .val (.long x5), .second, .val (.int nn), .val (.ref b5), .unset] [(.long q1), (.ref b5)])) rfl (by rw [hml]; rfl) (Steps.refl _) (argsL := [(.long q1)]) (rest := []) (lenOf pd_5 rfl) rfl (by show 2 * 0 + _ ≤ _; exact Nat.le_of_eq rfl) (hb hby at_92) (fun _ _ => ⟨rfl, rfl, (by decide : 2 + 1 ≤ _), (by decide : 7 + 8 ≤ _)⟩)
    dsimp only [Pt.U, Pt.locs, Pt.cells, Pt.slots] at X34 l34 y34 z34 st34 hQ34
    subst l34 y34 z34
    obtain ⟨rfl, Nq34, Sq34, Rq34⟩ := hQ34
    have N34 := Fr.app N7 Nq34
    refine Go.tr st34 ?_
    show Go p.tables e below _ (T34.setTop (mkF m 95 #[.val (.long q1), .second, .val (.long q2), .second, .val (.long q3), .second, .val (.long q4), .second, .val (.long q5), .second, .val (.int p6), .val (.long q1), .second, .val (.long x2), .second, .val (.long x3), .second, .val (.long x4), .second, .val (.long x5), .second, .val (.int nn), .val (.ref b5), .unset] []))
    have z35 := Nat.le_trans z8 Sq34
    obtain ⟨kn34, hkn34, DB34⟩ := Rq34
    have hkle : kn34 ≤ 1 := by
      by_cases q : (fun _ => False) (own_rank q1)
      · have := hkn34.1 q; omega
      · have := hkn34.2 q; omega
    exact k95 _ _ _ _ kn34 X34 rfl N34 z35 DB34 hkle (fun r => ⟨fun q => q.elim Or.inl (fun z => Or.inr ⟨hq82, z⟩), fun q => q.elim Or.inl (fun z => Or.inr z.2)⟩) (fun q => hkn34.2 q.2) (fun q => hkn34.1 (Classical.byContradiction fun z => q ⟨hq82, z⟩))
set_option maxRecDepth 65536 in
set_option maxHeartbeats 40000000 in
theorem comes_1 {Post : Tables → Env → Array Value → State → Outcome → State → Prop} (hpost : ∀ tb e args s v u, (limb_1_1.after args s (.returned v) u = true ∧ limb_1_2.after args s (.returned v) u = true ∧ True) → FrameEnd s (.returned v) u (Jvm.fieldLocs frame_1_writes args s ++ Jvm.arrayLocs frame_1_arrays args s ++ Jvm.staticLocs frame_1_statics s) 16 128 → Post tb e args s (.returned v) u) :
    ArmFor flags0 classFile x code maxLocals ret World_1 tables_1 room_1 Calls_1 rest_1 Pre_1 Post := by
  intro l hfl _ _ p e ha hc hk s m args below hf hA hF happ hP
  obtain ⟨hcalls, hrest, hpre⟩ := hP
  obtain ⟨-, -, -, hnamed, -, -, -, hat⟩ := (Spec.applies_iff hf).mp happ
  obtain ⟨hg, hn⟩ := and_e (Cond.before_iff.mp (show (Jvm.Cond.and given_1 narrow_1).before args s = true from hpre))
  obtain ⟨h1, h2⟩ := and_e hg
  obtain ⟨w0, w1, w2, w3, w4, w5, rfl⟩ : ∃ w0 w1 w2 w3 w4 w5 : Value, args = #[w0, w1, w2, w3, w4, w5] := by
    have hs : args.size = 6 := by simpa [Cond.value, given_1] using h1
    obtain ⟨L⟩ := args
    match L, hs with
    | [w0, w1, w2, w3, w4, w5], _ => exact ⟨w0, w1, w2, w3, w4, w5, rfl⟩
  have hw := fun d (hd : d ∈ tables_1) => atoms_spec (ws := Jvm.Cond.code x code maxLocals ret :: tables_1) hat d (List.mem_cons_of_mem _ hd)
  have hfit : Fit s := fun {y c} hc i hi => by
    obtain ⟨ha, rfl⟩ := Array.getElem?_eq_some_iff.mp hc
    have q := List.all_eq_true.mp ((Array.all_eq_true_iff_forall_mem.mp hF) _ (Array.getElem_mem ha)) i (List.mem_range.mpr hi)
    simpa [Array.getElem?_eq_getElem hi] using q
  obtain ⟨ha0, hb0⟩ := and_e h2
  obtain ⟨i0, e0⟩ := isL_v ha0
  obtain rfl : w0 = (.long i0) := Option.some.inj e0
  obtain ⟨ha1, hb1⟩ := and_e hb0
  obtain ⟨i1, e1⟩ := isL_v ha1
  obtain rfl : w1 = (.long i1) := Option.some.inj e1
  obtain ⟨ha2, hb2⟩ := and_e hb1
  obtain ⟨i2, e2⟩ := isL_v ha2
  obtain rfl : w2 = (.long i2) := Option.some.inj e2
  obtain ⟨ha3, hb3⟩ := and_e hb2
  obtain ⟨i3, e3⟩ := isL_v ha3
  obtain rfl : w3 = (.long i3) := Option.some.inj e3
  obtain ⟨ha4, hb4⟩ := and_e hb3
  obtain ⟨i4, e4⟩ := isL_v ha4
  obtain rfl : w4 = (.long i4) := Option.some.inj e4
  obtain ⟨i5, e5⟩ := is_v hb4
  obtain rfl : w5 = (.int i5) := Option.some.inj e5
  obtain ⟨n, o, h1, h2, h3, _, L, rfl, ⟨rfl, N⟩, hq⟩ := rm0 l s _ hw tables_1 i0 i1 i2 i3 i4 i5 s.heap s.heap.size (Nat.le_refl _)  p e ha hc hk s m _ below hf ((Spec.applies_iff_loose hf).mp happ).1 ⟨rfl, State.Warmed39.refl s, rfl⟩ trivial
  refine ⟨n, _, h1, h2, h3, hpost _ _ _ _ _ _ ⟨Cond.after_iff.mpr rfl, Cond.after_iff.mpr (eq_i res_at (Term.int_eval (1)) rfl), trivial⟩ ⟨hq.1, hq.2.1, (hq.2.2.sift fun y hy => Or.inr (N y hy)).mono (by decide) (by decide)⟩⟩
theorem main_1_1 : Claimed_1_1 := comes_1 fun _ _ _ _ _ _ h hF => ⟨h.1, hF⟩
theorem main_1_2 : Claimed_1_2 := comes_1 fun _ _ _ _ _ _ h hF => ⟨h.2.1, hF⟩
end Jvm.Pilot.@@N@@
namespace Jvm.Pilot.@@N@@
open Jvm Jvm.ClassFile Sem Op Lib Jvm.Free Jvm.Stand Jvm.Pilot.@@N@@.Jvm.D
/-! MADE BY PROGRAM (witnessworld.py) out of the Statement's table words and the real class files: 14 classes; the members and pool entries that the words name. The judged class is class 1, her method 1. -/
namespace start1
open Jvm.ClassFile
def u (s : String) : CpInfo := .utf8 (stringToUtf16 s)
/-- a pool by its gaps: so many unusable entries, then the entry; so many at the end -/
def gap : Nat → List CpInfo → List CpInfo
  | 0, r => r
  | n + 1, r => .unusable :: gap n r
def poolList (es : List (Nat × CpInfo)) (last : Nat) : List CpInfo := es.foldr (fun e r => gap e.1 (e.2 :: r)) (gap last [])
def pool (es : List (Nat × CpInfo)) (last : Nat) : Array CpInfo := ⟨poolList es last⟩
def fileOf (pool : Array CpInfo) (this : Nat) (attrs : Array Attribute := #[]) (ms : Array MethodInfo := #[]) (fl : Nat := 33) (sup : Nat := 0) (ifs : Array Nat := #[]) (fds : Array FieldInfo := #[]) : ClassFile where
  minorVersion := 0
  majorVersion := 65
  constantPool := pool
  accessFlags := fl
  thisClass := this
  superClass := sup
  interfaces := ifs
  fields := fds
  methods := ms
  attributes := attrs
def plain (name : String) (sup : Option ClassId) : Class where
  name := name
  kind := .ordinary
  loader := none
  accessFlags := 33
  super := sup
  interfaces := #[]
  cf := none
  fields := #[]
  methods := #[]
  instanceTypes := #[]
  staticTypes := #[]
  resolved := #[]
  callSites := []
  init := .initialized
  statics := none
  mirror := none

def pool0 : Array CpInfo := pool [(5, u "<init>"), (0, u "()V"), (1, .class_ 10), (1, u "java/lang/Object")] 113

def k0c0 : Code := { maxStack := 0, maxLocals := 1, code := object_method_1_code, exceptionTable := #[], attributes := #[] }
def k0m0 : Method := { name := "<init>", desc := "()V", sig := { parameters := [], returnType := none }, accessFlags := 1, code := some k0c0 }
/-- java/lang/Object -/
def k0 : Class := { plain "java/lang/Object" none with
  accessFlags := 33
  interfaces := #[]
  cf := some (fileOf pool0 8 #[] #[{ accessFlags := 1, nameIndex := 5, descriptorIndex := 6, attributes := #[] }] 33 0 #[] #[])
  fields := #[]
  methods := #[k0m0]
  instanceTypes := #[]
  staticTypes := #[]
  resolved := Array.replicate 124 none
  statics := none }

def pool1 : Array CpInfo := pool [(2, .class_ 4), (0, .nameAndType 5 6), (0, u "java/lang/Object"), (0, u "<init>"), (0, u "()V"), (0, .class_ 8), (0, u "com/example/rigorous_layout/rigorouslayout/DistinctCount"), (0, .methodref 7 3), (0, .methodref 7 11), (0, .nameAndType 12 13), (0, u "add"), (0, u "(J)V"), (0, .methodref 7 15), (0, .nameAndType 16 17), (0, u "count"), (0, u "()D"), (0, .class_ 19), (0, u "com/example/rigorous_layout/rigorouslayout/DistinctCountCountPinLaw"), (2, u "law"), (0, u "(JJJJJI)Z")] 3

def k1m0 : Method := { name := "<init>", desc := "()V", sig := { parameters := [], returnType := none }, accessFlags := 1, code := none }
def k1c1 : Code := { maxStack := 4, maxLocals := 24, code := code, exceptionTable := #[], attributes := #[] }
def k1m1 : Method := { name := "law", desc := "(JJJJJI)Z", sig := { parameters := [.long, .long, .long, .long, .long, .int], returnType := some .boolean }, accessFlags := 9, code := some k1c1 }
/-- com/example/rigorous_layout/rigorouslayout/DistinctCountCountPinLaw -/
def k1 : Class := { plain "com/example/rigorous_layout/rigorouslayout/DistinctCountCountPinLaw" (some 0) with
  accessFlags := 49
  interfaces := #[]
  cf := some (fileOf pool1 18 #[] #[{ accessFlags := 1, nameIndex := 5, descriptorIndex := 6, attributes := #[] }, { accessFlags := 9, nameIndex := 22, descriptorIndex := 23, attributes := #[] }] 49 2 #[] #[])
  fields := #[]
  methods := #[k1m0, k1m1]
  instanceTypes := #[]
  staticTypes := #[]
  resolved := Array.replicate 27 none
  statics := none }

def pool2 : Array CpInfo := pool [(1, .methodref 2 3), (0, .class_ 4), (0, .nameAndType 5 6), (0, u "java/lang/Object"), (0, u "<init>"), (0, u "()V"), (0, .fieldref 8 9), (0, .class_ 10), (0, .nameAndType 11 12), (0, u "com/example/rigorous_layout/rigorouslayout/DistinctCount"), (0, u "ranks"), (0, u "[J"), (0, .methodref 8 14), (0, .nameAndType 15 16), (0, u "rank"), (0, u "(J)J"), (0, .methodref 8 18), (0, .nameAndType 19 20), (0, u "insert"), (0, u "(J)V"), (0, .fieldref 8 22), (0, .nameAndType 23 24), (0, u "size"), (0, u "I"), (0, .fieldref 8 26), (0, .nameAndType 27 28), (0, u "estimated"), (0, u "Z"), (0, .double 4895412794951729152), (1, .double 4602678819172646912), (1, .double 4643176031446892544), (1, .methodref 36 37), (0, .class_ 38), (0, .nameAndType 39 40), (0, u "java/util/Arrays"), (0, u "binarySearch"), (0, u "([JIIJ)I"), (0, .methodref 42 43), (0, .class_ 44), (0, .nameAndType 45 46), (0, u "java/lang/Math"), (0, u "min"), (0, u "(II)I"), (0, .methodref 36 48), (0, .nameAndType 49 50), (0, u "copyOf"), (0, u "([JI)[J"), (0, .methodref 52 53), (0, .class_ 54), (0, .nameAndType 55 56), (0, u "java/lang/System"), (0, u "arraycopy"), (0, u "(Ljava/lang/Object;ILjava/lang/Object;II)V"), (0, .long 18397679294719823053), (1, .long 14181476777654086739), (1, u "EXACT"), (4, u "add"), (3, u "count"), (0, u "()D")] 2

def k2c0 : Code := { maxStack := 2, maxLocals := 1, code := prog_5_method_1_code, exceptionTable := #[], attributes := #[] }
def k2m0 : Method := { name := "<init>", desc := "()V", sig := { parameters := [], returnType := none }, accessFlags := 0, code := some k2c0 }
def k2c1 : Code := { maxStack := 3, maxLocals := 3, code := prog_5_method_2_code, exceptionTable := #[], attributes := #[] }
def k2m1 : Method := { name := "add", desc := "(J)V", sig := { parameters := [.long], returnType := none }, accessFlags := 0, code := some k2c1 }
def k2c2 : Code := { maxStack := 4, maxLocals := 3, code := prog_5_method_4_code, exceptionTable := #[], attributes := #[] }
def k2m2 : Method := { name := "count", desc := "()D", sig := { parameters := [], returnType := some .double }, accessFlags := 0, code := some k2c2 }
def k2c3 : Code := { maxStack := 6, maxLocals := 4, code := prog_5_method_5_code, exceptionTable := #[], attributes := #[] }
def k2m3 : Method := { name := "insert", desc := "(J)V", sig := { parameters := [.long], returnType := none }, accessFlags := 2, code := some k2c3 }
def k2c4 : Code := { maxStack := 5, maxLocals := 4, code := prog_5_method_6_code, exceptionTable := #[], attributes := #[] }
def k2m4 : Method := { name := "rank", desc := "(J)J", sig := { parameters := [.long], returnType := some .long }, accessFlags := 10, code := some k2c4 }
/-- com/example/rigorous_layout/rigorouslayout/DistinctCount -/
def k2 : Class := { plain "com/example/rigorous_layout/rigorouslayout/DistinctCount" (some 0) with
  accessFlags := 48
  interfaces := #[]
  cf := some (fileOf pool2 8 #[] #[{ accessFlags := 0, nameIndex := 5, descriptorIndex := 6, attributes := #[] }, { accessFlags := 0, nameIndex := 66, descriptorIndex := 20, attributes := #[] }, { accessFlags := 0, nameIndex := 70, descriptorIndex := 71, attributes := #[] }, { accessFlags := 2, nameIndex := 19, descriptorIndex := 20, attributes := #[] }, { accessFlags := 10, nameIndex := 15, descriptorIndex := 16, attributes := #[] }] 48 2 #[] #[{ accessFlags := 24, nameIndex := 61, descriptorIndex := 24, attributes := #[] }, { accessFlags := 2, nameIndex := 11, descriptorIndex := 12, attributes := #[] }, { accessFlags := 2, nameIndex := 23, descriptorIndex := 24, attributes := #[] }, { accessFlags := 2, nameIndex := 27, descriptorIndex := 28, attributes := #[] }])
  fields := #[{ name := "EXACT", type := .int, accessFlags := 24, slot := 0, constantValue := 0 }, { name := "ranks", type := (.array .long), accessFlags := 2, slot := 0, constantValue := 0 }, { name := "size", type := .int, accessFlags := 2, slot := 1, constantValue := 0 }, { name := "estimated", type := .boolean, accessFlags := 2, slot := 2, constantValue := 0 }]
  methods := #[k2m0, k2m1, k2m2, k2m3, k2m4]
  instanceTypes := #[(.array .long), .int, .boolean]
  staticTypes := #[.int]
  resolved := Array.replicate 74 none
  statics := none }

def pool3 : Array CpInfo := pool [(2, .class_ 4), (1, u "java/lang/Object"), (0, u "<init>"), (0, u "()V"), (6, .methodref 14 15), (0, .class_ 16), (0, .nameAndType 17 18), (0, u "java/util/Arrays"), (0, u "rangeCheck"), (0, u "(III)V"), (55, .class_ 76), (1, u "java/util/Arrays$NaturalOrder"), (36, .class_ 115), (1, u "java/util/Arrays$LegacyMergeSort"), (1, u "Z"), (32, .methodref 151 152), (0, .class_ 153), (0, .nameAndType 154 155), (0, u "java/lang/System"), (0, u "arraycopy"), (0, u "(Ljava/lang/Object;ILjava/lang/Object;II)V"), (49, .methodref 14 206), (0, .nameAndType 207 208), (0, u "binarySearch0"), (0, u "([JIIJ)I"), (93, u "copyOf"), (1, .methodref 305 306), (0, .class_ 307), (0, .nameAndType 308 309), (0, u "java/lang/Math"), (0, u "min"), (0, u "(II)I"), (65, .class_ 376), (0, u "java/util/Arrays$ArrayList"), (68, u "$assertionsDisabled"), (269, u "MIN_ARRAY_SORT_GRAN"), (0, u "I"), (2, u "INSERTIONSORT_THRESHOLD"), (74, u "binarySearch"), (77, u "([JI)[J"), (102, .class_ 976), (0, u "java/util/Arrays$ArrayItr")] 52

def k3m0 : Method := { name := "<init>", desc := "()V", sig := { parameters := [], returnType := none }, accessFlags := 2, code := none }
def k3c1 : Code := { maxStack := 4, maxLocals := 3, code := jdk_65_method_30_code, exceptionTable := #[], attributes := #[] }
def k3m1 : Method := { name := "rangeCheck", desc := "(III)V", sig := { parameters := [.int, .int, .int], returnType := none }, accessFlags := 8, code := some k3c1 }
def k3c2 : Code := { maxStack := 5, maxLocals := 5, code := jdk_65_method_55_code, exceptionTable := #[], attributes := #[] }
def k3m2 : Method := { name := "binarySearch", desc := "([JIIJ)I", sig := { parameters := [(.array .long), .int, .int, .long], returnType := some .int }, accessFlags := 9, code := some k3c2 }
def k3c3 : Code := { maxStack := 4, maxLocals := 10, code := jdk_65_method_56_code, exceptionTable := #[], attributes := #[] }
def k3m3 : Method := { name := "binarySearch0", desc := "([JIIJ)I", sig := { parameters := [(.array .long), .int, .int, .long], returnType := some .int }, accessFlags := 10, code := some k3c3 }
def k3c4 : Code := { maxStack := 6, maxLocals := 3, code := jdk_65_method_124_code, exceptionTable := #[], attributes := #[] }
def k3m4 : Method := { name := "copyOf", desc := "([JI)[J", sig := { parameters := [(.array .long), .int], returnType := some (.array .long) }, accessFlags := 9, code := some k3c4 }
/-- java/util/Arrays -/
def k3 : Class := { plain "java/util/Arrays" (some 0) with
  accessFlags := 49
  interfaces := #[]
  cf := some (fileOf pool3 14 #[.nestMembers #[975, 375, 113, 74]] #[{ accessFlags := 2, nameIndex := 5, descriptorIndex := 6, attributes := #[] }, { accessFlags := 8, nameIndex := 17, descriptorIndex := 18, attributes := #[] }, { accessFlags := 9, nameIndex := 794, descriptorIndex := 208, attributes := #[] }, { accessFlags := 10, nameIndex := 207, descriptorIndex := 208, attributes := #[] }, { accessFlags := 9, nameIndex := 302, descriptorIndex := 872, attributes := #[] }] 49 2 #[] #[{ accessFlags := 26, nameIndex := 715, descriptorIndex := 716, attributes := #[] }, { accessFlags := 26, nameIndex := 719, descriptorIndex := 716, attributes := #[] }, { accessFlags := 4120, nameIndex := 445, descriptorIndex := 117, attributes := #[] }])
  fields := #[{ name := "MIN_ARRAY_SORT_GRAN", type := .int, accessFlags := 26, slot := 0, constantValue := 0 }, { name := "INSERTIONSORT_THRESHOLD", type := .int, accessFlags := 26, slot := 1, constantValue := 0 }, { name := "$assertionsDisabled", type := .boolean, accessFlags := 4120, slot := 2, constantValue := 0 }]
  methods := #[k3m0, k3m1, k3m2, k3m3, k3m4]
  instanceTypes := #[]
  staticTypes := #[.int, .int, .boolean]
  resolved := Array.replicate 1029 none
  statics := none }

def pool4 : Array CpInfo := pool [(2, .class_ 4), (1, u "java/lang/Object"), (0, u "<init>"), (0, u "()V"), (1, .class_ 10), (1, u "java/lang/System"), (0, u "allowSecurityManager"), (0, u "I"), (16, u "cons"), (0, u "Ljava/io/Console;"), (77, .class_ 110), (1, u "java/lang/System$CallersHolder"), (43, u "initialErrStream"), (0, u "Ljava/io/PrintStream;"), (19, u "security"), (0, u "Ljava/lang/SecurityManager;"), (31, .class_ 209), (0, u "java/lang/System$1"), (7, u "props"), (0, u "Ljava/util/Properties;"), (2, u "lineSeparator"), (0, u "Ljava/lang/String;"), (96, .class_ 321), (1, u "java/lang/System$LoggerFinder"), (5, .class_ 328), (0, u "java/lang/System$Logger"), (67, u "err"), (2, u "out"), (91, u "notSupportedJnuEncoding"), (15, u "in"), (17, u "initialIn"), (0, u "Ljava/io/InputStream;"), (35, u "bootLayer"), (0, u "Ljava/lang/ModuleLayer;"), (99, .class_ 664), (0, u "java/lang/System$2"), (9, u "NEVER"), (2, u "MAYBE"), (49, u "arraycopy"), (0, u "(Ljava/lang/Object;ILjava/lang/Object;II)V"), (72, .class_ 802), (0, u "java/lang/System$Logger$Level")] 31

def k4m0 : Method := { name := "<init>", desc := "()V", sig := { parameters := [], returnType := none }, accessFlags := 2, code := none }
def k4m1 : Method := { name := "arraycopy", desc := "(Ljava/lang/Object;ILjava/lang/Object;II)V", sig := { parameters := [(.object "java/lang/Object"), .int, (.object "java/lang/Object"), .int, .int], returnType := none }, accessFlags := 265, code := none }
/-- java/lang/System -/
def k4 : Class := { plain "java/lang/System" (some 0) with
  accessFlags := 49
  interfaces := #[]
  cf := some (fileOf pool4 8 #[.nestMembers #[319, 327, 801, 108, 663, 208]] #[{ accessFlags := 2, nameIndex := 5, descriptorIndex := 6, attributes := #[] }, { accessFlags := 265, nameIndex := 727, descriptorIndex := 728, attributes := #[] }] 49 2 #[] #[{ accessFlags := 25, nameIndex := 507, descriptorIndex := 526, attributes := #[] }, { accessFlags := 25, nameIndex := 399, descriptorIndex := 155, attributes := #[] }, { accessFlags := 25, nameIndex := 396, descriptorIndex := 155, attributes := #[] }, { accessFlags := 10, nameIndex := 525, descriptorIndex := 526, attributes := #[] }, { accessFlags := 26, nameIndex := 674, descriptorIndex := 12, attributes := #[] }, { accessFlags := 26, nameIndex := 677, descriptorIndex := 12, attributes := #[] }, { accessFlags := 10, nameIndex := 11, descriptorIndex := 12, attributes := #[] }, { accessFlags := 74, nameIndex := 175, descriptorIndex := 176, attributes := #[] }, { accessFlags := 10, nameIndex := 491, descriptorIndex := 222, attributes := #[] }, { accessFlags := 74, nameIndex := 29, descriptorIndex := 30, attributes := #[] }, { accessFlags := 74, nameIndex := 154, descriptorIndex := 155, attributes := #[] }, { accessFlags := 10, nameIndex := 217, descriptorIndex := 218, attributes := #[] }, { accessFlags := 10, nameIndex := 221, descriptorIndex := 222, attributes := #[] }, { accessFlags := 8, nameIndex := 562, descriptorIndex := 563, attributes := #[] }])
  fields := #[{ name := "in", type := (.object "java/io/InputStream"), accessFlags := 25, slot := 0, constantValue := 0 }, { name := "out", type := (.object "java/io/PrintStream"), accessFlags := 25, slot := 1, constantValue := 0 }, { name := "err", type := (.object "java/io/PrintStream"), accessFlags := 25, slot := 2, constantValue := 0 }, { name := "initialIn", type := (.object "java/io/InputStream"), accessFlags := 10, slot := 3, constantValue := 0 }, { name := "NEVER", type := .int, accessFlags := 26, slot := 4, constantValue := 0 }, { name := "MAYBE", type := .int, accessFlags := 26, slot := 5, constantValue := 0 }, { name := "allowSecurityManager", type := .int, accessFlags := 10, slot := 6, constantValue := 0 }, { name := "security", type := (.object "java/lang/SecurityManager"), accessFlags := 74, slot := 7, constantValue := 0 }, { name := "notSupportedJnuEncoding", type := (.object "java/lang/String"), accessFlags := 10, slot := 8, constantValue := 0 }, { name := "cons", type := (.object "java/io/Console"), accessFlags := 74, slot := 9, constantValue := 0 }, { name := "initialErrStream", type := (.object "java/io/PrintStream"), accessFlags := 74, slot := 10, constantValue := 0 }, { name := "props", type := (.object "java/util/Properties"), accessFlags := 10, slot := 11, constantValue := 0 }, { name := "lineSeparator", type := (.object "java/lang/String"), accessFlags := 10, slot := 12, constantValue := 0 }, { name := "bootLayer", type := (.object "java/lang/ModuleLayer"), accessFlags := 8, slot := 13, constantValue := 0 }]
  methods := #[k4m0, k4m1]
  instanceTypes := #[]
  staticTypes := #[(.object "java/io/InputStream"), (.object "java/io/PrintStream"), (.object "java/io/PrintStream"), (.object "java/io/InputStream"), .int, .int, .int, (.object "java/lang/SecurityManager"), (.object "java/lang/String"), (.object "java/io/Console"), (.object "java/io/PrintStream"), (.object "java/util/Properties"), (.object "java/lang/String"), (.object "java/lang/ModuleLayer")]
  resolved := Array.replicate 834 none
  statics := none }

def pool5 : Array CpInfo := pool [(1, .class_ 2), (0, u "java/lang/Math"), (1, .class_ 6), (1, u "java/lang/Object"), (0, u "<init>"), (0, u "()V"), (89, .class_ 100), (1, u "java/lang/Math$RandomNumberGeneratorHolder"), (71, u "negativeZeroFloatBits"), (0, u "J"), (2, u "negativeZeroDoubleBits"), (24, u "min"), (43, u "$assertionsDisabled"), (0, u "Z"), (88, u "(II)I"), (2, u "twoToTheDoubleScaleDown"), (0, u "D"), (4, u "twoToTheDoubleScaleUp"), (9, u "E"), (3, u "PI"), (2, u "TAU"), (2, u "DEGREES_TO_RADIANS"), (0, u "RADIANS_TO_DEGREES")] 94

def k5m0 : Method := { name := "<init>", desc := "()V", sig := { parameters := [], returnType := none }, accessFlags := 2, code := none }
def k5c1 : Code := { maxStack := 2, maxLocals := 2, code := jdk_29_method_69_code, exceptionTable := #[], attributes := #[] }
def k5m1 : Method := { name := "min", desc := "(II)I", sig := { parameters := [.int, .int], returnType := some .int }, accessFlags := 9, code := some k5c1 }
/-- java/lang/Math -/
def k5 : Class := { plain "java/lang/Math" (some 0) with
  accessFlags := 49
  interfaces := #[]
  cf := some (fileOf pool5 1 #[.nestMembers #[98]] #[{ accessFlags := 2, nameIndex := 7, descriptorIndex := 8, attributes := #[] }, { accessFlags := 9, nameIndex := 201, descriptorIndex := 335, attributes := #[] }] 49 4 #[] #[{ accessFlags := 25, nameIndex := 354, descriptorIndex := 339, attributes := #[] }, { accessFlags := 25, nameIndex := 358, descriptorIndex := 339, attributes := #[] }, { accessFlags := 25, nameIndex := 361, descriptorIndex := 339, attributes := #[] }, { accessFlags := 26, nameIndex := 364, descriptorIndex := 339, attributes := #[] }, { accessFlags := 26, nameIndex := 365, descriptorIndex := 339, attributes := #[] }, { accessFlags := 26, nameIndex := 172, descriptorIndex := 173, attributes := #[] }, { accessFlags := 26, nameIndex := 176, descriptorIndex := 173, attributes := #[] }, { accessFlags := 8, nameIndex := 344, descriptorIndex := 339, attributes := #[] }, { accessFlags := 8, nameIndex := 338, descriptorIndex := 339, attributes := #[] }, { accessFlags := 4120, nameIndex := 245, descriptorIndex := 246, attributes := #[] }])
  fields := #[{ name := "E", type := .double, accessFlags := 25, slot := 0, constantValue := 0 }, { name := "PI", type := .double, accessFlags := 25, slot := 1, constantValue := 0 }, { name := "TAU", type := .double, accessFlags := 25, slot := 2, constantValue := 0 }, { name := "DEGREES_TO_RADIANS", type := .double, accessFlags := 26, slot := 3, constantValue := 0 }, { name := "RADIANS_TO_DEGREES", type := .double, accessFlags := 26, slot := 4, constantValue := 0 }, { name := "negativeZeroFloatBits", type := .long, accessFlags := 26, slot := 5, constantValue := 0 }, { name := "negativeZeroDoubleBits", type := .long, accessFlags := 26, slot := 6, constantValue := 0 }, { name := "twoToTheDoubleScaleUp", type := .double, accessFlags := 8, slot := 7, constantValue := 0 }, { name := "twoToTheDoubleScaleDown", type := .double, accessFlags := 8, slot := 8, constantValue := 0 }, { name := "$assertionsDisabled", type := .boolean, accessFlags := 4120, slot := 9, constantValue := 0 }]
  methods := #[k5m0, k5m1]
  instanceTypes := #[]
  staticTypes := #[.double, .double, .double, .double, .double, .long, .long, .double, .double, .boolean]
  resolved := Array.replicate 460 none
  statics := none }

def pool6 : Array CpInfo := pool [(1, u "java/lang/Cloneable"), (0, .class_ 1), (0, u "java/lang/Object"), (0, .class_ 3)] 3

/-- java/lang/Cloneable -/
def k6 : Class := { plain "java/lang/Cloneable" (some 0) with
  accessFlags := 1537
  interfaces := #[]
  cf := some (fileOf pool6 2 #[] #[] 1537 4 #[] #[])
  fields := #[]
  methods := #[]
  instanceTypes := #[]
  staticTypes := #[]
  resolved := Array.replicate 8 none
  statics := none }

def pool7 : Array CpInfo := pool [(1, u "java/io/Serializable"), (0, .class_ 1), (0, u "java/lang/Object"), (0, .class_ 3)] 3

/-- java/io/Serializable -/
def k7 : Class := { plain "java/io/Serializable" (some 0) with
  accessFlags := 1537
  interfaces := #[]
  cf := some (fileOf pool7 2 #[] #[] 1537 4 #[] #[])
  fields := #[]
  methods := #[]
  instanceTypes := #[]
  staticTypes := #[]
  resolved := Array.replicate 8 none
  statics := none }

/-- the primitive byte -/
def k8 : Class := { plain "byte" none with kind := .primitive 'B', accessFlags := 0x411 }
/-- [B -/
def k9 : Class := { plain "[B" (some 0) with kind := .array 8 .byte, interfaces := #[6, 7], accessFlags := 1041 }

/-- the primitive int -/
def k10 : Class := { plain "int" none with kind := .primitive 'I', accessFlags := 0x411 }
/-- [I -/
def k11 : Class := { plain "[I" (some 0) with kind := .array 10 .int, interfaces := #[6, 7], accessFlags := 1041 }

/-- the primitive long -/
def k12 : Class := { plain "long" none with kind := .primitive 'J', accessFlags := 0x411 }
/-- [J -/
def k13 : Class := { plain "[J" (some 0) with kind := .array 12 .long, interfaces := #[6, 7], accessFlags := 1041 }

def heap : Heap := #[]
def classes : Array Class := #[k0, k1, k2, k3, k4, k5, k6, k7, k8, k9, k10, k11, k12, k13]
def interned : List (Array UInt16 × Addr) := []
def slotsUsed : Nat := 0
def theMethod : MethodId := ⟨1, 1⟩
def args0 : Array Value := #[.long 5, .long 300, .long 7, .long 8, .long 9, .int 80]
def aboutOver (below : List Frame) : State where
  vm := { classes := classes, interned := interned.toArray }
  heap := heap
  slotsUsed := slotsUsed
  threads := #[{ frames := .invoking theMethod args0 :: below }]
def below0 : List Frame := [.native { method := ⟨0, 0⟩, args := #[] }]
def about1 : State := aboutOver below0
def p0 : Program := .bare "" "" ""
def e0 : Env := launch0.env 0 0 0
theorem w_frames : about1.frames = Frame.invoking theMethod args0 :: below0 := rfl
set_option maxRecDepth 65536 in
theorem w_args : argsFit about1.vm theMethod args0 = true := by decide +kernel
set_option maxRecDepth 65536 in
theorem w_heap : heapFits about1 = true := by decide +kernel
set_option maxRecDepth 65536 in
theorem w_runnable : about1.curStatus? = some .runnable := by decide +kernel
set_option maxRecDepth 65536 in
theorem w_alone : about1.alone = true := by decide +kernel
set_option maxRecDepth 65536 in
theorem w_named : about1.methodNamed? x = some theMethod := by decide +kernel
set_option maxRecDepth 65536 in
theorem w_hears : about1.hears theMethod below0 = true := by decide +kernel
set_option maxRecDepth 65536 in
theorem w_ripe : about1.ripe theMethod args0 below0 = true := by decide +kernel
theorem w_running : about1.status = .running := rfl
set_option maxRecDepth 65536 in
theorem w_room : about1.hasRoom e0.platform room_1 = true :=
  launch0.hasRoom_least _ room_1 (by decide +kernel) (by decide +kernel) (by decide +kernel) (by decide +kernel) (by decide +kernel) (by decide +kernel)
theorem allAtoms_all (ts : List Jvm.Cond) (a : Array Jvm.Value) (st : Jvm.State) : (allAtoms ts).before a st = ts.all (fun c => c.before a st) := by
  induction ts with
  | nil => rfl
  | cons c t ih =>
    show (Jvm.Cond.and c (allAtoms t)).before a st = _
    rw [Jvm.Cond.before_and, ih, List.all_cons]
def words1 : List Jvm.Cond := Jvm.Cond.code x code maxLocals ret :: tables_1
/-- a 'code' word, met by the world's own term for the bytes: nothing is compared byte by byte -/
theorem code_word {y : MethodName} {bytes : ByteArray} {mx : Nat} {rt : Option FieldType} {a : Array Value} {s : State} {m : MethodId} {meth : Method} {c : Code} (h1 : s.methodNamed? y = some m) (h2 : s.vm.method? m = some meth) (h3 : meth.code = some c) (h4 : c.code = bytes)
    (h5 : (c.maxLocals == mx && c.exceptionTable.isEmpty && decide (c.maxStack ≤ mostOperands) && decide (meth.sig.returnType = rt) && !meth.locks && decide (parseMethodDescriptor y.desc = some meth.sig)) = true) : (Jvm.Cond.code y bytes mx rt).before a s = true := by
  simp only [Bool.and_eq_true, beq_iff_eq, Bool.not_eq_true', decide_eq_true_eq] at h5
  obtain ⟨⟨⟨⟨⟨g1, g2⟩, g3⟩, g4⟩, g5⟩, g6⟩ := h5
  simp [Cond.before, Cond.holds, Cond.value, h1, h2, h3, h4, g1, g2, g3, g4, g5, g6]
def isCode : Jvm.Cond → Bool
  | .code _ _ _ _ => true
  | _ => false
theorem all_split {L : List Jvm.Cond} {P : Jvm.Cond → Bool} (h1 : L.all (fun c => isCode c || P c) = true) (h2 : ∀ c ∈ L.filter isCode, P c = true) : L.all P = true := by
  refine List.all_eq_true.mpr fun c hc => ?_
  have h := List.all_eq_true.mp h1 c hc
  rcases Bool.eq_false_or_eq_true (isCode c) with hi | hi
  · exact h2 c (List.mem_filter.mpr ⟨hc, hi⟩)
  · simpa [hi] using h
set_option maxRecDepth 65536 in
theorem w_c0 : (Jvm.Cond.code x code maxLocals ret).before args0 about1 = true := code_word (m := ⟨1, 1⟩) (meth := k1m1) (c := k1c1) (by decide +kernel) rfl rfl rfl (by decide +kernel)
set_option maxRecDepth 65536 in
theorem w_c1 : (Jvm.Cond.code ({ cls := "com/example/rigorous_layout/rigorouslayout/DistinctCount", name := "<init>", desc := "()V" } : Jvm.MethodName) prog_5_method_1_code (1 : Nat) (Option.none : Option Jvm.ClassFile.FieldType)).before args0 about1 = true := code_word (m := ⟨2, 0⟩) (meth := k2m0) (c := k2c0) (by decide +kernel) rfl rfl rfl (by decide +kernel)
set_option maxRecDepth 65536 in
theorem w_c2 : (Jvm.Cond.code ({ cls := "java/lang/Object", name := "<init>", desc := "()V" } : Jvm.MethodName) object_method_1_code (1 : Nat) (Option.none : Option Jvm.ClassFile.FieldType)).before args0 about1 = true := code_word (m := ⟨0, 0⟩) (meth := k0m0) (c := k0c0) (by decide +kernel) rfl rfl rfl (by decide +kernel)
set_option maxRecDepth 65536 in
theorem w_c3 : (Jvm.Cond.code ({ cls := "com/example/rigorous_layout/rigorouslayout/DistinctCount", name := "count", desc := "()D" } : Jvm.MethodName) prog_5_method_4_code (3 : Nat) (Option.some Jvm.ClassFile.FieldType.double)).before args0 about1 = true := code_word (m := ⟨2, 2⟩) (meth := k2m2) (c := k2c2) (by decide +kernel) rfl rfl rfl (by decide +kernel)
set_option maxRecDepth 65536 in
theorem w_c4 : (Jvm.Cond.code ({ cls := "com/example/rigorous_layout/rigorouslayout/DistinctCount", name := "add", desc := "(J)V" } : Jvm.MethodName) prog_5_method_2_code (3 : Nat) (Option.none : Option Jvm.ClassFile.FieldType)).before args0 about1 = true := code_word (m := ⟨2, 1⟩) (meth := k2m1) (c := k2c1) (by decide +kernel) rfl rfl rfl (by decide +kernel)
set_option maxRecDepth 65536 in
theorem w_c5 : (Jvm.Cond.code ({ cls := "com/example/rigorous_layout/rigorouslayout/DistinctCount", name := "rank", desc := "(J)J" } : Jvm.MethodName) prog_5_method_6_code (4 : Nat) (Option.some Jvm.ClassFile.FieldType.long)).before args0 about1 = true := code_word (m := ⟨2, 4⟩) (meth := k2m4) (c := k2c4) (by decide +kernel) rfl rfl rfl (by decide +kernel)
set_option maxRecDepth 65536 in
theorem w_c6 : (Jvm.Cond.code ({ cls := "com/example/rigorous_layout/rigorouslayout/DistinctCount", name := "insert", desc := "(J)V" } : Jvm.MethodName) prog_5_method_5_code (4 : Nat) (Option.none : Option Jvm.ClassFile.FieldType)).before args0 about1 = true := code_word (m := ⟨2, 3⟩) (meth := k2m3) (c := k2c3) (by decide +kernel) rfl rfl rfl (by decide +kernel)
set_option maxRecDepth 65536 in
theorem w_c7 : (Jvm.Cond.code ({ cls := "java/util/Arrays", name := "binarySearch", desc := "([JIIJ)I" } : Jvm.MethodName) jdk_65_method_55_code (5 : Nat) (Option.some Jvm.ClassFile.FieldType.int)).before args0 about1 = true := code_word (m := ⟨3, 2⟩) (meth := k3m2) (c := k3c2) (by decide +kernel) rfl rfl rfl (by decide +kernel)
set_option maxRecDepth 65536 in
theorem w_c8 : (Jvm.Cond.code ({ cls := "java/util/Arrays", name := "rangeCheck", desc := "(III)V" } : Jvm.MethodName) jdk_65_method_30_code (3 : Nat) (Option.none : Option Jvm.ClassFile.FieldType)).before args0 about1 = true := code_word (m := ⟨3, 1⟩) (meth := k3m1) (c := k3c1) (by decide +kernel) rfl rfl rfl (by decide +kernel)
set_option maxRecDepth 65536 in
theorem w_c9 : (Jvm.Cond.code ({ cls := "java/util/Arrays", name := "binarySearch0", desc := "([JIIJ)I" } : Jvm.MethodName) jdk_65_method_56_code (10 : Nat) (Option.some Jvm.ClassFile.FieldType.int)).before args0 about1 = true := code_word (m := ⟨3, 3⟩) (meth := k3m3) (c := k3c3) (by decide +kernel) rfl rfl rfl (by decide +kernel)
set_option maxRecDepth 65536 in
theorem w_c10 : (Jvm.Cond.code ({ cls := "java/lang/Math", name := "min", desc := "(II)I" } : Jvm.MethodName) jdk_29_method_69_code (2 : Nat) (Option.some Jvm.ClassFile.FieldType.int)).before args0 about1 = true := code_word (m := ⟨5, 1⟩) (meth := k5m1) (c := k5c1) (by decide +kernel) rfl rfl rfl (by decide +kernel)
set_option maxRecDepth 65536 in
theorem w_c11 : (Jvm.Cond.code ({ cls := "java/util/Arrays", name := "copyOf", desc := "([JI)[J" } : Jvm.MethodName) jdk_65_method_124_code (3 : Nat) (Option.some (Jvm.ClassFile.FieldType.array Jvm.ClassFile.FieldType.long))).before args0 about1 = true := code_word (m := ⟨3, 4⟩) (meth := k3m4) (c := k3c4) (by decide +kernel) rfl rfl rfl (by decide +kernel)
def codes1 : List Jvm.Cond := [Jvm.Cond.code x code maxLocals ret, Jvm.Cond.code ({ cls := "com/example/rigorous_layout/rigorouslayout/DistinctCount", name := "<init>", desc := "()V" } : Jvm.MethodName) prog_5_method_1_code (1 : Nat) (Option.none : Option Jvm.ClassFile.FieldType), Jvm.Cond.code ({ cls := "java/lang/Object", name := "<init>", desc := "()V" } : Jvm.MethodName) object_method_1_code (1 : Nat) (Option.none : Option Jvm.ClassFile.FieldType), Jvm.Cond.code ({ cls := "com/example/rigorous_layout/rigorouslayout/DistinctCount", name := "count", desc := "()D" } : Jvm.MethodName) prog_5_method_4_code (3 : Nat) (Option.some Jvm.ClassFile.FieldType.double), Jvm.Cond.code ({ cls := "com/example/rigorous_layout/rigorouslayout/DistinctCount", name := "add", desc := "(J)V" } : Jvm.MethodName) prog_5_method_2_code (3 : Nat) (Option.none : Option Jvm.ClassFile.FieldType), Jvm.Cond.code ({ cls := "com/example/rigorous_layout/rigorouslayout/DistinctCount", name := "rank", desc := "(J)J" } : Jvm.MethodName) prog_5_method_6_code (4 : Nat) (Option.some Jvm.ClassFile.FieldType.long), Jvm.Cond.code ({ cls := "com/example/rigorous_layout/rigorouslayout/DistinctCount", name := "insert", desc := "(J)V" } : Jvm.MethodName) prog_5_method_5_code (4 : Nat) (Option.none : Option Jvm.ClassFile.FieldType), Jvm.Cond.code ({ cls := "java/util/Arrays", name := "binarySearch", desc := "([JIIJ)I" } : Jvm.MethodName) jdk_65_method_55_code (5 : Nat) (Option.some Jvm.ClassFile.FieldType.int), Jvm.Cond.code ({ cls := "java/util/Arrays", name := "rangeCheck", desc := "(III)V" } : Jvm.MethodName) jdk_65_method_30_code (3 : Nat) (Option.none : Option Jvm.ClassFile.FieldType), Jvm.Cond.code ({ cls := "java/util/Arrays", name := "binarySearch0", desc := "([JIIJ)I" } : Jvm.MethodName) jdk_65_method_56_code (10 : Nat) (Option.some Jvm.ClassFile.FieldType.int), Jvm.Cond.code ({ cls := "java/lang/Math", name := "min", desc := "(II)I" } : Jvm.MethodName) jdk_29_method_69_code (2 : Nat) (Option.some Jvm.ClassFile.FieldType.int), Jvm.Cond.code ({ cls := "java/util/Arrays", name := "copyOf", desc := "([JI)[J" } : Jvm.MethodName) jdk_65_method_124_code (3 : Nat) (Option.some (Jvm.ClassFile.FieldType.array Jvm.ClassFile.FieldType.long))]
set_option maxRecDepth 65536 in
theorem codes_eq : words1.filter isCode = codes1 := rfl
theorem w_codes : ∀ c ∈ words1.filter isCode, c.before args0 about1 = true := by
  rw [codes_eq]
  intro c hc
  simp only [codes1, List.mem_cons, List.not_mem_nil, or_false] at hc
  rcases hc with rfl | rfl | rfl | rfl | rfl | rfl | rfl | rfl | rfl | rfl | rfl | rfl
  · exact w_c0
  · exact w_c1
  · exact w_c2
  · exact w_c3
  · exact w_c4
  · exact w_c5
  · exact w_c6
  · exact w_c7
  · exact w_c8
  · exact w_c9
  · exact w_c10
  · exact w_c11
set_option maxRecDepth 65536 in
theorem w_t1 : (words1.take 24).all (fun c => isCode c || c.before args0 about1) = true := by decide +kernel
set_option maxRecDepth 65536 in
theorem w_t2 : ((words1.drop 24).take 24).all (fun c => isCode c || c.before args0 about1) = true := by decide +kernel
set_option maxRecDepth 65536 in
theorem w_t3 : ((words1.drop 24).drop 24).all (fun c => isCode c || c.before args0 about1) = true := by decide +kernel
theorem w_tables : (allAtoms (Jvm.Cond.code x code maxLocals ret :: tables_1)).before args0 about1 = true := by
  rw [allAtoms_all]
  show words1.all (fun c => c.before args0 about1) = true
  refine all_split ?_ w_codes
  rw [← List.take_append_drop 24 words1, List.all_append, w_t1, ← List.take_append_drop 24 (words1.drop 24), List.all_append, w_t2, w_t3]
  rfl
set_option maxRecDepth 65536 in
theorem w_case : (Jvm.Cond.and given_1 narrow_1).before args0 about1 = true := by decide +kernel
theorem w_applies : (headSpec (Jvm.Cond.code x code maxLocals ret :: tables_1) room_1).applies x e0.platform about1 = true :=
  (Spec.applies_iff w_frames).mpr ⟨w_running, w_runnable, w_alone, w_named, w_hears, w_ripe, w_room, w_tables⟩
theorem atStart : AtStart classFile x code maxLocals ret World_1 tables_1 room_1 Calls_1 rest_1 Pre_1 launch0 p0 e0 about1 theMethod args0 below0 :=
  ⟨lists_1, trivial, launch0.admits_env _ _ _, launch0.least_env, fairChoices_fair.cas, fairChoices_fair.clock, w_frames, w_args, w_heap, w_applies, trivial, trivial, w_case⟩
end start1
theorem witness_1 : WitnessClaimed_1 := ⟨start1.p0, start1.e0, start1.about1, start1.theMethod, start1.args0, start1.below0, start1.atStart⟩
end Jvm.Pilot.@@N@@
