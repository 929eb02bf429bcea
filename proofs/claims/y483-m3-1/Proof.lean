import JvmDerived
import JvmDerived.Pilot.@@N@@Statement
import JvmDerived.Pilot.@@N@@Code
set_option linter.unusedVariables false
set_option linter.unusedSimpArgs false
namespace Jvm.Pilot.@@N@@
open Jvm Jvm.ClassFile Sem Op Lib Jvm.Free Jvm.Stand Jvm.LawKit Jvm.RoadKit Bundle Jvm.Pilot.@@N@@.Jvm.D
section OwnKit
variable {p : Program} {l : Launch} {e : Env} {R : Room} {s : State} {m : MethodId} {args : Array Value} {below : List Frame} {meth : Method} {c : Code} {T : State} {locs : List Loc} {cells slots : Nat}
/-- from here the run comes to a state of which K holds -/
def Go (tb : Tables) (e : Env) (below : List Frame) (K : State → Prop) (T : State) : Prop := ∃ U, Steps tb e below T U ∧ K U
theorem Go.st {tb : Tables} {K : State → Prop} {T T' : State} (h : ∀ U, Steps tb e below T' U → Steps tb e below T U) (g : Go tb e below K T') : Go tb e below K T := by
  obtain ⟨U, h1, h2⟩ := g; exact ⟨U, h U h1, h2⟩
theorem Go.tr {tb : Tables} {K : State → Prop} {T T' : State} (h : Steps tb e below T T') (g : Go tb e below K T') : Go tb e below K T := by
  obtain ⟨U, h1, h2⟩ := g; exact ⟨U, h.trans h1, h2⟩
/-- where a body may end -/
def own_Fin (s : State) (below : List Frame) (CC SS : Nat) (Q : Option Value → Heap → List Loc → Prop) (U : State) : Prop :=
  ∃ o, U.status = .running ∧ Ended U below o ∧ ∃ v L, o = .returned v ∧ Q v U.heap L ∧ FrameEnd s o U L CC SS
theorem own_start {tb : Tables} {CC SS : Nat} {Q : Option Value → Heap → List Loc → Prop} {T : State} (g : Go tb e below (own_Fin s below CC SS Q) T) :
    ∃ s₂ o, Steps tb e below T s₂ ∧ s₂.status = .running ∧ Ended s₂ below o ∧ ∃ v L, o = .returned v ∧ Q v s₂.heap L ∧ FrameEnd s o s₂ L CC SS := by
  obtain ⟨U, h1, o, h2, h3, h4⟩ := g; exact ⟨U, o, h1, h2, h3, h4⟩
theorem own_cast {tb : Tables} {K : State → Prop} {f f' : JFrame} (q : f = f') (g : Go tb e below K (T.setTop f')) : Go tb e below K (T.setTop f) := q ▸ g
section Ends
variable {CC SS : Nat} {Q : Option Value → Heap → List Loc → Prop}
theorem own_end (X : Stand p l e R s m args below meth c T locs cells slots) (hlocks : meth.locks = false) {v : Option Value} (hv : meth.sig.returnType = none → v = none) {f : JFrame}
    (k : ∀ fs, (∀ (f : JFrame) (acts : List Action), f.method = m → f.locked = none → f.entered = [] → (doReturn e (T.setTop f) acts v).1 = T.setFrames fs) → Steps p.tables e below (T.setTop f) (T.setFrames fs))
    (hq : Q v T.heap locs) (hc : cells ≤ CC) (hs : slots ≤ SS) : Go p.tables e below (own_Fin s below CC SS Q) (T.setTop f) := by
  obtain ⟨fs, hr, hrun, hended, hW, hsame⟩ := X.leave (v := v) hv hlocks
  exact ⟨_, k fs hr, _, hrun, hended, _, _, rfl, hq, ⟨_, rfl⟩, hW, hsame.mono hc hs⟩
theorem own_ret0 (X : Stand p l e R s m args below meth c T locs cells slots) (hx : p.tables.exec = Jvm.exec) (hlocks : meth.locks = false) {pc : Nat} {Ls : Array Slot} (hret : meth.sig.returnType = none) (hd : decode c.code pc = .ok (.return_, 1))
    (hq : Q none T.heap locs) (hc : cells ≤ CC) (hs : slots ≤ SS) : Go p.tables e below (own_Fin s below CC SS Q) (T.setTop (mkF m pc Ls [])) :=
  own_end X hlocks (fun _ => rfl) (fun _ hr => X.returnOut hx hret hd hr) hq hc hs
theorem own_retN (X : Stand p l e R s m args below meth c T locs cells slots) (hx : p.tables.exec = Jvm.exec) (hlocks : meth.locks = false) {pc : Nat} {Ls : Array Slot} {z : Int32} {t : FieldType} {rest : List Value} (hret : meth.sig.returnType = some t) (ht : t = .boolean ∨ t = .byte ∨ t = .char ∨ t = .short) (hd : decode c.code pc = .ok (.ireturn, 1))
    (hq : Q (some (.int (nar t z))) T.heap locs) (hc : cells ≤ CC) (hs : slots ≤ SS) : Go p.tables e below (own_Fin s below CC SS Q) (T.setTop (mkF m pc Ls (.int z :: rest))) :=
  own_end X hlocks (fun h => by rw [hret] at h; cases h) (fun _ hr => retN X hx hret ht hd hr) hq hc hs
theorem own_retO (X : Stand p l e R s m args below meth c T locs cells slots) (hx : p.tables.exec = Jvm.exec) (hlocks : meth.locks = false) {pc : Nat} {Ls : Array Slot} {w : Value} {t : FieldType} {i : Instr} {rest : List Value} (hret : meth.sig.returnType = some t) (hn : narrow t w = w)
    (hi : (i = .ireturn ∧ (t = .int ∨ t = .boolean ∨ t = .byte ∨ t = .char ∨ t = .short) ∧ ∃ z, w = .int z) ∨ (i = .lreturn ∧ t = .long ∧ ∃ z, w = .long z) ∨ (i = .dreturn ∧ t = .double ∧ ∃ z, w = .double z) ∨ (i = .freturn ∧ t = .float ∧ ∃ z, w = .float z) ∨ (i = .areturn ∧ t.isReference = true ∧ w.isRef = true))
    (hd : decode c.code pc = .ok (i, 1)) (hq : Q (some w) T.heap locs) (hc : cells ≤ CC) (hs : slots ≤ SS) : Go p.tables e below (own_Fin s below CC SS Q) (T.setTop (mkF m pc Ls (w :: rest))) :=
  own_end X hlocks (fun h => by rw [hret] at h; cases h) (fun _ hr => retOut X hx hret hn hi hd hr) hq hc hs
end Ends
end OwnKit

def own_k (ks : List Int64) (i : Nat) : Int64 := ks.getD i 0
def own_c (cs : List Int32) (i : Nat) : Int32 := cs.getD i 0
def own_Stop (ks : List Int64) (cs : List Int32) (key : Int64) (i : Nat) : Prop := own_c cs i = 0 ∨ own_k ks i = key
/-- the probe's way from the home H of the key comes to i -/
def own_Slot (N : Nat) (H : Int64 → Nat) (ks : List Int64) (cs : List Int32) (key : Int64) (i : Nat) : Prop :=
  ∃ d, i = (H key + d) % N ∧ d < N ∧ own_Stop ks cs key i ∧ ∀ d', d' < d → ¬ own_Stop ks cs key ((H key + d') % N)
theorem own_Slot.uniq {N : Nat} {H : Int64 → Nat} {ks : List Int64} {cs : List Int32} {key : Int64} {i j : Nat} (a : own_Slot N H ks cs key i) (b : own_Slot N H ks cs key j) : i = j := by
  obtain ⟨d, rfl, h1, h2, h3⟩ := a
  obtain ⟨d', rfl, g1, g2, g3⟩ := b
  rcases Nat.lt_trichotomy d d' with h | h | h
  · exact absurd h2 (g3 d h)
  · rw [h]
  · exact absurd g2 (h3 d' h)
theorem own_Slot.lt {N : Nat} {H : Int64 → Nat} {ks : List Int64} {cs : List Int32} {key : Int64} {i : Nat} (hN : 0 < N) (a : own_Slot N H ks cs key i) : i < N := by
  obtain ⟨d, rfl, -⟩ := a; exact Nat.mod_lt _ hN
def own_Inv (N : Nat) (H : Int64 → Nat) (ks : List Int64) (cs : List Int32) (M : Int64 → Int) : Prop :=
  (∀ i, i < N → own_c cs i ≠ 0 → own_Slot N H ks cs (own_k ks i) i ∧ (own_c cs i).toInt = M (own_k ks i)) ∧ ∀ key, M key ≠ 0 → ∃ i, i < N ∧ own_c cs i ≠ 0 ∧ own_k ks i = key
theorem own_inv_query {N : Nat} {H : Int64 → Nat} {ks : List Int64} {cs : List Int32} {M : Int64 → Int} {key : Int64} {s : Nat} (hN : 0 < N) (I : own_Inv N H ks cs M) (S : own_Slot N H ks cs key s) : (own_c cs s).toInt = M key := by
  by_cases h : own_c cs s = 0
  · by_cases q : M key = 0
    · rw [h, q]; rfl
    · obtain ⟨i, h1, h2, h3⟩ := I.2 key q
      have := (I.1 i h1 h2).1
      rw [h3] at this
      have e := this.uniq S
      subst e; exact absurd h h2
  · have hs : own_k ks s = key := by
      obtain ⟨d, -, -, h2, -⟩ := S
      exact h2.resolve_left h
    rw [(I.1 s (S.lt hN) h).2, hs]
theorem own_k_set {ks : List Int64} {i j : Nat} {x : Int64} (hi : i < ks.length) : own_k (ks.set i x) j = if j = i then x else own_k ks j := by
  unfold own_k
  simp only [List.getD_eq_getElem?_getD, List.getElem?_set]
  by_cases h : i = j
  · subst h; simp [hi]
  · simp [h, Ne.symm h]
theorem own_c_set {cs : List Int32} {i j : Nat} {x : Int32} (hi : i < cs.length) : own_c (cs.set i x) j = if j = i then x else own_c cs j := by
  unfold own_c
  simp only [List.getD_eq_getElem?_getD, List.getElem?_set]
  by_cases h : i = j
  · subst h; simp [hi]
  · simp [h, Ne.symm h]
/-- a new key is laid into the empty place that its probe found -/
theorem own_inv_ins {N : Nat} {H : Int64 → Nat} {ks : List Int64} {cs : List Int32} {M : Int64 → Int} {key : Int64} {s : Nat} {c : Int32} (hN : 0 < N) (lk : ks.length = N) (lc : cs.length = N) (I : own_Inv N H ks cs M) (S : own_Slot N H ks cs key s) (h0 : own_c cs s = 0) (hc : c ≠ 0) :
    M key = 0 ∧ own_Inv N H (ks.set s key) (cs.set s c) (fun k => if k = key then c.toInt else M k) := by
  have hs := S.lt hN
  have hM : M key = 0 := by rw [← own_inv_query hN I S, h0]; rfl
  have st : ∀ (k : Int64) (i : Nat), i ≠ s → (own_Stop (ks.set s key) (cs.set s c) k i ↔ own_Stop ks cs k i) := fun k i h => by
    unfold own_Stop; rw [own_k_set (by omega), own_c_set (by omega), if_neg h, if_neg h]
  refine ⟨hM, fun i hi h => ?_, fun k hk => ?_⟩
  · by_cases e : i = s
    · subst e
      rw [own_k_set (by omega), own_c_set (by omega), if_pos rfl, if_pos rfl]
      obtain ⟨d, e1, e2, e3, e4⟩ := S
      refine ⟨⟨d, e1, e2, Or.inr (by rw [own_k_set (by omega), if_pos rfl]), fun d' hd => ?_⟩, (if_pos rfl).symm⟩
      have q := e4 d' hd
      have ne : (H key + d') % N ≠ i := fun z => q (Or.inl (by rw [z]; exact h0))
      rw [st _ _ ne]; exact q
    · rw [own_c_set (by omega), if_neg e] at h
      rw [own_k_set (by omega), own_c_set (by omega), if_neg e, if_neg e]
      obtain ⟨⟨d, e1, e2, e3, e4⟩, e5⟩ := I.1 i hi h
      refine ⟨⟨d, e1, e2, (st _ _ e).mpr e3, fun d' hd => ?_⟩, ?_⟩
      · have q := e4 d' hd
        have ne : (H (own_k ks i) + d') % N ≠ s := fun z => q (Or.inl (by rw [z]; exact h0))
        rw [st _ _ ne]; exact q
      · have ne : own_k ks i ≠ key := fun z => by
          rw [z, hM] at e5
          exact h (Int32.toInt_inj.mp e5)
        simp only [if_neg ne]; exact e5
  · by_cases e : k = key
    · exact ⟨s, hs, by rw [own_c_set (by omega), if_pos rfl]; exact hc, by rw [own_k_set (by omega), if_pos rfl]; exact e.symm⟩
    · simp only [if_neg e] at hk
      obtain ⟨i, h1, h2, h3⟩ := I.2 k hk
      have ne : i ≠ s := fun z => by subst z; exact h2 h0
      exact ⟨i, h1, by rw [own_c_set (by omega), if_neg ne]; exact h2, by rw [own_k_set (by omega), if_neg ne]; exact h3⟩
/-- a key that is there is counted up -/
theorem own_inv_inc {N : Nat} {H : Int64 → Nat} {ks : List Int64} {cs : List Int32} {M : Int64 → Int} {key : Int64} {s : Nat} {c : Int32} (hN : 0 < N) (lk : ks.length = N) (lc : cs.length = N) (I : own_Inv N H ks cs M) (S : own_Slot N H ks cs key s) (h0 : own_c cs s ≠ 0) (hc : c ≠ 0) :
    own_Inv N H ks (cs.set s c) (fun k => if k = key then c.toInt else M k) := by
  have hs := S.lt hN
  have hk : own_k ks s = key := by
    obtain ⟨d, -, -, h2, -⟩ := S
    exact h2.resolve_left h0
  have z0 : ∀ i, own_c (cs.set s c) i = 0 ↔ own_c cs i = 0 := fun i => by
    rw [own_c_set (by omega)]
    by_cases e : i = s
    · subst e; rw [if_pos rfl]; exact ⟨fun z => absurd z hc, fun z => absurd z h0⟩
    · rw [if_neg e]
  have st : ∀ (k : Int64) (i : Nat), (own_Stop ks (cs.set s c) k i ↔ own_Stop ks cs k i) := fun k i => by unfold own_Stop; rw [z0]
  refine ⟨fun i hi h => ?_, fun k hk' => ?_⟩
  · have h' : own_c cs i ≠ 0 := fun z => h ((z0 i).mpr z)
    obtain ⟨⟨d, e1, e2, e3, e4⟩, e5⟩ := I.1 i hi h'
    refine ⟨⟨d, e1, e2, (st _ _).mpr e3, fun d' hd q => e4 d' hd ((st _ _).mp q)⟩, ?_⟩
    by_cases e : i = s
    · subst e; rw [own_c_set (by omega), if_pos rfl]; simp only [if_pos hk]
    · rw [own_c_set (by omega), if_neg e]
      have ne : own_k ks i ≠ key := fun z => by
        have := (I.1 i hi h').1
        rw [z] at this
        exact e (this.uniq S)
      simp only [if_neg ne]; exact e5
  · by_cases e : k = key
    · exact ⟨s, hs, by rw [Ne, z0]; exact h0, hk.trans e.symm⟩
    · simp only [if_neg e] at hk'
      obtain ⟨i, h1, h2, h3⟩ := I.2 k hk'
      exact ⟨i, h1, by rw [Ne, z0]; exact h2, h3⟩
theorem own_c_rep (n i : Nat) : own_c (List.replicate n 0) i = 0 := by
  unfold own_c; simp [List.getD_eq_getElem?_getD, List.getElem?_replicate]; split <;> rfl
theorem own_inv_new {N : Nat} {H : Int64 → Nat} {ks : List Int64} : own_Inv N H ks (List.replicate N 0) (fun _ => 0) :=
  ⟨fun i _ h => absurd (own_c_rep N i) h, fun _ h => absurd rfl h⟩
def own_used (cs : List Int32) : Nat := cs.countP (fun c => c != 0)
theorem own_used_set {cs : List Int32} {s : Nat} {c : Int32} (hs : s < cs.length) (hc : c ≠ 0) : own_used (cs.set s c) = if own_c cs s = 0 then own_used cs + 1 else own_used cs := by
  unfold own_used
  rw [List.countP_set hs]
  have e : own_c cs s = cs[s] := by unfold own_c; simp [List.getD_eq_getElem?_getD, hs]
  have p : 0 < cs.countP (fun c => c != 0) ∨ cs[s] = 0 := by
    by_cases q : cs[s] = 0
    · exact Or.inr q
    · left; exact List.countP_pos_iff.mpr ⟨cs[s], List.getElem_mem hs, by simpa using q⟩
  rw [e]
  by_cases q : cs[s] = 0
  · simp [q, hc]
  · have := p.resolve_right q
    simp [q, hc]; omega
theorem own_used_rep (n : Nat) : own_used (List.replicate n 0) = 0 := by unfold own_used; simp [List.countP_replicate]
theorem own_empty {cs : List Int32} (h : own_used cs < cs.length) : ∃ i, i < cs.length ∧ own_c cs i = 0 := by
  apply Classical.byContradiction
  intro hn
  have : own_used cs = cs.length := by
    unfold own_used
    rw [List.countP_eq_length]
    intro c hc
    obtain ⟨i, hi, rfl⟩ := List.getElem_of_mem hc
    have q : own_c cs i ≠ 0 := fun z => hn ⟨i, hi, z⟩
    have e : own_c cs i = cs[i] := by unfold own_c; simp [List.getD_eq_getElem?_getD, hi]
    rw [e] at q; simpa using q
  omega
/-- with an empty place the probe ends -/
theorem own_slot_ex {N : Nat} {H : Int64 → Nat} {ks : List Int64} {cs : List Int32} {key : Int64} (hH : H key < N) (he : ∃ i, i < N ∧ own_c cs i = 0) : ∃ d, d < N ∧ own_Stop ks cs key ((H key + d) % N) ∧ ∀ d', d' < d → ¬ own_Stop ks cs key ((H key + d') % N) := by
  obtain ⟨i, hi, h0⟩ := he
  have ex : ∃ d, d < N ∧ own_Stop ks cs key ((H key + d) % N) := by
    refine ⟨(i + N - H key) % N, Nat.mod_lt _ (by omega), Or.inl ?_⟩
    have : (H key + (i + N - H key) % N) % N = i := by
      rw [Nat.add_mod_mod, show H key + (i + N - H key) = i + N by omega, Nat.add_mod_right, Nat.mod_eq_of_lt hi]
    rw [this]; exact h0
  obtain ⟨d, hd⟩ := ex
  induction d using Nat.strongRecOn with
  | ind d ih =>
    by_cases q : ∃ d', d' < d ∧ own_Stop ks cs key ((H key + d') % N)
    · obtain ⟨d', q1, q2⟩ := q
      exact ih d' q1 ⟨by omega, q2⟩
    · exact ⟨d, hd.1, hd.2, fun d' h z => q ⟨d', h, z⟩⟩

theorem own_Inv.congr {N : Nat} {H : Int64 → Nat} {ks : List Int64} {cs : List Int32} {M M' : Int64 → Int} (I : own_Inv N H ks cs M) (e : ∀ k, M k = M' k) : own_Inv N H ks cs M' := by
  have : M = M' := funext e
  subst this; exact I
def own_zOK (z : Int32) : Prop := z = 2 ∨ z = 4 ∨ z = 8 ∨ z = 16
def own_home (key : Int64) (m : Int32) : Int32 := (((key ^^^ ((key.toUInt64 >>> ((32 : Int32) &&& 0x3f).toInt64.toUInt64).toInt64)).toInt32) &&& m)
def own_H (z : Int32) (key : Int64) : Nat := (own_home key (z - 1)).toNatClampNeg
theorem own_lt32 (x y : Int32) : x < y ↔ x.toInt < y.toInt := Int32.lt_iff_toInt_lt
theorem own_zN {z : Int32} (hz : own_zOK z) : (z.toNatClampNeg : Int) = z.toInt ∧ 2 ≤ z.toInt ∧ z.toInt ≤ 16 := by
  rcases hz with rfl | rfl | rfl | rfl <;> decide
theorem own_mask {z : Int32} (hz : own_zOK z) (x : Int32) : (x &&& (z - 1)).toInt = x.toInt % z.toInt := by
  rcases hz with rfl | rfl | rfl | rfl
  · rw [c_mask x _ 1 (by decide) (by decide)]; rfl
  · rw [c_mask x _ 2 (by decide) (by decide)]; rfl
  · rw [c_mask x _ 3 (by decide) (by decide)]; rfl
  · rw [c_mask x _ 4 (by decide) (by decide)]; rfl
theorem own_nat {i : Int32} (h : 0 ≤ i.toInt) : (i.toNatClampNeg : Int) = i.toInt := Int.toNat_of_nonneg h
theorem own_home_rng {z : Int32} (hz : own_zOK z) (key : Int64) : 0 ≤ (own_home key (z - 1)).toInt ∧ (own_home key (z - 1)).toInt < z.toInt := by
  have h := own_mask hz ((key ^^^ ((key.toUInt64 >>> ((32 : Int32) &&& 0x3f).toInt64.toUInt64).toInt64)).toInt32)
  have := own_zN hz
  unfold own_home
  rw [h]
  exact ⟨Int.emod_nonneg _ (by omega), Int.emod_lt_of_pos _ (by omega)⟩
theorem own_H_lt {z : Int32} (hz : own_zOK z) (key : Int64) : own_H z key < z.toNatClampNeg := by
  have h := own_home_rng hz key
  have h1 := own_nat h.1
  have h2 := own_zN hz
  unfold own_H; omega
theorem own_next {z i : Int32} (hz : own_zOK z) (hi : 0 ≤ i.toInt ∧ i.toInt < z.toInt) : (0 ≤ ((i + 1) &&& (z - 1)).toInt ∧ ((i + 1) &&& (z - 1)).toInt < z.toInt) ∧ ((i + 1) &&& (z - 1)).toNatClampNeg = (i.toNatClampNeg + 1) % z.toNatClampNeg := by
  have h := own_mask hz (i + 1)
  have hN := own_zN hz
  have h1 := c_iadd i 1
  rw [show (1 : Int32).toInt = 1 from by decide] at h1
  have r1 := rng32 (i + 1)
  have e : (i + 1).toInt = i.toInt + 1 := by omega
  rw [e] at h
  have p1 : 0 ≤ (i.toInt + 1) % z.toInt := Int.emod_nonneg _ (by omega)
  have p2 : (i.toInt + 1) % z.toInt < z.toInt := Int.emod_lt_of_pos _ (by omega)
  refine ⟨by rw [h]; exact ⟨p1, p2⟩, ?_⟩
  have q1 := own_nat (i := (i + 1) &&& (z - 1)) (by rw [h]; exact p1)
  have q2 := own_nat hi.1
  apply Int.ofNat.inj
  show (((i + 1) &&& (z - 1)).toNatClampNeg : Int) = (((i.toNatClampNeg + 1) % z.toNatClampNeg : Nat) : Int)
  rw [q1, h, Int.natCast_emod, hN.1]
  congr 1
  rw [Int.natCast_add, q2]; rfl
theorem own_inb {i z : Int32} (h : 0 ≤ i.toInt ∧ i.toInt < z.toInt) : ¬ i < 0 ∧ i < z := by
  rw [own_lt32, own_lt32, show (0 : Int32).toInt = 0 from by decide]; omega
theorem own_idx {i z : Int32} {n : Nat} (h : 0 ≤ i.toInt ∧ i.toInt < z.toInt) (hn : n = z.toNatClampNeg) : i.toNatClampNeg < n := by
  have h1 := own_nat h.1
  have h2 := own_nat (i := z) (by omega)
  omega
theorem own_gL (ks : List Int64) (i : Nat) : (ks.map Value.long).getD i (.long 0) = .long (own_k ks i) := by
  unfold own_k; simp only [List.getD_eq_getElem?_getD, List.getElem?_map]; cases ks[i]? <;> rfl
theorem own_gI (cs : List Int32) (i : Nat) : (cs.map Value.int).getD i (.int 0) = .int (own_c cs i) := by
  unfold own_c; simp only [List.getD_eq_getElem?_getD, List.getElem?_map]; cases cs[i]? <;> rfl
theorem own_k_rep (n i : Nat) : own_k (List.replicate n 0) i = 0 := by
  unfold own_k; simp only [List.getD_eq_getElem?_getD, List.getElem?_replicate]; split <;> rfl
theorem own_repL (n : Nat) : ∀ i, ((List.replicate n (0 : Int64)).map Value.long).getD i (.long 0) = ([] : List Value).getD i (.long 0) := fun i => by rw [own_gL, own_k_rep]; rfl
theorem own_repI (n : Nat) : ∀ i, ((List.replicate n (0 : Int32)).map Value.int).getD i (.int 0) = ([] : List Value).getD i (.int 0) := fun i => by rw [own_gI, own_c_rep]; rfl
def own_max (a b : Int32) : Int32 := if a < b then b else a
def own_min (a b : Int32) : Int32 := if b < a then b else a
def own_nlz (x : Int32) : Int32 := if x < 4 then ((31 : Int32) - ((x.toUInt32 >>> ((1 : Int32) &&& 31).toUInt32).toInt32)) else (((31 : Int32) + (-2 : Int32)) - ((((x.toUInt32 >>> ((2 : Int32) &&& 31).toUInt32).toInt32).toUInt32 >>> ((1 : Int32) &&& 31).toUInt32).toInt32))
def own_hob (x : Int32) : Int32 := (x &&& (((-2147483648 : Int32).toUInt32 >>> (own_nlz x &&& 31).toUInt32).toInt32))
/-- the tally as it stands: M says how often each key was added -/
def own_TB (Z : State) (h : Heap) (n0 : Nat) (a : Addr) (M : Int64 → Int) (b : Int) : Prop := ∃ (ka ca : Addr) (kk kc : ClassId) (z sz : Int32) (ks : List Int64) (cs : List Int32),
  Exa Z h a "com/example/rigorous_layout/rigorouslayout/Tally" ∧ Fld Z h a "com/example/rigorous_layout/rigorouslayout/Tally" "keys" "[J" (.ref ka) ∧ Fld Z h a "com/example/rigorous_layout/rigorouslayout/Tally" "counts" "[I" (.ref ca) ∧ Fld Z h a "com/example/rigorous_layout/rigorouslayout/Tally" "size" "I" (.int sz) ∧
  Arv Z h ka kk .long z (ks.map Value.long) (.long (0 : Int64)) ∧ Arv Z h ca kc .int z (cs.map Value.int) (.int (0 : Int32)) ∧ n0 ≤ ka ∧ n0 ≤ ca ∧ ka ≠ ca ∧ ka ≠ a ∧ ca ≠ a ∧
  own_zOK z ∧ ks.length = z.toNatClampNeg ∧ cs.length = z.toNatClampNeg ∧ own_Inv z.toNatClampNeg (own_H z) ks cs M ∧ (own_used cs : Int) = sz.toInt ∧ sz.toInt ≤ b ∧ 2 * sz.toInt ≤ z.toInt
theorem own_room {z sz : Int32} {cs : List Int32} (hz : own_zOK z) (lc : cs.length = z.toNatClampNeg) (hu : (own_used cs : Int) = sz.toInt) (h2 : 2 * sz.toInt ≤ z.toInt) : ∃ i, i < z.toNatClampNeg ∧ own_c cs i = 0 := by
  have hN := own_zN hz
  obtain ⟨i, h1, h3⟩ := own_empty (cs := cs) (by omega)
  exact ⟨i, by omega, h3⟩
/-- how far the laying over has come: the first i places of the old table lie in the new one -/
def own_G (N : Nat) (zz : Int32) (ks : List Int64) (cs : List Int32) (M : Int64 → Int) (i : Nat) (ks' : List Int64) (cs' : List Int32) : Prop :=
  ks'.length = zz.toNatClampNeg ∧ cs'.length = zz.toNatClampNeg ∧ own_used cs' = own_used (cs.take i) ∧ ∃ M' : Int64 → Int, own_Inv zz.toNatClampNeg (own_H zz) ks' cs' M' ∧ (∀ j, j < i → own_c cs j ≠ 0 → M' (own_k ks j) = M (own_k ks j)) ∧ ∀ key, M' key ≠ 0 → ∃ j, j < i ∧ own_c cs j ≠ 0 ∧ own_k ks j = key
theorem own_take {cs : List Int32} {i : Nat} (hi : i < cs.length) : own_used (cs.take (i + 1)) = own_used (cs.take i) + (if own_c cs i = 0 then 0 else 1) := by
  have e : own_c cs i = cs[i] := by unfold own_c; simp [List.getD_eq_getElem?_getD, hi]
  rw [e]
  unfold own_used
  rw [List.take_succ, List.countP_append, List.getElem?_eq_getElem hi]
  by_cases q : cs[i] = 0
  · simp [q]
  · simp [q]
theorem own_G_zero {N : Nat} {zz : Int32} {ks : List Int64} {cs : List Int32} {M : Int64 → Int} {n : Nat} (hn : n = zz.toNatClampNeg) : own_G N zz ks cs M 0 (List.replicate n 0) (List.replicate n 0) := by
  subst hn
  refine ⟨by simp, by simp, by rw [own_used_rep]; simp [own_used], fun _ => 0, own_inv_new, fun j hj => absurd hj (Nat.not_lt_zero _), fun key h => absurd rfl h⟩
theorem own_G_skip {N : Nat} {zz : Int32} {ks ks' : List Int64} {cs cs' : List Int32} {M : Int64 → Int} {i : Nat} (hi : i < cs.length) (h0 : own_c cs i = 0) (G : own_G N zz ks cs M i ks' cs') : own_G N zz ks cs M (i + 1) ks' cs' := by
  obtain ⟨g1, g2, g3, M', g4, g5, g6⟩ := G
  refine ⟨g1, g2, by rw [own_take hi, if_pos h0, g3]; rfl, M', g4, fun j hj hc => ?_, fun key hk => ?_⟩
  · by_cases e : j = i
    · subst e; exact absurd h0 hc
    · exact g5 j (by omega) hc
  · obtain ⟨j, q1, q2⟩ := g6 key hk
    exact ⟨j, by omega, q2⟩
theorem own_G_put {N : Nat} {H : Int64 → Nat} {zz : Int32} {ks ks' : List Int64} {cs cs' : List Int32} {M : Int64 → Int} {i s : Nat} (hN : 0 < zz.toNatClampNeg) (hi : i < cs.length) (hiN : cs.length = N) (I : own_Inv N H ks cs M) (h0 : own_c cs i ≠ 0) (G : own_G N zz ks cs M i ks' cs') (S : own_Slot zz.toNatClampNeg (own_H zz) ks' cs' (own_k ks i) s) :
    own_G N zz ks cs M (i + 1) (ks'.set s (own_k ks i)) (cs'.set s (own_c cs i)) := by
  obtain ⟨g1, g2, g3, M', g4, g5, g6⟩ := G
  have hM' : M' (own_k ks i) = 0 := by
    apply Classical.byContradiction
    intro q
    obtain ⟨j, q1, q2, q3⟩ := g6 _ q
    have a := (I.1 j (by omega) q2).1
    have b := (I.1 i (by omega) h0).1
    rw [q3] at a
    have := a.uniq b
    omega
  have hs := S.lt hN
  have hc0 : own_c cs' s = 0 := Int32.toInt_inj.mp (by rw [own_inv_query hN g4 S, hM']; rfl)
  obtain ⟨-, J⟩ := own_inv_ins hN g1 g2 g4 S hc0 h0
  refine ⟨by simp [g1], by simp [g2], ?_, _, J, fun j hj hc => ?_, fun key hk => ?_⟩
  · rw [own_take hi, if_neg h0, own_used_set (by omega) h0, if_pos hc0, g3]
  · by_cases e : own_k ks j = own_k ks i
    · rw [if_pos e, e, (I.1 i (by omega) h0).2]
    · rw [if_neg e]
      have : j ≠ i := fun z => e (by rw [z])
      exact g5 j (by omega) hc
  · by_cases e : key = own_k ks i
    · exact ⟨i, by omega, h0, e.symm⟩
    · rw [if_neg e] at hk
      obtain ⟨j, q1, q2⟩ := g6 key hk
      exact ⟨j, by omega, q2⟩
theorem own_G_end {N : Nat} {H : Int64 → Nat} {zz : Int32} {ks ks' : List Int64} {cs cs' : List Int32} {M : Int64 → Int} {i : Nat} (hi : i = N) (hiN : cs.length = N) (I : own_Inv N H ks cs M) (G : own_G N zz ks cs M i ks' cs') : own_Inv zz.toNatClampNeg (own_H zz) ks' cs' M ∧ own_used cs' = own_used cs := by
  obtain ⟨g1, g2, g3, M', g4, g5, g6⟩ := G
  subst hi
  refine ⟨g4.congr fun k => ?_, by rw [g3, ← hiN, List.take_length]⟩
  by_cases q : M k = 0
  · apply Classical.byContradiction
    intro z
    have : M' k ≠ 0 := fun y => z (y.trans q.symm)
    obtain ⟨j, q1, q2, q3⟩ := g6 k this
    have e := (I.1 j q1 q2).2
    rw [q3, q] at e
    exact q2 (Int32.toInt_inj.mp e)
  · obtain ⟨j, q1, q2, q3⟩ := I.2 k q
    have := g5 j q1 q2
    rw [q3] at this; exact this
theorem own_G_room {N : Nat} {zz : Int32} {ks ks' : List Int64} {cs cs' : List Int32} {M : Int64 → Int} {i : Nat} (hN : N < zz.toNatClampNeg) (hiN : cs.length = N) (G : own_G N zz ks cs M i ks' cs') : ∃ j, j < zz.toNatClampNeg ∧ own_c cs' j = 0 := by
  obtain ⟨g1, g2, g3, -⟩ := G
  have h1 : own_used (cs.take i) ≤ (cs.take i).length := List.countP_le_length
  have h2 : (cs.take i).length ≤ cs.length := by simp; omega
  obtain ⟨j, q1, q2⟩ := own_empty (cs := cs') (by omega)
  exact ⟨j, by omega, q2⟩

theorem d3_0 : decode jdk_29_method_69_code 0 = .ok (.iload_n 0, 1) := by decide +kernel
theorem d3_1 : decode jdk_29_method_69_code 1 = .ok (.iload_n 1, 1) := by decide +kernel
theorem d3_2 : decode jdk_29_method_69_code 2 = .ok (.if_icmp .gt 7, 3) := by decide +kernel
theorem d3_5 : decode jdk_29_method_69_code 5 = .ok (.iload_n 0, 1) := by decide +kernel
theorem d3_6 : decode jdk_29_method_69_code 6 = .ok (.goto 4, 3) := by decide +kernel
theorem d3_9 : decode jdk_29_method_69_code 9 = .ok (.iload_n 1, 1) := by decide +kernel
theorem d3_10 : decode jdk_29_method_69_code 10 = .ok (.ireturn, 1) := by decide +kernel
theorem pn_3 : plainFor (⟨"java/lang/Math", "min", "(II)I"⟩ : MethodName) = true := by decide +kernel
theorem ef_3 (m : MethodId) (x0 : Int32) (x1 : Int32) : entryFrame m #[(.int x0), (.int x1)] 2 = mkF m 0 #[.val (.int x0), .val (.int x1)] [] := by first | (simp [entryFrame, mkF, argsToLocals, Value.category]; done) | rfl
def Q3 (Z : State) (p1 : Int32) (p2 : Int32)  (h0 : Heap) (n0 : Nat) (v : Option Value) (h : Heap) (L : List Loc) : Prop := v = some (.int (own_min p1 p2)) ∧ Fr n0 L ∧ h = h0
set_option maxRecDepth 65536 in
set_option maxHeartbeats 40000000 in
theorem rm3 (l : Launch) (Z : State) (a0 : Array Value) (hw : ∀ d ∈ tables_1, d.before a0 Z = true) (ws : List Jvm.Cond) (p1 : Int32) (p2 : Int32)  (h0 : Heap) (n0 : Nat) (Z0 : n0 ≤ h0.size) :
    MetFree l (⟨"java/lang/Math", "min", "(II)I"⟩ : MethodName) (head1 (Jvm.Cond.code (⟨"java/lang/Math", "min", "(II)I"⟩ : MethodName) jdk_29_method_69_code 2 (some .int) :: ws) ({ frames := 0, cells := 0, slots := 0, locals := 0 } : Room)) (fun a U => a = #[(.int p1), (.int p2)] ∧ Z.Warmed39 U.vm ∧ U.heap = h0) (fun _ _ _ _ _ => True) (fun _ U o U' => ∃ v L, o = .returned v ∧ Q3 Z p1 p2 h0 n0 v U'.heap L ∧ FrameEnd U o U' L ({ frames := 0, cells := 0, slots := 0, locals := 0 } : Room).cells ({ frames := 0, cells := 0, slots := 0, locals := 0 } : Room).slots) := by
  refine MetFree.of_bodySF pn_3 hisR ?_
  intro p e s m args below meth c s₁ Bd hml0 hP hK
  obtain ⟨rfl, hZ, hh⟩ := hP
  have hx := Bd.exec
  have hby := Bd.bytes
  have hml : c.maxLocals = 2 := hml0
  have hown : s.vm.findClass "java/lang/Math" = some m.cls := findClass_of_methodNamed Bd.named
  have hnm := (name_of_methodNamed Bd.named Bd.method).1
  have X0 : Stand p l e ({ frames := 0, cells := 0, slots := 0, locals := 0 } : Room) s m #[(.int p1), (.int p2)] below meth c s₁ [] 0 0 := Stand.of_body Bd
  have e0 : s₁.heap = h0 := by rw [← hh, Bd.state]; rfl
  have N0 := Fr.nil n0
  refine own_start (Q := Q3 Z p1 p2 h0 n0) (own_cast (ef_3 m p1 p2) ?_)
  show Go p.tables e below _ (s₁.setTop (mkF m 0 #[.val (.int p1), .val (.int p2)] []))
  refine Go.st (fun U hr => XS.iloadN X0.here hx rfl (hb hby d3_0) rfl hr) ?_
  show Go p.tables e below _ (s₁.setTop (mkF m 1 #[.val (.int p1), .val (.int p2)] [(.int p1)]))
  refine Go.st (fun U hr => XS.iloadN X0.here hx rfl (hb hby d3_1) rfl hr) ?_
  show Go p.tables e below _ (s₁.setTop (mkF m 2 #[.val (.int p1), .val (.int p2)] [(.int p2), (.int p1)]))
  by_cases hc2_1 : p2 < p1
  · refine Go.st (fun U hr => XS.icmpYes X0.here hx rfl (pc0 := 2) (pc' := 9) rfl (hb hby d3_2) rfl (tlt hc2_1).2.2.1 (by decide) (by decide) hr) ?_
    show Go p.tables e below _ (s₁.setTop (mkF m 9 #[.val (.int p1), .val (.int p2)] []))
    refine Go.st (fun U hr => XS.iloadN X0.here hx rfl (hb hby d3_9) rfl hr) ?_
    show Go p.tables e below _ (s₁.setTop (mkF m 10 #[.val (.int p1), .val (.int p2)] [(.int p2)]))
    exact own_retO X0 hx Bd.notSynchronized (t := .int) Bd.returns rfl (Or.inl ⟨rfl, Or.inl rfl, _, rfl⟩) (hb hby d3_10) ⟨by simp [own_min, hc2_1], N0, e0⟩ (by decide) (by decide)
  · refine Go.st (fun U hr => XS.icmpNo X0.here hx rfl (hb hby d3_2) rfl (flt hc2_1).2.2.1 hr) ?_
    show Go p.tables e below _ (s₁.setTop (mkF m 5 #[.val (.int p1), .val (.int p2)] []))
    refine Go.st (fun U hr => XS.iloadN X0.here hx rfl (hb hby d3_5) rfl hr) ?_
    show Go p.tables e below _ (s₁.setTop (mkF m 6 #[.val (.int p1), .val (.int p2)] [(.int p1)]))
    refine Go.st (fun U hr => XS.goto X0.here hx rfl (pc0 := 6) (pc' := 10) rfl (hb hby d3_6) (by decide) (by decide) hr) ?_
    show Go p.tables e below _ (s₁.setTop (mkF m 10 #[.val (.int p1), .val (.int p2)] [(.int p1)]))
    exact own_retO X0 hx Bd.notSynchronized (t := .int) Bd.returns rfl (Or.inl ⟨rfl, Or.inl rfl, _, rfl⟩) (hb hby d3_10) ⟨by simp [own_min, hc2_1], N0, e0⟩ (by decide) (by decide)
theorem d4_0 : decode jdk_29_method_65_code 0 = .ok (.iload_n 0, 1) := by decide +kernel
theorem d4_1 : decode jdk_29_method_65_code 1 = .ok (.iload_n 1, 1) := by decide +kernel
theorem d4_2 : decode jdk_29_method_65_code 2 = .ok (.if_icmp .lt 7, 3) := by decide +kernel
theorem d4_5 : decode jdk_29_method_65_code 5 = .ok (.iload_n 0, 1) := by decide +kernel
theorem d4_6 : decode jdk_29_method_65_code 6 = .ok (.goto 4, 3) := by decide +kernel
theorem d4_9 : decode jdk_29_method_65_code 9 = .ok (.iload_n 1, 1) := by decide +kernel
theorem d4_10 : decode jdk_29_method_65_code 10 = .ok (.ireturn, 1) := by decide +kernel
theorem pn_4 : plainFor (⟨"java/lang/Math", "max", "(II)I"⟩ : MethodName) = true := by decide +kernel
theorem ef_4 (m : MethodId) (x0 : Int32) (x1 : Int32) : entryFrame m #[(.int x0), (.int x1)] 2 = mkF m 0 #[.val (.int x0), .val (.int x1)] [] := by first | (simp [entryFrame, mkF, argsToLocals, Value.category]; done) | rfl
def Q4 (Z : State) (p1 : Int32) (p2 : Int32)  (h0 : Heap) (n0 : Nat) (v : Option Value) (h : Heap) (L : List Loc) : Prop := v = some (.int (own_max p1 p2)) ∧ Fr n0 L ∧ h = h0
set_option maxRecDepth 65536 in
set_option maxHeartbeats 40000000 in
theorem rm4 (l : Launch) (Z : State) (a0 : Array Value) (hw : ∀ d ∈ tables_1, d.before a0 Z = true) (ws : List Jvm.Cond) (p1 : Int32) (p2 : Int32)  (h0 : Heap) (n0 : Nat) (Z0 : n0 ≤ h0.size) :
    MetFree l (⟨"java/lang/Math", "max", "(II)I"⟩ : MethodName) (head1 (Jvm.Cond.code (⟨"java/lang/Math", "max", "(II)I"⟩ : MethodName) jdk_29_method_65_code 2 (some .int) :: ws) ({ frames := 0, cells := 0, slots := 0, locals := 0 } : Room)) (fun a U => a = #[(.int p1), (.int p2)] ∧ Z.Warmed39 U.vm ∧ U.heap = h0) (fun _ _ _ _ _ => True) (fun _ U o U' => ∃ v L, o = .returned v ∧ Q4 Z p1 p2 h0 n0 v U'.heap L ∧ FrameEnd U o U' L ({ frames := 0, cells := 0, slots := 0, locals := 0 } : Room).cells ({ frames := 0, cells := 0, slots := 0, locals := 0 } : Room).slots) := by
  refine MetFree.of_bodySF pn_4 hisR ?_
  intro p e s m args below meth c s₁ Bd hml0 hP hK
  obtain ⟨rfl, hZ, hh⟩ := hP
  have hx := Bd.exec
  have hby := Bd.bytes
  have hml : c.maxLocals = 2 := hml0
  have hown : s.vm.findClass "java/lang/Math" = some m.cls := findClass_of_methodNamed Bd.named
  have hnm := (name_of_methodNamed Bd.named Bd.method).1
  have X0 : Stand p l e ({ frames := 0, cells := 0, slots := 0, locals := 0 } : Room) s m #[(.int p1), (.int p2)] below meth c s₁ [] 0 0 := Stand.of_body Bd
  have e0 : s₁.heap = h0 := by rw [← hh, Bd.state]; rfl
  have N0 := Fr.nil n0
  refine own_start (Q := Q4 Z p1 p2 h0 n0) (own_cast (ef_4 m p1 p2) ?_)
  show Go p.tables e below _ (s₁.setTop (mkF m 0 #[.val (.int p1), .val (.int p2)] []))
  refine Go.st (fun U hr => XS.iloadN X0.here hx rfl (hb hby d4_0) rfl hr) ?_
  show Go p.tables e below _ (s₁.setTop (mkF m 1 #[.val (.int p1), .val (.int p2)] [(.int p1)]))
  refine Go.st (fun U hr => XS.iloadN X0.here hx rfl (hb hby d4_1) rfl hr) ?_
  show Go p.tables e below _ (s₁.setTop (mkF m 2 #[.val (.int p1), .val (.int p2)] [(.int p2), (.int p1)]))
  by_cases hc2_1 : p1 < p2
  · refine Go.st (fun U hr => XS.icmpYes X0.here hx rfl (pc0 := 2) (pc' := 9) rfl (hb hby d4_2) rfl (tlt hc2_1).1 (by decide) (by decide) hr) ?_
    show Go p.tables e below _ (s₁.setTop (mkF m 9 #[.val (.int p1), .val (.int p2)] []))
    refine Go.st (fun U hr => XS.iloadN X0.here hx rfl (hb hby d4_9) rfl hr) ?_
    show Go p.tables e below _ (s₁.setTop (mkF m 10 #[.val (.int p1), .val (.int p2)] [(.int p2)]))
    exact own_retO X0 hx Bd.notSynchronized (t := .int) Bd.returns rfl (Or.inl ⟨rfl, Or.inl rfl, _, rfl⟩) (hb hby d4_10) ⟨by simp [own_max, hc2_1], N0, e0⟩ (by decide) (by decide)
  · refine Go.st (fun U hr => XS.icmpNo X0.here hx rfl (hb hby d4_2) rfl (flt hc2_1).1 hr) ?_
    show Go p.tables e below _ (s₁.setTop (mkF m 5 #[.val (.int p1), .val (.int p2)] []))
    refine Go.st (fun U hr => XS.iloadN X0.here hx rfl (hb hby d4_5) rfl hr) ?_
    show Go p.tables e below _ (s₁.setTop (mkF m 6 #[.val (.int p1), .val (.int p2)] [(.int p1)]))
    refine Go.st (fun U hr => XS.goto X0.here hx rfl (pc0 := 6) (pc' := 10) rfl (hb hby d4_6) (by decide) (by decide) hr) ?_
    show Go p.tables e below _ (s₁.setTop (mkF m 10 #[.val (.int p1), .val (.int p2)] [(.int p1)]))
    exact own_retO X0 hx Bd.notSynchronized (t := .int) Bd.returns rfl (Or.inl ⟨rfl, Or.inl rfl, _, rfl⟩) (hb hby d4_10) ⟨by simp [own_max, hc2_1], N0, e0⟩ (by decide) (by decide)
theorem d6_0 : decode jdk_33_method_47_code 0 = .ok (.iload_n 0, 1) := by decide +kernel
theorem d6_1 : decode jdk_33_method_47_code 1 = .ok (.ifCond .gt 14, 3) := by decide +kernel
theorem d6_15 : decode jdk_33_method_47_code 15 = .ok (.bipush 31, 2) := by decide +kernel
theorem d6_17 : decode jdk_33_method_47_code 17 = .ok (.istore_n 1, 1) := by decide +kernel
theorem d6_18 : decode jdk_33_method_47_code 18 = .ok (.iload_n 0, 1) := by decide +kernel
theorem d6_19 : decode jdk_33_method_47_code 19 = .ok (.ldc_w 264, 3) := by decide +kernel
theorem d6_22 : decode jdk_33_method_47_code 22 = .ok (.if_icmp .lt 11, 3) := by decide +kernel
theorem d6_33 : decode jdk_33_method_47_code 33 = .ok (.iload_n 0, 1) := by decide +kernel
theorem d6_34 : decode jdk_33_method_47_code 34 = .ok (.sipush 256, 3) := by decide +kernel
theorem d6_37 : decode jdk_33_method_47_code 37 = .ok (.if_icmp .lt 11, 3) := by decide +kernel
theorem d6_48 : decode jdk_33_method_47_code 48 = .ok (.iload_n 0, 1) := by decide +kernel
theorem d6_49 : decode jdk_33_method_47_code 49 = .ok (.bipush 16, 2) := by decide +kernel
theorem d6_51 : decode jdk_33_method_47_code 51 = .ok (.if_icmp .lt 10, 3) := by decide +kernel
theorem d6_61 : decode jdk_33_method_47_code 61 = .ok (.iload_n 0, 1) := by decide +kernel
theorem d6_62 : decode jdk_33_method_47_code 62 = .ok (.iconst 4, 1) := by decide +kernel
theorem d6_63 : decode jdk_33_method_47_code 63 = .ok (.if_icmp .lt 10, 3) := by decide +kernel
theorem d6_66 : decode jdk_33_method_47_code 66 = .ok (.iinc 1 (-2), 3) := by decide +kernel
theorem d6_69 : decode jdk_33_method_47_code 69 = .ok (.iload_n 0, 1) := by decide +kernel
theorem d6_70 : decode jdk_33_method_47_code 70 = .ok (.iconst 2, 1) := by decide +kernel
theorem d6_71 : decode jdk_33_method_47_code 71 = .ok (.iushr, 1) := by decide +kernel
theorem d6_72 : decode jdk_33_method_47_code 72 = .ok (.istore_n 0, 1) := by decide +kernel
theorem d6_73 : decode jdk_33_method_47_code 73 = .ok (.iload_n 1, 1) := by decide +kernel
theorem d6_74 : decode jdk_33_method_47_code 74 = .ok (.iload_n 0, 1) := by decide +kernel
theorem d6_75 : decode jdk_33_method_47_code 75 = .ok (.iconst 1, 1) := by decide +kernel
theorem d6_76 : decode jdk_33_method_47_code 76 = .ok (.iushr, 1) := by decide +kernel
theorem d6_77 : decode jdk_33_method_47_code 77 = .ok (.isub, 1) := by decide +kernel
theorem d6_78 : decode jdk_33_method_47_code 78 = .ok (.ireturn, 1) := by decide +kernel
theorem pn_6 : plainFor (⟨"java/lang/Integer", "numberOfLeadingZeros", "(I)I"⟩ : MethodName) = true := plainFor_of_name (by first | (simp [plainName, overriddenIn]; done) | decide +kernel)
theorem ef_6 (m : MethodId) (x0 : Int32) : entryFrame m #[(.int x0)] 2 = mkF m 0 #[.val (.int x0), .unset] [] := by first | (simp [entryFrame, mkF, argsToLocals, Value.category]; done) | rfl
def Q6 (Z : State) (p1 : Int32)  (h0 : Heap) (n0 : Nat) (v : Option Value) (h : Heap) (L : List Loc) : Prop := v = some (.int (own_nlz p1)) ∧ Fr n0 L ∧ h = h0
set_option maxRecDepth 65536 in
set_option maxHeartbeats 40000000 in
theorem rm6 (l : Launch) (Z : State) (a0 : Array Value) (hw : ∀ d ∈ tables_1, d.before a0 Z = true) (ws : List Jvm.Cond) (p1 : Int32)  (h0 : Heap) (n0 : Nat) (Z0 : n0 ≤ h0.size) (hp : 0 < p1.toInt ∧ p1.toInt < 16) :
    MetFree l (⟨"java/lang/Integer", "numberOfLeadingZeros", "(I)I"⟩ : MethodName) (head1 (Jvm.Cond.code (⟨"java/lang/Integer", "numberOfLeadingZeros", "(I)I"⟩ : MethodName) jdk_33_method_47_code 2 (some .int) :: ws) ({ frames := 0, cells := 0, slots := 0, locals := 0 } : Room)) (fun a U => a = #[(.int p1)] ∧ Z.Warmed39 U.vm ∧ U.heap = h0) (fun _ _ _ _ _ => True) (fun _ U o U' => ∃ v L, o = .returned v ∧ Q6 Z p1 h0 n0 v U'.heap L ∧ FrameEnd U o U' L ({ frames := 0, cells := 0, slots := 0, locals := 0 } : Room).cells ({ frames := 0, cells := 0, slots := 0, locals := 0 } : Room).slots) := by
  refine MetFree.of_bodySF pn_6 hisR ?_
  intro p e s m args below meth c s₁ Bd hml0 hP hK
  obtain ⟨rfl, hZ, hh⟩ := hP
  have hx := Bd.exec
  have hby := Bd.bytes
  have hml : c.maxLocals = 2 := hml0
  have hown : s.vm.findClass "java/lang/Integer" = some m.cls := findClass_of_methodNamed Bd.named
  have hnm := (name_of_methodNamed Bd.named Bd.method).1
  have X0 : Stand p l e ({ frames := 0, cells := 0, slots := 0, locals := 0 } : Room) s m #[(.int p1)] below meth c s₁ [] 0 0 := Stand.of_body Bd
  have e0 : s₁.heap = h0 := by rw [← hh, Bd.state]; rfl
  have N0 := Fr.nil n0
  refine own_start (Q := Q6 Z p1 h0 n0) (own_cast (ef_6 m p1) ?_)
  show Go p.tables e below _ (s₁.setTop (mkF m 0 #[.val (.int p1), .unset] []))
  refine Go.st (fun U hr => XS.iloadN X0.here hx rfl (hb hby d6_0) rfl hr) ?_
  show Go p.tables e below _ (s₁.setTop (mkF m 1 #[.val (.int p1), .unset] [(.int p1)]))
  have hc1_1 : (0 : Int32) < p1 := (by rw [own_lt32, show (0 : Int32).toInt = 0 from by decide]; omega)
  refine Go.st (fun U hr => XS.ifYes X0.here hx rfl (pc0 := 1) (pc' := 15) rfl (hb hby d6_1) rfl ((if0 _ _).trans (tlt hc1_1).2.2.1) (by decide) (by decide) hr) ?_
  show Go p.tables e below _ (s₁.setTop (mkF m 15 #[.val (.int p1), .unset] []))
  refine Go.st (fun U hr => XS.bipush X0.here hx rfl (hb hby d6_15) hr) ?_
  show Go p.tables e below _ (s₁.setTop (mkF m 17 #[.val (.int p1), .unset] [(.int (31 : Int32))]))
  refine Go.st (fun U hr => XS.istoreN X0.here hx rfl (hb hby d6_17) rfl (l' := #[.val (.int p1), .val (.int (31 : Int32))]) rfl hr) ?_
  show Go p.tables e below _ (s₁.setTop (mkF m 18 #[.val (.int p1), .val (.int (31 : Int32))] []))
  refine Go.st (fun U hr => XS.iloadN X0.here hx rfl (hb hby d6_18) rfl hr) ?_
  show Go p.tables e below _ (s₁.setTop (mkF m 19 #[.val (.int p1), .val (.int (31 : Int32))] [(.int p1)]))
  refine Go.st (X0.ldcwInt hx hown (mvT hZ (hw _ (List.mem_of_getElem? (i := 25) rfl))) (g := (mkF m 19 #[.val (.int p1), .val (.int (31 : Int32))] [(.int p1)])) rfl (hb hby d6_19)) ?_
  show Go p.tables e below _ (s₁.setTop (mkF m 22 #[.val (.int p1), .val (.int (31 : Int32))] [(.int (65536 : Int32)), (.int p1)]))
  have hc22_2 : p1 < (65536 : Int32) := (by rw [own_lt32, show (65536 : Int32).toInt = 65536 from by decide]; omega)
  refine Go.st (fun U hr => XS.icmpYes X0.here hx rfl (pc0 := 22) (pc' := 33) rfl (hb hby d6_22) rfl (tlt hc22_2).1 (by decide) (by decide) hr) ?_
  show Go p.tables e below _ (s₁.setTop (mkF m 33 #[.val (.int p1), .val (.int (31 : Int32))] []))
  refine Go.st (fun U hr => XS.iloadN X0.here hx rfl (hb hby d6_33) rfl hr) ?_
  show Go p.tables e below _ (s₁.setTop (mkF m 34 #[.val (.int p1), .val (.int (31 : Int32))] [(.int p1)]))
  refine Go.st (fun U hr => XS.sipush X0.here hx rfl (hb hby d6_34) hr) ?_
  show Go p.tables e below _ (s₁.setTop (mkF m 37 #[.val (.int p1), .val (.int (31 : Int32))] [(.int (256 : Int32)), (.int p1)]))
  have hc37_3 : p1 < (256 : Int32) := (by rw [own_lt32, show (256 : Int32).toInt = 256 from by decide]; omega)
  refine Go.st (fun U hr => XS.icmpYes X0.here hx rfl (pc0 := 37) (pc' := 48) rfl (hb hby d6_37) rfl (tlt hc37_3).1 (by decide) (by decide) hr) ?_
  show Go p.tables e below _ (s₁.setTop (mkF m 48 #[.val (.int p1), .val (.int (31 : Int32))] []))
  refine Go.st (fun U hr => XS.iloadN X0.here hx rfl (hb hby d6_48) rfl hr) ?_
  show Go p.tables e below _ (s₁.setTop (mkF m 49 #[.val (.int p1), .val (.int (31 : Int32))] [(.int p1)]))
  refine Go.st (fun U hr => XS.bipush X0.here hx rfl (hb hby d6_49) hr) ?_
  show Go p.tables e below _ (s₁.setTop (mkF m 51 #[.val (.int p1), .val (.int (31 : Int32))] [(.int (16 : Int32)), (.int p1)]))
  have hc51_4 : p1 < (16 : Int32) := (by rw [own_lt32, show (16 : Int32).toInt = 16 from by decide]; omega)
  refine Go.st (fun U hr => XS.icmpYes X0.here hx rfl (pc0 := 51) (pc' := 61) rfl (hb hby d6_51) rfl (tlt hc51_4).1 (by decide) (by decide) hr) ?_
  show Go p.tables e below _ (s₁.setTop (mkF m 61 #[.val (.int p1), .val (.int (31 : Int32))] []))
  refine Go.st (fun U hr => XS.iloadN X0.here hx rfl (hb hby d6_61) rfl hr) ?_
  show Go p.tables e below _ (s₁.setTop (mkF m 62 #[.val (.int p1), .val (.int (31 : Int32))] [(.int p1)]))
  refine Go.st (fun U hr => XS.iconst X0.here hx rfl (hb hby d6_62) hr) ?_
  show Go p.tables e below _ (s₁.setTop (mkF m 63 #[.val (.int p1), .val (.int (31 : Int32))] [(.int (4 : Int32)), (.int p1)]))
  by_cases hc63_5 : p1 < (4 : Int32)
  · refine Go.st (fun U hr => XS.icmpYes X0.here hx rfl (pc0 := 63) (pc' := 73) rfl (hb hby d6_63) rfl (tlt hc63_5).1 (by decide) (by decide) hr) ?_
    show Go p.tables e below _ (s₁.setTop (mkF m 73 #[.val (.int p1), .val (.int (31 : Int32))] []))
    refine Go.st (fun U hr => XS.iloadN X0.here hx rfl (hb hby d6_73) rfl hr) ?_
    show Go p.tables e below _ (s₁.setTop (mkF m 74 #[.val (.int p1), .val (.int (31 : Int32))] [(.int (31 : Int32))]))
    refine Go.st (fun U hr => XS.iloadN X0.here hx rfl (hb hby d6_74) rfl hr) ?_
    show Go p.tables e below _ (s₁.setTop (mkF m 75 #[.val (.int p1), .val (.int (31 : Int32))] [(.int p1), (.int (31 : Int32))]))
    refine Go.st (fun U hr => XS.iconst X0.here hx rfl (hb hby d6_75) hr) ?_
    show Go p.tables e below _ (s₁.setTop (mkF m 76 #[.val (.int p1), .val (.int (31 : Int32))] [(.int (1 : Int32)), (.int p1), (.int (31 : Int32))]))
    refine Go.st (fun U hr => XS.iushr X0.here hx rfl (hb hby d6_76) rfl hr) ?_
    show Go p.tables e below _ (s₁.setTop (mkF m 77 #[.val (.int p1), .val (.int (31 : Int32))] [(.int ((p1.toUInt32 >>> ((1 : Int32) &&& 31).toUInt32).toInt32)), (.int (31 : Int32))]))
    refine Go.st (fun U hr => XS.isub X0.here hx rfl (hb hby d6_77) rfl hr) ?_
    show Go p.tables e below _ (s₁.setTop (mkF m 78 #[.val (.int p1), .val (.int (31 : Int32))] [(.int ((31 : Int32) - ((p1.toUInt32 >>> ((1 : Int32) &&& 31).toUInt32).toInt32)))]))
    exact own_retO X0 hx Bd.notSynchronized (t := .int) Bd.returns rfl (Or.inl ⟨rfl, Or.inl rfl, _, rfl⟩) (hb hby d6_78) ⟨by simp only [own_nlz, if_pos hc63_5], N0, e0⟩ (by decide) (by decide)
  · refine Go.st (fun U hr => XS.icmpNo X0.here hx rfl (hb hby d6_63) rfl (flt hc63_5).1 hr) ?_
    show Go p.tables e below _ (s₁.setTop (mkF m 66 #[.val (.int p1), .val (.int (31 : Int32))] []))
    refine Go.st (fun U hr => XS.iinc X0.here hx rfl (hb hby d6_66) rfl (l' := #[.val (.int p1), .val (.int ((31 : Int32) + (-2 : Int32)))]) rfl hr) ?_
    show Go p.tables e below _ (s₁.setTop (mkF m 69 #[.val (.int p1), .val (.int ((31 : Int32) + (-2 : Int32)))] []))
    refine Go.st (fun U hr => XS.iloadN X0.here hx rfl (hb hby d6_69) rfl hr) ?_
    show Go p.tables e below _ (s₁.setTop (mkF m 70 #[.val (.int p1), .val (.int ((31 : Int32) + (-2 : Int32)))] [(.int p1)]))
    refine Go.st (fun U hr => XS.iconst X0.here hx rfl (hb hby d6_70) hr) ?_
    show Go p.tables e below _ (s₁.setTop (mkF m 71 #[.val (.int p1), .val (.int ((31 : Int32) + (-2 : Int32)))] [(.int (2 : Int32)), (.int p1)]))
    refine Go.st (fun U hr => XS.iushr X0.here hx rfl (hb hby d6_71) rfl hr) ?_
    show Go p.tables e below _ (s₁.setTop (mkF m 72 #[.val (.int p1), .val (.int ((31 : Int32) + (-2 : Int32)))] [(.int ((p1.toUInt32 >>> ((2 : Int32) &&& 31).toUInt32).toInt32))]))
    refine Go.st (fun U hr => XS.istoreN X0.here hx rfl (hb hby d6_72) rfl (l' := #[.val (.int ((p1.toUInt32 >>> ((2 : Int32) &&& 31).toUInt32).toInt32)), .val (.int ((31 : Int32) + (-2 : Int32)))]) rfl hr) ?_
    show Go p.tables e below _ (s₁.setTop (mkF m 73 #[.val (.int ((p1.toUInt32 >>> ((2 : Int32) &&& 31).toUInt32).toInt32)), .val (.int ((31 : Int32) + (-2 : Int32)))] []))
    refine Go.st (fun U hr => XS.iloadN X0.here hx rfl (hb hby d6_73) rfl hr) ?_
    show Go p.tables e below _ (s₁.setTop (mkF m 74 #[.val (.int ((p1.toUInt32 >>> ((2 : Int32) &&& 31).toUInt32).toInt32)), .val (.int ((31 : Int32) + (-2 : Int32)))] [(.int ((31 : Int32) + (-2 : Int32)))]))
    refine Go.st (fun U hr => XS.iloadN X0.here hx rfl (hb hby d6_74) rfl hr) ?_
    show Go p.tables e below _ (s₁.setTop (mkF m 75 #[.val (.int ((p1.toUInt32 >>> ((2 : Int32) &&& 31).toUInt32).toInt32)), .val (.int ((31 : Int32) + (-2 : Int32)))] [(.int ((p1.toUInt32 >>> ((2 : Int32) &&& 31).toUInt32).toInt32)), (.int ((31 : Int32) + (-2 : Int32)))]))
    refine Go.st (fun U hr => XS.iconst X0.here hx rfl (hb hby d6_75) hr) ?_
    show Go p.tables e below _ (s₁.setTop (mkF m 76 #[.val (.int ((p1.toUInt32 >>> ((2 : Int32) &&& 31).toUInt32).toInt32)), .val (.int ((31 : Int32) + (-2 : Int32)))] [(.int (1 : Int32)), (.int ((p1.toUInt32 >>> ((2 : Int32) &&& 31).toUInt32).toInt32)), (.int ((31 : Int32) + (-2 : Int32)))]))
    refine Go.st (fun U hr => XS.iushr X0.here hx rfl (hb hby d6_76) rfl hr) ?_
    show Go p.tables e below _ (s₁.setTop (mkF m 77 #[.val (.int ((p1.toUInt32 >>> ((2 : Int32) &&& 31).toUInt32).toInt32)), .val (.int ((31 : Int32) + (-2 : Int32)))] [(.int ((((p1.toUInt32 >>> ((2 : Int32) &&& 31).toUInt32).toInt32).toUInt32 >>> ((1 : Int32) &&& 31).toUInt32).toInt32)), (.int ((31 : Int32) + (-2 : Int32)))]))
    refine Go.st (fun U hr => XS.isub X0.here hx rfl (hb hby d6_77) rfl hr) ?_
    show Go p.tables e below _ (s₁.setTop (mkF m 78 #[.val (.int ((p1.toUInt32 >>> ((2 : Int32) &&& 31).toUInt32).toInt32)), .val (.int ((31 : Int32) + (-2 : Int32)))] [(.int (((31 : Int32) + (-2 : Int32)) - ((((p1.toUInt32 >>> ((2 : Int32) &&& 31).toUInt32).toInt32).toUInt32 >>> ((1 : Int32) &&& 31).toUInt32).toInt32)))]))
    exact own_retO X0 hx Bd.notSynchronized (t := .int) Bd.returns rfl (Or.inl ⟨rfl, Or.inl rfl, _, rfl⟩) (hb hby d6_78) ⟨by simp only [own_nlz, if_neg hc63_5], N0, e0⟩ (by decide) (by decide)
theorem d5_0 : decode jdk_33_method_45_code 0 = .ok (.iload_n 0, 1) := by decide +kernel
theorem d5_1 : decode jdk_33_method_45_code 1 = .ok (.ldc 127, 2) := by decide +kernel
theorem d5_3 : decode jdk_33_method_45_code 3 = .ok (.iload_n 0, 1) := by decide +kernel
theorem d5_4 : decode jdk_33_method_45_code 4 = .ok (.invokestatic 51, 3) := by decide +kernel
theorem d5_7 : decode jdk_33_method_45_code 7 = .ok (.iushr, 1) := by decide +kernel
theorem d5_8 : decode jdk_33_method_45_code 8 = .ok (.iand, 1) := by decide +kernel
theorem d5_9 : decode jdk_33_method_45_code 9 = .ok (.ireturn, 1) := by decide +kernel
theorem pn_5 : plainFor (⟨"java/lang/Integer", "highestOneBit", "(I)I"⟩ : MethodName) = true := plainFor_of_name (by first | (simp [plainName, overriddenIn]; done) | decide +kernel)
theorem ef_5 (m : MethodId) (x0 : Int32) : entryFrame m #[(.int x0)] 1 = mkF m 0 #[.val (.int x0)] [] := by first | (simp [entryFrame, mkF, argsToLocals, Value.category]; done) | rfl
theorem pd_0 : parseMethodDescriptor "(I)I" = some ⟨[.int], some .int⟩ := by decide +kernel
def Q5 (Z : State) (p1 : Int32)  (h0 : Heap) (n0 : Nat) (v : Option Value) (h : Heap) (L : List Loc) : Prop := v = some (.int (own_hob p1)) ∧ Fr n0 L ∧ h = h0
set_option maxRecDepth 65536 in
set_option maxHeartbeats 40000000 in
theorem rm5 (l : Launch) (Z : State) (a0 : Array Value) (hw : ∀ d ∈ tables_1, d.before a0 Z = true) (ws : List Jvm.Cond) (p1 : Int32)  (h0 : Heap) (n0 : Nat) (Z0 : n0 ≤ h0.size) (hp : 0 < p1.toInt ∧ p1.toInt < 16) :
    MetFree l (⟨"java/lang/Integer", "highestOneBit", "(I)I"⟩ : MethodName) (head1 (Jvm.Cond.code (⟨"java/lang/Integer", "highestOneBit", "(I)I"⟩ : MethodName) jdk_33_method_45_code 1 (some .int) :: ws) ({ frames := 1, cells := 0, slots := 0, locals := 15 } : Room)) (fun a U => a = #[(.int p1)] ∧ Z.Warmed39 U.vm ∧ U.heap = h0) (fun _ _ _ _ _ => True) (fun _ U o U' => ∃ v L, o = .returned v ∧ Q5 Z p1 h0 n0 v U'.heap L ∧ FrameEnd U o U' L ({ frames := 1, cells := 0, slots := 0, locals := 15 } : Room).cells ({ frames := 1, cells := 0, slots := 0, locals := 15 } : Room).slots) := by
  refine MetFree.of_bodySF pn_5 hisR ?_
  intro p e s m args below meth c s₁ Bd hml0 hP hK
  obtain ⟨rfl, hZ, hh⟩ := hP
  have hx := Bd.exec
  have hby := Bd.bytes
  have hml : c.maxLocals = 1 := hml0
  have hown : s.vm.findClass "java/lang/Integer" = some m.cls := findClass_of_methodNamed Bd.named
  have hnm := (name_of_methodNamed Bd.named Bd.method).1
  have X0 : Stand p l e ({ frames := 1, cells := 0, slots := 0, locals := 15 } : Room) s m #[(.int p1)] below meth c s₁ [] 0 0 := Stand.of_body Bd
  have e0 : s₁.heap = h0 := by rw [← hh, Bd.state]; rfl
  have N0 := Fr.nil n0
  refine own_start (Q := Q5 Z p1 h0 n0) (own_cast (ef_5 m p1) ?_)
  show Go p.tables e below _ (s₁.setTop (mkF m 0 #[.val (.int p1)] []))
  refine Go.st (fun U hr => XS.iloadN X0.here hx rfl (hb hby d5_0) rfl hr) ?_
  show Go p.tables e below _ (s₁.setTop (mkF m 1 #[.val (.int p1)] [(.int p1)]))
  refine Go.st (X0.ldcInt hx hown (mvT hZ (hw _ (List.mem_of_getElem? (i := 21) rfl))) (g := (mkF m 1 #[.val (.int p1)] [(.int p1)])) rfl (hb hby d5_1)) ?_
  show Go p.tables e below _ (s₁.setTop (mkF m 3 #[.val (.int p1)] [(.int (-2147483648 : Int32)), (.int p1)]))
  refine Go.st (fun U hr => XS.iloadN X0.here hx rfl (hb hby d5_3) rfl hr) ?_
  show Go p.tables e below _ (s₁.setTop (mkF m 4 #[.val (.int p1)] [(.int p1), (.int (-2147483648 : Int32)), (.int p1)]))
  obtain ⟨_, _, ⟨T1, L1, k1, n1⟩, -, X1, ⟨Lc1, hQ1, l1, y1, z1⟩, st1⟩ := Jvm.LawKit.callS X0 hx (y := (⟨"java/lang/Integer", "numberOfLeadingZeros", "(I)I"⟩ : MethodName)) hown (mvT hZ (hw _ (List.mem_of_getElem? (i := 22) rfl))) (mvT hZ (hw _ (List.mem_of_getElem? (i := 23) rfl))) (mvT hZ (hw _ (List.mem_of_getElem? (i := 19) rfl))) (mvT hZ (hw _ (List.mem_of_getElem? (i := 24) rfl))) (by decide) (backOf (W := 2) (rm6 l Z a0 hw [] p1 h0 n0 Z0 hp) hZ (hw _ (List.mem_of_getElem? (i := 24) rfl)) (hw _ (List.mem_of_getElem? (i := 19) rfl)) (by decide) (by decide)) (g := (mkF m 4 #[.val (.int p1)] [(.int p1), (.int (-2147483648 : Int32)), (.int p1)])) rfl (by rw [hml]; rfl) (argsL := [(.int p1)]) (rest := [(.int (-2147483648 : Int32)), (.int p1)]) (lenOf pd_0 rfl) rfl (by show 2 * 0 + _ ≤ _; exact Nat.le_of_eq rfl) (hb hby d5_4) (fun _ _ => ⟨rfl, e0, (by decide : 0 + 0 ≤ _), (by decide : 0 + 0 ≤ _)⟩)
  dsimp only [Pt.U, Pt.locs, Pt.cells, Pt.slots] at X1 l1 y1 z1 st1 hQ1
  subst l1 y1 z1
  obtain ⟨rfl, Nq1, ee1⟩ := hQ1
  have N1 := Fr.app N0 Nq1
  refine Go.st st1 ?_
  show Go p.tables e below _ (T1.setTop (mkF m 7 #[.val (.int p1)] [(.int (own_nlz p1)), (.int (-2147483648 : Int32)), (.int p1)]))
  refine Go.st (fun U hr => XS.iushr X1.here hx rfl (hb hby d5_7) rfl hr) ?_
  show Go p.tables e below _ (T1.setTop (mkF m 8 #[.val (.int p1)] [(.int (((-2147483648 : Int32).toUInt32 >>> ((own_nlz p1) &&& 31).toUInt32).toInt32)), (.int p1)]))
  refine Go.st (fun U hr => XS.iand X1.here hx rfl (hb hby d5_8) rfl hr) ?_
  show Go p.tables e below _ (T1.setTop (mkF m 9 #[.val (.int p1)] [(.int (p1 &&& (((-2147483648 : Int32).toUInt32 >>> ((own_nlz p1) &&& 31).toUInt32).toInt32)))]))
  exact own_retO X1 hx Bd.notSynchronized (t := .int) Bd.returns rfl (Or.inl ⟨rfl, Or.inl rfl, _, rfl⟩) (hb hby d5_9) ⟨rfl, N1, ee1⟩ (by decide) (by decide)
theorem d9_0 : decode prog_33_method_7_code 0 = .ok (.lload_n 0, 1) := by decide +kernel
theorem d9_1 : decode prog_33_method_7_code 1 = .ok (.lload_n 0, 1) := by decide +kernel
theorem d9_2 : decode prog_33_method_7_code 2 = .ok (.bipush 32, 2) := by decide +kernel
theorem d9_4 : decode prog_33_method_7_code 4 = .ok (.lushr, 1) := by decide +kernel
theorem d9_5 : decode prog_33_method_7_code 5 = .ok (.lxor, 1) := by decide +kernel
theorem d9_6 : decode prog_33_method_7_code 6 = .ok (.l2i, 1) := by decide +kernel
theorem d9_7 : decode prog_33_method_7_code 7 = .ok (.iload_n 2, 1) := by decide +kernel
theorem d9_8 : decode prog_33_method_7_code 8 = .ok (.iand, 1) := by decide +kernel
theorem d9_9 : decode prog_33_method_7_code 9 = .ok (.ireturn, 1) := by decide +kernel
theorem pn_9 : plainFor (⟨"com/example/rigorous_layout/rigorouslayout/Tally", "home", "(JI)I"⟩ : MethodName) = true := plainFor_of_name (by first | (simp [plainName, overriddenIn]; done) | decide +kernel)
theorem ef_9 (m : MethodId) (x0 : Int64) (x1 : Int32) : entryFrame m #[(.long x0), (.int x1)] 3 = mkF m 0 #[.val (.long x0), .second, .val (.int x1)] [] := by first | (simp [entryFrame, mkF, argsToLocals, Value.category]; done) | rfl
def Q9 (Z : State) (q1 : Int64) (p2 : Int32)  (h0 : Heap) (n0 : Nat) (v : Option Value) (h : Heap) (L : List Loc) : Prop := v = some (.int (own_home q1 p2)) ∧ Fr n0 L ∧ h = h0
set_option maxRecDepth 65536 in
set_option maxHeartbeats 40000000 in
theorem rm9 (l : Launch) (Z : State) (a0 : Array Value) (hw : ∀ d ∈ tables_1, d.before a0 Z = true) (ws : List Jvm.Cond) (q1 : Int64) (p2 : Int32)  (h0 : Heap) (n0 : Nat) (Z0 : n0 ≤ h0.size) :
    MetFree l (⟨"com/example/rigorous_layout/rigorouslayout/Tally", "home", "(JI)I"⟩ : MethodName) (head1 (Jvm.Cond.code (⟨"com/example/rigorous_layout/rigorouslayout/Tally", "home", "(JI)I"⟩ : MethodName) prog_33_method_7_code 3 (some .int) :: ws) ({ frames := 0, cells := 0, slots := 0, locals := 0 } : Room)) (fun a U => a = #[(.long q1), (.int p2)] ∧ Z.Warmed39 U.vm ∧ U.heap = h0) (fun _ _ _ _ _ => True) (fun _ U o U' => ∃ v L, o = .returned v ∧ Q9 Z q1 p2 h0 n0 v U'.heap L ∧ FrameEnd U o U' L ({ frames := 0, cells := 0, slots := 0, locals := 0 } : Room).cells ({ frames := 0, cells := 0, slots := 0, locals := 0 } : Room).slots) := by
  refine MetFree.of_bodySF pn_9 hisR ?_
  intro p e s m args below meth c s₁ Bd hml0 hP hK
  obtain ⟨rfl, hZ, hh⟩ := hP
  have hx := Bd.exec
  have hby := Bd.bytes
  have hml : c.maxLocals = 3 := hml0
  have hown : s.vm.findClass "com/example/rigorous_layout/rigorouslayout/Tally" = some m.cls := findClass_of_methodNamed Bd.named
  have hnm := (name_of_methodNamed Bd.named Bd.method).1
  have X0 : Stand p l e ({ frames := 0, cells := 0, slots := 0, locals := 0 } : Room) s m #[(.long q1), (.int p2)] below meth c s₁ [] 0 0 := Stand.of_body Bd
  have e0 : s₁.heap = h0 := by rw [← hh, Bd.state]; rfl
  have N0 := Fr.nil n0
  refine own_start (Q := Q9 Z q1 p2 h0 n0) (own_cast (ef_9 m q1 p2) ?_)
  show Go p.tables e below _ (s₁.setTop (mkF m 0 #[.val (.long q1), .second, .val (.int p2)] []))
  refine Go.st (fun U hr => XS.lloadN X0.here hx rfl (hb hby d9_0) rfl hr) ?_
  show Go p.tables e below _ (s₁.setTop (mkF m 1 #[.val (.long q1), .second, .val (.int p2)] [(.long q1)]))
  refine Go.st (fun U hr => XS.lloadN X0.here hx rfl (hb hby d9_1) rfl hr) ?_
  show Go p.tables e below _ (s₁.setTop (mkF m 2 #[.val (.long q1), .second, .val (.int p2)] [(.long q1), (.long q1)]))
  refine Go.st (fun U hr => XS.bipush X0.here hx rfl (hb hby d9_2) hr) ?_
  show Go p.tables e below _ (s₁.setTop (mkF m 4 #[.val (.long q1), .second, .val (.int p2)] [(.int (32 : Int32)), (.long q1), (.long q1)]))
  refine Go.st (fun U hr => XS.lushr X0.here hx rfl (hb hby d9_4) rfl hr) ?_
  show Go p.tables e below _ (s₁.setTop (mkF m 5 #[.val (.long q1), .second, .val (.int p2)] [(.long ((q1.toUInt64 >>> ((32 : Int32) &&& 0x3f).toInt64.toUInt64).toInt64)), (.long q1)]))
  refine Go.st (fun U hr => XS.lxor X0.here hx rfl (hb hby d9_5) rfl hr) ?_
  show Go p.tables e below _ (s₁.setTop (mkF m 6 #[.val (.long q1), .second, .val (.int p2)] [(.long (q1 ^^^ ((q1.toUInt64 >>> ((32 : Int32) &&& 0x3f).toInt64.toUInt64).toInt64)))]))
  refine Go.st (fun U hr => XS.l2i X0.here hx rfl (hb hby d9_6) rfl hr) ?_
  show Go p.tables e below _ (s₁.setTop (mkF m 7 #[.val (.long q1), .second, .val (.int p2)] [(.int ((q1 ^^^ ((q1.toUInt64 >>> ((32 : Int32) &&& 0x3f).toInt64.toUInt64).toInt64)).toInt32))]))
  refine Go.st (fun U hr => XS.iloadN X0.here hx rfl (hb hby d9_7) rfl hr) ?_
  show Go p.tables e below _ (s₁.setTop (mkF m 8 #[.val (.long q1), .second, .val (.int p2)] [(.int p2), (.int ((q1 ^^^ ((q1.toUInt64 >>> ((32 : Int32) &&& 0x3f).toInt64.toUInt64).toInt64)).toInt32))]))
  refine Go.st (fun U hr => XS.iand X0.here hx rfl (hb hby d9_8) rfl hr) ?_
  show Go p.tables e below _ (s₁.setTop (mkF m 9 #[.val (.long q1), .second, .val (.int p2)] [(.int (((q1 ^^^ ((q1.toUInt64 >>> ((32 : Int32) &&& 0x3f).toInt64.toUInt64).toInt64)).toInt32) &&& p2))]))
  exact own_retO X0 hx Bd.notSynchronized (t := .int) Bd.returns rfl (Or.inl ⟨rfl, Or.inl rfl, _, rfl⟩) (hb hby d9_9) ⟨rfl, N0, e0⟩ (by decide) (by decide)
theorem d8_0 : decode prog_33_method_6_code 0 = .ok (.aload_n 0, 1) := by decide +kernel
theorem d8_1 : decode prog_33_method_6_code 1 = .ok (.arraylength, 1) := by decide +kernel
theorem d8_2 : decode prog_33_method_6_code 2 = .ok (.iconst 1, 1) := by decide +kernel
theorem d8_3 : decode prog_33_method_6_code 3 = .ok (.isub, 1) := by decide +kernel
theorem d8_4 : decode prog_33_method_6_code 4 = .ok (.istore 4, 2) := by decide +kernel
theorem d8_6 : decode prog_33_method_6_code 6 = .ok (.lload_n 2, 1) := by decide +kernel
theorem d8_7 : decode prog_33_method_6_code 7 = .ok (.iload 4, 2) := by decide +kernel
theorem d8_9 : decode prog_33_method_6_code 9 = .ok (.invokestatic 50, 3) := by decide +kernel
theorem d8_12 : decode prog_33_method_6_code 12 = .ok (.istore 5, 2) := by decide +kernel
theorem d8_14 : decode prog_33_method_6_code 14 = .ok (.aload_n 1, 1) := by decide +kernel
theorem d8_15 : decode prog_33_method_6_code 15 = .ok (.iload 5, 2) := by decide +kernel
theorem d8_17 : decode prog_33_method_6_code 17 = .ok (.iaload, 1) := by decide +kernel
theorem d8_18 : decode prog_33_method_6_code 18 = .ok (.ifCond .eq 24, 3) := by decide +kernel
theorem d8_21 : decode prog_33_method_6_code 21 = .ok (.aload_n 0, 1) := by decide +kernel
theorem d8_22 : decode prog_33_method_6_code 22 = .ok (.iload 5, 2) := by decide +kernel
theorem d8_24 : decode prog_33_method_6_code 24 = .ok (.laload, 1) := by decide +kernel
theorem d8_25 : decode prog_33_method_6_code 25 = .ok (.lload_n 2, 1) := by decide +kernel
theorem d8_26 : decode prog_33_method_6_code 26 = .ok (.lcmp, 1) := by decide +kernel
theorem d8_27 : decode prog_33_method_6_code 27 = .ok (.ifCond .eq 15, 3) := by decide +kernel
theorem d8_30 : decode prog_33_method_6_code 30 = .ok (.iload 5, 2) := by decide +kernel
theorem d8_32 : decode prog_33_method_6_code 32 = .ok (.iconst 1, 1) := by decide +kernel
theorem d8_33 : decode prog_33_method_6_code 33 = .ok (.iadd, 1) := by decide +kernel
theorem d8_34 : decode prog_33_method_6_code 34 = .ok (.iload 4, 2) := by decide +kernel
theorem d8_36 : decode prog_33_method_6_code 36 = .ok (.iand, 1) := by decide +kernel
theorem d8_37 : decode prog_33_method_6_code 37 = .ok (.istore 5, 2) := by decide +kernel
theorem d8_39 : decode prog_33_method_6_code 39 = .ok (.goto (-25), 3) := by decide +kernel
theorem d8_42 : decode prog_33_method_6_code 42 = .ok (.iload 5, 2) := by decide +kernel
theorem d8_44 : decode prog_33_method_6_code 44 = .ok (.ireturn, 1) := by decide +kernel
theorem pn_8 : plainFor (⟨"com/example/rigorous_layout/rigorouslayout/Tally", "slot", "([J[IJ)I"⟩ : MethodName) = true := plainFor_of_name (by first | (simp [plainName, overriddenIn]; done) | decide +kernel)
theorem ef_8 (m : MethodId) (x0 : Addr) (x1 : Addr) (x2 : Int64) : entryFrame m #[(.ref x0), (.ref x1), (.long x2)] 6 = mkF m 0 #[.val (.ref x0), .val (.ref x1), .val (.long x2), .second, .unset, .unset] [] := by first | (simp [entryFrame, mkF, argsToLocals, Value.category]; done) | rfl
theorem pd_1 : parseMethodDescriptor "(JI)I" = some ⟨[.long, .int], some .int⟩ := by decide +kernel
def Q8 (Z : State) (a1 : Addr) (a2 : Addr) (q3 : Int64) (kk : ClassId) (kc : ClassId) (z : Int32) (ks : List Int64) (cs : List Int32) (h0 : Heap) (n0 : Nat) (v : Option Value) (h : Heap) (L : List Loc) : Prop := ∃ i : Int32, v = some (.int i) ∧ Fr n0 L ∧ h = h0 ∧ (0 ≤ i.toInt ∧ i.toInt < z.toInt) ∧ own_Slot z.toNatClampNeg (own_H z) ks cs q3 i.toNatClampNeg
set_option maxRecDepth 65536 in
set_option maxHeartbeats 40000000 in
theorem rm8 (l : Launch) (Z : State) (a0 : Array Value) (hw : ∀ d ∈ tables_1, d.before a0 Z = true) (ws : List Jvm.Cond) (a1 : Addr) (a2 : Addr) (q3 : Int64) (kk : ClassId) (kc : ClassId) (z : Int32) (ks : List Int64) (cs : List Int32) (h0 : Heap) (n0 : Nat) (Z0 : n0 ≤ h0.size) (V1 : Arv Z h0 a1 kk .long z (ks.map Value.long) (.long (0 : Int64))) (V2 : Arv Z h0 a2 kc .int z (cs.map Value.int) (.int (0 : Int32))) (hz : own_zOK z) (lk : ks.length = z.toNatClampNeg) (lc : cs.length = z.toNatClampNeg) (he : ∃ i, i < z.toNatClampNeg ∧ own_c cs i = 0) :
    MetFree l (⟨"com/example/rigorous_layout/rigorouslayout/Tally", "slot", "([J[IJ)I"⟩ : MethodName) (head1 (Jvm.Cond.code (⟨"com/example/rigorous_layout/rigorouslayout/Tally", "slot", "([J[IJ)I"⟩ : MethodName) prog_33_method_6_code 6 (some .int) :: ws) ({ frames := 1, cells := 0, slots := 0, locals := 14 } : Room)) (fun a U => a = #[(.ref a1), (.ref a2), (.long q3)] ∧ Z.Warmed39 U.vm ∧ U.heap = h0) (fun _ _ _ _ _ => True) (fun _ U o U' => ∃ v L, o = .returned v ∧ Q8 Z a1 a2 q3 kk kc z ks cs h0 n0 v U'.heap L ∧ FrameEnd U o U' L ({ frames := 1, cells := 0, slots := 0, locals := 14 } : Room).cells ({ frames := 1, cells := 0, slots := 0, locals := 14 } : Room).slots) := by
  refine MetFree.of_bodySF pn_8 hisR ?_
  intro p e s m args below meth c s₁ Bd hml0 hP hK
  obtain ⟨rfl, hZ, hh⟩ := hP
  have hx := Bd.exec
  have hby := Bd.bytes
  have hml : c.maxLocals = 6 := hml0
  have hown : s.vm.findClass "com/example/rigorous_layout/rigorouslayout/Tally" = some m.cls := findClass_of_methodNamed Bd.named
  have hnm := (name_of_methodNamed Bd.named Bd.method).1
  have X0 : Stand p l e ({ frames := 1, cells := 0, slots := 0, locals := 14 } : Room) s m #[(.ref a1), (.ref a2), (.long q3)] below meth c s₁ [] 0 0 := Stand.of_body Bd
  have e0 : s₁.heap = h0 := by rw [← hh, Bd.state]; rfl
  have N0 := Fr.nil n0
  refine own_start (Q := Q8 Z a1 a2 q3 kk kc z ks cs h0 n0) (own_cast (ef_8 m a1 a2 q3) ?_)
  show Go p.tables e below _ (s₁.setTop (mkF m 0 #[.val (.ref a1), .val (.ref a2), .val (.long q3), .second, .unset, .unset] []))
  refine Go.st (fun U hr => XS.aloadN X0.here hx rfl (hb hby d8_0) rfl rfl hr) ?_
  show Go p.tables e below _ (s₁.setTop (mkF m 1 #[.val (.ref a1), .val (.ref a2), .val (.long q3), .second, .unset, .unset] [(.ref a1)]))
  obtain ⟨cl1, Ar1, qa1, Sa1, Na1, Ha1, Ga1⟩ := id V1
  refine Go.st (X0.arraylength hx (by rw [e0]; exact Ar1.1) (State.isArrayOf_alike hZ.alike Ar1.2.1) (g := (mkF m 1 #[.val (.ref a1), .val (.ref a2), .val (.long q3), .second, .unset, .unset] [(.ref a1)])) rfl rfl (hb hby d8_1)) ?_
  rw [len_of Sa1 Na1]
  show Go p.tables e below _ (s₁.setTop (mkF m 2 #[.val (.ref a1), .val (.ref a2), .val (.long q3), .second, .unset, .unset] [(.int z)]))
  refine Go.st (fun U hr => XS.iconst X0.here hx rfl (hb hby d8_2) hr) ?_
  show Go p.tables e below _ (s₁.setTop (mkF m 3 #[.val (.ref a1), .val (.ref a2), .val (.long q3), .second, .unset, .unset] [(.int (1 : Int32)), (.int z)]))
  refine Go.st (fun U hr => XS.isub X0.here hx rfl (hb hby d8_3) rfl hr) ?_
  show Go p.tables e below _ (s₁.setTop (mkF m 4 #[.val (.ref a1), .val (.ref a2), .val (.long q3), .second, .unset, .unset] [(.int (z - (1 : Int32)))]))
  refine Go.st (fun U hr => XS.istore X0.here hx rfl (hb hby d8_4) rfl (l' := #[.val (.ref a1), .val (.ref a2), .val (.long q3), .second, .val (.int (z - (1 : Int32))), .unset]) rfl hr) ?_
  show Go p.tables e below _ (s₁.setTop (mkF m 6 #[.val (.ref a1), .val (.ref a2), .val (.long q3), .second, .val (.int (z - (1 : Int32))), .unset] []))
  refine Go.st (fun U hr => XS.lloadN X0.here hx rfl (hb hby d8_6) rfl hr) ?_
  show Go p.tables e below _ (s₁.setTop (mkF m 7 #[.val (.ref a1), .val (.ref a2), .val (.long q3), .second, .val (.int (z - (1 : Int32))), .unset] [(.long q3)]))
  refine Go.st (fun U hr => XS.iload X0.here hx rfl (hb hby d8_7) rfl hr) ?_
  show Go p.tables e below _ (s₁.setTop (mkF m 9 #[.val (.ref a1), .val (.ref a2), .val (.long q3), .second, .val (.int (z - (1 : Int32))), .unset] [(.int (z - (1 : Int32))), (.long q3)]))
  obtain ⟨_, _, ⟨T2, L2, k2, n2⟩, -, X2, ⟨Lc2, hQ2, l2, y2, z2⟩, st2⟩ := Jvm.LawKit.callS X0 hx (y := (⟨"com/example/rigorous_layout/rigorouslayout/Tally", "home", "(JI)I"⟩ : MethodName)) hown (mvT hZ (hw _ (List.mem_of_getElem? (i := 40) rfl))) (mvT hZ (hw _ (List.mem_of_getElem? (i := 41) rfl))) (mvT hZ (hw _ (List.mem_of_getElem? (i := 2) rfl))) (mvT hZ (hw _ (List.mem_of_getElem? (i := 42) rfl))) (by decide) (backOf (W := 0) (rm9 l Z a0 hw [] q3 (z - (1 : Int32)) h0 n0 Z0) hZ (hw _ (List.mem_of_getElem? (i := 42) rfl)) (hw _ (List.mem_of_getElem? (i := 2) rfl)) (by decide) (by decide)) (g := (mkF m 9 #[.val (.ref a1), .val (.ref a2), .val (.long q3), .second, .val (.int (z - (1 : Int32))), .unset] [(.int (z - (1 : Int32))), (.long q3)])) rfl (by rw [hml]; rfl) (argsL := [(.long q3), (.int (z - (1 : Int32)))]) (rest := []) (lenOf pd_1 rfl) rfl (by show 2 * 0 + _ ≤ _; exact Nat.le_of_eq rfl) (hb hby d8_9) (fun _ _ => ⟨rfl, e0, (by decide : 0 + 0 ≤ _), (by decide : 0 + 0 ≤ _)⟩)
  dsimp only [Pt.U, Pt.locs, Pt.cells, Pt.slots] at X2 l2 y2 z2 st2 hQ2
  subst l2 y2 z2
  obtain ⟨rfl, Nq2, ee2⟩ := hQ2
  have N2 := Fr.app N0 Nq2
  refine Go.st st2 ?_
  show Go p.tables e below _ (T2.setTop (mkF m 12 #[.val (.ref a1), .val (.ref a2), .val (.long q3), .second, .val (.int (z - (1 : Int32))), .unset] [(.int (own_home q3 (z - (1 : Int32))))]))
  refine Go.st (fun U hr => XS.istore X2.here hx rfl (hb hby d8_12) rfl (l' := #[.val (.ref a1), .val (.ref a2), .val (.long q3), .second, .val (.int (z - (1 : Int32))), .val (.int (own_home q3 (z - (1 : Int32))))]) rfl hr) ?_
  show Go p.tables e below _ (T2.setTop (mkF m 14 #[.val (.ref a1), .val (.ref a2), .val (.long q3), .second, .val (.int (z - (1 : Int32))), .val (.int (own_home q3 (z - (1 : Int32))))] []))
  obtain ⟨ds, hd1, hd2, hd3⟩ := own_slot_ex (ks := ks) (cs := cs) (N := z.toNatClampNeg) (H := own_H z) (key := q3) (own_H_lt hz q3) he
  have loop : ∀ (k d : Nat) (i : Int32), k + d = ds → (0 ≤ i.toInt ∧ i.toInt < z.toInt) → i.toNatClampNeg = (own_H z q3 + d) % z.toNatClampNeg → Go p.tables e below (own_Fin s below ({ frames := 1, cells := 0, slots := 0, locals := 14 } : Room).cells ({ frames := 1, cells := 0, slots := 0, locals := 14 } : Room).slots (Q8 Z a1 a2 q3 kk kc z ks cs h0 n0)) (T2.setTop (mkF m 14 #[.val (.ref a1), .val (.ref a2), .val (.long q3), .second, .val (.int (z - (1 : Int32))), .val (.int i)] [])) := by
    intro k
    induction k with
    | zero =>
      intro d i hk hi hid
      have ed : d = ds := by omega
      subst ed
      have hst : own_Stop ks cs q3 i.toNatClampNeg := by rw [hid]; exact hd2
      refine Go.st (fun U hr => XS.aloadN X2.here hx rfl (hb hby d8_14) rfl rfl hr) ?_
      show Go p.tables e below _ (T2.setTop (mkF m 15 #[.val (.ref a1), .val (.ref a2), .val (.long q3), .second, .val (.int (z - (1 : Int32))), .val (.int i)] [(.ref a2)]))
      refine Go.st (fun U hr => XS.iload X2.here hx rfl (hb hby d8_15) rfl hr) ?_
      show Go p.tables e below _ (T2.setTop (mkF m 17 #[.val (.ref a1), .val (.ref a2), .val (.long q3), .second, .val (.int (z - (1 : Int32))), .val (.int i)] [(.int i), (.ref a2)]))
      obtain ⟨cl3, Ar3, qa3, Sa3, Na3, Ha3, Ga3⟩ := id V2
      have hin3 : ¬ (i < 0 ∨ cl3.slots.size ≤ (i).toNatClampNeg) := inb_of Sa3 (own_inb hi)
      refine Go.st (X2.iaload hx (j := i) (v := (.int (own_c cs i.toNatClampNeg))) (by rw [ee2]; exact Ar3.1) (State.isArrayOf_alike hZ.alike Ar3.2.1) Ar3.2.2 hin3 (Ha3.at hin3 (own_gI cs _)) (g := (mkF m 17 #[.val (.ref a1), .val (.ref a2), .val (.long q3), .second, .val (.int (z - (1 : Int32))), .val (.int i)] [(.int i), (.ref a2)])) rfl rfl (hb hby d8_17)) ?_
      show Go p.tables e below _ (T2.setTop (mkF m 18 #[.val (.ref a1), .val (.ref a2), .val (.long q3), .second, .val (.int (z - (1 : Int32))), .val (.int i)] [(.int (own_c cs i.toNatClampNeg))]))
      by_cases hc18_4 : (own_c cs i.toNatClampNeg) = (0 : Int32)
      · refine Go.st (fun U hr => XS.ifYes X2.here hx rfl (pc0 := 18) (pc' := 42) rfl (hb hby d8_18) rfl ((if0 _ _).trans (teq hc18_4).1) (by decide) (by decide) hr) ?_
        show Go p.tables e below _ (T2.setTop (mkF m 42 #[.val (.ref a1), .val (.ref a2), .val (.long q3), .second, .val (.int (z - (1 : Int32))), .val (.int i)] []))
        refine Go.st (fun U hr => XS.iload X2.here hx rfl (hb hby d8_42) rfl hr) ?_
        show Go p.tables e below _ (T2.setTop (mkF m 44 #[.val (.ref a1), .val (.ref a2), .val (.long q3), .second, .val (.int (z - (1 : Int32))), .val (.int i)] [(.int i)]))
        exact own_retO X2 hx Bd.notSynchronized (t := .int) Bd.returns rfl (Or.inl ⟨rfl, Or.inl rfl, _, rfl⟩) (hb hby d8_44) ⟨i, rfl, N2, ee2, hi, d, hid, hd1, hst, hd3⟩ (by decide) (by decide)
      · refine Go.st (fun U hr => XS.ifNo X2.here hx rfl (hb hby d8_18) rfl ((if0 _ _).trans (feq hc18_4).1) hr) ?_
        show Go p.tables e below _ (T2.setTop (mkF m 21 #[.val (.ref a1), .val (.ref a2), .val (.long q3), .second, .val (.int (z - (1 : Int32))), .val (.int i)] []))
        refine Go.st (fun U hr => XS.aloadN X2.here hx rfl (hb hby d8_21) rfl rfl hr) ?_
        show Go p.tables e below _ (T2.setTop (mkF m 22 #[.val (.ref a1), .val (.ref a2), .val (.long q3), .second, .val (.int (z - (1 : Int32))), .val (.int i)] [(.ref a1)]))
        refine Go.st (fun U hr => XS.iload X2.here hx rfl (hb hby d8_22) rfl hr) ?_
        show Go p.tables e below _ (T2.setTop (mkF m 24 #[.val (.ref a1), .val (.ref a2), .val (.long q3), .second, .val (.int (z - (1 : Int32))), .val (.int i)] [(.int i), (.ref a1)]))
        obtain ⟨cl5, Ar5, qa5, Sa5, Na5, Ha5, Ga5⟩ := id V1
        have hin5 : ¬ (i < 0 ∨ cl5.slots.size ≤ (i).toNatClampNeg) := inb_of Sa5 (own_inb hi)
        refine Go.st (X2.laload hx (j := i) (v := (.long (own_k ks i.toNatClampNeg))) (by rw [ee2]; exact Ar5.1) (State.isArrayOf_alike hZ.alike Ar5.2.1) Ar5.2.2 hin5 (Ha5.at hin5 (own_gL ks _)) (g := (mkF m 24 #[.val (.ref a1), .val (.ref a2), .val (.long q3), .second, .val (.int (z - (1 : Int32))), .val (.int i)] [(.int i), (.ref a1)])) rfl rfl (hb hby d8_24)) ?_
        show Go p.tables e below _ (T2.setTop (mkF m 25 #[.val (.ref a1), .val (.ref a2), .val (.long q3), .second, .val (.int (z - (1 : Int32))), .val (.int i)] [(.long (own_k ks i.toNatClampNeg))]))
        refine Go.st (fun U hr => XS.lloadN X2.here hx rfl (hb hby d8_25) rfl hr) ?_
        show Go p.tables e below _ (T2.setTop (mkF m 26 #[.val (.ref a1), .val (.ref a2), .val (.long q3), .second, .val (.int (z - (1 : Int32))), .val (.int i)] [(.long q3), (.long (own_k ks i.toNatClampNeg))]))
        refine Go.st (fun U hr => XS.lcmp X2.here hx rfl (hb hby d8_26) rfl hr) ?_
        show Go p.tables e below _ (T2.setTop (mkF m 27 #[.val (.ref a1), .val (.ref a2), .val (.long q3), .second, .val (.int (z - (1 : Int32))), .val (.int i)] [(.int (lcmpW (own_k ks i.toNatClampNeg) q3))]))
        have hc27_6 : (own_k ks i.toNatClampNeg) = q3 := hst.resolve_left hc18_4
        refine Go.st (fun U hr => XS.ifYes X2.here hx rfl (pc0 := 27) (pc' := 42) rfl (hb hby d8_27) rfl ((if0 _ _).trans (teq ((lw_eq (own_k ks i.toNatClampNeg) q3).2 hc27_6)).1) (by decide) (by decide) hr) ?_
        show Go p.tables e below _ (T2.setTop (mkF m 42 #[.val (.ref a1), .val (.ref a2), .val (.long q3), .second, .val (.int (z - (1 : Int32))), .val (.int i)] []))
        refine Go.st (fun U hr => XS.iload X2.here hx rfl (hb hby d8_42) rfl hr) ?_
        show Go p.tables e below _ (T2.setTop (mkF m 44 #[.val (.ref a1), .val (.ref a2), .val (.long q3), .second, .val (.int (z - (1 : Int32))), .val (.int i)] [(.int i)]))
        exact own_retO X2 hx Bd.notSynchronized (t := .int) Bd.returns rfl (Or.inl ⟨rfl, Or.inl rfl, _, rfl⟩) (hb hby d8_44) ⟨i, rfl, N2, ee2, hi, d, hid, hd1, hst, hd3⟩ (by decide) (by decide)
    | succ k ih =>
      intro d i hk hi hid
      have hst := hd3 d (by omega)
      rw [← hid] at hst
      refine Go.st (fun U hr => XS.aloadN X2.here hx rfl (hb hby d8_14) rfl rfl hr) ?_
      show Go p.tables e below _ (T2.setTop (mkF m 15 #[.val (.ref a1), .val (.ref a2), .val (.long q3), .second, .val (.int (z - (1 : Int32))), .val (.int i)] [(.ref a2)]))
      refine Go.st (fun U hr => XS.iload X2.here hx rfl (hb hby d8_15) rfl hr) ?_
      show Go p.tables e below _ (T2.setTop (mkF m 17 #[.val (.ref a1), .val (.ref a2), .val (.long q3), .second, .val (.int (z - (1 : Int32))), .val (.int i)] [(.int i), (.ref a2)]))
      obtain ⟨cl7, Ar7, qa7, Sa7, Na7, Ha7, Ga7⟩ := id V2
      have hin7 : ¬ (i < 0 ∨ cl7.slots.size ≤ (i).toNatClampNeg) := inb_of Sa7 (own_inb hi)
      refine Go.st (X2.iaload hx (j := i) (v := (.int (own_c cs i.toNatClampNeg))) (by rw [ee2]; exact Ar7.1) (State.isArrayOf_alike hZ.alike Ar7.2.1) Ar7.2.2 hin7 (Ha7.at hin7 (own_gI cs _)) (g := (mkF m 17 #[.val (.ref a1), .val (.ref a2), .val (.long q3), .second, .val (.int (z - (1 : Int32))), .val (.int i)] [(.int i), (.ref a2)])) rfl rfl (hb hby d8_17)) ?_
      show Go p.tables e below _ (T2.setTop (mkF m 18 #[.val (.ref a1), .val (.ref a2), .val (.long q3), .second, .val (.int (z - (1 : Int32))), .val (.int i)] [(.int (own_c cs i.toNatClampNeg))]))
      have hc18_8 : ¬ ((own_c cs i.toNatClampNeg) = (0 : Int32)) := fun q => hst (Or.inl q)
      refine Go.st (fun U hr => XS.ifNo X2.here hx rfl (hb hby d8_18) rfl ((if0 _ _).trans (feq hc18_8).1) hr) ?_
      show Go p.tables e below _ (T2.setTop (mkF m 21 #[.val (.ref a1), .val (.ref a2), .val (.long q3), .second, .val (.int (z - (1 : Int32))), .val (.int i)] []))
      refine Go.st (fun U hr => XS.aloadN X2.here hx rfl (hb hby d8_21) rfl rfl hr) ?_
      show Go p.tables e below _ (T2.setTop (mkF m 22 #[.val (.ref a1), .val (.ref a2), .val (.long q3), .second, .val (.int (z - (1 : Int32))), .val (.int i)] [(.ref a1)]))
      refine Go.st (fun U hr => XS.iload X2.here hx rfl (hb hby d8_22) rfl hr) ?_
      show Go p.tables e below _ (T2.setTop (mkF m 24 #[.val (.ref a1), .val (.ref a2), .val (.long q3), .second, .val (.int (z - (1 : Int32))), .val (.int i)] [(.int i), (.ref a1)]))
      obtain ⟨cl9, Ar9, qa9, Sa9, Na9, Ha9, Ga9⟩ := id V1
      have hin9 : ¬ (i < 0 ∨ cl9.slots.size ≤ (i).toNatClampNeg) := inb_of Sa9 (own_inb hi)
      refine Go.st (X2.laload hx (j := i) (v := (.long (own_k ks i.toNatClampNeg))) (by rw [ee2]; exact Ar9.1) (State.isArrayOf_alike hZ.alike Ar9.2.1) Ar9.2.2 hin9 (Ha9.at hin9 (own_gL ks _)) (g := (mkF m 24 #[.val (.ref a1), .val (.ref a2), .val (.long q3), .second, .val (.int (z - (1 : Int32))), .val (.int i)] [(.int i), (.ref a1)])) rfl rfl (hb hby d8_24)) ?_
      show Go p.tables e below _ (T2.setTop (mkF m 25 #[.val (.ref a1), .val (.ref a2), .val (.long q3), .second, .val (.int (z - (1 : Int32))), .val (.int i)] [(.long (own_k ks i.toNatClampNeg))]))
      refine Go.st (fun U hr => XS.lloadN X2.here hx rfl (hb hby d8_25) rfl hr) ?_
      show Go p.tables e below _ (T2.setTop (mkF m 26 #[.val (.ref a1), .val (.ref a2), .val (.long q3), .second, .val (.int (z - (1 : Int32))), .val (.int i)] [(.long q3), (.long (own_k ks i.toNatClampNeg))]))
      refine Go.st (fun U hr => XS.lcmp X2.here hx rfl (hb hby d8_26) rfl hr) ?_
      show Go p.tables e below _ (T2.setTop (mkF m 27 #[.val (.ref a1), .val (.ref a2), .val (.long q3), .second, .val (.int (z - (1 : Int32))), .val (.int i)] [(.int (lcmpW (own_k ks i.toNatClampNeg) q3))]))
      have hc27_10 : ¬ ((own_k ks i.toNatClampNeg) = q3) := fun q => hst (Or.inr q)
      refine Go.st (fun U hr => XS.ifNo X2.here hx rfl (hb hby d8_27) rfl ((if0 _ _).trans (feq (fun q => hc27_10 ((lw_eq (own_k ks i.toNatClampNeg) q3).1 q))).1) hr) ?_
      show Go p.tables e below _ (T2.setTop (mkF m 30 #[.val (.ref a1), .val (.ref a2), .val (.long q3), .second, .val (.int (z - (1 : Int32))), .val (.int i)] []))
      refine Go.st (fun U hr => XS.iload X2.here hx rfl (hb hby d8_30) rfl hr) ?_
      show Go p.tables e below _ (T2.setTop (mkF m 32 #[.val (.ref a1), .val (.ref a2), .val (.long q3), .second, .val (.int (z - (1 : Int32))), .val (.int i)] [(.int i)]))
      refine Go.st (fun U hr => XS.iconst X2.here hx rfl (hb hby d8_32) hr) ?_
      show Go p.tables e below _ (T2.setTop (mkF m 33 #[.val (.ref a1), .val (.ref a2), .val (.long q3), .second, .val (.int (z - (1 : Int32))), .val (.int i)] [(.int (1 : Int32)), (.int i)]))
      refine Go.st (fun U hr => XS.iadd X2.here hx rfl (hb hby d8_33) rfl hr) ?_
      show Go p.tables e below _ (T2.setTop (mkF m 34 #[.val (.ref a1), .val (.ref a2), .val (.long q3), .second, .val (.int (z - (1 : Int32))), .val (.int i)] [(.int (i + (1 : Int32)))]))
      refine Go.st (fun U hr => XS.iload X2.here hx rfl (hb hby d8_34) rfl hr) ?_
      show Go p.tables e below _ (T2.setTop (mkF m 36 #[.val (.ref a1), .val (.ref a2), .val (.long q3), .second, .val (.int (z - (1 : Int32))), .val (.int i)] [(.int (z - (1 : Int32))), (.int (i + (1 : Int32)))]))
      refine Go.st (fun U hr => XS.iand X2.here hx rfl (hb hby d8_36) rfl hr) ?_
      show Go p.tables e below _ (T2.setTop (mkF m 37 #[.val (.ref a1), .val (.ref a2), .val (.long q3), .second, .val (.int (z - (1 : Int32))), .val (.int i)] [(.int ((i + (1 : Int32)) &&& (z - (1 : Int32))))]))
      refine Go.st (fun U hr => XS.istore X2.here hx rfl (hb hby d8_37) rfl (l' := #[.val (.ref a1), .val (.ref a2), .val (.long q3), .second, .val (.int (z - (1 : Int32))), .val (.int ((i + (1 : Int32)) &&& (z - (1 : Int32))))]) rfl hr) ?_
      show Go p.tables e below _ (T2.setTop (mkF m 39 #[.val (.ref a1), .val (.ref a2), .val (.long q3), .second, .val (.int (z - (1 : Int32))), .val (.int ((i + (1 : Int32)) &&& (z - (1 : Int32))))] []))
      refine Go.st (fun U hr => XS.goto X2.here hx rfl (pc0 := 39) (pc' := 14) rfl (hb hby d8_39) (by decide) (by decide) hr) ?_
      show Go p.tables e below _ (T2.setTop (mkF m 14 #[.val (.ref a1), .val (.ref a2), .val (.long q3), .second, .val (.int (z - (1 : Int32))), .val (.int ((i + (1 : Int32)) &&& (z - (1 : Int32))))] []))
      exact ih (d + 1) _ (by omega) (own_next hz hi).1 (by rw [(own_next hz hi).2, hid, Nat.mod_add_mod, Nat.add_assoc])
  exact loop ds 0 _ (by omega) (own_home_rng hz q3) (by rw [Nat.add_zero]; exact (Nat.mod_eq_of_lt (own_H_lt hz q3)).symm)
theorem d10_0 : decode prog_33_method_4_code 0 = .ok (.aload_n 0, 1) := by decide +kernel
theorem d10_1 : decode prog_33_method_4_code 1 = .ok (.getfield 32, 3) := by decide +kernel
theorem d10_4 : decode prog_33_method_4_code 4 = .ok (.aload_n 0, 1) := by decide +kernel
theorem d10_5 : decode prog_33_method_4_code 5 = .ok (.getfield 28, 3) := by decide +kernel
theorem d10_8 : decode prog_33_method_4_code 8 = .ok (.aload_n 0, 1) := by decide +kernel
theorem d10_9 : decode prog_33_method_4_code 9 = .ok (.getfield 32, 3) := by decide +kernel
theorem d10_12 : decode prog_33_method_4_code 12 = .ok (.lload_n 1, 1) := by decide +kernel
theorem d10_13 : decode prog_33_method_4_code 13 = .ok (.invokestatic 40, 3) := by decide +kernel
theorem d10_16 : decode prog_33_method_4_code 16 = .ok (.iaload, 1) := by decide +kernel
theorem d10_17 : decode prog_33_method_4_code 17 = .ok (.ireturn, 1) := by decide +kernel
theorem pn_10 : plainFor (⟨"com/example/rigorous_layout/rigorouslayout/Tally", "count", "(J)I"⟩ : MethodName) = true := plainFor_of_name (by first | (simp [plainName, overriddenIn]; done) | decide +kernel)
theorem ef_10 (m : MethodId) (x0 : Addr) (x1 : Int64) : entryFrame m #[(.ref x0), (.long x1)] 3 = mkF m 0 #[.val (.ref x0), .val (.long x1), .second] [] := by first | (simp [entryFrame, mkF, argsToLocals, Value.category]; done) | rfl
theorem pd_2 : parseMethodDescriptor "([J[IJ)I" = some ⟨[(.array .long), (.array .int), .long], some .int⟩ := by decide +kernel
def Q10 (Z : State) (a1 : Addr) (q2 : Int64) (M : Int64 → Int) (bb : Int) (h0 : Heap) (n0 : Nat) (v : Option Value) (h : Heap) (L : List Loc) : Prop := ∃ r : Int32, v = some (.int r) ∧ Fr n0 L ∧ h = h0 ∧ r.toInt = M q2
set_option maxRecDepth 65536 in
set_option maxHeartbeats 40000000 in
theorem rm10 (l : Launch) (Z : State) (a0 : Array Value) (hw : ∀ d ∈ tables_1, d.before a0 Z = true) (ws : List Jvm.Cond) (a1 : Addr) (q2 : Int64) (M : Int64 → Int) (bb : Int) (h0 : Heap) (n0 : Nat) (Z0 : n0 ≤ h0.size) (hT : own_TB Z h0 n0 a1 M bb) :
    MetFree l (⟨"com/example/rigorous_layout/rigorouslayout/Tally", "count", "(J)I"⟩ : MethodName) (head1 (Jvm.Cond.code (⟨"com/example/rigorous_layout/rigorouslayout/Tally", "count", "(J)I"⟩ : MethodName) prog_33_method_4_code 3 (some .int) :: ws) ({ frames := 2, cells := 0, slots := 0, locals := 32 } : Room)) (fun a U => a = #[(.ref a1), (.long q2)] ∧ Z.Warmed39 U.vm ∧ U.heap = h0) (fun _ _ _ _ _ => True) (fun _ U o U' => ∃ v L, o = .returned v ∧ Q10 Z a1 q2 M bb h0 n0 v U'.heap L ∧ FrameEnd U o U' L ({ frames := 2, cells := 0, slots := 0, locals := 32 } : Room).cells ({ frames := 2, cells := 0, slots := 0, locals := 32 } : Room).slots) := by
  refine MetFree.of_bodySF pn_10 hisR ?_
  intro p e s m args below meth c s₁ Bd hml0 hP hK
  obtain ⟨rfl, hZ, hh⟩ := hP
  have hx := Bd.exec
  have hby := Bd.bytes
  have hml : c.maxLocals = 3 := hml0
  have hown : s.vm.findClass "com/example/rigorous_layout/rigorouslayout/Tally" = some m.cls := findClass_of_methodNamed Bd.named
  have hnm := (name_of_methodNamed Bd.named Bd.method).1
  have X0 : Stand p l e ({ frames := 2, cells := 0, slots := 0, locals := 32 } : Room) s m #[(.ref a1), (.long q2)] below meth c s₁ [] 0 0 := Stand.of_body Bd
  have e0 : s₁.heap = h0 := by rw [← hh, Bd.state]; rfl
  have N0 := Fr.nil n0
  refine own_start (Q := Q10 Z a1 q2 M bb h0 n0) (own_cast (ef_10 m a1 q2) ?_)
  show Go p.tables e below _ (s₁.setTop (mkF m 0 #[.val (.ref a1), .val (.long q2), .second] []))
  obtain ⟨ka, ca, kk, kc, z, sz, ks, cs, E1, F1, F2, F3, V1, V2, gk, gc, ne1, ne2, ne3, hz, lk, lc, hI, hu, hs1, hs2⟩ := hT
  have he := own_room hz lc hu hs2
  refine Go.st (fun U hr => XS.aloadN X0.here hx rfl (hb hby d10_0) rfl rfl hr) ?_
  show Go p.tables e below _ (s₁.setTop (mkF m 1 #[.val (.ref a1), .val (.long q2), .second] [(.ref a1)]))
  obtain ⟨T1, X1, e1, st1⟩ := getF X0 hx hZ hown (host := "") (Or.inl (hw _ (List.mem_of_getElem? (i := 30) rfl))) Via.refl e0 F2 (g := (mkF m 1 #[.val (.ref a1), .val (.long q2), .second] [(.ref a1)])) rfl rfl (hb hby d10_1)
  refine Go.st st1 ?_
  show Go p.tables e below _ (T1.setTop (mkF m 4 #[.val (.ref a1), .val (.long q2), .second] [(.ref ca)]))
  refine Go.st (fun U hr => XS.aloadN X1.here hx rfl (hb hby d10_4) rfl rfl hr) ?_
  show Go p.tables e below _ (T1.setTop (mkF m 5 #[.val (.ref a1), .val (.long q2), .second] [(.ref a1), (.ref ca)]))
  obtain ⟨T2, X2, e2, st2⟩ := getF X1 hx hZ hown (host := "") (Or.inl (hw _ (List.mem_of_getElem? (i := 27) rfl))) Via.refl e1 F1 (g := (mkF m 5 #[.val (.ref a1), .val (.long q2), .second] [(.ref a1), (.ref ca)])) rfl rfl (hb hby d10_5)
  refine Go.st st2 ?_
  show Go p.tables e below _ (T2.setTop (mkF m 8 #[.val (.ref a1), .val (.long q2), .second] [(.ref ka), (.ref ca)]))
  refine Go.st (fun U hr => XS.aloadN X2.here hx rfl (hb hby d10_8) rfl rfl hr) ?_
  show Go p.tables e below _ (T2.setTop (mkF m 9 #[.val (.ref a1), .val (.long q2), .second] [(.ref a1), (.ref ka), (.ref ca)]))
  obtain ⟨T3, X3, e3, st3⟩ := getF X2 hx hZ hown (host := "") (Or.inl (hw _ (List.mem_of_getElem? (i := 30) rfl))) Via.refl e2 F2 (g := (mkF m 9 #[.val (.ref a1), .val (.long q2), .second] [(.ref a1), (.ref ka), (.ref ca)])) rfl rfl (hb hby d10_9)
  refine Go.st st3 ?_
  show Go p.tables e below _ (T3.setTop (mkF m 12 #[.val (.ref a1), .val (.long q2), .second] [(.ref ca), (.ref ka), (.ref ca)]))
  refine Go.st (fun U hr => XS.lloadN X3.here hx rfl (hb hby d10_12) rfl hr) ?_
  show Go p.tables e below _ (T3.setTop (mkF m 13 #[.val (.ref a1), .val (.long q2), .second] [(.long q2), (.ref ca), (.ref ka), (.ref ca)]))
  obtain ⟨_, _, ⟨T4, L4, k4, n4⟩, -, X4, ⟨Lc4, hQ4, l4, y4, z4⟩, st4⟩ := Jvm.LawKit.callS X3 hx (y := (⟨"com/example/rigorous_layout/rigorouslayout/Tally", "slot", "([J[IJ)I"⟩ : MethodName)) hown (mvT hZ (hw _ (List.mem_of_getElem? (i := 37) rfl))) (mvT hZ (hw _ (List.mem_of_getElem? (i := 38) rfl))) (mvT hZ (hw _ (List.mem_of_getElem? (i := 2) rfl))) (mvT hZ (hw _ (List.mem_of_getElem? (i := 39) rfl))) (by decide) (backOf (W := 1) (rm8 l Z a0 hw [] ka ca q2 kk kc z ks cs h0 n0 Z0 V1 V2 hz lk lc he) hZ (hw _ (List.mem_of_getElem? (i := 39) rfl)) (hw _ (List.mem_of_getElem? (i := 2) rfl)) (by decide) (by decide)) (g := (mkF m 13 #[.val (.ref a1), .val (.long q2), .second] [(.long q2), (.ref ca), (.ref ka), (.ref ca)])) rfl (by rw [hml]; rfl) (argsL := [(.ref ka), (.ref ca), (.long q2)]) (rest := [(.ref ca)]) (lenOf pd_2 rfl) rfl (by show 2 * 0 + _ ≤ _; exact Nat.le_of_eq rfl) (hb hby d10_13) (fun _ _ => ⟨rfl, e3, (by decide : 0 + 0 ≤ _), (by decide : 0 + 0 ≤ _)⟩)
  dsimp only [Pt.U, Pt.locs, Pt.cells, Pt.slots] at X4 l4 y4 z4 st4 hQ4
  subst l4 y4 z4
  obtain ⟨i4, rfl, Nq4, ee4, hi4, hsl4⟩ := hQ4
  have N4 := Fr.app N0 Nq4
  refine Go.st st4 ?_
  show Go p.tables e below _ (T4.setTop (mkF m 16 #[.val (.ref a1), .val (.long q2), .second] [(.int i4), (.ref ca)]))
  obtain ⟨cl5, Ar5, qa5, Sa5, Na5, Ha5, Ga5⟩ := id V2
  have hin5 : ¬ (i4 < 0 ∨ cl5.slots.size ≤ (i4).toNatClampNeg) := inb_of Sa5 (own_inb hi4)
  refine Go.st (X4.iaload hx (j := i4) (v := (.int (own_c cs i4.toNatClampNeg))) (by rw [ee4]; exact Ar5.1) (State.isArrayOf_alike hZ.alike Ar5.2.1) Ar5.2.2 hin5 (Ha5.at hin5 (own_gI cs _)) (g := (mkF m 16 #[.val (.ref a1), .val (.long q2), .second] [(.int i4), (.ref ca)])) rfl rfl (hb hby d10_16)) ?_
  show Go p.tables e below _ (T4.setTop (mkF m 17 #[.val (.ref a1), .val (.long q2), .second] [(.int (own_c cs i4.toNatClampNeg))]))
  exact own_retO X4 hx Bd.notSynchronized (t := .int) Bd.returns rfl (Or.inl ⟨rfl, Or.inl rfl, _, rfl⟩) (hb hby d10_17) ⟨_, rfl, N4, ee4, own_inv_query (by have := own_zN hz; omega) hI hsl4⟩ (by decide) (by decide)
theorem d11_0 : decode prog_33_method_8_code 0 = .ok (.aload_n 0, 1) := by decide +kernel
theorem d11_1 : decode prog_33_method_8_code 1 = .ok (.getfield 28, 3) := by decide +kernel
theorem d11_4 : decode prog_33_method_8_code 4 = .ok (.astore_n 1, 1) := by decide +kernel
theorem d11_5 : decode prog_33_method_8_code 5 = .ok (.aload_n 0, 1) := by decide +kernel
theorem d11_6 : decode prog_33_method_8_code 6 = .ok (.getfield 32, 3) := by decide +kernel
theorem d11_9 : decode prog_33_method_8_code 9 = .ok (.astore_n 2, 1) := by decide +kernel
theorem d11_10 : decode prog_33_method_8_code 10 = .ok (.aload_n 0, 1) := by decide +kernel
theorem d11_11 : decode prog_33_method_8_code 11 = .ok (.iconst 2, 1) := by decide +kernel
theorem d11_12 : decode prog_33_method_8_code 12 = .ok (.aload_n 1, 1) := by decide +kernel
theorem d11_13 : decode prog_33_method_8_code 13 = .ok (.arraylength, 1) := by decide +kernel
theorem d11_14 : decode prog_33_method_8_code 14 = .ok (.imul, 1) := by decide +kernel
theorem d11_15 : decode prog_33_method_8_code 15 = .ok (.newarray .long, 2) := by decide +kernel
theorem d11_17 : decode prog_33_method_8_code 17 = .ok (.putfield 28, 3) := by decide +kernel
theorem d11_20 : decode prog_33_method_8_code 20 = .ok (.aload_n 0, 1) := by decide +kernel
theorem d11_21 : decode prog_33_method_8_code 21 = .ok (.iconst 2, 1) := by decide +kernel
theorem d11_22 : decode prog_33_method_8_code 22 = .ok (.aload_n 2, 1) := by decide +kernel
theorem d11_23 : decode prog_33_method_8_code 23 = .ok (.arraylength, 1) := by decide +kernel
theorem d11_24 : decode prog_33_method_8_code 24 = .ok (.imul, 1) := by decide +kernel
theorem d11_25 : decode prog_33_method_8_code 25 = .ok (.newarray .int, 2) := by decide +kernel
theorem d11_27 : decode prog_33_method_8_code 27 = .ok (.putfield 32, 3) := by decide +kernel
theorem d11_30 : decode prog_33_method_8_code 30 = .ok (.iconst 0, 1) := by decide +kernel
theorem d11_31 : decode prog_33_method_8_code 31 = .ok (.istore_n 3, 1) := by decide +kernel
theorem d11_32 : decode prog_33_method_8_code 32 = .ok (.iload_n 3, 1) := by decide +kernel
theorem d11_33 : decode prog_33_method_8_code 33 = .ok (.aload_n 1, 1) := by decide +kernel
theorem d11_34 : decode prog_33_method_8_code 34 = .ok (.arraylength, 1) := by decide +kernel
theorem d11_35 : decode prog_33_method_8_code 35 = .ok (.if_icmp .ge 51, 3) := by decide +kernel
theorem d11_38 : decode prog_33_method_8_code 38 = .ok (.aload_n 2, 1) := by decide +kernel
theorem d11_39 : decode prog_33_method_8_code 39 = .ok (.iload_n 3, 1) := by decide +kernel
theorem d11_40 : decode prog_33_method_8_code 40 = .ok (.iaload, 1) := by decide +kernel
theorem d11_41 : decode prog_33_method_8_code 41 = .ok (.ifCond .eq 39, 3) := by decide +kernel
theorem d11_44 : decode prog_33_method_8_code 44 = .ok (.aload_n 0, 1) := by decide +kernel
theorem d11_45 : decode prog_33_method_8_code 45 = .ok (.getfield 28, 3) := by decide +kernel
theorem d11_48 : decode prog_33_method_8_code 48 = .ok (.aload_n 0, 1) := by decide +kernel
theorem d11_49 : decode prog_33_method_8_code 49 = .ok (.getfield 32, 3) := by decide +kernel
theorem d11_52 : decode prog_33_method_8_code 52 = .ok (.aload_n 1, 1) := by decide +kernel
theorem d11_53 : decode prog_33_method_8_code 53 = .ok (.iload_n 3, 1) := by decide +kernel
theorem d11_54 : decode prog_33_method_8_code 54 = .ok (.laload, 1) := by decide +kernel
theorem d11_55 : decode prog_33_method_8_code 55 = .ok (.invokestatic 40, 3) := by decide +kernel
theorem d11_58 : decode prog_33_method_8_code 58 = .ok (.istore 4, 2) := by decide +kernel
theorem d11_60 : decode prog_33_method_8_code 60 = .ok (.aload_n 0, 1) := by decide +kernel
theorem d11_61 : decode prog_33_method_8_code 61 = .ok (.getfield 28, 3) := by decide +kernel
theorem d11_64 : decode prog_33_method_8_code 64 = .ok (.iload 4, 2) := by decide +kernel
theorem d11_66 : decode prog_33_method_8_code 66 = .ok (.aload_n 1, 1) := by decide +kernel
theorem d11_67 : decode prog_33_method_8_code 67 = .ok (.iload_n 3, 1) := by decide +kernel
theorem d11_68 : decode prog_33_method_8_code 68 = .ok (.laload, 1) := by decide +kernel
theorem d11_69 : decode prog_33_method_8_code 69 = .ok (.lastore, 1) := by decide +kernel
theorem d11_70 : decode prog_33_method_8_code 70 = .ok (.aload_n 0, 1) := by decide +kernel
theorem d11_71 : decode prog_33_method_8_code 71 = .ok (.getfield 32, 3) := by decide +kernel
theorem d11_74 : decode prog_33_method_8_code 74 = .ok (.iload 4, 2) := by decide +kernel
theorem d11_76 : decode prog_33_method_8_code 76 = .ok (.aload_n 2, 1) := by decide +kernel
theorem d11_77 : decode prog_33_method_8_code 77 = .ok (.iload_n 3, 1) := by decide +kernel
theorem d11_78 : decode prog_33_method_8_code 78 = .ok (.iaload, 1) := by decide +kernel
theorem d11_79 : decode prog_33_method_8_code 79 = .ok (.iastore, 1) := by decide +kernel
theorem d11_80 : decode prog_33_method_8_code 80 = .ok (.iinc 3 1, 3) := by decide +kernel
theorem d11_83 : decode prog_33_method_8_code 83 = .ok (.goto (-51), 3) := by decide +kernel
theorem d11_86 : decode prog_33_method_8_code 86 = .ok (.return_, 1) := by decide +kernel
theorem pn_11 : plainFor (⟨"com/example/rigorous_layout/rigorouslayout/Tally", "grow", "()V"⟩ : MethodName) = true := plainFor_of_name (by first | (simp [plainName, overriddenIn]; done) | decide +kernel)
theorem ef_11 (m : MethodId) (x0 : Addr) : entryFrame m #[(.ref x0)] 5 = mkF m 0 #[.val (.ref x0), .unset, .unset, .unset, .unset] [] := by first | (simp [entryFrame, mkF, argsToLocals, Value.category]; done) | rfl
def Q11 (Z : State) (a1 : Addr) (ka : Addr) (ca : Addr) (kk : ClassId) (kc : ClassId) (z : Int32) (sz : Int32) (ks : List Int64) (cs : List Int32) (M : Int64 → Int) (h0 : Heap) (n0 : Nat) (v : Option Value) (h : Heap) (L : List Loc) : Prop := v = none ∧ Fr n0 L ∧ Keep h0 h [a1] ∧ ∃ (nk nc : Addr) (kk' kc' : ClassId) (zz : Int32) (ks' : List Int64) (cs' : List Int32), Exa Z h a1 "com/example/rigorous_layout/rigorouslayout/Tally" ∧ Fld Z h a1 "com/example/rigorous_layout/rigorouslayout/Tally" "keys" "[J" (.ref nk) ∧ Fld Z h a1 "com/example/rigorous_layout/rigorouslayout/Tally" "counts" "[I" (.ref nc) ∧ Fld Z h a1 "com/example/rigorous_layout/rigorouslayout/Tally" "size" "I" (.int sz) ∧ Arv Z h nk kk' .long zz (ks'.map Value.long) (.long (0 : Int64)) ∧ Arv Z h nc kc' .int zz (cs'.map Value.int) (.int (0 : Int32)) ∧ n0 ≤ nk ∧ n0 ≤ nc ∧ nk ≠ nc ∧ nk ≠ a1 ∧ nc ≠ a1 ∧ own_zOK zz ∧ zz.toInt = 2 * z.toInt ∧ ks'.length = zz.toNatClampNeg ∧ cs'.length = zz.toNatClampNeg ∧ own_Inv zz.toNatClampNeg (own_H zz) ks' cs' M ∧ own_used cs' = own_used cs
set_option maxRecDepth 65536 in
set_option maxHeartbeats 40000000 in
theorem rm11 (l : Launch) (Z : State) (a0 : Array Value) (hw : ∀ d ∈ tables_1, d.before a0 Z = true) (ws : List Jvm.Cond) (a1 : Addr) (ka : Addr) (ca : Addr) (kk : ClassId) (kc : ClassId) (z : Int32) (sz : Int32) (ks : List Int64) (cs : List Int32) (M : Int64 → Int) (h0 : Heap) (n0 : Nat) (Z0 : n0 ≤ h0.size) (E1 : Exa Z h0 a1 "com/example/rigorous_layout/rigorouslayout/Tally") (F1 : Fld Z h0 a1 "com/example/rigorous_layout/rigorouslayout/Tally" "keys" "[J" (.ref ka)) (F2 : Fld Z h0 a1 "com/example/rigorous_layout/rigorouslayout/Tally" "counts" "[I" (.ref ca)) (F3 : Fld Z h0 a1 "com/example/rigorous_layout/rigorouslayout/Tally" "size" "I" (.int sz)) (V1 : Arv Z h0 ka kk .long z (ks.map Value.long) (.long (0 : Int64))) (V2 : Arv Z h0 ca kc .int z (cs.map Value.int) (.int (0 : Int32))) (g1 : n0 ≤ a1) (ne1 : ka ≠ ca) (ne2 : ka ≠ a1) (ne3 : ca ≠ a1) (hz4 : z = 2 ∨ z = 4) (lk : ks.length = z.toNatClampNeg) (lc : cs.length = z.toNatClampNeg) (hI : own_Inv z.toNatClampNeg (own_H z) ks cs M) :
    MetFree l (⟨"com/example/rigorous_layout/rigorouslayout/Tally", "grow", "()V"⟩ : MethodName) (head1 (Jvm.Cond.code (⟨"com/example/rigorous_layout/rigorouslayout/Tally", "grow", "()V"⟩ : MethodName) prog_33_method_8_code 5 none :: ws) ({ frames := 2, cells := 2, slots := 16, locals := 31 } : Room)) (fun a U => a = #[(.ref a1)] ∧ Z.Warmed39 U.vm ∧ U.heap = h0) (fun _ _ _ _ _ => True) (fun _ U o U' => ∃ v L, o = .returned v ∧ Q11 Z a1 ka ca kk kc z sz ks cs M h0 n0 v U'.heap L ∧ FrameEnd U o U' L ({ frames := 2, cells := 2, slots := 16, locals := 31 } : Room).cells ({ frames := 2, cells := 2, slots := 16, locals := 31 } : Room).slots) := by
  refine MetFree.of_bodySF pn_11 hisR ?_
  intro p e s m args below meth c s₁ Bd hml0 hP hK
  obtain ⟨rfl, hZ, hh⟩ := hP
  have hx := Bd.exec
  have hby := Bd.bytes
  have hml : c.maxLocals = 5 := hml0
  have hown : s.vm.findClass "com/example/rigorous_layout/rigorouslayout/Tally" = some m.cls := findClass_of_methodNamed Bd.named
  have hnm := (name_of_methodNamed Bd.named Bd.method).1
  have X0 : Stand p l e ({ frames := 2, cells := 2, slots := 16, locals := 31 } : Room) s m #[(.ref a1)] below meth c s₁ [] 0 0 := Stand.of_body Bd
  have e0 : s₁.heap = h0 := by rw [← hh, Bd.state]; rfl
  have N0 := Fr.nil n0
  refine own_start (Q := Q11 Z a1 ka ca kk kc z sz ks cs M h0 n0) (own_cast (ef_11 m a1) ?_)
  show Go p.tables e below _ (s₁.setTop (mkF m 0 #[.val (.ref a1), .unset, .unset, .unset, .unset] []))
  refine Go.st (fun U hr => XS.aloadN X0.here hx rfl (hb hby d11_0) rfl rfl hr) ?_
  show Go p.tables e below _ (s₁.setTop (mkF m 1 #[.val (.ref a1), .unset, .unset, .unset, .unset] [(.ref a1)]))
  obtain ⟨T1, X1, e1, st1⟩ := getF X0 hx hZ hown (host := "") (Or.inl (hw _ (List.mem_of_getElem? (i := 27) rfl))) Via.refl e0 F1 (g := (mkF m 1 #[.val (.ref a1), .unset, .unset, .unset, .unset] [(.ref a1)])) rfl rfl (hb hby d11_1)
  refine Go.st st1 ?_
  show Go p.tables e below _ (T1.setTop (mkF m 4 #[.val (.ref a1), .unset, .unset, .unset, .unset] [(.ref ka)]))
  refine Go.st (fun U hr => XS.astoreN X1.here hx rfl (hb hby d11_4) rfl rfl (l' := #[.val (.ref a1), .val (.ref ka), .unset, .unset, .unset]) rfl hr) ?_
  show Go p.tables e below _ (T1.setTop (mkF m 5 #[.val (.ref a1), .val (.ref ka), .unset, .unset, .unset] []))
  refine Go.st (fun U hr => XS.aloadN X1.here hx rfl (hb hby d11_5) rfl rfl hr) ?_
  show Go p.tables e below _ (T1.setTop (mkF m 6 #[.val (.ref a1), .val (.ref ka), .unset, .unset, .unset] [(.ref a1)]))
  obtain ⟨T2, X2, e2, st2⟩ := getF X1 hx hZ hown (host := "") (Or.inl (hw _ (List.mem_of_getElem? (i := 30) rfl))) Via.refl e1 F2 (g := (mkF m 6 #[.val (.ref a1), .val (.ref ka), .unset, .unset, .unset] [(.ref a1)])) rfl rfl (hb hby d11_6)
  refine Go.st st2 ?_
  show Go p.tables e below _ (T2.setTop (mkF m 9 #[.val (.ref a1), .val (.ref ka), .unset, .unset, .unset] [(.ref ca)]))
  refine Go.st (fun U hr => XS.astoreN X2.here hx rfl (hb hby d11_9) rfl rfl (l' := #[.val (.ref a1), .val (.ref ka), .val (.ref ca), .unset, .unset]) rfl hr) ?_
  show Go p.tables e below _ (T2.setTop (mkF m 10 #[.val (.ref a1), .val (.ref ka), .val (.ref ca), .unset, .unset] []))
  refine Go.st (fun U hr => XS.aloadN X2.here hx rfl (hb hby d11_10) rfl rfl hr) ?_
  show Go p.tables e below _ (T2.setTop (mkF m 11 #[.val (.ref a1), .val (.ref ka), .val (.ref ca), .unset, .unset] [(.ref a1)]))
  refine Go.st (fun U hr => XS.iconst X2.here hx rfl (hb hby d11_11) hr) ?_
  show Go p.tables e below _ (T2.setTop (mkF m 12 #[.val (.ref a1), .val (.ref ka), .val (.ref ca), .unset, .unset] [(.int (2 : Int32)), (.ref a1)]))
  refine Go.st (fun U hr => XS.aloadN X2.here hx rfl (hb hby d11_12) rfl rfl hr) ?_
  show Go p.tables e below _ (T2.setTop (mkF m 13 #[.val (.ref a1), .val (.ref ka), .val (.ref ca), .unset, .unset] [(.ref ka), (.int (2 : Int32)), (.ref a1)]))
  obtain ⟨cl3, Ar3, qa3, Sa3, Na3, Ha3, Ga3⟩ := id V1
  refine Go.st (X2.arraylength hx (by rw [e2]; exact Ar3.1) (State.isArrayOf_alike hZ.alike Ar3.2.1) (g := (mkF m 13 #[.val (.ref a1), .val (.ref ka), .val (.ref ca), .unset, .unset] [(.ref ka), (.int (2 : Int32)), (.ref a1)])) rfl rfl (hb hby d11_13)) ?_
  rw [len_of Sa3 Na3]
  show Go p.tables e below _ (T2.setTop (mkF m 14 #[.val (.ref a1), .val (.ref ka), .val (.ref ca), .unset, .unset] [(.int z), (.int (2 : Int32)), (.ref a1)]))
  refine Go.st (fun U hr => XS.imul X2.here hx rfl (hb hby d11_14) rfl hr) ?_
  show Go p.tables e below _ (T2.setTop (mkF m 15 #[.val (.ref a1), .val (.ref ka), .val (.ref ca), .unset, .unset] [(.int ((2 : Int32) * z)), (.ref a1)]))
  generalize h_zz : ((2 : Int32) * z) = zz
  have hzz : own_zOK zz ∧ zz.toInt = 2 * z.toInt ∧ zz.toNatClampNeg ≤ 8 ∧ ¬ zz < 0 := by
    rw [← h_zz]
    rcases hz4 with rfl | rfl
    · exact ⟨Or.inr (Or.inl (by decide)), by decide, by decide, by decide⟩
    · exact ⟨Or.inr (Or.inr (Or.inl (by decide))), by decide, by decide, by decide⟩
  have hz : own_zOK z := by rcases hz4 with rfl | rfl; exact Or.inl rfl; exact Or.inr (Or.inl rfl)
  have hN := own_zN hz
  have hNN := own_zN hzz.1
  obtain ⟨T4, h4, k4, X4, e4, E4, A4, st4⟩ := newP X2 hx hZ (hw _ (List.mem_of_getElem? (i := 26) rfl)) e2 (g := (mkF m 15 #[.val (.ref a1), .val (.ref ka), .val (.ref ca), .unset, .unset] [(.int zz), (.ref a1)])) rfl (hb hby d11_15) rfl hzz.2.2.2 (cap := 8) hzz.2.2.1 (by decide) (by decide) (by decide)
  obtain ⟨b4, g4⟩ : ∃ z, z = h0.size := ⟨_, rfl⟩
  rw [← g4] at A4 st4
  refine Go.st st4 ?_
  have gb4 : n0 ≤ b4 := Nat.le_trans Z0 (Nat.le_of_eq g4.symm)
  have sb4 : h0.size ≤ b4 := Nat.le_trans ((Keep.refl h0 [a1])).1 (Nat.le_of_eq g4.symm)
  have k5 := ((Keep.refl h0 [a1])).ext E4
  have n6 : a1 ≠ b4 := Nat.ne_of_lt (Nat.lt_of_lt_of_le (E1).lt (Nat.le_of_eq g4.symm))
  have n7 : ka ≠ b4 := Nat.ne_of_lt (Nat.lt_of_lt_of_le (V1).lt (Nat.le_of_eq g4.symm))
  have n8 : ca ≠ b4 := Nat.ne_of_lt (Nat.lt_of_lt_of_le (V2).lt (Nat.le_of_eq g4.symm))
  have f9 := (E1).ext E4
  have f10 := (F1).ext E4
  have f11 := (F2).ext E4
  have f12 := (F3).ext E4
  have f13 := (V1).ext E4
  have f14 := (V2).ext E4
  have z15 := Nat.le_trans Z0 E4.1
  have V4 : Arv Z h4 b4 k4 .long zz ((List.replicate zz.toNatClampNeg (0 : Int64)).map Value.long) (.long (0 : Int64)) := (Arv.new A4 hzz.2.2.2).pad (own_repL _)
  show Go p.tables e below _ (T4.setTop (mkF m 17 #[.val (.ref a1), .val (.ref ka), .val (.ref ca), .unset, .unset] [(.ref b4), (.ref a1)]))
  obtain ⟨T16, h16, X16, e16, W16, st16⟩ := putF X4 hx hZ hown (host := "") (Or.inl (hw _ (List.mem_of_getElem? (i := 27) rfl))) Via.refl e4 f10 f9 (Or.inl (hw _ (List.mem_of_getElem? (i := 28) rfl))) (hw _ (List.mem_of_getElem? (i := 1) rfl)) (ty := (.array .long)) (by decide) rfl rfl (g := (mkF m 17 #[.val (.ref a1), .val (.ref ka), .val (.ref ca), .unset, .unset] [(.ref b4), (.ref a1)])) rfl rfl (hb hby d11_17)
  refine Go.st st16 ?_
  have k17 := (k5).wr W16 (Or.inl (List.mem_of_getElem? (i := 0) rfl))
  have f18 := (f9).wr W16
  have f19 := (f10).same W16
  have f20 := (f11).other W16 (Or.inr (slot_ne (Or.inl (hw _ (List.mem_of_getElem? (i := 31) rfl))) (Or.inl (hw _ (List.mem_of_getElem? (i := 28) rfl))) (by decide) (t := (.array .int)) (t' := (.array .long)) (by decide) (by decide)))
  have f21 := (f12).other W16 (Or.inr (slot_ne (Or.inl (hw _ (List.mem_of_getElem? (i := 44) rfl))) (Or.inl (hw _ (List.mem_of_getElem? (i := 28) rfl))) (by decide) (t := .int) (t' := (.array .long)) (by decide) (by decide)))
  have f22 := (f13).other W16 ne2
  have f23 := (f14).other W16 ne3
  have f24 := (V4).other W16 (Ne.symm n6)
  have z25 := Nat.le_trans z15 (Keep.of_wr W16).1
  have N16 := Fr.snoc X16 N0 g1
  show Go p.tables e below _ (T16.setTop (mkF m 20 #[.val (.ref a1), .val (.ref ka), .val (.ref ca), .unset, .unset] []))
  refine Go.st (fun U hr => XS.aloadN X16.here hx rfl (hb hby d11_20) rfl rfl hr) ?_
  show Go p.tables e below _ (T16.setTop (mkF m 21 #[.val (.ref a1), .val (.ref ka), .val (.ref ca), .unset, .unset] [(.ref a1)]))
  refine Go.st (fun U hr => XS.iconst X16.here hx rfl (hb hby d11_21) hr) ?_
  show Go p.tables e below _ (T16.setTop (mkF m 22 #[.val (.ref a1), .val (.ref ka), .val (.ref ca), .unset, .unset] [(.int (2 : Int32)), (.ref a1)]))
  refine Go.st (fun U hr => XS.aloadN X16.here hx rfl (hb hby d11_22) rfl rfl hr) ?_
  show Go p.tables e below _ (T16.setTop (mkF m 23 #[.val (.ref a1), .val (.ref ka), .val (.ref ca), .unset, .unset] [(.ref ca), (.int (2 : Int32)), (.ref a1)]))
  obtain ⟨cl26, Ar26, qa26, Sa26, Na26, Ha26, Ga26⟩ := id f23
  refine Go.st (X16.arraylength hx (by rw [e16]; exact Ar26.1) (State.isArrayOf_alike hZ.alike Ar26.2.1) (g := (mkF m 23 #[.val (.ref a1), .val (.ref ka), .val (.ref ca), .unset, .unset] [(.ref ca), (.int (2 : Int32)), (.ref a1)])) rfl rfl (hb hby d11_23)) ?_
  rw [len_of Sa26 Na26]
  show Go p.tables e below _ (T16.setTop (mkF m 24 #[.val (.ref a1), .val (.ref ka), .val (.ref ca), .unset, .unset] [(.int z), (.int (2 : Int32)), (.ref a1)]))
  refine Go.st (fun U hr => XS.imul X16.here hx rfl (hb hby d11_24) rfl hr) ?_
  show Go p.tables e below _ (T16.setTop (mkF m 25 #[.val (.ref a1), .val (.ref ka), .val (.ref ca), .unset, .unset] [(.int ((2 : Int32) * z)), (.ref a1)]))
  rw [h_zz]
  show Go p.tables e below _ (T16.setTop (mkF m 25 #[.val (.ref a1), .val (.ref ka), .val (.ref ca), .unset, .unset] [(.int zz), (.ref a1)]))
  obtain ⟨T27, h27, k27, X27, e27, E27, A27, st27⟩ := newP X16 hx hZ (hw _ (List.mem_of_getElem? (i := 29) rfl)) e16 (g := (mkF m 25 #[.val (.ref a1), .val (.ref ka), .val (.ref ca), .unset, .unset] [(.int zz), (.ref a1)])) rfl (hb hby d11_25) rfl hzz.2.2.2 (cap := 8) hzz.2.2.1 (by decide) (by decide) (by decide)
  obtain ⟨b27, g27⟩ : ∃ z, z = h16.size := ⟨_, rfl⟩
  rw [← g27] at A27 st27
  refine Go.st st27 ?_
  have gb27 : n0 ≤ b27 := Nat.le_trans z25 (Nat.le_of_eq g27.symm)
  have sb27 : h0.size ≤ b27 := Nat.le_trans (k17).1 (Nat.le_of_eq g27.symm)
  have k28 := (k17).ext E27
  have n29 : a1 ≠ b27 := Nat.ne_of_lt (Nat.lt_of_lt_of_le (f18).lt (Nat.le_of_eq g27.symm))
  have n30 : ka ≠ b27 := Nat.ne_of_lt (Nat.lt_of_lt_of_le (f22).lt (Nat.le_of_eq g27.symm))
  have n31 : ca ≠ b27 := Nat.ne_of_lt (Nat.lt_of_lt_of_le (f23).lt (Nat.le_of_eq g27.symm))
  have n32 : b4 ≠ b27 := Nat.ne_of_lt (Nat.lt_of_lt_of_le (f24).lt (Nat.le_of_eq g27.symm))
  have f33 := (f18).ext E27
  have f34 := (f19).ext E27
  have f35 := (f20).ext E27
  have f36 := (f21).ext E27
  have f37 := (f22).ext E27
  have f38 := (f23).ext E27
  have f39 := (f24).ext E27
  have z40 := Nat.le_trans z25 E27.1
  have V27 : Arv Z h27 b27 k27 .int zz ((List.replicate zz.toNatClampNeg (0 : Int32)).map Value.int) (.int (0 : Int32)) := (Arv.new A27 hzz.2.2.2).pad (own_repI _)
  show Go p.tables e below _ (T27.setTop (mkF m 27 #[.val (.ref a1), .val (.ref ka), .val (.ref ca), .unset, .unset] [(.ref b27), (.ref a1)]))
  obtain ⟨T41, h41, X41, e41, W41, st41⟩ := putF X27 hx hZ hown (host := "") (Or.inl (hw _ (List.mem_of_getElem? (i := 30) rfl))) Via.refl e27 f35 f33 (Or.inl (hw _ (List.mem_of_getElem? (i := 31) rfl))) (hw _ (List.mem_of_getElem? (i := 1) rfl)) (ty := (.array .int)) (by decide) rfl rfl (g := (mkF m 27 #[.val (.ref a1), .val (.ref ka), .val (.ref ca), .unset, .unset] [(.ref b27), (.ref a1)])) rfl rfl (hb hby d11_27)
  refine Go.st st41 ?_
  have k42 := (k28).wr W41 (Or.inl (List.mem_of_getElem? (i := 0) rfl))
  have f43 := (f33).wr W41
  have f44 := (f34).other W41 (Or.inr (slot_ne (Or.inl (hw _ (List.mem_of_getElem? (i := 28) rfl))) (Or.inl (hw _ (List.mem_of_getElem? (i := 31) rfl))) (by decide) (t := (.array .long)) (t' := (.array .int)) (by decide) (by decide)))
  have f45 := (f35).same W41
  have f46 := (f36).other W41 (Or.inr (slot_ne (Or.inl (hw _ (List.mem_of_getElem? (i := 44) rfl))) (Or.inl (hw _ (List.mem_of_getElem? (i := 31) rfl))) (by decide) (t := .int) (t' := (.array .int)) (by decide) (by decide)))
  have f47 := (f37).other W41 ne2
  have f48 := (f38).other W41 ne3
  have f49 := (f39).other W41 (Ne.symm n6)
  have f50 := (V27).other W41 (Ne.symm n29)
  have z51 := Nat.le_trans z40 (Keep.of_wr W41).1
  have N41 := Fr.snoc X41 N16 g1
  show Go p.tables e below _ (T41.setTop (mkF m 30 #[.val (.ref a1), .val (.ref ka), .val (.ref ca), .unset, .unset] []))
  refine Go.st (fun U hr => XS.iconst X41.here hx rfl (hb hby d11_30) hr) ?_
  show Go p.tables e below _ (T41.setTop (mkF m 31 #[.val (.ref a1), .val (.ref ka), .val (.ref ca), .unset, .unset] [(.int (0 : Int32))]))
  refine Go.st (fun U hr => XS.istoreN X41.here hx rfl (hb hby d11_31) rfl (l' := #[.val (.ref a1), .val (.ref ka), .val (.ref ca), .val (.int (0 : Int32)), .unset]) rfl hr) ?_
  show Go p.tables e below _ (T41.setTop (mkF m 32 #[.val (.ref a1), .val (.ref ka), .val (.ref ca), .val (.int (0 : Int32)), .unset] []))
  have loop : ∀ (k : Nat) (i : Int32) (o4 : Slot) (Tl : State) (lo : List Loc) (hl : Heap) (ks' : List Int64) (cs' : List Int32), k + i.toNatClampNeg = z.toNatClampNeg → 0 ≤ i.toInt → One o4 → Stand p l e ({ frames := 2, cells := 2, slots := 16, locals := 31 } : Room) s m #[(.ref a1)] below meth c Tl lo (0 + 1 + 1) (0 + 8 + 8) → Tl.heap = hl → Fr n0 lo → n0 ≤ hl.size → Keep h0 hl [a1] → Exa Z hl a1 "com/example/rigorous_layout/rigorouslayout/Tally" → Fld Z hl a1 "com/example/rigorous_layout/rigorouslayout/Tally" "keys" "[J" (.ref b4) → Fld Z hl a1 "com/example/rigorous_layout/rigorouslayout/Tally" "counts" "[I" (.ref b27) → Fld Z hl a1 "com/example/rigorous_layout/rigorouslayout/Tally" "size" "I" (.int sz) → Arv Z hl ka kk .long z (ks.map Value.long) (.long (0 : Int64)) → Arv Z hl ca kc .int z (cs.map Value.int) (.int (0 : Int32)) → Arv Z hl b4 k4 .long zz (ks'.map Value.long) (.long (0 : Int64)) → Arv Z hl b27 k27 .int zz (cs'.map Value.int) (.int (0 : Int32)) → own_G z.toNatClampNeg zz ks cs M i.toNatClampNeg ks' cs' → Go p.tables e below (own_Fin s below ({ frames := 2, cells := 2, slots := 16, locals := 31 } : Room).cells ({ frames := 2, cells := 2, slots := 16, locals := 31 } : Room).slots (Q11 Z a1 ka ca kk kc z sz ks cs M h0 n0)) (Tl.setTop (mkF m 32 #[.val (.ref a1), .val (.ref ka), .val (.ref ca), .val (.int i), o4] [])) := by
    intro k
    induction k with
    | zero =>
      intro i o4 Tl lo hl ks' cs' hk hi0 o4h Xl el Nl zl Kl El Fk Fc Fs Vk Vc Vk' Vc' hG
      have hin := own_nat hi0
      refine Go.st (fun U hr => XS.iloadN Xl.here hx rfl (hb hby d11_32) rfl hr) ?_
      show Go p.tables e below _ (Tl.setTop (mkF m 33 #[.val (.ref a1), .val (.ref ka), .val (.ref ca), .val (.int i), o4] [(.int i)]))
      refine Go.st (fun U hr => XS.aloadN Xl.here hx rfl (hb hby d11_33) rfl rfl hr) ?_
      show Go p.tables e below _ (Tl.setTop (mkF m 34 #[.val (.ref a1), .val (.ref ka), .val (.ref ca), .val (.int i), o4] [(.ref ka), (.int i)]))
      obtain ⟨cl52, Ar52, qa52, Sa52, Na52, Ha52, Ga52⟩ := id Vk
      refine Go.st (Xl.arraylength hx (by rw [el]; exact Ar52.1) (State.isArrayOf_alike hZ.alike Ar52.2.1) (g := (mkF m 34 #[.val (.ref a1), .val (.ref ka), .val (.ref ca), .val (.int i), o4] [(.ref ka), (.int i)])) rfl rfl (hb hby d11_34)) ?_
      rw [len_of Sa52 Na52]
      show Go p.tables e below _ (Tl.setTop (mkF m 35 #[.val (.ref a1), .val (.ref ka), .val (.ref ca), .val (.int i), o4] [(.int z), (.int i)]))
      have hc35_53 : ¬ (i < z) := fun q => by rw [own_lt32] at q; omega
      refine Go.st (fun U hr => XS.icmpYes Xl.here hx rfl (pc0 := 35) (pc' := 86) rfl (hb hby d11_35) rfl (flt hc35_53).2.1 (by decide) (by decide) hr) ?_
      show Go p.tables e below _ (Tl.setTop (mkF m 86 #[.val (.ref a1), .val (.ref ka), .val (.ref ca), .val (.int i), o4] []))
      exact own_ret0 Xl hx Bd.notSynchronized Bd.returns (hb hby d11_86) (by rw [el]; exact ⟨rfl, Nl, Kl, _, _, _, _, _, _, _, El, Fk, Fc, Fs, Vk', Vc', gb4, gb27, n32, (Ne.symm n6), (Ne.symm n29), hzz.1, hzz.2.1, hG.1, hG.2.1, own_G_end (by omega) lc hI hG⟩) (by decide) (by decide)
    | succ k ih =>
      intro i o4 Tl lo hl ks' cs' hk hi0 o4h Xl el Nl zl Kl El Fk Fc Fs Vk Vc Vk' Vc' hG
      have hin := own_nat hi0
      have hir : 0 ≤ i.toInt ∧ i.toInt < z.toInt := ⟨hi0, by omega⟩
      have hi1 : (i + 1).toInt = i.toInt + 1 := by
        have h1 := c_iadd i 1
        rw [show (1 : Int32).toInt = 1 from by decide] at h1
        have r1 := rng32 (i + 1)
        omega
      have hi1n := own_nat (i := i + 1) (by omega)
      have hi1e : i.toNatClampNeg + 1 = (i + 1).toNatClampNeg := by omega
      refine Go.st (fun U hr => XS.iloadN Xl.here hx rfl (hb hby d11_32) rfl hr) ?_
      show Go p.tables e below _ (Tl.setTop (mkF m 33 #[.val (.ref a1), .val (.ref ka), .val (.ref ca), .val (.int i), o4] [(.int i)]))
      refine Go.st (fun U hr => XS.aloadN Xl.here hx rfl (hb hby d11_33) rfl rfl hr) ?_
      show Go p.tables e below _ (Tl.setTop (mkF m 34 #[.val (.ref a1), .val (.ref ka), .val (.ref ca), .val (.int i), o4] [(.ref ka), (.int i)]))
      obtain ⟨cl54, Ar54, qa54, Sa54, Na54, Ha54, Ga54⟩ := id Vk
      refine Go.st (Xl.arraylength hx (by rw [el]; exact Ar54.1) (State.isArrayOf_alike hZ.alike Ar54.2.1) (g := (mkF m 34 #[.val (.ref a1), .val (.ref ka), .val (.ref ca), .val (.int i), o4] [(.ref ka), (.int i)])) rfl rfl (hb hby d11_34)) ?_
      rw [len_of Sa54 Na54]
      show Go p.tables e below _ (Tl.setTop (mkF m 35 #[.val (.ref a1), .val (.ref ka), .val (.ref ca), .val (.int i), o4] [(.int z), (.int i)]))
      have hc35_55 : i < z := by rw [own_lt32]; exact hir.2
      refine Go.st (fun U hr => XS.icmpNo Xl.here hx rfl (hb hby d11_35) rfl (tlt hc35_55).2.1 hr) ?_
      show Go p.tables e below _ (Tl.setTop (mkF m 38 #[.val (.ref a1), .val (.ref ka), .val (.ref ca), .val (.int i), o4] []))
      refine Go.st (fun U hr => XS.aloadN Xl.here hx rfl (hb hby d11_38) rfl rfl hr) ?_
      show Go p.tables e below _ (Tl.setTop (mkF m 39 #[.val (.ref a1), .val (.ref ka), .val (.ref ca), .val (.int i), o4] [(.ref ca)]))
      refine Go.st (fun U hr => XS.iloadN Xl.here hx rfl (hb hby d11_39) rfl hr) ?_
      show Go p.tables e below _ (Tl.setTop (mkF m 40 #[.val (.ref a1), .val (.ref ka), .val (.ref ca), .val (.int i), o4] [(.int i), (.ref ca)]))
      obtain ⟨cl56, Ar56, qa56, Sa56, Na56, Ha56, Ga56⟩ := id Vc
      have hin56 : ¬ (i < 0 ∨ cl56.slots.size ≤ (i).toNatClampNeg) := inb_of Sa56 (own_inb hir)
      refine Go.st (Xl.iaload hx (j := i) (v := (.int (own_c cs i.toNatClampNeg))) (by rw [el]; exact Ar56.1) (State.isArrayOf_alike hZ.alike Ar56.2.1) Ar56.2.2 hin56 (Ha56.at hin56 (own_gI cs _)) (g := (mkF m 40 #[.val (.ref a1), .val (.ref ka), .val (.ref ca), .val (.int i), o4] [(.int i), (.ref ca)])) rfl rfl (hb hby d11_40)) ?_
      show Go p.tables e below _ (Tl.setTop (mkF m 41 #[.val (.ref a1), .val (.ref ka), .val (.ref ca), .val (.int i), o4] [(.int (own_c cs i.toNatClampNeg))]))
      by_cases hc41_57 : (own_c cs i.toNatClampNeg) = (0 : Int32)
      · refine Go.st (fun U hr => XS.ifYes Xl.here hx rfl (pc0 := 41) (pc' := 80) rfl (hb hby d11_41) rfl ((if0 _ _).trans (teq hc41_57).1) (by decide) (by decide) hr) ?_
        show Go p.tables e below _ (Tl.setTop (mkF m 80 #[.val (.ref a1), .val (.ref ka), .val (.ref ca), .val (.int i), o4] []))
        refine Go.st (fun U hr => XS.iinc Xl.here hx rfl (hb hby d11_80) rfl (l' := #[.val (.ref a1), .val (.ref ka), .val (.ref ca), .val (.int (i + (1 : Int32))), o4]) rfl hr) ?_
        show Go p.tables e below _ (Tl.setTop (mkF m 83 #[.val (.ref a1), .val (.ref ka), .val (.ref ca), .val (.int (i + (1 : Int32))), o4] []))
        refine Go.st (fun U hr => XS.goto Xl.here hx rfl (pc0 := 83) (pc' := 32) rfl (hb hby d11_83) (by decide) (by decide) hr) ?_
        show Go p.tables e below _ (Tl.setTop (mkF m 32 #[.val (.ref a1), .val (.ref ka), .val (.ref ca), .val (.int (i + (1 : Int32))), o4] []))
        exact ih (i + 1) (o4) Tl _ hl _ _ (by omega) (by omega) o4h Xl el Nl zl Kl El Fk Fc Fs Vk Vc Vk' Vc' (by rw [← hi1e]; exact own_G_skip (by omega) hc41_57 hG)
      · refine Go.st (fun U hr => XS.ifNo Xl.here hx rfl (hb hby d11_41) rfl ((if0 _ _).trans (feq hc41_57).1) hr) ?_
        show Go p.tables e below _ (Tl.setTop (mkF m 44 #[.val (.ref a1), .val (.ref ka), .val (.ref ca), .val (.int i), o4] []))
        refine Go.st (fun U hr => XS.aloadN Xl.here hx rfl (hb hby d11_44) rfl rfl hr) ?_
        show Go p.tables e below _ (Tl.setTop (mkF m 45 #[.val (.ref a1), .val (.ref ka), .val (.ref ca), .val (.int i), o4] [(.ref a1)]))
        obtain ⟨T58, X58, e58, st58⟩ := getF Xl hx hZ hown (host := "") (Or.inl (hw _ (List.mem_of_getElem? (i := 27) rfl))) Via.refl el Fk (g := (mkF m 45 #[.val (.ref a1), .val (.ref ka), .val (.ref ca), .val (.int i), o4] [(.ref a1)])) rfl rfl (hb hby d11_45)
        refine Go.st st58 ?_
        show Go p.tables e below _ (T58.setTop (mkF m 48 #[.val (.ref a1), .val (.ref ka), .val (.ref ca), .val (.int i), o4] [(.ref b4)]))
        refine Go.st (fun U hr => XS.aloadN X58.here hx rfl (hb hby d11_48) rfl rfl hr) ?_
        show Go p.tables e below _ (T58.setTop (mkF m 49 #[.val (.ref a1), .val (.ref ka), .val (.ref ca), .val (.int i), o4] [(.ref a1), (.ref b4)]))
        obtain ⟨T59, X59, e59, st59⟩ := getF X58 hx hZ hown (host := "") (Or.inl (hw _ (List.mem_of_getElem? (i := 30) rfl))) Via.refl e58 Fc (g := (mkF m 49 #[.val (.ref a1), .val (.ref ka), .val (.ref ca), .val (.int i), o4] [(.ref a1), (.ref b4)])) rfl rfl (hb hby d11_49)
        refine Go.st st59 ?_
        show Go p.tables e below _ (T59.setTop (mkF m 52 #[.val (.ref a1), .val (.ref ka), .val (.ref ca), .val (.int i), o4] [(.ref b27), (.ref b4)]))
        refine Go.st (fun U hr => XS.aloadN X59.here hx rfl (hb hby d11_52) rfl rfl hr) ?_
        show Go p.tables e below _ (T59.setTop (mkF m 53 #[.val (.ref a1), .val (.ref ka), .val (.ref ca), .val (.int i), o4] [(.ref ka), (.ref b27), (.ref b4)]))
        refine Go.st (fun U hr => XS.iloadN X59.here hx rfl (hb hby d11_53) rfl hr) ?_
        show Go p.tables e below _ (T59.setTop (mkF m 54 #[.val (.ref a1), .val (.ref ka), .val (.ref ca), .val (.int i), o4] [(.int i), (.ref ka), (.ref b27), (.ref b4)]))
        obtain ⟨cl60, Ar60, qa60, Sa60, Na60, Ha60, Ga60⟩ := id Vk
        have hin60 : ¬ (i < 0 ∨ cl60.slots.size ≤ (i).toNatClampNeg) := inb_of Sa60 (own_inb hir)
        refine Go.st (X59.laload hx (j := i) (v := (.long (own_k ks i.toNatClampNeg))) (by rw [e59]; exact Ar60.1) (State.isArrayOf_alike hZ.alike Ar60.2.1) Ar60.2.2 hin60 (Ha60.at hin60 (own_gL ks _)) (g := (mkF m 54 #[.val (.ref a1), .val (.ref ka), .val (.ref ca), .val (.int i), o4] [(.int i), (.ref ka), (.ref b27), (.ref b4)])) rfl rfl (hb hby d11_54)) ?_
        show Go p.tables e below _ (T59.setTop (mkF m 55 #[.val (.ref a1), .val (.ref ka), .val (.ref ca), .val (.int i), o4] [(.long (own_k ks i.toNatClampNeg)), (.ref b27), (.ref b4)]))
        obtain ⟨_, _, ⟨T61, L61, k61, n61⟩, -, X61, ⟨Lc61, hQ61, l61, y61, z61⟩, st61⟩ := Jvm.LawKit.callS X59 hx (y := (⟨"com/example/rigorous_layout/rigorouslayout/Tally", "slot", "([J[IJ)I"⟩ : MethodName)) hown (mvT hZ (hw _ (List.mem_of_getElem? (i := 37) rfl))) (mvT hZ (hw _ (List.mem_of_getElem? (i := 38) rfl))) (mvT hZ (hw _ (List.mem_of_getElem? (i := 2) rfl))) (mvT hZ (hw _ (List.mem_of_getElem? (i := 39) rfl))) (by decide) (backOf (W := 0) (rm8 l Z a0 hw [] b4 b27 (own_k ks i.toNatClampNeg) k4 k27 zz ks' cs' hl n0 zl Vk' Vc' hzz.1 hG.1 hG.2.1 (own_G_room (by omega) lc hG)) hZ (hw _ (List.mem_of_getElem? (i := 39) rfl)) (hw _ (List.mem_of_getElem? (i := 2) rfl)) (by decide) (by decide)) (g := (mkF m 55 #[.val (.ref a1), .val (.ref ka), .val (.ref ca), .val (.int i), o4] [(.long (own_k ks i.toNatClampNeg)), (.ref b27), (.ref b4)])) rfl (by rw [hml]; rfl) (argsL := [(.ref b4), (.ref b27), (.long (own_k ks i.toNatClampNeg))]) (rest := []) (lenOf pd_2 rfl) rfl (by show 2 * 0 + _ ≤ _; exact Nat.le_of_eq rfl) (hb hby d11_55) (fun _ _ => ⟨rfl, e59, (by decide : 2 + 0 ≤ _), (by decide : 16 + 0 ≤ _)⟩)
        dsimp only [Pt.U, Pt.locs, Pt.cells, Pt.slots] at X61 l61 y61 z61 st61 hQ61
        subst l61 y61 z61
        obtain ⟨i61, rfl, Nq61, ee61, hi61, hsl61⟩ := hQ61
        have N61 := Fr.app Nl Nq61
        refine Go.st st61 ?_
        show Go p.tables e below _ (T61.setTop (mkF m 58 #[.val (.ref a1), .val (.ref ka), .val (.ref ca), .val (.int i), o4] [(.int i61)]))
        refine Go.st (fun U hr => XS.istoreS X61.here hx rfl (hb hby d11_58) rfl (o := o4) rfl o4h hr) ?_
        show Go p.tables e below _ (T61.setTop (mkF m 60 #[.val (.ref a1), .val (.ref ka), .val (.ref ca), .val (.int i), .val (.int i61)] []))
        refine Go.st (fun U hr => XS.aloadN X61.here hx rfl (hb hby d11_60) rfl rfl hr) ?_
        show Go p.tables e below _ (T61.setTop (mkF m 61 #[.val (.ref a1), .val (.ref ka), .val (.ref ca), .val (.int i), .val (.int i61)] [(.ref a1)]))
        obtain ⟨T62, X62, e62, st62⟩ := getF X61 hx hZ hown (host := "") (Or.inl (hw _ (List.mem_of_getElem? (i := 27) rfl))) Via.refl ee61 Fk (g := (mkF m 61 #[.val (.ref a1), .val (.ref ka), .val (.ref ca), .val (.int i), .val (.int i61)] [(.ref a1)])) rfl rfl (hb hby d11_61)
        refine Go.st st62 ?_
        show Go p.tables e below _ (T62.setTop (mkF m 64 #[.val (.ref a1), .val (.ref ka), .val (.ref ca), .val (.int i), .val (.int i61)] [(.ref b4)]))
        refine Go.st (fun U hr => XS.iload X62.here hx rfl (hb hby d11_64) rfl hr) ?_
        show Go p.tables e below _ (T62.setTop (mkF m 66 #[.val (.ref a1), .val (.ref ka), .val (.ref ca), .val (.int i), .val (.int i61)] [(.int i61), (.ref b4)]))
        refine Go.st (fun U hr => XS.aloadN X62.here hx rfl (hb hby d11_66) rfl rfl hr) ?_
        show Go p.tables e below _ (T62.setTop (mkF m 67 #[.val (.ref a1), .val (.ref ka), .val (.ref ca), .val (.int i), .val (.int i61)] [(.ref ka), (.int i61), (.ref b4)]))
        refine Go.st (fun U hr => XS.iloadN X62.here hx rfl (hb hby d11_67) rfl hr) ?_
        show Go p.tables e below _ (T62.setTop (mkF m 68 #[.val (.ref a1), .val (.ref ka), .val (.ref ca), .val (.int i), .val (.int i61)] [(.int i), (.ref ka), (.int i61), (.ref b4)]))
        obtain ⟨cl63, Ar63, qa63, Sa63, Na63, Ha63, Ga63⟩ := id Vk
        have hin63 : ¬ (i < 0 ∨ cl63.slots.size ≤ (i).toNatClampNeg) := inb_of Sa63 (own_inb hir)
        refine Go.st (X62.laload hx (j := i) (v := (.long (own_k ks i.toNatClampNeg))) (by rw [e62]; exact Ar63.1) (State.isArrayOf_alike hZ.alike Ar63.2.1) Ar63.2.2 hin63 (Ha63.at hin63 (own_gL ks _)) (g := (mkF m 68 #[.val (.ref a1), .val (.ref ka), .val (.ref ca), .val (.int i), .val (.int i61)] [(.int i), (.ref ka), (.int i61), (.ref b4)])) rfl rfl (hb hby d11_68)) ?_
        show Go p.tables e below _ (T62.setTop (mkF m 69 #[.val (.ref a1), .val (.ref ka), .val (.ref ca), .val (.int i), .val (.int i61)] [(.long (own_k ks i.toNatClampNeg)), (.int i61), (.ref b4)]))
        obtain ⟨cl64, Ar64, qa64, Sa64, Na64, Ha64, Ga64⟩ := id Vk'
        have hin64 : ¬ (i61 < 0 ∨ cl64.slots.size ≤ (i61).toNatClampNeg) := inb_of Sa64 (own_inb hi61)
        obtain ⟨T65, h65, X65, e65, W65, st65⟩ := stJ X62 hx hZ e62 Ar64 (j := i61) hin64 (g := (mkF m 69 #[.val (.ref a1), .val (.ref ka), .val (.ref ca), .val (.int i), .val (.int i61)] [(.long (own_k ks i.toNatClampNeg)), (.int i61), (.ref b4)])) rfl rfl (hb hby d11_69)
        refine Go.st st65 ?_
        have V65' := Arv.set Ar64 qa64 Sa64 Na64 Ha64 Ga64 rfl W65 (i61.toNatClampNeg) rfl (by rw [List.length_map]; exact own_idx hi61 hG.1)
        have V65 : Arv Z h65 b4 k4 .long zz ((ks'.set i61.toNatClampNeg (own_k ks i.toNatClampNeg)).map Value.long) (.long (0 : Int64)) := by rw [List.map_set]; exact V65'
        have k66 := (Kl).wr W65 (Or.inr sb4)
        have f67 := (El).wr W65
        have f68 := (Fk).other W65 (Or.inl n6)
        have f69 := (Fc).other W65 (Or.inl n6)
        have f70 := (Fs).other W65 (Or.inl n6)
        have f71 := (Vk).other W65 n7
        have f72 := (Vc).other W65 n8
        have f74 := (Vc').other W65 (Ne.symm n32)
        have z75 := Nat.le_trans zl (Keep.of_wr W65).1
        have N65 := Fr.snoc X65 N61 gb4
        show Go p.tables e below _ (T65.setTop (mkF m 70 #[.val (.ref a1), .val (.ref ka), .val (.ref ca), .val (.int i), .val (.int i61)] []))
        refine Go.st (fun U hr => XS.aloadN X65.here hx rfl (hb hby d11_70) rfl rfl hr) ?_
        show Go p.tables e below _ (T65.setTop (mkF m 71 #[.val (.ref a1), .val (.ref ka), .val (.ref ca), .val (.int i), .val (.int i61)] [(.ref a1)]))
        obtain ⟨T76, X76, e76, st76⟩ := getF X65 hx hZ hown (host := "") (Or.inl (hw _ (List.mem_of_getElem? (i := 30) rfl))) Via.refl e65 f69 (g := (mkF m 71 #[.val (.ref a1), .val (.ref ka), .val (.ref ca), .val (.int i), .val (.int i61)] [(.ref a1)])) rfl rfl (hb hby d11_71)
        refine Go.st st76 ?_
        show Go p.tables e below _ (T76.setTop (mkF m 74 #[.val (.ref a1), .val (.ref ka), .val (.ref ca), .val (.int i), .val (.int i61)] [(.ref b27)]))
        refine Go.st (fun U hr => XS.iload X76.here hx rfl (hb hby d11_74) rfl hr) ?_
        show Go p.tables e below _ (T76.setTop (mkF m 76 #[.val (.ref a1), .val (.ref ka), .val (.ref ca), .val (.int i), .val (.int i61)] [(.int i61), (.ref b27)]))
        refine Go.st (fun U hr => XS.aloadN X76.here hx rfl (hb hby d11_76) rfl rfl hr) ?_
        show Go p.tables e below _ (T76.setTop (mkF m 77 #[.val (.ref a1), .val (.ref ka), .val (.ref ca), .val (.int i), .val (.int i61)] [(.ref ca), (.int i61), (.ref b27)]))
        refine Go.st (fun U hr => XS.iloadN X76.here hx rfl (hb hby d11_77) rfl hr) ?_
        show Go p.tables e below _ (T76.setTop (mkF m 78 #[.val (.ref a1), .val (.ref ka), .val (.ref ca), .val (.int i), .val (.int i61)] [(.int i), (.ref ca), (.int i61), (.ref b27)]))
        obtain ⟨cl77, Ar77, qa77, Sa77, Na77, Ha77, Ga77⟩ := id f72
        have hin77 : ¬ (i < 0 ∨ cl77.slots.size ≤ (i).toNatClampNeg) := inb_of Sa77 (own_inb hir)
        refine Go.st (X76.iaload hx (j := i) (v := (.int (own_c cs i.toNatClampNeg))) (by rw [e76]; exact Ar77.1) (State.isArrayOf_alike hZ.alike Ar77.2.1) Ar77.2.2 hin77 (Ha77.at hin77 (own_gI cs _)) (g := (mkF m 78 #[.val (.ref a1), .val (.ref ka), .val (.ref ca), .val (.int i), .val (.int i61)] [(.int i), (.ref ca), (.int i61), (.ref b27)])) rfl rfl (hb hby d11_78)) ?_
        show Go p.tables e below _ (T76.setTop (mkF m 79 #[.val (.ref a1), .val (.ref ka), .val (.ref ca), .val (.int i), .val (.int i61)] [(.int (own_c cs i.toNatClampNeg)), (.int i61), (.ref b27)]))
        obtain ⟨cl78, Ar78, qa78, Sa78, Na78, Ha78, Ga78⟩ := id f74
        have hin78 : ¬ (i61 < 0 ∨ cl78.slots.size ≤ (i61).toNatClampNeg) := inb_of Sa78 (own_inb hi61)
        obtain ⟨T79, h79, X79, e79, W79, st79⟩ := stI X76 hx hZ e76 Ar78 (j := i61) hin78 (g := (mkF m 79 #[.val (.ref a1), .val (.ref ka), .val (.ref ca), .val (.int i), .val (.int i61)] [(.int (own_c cs i.toNatClampNeg)), (.int i61), (.ref b27)])) rfl rfl (hb hby d11_79)
        refine Go.st st79 ?_
        have V79' := Arv.set Ar78 qa78 Sa78 Na78 Ha78 Ga78 rfl W79 (i61.toNatClampNeg) rfl (by rw [List.length_map]; exact own_idx hi61 hG.2.1)
        have V79 : Arv Z h79 b27 k27 .int zz ((cs'.set i61.toNatClampNeg (own_c cs i.toNatClampNeg)).map Value.int) (.int (0 : Int32)) := by rw [List.map_set]; exact V79'
        have k80 := (k66).wr W79 (Or.inr sb27)
        have f81 := (f67).wr W79
        have f82 := (f68).other W79 (Or.inl n29)
        have f83 := (f69).other W79 (Or.inl n29)
        have f84 := (f70).other W79 (Or.inl n29)
        have f85 := (f71).other W79 n30
        have f86 := (f72).other W79 n31
        have f88 := (V65).other W79 n32
        have z89 := Nat.le_trans z75 (Keep.of_wr W79).1
        have N79 := Fr.snoc X79 N65 gb27
        show Go p.tables e below _ (T79.setTop (mkF m 80 #[.val (.ref a1), .val (.ref ka), .val (.ref ca), .val (.int i), .val (.int i61)] []))
        refine Go.st (fun U hr => XS.iinc X79.here hx rfl (hb hby d11_80) rfl (l' := #[.val (.ref a1), .val (.ref ka), .val (.ref ca), .val (.int (i + (1 : Int32))), .val (.int i61)]) rfl hr) ?_
        show Go p.tables e below _ (T79.setTop (mkF m 83 #[.val (.ref a1), .val (.ref ka), .val (.ref ca), .val (.int (i + (1 : Int32))), .val (.int i61)] []))
        refine Go.st (fun U hr => XS.goto X79.here hx rfl (pc0 := 83) (pc' := 32) rfl (hb hby d11_83) (by decide) (by decide) hr) ?_
        show Go p.tables e below _ (T79.setTop (mkF m 32 #[.val (.ref a1), .val (.ref ka), .val (.ref ca), .val (.int (i + (1 : Int32))), .val (.int i61)] []))
        exact ih (i + 1) (.val (.int i61)) T79 _ h79 _ _ (by omega) (by omega) (One.val rfl) X79 e79 N79 z89 k80 f81 f82 f83 f84 f85 f86 f88 V79 (by rw [← hi1e]; exact own_G_put (by omega) (by omega) lc hI hc41_57 hG hsl61)
  exact loop z.toNatClampNeg 0 .unset T41 _ h41 _ _ (by rfl) (by decide) One.u X41 e41 N41 z51 k42 f43 f44 f45 f46 f47 f48 f49 f50 (own_G_zero rfl)
theorem own_selp {s : State} {args args' : Array Value} {y y' z' : MethodName} (hinst : (Jvm.Cond.instanceMethod y).before args s = true) (hpriv : s.PrivateAt y) (hsel : (Jvm.Cond.selects y.cls y' z').before args' s = true)
    (hz : z'.cls = y.cls := by rfl) (hy : y.cls ≠ "java/lang/invoke/MethodHandle" ∧ y.cls ≠ "java/lang/invoke/VarHandle" := by decide) : (Jvm.Cond.selects y.cls y y).before args s = true := by
  obtain ⟨c, r, m', -, -, hm, -, mk, hmk, hni⟩ := Cond.selects_spec hsel
  have hc := findClass_of_methodNamed hm
  rw [hz] at hc
  exact selects_self_of_private hc hmk hni hpriv hinst hy

theorem d7_0 : decode prog_33_method_5_code 0 = .ok (.aload_n 0, 1) := by decide +kernel
theorem d7_1 : decode prog_33_method_5_code 1 = .ok (.getfield 28, 3) := by decide +kernel
theorem d7_4 : decode prog_33_method_5_code 4 = .ok (.aload_n 0, 1) := by decide +kernel
theorem d7_5 : decode prog_33_method_5_code 5 = .ok (.getfield 32, 3) := by decide +kernel
theorem d7_8 : decode prog_33_method_5_code 8 = .ok (.lload_n 1, 1) := by decide +kernel
theorem d7_9 : decode prog_33_method_5_code 9 = .ok (.invokestatic 40, 3) := by decide +kernel
theorem d7_12 : decode prog_33_method_5_code 12 = .ok (.istore_n 3, 1) := by decide +kernel
theorem d7_13 : decode prog_33_method_5_code 13 = .ok (.aload_n 0, 1) := by decide +kernel
theorem d7_14 : decode prog_33_method_5_code 14 = .ok (.getfield 32, 3) := by decide +kernel
theorem d7_17 : decode prog_33_method_5_code 17 = .ok (.iload_n 3, 1) := by decide +kernel
theorem d7_18 : decode prog_33_method_5_code 18 = .ok (.iaload, 1) := by decide +kernel
theorem d7_19 : decode prog_33_method_5_code 19 = .ok (.ifCond .ne 20, 3) := by decide +kernel
theorem d7_22 : decode prog_33_method_5_code 22 = .ok (.aload_n 0, 1) := by decide +kernel
theorem d7_23 : decode prog_33_method_5_code 23 = .ok (.getfield 28, 3) := by decide +kernel
theorem d7_26 : decode prog_33_method_5_code 26 = .ok (.iload_n 3, 1) := by decide +kernel
theorem d7_27 : decode prog_33_method_5_code 27 = .ok (.lload_n 1, 1) := by decide +kernel
theorem d7_28 : decode prog_33_method_5_code 28 = .ok (.lastore, 1) := by decide +kernel
theorem d7_29 : decode prog_33_method_5_code 29 = .ok (.aload_n 0, 1) := by decide +kernel
theorem d7_30 : decode prog_33_method_5_code 30 = .ok (.dup, 1) := by decide +kernel
theorem d7_31 : decode prog_33_method_5_code 31 = .ok (.getfield 36, 3) := by decide +kernel
theorem d7_34 : decode prog_33_method_5_code 34 = .ok (.iconst 1, 1) := by decide +kernel
theorem d7_35 : decode prog_33_method_5_code 35 = .ok (.iadd, 1) := by decide +kernel
theorem d7_36 : decode prog_33_method_5_code 36 = .ok (.putfield 36, 3) := by decide +kernel
theorem d7_39 : decode prog_33_method_5_code 39 = .ok (.aload_n 0, 1) := by decide +kernel
theorem d7_40 : decode prog_33_method_5_code 40 = .ok (.getfield 32, 3) := by decide +kernel
theorem d7_43 : decode prog_33_method_5_code 43 = .ok (.iload_n 3, 1) := by decide +kernel
theorem d7_44 : decode prog_33_method_5_code 44 = .ok (.aload_n 0, 1) := by decide +kernel
theorem d7_45 : decode prog_33_method_5_code 45 = .ok (.getfield 32, 3) := by decide +kernel
theorem d7_48 : decode prog_33_method_5_code 48 = .ok (.iload_n 3, 1) := by decide +kernel
theorem d7_49 : decode prog_33_method_5_code 49 = .ok (.iaload, 1) := by decide +kernel
theorem d7_50 : decode prog_33_method_5_code 50 = .ok (.aload_n 0, 1) := by decide +kernel
theorem d7_51 : decode prog_33_method_5_code 51 = .ok (.getfield 32, 3) := by decide +kernel
theorem d7_54 : decode prog_33_method_5_code 54 = .ok (.iload_n 3, 1) := by decide +kernel
theorem d7_55 : decode prog_33_method_5_code 55 = .ok (.iaload, 1) := by decide +kernel
theorem d7_56 : decode prog_33_method_5_code 56 = .ok (.iconst 1, 1) := by decide +kernel
theorem d7_57 : decode prog_33_method_5_code 57 = .ok (.iadd, 1) := by decide +kernel
theorem d7_58 : decode prog_33_method_5_code 58 = .ok (.invokestatic 19, 3) := by decide +kernel
theorem d7_61 : decode prog_33_method_5_code 61 = .ok (.iastore, 1) := by decide +kernel
theorem d7_62 : decode prog_33_method_5_code 62 = .ok (.aload_n 0, 1) := by decide +kernel
theorem d7_63 : decode prog_33_method_5_code 63 = .ok (.getfield 32, 3) := by decide +kernel
theorem d7_66 : decode prog_33_method_5_code 66 = .ok (.iload_n 3, 1) := by decide +kernel
theorem d7_67 : decode prog_33_method_5_code 67 = .ok (.iaload, 1) := by decide +kernel
theorem d7_68 : decode prog_33_method_5_code 68 = .ok (.istore 4, 2) := by decide +kernel
theorem d7_70 : decode prog_33_method_5_code 70 = .ok (.aload_n 0, 1) := by decide +kernel
theorem d7_71 : decode prog_33_method_5_code 71 = .ok (.getfield 36, 3) := by decide +kernel
theorem d7_74 : decode prog_33_method_5_code 74 = .ok (.ldc 12, 2) := by decide +kernel
theorem d7_76 : decode prog_33_method_5_code 76 = .ok (.if_icmp .le 10, 3) := by decide +kernel
theorem d7_86 : decode prog_33_method_5_code 86 = .ok (.iconst 2, 1) := by decide +kernel
theorem d7_87 : decode prog_33_method_5_code 87 = .ok (.aload_n 0, 1) := by decide +kernel
theorem d7_88 : decode prog_33_method_5_code 88 = .ok (.getfield 36, 3) := by decide +kernel
theorem d7_91 : decode prog_33_method_5_code 91 = .ok (.imul, 1) := by decide +kernel
theorem d7_92 : decode prog_33_method_5_code 92 = .ok (.aload_n 0, 1) := by decide +kernel
theorem d7_93 : decode prog_33_method_5_code 93 = .ok (.getfield 28, 3) := by decide +kernel
theorem d7_96 : decode prog_33_method_5_code 96 = .ok (.arraylength, 1) := by decide +kernel
theorem d7_97 : decode prog_33_method_5_code 97 = .ok (.if_icmp .le 7, 3) := by decide +kernel
theorem d7_100 : decode prog_33_method_5_code 100 = .ok (.aload_n 0, 1) := by decide +kernel
theorem d7_101 : decode prog_33_method_5_code 101 = .ok (.invokevirtual 47, 3) := by decide +kernel
theorem d7_104 : decode prog_33_method_5_code 104 = .ok (.iload 4, 2) := by decide +kernel
theorem d7_106 : decode prog_33_method_5_code 106 = .ok (.ireturn, 1) := by decide +kernel
theorem pn_7 : plainFor (⟨"com/example/rigorous_layout/rigorouslayout/Tally", "add", "(J)I"⟩ : MethodName) = true := plainFor_of_name (by first | (simp [plainName, overriddenIn]; done) | decide +kernel)
theorem ef_7 (m : MethodId) (x0 : Addr) (x1 : Int64) : entryFrame m #[(.ref x0), (.long x1)] 5 = mkF m 0 #[.val (.ref x0), .val (.long x1), .second, .unset, .unset] [] := by first | (simp [entryFrame, mkF, argsToLocals, Value.category]; done) | rfl
theorem pd_3 : parseMethodDescriptor "(II)I" = some ⟨[.int, .int], some .int⟩ := by decide +kernel
theorem pd_4 : parseMethodDescriptor "()V" = some ⟨[], none⟩ := by decide +kernel
def Q7 (Z : State) (a1 : Addr) (q2 : Int64) (M : Int64 → Int) (bb : Int) (h0 : Heap) (n0 : Nat) (v : Option Value) (h : Heap) (L : List Loc) : Prop := ∃ r : Int32, v = some (.int r) ∧ Fr n0 L ∧ h0.size ≤ h.size ∧ own_TB Z h n0 a1 (fun k => if k = q2 then M k + 1 else M k) (bb + 1)
set_option maxRecDepth 65536 in
set_option maxHeartbeats 40000000 in
theorem rm7 (l : Launch) (Z : State) (a0 : Array Value) (hw : ∀ d ∈ tables_1, d.before a0 Z = true) (ws : List Jvm.Cond) (a1 : Addr) (q2 : Int64) (M : Int64 → Int) (bb : Int) (h0 : Heap) (n0 : Nat) (Z0 : n0 ≤ h0.size) (hT : own_TB Z h0 n0 a1 M bb) (g1 : n0 ≤ a1) (hbb : bb ≤ 3) (hMM : ∀ k, 0 ≤ M k ∧ M k ≤ 100) :
    MetFree l (⟨"com/example/rigorous_layout/rigorouslayout/Tally", "add", "(J)I"⟩ : MethodName) (head1 (Jvm.Cond.code (⟨"com/example/rigorous_layout/rigorouslayout/Tally", "add", "(J)I"⟩ : MethodName) prog_33_method_5_code 5 (some .int) :: ws) ({ frames := 3, cells := 2, slots := 16, locals := 47 } : Room)) (fun a U => a = #[(.ref a1), (.long q2)] ∧ Z.Warmed39 U.vm ∧ U.heap = h0) (fun _ _ _ _ _ => True) (fun _ U o U' => ∃ v L, o = .returned v ∧ Q7 Z a1 q2 M bb h0 n0 v U'.heap L ∧ FrameEnd U o U' L ({ frames := 3, cells := 2, slots := 16, locals := 47 } : Room).cells ({ frames := 3, cells := 2, slots := 16, locals := 47 } : Room).slots) := by
  refine MetFree.of_bodySF pn_7 hisR ?_
  intro p e s m args below meth c s₁ Bd hml0 hP hK
  obtain ⟨rfl, hZ, hh⟩ := hP
  have hx := Bd.exec
  have hby := Bd.bytes
  have hml : c.maxLocals = 5 := hml0
  have hown : s.vm.findClass "com/example/rigorous_layout/rigorouslayout/Tally" = some m.cls := findClass_of_methodNamed Bd.named
  have hnm := (name_of_methodNamed Bd.named Bd.method).1
  have X0 : Stand p l e ({ frames := 3, cells := 2, slots := 16, locals := 47 } : Room) s m #[(.ref a1), (.long q2)] below meth c s₁ [] 0 0 := Stand.of_body Bd
  have e0 : s₁.heap = h0 := by rw [← hh, Bd.state]; rfl
  have N0 := Fr.nil n0
  refine own_start (Q := Q7 Z a1 q2 M bb h0 n0) (own_cast (ef_7 m a1 q2) ?_)
  show Go p.tables e below _ (s₁.setTop (mkF m 0 #[.val (.ref a1), .val (.long q2), .second, .unset, .unset] []))
  obtain ⟨ka, ca, kk, kc, z, sz, ks, cs, E1, F1, F2, F3, V1, V2, gk, gc, ne1, ne2, ne3, hz, lk, lc, hI, hu, hs1, hs2⟩ := hT
  have he := own_room hz lc hu hs2
  refine Go.st (fun U hr => XS.aloadN X0.here hx rfl (hb hby d7_0) rfl rfl hr) ?_
  show Go p.tables e below _ (s₁.setTop (mkF m 1 #[.val (.ref a1), .val (.long q2), .second, .unset, .unset] [(.ref a1)]))
  obtain ⟨T1, X1, e1, st1⟩ := getF X0 hx hZ hown (host := "") (Or.inl (hw _ (List.mem_of_getElem? (i := 27) rfl))) Via.refl e0 F1 (g := (mkF m 1 #[.val (.ref a1), .val (.long q2), .second, .unset, .unset] [(.ref a1)])) rfl rfl (hb hby d7_1)
  refine Go.st st1 ?_
  show Go p.tables e below _ (T1.setTop (mkF m 4 #[.val (.ref a1), .val (.long q2), .second, .unset, .unset] [(.ref ka)]))
  refine Go.st (fun U hr => XS.aloadN X1.here hx rfl (hb hby d7_4) rfl rfl hr) ?_
  show Go p.tables e below _ (T1.setTop (mkF m 5 #[.val (.ref a1), .val (.long q2), .second, .unset, .unset] [(.ref a1), (.ref ka)]))
  obtain ⟨T2, X2, e2, st2⟩ := getF X1 hx hZ hown (host := "") (Or.inl (hw _ (List.mem_of_getElem? (i := 30) rfl))) Via.refl e1 F2 (g := (mkF m 5 #[.val (.ref a1), .val (.long q2), .second, .unset, .unset] [(.ref a1), (.ref ka)])) rfl rfl (hb hby d7_5)
  refine Go.st st2 ?_
  show Go p.tables e below _ (T2.setTop (mkF m 8 #[.val (.ref a1), .val (.long q2), .second, .unset, .unset] [(.ref ca), (.ref ka)]))
  refine Go.st (fun U hr => XS.lloadN X2.here hx rfl (hb hby d7_8) rfl hr) ?_
  show Go p.tables e below _ (T2.setTop (mkF m 9 #[.val (.ref a1), .val (.long q2), .second, .unset, .unset] [(.long q2), (.ref ca), (.ref ka)]))
  obtain ⟨_, _, ⟨T3, L3, k3, n3⟩, -, X3, ⟨Lc3, hQ3, l3, y3, z3⟩, st3⟩ := Jvm.LawKit.callS X2 hx (y := (⟨"com/example/rigorous_layout/rigorouslayout/Tally", "slot", "([J[IJ)I"⟩ : MethodName)) hown (mvT hZ (hw _ (List.mem_of_getElem? (i := 37) rfl))) (mvT hZ (hw _ (List.mem_of_getElem? (i := 38) rfl))) (mvT hZ (hw _ (List.mem_of_getElem? (i := 2) rfl))) (mvT hZ (hw _ (List.mem_of_getElem? (i := 39) rfl))) (by decide) (backOf (W := 0) (rm8 l Z a0 hw [] ka ca q2 kk kc z ks cs h0 n0 Z0 V1 V2 hz lk lc he) hZ (hw _ (List.mem_of_getElem? (i := 39) rfl)) (hw _ (List.mem_of_getElem? (i := 2) rfl)) (by decide) (by decide)) (g := (mkF m 9 #[.val (.ref a1), .val (.long q2), .second, .unset, .unset] [(.long q2), (.ref ca), (.ref ka)])) rfl (by rw [hml]; rfl) (argsL := [(.ref ka), (.ref ca), (.long q2)]) (rest := []) (lenOf pd_2 rfl) rfl (by show 2 * 0 + _ ≤ _; exact Nat.le_of_eq rfl) (hb hby d7_9) (fun _ _ => ⟨rfl, e2, (by decide : 0 + 0 ≤ _), (by decide : 0 + 0 ≤ _)⟩)
  dsimp only [Pt.U, Pt.locs, Pt.cells, Pt.slots] at X3 l3 y3 z3 st3 hQ3
  subst l3 y3 z3
  obtain ⟨i3, rfl, Nq3, ee3, hi3, hsl3⟩ := hQ3
  have N3 := Fr.app N0 Nq3
  refine Go.st st3 ?_
  show Go p.tables e below _ (T3.setTop (mkF m 12 #[.val (.ref a1), .val (.long q2), .second, .unset, .unset] [(.int i3)]))
  refine Go.st (fun U hr => XS.istoreN X3.here hx rfl (hb hby d7_12) rfl (l' := #[.val (.ref a1), .val (.long q2), .second, .val (.int i3), .unset]) rfl hr) ?_
  show Go p.tables e below _ (T3.setTop (mkF m 13 #[.val (.ref a1), .val (.long q2), .second, .val (.int i3), .unset] []))
  refine Go.st (fun U hr => XS.aloadN X3.here hx rfl (hb hby d7_13) rfl rfl hr) ?_
  show Go p.tables e below _ (T3.setTop (mkF m 14 #[.val (.ref a1), .val (.long q2), .second, .val (.int i3), .unset] [(.ref a1)]))
  obtain ⟨T4, X4, e4, st4⟩ := getF X3 hx hZ hown (host := "") (Or.inl (hw _ (List.mem_of_getElem? (i := 30) rfl))) Via.refl ee3 F2 (g := (mkF m 14 #[.val (.ref a1), .val (.long q2), .second, .val (.int i3), .unset] [(.ref a1)])) rfl rfl (hb hby d7_14)
  refine Go.st st4 ?_
  show Go p.tables e below _ (T4.setTop (mkF m 17 #[.val (.ref a1), .val (.long q2), .second, .val (.int i3), .unset] [(.ref ca)]))
  refine Go.st (fun U hr => XS.iloadN X4.here hx rfl (hb hby d7_17) rfl hr) ?_
  show Go p.tables e below _ (T4.setTop (mkF m 18 #[.val (.ref a1), .val (.long q2), .second, .val (.int i3), .unset] [(.int i3), (.ref ca)]))
  obtain ⟨cl5, Ar5, qa5, Sa5, Na5, Ha5, Ga5⟩ := id V2
  have hin5 : ¬ (i3 < 0 ∨ cl5.slots.size ≤ (i3).toNatClampNeg) := inb_of Sa5 (own_inb hi3)
  refine Go.st (X4.iaload hx (j := i3) (v := (.int (own_c cs i3.toNatClampNeg))) (by rw [e4]; exact Ar5.1) (State.isArrayOf_alike hZ.alike Ar5.2.1) Ar5.2.2 hin5 (Ha5.at hin5 (own_gI cs _)) (g := (mkF m 18 #[.val (.ref a1), .val (.long q2), .second, .val (.int i3), .unset] [(.int i3), (.ref ca)])) rfl rfl (hb hby d7_18)) ?_
  show Go p.tables e below _ (T4.setTop (mkF m 19 #[.val (.ref a1), .val (.long q2), .second, .val (.int i3), .unset] [(.int (own_c cs i3.toNatClampNeg))]))
  by_cases hc19_6 : (own_c cs i3.toNatClampNeg) = (0 : Int32)
  · refine Go.st (fun U hr => XS.ifNo X4.here hx rfl (hb hby d7_19) rfl ((if0 _ _).trans (teq hc19_6).2) hr) ?_
    show Go p.tables e below _ (T4.setTop (mkF m 22 #[.val (.ref a1), .val (.long q2), .second, .val (.int i3), .unset] []))
    refine Go.st (fun U hr => XS.aloadN X4.here hx rfl (hb hby d7_22) rfl rfl hr) ?_
    show Go p.tables e below _ (T4.setTop (mkF m 23 #[.val (.ref a1), .val (.long q2), .second, .val (.int i3), .unset] [(.ref a1)]))
    obtain ⟨T7, X7, e7, st7⟩ := getF X4 hx hZ hown (host := "") (Or.inl (hw _ (List.mem_of_getElem? (i := 27) rfl))) Via.refl e4 F1 (g := (mkF m 23 #[.val (.ref a1), .val (.long q2), .second, .val (.int i3), .unset] [(.ref a1)])) rfl rfl (hb hby d7_23)
    refine Go.st st7 ?_
    show Go p.tables e below _ (T7.setTop (mkF m 26 #[.val (.ref a1), .val (.long q2), .second, .val (.int i3), .unset] [(.ref ka)]))
    refine Go.st (fun U hr => XS.iloadN X7.here hx rfl (hb hby d7_26) rfl hr) ?_
    show Go p.tables e below _ (T7.setTop (mkF m 27 #[.val (.ref a1), .val (.long q2), .second, .val (.int i3), .unset] [(.int i3), (.ref ka)]))
    refine Go.st (fun U hr => XS.lloadN X7.here hx rfl (hb hby d7_27) rfl hr) ?_
    show Go p.tables e below _ (T7.setTop (mkF m 28 #[.val (.ref a1), .val (.long q2), .second, .val (.int i3), .unset] [(.long q2), (.int i3), (.ref ka)]))
    obtain ⟨cl8, Ar8, qa8, Sa8, Na8, Ha8, Ga8⟩ := id V1
    have hin8 : ¬ (i3 < 0 ∨ cl8.slots.size ≤ (i3).toNatClampNeg) := inb_of Sa8 (own_inb hi3)
    obtain ⟨T9, h9, X9, e9, W9, st9⟩ := stJ X7 hx hZ e7 Ar8 (j := i3) hin8 (g := (mkF m 28 #[.val (.ref a1), .val (.long q2), .second, .val (.int i3), .unset] [(.long q2), (.int i3), (.ref ka)])) rfl rfl (hb hby d7_28)
    refine Go.st st9 ?_
    have V9' := Arv.set Ar8 qa8 Sa8 Na8 Ha8 Ga8 rfl W9 (i3.toNatClampNeg) rfl (by rw [List.length_map]; exact own_idx hi3 lk)
    have V9 : Arv Z h9 ka kk .long z ((ks.set i3.toNatClampNeg q2).map Value.long) (.long (0 : Int64)) := by rw [List.map_set]; exact V9'
    have k10 := ((Keep.refl h0 [a1, ka, ca])).wr W9 (Or.inl (List.mem_of_getElem? (i := 1) rfl))
    have f11 := (E1).wr W9
    have f12 := (F1).other W9 (Or.inl (Ne.symm ne2))
    have f13 := (F2).other W9 (Or.inl (Ne.symm ne2))
    have f14 := (F3).other W9 (Or.inl (Ne.symm ne2))
    have f16 := (V2).other W9 (Ne.symm ne1)
    have z17 := Nat.le_trans Z0 (Keep.of_wr W9).1
    have N9 := Fr.snoc X9 N3 gk
    show Go p.tables e below _ (T9.setTop (mkF m 29 #[.val (.ref a1), .val (.long q2), .second, .val (.int i3), .unset] []))
    refine Go.st (fun U hr => XS.aloadN X9.here hx rfl (hb hby d7_29) rfl rfl hr) ?_
    show Go p.tables e below _ (T9.setTop (mkF m 30 #[.val (.ref a1), .val (.long q2), .second, .val (.int i3), .unset] [(.ref a1)]))
    refine Go.st (fun U hr => XS.dup X9.here hx rfl (hb hby d7_30) rfl rfl hr) ?_
    show Go p.tables e below _ (T9.setTop (mkF m 31 #[.val (.ref a1), .val (.long q2), .second, .val (.int i3), .unset] [(.ref a1), (.ref a1)]))
    obtain ⟨T18, X18, e18, st18⟩ := getF X9 hx hZ hown (host := "") (Or.inl (hw _ (List.mem_of_getElem? (i := 43) rfl))) Via.refl e9 f14 (g := (mkF m 31 #[.val (.ref a1), .val (.long q2), .second, .val (.int i3), .unset] [(.ref a1), (.ref a1)])) rfl rfl (hb hby d7_31)
    refine Go.st st18 ?_
    show Go p.tables e below _ (T18.setTop (mkF m 34 #[.val (.ref a1), .val (.long q2), .second, .val (.int i3), .unset] [(.int sz), (.ref a1)]))
    refine Go.st (fun U hr => XS.iconst X18.here hx rfl (hb hby d7_34) hr) ?_
    show Go p.tables e below _ (T18.setTop (mkF m 35 #[.val (.ref a1), .val (.long q2), .second, .val (.int i3), .unset] [(.int (1 : Int32)), (.int sz), (.ref a1)]))
    refine Go.st (fun U hr => XS.iadd X18.here hx rfl (hb hby d7_35) rfl hr) ?_
    show Go p.tables e below _ (T18.setTop (mkF m 36 #[.val (.ref a1), .val (.long q2), .second, .val (.int i3), .unset] [(.int (sz + (1 : Int32))), (.ref a1)]))
    obtain ⟨T19, h19, X19, e19, W19, st19⟩ := putF X18 hx hZ hown (host := "") (Or.inl (hw _ (List.mem_of_getElem? (i := 43) rfl))) Via.refl e18 f14 f11 (Or.inl (hw _ (List.mem_of_getElem? (i := 44) rfl))) (hw _ (List.mem_of_getElem? (i := 1) rfl)) (ty := .int) (by decide) rfl rfl (g := (mkF m 36 #[.val (.ref a1), .val (.long q2), .second, .val (.int i3), .unset] [(.int (sz + (1 : Int32))), (.ref a1)])) rfl rfl (hb hby d7_36)
    refine Go.st st19 ?_
    have k20 := (k10).wr W19 (Or.inl (List.mem_of_getElem? (i := 0) rfl))
    have f21 := (f11).wr W19
    have f22 := (f12).other W19 (Or.inr (slot_ne (Or.inl (hw _ (List.mem_of_getElem? (i := 28) rfl))) (Or.inl (hw _ (List.mem_of_getElem? (i := 44) rfl))) (by decide) (t := (.array .long)) (t' := .int) (by decide) (by decide)))
    have f23 := (f13).other W19 (Or.inr (slot_ne (Or.inl (hw _ (List.mem_of_getElem? (i := 31) rfl))) (Or.inl (hw _ (List.mem_of_getElem? (i := 44) rfl))) (by decide) (t := (.array .int)) (t' := .int) (by decide) (by decide)))
    have f24 := (f14).same W19
    have f25 := (f16).other W19 ne3
    have f26 := (V9).other W19 ne2
    have z27 := Nat.le_trans z17 (Keep.of_wr W19).1
    have N19 := Fr.snoc X19 N9 g1
    show Go p.tables e below _ (T19.setTop (mkF m 39 #[.val (.ref a1), .val (.long q2), .second, .val (.int i3), .unset] []))
    have hsz1 : (sz + 1).toInt = sz.toInt + 1 := by
      have h1 := c_iadd sz 1
      rw [show (1 : Int32).toInt = 1 from by decide] at h1
      have r1 := rng32 (sz + 1)
      have := Int.natCast_nonneg (own_used cs)
      omega
    refine Go.st (fun U hr => XS.aloadN X19.here hx rfl (hb hby d7_39) rfl rfl hr) ?_
    show Go p.tables e below _ (T19.setTop (mkF m 40 #[.val (.ref a1), .val (.long q2), .second, .val (.int i3), .unset] [(.ref a1)]))
    obtain ⟨T28, X28, e28, st28⟩ := getF X19 hx hZ hown (host := "") (Or.inl (hw _ (List.mem_of_getElem? (i := 30) rfl))) Via.refl e19 f23 (g := (mkF m 40 #[.val (.ref a1), .val (.long q2), .second, .val (.int i3), .unset] [(.ref a1)])) rfl rfl (hb hby d7_40)
    refine Go.st st28 ?_
    show Go p.tables e below _ (T28.setTop (mkF m 43 #[.val (.ref a1), .val (.long q2), .second, .val (.int i3), .unset] [(.ref ca)]))
    refine Go.st (fun U hr => XS.iloadN X28.here hx rfl (hb hby d7_43) rfl hr) ?_
    show Go p.tables e below _ (T28.setTop (mkF m 44 #[.val (.ref a1), .val (.long q2), .second, .val (.int i3), .unset] [(.int i3), (.ref ca)]))
    refine Go.st (fun U hr => XS.aloadN X28.here hx rfl (hb hby d7_44) rfl rfl hr) ?_
    show Go p.tables e below _ (T28.setTop (mkF m 45 #[.val (.ref a1), .val (.long q2), .second, .val (.int i3), .unset] [(.ref a1), (.int i3), (.ref ca)]))
    obtain ⟨T29, X29, e29, st29⟩ := getF X28 hx hZ hown (host := "") (Or.inl (hw _ (List.mem_of_getElem? (i := 30) rfl))) Via.refl e28 f23 (g := (mkF m 45 #[.val (.ref a1), .val (.long q2), .second, .val (.int i3), .unset] [(.ref a1), (.int i3), (.ref ca)])) rfl rfl (hb hby d7_45)
    refine Go.st st29 ?_
    show Go p.tables e below _ (T29.setTop (mkF m 48 #[.val (.ref a1), .val (.long q2), .second, .val (.int i3), .unset] [(.ref ca), (.int i3), (.ref ca)]))
    refine Go.st (fun U hr => XS.iloadN X29.here hx rfl (hb hby d7_48) rfl hr) ?_
    show Go p.tables e below _ (T29.setTop (mkF m 49 #[.val (.ref a1), .val (.long q2), .second, .val (.int i3), .unset] [(.int i3), (.ref ca), (.int i3), (.ref ca)]))
    obtain ⟨cl30, Ar30, qa30, Sa30, Na30, Ha30, Ga30⟩ := id f25
    have hin30 : ¬ (i3 < 0 ∨ cl30.slots.size ≤ (i3).toNatClampNeg) := inb_of Sa30 (own_inb hi3)
    refine Go.st (X29.iaload hx (j := i3) (v := (.int (own_c cs i3.toNatClampNeg))) (by rw [e29]; exact Ar30.1) (State.isArrayOf_alike hZ.alike Ar30.2.1) Ar30.2.2 hin30 (Ha30.at hin30 (own_gI cs _)) (g := (mkF m 49 #[.val (.ref a1), .val (.long q2), .second, .val (.int i3), .unset] [(.int i3), (.ref ca), (.int i3), (.ref ca)])) rfl rfl (hb hby d7_49)) ?_
    show Go p.tables e below _ (T29.setTop (mkF m 50 #[.val (.ref a1), .val (.long q2), .second, .val (.int i3), .unset] [(.int (own_c cs i3.toNatClampNeg)), (.int i3), (.ref ca)]))
    refine Go.st (fun U hr => XS.aloadN X29.here hx rfl (hb hby d7_50) rfl rfl hr) ?_
    show Go p.tables e below _ (T29.setTop (mkF m 51 #[.val (.ref a1), .val (.long q2), .second, .val (.int i3), .unset] [(.ref a1), (.int (own_c cs i3.toNatClampNeg)), (.int i3), (.ref ca)]))
    obtain ⟨T31, X31, e31, st31⟩ := getF X29 hx hZ hown (host := "") (Or.inl (hw _ (List.mem_of_getElem? (i := 30) rfl))) Via.refl e29 f23 (g := (mkF m 51 #[.val (.ref a1), .val (.long q2), .second, .val (.int i3), .unset] [(.ref a1), (.int (own_c cs i3.toNatClampNeg)), (.int i3), (.ref ca)])) rfl rfl (hb hby d7_51)
    refine Go.st st31 ?_
    show Go p.tables e below _ (T31.setTop (mkF m 54 #[.val (.ref a1), .val (.long q2), .second, .val (.int i3), .unset] [(.ref ca), (.int (own_c cs i3.toNatClampNeg)), (.int i3), (.ref ca)]))
    refine Go.st (fun U hr => XS.iloadN X31.here hx rfl (hb hby d7_54) rfl hr) ?_
    show Go p.tables e below _ (T31.setTop (mkF m 55 #[.val (.ref a1), .val (.long q2), .second, .val (.int i3), .unset] [(.int i3), (.ref ca), (.int (own_c cs i3.toNatClampNeg)), (.int i3), (.ref ca)]))
    obtain ⟨cl32, Ar32, qa32, Sa32, Na32, Ha32, Ga32⟩ := id f25
    have hin32 : ¬ (i3 < 0 ∨ cl32.slots.size ≤ (i3).toNatClampNeg) := inb_of Sa32 (own_inb hi3)
    refine Go.st (X31.iaload hx (j := i3) (v := (.int (own_c cs i3.toNatClampNeg))) (by rw [e31]; exact Ar32.1) (State.isArrayOf_alike hZ.alike Ar32.2.1) Ar32.2.2 hin32 (Ha32.at hin32 (own_gI cs _)) (g := (mkF m 55 #[.val (.ref a1), .val (.long q2), .second, .val (.int i3), .unset] [(.int i3), (.ref ca), (.int (own_c cs i3.toNatClampNeg)), (.int i3), (.ref ca)])) rfl rfl (hb hby d7_55)) ?_
    show Go p.tables e below _ (T31.setTop (mkF m 56 #[.val (.ref a1), .val (.long q2), .second, .val (.int i3), .unset] [(.int (own_c cs i3.toNatClampNeg)), (.int (own_c cs i3.toNatClampNeg)), (.int i3), (.ref ca)]))
    refine Go.st (fun U hr => XS.iconst X31.here hx rfl (hb hby d7_56) hr) ?_
    show Go p.tables e below _ (T31.setTop (mkF m 57 #[.val (.ref a1), .val (.long q2), .second, .val (.int i3), .unset] [(.int (1 : Int32)), (.int (own_c cs i3.toNatClampNeg)), (.int (own_c cs i3.toNatClampNeg)), (.int i3), (.ref ca)]))
    refine Go.st (fun U hr => XS.iadd X31.here hx rfl (hb hby d7_57) rfl hr) ?_
    show Go p.tables e below _ (T31.setTop (mkF m 58 #[.val (.ref a1), .val (.long q2), .second, .val (.int i3), .unset] [(.int ((own_c cs i3.toNatClampNeg) + (1 : Int32))), (.int (own_c cs i3.toNatClampNeg)), (.int i3), (.ref ca)]))
    obtain ⟨_, _, ⟨T33, L33, k33, n33⟩, -, X33, ⟨Lc33, hQ33, l33, y33, z33⟩, st33⟩ := Jvm.LawKit.callS X31 hx (y := (⟨"java/lang/Math", "max", "(II)I"⟩ : MethodName)) hown (mvT hZ (hw _ (List.mem_of_getElem? (i := 14) rfl))) (mvT hZ (hw _ (List.mem_of_getElem? (i := 15) rfl))) (mvT hZ (hw _ (List.mem_of_getElem? (i := 12) rfl))) (mvT hZ (hw _ (List.mem_of_getElem? (i := 16) rfl))) (by decide) (backOf (W := 2) (rm4 l Z a0 hw [] (own_c cs i3.toNatClampNeg) ((own_c cs i3.toNatClampNeg) + (1 : Int32)) h19 n0 z27) hZ (hw _ (List.mem_of_getElem? (i := 16) rfl)) (hw _ (List.mem_of_getElem? (i := 12) rfl)) (by decide) (by decide)) (g := (mkF m 58 #[.val (.ref a1), .val (.long q2), .second, .val (.int i3), .unset] [(.int ((own_c cs i3.toNatClampNeg) + (1 : Int32))), (.int (own_c cs i3.toNatClampNeg)), (.int i3), (.ref ca)])) rfl (by rw [hml]; rfl) (argsL := [(.int (own_c cs i3.toNatClampNeg)), (.int ((own_c cs i3.toNatClampNeg) + (1 : Int32)))]) (rest := [(.int i3), (.ref ca)]) (lenOf pd_3 rfl) rfl (by show 2 * 0 + _ ≤ _; exact Nat.le_of_eq rfl) (hb hby d7_58) (fun _ _ => ⟨rfl, e31, (by decide : 0 + 0 ≤ _), (by decide : 0 + 0 ≤ _)⟩)
    dsimp only [Pt.U, Pt.locs, Pt.cells, Pt.slots] at X33 l33 y33 z33 st33 hQ33
    subst l33 y33 z33
    obtain ⟨rfl, Nq33, ee33⟩ := hQ33
    have N33 := Fr.app N19 Nq33
    refine Go.st st33 ?_
    show Go p.tables e below _ (T33.setTop (mkF m 61 #[.val (.ref a1), .val (.long q2), .second, .val (.int i3), .unset] [(.int (own_max (own_c cs i3.toNatClampNeg) ((own_c cs i3.toNatClampNeg) + (1 : Int32)))), (.int i3), (.ref ca)]))
    generalize h_nc : (own_max (own_c cs i3.toNatClampNeg) ((own_c cs i3.toNatClampNeg) + (1 : Int32))) = nc
    have hq := own_inv_query (by have := own_zN hz; omega) hI hsl3
    have hnc : nc.toInt = (own_c cs i3.toNatClampNeg).toInt + 1 := by
      have hm := hMM q2
      have h1 := c_iadd (own_c cs i3.toNatClampNeg) 1
      rw [show (1 : Int32).toInt = 1 from by decide] at h1
      have r1 := rng32 (own_c cs i3.toNatClampNeg + 1)
      have e1 : (own_c cs i3.toNatClampNeg + 1).toInt = (own_c cs i3.toNatClampNeg).toInt + 1 := by omega
      rw [← h_nc]
      unfold own_max
      rw [if_pos (by rw [own_lt32]; omega)]
      exact e1
    have hnz : nc ≠ 0 := fun q => by
      have hm := hMM q2
      rw [q, show (0 : Int32).toInt = 0 from by decide] at hnc
      omega
    obtain ⟨cl34, Ar34, qa34, Sa34, Na34, Ha34, Ga34⟩ := id f25
    have hin34 : ¬ (i3 < 0 ∨ cl34.slots.size ≤ (i3).toNatClampNeg) := inb_of Sa34 (own_inb hi3)
    obtain ⟨T35, h35, X35, e35, W35, st35⟩ := stI X33 hx hZ ee33 Ar34 (j := i3) hin34 (g := (mkF m 61 #[.val (.ref a1), .val (.long q2), .second, .val (.int i3), .unset] [(.int nc), (.int i3), (.ref ca)])) rfl rfl (hb hby d7_61)
    refine Go.st st35 ?_
    have V35' := Arv.set Ar34 qa34 Sa34 Na34 Ha34 Ga34 rfl W35 (i3.toNatClampNeg) rfl (by rw [List.length_map]; exact own_idx hi3 lc)
    have V35 : Arv Z h35 ca kc .int z ((cs.set i3.toNatClampNeg nc).map Value.int) (.int (0 : Int32)) := by rw [List.map_set]; exact V35'
    have k36 := (k20).wr W35 (Or.inl (List.mem_of_getElem? (i := 2) rfl))
    have f37 := (f21).wr W35
    have f38 := (f22).other W35 (Or.inl (Ne.symm ne3))
    have f39 := (f23).other W35 (Or.inl (Ne.symm ne3))
    have f40 := (f24).other W35 (Or.inl (Ne.symm ne3))
    have f42 := (f26).other W35 ne1
    have z43 := Nat.le_trans z27 (Keep.of_wr W35).1
    have N35 := Fr.snoc X35 N33 gc
    show Go p.tables e below _ (T35.setTop (mkF m 62 #[.val (.ref a1), .val (.long q2), .second, .val (.int i3), .unset] []))
    refine Go.st (fun U hr => XS.aloadN X35.here hx rfl (hb hby d7_62) rfl rfl hr) ?_
    show Go p.tables e below _ (T35.setTop (mkF m 63 #[.val (.ref a1), .val (.long q2), .second, .val (.int i3), .unset] [(.ref a1)]))
    obtain ⟨T44, X44, e44, st44⟩ := getF X35 hx hZ hown (host := "") (Or.inl (hw _ (List.mem_of_getElem? (i := 30) rfl))) Via.refl e35 f39 (g := (mkF m 63 #[.val (.ref a1), .val (.long q2), .second, .val (.int i3), .unset] [(.ref a1)])) rfl rfl (hb hby d7_63)
    refine Go.st st44 ?_
    show Go p.tables e below _ (T44.setTop (mkF m 66 #[.val (.ref a1), .val (.long q2), .second, .val (.int i3), .unset] [(.ref ca)]))
    refine Go.st (fun U hr => XS.iloadN X44.here hx rfl (hb hby d7_66) rfl hr) ?_
    show Go p.tables e below _ (T44.setTop (mkF m 67 #[.val (.ref a1), .val (.long q2), .second, .val (.int i3), .unset] [(.int i3), (.ref ca)]))
    obtain ⟨cl45, Ar45, qa45, Sa45, Na45, Ha45, Ga45⟩ := id V35
    have hin45 : ¬ (i3 < 0 ∨ cl45.slots.size ≤ (i3).toNatClampNeg) := inb_of Sa45 (own_inb hi3)
    refine Go.st (X44.iaload hx (j := i3) (v := (.int (own_c (cs.set i3.toNatClampNeg nc) i3.toNatClampNeg))) (by rw [e44]; exact Ar45.1) (State.isArrayOf_alike hZ.alike Ar45.2.1) Ar45.2.2 hin45 (Ha45.at hin45 (own_gI (cs.set i3.toNatClampNeg nc) _)) (g := (mkF m 67 #[.val (.ref a1), .val (.long q2), .second, .val (.int i3), .unset] [(.int i3), (.ref ca)])) rfl rfl (hb hby d7_67)) ?_
    show Go p.tables e below _ (T44.setTop (mkF m 68 #[.val (.ref a1), .val (.long q2), .second, .val (.int i3), .unset] [(.int (own_c (cs.set i3.toNatClampNeg nc) i3.toNatClampNeg))]))
    refine Go.st (fun U hr => XS.istore X44.here hx rfl (hb hby d7_68) rfl (l' := #[.val (.ref a1), .val (.long q2), .second, .val (.int i3), .val (.int (own_c (cs.set i3.toNatClampNeg nc) i3.toNatClampNeg))]) rfl hr) ?_
    show Go p.tables e below _ (T44.setTop (mkF m 70 #[.val (.ref a1), .val (.long q2), .second, .val (.int i3), .val (.int (own_c (cs.set i3.toNatClampNeg nc) i3.toNatClampNeg))] []))
    refine Go.st (fun U hr => XS.aloadN X44.here hx rfl (hb hby d7_70) rfl rfl hr) ?_
    show Go p.tables e below _ (T44.setTop (mkF m 71 #[.val (.ref a1), .val (.long q2), .second, .val (.int i3), .val (.int (own_c (cs.set i3.toNatClampNeg nc) i3.toNatClampNeg))] [(.ref a1)]))
    obtain ⟨T46, X46, e46, st46⟩ := getF X44 hx hZ hown (host := "") (Or.inl (hw _ (List.mem_of_getElem? (i := 43) rfl))) Via.refl e44 f40 (g := (mkF m 71 #[.val (.ref a1), .val (.long q2), .second, .val (.int i3), .val (.int (own_c (cs.set i3.toNatClampNeg nc) i3.toNatClampNeg))] [(.ref a1)])) rfl rfl (hb hby d7_71)
    refine Go.st st46 ?_
    show Go p.tables e below _ (T46.setTop (mkF m 74 #[.val (.ref a1), .val (.long q2), .second, .val (.int i3), .val (.int (own_c (cs.set i3.toNatClampNeg nc) i3.toNatClampNeg))] [(.int (sz + (1 : Int32)))]))
    refine Go.st (X46.ldcInt hx hown (mvT hZ (hw _ (List.mem_of_getElem? (i := 9) rfl))) (g := (mkF m 74 #[.val (.ref a1), .val (.long q2), .second, .val (.int i3), .val (.int (own_c (cs.set i3.toNatClampNeg nc) i3.toNatClampNeg))] [(.int (sz + (1 : Int32)))])) rfl (hb hby d7_74)) ?_
    show Go p.tables e below _ (T46.setTop (mkF m 76 #[.val (.ref a1), .val (.long q2), .second, .val (.int i3), .val (.int (own_c (cs.set i3.toNatClampNeg nc) i3.toNatClampNeg))] [(.int (524288 : Int32)), (.int (sz + (1 : Int32)))]))
    have hc76_47 : ¬ ((524288 : Int32) < (sz + (1 : Int32))) := fun q => by
      rw [own_lt32, show (524288 : Int32).toInt = 524288 from by decide] at q
      omega
    refine Go.st (fun U hr => XS.icmpYes X46.here hx rfl (pc0 := 76) (pc' := 86) rfl (hb hby d7_76) rfl (flt hc76_47).2.2.2 (by decide) (by decide) hr) ?_
    show Go p.tables e below _ (T46.setTop (mkF m 86 #[.val (.ref a1), .val (.long q2), .second, .val (.int i3), .val (.int (own_c (cs.set i3.toNatClampNeg nc) i3.toNatClampNeg))] []))
    refine Go.st (fun U hr => XS.iconst X46.here hx rfl (hb hby d7_86) hr) ?_
    show Go p.tables e below _ (T46.setTop (mkF m 87 #[.val (.ref a1), .val (.long q2), .second, .val (.int i3), .val (.int (own_c (cs.set i3.toNatClampNeg nc) i3.toNatClampNeg))] [(.int (2 : Int32))]))
    refine Go.st (fun U hr => XS.aloadN X46.here hx rfl (hb hby d7_87) rfl rfl hr) ?_
    show Go p.tables e below _ (T46.setTop (mkF m 88 #[.val (.ref a1), .val (.long q2), .second, .val (.int i3), .val (.int (own_c (cs.set i3.toNatClampNeg nc) i3.toNatClampNeg))] [(.ref a1), (.int (2 : Int32))]))
    obtain ⟨T48, X48, e48, st48⟩ := getF X46 hx hZ hown (host := "") (Or.inl (hw _ (List.mem_of_getElem? (i := 43) rfl))) Via.refl e46 f40 (g := (mkF m 88 #[.val (.ref a1), .val (.long q2), .second, .val (.int i3), .val (.int (own_c (cs.set i3.toNatClampNeg nc) i3.toNatClampNeg))] [(.ref a1), (.int (2 : Int32))])) rfl rfl (hb hby d7_88)
    refine Go.st st48 ?_
    show Go p.tables e below _ (T48.setTop (mkF m 91 #[.val (.ref a1), .val (.long q2), .second, .val (.int i3), .val (.int (own_c (cs.set i3.toNatClampNeg nc) i3.toNatClampNeg))] [(.int (sz + (1 : Int32))), (.int (2 : Int32))]))
    refine Go.st (fun U hr => XS.imul X48.here hx rfl (hb hby d7_91) rfl hr) ?_
    show Go p.tables e below _ (T48.setTop (mkF m 92 #[.val (.ref a1), .val (.long q2), .second, .val (.int i3), .val (.int (own_c (cs.set i3.toNatClampNeg nc) i3.toNatClampNeg))] [(.int ((2 : Int32) * (sz + (1 : Int32))))]))
    refine Go.st (fun U hr => XS.aloadN X48.here hx rfl (hb hby d7_92) rfl rfl hr) ?_
    show Go p.tables e below _ (T48.setTop (mkF m 93 #[.val (.ref a1), .val (.long q2), .second, .val (.int i3), .val (.int (own_c (cs.set i3.toNatClampNeg nc) i3.toNatClampNeg))] [(.ref a1), (.int ((2 : Int32) * (sz + (1 : Int32))))]))
    obtain ⟨T49, X49, e49, st49⟩ := getF X48 hx hZ hown (host := "") (Or.inl (hw _ (List.mem_of_getElem? (i := 27) rfl))) Via.refl e48 f38 (g := (mkF m 93 #[.val (.ref a1), .val (.long q2), .second, .val (.int i3), .val (.int (own_c (cs.set i3.toNatClampNeg nc) i3.toNatClampNeg))] [(.ref a1), (.int ((2 : Int32) * (sz + (1 : Int32))))])) rfl rfl (hb hby d7_93)
    refine Go.st st49 ?_
    show Go p.tables e below _ (T49.setTop (mkF m 96 #[.val (.ref a1), .val (.long q2), .second, .val (.int i3), .val (.int (own_c (cs.set i3.toNatClampNeg nc) i3.toNatClampNeg))] [(.ref ka), (.int ((2 : Int32) * (sz + (1 : Int32))))]))
    obtain ⟨cl50, Ar50, qa50, Sa50, Na50, Ha50, Ga50⟩ := id f42
    refine Go.st (X49.arraylength hx (by rw [e49]; exact Ar50.1) (State.isArrayOf_alike hZ.alike Ar50.2.1) (g := (mkF m 96 #[.val (.ref a1), .val (.long q2), .second, .val (.int i3), .val (.int (own_c (cs.set i3.toNatClampNeg nc) i3.toNatClampNeg))] [(.ref ka), (.int ((2 : Int32) * (sz + (1 : Int32))))])) rfl rfl (hb hby d7_96)) ?_
    rw [len_of Sa50 Na50]
    show Go p.tables e below _ (T49.setTop (mkF m 97 #[.val (.ref a1), .val (.long q2), .second, .val (.int i3), .val (.int (own_c (cs.set i3.toNatClampNeg nc) i3.toNatClampNeg))] [(.int z), (.int ((2 : Int32) * (sz + (1 : Int32))))]))
    have h2s : ((2 : Int32) * (sz + (1 : Int32))).toInt = 2 * (sz + (1 : Int32)).toInt := by
      have h1 := c_imul 2 (sz + (1 : Int32))
      rw [show (2 : Int32).toInt = 2 from by decide] at h1
      have r1 := rng32 (2 * (sz + (1 : Int32)))
      have := Int.natCast_nonneg (own_used cs)
      omega
    by_cases hc97_51 : z < ((2 : Int32) * (sz + (1 : Int32)))
    · refine Go.st (fun U hr => XS.icmpNo X49.here hx rfl (hb hby d7_97) rfl (tlt hc97_51).2.2.2 hr) ?_
      show Go p.tables e below _ (T49.setTop (mkF m 100 #[.val (.ref a1), .val (.long q2), .second, .val (.int i3), .val (.int (own_c (cs.set i3.toNatClampNeg nc) i3.toNatClampNeg))] []))
      refine Go.st (fun U hr => XS.aloadN X49.here hx rfl (hb hby d7_100) rfl rfl hr) ?_
      show Go p.tables e below _ (T49.setTop (mkF m 101 #[.val (.ref a1), .val (.long q2), .second, .val (.int i3), .val (.int (own_c (cs.set i3.toNatClampNeg nc) i3.toNatClampNeg))] [(.ref a1)]))
      have hJ := own_inv_ins (c := nc) (by have := own_zN hz; omega) lk lc hI hsl3 hc19_6 hnz
      have hlt : z.toInt < 2 * (sz + 1).toInt := by have q := hc97_51; rw [own_lt32, h2s] at q; exact q
      have hz4 : z = 2 ∨ z = 4 := by
        rcases hz with q | q | q | q
        · exact Or.inl q
        · exact Or.inr q
        · exfalso; rw [q, show (8 : Int32).toInt = 8 from by decide] at hlt; omega
        · exfalso; rw [q, show (16 : Int32).toInt = 16 from by decide] at hlt; omega
      have hsel0 := mvT (args := #[]) hZ (hw _ (List.mem_of_getElem? (i := 35) rfl))
      obtain ⟨cq52, qp52, qp52'⟩ := (f37).cell
      obtain ⟨_, _, ⟨T52, L52, k52, n52⟩, -, X52, ⟨Lc52, hQ52, l52, y52, z52⟩, st52⟩ := X49.privateBack hx (y := (⟨"com/example/rigorous_layout/rigorouslayout/Tally", "grow", "()V"⟩ : MethodName)) hown (mvT hZ (hw _ (List.mem_of_getElem? (i := 50) rfl))) (mvT hZ (hw _ (List.mem_of_getElem? (i := 51) rfl))) (own_selp (mvT hZ (hw _ (List.mem_of_getElem? (i := 51) rfl))) (Cond.privateMethod_at (mvP hZ (hw _ (List.mem_of_getElem? (i := 52) rfl)) (args := #[]))) hsel0) (Cond.privateMethod_at (mvP hZ (hw _ (List.mem_of_getElem? (i := 52) rfl)) (args := #[]))) (mvT hZ (hw _ (List.mem_of_getElem? (i := 53) rfl))) (by decide) (backOf (W := 0) (rm11 l Z a0 hw [] a1 ka ca kk kc z (sz + 1) (ks.set i3.toNatClampNeg q2) (cs.set i3.toNatClampNeg nc) (fun k => if k = q2 then nc.toInt else M k) h35 n0 z43 f37 f38 f39 f40 f42 V35 g1 ne1 ne2 ne3 hz4 (by simp [lk]) (by simp [lc]) hJ.2) hZ (hw _ (List.mem_of_getElem? (i := 53) rfl)) (hw _ (List.mem_of_getElem? (i := 2) rfl)) (by decide) (by decide)) (g := (mkF m 101 #[.val (.ref a1), .val (.long q2), .second, .val (.int i3), .val (.int (own_c (cs.set i3.toNatClampNeg nc) i3.toNatClampNeg))] [(.ref a1)])) rfl (by rw [hml]; rfl) (Steps.refl _) (a := a1) (by rw [e49]; exact qp52) qp52' (argsL := []) (rest := []) (lenOf pd_4 rfl) rfl (by show 2 * 0 + _ ≤ _; exact Nat.le_of_eq rfl) (hb hby d7_101) (fun _ _ => ⟨rfl, e49, (by decide : 0 + 2 ≤ _), (by decide : 0 + 16 ≤ _)⟩)
      dsimp only [Pt.U, Pt.locs, Pt.cells, Pt.slots] at X52 l52 y52 z52 st52 hQ52
      subst l52 y52 z52
      obtain ⟨rfl, Nq52, Kq52, Rq52⟩ := hQ52
      have N52 := Fr.app N35 Nq52
      refine Go.tr st52 ?_
      show Go p.tables e below _ (T52.setTop (mkF m 104 #[.val (.ref a1), .val (.long q2), .second, .val (.int i3), .val (.int (own_c (cs.set i3.toNatClampNeg nc) i3.toNatClampNeg))] []))
      obtain ⟨nk52, nc52, kk52, kc52, zz52, ks52, cs52, Eg, Fg1, Fg2, Fg3, Vg1, Vg2, gg1, gg2, ng1, ng2, ng3, hzg, hzg2, lkg, lcg, hIg, hug⟩ := Rq52
      have k53 := (k36).trans Kq52 (allS (Or.inl (List.mem_of_getElem? (i := 0) rfl)) all0)
      refine Go.st (fun U hr => XS.iload X52.here hx rfl (hb hby d7_104) rfl hr) ?_
      show Go p.tables e below _ (T52.setTop (mkF m 106 #[.val (.ref a1), .val (.long q2), .second, .val (.int i3), .val (.int (own_c (cs.set i3.toNatClampNeg nc) i3.toNatClampNeg))] [(.int (own_c (cs.set i3.toNatClampNeg nc) i3.toNatClampNeg))]))
      have hus := own_used_set (cs := cs) (s := i3.toNatClampNeg) (c := nc) (own_idx hi3 lc) hnz
      rw [if_pos hc19_6] at hus
      exact own_retO X52 hx Bd.notSynchronized (t := .int) Bd.returns rfl (Or.inl ⟨rfl, Or.inl rfl, _, rfl⟩) (hb hby d7_106) ⟨_, rfl, N52, (k53).1, _, _, _, _, _, _, _, _, Eg, Fg1, Fg2, Fg3, Vg1, Vg2, gg1, gg2, ng1, ng2, ng3, hzg, lkg, lcg, hIg.congr (fun k => by
            by_cases q : k = q2
            · rw [if_pos q, if_pos q, q, hnc, hq]
            · rw [if_neg q, if_neg q]), by rw [hug, hus, hsz1]; omega, by omega, by omega⟩ (by decide) (by decide)
    · refine Go.st (fun U hr => XS.icmpYes X49.here hx rfl (pc0 := 97) (pc' := 104) rfl (hb hby d7_97) rfl (flt hc97_51).2.2.2 (by decide) (by decide) hr) ?_
      show Go p.tables e below _ (T49.setTop (mkF m 104 #[.val (.ref a1), .val (.long q2), .second, .val (.int i3), .val (.int (own_c (cs.set i3.toNatClampNeg nc) i3.toNatClampNeg))] []))
      refine Go.st (fun U hr => XS.iload X49.here hx rfl (hb hby d7_104) rfl hr) ?_
      show Go p.tables e below _ (T49.setTop (mkF m 106 #[.val (.ref a1), .val (.long q2), .second, .val (.int i3), .val (.int (own_c (cs.set i3.toNatClampNeg nc) i3.toNatClampNeg))] [(.int (own_c (cs.set i3.toNatClampNeg nc) i3.toNatClampNeg))]))
      have hJ := own_inv_ins (c := nc) (by have := own_zN hz; omega) lk lc hI hsl3 hc19_6 hnz
      have hus := own_used_set (cs := cs) (s := i3.toNatClampNeg) (c := nc) (own_idx hi3 lc) hnz
      rw [if_pos hc19_6] at hus
      have hle : 2 * (sz + 1).toInt ≤ z.toInt := by have q := hc97_51; rw [own_lt32, h2s] at q; omega
      exact own_retO X49 hx Bd.notSynchronized (t := .int) Bd.returns rfl (Or.inl ⟨rfl, Or.inl rfl, _, rfl⟩) (hb hby d7_106) (by rw [e49]; exact ⟨_, rfl, N35, (k36).1, _, _, _, _, _, _, _, _, f37, f38, f39, f40, f42, V35, gk, gc, ne1, ne2, ne3, hz, by simp [lk], by simp [lc], hJ.2.congr (fun k => by
            by_cases q : k = q2
            · rw [if_pos q, if_pos q, q, hnc, hq]
            · rw [if_neg q, if_neg q]), by rw [hus, hsz1]; omega, by omega, hle⟩) (by decide) (by decide)
  · refine Go.st (fun U hr => XS.ifYes X4.here hx rfl (pc0 := 19) (pc' := 39) rfl (hb hby d7_19) rfl ((if0 _ _).trans (feq hc19_6).2) (by decide) (by decide) hr) ?_
    show Go p.tables e below _ (T4.setTop (mkF m 39 #[.val (.ref a1), .val (.long q2), .second, .val (.int i3), .unset] []))
    refine Go.st (fun U hr => XS.aloadN X4.here hx rfl (hb hby d7_39) rfl rfl hr) ?_
    show Go p.tables e below _ (T4.setTop (mkF m 40 #[.val (.ref a1), .val (.long q2), .second, .val (.int i3), .unset] [(.ref a1)]))
    obtain ⟨T54, X54, e54, st54⟩ := getF X4 hx hZ hown (host := "") (Or.inl (hw _ (List.mem_of_getElem? (i := 30) rfl))) Via.refl e4 F2 (g := (mkF m 40 #[.val (.ref a1), .val (.long q2), .second, .val (.int i3), .unset] [(.ref a1)])) rfl rfl (hb hby d7_40)
    refine Go.st st54 ?_
    show Go p.tables e below _ (T54.setTop (mkF m 43 #[.val (.ref a1), .val (.long q2), .second, .val (.int i3), .unset] [(.ref ca)]))
    refine Go.st (fun U hr => XS.iloadN X54.here hx rfl (hb hby d7_43) rfl hr) ?_
    show Go p.tables e below _ (T54.setTop (mkF m 44 #[.val (.ref a1), .val (.long q2), .second, .val (.int i3), .unset] [(.int i3), (.ref ca)]))
    refine Go.st (fun U hr => XS.aloadN X54.here hx rfl (hb hby d7_44) rfl rfl hr) ?_
    show Go p.tables e below _ (T54.setTop (mkF m 45 #[.val (.ref a1), .val (.long q2), .second, .val (.int i3), .unset] [(.ref a1), (.int i3), (.ref ca)]))
    obtain ⟨T55, X55, e55, st55⟩ := getF X54 hx hZ hown (host := "") (Or.inl (hw _ (List.mem_of_getElem? (i := 30) rfl))) Via.refl e54 F2 (g := (mkF m 45 #[.val (.ref a1), .val (.long q2), .second, .val (.int i3), .unset] [(.ref a1), (.int i3), (.ref ca)])) rfl rfl (hb hby d7_45)
    refine Go.st st55 ?_
    show Go p.tables e below _ (T55.setTop (mkF m 48 #[.val (.ref a1), .val (.long q2), .second, .val (.int i3), .unset] [(.ref ca), (.int i3), (.ref ca)]))
    refine Go.st (fun U hr => XS.iloadN X55.here hx rfl (hb hby d7_48) rfl hr) ?_
    show Go p.tables e below _ (T55.setTop (mkF m 49 #[.val (.ref a1), .val (.long q2), .second, .val (.int i3), .unset] [(.int i3), (.ref ca), (.int i3), (.ref ca)]))
    obtain ⟨cl56, Ar56, qa56, Sa56, Na56, Ha56, Ga56⟩ := id V2
    have hin56 : ¬ (i3 < 0 ∨ cl56.slots.size ≤ (i3).toNatClampNeg) := inb_of Sa56 (own_inb hi3)
    refine Go.st (X55.iaload hx (j := i3) (v := (.int (own_c cs i3.toNatClampNeg))) (by rw [e55]; exact Ar56.1) (State.isArrayOf_alike hZ.alike Ar56.2.1) Ar56.2.2 hin56 (Ha56.at hin56 (own_gI cs _)) (g := (mkF m 49 #[.val (.ref a1), .val (.long q2), .second, .val (.int i3), .unset] [(.int i3), (.ref ca), (.int i3), (.ref ca)])) rfl rfl (hb hby d7_49)) ?_
    show Go p.tables e below _ (T55.setTop (mkF m 50 #[.val (.ref a1), .val (.long q2), .second, .val (.int i3), .unset] [(.int (own_c cs i3.toNatClampNeg)), (.int i3), (.ref ca)]))
    refine Go.st (fun U hr => XS.aloadN X55.here hx rfl (hb hby d7_50) rfl rfl hr) ?_
    show Go p.tables e below _ (T55.setTop (mkF m 51 #[.val (.ref a1), .val (.long q2), .second, .val (.int i3), .unset] [(.ref a1), (.int (own_c cs i3.toNatClampNeg)), (.int i3), (.ref ca)]))
    obtain ⟨T57, X57, e57, st57⟩ := getF X55 hx hZ hown (host := "") (Or.inl (hw _ (List.mem_of_getElem? (i := 30) rfl))) Via.refl e55 F2 (g := (mkF m 51 #[.val (.ref a1), .val (.long q2), .second, .val (.int i3), .unset] [(.ref a1), (.int (own_c cs i3.toNatClampNeg)), (.int i3), (.ref ca)])) rfl rfl (hb hby d7_51)
    refine Go.st st57 ?_
    show Go p.tables e below _ (T57.setTop (mkF m 54 #[.val (.ref a1), .val (.long q2), .second, .val (.int i3), .unset] [(.ref ca), (.int (own_c cs i3.toNatClampNeg)), (.int i3), (.ref ca)]))
    refine Go.st (fun U hr => XS.iloadN X57.here hx rfl (hb hby d7_54) rfl hr) ?_
    show Go p.tables e below _ (T57.setTop (mkF m 55 #[.val (.ref a1), .val (.long q2), .second, .val (.int i3), .unset] [(.int i3), (.ref ca), (.int (own_c cs i3.toNatClampNeg)), (.int i3), (.ref ca)]))
    obtain ⟨cl58, Ar58, qa58, Sa58, Na58, Ha58, Ga58⟩ := id V2
    have hin58 : ¬ (i3 < 0 ∨ cl58.slots.size ≤ (i3).toNatClampNeg) := inb_of Sa58 (own_inb hi3)
    refine Go.st (X57.iaload hx (j := i3) (v := (.int (own_c cs i3.toNatClampNeg))) (by rw [e57]; exact Ar58.1) (State.isArrayOf_alike hZ.alike Ar58.2.1) Ar58.2.2 hin58 (Ha58.at hin58 (own_gI cs _)) (g := (mkF m 55 #[.val (.ref a1), .val (.long q2), .second, .val (.int i3), .unset] [(.int i3), (.ref ca), (.int (own_c cs i3.toNatClampNeg)), (.int i3), (.ref ca)])) rfl rfl (hb hby d7_55)) ?_
    show Go p.tables e below _ (T57.setTop (mkF m 56 #[.val (.ref a1), .val (.long q2), .second, .val (.int i3), .unset] [(.int (own_c cs i3.toNatClampNeg)), (.int (own_c cs i3.toNatClampNeg)), (.int i3), (.ref ca)]))
    refine Go.st (fun U hr => XS.iconst X57.here hx rfl (hb hby d7_56) hr) ?_
    show Go p.tables e below _ (T57.setTop (mkF m 57 #[.val (.ref a1), .val (.long q2), .second, .val (.int i3), .unset] [(.int (1 : Int32)), (.int (own_c cs i3.toNatClampNeg)), (.int (own_c cs i3.toNatClampNeg)), (.int i3), (.ref ca)]))
    refine Go.st (fun U hr => XS.iadd X57.here hx rfl (hb hby d7_57) rfl hr) ?_
    show Go p.tables e below _ (T57.setTop (mkF m 58 #[.val (.ref a1), .val (.long q2), .second, .val (.int i3), .unset] [(.int ((own_c cs i3.toNatClampNeg) + (1 : Int32))), (.int (own_c cs i3.toNatClampNeg)), (.int i3), (.ref ca)]))
    obtain ⟨_, _, ⟨T59, L59, k59, n59⟩, -, X59, ⟨Lc59, hQ59, l59, y59, z59⟩, st59⟩ := Jvm.LawKit.callS X57 hx (y := (⟨"java/lang/Math", "max", "(II)I"⟩ : MethodName)) hown (mvT hZ (hw _ (List.mem_of_getElem? (i := 14) rfl))) (mvT hZ (hw _ (List.mem_of_getElem? (i := 15) rfl))) (mvT hZ (hw _ (List.mem_of_getElem? (i := 12) rfl))) (mvT hZ (hw _ (List.mem_of_getElem? (i := 16) rfl))) (by decide) (backOf (W := 2) (rm4 l Z a0 hw [] (own_c cs i3.toNatClampNeg) ((own_c cs i3.toNatClampNeg) + (1 : Int32)) h0 n0 Z0) hZ (hw _ (List.mem_of_getElem? (i := 16) rfl)) (hw _ (List.mem_of_getElem? (i := 12) rfl)) (by decide) (by decide)) (g := (mkF m 58 #[.val (.ref a1), .val (.long q2), .second, .val (.int i3), .unset] [(.int ((own_c cs i3.toNatClampNeg) + (1 : Int32))), (.int (own_c cs i3.toNatClampNeg)), (.int i3), (.ref ca)])) rfl (by rw [hml]; rfl) (argsL := [(.int (own_c cs i3.toNatClampNeg)), (.int ((own_c cs i3.toNatClampNeg) + (1 : Int32)))]) (rest := [(.int i3), (.ref ca)]) (lenOf pd_3 rfl) rfl (by show 2 * 0 + _ ≤ _; exact Nat.le_of_eq rfl) (hb hby d7_58) (fun _ _ => ⟨rfl, e57, (by decide : 0 + 0 ≤ _), (by decide : 0 + 0 ≤ _)⟩)
    dsimp only [Pt.U, Pt.locs, Pt.cells, Pt.slots] at X59 l59 y59 z59 st59 hQ59
    subst l59 y59 z59
    obtain ⟨rfl, Nq59, ee59⟩ := hQ59
    have N59 := Fr.app N3 Nq59
    refine Go.st st59 ?_
    show Go p.tables e below _ (T59.setTop (mkF m 61 #[.val (.ref a1), .val (.long q2), .second, .val (.int i3), .unset] [(.int (own_max (own_c cs i3.toNatClampNeg) ((own_c cs i3.toNatClampNeg) + (1 : Int32)))), (.int i3), (.ref ca)]))
    generalize h_nc : (own_max (own_c cs i3.toNatClampNeg) ((own_c cs i3.toNatClampNeg) + (1 : Int32))) = nc
    have hq := own_inv_query (by have := own_zN hz; omega) hI hsl3
    have hnc : nc.toInt = (own_c cs i3.toNatClampNeg).toInt + 1 := by
      have hm := hMM q2
      have h1 := c_iadd (own_c cs i3.toNatClampNeg) 1
      rw [show (1 : Int32).toInt = 1 from by decide] at h1
      have r1 := rng32 (own_c cs i3.toNatClampNeg + 1)
      have e1 : (own_c cs i3.toNatClampNeg + 1).toInt = (own_c cs i3.toNatClampNeg).toInt + 1 := by omega
      rw [← h_nc]
      unfold own_max
      rw [if_pos (by rw [own_lt32]; omega)]
      exact e1
    have hnz : nc ≠ 0 := fun q => by
      have hm := hMM q2
      rw [q, show (0 : Int32).toInt = 0 from by decide] at hnc
      omega
    obtain ⟨cl60, Ar60, qa60, Sa60, Na60, Ha60, Ga60⟩ := id V2
    have hin60 : ¬ (i3 < 0 ∨ cl60.slots.size ≤ (i3).toNatClampNeg) := inb_of Sa60 (own_inb hi3)
    obtain ⟨T61, h61, X61, e61, W61, st61⟩ := stI X59 hx hZ ee59 Ar60 (j := i3) hin60 (g := (mkF m 61 #[.val (.ref a1), .val (.long q2), .second, .val (.int i3), .unset] [(.int nc), (.int i3), (.ref ca)])) rfl rfl (hb hby d7_61)
    refine Go.st st61 ?_
    have V61' := Arv.set Ar60 qa60 Sa60 Na60 Ha60 Ga60 rfl W61 (i3.toNatClampNeg) rfl (by rw [List.length_map]; exact own_idx hi3 lc)
    have V61 : Arv Z h61 ca kc .int z ((cs.set i3.toNatClampNeg nc).map Value.int) (.int (0 : Int32)) := by rw [List.map_set]; exact V61'
    have k62 := ((Keep.refl h0 [a1, ka, ca])).wr W61 (Or.inl (List.mem_of_getElem? (i := 2) rfl))
    have f63 := (E1).wr W61
    have f64 := (F1).other W61 (Or.inl (Ne.symm ne3))
    have f65 := (F2).other W61 (Or.inl (Ne.symm ne3))
    have f66 := (F3).other W61 (Or.inl (Ne.symm ne3))
    have f67 := (V1).other W61 ne1
    have z69 := Nat.le_trans Z0 (Keep.of_wr W61).1
    have N61 := Fr.snoc X61 N59 gc
    show Go p.tables e below _ (T61.setTop (mkF m 62 #[.val (.ref a1), .val (.long q2), .second, .val (.int i3), .unset] []))
    refine Go.st (fun U hr => XS.aloadN X61.here hx rfl (hb hby d7_62) rfl rfl hr) ?_
    show Go p.tables e below _ (T61.setTop (mkF m 63 #[.val (.ref a1), .val (.long q2), .second, .val (.int i3), .unset] [(.ref a1)]))
    obtain ⟨T70, X70, e70, st70⟩ := getF X61 hx hZ hown (host := "") (Or.inl (hw _ (List.mem_of_getElem? (i := 30) rfl))) Via.refl e61 f65 (g := (mkF m 63 #[.val (.ref a1), .val (.long q2), .second, .val (.int i3), .unset] [(.ref a1)])) rfl rfl (hb hby d7_63)
    refine Go.st st70 ?_
    show Go p.tables e below _ (T70.setTop (mkF m 66 #[.val (.ref a1), .val (.long q2), .second, .val (.int i3), .unset] [(.ref ca)]))
    refine Go.st (fun U hr => XS.iloadN X70.here hx rfl (hb hby d7_66) rfl hr) ?_
    show Go p.tables e below _ (T70.setTop (mkF m 67 #[.val (.ref a1), .val (.long q2), .second, .val (.int i3), .unset] [(.int i3), (.ref ca)]))
    obtain ⟨cl71, Ar71, qa71, Sa71, Na71, Ha71, Ga71⟩ := id V61
    have hin71 : ¬ (i3 < 0 ∨ cl71.slots.size ≤ (i3).toNatClampNeg) := inb_of Sa71 (own_inb hi3)
    refine Go.st (X70.iaload hx (j := i3) (v := (.int (own_c (cs.set i3.toNatClampNeg nc) i3.toNatClampNeg))) (by rw [e70]; exact Ar71.1) (State.isArrayOf_alike hZ.alike Ar71.2.1) Ar71.2.2 hin71 (Ha71.at hin71 (own_gI (cs.set i3.toNatClampNeg nc) _)) (g := (mkF m 67 #[.val (.ref a1), .val (.long q2), .second, .val (.int i3), .unset] [(.int i3), (.ref ca)])) rfl rfl (hb hby d7_67)) ?_
    show Go p.tables e below _ (T70.setTop (mkF m 68 #[.val (.ref a1), .val (.long q2), .second, .val (.int i3), .unset] [(.int (own_c (cs.set i3.toNatClampNeg nc) i3.toNatClampNeg))]))
    refine Go.st (fun U hr => XS.istore X70.here hx rfl (hb hby d7_68) rfl (l' := #[.val (.ref a1), .val (.long q2), .second, .val (.int i3), .val (.int (own_c (cs.set i3.toNatClampNeg nc) i3.toNatClampNeg))]) rfl hr) ?_
    show Go p.tables e below _ (T70.setTop (mkF m 70 #[.val (.ref a1), .val (.long q2), .second, .val (.int i3), .val (.int (own_c (cs.set i3.toNatClampNeg nc) i3.toNatClampNeg))] []))
    refine Go.st (fun U hr => XS.aloadN X70.here hx rfl (hb hby d7_70) rfl rfl hr) ?_
    show Go p.tables e below _ (T70.setTop (mkF m 71 #[.val (.ref a1), .val (.long q2), .second, .val (.int i3), .val (.int (own_c (cs.set i3.toNatClampNeg nc) i3.toNatClampNeg))] [(.ref a1)]))
    obtain ⟨T72, X72, e72, st72⟩ := getF X70 hx hZ hown (host := "") (Or.inl (hw _ (List.mem_of_getElem? (i := 43) rfl))) Via.refl e70 f66 (g := (mkF m 71 #[.val (.ref a1), .val (.long q2), .second, .val (.int i3), .val (.int (own_c (cs.set i3.toNatClampNeg nc) i3.toNatClampNeg))] [(.ref a1)])) rfl rfl (hb hby d7_71)
    refine Go.st st72 ?_
    show Go p.tables e below _ (T72.setTop (mkF m 74 #[.val (.ref a1), .val (.long q2), .second, .val (.int i3), .val (.int (own_c (cs.set i3.toNatClampNeg nc) i3.toNatClampNeg))] [(.int sz)]))
    refine Go.st (X72.ldcInt hx hown (mvT hZ (hw _ (List.mem_of_getElem? (i := 9) rfl))) (g := (mkF m 74 #[.val (.ref a1), .val (.long q2), .second, .val (.int i3), .val (.int (own_c (cs.set i3.toNatClampNeg nc) i3.toNatClampNeg))] [(.int sz)])) rfl (hb hby d7_74)) ?_
    show Go p.tables e below _ (T72.setTop (mkF m 76 #[.val (.ref a1), .val (.long q2), .second, .val (.int i3), .val (.int (own_c (cs.set i3.toNatClampNeg nc) i3.toNatClampNeg))] [(.int (524288 : Int32)), (.int sz)]))
    have hc76_73 : ¬ ((524288 : Int32) < sz) := fun q => by
      rw [own_lt32, show (524288 : Int32).toInt = 524288 from by decide] at q
      omega
    refine Go.st (fun U hr => XS.icmpYes X72.here hx rfl (pc0 := 76) (pc' := 86) rfl (hb hby d7_76) rfl (flt hc76_73).2.2.2 (by decide) (by decide) hr) ?_
    show Go p.tables e below _ (T72.setTop (mkF m 86 #[.val (.ref a1), .val (.long q2), .second, .val (.int i3), .val (.int (own_c (cs.set i3.toNatClampNeg nc) i3.toNatClampNeg))] []))
    refine Go.st (fun U hr => XS.iconst X72.here hx rfl (hb hby d7_86) hr) ?_
    show Go p.tables e below _ (T72.setTop (mkF m 87 #[.val (.ref a1), .val (.long q2), .second, .val (.int i3), .val (.int (own_c (cs.set i3.toNatClampNeg nc) i3.toNatClampNeg))] [(.int (2 : Int32))]))
    refine Go.st (fun U hr => XS.aloadN X72.here hx rfl (hb hby d7_87) rfl rfl hr) ?_
    show Go p.tables e below _ (T72.setTop (mkF m 88 #[.val (.ref a1), .val (.long q2), .second, .val (.int i3), .val (.int (own_c (cs.set i3.toNatClampNeg nc) i3.toNatClampNeg))] [(.ref a1), (.int (2 : Int32))]))
    obtain ⟨T74, X74, e74, st74⟩ := getF X72 hx hZ hown (host := "") (Or.inl (hw _ (List.mem_of_getElem? (i := 43) rfl))) Via.refl e72 f66 (g := (mkF m 88 #[.val (.ref a1), .val (.long q2), .second, .val (.int i3), .val (.int (own_c (cs.set i3.toNatClampNeg nc) i3.toNatClampNeg))] [(.ref a1), (.int (2 : Int32))])) rfl rfl (hb hby d7_88)
    refine Go.st st74 ?_
    show Go p.tables e below _ (T74.setTop (mkF m 91 #[.val (.ref a1), .val (.long q2), .second, .val (.int i3), .val (.int (own_c (cs.set i3.toNatClampNeg nc) i3.toNatClampNeg))] [(.int sz), (.int (2 : Int32))]))
    refine Go.st (fun U hr => XS.imul X74.here hx rfl (hb hby d7_91) rfl hr) ?_
    show Go p.tables e below _ (T74.setTop (mkF m 92 #[.val (.ref a1), .val (.long q2), .second, .val (.int i3), .val (.int (own_c (cs.set i3.toNatClampNeg nc) i3.toNatClampNeg))] [(.int ((2 : Int32) * sz))]))
    refine Go.st (fun U hr => XS.aloadN X74.here hx rfl (hb hby d7_92) rfl rfl hr) ?_
    show Go p.tables e below _ (T74.setTop (mkF m 93 #[.val (.ref a1), .val (.long q2), .second, .val (.int i3), .val (.int (own_c (cs.set i3.toNatClampNeg nc) i3.toNatClampNeg))] [(.ref a1), (.int ((2 : Int32) * sz))]))
    obtain ⟨T75, X75, e75, st75⟩ := getF X74 hx hZ hown (host := "") (Or.inl (hw _ (List.mem_of_getElem? (i := 27) rfl))) Via.refl e74 f64 (g := (mkF m 93 #[.val (.ref a1), .val (.long q2), .second, .val (.int i3), .val (.int (own_c (cs.set i3.toNatClampNeg nc) i3.toNatClampNeg))] [(.ref a1), (.int ((2 : Int32) * sz))])) rfl rfl (hb hby d7_93)
    refine Go.st st75 ?_
    show Go p.tables e below _ (T75.setTop (mkF m 96 #[.val (.ref a1), .val (.long q2), .second, .val (.int i3), .val (.int (own_c (cs.set i3.toNatClampNeg nc) i3.toNatClampNeg))] [(.ref ka), (.int ((2 : Int32) * sz))]))
    obtain ⟨cl76, Ar76, qa76, Sa76, Na76, Ha76, Ga76⟩ := id f67
    refine Go.st (X75.arraylength hx (by rw [e75]; exact Ar76.1) (State.isArrayOf_alike hZ.alike Ar76.2.1) (g := (mkF m 96 #[.val (.ref a1), .val (.long q2), .second, .val (.int i3), .val (.int (own_c (cs.set i3.toNatClampNeg nc) i3.toNatClampNeg))] [(.ref ka), (.int ((2 : Int32) * sz))])) rfl rfl (hb hby d7_96)) ?_
    rw [len_of Sa76 Na76]
    show Go p.tables e below _ (T75.setTop (mkF m 97 #[.val (.ref a1), .val (.long q2), .second, .val (.int i3), .val (.int (own_c (cs.set i3.toNatClampNeg nc) i3.toNatClampNeg))] [(.int z), (.int ((2 : Int32) * sz))]))
    have h2s : ((2 : Int32) * sz).toInt = 2 * sz.toInt := by
      have h1 := c_imul 2 sz
      rw [show (2 : Int32).toInt = 2 from by decide] at h1
      have r1 := rng32 (2 * sz)
      have := Int.natCast_nonneg (own_used cs)
      omega
    have hc97_77 : ¬ (z < ((2 : Int32) * sz)) := fun q => by rw [own_lt32, h2s] at q; omega
    refine Go.st (fun U hr => XS.icmpYes X75.here hx rfl (pc0 := 97) (pc' := 104) rfl (hb hby d7_97) rfl (flt hc97_77).2.2.2 (by decide) (by decide) hr) ?_
    show Go p.tables e below _ (T75.setTop (mkF m 104 #[.val (.ref a1), .val (.long q2), .second, .val (.int i3), .val (.int (own_c (cs.set i3.toNatClampNeg nc) i3.toNatClampNeg))] []))
    refine Go.st (fun U hr => XS.iload X75.here hx rfl (hb hby d7_104) rfl hr) ?_
    show Go p.tables e below _ (T75.setTop (mkF m 106 #[.val (.ref a1), .val (.long q2), .second, .val (.int i3), .val (.int (own_c (cs.set i3.toNatClampNeg nc) i3.toNatClampNeg))] [(.int (own_c (cs.set i3.toNatClampNeg nc) i3.toNatClampNeg))]))
    have hJ := own_inv_inc (c := nc) (by have := own_zN hz; omega) lk lc hI hsl3 hc19_6 hnz
    have hus := own_used_set (cs := cs) (s := i3.toNatClampNeg) (c := nc) (own_idx hi3 lc) hnz
    rw [if_neg hc19_6] at hus
    exact own_retO X75 hx Bd.notSynchronized (t := .int) Bd.returns rfl (Or.inl ⟨rfl, Or.inl rfl, _, rfl⟩) (hb hby d7_106) (by rw [e75]; exact ⟨_, rfl, N61, (k62).1, _, _, _, _, _, _, _, _, f63, f64, f65, f66, f67, V61, gk, gc, ne1, ne2, ne3, hz, lk, by simp [lc], hJ.congr (fun k => by
          by_cases q : k = q2
          · rw [if_pos q, if_pos q, q, hnc, hq]
          · rw [if_neg q, if_neg q]), by rw [hus]; exact hu, by omega, hs2⟩) (by decide) (by decide)
theorem d1_0 : decode prog_33_method_2_code 0 = .ok (.aload_n 0, 1) := by decide +kernel
theorem d1_1 : decode prog_33_method_2_code 1 = .ok (.invokespecial 7, 3) := by decide +kernel
theorem d1_4 : decode prog_33_method_2_code 4 = .ok (.iconst 2, 1) := by decide +kernel
theorem d1_5 : decode prog_33_method_2_code 5 = .ok (.iconst 1, 1) := by decide +kernel
theorem d1_6 : decode prog_33_method_2_code 6 = .ok (.iconst 2, 1) := by decide +kernel
theorem d1_7 : decode prog_33_method_2_code 7 = .ok (.iload_n 1, 1) := by decide +kernel
theorem d1_8 : decode prog_33_method_2_code 8 = .ok (.ldc 12, 2) := by decide +kernel
theorem d1_10 : decode prog_33_method_2_code 10 = .ok (.invokestatic 13, 3) := by decide +kernel
theorem d1_13 : decode prog_33_method_2_code 13 = .ok (.imul, 1) := by decide +kernel
theorem d1_14 : decode prog_33_method_2_code 14 = .ok (.iconst 1, 1) := by decide +kernel
theorem d1_15 : decode prog_33_method_2_code 15 = .ok (.isub, 1) := by decide +kernel
theorem d1_16 : decode prog_33_method_2_code 16 = .ok (.invokestatic 19, 3) := by decide +kernel
theorem d1_19 : decode prog_33_method_2_code 19 = .ok (.invokestatic 22, 3) := by decide +kernel
theorem d1_22 : decode prog_33_method_2_code 22 = .ok (.imul, 1) := by decide +kernel
theorem d1_23 : decode prog_33_method_2_code 23 = .ok (.istore_n 2, 1) := by decide +kernel
theorem d1_24 : decode prog_33_method_2_code 24 = .ok (.aload_n 0, 1) := by decide +kernel
theorem d1_25 : decode prog_33_method_2_code 25 = .ok (.iload_n 2, 1) := by decide +kernel
theorem d1_26 : decode prog_33_method_2_code 26 = .ok (.newarray .long, 2) := by decide +kernel
theorem d1_28 : decode prog_33_method_2_code 28 = .ok (.putfield 28, 3) := by decide +kernel
theorem d1_31 : decode prog_33_method_2_code 31 = .ok (.aload_n 0, 1) := by decide +kernel
theorem d1_32 : decode prog_33_method_2_code 32 = .ok (.iload_n 2, 1) := by decide +kernel
theorem d1_33 : decode prog_33_method_2_code 33 = .ok (.newarray .int, 2) := by decide +kernel
theorem d1_35 : decode prog_33_method_2_code 35 = .ok (.putfield 32, 3) := by decide +kernel
theorem d1_38 : decode prog_33_method_2_code 38 = .ok (.return_, 1) := by decide +kernel
theorem pn_1 : plainFor (⟨"com/example/rigorous_layout/rigorouslayout/Tally", "<init>", "(I)V"⟩ : MethodName) = true := plainFor_of_name (by first | (simp [plainName, overriddenIn]; done) | decide +kernel)
theorem ef_1 (m : MethodId) (x0 : Addr) (x1 : Int32) : entryFrame m #[(.ref x0), (.int x1)] 3 = mkF m 0 #[.val (.ref x0), .val (.int x1), .unset] [] := by first | (simp [entryFrame, mkF, argsToLocals, Value.category]; done) | rfl
def Q1 (Z : State) (a1 : Addr) (p2 : Int32)  (h0 : Heap) (n0 : Nat) (v : Option Value) (h : Heap) (L : List Loc) : Prop := v = none ∧ Fr n0 L ∧ h0.size ≤ h.size ∧ own_TB Z h n0 a1 (fun _ => 0) 0
set_option maxRecDepth 65536 in
set_option maxHeartbeats 40000000 in
theorem rm1 (l : Launch) (Z : State) (a0 : Array Value) (hw : ∀ d ∈ tables_1, d.before a0 Z = true) (ws : List Jvm.Cond) (a1 : Addr) (p2 : Int32)  (h0 : Heap) (n0 : Nat) (Z0 : n0 ≤ h0.size) (E1 : Exa Z h0 a1 "com/example/rigorous_layout/rigorouslayout/Tally") (F1 : Fld Z h0 a1 "com/example/rigorous_layout/rigorouslayout/Tally" "keys" "[J" .null) (F2 : Fld Z h0 a1 "com/example/rigorous_layout/rigorouslayout/Tally" "counts" "[I" .null) (F3 : Fld Z h0 a1 "com/example/rigorous_layout/rigorouslayout/Tally" "size" "I" (.int (0 : Int32))) (g1 : n0 ≤ a1) (hp : p2 = 0 ∨ p2 = 1 ∨ p2 = 2 ∨ p2 = 3 ∨ p2 = 4 ∨ p2 = 5 ∨ p2 = 6 ∨ p2 = 7) :
    MetFree l (⟨"com/example/rigorous_layout/rigorouslayout/Tally", "<init>", "(I)V"⟩ : MethodName) (head1 (Jvm.Cond.code (⟨"com/example/rigorous_layout/rigorouslayout/Tally", "<init>", "(I)V"⟩ : MethodName) prog_33_method_2_code 3 none :: ws) ({ frames := 2, cells := 2, slots := 32, locals := 28 } : Room)) (fun a U => a = #[(.ref a1), (.int p2)] ∧ Z.Warmed39 U.vm ∧ U.heap = h0) (fun _ _ _ _ _ => True) (fun _ U o U' => ∃ v L, o = .returned v ∧ Q1 Z a1 p2 h0 n0 v U'.heap L ∧ FrameEnd U o U' L ({ frames := 2, cells := 2, slots := 32, locals := 28 } : Room).cells ({ frames := 2, cells := 2, slots := 32, locals := 28 } : Room).slots) := by
  refine MetFree.of_bodySF pn_1 hisR ?_
  intro p e s m args below meth c s₁ Bd hml0 hP hK
  obtain ⟨rfl, hZ, hh⟩ := hP
  have hx := Bd.exec
  have hby := Bd.bytes
  have hml : c.maxLocals = 3 := hml0
  have hown : s.vm.findClass "com/example/rigorous_layout/rigorouslayout/Tally" = some m.cls := findClass_of_methodNamed Bd.named
  have hnm := (name_of_methodNamed Bd.named Bd.method).1
  have X0 : Stand p l e ({ frames := 2, cells := 2, slots := 32, locals := 28 } : Room) s m #[(.ref a1), (.int p2)] below meth c s₁ [] 0 0 := Stand.of_body Bd
  have e0 : s₁.heap = h0 := by rw [← hh, Bd.state]; rfl
  have N0 := Fr.nil n0
  refine own_start (Q := Q1 Z a1 p2 h0 n0) (own_cast (ef_1 m a1 p2) ?_)
  show Go p.tables e below _ (s₁.setTop (mkF m 0 #[.val (.ref a1), .val (.int p2), .unset] []))
  refine Go.st (fun U hr => XS.aloadN X0.here hx rfl (hb hby d1_0) rfl rfl hr) ?_
  show Go p.tables e below _ (s₁.setTop (mkF m 1 #[.val (.ref a1), .val (.int p2), .unset] [(.ref a1)]))
  obtain ⟨T1, X1, e1, st1⟩ := initO X0 hx hZ hown (hw _ (List.mem_of_getElem? (i := 6) rfl)) (hw _ (List.mem_of_getElem? (i := 7) rfl)) (hw _ (List.mem_of_getElem? (i := 8) rfl)) e0 (g := (mkF m 1 #[.val (.ref a1), .val (.int p2), .unset] [(.ref a1)])) rfl (by rw [hml]; rfl) rfl (hb hby d1_1) (by decide) (W := 0) (by show 2 * 0 + _ ≤ _; exact Nat.le_of_eq rfl) (by decide)
  refine Go.st st1 ?_
  show Go p.tables e below _ (T1.setTop (mkF m 4 #[.val (.ref a1), .val (.int p2), .unset] []))
  refine Go.st (fun U hr => XS.iconst X1.here hx rfl (hb hby d1_4) hr) ?_
  show Go p.tables e below _ (T1.setTop (mkF m 5 #[.val (.ref a1), .val (.int p2), .unset] [(.int (2 : Int32))]))
  refine Go.st (fun U hr => XS.iconst X1.here hx rfl (hb hby d1_5) hr) ?_
  show Go p.tables e below _ (T1.setTop (mkF m 6 #[.val (.ref a1), .val (.int p2), .unset] [(.int (1 : Int32)), (.int (2 : Int32))]))
  refine Go.st (fun U hr => XS.iconst X1.here hx rfl (hb hby d1_6) hr) ?_
  show Go p.tables e below _ (T1.setTop (mkF m 7 #[.val (.ref a1), .val (.int p2), .unset] [(.int (2 : Int32)), (.int (1 : Int32)), (.int (2 : Int32))]))
  refine Go.st (fun U hr => XS.iloadN X1.here hx rfl (hb hby d1_7) rfl hr) ?_
  show Go p.tables e below _ (T1.setTop (mkF m 8 #[.val (.ref a1), .val (.int p2), .unset] [(.int p2), (.int (2 : Int32)), (.int (1 : Int32)), (.int (2 : Int32))]))
  refine Go.st (X1.ldcInt hx hown (mvT hZ (hw _ (List.mem_of_getElem? (i := 9) rfl))) (g := (mkF m 8 #[.val (.ref a1), .val (.int p2), .unset] [(.int p2), (.int (2 : Int32)), (.int (1 : Int32)), (.int (2 : Int32))])) rfl (hb hby d1_8)) ?_
  show Go p.tables e below _ (T1.setTop (mkF m 10 #[.val (.ref a1), .val (.int p2), .unset] [(.int (524288 : Int32)), (.int p2), (.int (2 : Int32)), (.int (1 : Int32)), (.int (2 : Int32))]))
  obtain ⟨_, _, ⟨T2, L2, k2, n2⟩, -, X2, ⟨Lc2, hQ2, l2, y2, z2⟩, st2⟩ := Jvm.LawKit.callS X1 hx (y := (⟨"java/lang/Math", "min", "(II)I"⟩ : MethodName)) hown (mvT hZ (hw _ (List.mem_of_getElem? (i := 10) rfl))) (mvT hZ (hw _ (List.mem_of_getElem? (i := 11) rfl))) (mvT hZ (hw _ (List.mem_of_getElem? (i := 12) rfl))) (mvT hZ (hw _ (List.mem_of_getElem? (i := 13) rfl))) (by decide) (backOf (W := 3) (rm3 l Z a0 hw [] p2 (524288 : Int32) h0 n0 Z0) hZ (hw _ (List.mem_of_getElem? (i := 13) rfl)) (hw _ (List.mem_of_getElem? (i := 12) rfl)) (by decide) (by decide)) (g := (mkF m 10 #[.val (.ref a1), .val (.int p2), .unset] [(.int (524288 : Int32)), (.int p2), (.int (2 : Int32)), (.int (1 : Int32)), (.int (2 : Int32))])) rfl (by rw [hml]; rfl) (argsL := [(.int p2), (.int (524288 : Int32))]) (rest := [(.int (2 : Int32)), (.int (1 : Int32)), (.int (2 : Int32))]) (lenOf pd_3 rfl) rfl (by show 2 * 0 + _ ≤ _; exact Nat.le_of_eq rfl) (hb hby d1_10) (fun _ _ => ⟨rfl, e1, (by decide : 0 + 0 ≤ _), (by decide : 0 + 0 ≤ _)⟩)
  dsimp only [Pt.U, Pt.locs, Pt.cells, Pt.slots] at X2 l2 y2 z2 st2 hQ2
  subst l2 y2 z2
  obtain ⟨rfl, Nq2, ee2⟩ := hQ2
  have N2 := Fr.app N0 Nq2
  refine Go.st st2 ?_
  show Go p.tables e below _ (T2.setTop (mkF m 13 #[.val (.ref a1), .val (.int p2), .unset] [(.int (own_min p2 (524288 : Int32))), (.int (2 : Int32)), (.int (1 : Int32)), (.int (2 : Int32))]))
  refine Go.st (fun U hr => XS.imul X2.here hx rfl (hb hby d1_13) rfl hr) ?_
  show Go p.tables e below _ (T2.setTop (mkF m 14 #[.val (.ref a1), .val (.int p2), .unset] [(.int ((2 : Int32) * (own_min p2 (524288 : Int32)))), (.int (1 : Int32)), (.int (2 : Int32))]))
  refine Go.st (fun U hr => XS.iconst X2.here hx rfl (hb hby d1_14) hr) ?_
  show Go p.tables e below _ (T2.setTop (mkF m 15 #[.val (.ref a1), .val (.int p2), .unset] [(.int (1 : Int32)), (.int ((2 : Int32) * (own_min p2 (524288 : Int32)))), (.int (1 : Int32)), (.int (2 : Int32))]))
  refine Go.st (fun U hr => XS.isub X2.here hx rfl (hb hby d1_15) rfl hr) ?_
  show Go p.tables e below _ (T2.setTop (mkF m 16 #[.val (.ref a1), .val (.int p2), .unset] [(.int (((2 : Int32) * (own_min p2 (524288 : Int32))) - (1 : Int32))), (.int (1 : Int32)), (.int (2 : Int32))]))
  obtain ⟨_, _, ⟨T3, L3, k3, n3⟩, -, X3, ⟨Lc3, hQ3, l3, y3, z3⟩, st3⟩ := Jvm.LawKit.callS X2 hx (y := (⟨"java/lang/Math", "max", "(II)I"⟩ : MethodName)) hown (mvT hZ (hw _ (List.mem_of_getElem? (i := 14) rfl))) (mvT hZ (hw _ (List.mem_of_getElem? (i := 15) rfl))) (mvT hZ (hw _ (List.mem_of_getElem? (i := 12) rfl))) (mvT hZ (hw _ (List.mem_of_getElem? (i := 16) rfl))) (by decide) (backOf (W := 1) (rm4 l Z a0 hw [] (1 : Int32) (((2 : Int32) * (own_min p2 (524288 : Int32))) - (1 : Int32)) h0 n0 Z0) hZ (hw _ (List.mem_of_getElem? (i := 16) rfl)) (hw _ (List.mem_of_getElem? (i := 12) rfl)) (by decide) (by decide)) (g := (mkF m 16 #[.val (.ref a1), .val (.int p2), .unset] [(.int (((2 : Int32) * (own_min p2 (524288 : Int32))) - (1 : Int32))), (.int (1 : Int32)), (.int (2 : Int32))])) rfl (by rw [hml]; rfl) (argsL := [(.int (1 : Int32)), (.int (((2 : Int32) * (own_min p2 (524288 : Int32))) - (1 : Int32)))]) (rest := [(.int (2 : Int32))]) (lenOf pd_3 rfl) rfl (by show 2 * 0 + _ ≤ _; exact Nat.le_of_eq rfl) (hb hby d1_16) (fun _ _ => ⟨rfl, ee2, (by decide : 0 + 0 ≤ _), (by decide : 0 + 0 ≤ _)⟩)
  dsimp only [Pt.U, Pt.locs, Pt.cells, Pt.slots] at X3 l3 y3 z3 st3 hQ3
  subst l3 y3 z3
  obtain ⟨rfl, Nq3, ee3⟩ := hQ3
  have N3 := Fr.app N2 Nq3
  refine Go.st st3 ?_
  show Go p.tables e below _ (T3.setTop (mkF m 19 #[.val (.ref a1), .val (.int p2), .unset] [(.int (own_max (1 : Int32) (((2 : Int32) * (own_min p2 (524288 : Int32))) - (1 : Int32)))), (.int (2 : Int32))]))
  obtain ⟨_, _, ⟨T4, L4, k4, n4⟩, -, X4, ⟨Lc4, hQ4, l4, y4, z4⟩, st4⟩ := Jvm.LawKit.callS X3 hx (y := (⟨"java/lang/Integer", "highestOneBit", "(I)I"⟩ : MethodName)) hown (mvT hZ (hw _ (List.mem_of_getElem? (i := 17) rfl))) (mvT hZ (hw _ (List.mem_of_getElem? (i := 18) rfl))) (mvT hZ (hw _ (List.mem_of_getElem? (i := 19) rfl))) (mvT hZ (hw _ (List.mem_of_getElem? (i := 20) rfl))) (by decide) (backOf (W := 1) (rm5 l Z a0 hw [] (own_max (1 : Int32) (((2 : Int32) * (own_min p2 (524288 : Int32))) - (1 : Int32))) h0 n0 Z0 (by rcases hp with rfl | rfl | rfl | rfl | rfl | rfl | rfl | rfl <;> decide)) hZ (hw _ (List.mem_of_getElem? (i := 20) rfl)) (hw _ (List.mem_of_getElem? (i := 19) rfl)) (by decide) (by decide)) (g := (mkF m 19 #[.val (.ref a1), .val (.int p2), .unset] [(.int (own_max (1 : Int32) (((2 : Int32) * (own_min p2 (524288 : Int32))) - (1 : Int32)))), (.int (2 : Int32))])) rfl (by rw [hml]; rfl) (argsL := [(.int (own_max (1 : Int32) (((2 : Int32) * (own_min p2 (524288 : Int32))) - (1 : Int32))))]) (rest := [(.int (2 : Int32))]) (lenOf pd_0 rfl) rfl (by show 2 * 0 + _ ≤ _; exact Nat.le_of_eq rfl) (hb hby d1_19) (fun _ _ => ⟨rfl, ee3, (by decide : 0 + 0 ≤ _), (by decide : 0 + 0 ≤ _)⟩)
  dsimp only [Pt.U, Pt.locs, Pt.cells, Pt.slots] at X4 l4 y4 z4 st4 hQ4
  subst l4 y4 z4
  obtain ⟨rfl, Nq4, ee4⟩ := hQ4
  have N4 := Fr.app N3 Nq4
  refine Go.st st4 ?_
  show Go p.tables e below _ (T4.setTop (mkF m 22 #[.val (.ref a1), .val (.int p2), .unset] [(.int (own_hob (own_max (1 : Int32) (((2 : Int32) * (own_min p2 (524288 : Int32))) - (1 : Int32))))), (.int (2 : Int32))]))
  refine Go.st (fun U hr => XS.imul X4.here hx rfl (hb hby d1_22) rfl hr) ?_
  show Go p.tables e below _ (T4.setTop (mkF m 23 #[.val (.ref a1), .val (.int p2), .unset] [(.int ((2 : Int32) * (own_hob (own_max (1 : Int32) (((2 : Int32) * (own_min p2 (524288 : Int32))) - (1 : Int32))))))]))
  refine Go.st (fun U hr => XS.istoreN X4.here hx rfl (hb hby d1_23) rfl (l' := #[.val (.ref a1), .val (.int p2), .val (.int ((2 : Int32) * (own_hob (own_max (1 : Int32) (((2 : Int32) * (own_min p2 (524288 : Int32))) - (1 : Int32))))))]) rfl hr) ?_
  show Go p.tables e below _ (T4.setTop (mkF m 24 #[.val (.ref a1), .val (.int p2), .val (.int ((2 : Int32) * (own_hob (own_max (1 : Int32) (((2 : Int32) * (own_min p2 (524288 : Int32))) - (1 : Int32))))))] []))
  generalize h_z : ((2 : Int32) * (own_hob (own_max (1 : Int32) (((2 : Int32) * (own_min p2 (524288 : Int32))) - (1 : Int32))))) = z
  have hz : own_zOK z := by
    rw [← h_z]
    unfold own_zOK
    rcases hp with rfl | rfl | rfl | rfl | rfl | rfl | rfl | rfl <;> decide
  have hN := own_zN hz
  have hzn : ¬ z < 0 := by rw [own_lt32, show (0 : Int32).toInt = 0 from by decide]; omega
  refine Go.st (fun U hr => XS.aloadN X4.here hx rfl (hb hby d1_24) rfl rfl hr) ?_
  show Go p.tables e below _ (T4.setTop (mkF m 25 #[.val (.ref a1), .val (.int p2), .val (.int z)] [(.ref a1)]))
  refine Go.st (fun U hr => XS.iloadN X4.here hx rfl (hb hby d1_25) rfl hr) ?_
  show Go p.tables e below _ (T4.setTop (mkF m 26 #[.val (.ref a1), .val (.int p2), .val (.int z)] [(.int z), (.ref a1)]))
  obtain ⟨T5, h5, k5, X5, e5, E5, A5, st5⟩ := newP X4 hx hZ (hw _ (List.mem_of_getElem? (i := 26) rfl)) ee4 (g := (mkF m 26 #[.val (.ref a1), .val (.int p2), .val (.int z)] [(.int z), (.ref a1)])) rfl (hb hby d1_26) rfl hzn (cap := 16) (by omega) (by decide) (by decide) (by decide)
  obtain ⟨b5, g5⟩ : ∃ z, z = h0.size := ⟨_, rfl⟩
  rw [← g5] at A5 st5
  refine Go.st st5 ?_
  have gb5 : n0 ≤ b5 := Nat.le_trans Z0 (Nat.le_of_eq g5.symm)
  have sb5 : h0.size ≤ b5 := Nat.le_trans ((Keep.refl h0 [a1])).1 (Nat.le_of_eq g5.symm)
  have k6 := ((Keep.refl h0 [a1])).ext E5
  have n7 : a1 ≠ b5 := Nat.ne_of_lt (Nat.lt_of_lt_of_le (E1).lt (Nat.le_of_eq g5.symm))
  have f8 := (E1).ext E5
  have f9 := (F1).ext E5
  have f10 := (F2).ext E5
  have f11 := (F3).ext E5
  have z12 := Nat.le_trans Z0 E5.1
  have V5 : Arv Z h5 b5 k5 .long z ((List.replicate z.toNatClampNeg (0 : Int64)).map Value.long) (.long (0 : Int64)) := (Arv.new A5 hzn).pad (own_repL _)
  show Go p.tables e below _ (T5.setTop (mkF m 28 #[.val (.ref a1), .val (.int p2), .val (.int z)] [(.ref b5), (.ref a1)]))
  obtain ⟨T13, h13, X13, e13, W13, st13⟩ := putF X5 hx hZ hown (host := "") (Or.inl (hw _ (List.mem_of_getElem? (i := 27) rfl))) Via.refl e5 f9 f8 (Or.inl (hw _ (List.mem_of_getElem? (i := 28) rfl))) (hw _ (List.mem_of_getElem? (i := 1) rfl)) (ty := (.array .long)) (by decide) rfl rfl (g := (mkF m 28 #[.val (.ref a1), .val (.int p2), .val (.int z)] [(.ref b5), (.ref a1)])) rfl rfl (hb hby d1_28)
  refine Go.st st13 ?_
  have k14 := (k6).wr W13 (Or.inl (List.mem_of_getElem? (i := 0) rfl))
  have f15 := (f8).wr W13
  have f16 := (f9).same W13
  have f17 := (f10).other W13 (Or.inr (slot_ne (Or.inl (hw _ (List.mem_of_getElem? (i := 31) rfl))) (Or.inl (hw _ (List.mem_of_getElem? (i := 28) rfl))) (by decide) (t := (.array .int)) (t' := (.array .long)) (by decide) (by decide)))
  have f18 := (f11).other W13 (Or.inr (slot_ne (Or.inl (hw _ (List.mem_of_getElem? (i := 44) rfl))) (Or.inl (hw _ (List.mem_of_getElem? (i := 28) rfl))) (by decide) (t := .int) (t' := (.array .long)) (by decide) (by decide)))
  have f19 := (V5).other W13 (Ne.symm n7)
  have z20 := Nat.le_trans z12 (Keep.of_wr W13).1
  have N13 := Fr.snoc X13 N4 g1
  show Go p.tables e below _ (T13.setTop (mkF m 31 #[.val (.ref a1), .val (.int p2), .val (.int z)] []))
  refine Go.st (fun U hr => XS.aloadN X13.here hx rfl (hb hby d1_31) rfl rfl hr) ?_
  show Go p.tables e below _ (T13.setTop (mkF m 32 #[.val (.ref a1), .val (.int p2), .val (.int z)] [(.ref a1)]))
  refine Go.st (fun U hr => XS.iloadN X13.here hx rfl (hb hby d1_32) rfl hr) ?_
  show Go p.tables e below _ (T13.setTop (mkF m 33 #[.val (.ref a1), .val (.int p2), .val (.int z)] [(.int z), (.ref a1)]))
  obtain ⟨T21, h21, k21, X21, e21, E21, A21, st21⟩ := newP X13 hx hZ (hw _ (List.mem_of_getElem? (i := 29) rfl)) e13 (g := (mkF m 33 #[.val (.ref a1), .val (.int p2), .val (.int z)] [(.int z), (.ref a1)])) rfl (hb hby d1_33) rfl hzn (cap := 16) (by omega) (by decide) (by decide) (by decide)
  obtain ⟨b21, g21⟩ : ∃ z, z = h13.size := ⟨_, rfl⟩
  rw [← g21] at A21 st21
  refine Go.st st21 ?_
  have gb21 : n0 ≤ b21 := Nat.le_trans z20 (Nat.le_of_eq g21.symm)
  have sb21 : h0.size ≤ b21 := Nat.le_trans (k14).1 (Nat.le_of_eq g21.symm)
  have k22 := (k14).ext E21
  have n23 : a1 ≠ b21 := Nat.ne_of_lt (Nat.lt_of_lt_of_le (f15).lt (Nat.le_of_eq g21.symm))
  have n24 : b5 ≠ b21 := Nat.ne_of_lt (Nat.lt_of_lt_of_le (f19).lt (Nat.le_of_eq g21.symm))
  have f25 := (f15).ext E21
  have f26 := (f16).ext E21
  have f27 := (f17).ext E21
  have f28 := (f18).ext E21
  have f29 := (f19).ext E21
  have z30 := Nat.le_trans z20 E21.1
  have V21 : Arv Z h21 b21 k21 .int z ((List.replicate z.toNatClampNeg (0 : Int32)).map Value.int) (.int (0 : Int32)) := (Arv.new A21 hzn).pad (own_repI _)
  show Go p.tables e below _ (T21.setTop (mkF m 35 #[.val (.ref a1), .val (.int p2), .val (.int z)] [(.ref b21), (.ref a1)]))
  obtain ⟨T31, h31, X31, e31, W31, st31⟩ := putF X21 hx hZ hown (host := "") (Or.inl (hw _ (List.mem_of_getElem? (i := 30) rfl))) Via.refl e21 f27 f25 (Or.inl (hw _ (List.mem_of_getElem? (i := 31) rfl))) (hw _ (List.mem_of_getElem? (i := 1) rfl)) (ty := (.array .int)) (by decide) rfl rfl (g := (mkF m 35 #[.val (.ref a1), .val (.int p2), .val (.int z)] [(.ref b21), (.ref a1)])) rfl rfl (hb hby d1_35)
  refine Go.st st31 ?_
  have k32 := (k22).wr W31 (Or.inl (List.mem_of_getElem? (i := 0) rfl))
  have f33 := (f25).wr W31
  have f34 := (f26).other W31 (Or.inr (slot_ne (Or.inl (hw _ (List.mem_of_getElem? (i := 28) rfl))) (Or.inl (hw _ (List.mem_of_getElem? (i := 31) rfl))) (by decide) (t := (.array .long)) (t' := (.array .int)) (by decide) (by decide)))
  have f35 := (f27).same W31
  have f36 := (f28).other W31 (Or.inr (slot_ne (Or.inl (hw _ (List.mem_of_getElem? (i := 44) rfl))) (Or.inl (hw _ (List.mem_of_getElem? (i := 31) rfl))) (by decide) (t := .int) (t' := (.array .int)) (by decide) (by decide)))
  have f37 := (f29).other W31 (Ne.symm n7)
  have f38 := (V21).other W31 (Ne.symm n23)
  have z39 := Nat.le_trans z30 (Keep.of_wr W31).1
  have N31 := Fr.snoc X31 N13 g1
  show Go p.tables e below _ (T31.setTop (mkF m 38 #[.val (.ref a1), .val (.int p2), .val (.int z)] []))
  exact own_ret0 X31 hx Bd.notSynchronized Bd.returns (hb hby d1_38) (by rw [e31]; exact ⟨rfl, N31, (k32).1, _, _, _, _, _, _, _, _, f33, f34, f35, f36, f37, f38, gb5, gb21, n24, (Ne.symm n7), (Ne.symm n23), hz, by simp, by simp, own_inv_new, by rw [own_used_rep]; rfl, by decide, by show 2 * (0 : Int) ≤ _; omega⟩) (by decide) (by decide)
theorem own_TBE {Z : State} {h : Heap} {n0 : Nat} {a : Addr} {M : Int64 → Int} {b : Int} (T : own_TB Z h n0 a M b) : Exa Z h a "com/example/rigorous_layout/rigorouslayout/Tally" := by
  obtain ⟨ka, ca, kk, kc, z, sz, ks, cs, E1, -⟩ := T; exact E1
theorem own_TBm {Z : State} {h : Heap} {n0 : Nat} {a : Addr} {M : Int64 → Int} {b b' : Int} (T : own_TB Z h n0 a M b) (hb : b ≤ b') : own_TB Z h n0 a M b' := by
  obtain ⟨ka, ca, kk, kc, z, sz, ks, cs, E1, F1, F2, F3, V1, V2, gk, gc, ne1, ne2, ne3, hz, lk, lc, hI, hu, hs1, hs2⟩ := T
  exact ⟨ka, ca, kk, kc, z, sz, ks, cs, E1, F1, F2, F3, V1, V2, gk, gc, ne1, ne2, ne3, hz, lk, lc, hI, hu, Int.le_trans hs1 hb, hs2⟩

theorem pn_0 : plainFor x = true := plainFor_of_name (by first | (simp [plainName, overriddenIn]; done) | decide +kernel)
theorem ef_0 (m : MethodId) (x0 : Int32) (x1 : Int64) (x2 : Int64) (x3 : Int64) (x4 : Int64) (x5 : Int32) : entryFrame m #[(.int x0), (.long x1), (.long x2), (.long x3), (.long x4), (.int x5)] maxLocals = mkF m 0 #[.val (.int x0), .val (.long x1), .second, .val (.long x2), .second, .val (.long x3), .second, .val (.long x4), .second, .val (.int x5), .unset, .unset, .unset, .unset, .unset, .unset, .unset, .unset, .unset, .unset, .unset, .unset, .unset] [] := by first | (simp [entryFrame, mkF, argsToLocals, Value.category, maxLocals]; done) | rfl
theorem pd_5 : parseMethodDescriptor "(I)V" = some ⟨[.int], none⟩ := by decide +kernel
theorem pd_6 : parseMethodDescriptor "(J)I" = some ⟨[.long], some .int⟩ := by decide +kernel
def Q0 (Z : State) (p1 : Int32) (q2 : Int64) (q3 : Int64) (q4 : Int64) (q5 : Int64) (p6 : Int32)  (h0 : Heap) (n0 : Nat) (v : Option Value) (h : Heap) (L : List Loc) : Prop := v = some (.int 1) ∧ Fr n0 L
set_option maxRecDepth 65536 in
set_option maxHeartbeats 40000000 in
theorem rm0 (l : Launch) (Z : State) (a0 : Array Value) (hw : ∀ d ∈ tables_1, d.before a0 Z = true) (ws : List Jvm.Cond) (p1 : Int32) (q2 : Int64) (q3 : Int64) (q4 : Int64) (q5 : Int64) (p6 : Int32)  (h0 : Heap) (n0 : Nat) (Z0 : n0 ≤ h0.size) :
    MetFree l x (head1 (Jvm.Cond.code x code maxLocals ret :: ws) room_1) (fun a U => a = #[(.int p1), (.long q2), (.long q3), (.long q4), (.long q5), (.int p6)] ∧ Z.Warmed39 U.vm ∧ U.heap = h0) (fun _ _ _ _ _ => True) (fun _ U o U' => ∃ v L, o = .returned v ∧ Q0 Z p1 q2 q3 q4 q5 p6 h0 n0 v U'.heap L ∧ FrameEnd U o U' L room_1.cells room_1.slots) := by
  refine MetFree.of_bodySF pn_0 hisR ?_
  intro p e s m args below meth c s₁ Bd hml0 hP hK
  obtain ⟨rfl, hZ, hh⟩ := hP
  have hx := Bd.exec
  have hby := Bd.bytes
  have hml : c.maxLocals = 23 := hml0
  have hown : s.vm.findClass "com/example/rigorous_layout/rigorouslayout/TallyCountPinLaw" = some m.cls := findClass_of_methodNamed Bd.named
  have hnm := (name_of_methodNamed Bd.named Bd.method).1
  have X0 : Stand p l e room_1 s m #[(.int p1), (.long q2), (.long q3), (.long q4), (.long q5), (.int p6)] below meth c s₁ [] 0 0 := Stand.of_body Bd
  have e0 : s₁.heap = h0 := by rw [← hh, Bd.state]; rfl
  have N0 := Fr.nil n0
  refine own_start (Q := Q0 Z p1 q2 q3 q4 q5 p6 h0 n0) (own_cast (ef_0 m p1 q2 q3 q4 q5 p6) ?_)
  show Go p.tables e below _ (s₁.setTop (mkF m 0 #[.val (.int p1), .val (.long q2), .second, .val (.long q3), .second, .val (.long q4), .second, .val (.long q5), .second, .val (.int p6), .unset, .unset, .unset, .unset, .unset, .unset, .unset, .unset, .unset, .unset, .unset, .unset, .unset] []))
  obtain ⟨T1, h1, X1, e1, E1, A1, D1, -, st1⟩ := newO X0 hx hZ hown (hw _ (List.mem_of_getElem? (i := 0) rfl)) (hw _ (List.mem_of_getElem? (i := 1) rfl)) (hw _ (List.mem_of_getElem? (i := 2) rfl)) e0 (g := (mkF m 0 #[.val (.int p1), .val (.long q2), .second, .val (.long q3), .second, .val (.long q4), .second, .val (.long q5), .second, .val (.int p6), .unset, .unset, .unset, .unset, .unset, .unset, .unset, .unset, .unset, .unset, .unset, .unset, .unset] [])) rfl (hb hby at_0) (by decide) (by decide)
  obtain ⟨b1, g1⟩ : ∃ z, z = h0.size := ⟨_, rfl⟩
  rw [← g1] at A1 D1 st1
  refine Go.st st1 ?_
  have gb1 : n0 ≤ b1 := Nat.le_trans Z0 (Nat.le_of_eq g1.symm)
  have z2 := Nat.le_trans Z0 E1.1
  have F1_keys : Fld Z h1 b1 "com/example/rigorous_layout/rigorouslayout/Tally" "keys" "[J" .null := D1 (Or.inl (hw _ (List.mem_of_getElem? (i := 28) rfl))) (ty := (.array .long)) (by decide)
  have F1_counts : Fld Z h1 b1 "com/example/rigorous_layout/rigorouslayout/Tally" "counts" "[I" .null := D1 (Or.inl (hw _ (List.mem_of_getElem? (i := 31) rfl))) (ty := (.array .int)) (by decide)
  have F1_size : Fld Z h1 b1 "com/example/rigorous_layout/rigorouslayout/Tally" "size" "I" (.int (0 : Int32)) := D1 (Or.inl (hw _ (List.mem_of_getElem? (i := 44) rfl))) (ty := .int) (by decide)
  show Go p.tables e below _ (T1.setTop (mkF m 3 #[.val (.int p1), .val (.long q2), .second, .val (.long q3), .second, .val (.long q4), .second, .val (.long q5), .second, .val (.int p6), .unset, .unset, .unset, .unset, .unset, .unset, .unset, .unset, .unset, .unset, .unset, .unset, .unset] [(.ref b1)]))
  refine Go.st (fun U hr => XS.dup X1.here hx rfl (hb hby at_3) rfl rfl hr) ?_
  show Go p.tables e below _ (T1.setTop (mkF m 4 #[.val (.int p1), .val (.long q2), .second, .val (.long q3), .second, .val (.long q4), .second, .val (.long q5), .second, .val (.int p6), .unset, .unset, .unset, .unset, .unset, .unset, .unset, .unset, .unset, .unset, .unset, .unset, .unset] [(.ref b1), (.ref b1)]))
  refine Go.st (fun U hr => XS.iloadN X1.here hx rfl (hb hby at_4) rfl hr) ?_
  show Go p.tables e below _ (T1.setTop (mkF m 5 #[.val (.int p1), .val (.long q2), .second, .val (.long q3), .second, .val (.long q4), .second, .val (.long q5), .second, .val (.int p6), .unset, .unset, .unset, .unset, .unset, .unset, .unset, .unset, .unset, .unset, .unset, .unset, .unset] [(.int p1), (.ref b1), (.ref b1)]))
  refine Go.st (fun U hr => XS.bipush X1.here hx rfl (hb hby at_5) hr) ?_
  show Go p.tables e below _ (T1.setTop (mkF m 7 #[.val (.int p1), .val (.long q2), .second, .val (.long q3), .second, .val (.long q4), .second, .val (.long q5), .second, .val (.int p6), .unset, .unset, .unset, .unset, .unset, .unset, .unset, .unset, .unset, .unset, .unset, .unset, .unset] [(.int (7 : Int32)), (.int p1), (.ref b1), (.ref b1)]))
  refine Go.st (fun U hr => XS.iand X1.here hx rfl (hb hby at_7) rfl hr) ?_
  show Go p.tables e below _ (T1.setTop (mkF m 8 #[.val (.int p1), .val (.long q2), .second, .val (.long q3), .second, .val (.long q4), .second, .val (.long q5), .second, .val (.int p6), .unset, .unset, .unset, .unset, .unset, .unset, .unset, .unset, .unset, .unset, .unset, .unset, .unset] [(.int (p1 &&& (7 : Int32))), (.ref b1), (.ref b1)]))
  generalize h_rm : (p1 &&& (7 : Int32)) = rm
  have hrm : rm = 0 ∨ rm = 1 ∨ rm = 2 ∨ rm = 3 ∨ rm = 4 ∨ rm = 5 ∨ rm = 6 ∨ rm = 7 := by
    have h0 := c_mask p1 7 3 (by decide) (by decide)
    rw [h_rm, show ((2 ^ 3 : Nat) : Int) = 8 from by decide] at h0
    have e : rm.toInt = 0 ∨ rm.toInt = 1 ∨ rm.toInt = 2 ∨ rm.toInt = 3 ∨ rm.toInt = 4 ∨ rm.toInt = 5 ∨ rm.toInt = 6 ∨ rm.toInt = 7 := by omega
    rcases e with e | e | e | e | e | e | e | e
    · exact Or.inl (Int32.toInt_inj.mp (e.trans (by decide)))
    · exact Or.inr (Or.inl (Int32.toInt_inj.mp (e.trans (by decide))))
    · exact Or.inr (Or.inr (Or.inl (Int32.toInt_inj.mp (e.trans (by decide)))))
    · exact Or.inr (Or.inr (Or.inr (Or.inl (Int32.toInt_inj.mp (e.trans (by decide))))))
    · exact Or.inr (Or.inr (Or.inr (Or.inr (Or.inl (Int32.toInt_inj.mp (e.trans (by decide)))))))
    · exact Or.inr (Or.inr (Or.inr (Or.inr (Or.inr (Or.inl (Int32.toInt_inj.mp (e.trans (by decide))))))))
    · exact Or.inr (Or.inr (Or.inr (Or.inr (Or.inr (Or.inr (Or.inl (Int32.toInt_inj.mp (e.trans (by decide)))))))))
    · exact Or.inr (Or.inr (Or.inr (Or.inr (Or.inr (Or.inr (Or.inr ((Int32.toInt_inj.mp (e.trans (by decide))))))))))
  obtain ⟨_, _, ⟨T3, L3, k3, n3⟩, -, X3, ⟨Lc3, hQ3, l3, y3, z3⟩, st3⟩ := X1.specialBack hx (y := (⟨"com/example/rigorous_layout/rigorouslayout/Tally", "<init>", "(I)V"⟩ : MethodName)) rfl hown (mvT hZ (hw _ (List.mem_of_getElem? (i := 3) rfl))) (mvT hZ (hw _ (List.mem_of_getElem? (i := 4) rfl))) (mvT hZ (hw _ (List.mem_of_getElem? (i := 5) rfl))) (by decide) (backOf (W := 1) (rm1 l Z a0 hw [] b1 rm h1 n0 z2 A1 F1_keys F1_counts F1_size gb1 hrm) hZ (hw _ (List.mem_of_getElem? (i := 5) rfl)) (hw _ (List.mem_of_getElem? (i := 2) rfl)) (by decide) (by decide)) (g := (mkF m 8 #[.val (.int p1), .val (.long q2), .second, .val (.long q3), .second, .val (.long q4), .second, .val (.long q5), .second, .val (.int p6), .unset, .unset, .unset, .unset, .unset, .unset, .unset, .unset, .unset, .unset, .unset, .unset, .unset] [(.int rm), (.ref b1), (.ref b1)])) rfl (by rw [hml]; rfl) (Steps.refl _) (a := b1) (argsL := [(.int rm)]) (rest := [(.ref b1)]) (lenOf pd_5 rfl) rfl (by show 2 * 0 + _ ≤ _; exact Nat.le_of_eq rfl) (hb hby at_8) (fun _ _ => ⟨rfl, e1, (by decide : 1 + 2 ≤ _), (by decide : 3 + 32 ≤ _)⟩)
  dsimp only [Pt.U, Pt.locs, Pt.cells, Pt.slots] at X3 l3 y3 z3 st3 hQ3
  subst l3 y3 z3
  obtain ⟨rfl, Nq3, Sq3, TB3⟩ := hQ3
  have N3 := Fr.app N0 Nq3
  refine Go.tr st3 ?_
  show Go p.tables e below _ (T3.setTop (mkF m 11 #[.val (.int p1), .val (.long q2), .second, .val (.long q3), .second, .val (.long q4), .second, .val (.long q5), .second, .val (.int p6), .unset, .unset, .unset, .unset, .unset, .unset, .unset, .unset, .unset, .unset, .unset, .unset, .unset] [(.ref b1)]))
  have z4 := Nat.le_trans z2 Sq3
  refine Go.st (fun U hr => XS.astore X3.here hx rfl (hb hby at_11) rfl rfl (l' := #[.val (.int p1), .val (.long q2), .second, .val (.long q3), .second, .val (.long q4), .second, .val (.long q5), .second, .val (.int p6), .val (.ref b1), .unset, .unset, .unset, .unset, .unset, .unset, .unset, .unset, .unset, .unset, .unset, .unset]) rfl hr) ?_
  show Go p.tables e below _ (T3.setTop (mkF m 13 #[.val (.int p1), .val (.long q2), .second, .val (.long q3), .second, .val (.long q4), .second, .val (.long q5), .second, .val (.int p6), .val (.ref b1), .unset, .unset, .unset, .unset, .unset, .unset, .unset, .unset, .unset, .unset, .unset, .unset] []))
  refine Go.st (fun U hr => XS.iload X3.here hx rfl (hb hby at_13) rfl hr) ?_
  show Go p.tables e below _ (T3.setTop (mkF m 15 #[.val (.int p1), .val (.long q2), .second, .val (.long q3), .second, .val (.long q4), .second, .val (.long q5), .second, .val (.int p6), .val (.ref b1), .unset, .unset, .unset, .unset, .unset, .unset, .unset, .unset, .unset, .unset, .unset, .unset] [(.int p6)]))
  refine Go.st (fun U hr => XS.iconst X3.here hx rfl (hb hby at_15) hr) ?_
  show Go p.tables e below _ (T3.setTop (mkF m 16 #[.val (.int p1), .val (.long q2), .second, .val (.long q3), .second, .val (.long q4), .second, .val (.long q5), .second, .val (.int p6), .val (.ref b1), .unset, .unset, .unset, .unset, .unset, .unset, .unset, .unset, .unset, .unset, .unset, .unset] [(.int (1 : Int32)), (.int p6)]))
  refine Go.st (fun U hr => XS.iushr X3.here hx rfl (hb hby at_16) rfl hr) ?_
  show Go p.tables e below _ (T3.setTop (mkF m 17 #[.val (.int p1), .val (.long q2), .second, .val (.long q3), .second, .val (.long q4), .second, .val (.long q5), .second, .val (.int p6), .val (.ref b1), .unset, .unset, .unset, .unset, .unset, .unset, .unset, .unset, .unset, .unset, .unset, .unset] [(.int ((p6.toUInt32 >>> ((1 : Int32) &&& 31).toUInt32).toInt32))]))
  refine Go.st (fun U hr => XS.iconst X3.here hx rfl (hb hby at_17) hr) ?_
  show Go p.tables e below _ (T3.setTop (mkF m 18 #[.val (.int p1), .val (.long q2), .second, .val (.long q3), .second, .val (.long q4), .second, .val (.long q5), .second, .val (.int p6), .val (.ref b1), .unset, .unset, .unset, .unset, .unset, .unset, .unset, .unset, .unset, .unset, .unset, .unset] [(.int (1 : Int32)), (.int ((p6.toUInt32 >>> ((1 : Int32) &&& 31).toUInt32).toInt32))]))
  refine Go.st (fun U hr => XS.iand X3.here hx rfl (hb hby at_18) rfl hr) ?_
  show Go p.tables e below _ (T3.setTop (mkF m 19 #[.val (.int p1), .val (.long q2), .second, .val (.long q3), .second, .val (.long q4), .second, .val (.long q5), .second, .val (.int p6), .val (.ref b1), .unset, .unset, .unset, .unset, .unset, .unset, .unset, .unset, .unset, .unset, .unset, .unset] [(.int (((p6.toUInt32 >>> ((1 : Int32) &&& 31).toUInt32).toInt32) &&& (1 : Int32)))]))
  suffices hj19_5 : Go p.tables e below (own_Fin s below room_1.cells room_1.slots (Q0 Z p1 q2 q3 q4 q5 p6 h0 n0)) (T3.setTop (mkF m 27 #[.val (.int p1), .val (.long q2), .second, .val (.long q3), .second, .val (.long q4), .second, .val (.long q5), .second, .val (.int p6), .val (.ref b1), .unset, .unset, .unset, .unset, .unset, .unset, .unset, .unset, .unset, .unset, .unset, .unset] [(.long (if (((p6.toUInt32 >>> ((1 : Int32) &&& 31).toUInt32).toInt32) &&& (1 : Int32)) = (0 : Int32) then q3 else q2))])) by
    by_cases hc19_5 : (((p6.toUInt32 >>> ((1 : Int32) &&& 31).toUInt32).toInt32) &&& (1 : Int32)) = (0 : Int32)
    · refine Go.st (fun U hr => XS.ifYes X3.here hx rfl (pc0 := 19) (pc' := 26) rfl (hb hby at_19) rfl ((if0 _ _).trans (teq hc19_5).1) (by decide) (by decide) hr) ?_
      show Go p.tables e below _ (T3.setTop (mkF m 26 #[.val (.int p1), .val (.long q2), .second, .val (.long q3), .second, .val (.long q4), .second, .val (.long q5), .second, .val (.int p6), .val (.ref b1), .unset, .unset, .unset, .unset, .unset, .unset, .unset, .unset, .unset, .unset, .unset, .unset] []))
      refine Go.st (fun U hr => XS.lloadN X3.here hx rfl (hb hby at_26) rfl hr) ?_
      show Go p.tables e below _ (T3.setTop (mkF m 27 #[.val (.int p1), .val (.long q2), .second, .val (.long q3), .second, .val (.long q4), .second, .val (.long q5), .second, .val (.int p6), .val (.ref b1), .unset, .unset, .unset, .unset, .unset, .unset, .unset, .unset, .unset, .unset, .unset, .unset] [(.long q3)]))
      simpa only [if_pos hc19_5] using hj19_5
    · refine Go.st (fun U hr => XS.ifNo X3.here hx rfl (hb hby at_19) rfl ((if0 _ _).trans (feq hc19_5).1) hr) ?_
      show Go p.tables e below _ (T3.setTop (mkF m 22 #[.val (.int p1), .val (.long q2), .second, .val (.long q3), .second, .val (.long q4), .second, .val (.long q5), .second, .val (.int p6), .val (.ref b1), .unset, .unset, .unset, .unset, .unset, .unset, .unset, .unset, .unset, .unset, .unset, .unset] []))
      refine Go.st (fun U hr => XS.lloadN X3.here hx rfl (hb hby at_22) rfl hr) ?_
      show Go p.tables e below _ (T3.setTop (mkF m 23 #[.val (.int p1), .val (.long q2), .second, .val (.long q3), .second, .val (.long q4), .second, .val (.long q5), .second, .val (.int p6), .val (.ref b1), .unset, .unset, .unset, .unset, .unset, .unset, .unset, .unset, .unset, .unset, .unset, .unset] [(.long q2)]))
      refine Go.st (fun U hr => XS.goto X3.here hx rfl (pc0 := 23) (pc' := 27) rfl (hb hby at_23) (by decide) (by decide) hr) ?_
      show Go p.tables e below _ (T3.setTop (mkF m 27 #[.val (.int p1), .val (.long q2), .second, .val (.long q3), .second, .val (.long q4), .second, .val (.long q5), .second, .val (.int p6), .val (.ref b1), .unset, .unset, .unset, .unset, .unset, .unset, .unset, .unset, .unset, .unset, .unset, .unset] [(.long q2)]))
      simpa only [if_neg hc19_5] using hj19_5
  generalize h_kb : (if (((p6.toUInt32 >>> ((1 : Int32) &&& 31).toUInt32).toInt32) &&& (1 : Int32)) = (0 : Int32) then q3 else q2) = kb
  refine Go.st (fun U hr => XS.lstore X3.here hx rfl (hb hby at_27) rfl (l' := #[.val (.int p1), .val (.long q2), .second, .val (.long q3), .second, .val (.long q4), .second, .val (.long q5), .second, .val (.int p6), .val (.ref b1), .val (.long kb), .second, .unset, .unset, .unset, .unset, .unset, .unset, .unset, .unset, .unset, .unset]) rfl hr) ?_
  show Go p.tables e below _ (T3.setTop (mkF m 29 #[.val (.int p1), .val (.long q2), .second, .val (.long q3), .second, .val (.long q4), .second, .val (.long q5), .second, .val (.int p6), .val (.ref b1), .val (.long kb), .second, .unset, .unset, .unset, .unset, .unset, .unset, .unset, .unset, .unset, .unset] []))
  refine Go.st (fun U hr => XS.iload X3.here hx rfl (hb hby at_29) rfl hr) ?_
  show Go p.tables e below _ (T3.setTop (mkF m 31 #[.val (.int p1), .val (.long q2), .second, .val (.long q3), .second, .val (.long q4), .second, .val (.long q5), .second, .val (.int p6), .val (.ref b1), .val (.long kb), .second, .unset, .unset, .unset, .unset, .unset, .unset, .unset, .unset, .unset, .unset] [(.int p6)]))
  refine Go.st (fun U hr => XS.iconst X3.here hx rfl (hb hby at_31) hr) ?_
  show Go p.tables e below _ (T3.setTop (mkF m 32 #[.val (.int p1), .val (.long q2), .second, .val (.long q3), .second, .val (.long q4), .second, .val (.long q5), .second, .val (.int p6), .val (.ref b1), .val (.long kb), .second, .unset, .unset, .unset, .unset, .unset, .unset, .unset, .unset, .unset, .unset] [(.int (2 : Int32)), (.int p6)]))
  refine Go.st (fun U hr => XS.iushr X3.here hx rfl (hb hby at_32) rfl hr) ?_
  show Go p.tables e below _ (T3.setTop (mkF m 33 #[.val (.int p1), .val (.long q2), .second, .val (.long q3), .second, .val (.long q4), .second, .val (.long q5), .second, .val (.int p6), .val (.ref b1), .val (.long kb), .second, .unset, .unset, .unset, .unset, .unset, .unset, .unset, .unset, .unset, .unset] [(.int ((p6.toUInt32 >>> ((2 : Int32) &&& 31).toUInt32).toInt32))]))
  refine Go.st (fun U hr => XS.iconst X3.here hx rfl (hb hby at_33) hr) ?_
  show Go p.tables e below _ (T3.setTop (mkF m 34 #[.val (.int p1), .val (.long q2), .second, .val (.long q3), .second, .val (.long q4), .second, .val (.long q5), .second, .val (.int p6), .val (.ref b1), .val (.long kb), .second, .unset, .unset, .unset, .unset, .unset, .unset, .unset, .unset, .unset, .unset] [(.int (3 : Int32)), (.int ((p6.toUInt32 >>> ((2 : Int32) &&& 31).toUInt32).toInt32))]))
  refine Go.st (fun U hr => XS.iand X3.here hx rfl (hb hby at_34) rfl hr) ?_
  show Go p.tables e below _ (T3.setTop (mkF m 35 #[.val (.int p1), .val (.long q2), .second, .val (.long q3), .second, .val (.long q4), .second, .val (.long q5), .second, .val (.int p6), .val (.ref b1), .val (.long kb), .second, .unset, .unset, .unset, .unset, .unset, .unset, .unset, .unset, .unset, .unset] [(.int (((p6.toUInt32 >>> ((2 : Int32) &&& 31).toUInt32).toInt32) &&& (3 : Int32)))]))
  refine Go.st (fun U hr => XS.istore X3.here hx rfl (hb hby at_35) rfl (l' := #[.val (.int p1), .val (.long q2), .second, .val (.long q3), .second, .val (.long q4), .second, .val (.long q5), .second, .val (.int p6), .val (.ref b1), .val (.long kb), .second, .val (.int (((p6.toUInt32 >>> ((2 : Int32) &&& 31).toUInt32).toInt32) &&& (3 : Int32))), .unset, .unset, .unset, .unset, .unset, .unset, .unset, .unset, .unset]) rfl hr) ?_
  show Go p.tables e below _ (T3.setTop (mkF m 37 #[.val (.int p1), .val (.long q2), .second, .val (.long q3), .second, .val (.long q4), .second, .val (.long q5), .second, .val (.int p6), .val (.ref b1), .val (.long kb), .second, .val (.int (((p6.toUInt32 >>> ((2 : Int32) &&& 31).toUInt32).toInt32) &&& (3 : Int32))), .unset, .unset, .unset, .unset, .unset, .unset, .unset, .unset, .unset] []))
  generalize h_cs_ : (((p6.toUInt32 >>> ((2 : Int32) &&& 31).toUInt32).toInt32) &&& (3 : Int32)) = cs_
  refine Go.st (fun U hr => XS.iload X3.here hx rfl (hb hby at_37) rfl hr) ?_
  show Go p.tables e below _ (T3.setTop (mkF m 39 #[.val (.int p1), .val (.long q2), .second, .val (.long q3), .second, .val (.long q4), .second, .val (.long q5), .second, .val (.int p6), .val (.ref b1), .val (.long kb), .second, .val (.int cs_), .unset, .unset, .unset, .unset, .unset, .unset, .unset, .unset, .unset] [(.int cs_)]))
  refine Go.st (fun U hr => XS.iconst X3.here hx rfl (hb hby at_39) hr) ?_
  show Go p.tables e below _ (T3.setTop (mkF m 40 #[.val (.int p1), .val (.long q2), .second, .val (.long q3), .second, .val (.long q4), .second, .val (.long q5), .second, .val (.int p6), .val (.ref b1), .val (.long kb), .second, .val (.int cs_), .unset, .unset, .unset, .unset, .unset, .unset, .unset, .unset, .unset] [(.int (1 : Int32)), (.int cs_)]))
  suffices hj40_6 : Go p.tables e below (own_Fin s below room_1.cells room_1.slots (Q0 Z p1 q2 q3 q4 q5 p6 h0 n0)) (T3.setTop (mkF m 60 #[.val (.int p1), .val (.long q2), .second, .val (.long q3), .second, .val (.long q4), .second, .val (.long q5), .second, .val (.int p6), .val (.ref b1), .val (.long kb), .second, .val (.int cs_), .unset, .unset, .unset, .unset, .unset, .unset, .unset, .unset, .unset] [(.long (if cs_ = (1 : Int32) then q2 else (if cs_ = (2 : Int32) then kb else q4)))])) by
    by_cases hc40_6 : cs_ = (1 : Int32)
    · refine Go.st (fun U hr => XS.icmpNo X3.here hx rfl (hb hby at_40) rfl (teq hc40_6).2 hr) ?_
      show Go p.tables e below _ (T3.setTop (mkF m 43 #[.val (.int p1), .val (.long q2), .second, .val (.long q3), .second, .val (.long q4), .second, .val (.long q5), .second, .val (.int p6), .val (.ref b1), .val (.long kb), .second, .val (.int cs_), .unset, .unset, .unset, .unset, .unset, .unset, .unset, .unset, .unset] []))
      refine Go.st (fun U hr => XS.lloadN X3.here hx rfl (hb hby at_43) rfl hr) ?_
      show Go p.tables e below _ (T3.setTop (mkF m 44 #[.val (.int p1), .val (.long q2), .second, .val (.long q3), .second, .val (.long q4), .second, .val (.long q5), .second, .val (.int p6), .val (.ref b1), .val (.long kb), .second, .val (.int cs_), .unset, .unset, .unset, .unset, .unset, .unset, .unset, .unset, .unset] [(.long q2)]))
      refine Go.st (fun U hr => XS.goto X3.here hx rfl (pc0 := 44) (pc' := 60) rfl (hb hby at_44) (by decide) (by decide) hr) ?_
      show Go p.tables e below _ (T3.setTop (mkF m 60 #[.val (.int p1), .val (.long q2), .second, .val (.long q3), .second, .val (.long q4), .second, .val (.long q5), .second, .val (.int p6), .val (.ref b1), .val (.long kb), .second, .val (.int cs_), .unset, .unset, .unset, .unset, .unset, .unset, .unset, .unset, .unset] [(.long q2)]))
      simpa only [if_pos hc40_6] using hj40_6
    · refine Go.st (fun U hr => XS.icmpYes X3.here hx rfl (pc0 := 40) (pc' := 47) rfl (hb hby at_40) rfl (feq hc40_6).2 (by decide) (by decide) hr) ?_
      show Go p.tables e below _ (T3.setTop (mkF m 47 #[.val (.int p1), .val (.long q2), .second, .val (.long q3), .second, .val (.long q4), .second, .val (.long q5), .second, .val (.int p6), .val (.ref b1), .val (.long kb), .second, .val (.int cs_), .unset, .unset, .unset, .unset, .unset, .unset, .unset, .unset, .unset] []))
      refine Go.st (fun U hr => XS.iload X3.here hx rfl (hb hby at_47) rfl hr) ?_
      show Go p.tables e below _ (T3.setTop (mkF m 49 #[.val (.int p1), .val (.long q2), .second, .val (.long q3), .second, .val (.long q4), .second, .val (.long q5), .second, .val (.int p6), .val (.ref b1), .val (.long kb), .second, .val (.int cs_), .unset, .unset, .unset, .unset, .unset, .unset, .unset, .unset, .unset] [(.int cs_)]))
      refine Go.st (fun U hr => XS.iconst X3.here hx rfl (hb hby at_49) hr) ?_
      show Go p.tables e below _ (T3.setTop (mkF m 50 #[.val (.int p1), .val (.long q2), .second, .val (.long q3), .second, .val (.long q4), .second, .val (.long q5), .second, .val (.int p6), .val (.ref b1), .val (.long kb), .second, .val (.int cs_), .unset, .unset, .unset, .unset, .unset, .unset, .unset, .unset, .unset] [(.int (2 : Int32)), (.int cs_)]))
      suffices hj50_7 : Go p.tables e below (own_Fin s below room_1.cells room_1.slots (Q0 Z p1 q2 q3 q4 q5 p6 h0 n0)) (T3.setTop (mkF m 60 #[.val (.int p1), .val (.long q2), .second, .val (.long q3), .second, .val (.long q4), .second, .val (.long q5), .second, .val (.int p6), .val (.ref b1), .val (.long kb), .second, .val (.int cs_), .unset, .unset, .unset, .unset, .unset, .unset, .unset, .unset, .unset] [(.long (if cs_ = (2 : Int32) then kb else q4))])) by
        by_cases hc50_7 : cs_ = (2 : Int32)
        · refine Go.st (fun U hr => XS.icmpNo X3.here hx rfl (hb hby at_50) rfl (teq hc50_7).2 hr) ?_
          show Go p.tables e below _ (T3.setTop (mkF m 53 #[.val (.int p1), .val (.long q2), .second, .val (.long q3), .second, .val (.long q4), .second, .val (.long q5), .second, .val (.int p6), .val (.ref b1), .val (.long kb), .second, .val (.int cs_), .unset, .unset, .unset, .unset, .unset, .unset, .unset, .unset, .unset] []))
          refine Go.st (fun U hr => XS.lload X3.here hx rfl (hb hby at_53) rfl hr) ?_
          show Go p.tables e below _ (T3.setTop (mkF m 55 #[.val (.int p1), .val (.long q2), .second, .val (.long q3), .second, .val (.long q4), .second, .val (.long q5), .second, .val (.int p6), .val (.ref b1), .val (.long kb), .second, .val (.int cs_), .unset, .unset, .unset, .unset, .unset, .unset, .unset, .unset, .unset] [(.long kb)]))
          refine Go.st (fun U hr => XS.goto X3.here hx rfl (pc0 := 55) (pc' := 60) rfl (hb hby at_55) (by decide) (by decide) hr) ?_
          show Go p.tables e below _ (T3.setTop (mkF m 60 #[.val (.int p1), .val (.long q2), .second, .val (.long q3), .second, .val (.long q4), .second, .val (.long q5), .second, .val (.int p6), .val (.ref b1), .val (.long kb), .second, .val (.int cs_), .unset, .unset, .unset, .unset, .unset, .unset, .unset, .unset, .unset] [(.long kb)]))
          simpa only [if_pos hc50_7] using hj50_7
        · refine Go.st (fun U hr => XS.icmpYes X3.here hx rfl (pc0 := 50) (pc' := 58) rfl (hb hby at_50) rfl (feq hc50_7).2 (by decide) (by decide) hr) ?_
          show Go p.tables e below _ (T3.setTop (mkF m 58 #[.val (.int p1), .val (.long q2), .second, .val (.long q3), .second, .val (.long q4), .second, .val (.long q5), .second, .val (.int p6), .val (.ref b1), .val (.long kb), .second, .val (.int cs_), .unset, .unset, .unset, .unset, .unset, .unset, .unset, .unset, .unset] []))
          refine Go.st (fun U hr => XS.lload X3.here hx rfl (hb hby at_58) rfl hr) ?_
          show Go p.tables e below _ (T3.setTop (mkF m 60 #[.val (.int p1), .val (.long q2), .second, .val (.long q3), .second, .val (.long q4), .second, .val (.long q5), .second, .val (.int p6), .val (.ref b1), .val (.long kb), .second, .val (.int cs_), .unset, .unset, .unset, .unset, .unset, .unset, .unset, .unset, .unset] [(.long q4)]))
          simpa only [if_neg hc50_7] using hj50_7
      simpa only [if_neg hc40_6] using hj40_6
  generalize h_kc : (if cs_ = (1 : Int32) then q2 else (if cs_ = (2 : Int32) then kb else q4)) = kc
  refine Go.st (fun U hr => XS.lstore X3.here hx rfl (hb hby at_60) rfl (l' := #[.val (.int p1), .val (.long q2), .second, .val (.long q3), .second, .val (.long q4), .second, .val (.long q5), .second, .val (.int p6), .val (.ref b1), .val (.long kb), .second, .val (.int cs_), .val (.long kc), .second, .unset, .unset, .unset, .unset, .unset, .unset, .unset]) rfl hr) ?_
  show Go p.tables e below _ (T3.setTop (mkF m 62 #[.val (.int p1), .val (.long q2), .second, .val (.long q3), .second, .val (.long q4), .second, .val (.long q5), .second, .val (.int p6), .val (.ref b1), .val (.long kb), .second, .val (.int cs_), .val (.long kc), .second, .unset, .unset, .unset, .unset, .unset, .unset, .unset] []))
  refine Go.st (fun U hr => XS.iload X3.here hx rfl (hb hby at_62) rfl hr) ?_
  show Go p.tables e below _ (T3.setTop (mkF m 64 #[.val (.int p1), .val (.long q2), .second, .val (.long q3), .second, .val (.long q4), .second, .val (.long q5), .second, .val (.int p6), .val (.ref b1), .val (.long kb), .second, .val (.int cs_), .val (.long kc), .second, .unset, .unset, .unset, .unset, .unset, .unset, .unset] [(.int p6)]))
  refine Go.st (fun U hr => XS.iconst X3.here hx rfl (hb hby at_64) hr) ?_
  show Go p.tables e below _ (T3.setTop (mkF m 65 #[.val (.int p1), .val (.long q2), .second, .val (.long q3), .second, .val (.long q4), .second, .val (.long q5), .second, .val (.int p6), .val (.ref b1), .val (.long kb), .second, .val (.int cs_), .val (.long kc), .second, .unset, .unset, .unset, .unset, .unset, .unset, .unset] [(.int (4 : Int32)), (.int p6)]))
  refine Go.st (fun U hr => XS.iushr X3.here hx rfl (hb hby at_65) rfl hr) ?_
  show Go p.tables e below _ (T3.setTop (mkF m 66 #[.val (.int p1), .val (.long q2), .second, .val (.long q3), .second, .val (.long q4), .second, .val (.long q5), .second, .val (.int p6), .val (.ref b1), .val (.long kb), .second, .val (.int cs_), .val (.long kc), .second, .unset, .unset, .unset, .unset, .unset, .unset, .unset] [(.int ((p6.toUInt32 >>> ((4 : Int32) &&& 31).toUInt32).toInt32))]))
  refine Go.st (fun U hr => XS.iconst X3.here hx rfl (hb hby at_66) hr) ?_
  show Go p.tables e below _ (T3.setTop (mkF m 67 #[.val (.int p1), .val (.long q2), .second, .val (.long q3), .second, .val (.long q4), .second, .val (.long q5), .second, .val (.int p6), .val (.ref b1), .val (.long kb), .second, .val (.int cs_), .val (.long kc), .second, .unset, .unset, .unset, .unset, .unset, .unset, .unset] [(.int (3 : Int32)), (.int ((p6.toUInt32 >>> ((4 : Int32) &&& 31).toUInt32).toInt32))]))
  refine Go.st (fun U hr => XS.iand X3.here hx rfl (hb hby at_67) rfl hr) ?_
  show Go p.tables e below _ (T3.setTop (mkF m 68 #[.val (.int p1), .val (.long q2), .second, .val (.long q3), .second, .val (.long q4), .second, .val (.long q5), .second, .val (.int p6), .val (.ref b1), .val (.long kb), .second, .val (.int cs_), .val (.long kc), .second, .unset, .unset, .unset, .unset, .unset, .unset, .unset] [(.int (((p6.toUInt32 >>> ((4 : Int32) &&& 31).toUInt32).toInt32) &&& (3 : Int32)))]))
  refine Go.st (fun U hr => XS.istore X3.here hx rfl (hb hby at_68) rfl (l' := #[.val (.int p1), .val (.long q2), .second, .val (.long q3), .second, .val (.long q4), .second, .val (.long q5), .second, .val (.int p6), .val (.ref b1), .val (.long kb), .second, .val (.int cs_), .val (.long kc), .second, .val (.int (((p6.toUInt32 >>> ((4 : Int32) &&& 31).toUInt32).toInt32) &&& (3 : Int32))), .unset, .unset, .unset, .unset, .unset, .unset]) rfl hr) ?_
  show Go p.tables e below _ (T3.setTop (mkF m 70 #[.val (.int p1), .val (.long q2), .second, .val (.long q3), .second, .val (.long q4), .second, .val (.long q5), .second, .val (.int p6), .val (.ref b1), .val (.long kb), .second, .val (.int cs_), .val (.long kc), .second, .val (.int (((p6.toUInt32 >>> ((4 : Int32) &&& 31).toUInt32).toInt32) &&& (3 : Int32))), .unset, .unset, .unset, .unset, .unset, .unset] []))
  generalize h_qs_ : (((p6.toUInt32 >>> ((4 : Int32) &&& 31).toUInt32).toInt32) &&& (3 : Int32)) = qs_
  refine Go.st (fun U hr => XS.iload X3.here hx rfl (hb hby at_70) rfl hr) ?_
  show Go p.tables e below _ (T3.setTop (mkF m 72 #[.val (.int p1), .val (.long q2), .second, .val (.long q3), .second, .val (.long q4), .second, .val (.long q5), .second, .val (.int p6), .val (.ref b1), .val (.long kb), .second, .val (.int cs_), .val (.long kc), .second, .val (.int qs_), .unset, .unset, .unset, .unset, .unset, .unset] [(.int qs_)]))
  suffices hj72_8 : Go p.tables e below (own_Fin s below room_1.cells room_1.slots (Q0 Z p1 q2 q3 q4 q5 p6 h0 n0)) (T3.setTop (mkF m 103 #[.val (.int p1), .val (.long q2), .second, .val (.long q3), .second, .val (.long q4), .second, .val (.long q5), .second, .val (.int p6), .val (.ref b1), .val (.long kb), .second, .val (.int cs_), .val (.long kc), .second, .val (.int qs_), .unset, .unset, .unset, .unset, .unset, .unset] [(.long (if qs_ = (0 : Int32) then q5 else (if qs_ = (1 : Int32) then q2 else (if qs_ = (2 : Int32) then kb else kc))))])) by
    by_cases hc72_8 : qs_ = (0 : Int32)
    · refine Go.st (fun U hr => XS.ifNo X3.here hx rfl (hb hby at_72) rfl ((if0 _ _).trans (teq hc72_8).2) hr) ?_
      show Go p.tables e below _ (T3.setTop (mkF m 75 #[.val (.int p1), .val (.long q2), .second, .val (.long q3), .second, .val (.long q4), .second, .val (.long q5), .second, .val (.int p6), .val (.ref b1), .val (.long kb), .second, .val (.int cs_), .val (.long kc), .second, .val (.int qs_), .unset, .unset, .unset, .unset, .unset, .unset] []))
      refine Go.st (fun U hr => XS.lload X3.here hx rfl (hb hby at_75) rfl hr) ?_
      show Go p.tables e below _ (T3.setTop (mkF m 77 #[.val (.int p1), .val (.long q2), .second, .val (.long q3), .second, .val (.long q4), .second, .val (.long q5), .second, .val (.int p6), .val (.ref b1), .val (.long kb), .second, .val (.int cs_), .val (.long kc), .second, .val (.int qs_), .unset, .unset, .unset, .unset, .unset, .unset] [(.long q5)]))
      refine Go.st (fun U hr => XS.goto X3.here hx rfl (pc0 := 77) (pc' := 103) rfl (hb hby at_77) (by decide) (by decide) hr) ?_
      show Go p.tables e below _ (T3.setTop (mkF m 103 #[.val (.int p1), .val (.long q2), .second, .val (.long q3), .second, .val (.long q4), .second, .val (.long q5), .second, .val (.int p6), .val (.ref b1), .val (.long kb), .second, .val (.int cs_), .val (.long kc), .second, .val (.int qs_), .unset, .unset, .unset, .unset, .unset, .unset] [(.long q5)]))
      simpa only [if_pos hc72_8] using hj72_8
    · refine Go.st (fun U hr => XS.ifYes X3.here hx rfl (pc0 := 72) (pc' := 80) rfl (hb hby at_72) rfl ((if0 _ _).trans (feq hc72_8).2) (by decide) (by decide) hr) ?_
      show Go p.tables e below _ (T3.setTop (mkF m 80 #[.val (.int p1), .val (.long q2), .second, .val (.long q3), .second, .val (.long q4), .second, .val (.long q5), .second, .val (.int p6), .val (.ref b1), .val (.long kb), .second, .val (.int cs_), .val (.long kc), .second, .val (.int qs_), .unset, .unset, .unset, .unset, .unset, .unset] []))
      refine Go.st (fun U hr => XS.iload X3.here hx rfl (hb hby at_80) rfl hr) ?_
      show Go p.tables e below _ (T3.setTop (mkF m 82 #[.val (.int p1), .val (.long q2), .second, .val (.long q3), .second, .val (.long q4), .second, .val (.long q5), .second, .val (.int p6), .val (.ref b1), .val (.long kb), .second, .val (.int cs_), .val (.long kc), .second, .val (.int qs_), .unset, .unset, .unset, .unset, .unset, .unset] [(.int qs_)]))
      refine Go.st (fun U hr => XS.iconst X3.here hx rfl (hb hby at_82) hr) ?_
      show Go p.tables e below _ (T3.setTop (mkF m 83 #[.val (.int p1), .val (.long q2), .second, .val (.long q3), .second, .val (.long q4), .second, .val (.long q5), .second, .val (.int p6), .val (.ref b1), .val (.long kb), .second, .val (.int cs_), .val (.long kc), .second, .val (.int qs_), .unset, .unset, .unset, .unset, .unset, .unset] [(.int (1 : Int32)), (.int qs_)]))
      suffices hj83_9 : Go p.tables e below (own_Fin s below room_1.cells room_1.slots (Q0 Z p1 q2 q3 q4 q5 p6 h0 n0)) (T3.setTop (mkF m 103 #[.val (.int p1), .val (.long q2), .second, .val (.long q3), .second, .val (.long q4), .second, .val (.long q5), .second, .val (.int p6), .val (.ref b1), .val (.long kb), .second, .val (.int cs_), .val (.long kc), .second, .val (.int qs_), .unset, .unset, .unset, .unset, .unset, .unset] [(.long (if qs_ = (1 : Int32) then q2 else (if qs_ = (2 : Int32) then kb else kc)))])) by
        by_cases hc83_9 : qs_ = (1 : Int32)
        · refine Go.st (fun U hr => XS.icmpNo X3.here hx rfl (hb hby at_83) rfl (teq hc83_9).2 hr) ?_
          show Go p.tables e below _ (T3.setTop (mkF m 86 #[.val (.int p1), .val (.long q2), .second, .val (.long q3), .second, .val (.long q4), .second, .val (.long q5), .second, .val (.int p6), .val (.ref b1), .val (.long kb), .second, .val (.int cs_), .val (.long kc), .second, .val (.int qs_), .unset, .unset, .unset, .unset, .unset, .unset] []))
          refine Go.st (fun U hr => XS.lloadN X3.here hx rfl (hb hby at_86) rfl hr) ?_
          show Go p.tables e below _ (T3.setTop (mkF m 87 #[.val (.int p1), .val (.long q2), .second, .val (.long q3), .second, .val (.long q4), .second, .val (.long q5), .second, .val (.int p6), .val (.ref b1), .val (.long kb), .second, .val (.int cs_), .val (.long kc), .second, .val (.int qs_), .unset, .unset, .unset, .unset, .unset, .unset] [(.long q2)]))
          refine Go.st (fun U hr => XS.goto X3.here hx rfl (pc0 := 87) (pc' := 103) rfl (hb hby at_87) (by decide) (by decide) hr) ?_
          show Go p.tables e below _ (T3.setTop (mkF m 103 #[.val (.int p1), .val (.long q2), .second, .val (.long q3), .second, .val (.long q4), .second, .val (.long q5), .second, .val (.int p6), .val (.ref b1), .val (.long kb), .second, .val (.int cs_), .val (.long kc), .second, .val (.int qs_), .unset, .unset, .unset, .unset, .unset, .unset] [(.long q2)]))
          simpa only [if_pos hc83_9] using hj83_9
        · refine Go.st (fun U hr => XS.icmpYes X3.here hx rfl (pc0 := 83) (pc' := 90) rfl (hb hby at_83) rfl (feq hc83_9).2 (by decide) (by decide) hr) ?_
          show Go p.tables e below _ (T3.setTop (mkF m 90 #[.val (.int p1), .val (.long q2), .second, .val (.long q3), .second, .val (.long q4), .second, .val (.long q5), .second, .val (.int p6), .val (.ref b1), .val (.long kb), .second, .val (.int cs_), .val (.long kc), .second, .val (.int qs_), .unset, .unset, .unset, .unset, .unset, .unset] []))
          refine Go.st (fun U hr => XS.iload X3.here hx rfl (hb hby at_90) rfl hr) ?_
          show Go p.tables e below _ (T3.setTop (mkF m 92 #[.val (.int p1), .val (.long q2), .second, .val (.long q3), .second, .val (.long q4), .second, .val (.long q5), .second, .val (.int p6), .val (.ref b1), .val (.long kb), .second, .val (.int cs_), .val (.long kc), .second, .val (.int qs_), .unset, .unset, .unset, .unset, .unset, .unset] [(.int qs_)]))
          refine Go.st (fun U hr => XS.iconst X3.here hx rfl (hb hby at_92) hr) ?_
          show Go p.tables e below _ (T3.setTop (mkF m 93 #[.val (.int p1), .val (.long q2), .second, .val (.long q3), .second, .val (.long q4), .second, .val (.long q5), .second, .val (.int p6), .val (.ref b1), .val (.long kb), .second, .val (.int cs_), .val (.long kc), .second, .val (.int qs_), .unset, .unset, .unset, .unset, .unset, .unset] [(.int (2 : Int32)), (.int qs_)]))
          suffices hj93_10 : Go p.tables e below (own_Fin s below room_1.cells room_1.slots (Q0 Z p1 q2 q3 q4 q5 p6 h0 n0)) (T3.setTop (mkF m 103 #[.val (.int p1), .val (.long q2), .second, .val (.long q3), .second, .val (.long q4), .second, .val (.long q5), .second, .val (.int p6), .val (.ref b1), .val (.long kb), .second, .val (.int cs_), .val (.long kc), .second, .val (.int qs_), .unset, .unset, .unset, .unset, .unset, .unset] [(.long (if qs_ = (2 : Int32) then kb else kc))])) by
            by_cases hc93_10 : qs_ = (2 : Int32)
            · refine Go.st (fun U hr => XS.icmpNo X3.here hx rfl (hb hby at_93) rfl (teq hc93_10).2 hr) ?_
              show Go p.tables e below _ (T3.setTop (mkF m 96 #[.val (.int p1), .val (.long q2), .second, .val (.long q3), .second, .val (.long q4), .second, .val (.long q5), .second, .val (.int p6), .val (.ref b1), .val (.long kb), .second, .val (.int cs_), .val (.long kc), .second, .val (.int qs_), .unset, .unset, .unset, .unset, .unset, .unset] []))
              refine Go.st (fun U hr => XS.lload X3.here hx rfl (hb hby at_96) rfl hr) ?_
              show Go p.tables e below _ (T3.setTop (mkF m 98 #[.val (.int p1), .val (.long q2), .second, .val (.long q3), .second, .val (.long q4), .second, .val (.long q5), .second, .val (.int p6), .val (.ref b1), .val (.long kb), .second, .val (.int cs_), .val (.long kc), .second, .val (.int qs_), .unset, .unset, .unset, .unset, .unset, .unset] [(.long kb)]))
              refine Go.st (fun U hr => XS.goto X3.here hx rfl (pc0 := 98) (pc' := 103) rfl (hb hby at_98) (by decide) (by decide) hr) ?_
              show Go p.tables e below _ (T3.setTop (mkF m 103 #[.val (.int p1), .val (.long q2), .second, .val (.long q3), .second, .val (.long q4), .second, .val (.long q5), .second, .val (.int p6), .val (.ref b1), .val (.long kb), .second, .val (.int cs_), .val (.long kc), .second, .val (.int qs_), .unset, .unset, .unset, .unset, .unset, .unset] [(.long kb)]))
              simpa only [if_pos hc93_10] using hj93_10
            · refine Go.st (fun U hr => XS.icmpYes X3.here hx rfl (pc0 := 93) (pc' := 101) rfl (hb hby at_93) rfl (feq hc93_10).2 (by decide) (by decide) hr) ?_
              show Go p.tables e below _ (T3.setTop (mkF m 101 #[.val (.int p1), .val (.long q2), .second, .val (.long q3), .second, .val (.long q4), .second, .val (.long q5), .second, .val (.int p6), .val (.ref b1), .val (.long kb), .second, .val (.int cs_), .val (.long kc), .second, .val (.int qs_), .unset, .unset, .unset, .unset, .unset, .unset] []))
              refine Go.st (fun U hr => XS.lload X3.here hx rfl (hb hby at_101) rfl hr) ?_
              show Go p.tables e below _ (T3.setTop (mkF m 103 #[.val (.int p1), .val (.long q2), .second, .val (.long q3), .second, .val (.long q4), .second, .val (.long q5), .second, .val (.int p6), .val (.ref b1), .val (.long kb), .second, .val (.int cs_), .val (.long kc), .second, .val (.int qs_), .unset, .unset, .unset, .unset, .unset, .unset] [(.long kc)]))
              simpa only [if_neg hc93_10] using hj93_10
          simpa only [if_neg hc83_9] using hj83_9
      simpa only [if_neg hc72_8] using hj72_8
  generalize h_kq : (if qs_ = (0 : Int32) then q5 else (if qs_ = (1 : Int32) then q2 else (if qs_ = (2 : Int32) then kb else kc))) = kq
  refine Go.st (fun U hr => XS.lstore X3.here hx rfl (hb hby at_103) rfl (l' := #[.val (.int p1), .val (.long q2), .second, .val (.long q3), .second, .val (.long q4), .second, .val (.long q5), .second, .val (.int p6), .val (.ref b1), .val (.long kb), .second, .val (.int cs_), .val (.long kc), .second, .val (.int qs_), .val (.long kq), .second, .unset, .unset, .unset, .unset]) rfl hr) ?_
  show Go p.tables e below _ (T3.setTop (mkF m 105 #[.val (.int p1), .val (.long q2), .second, .val (.long q3), .second, .val (.long q4), .second, .val (.long q5), .second, .val (.int p6), .val (.ref b1), .val (.long kb), .second, .val (.int cs_), .val (.long kc), .second, .val (.int qs_), .val (.long kq), .second, .unset, .unset, .unset, .unset] []))
  refine Go.st (fun U hr => XS.iload X3.here hx rfl (hb hby at_105) rfl hr) ?_
  show Go p.tables e below _ (T3.setTop (mkF m 107 #[.val (.int p1), .val (.long q2), .second, .val (.long q3), .second, .val (.long q4), .second, .val (.long q5), .second, .val (.int p6), .val (.ref b1), .val (.long kb), .second, .val (.int cs_), .val (.long kc), .second, .val (.int qs_), .val (.long kq), .second, .unset, .unset, .unset, .unset] [(.int p6)]))
  refine Go.st (fun U hr => XS.iconst X3.here hx rfl (hb hby at_107) hr) ?_
  show Go p.tables e below _ (T3.setTop (mkF m 108 #[.val (.int p1), .val (.long q2), .second, .val (.long q3), .second, .val (.long q4), .second, .val (.long q5), .second, .val (.int p6), .val (.ref b1), .val (.long kb), .second, .val (.int cs_), .val (.long kc), .second, .val (.int qs_), .val (.long kq), .second, .unset, .unset, .unset, .unset] [(.int (1 : Int32)), (.int p6)]))
  refine Go.st (fun U hr => XS.iand X3.here hx rfl (hb hby at_108) rfl hr) ?_
  show Go p.tables e below _ (T3.setTop (mkF m 109 #[.val (.int p1), .val (.long q2), .second, .val (.long q3), .second, .val (.long q4), .second, .val (.long q5), .second, .val (.int p6), .val (.ref b1), .val (.long kb), .second, .val (.int cs_), .val (.long kc), .second, .val (.int qs_), .val (.long kq), .second, .unset, .unset, .unset, .unset] [(.int (p6 &&& (1 : Int32)))]))
  suffices hj109_11 : Go p.tables e below (own_Fin s below room_1.cells room_1.slots (Q0 Z p1 q2 q3 q4 q5 p6 h0 n0)) (T3.setTop (mkF m 117 #[.val (.int p1), .val (.long q2), .second, .val (.long q3), .second, .val (.long q4), .second, .val (.long q5), .second, .val (.int p6), .val (.ref b1), .val (.long kb), .second, .val (.int cs_), .val (.long kc), .second, .val (.int qs_), .val (.long kq), .second, .unset, .unset, .unset, .unset] [(.int (if (p6 &&& (1 : Int32)) = (0 : Int32) then (0 : Int32) else (1 : Int32)))])) by
    by_cases hc109_11 : (p6 &&& (1 : Int32)) = (0 : Int32)
    · refine Go.st (fun U hr => XS.ifYes X3.here hx rfl (pc0 := 109) (pc' := 116) rfl (hb hby at_109) rfl ((if0 _ _).trans (teq hc109_11).1) (by decide) (by decide) hr) ?_
      show Go p.tables e below _ (T3.setTop (mkF m 116 #[.val (.int p1), .val (.long q2), .second, .val (.long q3), .second, .val (.long q4), .second, .val (.long q5), .second, .val (.int p6), .val (.ref b1), .val (.long kb), .second, .val (.int cs_), .val (.long kc), .second, .val (.int qs_), .val (.long kq), .second, .unset, .unset, .unset, .unset] []))
      refine Go.st (fun U hr => XS.iconst X3.here hx rfl (hb hby at_116) hr) ?_
      show Go p.tables e below _ (T3.setTop (mkF m 117 #[.val (.int p1), .val (.long q2), .second, .val (.long q3), .second, .val (.long q4), .second, .val (.long q5), .second, .val (.int p6), .val (.ref b1), .val (.long kb), .second, .val (.int cs_), .val (.long kc), .second, .val (.int qs_), .val (.long kq), .second, .unset, .unset, .unset, .unset] [(.int (0 : Int32))]))
      simpa only [if_pos hc109_11] using hj109_11
    · refine Go.st (fun U hr => XS.ifNo X3.here hx rfl (hb hby at_109) rfl ((if0 _ _).trans (feq hc109_11).1) hr) ?_
      show Go p.tables e below _ (T3.setTop (mkF m 112 #[.val (.int p1), .val (.long q2), .second, .val (.long q3), .second, .val (.long q4), .second, .val (.long q5), .second, .val (.int p6), .val (.ref b1), .val (.long kb), .second, .val (.int cs_), .val (.long kc), .second, .val (.int qs_), .val (.long kq), .second, .unset, .unset, .unset, .unset] []))
      refine Go.st (fun U hr => XS.iconst X3.here hx rfl (hb hby at_112) hr) ?_
      show Go p.tables e below _ (T3.setTop (mkF m 113 #[.val (.int p1), .val (.long q2), .second, .val (.long q3), .second, .val (.long q4), .second, .val (.long q5), .second, .val (.int p6), .val (.ref b1), .val (.long kb), .second, .val (.int cs_), .val (.long kc), .second, .val (.int qs_), .val (.long kq), .second, .unset, .unset, .unset, .unset] [(.int (1 : Int32))]))
      refine Go.st (fun U hr => XS.goto X3.here hx rfl (pc0 := 113) (pc' := 117) rfl (hb hby at_113) (by decide) (by decide) hr) ?_
      show Go p.tables e below _ (T3.setTop (mkF m 117 #[.val (.int p1), .val (.long q2), .second, .val (.long q3), .second, .val (.long q4), .second, .val (.long q5), .second, .val (.int p6), .val (.ref b1), .val (.long kb), .second, .val (.int cs_), .val (.long kc), .second, .val (.int qs_), .val (.long kq), .second, .unset, .unset, .unset, .unset] [(.int (1 : Int32))]))
      simpa only [if_neg hc109_11] using hj109_11
  generalize h_tw : (if (p6 &&& (1 : Int32)) = (0 : Int32) then (0 : Int32) else (1 : Int32)) = tw
  refine Go.st (fun U hr => XS.istore X3.here hx rfl (hb hby at_117) rfl (l' := #[.val (.int p1), .val (.long q2), .second, .val (.long q3), .second, .val (.long q4), .second, .val (.long q5), .second, .val (.int p6), .val (.ref b1), .val (.long kb), .second, .val (.int cs_), .val (.long kc), .second, .val (.int qs_), .val (.long kq), .second, .val (.int tw), .unset, .unset, .unset]) rfl hr) ?_
  show Go p.tables e below _ (T3.setTop (mkF m 119 #[.val (.int p1), .val (.long q2), .second, .val (.long q3), .second, .val (.long q4), .second, .val (.long q5), .second, .val (.int p6), .val (.ref b1), .val (.long kb), .second, .val (.int cs_), .val (.long kc), .second, .val (.int qs_), .val (.long kq), .second, .val (.int tw), .unset, .unset, .unset] []))
  refine Go.st (fun U hr => XS.iload X3.here hx rfl (hb hby at_119) rfl hr) ?_
  show Go p.tables e below _ (T3.setTop (mkF m 121 #[.val (.int p1), .val (.long q2), .second, .val (.long q3), .second, .val (.long q4), .second, .val (.long q5), .second, .val (.int p6), .val (.ref b1), .val (.long kb), .second, .val (.int cs_), .val (.long kc), .second, .val (.int qs_), .val (.long kq), .second, .val (.int tw), .unset, .unset, .unset] [(.int p6)]))
  refine Go.st (fun U hr => XS.bipush X3.here hx rfl (hb hby at_121) hr) ?_
  show Go p.tables e below _ (T3.setTop (mkF m 123 #[.val (.int p1), .val (.long q2), .second, .val (.long q3), .second, .val (.long q4), .second, .val (.long q5), .second, .val (.int p6), .val (.ref b1), .val (.long kb), .second, .val (.int cs_), .val (.long kc), .second, .val (.int qs_), .val (.long kq), .second, .val (.int tw), .unset, .unset, .unset] [(.int (6 : Int32)), (.int p6)]))
  refine Go.st (fun U hr => XS.iushr X3.here hx rfl (hb hby at_123) rfl hr) ?_
  show Go p.tables e below _ (T3.setTop (mkF m 124 #[.val (.int p1), .val (.long q2), .second, .val (.long q3), .second, .val (.long q4), .second, .val (.long q5), .second, .val (.int p6), .val (.ref b1), .val (.long kb), .second, .val (.int cs_), .val (.long kc), .second, .val (.int qs_), .val (.long kq), .second, .val (.int tw), .unset, .unset, .unset] [(.int ((p6.toUInt32 >>> ((6 : Int32) &&& 31).toUInt32).toInt32))]))
  refine Go.st (fun U hr => XS.iconst X3.here hx rfl (hb hby at_124) hr) ?_
  show Go p.tables e below _ (T3.setTop (mkF m 125 #[.val (.int p1), .val (.long q2), .second, .val (.long q3), .second, .val (.long q4), .second, .val (.long q5), .second, .val (.int p6), .val (.ref b1), .val (.long kb), .second, .val (.int cs_), .val (.long kc), .second, .val (.int qs_), .val (.long kq), .second, .val (.int tw), .unset, .unset, .unset] [(.int (1 : Int32)), (.int ((p6.toUInt32 >>> ((6 : Int32) &&& 31).toUInt32).toInt32))]))
  refine Go.st (fun U hr => XS.iand X3.here hx rfl (hb hby at_125) rfl hr) ?_
  show Go p.tables e below _ (T3.setTop (mkF m 126 #[.val (.int p1), .val (.long q2), .second, .val (.long q3), .second, .val (.long q4), .second, .val (.long q5), .second, .val (.int p6), .val (.ref b1), .val (.long kb), .second, .val (.int cs_), .val (.long kc), .second, .val (.int qs_), .val (.long kq), .second, .val (.int tw), .unset, .unset, .unset] [(.int (((p6.toUInt32 >>> ((6 : Int32) &&& 31).toUInt32).toInt32) &&& (1 : Int32)))]))
  suffices hj126_12 : Go p.tables e below (own_Fin s below room_1.cells room_1.slots (Q0 Z p1 q2 q3 q4 q5 p6 h0 n0)) (T3.setTop (mkF m 134 #[.val (.int p1), .val (.long q2), .second, .val (.long q3), .second, .val (.long q4), .second, .val (.long q5), .second, .val (.int p6), .val (.ref b1), .val (.long kb), .second, .val (.int cs_), .val (.long kc), .second, .val (.int qs_), .val (.long kq), .second, .val (.int tw), .unset, .unset, .unset] [(.int (if (((p6.toUInt32 >>> ((6 : Int32) &&& 31).toUInt32).toInt32) &&& (1 : Int32)) = (0 : Int32) then (0 : Int32) else (1 : Int32)))])) by
    by_cases hc126_12 : (((p6.toUInt32 >>> ((6 : Int32) &&& 31).toUInt32).toInt32) &&& (1 : Int32)) = (0 : Int32)
    · refine Go.st (fun U hr => XS.ifYes X3.here hx rfl (pc0 := 126) (pc' := 133) rfl (hb hby at_126) rfl ((if0 _ _).trans (teq hc126_12).1) (by decide) (by decide) hr) ?_
      show Go p.tables e below _ (T3.setTop (mkF m 133 #[.val (.int p1), .val (.long q2), .second, .val (.long q3), .second, .val (.long q4), .second, .val (.long q5), .second, .val (.int p6), .val (.ref b1), .val (.long kb), .second, .val (.int cs_), .val (.long kc), .second, .val (.int qs_), .val (.long kq), .second, .val (.int tw), .unset, .unset, .unset] []))
      refine Go.st (fun U hr => XS.iconst X3.here hx rfl (hb hby at_133) hr) ?_
      show Go p.tables e below _ (T3.setTop (mkF m 134 #[.val (.int p1), .val (.long q2), .second, .val (.long q3), .second, .val (.long q4), .second, .val (.long q5), .second, .val (.int p6), .val (.ref b1), .val (.long kb), .second, .val (.int cs_), .val (.long kc), .second, .val (.int qs_), .val (.long kq), .second, .val (.int tw), .unset, .unset, .unset] [(.int (0 : Int32))]))
      simpa only [if_pos hc126_12] using hj126_12
    · refine Go.st (fun U hr => XS.ifNo X3.here hx rfl (hb hby at_126) rfl ((if0 _ _).trans (feq hc126_12).1) hr) ?_
      show Go p.tables e below _ (T3.setTop (mkF m 129 #[.val (.int p1), .val (.long q2), .second, .val (.long q3), .second, .val (.long q4), .second, .val (.long q5), .second, .val (.int p6), .val (.ref b1), .val (.long kb), .second, .val (.int cs_), .val (.long kc), .second, .val (.int qs_), .val (.long kq), .second, .val (.int tw), .unset, .unset, .unset] []))
      refine Go.st (fun U hr => XS.iconst X3.here hx rfl (hb hby at_129) hr) ?_
      show Go p.tables e below _ (T3.setTop (mkF m 130 #[.val (.int p1), .val (.long q2), .second, .val (.long q3), .second, .val (.long q4), .second, .val (.long q5), .second, .val (.int p6), .val (.ref b1), .val (.long kb), .second, .val (.int cs_), .val (.long kc), .second, .val (.int qs_), .val (.long kq), .second, .val (.int tw), .unset, .unset, .unset] [(.int (1 : Int32))]))
      refine Go.st (fun U hr => XS.goto X3.here hx rfl (pc0 := 130) (pc' := 134) rfl (hb hby at_130) (by decide) (by decide) hr) ?_
      show Go p.tables e below _ (T3.setTop (mkF m 134 #[.val (.int p1), .val (.long q2), .second, .val (.long q3), .second, .val (.long q4), .second, .val (.long q5), .second, .val (.int p6), .val (.ref b1), .val (.long kb), .second, .val (.int cs_), .val (.long kc), .second, .val (.int qs_), .val (.long kq), .second, .val (.int tw), .unset, .unset, .unset] [(.int (1 : Int32))]))
      simpa only [if_neg hc126_12] using hj126_12
  generalize h_ab : (if (((p6.toUInt32 >>> ((6 : Int32) &&& 31).toUInt32).toInt32) &&& (1 : Int32)) = (0 : Int32) then (0 : Int32) else (1 : Int32)) = ab
  refine Go.st (fun U hr => XS.istore X3.here hx rfl (hb hby at_134) rfl (l' := #[.val (.int p1), .val (.long q2), .second, .val (.long q3), .second, .val (.long q4), .second, .val (.long q5), .second, .val (.int p6), .val (.ref b1), .val (.long kb), .second, .val (.int cs_), .val (.long kc), .second, .val (.int qs_), .val (.long kq), .second, .val (.int tw), .val (.int ab), .unset, .unset]) rfl hr) ?_
  show Go p.tables e below _ (T3.setTop (mkF m 136 #[.val (.int p1), .val (.long q2), .second, .val (.long q3), .second, .val (.long q4), .second, .val (.long q5), .second, .val (.int p6), .val (.ref b1), .val (.long kb), .second, .val (.int cs_), .val (.long kc), .second, .val (.int qs_), .val (.long kq), .second, .val (.int tw), .val (.int ab), .unset, .unset] []))
  refine Go.st (fun U hr => XS.iload X3.here hx rfl (hb hby at_136) rfl hr) ?_
  show Go p.tables e below _ (T3.setTop (mkF m 138 #[.val (.int p1), .val (.long q2), .second, .val (.long q3), .second, .val (.long q4), .second, .val (.long q5), .second, .val (.int p6), .val (.ref b1), .val (.long kb), .second, .val (.int cs_), .val (.long kc), .second, .val (.int qs_), .val (.long kq), .second, .val (.int tw), .val (.int ab), .unset, .unset] [(.int p6)]))
  refine Go.st (fun U hr => XS.bipush X3.here hx rfl (hb hby at_138) hr) ?_
  show Go p.tables e below _ (T3.setTop (mkF m 140 #[.val (.int p1), .val (.long q2), .second, .val (.long q3), .second, .val (.long q4), .second, .val (.long q5), .second, .val (.int p6), .val (.ref b1), .val (.long kb), .second, .val (.int cs_), .val (.long kc), .second, .val (.int qs_), .val (.long kq), .second, .val (.int tw), .val (.int ab), .unset, .unset] [(.int (7 : Int32)), (.int p6)]))
  refine Go.st (fun U hr => XS.iushr X3.here hx rfl (hb hby at_140) rfl hr) ?_
  show Go p.tables e below _ (T3.setTop (mkF m 141 #[.val (.int p1), .val (.long q2), .second, .val (.long q3), .second, .val (.long q4), .second, .val (.long q5), .second, .val (.int p6), .val (.ref b1), .val (.long kb), .second, .val (.int cs_), .val (.long kc), .second, .val (.int qs_), .val (.long kq), .second, .val (.int tw), .val (.int ab), .unset, .unset] [(.int ((p6.toUInt32 >>> ((7 : Int32) &&& 31).toUInt32).toInt32))]))
  refine Go.st (fun U hr => XS.iconst X3.here hx rfl (hb hby at_141) hr) ?_
  show Go p.tables e below _ (T3.setTop (mkF m 142 #[.val (.int p1), .val (.long q2), .second, .val (.long q3), .second, .val (.long q4), .second, .val (.long q5), .second, .val (.int p6), .val (.ref b1), .val (.long kb), .second, .val (.int cs_), .val (.long kc), .second, .val (.int qs_), .val (.long kq), .second, .val (.int tw), .val (.int ab), .unset, .unset] [(.int (1 : Int32)), (.int ((p6.toUInt32 >>> ((7 : Int32) &&& 31).toUInt32).toInt32))]))
  refine Go.st (fun U hr => XS.iand X3.here hx rfl (hb hby at_142) rfl hr) ?_
  show Go p.tables e below _ (T3.setTop (mkF m 143 #[.val (.int p1), .val (.long q2), .second, .val (.long q3), .second, .val (.long q4), .second, .val (.long q5), .second, .val (.int p6), .val (.ref b1), .val (.long kb), .second, .val (.int cs_), .val (.long kc), .second, .val (.int qs_), .val (.long kq), .second, .val (.int tw), .val (.int ab), .unset, .unset] [(.int (((p6.toUInt32 >>> ((7 : Int32) &&& 31).toUInt32).toInt32) &&& (1 : Int32)))]))
  suffices hj143_13 : Go p.tables e below (own_Fin s below room_1.cells room_1.slots (Q0 Z p1 q2 q3 q4 q5 p6 h0 n0)) (T3.setTop (mkF m 151 #[.val (.int p1), .val (.long q2), .second, .val (.long q3), .second, .val (.long q4), .second, .val (.long q5), .second, .val (.int p6), .val (.ref b1), .val (.long kb), .second, .val (.int cs_), .val (.long kc), .second, .val (.int qs_), .val (.long kq), .second, .val (.int tw), .val (.int ab), .unset, .unset] [(.int (if (((p6.toUInt32 >>> ((7 : Int32) &&& 31).toUInt32).toInt32) &&& (1 : Int32)) = (0 : Int32) then (0 : Int32) else (1 : Int32)))])) by
    by_cases hc143_13 : (((p6.toUInt32 >>> ((7 : Int32) &&& 31).toUInt32).toInt32) &&& (1 : Int32)) = (0 : Int32)
    · refine Go.st (fun U hr => XS.ifYes X3.here hx rfl (pc0 := 143) (pc' := 150) rfl (hb hby at_143) rfl ((if0 _ _).trans (teq hc143_13).1) (by decide) (by decide) hr) ?_
      show Go p.tables e below _ (T3.setTop (mkF m 150 #[.val (.int p1), .val (.long q2), .second, .val (.long q3), .second, .val (.long q4), .second, .val (.long q5), .second, .val (.int p6), .val (.ref b1), .val (.long kb), .second, .val (.int cs_), .val (.long kc), .second, .val (.int qs_), .val (.long kq), .second, .val (.int tw), .val (.int ab), .unset, .unset] []))
      refine Go.st (fun U hr => XS.iconst X3.here hx rfl (hb hby at_150) hr) ?_
      show Go p.tables e below _ (T3.setTop (mkF m 151 #[.val (.int p1), .val (.long q2), .second, .val (.long q3), .second, .val (.long q4), .second, .val (.long q5), .second, .val (.int p6), .val (.ref b1), .val (.long kb), .second, .val (.int cs_), .val (.long kc), .second, .val (.int qs_), .val (.long kq), .second, .val (.int tw), .val (.int ab), .unset, .unset] [(.int (0 : Int32))]))
      simpa only [if_pos hc143_13] using hj143_13
    · refine Go.st (fun U hr => XS.ifNo X3.here hx rfl (hb hby at_143) rfl ((if0 _ _).trans (feq hc143_13).1) hr) ?_
      show Go p.tables e below _ (T3.setTop (mkF m 146 #[.val (.int p1), .val (.long q2), .second, .val (.long q3), .second, .val (.long q4), .second, .val (.long q5), .second, .val (.int p6), .val (.ref b1), .val (.long kb), .second, .val (.int cs_), .val (.long kc), .second, .val (.int qs_), .val (.long kq), .second, .val (.int tw), .val (.int ab), .unset, .unset] []))
      refine Go.st (fun U hr => XS.iconst X3.here hx rfl (hb hby at_146) hr) ?_
      show Go p.tables e below _ (T3.setTop (mkF m 147 #[.val (.int p1), .val (.long q2), .second, .val (.long q3), .second, .val (.long q4), .second, .val (.long q5), .second, .val (.int p6), .val (.ref b1), .val (.long kb), .second, .val (.int cs_), .val (.long kc), .second, .val (.int qs_), .val (.long kq), .second, .val (.int tw), .val (.int ab), .unset, .unset] [(.int (1 : Int32))]))
      refine Go.st (fun U hr => XS.goto X3.here hx rfl (pc0 := 147) (pc' := 151) rfl (hb hby at_147) (by decide) (by decide) hr) ?_
      show Go p.tables e below _ (T3.setTop (mkF m 151 #[.val (.int p1), .val (.long q2), .second, .val (.long q3), .second, .val (.long q4), .second, .val (.long q5), .second, .val (.int p6), .val (.ref b1), .val (.long kb), .second, .val (.int cs_), .val (.long kc), .second, .val (.int qs_), .val (.long kq), .second, .val (.int tw), .val (.int ab), .unset, .unset] [(.int (1 : Int32))]))
      simpa only [if_neg hc143_13] using hj143_13
  generalize h_ac : (if (((p6.toUInt32 >>> ((7 : Int32) &&& 31).toUInt32).toInt32) &&& (1 : Int32)) = (0 : Int32) then (0 : Int32) else (1 : Int32)) = ac
  refine Go.st (fun U hr => XS.istore X3.here hx rfl (hb hby at_151) rfl (l' := #[.val (.int p1), .val (.long q2), .second, .val (.long q3), .second, .val (.long q4), .second, .val (.long q5), .second, .val (.int p6), .val (.ref b1), .val (.long kb), .second, .val (.int cs_), .val (.long kc), .second, .val (.int qs_), .val (.long kq), .second, .val (.int tw), .val (.int ab), .val (.int ac), .unset]) rfl hr) ?_
  show Go p.tables e below _ (T3.setTop (mkF m 153 #[.val (.int p1), .val (.long q2), .second, .val (.long q3), .second, .val (.long q4), .second, .val (.long q5), .second, .val (.int p6), .val (.ref b1), .val (.long kb), .second, .val (.int cs_), .val (.long kc), .second, .val (.int qs_), .val (.long kq), .second, .val (.int tw), .val (.int ab), .val (.int ac), .unset] []))
  have hM0 : ∀ k : Int64, 0 ≤ (fun _ => (0 : Int)) k ∧ (fun _ => (0 : Int)) k ≤ 100 := fun _ => ⟨Int.le_refl 0, by show (0 : Int) ≤ 100; decide⟩
  refine Go.st (fun U hr => XS.aload X3.here hx rfl (hb hby at_153) rfl rfl hr) ?_
  show Go p.tables e below _ (T3.setTop (mkF m 155 #[.val (.int p1), .val (.long q2), .second, .val (.long q3), .second, .val (.long q4), .second, .val (.long q5), .second, .val (.int p6), .val (.ref b1), .val (.long kb), .second, .val (.int cs_), .val (.long kc), .second, .val (.int qs_), .val (.long kq), .second, .val (.int tw), .val (.int ab), .val (.int ac), .unset] [(.ref b1)]))
  refine Go.st (fun U hr => XS.lloadN X3.here hx rfl (hb hby at_155) rfl hr) ?_
  show Go p.tables e below _ (T3.setTop (mkF m 156 #[.val (.int p1), .val (.long q2), .second, .val (.long q3), .second, .val (.long q4), .second, .val (.long q5), .second, .val (.int p6), .val (.ref b1), .val (.long kb), .second, .val (.int cs_), .val (.long kc), .second, .val (.int qs_), .val (.long kq), .second, .val (.int tw), .val (.int ab), .val (.int ac), .unset] [(.long q2), (.ref b1)]))
  obtain ⟨cq14, kq14, q14a, q14b, q14c⟩ := isOf hZ rfl (own_TBE TB3)
  obtain ⟨_, _, ⟨T14, L14, k14, n14⟩, -, X14, ⟨Lc14, hQ14, l14, y14, z14⟩, st14⟩ := X3.virtualBack hx (y := (⟨"com/example/rigorous_layout/rigorouslayout/Tally", "add", "(J)I"⟩ : MethodName)) (z := (⟨"com/example/rigorous_layout/rigorouslayout/Tally", "add", "(J)I"⟩ : MethodName)) hown (mvT hZ (hw _ (List.mem_of_getElem? (i := 32) rfl))) (mvT hZ (hw _ (List.mem_of_getElem? (i := 33) rfl))) (notFace_of_selects (args := #[]) (mvT hZ (hw _ (List.mem_of_getElem? (i := 35) rfl)))) (mvT hZ (hw _ (List.mem_of_getElem? (i := 35) rfl))) (mvT hZ (hw _ (List.mem_of_getElem? (i := 34) rfl))) (by decide) (backOf (W := 0) (rm7 l Z a0 hw [] b1 q2 (fun _ => (0 : Int)) 0 T3.heap n0 z4 TB3 gb1 (by decide) hM0) hZ (hw _ (List.mem_of_getElem? (i := 36) rfl)) (hw _ (List.mem_of_getElem? (i := 2) rfl)) (by decide) (by decide)) q14a q14c (g := (mkF m 156 #[.val (.int p1), .val (.long q2), .second, .val (.long q3), .second, .val (.long q4), .second, .val (.long q5), .second, .val (.int p6), .val (.ref b1), .val (.long kb), .second, .val (.int cs_), .val (.long kc), .second, .val (.int qs_), .val (.long kq), .second, .val (.int tw), .val (.int ab), .val (.int ac), .unset] [(.long q2), (.ref b1)])) rfl (by rw [hml]; rfl) (Steps.refl _) (argsL := [(.long q2)]) (rest := []) (lenOf pd_6 rfl) rfl (by show 2 * 0 + _ ≤ _; exact Nat.le_of_eq rfl) (hb hby at_156) (fun _ _ => ⟨rfl, rfl, (by decide : 3 + 2 ≤ _), (by decide : 35 + 16 ≤ _)⟩)
  dsimp only [Pt.U, Pt.locs, Pt.cells, Pt.slots] at X14 l14 y14 z14 st14 hQ14
  subst l14 y14 z14
  obtain ⟨r14, rfl, Nq14, Sq14, TB14⟩ := hQ14
  have N14 := Fr.app N3 Nq14
  refine Go.tr st14 ?_
  show Go p.tables e below _ (T14.setTop (mkF m 159 #[.val (.int p1), .val (.long q2), .second, .val (.long q3), .second, .val (.long q4), .second, .val (.long q5), .second, .val (.int p6), .val (.ref b1), .val (.long kb), .second, .val (.int cs_), .val (.long kc), .second, .val (.int qs_), .val (.long kq), .second, .val (.int tw), .val (.int ab), .val (.int ac), .unset] [(.int r14)]))
  have z15 := Nat.le_trans z4 Sq14
  refine Go.st (fun U hr => XS.pop X14.here hx rfl (hb hby at_159) rfl rfl hr) ?_
  show Go p.tables e below _ (T14.setTop (mkF m 160 #[.val (.int p1), .val (.long q2), .second, .val (.long q3), .second, .val (.long q4), .second, .val (.long q5), .second, .val (.int p6), .val (.ref b1), .val (.long kb), .second, .val (.int cs_), .val (.long kc), .second, .val (.int qs_), .val (.long kq), .second, .val (.int tw), .val (.int ab), .val (.int ac), .unset] []))
  have hMb0 : ∀ k, 0 ≤ (fun k => if k = q2 then (fun _ => (0 : Int)) k + 1 else (fun _ => (0 : Int)) k) k ∧ (fun k => if k = q2 then (fun _ => (0 : Int)) k + 1 else (fun _ => (0 : Int)) k) k ≤ 1 := fun k => by dsimp only; split <;> decide
  have hM1 : ∀ k, 0 ≤ (fun k => if k = q2 then (fun _ => (0 : Int)) k + 1 else (fun _ => (0 : Int)) k) k ∧ (fun k => if k = q2 then (fun _ => (0 : Int)) k + 1 else (fun _ => (0 : Int)) k) k ≤ 100 := fun k => by have := hMb0 k; omega
  have k172 : ∀ (Tc : State) (lc : List Loc) (hc : Heap) (Mc : Int64 → Int), Stand p l e room_1 s m #[(.int p1), (.long q2), (.long q3), (.long q4), (.long q5), (.int p6)] below meth c Tc lc 7 67 → Tc.heap = hc → Fr n0 lc → n0 ≤ hc.size → own_TB Z hc n0 b1 Mc 2 → (∀ k, 0 ≤ Mc k ∧ Mc k ≤ 2) → Mc kq = (fun k => if k = q2 then (fun _ => (0 : Int)) k + 1 else (fun _ => (0 : Int)) k) kq + (if ¬ tw = 0 ∧ q2 = kq then 1 else 0) → Go p.tables e below (own_Fin s below room_1.cells room_1.slots (Q0 Z p1 q2 q3 q4 q5 p6 h0 n0)) (Tc.setTop (mkF m 172 #[.val (.int p1), .val (.long q2), .second, .val (.long q3), .second, .val (.long q4), .second, .val (.long q5), .second, .val (.int p6), .val (.ref b1), .val (.long kb), .second, .val (.int cs_), .val (.long kc), .second, .val (.int qs_), .val (.long kq), .second, .val (.int tw), .val (.int ab), .val (.int ac), .unset] [])) := by
    intro Tc1 lc1 hc1 Mc1 Xc1 ec1 Nc1 zc1 TBc1 hMb1 hMq1
    have hMc1 : ∀ k, 0 ≤ Mc1 k ∧ Mc1 k ≤ 100 := fun k => by have := hMb1 k; omega
    show Go p.tables e below _ (Tc1.setTop (mkF m 172 #[.val (.int p1), .val (.long q2), .second, .val (.long q3), .second, .val (.long q4), .second, .val (.long q5), .second, .val (.int p6), .val (.ref b1), .val (.long kb), .second, .val (.int cs_), .val (.long kc), .second, .val (.int qs_), .val (.long kq), .second, .val (.int tw), .val (.int ab), .val (.int ac), .unset] []))
    have k185 : ∀ (Tc : State) (lc : List Loc) (hc : Heap) (Mc : Int64 → Int), Stand p l e room_1 s m #[(.int p1), (.long q2), (.long q3), (.long q4), (.long q5), (.int p6)] below meth c Tc lc 9 83 → Tc.heap = hc → Fr n0 lc → n0 ≤ hc.size → own_TB Z hc n0 b1 Mc 3 → (∀ k, 0 ≤ Mc k ∧ Mc k ≤ 3) → Mc kq = Mc1 kq + (if ¬ ab = 0 ∧ kb = kq then 1 else 0) → Go p.tables e below (own_Fin s below room_1.cells room_1.slots (Q0 Z p1 q2 q3 q4 q5 p6 h0 n0)) (Tc.setTop (mkF m 185 #[.val (.int p1), .val (.long q2), .second, .val (.long q3), .second, .val (.long q4), .second, .val (.long q5), .second, .val (.int p6), .val (.ref b1), .val (.long kb), .second, .val (.int cs_), .val (.long kc), .second, .val (.int qs_), .val (.long kq), .second, .val (.int tw), .val (.int ab), .val (.int ac), .unset] [])) := by
      intro Tc2 lc2 hc2 Mc2 Xc2 ec2 Nc2 zc2 TBc2 hMb2 hMq2
      have hMc2 : ∀ k, 0 ≤ Mc2 k ∧ Mc2 k ≤ 100 := fun k => by have := hMb2 k; omega
      show Go p.tables e below _ (Tc2.setTop (mkF m 185 #[.val (.int p1), .val (.long q2), .second, .val (.long q3), .second, .val (.long q4), .second, .val (.long q5), .second, .val (.int p6), .val (.ref b1), .val (.long kb), .second, .val (.int cs_), .val (.long kc), .second, .val (.int qs_), .val (.long kq), .second, .val (.int tw), .val (.int ab), .val (.int ac), .unset] []))
      have k198 : ∀ (Tc : State) (lc : List Loc) (hc : Heap) (Mc : Int64 → Int), Stand p l e room_1 s m #[(.int p1), (.long q2), (.long q3), (.long q4), (.long q5), (.int p6)] below meth c Tc lc 11 99 → Tc.heap = hc → Fr n0 lc → n0 ≤ hc.size → own_TB Z hc n0 b1 Mc 4 → (∀ k, 0 ≤ Mc k ∧ Mc k ≤ 4) → Mc kq = Mc2 kq + (if ¬ ac = 0 ∧ kc = kq then 1 else 0) → Go p.tables e below (own_Fin s below room_1.cells room_1.slots (Q0 Z p1 q2 q3 q4 q5 p6 h0 n0)) (Tc.setTop (mkF m 198 #[.val (.int p1), .val (.long q2), .second, .val (.long q3), .second, .val (.long q4), .second, .val (.long q5), .second, .val (.int p6), .val (.ref b1), .val (.long kb), .second, .val (.int cs_), .val (.long kc), .second, .val (.int qs_), .val (.long kq), .second, .val (.int tw), .val (.int ab), .val (.int ac), .unset] [])) := by
        intro Tc3 lc3 hc3 Mc3 Xc3 ec3 Nc3 zc3 TBc3 hMb3 hMq3
        have hMc3 : ∀ k, 0 ≤ Mc3 k ∧ Mc3 k ≤ 100 := fun k => by have := hMb3 k; omega
        show Go p.tables e below _ (Tc3.setTop (mkF m 198 #[.val (.int p1), .val (.long q2), .second, .val (.long q3), .second, .val (.long q4), .second, .val (.long q5), .second, .val (.int p6), .val (.ref b1), .val (.long kb), .second, .val (.int cs_), .val (.long kc), .second, .val (.int qs_), .val (.long kq), .second, .val (.int tw), .val (.int ab), .val (.int ac), .unset] []))
        refine Go.st (fun U hr => XS.lloadN Xc3.here hx rfl (hb hby at_198) rfl hr) ?_
        show Go p.tables e below _ (Tc3.setTop (mkF m 199 #[.val (.int p1), .val (.long q2), .second, .val (.long q3), .second, .val (.long q4), .second, .val (.long q5), .second, .val (.int p6), .val (.ref b1), .val (.long kb), .second, .val (.int cs_), .val (.long kc), .second, .val (.int qs_), .val (.long kq), .second, .val (.int tw), .val (.int ab), .val (.int ac), .unset] [(.long q2)]))
        refine Go.st (fun U hr => XS.lload Xc3.here hx rfl (hb hby at_199) rfl hr) ?_
        show Go p.tables e below _ (Tc3.setTop (mkF m 201 #[.val (.int p1), .val (.long q2), .second, .val (.long q3), .second, .val (.long q4), .second, .val (.long q5), .second, .val (.int p6), .val (.ref b1), .val (.long kb), .second, .val (.int cs_), .val (.long kc), .second, .val (.int qs_), .val (.long kq), .second, .val (.int tw), .val (.int ab), .val (.int ac), .unset] [(.long kq), (.long q2)]))
        refine Go.st (fun U hr => XS.lcmp Xc3.here hx rfl (hb hby at_201) rfl hr) ?_
        show Go p.tables e below _ (Tc3.setTop (mkF m 202 #[.val (.int p1), .val (.long q2), .second, .val (.long q3), .second, .val (.long q4), .second, .val (.long q5), .second, .val (.int p6), .val (.ref b1), .val (.long kb), .second, .val (.int cs_), .val (.long kc), .second, .val (.int qs_), .val (.long kq), .second, .val (.int tw), .val (.int ab), .val (.int ac), .unset] [(.int (lcmpW q2 kq))]))
        suffices hj202_16 : Go p.tables e below (own_Fin s below room_1.cells room_1.slots (Q0 Z p1 q2 q3 q4 q5 p6 h0 n0)) (Tc3.setTop (mkF m 219 #[.val (.int p1), .val (.long q2), .second, .val (.long q3), .second, .val (.long q4), .second, .val (.long q5), .second, .val (.int p6), .val (.ref b1), .val (.long kb), .second, .val (.int cs_), .val (.long kc), .second, .val (.int qs_), .val (.long kq), .second, .val (.int tw), .val (.int ab), .val (.int ac), .unset] [(.int (if q2 = kq then (if tw = (0 : Int32) then (1 : Int32) else (2 : Int32)) else (0 : Int32)))])) by
          by_cases hc202_16 : q2 = kq
          · refine Go.st (fun U hr => XS.ifNo Xc3.here hx rfl (hb hby at_202) rfl ((if0 _ _).trans (teq ((lw_eq q2 kq).2 hc202_16)).2) hr) ?_
            show Go p.tables e below _ (Tc3.setTop (mkF m 205 #[.val (.int p1), .val (.long q2), .second, .val (.long q3), .second, .val (.long q4), .second, .val (.long q5), .second, .val (.int p6), .val (.ref b1), .val (.long kb), .second, .val (.int cs_), .val (.long kc), .second, .val (.int qs_), .val (.long kq), .second, .val (.int tw), .val (.int ab), .val (.int ac), .unset] []))
            refine Go.st (fun U hr => XS.iload Xc3.here hx rfl (hb hby at_205) rfl hr) ?_
            show Go p.tables e below _ (Tc3.setTop (mkF m 207 #[.val (.int p1), .val (.long q2), .second, .val (.long q3), .second, .val (.long q4), .second, .val (.long q5), .second, .val (.int p6), .val (.ref b1), .val (.long kb), .second, .val (.int cs_), .val (.long kc), .second, .val (.int qs_), .val (.long kq), .second, .val (.int tw), .val (.int ab), .val (.int ac), .unset] [(.int tw)]))
            suffices hj207_17 : Go p.tables e below (own_Fin s below room_1.cells room_1.slots (Q0 Z p1 q2 q3 q4 q5 p6 h0 n0)) (Tc3.setTop (mkF m 219 #[.val (.int p1), .val (.long q2), .second, .val (.long q3), .second, .val (.long q4), .second, .val (.long q5), .second, .val (.int p6), .val (.ref b1), .val (.long kb), .second, .val (.int cs_), .val (.long kc), .second, .val (.int qs_), .val (.long kq), .second, .val (.int tw), .val (.int ab), .val (.int ac), .unset] [(.int (if tw = (0 : Int32) then (1 : Int32) else (2 : Int32)))])) by
              by_cases hc207_17 : tw = (0 : Int32)
              · refine Go.st (fun U hr => XS.ifYes Xc3.here hx rfl (pc0 := 207) (pc' := 214) rfl (hb hby at_207) rfl ((if0 _ _).trans (teq hc207_17).1) (by decide) (by decide) hr) ?_
                show Go p.tables e below _ (Tc3.setTop (mkF m 214 #[.val (.int p1), .val (.long q2), .second, .val (.long q3), .second, .val (.long q4), .second, .val (.long q5), .second, .val (.int p6), .val (.ref b1), .val (.long kb), .second, .val (.int cs_), .val (.long kc), .second, .val (.int qs_), .val (.long kq), .second, .val (.int tw), .val (.int ab), .val (.int ac), .unset] []))
                refine Go.st (fun U hr => XS.iconst Xc3.here hx rfl (hb hby at_214) hr) ?_
                show Go p.tables e below _ (Tc3.setTop (mkF m 215 #[.val (.int p1), .val (.long q2), .second, .val (.long q3), .second, .val (.long q4), .second, .val (.long q5), .second, .val (.int p6), .val (.ref b1), .val (.long kb), .second, .val (.int cs_), .val (.long kc), .second, .val (.int qs_), .val (.long kq), .second, .val (.int tw), .val (.int ab), .val (.int ac), .unset] [(.int (1 : Int32))]))
                refine Go.st (fun U hr => XS.goto Xc3.here hx rfl (pc0 := 215) (pc' := 219) rfl (hb hby at_215) (by decide) (by decide) hr) ?_
                show Go p.tables e below _ (Tc3.setTop (mkF m 219 #[.val (.int p1), .val (.long q2), .second, .val (.long q3), .second, .val (.long q4), .second, .val (.long q5), .second, .val (.int p6), .val (.ref b1), .val (.long kb), .second, .val (.int cs_), .val (.long kc), .second, .val (.int qs_), .val (.long kq), .second, .val (.int tw), .val (.int ab), .val (.int ac), .unset] [(.int (1 : Int32))]))
                simpa only [if_pos hc207_17] using hj207_17
              · refine Go.st (fun U hr => XS.ifNo Xc3.here hx rfl (hb hby at_207) rfl ((if0 _ _).trans (feq hc207_17).1) hr) ?_
                show Go p.tables e below _ (Tc3.setTop (mkF m 210 #[.val (.int p1), .val (.long q2), .second, .val (.long q3), .second, .val (.long q4), .second, .val (.long q5), .second, .val (.int p6), .val (.ref b1), .val (.long kb), .second, .val (.int cs_), .val (.long kc), .second, .val (.int qs_), .val (.long kq), .second, .val (.int tw), .val (.int ab), .val (.int ac), .unset] []))
                refine Go.st (fun U hr => XS.iconst Xc3.here hx rfl (hb hby at_210) hr) ?_
                show Go p.tables e below _ (Tc3.setTop (mkF m 211 #[.val (.int p1), .val (.long q2), .second, .val (.long q3), .second, .val (.long q4), .second, .val (.long q5), .second, .val (.int p6), .val (.ref b1), .val (.long kb), .second, .val (.int cs_), .val (.long kc), .second, .val (.int qs_), .val (.long kq), .second, .val (.int tw), .val (.int ab), .val (.int ac), .unset] [(.int (2 : Int32))]))
                refine Go.st (fun U hr => XS.goto Xc3.here hx rfl (pc0 := 211) (pc' := 219) rfl (hb hby at_211) (by decide) (by decide) hr) ?_
                show Go p.tables e below _ (Tc3.setTop (mkF m 219 #[.val (.int p1), .val (.long q2), .second, .val (.long q3), .second, .val (.long q4), .second, .val (.long q5), .second, .val (.int p6), .val (.ref b1), .val (.long kb), .second, .val (.int cs_), .val (.long kc), .second, .val (.int qs_), .val (.long kq), .second, .val (.int tw), .val (.int ab), .val (.int ac), .unset] [(.int (2 : Int32))]))
                simpa only [if_neg hc207_17] using hj207_17
            simpa only [if_pos hc202_16] using hj202_16
          · refine Go.st (fun U hr => XS.ifYes Xc3.here hx rfl (pc0 := 202) (pc' := 218) rfl (hb hby at_202) rfl ((if0 _ _).trans (feq (fun q => hc202_16 ((lw_eq q2 kq).1 q))).2) (by decide) (by decide) hr) ?_
            show Go p.tables e below _ (Tc3.setTop (mkF m 218 #[.val (.int p1), .val (.long q2), .second, .val (.long q3), .second, .val (.long q4), .second, .val (.long q5), .second, .val (.int p6), .val (.ref b1), .val (.long kb), .second, .val (.int cs_), .val (.long kc), .second, .val (.int qs_), .val (.long kq), .second, .val (.int tw), .val (.int ab), .val (.int ac), .unset] []))
            refine Go.st (fun U hr => XS.iconst Xc3.here hx rfl (hb hby at_218) hr) ?_
            show Go p.tables e below _ (Tc3.setTop (mkF m 219 #[.val (.int p1), .val (.long q2), .second, .val (.long q3), .second, .val (.long q4), .second, .val (.long q5), .second, .val (.int p6), .val (.ref b1), .val (.long kb), .second, .val (.int cs_), .val (.long kc), .second, .val (.int qs_), .val (.long kq), .second, .val (.int tw), .val (.int ab), .val (.int ac), .unset] [(.int (0 : Int32))]))
            simpa only [if_neg hc202_16] using hj202_16
        refine Go.st (fun U hr => XS.iload Xc3.here hx rfl (hb hby at_219) rfl hr) ?_
        show Go p.tables e below _ (Tc3.setTop (mkF m 221 #[.val (.int p1), .val (.long q2), .second, .val (.long q3), .second, .val (.long q4), .second, .val (.long q5), .second, .val (.int p6), .val (.ref b1), .val (.long kb), .second, .val (.int cs_), .val (.long kc), .second, .val (.int qs_), .val (.long kq), .second, .val (.int tw), .val (.int ab), .val (.int ac), .unset] [(.int ab), (.int (if q2 = kq then (if tw = (0 : Int32) then (1 : Int32) else (2 : Int32)) else (0 : Int32)))]))
        suffices hj221_18 : Go p.tables e below (own_Fin s below room_1.cells room_1.slots (Q0 Z p1 q2 q3 q4 q5 p6 h0 n0)) (Tc3.setTop (mkF m 237 #[.val (.int p1), .val (.long q2), .second, .val (.long q3), .second, .val (.long q4), .second, .val (.long q5), .second, .val (.int p6), .val (.ref b1), .val (.long kb), .second, .val (.int cs_), .val (.long kc), .second, .val (.int qs_), .val (.long kq), .second, .val (.int tw), .val (.int ab), .val (.int ac), .unset] [(.int (if ab = (0 : Int32) then (0 : Int32) else (if kb = kq then (1 : Int32) else (0 : Int32)))), (.int (if q2 = kq then (if tw = (0 : Int32) then (1 : Int32) else (2 : Int32)) else (0 : Int32)))])) by
          by_cases hc221_18 : ab = (0 : Int32)
          · refine Go.st (fun U hr => XS.ifYes Xc3.here hx rfl (pc0 := 221) (pc' := 236) rfl (hb hby at_221) rfl ((if0 _ _).trans (teq hc221_18).1) (by decide) (by decide) hr) ?_
            show Go p.tables e below _ (Tc3.setTop (mkF m 236 #[.val (.int p1), .val (.long q2), .second, .val (.long q3), .second, .val (.long q4), .second, .val (.long q5), .second, .val (.int p6), .val (.ref b1), .val (.long kb), .second, .val (.int cs_), .val (.long kc), .second, .val (.int qs_), .val (.long kq), .second, .val (.int tw), .val (.int ab), .val (.int ac), .unset] [(.int (if q2 = kq then (if tw = (0 : Int32) then (1 : Int32) else (2 : Int32)) else (0 : Int32)))]))
            refine Go.st (fun U hr => XS.iconst Xc3.here hx rfl (hb hby at_236) hr) ?_
            show Go p.tables e below _ (Tc3.setTop (mkF m 237 #[.val (.int p1), .val (.long q2), .second, .val (.long q3), .second, .val (.long q4), .second, .val (.long q5), .second, .val (.int p6), .val (.ref b1), .val (.long kb), .second, .val (.int cs_), .val (.long kc), .second, .val (.int qs_), .val (.long kq), .second, .val (.int tw), .val (.int ab), .val (.int ac), .unset] [(.int (0 : Int32)), (.int (if q2 = kq then (if tw = (0 : Int32) then (1 : Int32) else (2 : Int32)) else (0 : Int32)))]))
            simpa only [if_pos hc221_18] using hj221_18
          · refine Go.st (fun U hr => XS.ifNo Xc3.here hx rfl (hb hby at_221) rfl ((if0 _ _).trans (feq hc221_18).1) hr) ?_
            show Go p.tables e below _ (Tc3.setTop (mkF m 224 #[.val (.int p1), .val (.long q2), .second, .val (.long q3), .second, .val (.long q4), .second, .val (.long q5), .second, .val (.int p6), .val (.ref b1), .val (.long kb), .second, .val (.int cs_), .val (.long kc), .second, .val (.int qs_), .val (.long kq), .second, .val (.int tw), .val (.int ab), .val (.int ac), .unset] [(.int (if q2 = kq then (if tw = (0 : Int32) then (1 : Int32) else (2 : Int32)) else (0 : Int32)))]))
            refine Go.st (fun U hr => XS.lload Xc3.here hx rfl (hb hby at_224) rfl hr) ?_
            show Go p.tables e below _ (Tc3.setTop (mkF m 226 #[.val (.int p1), .val (.long q2), .second, .val (.long q3), .second, .val (.long q4), .second, .val (.long q5), .second, .val (.int p6), .val (.ref b1), .val (.long kb), .second, .val (.int cs_), .val (.long kc), .second, .val (.int qs_), .val (.long kq), .second, .val (.int tw), .val (.int ab), .val (.int ac), .unset] [(.long kb), (.int (if q2 = kq then (if tw = (0 : Int32) then (1 : Int32) else (2 : Int32)) else (0 : Int32)))]))
            refine Go.st (fun U hr => XS.lload Xc3.here hx rfl (hb hby at_226) rfl hr) ?_
            show Go p.tables e below _ (Tc3.setTop (mkF m 228 #[.val (.int p1), .val (.long q2), .second, .val (.long q3), .second, .val (.long q4), .second, .val (.long q5), .second, .val (.int p6), .val (.ref b1), .val (.long kb), .second, .val (.int cs_), .val (.long kc), .second, .val (.int qs_), .val (.long kq), .second, .val (.int tw), .val (.int ab), .val (.int ac), .unset] [(.long kq), (.long kb), (.int (if q2 = kq then (if tw = (0 : Int32) then (1 : Int32) else (2 : Int32)) else (0 : Int32)))]))
            refine Go.st (fun U hr => XS.lcmp Xc3.here hx rfl (hb hby at_228) rfl hr) ?_
            show Go p.tables e below _ (Tc3.setTop (mkF m 229 #[.val (.int p1), .val (.long q2), .second, .val (.long q3), .second, .val (.long q4), .second, .val (.long q5), .second, .val (.int p6), .val (.ref b1), .val (.long kb), .second, .val (.int cs_), .val (.long kc), .second, .val (.int qs_), .val (.long kq), .second, .val (.int tw), .val (.int ab), .val (.int ac), .unset] [(.int (lcmpW kb kq)), (.int (if q2 = kq then (if tw = (0 : Int32) then (1 : Int32) else (2 : Int32)) else (0 : Int32)))]))
            suffices hj229_19 : Go p.tables e below (own_Fin s below room_1.cells room_1.slots (Q0 Z p1 q2 q3 q4 q5 p6 h0 n0)) (Tc3.setTop (mkF m 237 #[.val (.int p1), .val (.long q2), .second, .val (.long q3), .second, .val (.long q4), .second, .val (.long q5), .second, .val (.int p6), .val (.ref b1), .val (.long kb), .second, .val (.int cs_), .val (.long kc), .second, .val (.int qs_), .val (.long kq), .second, .val (.int tw), .val (.int ab), .val (.int ac), .unset] [(.int (if kb = kq then (1 : Int32) else (0 : Int32))), (.int (if q2 = kq then (if tw = (0 : Int32) then (1 : Int32) else (2 : Int32)) else (0 : Int32)))])) by
              by_cases hc229_19 : kb = kq
              · refine Go.st (fun U hr => XS.ifNo Xc3.here hx rfl (hb hby at_229) rfl ((if0 _ _).trans (teq ((lw_eq kb kq).2 hc229_19)).2) hr) ?_
                show Go p.tables e below _ (Tc3.setTop (mkF m 232 #[.val (.int p1), .val (.long q2), .second, .val (.long q3), .second, .val (.long q4), .second, .val (.long q5), .second, .val (.int p6), .val (.ref b1), .val (.long kb), .second, .val (.int cs_), .val (.long kc), .second, .val (.int qs_), .val (.long kq), .second, .val (.int tw), .val (.int ab), .val (.int ac), .unset] [(.int (if q2 = kq then (if tw = (0 : Int32) then (1 : Int32) else (2 : Int32)) else (0 : Int32)))]))
                refine Go.st (fun U hr => XS.iconst Xc3.here hx rfl (hb hby at_232) hr) ?_
                show Go p.tables e below _ (Tc3.setTop (mkF m 233 #[.val (.int p1), .val (.long q2), .second, .val (.long q3), .second, .val (.long q4), .second, .val (.long q5), .second, .val (.int p6), .val (.ref b1), .val (.long kb), .second, .val (.int cs_), .val (.long kc), .second, .val (.int qs_), .val (.long kq), .second, .val (.int tw), .val (.int ab), .val (.int ac), .unset] [(.int (1 : Int32)), (.int (if q2 = kq then (if tw = (0 : Int32) then (1 : Int32) else (2 : Int32)) else (0 : Int32)))]))
                refine Go.st (fun U hr => XS.goto Xc3.here hx rfl (pc0 := 233) (pc' := 237) rfl (hb hby at_233) (by decide) (by decide) hr) ?_
                show Go p.tables e below _ (Tc3.setTop (mkF m 237 #[.val (.int p1), .val (.long q2), .second, .val (.long q3), .second, .val (.long q4), .second, .val (.long q5), .second, .val (.int p6), .val (.ref b1), .val (.long kb), .second, .val (.int cs_), .val (.long kc), .second, .val (.int qs_), .val (.long kq), .second, .val (.int tw), .val (.int ab), .val (.int ac), .unset] [(.int (1 : Int32)), (.int (if q2 = kq then (if tw = (0 : Int32) then (1 : Int32) else (2 : Int32)) else (0 : Int32)))]))
                simpa only [if_pos hc229_19] using hj229_19
              · refine Go.st (fun U hr => XS.ifYes Xc3.here hx rfl (pc0 := 229) (pc' := 236) rfl (hb hby at_229) rfl ((if0 _ _).trans (feq (fun q => hc229_19 ((lw_eq kb kq).1 q))).2) (by decide) (by decide) hr) ?_
                show Go p.tables e below _ (Tc3.setTop (mkF m 236 #[.val (.int p1), .val (.long q2), .second, .val (.long q3), .second, .val (.long q4), .second, .val (.long q5), .second, .val (.int p6), .val (.ref b1), .val (.long kb), .second, .val (.int cs_), .val (.long kc), .second, .val (.int qs_), .val (.long kq), .second, .val (.int tw), .val (.int ab), .val (.int ac), .unset] [(.int (if q2 = kq then (if tw = (0 : Int32) then (1 : Int32) else (2 : Int32)) else (0 : Int32)))]))
                refine Go.st (fun U hr => XS.iconst Xc3.here hx rfl (hb hby at_236) hr) ?_
                show Go p.tables e below _ (Tc3.setTop (mkF m 237 #[.val (.int p1), .val (.long q2), .second, .val (.long q3), .second, .val (.long q4), .second, .val (.long q5), .second, .val (.int p6), .val (.ref b1), .val (.long kb), .second, .val (.int cs_), .val (.long kc), .second, .val (.int qs_), .val (.long kq), .second, .val (.int tw), .val (.int ab), .val (.int ac), .unset] [(.int (0 : Int32)), (.int (if q2 = kq then (if tw = (0 : Int32) then (1 : Int32) else (2 : Int32)) else (0 : Int32)))]))
                simpa only [if_neg hc229_19] using hj229_19
            simpa only [if_neg hc221_18] using hj221_18
        refine Go.st (fun U hr => XS.iadd Xc3.here hx rfl (hb hby at_237) rfl hr) ?_
        show Go p.tables e below _ (Tc3.setTop (mkF m 238 #[.val (.int p1), .val (.long q2), .second, .val (.long q3), .second, .val (.long q4), .second, .val (.long q5), .second, .val (.int p6), .val (.ref b1), .val (.long kb), .second, .val (.int cs_), .val (.long kc), .second, .val (.int qs_), .val (.long kq), .second, .val (.int tw), .val (.int ab), .val (.int ac), .unset] [(.int ((if q2 = kq then (if tw = (0 : Int32) then (1 : Int32) else (2 : Int32)) else (0 : Int32)) + (if ab = (0 : Int32) then (0 : Int32) else (if kb = kq then (1 : Int32) else (0 : Int32)))))]))
        refine Go.st (fun U hr => XS.iload Xc3.here hx rfl (hb hby at_238) rfl hr) ?_
        show Go p.tables e below _ (Tc3.setTop (mkF m 240 #[.val (.int p1), .val (.long q2), .second, .val (.long q3), .second, .val (.long q4), .second, .val (.long q5), .second, .val (.int p6), .val (.ref b1), .val (.long kb), .second, .val (.int cs_), .val (.long kc), .second, .val (.int qs_), .val (.long kq), .second, .val (.int tw), .val (.int ab), .val (.int ac), .unset] [(.int ac), (.int ((if q2 = kq then (if tw = (0 : Int32) then (1 : Int32) else (2 : Int32)) else (0 : Int32)) + (if ab = (0 : Int32) then (0 : Int32) else (if kb = kq then (1 : Int32) else (0 : Int32)))))]))
        suffices hj240_20 : Go p.tables e below (own_Fin s below room_1.cells room_1.slots (Q0 Z p1 q2 q3 q4 q5 p6 h0 n0)) (Tc3.setTop (mkF m 256 #[.val (.int p1), .val (.long q2), .second, .val (.long q3), .second, .val (.long q4), .second, .val (.long q5), .second, .val (.int p6), .val (.ref b1), .val (.long kb), .second, .val (.int cs_), .val (.long kc), .second, .val (.int qs_), .val (.long kq), .second, .val (.int tw), .val (.int ab), .val (.int ac), .unset] [(.int (if ac = (0 : Int32) then (0 : Int32) else (if kc = kq then (1 : Int32) else (0 : Int32)))), (.int ((if q2 = kq then (if tw = (0 : Int32) then (1 : Int32) else (2 : Int32)) else (0 : Int32)) + (if ab = (0 : Int32) then (0 : Int32) else (if kb = kq then (1 : Int32) else (0 : Int32)))))])) by
          by_cases hc240_20 : ac = (0 : Int32)
          · refine Go.st (fun U hr => XS.ifYes Xc3.here hx rfl (pc0 := 240) (pc' := 255) rfl (hb hby at_240) rfl ((if0 _ _).trans (teq hc240_20).1) (by decide) (by decide) hr) ?_
            show Go p.tables e below _ (Tc3.setTop (mkF m 255 #[.val (.int p1), .val (.long q2), .second, .val (.long q3), .second, .val (.long q4), .second, .val (.long q5), .second, .val (.int p6), .val (.ref b1), .val (.long kb), .second, .val (.int cs_), .val (.long kc), .second, .val (.int qs_), .val (.long kq), .second, .val (.int tw), .val (.int ab), .val (.int ac), .unset] [(.int ((if q2 = kq then (if tw = (0 : Int32) then (1 : Int32) else (2 : Int32)) else (0 : Int32)) + (if ab = (0 : Int32) then (0 : Int32) else (if kb = kq then (1 : Int32) else (0 : Int32)))))]))
            refine Go.st (fun U hr => XS.iconst Xc3.here hx rfl (hb hby at_255) hr) ?_
            show Go p.tables e below _ (Tc3.setTop (mkF m 256 #[.val (.int p1), .val (.long q2), .second, .val (.long q3), .second, .val (.long q4), .second, .val (.long q5), .second, .val (.int p6), .val (.ref b1), .val (.long kb), .second, .val (.int cs_), .val (.long kc), .second, .val (.int qs_), .val (.long kq), .second, .val (.int tw), .val (.int ab), .val (.int ac), .unset] [(.int (0 : Int32)), (.int ((if q2 = kq then (if tw = (0 : Int32) then (1 : Int32) else (2 : Int32)) else (0 : Int32)) + (if ab = (0 : Int32) then (0 : Int32) else (if kb = kq then (1 : Int32) else (0 : Int32)))))]))
            simpa only [if_pos hc240_20] using hj240_20
          · refine Go.st (fun U hr => XS.ifNo Xc3.here hx rfl (hb hby at_240) rfl ((if0 _ _).trans (feq hc240_20).1) hr) ?_
            show Go p.tables e below _ (Tc3.setTop (mkF m 243 #[.val (.int p1), .val (.long q2), .second, .val (.long q3), .second, .val (.long q4), .second, .val (.long q5), .second, .val (.int p6), .val (.ref b1), .val (.long kb), .second, .val (.int cs_), .val (.long kc), .second, .val (.int qs_), .val (.long kq), .second, .val (.int tw), .val (.int ab), .val (.int ac), .unset] [(.int ((if q2 = kq then (if tw = (0 : Int32) then (1 : Int32) else (2 : Int32)) else (0 : Int32)) + (if ab = (0 : Int32) then (0 : Int32) else (if kb = kq then (1 : Int32) else (0 : Int32)))))]))
            refine Go.st (fun U hr => XS.lload Xc3.here hx rfl (hb hby at_243) rfl hr) ?_
            show Go p.tables e below _ (Tc3.setTop (mkF m 245 #[.val (.int p1), .val (.long q2), .second, .val (.long q3), .second, .val (.long q4), .second, .val (.long q5), .second, .val (.int p6), .val (.ref b1), .val (.long kb), .second, .val (.int cs_), .val (.long kc), .second, .val (.int qs_), .val (.long kq), .second, .val (.int tw), .val (.int ab), .val (.int ac), .unset] [(.long kc), (.int ((if q2 = kq then (if tw = (0 : Int32) then (1 : Int32) else (2 : Int32)) else (0 : Int32)) + (if ab = (0 : Int32) then (0 : Int32) else (if kb = kq then (1 : Int32) else (0 : Int32)))))]))
            refine Go.st (fun U hr => XS.lload Xc3.here hx rfl (hb hby at_245) rfl hr) ?_
            show Go p.tables e below _ (Tc3.setTop (mkF m 247 #[.val (.int p1), .val (.long q2), .second, .val (.long q3), .second, .val (.long q4), .second, .val (.long q5), .second, .val (.int p6), .val (.ref b1), .val (.long kb), .second, .val (.int cs_), .val (.long kc), .second, .val (.int qs_), .val (.long kq), .second, .val (.int tw), .val (.int ab), .val (.int ac), .unset] [(.long kq), (.long kc), (.int ((if q2 = kq then (if tw = (0 : Int32) then (1 : Int32) else (2 : Int32)) else (0 : Int32)) + (if ab = (0 : Int32) then (0 : Int32) else (if kb = kq then (1 : Int32) else (0 : Int32)))))]))
            refine Go.st (fun U hr => XS.lcmp Xc3.here hx rfl (hb hby at_247) rfl hr) ?_
            show Go p.tables e below _ (Tc3.setTop (mkF m 248 #[.val (.int p1), .val (.long q2), .second, .val (.long q3), .second, .val (.long q4), .second, .val (.long q5), .second, .val (.int p6), .val (.ref b1), .val (.long kb), .second, .val (.int cs_), .val (.long kc), .second, .val (.int qs_), .val (.long kq), .second, .val (.int tw), .val (.int ab), .val (.int ac), .unset] [(.int (lcmpW kc kq)), (.int ((if q2 = kq then (if tw = (0 : Int32) then (1 : Int32) else (2 : Int32)) else (0 : Int32)) + (if ab = (0 : Int32) then (0 : Int32) else (if kb = kq then (1 : Int32) else (0 : Int32)))))]))
            suffices hj248_21 : Go p.tables e below (own_Fin s below room_1.cells room_1.slots (Q0 Z p1 q2 q3 q4 q5 p6 h0 n0)) (Tc3.setTop (mkF m 256 #[.val (.int p1), .val (.long q2), .second, .val (.long q3), .second, .val (.long q4), .second, .val (.long q5), .second, .val (.int p6), .val (.ref b1), .val (.long kb), .second, .val (.int cs_), .val (.long kc), .second, .val (.int qs_), .val (.long kq), .second, .val (.int tw), .val (.int ab), .val (.int ac), .unset] [(.int (if kc = kq then (1 : Int32) else (0 : Int32))), (.int ((if q2 = kq then (if tw = (0 : Int32) then (1 : Int32) else (2 : Int32)) else (0 : Int32)) + (if ab = (0 : Int32) then (0 : Int32) else (if kb = kq then (1 : Int32) else (0 : Int32)))))])) by
              by_cases hc248_21 : kc = kq
              · refine Go.st (fun U hr => XS.ifNo Xc3.here hx rfl (hb hby at_248) rfl ((if0 _ _).trans (teq ((lw_eq kc kq).2 hc248_21)).2) hr) ?_
                show Go p.tables e below _ (Tc3.setTop (mkF m 251 #[.val (.int p1), .val (.long q2), .second, .val (.long q3), .second, .val (.long q4), .second, .val (.long q5), .second, .val (.int p6), .val (.ref b1), .val (.long kb), .second, .val (.int cs_), .val (.long kc), .second, .val (.int qs_), .val (.long kq), .second, .val (.int tw), .val (.int ab), .val (.int ac), .unset] [(.int ((if q2 = kq then (if tw = (0 : Int32) then (1 : Int32) else (2 : Int32)) else (0 : Int32)) + (if ab = (0 : Int32) then (0 : Int32) else (if kb = kq then (1 : Int32) else (0 : Int32)))))]))
                refine Go.st (fun U hr => XS.iconst Xc3.here hx rfl (hb hby at_251) hr) ?_
                show Go p.tables e below _ (Tc3.setTop (mkF m 252 #[.val (.int p1), .val (.long q2), .second, .val (.long q3), .second, .val (.long q4), .second, .val (.long q5), .second, .val (.int p6), .val (.ref b1), .val (.long kb), .second, .val (.int cs_), .val (.long kc), .second, .val (.int qs_), .val (.long kq), .second, .val (.int tw), .val (.int ab), .val (.int ac), .unset] [(.int (1 : Int32)), (.int ((if q2 = kq then (if tw = (0 : Int32) then (1 : Int32) else (2 : Int32)) else (0 : Int32)) + (if ab = (0 : Int32) then (0 : Int32) else (if kb = kq then (1 : Int32) else (0 : Int32)))))]))
                refine Go.st (fun U hr => XS.goto Xc3.here hx rfl (pc0 := 252) (pc' := 256) rfl (hb hby at_252) (by decide) (by decide) hr) ?_
                show Go p.tables e below _ (Tc3.setTop (mkF m 256 #[.val (.int p1), .val (.long q2), .second, .val (.long q3), .second, .val (.long q4), .second, .val (.long q5), .second, .val (.int p6), .val (.ref b1), .val (.long kb), .second, .val (.int cs_), .val (.long kc), .second, .val (.int qs_), .val (.long kq), .second, .val (.int tw), .val (.int ab), .val (.int ac), .unset] [(.int (1 : Int32)), (.int ((if q2 = kq then (if tw = (0 : Int32) then (1 : Int32) else (2 : Int32)) else (0 : Int32)) + (if ab = (0 : Int32) then (0 : Int32) else (if kb = kq then (1 : Int32) else (0 : Int32)))))]))
                simpa only [if_pos hc248_21] using hj248_21
              · refine Go.st (fun U hr => XS.ifYes Xc3.here hx rfl (pc0 := 248) (pc' := 255) rfl (hb hby at_248) rfl ((if0 _ _).trans (feq (fun q => hc248_21 ((lw_eq kc kq).1 q))).2) (by decide) (by decide) hr) ?_
                show Go p.tables e below _ (Tc3.setTop (mkF m 255 #[.val (.int p1), .val (.long q2), .second, .val (.long q3), .second, .val (.long q4), .second, .val (.long q5), .second, .val (.int p6), .val (.ref b1), .val (.long kb), .second, .val (.int cs_), .val (.long kc), .second, .val (.int qs_), .val (.long kq), .second, .val (.int tw), .val (.int ab), .val (.int ac), .unset] [(.int ((if q2 = kq then (if tw = (0 : Int32) then (1 : Int32) else (2 : Int32)) else (0 : Int32)) + (if ab = (0 : Int32) then (0 : Int32) else (if kb = kq then (1 : Int32) else (0 : Int32)))))]))
                refine Go.st (fun U hr => XS.iconst Xc3.here hx rfl (hb hby at_255) hr) ?_
                show Go p.tables e below _ (Tc3.setTop (mkF m 256 #[.val (.int p1), .val (.long q2), .second, .val (.long q3), .second, .val (.long q4), .second, .val (.long q5), .second, .val (.int p6), .val (.ref b1), .val (.long kb), .second, .val (.int cs_), .val (.long kc), .second, .val (.int qs_), .val (.long kq), .second, .val (.int tw), .val (.int ab), .val (.int ac), .unset] [(.int (0 : Int32)), (.int ((if q2 = kq then (if tw = (0 : Int32) then (1 : Int32) else (2 : Int32)) else (0 : Int32)) + (if ab = (0 : Int32) then (0 : Int32) else (if kb = kq then (1 : Int32) else (0 : Int32)))))]))
                simpa only [if_neg hc248_21] using hj248_21
            simpa only [if_neg hc240_20] using hj240_20
        refine Go.st (fun U hr => XS.iadd Xc3.here hx rfl (hb hby at_256) rfl hr) ?_
        show Go p.tables e below _ (Tc3.setTop (mkF m 257 #[.val (.int p1), .val (.long q2), .second, .val (.long q3), .second, .val (.long q4), .second, .val (.long q5), .second, .val (.int p6), .val (.ref b1), .val (.long kb), .second, .val (.int cs_), .val (.long kc), .second, .val (.int qs_), .val (.long kq), .second, .val (.int tw), .val (.int ab), .val (.int ac), .unset] [(.int (((if q2 = kq then (if tw = (0 : Int32) then (1 : Int32) else (2 : Int32)) else (0 : Int32)) + (if ab = (0 : Int32) then (0 : Int32) else (if kb = kq then (1 : Int32) else (0 : Int32)))) + (if ac = (0 : Int32) then (0 : Int32) else (if kc = kq then (1 : Int32) else (0 : Int32)))))]))
        refine Go.st (fun U hr => XS.istore Xc3.here hx rfl (hb hby at_257) rfl (l' := #[.val (.int p1), .val (.long q2), .second, .val (.long q3), .second, .val (.long q4), .second, .val (.long q5), .second, .val (.int p6), .val (.ref b1), .val (.long kb), .second, .val (.int cs_), .val (.long kc), .second, .val (.int qs_), .val (.long kq), .second, .val (.int tw), .val (.int ab), .val (.int ac), .val (.int (((if q2 = kq then (if tw = (0 : Int32) then (1 : Int32) else (2 : Int32)) else (0 : Int32)) + (if ab = (0 : Int32) then (0 : Int32) else (if kb = kq then (1 : Int32) else (0 : Int32)))) + (if ac = (0 : Int32) then (0 : Int32) else (if kc = kq then (1 : Int32) else (0 : Int32)))))]) rfl hr) ?_
        show Go p.tables e below _ (Tc3.setTop (mkF m 259 #[.val (.int p1), .val (.long q2), .second, .val (.long q3), .second, .val (.long q4), .second, .val (.long q5), .second, .val (.int p6), .val (.ref b1), .val (.long kb), .second, .val (.int cs_), .val (.long kc), .second, .val (.int qs_), .val (.long kq), .second, .val (.int tw), .val (.int ab), .val (.int ac), .val (.int (((if q2 = kq then (if tw = (0 : Int32) then (1 : Int32) else (2 : Int32)) else (0 : Int32)) + (if ab = (0 : Int32) then (0 : Int32) else (if kb = kq then (1 : Int32) else (0 : Int32)))) + (if ac = (0 : Int32) then (0 : Int32) else (if kc = kq then (1 : Int32) else (0 : Int32)))))] []))
        generalize h_ex_ : (((if q2 = kq then (if tw = (0 : Int32) then (1 : Int32) else (2 : Int32)) else (0 : Int32)) + (if ab = (0 : Int32) then (0 : Int32) else (if kb = kq then (1 : Int32) else (0 : Int32)))) + (if ac = (0 : Int32) then (0 : Int32) else (if kc = kq then (1 : Int32) else (0 : Int32)))) = ex_
        refine Go.st (fun U hr => XS.aload Xc3.here hx rfl (hb hby at_259) rfl rfl hr) ?_
        show Go p.tables e below _ (Tc3.setTop (mkF m 261 #[.val (.int p1), .val (.long q2), .second, .val (.long q3), .second, .val (.long q4), .second, .val (.long q5), .second, .val (.int p6), .val (.ref b1), .val (.long kb), .second, .val (.int cs_), .val (.long kc), .second, .val (.int qs_), .val (.long kq), .second, .val (.int tw), .val (.int ab), .val (.int ac), .val (.int ex_)] [(.ref b1)]))
        refine Go.st (fun U hr => XS.lload Xc3.here hx rfl (hb hby at_261) rfl hr) ?_
        show Go p.tables e below _ (Tc3.setTop (mkF m 263 #[.val (.int p1), .val (.long q2), .second, .val (.long q3), .second, .val (.long q4), .second, .val (.long q5), .second, .val (.int p6), .val (.ref b1), .val (.long kb), .second, .val (.int cs_), .val (.long kc), .second, .val (.int qs_), .val (.long kq), .second, .val (.int tw), .val (.int ab), .val (.int ac), .val (.int ex_)] [(.long kq), (.ref b1)]))
        obtain ⟨cq22, kq22, q22a, q22b, q22c⟩ := isOf hZ ec3 (own_TBE TBc3)
        obtain ⟨_, _, ⟨T22, L22, k22, n22⟩, -, X22, ⟨Lc22, hQ22, l22, y22, z22⟩, st22⟩ := Xc3.virtualBack hx (y := (⟨"com/example/rigorous_layout/rigorouslayout/Tally", "count", "(J)I"⟩ : MethodName)) (z := (⟨"com/example/rigorous_layout/rigorouslayout/Tally", "count", "(J)I"⟩ : MethodName)) hown (mvT hZ (hw _ (List.mem_of_getElem? (i := 45) rfl))) (mvT hZ (hw _ (List.mem_of_getElem? (i := 46) rfl))) (notFace_of_selects (args := #[]) (mvT hZ (hw _ (List.mem_of_getElem? (i := 48) rfl)))) (mvT hZ (hw _ (List.mem_of_getElem? (i := 48) rfl))) (mvT hZ (hw _ (List.mem_of_getElem? (i := 47) rfl))) (by decide) (backOf (W := 0) (rm10 l Z a0 hw [] b1 kq Mc3 4 hc3 n0 zc3 TBc3) hZ (hw _ (List.mem_of_getElem? (i := 49) rfl)) (hw _ (List.mem_of_getElem? (i := 2) rfl)) (by decide) (by decide)) q22a q22c (g := (mkF m 263 #[.val (.int p1), .val (.long q2), .second, .val (.long q3), .second, .val (.long q4), .second, .val (.long q5), .second, .val (.int p6), .val (.ref b1), .val (.long kb), .second, .val (.int cs_), .val (.long kc), .second, .val (.int qs_), .val (.long kq), .second, .val (.int tw), .val (.int ab), .val (.int ac), .val (.int ex_)] [(.long kq), (.ref b1)])) rfl (by rw [hml]; rfl) (Steps.refl _) (argsL := [(.long kq)]) (rest := []) (lenOf pd_6 rfl) rfl (by show 2 * 0 + _ ≤ _; exact Nat.le_of_eq rfl) (hb hby at_263) (fun _ _ => ⟨rfl, ec3, (by decide : 11 + 0 ≤ _), (by decide : 99 + 0 ≤ _)⟩)
        dsimp only [Pt.U, Pt.locs, Pt.cells, Pt.slots] at X22 l22 y22 z22 st22 hQ22
        subst l22 y22 z22
        obtain ⟨r22, rfl, Nq22, ee22, hr22⟩ := hQ22
        have N22 := Fr.app Nc3 Nq22
        refine Go.tr st22 ?_
        show Go p.tables e below _ (T22.setTop (mkF m 266 #[.val (.int p1), .val (.long q2), .second, .val (.long q3), .second, .val (.long q4), .second, .val (.long q5), .second, .val (.int p6), .val (.ref b1), .val (.long kb), .second, .val (.int cs_), .val (.long kc), .second, .val (.int qs_), .val (.long kq), .second, .val (.int tw), .val (.int ab), .val (.int ac), .val (.int ex_)] [(.int r22)]))
        refine Go.st (fun U hr => XS.iload X22.here hx rfl (hb hby at_266) rfl hr) ?_
        show Go p.tables e below _ (T22.setTop (mkF m 268 #[.val (.int p1), .val (.long q2), .second, .val (.long q3), .second, .val (.long q4), .second, .val (.long q5), .second, .val (.int p6), .val (.ref b1), .val (.long kb), .second, .val (.int cs_), .val (.long kc), .second, .val (.int qs_), .val (.long kq), .second, .val (.int tw), .val (.int ab), .val (.int ac), .val (.int ex_)] [(.int ex_), (.int r22)]))
        have hc268_23 : r22 = ex_ := by
          apply Int32.toInt_inj.mp
          rw [hr22, hMq3, hMq2, hMq1, ← h_ex_]
          show (if kq = q2 then (0 : Int) + 1 else 0) + _ + _ + _ = _
          have htw : tw = 0 ∨ tw = 1 := by rw [← h_tw]; split <;> simp
          have hab : ab = 0 ∨ ab = 1 := by rw [← h_ab]; split <;> simp
          have hac : ac = 0 ∨ ac = 1 := by rw [← h_ac]; split <;> simp
          rcases htw with e1 | e1 <;> rcases hab with e2 | e2 <;> rcases hac with e3 | e3 <;> by_cases u1 : q2 = kq <;> by_cases u2 : kb = kq <;> by_cases u3 : kc = kq <;> simp +decide [e1, e2, e3, u1, u2, u3, Ne.symm] <;> (try (intro z; exact absurd z.symm u1))
        refine Go.st (fun U hr => XS.icmpNo X22.here hx rfl (hb hby at_268) rfl (teq hc268_23).2 hr) ?_
        show Go p.tables e below _ (T22.setTop (mkF m 271 #[.val (.int p1), .val (.long q2), .second, .val (.long q3), .second, .val (.long q4), .second, .val (.long q5), .second, .val (.int p6), .val (.ref b1), .val (.long kb), .second, .val (.int cs_), .val (.long kc), .second, .val (.int qs_), .val (.long kq), .second, .val (.int tw), .val (.int ab), .val (.int ac), .val (.int ex_)] []))
        refine Go.st (fun U hr => XS.iconst X22.here hx rfl (hb hby at_271) hr) ?_
        show Go p.tables e below _ (T22.setTop (mkF m 272 #[.val (.int p1), .val (.long q2), .second, .val (.long q3), .second, .val (.long q4), .second, .val (.long q5), .second, .val (.int p6), .val (.ref b1), .val (.long kb), .second, .val (.int cs_), .val (.long kc), .second, .val (.int qs_), .val (.long kq), .second, .val (.int tw), .val (.int ab), .val (.int ac), .val (.int ex_)] [(.int (1 : Int32))]))
        refine Go.st (fun U hr => XS.goto X22.here hx rfl (pc0 := 272) (pc' := 276) rfl (hb hby at_272) (by decide) (by decide) hr) ?_
        show Go p.tables e below _ (T22.setTop (mkF m 276 #[.val (.int p1), .val (.long q2), .second, .val (.long q3), .second, .val (.long q4), .second, .val (.long q5), .second, .val (.int p6), .val (.ref b1), .val (.long kb), .second, .val (.int cs_), .val (.long kc), .second, .val (.int qs_), .val (.long kq), .second, .val (.int tw), .val (.int ab), .val (.int ac), .val (.int ex_)] [(.int (1 : Int32))]))
        exact own_retN X22 hx Bd.notSynchronized (t := .boolean) Bd.returns (by simp) (hb hby at_276) ⟨rfl, N22⟩ (by decide) (by decide)
      refine Go.st (fun U hr => XS.iload Xc2.here hx rfl (hb hby at_185) rfl hr) ?_
      show Go p.tables e below _ (Tc2.setTop (mkF m 187 #[.val (.int p1), .val (.long q2), .second, .val (.long q3), .second, .val (.long q4), .second, .val (.long q5), .second, .val (.int p6), .val (.ref b1), .val (.long kb), .second, .val (.int cs_), .val (.long kc), .second, .val (.int qs_), .val (.long kq), .second, .val (.int tw), .val (.int ab), .val (.int ac), .unset] [(.int ac)]))
      by_cases hc185 : ac = (0 : Int32)
      · refine Go.st (fun U hr => XS.ifYes Xc2.here hx rfl (pc0 := 187) (pc' := 198) rfl (hb hby at_187) rfl ((if0 _ _).trans (teq hc185).1) (by decide) (by decide) hr) ?_
        show Go p.tables e below _ (Tc2.setTop (mkF m 198 #[.val (.int p1), .val (.long q2), .second, .val (.long q3), .second, .val (.long q4), .second, .val (.long q5), .second, .val (.int p6), .val (.ref b1), .val (.long kb), .second, .val (.int cs_), .val (.long kc), .second, .val (.int qs_), .val (.long kq), .second, .val (.int tw), .val (.int ab), .val (.int ac), .unset] []))
        exact k198 _ _ _ Mc2 (Xc2.more (by decide) (by decide)) ec2 Nc2 zc2 (own_TBm TBc2 (by decide)) (fun k => ⟨(hMb2 k).1, Int.le_trans (hMb2 k).2 (by decide)⟩) (by simp [hc185])
      · refine Go.st (fun U hr => XS.ifNo Xc2.here hx rfl (hb hby at_187) rfl ((if0 _ _).trans (feq hc185).1) hr) ?_
        show Go p.tables e below _ (Tc2.setTop (mkF m 190 #[.val (.int p1), .val (.long q2), .second, .val (.long q3), .second, .val (.long q4), .second, .val (.long q5), .second, .val (.int p6), .val (.ref b1), .val (.long kb), .second, .val (.int cs_), .val (.long kc), .second, .val (.int qs_), .val (.long kq), .second, .val (.int tw), .val (.int ab), .val (.int ac), .unset] []))
        refine Go.st (fun U hr => XS.aload Xc2.here hx rfl (hb hby at_190) rfl rfl hr) ?_
        show Go p.tables e below _ (Tc2.setTop (mkF m 192 #[.val (.int p1), .val (.long q2), .second, .val (.long q3), .second, .val (.long q4), .second, .val (.long q5), .second, .val (.int p6), .val (.ref b1), .val (.long kb), .second, .val (.int cs_), .val (.long kc), .second, .val (.int qs_), .val (.long kq), .second, .val (.int tw), .val (.int ab), .val (.int ac), .unset] [(.ref b1)]))
        refine Go.st (fun U hr => XS.lload Xc2.here hx rfl (hb hby at_192) rfl hr) ?_
        show Go p.tables e below _ (Tc2.setTop (mkF m 194 #[.val (.int p1), .val (.long q2), .second, .val (.long q3), .second, .val (.long q4), .second, .val (.long q5), .second, .val (.int p6), .val (.ref b1), .val (.long kb), .second, .val (.int cs_), .val (.long kc), .second, .val (.int qs_), .val (.long kq), .second, .val (.int tw), .val (.int ab), .val (.int ac), .unset] [(.long kc), (.ref b1)]))
        obtain ⟨cq24, kq24, q24a, q24b, q24c⟩ := isOf hZ ec2 (own_TBE TBc2)
        obtain ⟨_, _, ⟨T24, L24, k24, n24⟩, -, X24, ⟨Lc24, hQ24, l24, y24, z24⟩, st24⟩ := Xc2.virtualBack hx (y := (⟨"com/example/rigorous_layout/rigorouslayout/Tally", "add", "(J)I"⟩ : MethodName)) (z := (⟨"com/example/rigorous_layout/rigorouslayout/Tally", "add", "(J)I"⟩ : MethodName)) hown (mvT hZ (hw _ (List.mem_of_getElem? (i := 32) rfl))) (mvT hZ (hw _ (List.mem_of_getElem? (i := 33) rfl))) (notFace_of_selects (args := #[]) (mvT hZ (hw _ (List.mem_of_getElem? (i := 35) rfl)))) (mvT hZ (hw _ (List.mem_of_getElem? (i := 35) rfl))) (mvT hZ (hw _ (List.mem_of_getElem? (i := 34) rfl))) (by decide) (backOf (W := 0) (rm7 l Z a0 hw [] b1 kc Mc2 3 hc2 n0 zc2 TBc2 gb1 (by decide) hMc2) hZ (hw _ (List.mem_of_getElem? (i := 36) rfl)) (hw _ (List.mem_of_getElem? (i := 2) rfl)) (by decide) (by decide)) q24a q24c (g := (mkF m 194 #[.val (.int p1), .val (.long q2), .second, .val (.long q3), .second, .val (.long q4), .second, .val (.long q5), .second, .val (.int p6), .val (.ref b1), .val (.long kb), .second, .val (.int cs_), .val (.long kc), .second, .val (.int qs_), .val (.long kq), .second, .val (.int tw), .val (.int ab), .val (.int ac), .unset] [(.long kc), (.ref b1)])) rfl (by rw [hml]; rfl) (Steps.refl _) (argsL := [(.long kc)]) (rest := []) (lenOf pd_6 rfl) rfl (by show 2 * 0 + _ ≤ _; exact Nat.le_of_eq rfl) (hb hby at_194) (fun _ _ => ⟨rfl, ec2, (by decide : 9 + 2 ≤ _), (by decide : 83 + 16 ≤ _)⟩)
        dsimp only [Pt.U, Pt.locs, Pt.cells, Pt.slots] at X24 l24 y24 z24 st24 hQ24
        subst l24 y24 z24
        obtain ⟨r24, rfl, Nq24, Sq24, TB24⟩ := hQ24
        have N24 := Fr.app Nc2 Nq24
        refine Go.tr st24 ?_
        show Go p.tables e below _ (T24.setTop (mkF m 197 #[.val (.int p1), .val (.long q2), .second, .val (.long q3), .second, .val (.long q4), .second, .val (.long q5), .second, .val (.int p6), .val (.ref b1), .val (.long kb), .second, .val (.int cs_), .val (.long kc), .second, .val (.int qs_), .val (.long kq), .second, .val (.int tw), .val (.int ab), .val (.int ac), .unset] [(.int r24)]))
        have z25 := Nat.le_trans zc2 Sq24
        refine Go.st (fun U hr => XS.pop X24.here hx rfl (hb hby at_197) rfl rfl hr) ?_
        show Go p.tables e below _ (T24.setTop (mkF m 198 #[.val (.int p1), .val (.long q2), .second, .val (.long q3), .second, .val (.long q4), .second, .val (.long q5), .second, .val (.int p6), .val (.ref b1), .val (.long kb), .second, .val (.int cs_), .val (.long kc), .second, .val (.int qs_), .val (.long kq), .second, .val (.int tw), .val (.int ab), .val (.int ac), .unset] []))
        exact k198 _ _ _ _ X24 rfl N24 z25 TB24 (fun k => by have := hMb2 k; (try dsimp only at *); split <;> omega) (by
          try dsimp only
          by_cases q : kq = kc
          · simp [hc185, q]
          · simp [hc185, q, Ne.symm q])
    refine Go.st (fun U hr => XS.iload Xc1.here hx rfl (hb hby at_172) rfl hr) ?_
    show Go p.tables e below _ (Tc1.setTop (mkF m 174 #[.val (.int p1), .val (.long q2), .second, .val (.long q3), .second, .val (.long q4), .second, .val (.long q5), .second, .val (.int p6), .val (.ref b1), .val (.long kb), .second, .val (.int cs_), .val (.long kc), .second, .val (.int qs_), .val (.long kq), .second, .val (.int tw), .val (.int ab), .val (.int ac), .unset] [(.int ab)]))
    by_cases hc172 : ab = (0 : Int32)
    · refine Go.st (fun U hr => XS.ifYes Xc1.here hx rfl (pc0 := 174) (pc' := 185) rfl (hb hby at_174) rfl ((if0 _ _).trans (teq hc172).1) (by decide) (by decide) hr) ?_
      show Go p.tables e below _ (Tc1.setTop (mkF m 185 #[.val (.int p1), .val (.long q2), .second, .val (.long q3), .second, .val (.long q4), .second, .val (.long q5), .second, .val (.int p6), .val (.ref b1), .val (.long kb), .second, .val (.int cs_), .val (.long kc), .second, .val (.int qs_), .val (.long kq), .second, .val (.int tw), .val (.int ab), .val (.int ac), .unset] []))
      exact k185 _ _ _ Mc1 (Xc1.more (by decide) (by decide)) ec1 Nc1 zc1 (own_TBm TBc1 (by decide)) (fun k => ⟨(hMb1 k).1, Int.le_trans (hMb1 k).2 (by decide)⟩) (by simp [hc172])
    · refine Go.st (fun U hr => XS.ifNo Xc1.here hx rfl (hb hby at_174) rfl ((if0 _ _).trans (feq hc172).1) hr) ?_
      show Go p.tables e below _ (Tc1.setTop (mkF m 177 #[.val (.int p1), .val (.long q2), .second, .val (.long q3), .second, .val (.long q4), .second, .val (.long q5), .second, .val (.int p6), .val (.ref b1), .val (.long kb), .second, .val (.int cs_), .val (.long kc), .second, .val (.int qs_), .val (.long kq), .second, .val (.int tw), .val (.int ab), .val (.int ac), .unset] []))
      refine Go.st (fun U hr => XS.aload Xc1.here hx rfl (hb hby at_177) rfl rfl hr) ?_
      show Go p.tables e below _ (Tc1.setTop (mkF m 179 #[.val (.int p1), .val (.long q2), .second, .val (.long q3), .second, .val (.long q4), .second, .val (.long q5), .second, .val (.int p6), .val (.ref b1), .val (.long kb), .second, .val (.int cs_), .val (.long kc), .second, .val (.int qs_), .val (.long kq), .second, .val (.int tw), .val (.int ab), .val (.int ac), .unset] [(.ref b1)]))
      refine Go.st (fun U hr => XS.lload Xc1.here hx rfl (hb hby at_179) rfl hr) ?_
      show Go p.tables e below _ (Tc1.setTop (mkF m 181 #[.val (.int p1), .val (.long q2), .second, .val (.long q3), .second, .val (.long q4), .second, .val (.long q5), .second, .val (.int p6), .val (.ref b1), .val (.long kb), .second, .val (.int cs_), .val (.long kc), .second, .val (.int qs_), .val (.long kq), .second, .val (.int tw), .val (.int ab), .val (.int ac), .unset] [(.long kb), (.ref b1)]))
      obtain ⟨cq26, kq26, q26a, q26b, q26c⟩ := isOf hZ ec1 (own_TBE TBc1)
      obtain ⟨_, _, ⟨T26, L26, k26, n26⟩, -, X26, ⟨Lc26, hQ26, l26, y26, z26⟩, st26⟩ := Xc1.virtualBack hx (y := (⟨"com/example/rigorous_layout/rigorouslayout/Tally", "add", "(J)I"⟩ : MethodName)) (z := (⟨"com/example/rigorous_layout/rigorouslayout/Tally", "add", "(J)I"⟩ : MethodName)) hown (mvT hZ (hw _ (List.mem_of_getElem? (i := 32) rfl))) (mvT hZ (hw _ (List.mem_of_getElem? (i := 33) rfl))) (notFace_of_selects (args := #[]) (mvT hZ (hw _ (List.mem_of_getElem? (i := 35) rfl)))) (mvT hZ (hw _ (List.mem_of_getElem? (i := 35) rfl))) (mvT hZ (hw _ (List.mem_of_getElem? (i := 34) rfl))) (by decide) (backOf (W := 0) (rm7 l Z a0 hw [] b1 kb Mc1 2 hc1 n0 zc1 TBc1 gb1 (by decide) hMc1) hZ (hw _ (List.mem_of_getElem? (i := 36) rfl)) (hw _ (List.mem_of_getElem? (i := 2) rfl)) (by decide) (by decide)) q26a q26c (g := (mkF m 181 #[.val (.int p1), .val (.long q2), .second, .val (.long q3), .second, .val (.long q4), .second, .val (.long q5), .second, .val (.int p6), .val (.ref b1), .val (.long kb), .second, .val (.int cs_), .val (.long kc), .second, .val (.int qs_), .val (.long kq), .second, .val (.int tw), .val (.int ab), .val (.int ac), .unset] [(.long kb), (.ref b1)])) rfl (by rw [hml]; rfl) (Steps.refl _) (argsL := [(.long kb)]) (rest := []) (lenOf pd_6 rfl) rfl (by show 2 * 0 + _ ≤ _; exact Nat.le_of_eq rfl) (hb hby at_181) (fun _ _ => ⟨rfl, ec1, (by decide : 7 + 2 ≤ _), (by decide : 67 + 16 ≤ _)⟩)
      dsimp only [Pt.U, Pt.locs, Pt.cells, Pt.slots] at X26 l26 y26 z26 st26 hQ26
      subst l26 y26 z26
      obtain ⟨r26, rfl, Nq26, Sq26, TB26⟩ := hQ26
      have N26 := Fr.app Nc1 Nq26
      refine Go.tr st26 ?_
      show Go p.tables e below _ (T26.setTop (mkF m 184 #[.val (.int p1), .val (.long q2), .second, .val (.long q3), .second, .val (.long q4), .second, .val (.long q5), .second, .val (.int p6), .val (.ref b1), .val (.long kb), .second, .val (.int cs_), .val (.long kc), .second, .val (.int qs_), .val (.long kq), .second, .val (.int tw), .val (.int ab), .val (.int ac), .unset] [(.int r26)]))
      have z27 := Nat.le_trans zc1 Sq26
      refine Go.st (fun U hr => XS.pop X26.here hx rfl (hb hby at_184) rfl rfl hr) ?_
      show Go p.tables e below _ (T26.setTop (mkF m 185 #[.val (.int p1), .val (.long q2), .second, .val (.long q3), .second, .val (.long q4), .second, .val (.long q5), .second, .val (.int p6), .val (.ref b1), .val (.long kb), .second, .val (.int cs_), .val (.long kc), .second, .val (.int qs_), .val (.long kq), .second, .val (.int tw), .val (.int ab), .val (.int ac), .unset] []))
      exact k185 _ _ _ _ X26 rfl N26 z27 TB26 (fun k => by have := hMb1 k; (try dsimp only at *); split <;> omega) (by
        try dsimp only
        by_cases q : kq = kb
        · simp [hc172, q]
        · simp [hc172, q, Ne.symm q])
  refine Go.st (fun U hr => XS.iload X14.here hx rfl (hb hby at_160) rfl hr) ?_
  show Go p.tables e below _ (T14.setTop (mkF m 162 #[.val (.int p1), .val (.long q2), .second, .val (.long q3), .second, .val (.long q4), .second, .val (.long q5), .second, .val (.int p6), .val (.ref b1), .val (.long kb), .second, .val (.int cs_), .val (.long kc), .second, .val (.int qs_), .val (.long kq), .second, .val (.int tw), .val (.int ab), .val (.int ac), .unset] [(.int tw)]))
  by_cases hc160 : tw = (0 : Int32)
  · refine Go.st (fun U hr => XS.ifYes X14.here hx rfl (pc0 := 162) (pc' := 172) rfl (hb hby at_162) rfl ((if0 _ _).trans (teq hc160).1) (by decide) (by decide) hr) ?_
    show Go p.tables e below _ (T14.setTop (mkF m 172 #[.val (.int p1), .val (.long q2), .second, .val (.long q3), .second, .val (.long q4), .second, .val (.long q5), .second, .val (.int p6), .val (.ref b1), .val (.long kb), .second, .val (.int cs_), .val (.long kc), .second, .val (.int qs_), .val (.long kq), .second, .val (.int tw), .val (.int ab), .val (.int ac), .unset] []))
    exact k172 _ _ _ (fun k => if k = q2 then (fun _ => (0 : Int)) k + 1 else (fun _ => (0 : Int)) k) (X14.more (by decide) (by decide)) rfl N14 z15 (own_TBm TB14 (by decide)) (fun k => ⟨(hMb0 k).1, Int.le_trans (hMb0 k).2 (by decide)⟩) (by simp [hc160])
  · refine Go.st (fun U hr => XS.ifNo X14.here hx rfl (hb hby at_162) rfl ((if0 _ _).trans (feq hc160).1) hr) ?_
    show Go p.tables e below _ (T14.setTop (mkF m 165 #[.val (.int p1), .val (.long q2), .second, .val (.long q3), .second, .val (.long q4), .second, .val (.long q5), .second, .val (.int p6), .val (.ref b1), .val (.long kb), .second, .val (.int cs_), .val (.long kc), .second, .val (.int qs_), .val (.long kq), .second, .val (.int tw), .val (.int ab), .val (.int ac), .unset] []))
    refine Go.st (fun U hr => XS.aload X14.here hx rfl (hb hby at_165) rfl rfl hr) ?_
    show Go p.tables e below _ (T14.setTop (mkF m 167 #[.val (.int p1), .val (.long q2), .second, .val (.long q3), .second, .val (.long q4), .second, .val (.long q5), .second, .val (.int p6), .val (.ref b1), .val (.long kb), .second, .val (.int cs_), .val (.long kc), .second, .val (.int qs_), .val (.long kq), .second, .val (.int tw), .val (.int ab), .val (.int ac), .unset] [(.ref b1)]))
    refine Go.st (fun U hr => XS.lloadN X14.here hx rfl (hb hby at_167) rfl hr) ?_
    show Go p.tables e below _ (T14.setTop (mkF m 168 #[.val (.int p1), .val (.long q2), .second, .val (.long q3), .second, .val (.long q4), .second, .val (.long q5), .second, .val (.int p6), .val (.ref b1), .val (.long kb), .second, .val (.int cs_), .val (.long kc), .second, .val (.int qs_), .val (.long kq), .second, .val (.int tw), .val (.int ab), .val (.int ac), .unset] [(.long q2), (.ref b1)]))
    obtain ⟨cq28, kq28, q28a, q28b, q28c⟩ := isOf hZ rfl (own_TBE TB14)
    obtain ⟨_, _, ⟨T28, L28, k28, n28⟩, -, X28, ⟨Lc28, hQ28, l28, y28, z28⟩, st28⟩ := X14.virtualBack hx (y := (⟨"com/example/rigorous_layout/rigorouslayout/Tally", "add", "(J)I"⟩ : MethodName)) (z := (⟨"com/example/rigorous_layout/rigorouslayout/Tally", "add", "(J)I"⟩ : MethodName)) hown (mvT hZ (hw _ (List.mem_of_getElem? (i := 32) rfl))) (mvT hZ (hw _ (List.mem_of_getElem? (i := 33) rfl))) (notFace_of_selects (args := #[]) (mvT hZ (hw _ (List.mem_of_getElem? (i := 35) rfl)))) (mvT hZ (hw _ (List.mem_of_getElem? (i := 35) rfl))) (mvT hZ (hw _ (List.mem_of_getElem? (i := 34) rfl))) (by decide) (backOf (W := 0) (rm7 l Z a0 hw [] b1 q2 (fun k => if k = q2 then (fun _ => (0 : Int)) k + 1 else (fun _ => (0 : Int)) k) (0 + 1) T14.heap n0 z15 TB14 gb1 (by decide) hM1) hZ (hw _ (List.mem_of_getElem? (i := 36) rfl)) (hw _ (List.mem_of_getElem? (i := 2) rfl)) (by decide) (by decide)) q28a q28c (g := (mkF m 168 #[.val (.int p1), .val (.long q2), .second, .val (.long q3), .second, .val (.long q4), .second, .val (.long q5), .second, .val (.int p6), .val (.ref b1), .val (.long kb), .second, .val (.int cs_), .val (.long kc), .second, .val (.int qs_), .val (.long kq), .second, .val (.int tw), .val (.int ab), .val (.int ac), .unset] [(.long q2), (.ref b1)])) rfl (by rw [hml]; rfl) (Steps.refl _) (argsL := [(.long q2)]) (rest := []) (lenOf pd_6 rfl) rfl (by show 2 * 0 + _ ≤ _; exact Nat.le_of_eq rfl) (hb hby at_168) (fun _ _ => ⟨rfl, rfl, (by decide : 5 + 2 ≤ _), (by decide : 51 + 16 ≤ _)⟩)
    dsimp only [Pt.U, Pt.locs, Pt.cells, Pt.slots] at X28 l28 y28 z28 st28 hQ28
    subst l28 y28 z28
    obtain ⟨r28, rfl, Nq28, Sq28, TB28⟩ := hQ28
    have N28 := Fr.app N14 Nq28
    refine Go.tr st28 ?_
    show Go p.tables e below _ (T28.setTop (mkF m 171 #[.val (.int p1), .val (.long q2), .second, .val (.long q3), .second, .val (.long q4), .second, .val (.long q5), .second, .val (.int p6), .val (.ref b1), .val (.long kb), .second, .val (.int cs_), .val (.long kc), .second, .val (.int qs_), .val (.long kq), .second, .val (.int tw), .val (.int ab), .val (.int ac), .unset] [(.int r28)]))
    have z29 := Nat.le_trans z15 Sq28
    refine Go.st (fun U hr => XS.pop X28.here hx rfl (hb hby at_171) rfl rfl hr) ?_
    show Go p.tables e below _ (T28.setTop (mkF m 172 #[.val (.int p1), .val (.long q2), .second, .val (.long q3), .second, .val (.long q4), .second, .val (.long q5), .second, .val (.int p6), .val (.ref b1), .val (.long kb), .second, .val (.int cs_), .val (.long kc), .second, .val (.int qs_), .val (.long kq), .second, .val (.int tw), .val (.int ab), .val (.int ac), .unset] []))
    exact k172 _ _ _ _ X28 rfl N28 z29 TB28 (fun k => by have := hMb0 k; (try dsimp only at *); split <;> omega) (by
      try dsimp only
      by_cases q : kq = q2
      · simp [hc160, q]
      · simp [hc160, q, Ne.symm q])
set_option maxRecDepth 65536 in
set_option maxHeartbeats 40000000 in
theorem comes_1 {Post : Tables → Env → Array Value → State → Outcome → State → Prop} (hpost : ∀ tb e args s v u, (limb_1_1.after args s (.returned v) u = true ∧ limb_1_2.after args s (.returned v) u = true ∧ True) → FrameEnd s (.returned v) u (Jvm.fieldLocs frame_1_writes args s ++ Jvm.arrayLocs frame_1_arrays args s ++ Jvm.staticLocs frame_1_statics s) 24 192 → Post tb e args s (.returned v) u) :
    ArmFor flags0 classFile x code maxLocals ret World_1 tables_1 room_1 Calls_1 rest_1 Pre_1 Post := by
  intro l hfl _ _ p e ha hc hk s m args below hf hA hF happ hP
  obtain ⟨hcalls, hrest, hpre⟩ := hP
  obtain ⟨-, -, -, hnamed, -, -, -, hat⟩ := (Spec.applies_iff hf).mp happ
  obtain ⟨hg, hn⟩ := and_e (Cond.before_iff.mp (show (Jvm.Cond.and given_1 narrow_1).before args s = true from hpre))
  obtain ⟨h1, h2⟩ := and_e hg
  obtain ⟨w0, w1, w2, w3, w4, w5, rfl⟩ : ∃ w0 w1 w2 w3 w4 w5 : Value, args = #[w0, w1, w2, w3, w4, w5] := by
    have hs : args.size = 6 := by simpa [Cond.value, given_1] using h1
    obtain ⟨L⟩ := args
    match L, hs with
    | [w0, w1, w2, w3, w4, w5], _ => exact ⟨w0, w1, w2, w3, w4, w5, rfl⟩
  have hw := fun d (hd : d ∈ tables_1) => atoms_spec (ws := Jvm.Cond.code x code maxLocals ret :: tables_1) hat d (List.mem_cons_of_mem _ hd)
  have hfit : Fit s := fun {y c} hc i hi => by
    obtain ⟨ha, rfl⟩ := Array.getElem?_eq_some_iff.mp hc
    have q := List.all_eq_true.mp ((Array.all_eq_true_iff_forall_mem.mp hF) _ (Array.getElem_mem ha)) i (List.mem_range.mpr hi)
    simpa [Array.getElem?_eq_getElem hi] using q
  obtain ⟨ha0, hb0⟩ := and_e h2
  obtain ⟨i0, e0⟩ := is_v ha0
  obtain rfl : w0 = (.int i0) := Option.some.inj e0
  obtain ⟨ha1, hb1⟩ := and_e hb0
  obtain ⟨i1, e1⟩ := isL_v ha1
  obtain rfl : w1 = (.long i1) := Option.some.inj e1
  obtain ⟨ha2, hb2⟩ := and_e hb1
  obtain ⟨i2, e2⟩ := isL_v ha2
  obtain rfl : w2 = (.long i2) := Option.some.inj e2
  obtain ⟨ha3, hb3⟩ := and_e hb2
  obtain ⟨i3, e3⟩ := isL_v ha3
  obtain rfl : w3 = (.long i3) := Option.some.inj e3
  obtain ⟨ha4, hb4⟩ := and_e hb3
  obtain ⟨i4, e4⟩ := isL_v ha4
  obtain rfl : w4 = (.long i4) := Option.some.inj e4
  obtain ⟨i5, e5⟩ := is_v hb4
  obtain rfl : w5 = (.int i5) := Option.some.inj e5
  obtain ⟨n, o, h1, h2, h3, _, L, rfl, ⟨rfl, N⟩, hq⟩ := rm0 l s _ hw tables_1 i0 i1 i2 i3 i4 i5 s.heap s.heap.size (Nat.le_refl _)  p e ha hc hk s m _ below hf ((Spec.applies_iff_loose hf).mp happ).1 ⟨rfl, State.Warmed39.refl s, rfl⟩ trivial
  refine ⟨n, _, h1, h2, h3, hpost _ _ _ _ _ _ ⟨Cond.after_iff.mpr rfl, Cond.after_iff.mpr (eq_i res_at (Term.int_eval (1)) rfl), trivial⟩ ⟨hq.1, hq.2.1, (hq.2.2.sift fun y hy => Or.inr (N y hy)).mono (by decide) (by decide)⟩⟩
theorem main_1_1 : Claimed_1_1 := comes_1 fun _ _ _ _ _ _ h hF => ⟨h.1, hF⟩
theorem main_1_2 : Claimed_1_2 := comes_1 fun _ _ _ _ _ _ h hF => ⟨h.2.1, hF⟩
end Jvm.Pilot.@@N@@
namespace Jvm.Pilot.@@N@@
open Jvm Jvm.ClassFile Sem Op Lib Jvm.Free Jvm.Stand Jvm.Pilot.@@N@@.Jvm.D
/-! MADE BY PROGRAM (witnessworld.py) out of the Statement's table words and the real class files: 17 classes; the members and pool entries that the words name. The judged class is class 1, her method 1. -/
namespace start1
open Jvm.ClassFile
def u (s : String) : CpInfo := .utf8 (stringToUtf16 s)
/-- a pool by its gaps: so many unusable entries, then the entry; so many at the end -/
def gap : Nat → List CpInfo → List CpInfo
  | 0, r => r
  | n + 1, r => .unusable :: gap n r
def poolList (es : List (Nat × CpInfo)) (last : Nat) : List CpInfo := es.foldr (fun e r => gap e.1 (e.2 :: r)) (gap last [])
def pool (es : List (Nat × CpInfo)) (last : Nat) : Array CpInfo := ⟨poolList es last⟩
def fileOf (pool : Array CpInfo) (this : Nat) (attrs : Array Attribute := #[]) (ms : Array MethodInfo := #[]) (fl : Nat := 33) (sup : Nat := 0) (ifs : Array Nat := #[]) (fds : Array FieldInfo := #[]) : ClassFile where
  minorVersion := 0
  majorVersion := 65
  constantPool := pool
  accessFlags := fl
  thisClass := this
  superClass := sup
  interfaces := ifs
  fields := fds
  methods := ms
  attributes := attrs
def plain (name : String) (sup : Option ClassId) : Class where
  name := name
  kind := .ordinary
  loader := none
  accessFlags := 33
  super := sup
  interfaces := #[]
  cf := none
  fields := #[]
  methods := #[]
  instanceTypes := #[]
  staticTypes := #[]
  resolved := #[]
  callSites := []
  init := .initialized
  statics := none
  mirror := none

def pool0 : Array CpInfo := pool [(5, u "<init>"), (0, u "()V"), (1, .class_ 10), (1, u "java/lang/Object")] 113

def k0c0 : Code := { maxStack := 0, maxLocals := 1, code := object_method_1_code, exceptionTable := #[], attributes := #[] }
def k0m0 : Method := { name := "<init>", desc := "()V", sig := { parameters := [], returnType := none }, accessFlags := 1, code := some k0c0 }
/-- java/lang/Object -/
def k0 : Class := { plain "java/lang/Object" none with
  accessFlags := 33
  interfaces := #[]
  cf := some (fileOf pool0 8 #[] #[{ accessFlags := 1, nameIndex := 5, descriptorIndex := 6, attributes := #[] }] 33 0 #[] #[])
  fields := #[]
  methods := #[k0m0]
  instanceTypes := #[]
  staticTypes := #[]
  resolved := Array.replicate 124 none
  statics := none }

def pool1 : Array CpInfo := pool [(2, .class_ 4), (1, u "java/lang/Object"), (0, u "<init>"), (0, u "()V"), (0, .class_ 8), (0, u "com/example/rigorous_layout/rigorouslayout/Tally"), (0, .methodref 7 10), (0, .nameAndType 5 11), (0, u "(I)V"), (0, .methodref 7 13), (0, .nameAndType 14 15), (0, u "add"), (0, u "(J)I"), (0, .methodref 7 17), (0, .nameAndType 18 15), (0, u "count"), (0, .class_ 20), (0, u "com/example/rigorous_layout/rigorouslayout/TallyCountPinLaw"), (2, u "law"), (0, u "(IJJJJI)Z")] 3

def k1m0 : Method := { name := "<init>", desc := "()V", sig := { parameters := [], returnType := none }, accessFlags := 1, code := none }
def k1c1 : Code := { maxStack := 5, maxLocals := 23, code := code, exceptionTable := #[], attributes := #[] }
def k1m1 : Method := { name := "law", desc := "(IJJJJI)Z", sig := { parameters := [.int, .long, .long, .long, .long, .int], returnType := some .boolean }, accessFlags := 9, code := some k1c1 }
/-- com/example/rigorous_layout/rigorouslayout/TallyCountPinLaw -/
def k1 : Class := { plain "com/example/rigorous_layout/rigorouslayout/TallyCountPinLaw" (some 0) with
  accessFlags := 49
  interfaces := #[]
  cf := some (fileOf pool1 19 #[] #[{ accessFlags := 1, nameIndex := 5, descriptorIndex := 6, attributes := #[] }, { accessFlags := 9, nameIndex := 23, descriptorIndex := 24, attributes := #[] }] 49 2 #[] #[])
  fields := #[]
  methods := #[k1m0, k1m1]
  instanceTypes := #[]
  staticTypes := #[]
  resolved := Array.replicate 28 none
  statics := none }

def pool2 : Array CpInfo := pool [(2, .class_ 4), (1, u "com/example/rigorous_layout/rigorouslayout/Tally"), (0, u "<init>"), (0, u "(I)V"), (0, .methodref 8 9), (0, .class_ 10), (0, .nameAndType 5 11), (0, u "java/lang/Object"), (0, u "()V"), (0, .integer 524288), (0, .methodref 14 15), (0, .class_ 16), (0, .nameAndType 17 18), (0, u "java/lang/Math"), (0, u "min"), (0, u "(II)I"), (0, .methodref 14 20), (0, .nameAndType 21 18), (0, u "max"), (0, .methodref 23 24), (0, .class_ 25), (0, .nameAndType 26 27), (0, u "java/lang/Integer"), (0, u "highestOneBit"), (0, u "(I)I"), (0, .fieldref 2 29), (0, .nameAndType 30 31), (0, u "keys"), (0, u "[J"), (0, .fieldref 2 33), (0, .nameAndType 34 35), (0, u "counts"), (0, u "[I"), (0, .fieldref 2 37), (0, .nameAndType 38 39), (0, u "size"), (0, u "I"), (0, .methodref 2 41), (0, .nameAndType 42 43), (0, u "slot"), (0, u "([J[IJ)I"), (3, .methodref 2 48), (0, .nameAndType 49 11), (0, u "grow"), (0, .methodref 2 51), (0, .nameAndType 52 53), (0, u "home"), (0, u "(JI)I"), (27, u "LIMIT"), (4, u "count"), (0, u "(J)I"), (0, u "add")] 25

def k2m0 : Method := { name := "<init>", desc := "()V", sig := { parameters := [], returnType := none }, accessFlags := 0, code := none }
def k2c1 : Code := { maxStack := 5, maxLocals := 3, code := prog_33_method_2_code, exceptionTable := #[], attributes := #[] }
def k2m1 : Method := { name := "<init>", desc := "(I)V", sig := { parameters := [.int], returnType := none }, accessFlags := 0, code := some k2c1 }
def k2c2 : Code := { maxStack := 5, maxLocals := 3, code := prog_33_method_4_code, exceptionTable := #[], attributes := #[] }
def k2m2 : Method := { name := "count", desc := "(J)I", sig := { parameters := [.long], returnType := some .int }, accessFlags := 0, code := some k2c2 }
def k2c3 : Code := { maxStack := 5, maxLocals := 5, code := prog_33_method_5_code, exceptionTable := #[], attributes := #[] }
def k2m3 : Method := { name := "add", desc := "(J)I", sig := { parameters := [.long], returnType := some .int }, accessFlags := 0, code := some k2c3 }
def k2c4 : Code := { maxStack := 4, maxLocals := 6, code := prog_33_method_6_code, exceptionTable := #[], attributes := #[] }
def k2m4 : Method := { name := "slot", desc := "([J[IJ)I", sig := { parameters := [(.array .long), (.array .int), .long], returnType := some .int }, accessFlags := 10, code := some k2c4 }
def k2c5 : Code := { maxStack := 5, maxLocals := 3, code := prog_33_method_7_code, exceptionTable := #[], attributes := #[] }
def k2m5 : Method := { name := "home", desc := "(JI)I", sig := { parameters := [.long, .int], returnType := some .int }, accessFlags := 10, code := some k2c5 }
def k2c6 : Code := { maxStack := 4, maxLocals := 5, code := prog_33_method_8_code, exceptionTable := #[], attributes := #[] }
def k2m6 : Method := { name := "grow", desc := "()V", sig := { parameters := [], returnType := none }, accessFlags := 2, code := some k2c6 }
/-- com/example/rigorous_layout/rigorouslayout/Tally -/
def k2 : Class := { plain "com/example/rigorous_layout/rigorouslayout/Tally" (some 0) with
  accessFlags := 48
  interfaces := #[]
  cf := some (fileOf pool2 2 #[] #[{ accessFlags := 0, nameIndex := 5, descriptorIndex := 11, attributes := #[] }, { accessFlags := 0, nameIndex := 5, descriptorIndex := 6, attributes := #[] }, { accessFlags := 0, nameIndex := 86, descriptorIndex := 87, attributes := #[] }, { accessFlags := 0, nameIndex := 88, descriptorIndex := 87, attributes := #[] }, { accessFlags := 10, nameIndex := 42, descriptorIndex := 43, attributes := #[] }, { accessFlags := 10, nameIndex := 52, descriptorIndex := 53, attributes := #[] }, { accessFlags := 2, nameIndex := 49, descriptorIndex := 11, attributes := #[] }] 48 8 #[] #[{ accessFlags := 24, nameIndex := 81, descriptorIndex := 39, attributes := #[] }, { accessFlags := 2, nameIndex := 30, descriptorIndex := 31, attributes := #[] }, { accessFlags := 2, nameIndex := 34, descriptorIndex := 35, attributes := #[] }, { accessFlags := 2, nameIndex := 38, descriptorIndex := 39, attributes := #[] }])
  fields := #[{ name := "LIMIT", type := .int, accessFlags := 24, slot := 0, constantValue := 0 }, { name := "keys", type := (.array .long), accessFlags := 2, slot := 0, constantValue := 0 }, { name := "counts", type := (.array .int), accessFlags := 2, slot := 1, constantValue := 0 }, { name := "size", type := .int, accessFlags := 2, slot := 2, constantValue := 0 }]
  methods := #[k2m0, k2m1, k2m2, k2m3, k2m4, k2m5, k2m6]
  instanceTypes := #[(.array .long), (.array .int), .int]
  staticTypes := #[.int]
  resolved := Array.replicate 114 none
  statics := none }

def pool3 : Array CpInfo := pool [(1, .class_ 2), (0, u "java/lang/Math"), (1, .class_ 6), (1, u "java/lang/Object"), (0, u "<init>"), (0, u "()V"), (89, .class_ 100), (1, u "java/lang/Math$RandomNumberGeneratorHolder"), (71, u "negativeZeroFloatBits"), (0, u "J"), (2, u "negativeZeroDoubleBits"), (21, u "max"), (2, u "min"), (43, u "$assertionsDisabled"), (0, u "Z"), (88, u "(II)I"), (2, u "twoToTheDoubleScaleDown"), (0, u "D"), (4, u "twoToTheDoubleScaleUp"), (9, u "E"), (3, u "PI"), (2, u "TAU"), (2, u "DEGREES_TO_RADIANS"), (0, u "RADIANS_TO_DEGREES")] 94

def k3m0 : Method := { name := "<init>", desc := "()V", sig := { parameters := [], returnType := none }, accessFlags := 2, code := none }
def k3c1 : Code := { maxStack := 2, maxLocals := 2, code := jdk_29_method_65_code, exceptionTable := #[], attributes := #[] }
def k3m1 : Method := { name := "max", desc := "(II)I", sig := { parameters := [.int, .int], returnType := some .int }, accessFlags := 9, code := some k3c1 }
def k3c2 : Code := { maxStack := 2, maxLocals := 2, code := jdk_29_method_69_code, exceptionTable := #[], attributes := #[] }
def k3m2 : Method := { name := "min", desc := "(II)I", sig := { parameters := [.int, .int], returnType := some .int }, accessFlags := 9, code := some k3c2 }
/-- java/lang/Math -/
def k3 : Class := { plain "java/lang/Math" (some 0) with
  accessFlags := 49
  interfaces := #[]
  cf := some (fileOf pool3 1 #[.nestMembers #[98]] #[{ accessFlags := 2, nameIndex := 7, descriptorIndex := 8, attributes := #[] }, { accessFlags := 9, nameIndex := 198, descriptorIndex := 335, attributes := #[] }, { accessFlags := 9, nameIndex := 201, descriptorIndex := 335, attributes := #[] }] 49 4 #[] #[{ accessFlags := 25, nameIndex := 354, descriptorIndex := 339, attributes := #[] }, { accessFlags := 25, nameIndex := 358, descriptorIndex := 339, attributes := #[] }, { accessFlags := 25, nameIndex := 361, descriptorIndex := 339, attributes := #[] }, { accessFlags := 26, nameIndex := 364, descriptorIndex := 339, attributes := #[] }, { accessFlags := 26, nameIndex := 365, descriptorIndex := 339, attributes := #[] }, { accessFlags := 26, nameIndex := 172, descriptorIndex := 173, attributes := #[] }, { accessFlags := 26, nameIndex := 176, descriptorIndex := 173, attributes := #[] }, { accessFlags := 8, nameIndex := 344, descriptorIndex := 339, attributes := #[] }, { accessFlags := 8, nameIndex := 338, descriptorIndex := 339, attributes := #[] }, { accessFlags := 4120, nameIndex := 245, descriptorIndex := 246, attributes := #[] }])
  fields := #[{ name := "E", type := .double, accessFlags := 25, slot := 0, constantValue := 0 }, { name := "PI", type := .double, accessFlags := 25, slot := 1, constantValue := 0 }, { name := "TAU", type := .double, accessFlags := 25, slot := 2, constantValue := 0 }, { name := "DEGREES_TO_RADIANS", type := .double, accessFlags := 26, slot := 3, constantValue := 0 }, { name := "RADIANS_TO_DEGREES", type := .double, accessFlags := 26, slot := 4, constantValue := 0 }, { name := "negativeZeroFloatBits", type := .long, accessFlags := 26, slot := 5, constantValue := 0 }, { name := "negativeZeroDoubleBits", type := .long, accessFlags := 26, slot := 6, constantValue := 0 }, { name := "twoToTheDoubleScaleUp", type := .double, accessFlags := 8, slot := 7, constantValue := 0 }, { name := "twoToTheDoubleScaleDown", type := .double, accessFlags := 8, slot := 8, constantValue := 0 }, { name := "$assertionsDisabled", type := .boolean, accessFlags := 4120, slot := 9, constantValue := 0 }]
  methods := #[k3m0, k3m1, k3m2]
  instanceTypes := #[]
  staticTypes := #[.double, .double, .double, .double, .double, .long, .long, .double, .double, .boolean]
  resolved := Array.replicate 460 none
  statics := none }

def pool4 : Array CpInfo := pool [(1, .class_ 2), (0, u "java/io/Serializable"), (0, .class_ 4), (0, u "java/lang/Object")] 2

/-- java/io/Serializable -/
def k4 : Class := { plain "java/io/Serializable" (some 0) with
  accessFlags := 1537
  interfaces := #[]
  cf := some (fileOf pool4 1 #[] #[] 1537 3 #[] #[])
  fields := #[]
  methods := #[]
  instanceTypes := #[]
  staticTypes := #[]
  resolved := Array.replicate 7 none
  statics := none }

def pool5 : Array CpInfo := pool [(2, .class_ 4), (1, u "java/lang/Object"), (0, u "<init>"), (0, u "()V"), (1, .class_ 10), (1, u "java/lang/Number"), (2, .class_ 14), (0, u "java/io/Serializable"), (0, u "serialVersionUID"), (0, u "J")] 20

def k5m0 : Method := { name := "<init>", desc := "()V", sig := { parameters := [], returnType := none }, accessFlags := 1, code := none }
/-- java/lang/Number -/
def k5 : Class := { plain "java/lang/Number" (some 0) with
  accessFlags := 1057
  interfaces := #[4]
  cf := some (fileOf pool5 8 #[] #[{ accessFlags := 1, nameIndex := 5, descriptorIndex := 6, attributes := #[] }] 1057 2 #[13] #[{ accessFlags := 26, nameIndex := 15, descriptorIndex := 16, attributes := #[] }])
  fields := #[{ name := "serialVersionUID", type := .long, accessFlags := 26, slot := 0, constantValue := 0 }]
  methods := #[k5m0]
  instanceTypes := #[]
  staticTypes := #[.long]
  resolved := Array.replicate 37 none
  statics := none }

def pool6 : Array CpInfo := pool [(1, .class_ 2), (0, u "java/lang/Comparable"), (0, .class_ 4), (0, u "java/lang/Object")] 7

/-- java/lang/Comparable -/
def k6 : Class := { plain "java/lang/Comparable" (some 0) with
  accessFlags := 1537
  interfaces := #[]
  cf := some (fileOf pool6 1 #[] #[] 1537 3 #[] #[])
  fields := #[]
  methods := #[]
  instanceTypes := #[]
  staticTypes := #[]
  resolved := Array.replicate 12 none
  statics := none }

def pool7 : Array CpInfo := pool [(1, .class_ 2), (0, u "java/lang/constant/Constable"), (0, .class_ 4), (0, u "java/lang/Object")] 6

/-- java/lang/constant/Constable -/
def k7 : Class := { plain "java/lang/constant/Constable" (some 0) with
  accessFlags := 1537
  interfaces := #[]
  cf := some (fileOf pool7 1 #[] #[] 1537 3 #[] #[])
  fields := #[]
  methods := #[]
  instanceTypes := #[]
  staticTypes := #[]
  resolved := Array.replicate 11 none
  statics := none }

def pool8 : Array CpInfo := pool [(1, .class_ 2), (0, u "java/lang/constant/ConstantDesc"), (0, .class_ 4), (0, u "java/lang/Object")] 32

/-- java/lang/constant/ConstantDesc -/
def k8 : Class := { plain "java/lang/constant/ConstantDesc" (some 0) with
  accessFlags := 1537
  interfaces := #[]
  cf := some (fileOf pool8 1 #[] #[] 1537 3 #[] #[])
  fields := #[]
  methods := #[]
  instanceTypes := #[]
  staticTypes := #[]
  resolved := Array.replicate 37 none
  statics := none }

def pool9 : Array CpInfo := pool [(1, .class_ 2), (0, u "java/lang/Integer"), (16, u "digits"), (0, u "[C"), (30, .methodref 1 52), (0, .nameAndType 53 54), (0, u "numberOfLeadingZeros"), (0, u "(I)I"), (30, u "DigitOnes"), (0, u "[B"), (2, u "DigitTens"), (37, .integer 2147483648), (61, .class_ 190), (0, u "java/lang/Integer$IntegerCache"), (3, u "I"), (8, .class_ 204), (0, u "java/lang/Number"), (2, u "value"), (56, .integer 65536), (37, u "TYPE"), (0, u "Ljava/lang/Class;"), (0, .class_ 305), (0, u "java/lang/Comparable"), (0, .class_ 307), (0, u "java/lang/constant/Constable"), (0, .class_ 309), (0, u "java/lang/constant/ConstantDesc"), (0, u "MIN_VALUE"), (1, u "MAX_VALUE"), (3, u "SIZE"), (1, u "BYTES"), (1, u "serialVersionUID"), (0, u "J"), (81, u "highestOneBit")] 49

def k9c0 : Code := { maxStack := 3, maxLocals := 1, code := jdk_33_method_45_code, exceptionTable := #[], attributes := #[] }
def k9m0 : Method := { name := "highestOneBit", desc := "(I)I", sig := { parameters := [.int], returnType := some .int }, accessFlags := 9, code := some k9c0 }
def k9c1 : Code := { maxStack := 3, maxLocals := 2, code := jdk_33_method_47_code, exceptionTable := #[], attributes := #[] }
def k9m1 : Method := { name := "numberOfLeadingZeros", desc := "(I)I", sig := { parameters := [.int], returnType := some .int }, accessFlags := 9, code := some k9c1 }
/-- java/lang/Integer -/
def k9 : Class := { plain "java/lang/Integer" (some 5) with
  accessFlags := 49
  interfaces := #[6, 7, 8]
  cf := some (fileOf pool9 1 #[.nestMembers #[189]] #[{ accessFlags := 9, nameIndex := 403, descriptorIndex := 54, attributes := #[] }, { accessFlags := 9, nameIndex := 53, descriptorIndex := 54, attributes := #[] }] 49 203 #[304, 306, 308] #[{ accessFlags := 25, nameIndex := 310, descriptorIndex := 194, attributes := #[] }, { accessFlags := 25, nameIndex := 312, descriptorIndex := 194, attributes := #[] }, { accessFlags := 25, nameIndex := 302, descriptorIndex := 303, attributes := #[] }, { accessFlags := 24, nameIndex := 19, descriptorIndex := 20, attributes := #[] }, { accessFlags := 24, nameIndex := 89, descriptorIndex := 86, attributes := #[] }, { accessFlags := 24, nameIndex := 85, descriptorIndex := 86, attributes := #[] }, { accessFlags := 18, nameIndex := 207, descriptorIndex := 194, attributes := #[] }, { accessFlags := 25, nameIndex := 316, descriptorIndex := 194, attributes := #[] }, { accessFlags := 25, nameIndex := 318, descriptorIndex := 194, attributes := #[] }, { accessFlags := 26, nameIndex := 320, descriptorIndex := 321, attributes := #[] }])
  fields := #[{ name := "MIN_VALUE", type := .int, accessFlags := 25, slot := 0, constantValue := 0 }, { name := "MAX_VALUE", type := .int, accessFlags := 25, slot := 1, constantValue := 0 }, { name := "TYPE", type := (.object "java/lang/Class"), accessFlags := 25, slot := 2, constantValue := 0 }, { name := "digits", type := (.array .char), accessFlags := 24, slot := 3, constantValue := 0 }, { name := "DigitTens", type := (.array .byte), accessFlags := 24, slot := 4, constantValue := 0 }, { name := "DigitOnes", type := (.array .byte), accessFlags := 24, slot := 5, constantValue := 0 }, { name := "value", type := .int, accessFlags := 18, slot := 0, constantValue := 0 }, { name := "SIZE", type := .int, accessFlags := 25, slot := 6, constantValue := 0 }, { name := "BYTES", type := .int, accessFlags := 25, slot := 7, constantValue := 0 }, { name := "serialVersionUID", type := .long, accessFlags := 26, slot := 8, constantValue := 0 }]
  methods := #[k9m0, k9m1]
  instanceTypes := #[.int]
  staticTypes := #[.int, .int, (.object "java/lang/Class"), (.array .char), (.array .byte), (.array .byte), .int, .int, .long]
  resolved := Array.replicate 453 none
  statics := none }

def pool10 : Array CpInfo := pool [(1, u "java/lang/Cloneable"), (0, .class_ 1), (0, u "java/lang/Object"), (0, .class_ 3)] 3

/-- java/lang/Cloneable -/
def k10 : Class := { plain "java/lang/Cloneable" (some 0) with
  accessFlags := 1537
  interfaces := #[]
  cf := some (fileOf pool10 2 #[] #[] 1537 4 #[] #[])
  fields := #[]
  methods := #[]
  instanceTypes := #[]
  staticTypes := #[]
  resolved := Array.replicate 8 none
  statics := none }

/-- the primitive byte -/
def k11 : Class := { plain "byte" none with kind := .primitive 'B', accessFlags := 0x411 }
/-- [B -/
def k12 : Class := { plain "[B" (some 0) with kind := .array 11 .byte, interfaces := #[10, 4], accessFlags := 1041 }

/-- the primitive int -/
def k13 : Class := { plain "int" none with kind := .primitive 'I', accessFlags := 0x411 }
/-- [I -/
def k14 : Class := { plain "[I" (some 0) with kind := .array 13 .int, interfaces := #[10, 4], accessFlags := 1041 }

/-- the primitive long -/
def k15 : Class := { plain "long" none with kind := .primitive 'J', accessFlags := 0x411 }
/-- [J -/
def k16 : Class := { plain "[J" (some 0) with kind := .array 15 .long, interfaces := #[10, 4], accessFlags := 1041 }

def heap : Heap := #[]
def classes : Array Class := #[k0, k1, k2, k3, k4, k5, k6, k7, k8, k9, k10, k11, k12, k13, k14, k15, k16]
def interned : List (Array UInt16 × Addr) := []
def slotsUsed : Nat := 0
def theMethod : MethodId := ⟨1, 1⟩
def args0 : Array Value := #[.int 5, .long 5, .long 300, .long 7, .long 5, .int 255]
def aboutOver (below : List Frame) : State where
  vm := { classes := classes, interned := interned.toArray }
  heap := heap
  slotsUsed := slotsUsed
  threads := #[{ frames := .invoking theMethod args0 :: below }]
def below0 : List Frame := [.native { method := ⟨0, 0⟩, args := #[] }]
def about1 : State := aboutOver below0
def p0 : Program := .bare "" "" ""
def e0 : Env := launch0.env 0 0 0
theorem w_frames : about1.frames = Frame.invoking theMethod args0 :: below0 := rfl
set_option maxRecDepth 65536 in
theorem w_args : argsFit about1.vm theMethod args0 = true := by decide +kernel
set_option maxRecDepth 65536 in
theorem w_heap : heapFits about1 = true := by decide +kernel
set_option maxRecDepth 65536 in
theorem w_runnable : about1.curStatus? = some .runnable := by decide +kernel
set_option maxRecDepth 65536 in
theorem w_alone : about1.alone = true := by decide +kernel
set_option maxRecDepth 65536 in
theorem w_named : about1.methodNamed? x = some theMethod := by decide +kernel
set_option maxRecDepth 65536 in
theorem w_hears : about1.hears theMethod below0 = true := by decide +kernel
set_option maxRecDepth 65536 in
theorem w_ripe : about1.ripe theMethod args0 below0 = true := by decide +kernel
theorem w_running : about1.status = .running := rfl
set_option maxRecDepth 65536 in
theorem w_room : about1.hasRoom e0.platform room_1 = true :=
  launch0.hasRoom_least _ room_1 (by decide +kernel) (by decide +kernel) (by decide +kernel) (by decide +kernel) (by decide +kernel) (by decide +kernel)
theorem allAtoms_all (ts : List Jvm.Cond) (a : Array Jvm.Value) (st : Jvm.State) : (allAtoms ts).before a st = ts.all (fun c => c.before a st) := by
  induction ts with
  | nil => rfl
  | cons c t ih =>
    show (Jvm.Cond.and c (allAtoms t)).before a st = _
    rw [Jvm.Cond.before_and, ih, List.all_cons]
def words1 : List Jvm.Cond := Jvm.Cond.code x code maxLocals ret :: tables_1
/-- a 'code' word, met by the world's own term for the bytes: nothing is compared byte by byte -/
theorem code_word {y : MethodName} {bytes : ByteArray} {mx : Nat} {rt : Option FieldType} {a : Array Value} {s : State} {m : MethodId} {meth : Method} {c : Code} (h1 : s.methodNamed? y = some m) (h2 : s.vm.method? m = some meth) (h3 : meth.code = some c) (h4 : c.code = bytes)
    (h5 : (c.maxLocals == mx && c.exceptionTable.isEmpty && decide (c.maxStack ≤ mostOperands) && decide (meth.sig.returnType = rt) && !meth.locks && decide (parseMethodDescriptor y.desc = some meth.sig)) = true) : (Jvm.Cond.code y bytes mx rt).before a s = true := by
  simp only [Bool.and_eq_true, beq_iff_eq, Bool.not_eq_true', decide_eq_true_eq] at h5
  obtain ⟨⟨⟨⟨⟨g1, g2⟩, g3⟩, g4⟩, g5⟩, g6⟩ := h5
  simp [Cond.before, Cond.holds, Cond.value, h1, h2, h3, h4, g1, g2, g3, g4, g5, g6]
def isCode : Jvm.Cond → Bool
  | .code _ _ _ _ => true
  | _ => false
theorem all_split {L : List Jvm.Cond} {P : Jvm.Cond → Bool} (h1 : L.all (fun c => isCode c || P c) = true) (h2 : ∀ c ∈ L.filter isCode, P c = true) : L.all P = true := by
  refine List.all_eq_true.mpr fun c hc => ?_
  have h := List.all_eq_true.mp h1 c hc
  rcases Bool.eq_false_or_eq_true (isCode c) with hi | hi
  · exact h2 c (List.mem_filter.mpr ⟨hc, hi⟩)
  · simpa [hi] using h
set_option maxRecDepth 65536 in
theorem w_c0 : (Jvm.Cond.code x code maxLocals ret).before args0 about1 = true := code_word (m := ⟨1, 1⟩) (meth := k1m1) (c := k1c1) (by decide +kernel) rfl rfl rfl (by decide +kernel)
set_option maxRecDepth 65536 in
theorem w_c1 : (Jvm.Cond.code ({ cls := "com/example/rigorous_layout/rigorouslayout/Tally", name := "<init>", desc := "(I)V" } : Jvm.MethodName) prog_33_method_2_code (3 : Nat) (Option.none : Option Jvm.ClassFile.FieldType)).before args0 about1 = true := code_word (m := ⟨2, 1⟩) (meth := k2m1) (c := k2c1) (by decide +kernel) rfl rfl rfl (by decide +kernel)
set_option maxRecDepth 65536 in
theorem w_c2 : (Jvm.Cond.code ({ cls := "java/lang/Object", name := "<init>", desc := "()V" } : Jvm.MethodName) object_method_1_code (1 : Nat) (Option.none : Option Jvm.ClassFile.FieldType)).before args0 about1 = true := code_word (m := ⟨0, 0⟩) (meth := k0m0) (c := k0c0) (by decide +kernel) rfl rfl rfl (by decide +kernel)
set_option maxRecDepth 65536 in
theorem w_c3 : (Jvm.Cond.code ({ cls := "java/lang/Math", name := "min", desc := "(II)I" } : Jvm.MethodName) jdk_29_method_69_code (2 : Nat) (Option.some Jvm.ClassFile.FieldType.int)).before args0 about1 = true := code_word (m := ⟨3, 2⟩) (meth := k3m2) (c := k3c2) (by decide +kernel) rfl rfl rfl (by decide +kernel)
set_option maxRecDepth 65536 in
theorem w_c4 : (Jvm.Cond.code ({ cls := "java/lang/Math", name := "max", desc := "(II)I" } : Jvm.MethodName) jdk_29_method_65_code (2 : Nat) (Option.some Jvm.ClassFile.FieldType.int)).before args0 about1 = true := code_word (m := ⟨3, 1⟩) (meth := k3m1) (c := k3c1) (by decide +kernel) rfl rfl rfl (by decide +kernel)
set_option maxRecDepth 65536 in
theorem w_c5 : (Jvm.Cond.code ({ cls := "java/lang/Integer", name := "highestOneBit", desc := "(I)I" } : Jvm.MethodName) jdk_33_method_45_code (1 : Nat) (Option.some Jvm.ClassFile.FieldType.int)).before args0 about1 = true := code_word (m := ⟨9, 0⟩) (meth := k9m0) (c := k9c0) (by decide +kernel) rfl rfl rfl (by decide +kernel)
set_option maxRecDepth 65536 in
theorem w_c6 : (Jvm.Cond.code ({ cls := "java/lang/Integer", name := "numberOfLeadingZeros", desc := "(I)I" } : Jvm.MethodName) jdk_33_method_47_code (2 : Nat) (Option.some Jvm.ClassFile.FieldType.int)).before args0 about1 = true := code_word (m := ⟨9, 1⟩) (meth := k9m1) (c := k9c1) (by decide +kernel) rfl rfl rfl (by decide +kernel)
set_option maxRecDepth 65536 in
theorem w_c7 : (Jvm.Cond.code ({ cls := "com/example/rigorous_layout/rigorouslayout/Tally", name := "add", desc := "(J)I" } : Jvm.MethodName) prog_33_method_5_code (5 : Nat) (Option.some Jvm.ClassFile.FieldType.int)).before args0 about1 = true := code_word (m := ⟨2, 3⟩) (meth := k2m3) (c := k2c3) (by decide +kernel) rfl rfl rfl (by decide +kernel)
set_option maxRecDepth 65536 in
theorem w_c8 : (Jvm.Cond.code ({ cls := "com/example/rigorous_layout/rigorouslayout/Tally", name := "slot", desc := "([J[IJ)I" } : Jvm.MethodName) prog_33_method_6_code (6 : Nat) (Option.some Jvm.ClassFile.FieldType.int)).before args0 about1 = true := code_word (m := ⟨2, 4⟩) (meth := k2m4) (c := k2c4) (by decide +kernel) rfl rfl rfl (by decide +kernel)
set_option maxRecDepth 65536 in
theorem w_c9 : (Jvm.Cond.code ({ cls := "com/example/rigorous_layout/rigorouslayout/Tally", name := "home", desc := "(JI)I" } : Jvm.MethodName) prog_33_method_7_code (3 : Nat) (Option.some Jvm.ClassFile.FieldType.int)).before args0 about1 = true := code_word (m := ⟨2, 5⟩) (meth := k2m5) (c := k2c5) (by decide +kernel) rfl rfl rfl (by decide +kernel)
set_option maxRecDepth 65536 in
theorem w_c10 : (Jvm.Cond.code ({ cls := "com/example/rigorous_layout/rigorouslayout/Tally", name := "count", desc := "(J)I" } : Jvm.MethodName) prog_33_method_4_code (3 : Nat) (Option.some Jvm.ClassFile.FieldType.int)).before args0 about1 = true := code_word (m := ⟨2, 2⟩) (meth := k2m2) (c := k2c2) (by decide +kernel) rfl rfl rfl (by decide +kernel)
set_option maxRecDepth 65536 in
theorem w_c11 : (Jvm.Cond.code ({ cls := "com/example/rigorous_layout/rigorouslayout/Tally", name := "grow", desc := "()V" } : Jvm.MethodName) prog_33_method_8_code (5 : Nat) (Option.none : Option Jvm.ClassFile.FieldType)).before args0 about1 = true := code_word (m := ⟨2, 6⟩) (meth := k2m6) (c := k2c6) (by decide +kernel) rfl rfl rfl (by decide +kernel)
def codes1 : List Jvm.Cond := [Jvm.Cond.code x code maxLocals ret, Jvm.Cond.code ({ cls := "com/example/rigorous_layout/rigorouslayout/Tally", name := "<init>", desc := "(I)V" } : Jvm.MethodName) prog_33_method_2_code (3 : Nat) (Option.none : Option Jvm.ClassFile.FieldType), Jvm.Cond.code ({ cls := "java/lang/Object", name := "<init>", desc := "()V" } : Jvm.MethodName) object_method_1_code (1 : Nat) (Option.none : Option Jvm.ClassFile.FieldType), Jvm.Cond.code ({ cls := "java/lang/Math", name := "min", desc := "(II)I" } : Jvm.MethodName) jdk_29_method_69_code (2 : Nat) (Option.some Jvm.ClassFile.FieldType.int), Jvm.Cond.code ({ cls := "java/lang/Math", name := "max", desc := "(II)I" } : Jvm.MethodName) jdk_29_method_65_code (2 : Nat) (Option.some Jvm.ClassFile.FieldType.int), Jvm.Cond.code ({ cls := "java/lang/Integer", name := "highestOneBit", desc := "(I)I" } : Jvm.MethodName) jdk_33_method_45_code (1 : Nat) (Option.some Jvm.ClassFile.FieldType.int), Jvm.Cond.code ({ cls := "java/lang/Integer", name := "numberOfLeadingZeros", desc := "(I)I" } : Jvm.MethodName) jdk_33_method_47_code (2 : Nat) (Option.some Jvm.ClassFile.FieldType.int), Jvm.Cond.code ({ cls := "com/example/rigorous_layout/rigorouslayout/Tally", name := "add", desc := "(J)I" } : Jvm.MethodName) prog_33_method_5_code (5 : Nat) (Option.some Jvm.ClassFile.FieldType.int), Jvm.Cond.code ({ cls := "com/example/rigorous_layout/rigorouslayout/Tally", name := "slot", desc := "([J[IJ)I" } : Jvm.MethodName) prog_33_method_6_code (6 : Nat) (Option.some Jvm.ClassFile.FieldType.int), Jvm.Cond.code ({ cls := "com/example/rigorous_layout/rigorouslayout/Tally", name := "home", desc := "(JI)I" } : Jvm.MethodName) prog_33_method_7_code (3 : Nat) (Option.some Jvm.ClassFile.FieldType.int), Jvm.Cond.code ({ cls := "com/example/rigorous_layout/rigorouslayout/Tally", name := "count", desc := "(J)I" } : Jvm.MethodName) prog_33_method_4_code (3 : Nat) (Option.some Jvm.ClassFile.FieldType.int), Jvm.Cond.code ({ cls := "com/example/rigorous_layout/rigorouslayout/Tally", name := "grow", desc := "()V" } : Jvm.MethodName) prog_33_method_8_code (5 : Nat) (Option.none : Option Jvm.ClassFile.FieldType)]
set_option maxRecDepth 65536 in
theorem codes_eq : words1.filter isCode = codes1 := rfl
theorem w_codes : ∀ c ∈ words1.filter isCode, c.before args0 about1 = true := by
  rw [codes_eq]
  intro c hc
  simp only [codes1, List.mem_cons, List.not_mem_nil, or_false] at hc
  rcases hc with rfl | rfl | rfl | rfl | rfl | rfl | rfl | rfl | rfl | rfl | rfl | rfl
  · exact w_c0
  · exact w_c1
  · exact w_c2
  · exact w_c3
  · exact w_c4
  · exact w_c5
  · exact w_c6
  · exact w_c7
  · exact w_c8
  · exact w_c9
  · exact w_c10
  · exact w_c11
set_option maxRecDepth 65536 in
theorem w_t1 : (words1.take 24).all (fun c => isCode c || c.before args0 about1) = true := by decide +kernel
set_option maxRecDepth 65536 in
theorem w_t2 : ((words1.drop 24).take 24).all (fun c => isCode c || c.before args0 about1) = true := by decide +kernel
set_option maxRecDepth 65536 in
theorem w_t3 : ((words1.drop 24).drop 24).all (fun c => isCode c || c.before args0 about1) = true := by decide +kernel
theorem w_tables : (allAtoms (Jvm.Cond.code x code maxLocals ret :: tables_1)).before args0 about1 = true := by
  rw [allAtoms_all]
  show words1.all (fun c => c.before args0 about1) = true
  refine all_split ?_ w_codes
  rw [← List.take_append_drop 24 words1, List.all_append, w_t1, ← List.take_append_drop 24 (words1.drop 24), List.all_append, w_t2, w_t3]
  rfl
set_option maxRecDepth 65536 in
theorem w_case : (Jvm.Cond.and given_1 narrow_1).before args0 about1 = true := by decide +kernel
theorem w_applies : (headSpec (Jvm.Cond.code x code maxLocals ret :: tables_1) room_1).applies x e0.platform about1 = true :=
  (Spec.applies_iff w_frames).mpr ⟨w_running, w_runnable, w_alone, w_named, w_hears, w_ripe, w_room, w_tables⟩
theorem atStart : AtStart classFile x code maxLocals ret World_1 tables_1 room_1 Calls_1 rest_1 Pre_1 launch0 p0 e0 about1 theMethod args0 below0 :=
  ⟨lists_1, trivial, launch0.admits_env _ _ _, launch0.least_env, fairChoices_fair.cas, fairChoices_fair.clock, w_frames, w_args, w_heap, w_applies, trivial, trivial, w_case⟩
end start1
theorem witness_1 : WitnessClaimed_1 := ⟨start1.p0, start1.e0, start1.about1, start1.theMethod, start1.args0, start1.below0, start1.atStart⟩
end Jvm.Pilot.@@N@@
