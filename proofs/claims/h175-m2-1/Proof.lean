import JvmDerived
import JvmDerived.Pilot.@@N@@Statement
import JvmDerived.Pilot.@@N@@Code
set_option linter.unusedVariables false
set_option linter.unusedSimpArgs false
namespace Jvm.RoadKit
open Sem ClassFile Op Lib Jvm.Stand Jvm.Free Jvm.LawKit
section New
variable {p : Program} {l : Launch} {e : Env} {R : Room} {s : State} {m : MethodId} {args : Array Value} {below : List Frame} {meth : Method} {c : Code} {T : State} {locs : List Loc} {cells slots : Nat}
theorem retI (X : Stand p l e R s m args below meth c T locs cells slots) (hx : p.tables.exec = Jvm.exec) {pc : Nat} {Ls : Array Slot} {z : Int32} {rest : List Value} (hret : meth.sig.returnType = some .int) (hd : decode c.code pc = .ok (.ireturn, 1)) {fs : List Frame}
    (hl : ∀ (f : JFrame) (acts : List Action), f.method = m → f.locked = none → f.entered = [] → (doReturn e (T.setTop f) acts (some (.int z))).1 = T.setFrames fs) : Steps p.tables e below (T.setTop (mkF m pc Ls (.int z :: rest))) (T.setFrames fs) := by
  have hm' : T.vm.method? m = some meth := X.method'
  have hn : narrow .int (.int z) = .int z := rfl
  show Steps p.tables e below (T.setTop { method := m, pc := pc, locals := Ls, stack := _ :: rest, locked := none }) _
  jvm_step X.here [X.here.top, hx, hd, hm', hret, hn]
  first | (intro acts; rw [hl _ acts rfl rfl rfl]) | rw [hl _ _ rfl rfl rfl]
  exact Steps.refl _
end New
end Jvm.RoadKit
namespace Jvm.RoadKit
open Sem ClassFile Op Lib Bundle Jvm.Stand Jvm.Free Jvm.LawKit Jvm.Free.SB Jvm.Free.SBG
section Goes
variable {p : Program} {l : Launch} {e : Env} {R : Room} {s : State} {m : MethodId} {args : Array Value} {below : List Frame} {meth : Method} {c : Code} {T T' : State} {locs : List Loc} {cells slots k n : Nat} {F : Outcome → State → Prop} {Q : Option Value → Heap → List Loc → Prop}
/-- from T the run comes to an end of which F holds -/
def Go (p : Program) (e : Env) (below : List Frame) (T : State) (F : Outcome → State → Prop) : Prop := ∃ s₂ o, Steps p.tables e below T s₂ ∧ s₂.status = .running ∧ Ended s₂ below o ∧ F o s₂
theorem Go.st (k : ∀ t, Steps p.tables e below T' t → Steps p.tables e below T t) (G : Go p e below T' F) : Go p e below T F := by
  obtain ⟨s2, o, h, r⟩ := G
  exact ⟨s2, o, k _ h, r⟩
theorem Go.top {g g' : JFrame} (q : g = g') (G : Go p e below (T.setTop g') F) : Go p e below (T.setTop g) F := q ▸ G
/-- the end of a body that interns nothing -/
abbrev EndN (s : State) (Q : Option Value → Heap → List Loc → Prop) (cells slots : Nat) : Outcome → State → Prop := fun o U' => ∃ v L, o = .returned v ∧ Q v U'.heap L ∧ FrameEnd s o U' L cells slots
/-- the end of a body that may intern -/
abbrev EndW (s : State) (Q : Option Value → Heap → List Loc → Prop) (cells slots : Nat) : Outcome → State → Prop := fun o U' => ∃ v L, o = .returned v ∧ Q v U'.heap L ∧ ReturnedEndW s o U' L cells slots
theorem Go.done (X : Stand p l e R s m args below meth c T locs k n) (hlocks : meth.locks = false) {v : Option Value} (hv : meth.sig.returnType = none → v = none) {f : JFrame}
    (st : ∀ fs, (∀ (f : JFrame) (acts : List Action), f.method = m → f.locked = none → f.entered = [] → (doReturn e (T.setTop f) acts v).1 = T.setFrames fs) → Steps p.tables e below (T.setTop f) (T.setFrames fs))
    (hQ : Q v T.heap locs) (hk : k ≤ cells) (hn : n ≤ slots) : Go p e below (T.setTop f) (EndN s Q cells slots) := by
  obtain ⟨fs, hr, hrun, hended, hW, hsame⟩ := X.leave (v := v) hv hlocks
  exact ⟨_, _, st fs hr, hrun, hended, v, locs, rfl, hQ, ⟨_, rfl⟩, hW, hsame.mono hk hn⟩
theorem Go.doneW {vm₁ : Vm} (X : Stand p l e R (s.setVm vm₁) m args below meth c T locs k n) {N : Nat} (hS : s.Since vm₁ N) (hN : N ≤ T.heap.size) (hlocks : meth.locks = false) {v : Option Value} (hv : meth.sig.returnType = none → v = none) {f : JFrame}
    (st : ∀ fs, (∀ (f : JFrame) (acts : List Action), f.method = m → f.locked = none → f.entered = [] → (doReturn e (T.setTop f) acts v).1 = T.setFrames fs) → Steps p.tables e below (T.setTop f) (T.setFrames fs))
    (hQ : Q v T.heap locs) (hk : k ≤ cells) (hn : n ≤ slots) : Go p e below (T.setTop f) (EndW s Q cells slots) := by
  obtain ⟨fs, hr, hrun, hended, h1, h2, h3, h4⟩ := X.leaveW hS hN (v := v) hv hlocks
  exact ⟨_, _, st fs hr, hrun, hended, v, locs, rfl, hQ, h1, h2, h3, h4.mono hk hn⟩
/-- the end of a body that may intern, and that keeps what is booked of EL -/
abbrev EndH (Z : State) (EL : List (String × Nat)) (s : State) (Q : Option Value → Heap → List Loc → Prop) (cells slots : Nat) : Outcome → State → Prop := fun o U' => ∃ v L, o = .returned v ∧ Q v U'.heap L ∧ CHr Z EL s.vm s.heap U'.vm U'.heap ∧ ReturnedEndW s o U' L cells slots
theorem Go.doneH {Z : State} {a0 : Array Value} {EL : List (String × Nat)} {vm₁ : Vm} {h0 h : Heap} (X : Stand p l e R (s.setVm vm₁) m args below meth c T locs k n) {N : Nat} (hS : s.Since vm₁ N) (hN : N ≤ T.heap.size) (hlocks : meth.locks = false) {v : Option Value} (hv : meth.sig.returnType = none → v = none) {f : JFrame}
    (st : ∀ fs, (∀ (f : JFrame) (acts : List Action), f.method = m → f.locked = none → f.entered = [] → (doReturn e (T.setTop f) acts v).1 = T.setFrames fs) → Steps p.tables e below (T.setTop f) (T.setFrames fs))
    (hQ : Q v T.heap locs) (hk : k ≤ cells) (hn : n ≤ slots) (hZ : Z.Warmed39 vm₁) (hEL : EW Z a0 EL) (hh : s.heap = h0) (eT : T.heap = h) (hC : CHr Z EL s.vm h0 vm₁ h) : Go p e below (T.setTop f) (EndH Z EL s Q cells slots) := by
  subst hh eT
  obtain ⟨fs, hr, hrun, hended, h1, h2, h3, h4⟩ := X.leaveW hS hN (v := v) hv hlocks
  exact ⟨_, _, st fs hr, hrun, hended, v, locs, rfl, hQ, show CHr Z EL s.vm s.heap T.vm T.heap from hC.trans (CHv.at X hZ hEL hC.1), h1, h2, h3, h4.mono hk hn⟩
/-- a String whose value is still null is none that is booked -/
theorem own_safe {Z : State} {EL : List (String × Nat)} {vm : Vm} {h : Heap} {x : Addr} (hal : Z.vm.Alike vm) (E : Exa Z h x "java/lang/String") (F : Fld Z h x "java/lang/String" "value" "[B" .null) : Safe Z EL vm h x := fun B => by
  obtain ⟨p, -, u, a, -, q, -, S, hy⟩ := B
  obtain ⟨cell, cf, k, i, f, f1, f2, -, -, -, -, f7⟩ := F
  obtain ⟨cS, ⟨⟨s1, -, -, ⟨cv, kv, iv, s4, -⟩, -, s6, -, s8, -, s10, -⟩, -, -⟩, -, hB, -⟩ := S
  rcases hy with rfl | rfl
  · cases (show h[q.sa]? = some q.sC from s1).symm.trans f1
    obtain ⟨kv', z4⟩ := ff_back (U := Wst Z vm h) hal s4
    cases f2.symm.trans z4
    rw [s8] at f7
    cases f7
  · obtain ⟨cell', k', e1, e2, e3, -⟩ := E
    cases (show h[q.sd]? = some q.SA from s10).symm.trans e1
    have hB' : Z.vm.findClass "[B" = some q.SA.cls := by rw [← hal.findClass]; exact hB
    exact ids_ne hB' e2 (by decide) rfl
theorem retJ (X : Stand p l e R s m args below meth c T locs cells slots) (hx : p.tables.exec = Jvm.exec) {pc : Nat} {Ls : Array Slot} {z : Int64} {rest : List Value} (hret : meth.sig.returnType = some .long) (hd : decode c.code pc = .ok (.lreturn, 1)) {fs : List Frame}
    (hl : ∀ (f : JFrame) (acts : List Action), f.method = m → f.locked = none → f.entered = [] → (doReturn e (T.setTop f) acts (some (.long z))).1 = T.setFrames fs) : Steps p.tables e below (T.setTop (mkF m pc Ls (.long z :: rest))) (T.setFrames fs) :=
  retOut X hx hret rfl (Or.inr (Or.inl ⟨rfl, rfl, z, rfl⟩)) hd hl
theorem retA (X : Stand p l e R s m args below meth c T locs cells slots) (hx : p.tables.exec = Jvm.exec) {pc : Nat} {Ls : Array Slot} {w : Value} {t : FieldType} {rest : List Value} (hret : meth.sig.returnType = some t) (hn : narrow t w = w) (ht : t.isReference = true) (hw : w.isRef = true) (hd : decode c.code pc = .ok (.areturn, 1)) {fs : List Frame}
    (hl : ∀ (f : JFrame) (acts : List Action), f.method = m → f.locked = none → f.entered = [] → (doReturn e (T.setTop f) acts (some w)).1 = T.setFrames fs) : Steps p.tables e below (T.setTop (mkF m pc Ls (w :: rest))) (T.setFrames fs) :=
  retOut X hx hret hn (Or.inr (Or.inr (Or.inr (Or.inr ⟨rfl, ht, hw⟩)))) hd hl
end Goes
end Jvm.RoadKit
namespace Jvm.Pilot.@@N@@
open Jvm Jvm.ClassFile Sem Op Lib Jvm.Free Jvm.Stand Jvm.LawKit Jvm.RoadKit Bundle Jvm.Pilot.@@N@@.Jvm.D
theorem own_i {w : Nat} (h : w < 2147483648) : (Int32.ofNat w).toInt = w := by
  rw [Int32.toInt_ofNat_of_lt (by omega)]
theorem own_clamp {w : Nat} (h : w < 2147483648) : (Int32.ofNat w).toNatClampNeg = w := by simp only [Int32.toNatClampNeg]; rw [own_i h]; rfl
theorem own_nn {w : Nat} (h : w < 2147483648) : ¬ Int32.ofNat w < 0 := by rw [Int32.lt_iff_toInt_lt, own_i h]; show ¬ (w : Int) < 0; omega
theorem own_add {a b : Nat} (h : a + b < 2147483648) : Int32.ofNat a + Int32.ofNat b = Int32.ofNat (a + b) := by
  apply Int32.toInt_inj.mp
  have q := c_iadd (Int32.ofNat a) (Int32.ofNat b)
  have r := rng32 (Int32.ofNat a + Int32.ofNat b)
  rw [own_i (by omega), own_i (by omega)] at q
  rw [own_i h]; omega
theorem own_addn {a : Nat} {k : Int32} {b : Nat} (hk : k = Int32.ofNat b) (h : a + b < 2147483648) : Int32.ofNat a + k = Int32.ofNat (a + b) := by rw [hk]; exact own_add h
theorem own_dec {a : Nat} (h0 : 1 ≤ a) (h : a < 2147483648) : Int32.ofNat a + (-1 : Int32) = Int32.ofNat (a - 1) := by
  apply Int32.toInt_inj.mp
  have q := c_iadd (Int32.ofNat a) (-1)
  have r := rng32 (Int32.ofNat a + (-1))
  have e1 : (-1 : Int32).toInt = -1 := rfl
  rw [own_i (by omega), e1] at q
  rw [own_i (by omega)]; omega
theorem own_sub1 {a : Nat} (h0 : 1 ≤ a) (h : a < 2147483648) : Int32.ofNat a - (1 : Int32) = Int32.ofNat (a - 1) := by
  apply Int32.toInt_inj.mp
  have q := c_isub (Int32.ofNat a) 1
  have r := rng32 (Int32.ofNat a - 1)
  have e1 : (1 : Int32).toInt = 1 := rfl
  rw [own_i (by omega), e1] at q
  rw [own_i (by omega)]; omega
theorem own_sub0 {a : Nat} (h : a < 2147483648) : Int32.ofNat a - (0 : Int32) = Int32.ofNat a := by
  apply Int32.toInt_inj.mp
  have q := c_isub (Int32.ofNat a) 0
  have r := rng32 (Int32.ofNat a - 0)
  have e1 : (0 : Int32).toInt = 0 := rfl
  rw [own_i (by omega), e1] at q
  rw [own_i (by omega)]; omega
theorem own_lt32 {i n : Nat} (hi : i < 2147483648) (hn : n < 2147483648) : Int32.ofNat i < Int32.ofNat n ↔ i < n := by
  rw [Int32.lt_iff_toInt_lt, own_i hi, own_i hn]; omega
theorem own_eq32 {i n : Nat} (hi : i < 2147483648) (hn : n < 2147483648) : Int32.ofNat i = Int32.ofNat n ↔ i = n := by
  constructor
  · intro q
    have t := congrArg Int32.toInt q
    rw [own_i hi, own_i hn] at t
    omega
  · rintro rfl; rfl
theorem own_shl1 {n : Nat} (h : n ≤ 5000) : Int32.ofNat n <<< ((1 : Int32) &&& 31) = Int32.ofNat (2 * n) := by
  have t : ∀ (a : Fin 80) (b : Fin 64), Int32.ofNat (64 * a.val + b.val) <<< ((1 : Int32) &&& 31) = Int32.ofNat (2 * (64 * a.val + b.val)) := by decide +kernel
  have q := t ⟨n / 64, by omega⟩ ⟨n % 64, by omega⟩
  have e : 64 * (n / 64) + n % 64 = n := by omega
  simp only [e] at q
  exact q
theorem own_shr1 {n : Nat} (h : n ≤ 5000) : Int32.ofNat (2 * n) >>> ((1 : Int32) &&& 31) = Int32.ofNat n := by
  have t : ∀ (a : Fin 80) (b : Fin 64), Int32.ofNat (2 * (64 * a.val + b.val)) >>> ((1 : Int32) &&& 31) = Int32.ofNat (64 * a.val + b.val) := by decide +kernel
  have q := t ⟨n / 64, by omega⟩ ⟨n % 64, by omega⟩
  have e : 64 * (n / 64) + n % 64 = n := by omega
  simp only [e] at q
  exact q
theorem own_shr0 {n : Nat} (h : n ≤ 5000) : Int32.ofNat n >>> ((0 : Int32) &&& 31) = Int32.ofNat n := by
  have t : ∀ (a : Fin 80) (b : Fin 64), Int32.ofNat (64 * a.val + b.val) >>> ((0 : Int32) &&& 31) = Int32.ofNat (64 * a.val + b.val) := by decide +kernel
  have q := t ⟨n / 64, by omega⟩ ⟨n % 64, by omega⟩
  have e : 64 * (n / 64) + n % 64 = n := by omega
  simp only [e] at q
  exact q
/-- what coderFromArrayLen answers -/
def own_cfl (a b : Int32) : Int32 := nar .byte (((a - b).toUInt32 >>> ((31 : Int32) &&& 31).toUInt32).toInt32.toInt8.toInt32)
theorem own_cfl0 {n : Nat} (h : n ≤ 5000) : own_cfl (Int32.ofNat n) (Int32.ofNat n) = 0 := by
  have t : ∀ (a : Fin 80) (b : Fin 64), own_cfl (Int32.ofNat (64 * a.val + b.val)) (Int32.ofNat (64 * a.val + b.val)) = 0 := by decide +kernel
  have q := t ⟨n / 64, by omega⟩ ⟨n % 64, by omega⟩
  have e : 64 * (n / 64) + n % 64 = n := by omega
  simp only [e] at q
  exact q
theorem own_cfl1 {n : Nat} (h0 : 1 ≤ n) (h : n ≤ 5000) : own_cfl (Int32.ofNat n) (Int32.ofNat (2 * n)) = 1 := by
  have t : ∀ (a : Fin 80) (b : Fin 64), (64 * a.val + b.val) = 0 ∨ own_cfl (Int32.ofNat (64 * a.val + b.val)) (Int32.ofNat (2 * (64 * a.val + b.val))) = 1 := by decide +kernel
  have q := t ⟨n / 64, by omega⟩ ⟨n % 64, by omega⟩
  have e : 64 * (n / 64) + n % 64 = n := by omega
  simp only [e] at q
  exact q.resolve_left (by omega)
theorem own_gd (cs : List Int32) {i : Nat} (h : i < 2147483648) : (cs.map Value.int).getD (Int32.ofNat i).toNatClampNeg (.int (0 : Int32)) = .int (cs.getD i 0) := by
  rw [own_clamp h, List.getD_eq_getElem?_getD, List.getD_eq_getElem?_getD, List.getElem?_map]
  cases cs[i]? <;> rfl
def own_B0 (c : Int32) : Int32 := nar .byte ((c >>> ((0 : Int32) &&& 31)).toInt8.toInt32)
def own_B1 (c : Int32) : Int32 := nar .byte ((c >>> ((8 : Int32) &&& 31)).toInt8.toInt32)
def own_gcx (a b : Int32) : Int32 := nar .char (((((a &&& (255 : Int32)) <<< ((0 : Int32) &&& 31)) ||| ((b &&& (255 : Int32)) <<< ((8 : Int32) &&& 31)))).toUInt32.toUInt16.toUInt32.toInt32)
theorem own_low (y : Int32) : y.toInt8.toInt32 &&& (255 : Int32) = Int32.ofNat (y.toBitVec.toNat % 256) := by
  apply Int32.toBitVec_inj.mp
  rw [Int32.toBitVec_and, Int8.toBitVec_toInt32, Int32.toBitVec_toInt8, show Int32.toBitVec 255 = 255#32 by decide]
  show _ = BitVec.ofNat 32 (y.toBitVec.toNat % 256)
  apply BitVec.eq_of_getLsbD_eq
  intro i hi
  have m : ∀ k : Fin 32, (255#32).getLsbD k.val = decide (k.val < 8) := by decide
  have m' := m ⟨i, hi⟩
  rw [BitVec.getLsbD_and, m', BitVec.getLsbD_signExtend, BitVec.getLsbD_signExtend, BitVec.getLsbD_ofNat, show (256 : Nat) = 2 ^ 8 by rfl, Nat.testBit_mod_two_pow]
  by_cases h8 : i < 8
  · have h32 : i < 32 := hi
    simp [h8, h32, BitVec.getLsbD]
  · simp [h8]
theorem own_ofnat (c : Int32) : c = Int32.ofNat c.toBitVec.toNat := by
  apply Int32.toBitVec_inj.mp
  show _ = BitVec.ofNat 32 _
  rw [BitVec.ofNat_toNat]; simp
theorem own_v {c : Int32} (h0 : ¬ c < 0) (h1 : ¬ (65535 : Int32) < c) : c.toBitVec.toNat < 65536 := by
  rw [Int32.lt_iff_toInt_lt] at h0 h1
  have e1 : (0 : Int32).toInt = 0 := rfl
  have e2 : (65535 : Int32).toInt = 65535 := rfl
  have e3 : c.toInt = c.toBitVec.toInt := rfl
  rw [BitVec.toInt_eq_toNat_cond] at e3
  have := c.toBitVec.isLt
  split at e3 <;> omega
theorem own_c16 {w : Nat} (h : w < 65536) : nar .char ((Int32.ofNat w).toUInt32.toUInt16.toUInt32.toInt32) = Int32.ofNat w := by
  apply Int32.toBitVec_inj.mp
  show (((((BitVec.ofNat 32 w).setWidth 16).setWidth 32).setWidth 16).setWidth 32) = BitVec.ofNat 32 w
  apply BitVec.eq_of_toNat_eq
  simp only [BitVec.toNat_setWidth, BitVec.toNat_ofNat]
  omega
theorem own_gc {c : Int32} (h0 : ¬ c < 0) (h1 : ¬ (65535 : Int32) < c) : own_gcx (own_B0 c) (own_B1 c) = c := by
  have hv := own_v h0 h1
  have hc := own_ofnat c
  generalize c.toBitVec.toNat = v at hv hc
  subst hc
  have b0 : own_B0 (Int32.ofNat v) &&& (255 : Int32) = Int32.ofNat (v % 256) := by
    show ((Int32.ofNat v >>> ((0 : Int32) &&& 31)).toInt8.toInt32.toInt8.toInt32) &&& (255 : Int32) = _
    rw [Int8.toInt8_toInt32, own_low]
    have e : (Int32.ofNat v >>> ((0 : Int32) &&& 31)).toBitVec = BitVec.ofNat 32 v := by
      show (BitVec.ofNat 32 v).sshiftRight 0 = _
      exact BitVec.sshiftRight_zero
    rw [e, BitVec.toNat_ofNat]
    congr 1; omega
  have b1 : own_B1 (Int32.ofNat v) &&& (255 : Int32) = Int32.ofNat (v / 256) := by
    show ((Int32.ofNat v >>> ((8 : Int32) &&& 31)).toInt8.toInt32.toInt8.toInt32) &&& (255 : Int32) = _
    rw [Int8.toInt8_toInt32, own_low]
    have e : (Int32.ofNat v >>> ((8 : Int32) &&& 31)).toBitVec = BitVec.ofNat 32 (v / 256) := by
      show (BitVec.ofNat 32 v).sshiftRight 8 = _
      rw [BitVec.sshiftRight_eq_of_msb_false (by rw [BitVec.msb_eq_false_iff_two_mul_lt]; simp only [BitVec.toNat_ofNat]; omega)]
      apply BitVec.eq_of_toNat_eq
      simp only [BitVec.toNat_ushiftRight, BitVec.toNat_ofNat, Nat.shiftRight_eq_div_pow]
      omega
    rw [e, BitVec.toNat_ofNat]
    congr 1; omega
  show nar .char ((((own_B0 (Int32.ofNat v) &&& (255 : Int32)) <<< ((0 : Int32) &&& 31)) ||| ((own_B1 (Int32.ofNat v) &&& (255 : Int32)) <<< ((8 : Int32) &&& 31))).toUInt32.toUInt16.toUInt32.toInt32) = _
  rw [b0, b1]
  have t0 : ∀ k : Fin 256, (Int32.ofNat k.val) <<< ((0 : Int32) &&& 31) = Int32.ofNat k.val := by decide +kernel
  have t1 : ∀ k : Fin 256, (Int32.ofNat k.val) <<< ((8 : Int32) &&& 31) = Int32.ofNat (k.val <<< 8) := by decide +kernel
  have q0 := t0 ⟨v % 256, by omega⟩
  have q1 := t1 ⟨v / 256, by omega⟩
  simp only at q0 q1
  rw [q0, q1]
  have o : Int32.ofNat (v % 256) ||| Int32.ofNat ((v / 256) <<< 8) = Int32.ofNat v := by
    apply Int32.toBitVec_inj.mp
    show BitVec.ofNat 32 (v % 256) ||| BitVec.ofNat 32 ((v / 256) <<< 8) = BitVec.ofNat 32 v
    apply BitVec.eq_of_toNat_eq
    simp only [BitVec.toNat_or, BitVec.toNat_ofNat]
    have s := Nat.shiftLeft_eq (v / 256) 8
    have a := Nat.shiftLeft_add_eq_or_of_lt (show v % 256 < 2 ^ 8 by omega) (v / 256)
    rw [Nat.mod_eq_of_lt (show v % 256 < 2 ^ 32 by omega), Nat.mod_eq_of_lt (show (v / 256) <<< 8 < 2 ^ 32 by rw [s]; omega), Nat.or_comm, ← a, s]
    omega
  rw [o]
  exact own_c16 hv
/-- the bytes of a wide String, of which the first i chars are laid -/
def own_p (cs : List Int32) (i : Nat) : List Value := (List.range (2 * cs.length)).map fun j => if j < 2 * i then (if j % 2 = 0 then .int (own_B0 (cs.getD (j / 2) 0)) else .int (own_B1 (cs.getD (j / 2) 0))) else .int (0 : Int32)
theorem own_pl (cs : List Int32) (i : Nat) : (own_p cs i).length = 2 * cs.length := by simp [own_p]
theorem own_p0 (cs : List Int32) : own_p cs 0 = List.replicate (2 * cs.length) (.int (0 : Int32)) := by
  apply List.ext_getElem?
  intro j
  simp only [own_p, List.getElem?_map, List.getElem?_replicate]
  by_cases h : j < 2 * cs.length
  · simp [List.getElem?_range h, h]
  · simp [h]
theorem own_ps (cs : List Int32) {i : Nat} (hi : i < cs.length) : ((own_p cs i).set (2 * i) (.int (own_B0 (cs.getD i 0)))).set (2 * i + 1) (.int (own_B1 (cs.getD i 0))) = own_p cs (i + 1) := by
  apply List.ext_getElem?
  intro j
  simp only [List.getElem?_set, List.length_set, own_pl]
  have g : ∀ k, (own_p cs k)[j]? = if j < 2 * cs.length then some (if j < 2 * k then (if j % 2 = 0 then .int (own_B0 (cs.getD (j / 2) 0)) else .int (own_B1 (cs.getD (j / 2) 0))) else .int (0 : Int32)) else none := fun k => by
    simp only [own_p, List.getElem?_map]
    by_cases h : j < 2 * cs.length
    · simp [List.getElem?_range h, h]
    · simp [h]
  rw [g, g]
  by_cases h1 : 2 * i + 1 = j
  · have e1 : j / 2 = i := by omega
    have e2 : ¬ j % 2 = 0 := by omega
    have e3 : j < 2 * cs.length := by omega
    have e4 : j < 2 * (i + 1) := by omega
    rw [if_pos h1, if_pos (by omega), if_pos e3, if_pos e4, if_neg e2, e1]
  · by_cases h2 : 2 * i = j
    · have e1 : j / 2 = i := by omega
      have e2 : j % 2 = 0 := by omega
      have e3 : j < 2 * cs.length := by omega
      have e4 : j < 2 * (i + 1) := by omega
      rw [if_neg h1, if_pos h2, if_pos (by omega), if_pos e3, if_pos e4, if_pos e2, e1]
    · by_cases h3 : j < 2 * i
      · have e4 : j < 2 * (i + 1) := by omega
        simp only [h1, h2, h3, e4, if_true, if_false]
      · have e4 : ¬ j < 2 * (i + 1) := by omega
        simp only [h1, h2, h3, e4, if_false]
theorem own_pg0 (cs : List Int32) {i : Nat} (hi : i < cs.length) (hb : cs.length ≤ 5000) : (own_p cs cs.length).getD (Int32.ofNat (2 * i)).toNatClampNeg (.int (0 : Int32)) = .int (own_B0 (cs.getD i 0)) := by
  rw [own_clamp (by omega), List.getD_eq_getElem?_getD]
  simp only [own_p, List.getElem?_map, List.getElem?_range (show 2 * i < 2 * cs.length by omega), Option.map_some, Option.getD_some]
  rw [if_pos (by omega), if_pos (by omega), show 2 * i / 2 = i by omega]
theorem own_pg1 (cs : List Int32) {i : Nat} (hi : i < cs.length) (hb : cs.length ≤ 5000) : (own_p cs cs.length).getD (Int32.ofNat (2 * i + 1)).toNatClampNeg (.int (0 : Int32)) = .int (own_B1 (cs.getD i 0)) := by
  rw [own_clamp (by omega), List.getD_eq_getElem?_getD]
  simp only [own_p, List.getElem?_map, List.getElem?_range (show 2 * i + 1 < 2 * cs.length by omega), Option.map_some, Option.getD_some]
  rw [if_pos (by omega), if_neg (by omega), show (2 * i + 1) / 2 = i by omega]
def own_H (c : Int32) : Prop := ¬ c < (55296 : Int32) ∧ c < (56320 : Int32)
def own_L (c : Int32) : Prop := ¬ c < (56320 : Int32) ∧ c < (57344 : Int32)
instance (c : Int32) : Decidable (own_H c) := inferInstanceAs (Decidable (_ ∧ _))
instance (c : Int32) : Decidable (own_L c) := inferInstanceAs (Decidable (_ ∧ _))
/-- the surrogate pairs that begin at one of the last r places of n -/
def own_cq (f : Nat → Int32) (n : Nat) : Nat → Nat
  | 0 => 0
  | r + 1 => (if own_H (f (n - (r + 1))) ∧ own_L (f (n - r)) then 1 else 0) + own_cq f n r
theorem own_cq_le (f : Nat → Int32) (n : Nat) : ∀ r, own_cq f n r ≤ r
  | 0 => Nat.le_refl _
  | r + 1 => by
    have q := own_cq_le f n r
    show (if _ then 1 else 0) + own_cq f n r ≤ _
    split <;> omega
theorem own_cq_up (f : Nat → Int32) (n r : Nat) : ∀ k, own_cq f n r ≤ own_cq f n (r + k)
  | 0 => Nat.le_refl _
  | k + 1 => Nat.le_trans (own_cq_up f n r k) (Nat.le_add_left _ _)
theorem own_cq_no {f : Nat → Int32} {n r : Nat} (h : ¬ (own_H (f (n - (r + 1))) ∧ own_L (f (n - r)))) : own_cq f n (r + 1) = own_cq f n r := by
  show (if _ then 1 else 0) + own_cq f n r = _
  rw [if_neg h, Nat.zero_add]
theorem own_cq_yes {f : Nat → Int32} {n r : Nat} (h : own_H (f (n - (r + 1))) ∧ own_L (f (n - r))) : own_cq f n (r + 1) = 1 + own_cq f n r := by
  show (if _ then 1 else 0) + own_cq f n r = _
  rw [if_pos h]
theorem own_HL {c : Int32} (h : own_L c) : ¬ own_H c := fun q => h.1 q.2
def own_ok (cs : List Int32) : Prop := 1 ≤ cs.length ∧ cs.length ≤ 4099 ∧ (∀ c ∈ cs, ¬ c < 0 ∧ ¬ (65535 : Int32) < c) ∧ (4096 < cs.length → (∃ i, i < cs.length ∧ (255 : Int32) < cs.getD i 0) ∧ cs.length - own_cq (fun i => cs.getD i 0) cs.length cs.length ≤ 4096)
theorem own_big {c : Int32} (h : own_H c) : (255 : Int32) < c := by
  have q := h.1
  rw [Int32.lt_iff_toInt_lt] at q ⊢
  have e1 : (55296 : Int32).toInt = 55296 := rfl
  have e2 : (255 : Int32).toInt = 255 := rfl
  omega
/-- k pairs from pos on -/
theorem own_pairs {cs : List Int32} {pos k : Nat} (hk : k ≤ 3) (hl : cs.length = 4096 + k) (hp : pos + 2 * k ≤ cs.length) (h : ∀ j, j < k → own_H (cs.getD (pos + 2 * j) 0) ∧ own_L (cs.getD (pos + 2 * j + 1) 0)) (hc : ∀ c ∈ cs, ¬ c < 0 ∧ ¬ (65535 : Int32) < c) : own_ok cs := by
  refine ⟨by omega, by omega, hc, fun h4 => ⟨⟨pos, by omega, own_big (h 0 (by omega)).1⟩, ?_⟩⟩
  have key : ∀ j, j ≤ k → j ≤ own_cq (fun i => cs.getD i 0) cs.length (cs.length - pos - 2 * (k - j)) := by
    intro j
    induction j with
    | zero => intro _; exact Nat.zero_le _
    | succ j ih =>
      intro hj
      have q := ih (by omega)
      obtain ⟨r, hr⟩ : ∃ r, cs.length - pos - 2 * (k - (j + 1)) = r + 2 := ⟨cs.length - pos - 2 * (k - (j + 1)) - 2, by omega⟩
      have e0 : cs.length - pos - 2 * (k - j) = r := by omega
      rw [hr]
      rw [e0] at q
      have hp := h (k - (j + 1)) (by omega)
      have i1 : cs.length - (r + 1 + 1) = pos + 2 * (k - (j + 1)) := by omega
      have i2 : cs.length - (r + 1) = pos + 2 * (k - (j + 1)) + 1 := by omega
      rw [own_cq_yes (f := fun i => cs.getD i 0) (r := r + 1) ⟨by show own_H (cs.getD (cs.length - (r + 1 + 1)) 0); rw [i1]; exact hp.1, by show own_L (cs.getD (cs.length - (r + 1)) 0); rw [i2]; exact hp.2⟩]
      have := own_cq_up (fun i => cs.getD i 0) cs.length r 1
      omega
  have := key k (Nat.le_refl _)
  have up := own_cq_up (fun i => cs.getD i 0) cs.length (cs.length - pos - 2 * (k - k)) (pos + 2 * (k - k))
  rw [show cs.length - pos - 2 * (k - k) + (pos + 2 * (k - k)) = cs.length by omega] at up
  omega
theorem own_mem {P : Int32 → Prop} {cs : List Int32} {i : Nat} (h : ∀ c ∈ cs, P c) (hi : i < cs.length) : P (cs.getD i 0) := by
  rw [List.getD_eq_getElem?_getD, List.getElem?_eq_getElem hi]; exact h _ (List.getElem_mem hi)
/-- the String at x, whose bytes lie at t, says cs -/
def own_St (Z : State) (h : Heap) (x t : Addr) (cs : List Int32) : Prop := Exa Z h x "java/lang/String" ∧ ∃ (k : ClassId) (z : Int32) (vs : List Value) (cd : Int32), Fld Z h x "java/lang/String" "coder" "B" (.int cd) ∧ Fld Z h x "java/lang/String" "value" "[B" (.ref t) ∧ Arv Z h t k .byte z vs (.int (0 : Int32)) ∧
  ((z = Int32.ofNat cs.length ∧ cd = 0 ∧ ∀ j, j < cs.length → ¬ (255 : Int32) < cs.getD j 0) ∨ (z = Int32.ofNat (2 * cs.length) ∧ cd = 1 ∧ vs = own_p cs cs.length))
theorem own_St.ext {Z : State} {h h' : Heap} {x t : Addr} {cs : List Int32} (H : own_St Z h x t cs) (E : Ext h h') : own_St Z h' x t cs := by
  obtain ⟨a, k, z, vs, cd, b, c, d, e⟩ := H
  exact ⟨a.ext E, k, z, vs, cd, b.ext E, c.ext E, d.ext E, e⟩
theorem own_St.keep {Z : State} {h h' : Heap} {x t : Addr} {cs : List Int32} {ws : List Addr} (H : own_St Z h x t cs) (K : Keep h h' ws) (hx : x ∉ ws) (ht : t ∉ ws) : own_St Z h' x t cs := by
  obtain ⟨a, k, z, vs, cd, b, c, d, e⟩ := H
  exact ⟨a.keep K, k, z, vs, cd, b.keep K hx, c.keep K hx, d.keep K ht, e⟩
theorem own_St.lt1 {Z : State} {h : Heap} {x t : Addr} {cs : List Int32} (H : own_St Z h x t cs) : x < h.size := H.1.lt
theorem own_St.lt2 {Z : State} {h : Heap} {x t : Addr} {cs : List Int32} (H : own_St Z h x t cs) : t < h.size := by
  obtain ⟨a, k, z, vs, cd, b, c, d, e⟩ := H
  exact d.lt
theorem own_mkS {Z : State} {h : Heap} {x t : Addr} {cs : List Int32} {k : ClassId} {z : Int32} {vs : List Value} (E : Exa Z h x "java/lang/String") (C : Fld Z h x "java/lang/String" "coder" "B" (.int (nar .byte (own_cfl (Int32.ofNat cs.length) z)))) (F : Fld Z h x "java/lang/String" "value" "[B" (.ref t)) (A : Arv Z h t k .byte z vs (.int (0 : Int32))) (h1 : 1 ≤ cs.length) (hb : cs.length ≤ 4099)
    (R : (z = Int32.ofNat cs.length ∧ ∀ j, j < cs.length → ¬ (255 : Int32) < cs.getD j 0) ∨ (z = Int32.ofNat (2 * cs.length) ∧ vs = own_p cs cs.length)) : own_St Z h x t cs := by
  refine ⟨E, k, z, vs, _, C, F, A, ?_⟩
  rcases R with ⟨rfl, q⟩ | ⟨rfl, q⟩
  · exact Or.inl ⟨rfl, by rw [own_cfl0 (by omega)]; rfl, q⟩
  · exact Or.inr ⟨rfl, by rw [own_cfl1 h1 (by omega)]; rfl, q⟩
theorem own_m3 (x : Int32) : x &&& (3 : Int32) = 0 ∨ x &&& (3 : Int32) = 1 ∨ x &&& (3 : Int32) = 2 ∨ x &&& (3 : Int32) = 3 := by
  have m := c_mask x 3 2 (by decide) (by decide)
  have : (x &&& (3 : Int32)).toInt = 0 ∨ (x &&& (3 : Int32)).toInt = 1 ∨ (x &&& (3 : Int32)).toInt = 2 ∨ (x &&& (3 : Int32)).toInt = 3 := by omega
  rcases this with h | h | h | h
  · exact Or.inl (Int32.toInt_inj.mp (by rw [h]; rfl))
  · exact Or.inr (Or.inl (Int32.toInt_inj.mp (by rw [h]; rfl)))
  · exact Or.inr (Or.inr (Or.inl (Int32.toInt_inj.mp (by rw [h]; rfl))))
  · exact Or.inr (Or.inr (Or.inr (Int32.toInt_inj.mp (by rw [h]; rfl))))
theorem own_10 (x : Int32) : ∃ v : Nat, x &&& (1023 : Int32) = Int32.ofNat v ∧ v < 1024 := by
  have m := c_mask x 1023 10 (by decide) (by decide)
  refine ⟨(x &&& (1023 : Int32)).toInt.toNat, ?_, by omega⟩
  apply Int32.toInt_inj.mp
  rw [Int32.toInt_ofNat_of_lt (by omega)]; omega
theorem own_hiv (x : Int32) : own_H (nar .char (((55296 : Int32) + (x &&& (1023 : Int32))).toUInt32.toUInt16.toUInt32.toInt32)) := by
  obtain ⟨v, h, hv⟩ := own_10 x
  have t : ∀ k : Fin 1024, own_H (nar .char (((55296 : Int32) + Int32.ofNat k.val).toUInt32.toUInt16.toUInt32.toInt32)) := by decide +kernel
  rw [h]; exact t ⟨v, hv⟩
theorem own_lov (x : Int32) : own_L (nar .char (((56320 : Int32) + (x &&& (1023 : Int32))).toUInt32.toUInt16.toUInt32.toInt32)) := by
  obtain ⟨v, h, hv⟩ := own_10 x
  have t : ∀ k : Fin 1024, own_L (nar .char (((56320 : Int32) + Int32.ofNat k.val).toUInt32.toUInt16.toUInt32.toInt32)) := by decide +kernel
  rw [h]; exact t ⟨v, hv⟩
theorem own_chr (x : Int32) : ¬ nar .char x < 0 ∧ ¬ (65535 : Int32) < nar .char x := by
  have e := own_ofnat (nar .char x)
  have hv : (nar .char x).toBitVec.toNat < 65536 := by
    show (((x.toBitVec).setWidth 16).setWidth 32).toNat < 65536
    simp only [BitVec.toNat_setWidth]
    omega
  rw [e]
  exact ⟨own_nn (by omega), fun q => absurd ((own_lt32 (i := 65535) (by omega) (by omega)).mp q) (by omega)⟩
theorem own_gse {l : List Int32} {i j : Nat} {v : Int32} (e : i = j) (h : i < l.length) : (l.set i v).getD j 0 = v := by
  subst e
  rw [List.getD_eq_getElem?_getD, List.getElem?_set, if_pos rfl, if_pos h]; rfl
theorem own_gsn {l : List Int32} {i j : Nat} {v : Int32} (h : i ≠ j) : (l.set i v).getD j 0 = l.getD j 0 := by
  rw [List.getD_eq_getElem?_getD, List.getElem?_set, if_neg h, List.getD_eq_getElem?_getD]
theorem own_set {l : List Int32} {P : Int32 → Prop} {i : Nat} {v : Int32} (h : ∀ c ∈ l, P c) (hv : P v) : ∀ c ∈ l.set i v, P c := fun c hc => by
  rcases List.mem_or_eq_of_mem_set hc with q | q
  · exact h c q
  · rw [q]; exact hv
theorem own_rep (N : Nat) : ∀ c ∈ List.replicate N (0 : Int32), ¬ c < 0 ∧ ¬ (65535 : Int32) < c := fun c hc => by
  rw [(List.mem_replicate.mp hc).2]; decide
theorem own_rem4096 (y : Int32) : ∃ j : Nat, (y &&& (2147483647 : Int32)) - ((y &&& (2147483647 : Int32)) / (4096 : Int32)) * (4096 : Int32) = Int32.ofNat j ∧ j < 4096 := by
  have m := c_mask y 2147483647 31 (by decide) (by decide)
  have d := (c_idiv (y &&& (2147483647 : Int32)) 4096 4096 rfl (by decide)).1 (by omega)
  have ml := c_imul ((y &&& (2147483647 : Int32)) / (4096 : Int32)) 4096
  have sb := c_isub (y &&& (2147483647 : Int32)) (((y &&& (2147483647 : Int32)) / (4096 : Int32)) * (4096 : Int32))
  have r1 := rng32 (((y &&& (2147483647 : Int32)) / (4096 : Int32)) * (4096 : Int32))
  have r2 := rng32 ((y &&& (2147483647 : Int32)) - ((y &&& (2147483647 : Int32)) / (4096 : Int32)) * (4096 : Int32))
  have eR : (4096 : Int32).toInt = 4096 := rfl
  rw [d, eR] at ml
  refine ⟨((y &&& (2147483647 : Int32)) - ((y &&& (2147483647 : Int32)) / (4096 : Int32)) * (4096 : Int32)).toInt.toNat, ?_, by omega⟩
  apply Int32.toInt_inj.mp
  rw [Int32.toInt_ofNat_of_lt (by omega)]; omega
theorem own_rem4095 (y : Int32) : ∃ j : Nat, (y &&& (2147483647 : Int32)) - ((y &&& (2147483647 : Int32)) / (4095 : Int32)) * (4095 : Int32) = Int32.ofNat j ∧ j < 4095 := by
  have m := c_mask y 2147483647 31 (by decide) (by decide)
  have d := (c_idiv (y &&& (2147483647 : Int32)) 4095 4095 rfl (by decide)).1 (by omega)
  have ml := c_imul ((y &&& (2147483647 : Int32)) / (4095 : Int32)) 4095
  have sb := c_isub (y &&& (2147483647 : Int32)) (((y &&& (2147483647 : Int32)) / (4095 : Int32)) * (4095 : Int32))
  have r1 := rng32 (((y &&& (2147483647 : Int32)) / (4095 : Int32)) * (4095 : Int32))
  have r2 := rng32 ((y &&& (2147483647 : Int32)) - ((y &&& (2147483647 : Int32)) / (4095 : Int32)) * (4095 : Int32))
  have eR : (4095 : Int32).toInt = 4095 := rfl
  rw [d, eR] at ml
  refine ⟨((y &&& (2147483647 : Int32)) - ((y &&& (2147483647 : Int32)) / (4095 : Int32)) * (4095 : Int32)).toInt.toNat, ?_, by omega⟩
  apply Int32.toInt_inj.mp
  rw [Int32.toInt_ofNat_of_lt (by omega)]; omega
theorem own_rem4094 (y : Int32) : ∃ j : Nat, (y &&& (2147483647 : Int32)) - ((y &&& (2147483647 : Int32)) / (4094 : Int32)) * (4094 : Int32) = Int32.ofNat j ∧ j < 4094 := by
  have m := c_mask y 2147483647 31 (by decide) (by decide)
  have d := (c_idiv (y &&& (2147483647 : Int32)) 4094 4094 rfl (by decide)).1 (by omega)
  have ml := c_imul ((y &&& (2147483647 : Int32)) / (4094 : Int32)) 4094
  have sb := c_isub (y &&& (2147483647 : Int32)) (((y &&& (2147483647 : Int32)) / (4094 : Int32)) * (4094 : Int32))
  have r1 := rng32 (((y &&& (2147483647 : Int32)) / (4094 : Int32)) * (4094 : Int32))
  have r2 := rng32 ((y &&& (2147483647 : Int32)) - ((y &&& (2147483647 : Int32)) / (4094 : Int32)) * (4094 : Int32))
  have eR : (4094 : Int32).toInt = 4094 := rfl
  rw [d, eR] at ml
  refine ⟨((y &&& (2147483647 : Int32)) - ((y &&& (2147483647 : Int32)) / (4094 : Int32)) * (4094 : Int32)).toInt.toNat, ?_, by omega⟩
  apply Int32.toInt_inj.mp
  rw [Int32.toInt_ofNat_of_lt (by omega)]; omega
theorem own_long0 {pos : Nat} {a : Int32} (ca : ¬ a < 0 ∧ ¬ (65535 : Int32) < a) : own_ok ((List.replicate 4096 (0 : Int32)).set pos a) := by
  refine ⟨?_, ?_, own_set (own_rep 4096) ca, fun h => absurd h ?_⟩ <;> rw [List.length_set, List.length_replicate] <;> omega
theorem own_long1 {pos : Nat} {a b : Int32} (hp : pos < 4096) (ha : own_H a) (hb_ : own_L b) (ca : ¬ a < 0 ∧ ¬ (65535 : Int32) < a) (cb : ¬ b < 0 ∧ ¬ (65535 : Int32) < b) : own_ok (((List.replicate 4097 (0 : Int32)).set (pos) a).set (pos + 1) b) := by
  refine own_pairs (pos := pos) (k := 1) (by omega) (by simp only [List.length_set, List.length_replicate]) (by simp only [List.length_set, List.length_replicate]; omega) (fun j hj => ?_) ?_
  · have : j = 0 := by omega
    rcases this with rfl
    · exact ⟨by rw [own_gsn (by omega), own_gse (by omega) (by simp only [List.length_set, List.length_replicate]; omega)]; exact ha, by rw [own_gse (by omega) (by simp only [List.length_set, List.length_replicate]; omega)]; exact hb_⟩
  · exact own_set (own_set (own_rep 4097) ca) cb
theorem own_long2 {pos : Nat} {a b : Int32} (hp : pos < 4095) (ha : own_H a) (hb_ : own_L b) (ca : ¬ a < 0 ∧ ¬ (65535 : Int32) < a) (cb : ¬ b < 0 ∧ ¬ (65535 : Int32) < b) : own_ok (((((List.replicate 4098 (0 : Int32)).set (pos) a).set (pos + 1) b).set (pos + 2) a).set (pos + 3) b) := by
  refine own_pairs (pos := pos) (k := 2) (by omega) (by simp only [List.length_set, List.length_replicate]) (by simp only [List.length_set, List.length_replicate]; omega) (fun j hj => ?_) ?_
  · have : j = 0 ∨ j = 1 := by omega
    rcases this with rfl | rfl
    · exact ⟨by rw [own_gsn (by omega), own_gsn (by omega), own_gsn (by omega), own_gse (by omega) (by simp only [List.length_set, List.length_replicate]; omega)]; exact ha, by rw [own_gsn (by omega), own_gsn (by omega), own_gse (by omega) (by simp only [List.length_set, List.length_replicate]; omega)]; exact hb_⟩
    · exact ⟨by rw [own_gsn (by omega), own_gse (by omega) (by simp only [List.length_set, List.length_replicate]; omega)]; exact ha, by rw [own_gse (by omega) (by simp only [List.length_set, List.length_replicate]; omega)]; exact hb_⟩
  · exact own_set (own_set (own_set (own_set (own_rep 4098) ca) cb) ca) cb
theorem own_long3 {pos : Nat} {a b : Int32} (hp : pos < 4094) (ha : own_H a) (hb_ : own_L b) (ca : ¬ a < 0 ∧ ¬ (65535 : Int32) < a) (cb : ¬ b < 0 ∧ ¬ (65535 : Int32) < b) : own_ok (((((((List.replicate 4099 (0 : Int32)).set (pos) a).set (pos + 1) b).set (pos + 2) a).set (pos + 3) b).set (pos + 4) a).set (pos + 5) b) := by
  refine own_pairs (pos := pos) (k := 3) (by omega) (by simp only [List.length_set, List.length_replicate]) (by simp only [List.length_set, List.length_replicate]; omega) (fun j hj => ?_) ?_
  · have : j = 0 ∨ j = 1 ∨ j = 2 := by omega
    rcases this with rfl | rfl | rfl
    · exact ⟨by rw [own_gsn (by omega), own_gsn (by omega), own_gsn (by omega), own_gsn (by omega), own_gsn (by omega), own_gse (by omega) (by simp only [List.length_set, List.length_replicate]; omega)]; exact ha, by rw [own_gsn (by omega), own_gsn (by omega), own_gsn (by omega), own_gsn (by omega), own_gse (by omega) (by simp only [List.length_set, List.length_replicate]; omega)]; exact hb_⟩
    · exact ⟨by rw [own_gsn (by omega), own_gsn (by omega), own_gsn (by omega), own_gse (by omega) (by simp only [List.length_set, List.length_replicate]; omega)]; exact ha, by rw [own_gsn (by omega), own_gsn (by omega), own_gse (by omega) (by simp only [List.length_set, List.length_replicate]; omega)]; exact hb_⟩
    · exact ⟨by rw [own_gsn (by omega), own_gse (by omega) (by simp only [List.length_set, List.length_replicate]; omega)]; exact ha, by rw [own_gse (by omega) (by simp only [List.length_set, List.length_replicate]; omega)]; exact hb_⟩
  · exact own_set (own_set (own_set (own_set (own_set (own_set (own_rep 4099) ca) cb) ca) cb) ca) cb
theorem own_short {l : List Int32} (h1 : 1 ≤ l.length) (h2 : l.length ≤ 2) (h : ∀ c ∈ l, ¬ c < 0 ∧ ¬ (65535 : Int32) < c) : own_ok l := ⟨h1, by omega, h, fun q => absurd q (by omega)⟩
theorem own_eqv {args : Array Value} {first s : State} {o : Option Outcome} {idx : List Nat} {t : Term} {n : Int32} (h : (Cond.eq t (.int n)).value args first o s idx = some true) : t.eval args first o idx s = some (.int n) := by
  cases ht : t.eval args first o idx s with
  | none => simp [Cond.value, ht] at h
  | some v =>
    cases v <;> simp [Cond.value, ht, Term.int_eval] at h
    rw [h]
theorem own_decl {a0 : Array Value} {Z : State} {y : MethodName} {b : ByteArray} {ml : Nat} {r : Option FieldType} (w1 : (Jvm.Cond.instanceMethod y).before a0 Z = true) (w2 : (Jvm.Cond.code y b ml r).before a0 Z = true) : (Jvm.Cond.declares y).before a0 Z = true := by
  obtain ⟨mk, methM, hnamed, hmethM, hst, -⟩ := Cond.instanceMethod_spec w1
  obtain ⟨m2, cM, q1, -, -, -, -, -, -, hsig⟩ := Cond.code_spec hnamed w2
  cases hmethM.symm.trans q1
  simp [Cond.before, Cond.holds, Cond.value, hnamed, hmethM, hst, hsig]
theorem d32_0 : decode jdk_52_method_5_code 0 = .ok (.getstatic 44, 3) := by decide +kernel
theorem d32_3 : decode jdk_52_method_5_code 3 = .ok (.ifCond .ne 25, 3) := by decide +kernel
theorem d32_28 : decode jdk_52_method_5_code 28 = .ok (.iload_n 1, 1) := by decide +kernel
theorem d32_29 : decode jdk_52_method_5_code 29 = .ok (.iconst 1, 1) := by decide +kernel
theorem d32_30 : decode jdk_52_method_5_code 30 = .ok (.ishl, 1) := by decide +kernel
theorem d32_31 : decode jdk_52_method_5_code 31 = .ok (.istore_n 1, 1) := by decide +kernel
theorem d32_32 : decode jdk_52_method_5_code 32 = .ok (.aload_n 0, 1) := by decide +kernel
theorem d32_33 : decode jdk_52_method_5_code 33 = .ok (.iload_n 1, 1) := by decide +kernel
theorem d32_34 : decode jdk_52_method_5_code 34 = .ok (.iinc 1 1, 3) := by decide +kernel
theorem d32_37 : decode jdk_52_method_5_code 37 = .ok (.baload, 1) := by decide +kernel
theorem d32_38 : decode jdk_52_method_5_code 38 = .ok (.sipush 255, 3) := by decide +kernel
theorem d32_41 : decode jdk_52_method_5_code 41 = .ok (.iand, 1) := by decide +kernel
theorem d32_42 : decode jdk_52_method_5_code 42 = .ok (.getstatic 59, 3) := by decide +kernel
theorem d32_45 : decode jdk_52_method_5_code 45 = .ok (.ishl, 1) := by decide +kernel
theorem d32_46 : decode jdk_52_method_5_code 46 = .ok (.aload_n 0, 1) := by decide +kernel
theorem d32_47 : decode jdk_52_method_5_code 47 = .ok (.iload_n 1, 1) := by decide +kernel
theorem d32_48 : decode jdk_52_method_5_code 48 = .ok (.baload, 1) := by decide +kernel
theorem d32_49 : decode jdk_52_method_5_code 49 = .ok (.sipush 255, 3) := by decide +kernel
theorem d32_52 : decode jdk_52_method_5_code 52 = .ok (.iand, 1) := by decide +kernel
theorem d32_53 : decode jdk_52_method_5_code 53 = .ok (.getstatic 63, 3) := by decide +kernel
theorem d32_56 : decode jdk_52_method_5_code 56 = .ok (.ishl, 1) := by decide +kernel
theorem d32_57 : decode jdk_52_method_5_code 57 = .ok (.ior, 1) := by decide +kernel
theorem d32_58 : decode jdk_52_method_5_code 58 = .ok (.i2c, 1) := by decide +kernel
theorem d32_59 : decode jdk_52_method_5_code 59 = .ok (.ireturn, 1) := by decide +kernel
theorem pn_9f213eb : plainName "java/lang/StringUTF16" = true := by first | (simp [plainName, overriddenIn]; done) | decide +kernel
theorem ef_32 (m : MethodId) (x0 : Addr) (x1 : Int32) : entryFrame m #[(.ref x0), (.int x1)] 2 = mkF m 0 #[.val (.ref x0), .val (.int x1)] [] := by first | (simp [entryFrame, mkF, argsToLocals, Value.category]; done) | rfl
def Q_rmGC (Z : State) (t : Addr) (kt : ClassId) (cs : List Int32) (i : Nat) (h0 : Heap) (n0 : Nat) (v : Option Value) (h : Heap) (L : List Loc) : Prop := v = some (.int (cs.getD i 0)) ∧ Fr n0 L ∧ h = h0
set_option maxRecDepth 65536 in
set_option maxHeartbeats 40000000 in
theorem rmGC (l : Launch) (Z : State) (a0 : Array Value) (hw : ∀ d ∈ tables_1, d.before a0 Z = true) (t : Addr) (kt : ClassId) (cs : List Int32) (i : Nat) (h0 : Heap) (n0 : Nat) (Z0 : n0 ≤ h0.size) (X00 : Old Z n0 h0) (A1 : Sta Z Z.heap "java/lang/StringUTF16" "$assertionsDisabled" "Z" (.int (1 : Int32))) (A2 : Sta Z Z.heap "java/lang/StringUTF16" "HI_BYTE_SHIFT" "I" (.int (0 : Int32))) (A3 : Sta Z Z.heap "java/lang/StringUTF16" "LO_BYTE_SHIFT" "I" (.int (8 : Int32))) (Bt : Arv Z h0 t kt .byte (Int32.ofNat (2 * cs.length)) (own_p cs cs.length) (.int (0 : Int32))) (hi : i < cs.length) (hle : cs.length ≤ 4099) (hp : ∀ c ∈ cs, ¬ c < 0 ∧ ¬ (65535 : Int32) < c) :
    MetFree l (⟨"java/lang/StringUTF16", "getChar", "([BI)C"⟩ : MethodName) (head1 [Jvm.Cond.code (⟨"java/lang/StringUTF16", "getChar", "([BI)C"⟩ : MethodName) jdk_52_method_5_code 2 (some .char)] ({ frames := 0, cells := 0, slots := 0, locals := 0 } : Room)) (fun a U => a = #[(.ref t), (.int (Int32.ofNat i))] ∧ Z.Warmed39 U.vm ∧ U.heap = h0) (fun _ _ _ _ _ => True) (fun _ U o U' => ∃ v L, o = .returned v ∧ (Q_rmGC Z t kt cs i h0 n0) v U'.heap L ∧ FrameEnd U o U' L ({ frames := 0, cells := 0, slots := 0, locals := 0 } : Room).cells ({ frames := 0, cells := 0, slots := 0, locals := 0 } : Room).slots) := by
  refine MetFree.of_bodySF (plainFor_of_name pn_9f213eb) hisR ?_
  intro p e s m args below meth c s₁ Bd hml0 hP hK
  obtain ⟨rfl, hZ, hh⟩ := hP
  have hx := Bd.exec
  have hby := Bd.bytes
  have hml : c.maxLocals = 2 := hml0
  have hown : s.vm.findClass "java/lang/StringUTF16" = some m.cls := findClass_of_methodNamed Bd.named
  have hnm := (name_of_methodNamed Bd.named Bd.method).1
  have X0 : Stand p l e ({ frames := 0, cells := 0, slots := 0, locals := 0 } : Room) s m #[(.ref t), (.int (Int32.ofNat i))] below meth c s₁ [] 0 0 := Stand.of_body Bd
  have e0 : s₁.heap = h0 := by rw [← hh, Bd.state]; rfl
  have N0 := Fr.nil n0
  have K0 : Keep h0 h0 [] := Keep.refl h0 []
  show Go p e below (s₁.setTop (entryFrame m #[(.ref t), (.int (Int32.ofNat i))] 2)) (EndN s (Q_rmGC Z t kt cs i h0 n0) ({ frames := 0, cells := 0, slots := 0, locals := 0 } : Room).cells ({ frames := 0, cells := 0, slots := 0, locals := 0 } : Room).slots)
  refine Go.top (ef_32 m t (Int32.ofNat i)) ?_
  obtain ⟨T1, X1, e1, st1⟩ := getS (host := "") X0 hx hZ hown (hw _ (List.mem_of_getElem? (i := 169) rfl)) Via.refl e0 (A1.ext (X00.keep K0 all0).2) (g := (mkF m 0 #[.val (.ref t), .val (.int (Int32.ofNat i))] [])) rfl (hb hby d32_0)
  refine Go.st (T' := T1.setTop (mkF m 3 #[.val (.ref t), .val (.int (Int32.ofNat i))] [(.int (1 : Int32))])) (fun zt zk => st1 zt zk) ?_
  refine Go.st (T' := T1.setTop (mkF m 28 #[.val (.ref t), .val (.int (Int32.ofNat i))] [])) (fun zt zk => XS.ifYes X1.here hx rfl (pc0 := 3) (pc' := 28) rfl (hb hby d32_3) rfl ((if0 _ _).trans (feq (by decide)).2) (by decide) (by decide) zk) ?_
  refine Go.st (T' := T1.setTop (mkF m 29 #[.val (.ref t), .val (.int (Int32.ofNat i))] [(.int (Int32.ofNat i))])) (fun zt zk => XS.iloadN X1.here hx rfl (hb hby d32_28) rfl zk) ?_
  refine Go.st (T' := T1.setTop (mkF m 30 #[.val (.ref t), .val (.int (Int32.ofNat i))] [(.int (1 : Int32)), (.int (Int32.ofNat i))])) (fun zt zk => XS.iconst X1.here hx rfl (hb hby d32_29) zk) ?_
  refine Go.st (T' := T1.setTop (mkF m 31 #[.val (.ref t), .val (.int (Int32.ofNat i))] [(.int ((Int32.ofNat i) <<< ((1 : Int32) &&& 31)))])) (fun zt zk => XS.ishl X1.here hx rfl (hb hby d32_30) rfl zk) ?_
  rw [own_shl1 (by omega)]
  refine Go.st (T' := T1.setTop (mkF m 32 #[.val (.ref t), .val (.int (Int32.ofNat (2 * i)))] [])) (fun zt zk => XS.istoreN X1.here hx rfl (hb hby d32_31) rfl (l' := #[.val (.ref t), .val (.int (Int32.ofNat (2 * i)))]) rfl zk) ?_
  refine Go.st (T' := T1.setTop (mkF m 33 #[.val (.ref t), .val (.int (Int32.ofNat (2 * i)))] [(.ref t)])) (fun zt zk => XS.aloadN X1.here hx rfl (hb hby d32_32) rfl rfl zk) ?_
  refine Go.st (T' := T1.setTop (mkF m 34 #[.val (.ref t), .val (.int (Int32.ofNat (2 * i)))] [(.int (Int32.ofNat (2 * i))), (.ref t)])) (fun zt zk => XS.iloadN X1.here hx rfl (hb hby d32_33) rfl zk) ?_
  refine Go.st (T' := T1.setTop (mkF m 37 #[.val (.ref t), .val (.int ((Int32.ofNat (2 * i)) + (1 : Int32)))] [(.int (Int32.ofNat (2 * i))), (.ref t)])) (fun zt zk => XS.iinc X1.here hx rfl (hb hby d32_34) rfl (l' := #[.val (.ref t), .val (.int ((Int32.ofNat (2 * i)) + (1 : Int32)))]) rfl zk) ?_
  rw [own_addn (k := (1 : Int32)) (b := 1) rfl (by omega)]
  obtain ⟨cl2, Ar2, q2, S2, M2, H2, G2⟩ := id Bt
  have hin2 := ((inb_of S2 ⟨own_nn (by omega), (own_lt32 (by omega) (by omega)).mpr (by omega)⟩) : ¬ ((Int32.ofNat (2 * i)) < 0 ∨ cl2.slots.size ≤ ((Int32.ofNat (2 * i))).toNatClampNeg))
  refine Go.st (T' := T1.setTop (mkF m 38 #[.val (.ref t), .val (.int (Int32.ofNat (2 * i + 1)))] [(.int (own_B0 (cs.getD i 0)))])) (fun zt zk => X1.baloadBytes hx (j := (Int32.ofNat (2 * i))) (v := (.int (own_B0 (cs.getD i 0)))) (by rw [e1]; exact Ar2.1) (State.isArrayOf_alike hZ.alike Ar2.2.1) Ar2.2.2 hin2 (H2.at hin2 (own_pg0 cs hi (by omega))) (g := (mkF m 37 #[.val (.ref t), .val (.int (Int32.ofNat (2 * i + 1)))] [(.int (Int32.ofNat (2 * i))), (.ref t)])) rfl rfl (hb hby d32_37) zt zk) ?_
  refine Go.st (T' := T1.setTop (mkF m 41 #[.val (.ref t), .val (.int (Int32.ofNat (2 * i + 1)))] [(.int (255 : Int32)), (.int (own_B0 (cs.getD i 0)))])) (fun zt zk => XS.sipush X1.here hx rfl (hb hby d32_38) zk) ?_
  refine Go.st (T' := T1.setTop (mkF m 42 #[.val (.ref t), .val (.int (Int32.ofNat (2 * i + 1)))] [(.int ((own_B0 (cs.getD i 0)) &&& (255 : Int32)))])) (fun zt zk => XS.iand X1.here hx rfl (hb hby d32_41) rfl zk) ?_
  obtain ⟨T3, X3, e3, st3⟩ := getS (host := "") X1 hx hZ hown (hw _ (List.mem_of_getElem? (i := 170) rfl)) Via.refl e1 (A2.ext (X00.keep K0 all0).2) (g := (mkF m 42 #[.val (.ref t), .val (.int (Int32.ofNat (2 * i + 1)))] [(.int ((own_B0 (cs.getD i 0)) &&& (255 : Int32)))])) rfl (hb hby d32_42)
  refine Go.st (T' := T3.setTop (mkF m 45 #[.val (.ref t), .val (.int (Int32.ofNat (2 * i + 1)))] [(.int (0 : Int32)), (.int ((own_B0 (cs.getD i 0)) &&& (255 : Int32)))])) (fun zt zk => st3 zt zk) ?_
  refine Go.st (T' := T3.setTop (mkF m 46 #[.val (.ref t), .val (.int (Int32.ofNat (2 * i + 1)))] [(.int (((own_B0 (cs.getD i 0)) &&& (255 : Int32)) <<< ((0 : Int32) &&& 31)))])) (fun zt zk => XS.ishl X3.here hx rfl (hb hby d32_45) rfl zk) ?_
  refine Go.st (T' := T3.setTop (mkF m 47 #[.val (.ref t), .val (.int (Int32.ofNat (2 * i + 1)))] [(.ref t), (.int (((own_B0 (cs.getD i 0)) &&& (255 : Int32)) <<< ((0 : Int32) &&& 31)))])) (fun zt zk => XS.aloadN X3.here hx rfl (hb hby d32_46) rfl rfl zk) ?_
  refine Go.st (T' := T3.setTop (mkF m 48 #[.val (.ref t), .val (.int (Int32.ofNat (2 * i + 1)))] [(.int (Int32.ofNat (2 * i + 1))), (.ref t), (.int (((own_B0 (cs.getD i 0)) &&& (255 : Int32)) <<< ((0 : Int32) &&& 31)))])) (fun zt zk => XS.iloadN X3.here hx rfl (hb hby d32_47) rfl zk) ?_
  obtain ⟨cl4, Ar4, q4, S4, M4, H4, G4⟩ := id Bt
  have hin4 := ((inb_of S4 ⟨own_nn (by omega), (own_lt32 (by omega) (by omega)).mpr (by omega)⟩) : ¬ ((Int32.ofNat (2 * i + 1)) < 0 ∨ cl4.slots.size ≤ ((Int32.ofNat (2 * i + 1))).toNatClampNeg))
  refine Go.st (T' := T3.setTop (mkF m 49 #[.val (.ref t), .val (.int (Int32.ofNat (2 * i + 1)))] [(.int (own_B1 (cs.getD i 0))), (.int (((own_B0 (cs.getD i 0)) &&& (255 : Int32)) <<< ((0 : Int32) &&& 31)))])) (fun zt zk => X3.baloadBytes hx (j := (Int32.ofNat (2 * i + 1))) (v := (.int (own_B1 (cs.getD i 0)))) (by rw [e3]; exact Ar4.1) (State.isArrayOf_alike hZ.alike Ar4.2.1) Ar4.2.2 hin4 (H4.at hin4 (own_pg1 cs hi (by omega))) (g := (mkF m 48 #[.val (.ref t), .val (.int (Int32.ofNat (2 * i + 1)))] [(.int (Int32.ofNat (2 * i + 1))), (.ref t), (.int (((own_B0 (cs.getD i 0)) &&& (255 : Int32)) <<< ((0 : Int32) &&& 31)))])) rfl rfl (hb hby d32_48) zt zk) ?_
  refine Go.st (T' := T3.setTop (mkF m 52 #[.val (.ref t), .val (.int (Int32.ofNat (2 * i + 1)))] [(.int (255 : Int32)), (.int (own_B1 (cs.getD i 0))), (.int (((own_B0 (cs.getD i 0)) &&& (255 : Int32)) <<< ((0 : Int32) &&& 31)))])) (fun zt zk => XS.sipush X3.here hx rfl (hb hby d32_49) zk) ?_
  refine Go.st (T' := T3.setTop (mkF m 53 #[.val (.ref t), .val (.int (Int32.ofNat (2 * i + 1)))] [(.int ((own_B1 (cs.getD i 0)) &&& (255 : Int32))), (.int (((own_B0 (cs.getD i 0)) &&& (255 : Int32)) <<< ((0 : Int32) &&& 31)))])) (fun zt zk => XS.iand X3.here hx rfl (hb hby d32_52) rfl zk) ?_
  obtain ⟨T5, X5, e5, st5⟩ := getS (host := "") X3 hx hZ hown (hw _ (List.mem_of_getElem? (i := 171) rfl)) Via.refl e3 (A3.ext (X00.keep K0 all0).2) (g := (mkF m 53 #[.val (.ref t), .val (.int (Int32.ofNat (2 * i + 1)))] [(.int ((own_B1 (cs.getD i 0)) &&& (255 : Int32))), (.int (((own_B0 (cs.getD i 0)) &&& (255 : Int32)) <<< ((0 : Int32) &&& 31)))])) rfl (hb hby d32_53)
  refine Go.st (T' := T5.setTop (mkF m 56 #[.val (.ref t), .val (.int (Int32.ofNat (2 * i + 1)))] [(.int (8 : Int32)), (.int ((own_B1 (cs.getD i 0)) &&& (255 : Int32))), (.int (((own_B0 (cs.getD i 0)) &&& (255 : Int32)) <<< ((0 : Int32) &&& 31)))])) (fun zt zk => st5 zt zk) ?_
  refine Go.st (T' := T5.setTop (mkF m 57 #[.val (.ref t), .val (.int (Int32.ofNat (2 * i + 1)))] [(.int (((own_B1 (cs.getD i 0)) &&& (255 : Int32)) <<< ((8 : Int32) &&& 31))), (.int (((own_B0 (cs.getD i 0)) &&& (255 : Int32)) <<< ((0 : Int32) &&& 31)))])) (fun zt zk => XS.ishl X5.here hx rfl (hb hby d32_56) rfl zk) ?_
  refine Go.st (T' := T5.setTop (mkF m 58 #[.val (.ref t), .val (.int (Int32.ofNat (2 * i + 1)))] [(.int ((((own_B0 (cs.getD i 0)) &&& (255 : Int32)) <<< ((0 : Int32) &&& 31)) ||| (((own_B1 (cs.getD i 0)) &&& (255 : Int32)) <<< ((8 : Int32) &&& 31))))])) (fun zt zk => XS.ior X5.here hx rfl (hb hby d32_57) rfl zk) ?_
  refine Go.st (T' := T5.setTop (mkF m 59 #[.val (.ref t), .val (.int (Int32.ofNat (2 * i + 1)))] [(.int (((((own_B0 (cs.getD i 0)) &&& (255 : Int32)) <<< ((0 : Int32) &&& 31)) ||| (((own_B1 (cs.getD i 0)) &&& (255 : Int32)) <<< ((8 : Int32) &&& 31))).toUInt32.toUInt16.toUInt32.toInt32))])) (fun zt zk => XS.i2c X5.here hx rfl (hb hby d32_58) rfl zk) ?_
  exact Go.done X5 Bd.notSynchronized (v := some (.int (nar .char (((((own_B0 (cs.getD i 0)) &&& (255 : Int32)) <<< ((0 : Int32) &&& 31)) ||| (((own_B1 (cs.getD i 0)) &&& (255 : Int32)) <<< ((8 : Int32) &&& 31))).toUInt32.toUInt16.toUInt32.toInt32)))) (fun h => by rw [Bd.returns] at h; cases h) (fun fs hr => retN X5 hx (t := .char) Bd.returns (by simp) (hb hby d32_59) hr) (by rw [e5]; exact ⟨congrArg (fun q => some (Value.int q)) (own_gc (own_mem hp hi).1 (own_mem hp hi).2), N0, rfl⟩) (by decide) (by decide)
theorem d31_0 : decode jdk_52_method_4_code 0 = .ok (.getstatic 44, 3) := by decide +kernel
theorem d31_3 : decode jdk_52_method_4_code 3 = .ok (.ifCond .ne 25, 3) := by decide +kernel
theorem d31_28 : decode jdk_52_method_4_code 28 = .ok (.iload_n 1, 1) := by decide +kernel
theorem d31_29 : decode jdk_52_method_4_code 29 = .ok (.iconst 1, 1) := by decide +kernel
theorem d31_30 : decode jdk_52_method_4_code 30 = .ok (.ishl, 1) := by decide +kernel
theorem d31_31 : decode jdk_52_method_4_code 31 = .ok (.istore_n 1, 1) := by decide +kernel
theorem d31_32 : decode jdk_52_method_4_code 32 = .ok (.aload_n 0, 1) := by decide +kernel
theorem d31_33 : decode jdk_52_method_4_code 33 = .ok (.iload_n 1, 1) := by decide +kernel
theorem d31_34 : decode jdk_52_method_4_code 34 = .ok (.iinc 1 1, 3) := by decide +kernel
theorem d31_37 : decode jdk_52_method_4_code 37 = .ok (.iload_n 2, 1) := by decide +kernel
theorem d31_38 : decode jdk_52_method_4_code 38 = .ok (.getstatic 59, 3) := by decide +kernel
theorem d31_41 : decode jdk_52_method_4_code 41 = .ok (.ishr, 1) := by decide +kernel
theorem d31_42 : decode jdk_52_method_4_code 42 = .ok (.i2b, 1) := by decide +kernel
theorem d31_43 : decode jdk_52_method_4_code 43 = .ok (.bastore, 1) := by decide +kernel
theorem d31_44 : decode jdk_52_method_4_code 44 = .ok (.aload_n 0, 1) := by decide +kernel
theorem d31_45 : decode jdk_52_method_4_code 45 = .ok (.iload_n 1, 1) := by decide +kernel
theorem d31_46 : decode jdk_52_method_4_code 46 = .ok (.iload_n 2, 1) := by decide +kernel
theorem d31_47 : decode jdk_52_method_4_code 47 = .ok (.getstatic 63, 3) := by decide +kernel
theorem d31_50 : decode jdk_52_method_4_code 50 = .ok (.ishr, 1) := by decide +kernel
theorem d31_51 : decode jdk_52_method_4_code 51 = .ok (.i2b, 1) := by decide +kernel
theorem d31_52 : decode jdk_52_method_4_code 52 = .ok (.bastore, 1) := by decide +kernel
theorem d31_53 : decode jdk_52_method_4_code 53 = .ok (.return_, 1) := by decide +kernel
theorem ef_31 (m : MethodId) (x0 : Addr) (x1 : Int32) (x2 : Int32) : entryFrame m #[(.ref x0), (.int x1), (.int x2)] 3 = mkF m 0 #[.val (.ref x0), .val (.int x1), .val (.int x2)] [] := by first | (simp [entryFrame, mkF, argsToLocals, Value.category]; done) | rfl
def Q_rmPC (Z : State) (d : Addr) (kd : ClassId) (mm i : Nat) (vs : List Value) (cc : Int32) (h0 : Heap) (n0 : Nat) (v : Option Value) (h : Heap) (L : List Loc) : Prop := v = none ∧ Fr n0 L ∧ Keep h0 h [d] ∧ Arv Z h d kd .byte (Int32.ofNat mm) ((vs.set (2 * i) (.int (own_B0 cc))).set (2 * i + 1) (.int (own_B1 cc))) (.int (0 : Int32))
set_option maxRecDepth 65536 in
set_option maxHeartbeats 40000000 in
theorem rmPC (l : Launch) (Z : State) (a0 : Array Value) (hw : ∀ d ∈ tables_1, d.before a0 Z = true) (d : Addr) (kd : ClassId) (mm i : Nat) (vs : List Value) (cc : Int32) (h0 : Heap) (n0 : Nat) (Z0 : n0 ≤ h0.size) (X00 : Old Z n0 h0) (A1 : Sta Z Z.heap "java/lang/StringUTF16" "$assertionsDisabled" "Z" (.int (1 : Int32))) (A2 : Sta Z Z.heap "java/lang/StringUTF16" "HI_BYTE_SHIFT" "I" (.int (0 : Int32))) (A3 : Sta Z Z.heap "java/lang/StringUTF16" "LO_BYTE_SHIFT" "I" (.int (8 : Int32))) (Bb : Arv Z h0 d kd .byte (Int32.ofNat mm) vs (.int (0 : Int32))) (g_d : n0 ≤ d) (hv : vs.length = mm) (hi : 2 * i + 1 < mm) (hle : mm ≤ 8198) :
    MetFree l (⟨"java/lang/StringUTF16", "putChar", "([BII)V"⟩ : MethodName) (head1 [Jvm.Cond.code (⟨"java/lang/StringUTF16", "putChar", "([BII)V"⟩ : MethodName) jdk_52_method_4_code 3 none] ({ frames := 0, cells := 0, slots := 0, locals := 0 } : Room)) (fun a U => a = #[(.ref d), (.int (Int32.ofNat i)), (.int cc)] ∧ Z.Warmed39 U.vm ∧ U.heap = h0) (fun _ _ _ _ _ => True) (fun _ U o U' => ∃ v L, o = .returned v ∧ (Q_rmPC Z d kd mm i vs cc h0 n0) v U'.heap L ∧ FrameEnd U o U' L ({ frames := 0, cells := 0, slots := 0, locals := 0 } : Room).cells ({ frames := 0, cells := 0, slots := 0, locals := 0 } : Room).slots) := by
  refine MetFree.of_bodySF (plainFor_of_name pn_9f213eb) hisR ?_
  intro p e s m args below meth c s₁ Bd hml0 hP hK
  obtain ⟨rfl, hZ, hh⟩ := hP
  have hx := Bd.exec
  have hby := Bd.bytes
  have hml : c.maxLocals = 3 := hml0
  have hown : s.vm.findClass "java/lang/StringUTF16" = some m.cls := findClass_of_methodNamed Bd.named
  have hnm := (name_of_methodNamed Bd.named Bd.method).1
  have X0 : Stand p l e ({ frames := 0, cells := 0, slots := 0, locals := 0 } : Room) s m #[(.ref d), (.int (Int32.ofNat i)), (.int cc)] below meth c s₁ [] 0 0 := Stand.of_body Bd
  have e0 : s₁.heap = h0 := by rw [← hh, Bd.state]; rfl
  have N0 := Fr.nil n0
  have K0 : Keep h0 h0 [d] := Keep.refl h0 [d]
  show Go p e below (s₁.setTop (entryFrame m #[(.ref d), (.int (Int32.ofNat i)), (.int cc)] 3)) (EndN s (Q_rmPC Z d kd mm i vs cc h0 n0) ({ frames := 0, cells := 0, slots := 0, locals := 0 } : Room).cells ({ frames := 0, cells := 0, slots := 0, locals := 0 } : Room).slots)
  refine Go.top (ef_31 m d (Int32.ofNat i) cc) ?_
  have own_KX : ∀ y_ ∈ [d], n0 ≤ y_ := (allS g_d all0)
  obtain ⟨T6, X6, e6, st6⟩ := getS (host := "") X0 hx hZ hown (hw _ (List.mem_of_getElem? (i := 169) rfl)) Via.refl e0 (A1.ext (X00.keep K0 own_KX).2) (g := (mkF m 0 #[.val (.ref d), .val (.int (Int32.ofNat i)), .val (.int cc)] [])) rfl (hb hby d31_0)
  refine Go.st (T' := T6.setTop (mkF m 3 #[.val (.ref d), .val (.int (Int32.ofNat i)), .val (.int cc)] [(.int (1 : Int32))])) (fun zt zk => st6 zt zk) ?_
  refine Go.st (T' := T6.setTop (mkF m 28 #[.val (.ref d), .val (.int (Int32.ofNat i)), .val (.int cc)] [])) (fun zt zk => XS.ifYes X6.here hx rfl (pc0 := 3) (pc' := 28) rfl (hb hby d31_3) rfl ((if0 _ _).trans (feq (by decide)).2) (by decide) (by decide) zk) ?_
  refine Go.st (T' := T6.setTop (mkF m 29 #[.val (.ref d), .val (.int (Int32.ofNat i)), .val (.int cc)] [(.int (Int32.ofNat i))])) (fun zt zk => XS.iloadN X6.here hx rfl (hb hby d31_28) rfl zk) ?_
  refine Go.st (T' := T6.setTop (mkF m 30 #[.val (.ref d), .val (.int (Int32.ofNat i)), .val (.int cc)] [(.int (1 : Int32)), (.int (Int32.ofNat i))])) (fun zt zk => XS.iconst X6.here hx rfl (hb hby d31_29) zk) ?_
  refine Go.st (T' := T6.setTop (mkF m 31 #[.val (.ref d), .val (.int (Int32.ofNat i)), .val (.int cc)] [(.int ((Int32.ofNat i) <<< ((1 : Int32) &&& 31)))])) (fun zt zk => XS.ishl X6.here hx rfl (hb hby d31_30) rfl zk) ?_
  rw [own_shl1 (by omega)]
  refine Go.st (T' := T6.setTop (mkF m 32 #[.val (.ref d), .val (.int (Int32.ofNat (2 * i))), .val (.int cc)] [])) (fun zt zk => XS.istoreN X6.here hx rfl (hb hby d31_31) rfl (l' := #[.val (.ref d), .val (.int (Int32.ofNat (2 * i))), .val (.int cc)]) rfl zk) ?_
  refine Go.st (T' := T6.setTop (mkF m 33 #[.val (.ref d), .val (.int (Int32.ofNat (2 * i))), .val (.int cc)] [(.ref d)])) (fun zt zk => XS.aloadN X6.here hx rfl (hb hby d31_32) rfl rfl zk) ?_
  refine Go.st (T' := T6.setTop (mkF m 34 #[.val (.ref d), .val (.int (Int32.ofNat (2 * i))), .val (.int cc)] [(.int (Int32.ofNat (2 * i))), (.ref d)])) (fun zt zk => XS.iloadN X6.here hx rfl (hb hby d31_33) rfl zk) ?_
  refine Go.st (T' := T6.setTop (mkF m 37 #[.val (.ref d), .val (.int ((Int32.ofNat (2 * i)) + (1 : Int32))), .val (.int cc)] [(.int (Int32.ofNat (2 * i))), (.ref d)])) (fun zt zk => XS.iinc X6.here hx rfl (hb hby d31_34) rfl (l' := #[.val (.ref d), .val (.int ((Int32.ofNat (2 * i)) + (1 : Int32))), .val (.int cc)]) rfl zk) ?_
  rw [own_addn (k := (1 : Int32)) (b := 1) rfl (by omega)]
  refine Go.st (T' := T6.setTop (mkF m 38 #[.val (.ref d), .val (.int (Int32.ofNat (2 * i + 1))), .val (.int cc)] [(.int cc), (.int (Int32.ofNat (2 * i))), (.ref d)])) (fun zt zk => XS.iloadN X6.here hx rfl (hb hby d31_37) rfl zk) ?_
  obtain ⟨T7, X7, e7, st7⟩ := getS (host := "") X6 hx hZ hown (hw _ (List.mem_of_getElem? (i := 170) rfl)) Via.refl e6 (A2.ext (X00.keep K0 own_KX).2) (g := (mkF m 38 #[.val (.ref d), .val (.int (Int32.ofNat (2 * i + 1))), .val (.int cc)] [(.int cc), (.int (Int32.ofNat (2 * i))), (.ref d)])) rfl (hb hby d31_38)
  refine Go.st (T' := T7.setTop (mkF m 41 #[.val (.ref d), .val (.int (Int32.ofNat (2 * i + 1))), .val (.int cc)] [(.int (0 : Int32)), (.int cc), (.int (Int32.ofNat (2 * i))), (.ref d)])) (fun zt zk => st7 zt zk) ?_
  refine Go.st (T' := T7.setTop (mkF m 42 #[.val (.ref d), .val (.int (Int32.ofNat (2 * i + 1))), .val (.int cc)] [(.int (cc >>> ((0 : Int32) &&& 31))), (.int (Int32.ofNat (2 * i))), (.ref d)])) (fun zt zk => XS.ishr X7.here hx rfl (hb hby d31_41) rfl zk) ?_
  refine Go.st (T' := T7.setTop (mkF m 43 #[.val (.ref d), .val (.int (Int32.ofNat (2 * i + 1))), .val (.int cc)] [(.int ((cc >>> ((0 : Int32) &&& 31)).toInt8.toInt32)), (.int (Int32.ofNat (2 * i))), (.ref d)])) (fun zt zk => XS.i2b X7.here hx rfl (hb hby d31_42) rfl zk) ?_
  obtain ⟨cl8, Ar8, q8, S8, M8, H8, G8⟩ := id Bb
  obtain ⟨T8, h8, X8, e8, W8, st8⟩ := stB X7 hx hZ e7 Ar8 (j := (Int32.ofNat (2 * i))) (inb_of S8 ⟨own_nn (by omega), (own_lt32 (by omega) (by omega)).mpr (by omega)⟩) (g := (mkF m 43 #[.val (.ref d), .val (.int (Int32.ofNat (2 * i + 1))), .val (.int cc)] [(.int ((cc >>> ((0 : Int32) &&& 31)).toInt8.toInt32)), (.int (Int32.ofNat (2 * i))), (.ref d)])) rfl rfl (hb hby d31_43)
  have V8 : Arv Z h8 d kd .byte (Int32.ofNat mm) (vs.set (2 * i) (.int (own_B0 cc))) (.int (0 : Int32)) := Arv.set Ar8 q8 S8 M8 H8 G8 (fits_nar_byte _) W8 (2 * i) (own_clamp (by omega)) (by omega)
  have K8 : Keep h0 h8 [d] := K0.wr W8 (Or.inl (List.mem_of_getElem? (i := 0) rfl))
  have N8 := Fr.snoc X8 N0 g_d
  refine Go.st (T' := T8.setTop (mkF m 44 #[.val (.ref d), .val (.int (Int32.ofNat (2 * i + 1))), .val (.int cc)] [])) (fun zt zk => st8 zt zk) ?_
  refine Go.st (T' := T8.setTop (mkF m 45 #[.val (.ref d), .val (.int (Int32.ofNat (2 * i + 1))), .val (.int cc)] [(.ref d)])) (fun zt zk => XS.aloadN X8.here hx rfl (hb hby d31_44) rfl rfl zk) ?_
  refine Go.st (T' := T8.setTop (mkF m 46 #[.val (.ref d), .val (.int (Int32.ofNat (2 * i + 1))), .val (.int cc)] [(.int (Int32.ofNat (2 * i + 1))), (.ref d)])) (fun zt zk => XS.iloadN X8.here hx rfl (hb hby d31_45) rfl zk) ?_
  refine Go.st (T' := T8.setTop (mkF m 47 #[.val (.ref d), .val (.int (Int32.ofNat (2 * i + 1))), .val (.int cc)] [(.int cc), (.int (Int32.ofNat (2 * i + 1))), (.ref d)])) (fun zt zk => XS.iloadN X8.here hx rfl (hb hby d31_46) rfl zk) ?_
  obtain ⟨T9, X9, e9, st9⟩ := getS (host := "") X8 hx hZ hown (hw _ (List.mem_of_getElem? (i := 171) rfl)) Via.refl e8 (A3.ext (X00.keep K8 own_KX).2) (g := (mkF m 47 #[.val (.ref d), .val (.int (Int32.ofNat (2 * i + 1))), .val (.int cc)] [(.int cc), (.int (Int32.ofNat (2 * i + 1))), (.ref d)])) rfl (hb hby d31_47)
  refine Go.st (T' := T9.setTop (mkF m 50 #[.val (.ref d), .val (.int (Int32.ofNat (2 * i + 1))), .val (.int cc)] [(.int (8 : Int32)), (.int cc), (.int (Int32.ofNat (2 * i + 1))), (.ref d)])) (fun zt zk => st9 zt zk) ?_
  refine Go.st (T' := T9.setTop (mkF m 51 #[.val (.ref d), .val (.int (Int32.ofNat (2 * i + 1))), .val (.int cc)] [(.int (cc >>> ((8 : Int32) &&& 31))), (.int (Int32.ofNat (2 * i + 1))), (.ref d)])) (fun zt zk => XS.ishr X9.here hx rfl (hb hby d31_50) rfl zk) ?_
  refine Go.st (T' := T9.setTop (mkF m 52 #[.val (.ref d), .val (.int (Int32.ofNat (2 * i + 1))), .val (.int cc)] [(.int ((cc >>> ((8 : Int32) &&& 31)).toInt8.toInt32)), (.int (Int32.ofNat (2 * i + 1))), (.ref d)])) (fun zt zk => XS.i2b X9.here hx rfl (hb hby d31_51) rfl zk) ?_
  obtain ⟨cl10, Ar10, q10, S10, M10, H10, G10⟩ := id V8
  obtain ⟨T10, h10, X10, e10, W10, st10⟩ := stB X9 hx hZ e9 Ar10 (j := (Int32.ofNat (2 * i + 1))) (inb_of S10 ⟨own_nn (by omega), (own_lt32 (by omega) (by omega)).mpr (by omega)⟩) (g := (mkF m 52 #[.val (.ref d), .val (.int (Int32.ofNat (2 * i + 1))), .val (.int cc)] [(.int ((cc >>> ((8 : Int32) &&& 31)).toInt8.toInt32)), (.int (Int32.ofNat (2 * i + 1))), (.ref d)])) rfl rfl (hb hby d31_52)
  have V10 : Arv Z h10 d kd .byte (Int32.ofNat mm) ((vs.set (2 * i) (.int (own_B0 cc))).set (2 * i + 1) (.int (own_B1 cc))) (.int (0 : Int32)) := Arv.set Ar10 q10 S10 M10 H10 G10 (fits_nar_byte _) W10 (2 * i + 1) (own_clamp (by omega)) (by rw [List.length_set]; omega)
  have K10 : Keep h0 h10 [d] := K8.wr W10 (Or.inl (List.mem_of_getElem? (i := 0) rfl))
  have N10 := Fr.snoc X10 N8 g_d
  refine Go.st (T' := T10.setTop (mkF m 53 #[.val (.ref d), .val (.int (Int32.ofNat (2 * i + 1))), .val (.int cc)] [])) (fun zt zk => st10 zt zk) ?_
  exact Go.done X10 Bd.notSynchronized (v := none) (fun _ => rfl) (fun fs hr => X10.returnOut hx Bd.returns (hb hby d31_53) hr) (by rw [e10]; exact ⟨rfl, N10, K10, V10⟩) (by decide) (by decide)
theorem d30_0 : decode jdk_52_method_3_code 0 = .ok (.iload_n 0, 1) := by decide +kernel
theorem d30_1 : decode jdk_52_method_3_code 1 = .ok (.ifCond .ge 11, 3) := by decide +kernel
theorem d30_12 : decode jdk_52_method_3_code 12 = .ok (.iload_n 0, 1) := by decide +kernel
theorem d30_13 : decode jdk_52_method_3_code 13 = .ok (.ldc 20, 2) := by decide +kernel
theorem d30_15 : decode jdk_52_method_3_code 15 = .ok (.if_icmp .lt 40, 3) := by decide +kernel
theorem d30_55 : decode jdk_52_method_3_code 55 = .ok (.iload_n 0, 1) := by decide +kernel
theorem d30_56 : decode jdk_52_method_3_code 56 = .ok (.iconst 1, 1) := by decide +kernel
theorem d30_57 : decode jdk_52_method_3_code 57 = .ok (.ishl, 1) := by decide +kernel
theorem d30_58 : decode jdk_52_method_3_code 58 = .ok (.ireturn, 1) := by decide +kernel
theorem ef_30 (m : MethodId) (x0 : Int32) : entryFrame m #[(.int x0)] 1 = mkF m 0 #[.val (.int x0)] [] := by first | (simp [entryFrame, mkF, argsToLocals, Value.category]; done) | rfl
def Q_rmNBL (Z : State) (nn : Nat) (h0 : Heap) (n0 : Nat) (v : Option Value) (h : Heap) (L : List Loc) : Prop := v = some (.int (Int32.ofNat (2 * nn))) ∧ Fr n0 L ∧ h = h0
set_option maxRecDepth 65536 in
set_option maxHeartbeats 40000000 in
theorem rmNBL (l : Launch) (Z : State) (a0 : Array Value) (hw : ∀ d ∈ tables_1, d.before a0 Z = true) (nn : Nat) (h0 : Heap) (n0 : Nat) (Z0 : n0 ≤ h0.size) (hle : nn ≤ 4099) :
    MetFree l (⟨"java/lang/StringUTF16", "newBytesLength", "(I)I"⟩ : MethodName) (head1 [Jvm.Cond.code (⟨"java/lang/StringUTF16", "newBytesLength", "(I)I"⟩ : MethodName) jdk_52_method_3_code 1 (some .int)] ({ frames := 0, cells := 0, slots := 0, locals := 0 } : Room)) (fun a U => a = #[(.int (Int32.ofNat nn))] ∧ Z.Warmed39 U.vm ∧ U.heap = h0) (fun _ _ _ _ _ => True) (fun _ U o U' => ∃ v L, o = .returned v ∧ (Q_rmNBL Z nn h0 n0) v U'.heap L ∧ FrameEnd U o U' L ({ frames := 0, cells := 0, slots := 0, locals := 0 } : Room).cells ({ frames := 0, cells := 0, slots := 0, locals := 0 } : Room).slots) := by
  refine MetFree.of_bodySF (plainFor_of_name pn_9f213eb) hisR ?_
  intro p e s m args below meth c s₁ Bd hml0 hP hK
  obtain ⟨rfl, hZ, hh⟩ := hP
  have hx := Bd.exec
  have hby := Bd.bytes
  have hml : c.maxLocals = 1 := hml0
  have hown : s.vm.findClass "java/lang/StringUTF16" = some m.cls := findClass_of_methodNamed Bd.named
  have hnm := (name_of_methodNamed Bd.named Bd.method).1
  have X0 : Stand p l e ({ frames := 0, cells := 0, slots := 0, locals := 0 } : Room) s m #[(.int (Int32.ofNat nn))] below meth c s₁ [] 0 0 := Stand.of_body Bd
  have e0 : s₁.heap = h0 := by rw [← hh, Bd.state]; rfl
  have N0 := Fr.nil n0
  have K0 : Keep h0 h0 [] := Keep.refl h0 []
  show Go p e below (s₁.setTop (entryFrame m #[(.int (Int32.ofNat nn))] 1)) (EndN s (Q_rmNBL Z nn h0 n0) ({ frames := 0, cells := 0, slots := 0, locals := 0 } : Room).cells ({ frames := 0, cells := 0, slots := 0, locals := 0 } : Room).slots)
  refine Go.top (ef_30 m (Int32.ofNat nn)) ?_
  refine Go.st (T' := s₁.setTop (mkF m 1 #[.val (.int (Int32.ofNat nn))] [(.int (Int32.ofNat nn))])) (fun zt zk => XS.iloadN X0.here hx rfl (hb hby d30_0) rfl zk) ?_
  refine Go.st (T' := s₁.setTop (mkF m 12 #[.val (.int (Int32.ofNat nn))] [])) (fun zt zk => XS.ifYes X0.here hx rfl (pc0 := 1) (pc' := 12) rfl (hb hby d30_1) rfl ((if0 _ _).trans (flt (own_nn (by omega))).2.1) (by decide) (by decide) zk) ?_
  refine Go.st (T' := s₁.setTop (mkF m 13 #[.val (.int (Int32.ofNat nn))] [(.int (Int32.ofNat nn))])) (fun zt zk => XS.iloadN X0.here hx rfl (hb hby d30_12) rfl zk) ?_
  refine Go.st (T' := s₁.setTop (mkF m 15 #[.val (.int (Int32.ofNat nn))] [(.int (1073741823 : Int32)), (.int (Int32.ofNat nn))])) (fun zt zk => X0.ldcInt hx hown (mvT hZ (hw _ (List.mem_of_getElem? (i := 165) rfl))) (g := (mkF m 13 #[.val (.int (Int32.ofNat nn))] [(.int (Int32.ofNat nn))])) rfl (hb hby d30_13) zt zk) ?_
  refine Go.st (T' := s₁.setTop (mkF m 55 #[.val (.int (Int32.ofNat nn))] [])) (fun zt zk => XS.icmpYes X0.here hx rfl (pc0 := 15) (pc' := 55) rfl (hb hby d30_15) rfl (tlt ((own_lt32 (n := 1073741823) (by omega) (by omega)).mpr (by omega))).1 (by decide) (by decide) zk) ?_
  refine Go.st (T' := s₁.setTop (mkF m 56 #[.val (.int (Int32.ofNat nn))] [(.int (Int32.ofNat nn))])) (fun zt zk => XS.iloadN X0.here hx rfl (hb hby d30_55) rfl zk) ?_
  refine Go.st (T' := s₁.setTop (mkF m 57 #[.val (.int (Int32.ofNat nn))] [(.int (1 : Int32)), (.int (Int32.ofNat nn))])) (fun zt zk => XS.iconst X0.here hx rfl (hb hby d30_56) zk) ?_
  refine Go.st (T' := s₁.setTop (mkF m 58 #[.val (.int (Int32.ofNat nn))] [(.int ((Int32.ofNat nn) <<< ((1 : Int32) &&& 31)))])) (fun zt zk => XS.ishl X0.here hx rfl (hb hby d30_57) rfl zk) ?_
  rw [own_shl1 (by omega)]
  exact Go.done X0 Bd.notSynchronized (v := some (.int (Int32.ofNat (2 * nn)))) (fun h => by rw [Bd.returns] at h; cases h) (fun fs hr => retI X0 hx Bd.returns (hb hby d30_58) hr) (by rw [e0]; exact ⟨rfl, N0, rfl⟩) (by decide) (by decide)
theorem d29_0 : decode jdk_52_method_2_code 0 = .ok (.iload_n 0, 1) := by decide +kernel
theorem d29_1 : decode jdk_52_method_2_code 1 = .ok (.invokestatic 11, 3) := by decide +kernel
theorem d29_4 : decode jdk_52_method_2_code 4 = .ok (.newarray .byte, 2) := by decide +kernel
theorem d29_6 : decode jdk_52_method_2_code 6 = .ok (.areturn, 1) := by decide +kernel
theorem pd_56f530d : parseMethodDescriptor "(I)I" = some ⟨[.int], some .int⟩ := by decide +kernel
theorem ef_29 (m : MethodId) (x0 : Int32) : entryFrame m #[(.int x0)] 1 = mkF m 0 #[.val (.int x0)] [] := by first | (simp [entryFrame, mkF, argsToLocals, Value.category]; done) | rfl
def Q_rmNBF (Z : State) (nn : Nat) (h0 : Heap) (n0 : Nat) (v : Option Value) (h : Heap) (L : List Loc) : Prop := Fr n0 L ∧ Keep h0 h [] ∧ ∃ (t : Addr) (k : ClassId), v = some (.ref t) ∧ h0.size ≤ t ∧ Arv Z h t k .byte (Int32.ofNat (2 * nn)) (List.replicate (2 * nn) (.int (0 : Int32))) (.int (0 : Int32))
set_option maxRecDepth 65536 in
set_option maxHeartbeats 40000000 in
theorem rmNBF (l : Launch) (Z : State) (a0 : Array Value) (hw : ∀ d ∈ tables_1, d.before a0 Z = true) (nn : Nat) (h0 : Heap) (n0 : Nat) (Z0 : n0 ≤ h0.size) (hle : nn ≤ 4099) :
    MetFree l (⟨"java/lang/StringUTF16", "newBytesFor", "(I)[B"⟩ : MethodName) (head1 [Jvm.Cond.code (⟨"java/lang/StringUTF16", "newBytesFor", "(I)[B"⟩ : MethodName) jdk_52_method_2_code 1 (some (.array .byte))] ({ frames := 1, cells := 1, slots := 8198, locals := 12 } : Room)) (fun a U => a = #[(.int (Int32.ofNat nn))] ∧ Z.Warmed39 U.vm ∧ U.heap = h0) (fun _ _ _ _ _ => True) (fun _ U o U' => ∃ v L, o = .returned v ∧ (Q_rmNBF Z nn h0 n0) v U'.heap L ∧ FrameEnd U o U' L ({ frames := 1, cells := 1, slots := 8198, locals := 12 } : Room).cells ({ frames := 1, cells := 1, slots := 8198, locals := 12 } : Room).slots) := by
  refine MetFree.of_bodySF (plainFor_of_name pn_9f213eb) hisR ?_
  intro p e s m args below meth c s₁ Bd hml0 hP hK
  obtain ⟨rfl, hZ, hh⟩ := hP
  have hx := Bd.exec
  have hby := Bd.bytes
  have hml : c.maxLocals = 1 := hml0
  have hown : s.vm.findClass "java/lang/StringUTF16" = some m.cls := findClass_of_methodNamed Bd.named
  have hnm := (name_of_methodNamed Bd.named Bd.method).1
  have X0 : Stand p l e ({ frames := 1, cells := 1, slots := 8198, locals := 12 } : Room) s m #[(.int (Int32.ofNat nn))] below meth c s₁ [] 0 0 := Stand.of_body Bd
  have e0 : s₁.heap = h0 := by rw [← hh, Bd.state]; rfl
  have N0 := Fr.nil n0
  have K0 : Keep h0 h0 [] := Keep.refl h0 []
  show Go p e below (s₁.setTop (entryFrame m #[(.int (Int32.ofNat nn))] 1)) (EndN s (Q_rmNBF Z nn h0 n0) ({ frames := 1, cells := 1, slots := 8198, locals := 12 } : Room).cells ({ frames := 1, cells := 1, slots := 8198, locals := 12 } : Room).slots)
  refine Go.top (ef_29 m (Int32.ofNat nn)) ?_
  refine Go.st (T' := s₁.setTop (mkF m 1 #[.val (.int (Int32.ofNat nn))] [(.int (Int32.ofNat nn))])) (fun zt zk => XS.iloadN X0.here hx rfl (hb hby d29_0) rfl zk) ?_
  obtain ⟨vr11, _, ⟨T11, L11, k11, n11⟩, -, X11, ⟨Lc11, hQ11, l11, y11, z11⟩, st11⟩ := Jvm.LawKit.callS X0 hx (y := (⟨"java/lang/StringUTF16", "newBytesLength", "(I)I"⟩ : MethodName)) hown (mvT hZ (hw _ (List.mem_of_getElem? (i := 162) rfl))) (mvT hZ (hw _ (List.mem_of_getElem? (i := 163) rfl))) (mvT hZ (hw _ (List.mem_of_getElem? (i := 20) rfl))) (mvT hZ (hw _ (List.mem_of_getElem? (i := 164) rfl))) (by decide) (backOf (W := 0) (rmNBL l Z a0 hw nn h0 n0 Z0 hle) hZ (hw _ (List.mem_of_getElem? (i := 164) rfl)) (hw _ (List.mem_of_getElem? (i := 20) rfl)) (by decide) (by decide)) (g := (mkF m 1 #[.val (.int (Int32.ofNat nn))] [(.int (Int32.ofNat nn))])) rfl (by rw [hml]; rfl) (argsL := [(.int (Int32.ofNat nn))]) (rest := []) (lenOf pd_56f530d rfl) rfl (by show 2 * 0 + _ ≤ _; exact Nat.le_of_eq rfl) (hb hby d29_1) (fun _ _ => ⟨rfl, e0, (by decide : 0 + 0 ≤ _), (by decide : 0 + 0 ≤ _)⟩)
  dsimp only [Pt.U, Pt.locs, Pt.cells, Pt.slots] at X11 l11 y11 z11 st11 hQ11
  subst l11 y11 z11
  obtain ⟨rfl, Nq11, eq11⟩ := hQ11
  have NN12 := Fr.app N0 Nq11
  refine Go.st (T' := T11.setTop (mkF m 4 #[.val (.int (Int32.ofNat nn))] [(.int (Int32.ofNat (2 * nn)))])) (fun zt zk => st11 zt zk) ?_
  obtain ⟨T13, h13, k13, X13, e13, E13, A13, st13⟩ := newP X11 hx hZ (hw _ (List.mem_of_getElem? (i := 22) rfl)) eq11 (g := (mkF m 4 #[.val (.int (Int32.ofNat nn))] [(.int (Int32.ofNat (2 * nn)))])) rfl (hb hby d29_4) rfl (own_nn (by omega)) (cap := 8198) (by rw [own_clamp (by omega)]; omega) (by decide) (by decide) (by decide)
  obtain ⟨b13, g13⟩ : ∃ z, z = h0.size := ⟨_, rfl⟩
  rw [← g13] at A13 st13
  have g_b13 : n0 ≤ b13 := Nat.le_trans (Nat.le_trans Z0 K0.1) (Nat.le_of_eq g13.symm)
  have sz_b13 : h0.size ≤ b13 := Nat.le_trans K0.1 (Nat.le_of_eq g13.symm)
  have K13 : Keep h0 h13 [] := K0.ext E13
  have V13 : Arv Z h13 b13 k13 .byte (Int32.ofNat (2 * nn)) (List.replicate (2 * nn) (.int (0 : Int32))) (.int (0 : Int32)) := (Arv.new A13 (own_nn (by omega))).pad (pad_rep [] (.int (0 : Int32)) (2 * nn))
  refine Go.st (T' := T13.setTop (mkF m 6 #[.val (.int (Int32.ofNat nn))] [(.ref b13)])) (fun zt zk => st13 zt zk) ?_
  exact Go.done X13 Bd.notSynchronized (v := some (.ref b13)) (fun h => by rw [Bd.returns] at h; cases h) (fun fs hr => retA X13 hx Bd.returns rfl rfl rfl (hb hby d29_6) hr) (by rw [e13]; exact ⟨NN12, K13, b13, _, rfl, sz_b13, V13⟩) (by decide) (by decide)
theorem d28_0 : decode jdk_52_method_14_code 0 = .ok (.iload_n 2, 1) := by decide +kernel
theorem d28_1 : decode jdk_52_method_14_code 1 = .ok (.invokestatic 107, 3) := by decide +kernel
theorem d28_4 : decode jdk_52_method_14_code 4 = .ok (.astore_n 3, 1) := by decide +kernel
theorem d28_5 : decode jdk_52_method_14_code 5 = .ok (.iconst 0, 1) := by decide +kernel
theorem d28_6 : decode jdk_52_method_14_code 6 = .ok (.istore 4, 2) := by decide +kernel
theorem d28_8 : decode jdk_52_method_14_code 8 = .ok (.iload 4, 2) := by decide +kernel
theorem d28_10 : decode jdk_52_method_14_code 10 = .ok (.iload_n 2, 1) := by decide +kernel
theorem d28_11 : decode jdk_52_method_14_code 11 = .ok (.if_icmp .ge 21, 3) := by decide +kernel
theorem d28_14 : decode jdk_52_method_14_code 14 = .ok (.aload_n 3, 1) := by decide +kernel
theorem d28_15 : decode jdk_52_method_14_code 15 = .ok (.iload 4, 2) := by decide +kernel
theorem d28_17 : decode jdk_52_method_14_code 17 = .ok (.aload_n 0, 1) := by decide +kernel
theorem d28_18 : decode jdk_52_method_14_code 18 = .ok (.iload_n 1, 1) := by decide +kernel
theorem d28_19 : decode jdk_52_method_14_code 19 = .ok (.caload, 1) := by decide +kernel
theorem d28_20 : decode jdk_52_method_14_code 20 = .ok (.invokestatic 111, 3) := by decide +kernel
theorem d28_23 : decode jdk_52_method_14_code 23 = .ok (.iinc 1 1, 3) := by decide +kernel
theorem d28_26 : decode jdk_52_method_14_code 26 = .ok (.iinc 4 1, 3) := by decide +kernel
theorem d28_29 : decode jdk_52_method_14_code 29 = .ok (.goto (-21), 3) := by decide +kernel
theorem d28_32 : decode jdk_52_method_14_code 32 = .ok (.aload_n 3, 1) := by decide +kernel
theorem d28_33 : decode jdk_52_method_14_code 33 = .ok (.areturn, 1) := by decide +kernel
theorem pd_7f7891f : parseMethodDescriptor "(I)[B" = some ⟨[.int], some (.array .byte)⟩ := by decide +kernel
theorem pd_45380c0 : parseMethodDescriptor "([BII)V" = some ⟨[(.array .byte), .int, .int], none⟩ := by decide +kernel
theorem ef_28 (m : MethodId) (x0 : Addr) (x1 : Int32) (x2 : Int32) : entryFrame m #[(.ref x0), (.int x1), (.int x2)] 5 = mkF m 0 #[.val (.ref x0), .val (.int x1), .val (.int x2), .unset, .unset] [] := by first | (simp [entryFrame, mkF, argsToLocals, Value.category]; done) | rfl
def Q_rmTB (Z : State) (ca : Addr) (kc : ClassId) (cs : List Int32) (h0 : Heap) (n0 : Nat) (v : Option Value) (h : Heap) (L : List Loc) : Prop := Fr n0 L ∧ Keep h0 h [] ∧ ∃ (t : Addr) (k : ClassId), v = some (.ref t) ∧ h0.size ≤ t ∧ Arv Z h t k .byte (Int32.ofNat (2 * cs.length)) (own_p cs cs.length) (.int (0 : Int32))
set_option maxRecDepth 65536 in
set_option maxHeartbeats 40000000 in
theorem rmTB (l : Launch) (Z : State) (a0 : Array Value) (hw : ∀ d ∈ tables_1, d.before a0 Z = true) (ca : Addr) (kc : ClassId) (cs : List Int32) (h0 : Heap) (n0 : Nat) (Z0 : n0 ≤ h0.size) (X00 : Old Z n0 h0) (A1 : Sta Z Z.heap "java/lang/StringUTF16" "$assertionsDisabled" "Z" (.int (1 : Int32))) (A2 : Sta Z Z.heap "java/lang/StringUTF16" "HI_BYTE_SHIFT" "I" (.int (0 : Int32))) (A3 : Sta Z Z.heap "java/lang/StringUTF16" "LO_BYTE_SHIFT" "I" (.int (8 : Int32))) (Bc : Arv Z h0 ca kc .char (Int32.ofNat cs.length) (cs.map Value.int) (.int (0 : Int32))) (hle : cs.length ≤ 4099) :
    MetFree l (⟨"java/lang/StringUTF16", "toBytes", "([CII)[B"⟩ : MethodName) (head1 [Jvm.Cond.code (⟨"java/lang/StringUTF16", "toBytes", "([CII)[B"⟩ : MethodName) jdk_52_method_14_code 5 (some (.array .byte))] ({ frames := 2, cells := 1, slots := 8198, locals := 24 } : Room)) (fun a U => a = #[(.ref ca), (.int (0 : Int32)), (.int (Int32.ofNat cs.length))] ∧ Z.Warmed39 U.vm ∧ U.heap = h0) (fun _ _ _ _ _ => True) (fun _ U o U' => ∃ v L, o = .returned v ∧ (Q_rmTB Z ca kc cs h0 n0) v U'.heap L ∧ FrameEnd U o U' L ({ frames := 2, cells := 1, slots := 8198, locals := 24 } : Room).cells ({ frames := 2, cells := 1, slots := 8198, locals := 24 } : Room).slots) := by
  refine MetFree.of_bodySF (plainFor_of_name pn_9f213eb) hisR ?_
  intro p e s m args below meth c s₁ Bd hml0 hP hK
  obtain ⟨rfl, hZ, hh⟩ := hP
  have hx := Bd.exec
  have hby := Bd.bytes
  have hml : c.maxLocals = 5 := hml0
  have hown : s.vm.findClass "java/lang/StringUTF16" = some m.cls := findClass_of_methodNamed Bd.named
  have hnm := (name_of_methodNamed Bd.named Bd.method).1
  have X0 : Stand p l e ({ frames := 2, cells := 1, slots := 8198, locals := 24 } : Room) s m #[(.ref ca), (.int (0 : Int32)), (.int (Int32.ofNat cs.length))] below meth c s₁ [] 0 0 := Stand.of_body Bd
  have e0 : s₁.heap = h0 := by rw [← hh, Bd.state]; rfl
  have N0 := Fr.nil n0
  have K0 : Keep h0 h0 [] := Keep.refl h0 []
  show Go p e below (s₁.setTop (entryFrame m #[(.ref ca), (.int (0 : Int32)), (.int (Int32.ofNat cs.length))] 5)) (EndN s (Q_rmTB Z ca kc cs h0 n0) ({ frames := 2, cells := 1, slots := 8198, locals := 24 } : Room).cells ({ frames := 2, cells := 1, slots := 8198, locals := 24 } : Room).slots)
  refine Go.top (ef_28 m ca (0 : Int32) (Int32.ofNat cs.length)) ?_
  refine Go.st (T' := s₁.setTop (mkF m 1 #[.val (.ref ca), .val (.int (0 : Int32)), .val (.int (Int32.ofNat cs.length)), .unset, .unset] [(.int (Int32.ofNat cs.length))])) (fun zt zk => XS.iloadN X0.here hx rfl (hb hby d28_0) rfl zk) ?_
  obtain ⟨vr14, _, ⟨T14, L14, k14, n14⟩, -, X14, ⟨Lc14, hQ14, l14, y14, z14⟩, st14⟩ := Jvm.LawKit.callS X0 hx (y := (⟨"java/lang/StringUTF16", "newBytesFor", "(I)[B"⟩ : MethodName)) hown (mvT hZ (hw _ (List.mem_of_getElem? (i := 159) rfl))) (mvT hZ (hw _ (List.mem_of_getElem? (i := 160) rfl))) (mvT hZ (hw _ (List.mem_of_getElem? (i := 20) rfl))) (mvT hZ (hw _ (List.mem_of_getElem? (i := 161) rfl))) (by decide) (backOf (W := 0) (rmNBF l Z a0 hw cs.length h0 n0 Z0 hle) hZ (hw _ (List.mem_of_getElem? (i := 161) rfl)) (hw _ (List.mem_of_getElem? (i := 20) rfl)) (by decide) (by decide)) (g := (mkF m 1 #[.val (.ref ca), .val (.int (0 : Int32)), .val (.int (Int32.ofNat cs.length)), .unset, .unset] [(.int (Int32.ofNat cs.length))])) rfl (by rw [hml]; rfl) (argsL := [(.int (Int32.ofNat cs.length))]) (rest := []) (lenOf pd_7f7891f rfl) rfl (by show 2 * 0 + _ ≤ _; exact Nat.le_of_eq rfl) (hb hby d28_1) (fun _ _ => ⟨rfl, e0, (by decide : 0 + 1 ≤ _), (by decide : 0 + 8198 ≤ _)⟩)
  dsimp only [Pt.U, Pt.locs, Pt.cells, Pt.slots] at X14 l14 y14 z14 st14 hQ14
  subst l14 y14 z14
  obtain ⟨Nq14, Kq14, t14, k14b, rfl, sz_t14, V14⟩ := hQ14
  have KK15 : Keep h0 T14.heap [] := K0.trans Kq14 all0
  have NN16 := Fr.app N0 Nq14
  refine Go.st (T' := T14.setTop (mkF m 4 #[.val (.ref ca), .val (.int (0 : Int32)), .val (.int (Int32.ofNat cs.length)), .unset, .unset] [(.ref t14)])) (fun zt zk => st14 zt zk) ?_
  refine Go.st (T' := T14.setTop (mkF m 5 #[.val (.ref ca), .val (.int (0 : Int32)), .val (.int (Int32.ofNat cs.length)), .val (.ref t14), .unset] [])) (fun zt zk => XS.astoreN X14.here hx rfl (hb hby d28_4) rfl rfl (l' := #[.val (.ref ca), .val (.int (0 : Int32)), .val (.int (Int32.ofNat cs.length)), .val (.ref t14), .unset]) rfl zk) ?_
  refine Go.st (T' := T14.setTop (mkF m 6 #[.val (.ref ca), .val (.int (0 : Int32)), .val (.int (Int32.ofNat cs.length)), .val (.ref t14), .unset] [(.int (0 : Int32))])) (fun zt zk => XS.iconst X14.here hx rfl (hb hby d28_5) zk) ?_
  refine Go.st (T' := T14.setTop (mkF m 8 #[.val (.ref ca), .val (.int (0 : Int32)), .val (.int (Int32.ofNat cs.length)), .val (.ref t14), .val (.int (0 : Int32))] [])) (fun zt zk => XS.istore X14.here hx rfl (hb hby d28_6) rfl (l' := #[.val (.ref ca), .val (.int (0 : Int32)), .val (.int (Int32.ofNat cs.length)), .val (.ref t14), .val (.int (0 : Int32))]) rfl zk) ?_
  have g_t14 : n0 ≤ t14 := Nat.le_trans Z0 sz_t14
  rw [← own_p0 cs] at V14
  suffices loop : ∀ (r : Nat), r ≤ cs.length → ∀ (TL : State) (hL : Heap) (LL : List Loc), Stand p l e ({ frames := 2, cells := 1, slots := 8198, locals := 24 } : Room) s m #[(.ref ca), (.int (0 : Int32)), (.int (Int32.ofNat cs.length))] below meth c TL LL 1 8198 → TL.heap = hL → Fr n0 LL → Keep h0 hL [] → Arv Z hL t14 k14b .byte (Int32.ofNat (2 * cs.length)) (own_p cs (cs.length - r)) (.int (0 : Int32)) → Go p e below (TL.setTop (mkF m 8 #[.val (.ref ca), .val (.int (Int32.ofNat (cs.length - r))), .val (.int (Int32.ofNat cs.length)), .val (.ref t14), .val (.int (Int32.ofNat (cs.length - r)))] [])) (EndN s (Q_rmTB Z ca kc cs h0 n0) ({ frames := 2, cells := 1, slots := 8198, locals := 24 } : Room).cells ({ frames := 2, cells := 1, slots := 8198, locals := 24 } : Room).slots) by
    have := loop cs.length (Nat.le_refl _) T14 _ _ X14 rfl NN16 KK15 (by rw [Nat.sub_self]; exact V14)
    rw [Nat.sub_self] at this
    exact this
  intro r
  induction r with
  | zero =>
    intro _ TL hL LL XL eL NL KL VL
    refine Go.st (T' := TL.setTop (mkF m 10 #[.val (.ref ca), .val (.int (Int32.ofNat (cs.length - 0))), .val (.int (Int32.ofNat cs.length)), .val (.ref t14), .val (.int (Int32.ofNat (cs.length - 0)))] [(.int (Int32.ofNat (cs.length - 0)))])) (fun zt zk => XS.iload XL.here hx rfl (hb hby d28_8) rfl zk) ?_
    refine Go.st (T' := TL.setTop (mkF m 11 #[.val (.ref ca), .val (.int (Int32.ofNat (cs.length - 0))), .val (.int (Int32.ofNat cs.length)), .val (.ref t14), .val (.int (Int32.ofNat (cs.length - 0)))] [(.int (Int32.ofNat cs.length)), (.int (Int32.ofNat (cs.length - 0)))])) (fun zt zk => XS.iloadN XL.here hx rfl (hb hby d28_10) rfl zk) ?_
    refine Go.st (T' := TL.setTop (mkF m 32 #[.val (.ref ca), .val (.int (Int32.ofNat (cs.length - 0))), .val (.int (Int32.ofNat cs.length)), .val (.ref t14), .val (.int (Int32.ofNat (cs.length - 0)))] [])) (fun zt zk => XS.icmpYes XL.here hx rfl (pc0 := 11) (pc' := 32) rfl (hb hby d28_11) rfl (flt (fun q => absurd ((own_lt32 (by omega) (by omega)).mp q) (by omega))).2.1 (by decide) (by decide) zk) ?_
    refine Go.st (T' := TL.setTop (mkF m 33 #[.val (.ref ca), .val (.int (Int32.ofNat (cs.length - 0))), .val (.int (Int32.ofNat cs.length)), .val (.ref t14), .val (.int (Int32.ofNat (cs.length - 0)))] [(.ref t14)])) (fun zt zk => XS.aloadN XL.here hx rfl (hb hby d28_32) rfl rfl zk) ?_
    exact Go.done XL Bd.notSynchronized (v := some (.ref t14)) (fun h => by rw [Bd.returns] at h; cases h) (fun fs hr => retA XL hx Bd.returns rfl rfl rfl (hb hby d28_33) hr) (by rw [eL]; exact ⟨NL, KL, t14, _, rfl, sz_t14, VL⟩) (by decide) (by decide)
  | succ r ih =>
    intro hr TL hL LL XL eL NL KL VL
    have Bc2 := Bc.keep KL nin0
    refine Go.st (T' := TL.setTop (mkF m 10 #[.val (.ref ca), .val (.int (Int32.ofNat (cs.length - (r + 1)))), .val (.int (Int32.ofNat cs.length)), .val (.ref t14), .val (.int (Int32.ofNat (cs.length - (r + 1))))] [(.int (Int32.ofNat (cs.length - (r + 1))))])) (fun zt zk => XS.iload XL.here hx rfl (hb hby d28_8) rfl zk) ?_
    refine Go.st (T' := TL.setTop (mkF m 11 #[.val (.ref ca), .val (.int (Int32.ofNat (cs.length - (r + 1)))), .val (.int (Int32.ofNat cs.length)), .val (.ref t14), .val (.int (Int32.ofNat (cs.length - (r + 1))))] [(.int (Int32.ofNat cs.length)), (.int (Int32.ofNat (cs.length - (r + 1))))])) (fun zt zk => XS.iloadN XL.here hx rfl (hb hby d28_10) rfl zk) ?_
    refine Go.st (T' := TL.setTop (mkF m 14 #[.val (.ref ca), .val (.int (Int32.ofNat (cs.length - (r + 1)))), .val (.int (Int32.ofNat cs.length)), .val (.ref t14), .val (.int (Int32.ofNat (cs.length - (r + 1))))] [])) (fun zt zk => XS.icmpNo XL.here hx rfl (hb hby d28_11) rfl (tlt ((own_lt32 (by omega) (by omega)).mpr (by omega))).2.1 zk) ?_
    refine Go.st (T' := TL.setTop (mkF m 15 #[.val (.ref ca), .val (.int (Int32.ofNat (cs.length - (r + 1)))), .val (.int (Int32.ofNat cs.length)), .val (.ref t14), .val (.int (Int32.ofNat (cs.length - (r + 1))))] [(.ref t14)])) (fun zt zk => XS.aloadN XL.here hx rfl (hb hby d28_14) rfl rfl zk) ?_
    refine Go.st (T' := TL.setTop (mkF m 17 #[.val (.ref ca), .val (.int (Int32.ofNat (cs.length - (r + 1)))), .val (.int (Int32.ofNat cs.length)), .val (.ref t14), .val (.int (Int32.ofNat (cs.length - (r + 1))))] [(.int (Int32.ofNat (cs.length - (r + 1)))), (.ref t14)])) (fun zt zk => XS.iload XL.here hx rfl (hb hby d28_15) rfl zk) ?_
    refine Go.st (T' := TL.setTop (mkF m 18 #[.val (.ref ca), .val (.int (Int32.ofNat (cs.length - (r + 1)))), .val (.int (Int32.ofNat cs.length)), .val (.ref t14), .val (.int (Int32.ofNat (cs.length - (r + 1))))] [(.ref ca), (.int (Int32.ofNat (cs.length - (r + 1)))), (.ref t14)])) (fun zt zk => XS.aloadN XL.here hx rfl (hb hby d28_17) rfl rfl zk) ?_
    refine Go.st (T' := TL.setTop (mkF m 19 #[.val (.ref ca), .val (.int (Int32.ofNat (cs.length - (r + 1)))), .val (.int (Int32.ofNat cs.length)), .val (.ref t14), .val (.int (Int32.ofNat (cs.length - (r + 1))))] [(.int (Int32.ofNat (cs.length - (r + 1)))), (.ref ca), (.int (Int32.ofNat (cs.length - (r + 1)))), (.ref t14)])) (fun zt zk => XS.iloadN XL.here hx rfl (hb hby d28_18) rfl zk) ?_
    obtain ⟨cl17, Ar17, q17, S17, M17, H17, G17⟩ := id Bc2
    have hin17 := ((inb_of S17 ⟨own_nn (by omega), (own_lt32 (by omega) (by omega)).mpr (by omega)⟩) : ¬ ((Int32.ofNat (cs.length - (r + 1))) < 0 ∨ cl17.slots.size ≤ ((Int32.ofNat (cs.length - (r + 1)))).toNatClampNeg))
    refine Go.st (T' := TL.setTop (mkF m 20 #[.val (.ref ca), .val (.int (Int32.ofNat (cs.length - (r + 1)))), .val (.int (Int32.ofNat cs.length)), .val (.ref t14), .val (.int (Int32.ofNat (cs.length - (r + 1))))] [(.int (cs.getD (cs.length - (r + 1)) 0)), (.int (Int32.ofNat (cs.length - (r + 1)))), (.ref t14)])) (fun zt zk => XL.caload hx (j := (Int32.ofNat (cs.length - (r + 1)))) (v := (.int (cs.getD (cs.length - (r + 1)) 0))) (by rw [eL]; exact Ar17.1) (State.isArrayOf_alike hZ.alike Ar17.2.1) Ar17.2.2 hin17 (H17.at hin17 (own_gd cs (by omega))) (g := (mkF m 19 #[.val (.ref ca), .val (.int (Int32.ofNat (cs.length - (r + 1)))), .val (.int (Int32.ofNat cs.length)), .val (.ref t14), .val (.int (Int32.ofNat (cs.length - (r + 1))))] [(.int (Int32.ofNat (cs.length - (r + 1)))), (.ref ca), (.int (Int32.ofNat (cs.length - (r + 1)))), (.ref t14)])) rfl rfl (hb hby d28_19) zt zk) ?_
    obtain ⟨vr18, _, ⟨T18, L18, k18, n18⟩, -, X18, ⟨Lc18, hQ18, l18, y18, z18⟩, st18⟩ := Jvm.LawKit.callS XL hx (y := (⟨"java/lang/StringUTF16", "putChar", "([BII)V"⟩ : MethodName)) hown (mvT hZ (hw _ (List.mem_of_getElem? (i := 166) rfl))) (mvT hZ (hw _ (List.mem_of_getElem? (i := 167) rfl))) (mvT hZ (hw _ (List.mem_of_getElem? (i := 20) rfl))) (mvT hZ (hw _ (List.mem_of_getElem? (i := 168) rfl))) (by decide) (backOf (W := 0) (rmPC l Z a0 hw t14 k14b (2 * cs.length) (cs.length - (r + 1)) (own_p cs (cs.length - (r + 1))) (cs.getD (cs.length - (r + 1)) 0) hL n0 (Nat.le_trans Z0 KL.1) (X00.keep KL all0) A1 A2 A3 VL g_t14 (own_pl _ _) (by omega) (by omega)) hZ (hw _ (List.mem_of_getElem? (i := 168) rfl)) (hw _ (List.mem_of_getElem? (i := 20) rfl)) (by decide) (by decide)) (g := (mkF m 20 #[.val (.ref ca), .val (.int (Int32.ofNat (cs.length - (r + 1)))), .val (.int (Int32.ofNat cs.length)), .val (.ref t14), .val (.int (Int32.ofNat (cs.length - (r + 1))))] [(.int (cs.getD (cs.length - (r + 1)) 0)), (.int (Int32.ofNat (cs.length - (r + 1)))), (.ref t14)])) rfl (by rw [hml]; rfl) (argsL := [(.ref t14), (.int (Int32.ofNat (cs.length - (r + 1)))), (.int (cs.getD (cs.length - (r + 1)) 0))]) (rest := []) (lenOf pd_45380c0 rfl) rfl (by show 2 * 0 + _ ≤ _; exact Nat.le_of_eq rfl) (hb hby d28_20) (fun _ _ => ⟨rfl, eL, (by decide : 1 + 0 ≤ _), (by decide : 8198 + 0 ≤ _)⟩)
    dsimp only [Pt.U, Pt.locs, Pt.cells, Pt.slots] at X18 l18 y18 z18 st18 hQ18
    subst l18 y18 z18
    obtain ⟨rfl, Nq18, Kq18, Vq18⟩ := hQ18
    have KK19 : Keep h0 T18.heap [] := KL.trans Kq18 (allS (Or.inr sz_t14) all0)
    have NN20 := Fr.app NL Nq18
    refine Go.st (T' := T18.setTop (mkF m 23 #[.val (.ref ca), .val (.int (Int32.ofNat (cs.length - (r + 1)))), .val (.int (Int32.ofNat cs.length)), .val (.ref t14), .val (.int (Int32.ofNat (cs.length - (r + 1))))] [])) (fun zt zk => st18 zt zk) ?_
    rw [own_ps cs (by omega), show cs.length - (r + 1) + 1 = cs.length - r by omega] at Vq18
    refine Go.st (T' := T18.setTop (mkF m 26 #[.val (.ref ca), .val (.int ((Int32.ofNat (cs.length - (r + 1))) + (1 : Int32))), .val (.int (Int32.ofNat cs.length)), .val (.ref t14), .val (.int (Int32.ofNat (cs.length - (r + 1))))] [])) (fun zt zk => XS.iinc X18.here hx rfl (hb hby d28_23) rfl (l' := #[.val (.ref ca), .val (.int ((Int32.ofNat (cs.length - (r + 1))) + (1 : Int32))), .val (.int (Int32.ofNat cs.length)), .val (.ref t14), .val (.int (Int32.ofNat (cs.length - (r + 1))))]) rfl zk) ?_
    refine Go.st (T' := T18.setTop (mkF m 29 #[.val (.ref ca), .val (.int ((Int32.ofNat (cs.length - (r + 1))) + (1 : Int32))), .val (.int (Int32.ofNat cs.length)), .val (.ref t14), .val (.int ((Int32.ofNat (cs.length - (r + 1))) + (1 : Int32)))] [])) (fun zt zk => XS.iinc X18.here hx rfl (hb hby d28_26) rfl (l' := #[.val (.ref ca), .val (.int ((Int32.ofNat (cs.length - (r + 1))) + (1 : Int32))), .val (.int (Int32.ofNat cs.length)), .val (.ref t14), .val (.int ((Int32.ofNat (cs.length - (r + 1))) + (1 : Int32)))]) rfl zk) ?_
    rw [own_addn (k := (1 : Int32)) (b := 1) rfl (by omega), show cs.length - (r + 1) + 1 = cs.length - r by omega]
    refine Go.st (T' := T18.setTop (mkF m 8 #[.val (.ref ca), .val (.int (Int32.ofNat (cs.length - r))), .val (.int (Int32.ofNat cs.length)), .val (.ref t14), .val (.int (Int32.ofNat (cs.length - r)))] [])) (fun zt zk => XS.goto X18.here hx rfl (pc0 := 29) (pc' := 8) rfl (hb hby d28_29) (by decide) (by decide) zk) ?_
    exact ih (by omega) _ _ _ X18 rfl NN20 KK19 Vq18
theorem own_os6 {z0 z1 z2 z3 z4 z5 : Value} {s6 : Slot} {v : Int32} (h : One s6) : storeLocals #[.val z0, .val z1, .val z2, .val z3, .val z4, .val z5, s6] 6 (.int v) = some #[.val z0, .val z1, .val z2, .val z3, .val z4, .val z5, .val (.int v)] := by
  rcases h with rfl | ⟨w, rfl, hw⟩
  · rfl
  · cases w <;> first | rfl | (simp [Value.category] at hw)
theorem d5_0 : decode jdk_52_method_21_code 0 = .ok (.iconst 0, 1) := by decide +kernel
theorem d5_1 : decode jdk_52_method_21_code 1 = .ok (.istore 5, 2) := by decide +kernel
theorem d5_3 : decode jdk_52_method_21_code 3 = .ok (.iload 5, 2) := by decide +kernel
theorem d5_5 : decode jdk_52_method_21_code 5 = .ok (.iload 4, 2) := by decide +kernel
theorem d5_7 : decode jdk_52_method_21_code 7 = .ok (.if_icmp .ge 37, 3) := by decide +kernel
theorem d5_10 : decode jdk_52_method_21_code 10 = .ok (.aload_n 0, 1) := by decide +kernel
theorem d5_11 : decode jdk_52_method_21_code 11 = .ok (.iload_n 1, 1) := by decide +kernel
theorem d5_12 : decode jdk_52_method_21_code 12 = .ok (.caload, 1) := by decide +kernel
theorem d5_13 : decode jdk_52_method_21_code 13 = .ok (.istore 6, 2) := by decide +kernel
theorem d5_15 : decode jdk_52_method_21_code 15 = .ok (.iload 6, 2) := by decide +kernel
theorem d5_17 : decode jdk_52_method_21_code 17 = .ok (.sipush 255, 3) := by decide +kernel
theorem d5_20 : decode jdk_52_method_21_code 20 = .ok (.if_icmp .le 6, 3) := by decide +kernel
theorem d5_23 : decode jdk_52_method_21_code 23 = .ok (.iload 5, 2) := by decide +kernel
theorem d5_25 : decode jdk_52_method_21_code 25 = .ok (.ireturn, 1) := by decide +kernel
theorem d5_26 : decode jdk_52_method_21_code 26 = .ok (.aload_n 2, 1) := by decide +kernel
theorem d5_27 : decode jdk_52_method_21_code 27 = .ok (.iload_n 3, 1) := by decide +kernel
theorem d5_28 : decode jdk_52_method_21_code 28 = .ok (.iload 6, 2) := by decide +kernel
theorem d5_30 : decode jdk_52_method_21_code 30 = .ok (.i2b, 1) := by decide +kernel
theorem d5_31 : decode jdk_52_method_21_code 31 = .ok (.bastore, 1) := by decide +kernel
theorem d5_32 : decode jdk_52_method_21_code 32 = .ok (.iinc 1 1, 3) := by decide +kernel
theorem d5_35 : decode jdk_52_method_21_code 35 = .ok (.iinc 3 1, 3) := by decide +kernel
theorem d5_38 : decode jdk_52_method_21_code 38 = .ok (.iinc 5 1, 3) := by decide +kernel
theorem d5_41 : decode jdk_52_method_21_code 41 = .ok (.goto (-38), 3) := by decide +kernel
theorem d5_44 : decode jdk_52_method_21_code 44 = .ok (.iload 4, 2) := by decide +kernel
theorem d5_46 : decode jdk_52_method_21_code 46 = .ok (.ireturn, 1) := by decide +kernel
theorem ef_5 (m : MethodId) (x0 : Addr) (x1 : Int32) (x2 : Addr) (x3 : Int32) (x4 : Int32) : entryFrame m #[(.ref x0), (.int x1), (.ref x2), (.int x3), (.int x4)] 7 = mkF m 0 #[.val (.ref x0), .val (.int x1), .val (.ref x2), .val (.int x3), .val (.int x4), .unset, .unset] [] := by first | (simp [entryFrame, mkF, argsToLocals, Value.category]; done) | rfl
def Q_rmC5 (Z : State) (ca d : Addr) (kc kd : ClassId) (cs : List Int32) (us : List Value) (h0 : Heap) (n0 : Nat) (v : Option Value) (h : Heap) (L : List Loc) : Prop := Fr n0 L ∧ Keep h0 h [d] ∧ ∃ (q : Nat) (vs : List Value), v = some (.int (Int32.ofNat q)) ∧ q ≤ cs.length ∧ (q < cs.length → (255 : Int32) < cs.getD q 0) ∧ (q = cs.length → ∀ j, j < cs.length → ¬ (255 : Int32) < cs.getD j 0) ∧ Arv Z h d kd .byte (Int32.ofNat cs.length) vs (.int (0 : Int32))
set_option maxRecDepth 65536 in
set_option maxHeartbeats 40000000 in
theorem rmC5 (l : Launch) (Z : State) (a0 : Array Value) (hw : ∀ d ∈ tables_1, d.before a0 Z = true) (ca d : Addr) (kc kd : ClassId) (cs : List Int32) (us : List Value) (h0 : Heap) (n0 : Nat) (Z0 : n0 ≤ h0.size) (Bc : Arv Z h0 ca kc .char (Int32.ofNat cs.length) (cs.map Value.int) (.int (0 : Int32))) (Bb : Arv Z h0 d kd .byte (Int32.ofNat cs.length) us (.int (0 : Int32))) (hu : us.length = cs.length) (g_d : n0 ≤ d) (ncd : ca ≠ d) (hle : cs.length ≤ 4099) :
    MetFree l (⟨"java/lang/StringUTF16", "compress", "([CI[BII)I"⟩ : MethodName) (head1 [Jvm.Cond.code (⟨"java/lang/StringUTF16", "compress", "([CI[BII)I"⟩ : MethodName) jdk_52_method_21_code 7 (some .int)] ({ frames := 0, cells := 0, slots := 0, locals := 0 } : Room)) (fun a U => a = #[(.ref ca), (.int (0 : Int32)), (.ref d), (.int (0 : Int32)), (.int (Int32.ofNat cs.length))] ∧ Z.Warmed39 U.vm ∧ U.heap = h0) (fun _ _ _ _ _ => True) (fun _ U o U' => ∃ v L, o = .returned v ∧ (Q_rmC5 Z ca d kc kd cs us h0 n0) v U'.heap L ∧ FrameEnd U o U' L ({ frames := 0, cells := 0, slots := 0, locals := 0 } : Room).cells ({ frames := 0, cells := 0, slots := 0, locals := 0 } : Room).slots) := by
  refine MetFree.of_bodySF (plainFor_of_name pn_9f213eb) hisR ?_
  intro p e s m args below meth c s₁ Bd hml0 hP hK
  obtain ⟨rfl, hZ, hh⟩ := hP
  have hx := Bd.exec
  have hby := Bd.bytes
  have hml : c.maxLocals = 7 := hml0
  have hown : s.vm.findClass "java/lang/StringUTF16" = some m.cls := findClass_of_methodNamed Bd.named
  have hnm := (name_of_methodNamed Bd.named Bd.method).1
  have X0 : Stand p l e ({ frames := 0, cells := 0, slots := 0, locals := 0 } : Room) s m #[(.ref ca), (.int (0 : Int32)), (.ref d), (.int (0 : Int32)), (.int (Int32.ofNat cs.length))] below meth c s₁ [] 0 0 := Stand.of_body Bd
  have e0 : s₁.heap = h0 := by rw [← hh, Bd.state]; rfl
  have N0 := Fr.nil n0
  have K0 : Keep h0 h0 [d] := Keep.refl h0 [d]
  show Go p e below (s₁.setTop (entryFrame m #[(.ref ca), (.int (0 : Int32)), (.ref d), (.int (0 : Int32)), (.int (Int32.ofNat cs.length))] 7)) (EndN s (Q_rmC5 Z ca d kc kd cs us h0 n0) ({ frames := 0, cells := 0, slots := 0, locals := 0 } : Room).cells ({ frames := 0, cells := 0, slots := 0, locals := 0 } : Room).slots)
  refine Go.top (ef_5 m ca (0 : Int32) d (0 : Int32) (Int32.ofNat cs.length)) ?_
  refine Go.st (T' := s₁.setTop (mkF m 1 #[.val (.ref ca), .val (.int (0 : Int32)), .val (.ref d), .val (.int (0 : Int32)), .val (.int (Int32.ofNat cs.length)), .unset, .unset] [(.int (0 : Int32))])) (fun zt zk => XS.iconst X0.here hx rfl (hb hby d5_0) zk) ?_
  refine Go.st (T' := s₁.setTop (mkF m 3 #[.val (.ref ca), .val (.int (0 : Int32)), .val (.ref d), .val (.int (0 : Int32)), .val (.int (Int32.ofNat cs.length)), .val (.int (0 : Int32)), .unset] [])) (fun zt zk => XS.istore X0.here hx rfl (hb hby d5_1) rfl (l' := #[.val (.ref ca), .val (.int (0 : Int32)), .val (.ref d), .val (.int (0 : Int32)), .val (.int (Int32.ofNat cs.length)), .val (.int (0 : Int32)), .unset]) rfl zk) ?_
  suffices loop : ∀ (r : Nat), r ≤ cs.length → ∀ (TL : State) (hL : Heap) (LL : List Loc) (s6 : Slot) (vs : List Value), Stand p l e ({ frames := 0, cells := 0, slots := 0, locals := 0 } : Room) s m #[(.ref ca), (.int (0 : Int32)), (.ref d), (.int (0 : Int32)), (.int (Int32.ofNat cs.length))] below meth c TL LL 0 0 → TL.heap = hL → Fr n0 LL → Keep h0 hL [d] → Arv Z hL d kd .byte (Int32.ofNat cs.length) vs (.int (0 : Int32)) → vs.length = cs.length → One s6 → (∀ j, j < cs.length - r → ¬ (255 : Int32) < cs.getD j 0) → Go p e below (TL.setTop (mkF m 3 #[.val (.ref ca), .val (.int (Int32.ofNat (cs.length - r))), .val (.ref d), .val (.int (Int32.ofNat (cs.length - r))), .val (.int (Int32.ofNat cs.length)), .val (.int (Int32.ofNat (cs.length - r))), s6] [])) (EndN s (Q_rmC5 Z ca d kc kd cs us h0 n0) ({ frames := 0, cells := 0, slots := 0, locals := 0 } : Room).cells ({ frames := 0, cells := 0, slots := 0, locals := 0 } : Room).slots) by
    have := loop cs.length (Nat.le_refl _) s₁ _ _ .unset us X0 e0 N0 K0 Bb hu One.u (fun j hj => absurd hj (by omega))
    rw [Nat.sub_self] at this
    exact this
  intro r
  induction r with
  | zero =>
    intro hr TL hL LL s6 vs XL eL NL KL VL hvl h6 hsm
    refine Go.st (T' := TL.setTop (mkF m 5 #[.val (.ref ca), .val (.int (Int32.ofNat (cs.length - 0))), .val (.ref d), .val (.int (Int32.ofNat (cs.length - 0))), .val (.int (Int32.ofNat cs.length)), .val (.int (Int32.ofNat (cs.length - 0))), s6] [(.int (Int32.ofNat (cs.length - 0)))])) (fun zt zk => XS.iload XL.here hx rfl (hb hby d5_3) rfl zk) ?_
    refine Go.st (T' := TL.setTop (mkF m 7 #[.val (.ref ca), .val (.int (Int32.ofNat (cs.length - 0))), .val (.ref d), .val (.int (Int32.ofNat (cs.length - 0))), .val (.int (Int32.ofNat cs.length)), .val (.int (Int32.ofNat (cs.length - 0))), s6] [(.int (Int32.ofNat cs.length)), (.int (Int32.ofNat (cs.length - 0)))])) (fun zt zk => XS.iload XL.here hx rfl (hb hby d5_5) rfl zk) ?_
    refine Go.st (T' := TL.setTop (mkF m 44 #[.val (.ref ca), .val (.int (Int32.ofNat (cs.length - 0))), .val (.ref d), .val (.int (Int32.ofNat (cs.length - 0))), .val (.int (Int32.ofNat cs.length)), .val (.int (Int32.ofNat (cs.length - 0))), s6] [])) (fun zt zk => XS.icmpYes XL.here hx rfl (pc0 := 7) (pc' := 44) rfl (hb hby d5_7) rfl (flt (fun q => absurd ((own_lt32 (by omega) (by omega)).mp q) (by omega))).2.1 (by decide) (by decide) zk) ?_
    refine Go.st (T' := TL.setTop (mkF m 46 #[.val (.ref ca), .val (.int (Int32.ofNat (cs.length - 0))), .val (.ref d), .val (.int (Int32.ofNat (cs.length - 0))), .val (.int (Int32.ofNat cs.length)), .val (.int (Int32.ofNat (cs.length - 0))), s6] [(.int (Int32.ofNat cs.length))])) (fun zt zk => XS.iload XL.here hx rfl (hb hby d5_44) rfl zk) ?_
    exact Go.done XL Bd.notSynchronized (v := some (.int (Int32.ofNat cs.length))) (fun h => by rw [Bd.returns] at h; cases h) (fun fs hr => retI XL hx Bd.returns (hb hby d5_46) hr) (by rw [eL]; exact ⟨NL, KL, cs.length, vs, rfl, Nat.le_refl _, fun q => absurd q (by omega), fun _ => hsm, VL⟩) (by decide) (by decide)
  | succ r ih =>
    intro hr TL hL LL s6 vs XL eL NL KL VL hvl h6 hsm
    have Bc2 := Bc.keep KL (ninS ncd nin0)
    refine Go.st (T' := TL.setTop (mkF m 5 #[.val (.ref ca), .val (.int (Int32.ofNat (cs.length - (r + 1)))), .val (.ref d), .val (.int (Int32.ofNat (cs.length - (r + 1)))), .val (.int (Int32.ofNat cs.length)), .val (.int (Int32.ofNat (cs.length - (r + 1)))), s6] [(.int (Int32.ofNat (cs.length - (r + 1))))])) (fun zt zk => XS.iload XL.here hx rfl (hb hby d5_3) rfl zk) ?_
    refine Go.st (T' := TL.setTop (mkF m 7 #[.val (.ref ca), .val (.int (Int32.ofNat (cs.length - (r + 1)))), .val (.ref d), .val (.int (Int32.ofNat (cs.length - (r + 1)))), .val (.int (Int32.ofNat cs.length)), .val (.int (Int32.ofNat (cs.length - (r + 1)))), s6] [(.int (Int32.ofNat cs.length)), (.int (Int32.ofNat (cs.length - (r + 1))))])) (fun zt zk => XS.iload XL.here hx rfl (hb hby d5_5) rfl zk) ?_
    refine Go.st (T' := TL.setTop (mkF m 10 #[.val (.ref ca), .val (.int (Int32.ofNat (cs.length - (r + 1)))), .val (.ref d), .val (.int (Int32.ofNat (cs.length - (r + 1)))), .val (.int (Int32.ofNat cs.length)), .val (.int (Int32.ofNat (cs.length - (r + 1)))), s6] [])) (fun zt zk => XS.icmpNo XL.here hx rfl (hb hby d5_7) rfl (tlt ((own_lt32 (by omega) (by omega)).mpr (by omega))).2.1 zk) ?_
    refine Go.st (T' := TL.setTop (mkF m 11 #[.val (.ref ca), .val (.int (Int32.ofNat (cs.length - (r + 1)))), .val (.ref d), .val (.int (Int32.ofNat (cs.length - (r + 1)))), .val (.int (Int32.ofNat cs.length)), .val (.int (Int32.ofNat (cs.length - (r + 1)))), s6] [(.ref ca)])) (fun zt zk => XS.aloadN XL.here hx rfl (hb hby d5_10) rfl rfl zk) ?_
    refine Go.st (T' := TL.setTop (mkF m 12 #[.val (.ref ca), .val (.int (Int32.ofNat (cs.length - (r + 1)))), .val (.ref d), .val (.int (Int32.ofNat (cs.length - (r + 1)))), .val (.int (Int32.ofNat cs.length)), .val (.int (Int32.ofNat (cs.length - (r + 1)))), s6] [(.int (Int32.ofNat (cs.length - (r + 1)))), (.ref ca)])) (fun zt zk => XS.iloadN XL.here hx rfl (hb hby d5_11) rfl zk) ?_
    obtain ⟨cl21, Ar21, q21, S21, M21, H21, G21⟩ := id Bc2
    have hin21 := ((inb_of S21 ⟨own_nn (by omega), (own_lt32 (by omega) (by omega)).mpr (by omega)⟩) : ¬ ((Int32.ofNat (cs.length - (r + 1))) < 0 ∨ cl21.slots.size ≤ ((Int32.ofNat (cs.length - (r + 1)))).toNatClampNeg))
    refine Go.st (T' := TL.setTop (mkF m 13 #[.val (.ref ca), .val (.int (Int32.ofNat (cs.length - (r + 1)))), .val (.ref d), .val (.int (Int32.ofNat (cs.length - (r + 1)))), .val (.int (Int32.ofNat cs.length)), .val (.int (Int32.ofNat (cs.length - (r + 1)))), s6] [(.int (cs.getD (cs.length - (r + 1)) 0))])) (fun zt zk => XL.caload hx (j := (Int32.ofNat (cs.length - (r + 1)))) (v := (.int (cs.getD (cs.length - (r + 1)) 0))) (by rw [eL]; exact Ar21.1) (State.isArrayOf_alike hZ.alike Ar21.2.1) Ar21.2.2 hin21 (H21.at hin21 (own_gd cs (by omega))) (g := (mkF m 12 #[.val (.ref ca), .val (.int (Int32.ofNat (cs.length - (r + 1)))), .val (.ref d), .val (.int (Int32.ofNat (cs.length - (r + 1)))), .val (.int (Int32.ofNat cs.length)), .val (.int (Int32.ofNat (cs.length - (r + 1)))), s6] [(.int (Int32.ofNat (cs.length - (r + 1)))), (.ref ca)])) rfl rfl (hb hby d5_12) zt zk) ?_
    refine Go.st (T' := TL.setTop (mkF m 15 #[.val (.ref ca), .val (.int (Int32.ofNat (cs.length - (r + 1)))), .val (.ref d), .val (.int (Int32.ofNat (cs.length - (r + 1)))), .val (.int (Int32.ofNat cs.length)), .val (.int (Int32.ofNat (cs.length - (r + 1)))), .val (.int (cs.getD (cs.length - (r + 1)) 0))] [])) (fun zt zk => XS.istore XL.here hx rfl (hb hby d5_13) rfl (l' := #[.val (.ref ca), .val (.int (Int32.ofNat (cs.length - (r + 1)))), .val (.ref d), .val (.int (Int32.ofNat (cs.length - (r + 1)))), .val (.int (Int32.ofNat cs.length)), .val (.int (Int32.ofNat (cs.length - (r + 1)))), .val (.int (cs.getD (cs.length - (r + 1)) 0))]) (own_os6 h6) zk) ?_
    refine Go.st (T' := TL.setTop (mkF m 17 #[.val (.ref ca), .val (.int (Int32.ofNat (cs.length - (r + 1)))), .val (.ref d), .val (.int (Int32.ofNat (cs.length - (r + 1)))), .val (.int (Int32.ofNat cs.length)), .val (.int (Int32.ofNat (cs.length - (r + 1)))), .val (.int (cs.getD (cs.length - (r + 1)) 0))] [(.int (cs.getD (cs.length - (r + 1)) 0))])) (fun zt zk => XS.iload XL.here hx rfl (hb hby d5_15) rfl zk) ?_
    refine Go.st (T' := TL.setTop (mkF m 20 #[.val (.ref ca), .val (.int (Int32.ofNat (cs.length - (r + 1)))), .val (.ref d), .val (.int (Int32.ofNat (cs.length - (r + 1)))), .val (.int (Int32.ofNat cs.length)), .val (.int (Int32.ofNat (cs.length - (r + 1)))), .val (.int (cs.getD (cs.length - (r + 1)) 0))] [(.int (255 : Int32)), (.int (cs.getD (cs.length - (r + 1)) 0))])) (fun zt zk => XS.sipush XL.here hx rfl (hb hby d5_17) zk) ?_
    by_cases hB : (255 : Int32) < (cs.getD (cs.length - (r + 1)) 0)
    ·
      refine Go.st (T' := TL.setTop (mkF m 23 #[.val (.ref ca), .val (.int (Int32.ofNat (cs.length - (r + 1)))), .val (.ref d), .val (.int (Int32.ofNat (cs.length - (r + 1)))), .val (.int (Int32.ofNat cs.length)), .val (.int (Int32.ofNat (cs.length - (r + 1)))), .val (.int (cs.getD (cs.length - (r + 1)) 0))] [])) (fun zt zk => XS.icmpNo XL.here hx rfl (hb hby d5_20) rfl (tlt hB).2.2.2 zk) ?_
      refine Go.st (T' := TL.setTop (mkF m 25 #[.val (.ref ca), .val (.int (Int32.ofNat (cs.length - (r + 1)))), .val (.ref d), .val (.int (Int32.ofNat (cs.length - (r + 1)))), .val (.int (Int32.ofNat cs.length)), .val (.int (Int32.ofNat (cs.length - (r + 1)))), .val (.int (cs.getD (cs.length - (r + 1)) 0))] [(.int (Int32.ofNat (cs.length - (r + 1))))])) (fun zt zk => XS.iload XL.here hx rfl (hb hby d5_23) rfl zk) ?_
      exact Go.done XL Bd.notSynchronized (v := some (.int (Int32.ofNat (cs.length - (r + 1))))) (fun h => by rw [Bd.returns] at h; cases h) (fun fs hr => retI XL hx Bd.returns (hb hby d5_25) hr) (by rw [eL]; exact ⟨NL, KL, cs.length - (r + 1), vs, rfl, by omega, fun _ => hB, fun q => absurd q (by omega), VL⟩) (by decide) (by decide)
    ·
      refine Go.st (T' := TL.setTop (mkF m 26 #[.val (.ref ca), .val (.int (Int32.ofNat (cs.length - (r + 1)))), .val (.ref d), .val (.int (Int32.ofNat (cs.length - (r + 1)))), .val (.int (Int32.ofNat cs.length)), .val (.int (Int32.ofNat (cs.length - (r + 1)))), .val (.int (cs.getD (cs.length - (r + 1)) 0))] [])) (fun zt zk => XS.icmpYes XL.here hx rfl (pc0 := 20) (pc' := 26) rfl (hb hby d5_20) rfl (flt hB).2.2.2 (by decide) (by decide) zk) ?_
      refine Go.st (T' := TL.setTop (mkF m 27 #[.val (.ref ca), .val (.int (Int32.ofNat (cs.length - (r + 1)))), .val (.ref d), .val (.int (Int32.ofNat (cs.length - (r + 1)))), .val (.int (Int32.ofNat cs.length)), .val (.int (Int32.ofNat (cs.length - (r + 1)))), .val (.int (cs.getD (cs.length - (r + 1)) 0))] [(.ref d)])) (fun zt zk => XS.aloadN XL.here hx rfl (hb hby d5_26) rfl rfl zk) ?_
      refine Go.st (T' := TL.setTop (mkF m 28 #[.val (.ref ca), .val (.int (Int32.ofNat (cs.length - (r + 1)))), .val (.ref d), .val (.int (Int32.ofNat (cs.length - (r + 1)))), .val (.int (Int32.ofNat cs.length)), .val (.int (Int32.ofNat (cs.length - (r + 1)))), .val (.int (cs.getD (cs.length - (r + 1)) 0))] [(.int (Int32.ofNat (cs.length - (r + 1)))), (.ref d)])) (fun zt zk => XS.iloadN XL.here hx rfl (hb hby d5_27) rfl zk) ?_
      refine Go.st (T' := TL.setTop (mkF m 30 #[.val (.ref ca), .val (.int (Int32.ofNat (cs.length - (r + 1)))), .val (.ref d), .val (.int (Int32.ofNat (cs.length - (r + 1)))), .val (.int (Int32.ofNat cs.length)), .val (.int (Int32.ofNat (cs.length - (r + 1)))), .val (.int (cs.getD (cs.length - (r + 1)) 0))] [(.int (cs.getD (cs.length - (r + 1)) 0)), (.int (Int32.ofNat (cs.length - (r + 1)))), (.ref d)])) (fun zt zk => XS.iload XL.here hx rfl (hb hby d5_28) rfl zk) ?_
      refine Go.st (T' := TL.setTop (mkF m 31 #[.val (.ref ca), .val (.int (Int32.ofNat (cs.length - (r + 1)))), .val (.ref d), .val (.int (Int32.ofNat (cs.length - (r + 1)))), .val (.int (Int32.ofNat cs.length)), .val (.int (Int32.ofNat (cs.length - (r + 1)))), .val (.int (cs.getD (cs.length - (r + 1)) 0))] [(.int ((cs.getD (cs.length - (r + 1)) 0).toInt8.toInt32)), (.int (Int32.ofNat (cs.length - (r + 1)))), (.ref d)])) (fun zt zk => XS.i2b XL.here hx rfl (hb hby d5_30) rfl zk) ?_
      obtain ⟨cl22, Ar22, q22, S22, M22, H22, G22⟩ := id VL
      obtain ⟨T22, h22, X22, e22, W22, st22⟩ := stB XL hx hZ eL Ar22 (j := (Int32.ofNat (cs.length - (r + 1)))) (inb_of S22 ⟨own_nn (by omega), (own_lt32 (by omega) (by omega)).mpr (by omega)⟩) (g := (mkF m 31 #[.val (.ref ca), .val (.int (Int32.ofNat (cs.length - (r + 1)))), .val (.ref d), .val (.int (Int32.ofNat (cs.length - (r + 1)))), .val (.int (Int32.ofNat cs.length)), .val (.int (Int32.ofNat (cs.length - (r + 1)))), .val (.int (cs.getD (cs.length - (r + 1)) 0))] [(.int ((cs.getD (cs.length - (r + 1)) 0).toInt8.toInt32)), (.int (Int32.ofNat (cs.length - (r + 1)))), (.ref d)])) rfl rfl (hb hby d5_31)
      have V22 : Arv Z h22 d kd .byte (Int32.ofNat cs.length) (vs.set (cs.length - (r + 1)) (.int (nar .byte ((cs.getD (cs.length - (r + 1)) 0).toInt8.toInt32)))) (.int (0 : Int32)) := Arv.set Ar22 q22 S22 M22 H22 G22 (fits_nar_byte _) W22 (cs.length - (r + 1)) (own_clamp (by omega)) (by omega)
      have K22 : Keep h0 h22 [d] := KL.wr W22 (Or.inl (List.mem_of_getElem? (i := 0) rfl))
      have N22 := Fr.snoc X22 NL g_d
      refine Go.st (T' := T22.setTop (mkF m 32 #[.val (.ref ca), .val (.int (Int32.ofNat (cs.length - (r + 1)))), .val (.ref d), .val (.int (Int32.ofNat (cs.length - (r + 1)))), .val (.int (Int32.ofNat cs.length)), .val (.int (Int32.ofNat (cs.length - (r + 1)))), .val (.int (cs.getD (cs.length - (r + 1)) 0))] [])) (fun zt zk => st22 zt zk) ?_
      refine Go.st (T' := T22.setTop (mkF m 35 #[.val (.ref ca), .val (.int ((Int32.ofNat (cs.length - (r + 1))) + (1 : Int32))), .val (.ref d), .val (.int (Int32.ofNat (cs.length - (r + 1)))), .val (.int (Int32.ofNat cs.length)), .val (.int (Int32.ofNat (cs.length - (r + 1)))), .val (.int (cs.getD (cs.length - (r + 1)) 0))] [])) (fun zt zk => XS.iinc X22.here hx rfl (hb hby d5_32) rfl (l' := #[.val (.ref ca), .val (.int ((Int32.ofNat (cs.length - (r + 1))) + (1 : Int32))), .val (.ref d), .val (.int (Int32.ofNat (cs.length - (r + 1)))), .val (.int (Int32.ofNat cs.length)), .val (.int (Int32.ofNat (cs.length - (r + 1)))), .val (.int (cs.getD (cs.length - (r + 1)) 0))]) rfl zk) ?_
      refine Go.st (T' := T22.setTop (mkF m 38 #[.val (.ref ca), .val (.int ((Int32.ofNat (cs.length - (r + 1))) + (1 : Int32))), .val (.ref d), .val (.int ((Int32.ofNat (cs.length - (r + 1))) + (1 : Int32))), .val (.int (Int32.ofNat cs.length)), .val (.int (Int32.ofNat (cs.length - (r + 1)))), .val (.int (cs.getD (cs.length - (r + 1)) 0))] [])) (fun zt zk => XS.iinc X22.here hx rfl (hb hby d5_35) rfl (l' := #[.val (.ref ca), .val (.int ((Int32.ofNat (cs.length - (r + 1))) + (1 : Int32))), .val (.ref d), .val (.int ((Int32.ofNat (cs.length - (r + 1))) + (1 : Int32))), .val (.int (Int32.ofNat cs.length)), .val (.int (Int32.ofNat (cs.length - (r + 1)))), .val (.int (cs.getD (cs.length - (r + 1)) 0))]) rfl zk) ?_
      refine Go.st (T' := T22.setTop (mkF m 41 #[.val (.ref ca), .val (.int ((Int32.ofNat (cs.length - (r + 1))) + (1 : Int32))), .val (.ref d), .val (.int ((Int32.ofNat (cs.length - (r + 1))) + (1 : Int32))), .val (.int (Int32.ofNat cs.length)), .val (.int ((Int32.ofNat (cs.length - (r + 1))) + (1 : Int32))), .val (.int (cs.getD (cs.length - (r + 1)) 0))] [])) (fun zt zk => XS.iinc X22.here hx rfl (hb hby d5_38) rfl (l' := #[.val (.ref ca), .val (.int ((Int32.ofNat (cs.length - (r + 1))) + (1 : Int32))), .val (.ref d), .val (.int ((Int32.ofNat (cs.length - (r + 1))) + (1 : Int32))), .val (.int (Int32.ofNat cs.length)), .val (.int ((Int32.ofNat (cs.length - (r + 1))) + (1 : Int32))), .val (.int (cs.getD (cs.length - (r + 1)) 0))]) rfl zk) ?_
      rw [own_addn (k := (1 : Int32)) (b := 1) rfl (by omega), show cs.length - (r + 1) + 1 = cs.length - r by omega]
      refine Go.st (T' := T22.setTop (mkF m 3 #[.val (.ref ca), .val (.int (Int32.ofNat (cs.length - r))), .val (.ref d), .val (.int (Int32.ofNat (cs.length - r))), .val (.int (Int32.ofNat cs.length)), .val (.int (Int32.ofNat (cs.length - r))), .val (.int (cs.getD (cs.length - (r + 1)) 0))] [])) (fun zt zk => XS.goto X22.here hx rfl (pc0 := 41) (pc' := 3) rfl (hb hby d5_41) (by decide) (by decide) zk) ?_
      exact ih (by omega) _ _ _ _ _ X22 e22 N22 K22 V22 (by rw [List.length_set]; exact hvl) (One.val rfl) (fun j hj => by
        by_cases q : j = cs.length - (r + 1)
        · rw [q]; exact hB
        · exact hsm j (by omega))
theorem d4_0 : decode jdk_52_method_16_code 0 = .ok (.iload_n 2, 1) := by decide +kernel
theorem d4_1 : decode jdk_52_method_16_code 1 = .ok (.newarray .byte, 2) := by decide +kernel
theorem d4_3 : decode jdk_52_method_16_code 3 = .ok (.astore_n 3, 1) := by decide +kernel
theorem d4_4 : decode jdk_52_method_16_code 4 = .ok (.aload_n 0, 1) := by decide +kernel
theorem d4_5 : decode jdk_52_method_16_code 5 = .ok (.iload_n 1, 1) := by decide +kernel
theorem d4_6 : decode jdk_52_method_16_code 6 = .ok (.aload_n 3, 1) := by decide +kernel
theorem d4_7 : decode jdk_52_method_16_code 7 = .ok (.iconst 0, 1) := by decide +kernel
theorem d4_8 : decode jdk_52_method_16_code 8 = .ok (.iload_n 2, 1) := by decide +kernel
theorem d4_9 : decode jdk_52_method_16_code 9 = .ok (.invokestatic 115, 3) := by decide +kernel
theorem d4_12 : decode jdk_52_method_16_code 12 = .ok (.istore 4, 2) := by decide +kernel
theorem d4_14 : decode jdk_52_method_16_code 14 = .ok (.iload 4, 2) := by decide +kernel
theorem d4_16 : decode jdk_52_method_16_code 16 = .ok (.iload_n 2, 1) := by decide +kernel
theorem d4_17 : decode jdk_52_method_16_code 17 = .ok (.if_icmp .eq 40, 3) := by decide +kernel
theorem d4_20 : decode jdk_52_method_16_code 20 = .ok (.aload_n 0, 1) := by decide +kernel
theorem d4_21 : decode jdk_52_method_16_code 21 = .ok (.iload_n 1, 1) := by decide +kernel
theorem d4_22 : decode jdk_52_method_16_code 22 = .ok (.iload_n 2, 1) := by decide +kernel
theorem d4_23 : decode jdk_52_method_16_code 23 = .ok (.invokestatic 119, 3) := by decide +kernel
theorem d4_26 : decode jdk_52_method_16_code 26 = .ok (.astore 5, 2) := by decide +kernel
theorem d4_28 : decode jdk_52_method_16_code 28 = .ok (.aload 5, 2) := by decide +kernel
theorem d4_30 : decode jdk_52_method_16_code 30 = .ok (.iload 4, 2) := by decide +kernel
theorem d4_32 : decode jdk_52_method_16_code 32 = .ok (.invokestatic 71, 3) := by decide +kernel
theorem d4_35 : decode jdk_52_method_16_code 35 = .ok (.sipush 255, 3) := by decide +kernel
theorem d4_38 : decode jdk_52_method_16_code 38 = .ok (.if_icmp .gt 16, 3) := by decide +kernel
theorem d4_54 : decode jdk_52_method_16_code 54 = .ok (.aload 5, 2) := by decide +kernel
theorem d4_56 : decode jdk_52_method_16_code 56 = .ok (.areturn, 1) := by decide +kernel
theorem d4_57 : decode jdk_52_method_16_code 57 = .ok (.aload_n 3, 1) := by decide +kernel
theorem d4_58 : decode jdk_52_method_16_code 58 = .ok (.areturn, 1) := by decide +kernel
theorem pd_1a7d308 : parseMethodDescriptor "([CI[BII)I" = some ⟨[(.array .char), .int, (.array .byte), .int, .int], some .int⟩ := by decide +kernel
theorem pd_23f3084 : parseMethodDescriptor "([CII)[B" = some ⟨[(.array .char), .int, .int], some (.array .byte)⟩ := by decide +kernel
theorem pd_2f6cd88 : parseMethodDescriptor "([BI)C" = some ⟨[(.array .byte), .int], some .char⟩ := by decide +kernel
theorem ef_4 (m : MethodId) (x0 : Addr) (x1 : Int32) (x2 : Int32) : entryFrame m #[(.ref x0), (.int x1), (.int x2)] 6 = mkF m 0 #[.val (.ref x0), .val (.int x1), .val (.int x2), .unset, .unset, .unset] [] := by first | (simp [entryFrame, mkF, argsToLocals, Value.category]; done) | rfl
def Q_rmC3 (Z : State) (ca : Addr) (kc : ClassId) (cs : List Int32) (h0 : Heap) (n0 : Nat) (v : Option Value) (h : Heap) (L : List Loc) : Prop := Fr n0 L ∧ Keep h0 h [] ∧ ∃ (t : Addr) (k : ClassId) (z : Int32) (vs : List Value), v = some (.ref t) ∧ h0.size ≤ t ∧ Arv Z h t k .byte z vs (.int (0 : Int32)) ∧ ((z = Int32.ofNat cs.length ∧ ∀ j, j < cs.length → ¬ (255 : Int32) < cs.getD j 0) ∨ (z = Int32.ofNat (2 * cs.length) ∧ vs = own_p cs cs.length))
set_option maxRecDepth 65536 in
set_option maxHeartbeats 40000000 in
theorem rmC3 (l : Launch) (Z : State) (a0 : Array Value) (hw : ∀ d ∈ tables_1, d.before a0 Z = true) (ca : Addr) (kc : ClassId) (cs : List Int32) (h0 : Heap) (n0 : Nat) (Z0 : n0 ≤ h0.size) (X00 : Old Z n0 h0) (A1 : Sta Z Z.heap "java/lang/StringUTF16" "$assertionsDisabled" "Z" (.int (1 : Int32))) (A2 : Sta Z Z.heap "java/lang/StringUTF16" "HI_BYTE_SHIFT" "I" (.int (0 : Int32))) (A3 : Sta Z Z.heap "java/lang/StringUTF16" "LO_BYTE_SHIFT" "I" (.int (8 : Int32))) (Bc : Arv Z h0 ca kc .char (Int32.ofNat cs.length) (cs.map Value.int) (.int (0 : Int32))) (hle : cs.length ≤ 4099) (hp : ∀ c ∈ cs, ¬ c < 0 ∧ ¬ (65535 : Int32) < c) :
    MetFree l (⟨"java/lang/StringUTF16", "compress", "([CII)[B"⟩ : MethodName) (head1 [Jvm.Cond.code (⟨"java/lang/StringUTF16", "compress", "([CII)[B"⟩ : MethodName) jdk_52_method_16_code 6 (some (.array .byte))] ({ frames := 3, cells := 2, slots := 12297, locals := 40 } : Room)) (fun a U => a = #[(.ref ca), (.int (0 : Int32)), (.int (Int32.ofNat cs.length))] ∧ Z.Warmed39 U.vm ∧ U.heap = h0) (fun _ _ _ _ _ => True) (fun _ U o U' => ∃ v L, o = .returned v ∧ (Q_rmC3 Z ca kc cs h0 n0) v U'.heap L ∧ FrameEnd U o U' L ({ frames := 3, cells := 2, slots := 12297, locals := 40 } : Room).cells ({ frames := 3, cells := 2, slots := 12297, locals := 40 } : Room).slots) := by
  refine MetFree.of_bodySF (plainFor_of_name pn_9f213eb) hisR ?_
  intro p e s m args below meth c s₁ Bd hml0 hP hK
  obtain ⟨rfl, hZ, hh⟩ := hP
  have hx := Bd.exec
  have hby := Bd.bytes
  have hml : c.maxLocals = 6 := hml0
  have hown : s.vm.findClass "java/lang/StringUTF16" = some m.cls := findClass_of_methodNamed Bd.named
  have hnm := (name_of_methodNamed Bd.named Bd.method).1
  have X0 : Stand p l e ({ frames := 3, cells := 2, slots := 12297, locals := 40 } : Room) s m #[(.ref ca), (.int (0 : Int32)), (.int (Int32.ofNat cs.length))] below meth c s₁ [] 0 0 := Stand.of_body Bd
  have e0 : s₁.heap = h0 := by rw [← hh, Bd.state]; rfl
  have N0 := Fr.nil n0
  have K0 : Keep h0 h0 [] := Keep.refl h0 []
  show Go p e below (s₁.setTop (entryFrame m #[(.ref ca), (.int (0 : Int32)), (.int (Int32.ofNat cs.length))] 6)) (EndN s (Q_rmC3 Z ca kc cs h0 n0) ({ frames := 3, cells := 2, slots := 12297, locals := 40 } : Room).cells ({ frames := 3, cells := 2, slots := 12297, locals := 40 } : Room).slots)
  refine Go.top (ef_4 m ca (0 : Int32) (Int32.ofNat cs.length)) ?_
  refine Go.st (T' := s₁.setTop (mkF m 1 #[.val (.ref ca), .val (.int (0 : Int32)), .val (.int (Int32.ofNat cs.length)), .unset, .unset, .unset] [(.int (Int32.ofNat cs.length))])) (fun zt zk => XS.iloadN X0.here hx rfl (hb hby d4_0) rfl zk) ?_
  obtain ⟨T23, h23, k23, X23, e23, E23, A23, st23⟩ := newP X0 hx hZ (hw _ (List.mem_of_getElem? (i := 22) rfl)) e0 (g := (mkF m 1 #[.val (.ref ca), .val (.int (0 : Int32)), .val (.int (Int32.ofNat cs.length)), .unset, .unset, .unset] [(.int (Int32.ofNat cs.length))])) rfl (hb hby d4_1) rfl (own_nn (by omega)) (cap := 4099) (by rw [own_clamp (by omega)]; omega) (by decide) (by decide) (by decide)
  obtain ⟨b23, g23⟩ : ∃ z, z = h0.size := ⟨_, rfl⟩
  rw [← g23] at A23 st23
  have g_b23 : n0 ≤ b23 := Nat.le_trans (Nat.le_trans Z0 K0.1) (Nat.le_of_eq g23.symm)
  have sz_b23 : h0.size ≤ b23 := Nat.le_trans K0.1 (Nat.le_of_eq g23.symm)
  have ne24 : ca ≠ b23 := Nat.ne_of_lt (Nat.lt_of_lt_of_le Bc.lt (Nat.le_of_eq g23.symm))
  have K23 : Keep h0 h23 [] := K0.ext E23
  have V23 : Arv Z h23 b23 k23 .byte (Int32.ofNat cs.length) (List.replicate cs.length (.int (0 : Int32))) (.int (0 : Int32)) := (Arv.new A23 (own_nn (by omega))).pad (pad_rep [] (.int (0 : Int32)) cs.length)
  refine Go.st (T' := T23.setTop (mkF m 3 #[.val (.ref ca), .val (.int (0 : Int32)), .val (.int (Int32.ofNat cs.length)), .unset, .unset, .unset] [(.ref b23)])) (fun zt zk => st23 zt zk) ?_
  refine Go.st (T' := T23.setTop (mkF m 4 #[.val (.ref ca), .val (.int (0 : Int32)), .val (.int (Int32.ofNat cs.length)), .val (.ref b23), .unset, .unset] [])) (fun zt zk => XS.astoreN X23.here hx rfl (hb hby d4_3) rfl rfl (l' := #[.val (.ref ca), .val (.int (0 : Int32)), .val (.int (Int32.ofNat cs.length)), .val (.ref b23), .unset, .unset]) rfl zk) ?_
  refine Go.st (T' := T23.setTop (mkF m 5 #[.val (.ref ca), .val (.int (0 : Int32)), .val (.int (Int32.ofNat cs.length)), .val (.ref b23), .unset, .unset] [(.ref ca)])) (fun zt zk => XS.aloadN X23.here hx rfl (hb hby d4_4) rfl rfl zk) ?_
  refine Go.st (T' := T23.setTop (mkF m 6 #[.val (.ref ca), .val (.int (0 : Int32)), .val (.int (Int32.ofNat cs.length)), .val (.ref b23), .unset, .unset] [(.int (0 : Int32)), (.ref ca)])) (fun zt zk => XS.iloadN X23.here hx rfl (hb hby d4_5) rfl zk) ?_
  refine Go.st (T' := T23.setTop (mkF m 7 #[.val (.ref ca), .val (.int (0 : Int32)), .val (.int (Int32.ofNat cs.length)), .val (.ref b23), .unset, .unset] [(.ref b23), (.int (0 : Int32)), (.ref ca)])) (fun zt zk => XS.aloadN X23.here hx rfl (hb hby d4_6) rfl rfl zk) ?_
  refine Go.st (T' := T23.setTop (mkF m 8 #[.val (.ref ca), .val (.int (0 : Int32)), .val (.int (Int32.ofNat cs.length)), .val (.ref b23), .unset, .unset] [(.int (0 : Int32)), (.ref b23), (.int (0 : Int32)), (.ref ca)])) (fun zt zk => XS.iconst X23.here hx rfl (hb hby d4_7) zk) ?_
  refine Go.st (T' := T23.setTop (mkF m 9 #[.val (.ref ca), .val (.int (0 : Int32)), .val (.int (Int32.ofNat cs.length)), .val (.ref b23), .unset, .unset] [(.int (Int32.ofNat cs.length)), (.int (0 : Int32)), (.ref b23), (.int (0 : Int32)), (.ref ca)])) (fun zt zk => XS.iloadN X23.here hx rfl (hb hby d4_8) rfl zk) ?_
  have f26 : Arv Z h23 ca kc .char (Int32.ofNat cs.length) (cs.map Value.int) (.int (0 : Int32)) := (Bc.ext E23)
  obtain ⟨vr25, _, ⟨T25, L25, k25, n25⟩, -, X25, ⟨Lc25, hQ25, l25, y25, z25⟩, st25⟩ := Jvm.LawKit.callS X23 hx (y := (⟨"java/lang/StringUTF16", "compress", "([CI[BII)I"⟩ : MethodName)) hown (mvT hZ (hw _ (List.mem_of_getElem? (i := 23) rfl))) (mvT hZ (hw _ (List.mem_of_getElem? (i := 24) rfl))) (mvT hZ (hw _ (List.mem_of_getElem? (i := 20) rfl))) (mvT hZ (hw _ (List.mem_of_getElem? (i := 25) rfl))) (by decide) (backOf (W := 0) (rmC5 l Z a0 hw ca b23 kc k23 cs _ h23 n0 (Nat.le_trans Z0 K23.1) f26 V23 List.length_replicate g_b23 ne24 hle) hZ (hw _ (List.mem_of_getElem? (i := 25) rfl)) (hw _ (List.mem_of_getElem? (i := 20) rfl)) (by decide) (by decide)) (g := (mkF m 9 #[.val (.ref ca), .val (.int (0 : Int32)), .val (.int (Int32.ofNat cs.length)), .val (.ref b23), .unset, .unset] [(.int (Int32.ofNat cs.length)), (.int (0 : Int32)), (.ref b23), (.int (0 : Int32)), (.ref ca)])) rfl (by rw [hml]; rfl) (argsL := [(.ref ca), (.int (0 : Int32)), (.ref b23), (.int (0 : Int32)), (.int (Int32.ofNat cs.length))]) (rest := []) (lenOf pd_1a7d308 rfl) rfl (by show 2 * 0 + _ ≤ _; exact Nat.le_of_eq rfl) (hb hby d4_9) (fun _ _ => ⟨rfl, e23, (by decide : 1 + 0 ≤ _), (by decide : 4099 + 0 ≤ _)⟩)
  dsimp only [Pt.U, Pt.locs, Pt.cells, Pt.slots] at X25 l25 y25 z25 st25 hQ25
  subst l25 y25 z25
  obtain ⟨Nq25, Kq25, qq25, vs25, rfl, qa25, qb25, qc25, V25⟩ := hQ25
  have KK27 : Keep h0 T25.heap [] := K23.trans Kq25 (allS (Or.inr sz_b23) all0)
  have NN28 := Fr.app N0 Nq25
  refine Go.st (T' := T25.setTop (mkF m 12 #[.val (.ref ca), .val (.int (0 : Int32)), .val (.int (Int32.ofNat cs.length)), .val (.ref b23), .unset, .unset] [(.int (Int32.ofNat qq25))])) (fun zt zk => st25 zt zk) ?_
  refine Go.st (T' := T25.setTop (mkF m 14 #[.val (.ref ca), .val (.int (0 : Int32)), .val (.int (Int32.ofNat cs.length)), .val (.ref b23), .val (.int (Int32.ofNat qq25)), .unset] [])) (fun zt zk => XS.istore X25.here hx rfl (hb hby d4_12) rfl (l' := #[.val (.ref ca), .val (.int (0 : Int32)), .val (.int (Int32.ofNat cs.length)), .val (.ref b23), .val (.int (Int32.ofNat qq25)), .unset]) rfl zk) ?_
  refine Go.st (T' := T25.setTop (mkF m 16 #[.val (.ref ca), .val (.int (0 : Int32)), .val (.int (Int32.ofNat cs.length)), .val (.ref b23), .val (.int (Int32.ofNat qq25)), .unset] [(.int (Int32.ofNat qq25))])) (fun zt zk => XS.iload X25.here hx rfl (hb hby d4_14) rfl zk) ?_
  refine Go.st (T' := T25.setTop (mkF m 17 #[.val (.ref ca), .val (.int (0 : Int32)), .val (.int (Int32.ofNat cs.length)), .val (.ref b23), .val (.int (Int32.ofNat qq25)), .unset] [(.int (Int32.ofNat cs.length)), (.int (Int32.ofNat qq25))])) (fun zt zk => XS.iloadN X25.here hx rfl (hb hby d4_16) rfl zk) ?_
  by_cases hE : (Int32.ofNat qq25) = (Int32.ofNat cs.length)
  ·
    refine Go.st (T' := T25.setTop (mkF m 57 #[.val (.ref ca), .val (.int (0 : Int32)), .val (.int (Int32.ofNat cs.length)), .val (.ref b23), .val (.int (Int32.ofNat qq25)), .unset] [])) (fun zt zk => XS.icmpYes X25.here hx rfl (pc0 := 17) (pc' := 57) rfl (hb hby d4_17) rfl (teq hE).1 (by decide) (by decide) zk) ?_
    refine Go.st (T' := T25.setTop (mkF m 58 #[.val (.ref ca), .val (.int (0 : Int32)), .val (.int (Int32.ofNat cs.length)), .val (.ref b23), .val (.int (Int32.ofNat qq25)), .unset] [(.ref b23)])) (fun zt zk => XS.aloadN X25.here hx rfl (hb hby d4_57) rfl rfl zk) ?_
    exact Go.done X25 Bd.notSynchronized (v := some (.ref b23)) (fun h => by rw [Bd.returns] at h; cases h) (fun fs hr => retA X25 hx Bd.returns rfl rfl rfl (hb hby d4_58) hr) (by rw [(rfl : T25.heap = T25.heap)]; exact ⟨NN28, KK27, b23, _, _, _, rfl, sz_b23, V25, Or.inl ⟨rfl, qc25 ((own_eq32 (by omega) (by omega)).mp hE)⟩⟩) (by decide) (by decide)
  ·
    refine Go.st (T' := T25.setTop (mkF m 20 #[.val (.ref ca), .val (.int (0 : Int32)), .val (.int (Int32.ofNat cs.length)), .val (.ref b23), .val (.int (Int32.ofNat qq25)), .unset] [])) (fun zt zk => XS.icmpNo X25.here hx rfl (hb hby d4_17) rfl (feq hE).1 zk) ?_
    have hlt : qq25 < cs.length := Nat.lt_of_le_of_ne qa25 (fun q => hE (by rw [q]))
    refine Go.st (T' := T25.setTop (mkF m 21 #[.val (.ref ca), .val (.int (0 : Int32)), .val (.int (Int32.ofNat cs.length)), .val (.ref b23), .val (.int (Int32.ofNat qq25)), .unset] [(.ref ca)])) (fun zt zk => XS.aloadN X25.here hx rfl (hb hby d4_20) rfl rfl zk) ?_
    refine Go.st (T' := T25.setTop (mkF m 22 #[.val (.ref ca), .val (.int (0 : Int32)), .val (.int (Int32.ofNat cs.length)), .val (.ref b23), .val (.int (Int32.ofNat qq25)), .unset] [(.int (0 : Int32)), (.ref ca)])) (fun zt zk => XS.iloadN X25.here hx rfl (hb hby d4_21) rfl zk) ?_
    refine Go.st (T' := T25.setTop (mkF m 23 #[.val (.ref ca), .val (.int (0 : Int32)), .val (.int (Int32.ofNat cs.length)), .val (.ref b23), .val (.int (Int32.ofNat qq25)), .unset] [(.int (Int32.ofNat cs.length)), (.int (0 : Int32)), (.ref ca)])) (fun zt zk => XS.iloadN X25.here hx rfl (hb hby d4_22) rfl zk) ?_
    have f30 : Arv Z T25.heap ca kc .char (Int32.ofNat cs.length) (cs.map Value.int) (.int (0 : Int32)) := (f26.keep Kq25 (ninS ne24 nin0))
    obtain ⟨vr29, _, ⟨T29, L29, k29, n29⟩, -, X29, ⟨Lc29, hQ29, l29, y29, z29⟩, st29⟩ := Jvm.LawKit.callS X25 hx (y := (⟨"java/lang/StringUTF16", "toBytes", "([CII)[B"⟩ : MethodName)) hown (mvT hZ (hw _ (List.mem_of_getElem? (i := 156) rfl))) (mvT hZ (hw _ (List.mem_of_getElem? (i := 157) rfl))) (mvT hZ (hw _ (List.mem_of_getElem? (i := 20) rfl))) (mvT hZ (hw _ (List.mem_of_getElem? (i := 158) rfl))) (by decide) (backOf (W := 0) (rmTB l Z a0 hw ca kc cs T25.heap n0 (Nat.le_trans Z0 KK27.1) (X00.keep KK27 all0) A1 A2 A3 f30 hle) hZ (hw _ (List.mem_of_getElem? (i := 158) rfl)) (hw _ (List.mem_of_getElem? (i := 20) rfl)) (by decide) (by decide)) (g := (mkF m 23 #[.val (.ref ca), .val (.int (0 : Int32)), .val (.int (Int32.ofNat cs.length)), .val (.ref b23), .val (.int (Int32.ofNat qq25)), .unset] [(.int (Int32.ofNat cs.length)), (.int (0 : Int32)), (.ref ca)])) rfl (by rw [hml]; rfl) (argsL := [(.ref ca), (.int (0 : Int32)), (.int (Int32.ofNat cs.length))]) (rest := []) (lenOf pd_23f3084 rfl) rfl (by show 2 * 0 + _ ≤ _; exact Nat.le_of_eq rfl) (hb hby d4_23) (fun _ _ => ⟨rfl, rfl, (by decide : 1 + 1 ≤ _), (by decide : 4099 + 8198 ≤ _)⟩)
    dsimp only [Pt.U, Pt.locs, Pt.cells, Pt.slots] at X29 l29 y29 z29 st29 hQ29
    subst l29 y29 z29
    obtain ⟨Nq29, Kq29, t29, k29b, rfl, sy29, V29⟩ := hQ29
    have sz_t29 : h0.size ≤ t29 := Nat.le_trans KK27.1 sy29
    have KK31 : Keep h0 T29.heap [] := KK27.trans Kq29 all0
    have NN32 := Fr.app NN28 Nq29
    refine Go.st (T' := T29.setTop (mkF m 26 #[.val (.ref ca), .val (.int (0 : Int32)), .val (.int (Int32.ofNat cs.length)), .val (.ref b23), .val (.int (Int32.ofNat qq25)), .unset] [(.ref t29)])) (fun zt zk => st29 zt zk) ?_
    refine Go.st (T' := T29.setTop (mkF m 28 #[.val (.ref ca), .val (.int (0 : Int32)), .val (.int (Int32.ofNat cs.length)), .val (.ref b23), .val (.int (Int32.ofNat qq25)), .val (.ref t29)] [])) (fun zt zk => XS.astore X29.here hx rfl (hb hby d4_26) rfl rfl (l' := #[.val (.ref ca), .val (.int (0 : Int32)), .val (.int (Int32.ofNat cs.length)), .val (.ref b23), .val (.int (Int32.ofNat qq25)), .val (.ref t29)]) rfl zk) ?_
    refine Go.st (T' := T29.setTop (mkF m 30 #[.val (.ref ca), .val (.int (0 : Int32)), .val (.int (Int32.ofNat cs.length)), .val (.ref b23), .val (.int (Int32.ofNat qq25)), .val (.ref t29)] [(.ref t29)])) (fun zt zk => XS.aload X29.here hx rfl (hb hby d4_28) rfl rfl zk) ?_
    refine Go.st (T' := T29.setTop (mkF m 32 #[.val (.ref ca), .val (.int (0 : Int32)), .val (.int (Int32.ofNat cs.length)), .val (.ref b23), .val (.int (Int32.ofNat qq25)), .val (.ref t29)] [(.int (Int32.ofNat qq25)), (.ref t29)])) (fun zt zk => XS.iload X29.here hx rfl (hb hby d4_30) rfl zk) ?_
    obtain ⟨vr33, _, ⟨T33, L33, k33, n33⟩, -, X33, ⟨Lc33, hQ33, l33, y33, z33⟩, st33⟩ := Jvm.LawKit.callS X29 hx (y := (⟨"java/lang/StringUTF16", "getChar", "([BI)C"⟩ : MethodName)) hown (mvT hZ (hw _ (List.mem_of_getElem? (i := 172) rfl))) (mvT hZ (hw _ (List.mem_of_getElem? (i := 173) rfl))) (mvT hZ (hw _ (List.mem_of_getElem? (i := 20) rfl))) (mvT hZ (hw _ (List.mem_of_getElem? (i := 174) rfl))) (by decide) (backOf (W := 0) (rmGC l Z a0 hw t29 k29b cs qq25 T29.heap n0 (Nat.le_trans Z0 KK31.1) (X00.keep KK31 all0) A1 A2 A3 V29 hlt hle hp) hZ (hw _ (List.mem_of_getElem? (i := 174) rfl)) (hw _ (List.mem_of_getElem? (i := 20) rfl)) (by decide) (by decide)) (g := (mkF m 32 #[.val (.ref ca), .val (.int (0 : Int32)), .val (.int (Int32.ofNat cs.length)), .val (.ref b23), .val (.int (Int32.ofNat qq25)), .val (.ref t29)] [(.int (Int32.ofNat qq25)), (.ref t29)])) rfl (by rw [hml]; rfl) (argsL := [(.ref t29), (.int (Int32.ofNat qq25))]) (rest := []) (lenOf pd_2f6cd88 rfl) rfl (by show 2 * 0 + _ ≤ _; exact Nat.le_of_eq rfl) (hb hby d4_32) (fun _ _ => ⟨rfl, rfl, (by decide : 2 + 0 ≤ _), (by decide : 12297 + 0 ≤ _)⟩)
    dsimp only [Pt.U, Pt.locs, Pt.cells, Pt.slots] at X33 l33 y33 z33 st33 hQ33
    subst l33 y33 z33
    obtain ⟨rfl, Nq33, eq33⟩ := hQ33
    have NN34 := Fr.app NN32 Nq33
    refine Go.st (T' := T33.setTop (mkF m 35 #[.val (.ref ca), .val (.int (0 : Int32)), .val (.int (Int32.ofNat cs.length)), .val (.ref b23), .val (.int (Int32.ofNat qq25)), .val (.ref t29)] [(.int (cs.getD qq25 0))])) (fun zt zk => st33 zt zk) ?_
    refine Go.st (T' := T33.setTop (mkF m 38 #[.val (.ref ca), .val (.int (0 : Int32)), .val (.int (Int32.ofNat cs.length)), .val (.ref b23), .val (.int (Int32.ofNat qq25)), .val (.ref t29)] [(.int (255 : Int32)), (.int (cs.getD qq25 0))])) (fun zt zk => XS.sipush X33.here hx rfl (hb hby d4_35) zk) ?_
    refine Go.st (T' := T33.setTop (mkF m 54 #[.val (.ref ca), .val (.int (0 : Int32)), .val (.int (Int32.ofNat cs.length)), .val (.ref b23), .val (.int (Int32.ofNat qq25)), .val (.ref t29)] [])) (fun zt zk => XS.icmpYes X33.here hx rfl (pc0 := 38) (pc' := 54) rfl (hb hby d4_38) rfl (tlt (qb25 hlt)).2.2.1 (by decide) (by decide) zk) ?_
    refine Go.st (T' := T33.setTop (mkF m 56 #[.val (.ref ca), .val (.int (0 : Int32)), .val (.int (Int32.ofNat cs.length)), .val (.ref b23), .val (.int (Int32.ofNat qq25)), .val (.ref t29)] [(.ref t29)])) (fun zt zk => XS.aload X33.here hx rfl (hb hby d4_54) rfl rfl zk) ?_
    exact Go.done X33 Bd.notSynchronized (v := some (.ref t29)) (fun h => by rw [Bd.returns] at h; cases h) (fun fs hr => retA X33 hx Bd.returns rfl rfl rfl (hb hby d4_56) hr) (by rw [eq33]; exact ⟨NN34, KK31, t29, _, _, _, rfl, sz_t29, V29, Or.inr ⟨rfl, rfl⟩⟩) (by decide) (by decide)
theorem d6_0 : decode jdk_52_method_15_code 0 = .ok (.iload_n 1, 1) := by decide +kernel
theorem d6_1 : decode jdk_52_method_15_code 1 = .ok (.aload_n 0, 1) := by decide +kernel
theorem d6_2 : decode jdk_52_method_15_code 2 = .ok (.arraylength, 1) := by decide +kernel
theorem d6_3 : decode jdk_52_method_15_code 3 = .ok (.isub, 1) := by decide +kernel
theorem d6_4 : decode jdk_52_method_15_code 4 = .ok (.bipush 31, 2) := by decide +kernel
theorem d6_6 : decode jdk_52_method_15_code 6 = .ok (.iushr, 1) := by decide +kernel
theorem d6_7 : decode jdk_52_method_15_code 7 = .ok (.i2b, 1) := by decide +kernel
theorem d6_8 : decode jdk_52_method_15_code 8 = .ok (.ireturn, 1) := by decide +kernel
theorem ef_6 (m : MethodId) (x0 : Addr) (x1 : Int32) : entryFrame m #[(.ref x0), (.int x1)] 2 = mkF m 0 #[.val (.ref x0), .val (.int x1)] [] := by first | (simp [entryFrame, mkF, argsToLocals, Value.category]; done) | rfl
def Q_rmCF (Z : State) (t : Addr) (kt : ClassId) (vs : List Value) (pa pz : Int32) (h0 : Heap) (n0 : Nat) (v : Option Value) (h : Heap) (L : List Loc) : Prop := v = some (.int (own_cfl pa pz)) ∧ Fr n0 L ∧ h = h0
set_option maxRecDepth 65536 in
set_option maxHeartbeats 40000000 in
theorem rmCF (l : Launch) (Z : State) (a0 : Array Value) (hw : ∀ d ∈ tables_1, d.before a0 Z = true) (t : Addr) (kt : ClassId) (vs : List Value) (pa pz : Int32) (h0 : Heap) (n0 : Nat) (Z0 : n0 ≤ h0.size) (Bt : Arv Z h0 t kt .byte pz vs (.int (0 : Int32))) :
    MetFree l (⟨"java/lang/StringUTF16", "coderFromArrayLen", "([BI)B"⟩ : MethodName) (head1 [Jvm.Cond.code (⟨"java/lang/StringUTF16", "coderFromArrayLen", "([BI)B"⟩ : MethodName) jdk_52_method_15_code 2 (some .byte)] ({ frames := 0, cells := 0, slots := 0, locals := 0 } : Room)) (fun a U => a = #[(.ref t), (.int pa)] ∧ Z.Warmed39 U.vm ∧ U.heap = h0) (fun _ _ _ _ _ => True) (fun _ U o U' => ∃ v L, o = .returned v ∧ (Q_rmCF Z t kt vs pa pz h0 n0) v U'.heap L ∧ FrameEnd U o U' L ({ frames := 0, cells := 0, slots := 0, locals := 0 } : Room).cells ({ frames := 0, cells := 0, slots := 0, locals := 0 } : Room).slots) := by
  refine MetFree.of_bodySF (plainFor_of_name pn_9f213eb) hisR ?_
  intro p e s m args below meth c s₁ Bd hml0 hP hK
  obtain ⟨rfl, hZ, hh⟩ := hP
  have hx := Bd.exec
  have hby := Bd.bytes
  have hml : c.maxLocals = 2 := hml0
  have hown : s.vm.findClass "java/lang/StringUTF16" = some m.cls := findClass_of_methodNamed Bd.named
  have hnm := (name_of_methodNamed Bd.named Bd.method).1
  have X0 : Stand p l e ({ frames := 0, cells := 0, slots := 0, locals := 0 } : Room) s m #[(.ref t), (.int pa)] below meth c s₁ [] 0 0 := Stand.of_body Bd
  have e0 : s₁.heap = h0 := by rw [← hh, Bd.state]; rfl
  have N0 := Fr.nil n0
  have K0 : Keep h0 h0 [] := Keep.refl h0 []
  show Go p e below (s₁.setTop (entryFrame m #[(.ref t), (.int pa)] 2)) (EndN s (Q_rmCF Z t kt vs pa pz h0 n0) ({ frames := 0, cells := 0, slots := 0, locals := 0 } : Room).cells ({ frames := 0, cells := 0, slots := 0, locals := 0 } : Room).slots)
  refine Go.top (ef_6 m t pa) ?_
  refine Go.st (T' := s₁.setTop (mkF m 1 #[.val (.ref t), .val (.int pa)] [(.int pa)])) (fun zt zk => XS.iloadN X0.here hx rfl (hb hby d6_0) rfl zk) ?_
  refine Go.st (T' := s₁.setTop (mkF m 2 #[.val (.ref t), .val (.int pa)] [(.ref t), (.int pa)])) (fun zt zk => XS.aloadN X0.here hx rfl (hb hby d6_1) rfl rfl zk) ?_
  obtain ⟨cl35, Ar35, -, S35, M35, -, -⟩ := id Bt
  refine Go.st (T' := s₁.setTop (mkF m 3 #[.val (.ref t), .val (.int pa)] [(.int pz), (.int pa)])) (fun zt zk => X0.arraylength hx (by rw [e0]; exact Ar35.1) (State.isArrayOf_alike hZ.alike Ar35.2.1) (g := (mkF m 2 #[.val (.ref t), .val (.int pa)] [(.ref t), (.int pa)])) rfl rfl (hb hby d6_2) zt (by rw [len_of S35 M35]; exact zk)) ?_
  refine Go.st (T' := s₁.setTop (mkF m 4 #[.val (.ref t), .val (.int pa)] [(.int (pa - pz))])) (fun zt zk => XS.isub X0.here hx rfl (hb hby d6_3) rfl zk) ?_
  refine Go.st (T' := s₁.setTop (mkF m 6 #[.val (.ref t), .val (.int pa)] [(.int (31 : Int32)), (.int (pa - pz))])) (fun zt zk => XS.bipush X0.here hx rfl (hb hby d6_4) zk) ?_
  refine Go.st (T' := s₁.setTop (mkF m 7 #[.val (.ref t), .val (.int pa)] [(.int (((pa - pz).toUInt32 >>> ((31 : Int32) &&& 31).toUInt32).toInt32))])) (fun zt zk => XS.iushr X0.here hx rfl (hb hby d6_6) rfl zk) ?_
  refine Go.st (T' := s₁.setTop (mkF m 8 #[.val (.ref t), .val (.int pa)] [(.int ((((pa - pz).toUInt32 >>> ((31 : Int32) &&& 31).toUInt32).toInt32).toInt8.toInt32))])) (fun zt zk => XS.i2b X0.here hx rfl (hb hby d6_7) rfl zk) ?_
  exact Go.done X0 Bd.notSynchronized (v := some (.int (nar .byte ((((pa - pz).toUInt32 >>> ((31 : Int32) &&& 31).toUInt32).toInt32).toInt8.toInt32)))) (fun h => by rw [Bd.returns] at h; cases h) (fun fs hr => retN X0 hx (t := .byte) Bd.returns (by simp) (hb hby d6_8) hr) (by rw [e0]; exact ⟨rfl, N0, rfl⟩) (by decide) (by decide)
theorem d2_0 : decode jdk_42_method_149_code 0 = .ok (.aload_n 0, 1) := by decide +kernel
theorem d2_1 : decode jdk_42_method_149_code 1 = .ok (.invokespecial 1, 3) := by decide +kernel
theorem d2_4 : decode jdk_42_method_149_code 4 = .ok (.iload_n 3, 1) := by decide +kernel
theorem d2_5 : decode jdk_42_method_149_code 5 = .ok (.ifCond .ne 22, 3) := by decide +kernel
theorem d2_27 : decode jdk_42_method_149_code 27 = .ok (.getstatic 38, 3) := by decide +kernel
theorem d2_30 : decode jdk_42_method_149_code 30 = .ok (.ifCond .eq 28, 3) := by decide +kernel
theorem d2_33 : decode jdk_42_method_149_code 33 = .ok (.aload_n 1, 1) := by decide +kernel
theorem d2_34 : decode jdk_42_method_149_code 34 = .ok (.iload_n 2, 1) := by decide +kernel
theorem d2_35 : decode jdk_42_method_149_code 35 = .ok (.iload_n 3, 1) := by decide +kernel
theorem d2_36 : decode jdk_42_method_149_code 36 = .ok (.invokestatic 177, 3) := by decide +kernel
theorem d2_39 : decode jdk_42_method_149_code 39 = .ok (.astore 5, 2) := by decide +kernel
theorem d2_41 : decode jdk_42_method_149_code 41 = .ok (.aload_n 0, 1) := by decide +kernel
theorem d2_42 : decode jdk_42_method_149_code 42 = .ok (.aload 5, 2) := by decide +kernel
theorem d2_44 : decode jdk_42_method_149_code 44 = .ok (.iload_n 3, 1) := by decide +kernel
theorem d2_45 : decode jdk_42_method_149_code 45 = .ok (.invokestatic 47, 3) := by decide +kernel
theorem d2_48 : decode jdk_42_method_149_code 48 = .ok (.putfield 15, 3) := by decide +kernel
theorem d2_51 : decode jdk_42_method_149_code 51 = .ok (.aload_n 0, 1) := by decide +kernel
theorem d2_52 : decode jdk_42_method_149_code 52 = .ok (.aload 5, 2) := by decide +kernel
theorem d2_54 : decode jdk_42_method_149_code 54 = .ok (.putfield 9, 3) := by decide +kernel
theorem d2_57 : decode jdk_42_method_149_code 57 = .ok (.return_, 1) := by decide +kernel
theorem pn_397d88e : plainName "java/lang/String" = true := by first | (simp [plainName, overriddenIn]; done) | decide +kernel
theorem pd_2f6cd87 : parseMethodDescriptor "([BI)B" = some ⟨[(.array .byte), .int], some .byte⟩ := by decide +kernel
theorem ef_2 (m : MethodId) (x0 : Addr) (x1 : Addr) (x2 : Int32) (x3 : Int32) : entryFrame m #[(.ref x0), (.ref x1), (.int x2), (.int x3), .null] 6 = mkF m 0 #[.val (.ref x0), .val (.ref x1), .val (.int x2), .val (.int x3), .val .null, .unset] [] := by first | (simp [entryFrame, mkF, argsToLocals, Value.category]; done) | rfl
def Q_rmS5 (Z : State) (x ca : Addr) (kc : ClassId) (cs : List Int32) (h0 : Heap) (n0 : Nat) (v : Option Value) (h : Heap) (L : List Loc) : Prop := v = none ∧ Fr n0 L ∧ Keep h0 h [x] ∧ ∃ t : Addr, h0.size ≤ t ∧ own_St Z h x t cs
set_option maxRecDepth 65536 in
set_option maxHeartbeats 40000000 in
theorem rmS5 (l : Launch) (Z : State) (a0 : Array Value) (hw : ∀ d ∈ tables_1, d.before a0 Z = true) (x ca : Addr) (kc : ClassId) (cs : List Int32) (h0 : Heap) (n0 : Nat) (Z0 : n0 ≤ h0.size) (G1 : Int32) (O2 : Sta Z Z.heap "java/lang/String" "COMPACT_STRINGS" "Z" (.int G1)) (P5 : ¬ (G1 = (0 : Int32))) (X00 : Old Z n0 h0) (A1 : Sta Z Z.heap "java/lang/StringUTF16" "$assertionsDisabled" "Z" (.int (1 : Int32))) (A2 : Sta Z Z.heap "java/lang/StringUTF16" "HI_BYTE_SHIFT" "I" (.int (0 : Int32))) (A3 : Sta Z Z.heap "java/lang/StringUTF16" "LO_BYTE_SHIFT" "I" (.int (8 : Int32))) (E1 : Exa Z h0 x "java/lang/String") (g_x : n0 ≤ x) (Fv : Fld Z h0 x "java/lang/String" "value" "[B" .null) (Fc : Fld Z h0 x "java/lang/String" "coder" "B" (.int (0 : Int32))) (Bc : Arv Z h0 ca kc .char (Int32.ofNat cs.length) (cs.map Value.int) (.int (0 : Int32))) (h1l : 1 ≤ cs.length) (hle : cs.length ≤ 4099) (hp : ∀ c ∈ cs, ¬ c < 0 ∧ ¬ (65535 : Int32) < c) :
    MetFree l (⟨"java/lang/String", "<init>", "([CIILjava/lang/Void;)V"⟩ : MethodName) (head1 [Jvm.Cond.code (⟨"java/lang/String", "<init>", "([CIILjava/lang/Void;)V"⟩ : MethodName) jdk_42_method_149_code 6 none] ({ frames := 4, cells := 2, slots := 12297, locals := 57 } : Room)) (fun a U => a = #[(.ref x), (.ref ca), (.int (0 : Int32)), (.int (Int32.ofNat cs.length)), .null] ∧ Z.Warmed39 U.vm ∧ U.heap = h0) (fun _ _ _ _ _ => True) (fun _ U o U' => ∃ v L, o = .returned v ∧ (Q_rmS5 Z x ca kc cs h0 n0) v U'.heap L ∧ FrameEnd U o U' L ({ frames := 4, cells := 2, slots := 12297, locals := 57 } : Room).cells ({ frames := 4, cells := 2, slots := 12297, locals := 57 } : Room).slots) := by
  refine MetFree.of_bodySF (plainFor_of_name pn_397d88e) hisR ?_
  intro p e s m args below meth c s₁ Bd hml0 hP hK
  obtain ⟨rfl, hZ, hh⟩ := hP
  have hx := Bd.exec
  have hby := Bd.bytes
  have hml : c.maxLocals = 6 := hml0
  have hown : s.vm.findClass "java/lang/String" = some m.cls := findClass_of_methodNamed Bd.named
  have hnm := (name_of_methodNamed Bd.named Bd.method).1
  have X0 : Stand p l e ({ frames := 4, cells := 2, slots := 12297, locals := 57 } : Room) s m #[(.ref x), (.ref ca), (.int (0 : Int32)), (.int (Int32.ofNat cs.length)), .null] below meth c s₁ [] 0 0 := Stand.of_body Bd
  have e0 : s₁.heap = h0 := by rw [← hh, Bd.state]; rfl
  have N0 := Fr.nil n0
  have K0 : Keep h0 h0 [x] := Keep.refl h0 [x]
  show Go p e below (s₁.setTop (entryFrame m #[(.ref x), (.ref ca), (.int (0 : Int32)), (.int (Int32.ofNat cs.length)), .null] 6)) (EndN s (Q_rmS5 Z x ca kc cs h0 n0) ({ frames := 4, cells := 2, slots := 12297, locals := 57 } : Room).cells ({ frames := 4, cells := 2, slots := 12297, locals := 57 } : Room).slots)
  refine Go.top (ef_2 m x ca (0 : Int32) (Int32.ofNat cs.length)) ?_
  have own_KX : ∀ y_ ∈ [x], n0 ≤ y_ := (allS g_x all0)
  refine Go.st (T' := s₁.setTop (mkF m 1 #[.val (.ref x), .val (.ref ca), .val (.int (0 : Int32)), .val (.int (Int32.ofNat cs.length)), .val .null, .unset] [(.ref x)])) (fun zt zk => XS.aloadN X0.here hx rfl (hb hby d2_0) rfl rfl zk) ?_
  obtain ⟨T36, X36, e36, st36⟩ := initO X0 hx hZ hown (hw _ (List.mem_of_getElem? (i := 14) rfl)) (hw _ (List.mem_of_getElem? (i := 15) rfl)) (hw _ (List.mem_of_getElem? (i := 16) rfl)) e0 (g := (mkF m 1 #[.val (.ref x), .val (.ref ca), .val (.int (0 : Int32)), .val (.int (Int32.ofNat cs.length)), .val .null, .unset] [(.ref x)])) rfl (by rw [hml]; rfl) rfl (hb hby d2_1) (by decide) (W := 0) (by show 2 * 0 + _ ≤ _; exact Nat.le_of_eq rfl) (by decide)
  refine Go.st (T' := T36.setTop (mkF m 4 #[.val (.ref x), .val (.ref ca), .val (.int (0 : Int32)), .val (.int (Int32.ofNat cs.length)), .val .null, .unset] [])) (fun zt zk => st36 zt zk) ?_
  refine Go.st (T' := T36.setTop (mkF m 5 #[.val (.ref x), .val (.ref ca), .val (.int (0 : Int32)), .val (.int (Int32.ofNat cs.length)), .val .null, .unset] [(.int (Int32.ofNat cs.length))])) (fun zt zk => XS.iloadN X36.here hx rfl (hb hby d2_4) rfl zk) ?_
  refine Go.st (T' := T36.setTop (mkF m 27 #[.val (.ref x), .val (.ref ca), .val (.int (0 : Int32)), .val (.int (Int32.ofNat cs.length)), .val .null, .unset] [])) (fun zt zk => XS.ifYes X36.here hx rfl (pc0 := 5) (pc' := 27) rfl (hb hby d2_5) rfl ((if0 _ _).trans (feq (fun q => absurd ((own_eq32 (n := 0) (by omega) (by omega)).mp q) (by omega))).2) (by decide) (by decide) zk) ?_
  obtain ⟨T37, X37, e37, st37⟩ := getS (host := "") X36 hx hZ hown (hw _ (List.mem_of_getElem? (i := 17) rfl)) Via.refl e36 (O2.ext (X00.keep K0 own_KX).2) (g := (mkF m 27 #[.val (.ref x), .val (.ref ca), .val (.int (0 : Int32)), .val (.int (Int32.ofNat cs.length)), .val .null, .unset] [])) rfl (hb hby d2_27)
  refine Go.st (T' := T37.setTop (mkF m 30 #[.val (.ref x), .val (.ref ca), .val (.int (0 : Int32)), .val (.int (Int32.ofNat cs.length)), .val .null, .unset] [(.int G1)])) (fun zt zk => st37 zt zk) ?_
  refine Go.st (T' := T37.setTop (mkF m 33 #[.val (.ref x), .val (.ref ca), .val (.int (0 : Int32)), .val (.int (Int32.ofNat cs.length)), .val .null, .unset] [])) (fun zt zk => XS.ifNo X37.here hx rfl (hb hby d2_30) rfl ((if0 _ _).trans (feq P5).1) zk) ?_
  refine Go.st (T' := T37.setTop (mkF m 34 #[.val (.ref x), .val (.ref ca), .val (.int (0 : Int32)), .val (.int (Int32.ofNat cs.length)), .val .null, .unset] [(.ref ca)])) (fun zt zk => XS.aloadN X37.here hx rfl (hb hby d2_33) rfl rfl zk) ?_
  refine Go.st (T' := T37.setTop (mkF m 35 #[.val (.ref x), .val (.ref ca), .val (.int (0 : Int32)), .val (.int (Int32.ofNat cs.length)), .val .null, .unset] [(.int (0 : Int32)), (.ref ca)])) (fun zt zk => XS.iloadN X37.here hx rfl (hb hby d2_34) rfl zk) ?_
  refine Go.st (T' := T37.setTop (mkF m 36 #[.val (.ref x), .val (.ref ca), .val (.int (0 : Int32)), .val (.int (Int32.ofNat cs.length)), .val .null, .unset] [(.int (Int32.ofNat cs.length)), (.int (0 : Int32)), (.ref ca)])) (fun zt zk => XS.iloadN X37.here hx rfl (hb hby d2_35) rfl zk) ?_
  obtain ⟨vr38, _, ⟨T38, L38, k38, n38⟩, -, X38, ⟨Lc38, hQ38, l38, y38, z38⟩, st38⟩ := Jvm.LawKit.callS X37 hx (y := (⟨"java/lang/StringUTF16", "compress", "([CII)[B"⟩ : MethodName)) hown (mvT hZ (hw _ (List.mem_of_getElem? (i := 18) rfl))) (mvT hZ (hw _ (List.mem_of_getElem? (i := 19) rfl))) (mvT hZ (hw _ (List.mem_of_getElem? (i := 20) rfl))) (mvT hZ (hw _ (List.mem_of_getElem? (i := 21) rfl))) (by decide) (backOf (W := 0) (rmC3 l Z a0 hw ca kc cs h0 n0 (Nat.le_trans Z0 K0.1) (X00.keep K0 own_KX) A1 A2 A3 Bc hle hp) hZ (hw _ (List.mem_of_getElem? (i := 21) rfl)) (hw _ (List.mem_of_getElem? (i := 20) rfl)) (by decide) (by decide)) (g := (mkF m 36 #[.val (.ref x), .val (.ref ca), .val (.int (0 : Int32)), .val (.int (Int32.ofNat cs.length)), .val .null, .unset] [(.int (Int32.ofNat cs.length)), (.int (0 : Int32)), (.ref ca)])) rfl (by rw [hml]; rfl) (argsL := [(.ref ca), (.int (0 : Int32)), (.int (Int32.ofNat cs.length))]) (rest := []) (lenOf pd_23f3084 rfl) rfl (by show 2 * 0 + _ ≤ _; exact Nat.le_of_eq rfl) (hb hby d2_36) (fun _ _ => ⟨rfl, e37, (by decide : 0 + 2 ≤ _), (by decide : 0 + 12297 ≤ _)⟩)
  dsimp only [Pt.U, Pt.locs, Pt.cells, Pt.slots] at X38 l38 y38 z38 st38 hQ38
  subst l38 y38 z38
  obtain ⟨Nq38, Kq38, t38, k38b, zz38, vs38, rfl, sz_t38, V38, R38⟩ := hQ38
  have nxt : x ≠ t38 := Nat.ne_of_lt (Nat.lt_of_lt_of_le E1.lt sz_t38)
  have KK39 : Keep h0 T38.heap [x] := K0.trans Kq38 all0
  have NN40 := Fr.app N0 Nq38
  refine Go.st (T' := T38.setTop (mkF m 39 #[.val (.ref x), .val (.ref ca), .val (.int (0 : Int32)), .val (.int (Int32.ofNat cs.length)), .val .null, .unset] [(.ref t38)])) (fun zt zk => st38 zt zk) ?_
  refine Go.st (T' := T38.setTop (mkF m 41 #[.val (.ref x), .val (.ref ca), .val (.int (0 : Int32)), .val (.int (Int32.ofNat cs.length)), .val .null, .val (.ref t38)] [])) (fun zt zk => XS.astore X38.here hx rfl (hb hby d2_39) rfl rfl (l' := #[.val (.ref x), .val (.ref ca), .val (.int (0 : Int32)), .val (.int (Int32.ofNat cs.length)), .val .null, .val (.ref t38)]) rfl zk) ?_
  refine Go.st (T' := T38.setTop (mkF m 42 #[.val (.ref x), .val (.ref ca), .val (.int (0 : Int32)), .val (.int (Int32.ofNat cs.length)), .val .null, .val (.ref t38)] [(.ref x)])) (fun zt zk => XS.aloadN X38.here hx rfl (hb hby d2_41) rfl rfl zk) ?_
  refine Go.st (T' := T38.setTop (mkF m 44 #[.val (.ref x), .val (.ref ca), .val (.int (0 : Int32)), .val (.int (Int32.ofNat cs.length)), .val .null, .val (.ref t38)] [(.ref t38), (.ref x)])) (fun zt zk => XS.aload X38.here hx rfl (hb hby d2_42) rfl rfl zk) ?_
  refine Go.st (T' := T38.setTop (mkF m 45 #[.val (.ref x), .val (.ref ca), .val (.int (0 : Int32)), .val (.int (Int32.ofNat cs.length)), .val .null, .val (.ref t38)] [(.int (Int32.ofNat cs.length)), (.ref t38), (.ref x)])) (fun zt zk => XS.iloadN X38.here hx rfl (hb hby d2_44) rfl zk) ?_
  obtain ⟨vr41, _, ⟨T41, L41, k41, n41⟩, -, X41, ⟨Lc41, hQ41, l41, y41, z41⟩, st41⟩ := Jvm.LawKit.callS X38 hx (y := (⟨"java/lang/StringUTF16", "coderFromArrayLen", "([BI)B"⟩ : MethodName)) hown (mvT hZ (hw _ (List.mem_of_getElem? (i := 26) rfl))) (mvT hZ (hw _ (List.mem_of_getElem? (i := 27) rfl))) (mvT hZ (hw _ (List.mem_of_getElem? (i := 20) rfl))) (mvT hZ (hw _ (List.mem_of_getElem? (i := 28) rfl))) (by decide) (backOf (W := 1) (rmCF l Z a0 hw t38 k38b vs38 (Int32.ofNat cs.length) zz38 T38.heap n0 (Nat.le_trans Z0 KK39.1) V38) hZ (hw _ (List.mem_of_getElem? (i := 28) rfl)) (hw _ (List.mem_of_getElem? (i := 20) rfl)) (by decide) (by decide)) (g := (mkF m 45 #[.val (.ref x), .val (.ref ca), .val (.int (0 : Int32)), .val (.int (Int32.ofNat cs.length)), .val .null, .val (.ref t38)] [(.int (Int32.ofNat cs.length)), (.ref t38), (.ref x)])) rfl (by rw [hml]; rfl) (argsL := [(.ref t38), (.int (Int32.ofNat cs.length))]) (rest := [(.ref x)]) (lenOf pd_2f6cd87 rfl) rfl (by show 2 * 0 + _ ≤ _; exact Nat.le_of_eq rfl) (hb hby d2_45) (fun _ _ => ⟨rfl, rfl, (by decide : 2 + 0 ≤ _), (by decide : 12297 + 0 ≤ _)⟩)
  dsimp only [Pt.U, Pt.locs, Pt.cells, Pt.slots] at X41 l41 y41 z41 st41 hQ41
  subst l41 y41 z41
  obtain ⟨rfl, Nq41, eq41⟩ := hQ41
  have NN42 := Fr.app NN40 Nq41
  refine Go.st (T' := T41.setTop (mkF m 48 #[.val (.ref x), .val (.ref ca), .val (.int (0 : Int32)), .val (.int (Int32.ofNat cs.length)), .val .null, .val (.ref t38)] [(.int (own_cfl (Int32.ofNat cs.length) zz38)), (.ref x)])) (fun zt zk => st41 zt zk) ?_
  have f43 : Fld Z T38.heap x "java/lang/String" "coder" "B" (.int (0 : Int32)) := (Fc.keep Kq38 nin0)
  have f44 : Exa Z T38.heap x "java/lang/String" := (E1.keep Kq38)
  obtain ⟨T45, h45, X45, e45, W45, st45⟩ := putFN X41 hx hZ hown (hw _ (List.mem_of_getElem? (i := 29) rfl)) Via.refl eq41 f43 f44 (Or.inr ⟨(hw _ (List.mem_of_getElem? (i := 30) rfl)), rfl, hnm⟩) (hw _ (List.mem_of_getElem? (i := 5) rfl)) (ty := .byte) (v' := (.int (nar .byte (own_cfl (Int32.ofNat cs.length) zz38)))) (by decide) rfl (fits_nar_byte _) (g := (mkF m 48 #[.val (.ref x), .val (.ref ca), .val (.int (0 : Int32)), .val (.int (Int32.ofNat cs.length)), .val .null, .val (.ref t38)] [(.int (own_cfl (Int32.ofNat cs.length) zz38)), (.ref x)])) rfl rfl (hb hby d2_48)
  have Fw45 : Fld Z h45 x "java/lang/String" "coder" "B" (.int (nar .byte (own_cfl (Int32.ofNat cs.length) zz38))) := f43.same W45
  have K45 : Keep h0 h45 [x] := KK39.wr W45 (Or.inl (List.mem_of_getElem? (i := 0) rfl))
  have N45 := Fr.snoc X45 NN42 g_x
  refine Go.st (T' := T45.setTop (mkF m 51 #[.val (.ref x), .val (.ref ca), .val (.int (0 : Int32)), .val (.int (Int32.ofNat cs.length)), .val .null, .val (.ref t38)] [])) (fun zt zk => st45 zt zk) ?_
  refine Go.st (T' := T45.setTop (mkF m 52 #[.val (.ref x), .val (.ref ca), .val (.int (0 : Int32)), .val (.int (Int32.ofNat cs.length)), .val .null, .val (.ref t38)] [(.ref x)])) (fun zt zk => XS.aloadN X45.here hx rfl (hb hby d2_51) rfl rfl zk) ?_
  refine Go.st (T' := T45.setTop (mkF m 54 #[.val (.ref x), .val (.ref ca), .val (.int (0 : Int32)), .val (.int (Int32.ofNat cs.length)), .val .null, .val (.ref t38)] [(.ref t38), (.ref x)])) (fun zt zk => XS.aload X45.here hx rfl (hb hby d2_52) rfl rfl zk) ?_
  have f46 : Fld Z h45 x "java/lang/String" "value" "[B" .null := ((Fv.keep Kq38 nin0).other W45 (Or.inr (slot_ne (Or.inr (hw _ (List.mem_of_getElem? (i := 32) rfl))) (Or.inr (hw _ (List.mem_of_getElem? (i := 30) rfl))) (by decide) (t := (.array .byte)) (t' := .byte) (by decide) (by decide))))
  have f47 : Exa Z h45 x "java/lang/String" := (f44.wr W45)
  obtain ⟨T48, h48, X48, e48, W48, st48⟩ := putF X45 hx hZ hown (host := "") (Or.inl (hw _ (List.mem_of_getElem? (i := 31) rfl))) Via.refl e45 f46 f47 (Or.inr ⟨(hw _ (List.mem_of_getElem? (i := 32) rfl)), rfl, hnm⟩) (hw _ (List.mem_of_getElem? (i := 5) rfl)) (ty := (.array .byte)) (by decide) rfl rfl (g := (mkF m 54 #[.val (.ref x), .val (.ref ca), .val (.int (0 : Int32)), .val (.int (Int32.ofNat cs.length)), .val .null, .val (.ref t38)] [(.ref t38), (.ref x)])) rfl rfl (hb hby d2_54)
  have Fw48 : Fld Z h48 x "java/lang/String" "value" "[B" (.ref t38) := f46.same W48
  have K48 : Keep h0 h48 [x] := K45.wr W48 (Or.inl (List.mem_of_getElem? (i := 0) rfl))
  have N48 := Fr.snoc X48 N45 g_x
  refine Go.st (T' := T48.setTop (mkF m 57 #[.val (.ref x), .val (.ref ca), .val (.int (0 : Int32)), .val (.int (Int32.ofNat cs.length)), .val .null, .val (.ref t38)] [])) (fun zt zk => st48 zt zk) ?_
  have f49 : Exa Z h48 x "java/lang/String" := (f47.wr W48)
  have f50 : Fld Z h48 x "java/lang/String" "coder" "B" (.int (nar .byte (own_cfl (Int32.ofNat cs.length) zz38))) := (Fw45.other W48 (Or.inr (slot_ne (Or.inr (hw _ (List.mem_of_getElem? (i := 30) rfl))) (Or.inr (hw _ (List.mem_of_getElem? (i := 32) rfl))) (by decide) (t := .byte) (t' := (.array .byte)) (by decide) (by decide))))
  have f51 : Arv Z h48 t38 k38b .byte zz38 vs38 (.int (0 : Int32)) := ((V38.other W45 (Ne.symm nxt)).other W48 (Ne.symm nxt))
  exact Go.done X48 Bd.notSynchronized (v := none) (fun _ => rfl) (fun fs hr => X48.returnOut hx Bd.returns (hb hby d2_57) hr) (by rw [e48]; exact ⟨rfl, N48, K48, t38, sz_t38, own_mkS f49 f50 Fw48 f51 h1l hle R38⟩) (by decide) (by decide)
theorem d1_0 : decode jdk_42_method_3_code 0 = .ok (.aload_n 0, 1) := by decide +kernel
theorem d1_1 : decode jdk_42_method_3_code 1 = .ok (.aload_n 1, 1) := by decide +kernel
theorem d1_2 : decode jdk_42_method_3_code 2 = .ok (.iconst 0, 1) := by decide +kernel
theorem d1_3 : decode jdk_42_method_3_code 3 = .ok (.aload_n 1, 1) := by decide +kernel
theorem d1_4 : decode jdk_42_method_3_code 4 = .ok (.arraylength, 1) := by decide +kernel
theorem d1_5 : decode jdk_42_method_3_code 5 = .ok (.aconst_null, 1) := by decide +kernel
theorem d1_6 : decode jdk_42_method_3_code 6 = .ok (.invokespecial 27, 3) := by decide +kernel
theorem d1_9 : decode jdk_42_method_3_code 9 = .ok (.return_, 1) := by decide +kernel
theorem pd_f3a733a : parseMethodDescriptor "([CIILjava/lang/Void;)V" = some ⟨[(.array .char), .int, .int, (.object "java/lang/Void")], none⟩ := by decide +kernel
theorem ef_1 (m : MethodId) (x0 : Addr) (x1 : Addr) : entryFrame m #[(.ref x0), (.ref x1)] 2 = mkF m 0 #[.val (.ref x0), .val (.ref x1)] [] := by first | (simp [entryFrame, mkF, argsToLocals, Value.category]; done) | rfl
def Q_rmS1 (Z : State) (x ca : Addr) (kc : ClassId) (cs : List Int32) (h0 : Heap) (n0 : Nat) (v : Option Value) (h : Heap) (L : List Loc) : Prop := v = none ∧ Fr n0 L ∧ Keep h0 h [x] ∧ ∃ t : Addr, h0.size ≤ t ∧ own_St Z h x t cs
set_option maxRecDepth 65536 in
set_option maxHeartbeats 40000000 in
theorem rmS1 (l : Launch) (Z : State) (a0 : Array Value) (hw : ∀ d ∈ tables_1, d.before a0 Z = true) (x ca : Addr) (kc : ClassId) (cs : List Int32) (h0 : Heap) (n0 : Nat) (Z0 : n0 ≤ h0.size) (G1 : Int32) (O2 : Sta Z Z.heap "java/lang/String" "COMPACT_STRINGS" "Z" (.int G1)) (P5 : ¬ (G1 = (0 : Int32))) (X00 : Old Z n0 h0) (A1 : Sta Z Z.heap "java/lang/StringUTF16" "$assertionsDisabled" "Z" (.int (1 : Int32))) (A2 : Sta Z Z.heap "java/lang/StringUTF16" "HI_BYTE_SHIFT" "I" (.int (0 : Int32))) (A3 : Sta Z Z.heap "java/lang/StringUTF16" "LO_BYTE_SHIFT" "I" (.int (8 : Int32))) (E1 : Exa Z h0 x "java/lang/String") (g_x : n0 ≤ x) (Fv : Fld Z h0 x "java/lang/String" "value" "[B" .null) (Fc : Fld Z h0 x "java/lang/String" "coder" "B" (.int (0 : Int32))) (Bc : Arv Z h0 ca kc .char (Int32.ofNat cs.length) (cs.map Value.int) (.int (0 : Int32))) (h1l : 1 ≤ cs.length) (hle : cs.length ≤ 4099) (hp : ∀ c ∈ cs, ¬ c < 0 ∧ ¬ (65535 : Int32) < c) :
    MetFree l (⟨"java/lang/String", "<init>", "([C)V"⟩ : MethodName) (head1 [Jvm.Cond.code (⟨"java/lang/String", "<init>", "([C)V"⟩ : MethodName) jdk_42_method_3_code 2 none] ({ frames := 5, cells := 2, slots := 12297, locals := 74 } : Room)) (fun a U => a = #[(.ref x), (.ref ca)] ∧ Z.Warmed39 U.vm ∧ U.heap = h0) (fun _ _ _ _ _ => True) (fun _ U o U' => ∃ v L, o = .returned v ∧ (Q_rmS1 Z x ca kc cs h0 n0) v U'.heap L ∧ FrameEnd U o U' L ({ frames := 5, cells := 2, slots := 12297, locals := 74 } : Room).cells ({ frames := 5, cells := 2, slots := 12297, locals := 74 } : Room).slots) := by
  refine MetFree.of_bodySF (plainFor_of_name pn_397d88e) hisR ?_
  intro p e s m args below meth c s₁ Bd hml0 hP hK
  obtain ⟨rfl, hZ, hh⟩ := hP
  have hx := Bd.exec
  have hby := Bd.bytes
  have hml : c.maxLocals = 2 := hml0
  have hown : s.vm.findClass "java/lang/String" = some m.cls := findClass_of_methodNamed Bd.named
  have hnm := (name_of_methodNamed Bd.named Bd.method).1
  have X0 : Stand p l e ({ frames := 5, cells := 2, slots := 12297, locals := 74 } : Room) s m #[(.ref x), (.ref ca)] below meth c s₁ [] 0 0 := Stand.of_body Bd
  have e0 : s₁.heap = h0 := by rw [← hh, Bd.state]; rfl
  have N0 := Fr.nil n0
  have K0 : Keep h0 h0 [x] := Keep.refl h0 [x]
  show Go p e below (s₁.setTop (entryFrame m #[(.ref x), (.ref ca)] 2)) (EndN s (Q_rmS1 Z x ca kc cs h0 n0) ({ frames := 5, cells := 2, slots := 12297, locals := 74 } : Room).cells ({ frames := 5, cells := 2, slots := 12297, locals := 74 } : Room).slots)
  refine Go.top (ef_1 m x ca) ?_
  have own_KX : ∀ y_ ∈ [x], n0 ≤ y_ := (allS g_x all0)
  refine Go.st (T' := s₁.setTop (mkF m 1 #[.val (.ref x), .val (.ref ca)] [(.ref x)])) (fun zt zk => XS.aloadN X0.here hx rfl (hb hby d1_0) rfl rfl zk) ?_
  refine Go.st (T' := s₁.setTop (mkF m 2 #[.val (.ref x), .val (.ref ca)] [(.ref ca), (.ref x)])) (fun zt zk => XS.aloadN X0.here hx rfl (hb hby d1_1) rfl rfl zk) ?_
  refine Go.st (T' := s₁.setTop (mkF m 3 #[.val (.ref x), .val (.ref ca)] [(.int (0 : Int32)), (.ref ca), (.ref x)])) (fun zt zk => XS.iconst X0.here hx rfl (hb hby d1_2) zk) ?_
  refine Go.st (T' := s₁.setTop (mkF m 4 #[.val (.ref x), .val (.ref ca)] [(.ref ca), (.int (0 : Int32)), (.ref ca), (.ref x)])) (fun zt zk => XS.aloadN X0.here hx rfl (hb hby d1_3) rfl rfl zk) ?_
  obtain ⟨cl52, Ar52, -, S52, M52, -, -⟩ := id Bc
  refine Go.st (T' := s₁.setTop (mkF m 5 #[.val (.ref x), .val (.ref ca)] [(.int (Int32.ofNat cs.length)), (.int (0 : Int32)), (.ref ca), (.ref x)])) (fun zt zk => X0.arraylength hx (by rw [e0]; exact Ar52.1) (State.isArrayOf_alike hZ.alike Ar52.2.1) (g := (mkF m 4 #[.val (.ref x), .val (.ref ca)] [(.ref ca), (.int (0 : Int32)), (.ref ca), (.ref x)])) rfl rfl (hb hby d1_4) zt (by rw [len_of S52 M52]; exact zk)) ?_
  refine Go.st (T' := s₁.setTop (mkF m 6 #[.val (.ref x), .val (.ref ca)] [.null, (.int (Int32.ofNat cs.length)), (.int (0 : Int32)), (.ref ca), (.ref x)])) (fun zt zk => XS.aconstNull X0.here hx rfl (hb hby d1_5) zk) ?_
  obtain ⟨vr53, _, ⟨T53, L53, k53, n53⟩, -, X53, ⟨Lc53, hQ53, l53, y53, z53⟩, st53⟩ := X0.specialBack hx (y := (⟨"java/lang/String", "<init>", "([CIILjava/lang/Void;)V"⟩ : MethodName)) rfl hown (mvT hZ (hw _ (List.mem_of_getElem? (i := 10) rfl))) (mvT hZ (hw _ (List.mem_of_getElem? (i := 11) rfl))) (mvT hZ (hw _ (List.mem_of_getElem? (i := 13) rfl))) (by decide) (backOf (W := 0) (rmS5 l Z a0 hw x ca kc cs h0 n0 Z0 G1 O2 P5 X00 A1 A2 A3 E1 g_x Fv Fc Bc h1l hle hp) hZ (hw _ (List.mem_of_getElem? (i := 13) rfl)) (hw _ (List.mem_of_getElem? (i := 6) rfl)) (by decide) (by decide)) (g := (mkF m 6 #[.val (.ref x), .val (.ref ca)] [.null, (.int (Int32.ofNat cs.length)), (.int (0 : Int32)), (.ref ca), (.ref x)])) rfl (by rw [hml]; rfl) (Steps.refl _) (a := x) (argsL := [(.ref ca), (.int (0 : Int32)), (.int (Int32.ofNat cs.length)), .null]) (rest := []) (lenOf pd_f3a733a rfl) rfl (by show 2 * 0 + _ ≤ _; exact Nat.le_of_eq rfl) (hb hby d1_6) (fun _ _ => ⟨rfl, e0, (by decide : 0 + 2 ≤ _), (by decide : 0 + 12297 ≤ _)⟩)
  dsimp only [Pt.U, Pt.locs, Pt.cells, Pt.slots] at X53 l53 y53 z53 st53 hQ53
  subst l53 y53 z53
  obtain ⟨rfl, Nq53, Kq53, t53, sz53, R53⟩ := hQ53
  have KK54 : Keep h0 T53.heap [x] := K0.trans Kq53 (allS (Or.inl (List.mem_of_getElem? (i := 0) rfl)) all0)
  have NN55 := Fr.app N0 Nq53
  refine Go.st (T' := T53.setTop (mkF m 9 #[.val (.ref x), .val (.ref ca)] [])) (fun zt zk => st53.trans zk) ?_
  exact Go.done X53 Bd.notSynchronized (v := none) (fun _ => rfl) (fun fs hr => X53.returnOut hx Bd.returns (hb hby d1_9) hr) (by rw [(rfl : T53.heap = T53.heap)]; exact ⟨rfl, NN55, KK54, t53, sz53, R53⟩) (by decide) (by decide)
theorem d27_0 : decode jdk_42_method_152_code 0 = .ok (.getstatic 38, 3) := by decide +kernel
theorem d27_3 : decode jdk_42_method_152_code 3 = .ok (.ifCond .eq 10, 3) := by decide +kernel
theorem d27_6 : decode jdk_42_method_152_code 6 = .ok (.aload_n 0, 1) := by decide +kernel
theorem d27_7 : decode jdk_42_method_152_code 7 = .ok (.getfield 15, 3) := by decide +kernel
theorem d27_10 : decode jdk_42_method_152_code 10 = .ok (.goto 4, 3) := by decide +kernel
theorem d27_14 : decode jdk_42_method_152_code 14 = .ok (.ireturn, 1) := by decide +kernel
theorem ef_27 (m : MethodId) (x0 : Addr) : entryFrame m #[(.ref x0)] 1 = mkF m 0 #[.val (.ref x0)] [] := by first | (simp [entryFrame, mkF, argsToLocals, Value.category]; done) | rfl
def Q_rmCod (Z : State) (x : Addr) (pc_ : Int32) (h0 : Heap) (n0 : Nat) (v : Option Value) (h : Heap) (L : List Loc) : Prop := v = some (.int pc_) ∧ Fr n0 L ∧ h = h0
set_option maxRecDepth 65536 in
set_option maxHeartbeats 40000000 in
theorem rmCod (l : Launch) (Z : State) (a0 : Array Value) (hw : ∀ d ∈ tables_1, d.before a0 Z = true) (x : Addr) (pc_ : Int32) (h0 : Heap) (n0 : Nat) (Z0 : n0 ≤ h0.size) (G1 : Int32) (O2 : Sta Z Z.heap "java/lang/String" "COMPACT_STRINGS" "Z" (.int G1)) (P5 : ¬ (G1 = (0 : Int32))) (X00 : Old Z n0 h0) (Fc : Fld Z h0 x "java/lang/String" "coder" "B" (.int pc_)) (hcd : nar .byte pc_ = pc_) :
    MetFree l (⟨"java/lang/String", "coder", "()B"⟩ : MethodName) (head1 [Jvm.Cond.code (⟨"java/lang/String", "coder", "()B"⟩ : MethodName) jdk_42_method_152_code 1 (some .byte)] ({ frames := 0, cells := 0, slots := 0, locals := 0 } : Room)) (fun a U => a = #[(.ref x)] ∧ Z.Warmed39 U.vm ∧ U.heap = h0) (fun _ _ _ _ _ => True) (fun _ U o U' => ∃ v L, o = .returned v ∧ (Q_rmCod Z x pc_ h0 n0) v U'.heap L ∧ FrameEnd U o U' L ({ frames := 0, cells := 0, slots := 0, locals := 0 } : Room).cells ({ frames := 0, cells := 0, slots := 0, locals := 0 } : Room).slots) := by
  refine MetFree.of_bodySF (plainFor_of_name pn_397d88e) hisR ?_
  intro p e s m args below meth c s₁ Bd hml0 hP hK
  obtain ⟨rfl, hZ, hh⟩ := hP
  have hx := Bd.exec
  have hby := Bd.bytes
  have hml : c.maxLocals = 1 := hml0
  have hown : s.vm.findClass "java/lang/String" = some m.cls := findClass_of_methodNamed Bd.named
  have hnm := (name_of_methodNamed Bd.named Bd.method).1
  have X0 : Stand p l e ({ frames := 0, cells := 0, slots := 0, locals := 0 } : Room) s m #[(.ref x)] below meth c s₁ [] 0 0 := Stand.of_body Bd
  have e0 : s₁.heap = h0 := by rw [← hh, Bd.state]; rfl
  have N0 := Fr.nil n0
  have K0 : Keep h0 h0 [] := Keep.refl h0 []
  show Go p e below (s₁.setTop (entryFrame m #[(.ref x)] 1)) (EndN s (Q_rmCod Z x pc_ h0 n0) ({ frames := 0, cells := 0, slots := 0, locals := 0 } : Room).cells ({ frames := 0, cells := 0, slots := 0, locals := 0 } : Room).slots)
  refine Go.top (ef_27 m x) ?_
  obtain ⟨T56, X56, e56, st56⟩ := getS (host := "") X0 hx hZ hown (hw _ (List.mem_of_getElem? (i := 17) rfl)) Via.refl e0 (O2.ext (X00.keep K0 all0).2) (g := (mkF m 0 #[.val (.ref x)] [])) rfl (hb hby d27_0)
  refine Go.st (T' := T56.setTop (mkF m 3 #[.val (.ref x)] [(.int G1)])) (fun zt zk => st56 zt zk) ?_
  refine Go.st (T' := T56.setTop (mkF m 6 #[.val (.ref x)] [])) (fun zt zk => XS.ifNo X56.here hx rfl (hb hby d27_3) rfl ((if0 _ _).trans (feq P5).1) zk) ?_
  refine Go.st (T' := T56.setTop (mkF m 7 #[.val (.ref x)] [(.ref x)])) (fun zt zk => XS.aloadN X56.here hx rfl (hb hby d27_6) rfl rfl zk) ?_
  obtain ⟨T57, X57, e57, st57⟩ := getF X56 hx hZ hown (host := "") (Or.inl (hw _ (List.mem_of_getElem? (i := 29) rfl))) Via.refl e56 Fc (g := (mkF m 7 #[.val (.ref x)] [(.ref x)])) rfl rfl (hb hby d27_7)
  refine Go.st (T' := T57.setTop (mkF m 10 #[.val (.ref x)] [(.int pc_)])) (fun zt zk => st57 zt zk) ?_
  refine Go.st (T' := T57.setTop (mkF m 14 #[.val (.ref x)] [(.int pc_)])) (fun zt zk => XS.goto X57.here hx rfl (pc0 := 10) (pc' := 14) rfl (hb hby d27_10) (by decide) (by decide) zk) ?_
  exact Go.done X57 Bd.notSynchronized (v := some (.int (nar .byte pc_))) (fun h => by rw [Bd.returns] at h; cases h) (fun fs hr => retN X57 hx (t := .byte) Bd.returns (by simp) (hb hby d27_14) hr) (by rw [e57]; exact ⟨congrArg (fun q => some (Value.int q)) hcd, N0, rfl⟩) (by decide) (by decide)
theorem d26_0 : decode jdk_42_method_54_code 0 = .ok (.aload_n 0, 1) := by decide +kernel
theorem d26_1 : decode jdk_42_method_54_code 1 = .ok (.getfield 9, 3) := by decide +kernel
theorem d26_4 : decode jdk_42_method_54_code 4 = .ok (.arraylength, 1) := by decide +kernel
theorem d26_5 : decode jdk_42_method_54_code 5 = .ok (.aload_n 0, 1) := by decide +kernel
theorem d26_6 : decode jdk_42_method_54_code 6 = .ok (.invokevirtual 335, 3) := by decide +kernel
theorem d26_9 : decode jdk_42_method_54_code 9 = .ok (.ishr, 1) := by decide +kernel
theorem d26_10 : decode jdk_42_method_54_code 10 = .ok (.ireturn, 1) := by decide +kernel
theorem pd_a8ea5 : parseMethodDescriptor "()B" = some ⟨[], some .byte⟩ := by decide +kernel
theorem ef_26 (m : MethodId) (x0 : Addr) : entryFrame m #[(.ref x0)] 1 = mkF m 0 #[.val (.ref x0)] [] := by first | (simp [entryFrame, mkF, argsToLocals, Value.category]; done) | rfl
def Q_rmLen (Z : State) (x t : Addr) (cs : List Int32) (h0 : Heap) (n0 : Nat) (v : Option Value) (h : Heap) (L : List Loc) : Prop := v = some (.int (Int32.ofNat cs.length)) ∧ Fr n0 L ∧ h = h0
set_option maxRecDepth 65536 in
set_option maxHeartbeats 40000000 in
theorem rmLen (l : Launch) (Z : State) (a0 : Array Value) (hw : ∀ d ∈ tables_1, d.before a0 Z = true) (x t : Addr) (cs : List Int32) (h0 : Heap) (n0 : Nat) (Z0 : n0 ≤ h0.size) (G1 : Int32) (O2 : Sta Z Z.heap "java/lang/String" "COMPACT_STRINGS" "Z" (.int G1)) (P5 : ¬ (G1 = (0 : Int32))) (X00 : Old Z n0 h0) (Sx : own_St Z h0 x t cs) (h1l : 1 ≤ cs.length) (hle : cs.length ≤ 4099) :
    MetFree l (⟨"java/lang/String", "length", "()I"⟩ : MethodName) (head1 [Jvm.Cond.code (⟨"java/lang/String", "length", "()I"⟩ : MethodName) jdk_42_method_54_code 1 (some .int)] ({ frames := 1, cells := 0, slots := 0, locals := 13 } : Room)) (fun a U => a = #[(.ref x)] ∧ Z.Warmed39 U.vm ∧ U.heap = h0) (fun _ _ _ _ _ => True) (fun _ U o U' => ∃ v L, o = .returned v ∧ (Q_rmLen Z x t cs h0 n0) v U'.heap L ∧ FrameEnd U o U' L ({ frames := 1, cells := 0, slots := 0, locals := 13 } : Room).cells ({ frames := 1, cells := 0, slots := 0, locals := 13 } : Room).slots) := by
  refine MetFree.of_bodySF (plainFor_of_name pn_397d88e) hisR ?_
  intro p e s m args below meth c s₁ Bd hml0 hP hK
  obtain ⟨rfl, hZ, hh⟩ := hP
  have hx := Bd.exec
  have hby := Bd.bytes
  have hml : c.maxLocals = 1 := hml0
  have hown : s.vm.findClass "java/lang/String" = some m.cls := findClass_of_methodNamed Bd.named
  have hnm := (name_of_methodNamed Bd.named Bd.method).1
  have X0 : Stand p l e ({ frames := 1, cells := 0, slots := 0, locals := 13 } : Room) s m #[(.ref x)] below meth c s₁ [] 0 0 := Stand.of_body Bd
  have e0 : s₁.heap = h0 := by rw [← hh, Bd.state]; rfl
  have N0 := Fr.nil n0
  have K0 : Keep h0 h0 [] := Keep.refl h0 []
  show Go p e below (s₁.setTop (entryFrame m #[(.ref x)] 1)) (EndN s (Q_rmLen Z x t cs h0 n0) ({ frames := 1, cells := 0, slots := 0, locals := 13 } : Room).cells ({ frames := 1, cells := 0, slots := 0, locals := 13 } : Room).slots)
  refine Go.top (ef_26 m x) ?_
  obtain ⟨Ex, kt, zz, vs, cd, Fc, Fv, Bt, Rx⟩ := id Sx
  have hcd : nar .byte cd = cd := by rcases Rx with ⟨-, rfl, -⟩ | ⟨-, rfl, -⟩ <;> rfl
  have hzz : zz >>> (cd &&& 31) = Int32.ofNat cs.length := by
    rcases Rx with ⟨rfl, rfl, -⟩ | ⟨rfl, rfl, -⟩
    · exact own_shr0 (by omega)
    · exact own_shr1 (by omega)
  refine Go.st (T' := s₁.setTop (mkF m 1 #[.val (.ref x)] [(.ref x)])) (fun zt zk => XS.aloadN X0.here hx rfl (hb hby d26_0) rfl rfl zk) ?_
  obtain ⟨T58, X58, e58, st58⟩ := getF X0 hx hZ hown (host := "") (Or.inl (hw _ (List.mem_of_getElem? (i := 31) rfl))) Via.refl e0 Fv (g := (mkF m 1 #[.val (.ref x)] [(.ref x)])) rfl rfl (hb hby d26_1)
  refine Go.st (T' := T58.setTop (mkF m 4 #[.val (.ref x)] [(.ref t)])) (fun zt zk => st58 zt zk) ?_
  obtain ⟨cl59, Ar59, -, S59, M59, -, -⟩ := id Bt
  refine Go.st (T' := T58.setTop (mkF m 5 #[.val (.ref x)] [(.int zz)])) (fun zt zk => X58.arraylength hx (by rw [e58]; exact Ar59.1) (State.isArrayOf_alike hZ.alike Ar59.2.1) (g := (mkF m 4 #[.val (.ref x)] [(.ref t)])) rfl rfl (hb hby d26_4) zt (by rw [len_of S59 M59]; exact zk)) ?_
  refine Go.st (T' := T58.setTop (mkF m 6 #[.val (.ref x)] [(.ref x), (.int zz)])) (fun zt zk => XS.aloadN X58.here hx rfl (hb hby d26_5) rfl rfl zk) ?_
  obtain ⟨cq60, kq60, q60a, q60b, q60c⟩ := isOf hZ e58 Ex
  obtain ⟨vr60, _, ⟨T60, L60, k60, n60⟩, -, X60, ⟨Lc60, hQ60, l60, y60, z60⟩, st60⟩ := X58.virtualBack hx (y := (⟨"java/lang/String", "coder", "()B"⟩ : MethodName)) (z := (⟨"java/lang/String", "coder", "()B"⟩ : MethodName)) hown (mvT hZ (hw _ (List.mem_of_getElem? (i := 151) rfl))) (mvT hZ (hw _ (List.mem_of_getElem? (i := 152) rfl))) (notFace_of_selects (args := #[]) (mvT hZ (hw _ (List.mem_of_getElem? (i := 154) rfl)))) (mvT hZ (hw _ (List.mem_of_getElem? (i := 154) rfl))) (mvT hZ (hw _ (List.mem_of_getElem? (i := 153) rfl))) (by decide) (backOf (W := 1) (rmCod l Z a0 hw x cd h0 n0 Z0 G1 O2 P5 X00 Fc hcd) hZ (hw _ (List.mem_of_getElem? (i := 155) rfl)) (hw _ (List.mem_of_getElem? (i := 6) rfl)) (by decide) (by decide)) q60a q60c (g := (mkF m 6 #[.val (.ref x)] [(.ref x), (.int zz)])) rfl (by rw [hml]; rfl) (Steps.refl _) (argsL := []) (rest := [(.int zz)]) (lenOf pd_a8ea5 rfl) rfl (by show 2 * 0 + _ ≤ _; exact Nat.le_of_eq rfl) (hb hby d26_6) (fun _ _ => ⟨rfl, e58, (by decide : 0 + 0 ≤ _), (by decide : 0 + 0 ≤ _)⟩)
  dsimp only [Pt.U, Pt.locs, Pt.cells, Pt.slots] at X60 l60 y60 z60 st60 hQ60
  subst l60 y60 z60
  obtain ⟨rfl, Nq60, eq60⟩ := hQ60
  have NN61 := Fr.app N0 Nq60
  refine Go.st (T' := T60.setTop (mkF m 9 #[.val (.ref x)] [(.int cd), (.int zz)])) (fun zt zk => st60.trans zk) ?_
  refine Go.st (T' := T60.setTop (mkF m 10 #[.val (.ref x)] [(.int (zz >>> (cd &&& 31)))])) (fun zt zk => XS.ishr X60.here hx rfl (hb hby d26_9) rfl zk) ?_
  exact Go.done X60 Bd.notSynchronized (v := some (.int (zz >>> (cd &&& 31)))) (fun h => by rw [Bd.returns] at h; cases h) (fun fs hr => retI X60 hx Bd.returns (hb hby d26_10) hr) (by rw [eq60]; exact ⟨congrArg (fun q => some (Value.int q)) hzz, NN61, rfl⟩) (by decide) (by decide)
theorem d25_0 : decode jdk_42_method_55_code 0 = .ok (.aload_n 0, 1) := by decide +kernel
theorem d25_1 : decode jdk_42_method_55_code 1 = .ok (.getfield 9, 3) := by decide +kernel
theorem d25_4 : decode jdk_42_method_55_code 4 = .ok (.arraylength, 1) := by decide +kernel
theorem d25_5 : decode jdk_42_method_55_code 5 = .ok (.ifCond .ne 7, 3) := by decide +kernel
theorem d25_12 : decode jdk_42_method_55_code 12 = .ok (.iconst 0, 1) := by decide +kernel
theorem d25_13 : decode jdk_42_method_55_code 13 = .ok (.ireturn, 1) := by decide +kernel
theorem ef_25 (m : MethodId) (x0 : Addr) : entryFrame m #[(.ref x0)] 1 = mkF m 0 #[.val (.ref x0)] [] := by first | (simp [entryFrame, mkF, argsToLocals, Value.category]; done) | rfl
def Q_rmEmp (Z : State) (x t : Addr) (cs : List Int32) (h0 : Heap) (n0 : Nat) (v : Option Value) (h : Heap) (L : List Loc) : Prop := v = some (.int (0 : Int32)) ∧ Fr n0 L ∧ h = h0
set_option maxRecDepth 65536 in
set_option maxHeartbeats 40000000 in
theorem rmEmp (l : Launch) (Z : State) (a0 : Array Value) (hw : ∀ d ∈ tables_1, d.before a0 Z = true) (x t : Addr) (cs : List Int32) (h0 : Heap) (n0 : Nat) (Z0 : n0 ≤ h0.size) (Sx : own_St Z h0 x t cs) (h1l : 1 ≤ cs.length) (hle : cs.length ≤ 4099) :
    MetFree l (⟨"java/lang/String", "isEmpty", "()Z"⟩ : MethodName) (head1 [Jvm.Cond.code (⟨"java/lang/String", "isEmpty", "()Z"⟩ : MethodName) jdk_42_method_55_code 1 (some .boolean)] ({ frames := 0, cells := 0, slots := 0, locals := 0 } : Room)) (fun a U => a = #[(.ref x)] ∧ Z.Warmed39 U.vm ∧ U.heap = h0) (fun _ _ _ _ _ => True) (fun _ U o U' => ∃ v L, o = .returned v ∧ (Q_rmEmp Z x t cs h0 n0) v U'.heap L ∧ FrameEnd U o U' L ({ frames := 0, cells := 0, slots := 0, locals := 0 } : Room).cells ({ frames := 0, cells := 0, slots := 0, locals := 0 } : Room).slots) := by
  refine MetFree.of_bodySF (plainFor_of_name pn_397d88e) hisR ?_
  intro p e s m args below meth c s₁ Bd hml0 hP hK
  obtain ⟨rfl, hZ, hh⟩ := hP
  have hx := Bd.exec
  have hby := Bd.bytes
  have hml : c.maxLocals = 1 := hml0
  have hown : s.vm.findClass "java/lang/String" = some m.cls := findClass_of_methodNamed Bd.named
  have hnm := (name_of_methodNamed Bd.named Bd.method).1
  have X0 : Stand p l e ({ frames := 0, cells := 0, slots := 0, locals := 0 } : Room) s m #[(.ref x)] below meth c s₁ [] 0 0 := Stand.of_body Bd
  have e0 : s₁.heap = h0 := by rw [← hh, Bd.state]; rfl
  have N0 := Fr.nil n0
  have K0 : Keep h0 h0 [] := Keep.refl h0 []
  show Go p e below (s₁.setTop (entryFrame m #[(.ref x)] 1)) (EndN s (Q_rmEmp Z x t cs h0 n0) ({ frames := 0, cells := 0, slots := 0, locals := 0 } : Room).cells ({ frames := 0, cells := 0, slots := 0, locals := 0 } : Room).slots)
  refine Go.top (ef_25 m x) ?_
  obtain ⟨Ex, kt, zz, vs, cd, Fc, Fv, Bt, Rx⟩ := id Sx
  have hcd : nar .byte cd = cd := by rcases Rx with ⟨-, rfl, -⟩ | ⟨-, rfl, -⟩ <;> rfl
  have hz0 : ¬ zz = (0 : Int32) := by
    rcases Rx with ⟨rfl, -, -⟩ | ⟨rfl, -, -⟩
    · exact fun q => absurd ((own_eq32 (n := 0) (by omega) (by omega)).mp q) (by omega)
    · exact fun q => absurd ((own_eq32 (n := 0) (by omega) (by omega)).mp q) (by omega)
  refine Go.st (T' := s₁.setTop (mkF m 1 #[.val (.ref x)] [(.ref x)])) (fun zt zk => XS.aloadN X0.here hx rfl (hb hby d25_0) rfl rfl zk) ?_
  obtain ⟨T62, X62, e62, st62⟩ := getF X0 hx hZ hown (host := "") (Or.inl (hw _ (List.mem_of_getElem? (i := 31) rfl))) Via.refl e0 Fv (g := (mkF m 1 #[.val (.ref x)] [(.ref x)])) rfl rfl (hb hby d25_1)
  refine Go.st (T' := T62.setTop (mkF m 4 #[.val (.ref x)] [(.ref t)])) (fun zt zk => st62 zt zk) ?_
  obtain ⟨cl63, Ar63, -, S63, M63, -, -⟩ := id Bt
  refine Go.st (T' := T62.setTop (mkF m 5 #[.val (.ref x)] [(.int zz)])) (fun zt zk => X62.arraylength hx (by rw [e62]; exact Ar63.1) (State.isArrayOf_alike hZ.alike Ar63.2.1) (g := (mkF m 4 #[.val (.ref x)] [(.ref t)])) rfl rfl (hb hby d25_4) zt (by rw [len_of S63 M63]; exact zk)) ?_
  refine Go.st (T' := T62.setTop (mkF m 12 #[.val (.ref x)] [])) (fun zt zk => XS.ifYes X62.here hx rfl (pc0 := 5) (pc' := 12) rfl (hb hby d25_5) rfl ((if0 _ _).trans (feq hz0).2) (by decide) (by decide) zk) ?_
  refine Go.st (T' := T62.setTop (mkF m 13 #[.val (.ref x)] [(.int (0 : Int32))])) (fun zt zk => XS.iconst X62.here hx rfl (hb hby d25_12) zk) ?_
  exact Go.done X62 Bd.notSynchronized (v := some (.int (nar .boolean (0 : Int32)))) (fun h => by rw [Bd.returns] at h; cases h) (fun fs hr => retN X62 hx (t := .boolean) Bd.returns (by simp) (hb hby d25_13) hr) (by rw [e62]; exact ⟨rfl, N0, rfl⟩) (by decide) (by decide)
theorem d36_0 : decode jdk_42_method_154_code 0 = .ok (.getstatic 38, 3) := by decide +kernel
theorem d36_3 : decode jdk_42_method_154_code 3 = .ok (.ifCond .eq 14, 3) := by decide +kernel
theorem d36_6 : decode jdk_42_method_154_code 6 = .ok (.aload_n 0, 1) := by decide +kernel
theorem d36_7 : decode jdk_42_method_154_code 7 = .ok (.getfield 15, 3) := by decide +kernel
theorem d36_10 : decode jdk_42_method_154_code 10 = .ok (.ifCond .ne 7, 3) := by decide +kernel
theorem d36_17 : decode jdk_42_method_154_code 17 = .ok (.iconst 0, 1) := by decide +kernel
theorem d36_18 : decode jdk_42_method_154_code 18 = .ok (.ireturn, 1) := by decide +kernel
theorem ef_36 (m : MethodId) (x0 : Addr) : entryFrame m #[(.ref x0)] 1 = mkF m 0 #[.val (.ref x0)] [] := by first | (simp [entryFrame, mkF, argsToLocals, Value.category]; done) | rfl
def Q_rmIL (Z : State) (x : Addr) (h0 : Heap) (n0 : Nat) (v : Option Value) (h : Heap) (L : List Loc) : Prop := v = some (.int (0 : Int32)) ∧ Fr n0 L ∧ h = h0
set_option maxRecDepth 65536 in
set_option maxHeartbeats 40000000 in
theorem rmIL (l : Launch) (Z : State) (a0 : Array Value) (hw : ∀ d ∈ tables_1, d.before a0 Z = true) (x : Addr) (h0 : Heap) (n0 : Nat) (Z0 : n0 ≤ h0.size) (G1 : Int32) (O2 : Sta Z Z.heap "java/lang/String" "COMPACT_STRINGS" "Z" (.int G1)) (P5 : ¬ (G1 = (0 : Int32))) (X00 : Old Z n0 h0) (Fc : Fld Z h0 x "java/lang/String" "coder" "B" (.int (1 : Int32))) :
    MetFree l (⟨"java/lang/String", "isLatin1", "()Z"⟩ : MethodName) (head1 [Jvm.Cond.code (⟨"java/lang/String", "isLatin1", "()Z"⟩ : MethodName) jdk_42_method_154_code 1 (some .boolean)] ({ frames := 0, cells := 0, slots := 0, locals := 0 } : Room)) (fun a U => a = #[(.ref x)] ∧ Z.Warmed39 U.vm ∧ U.heap = h0) (fun _ _ _ _ _ => True) (fun _ U o U' => ∃ v L, o = .returned v ∧ (Q_rmIL Z x h0 n0) v U'.heap L ∧ FrameEnd U o U' L ({ frames := 0, cells := 0, slots := 0, locals := 0 } : Room).cells ({ frames := 0, cells := 0, slots := 0, locals := 0 } : Room).slots) := by
  refine MetFree.of_bodySF (plainFor_of_name pn_397d88e) hisR ?_
  intro p e s m args below meth c s₁ Bd hml0 hP hK
  obtain ⟨rfl, hZ, hh⟩ := hP
  have hx := Bd.exec
  have hby := Bd.bytes
  have hml : c.maxLocals = 1 := hml0
  have hown : s.vm.findClass "java/lang/String" = some m.cls := findClass_of_methodNamed Bd.named
  have hnm := (name_of_methodNamed Bd.named Bd.method).1
  have X0 : Stand p l e ({ frames := 0, cells := 0, slots := 0, locals := 0 } : Room) s m #[(.ref x)] below meth c s₁ [] 0 0 := Stand.of_body Bd
  have e0 : s₁.heap = h0 := by rw [← hh, Bd.state]; rfl
  have N0 := Fr.nil n0
  have K0 : Keep h0 h0 [] := Keep.refl h0 []
  show Go p e below (s₁.setTop (entryFrame m #[(.ref x)] 1)) (EndN s (Q_rmIL Z x h0 n0) ({ frames := 0, cells := 0, slots := 0, locals := 0 } : Room).cells ({ frames := 0, cells := 0, slots := 0, locals := 0 } : Room).slots)
  refine Go.top (ef_36 m x) ?_
  obtain ⟨T64, X64, e64, st64⟩ := getS (host := "") X0 hx hZ hown (hw _ (List.mem_of_getElem? (i := 17) rfl)) Via.refl e0 (O2.ext (X00.keep K0 all0).2) (g := (mkF m 0 #[.val (.ref x)] [])) rfl (hb hby d36_0)
  refine Go.st (T' := T64.setTop (mkF m 3 #[.val (.ref x)] [(.int G1)])) (fun zt zk => st64 zt zk) ?_
  refine Go.st (T' := T64.setTop (mkF m 6 #[.val (.ref x)] [])) (fun zt zk => XS.ifNo X64.here hx rfl (hb hby d36_3) rfl ((if0 _ _).trans (feq P5).1) zk) ?_
  refine Go.st (T' := T64.setTop (mkF m 7 #[.val (.ref x)] [(.ref x)])) (fun zt zk => XS.aloadN X64.here hx rfl (hb hby d36_6) rfl rfl zk) ?_
  obtain ⟨T65, X65, e65, st65⟩ := getF X64 hx hZ hown (host := "") (Or.inl (hw _ (List.mem_of_getElem? (i := 29) rfl))) Via.refl e64 Fc (g := (mkF m 7 #[.val (.ref x)] [(.ref x)])) rfl rfl (hb hby d36_7)
  refine Go.st (T' := T65.setTop (mkF m 10 #[.val (.ref x)] [(.int (1 : Int32))])) (fun zt zk => st65 zt zk) ?_
  refine Go.st (T' := T65.setTop (mkF m 17 #[.val (.ref x)] [])) (fun zt zk => XS.ifYes X65.here hx rfl (pc0 := 10) (pc' := 17) rfl (hb hby d36_10) rfl ((if0 _ _).trans (feq (by decide)).2) (by decide) (by decide) zk) ?_
  refine Go.st (T' := T65.setTop (mkF m 18 #[.val (.ref x)] [(.int (0 : Int32))])) (fun zt zk => XS.iconst X65.here hx rfl (hb hby d36_17) zk) ?_
  exact Go.done X65 Bd.notSynchronized (v := some (.int (nar .boolean (0 : Int32)))) (fun h => by rw [Bd.returns] at h; cases h) (fun fs hr => retN X65 hx (t := .boolean) Bd.returns (by simp) (hb hby d36_18) hr) (by rw [e65]; exact ⟨rfl, N0, rfl⟩) (by decide) (by decide)
theorem d35_0 : decode jdk_41_method_12_code 0 = .ok (.iload_n 0, 1) := by decide +kernel
theorem d35_1 : decode jdk_41_method_12_code 1 = .ok (.ifCond .lt 13, 3) := by decide +kernel
theorem d35_4 : decode jdk_41_method_12_code 4 = .ok (.iload_n 0, 1) := by decide +kernel
theorem d35_5 : decode jdk_41_method_12_code 5 = .ok (.iload_n 1, 1) := by decide +kernel
theorem d35_6 : decode jdk_41_method_12_code 6 = .ok (.if_icmp .gt 8, 3) := by decide +kernel
theorem d35_9 : decode jdk_41_method_12_code 9 = .ok (.iload_n 1, 1) := by decide +kernel
theorem d35_10 : decode jdk_41_method_12_code 10 = .ok (.iload_n 2, 1) := by decide +kernel
theorem d35_11 : decode jdk_41_method_12_code 11 = .ok (.if_icmp .le 11, 3) := by decide +kernel
theorem d35_22 : decode jdk_41_method_12_code 22 = .ok (.iload_n 0, 1) := by decide +kernel
theorem d35_23 : decode jdk_41_method_12_code 23 = .ok (.ireturn, 1) := by decide +kernel
theorem pn_cc17781 : plainName "jdk/internal/util/Preconditions" = true := by first | (simp [plainName, overriddenIn]; done) | decide +kernel
theorem ef_35 (m : MethodId) (x0 : Int32) (x1 : Int32) (x2 : Int32) : entryFrame m #[(.int x0), (.int x1), (.int x2), .null] 4 = mkF m 0 #[.val (.int x0), .val (.int x1), .val (.int x2), .val .null] [] := by first | (simp [entryFrame, mkF, argsToLocals, Value.category]; done) | rfl
def Q_rmPFT (Z : State) (nn : Nat) (h0 : Heap) (n0 : Nat) (v : Option Value) (h : Heap) (L : List Loc) : Prop := v = some (.int (0 : Int32)) ∧ Fr n0 L ∧ h = h0
set_option maxRecDepth 65536 in
set_option maxHeartbeats 40000000 in
theorem rmPFT (l : Launch) (Z : State) (a0 : Array Value) (hw : ∀ d ∈ tables_1, d.before a0 Z = true) (nn : Nat) (h0 : Heap) (n0 : Nat) (Z0 : n0 ≤ h0.size) (hle : nn ≤ 4099) :
    MetFree l (⟨"jdk/internal/util/Preconditions", "checkFromToIndex", "(IIILjava/util/function/BiFunction;)I"⟩ : MethodName) (head1 [Jvm.Cond.code (⟨"jdk/internal/util/Preconditions", "checkFromToIndex", "(IIILjava/util/function/BiFunction;)I"⟩ : MethodName) jdk_41_method_12_code 4 (some .int)] ({ frames := 0, cells := 0, slots := 0, locals := 0 } : Room)) (fun a U => a = #[(.int (0 : Int32)), (.int (Int32.ofNat nn)), (.int (Int32.ofNat nn)), .null] ∧ Z.Warmed39 U.vm ∧ U.heap = h0) (fun _ _ _ _ _ => True) (fun _ U o U' => ∃ v L, o = .returned v ∧ (Q_rmPFT Z nn h0 n0) v U'.heap L ∧ FrameEnd U o U' L ({ frames := 0, cells := 0, slots := 0, locals := 0 } : Room).cells ({ frames := 0, cells := 0, slots := 0, locals := 0 } : Room).slots) := by
  refine MetFree.of_bodySF (plainFor_of_name pn_cc17781) hisR ?_
  intro p e s m args below meth c s₁ Bd hml0 hP hK
  obtain ⟨rfl, hZ, hh⟩ := hP
  have hx := Bd.exec
  have hby := Bd.bytes
  have hml : c.maxLocals = 4 := hml0
  have hown : s.vm.findClass "jdk/internal/util/Preconditions" = some m.cls := findClass_of_methodNamed Bd.named
  have hnm := (name_of_methodNamed Bd.named Bd.method).1
  have X0 : Stand p l e ({ frames := 0, cells := 0, slots := 0, locals := 0 } : Room) s m #[(.int (0 : Int32)), (.int (Int32.ofNat nn)), (.int (Int32.ofNat nn)), .null] below meth c s₁ [] 0 0 := Stand.of_body Bd
  have e0 : s₁.heap = h0 := by rw [← hh, Bd.state]; rfl
  have N0 := Fr.nil n0
  have K0 : Keep h0 h0 [] := Keep.refl h0 []
  show Go p e below (s₁.setTop (entryFrame m #[(.int (0 : Int32)), (.int (Int32.ofNat nn)), (.int (Int32.ofNat nn)), .null] 4)) (EndN s (Q_rmPFT Z nn h0 n0) ({ frames := 0, cells := 0, slots := 0, locals := 0 } : Room).cells ({ frames := 0, cells := 0, slots := 0, locals := 0 } : Room).slots)
  refine Go.top (ef_35 m (0 : Int32) (Int32.ofNat nn) (Int32.ofNat nn)) ?_
  refine Go.st (T' := s₁.setTop (mkF m 1 #[.val (.int (0 : Int32)), .val (.int (Int32.ofNat nn)), .val (.int (Int32.ofNat nn)), .val .null] [(.int (0 : Int32))])) (fun zt zk => XS.iloadN X0.here hx rfl (hb hby d35_0) rfl zk) ?_
  refine Go.st (T' := s₁.setTop (mkF m 4 #[.val (.int (0 : Int32)), .val (.int (Int32.ofNat nn)), .val (.int (Int32.ofNat nn)), .val .null] [])) (fun zt zk => XS.ifNo X0.here hx rfl (hb hby d35_1) rfl ((if0 _ _).trans (flt (by decide)).1) zk) ?_
  refine Go.st (T' := s₁.setTop (mkF m 5 #[.val (.int (0 : Int32)), .val (.int (Int32.ofNat nn)), .val (.int (Int32.ofNat nn)), .val .null] [(.int (0 : Int32))])) (fun zt zk => XS.iloadN X0.here hx rfl (hb hby d35_4) rfl zk) ?_
  refine Go.st (T' := s₁.setTop (mkF m 6 #[.val (.int (0 : Int32)), .val (.int (Int32.ofNat nn)), .val (.int (Int32.ofNat nn)), .val .null] [(.int (Int32.ofNat nn)), (.int (0 : Int32))])) (fun zt zk => XS.iloadN X0.here hx rfl (hb hby d35_5) rfl zk) ?_
  refine Go.st (T' := s₁.setTop (mkF m 9 #[.val (.int (0 : Int32)), .val (.int (Int32.ofNat nn)), .val (.int (Int32.ofNat nn)), .val .null] [])) (fun zt zk => XS.icmpNo X0.here hx rfl (hb hby d35_6) rfl (flt (own_nn (by omega))).2.2.1 zk) ?_
  refine Go.st (T' := s₁.setTop (mkF m 10 #[.val (.int (0 : Int32)), .val (.int (Int32.ofNat nn)), .val (.int (Int32.ofNat nn)), .val .null] [(.int (Int32.ofNat nn))])) (fun zt zk => XS.iloadN X0.here hx rfl (hb hby d35_9) rfl zk) ?_
  refine Go.st (T' := s₁.setTop (mkF m 11 #[.val (.int (0 : Int32)), .val (.int (Int32.ofNat nn)), .val (.int (Int32.ofNat nn)), .val .null] [(.int (Int32.ofNat nn)), (.int (Int32.ofNat nn))])) (fun zt zk => XS.iloadN X0.here hx rfl (hb hby d35_10) rfl zk) ?_
  refine Go.st (T' := s₁.setTop (mkF m 22 #[.val (.int (0 : Int32)), .val (.int (Int32.ofNat nn)), .val (.int (Int32.ofNat nn)), .val .null] [])) (fun zt zk => XS.icmpYes X0.here hx rfl (pc0 := 11) (pc' := 22) rfl (hb hby d35_11) rfl (flt (fun q => absurd ((own_lt32 (by omega) (by omega)).mp q) (by omega))).2.2.2 (by decide) (by decide) zk) ?_
  refine Go.st (T' := s₁.setTop (mkF m 23 #[.val (.int (0 : Int32)), .val (.int (Int32.ofNat nn)), .val (.int (Int32.ofNat nn)), .val .null] [(.int (0 : Int32))])) (fun zt zk => XS.iloadN X0.here hx rfl (hb hby d35_22) rfl zk) ?_
  exact Go.done X0 Bd.notSynchronized (v := some (.int (0 : Int32))) (fun h => by rw [Bd.returns] at h; cases h) (fun fs hr => retI X0 hx Bd.returns (hb hby d35_23) hr) (by rw [e0]; exact ⟨rfl, N0, rfl⟩) (by decide) (by decide)
theorem d34_0 : decode jdk_31_method_18_code 0 = .ok (.iload_n 0, 1) := by decide +kernel
theorem d34_1 : decode jdk_31_method_18_code 1 = .ok (.iload_n 1, 1) := by decide +kernel
theorem d34_2 : decode jdk_31_method_18_code 2 = .ok (.iload_n 2, 1) := by decide +kernel
theorem d34_3 : decode jdk_31_method_18_code 3 = .ok (.aconst_null, 1) := by decide +kernel
theorem d34_4 : decode jdk_31_method_18_code 4 = .ok (.invokestatic 111, 3) := by decide +kernel
theorem d34_7 : decode jdk_31_method_18_code 7 = .ok (.ireturn, 1) := by decide +kernel
theorem pn_8a7aea2 : plainName "java/util/Objects" = true := by first | (simp [plainName, overriddenIn]; done) | decide +kernel
theorem pd_844f081 : parseMethodDescriptor "(IIILjava/util/function/BiFunction;)I" = some ⟨[.int, .int, .int, (.object "java/util/function/BiFunction")], some .int⟩ := by decide +kernel
theorem ef_34 (m : MethodId) (x0 : Int32) (x1 : Int32) (x2 : Int32) : entryFrame m #[(.int x0), (.int x1), (.int x2)] 3 = mkF m 0 #[.val (.int x0), .val (.int x1), .val (.int x2)] [] := by first | (simp [entryFrame, mkF, argsToLocals, Value.category]; done) | rfl
def Q_rmOFT (Z : State) (nn : Nat) (h0 : Heap) (n0 : Nat) (v : Option Value) (h : Heap) (L : List Loc) : Prop := v = some (.int (0 : Int32)) ∧ Fr n0 L ∧ h = h0
set_option maxRecDepth 65536 in
set_option maxHeartbeats 40000000 in
theorem rmOFT (l : Launch) (Z : State) (a0 : Array Value) (hw : ∀ d ∈ tables_1, d.before a0 Z = true) (nn : Nat) (h0 : Heap) (n0 : Nat) (Z0 : n0 ≤ h0.size) (hle : nn ≤ 4099) :
    MetFree l (⟨"java/util/Objects", "checkFromToIndex", "(III)I"⟩ : MethodName) (head1 [Jvm.Cond.code (⟨"java/util/Objects", "checkFromToIndex", "(III)I"⟩ : MethodName) jdk_31_method_18_code 3 (some .int)] ({ frames := 1, cells := 0, slots := 0, locals := 15 } : Room)) (fun a U => a = #[(.int (0 : Int32)), (.int (Int32.ofNat nn)), (.int (Int32.ofNat nn))] ∧ Z.Warmed39 U.vm ∧ U.heap = h0) (fun _ _ _ _ _ => True) (fun _ U o U' => ∃ v L, o = .returned v ∧ (Q_rmOFT Z nn h0 n0) v U'.heap L ∧ FrameEnd U o U' L ({ frames := 1, cells := 0, slots := 0, locals := 15 } : Room).cells ({ frames := 1, cells := 0, slots := 0, locals := 15 } : Room).slots) := by
  refine MetFree.of_bodySF (plainFor_of_name pn_8a7aea2) hisR ?_
  intro p e s m args below meth c s₁ Bd hml0 hP hK
  obtain ⟨rfl, hZ, hh⟩ := hP
  have hx := Bd.exec
  have hby := Bd.bytes
  have hml : c.maxLocals = 3 := hml0
  have hown : s.vm.findClass "java/util/Objects" = some m.cls := findClass_of_methodNamed Bd.named
  have hnm := (name_of_methodNamed Bd.named Bd.method).1
  have X0 : Stand p l e ({ frames := 1, cells := 0, slots := 0, locals := 15 } : Room) s m #[(.int (0 : Int32)), (.int (Int32.ofNat nn)), (.int (Int32.ofNat nn))] below meth c s₁ [] 0 0 := Stand.of_body Bd
  have e0 : s₁.heap = h0 := by rw [← hh, Bd.state]; rfl
  have N0 := Fr.nil n0
  have K0 : Keep h0 h0 [] := Keep.refl h0 []
  show Go p e below (s₁.setTop (entryFrame m #[(.int (0 : Int32)), (.int (Int32.ofNat nn)), (.int (Int32.ofNat nn))] 3)) (EndN s (Q_rmOFT Z nn h0 n0) ({ frames := 1, cells := 0, slots := 0, locals := 15 } : Room).cells ({ frames := 1, cells := 0, slots := 0, locals := 15 } : Room).slots)
  refine Go.top (ef_34 m (0 : Int32) (Int32.ofNat nn) (Int32.ofNat nn)) ?_
  refine Go.st (T' := s₁.setTop (mkF m 1 #[.val (.int (0 : Int32)), .val (.int (Int32.ofNat nn)), .val (.int (Int32.ofNat nn))] [(.int (0 : Int32))])) (fun zt zk => XS.iloadN X0.here hx rfl (hb hby d34_0) rfl zk) ?_
  refine Go.st (T' := s₁.setTop (mkF m 2 #[.val (.int (0 : Int32)), .val (.int (Int32.ofNat nn)), .val (.int (Int32.ofNat nn))] [(.int (Int32.ofNat nn)), (.int (0 : Int32))])) (fun zt zk => XS.iloadN X0.here hx rfl (hb hby d34_1) rfl zk) ?_
  refine Go.st (T' := s₁.setTop (mkF m 3 #[.val (.int (0 : Int32)), .val (.int (Int32.ofNat nn)), .val (.int (Int32.ofNat nn))] [(.int (Int32.ofNat nn)), (.int (Int32.ofNat nn)), (.int (0 : Int32))])) (fun zt zk => XS.iloadN X0.here hx rfl (hb hby d34_2) rfl zk) ?_
  refine Go.st (T' := s₁.setTop (mkF m 4 #[.val (.int (0 : Int32)), .val (.int (Int32.ofNat nn)), .val (.int (Int32.ofNat nn))] [.null, (.int (Int32.ofNat nn)), (.int (Int32.ofNat nn)), (.int (0 : Int32))])) (fun zt zk => XS.aconstNull X0.here hx rfl (hb hby d34_3) zk) ?_
  obtain ⟨vr66, _, ⟨T66, L66, k66, n66⟩, -, X66, ⟨Lc66, hQ66, l66, y66, z66⟩, st66⟩ := Jvm.LawKit.callS X0 hx (y := (⟨"jdk/internal/util/Preconditions", "checkFromToIndex", "(IIILjava/util/function/BiFunction;)I"⟩ : MethodName)) hown (mvT hZ (hw _ (List.mem_of_getElem? (i := 184) rfl))) (mvT hZ (hw _ (List.mem_of_getElem? (i := 185) rfl))) (mvT hZ (hw _ (List.mem_of_getElem? (i := 133) rfl))) (mvT hZ (hw _ (List.mem_of_getElem? (i := 186) rfl))) (by decide) (backOf (W := 0) (rmPFT l Z a0 hw nn h0 n0 Z0 hle) hZ (hw _ (List.mem_of_getElem? (i := 186) rfl)) (hw _ (List.mem_of_getElem? (i := 133) rfl)) (by decide) (by decide)) (g := (mkF m 4 #[.val (.int (0 : Int32)), .val (.int (Int32.ofNat nn)), .val (.int (Int32.ofNat nn))] [.null, (.int (Int32.ofNat nn)), (.int (Int32.ofNat nn)), (.int (0 : Int32))])) rfl (by rw [hml]; rfl) (argsL := [(.int (0 : Int32)), (.int (Int32.ofNat nn)), (.int (Int32.ofNat nn)), .null]) (rest := []) (lenOf pd_844f081 rfl) rfl (by show 2 * 0 + _ ≤ _; exact Nat.le_of_eq rfl) (hb hby d34_4) (fun _ _ => ⟨rfl, e0, (by decide : 0 + 0 ≤ _), (by decide : 0 + 0 ≤ _)⟩)
  dsimp only [Pt.U, Pt.locs, Pt.cells, Pt.slots] at X66 l66 y66 z66 st66 hQ66
  subst l66 y66 z66
  obtain ⟨rfl, Nq66, eq66⟩ := hQ66
  have NN67 := Fr.app N0 Nq66
  refine Go.st (T' := T66.setTop (mkF m 7 #[.val (.int (0 : Int32)), .val (.int (Int32.ofNat nn)), .val (.int (Int32.ofNat nn))] [(.int (0 : Int32))])) (fun zt zk => st66 zt zk) ?_
  exact Go.done X66 Bd.notSynchronized (v := some (.int (0 : Int32))) (fun h => by rw [Bd.returns] at h; cases h) (fun fs hr => retI X66 hx Bd.returns (hb hby d34_7) hr) (by rw [eq66]; exact ⟨rfl, NN67, rfl⟩) (by decide) (by decide)
theorem d39_0 : decode jdk_89_method_14_code 0 = .ok (.iload_n 0, 1) := by decide +kernel
theorem d39_1 : decode jdk_89_method_14_code 1 = .ok (.ldc 75, 2) := by decide +kernel
theorem d39_3 : decode jdk_89_method_14_code 3 = .ok (.if_icmp .lt 13, 3) := by decide +kernel
theorem d39_6 : decode jdk_89_method_14_code 6 = .ok (.iload_n 0, 1) := by decide +kernel
theorem d39_7 : decode jdk_89_method_14_code 7 = .ok (.ldc 76, 2) := by decide +kernel
theorem d39_9 : decode jdk_89_method_14_code 9 = .ok (.if_icmp .ge 7, 3) := by decide +kernel
theorem d39_12 : decode jdk_89_method_14_code 12 = .ok (.iconst 1, 1) := by decide +kernel
theorem d39_13 : decode jdk_89_method_14_code 13 = .ok (.goto 4, 3) := by decide +kernel
theorem d39_16 : decode jdk_89_method_14_code 16 = .ok (.iconst 0, 1) := by decide +kernel
theorem d39_17 : decode jdk_89_method_14_code 17 = .ok (.ireturn, 1) := by decide +kernel
theorem pn_546ab84 : plainName "java/lang/Character" = true := by first | (simp [plainName, overriddenIn]; done) | decide +kernel
theorem ef_39 (m : MethodId) (x0 : Int32) : entryFrame m #[(.int x0)] 1 = mkF m 0 #[.val (.int x0)] [] := by first | (simp [entryFrame, mkF, argsToLocals, Value.category]; done) | rfl
def Q_rmHi (Z : State) (p1 : Int32) (h0 : Heap) (n0 : Nat) (v : Option Value) (h : Heap) (L : List Loc) : Prop := v = some (.int (if own_H p1 then (1 : Int32) else 0)) ∧ Fr n0 L ∧ h = h0
set_option maxRecDepth 65536 in
set_option maxHeartbeats 40000000 in
theorem rmHi (l : Launch) (Z : State) (a0 : Array Value) (hw : ∀ d ∈ tables_1, d.before a0 Z = true) (p1 : Int32) (h0 : Heap) (n0 : Nat) (Z0 : n0 ≤ h0.size)  :
    MetFree l (⟨"java/lang/Character", "isHighSurrogate", "(C)Z"⟩ : MethodName) (head1 [Jvm.Cond.code (⟨"java/lang/Character", "isHighSurrogate", "(C)Z"⟩ : MethodName) jdk_89_method_14_code 1 (some .boolean)] ({ frames := 0, cells := 0, slots := 0, locals := 0 } : Room)) (fun a U => a = #[(.int p1)] ∧ Z.Warmed39 U.vm ∧ U.heap = h0) (fun _ _ _ _ _ => True) (fun _ U o U' => ∃ v L, o = .returned v ∧ (Q_rmHi Z p1 h0 n0) v U'.heap L ∧ FrameEnd U o U' L ({ frames := 0, cells := 0, slots := 0, locals := 0 } : Room).cells ({ frames := 0, cells := 0, slots := 0, locals := 0 } : Room).slots) := by
  refine MetFree.of_bodySF (plainFor_of_name pn_546ab84) hisR ?_
  intro p e s m args below meth c s₁ Bd hml0 hP hK
  obtain ⟨rfl, hZ, hh⟩ := hP
  have hx := Bd.exec
  have hby := Bd.bytes
  have hml : c.maxLocals = 1 := hml0
  have hown : s.vm.findClass "java/lang/Character" = some m.cls := findClass_of_methodNamed Bd.named
  have hnm := (name_of_methodNamed Bd.named Bd.method).1
  have X0 : Stand p l e ({ frames := 0, cells := 0, slots := 0, locals := 0 } : Room) s m #[(.int p1)] below meth c s₁ [] 0 0 := Stand.of_body Bd
  have e0 : s₁.heap = h0 := by rw [← hh, Bd.state]; rfl
  have N0 := Fr.nil n0
  have K0 : Keep h0 h0 [] := Keep.refl h0 []
  show Go p e below (s₁.setTop (entryFrame m #[(.int p1)] 1)) (EndN s (Q_rmHi Z p1 h0 n0) ({ frames := 0, cells := 0, slots := 0, locals := 0 } : Room).cells ({ frames := 0, cells := 0, slots := 0, locals := 0 } : Room).slots)
  refine Go.top (ef_39 m p1) ?_
  refine Go.st (T' := s₁.setTop (mkF m 1 #[.val (.int p1)] [(.int p1)])) (fun zt zk => XS.iloadN X0.here hx rfl (hb hby d39_0) rfl zk) ?_
  refine Go.st (T' := s₁.setTop (mkF m 3 #[.val (.int p1)] [(.int (55296 : Int32)), (.int p1)])) (fun zt zk => X0.ldcInt hx hown (mvT hZ (hw _ (List.mem_of_getElem? (i := 202) rfl))) (g := (mkF m 1 #[.val (.int p1)] [(.int p1)])) rfl (hb hby d39_1) zt zk) ?_
  by_cases ha : p1 < (55296 : Int32)
  ·
    refine Go.st (T' := s₁.setTop (mkF m 16 #[.val (.int p1)] [])) (fun zt zk => XS.icmpYes X0.here hx rfl (pc0 := 3) (pc' := 16) rfl (hb hby d39_3) rfl (tlt ha).1 (by decide) (by decide) zk) ?_
    refine Go.st (T' := s₁.setTop (mkF m 17 #[.val (.int p1)] [(.int (0 : Int32))])) (fun zt zk => XS.iconst X0.here hx rfl (hb hby d39_16) zk) ?_
    exact Go.done X0 Bd.notSynchronized (v := some (.int (nar .boolean (0 : Int32)))) (fun h => by rw [Bd.returns] at h; cases h) (fun fs hr => retN X0 hx (t := .boolean) Bd.returns (by simp) (hb hby d39_17) hr) (by rw [e0]; exact ⟨by rw [if_neg (fun q : own_H p1 => q.1 ha)]; rfl, N0, rfl⟩) (by decide) (by decide)
  ·
    refine Go.st (T' := s₁.setTop (mkF m 6 #[.val (.int p1)] [])) (fun zt zk => XS.icmpNo X0.here hx rfl (hb hby d39_3) rfl (flt ha).1 zk) ?_
    refine Go.st (T' := s₁.setTop (mkF m 7 #[.val (.int p1)] [(.int p1)])) (fun zt zk => XS.iloadN X0.here hx rfl (hb hby d39_6) rfl zk) ?_
    refine Go.st (T' := s₁.setTop (mkF m 9 #[.val (.int p1)] [(.int (56320 : Int32)), (.int p1)])) (fun zt zk => X0.ldcInt hx hown (mvT hZ (hw _ (List.mem_of_getElem? (i := 203) rfl))) (g := (mkF m 7 #[.val (.int p1)] [(.int p1)])) rfl (hb hby d39_7) zt zk) ?_
    by_cases hb2 : p1 < (56320 : Int32)
    ·
      refine Go.st (T' := s₁.setTop (mkF m 12 #[.val (.int p1)] [])) (fun zt zk => XS.icmpNo X0.here hx rfl (hb hby d39_9) rfl (tlt hb2).2.1 zk) ?_
      refine Go.st (T' := s₁.setTop (mkF m 13 #[.val (.int p1)] [(.int (1 : Int32))])) (fun zt zk => XS.iconst X0.here hx rfl (hb hby d39_12) zk) ?_
      refine Go.st (T' := s₁.setTop (mkF m 17 #[.val (.int p1)] [(.int (1 : Int32))])) (fun zt zk => XS.goto X0.here hx rfl (pc0 := 13) (pc' := 17) rfl (hb hby d39_13) (by decide) (by decide) zk) ?_
      exact Go.done X0 Bd.notSynchronized (v := some (.int (nar .boolean (1 : Int32)))) (fun h => by rw [Bd.returns] at h; cases h) (fun fs hr => retN X0 hx (t := .boolean) Bd.returns (by simp) (hb hby d39_17) hr) (by rw [e0]; exact ⟨by rw [if_pos (show own_H p1 from ⟨ha, hb2⟩)]; rfl, N0, rfl⟩) (by decide) (by decide)
    ·
      refine Go.st (T' := s₁.setTop (mkF m 16 #[.val (.int p1)] [])) (fun zt zk => XS.icmpYes X0.here hx rfl (pc0 := 9) (pc' := 16) rfl (hb hby d39_9) rfl (flt hb2).2.1 (by decide) (by decide) zk) ?_
      refine Go.st (T' := s₁.setTop (mkF m 17 #[.val (.int p1)] [(.int (0 : Int32))])) (fun zt zk => XS.iconst X0.here hx rfl (hb hby d39_16) zk) ?_
      exact Go.done X0 Bd.notSynchronized (v := some (.int (nar .boolean (0 : Int32)))) (fun h => by rw [Bd.returns] at h; cases h) (fun fs hr => retN X0 hx (t := .boolean) Bd.returns (by simp) (hb hby d39_17) hr) (by rw [e0]; exact ⟨by rw [if_neg (fun q : own_H p1 => hb2 q.2)]; rfl, N0, rfl⟩) (by decide) (by decide)
theorem d40_0 : decode jdk_89_method_15_code 0 = .ok (.iload_n 0, 1) := by decide +kernel
theorem d40_1 : decode jdk_89_method_15_code 1 = .ok (.ldc 76, 2) := by decide +kernel
theorem d40_3 : decode jdk_89_method_15_code 3 = .ok (.if_icmp .lt 13, 3) := by decide +kernel
theorem d40_6 : decode jdk_89_method_15_code 6 = .ok (.iload_n 0, 1) := by decide +kernel
theorem d40_7 : decode jdk_89_method_15_code 7 = .ok (.ldc 77, 2) := by decide +kernel
theorem d40_9 : decode jdk_89_method_15_code 9 = .ok (.if_icmp .ge 7, 3) := by decide +kernel
theorem d40_12 : decode jdk_89_method_15_code 12 = .ok (.iconst 1, 1) := by decide +kernel
theorem d40_13 : decode jdk_89_method_15_code 13 = .ok (.goto 4, 3) := by decide +kernel
theorem d40_16 : decode jdk_89_method_15_code 16 = .ok (.iconst 0, 1) := by decide +kernel
theorem d40_17 : decode jdk_89_method_15_code 17 = .ok (.ireturn, 1) := by decide +kernel
theorem ef_40 (m : MethodId) (x0 : Int32) : entryFrame m #[(.int x0)] 1 = mkF m 0 #[.val (.int x0)] [] := by first | (simp [entryFrame, mkF, argsToLocals, Value.category]; done) | rfl
def Q_rmLo (Z : State) (p1 : Int32) (h0 : Heap) (n0 : Nat) (v : Option Value) (h : Heap) (L : List Loc) : Prop := v = some (.int (if own_L p1 then (1 : Int32) else 0)) ∧ Fr n0 L ∧ h = h0
set_option maxRecDepth 65536 in
set_option maxHeartbeats 40000000 in
theorem rmLo (l : Launch) (Z : State) (a0 : Array Value) (hw : ∀ d ∈ tables_1, d.before a0 Z = true) (p1 : Int32) (h0 : Heap) (n0 : Nat) (Z0 : n0 ≤ h0.size)  :
    MetFree l (⟨"java/lang/Character", "isLowSurrogate", "(C)Z"⟩ : MethodName) (head1 [Jvm.Cond.code (⟨"java/lang/Character", "isLowSurrogate", "(C)Z"⟩ : MethodName) jdk_89_method_15_code 1 (some .boolean)] ({ frames := 0, cells := 0, slots := 0, locals := 0 } : Room)) (fun a U => a = #[(.int p1)] ∧ Z.Warmed39 U.vm ∧ U.heap = h0) (fun _ _ _ _ _ => True) (fun _ U o U' => ∃ v L, o = .returned v ∧ (Q_rmLo Z p1 h0 n0) v U'.heap L ∧ FrameEnd U o U' L ({ frames := 0, cells := 0, slots := 0, locals := 0 } : Room).cells ({ frames := 0, cells := 0, slots := 0, locals := 0 } : Room).slots) := by
  refine MetFree.of_bodySF (plainFor_of_name pn_546ab84) hisR ?_
  intro p e s m args below meth c s₁ Bd hml0 hP hK
  obtain ⟨rfl, hZ, hh⟩ := hP
  have hx := Bd.exec
  have hby := Bd.bytes
  have hml : c.maxLocals = 1 := hml0
  have hown : s.vm.findClass "java/lang/Character" = some m.cls := findClass_of_methodNamed Bd.named
  have hnm := (name_of_methodNamed Bd.named Bd.method).1
  have X0 : Stand p l e ({ frames := 0, cells := 0, slots := 0, locals := 0 } : Room) s m #[(.int p1)] below meth c s₁ [] 0 0 := Stand.of_body Bd
  have e0 : s₁.heap = h0 := by rw [← hh, Bd.state]; rfl
  have N0 := Fr.nil n0
  have K0 : Keep h0 h0 [] := Keep.refl h0 []
  show Go p e below (s₁.setTop (entryFrame m #[(.int p1)] 1)) (EndN s (Q_rmLo Z p1 h0 n0) ({ frames := 0, cells := 0, slots := 0, locals := 0 } : Room).cells ({ frames := 0, cells := 0, slots := 0, locals := 0 } : Room).slots)
  refine Go.top (ef_40 m p1) ?_
  refine Go.st (T' := s₁.setTop (mkF m 1 #[.val (.int p1)] [(.int p1)])) (fun zt zk => XS.iloadN X0.here hx rfl (hb hby d40_0) rfl zk) ?_
  refine Go.st (T' := s₁.setTop (mkF m 3 #[.val (.int p1)] [(.int (56320 : Int32)), (.int p1)])) (fun zt zk => X0.ldcInt hx hown (mvT hZ (hw _ (List.mem_of_getElem? (i := 203) rfl))) (g := (mkF m 1 #[.val (.int p1)] [(.int p1)])) rfl (hb hby d40_1) zt zk) ?_
  by_cases ha : p1 < (56320 : Int32)
  ·
    refine Go.st (T' := s₁.setTop (mkF m 16 #[.val (.int p1)] [])) (fun zt zk => XS.icmpYes X0.here hx rfl (pc0 := 3) (pc' := 16) rfl (hb hby d40_3) rfl (tlt ha).1 (by decide) (by decide) zk) ?_
    refine Go.st (T' := s₁.setTop (mkF m 17 #[.val (.int p1)] [(.int (0 : Int32))])) (fun zt zk => XS.iconst X0.here hx rfl (hb hby d40_16) zk) ?_
    exact Go.done X0 Bd.notSynchronized (v := some (.int (nar .boolean (0 : Int32)))) (fun h => by rw [Bd.returns] at h; cases h) (fun fs hr => retN X0 hx (t := .boolean) Bd.returns (by simp) (hb hby d40_17) hr) (by rw [e0]; exact ⟨by rw [if_neg (fun q : own_L p1 => q.1 ha)]; rfl, N0, rfl⟩) (by decide) (by decide)
  ·
    refine Go.st (T' := s₁.setTop (mkF m 6 #[.val (.int p1)] [])) (fun zt zk => XS.icmpNo X0.here hx rfl (hb hby d40_3) rfl (flt ha).1 zk) ?_
    refine Go.st (T' := s₁.setTop (mkF m 7 #[.val (.int p1)] [(.int p1)])) (fun zt zk => XS.iloadN X0.here hx rfl (hb hby d40_6) rfl zk) ?_
    refine Go.st (T' := s₁.setTop (mkF m 9 #[.val (.int p1)] [(.int (57344 : Int32)), (.int p1)])) (fun zt zk => X0.ldcInt hx hown (mvT hZ (hw _ (List.mem_of_getElem? (i := 207) rfl))) (g := (mkF m 7 #[.val (.int p1)] [(.int p1)])) rfl (hb hby d40_7) zt zk) ?_
    by_cases hb2 : p1 < (57344 : Int32)
    ·
      refine Go.st (T' := s₁.setTop (mkF m 12 #[.val (.int p1)] [])) (fun zt zk => XS.icmpNo X0.here hx rfl (hb hby d40_9) rfl (tlt hb2).2.1 zk) ?_
      refine Go.st (T' := s₁.setTop (mkF m 13 #[.val (.int p1)] [(.int (1 : Int32))])) (fun zt zk => XS.iconst X0.here hx rfl (hb hby d40_12) zk) ?_
      refine Go.st (T' := s₁.setTop (mkF m 17 #[.val (.int p1)] [(.int (1 : Int32))])) (fun zt zk => XS.goto X0.here hx rfl (pc0 := 13) (pc' := 17) rfl (hb hby d40_13) (by decide) (by decide) zk) ?_
      exact Go.done X0 Bd.notSynchronized (v := some (.int (nar .boolean (1 : Int32)))) (fun h => by rw [Bd.returns] at h; cases h) (fun fs hr => retN X0 hx (t := .boolean) Bd.returns (by simp) (hb hby d40_17) hr) (by rw [e0]; exact ⟨by rw [if_pos (show own_L p1 from ⟨ha, hb2⟩)]; rfl, N0, rfl⟩) (by decide) (by decide)
    ·
      refine Go.st (T' := s₁.setTop (mkF m 16 #[.val (.int p1)] [])) (fun zt zk => XS.icmpYes X0.here hx rfl (pc0 := 9) (pc' := 16) rfl (hb hby d40_9) rfl (flt hb2).2.1 (by decide) (by decide) zk) ?_
      refine Go.st (T' := s₁.setTop (mkF m 17 #[.val (.int p1)] [(.int (0 : Int32))])) (fun zt zk => XS.iconst X0.here hx rfl (hb hby d40_16) zk) ?_
      exact Go.done X0 Bd.notSynchronized (v := some (.int (nar .boolean (0 : Int32)))) (fun h => by rw [Bd.returns] at h; cases h) (fun fs hr => retN X0 hx (t := .boolean) Bd.returns (by simp) (hb hby d40_17) hr) (by rw [e0]; exact ⟨by rw [if_neg (fun q : own_L p1 => hb2 q.2)]; rfl, N0, rfl⟩) (by decide) (by decide)
theorem own_cq1 (cs : List Int32) {r : Nat} (h : r ≤ 1) : own_cq (fun i => cs.getD i 0) cs.length r = 0 := by
  have : r = 0 ∨ r = 1 := by omega
  rcases this with rfl | rfl
  · rfl
  · rw [own_cq_no (fun q => absurd q.2 (by show ¬ own_L (cs.getD (cs.length - 0) 0); rw [Nat.sub_zero, List.getD_eq_getElem?_getD, List.getElem?_eq_none (Nat.le_refl _)]; decide))]; rfl
theorem d38_0 : decode jdk_52_method_11_code 0 = .ok (.getstatic 44, 3) := by decide +kernel
theorem d38_3 : decode jdk_52_method_11_code 3 = .ok (.ifCond .ne 16, 3) := by decide +kernel
theorem d38_19 : decode jdk_52_method_11_code 19 = .ok (.iload_n 2, 1) := by decide +kernel
theorem d38_20 : decode jdk_52_method_11_code 20 = .ok (.iload_n 1, 1) := by decide +kernel
theorem d38_21 : decode jdk_52_method_11_code 21 = .ok (.isub, 1) := by decide +kernel
theorem d38_22 : decode jdk_52_method_11_code 22 = .ok (.istore 4, 2) := by decide +kernel
theorem d38_24 : decode jdk_52_method_11_code 24 = .ok (.iload_n 1, 1) := by decide +kernel
theorem d38_25 : decode jdk_52_method_11_code 25 = .ok (.istore 5, 2) := by decide +kernel
theorem d38_27 : decode jdk_52_method_11_code 27 = .ok (.iload_n 3, 1) := by decide +kernel
theorem d38_28 : decode jdk_52_method_11_code 28 = .ok (.ifCond .eq 16, 3) := by decide +kernel
theorem d38_44 : decode jdk_52_method_11_code 44 = .ok (.iload 5, 2) := by decide +kernel
theorem d38_46 : decode jdk_52_method_11_code 46 = .ok (.iload_n 2, 1) := by decide +kernel
theorem d38_47 : decode jdk_52_method_11_code 47 = .ok (.iconst 1, 1) := by decide +kernel
theorem d38_48 : decode jdk_52_method_11_code 48 = .ok (.isub, 1) := by decide +kernel
theorem d38_49 : decode jdk_52_method_11_code 49 = .ok (.if_icmp .ge 39, 3) := by decide +kernel
theorem d38_52 : decode jdk_52_method_11_code 52 = .ok (.aload_n 0, 1) := by decide +kernel
theorem d38_53 : decode jdk_52_method_11_code 53 = .ok (.iload 5, 2) := by decide +kernel
theorem d38_55 : decode jdk_52_method_11_code 55 = .ok (.iinc 5 1, 3) := by decide +kernel
theorem d38_58 : decode jdk_52_method_11_code 58 = .ok (.invokestatic 71, 3) := by decide +kernel
theorem d38_61 : decode jdk_52_method_11_code 61 = .ok (.invokestatic 75, 3) := by decide +kernel
theorem d38_64 : decode jdk_52_method_11_code 64 = .ok (.ifCond .eq (-20), 3) := by decide +kernel
theorem d38_67 : decode jdk_52_method_11_code 67 = .ok (.aload_n 0, 1) := by decide +kernel
theorem d38_68 : decode jdk_52_method_11_code 68 = .ok (.iload 5, 2) := by decide +kernel
theorem d38_70 : decode jdk_52_method_11_code 70 = .ok (.invokestatic 71, 3) := by decide +kernel
theorem d38_73 : decode jdk_52_method_11_code 73 = .ok (.invokestatic 81, 3) := by decide +kernel
theorem d38_76 : decode jdk_52_method_11_code 76 = .ok (.ifCond .eq (-32), 3) := by decide +kernel
theorem d38_79 : decode jdk_52_method_11_code 79 = .ok (.iinc 4 (-1), 3) := by decide +kernel
theorem d38_82 : decode jdk_52_method_11_code 82 = .ok (.iinc 5 1, 3) := by decide +kernel
theorem d38_85 : decode jdk_52_method_11_code 85 = .ok (.goto (-41), 3) := by decide +kernel
theorem d38_88 : decode jdk_52_method_11_code 88 = .ok (.iload 4, 2) := by decide +kernel
theorem d38_90 : decode jdk_52_method_11_code 90 = .ok (.ireturn, 1) := by decide +kernel
theorem pd_56dc0e8 : parseMethodDescriptor "(C)Z" = some ⟨[.char], some .boolean⟩ := by decide +kernel
theorem ef_38 (m : MethodId) (x0 : Addr) (x1 : Int32) (x2 : Int32) (x3 : Int32) : entryFrame m #[(.ref x0), (.int x1), (.int x2), (.int x3)] 6 = mkF m 0 #[.val (.ref x0), .val (.int x1), .val (.int x2), .val (.int x3), .unset, .unset] [] := by first | (simp [entryFrame, mkF, argsToLocals, Value.category]; done) | rfl
def Q_rmCP4 (Z : State) (t : Addr) (kt : ClassId) (cs : List Int32) (h0 : Heap) (n0 : Nat) (v : Option Value) (h : Heap) (L : List Loc) : Prop := v = some (.int (Int32.ofNat (cs.length - own_cq (fun i => cs.getD i 0) cs.length cs.length))) ∧ Fr n0 L ∧ h = h0
set_option maxRecDepth 65536 in
set_option maxHeartbeats 40000000 in
theorem rmCP4 (l : Launch) (Z : State) (a0 : Array Value) (hw : ∀ d ∈ tables_1, d.before a0 Z = true) (t : Addr) (kt : ClassId) (cs : List Int32) (h0 : Heap) (n0 : Nat) (Z0 : n0 ≤ h0.size) (X00 : Old Z n0 h0) (A1 : Sta Z Z.heap "java/lang/StringUTF16" "$assertionsDisabled" "Z" (.int (1 : Int32))) (A2 : Sta Z Z.heap "java/lang/StringUTF16" "HI_BYTE_SHIFT" "I" (.int (0 : Int32))) (A3 : Sta Z Z.heap "java/lang/StringUTF16" "LO_BYTE_SHIFT" "I" (.int (8 : Int32))) (Bt : Arv Z h0 t kt .byte (Int32.ofNat (2 * cs.length)) (own_p cs cs.length) (.int (0 : Int32))) (h1l : 1 ≤ cs.length) (hle : cs.length ≤ 4099) (hp : ∀ c ∈ cs, ¬ c < 0 ∧ ¬ (65535 : Int32) < c) :
    MetFree l (⟨"java/lang/StringUTF16", "codePointCount", "([BIIZ)I"⟩ : MethodName) (head1 [Jvm.Cond.code (⟨"java/lang/StringUTF16", "codePointCount", "([BIIZ)I"⟩ : MethodName) jdk_52_method_11_code 6 (some .int)] ({ frames := 1, cells := 0, slots := 0, locals := 13 } : Room)) (fun a U => a = #[(.ref t), (.int (0 : Int32)), (.int (Int32.ofNat cs.length)), (.int (0 : Int32))] ∧ Z.Warmed39 U.vm ∧ U.heap = h0) (fun _ _ _ _ _ => True) (fun _ U o U' => ∃ v L, o = .returned v ∧ (Q_rmCP4 Z t kt cs h0 n0) v U'.heap L ∧ FrameEnd U o U' L ({ frames := 1, cells := 0, slots := 0, locals := 13 } : Room).cells ({ frames := 1, cells := 0, slots := 0, locals := 13 } : Room).slots) := by
  refine MetFree.of_bodySF (plainFor_of_name pn_9f213eb) hisR ?_
  intro p e s m args below meth c s₁ Bd hml0 hP hK
  obtain ⟨rfl, hZ, hh⟩ := hP
  have hx := Bd.exec
  have hby := Bd.bytes
  have hml : c.maxLocals = 6 := hml0
  have hown : s.vm.findClass "java/lang/StringUTF16" = some m.cls := findClass_of_methodNamed Bd.named
  have hnm := (name_of_methodNamed Bd.named Bd.method).1
  have X0 : Stand p l e ({ frames := 1, cells := 0, slots := 0, locals := 13 } : Room) s m #[(.ref t), (.int (0 : Int32)), (.int (Int32.ofNat cs.length)), (.int (0 : Int32))] below meth c s₁ [] 0 0 := Stand.of_body Bd
  have e0 : s₁.heap = h0 := by rw [← hh, Bd.state]; rfl
  have N0 := Fr.nil n0
  have K0 : Keep h0 h0 [] := Keep.refl h0 []
  show Go p e below (s₁.setTop (entryFrame m #[(.ref t), (.int (0 : Int32)), (.int (Int32.ofNat cs.length)), (.int (0 : Int32))] 6)) (EndN s (Q_rmCP4 Z t kt cs h0 n0) ({ frames := 1, cells := 0, slots := 0, locals := 13 } : Room).cells ({ frames := 1, cells := 0, slots := 0, locals := 13 } : Room).slots)
  refine Go.top (ef_38 m t (0 : Int32) (Int32.ofNat cs.length) (0 : Int32)) ?_
  obtain ⟨T68, X68, e68, st68⟩ := getS (host := "") X0 hx hZ hown (hw _ (List.mem_of_getElem? (i := 169) rfl)) Via.refl e0 (A1.ext (X00.keep K0 all0).2) (g := (mkF m 0 #[.val (.ref t), .val (.int (0 : Int32)), .val (.int (Int32.ofNat cs.length)), .val (.int (0 : Int32)), .unset, .unset] [])) rfl (hb hby d38_0)
  refine Go.st (T' := T68.setTop (mkF m 3 #[.val (.ref t), .val (.int (0 : Int32)), .val (.int (Int32.ofNat cs.length)), .val (.int (0 : Int32)), .unset, .unset] [(.int (1 : Int32))])) (fun zt zk => st68 zt zk) ?_
  refine Go.st (T' := T68.setTop (mkF m 19 #[.val (.ref t), .val (.int (0 : Int32)), .val (.int (Int32.ofNat cs.length)), .val (.int (0 : Int32)), .unset, .unset] [])) (fun zt zk => XS.ifYes X68.here hx rfl (pc0 := 3) (pc' := 19) rfl (hb hby d38_3) rfl ((if0 _ _).trans (feq (by decide)).2) (by decide) (by decide) zk) ?_
  refine Go.st (T' := T68.setTop (mkF m 20 #[.val (.ref t), .val (.int (0 : Int32)), .val (.int (Int32.ofNat cs.length)), .val (.int (0 : Int32)), .unset, .unset] [(.int (Int32.ofNat cs.length))])) (fun zt zk => XS.iloadN X68.here hx rfl (hb hby d38_19) rfl zk) ?_
  refine Go.st (T' := T68.setTop (mkF m 21 #[.val (.ref t), .val (.int (0 : Int32)), .val (.int (Int32.ofNat cs.length)), .val (.int (0 : Int32)), .unset, .unset] [(.int (0 : Int32)), (.int (Int32.ofNat cs.length))])) (fun zt zk => XS.iloadN X68.here hx rfl (hb hby d38_20) rfl zk) ?_
  refine Go.st (T' := T68.setTop (mkF m 22 #[.val (.ref t), .val (.int (0 : Int32)), .val (.int (Int32.ofNat cs.length)), .val (.int (0 : Int32)), .unset, .unset] [(.int ((Int32.ofNat cs.length) - (0 : Int32)))])) (fun zt zk => XS.isub X68.here hx rfl (hb hby d38_21) rfl zk) ?_
  rw [own_sub0 (by omega)]
  refine Go.st (T' := T68.setTop (mkF m 24 #[.val (.ref t), .val (.int (0 : Int32)), .val (.int (Int32.ofNat cs.length)), .val (.int (0 : Int32)), .val (.int (Int32.ofNat cs.length)), .unset] [])) (fun zt zk => XS.istore X68.here hx rfl (hb hby d38_22) rfl (l' := #[.val (.ref t), .val (.int (0 : Int32)), .val (.int (Int32.ofNat cs.length)), .val (.int (0 : Int32)), .val (.int (Int32.ofNat cs.length)), .unset]) rfl zk) ?_
  refine Go.st (T' := T68.setTop (mkF m 25 #[.val (.ref t), .val (.int (0 : Int32)), .val (.int (Int32.ofNat cs.length)), .val (.int (0 : Int32)), .val (.int (Int32.ofNat cs.length)), .unset] [(.int (0 : Int32))])) (fun zt zk => XS.iloadN X68.here hx rfl (hb hby d38_24) rfl zk) ?_
  refine Go.st (T' := T68.setTop (mkF m 27 #[.val (.ref t), .val (.int (0 : Int32)), .val (.int (Int32.ofNat cs.length)), .val (.int (0 : Int32)), .val (.int (Int32.ofNat cs.length)), .val (.int (0 : Int32))] [])) (fun zt zk => XS.istore X68.here hx rfl (hb hby d38_25) rfl (l' := #[.val (.ref t), .val (.int (0 : Int32)), .val (.int (Int32.ofNat cs.length)), .val (.int (0 : Int32)), .val (.int (Int32.ofNat cs.length)), .val (.int (0 : Int32))]) rfl zk) ?_
  refine Go.st (T' := T68.setTop (mkF m 28 #[.val (.ref t), .val (.int (0 : Int32)), .val (.int (Int32.ofNat cs.length)), .val (.int (0 : Int32)), .val (.int (Int32.ofNat cs.length)), .val (.int (0 : Int32))] [(.int (0 : Int32))])) (fun zt zk => XS.iloadN X68.here hx rfl (hb hby d38_27) rfl zk) ?_
  refine Go.st (T' := T68.setTop (mkF m 44 #[.val (.ref t), .val (.int (0 : Int32)), .val (.int (Int32.ofNat cs.length)), .val (.int (0 : Int32)), .val (.int (Int32.ofNat cs.length)), .val (.int (0 : Int32))] [])) (fun zt zk => XS.ifYes X68.here hx rfl (pc0 := 28) (pc' := 44) rfl (hb hby d38_28) rfl ((if0 _ _).trans (teq rfl).1) (by decide) (by decide) zk) ?_
  suffices loop : ∀ (q r : Nat), r ≤ q → r ≤ cs.length → ∀ (cnt : Nat), cnt ≤ cs.length → own_cq (fun i => cs.getD i 0) cs.length r ≤ cnt → cnt - own_cq (fun i => cs.getD i 0) cs.length r = cs.length - own_cq (fun i => cs.getD i 0) cs.length cs.length → ∀ (TL : State) (LL : List Loc), Stand p l e ({ frames := 1, cells := 0, slots := 0, locals := 13 } : Room) s m #[(.ref t), (.int (0 : Int32)), (.int (Int32.ofNat cs.length)), (.int (0 : Int32))] below meth c TL LL 0 0 → TL.heap = h0 → Fr n0 LL → Go p e below (TL.setTop (mkF m 44 #[.val (.ref t), .val (.int (0 : Int32)), .val (.int (Int32.ofNat cs.length)), .val (.int (0 : Int32)), .val (.int (Int32.ofNat cnt)), .val (.int (Int32.ofNat (cs.length - r)))] [])) (EndN s (Q_rmCP4 Z t kt cs h0 n0) ({ frames := 1, cells := 0, slots := 0, locals := 13 } : Room).cells ({ frames := 1, cells := 0, slots := 0, locals := 13 } : Room).slots) by
    have := loop cs.length cs.length (Nat.le_refl _) (Nat.le_refl _) cs.length (Nat.le_refl _) (own_cq_le _ _ _) rfl T68 _ X68 e68 N0
    rw [Nat.sub_self] at this
    exact this
  intro q
  induction q with
  | zero =>
    intro r hrq hr cnt hcn hcq hE TL LL XL eL NL
    refine Go.st (T' := TL.setTop (mkF m 46 #[.val (.ref t), .val (.int (0 : Int32)), .val (.int (Int32.ofNat cs.length)), .val (.int (0 : Int32)), .val (.int (Int32.ofNat cnt)), .val (.int (Int32.ofNat (cs.length - r)))] [(.int (Int32.ofNat (cs.length - r)))])) (fun zt zk => XS.iload XL.here hx rfl (hb hby d38_44) rfl zk) ?_
    refine Go.st (T' := TL.setTop (mkF m 47 #[.val (.ref t), .val (.int (0 : Int32)), .val (.int (Int32.ofNat cs.length)), .val (.int (0 : Int32)), .val (.int (Int32.ofNat cnt)), .val (.int (Int32.ofNat (cs.length - r)))] [(.int (Int32.ofNat cs.length)), (.int (Int32.ofNat (cs.length - r)))])) (fun zt zk => XS.iloadN XL.here hx rfl (hb hby d38_46) rfl zk) ?_
    refine Go.st (T' := TL.setTop (mkF m 48 #[.val (.ref t), .val (.int (0 : Int32)), .val (.int (Int32.ofNat cs.length)), .val (.int (0 : Int32)), .val (.int (Int32.ofNat cnt)), .val (.int (Int32.ofNat (cs.length - r)))] [(.int (1 : Int32)), (.int (Int32.ofNat cs.length)), (.int (Int32.ofNat (cs.length - r)))])) (fun zt zk => XS.iconst XL.here hx rfl (hb hby d38_47) zk) ?_
    refine Go.st (T' := TL.setTop (mkF m 49 #[.val (.ref t), .val (.int (0 : Int32)), .val (.int (Int32.ofNat cs.length)), .val (.int (0 : Int32)), .val (.int (Int32.ofNat cnt)), .val (.int (Int32.ofNat (cs.length - r)))] [(.int ((Int32.ofNat cs.length) - (1 : Int32))), (.int (Int32.ofNat (cs.length - r)))])) (fun zt zk => XS.isub XL.here hx rfl (hb hby d38_48) rfl zk) ?_
    rw [own_sub1 h1l (by omega)]
    refine Go.st (T' := TL.setTop (mkF m 88 #[.val (.ref t), .val (.int (0 : Int32)), .val (.int (Int32.ofNat cs.length)), .val (.int (0 : Int32)), .val (.int (Int32.ofNat cnt)), .val (.int (Int32.ofNat (cs.length - r)))] [])) (fun zt zk => XS.icmpYes XL.here hx rfl (pc0 := 49) (pc' := 88) rfl (hb hby d38_49) rfl (flt (fun q => absurd ((own_lt32 (by omega) (by omega)).mp q) (by omega))).2.1 (by decide) (by decide) zk) ?_
    refine Go.st (T' := TL.setTop (mkF m 90 #[.val (.ref t), .val (.int (0 : Int32)), .val (.int (Int32.ofNat cs.length)), .val (.int (0 : Int32)), .val (.int (Int32.ofNat cnt)), .val (.int (Int32.ofNat (cs.length - r)))] [(.int (Int32.ofNat cnt))])) (fun zt zk => XS.iload XL.here hx rfl (hb hby d38_88) rfl zk) ?_
    exact Go.done XL Bd.notSynchronized (v := some (.int (Int32.ofNat cnt))) (fun h => by rw [Bd.returns] at h; cases h) (fun fs hr => retI XL hx Bd.returns (hb hby d38_90) hr) (by rw [eL]; exact ⟨by rw [← hE, own_cq1 cs (by omega), Nat.sub_zero], NL, rfl⟩) (by decide) (by decide)
  | succ q ih =>
    intro r hrq hr cnt hcn hcq hE TL LL XL eL NL
    by_cases hr1 : r ≤ 1
    ·
      refine Go.st (T' := TL.setTop (mkF m 46 #[.val (.ref t), .val (.int (0 : Int32)), .val (.int (Int32.ofNat cs.length)), .val (.int (0 : Int32)), .val (.int (Int32.ofNat cnt)), .val (.int (Int32.ofNat (cs.length - r)))] [(.int (Int32.ofNat (cs.length - r)))])) (fun zt zk => XS.iload XL.here hx rfl (hb hby d38_44) rfl zk) ?_
      refine Go.st (T' := TL.setTop (mkF m 47 #[.val (.ref t), .val (.int (0 : Int32)), .val (.int (Int32.ofNat cs.length)), .val (.int (0 : Int32)), .val (.int (Int32.ofNat cnt)), .val (.int (Int32.ofNat (cs.length - r)))] [(.int (Int32.ofNat cs.length)), (.int (Int32.ofNat (cs.length - r)))])) (fun zt zk => XS.iloadN XL.here hx rfl (hb hby d38_46) rfl zk) ?_
      refine Go.st (T' := TL.setTop (mkF m 48 #[.val (.ref t), .val (.int (0 : Int32)), .val (.int (Int32.ofNat cs.length)), .val (.int (0 : Int32)), .val (.int (Int32.ofNat cnt)), .val (.int (Int32.ofNat (cs.length - r)))] [(.int (1 : Int32)), (.int (Int32.ofNat cs.length)), (.int (Int32.ofNat (cs.length - r)))])) (fun zt zk => XS.iconst XL.here hx rfl (hb hby d38_47) zk) ?_
      refine Go.st (T' := TL.setTop (mkF m 49 #[.val (.ref t), .val (.int (0 : Int32)), .val (.int (Int32.ofNat cs.length)), .val (.int (0 : Int32)), .val (.int (Int32.ofNat cnt)), .val (.int (Int32.ofNat (cs.length - r)))] [(.int ((Int32.ofNat cs.length) - (1 : Int32))), (.int (Int32.ofNat (cs.length - r)))])) (fun zt zk => XS.isub XL.here hx rfl (hb hby d38_48) rfl zk) ?_
      rw [own_sub1 h1l (by omega)]
      refine Go.st (T' := TL.setTop (mkF m 88 #[.val (.ref t), .val (.int (0 : Int32)), .val (.int (Int32.ofNat cs.length)), .val (.int (0 : Int32)), .val (.int (Int32.ofNat cnt)), .val (.int (Int32.ofNat (cs.length - r)))] [])) (fun zt zk => XS.icmpYes XL.here hx rfl (pc0 := 49) (pc' := 88) rfl (hb hby d38_49) rfl (flt (fun q => absurd ((own_lt32 (by omega) (by omega)).mp q) (by omega))).2.1 (by decide) (by decide) zk) ?_
      refine Go.st (T' := TL.setTop (mkF m 90 #[.val (.ref t), .val (.int (0 : Int32)), .val (.int (Int32.ofNat cs.length)), .val (.int (0 : Int32)), .val (.int (Int32.ofNat cnt)), .val (.int (Int32.ofNat (cs.length - r)))] [(.int (Int32.ofNat cnt))])) (fun zt zk => XS.iload XL.here hx rfl (hb hby d38_88) rfl zk) ?_
      exact Go.done XL Bd.notSynchronized (v := some (.int (Int32.ofNat cnt))) (fun h => by rw [Bd.returns] at h; cases h) (fun fs hr => retI XL hx Bd.returns (hb hby d38_90) hr) (by rw [eL]; exact ⟨by rw [← hE, own_cq1 cs (by omega), Nat.sub_zero], NL, rfl⟩) (by decide) (by decide)
    ·
      obtain ⟨k, rfl⟩ : ∃ k, r = k + 2 := ⟨r - 2, by omega⟩
      refine Go.st (T' := TL.setTop (mkF m 46 #[.val (.ref t), .val (.int (0 : Int32)), .val (.int (Int32.ofNat cs.length)), .val (.int (0 : Int32)), .val (.int (Int32.ofNat cnt)), .val (.int (Int32.ofNat (cs.length - (k + 2))))] [(.int (Int32.ofNat (cs.length - (k + 2))))])) (fun zt zk => XS.iload XL.here hx rfl (hb hby d38_44) rfl zk) ?_
      refine Go.st (T' := TL.setTop (mkF m 47 #[.val (.ref t), .val (.int (0 : Int32)), .val (.int (Int32.ofNat cs.length)), .val (.int (0 : Int32)), .val (.int (Int32.ofNat cnt)), .val (.int (Int32.ofNat (cs.length - (k + 2))))] [(.int (Int32.ofNat cs.length)), (.int (Int32.ofNat (cs.length - (k + 2))))])) (fun zt zk => XS.iloadN XL.here hx rfl (hb hby d38_46) rfl zk) ?_
      refine Go.st (T' := TL.setTop (mkF m 48 #[.val (.ref t), .val (.int (0 : Int32)), .val (.int (Int32.ofNat cs.length)), .val (.int (0 : Int32)), .val (.int (Int32.ofNat cnt)), .val (.int (Int32.ofNat (cs.length - (k + 2))))] [(.int (1 : Int32)), (.int (Int32.ofNat cs.length)), (.int (Int32.ofNat (cs.length - (k + 2))))])) (fun zt zk => XS.iconst XL.here hx rfl (hb hby d38_47) zk) ?_
      refine Go.st (T' := TL.setTop (mkF m 49 #[.val (.ref t), .val (.int (0 : Int32)), .val (.int (Int32.ofNat cs.length)), .val (.int (0 : Int32)), .val (.int (Int32.ofNat cnt)), .val (.int (Int32.ofNat (cs.length - (k + 2))))] [(.int ((Int32.ofNat cs.length) - (1 : Int32))), (.int (Int32.ofNat (cs.length - (k + 2))))])) (fun zt zk => XS.isub XL.here hx rfl (hb hby d38_48) rfl zk) ?_
      rw [own_sub1 h1l (by omega)]
      refine Go.st (T' := TL.setTop (mkF m 52 #[.val (.ref t), .val (.int (0 : Int32)), .val (.int (Int32.ofNat cs.length)), .val (.int (0 : Int32)), .val (.int (Int32.ofNat cnt)), .val (.int (Int32.ofNat (cs.length - (k + 2))))] [])) (fun zt zk => XS.icmpNo XL.here hx rfl (hb hby d38_49) rfl (tlt ((own_lt32 (by omega) (by omega)).mpr (by omega))).2.1 zk) ?_
      refine Go.st (T' := TL.setTop (mkF m 53 #[.val (.ref t), .val (.int (0 : Int32)), .val (.int (Int32.ofNat cs.length)), .val (.int (0 : Int32)), .val (.int (Int32.ofNat cnt)), .val (.int (Int32.ofNat (cs.length - (k + 2))))] [(.ref t)])) (fun zt zk => XS.aloadN XL.here hx rfl (hb hby d38_52) rfl rfl zk) ?_
      refine Go.st (T' := TL.setTop (mkF m 55 #[.val (.ref t), .val (.int (0 : Int32)), .val (.int (Int32.ofNat cs.length)), .val (.int (0 : Int32)), .val (.int (Int32.ofNat cnt)), .val (.int (Int32.ofNat (cs.length - (k + 2))))] [(.int (Int32.ofNat (cs.length - (k + 2)))), (.ref t)])) (fun zt zk => XS.iload XL.here hx rfl (hb hby d38_53) rfl zk) ?_
      refine Go.st (T' := TL.setTop (mkF m 58 #[.val (.ref t), .val (.int (0 : Int32)), .val (.int (Int32.ofNat cs.length)), .val (.int (0 : Int32)), .val (.int (Int32.ofNat cnt)), .val (.int ((Int32.ofNat (cs.length - (k + 2))) + (1 : Int32)))] [(.int (Int32.ofNat (cs.length - (k + 2)))), (.ref t)])) (fun zt zk => XS.iinc XL.here hx rfl (hb hby d38_55) rfl (l' := #[.val (.ref t), .val (.int (0 : Int32)), .val (.int (Int32.ofNat cs.length)), .val (.int (0 : Int32)), .val (.int (Int32.ofNat cnt)), .val (.int ((Int32.ofNat (cs.length - (k + 2))) + (1 : Int32)))]) rfl zk) ?_
      rw [own_addn (k := (1 : Int32)) (b := 1) rfl (by omega), show cs.length - (k + 2) + 1 = cs.length - (k + 1) by omega]
      obtain ⟨vr69, _, ⟨T69, L69, k69, n69⟩, -, X69, ⟨Lc69, hQ69, l69, y69, z69⟩, st69⟩ := Jvm.LawKit.callS XL hx (y := (⟨"java/lang/StringUTF16", "getChar", "([BI)C"⟩ : MethodName)) hown (mvT hZ (hw _ (List.mem_of_getElem? (i := 172) rfl))) (mvT hZ (hw _ (List.mem_of_getElem? (i := 173) rfl))) (mvT hZ (hw _ (List.mem_of_getElem? (i := 20) rfl))) (mvT hZ (hw _ (List.mem_of_getElem? (i := 174) rfl))) (by decide) (backOf (W := 0) (rmGC l Z a0 hw t kt cs (cs.length - (k + 2)) h0 n0 Z0 X00 A1 A2 A3 Bt (by omega) hle hp) hZ (hw _ (List.mem_of_getElem? (i := 174) rfl)) (hw _ (List.mem_of_getElem? (i := 20) rfl)) (by decide) (by decide)) (g := (mkF m 58 #[.val (.ref t), .val (.int (0 : Int32)), .val (.int (Int32.ofNat cs.length)), .val (.int (0 : Int32)), .val (.int (Int32.ofNat cnt)), .val (.int (Int32.ofNat (cs.length - (k + 1))))] [(.int (Int32.ofNat (cs.length - (k + 2)))), (.ref t)])) rfl (by rw [hml]; rfl) (argsL := [(.ref t), (.int (Int32.ofNat (cs.length - (k + 2))))]) (rest := []) (lenOf pd_2f6cd88 rfl) rfl (by show 2 * 0 + _ ≤ _; exact Nat.le_of_eq rfl) (hb hby d38_58) (fun _ _ => ⟨rfl, eL, (by decide : 0 + 0 ≤ _), (by decide : 0 + 0 ≤ _)⟩)
      dsimp only [Pt.U, Pt.locs, Pt.cells, Pt.slots] at X69 l69 y69 z69 st69 hQ69
      subst l69 y69 z69
      obtain ⟨rfl, Nq69, eq69⟩ := hQ69
      have NN70 := Fr.app NL Nq69
      refine Go.st (T' := T69.setTop (mkF m 61 #[.val (.ref t), .val (.int (0 : Int32)), .val (.int (Int32.ofNat cs.length)), .val (.int (0 : Int32)), .val (.int (Int32.ofNat cnt)), .val (.int (Int32.ofNat (cs.length - (k + 1))))] [(.int (cs.getD (cs.length - (k + 2)) 0))])) (fun zt zk => st69 zt zk) ?_
      obtain ⟨vr71, _, ⟨T71, L71, k71, n71⟩, -, X71, ⟨Lc71, hQ71, l71, y71, z71⟩, st71⟩ := Jvm.LawKit.callS X69 hx (y := (⟨"java/lang/Character", "isHighSurrogate", "(C)Z"⟩ : MethodName)) hown (mvT hZ (hw _ (List.mem_of_getElem? (i := 198) rfl))) (mvT hZ (hw _ (List.mem_of_getElem? (i := 199) rfl))) (mvT hZ (hw _ (List.mem_of_getElem? (i := 200) rfl))) (mvT hZ (hw _ (List.mem_of_getElem? (i := 201) rfl))) (by decide) (backOf (W := 0) (rmHi l Z a0 hw (cs.getD (cs.length - (k + 2)) 0) h0 n0 Z0) hZ (hw _ (List.mem_of_getElem? (i := 201) rfl)) (hw _ (List.mem_of_getElem? (i := 200) rfl)) (by decide) (by decide)) (g := (mkF m 61 #[.val (.ref t), .val (.int (0 : Int32)), .val (.int (Int32.ofNat cs.length)), .val (.int (0 : Int32)), .val (.int (Int32.ofNat cnt)), .val (.int (Int32.ofNat (cs.length - (k + 1))))] [(.int (cs.getD (cs.length - (k + 2)) 0))])) rfl (by rw [hml]; rfl) (argsL := [(.int (cs.getD (cs.length - (k + 2)) 0))]) (rest := []) (lenOf pd_56dc0e8 rfl) rfl (by show 2 * 0 + _ ≤ _; exact Nat.le_of_eq rfl) (hb hby d38_61) (fun _ _ => ⟨rfl, eq69, (by decide : 0 + 0 ≤ _), (by decide : 0 + 0 ≤ _)⟩)
      dsimp only [Pt.U, Pt.locs, Pt.cells, Pt.slots] at X71 l71 y71 z71 st71 hQ71
      subst l71 y71 z71
      obtain ⟨rfl, Nq71, eq71⟩ := hQ71
      have NN72 := Fr.app NN70 Nq71
      refine Go.st (T' := T71.setTop (mkF m 64 #[.val (.ref t), .val (.int (0 : Int32)), .val (.int (Int32.ofNat cs.length)), .val (.int (0 : Int32)), .val (.int (Int32.ofNat cnt)), .val (.int (Int32.ofNat (cs.length - (k + 1))))] [(.int (if own_H (cs.getD (cs.length - (k + 2)) 0) then (1 : Int32) else 0))])) (fun zt zk => st71 zt zk) ?_
      by_cases hH : own_H (cs.getD (cs.length - (k + 2)) 0)
      ·
        rw [if_pos hH]
        refine Go.st (T' := T71.setTop (mkF m 67 #[.val (.ref t), .val (.int (0 : Int32)), .val (.int (Int32.ofNat cs.length)), .val (.int (0 : Int32)), .val (.int (Int32.ofNat cnt)), .val (.int (Int32.ofNat (cs.length - (k + 1))))] [])) (fun zt zk => XS.ifNo X71.here hx rfl (hb hby d38_64) rfl ((if0 _ _).trans (feq (by decide)).1) zk) ?_
        refine Go.st (T' := T71.setTop (mkF m 68 #[.val (.ref t), .val (.int (0 : Int32)), .val (.int (Int32.ofNat cs.length)), .val (.int (0 : Int32)), .val (.int (Int32.ofNat cnt)), .val (.int (Int32.ofNat (cs.length - (k + 1))))] [(.ref t)])) (fun zt zk => XS.aloadN X71.here hx rfl (hb hby d38_67) rfl rfl zk) ?_
        refine Go.st (T' := T71.setTop (mkF m 70 #[.val (.ref t), .val (.int (0 : Int32)), .val (.int (Int32.ofNat cs.length)), .val (.int (0 : Int32)), .val (.int (Int32.ofNat cnt)), .val (.int (Int32.ofNat (cs.length - (k + 1))))] [(.int (Int32.ofNat (cs.length - (k + 1)))), (.ref t)])) (fun zt zk => XS.iload X71.here hx rfl (hb hby d38_68) rfl zk) ?_
        obtain ⟨vr73, _, ⟨T73, L73, k73, n73⟩, -, X73, ⟨Lc73, hQ73, l73, y73, z73⟩, st73⟩ := Jvm.LawKit.callS X71 hx (y := (⟨"java/lang/StringUTF16", "getChar", "([BI)C"⟩ : MethodName)) hown (mvT hZ (hw _ (List.mem_of_getElem? (i := 172) rfl))) (mvT hZ (hw _ (List.mem_of_getElem? (i := 173) rfl))) (mvT hZ (hw _ (List.mem_of_getElem? (i := 20) rfl))) (mvT hZ (hw _ (List.mem_of_getElem? (i := 174) rfl))) (by decide) (backOf (W := 0) (rmGC l Z a0 hw t kt cs (cs.length - (k + 1)) h0 n0 Z0 X00 A1 A2 A3 Bt (by omega) hle hp) hZ (hw _ (List.mem_of_getElem? (i := 174) rfl)) (hw _ (List.mem_of_getElem? (i := 20) rfl)) (by decide) (by decide)) (g := (mkF m 70 #[.val (.ref t), .val (.int (0 : Int32)), .val (.int (Int32.ofNat cs.length)), .val (.int (0 : Int32)), .val (.int (Int32.ofNat cnt)), .val (.int (Int32.ofNat (cs.length - (k + 1))))] [(.int (Int32.ofNat (cs.length - (k + 1)))), (.ref t)])) rfl (by rw [hml]; rfl) (argsL := [(.ref t), (.int (Int32.ofNat (cs.length - (k + 1))))]) (rest := []) (lenOf pd_2f6cd88 rfl) rfl (by show 2 * 0 + _ ≤ _; exact Nat.le_of_eq rfl) (hb hby d38_70) (fun _ _ => ⟨rfl, eq71, (by decide : 0 + 0 ≤ _), (by decide : 0 + 0 ≤ _)⟩)
        dsimp only [Pt.U, Pt.locs, Pt.cells, Pt.slots] at X73 l73 y73 z73 st73 hQ73
        subst l73 y73 z73
        obtain ⟨rfl, Nq73, eq73⟩ := hQ73
        have NN74 := Fr.app NN72 Nq73
        refine Go.st (T' := T73.setTop (mkF m 73 #[.val (.ref t), .val (.int (0 : Int32)), .val (.int (Int32.ofNat cs.length)), .val (.int (0 : Int32)), .val (.int (Int32.ofNat cnt)), .val (.int (Int32.ofNat (cs.length - (k + 1))))] [(.int (cs.getD (cs.length - (k + 1)) 0))])) (fun zt zk => st73 zt zk) ?_
        obtain ⟨vr75, _, ⟨T75, L75, k75, n75⟩, -, X75, ⟨Lc75, hQ75, l75, y75, z75⟩, st75⟩ := Jvm.LawKit.callS X73 hx (y := (⟨"java/lang/Character", "isLowSurrogate", "(C)Z"⟩ : MethodName)) hown (mvT hZ (hw _ (List.mem_of_getElem? (i := 204) rfl))) (mvT hZ (hw _ (List.mem_of_getElem? (i := 205) rfl))) (mvT hZ (hw _ (List.mem_of_getElem? (i := 200) rfl))) (mvT hZ (hw _ (List.mem_of_getElem? (i := 206) rfl))) (by decide) (backOf (W := 0) (rmLo l Z a0 hw (cs.getD (cs.length - (k + 1)) 0) h0 n0 Z0) hZ (hw _ (List.mem_of_getElem? (i := 206) rfl)) (hw _ (List.mem_of_getElem? (i := 200) rfl)) (by decide) (by decide)) (g := (mkF m 73 #[.val (.ref t), .val (.int (0 : Int32)), .val (.int (Int32.ofNat cs.length)), .val (.int (0 : Int32)), .val (.int (Int32.ofNat cnt)), .val (.int (Int32.ofNat (cs.length - (k + 1))))] [(.int (cs.getD (cs.length - (k + 1)) 0))])) rfl (by rw [hml]; rfl) (argsL := [(.int (cs.getD (cs.length - (k + 1)) 0))]) (rest := []) (lenOf pd_56dc0e8 rfl) rfl (by show 2 * 0 + _ ≤ _; exact Nat.le_of_eq rfl) (hb hby d38_73) (fun _ _ => ⟨rfl, eq73, (by decide : 0 + 0 ≤ _), (by decide : 0 + 0 ≤ _)⟩)
        dsimp only [Pt.U, Pt.locs, Pt.cells, Pt.slots] at X75 l75 y75 z75 st75 hQ75
        subst l75 y75 z75
        obtain ⟨rfl, Nq75, eq75⟩ := hQ75
        have NN76 := Fr.app NN74 Nq75
        refine Go.st (T' := T75.setTop (mkF m 76 #[.val (.ref t), .val (.int (0 : Int32)), .val (.int (Int32.ofNat cs.length)), .val (.int (0 : Int32)), .val (.int (Int32.ofNat cnt)), .val (.int (Int32.ofNat (cs.length - (k + 1))))] [(.int (if own_L (cs.getD (cs.length - (k + 1)) 0) then (1 : Int32) else 0))])) (fun zt zk => st75 zt zk) ?_
        by_cases hL : own_L (cs.getD (cs.length - (k + 1)) 0)
        ·
          rw [if_pos hL]
          refine Go.st (T' := T75.setTop (mkF m 79 #[.val (.ref t), .val (.int (0 : Int32)), .val (.int (Int32.ofNat cs.length)), .val (.int (0 : Int32)), .val (.int (Int32.ofNat cnt)), .val (.int (Int32.ofNat (cs.length - (k + 1))))] [])) (fun zt zk => XS.ifNo X75.here hx rfl (hb hby d38_76) rfl ((if0 _ _).trans (feq (by decide)).1) zk) ?_
          have q1 := own_cq_yes (f := (fun i => cs.getD i 0)) (n := cs.length) (r := k + 1) ⟨hH, hL⟩
          have q2 := own_cq_no (f := (fun i => cs.getD i 0)) (n := cs.length) (r := k) (fun q => own_HL hL q.1)
          rw [q1, q2] at hcq hE
          refine Go.st (T' := T75.setTop (mkF m 82 #[.val (.ref t), .val (.int (0 : Int32)), .val (.int (Int32.ofNat cs.length)), .val (.int (0 : Int32)), .val (.int ((Int32.ofNat cnt) + (-1 : Int32))), .val (.int (Int32.ofNat (cs.length - (k + 1))))] [])) (fun zt zk => XS.iinc X75.here hx rfl (hb hby d38_79) rfl (l' := #[.val (.ref t), .val (.int (0 : Int32)), .val (.int (Int32.ofNat cs.length)), .val (.int (0 : Int32)), .val (.int ((Int32.ofNat cnt) + (-1 : Int32))), .val (.int (Int32.ofNat (cs.length - (k + 1))))]) rfl zk) ?_
          refine Go.st (T' := T75.setTop (mkF m 85 #[.val (.ref t), .val (.int (0 : Int32)), .val (.int (Int32.ofNat cs.length)), .val (.int (0 : Int32)), .val (.int ((Int32.ofNat cnt) + (-1 : Int32))), .val (.int ((Int32.ofNat (cs.length - (k + 1))) + (1 : Int32)))] [])) (fun zt zk => XS.iinc X75.here hx rfl (hb hby d38_82) rfl (l' := #[.val (.ref t), .val (.int (0 : Int32)), .val (.int (Int32.ofNat cs.length)), .val (.int (0 : Int32)), .val (.int ((Int32.ofNat cnt) + (-1 : Int32))), .val (.int ((Int32.ofNat (cs.length - (k + 1))) + (1 : Int32)))]) rfl zk) ?_
          rw [own_dec (by omega) (by omega), own_addn (k := (1 : Int32)) (b := 1) rfl (by omega), show cs.length - (k + 1) + 1 = cs.length - k by omega]
          refine Go.st (T' := T75.setTop (mkF m 44 #[.val (.ref t), .val (.int (0 : Int32)), .val (.int (Int32.ofNat cs.length)), .val (.int (0 : Int32)), .val (.int (Int32.ofNat (cnt - 1))), .val (.int (Int32.ofNat (cs.length - k)))] [])) (fun zt zk => XS.goto X75.here hx rfl (pc0 := 85) (pc' := 44) rfl (hb hby d38_85) (by decide) (by decide) zk) ?_
          exact ih k (by omega) (by omega) (cnt - 1) (by omega) (by omega) (by omega) _ _ X75 eq75 NN76
        ·
          rw [if_neg hL]
          refine Go.st (T' := T75.setTop (mkF m 44 #[.val (.ref t), .val (.int (0 : Int32)), .val (.int (Int32.ofNat cs.length)), .val (.int (0 : Int32)), .val (.int (Int32.ofNat cnt)), .val (.int (Int32.ofNat (cs.length - (k + 1))))] [])) (fun zt zk => XS.ifYes X75.here hx rfl (pc0 := 76) (pc' := 44) rfl (hb hby d38_76) rfl ((if0 _ _).trans (teq rfl).1) (by decide) (by decide) zk) ?_
          have q1 := own_cq_no (f := (fun i => cs.getD i 0)) (n := cs.length) (r := k + 1) (fun q => hL q.2)
          rw [q1] at hcq hE
          exact ih (k + 1) (by omega) (by omega) cnt hcn hcq hE _ _ X75 eq75 NN76
      ·
        rw [if_neg hH]
        refine Go.st (T' := T71.setTop (mkF m 44 #[.val (.ref t), .val (.int (0 : Int32)), .val (.int (Int32.ofNat cs.length)), .val (.int (0 : Int32)), .val (.int (Int32.ofNat cnt)), .val (.int (Int32.ofNat (cs.length - (k + 1))))] [])) (fun zt zk => XS.ifYes X71.here hx rfl (pc0 := 64) (pc' := 44) rfl (hb hby d38_64) rfl ((if0 _ _).trans (teq rfl).1) (by decide) (by decide) zk) ?_
        have q1 := own_cq_no (f := (fun i => cs.getD i 0)) (n := cs.length) (r := k + 1) (fun q => hH q.1)
        rw [q1] at hcq hE
        exact ih (k + 1) (by omega) (by omega) cnt hcn hcq hE _ _ X71 eq71 NN72
theorem d37_0 : decode jdk_52_method_12_code 0 = .ok (.aload_n 0, 1) := by decide +kernel
theorem d37_1 : decode jdk_52_method_12_code 1 = .ok (.iload_n 1, 1) := by decide +kernel
theorem d37_2 : decode jdk_52_method_12_code 2 = .ok (.iload_n 2, 1) := by decide +kernel
theorem d37_3 : decode jdk_52_method_12_code 3 = .ok (.iconst 0, 1) := by decide +kernel
theorem d37_4 : decode jdk_52_method_12_code 4 = .ok (.invokestatic 100, 3) := by decide +kernel
theorem d37_7 : decode jdk_52_method_12_code 7 = .ok (.ireturn, 1) := by decide +kernel
theorem pd_6c7a03b : parseMethodDescriptor "([BIIZ)I" = some ⟨[(.array .byte), .int, .int, .boolean], some .int⟩ := by decide +kernel
theorem ef_37 (m : MethodId) (x0 : Addr) (x1 : Int32) (x2 : Int32) : entryFrame m #[(.ref x0), (.int x1), (.int x2)] 3 = mkF m 0 #[.val (.ref x0), .val (.int x1), .val (.int x2)] [] := by first | (simp [entryFrame, mkF, argsToLocals, Value.category]; done) | rfl
def Q_rmCP3 (Z : State) (t : Addr) (kt : ClassId) (cs : List Int32) (h0 : Heap) (n0 : Nat) (v : Option Value) (h : Heap) (L : List Loc) : Prop := v = some (.int (Int32.ofNat (cs.length - own_cq (fun i => cs.getD i 0) cs.length cs.length))) ∧ Fr n0 L ∧ h = h0
set_option maxRecDepth 65536 in
set_option maxHeartbeats 40000000 in
theorem rmCP3 (l : Launch) (Z : State) (a0 : Array Value) (hw : ∀ d ∈ tables_1, d.before a0 Z = true) (t : Addr) (kt : ClassId) (cs : List Int32) (h0 : Heap) (n0 : Nat) (Z0 : n0 ≤ h0.size) (X00 : Old Z n0 h0) (A1 : Sta Z Z.heap "java/lang/StringUTF16" "$assertionsDisabled" "Z" (.int (1 : Int32))) (A2 : Sta Z Z.heap "java/lang/StringUTF16" "HI_BYTE_SHIFT" "I" (.int (0 : Int32))) (A3 : Sta Z Z.heap "java/lang/StringUTF16" "LO_BYTE_SHIFT" "I" (.int (8 : Int32))) (Bt : Arv Z h0 t kt .byte (Int32.ofNat (2 * cs.length)) (own_p cs cs.length) (.int (0 : Int32))) (h1l : 1 ≤ cs.length) (hle : cs.length ≤ 4099) (hp : ∀ c ∈ cs, ¬ c < 0 ∧ ¬ (65535 : Int32) < c) :
    MetFree l (⟨"java/lang/StringUTF16", "codePointCount", "([BII)I"⟩ : MethodName) (head1 [Jvm.Cond.code (⟨"java/lang/StringUTF16", "codePointCount", "([BII)I"⟩ : MethodName) jdk_52_method_12_code 3 (some .int)] ({ frames := 2, cells := 0, slots := 0, locals := 30 } : Room)) (fun a U => a = #[(.ref t), (.int (0 : Int32)), (.int (Int32.ofNat cs.length))] ∧ Z.Warmed39 U.vm ∧ U.heap = h0) (fun _ _ _ _ _ => True) (fun _ U o U' => ∃ v L, o = .returned v ∧ (Q_rmCP3 Z t kt cs h0 n0) v U'.heap L ∧ FrameEnd U o U' L ({ frames := 2, cells := 0, slots := 0, locals := 30 } : Room).cells ({ frames := 2, cells := 0, slots := 0, locals := 30 } : Room).slots) := by
  refine MetFree.of_bodySF (plainFor_of_name pn_9f213eb) hisR ?_
  intro p e s m args below meth c s₁ Bd hml0 hP hK
  obtain ⟨rfl, hZ, hh⟩ := hP
  have hx := Bd.exec
  have hby := Bd.bytes
  have hml : c.maxLocals = 3 := hml0
  have hown : s.vm.findClass "java/lang/StringUTF16" = some m.cls := findClass_of_methodNamed Bd.named
  have hnm := (name_of_methodNamed Bd.named Bd.method).1
  have X0 : Stand p l e ({ frames := 2, cells := 0, slots := 0, locals := 30 } : Room) s m #[(.ref t), (.int (0 : Int32)), (.int (Int32.ofNat cs.length))] below meth c s₁ [] 0 0 := Stand.of_body Bd
  have e0 : s₁.heap = h0 := by rw [← hh, Bd.state]; rfl
  have N0 := Fr.nil n0
  have K0 : Keep h0 h0 [] := Keep.refl h0 []
  show Go p e below (s₁.setTop (entryFrame m #[(.ref t), (.int (0 : Int32)), (.int (Int32.ofNat cs.length))] 3)) (EndN s (Q_rmCP3 Z t kt cs h0 n0) ({ frames := 2, cells := 0, slots := 0, locals := 30 } : Room).cells ({ frames := 2, cells := 0, slots := 0, locals := 30 } : Room).slots)
  refine Go.top (ef_37 m t (0 : Int32) (Int32.ofNat cs.length)) ?_
  refine Go.st (T' := s₁.setTop (mkF m 1 #[.val (.ref t), .val (.int (0 : Int32)), .val (.int (Int32.ofNat cs.length))] [(.ref t)])) (fun zt zk => XS.aloadN X0.here hx rfl (hb hby d37_0) rfl rfl zk) ?_
  refine Go.st (T' := s₁.setTop (mkF m 2 #[.val (.ref t), .val (.int (0 : Int32)), .val (.int (Int32.ofNat cs.length))] [(.int (0 : Int32)), (.ref t)])) (fun zt zk => XS.iloadN X0.here hx rfl (hb hby d37_1) rfl zk) ?_
  refine Go.st (T' := s₁.setTop (mkF m 3 #[.val (.ref t), .val (.int (0 : Int32)), .val (.int (Int32.ofNat cs.length))] [(.int (Int32.ofNat cs.length)), (.int (0 : Int32)), (.ref t)])) (fun zt zk => XS.iloadN X0.here hx rfl (hb hby d37_2) rfl zk) ?_
  refine Go.st (T' := s₁.setTop (mkF m 4 #[.val (.ref t), .val (.int (0 : Int32)), .val (.int (Int32.ofNat cs.length))] [(.int (0 : Int32)), (.int (Int32.ofNat cs.length)), (.int (0 : Int32)), (.ref t)])) (fun zt zk => XS.iconst X0.here hx rfl (hb hby d37_3) zk) ?_
  obtain ⟨vr77, _, ⟨T77, L77, k77, n77⟩, -, X77, ⟨Lc77, hQ77, l77, y77, z77⟩, st77⟩ := Jvm.LawKit.callS X0 hx (y := (⟨"java/lang/StringUTF16", "codePointCount", "([BIIZ)I"⟩ : MethodName)) hown (mvT hZ (hw _ (List.mem_of_getElem? (i := 195) rfl))) (mvT hZ (hw _ (List.mem_of_getElem? (i := 196) rfl))) (mvT hZ (hw _ (List.mem_of_getElem? (i := 20) rfl))) (mvT hZ (hw _ (List.mem_of_getElem? (i := 197) rfl))) (by decide) (backOf (W := 0) (rmCP4 l Z a0 hw t kt cs h0 n0 Z0 X00 A1 A2 A3 Bt h1l hle hp) hZ (hw _ (List.mem_of_getElem? (i := 197) rfl)) (hw _ (List.mem_of_getElem? (i := 20) rfl)) (by decide) (by decide)) (g := (mkF m 4 #[.val (.ref t), .val (.int (0 : Int32)), .val (.int (Int32.ofNat cs.length))] [(.int (0 : Int32)), (.int (Int32.ofNat cs.length)), (.int (0 : Int32)), (.ref t)])) rfl (by rw [hml]; rfl) (argsL := [(.ref t), (.int (0 : Int32)), (.int (Int32.ofNat cs.length)), (.int (0 : Int32))]) (rest := []) (lenOf pd_6c7a03b rfl) rfl (by show 2 * 0 + _ ≤ _; exact Nat.le_of_eq rfl) (hb hby d37_4) (fun _ _ => ⟨rfl, e0, (by decide : 0 + 0 ≤ _), (by decide : 0 + 0 ≤ _)⟩)
  dsimp only [Pt.U, Pt.locs, Pt.cells, Pt.slots] at X77 l77 y77 z77 st77 hQ77
  subst l77 y77 z77
  obtain ⟨rfl, Nq77, eq77⟩ := hQ77
  have NN78 := Fr.app N0 Nq77
  refine Go.st (T' := T77.setTop (mkF m 7 #[.val (.ref t), .val (.int (0 : Int32)), .val (.int (Int32.ofNat cs.length))] [(.int (Int32.ofNat (cs.length - own_cq (fun i => cs.getD i 0) cs.length cs.length)))])) (fun zt zk => st77 zt zk) ?_
  exact Go.done X77 Bd.notSynchronized (v := some (.int (Int32.ofNat (cs.length - own_cq (fun i => cs.getD i 0) cs.length cs.length)))) (fun h => by rw [Bd.returns] at h; cases h) (fun fs hr => retI X77 hx Bd.returns (hb hby d37_7) hr) (by rw [eq77]; exact ⟨rfl, NN78, rfl⟩) (by decide) (by decide)
theorem d33_0 : decode jdk_42_method_59_code 0 = .ok (.iload_n 1, 1) := by decide +kernel
theorem d33_1 : decode jdk_42_method_59_code 1 = .ok (.iload_n 2, 1) := by decide +kernel
theorem d33_2 : decode jdk_42_method_59_code 2 = .ok (.aload_n 0, 1) := by decide +kernel
theorem d33_3 : decode jdk_42_method_59_code 3 = .ok (.invokevirtual 505, 3) := by decide +kernel
theorem d33_6 : decode jdk_42_method_59_code 6 = .ok (.invokestatic 511, 3) := by decide +kernel
theorem d33_9 : decode jdk_42_method_59_code 9 = .ok (.pop, 1) := by decide +kernel
theorem d33_10 : decode jdk_42_method_59_code 10 = .ok (.aload_n 0, 1) := by decide +kernel
theorem d33_11 : decode jdk_42_method_59_code 11 = .ok (.invokevirtual 492, 3) := by decide +kernel
theorem d33_14 : decode jdk_42_method_59_code 14 = .ok (.ifCond .eq 7, 3) := by decide +kernel
theorem d33_21 : decode jdk_42_method_59_code 21 = .ok (.aload_n 0, 1) := by decide +kernel
theorem d33_22 : decode jdk_42_method_59_code 22 = .ok (.getfield 9, 3) := by decide +kernel
theorem d33_25 : decode jdk_42_method_59_code 25 = .ok (.iload_n 1, 1) := by decide +kernel
theorem d33_26 : decode jdk_42_method_59_code 26 = .ok (.iload_n 2, 1) := by decide +kernel
theorem d33_27 : decode jdk_42_method_59_code 27 = .ok (.invokestatic 514, 3) := by decide +kernel
theorem d33_30 : decode jdk_42_method_59_code 30 = .ok (.ireturn, 1) := by decide +kernel
theorem pd_a8eac : parseMethodDescriptor "()I" = some ⟨[], some .int⟩ := by decide +kernel
theorem pd_7f01b19 : parseMethodDescriptor "(III)I" = some ⟨[.int, .int, .int], some .int⟩ := by decide +kernel
theorem pd_a8ebd : parseMethodDescriptor "()Z" = some ⟨[], some .boolean⟩ := by decide +kernel
theorem pd_45380b3 : parseMethodDescriptor "([BII)I" = some ⟨[(.array .byte), .int, .int], some .int⟩ := by decide +kernel
theorem ef_33 (m : MethodId) (x0 : Addr) (x1 : Int32) (x2 : Int32) : entryFrame m #[(.ref x0), (.int x1), (.int x2)] 3 = mkF m 0 #[.val (.ref x0), .val (.int x1), .val (.int x2)] [] := by first | (simp [entryFrame, mkF, argsToLocals, Value.category]; done) | rfl
def Q_rmCPC (Z : State) (x t : Addr) (cs : List Int32) (h0 : Heap) (n0 : Nat) (v : Option Value) (h : Heap) (L : List Loc) : Prop := v = some (.int (Int32.ofNat (cs.length - own_cq (fun i => cs.getD i 0) cs.length cs.length))) ∧ Fr n0 L ∧ h = h0
set_option maxRecDepth 65536 in
set_option maxHeartbeats 40000000 in
theorem rmCPC (l : Launch) (Z : State) (a0 : Array Value) (hw : ∀ d ∈ tables_1, d.before a0 Z = true) (x t : Addr) (cs : List Int32) (h0 : Heap) (n0 : Nat) (Z0 : n0 ≤ h0.size) (G1 : Int32) (O2 : Sta Z Z.heap "java/lang/String" "COMPACT_STRINGS" "Z" (.int G1)) (P5 : ¬ (G1 = (0 : Int32))) (X00 : Old Z n0 h0) (A1 : Sta Z Z.heap "java/lang/StringUTF16" "$assertionsDisabled" "Z" (.int (1 : Int32))) (A2 : Sta Z Z.heap "java/lang/StringUTF16" "HI_BYTE_SHIFT" "I" (.int (0 : Int32))) (A3 : Sta Z Z.heap "java/lang/StringUTF16" "LO_BYTE_SHIFT" "I" (.int (8 : Int32))) (Sx : own_St Z h0 x t cs) (h1l : 1 ≤ cs.length) (hle : cs.length ≤ 4099) (hbig : ∃ i, i < cs.length ∧ (255 : Int32) < cs.getD i 0) (hp : ∀ c ∈ cs, ¬ c < 0 ∧ ¬ (65535 : Int32) < c) :
    MetFree l (⟨"java/lang/String", "codePointCount", "(II)I"⟩ : MethodName) (head1 [Jvm.Cond.code (⟨"java/lang/String", "codePointCount", "(II)I"⟩ : MethodName) jdk_42_method_59_code 3 (some .int)] ({ frames := 3, cells := 0, slots := 0, locals := 44 } : Room)) (fun a U => a = #[(.ref x), (.int (0 : Int32)), (.int (Int32.ofNat cs.length))] ∧ Z.Warmed39 U.vm ∧ U.heap = h0) (fun _ _ _ _ _ => True) (fun _ U o U' => ∃ v L, o = .returned v ∧ (Q_rmCPC Z x t cs h0 n0) v U'.heap L ∧ FrameEnd U o U' L ({ frames := 3, cells := 0, slots := 0, locals := 44 } : Room).cells ({ frames := 3, cells := 0, slots := 0, locals := 44 } : Room).slots) := by
  refine MetFree.of_bodySF (plainFor_of_name pn_397d88e) hisR ?_
  intro p e s m args below meth c s₁ Bd hml0 hP hK
  obtain ⟨rfl, hZ, hh⟩ := hP
  have hx := Bd.exec
  have hby := Bd.bytes
  have hml : c.maxLocals = 3 := hml0
  have hown : s.vm.findClass "java/lang/String" = some m.cls := findClass_of_methodNamed Bd.named
  have hnm := (name_of_methodNamed Bd.named Bd.method).1
  have X0 : Stand p l e ({ frames := 3, cells := 0, slots := 0, locals := 44 } : Room) s m #[(.ref x), (.int (0 : Int32)), (.int (Int32.ofNat cs.length))] below meth c s₁ [] 0 0 := Stand.of_body Bd
  have e0 : s₁.heap = h0 := by rw [← hh, Bd.state]; rfl
  have N0 := Fr.nil n0
  have K0 : Keep h0 h0 [] := Keep.refl h0 []
  show Go p e below (s₁.setTop (entryFrame m #[(.ref x), (.int (0 : Int32)), (.int (Int32.ofNat cs.length))] 3)) (EndN s (Q_rmCPC Z x t cs h0 n0) ({ frames := 3, cells := 0, slots := 0, locals := 44 } : Room).cells ({ frames := 3, cells := 0, slots := 0, locals := 44 } : Room).slots)
  refine Go.top (ef_33 m x (0 : Int32) (Int32.ofNat cs.length)) ?_
  obtain ⟨Ex, kt, zz, vs, cd, Fc, Fv, Bt, Rx⟩ := id Sx
  obtain ⟨rfl, rfl, rfl⟩ := Rx.resolve_left (fun q => hbig.elim fun i hi => q.2.2 i hi.1 hi.2)
  refine Go.st (T' := s₁.setTop (mkF m 1 #[.val (.ref x), .val (.int (0 : Int32)), .val (.int (Int32.ofNat cs.length))] [(.int (0 : Int32))])) (fun zt zk => XS.iloadN X0.here hx rfl (hb hby d33_0) rfl zk) ?_
  refine Go.st (T' := s₁.setTop (mkF m 2 #[.val (.ref x), .val (.int (0 : Int32)), .val (.int (Int32.ofNat cs.length))] [(.int (Int32.ofNat cs.length)), (.int (0 : Int32))])) (fun zt zk => XS.iloadN X0.here hx rfl (hb hby d33_1) rfl zk) ?_
  refine Go.st (T' := s₁.setTop (mkF m 3 #[.val (.ref x), .val (.int (0 : Int32)), .val (.int (Int32.ofNat cs.length))] [(.ref x), (.int (Int32.ofNat cs.length)), (.int (0 : Int32))])) (fun zt zk => XS.aloadN X0.here hx rfl (hb hby d33_2) rfl rfl zk) ?_
  obtain ⟨cq79, kq79, q79a, q79b, q79c⟩ := isOf hZ e0 Ex
  obtain ⟨vr79, _, ⟨T79, L79, k79, n79⟩, -, X79, ⟨Lc79, hQ79, l79, y79, z79⟩, st79⟩ := X0.virtualBack hx (y := (⟨"java/lang/String", "length", "()I"⟩ : MethodName)) (z := (⟨"java/lang/String", "length", "()I"⟩ : MethodName)) hown (mvT hZ (hw _ (List.mem_of_getElem? (i := 180) rfl))) (mvT hZ (hw _ (List.mem_of_getElem? (i := 147) rfl))) (notFace_of_selects (args := #[]) (mvT hZ (hw _ (List.mem_of_getElem? (i := 149) rfl)))) (mvT hZ (hw _ (List.mem_of_getElem? (i := 149) rfl))) (mvT hZ (hw _ (List.mem_of_getElem? (i := 148) rfl))) (by decide) (backOf (W := 2) (rmLen l Z a0 hw x t cs h0 n0 Z0 G1 O2 P5 X00 Sx h1l hle) hZ (hw _ (List.mem_of_getElem? (i := 150) rfl)) (hw _ (List.mem_of_getElem? (i := 6) rfl)) (by decide) (by decide)) q79a q79c (g := (mkF m 3 #[.val (.ref x), .val (.int (0 : Int32)), .val (.int (Int32.ofNat cs.length))] [(.ref x), (.int (Int32.ofNat cs.length)), (.int (0 : Int32))])) rfl (by rw [hml]; rfl) (Steps.refl _) (argsL := []) (rest := [(.int (Int32.ofNat cs.length)), (.int (0 : Int32))]) (lenOf pd_a8eac rfl) rfl (by show 2 * 0 + _ ≤ _; exact Nat.le_of_eq rfl) (hb hby d33_3) (fun _ _ => ⟨rfl, e0, (by decide : 0 + 0 ≤ _), (by decide : 0 + 0 ≤ _)⟩)
  dsimp only [Pt.U, Pt.locs, Pt.cells, Pt.slots] at X79 l79 y79 z79 st79 hQ79
  subst l79 y79 z79
  obtain ⟨rfl, Nq79, eq79⟩ := hQ79
  have NN80 := Fr.app N0 Nq79
  refine Go.st (T' := T79.setTop (mkF m 6 #[.val (.ref x), .val (.int (0 : Int32)), .val (.int (Int32.ofNat cs.length))] [(.int (Int32.ofNat cs.length)), (.int (Int32.ofNat cs.length)), (.int (0 : Int32))])) (fun zt zk => st79.trans zk) ?_
  obtain ⟨vr81, _, ⟨T81, L81, k81, n81⟩, -, X81, ⟨Lc81, hQ81, l81, y81, z81⟩, st81⟩ := Jvm.LawKit.callS X79 hx (y := (⟨"java/util/Objects", "checkFromToIndex", "(III)I"⟩ : MethodName)) hown (mvT hZ (hw _ (List.mem_of_getElem? (i := 181) rfl))) (mvT hZ (hw _ (List.mem_of_getElem? (i := 182) rfl))) (mvT hZ (hw _ (List.mem_of_getElem? (i := 129) rfl))) (mvT hZ (hw _ (List.mem_of_getElem? (i := 183) rfl))) (by decide) (backOf (W := 0) (rmOFT l Z a0 hw cs.length h0 n0 Z0 hle) hZ (hw _ (List.mem_of_getElem? (i := 183) rfl)) (hw _ (List.mem_of_getElem? (i := 129) rfl)) (by decide) (by decide)) (g := (mkF m 6 #[.val (.ref x), .val (.int (0 : Int32)), .val (.int (Int32.ofNat cs.length))] [(.int (Int32.ofNat cs.length)), (.int (Int32.ofNat cs.length)), (.int (0 : Int32))])) rfl (by rw [hml]; rfl) (argsL := [(.int (0 : Int32)), (.int (Int32.ofNat cs.length)), (.int (Int32.ofNat cs.length))]) (rest := []) (lenOf pd_7f01b19 rfl) rfl (by show 2 * 0 + _ ≤ _; exact Nat.le_of_eq rfl) (hb hby d33_6) (fun _ _ => ⟨rfl, eq79, (by decide : 0 + 0 ≤ _), (by decide : 0 + 0 ≤ _)⟩)
  dsimp only [Pt.U, Pt.locs, Pt.cells, Pt.slots] at X81 l81 y81 z81 st81 hQ81
  subst l81 y81 z81
  obtain ⟨rfl, Nq81, eq81⟩ := hQ81
  have NN82 := Fr.app NN80 Nq81
  refine Go.st (T' := T81.setTop (mkF m 9 #[.val (.ref x), .val (.int (0 : Int32)), .val (.int (Int32.ofNat cs.length))] [(.int (0 : Int32))])) (fun zt zk => st81 zt zk) ?_
  refine Go.st (T' := T81.setTop (mkF m 10 #[.val (.ref x), .val (.int (0 : Int32)), .val (.int (Int32.ofNat cs.length))] [])) (fun zt zk => XS.pop X81.here hx rfl (hb hby d33_9) rfl rfl zk) ?_
  refine Go.st (T' := T81.setTop (mkF m 11 #[.val (.ref x), .val (.int (0 : Int32)), .val (.int (Int32.ofNat cs.length))] [(.ref x)])) (fun zt zk => XS.aloadN X81.here hx rfl (hb hby d33_10) rfl rfl zk) ?_
  obtain ⟨cq83, kq83, q83a, q83b, q83c⟩ := isOf hZ eq81 Ex
  obtain ⟨vr83, _, ⟨T83, L83, k83, n83⟩, -, X83, ⟨Lc83, hQ83, l83, y83, z83⟩, st83⟩ := X81.virtualBack hx (y := (⟨"java/lang/String", "isLatin1", "()Z"⟩ : MethodName)) (z := (⟨"java/lang/String", "isLatin1", "()Z"⟩ : MethodName)) hown (mvT hZ (hw _ (List.mem_of_getElem? (i := 187) rfl))) (mvT hZ (hw _ (List.mem_of_getElem? (i := 188) rfl))) (notFace_of_selects (args := #[]) (mvT hZ (hw _ (List.mem_of_getElem? (i := 190) rfl)))) (mvT hZ (hw _ (List.mem_of_getElem? (i := 190) rfl))) (mvT hZ (hw _ (List.mem_of_getElem? (i := 189) rfl))) (by decide) (backOf (W := 0) (rmIL l Z a0 hw x h0 n0 Z0 G1 O2 P5 X00 Fc) hZ (hw _ (List.mem_of_getElem? (i := 191) rfl)) (hw _ (List.mem_of_getElem? (i := 6) rfl)) (by decide) (by decide)) q83a q83c (g := (mkF m 11 #[.val (.ref x), .val (.int (0 : Int32)), .val (.int (Int32.ofNat cs.length))] [(.ref x)])) rfl (by rw [hml]; rfl) (Steps.refl _) (argsL := []) (rest := []) (lenOf pd_a8ebd rfl) rfl (by show 2 * 0 + _ ≤ _; exact Nat.le_of_eq rfl) (hb hby d33_11) (fun _ _ => ⟨rfl, eq81, (by decide : 0 + 0 ≤ _), (by decide : 0 + 0 ≤ _)⟩)
  dsimp only [Pt.U, Pt.locs, Pt.cells, Pt.slots] at X83 l83 y83 z83 st83 hQ83
  subst l83 y83 z83
  obtain ⟨rfl, Nq83, eq83⟩ := hQ83
  have NN84 := Fr.app NN82 Nq83
  refine Go.st (T' := T83.setTop (mkF m 14 #[.val (.ref x), .val (.int (0 : Int32)), .val (.int (Int32.ofNat cs.length))] [(.int (0 : Int32))])) (fun zt zk => st83.trans zk) ?_
  refine Go.st (T' := T83.setTop (mkF m 21 #[.val (.ref x), .val (.int (0 : Int32)), .val (.int (Int32.ofNat cs.length))] [])) (fun zt zk => XS.ifYes X83.here hx rfl (pc0 := 14) (pc' := 21) rfl (hb hby d33_14) rfl ((if0 _ _).trans (teq rfl).1) (by decide) (by decide) zk) ?_
  refine Go.st (T' := T83.setTop (mkF m 22 #[.val (.ref x), .val (.int (0 : Int32)), .val (.int (Int32.ofNat cs.length))] [(.ref x)])) (fun zt zk => XS.aloadN X83.here hx rfl (hb hby d33_21) rfl rfl zk) ?_
  obtain ⟨T85, X85, e85, st85⟩ := getF X83 hx hZ hown (host := "") (Or.inl (hw _ (List.mem_of_getElem? (i := 31) rfl))) Via.refl eq83 Fv (g := (mkF m 22 #[.val (.ref x), .val (.int (0 : Int32)), .val (.int (Int32.ofNat cs.length))] [(.ref x)])) rfl rfl (hb hby d33_22)
  refine Go.st (T' := T85.setTop (mkF m 25 #[.val (.ref x), .val (.int (0 : Int32)), .val (.int (Int32.ofNat cs.length))] [(.ref t)])) (fun zt zk => st85 zt zk) ?_
  refine Go.st (T' := T85.setTop (mkF m 26 #[.val (.ref x), .val (.int (0 : Int32)), .val (.int (Int32.ofNat cs.length))] [(.int (0 : Int32)), (.ref t)])) (fun zt zk => XS.iloadN X85.here hx rfl (hb hby d33_25) rfl zk) ?_
  refine Go.st (T' := T85.setTop (mkF m 27 #[.val (.ref x), .val (.int (0 : Int32)), .val (.int (Int32.ofNat cs.length))] [(.int (Int32.ofNat cs.length)), (.int (0 : Int32)), (.ref t)])) (fun zt zk => XS.iloadN X85.here hx rfl (hb hby d33_26) rfl zk) ?_
  obtain ⟨vr86, _, ⟨T86, L86, k86, n86⟩, -, X86, ⟨Lc86, hQ86, l86, y86, z86⟩, st86⟩ := Jvm.LawKit.callS X85 hx (y := (⟨"java/lang/StringUTF16", "codePointCount", "([BII)I"⟩ : MethodName)) hown (mvT hZ (hw _ (List.mem_of_getElem? (i := 192) rfl))) (mvT hZ (hw _ (List.mem_of_getElem? (i := 193) rfl))) (mvT hZ (hw _ (List.mem_of_getElem? (i := 20) rfl))) (mvT hZ (hw _ (List.mem_of_getElem? (i := 194) rfl))) (by decide) (backOf (W := 0) (rmCP3 l Z a0 hw t kt cs h0 n0 Z0 X00 A1 A2 A3 Bt h1l hle hp) hZ (hw _ (List.mem_of_getElem? (i := 194) rfl)) (hw _ (List.mem_of_getElem? (i := 20) rfl)) (by decide) (by decide)) (g := (mkF m 27 #[.val (.ref x), .val (.int (0 : Int32)), .val (.int (Int32.ofNat cs.length))] [(.int (Int32.ofNat cs.length)), (.int (0 : Int32)), (.ref t)])) rfl (by rw [hml]; rfl) (argsL := [(.ref t), (.int (0 : Int32)), (.int (Int32.ofNat cs.length))]) (rest := []) (lenOf pd_45380b3 rfl) rfl (by show 2 * 0 + _ ≤ _; exact Nat.le_of_eq rfl) (hb hby d33_27) (fun _ _ => ⟨rfl, e85, (by decide : 0 + 0 ≤ _), (by decide : 0 + 0 ≤ _)⟩)
  dsimp only [Pt.U, Pt.locs, Pt.cells, Pt.slots] at X86 l86 y86 z86 st86 hQ86
  subst l86 y86 z86
  obtain ⟨rfl, Nq86, eq86⟩ := hQ86
  have NN87 := Fr.app NN84 Nq86
  refine Go.st (T' := T86.setTop (mkF m 30 #[.val (.ref x), .val (.int (0 : Int32)), .val (.int (Int32.ofNat cs.length))] [(.int (Int32.ofNat (cs.length - own_cq (fun i => cs.getD i 0) cs.length cs.length)))])) (fun zt zk => st86 zt zk) ?_
  exact Go.done X86 Bd.notSynchronized (v := some (.int (Int32.ofNat (cs.length - own_cq (fun i => cs.getD i 0) cs.length cs.length)))) (fun h => by rw [Bd.returns] at h; cases h) (fun fs hr => retI X86 hx Bd.returns (hb hby d33_30) hr) (by rw [eq86]; exact ⟨rfl, NN87, rfl⟩) (by decide) (by decide)
/-- the empty array that a new ArrayList begins with -/
def own_D (Z : State) (h : Heap) (a : Addr) : Prop := ∃ cl : Cell, Arr Z h a cl (.object "java/lang/Object") ∧ cl.slots.size.toInt32 = (0 : Int32)
theorem own_D.ext {Z : State} {h h' : Heap} {a : Addr} (H : own_D Z h a) (E : Ext h h') : own_D Z h' a := by
  obtain ⟨c, x, y⟩ := H
  exact ⟨c, Arr.ext E x, y⟩
theorem own_D.other {Z : State} {h h' : Heap} {a b : Addr} {sl : Nat} {v : Value} (H : own_D Z h a) (W : Wr h h' b sl v) (q : a ≠ b) : own_D Z h' a := by
  obtain ⟨c, x, y⟩ := H
  exact ⟨c, Arr.other W x q, y⟩
theorem own_D.keep {Z : State} {h h' : Heap} {a : Addr} {ws : List Addr} (H : own_D Z h a) (K : Keep h h' ws) (q : a ∉ ws) : own_D Z h' a := by
  obtain ⟨c, x, y⟩ := H
  exact ⟨c, ⟨K.2.1 a c x.1 q, x.2⟩, y⟩
theorem own_D.lt {Z : State} {h : Heap} {a : Addr} (H : own_D Z h a) : a < h.size := by
  obtain ⟨c, x, -⟩ := H
  exact x.lt
/-- the ArrayList at a1, whose array lies at ed, holds ys (one at the least) -/
def own_AL (Z : State) (h : Heap) (a1 ed : Addr) (ke : ClassId) (ys : List Addr) : Prop := Exa Z h a1 "java/util/ArrayList" ∧ (∃ mc, Fld Z h a1 "java/util/AbstractList" "modCount" "I" (.int mc)) ∧ Fld Z h a1 "java/util/ArrayList" "size" "I" (.int (Int32.ofNat ys.length)) ∧ Fld Z h a1 "java/util/ArrayList" "elementData" "[Ljava/lang/Object;" (.ref ed) ∧ Arv Z h ed ke (.object "java/lang/Object") (10 : Int32) (ys.map Value.ref) .null ∧ Ovr Z ke "java/lang/Object"
theorem own_AL.ext {Z : State} {h h' : Heap} {a1 ed : Addr} {ke : ClassId} {ys : List Addr} (H : own_AL Z h a1 ed ke ys) (E : Ext h h') : own_AL Z h' a1 ed ke ys := by
  obtain ⟨a, ⟨mc, b⟩, c, d, f, g⟩ := H
  exact ⟨a.ext E, ⟨mc, b.ext E⟩, c.ext E, d.ext E, f.ext E, g⟩
theorem own_AL.keep {Z : State} {h h' : Heap} {a1 ed : Addr} {ke : ClassId} {ys : List Addr} {ws : List Addr} (H : own_AL Z h a1 ed ke ys) (K : Keep h h' ws) (hx : a1 ∉ ws) (ht : ed ∉ ws) : own_AL Z h' a1 ed ke ys := by
  obtain ⟨a, ⟨mc, b⟩, c, d, f, g⟩ := H
  exact ⟨a.keep K, ⟨mc, b.keep K hx⟩, c.keep K hx, d.keep K hx, f.keep K ht, g⟩
theorem own_AL.lt1 {Z : State} {h : Heap} {a1 ed : Addr} {ke : ClassId} {ys : List Addr} (H : own_AL Z h a1 ed ke ys) : a1 < h.size := H.1.lt
theorem own_AL.lt2 {Z : State} {h : Heap} {a1 ed : Addr} {ke : ClassId} {ys : List Addr} (H : own_AL Z h a1 ed ke ys) : ed < h.size := H.2.2.2.2.1.lt
theorem own_pd (ys : List Addr) (x : Addr) (h : ys.length < 10) : ∀ i, ((ys ++ [x]).map Value.ref).getD i Value.null = ((ys.map Value.ref ++ List.replicate (10 - ys.length) Value.null).set ys.length (Value.ref x)).getD i Value.null := fun i => by
  simp only [List.getD_eq_getElem?_getD, List.getElem?_set, List.length_append, List.length_map, List.length_replicate, List.map_append, List.map_cons, List.map_nil]
  by_cases h1 : ys.length = i
  · subst h1
    rw [if_pos rfl, if_pos (by omega), List.getElem?_append_right (by rw [List.length_map]; exact Nat.le_refl _), List.length_map, Nat.sub_self]
    rfl
  · rw [if_neg h1]
    by_cases h2 : i < ys.length
    · rw [List.getElem?_append_left (by rw [List.length_map]; exact h2), List.getElem?_append_left (by rw [List.length_map]; exact h2)]
    · rw [List.getElem?_append_right (by rw [List.length_map]; omega), List.getElem?_append_right (by rw [List.length_map]; omega), List.length_map, List.getElem?_replicate, List.getElem?_eq_none (l := [Value.ref x]) (by show 1 ≤ _; omega)]
      split <;> rfl
theorem own_gr (ys : List Addr) {i : Nat} (h : i < ys.length) (hy : ys.length ≤ 3) : (ys.map Value.ref).getD (Int32.ofNat i).toNatClampNeg .null = .ref (ys.getD i 0) := by
  rw [own_clamp (by omega), List.getD_eq_getElem?_getD, List.getD_eq_getElem?_getD, List.getElem?_map, List.getElem?_eq_getElem h]; rfl
theorem d9_0 : decode jdk_22_method_1_code 0 = .ok (.aload_n 0, 1) := by decide +kernel
theorem d9_1 : decode jdk_22_method_1_code 1 = .ok (.invokespecial 1, 3) := by decide +kernel
theorem d9_4 : decode jdk_22_method_1_code 4 = .ok (.return_, 1) := by decide +kernel
theorem pn_51327b4 : plainName "java/util/AbstractCollection" = true := by first | (simp [plainName, overriddenIn]; done) | decide +kernel
theorem ef_9 (m : MethodId) (x0 : Addr) : entryFrame m #[(.ref x0)] 1 = mkF m 0 #[.val (.ref x0)] [] := by first | (simp [entryFrame, mkF, argsToLocals, Value.category]; done) | rfl
def Q_rmAC (Z : State) (a1 : Addr) (h0 : Heap) (n0 : Nat) (v : Option Value) (h : Heap) (L : List Loc) : Prop := v = none ∧ Fr n0 L ∧ h = h0
set_option maxRecDepth 65536 in
set_option maxHeartbeats 40000000 in
theorem rmAC (l : Launch) (Z : State) (a0 : Array Value) (hw : ∀ d ∈ tables_1, d.before a0 Z = true) (a1 : Addr) (h0 : Heap) (n0 : Nat) (Z0 : n0 ≤ h0.size)  :
    MetFree l (⟨"java/util/AbstractCollection", "<init>", "()V"⟩ : MethodName) (head1 [Jvm.Cond.code (⟨"java/util/AbstractCollection", "<init>", "()V"⟩ : MethodName) jdk_22_method_1_code 1 none] ({ frames := 1, cells := 0, slots := 0, locals := 12 } : Room)) (fun a U => a = #[(.ref a1)] ∧ Z.Warmed39 U.vm ∧ U.heap = h0) (fun _ _ _ _ _ => True) (fun _ U o U' => ∃ v L, o = .returned v ∧ (Q_rmAC Z a1 h0 n0) v U'.heap L ∧ FrameEnd U o U' L ({ frames := 1, cells := 0, slots := 0, locals := 12 } : Room).cells ({ frames := 1, cells := 0, slots := 0, locals := 12 } : Room).slots) := by
  refine MetFree.of_bodySF (plainFor_of_name pn_51327b4) hisR ?_
  intro p e s m args below meth c s₁ Bd hml0 hP hK
  obtain ⟨rfl, hZ, hh⟩ := hP
  have hx := Bd.exec
  have hby := Bd.bytes
  have hml : c.maxLocals = 1 := hml0
  have hown : s.vm.findClass "java/util/AbstractCollection" = some m.cls := findClass_of_methodNamed Bd.named
  have hnm := (name_of_methodNamed Bd.named Bd.method).1
  have X0 : Stand p l e ({ frames := 1, cells := 0, slots := 0, locals := 12 } : Room) s m #[(.ref a1)] below meth c s₁ [] 0 0 := Stand.of_body Bd
  have e0 : s₁.heap = h0 := by rw [← hh, Bd.state]; rfl
  have N0 := Fr.nil n0
  have K0 : Keep h0 h0 [] := Keep.refl h0 []
  show Go p e below (s₁.setTop (entryFrame m #[(.ref a1)] 1)) (EndN s (Q_rmAC Z a1 h0 n0) ({ frames := 1, cells := 0, slots := 0, locals := 12 } : Room).cells ({ frames := 1, cells := 0, slots := 0, locals := 12 } : Room).slots)
  refine Go.top (ef_9 m a1) ?_
  refine Go.st (T' := s₁.setTop (mkF m 1 #[.val (.ref a1)] [(.ref a1)])) (fun zt zk => XS.aloadN X0.here hx rfl (hb hby d9_0) rfl rfl zk) ?_
  obtain ⟨T88, X88, e88, st88⟩ := initO X0 hx hZ hown (hw _ (List.mem_of_getElem? (i := 51) rfl)) (hw _ (List.mem_of_getElem? (i := 15) rfl)) (hw _ (List.mem_of_getElem? (i := 16) rfl)) e0 (g := (mkF m 1 #[.val (.ref a1)] [(.ref a1)])) rfl (by rw [hml]; rfl) rfl (hb hby d9_1) (by decide) (W := 0) (by show 2 * 0 + _ ≤ _; exact Nat.le_of_eq rfl) (by decide)
  refine Go.st (T' := T88.setTop (mkF m 4 #[.val (.ref a1)] [])) (fun zt zk => st88 zt zk) ?_
  exact Go.done X88 Bd.notSynchronized (v := none) (fun _ => rfl) (fun fs hr => X88.returnOut hx Bd.returns (hb hby d9_4) hr) (by rw [e88]; exact ⟨rfl, N0, rfl⟩) (by decide) (by decide)
theorem d8_0 : decode jdk_39_method_1_code 0 = .ok (.aload_n 0, 1) := by decide +kernel
theorem d8_1 : decode jdk_39_method_1_code 1 = .ok (.invokespecial 1, 3) := by decide +kernel
theorem d8_4 : decode jdk_39_method_1_code 4 = .ok (.aload_n 0, 1) := by decide +kernel
theorem d8_5 : decode jdk_39_method_1_code 5 = .ok (.iconst 0, 1) := by decide +kernel
theorem d8_6 : decode jdk_39_method_1_code 6 = .ok (.putfield 7, 3) := by decide +kernel
theorem d8_9 : decode jdk_39_method_1_code 9 = .ok (.return_, 1) := by decide +kernel
theorem pn_4aaca81 : plainName "java/util/AbstractList" = true := by first | (simp [plainName, overriddenIn]; done) | decide +kernel
theorem pd_a8eb9 : parseMethodDescriptor "()V" = some ⟨[], none⟩ := by decide +kernel
theorem ef_8 (m : MethodId) (x0 : Addr) : entryFrame m #[(.ref x0)] 1 = mkF m 0 #[.val (.ref x0)] [] := by first | (simp [entryFrame, mkF, argsToLocals, Value.category]; done) | rfl
def Q_rmABL (Z : State) (a1 : Addr) (h0 : Heap) (n0 : Nat) (v : Option Value) (h : Heap) (L : List Loc) : Prop := v = none ∧ Fr n0 L ∧ Keep h0 h [a1] ∧ Exa Z h a1 "java/util/ArrayList" ∧ Fld Z h a1 "java/util/AbstractList" "modCount" "I" (.int (0 : Int32)) ∧ Fld Z h a1 "java/util/ArrayList" "elementData" "[Ljava/lang/Object;" .null ∧ Fld Z h a1 "java/util/ArrayList" "size" "I" (.int (0 : Int32))
set_option maxRecDepth 65536 in
set_option maxHeartbeats 40000000 in
theorem rmABL (l : Launch) (Z : State) (a0 : Array Value) (hw : ∀ d ∈ tables_1, d.before a0 Z = true) (a1 : Addr) (h0 : Heap) (n0 : Nat) (Z0 : n0 ≤ h0.size) (E1 : Exa Z h0 a1 "java/util/ArrayList") (g_a1 : n0 ≤ a1) (F_modCount : Fld Z h0 a1 "java/util/AbstractList" "modCount" "I" (.int (0 : Int32))) (F_elementData : Fld Z h0 a1 "java/util/ArrayList" "elementData" "[Ljava/lang/Object;" .null) (F_size : Fld Z h0 a1 "java/util/ArrayList" "size" "I" (.int (0 : Int32))) :
    MetFree l (⟨"java/util/AbstractList", "<init>", "()V"⟩ : MethodName) (head1 [Jvm.Cond.code (⟨"java/util/AbstractList", "<init>", "()V"⟩ : MethodName) jdk_39_method_1_code 1 none] ({ frames := 2, cells := 0, slots := 0, locals := 24 } : Room)) (fun a U => a = #[(.ref a1)] ∧ Z.Warmed39 U.vm ∧ U.heap = h0) (fun _ _ _ _ _ => True) (fun _ U o U' => ∃ v L, o = .returned v ∧ (Q_rmABL Z a1 h0 n0) v U'.heap L ∧ FrameEnd U o U' L ({ frames := 2, cells := 0, slots := 0, locals := 24 } : Room).cells ({ frames := 2, cells := 0, slots := 0, locals := 24 } : Room).slots) := by
  refine MetFree.of_bodySF (plainFor_of_name pn_4aaca81) hisR ?_
  intro p e s m args below meth c s₁ Bd hml0 hP hK
  obtain ⟨rfl, hZ, hh⟩ := hP
  have hx := Bd.exec
  have hby := Bd.bytes
  have hml : c.maxLocals = 1 := hml0
  have hown : s.vm.findClass "java/util/AbstractList" = some m.cls := findClass_of_methodNamed Bd.named
  have hnm := (name_of_methodNamed Bd.named Bd.method).1
  have X0 : Stand p l e ({ frames := 2, cells := 0, slots := 0, locals := 24 } : Room) s m #[(.ref a1)] below meth c s₁ [] 0 0 := Stand.of_body Bd
  have e0 : s₁.heap = h0 := by rw [← hh, Bd.state]; rfl
  have N0 := Fr.nil n0
  have K0 : Keep h0 h0 [a1] := Keep.refl h0 [a1]
  show Go p e below (s₁.setTop (entryFrame m #[(.ref a1)] 1)) (EndN s (Q_rmABL Z a1 h0 n0) ({ frames := 2, cells := 0, slots := 0, locals := 24 } : Room).cells ({ frames := 2, cells := 0, slots := 0, locals := 24 } : Room).slots)
  refine Go.top (ef_8 m a1) ?_
  refine Go.st (T' := s₁.setTop (mkF m 1 #[.val (.ref a1)] [(.ref a1)])) (fun zt zk => XS.aloadN X0.here hx rfl (hb hby d8_0) rfl rfl zk) ?_
  obtain ⟨vr89, _, ⟨T89, L89, k89, n89⟩, -, X89, ⟨Lc89, hQ89, l89, y89, z89⟩, st89⟩ := X0.specialBack hx (y := (⟨"java/util/AbstractCollection", "<init>", "()V"⟩ : MethodName)) rfl hown (mvT hZ (hw _ (List.mem_of_getElem? (i := 45) rfl))) (mvT hZ (hw _ (List.mem_of_getElem? (i := 46) rfl))) (mvT hZ (hw _ (List.mem_of_getElem? (i := 50) rfl))) (by decide) (backOf (W := 0) (rmAC l Z a0 hw a1 h0 n0 Z0) hZ (hw _ (List.mem_of_getElem? (i := 50) rfl)) (hw _ (List.mem_of_getElem? (i := 49) rfl)) (by decide) (by decide)) (g := (mkF m 1 #[.val (.ref a1)] [(.ref a1)])) rfl (by rw [hml]; rfl) (Steps.refl _) (a := a1) (argsL := []) (rest := []) (lenOf pd_a8eb9 rfl) rfl (by show 2 * 0 + _ ≤ _; exact Nat.le_of_eq rfl) (hb hby d8_1) (fun _ _ => ⟨rfl, e0, (by decide : 0 + 0 ≤ _), (by decide : 0 + 0 ≤ _)⟩)
  dsimp only [Pt.U, Pt.locs, Pt.cells, Pt.slots] at X89 l89 y89 z89 st89 hQ89
  subst l89 y89 z89
  obtain ⟨rfl, Nq89, eq89⟩ := hQ89
  have NN90 := Fr.app N0 Nq89
  refine Go.st (T' := T89.setTop (mkF m 4 #[.val (.ref a1)] [])) (fun zt zk => st89.trans zk) ?_
  refine Go.st (T' := T89.setTop (mkF m 5 #[.val (.ref a1)] [(.ref a1)])) (fun zt zk => XS.aloadN X89.here hx rfl (hb hby d8_4) rfl rfl zk) ?_
  refine Go.st (T' := T89.setTop (mkF m 6 #[.val (.ref a1)] [(.int (0 : Int32)), (.ref a1)])) (fun zt zk => XS.iconst X89.here hx rfl (hb hby d8_5) zk) ?_
  obtain ⟨T91, h91, X91, e91, W91, st91⟩ := putF X89 hx hZ hown (host := "") (Or.inl (hw _ (List.mem_of_getElem? (i := 52) rfl))) Via.refl eq89 F_modCount E1 (Or.inl (hw _ (List.mem_of_getElem? (i := 53) rfl))) (hw _ (List.mem_of_getElem? (i := 34) rfl)) (ty := .int) (by decide) rfl rfl (g := (mkF m 6 #[.val (.ref a1)] [(.int (0 : Int32)), (.ref a1)])) rfl rfl (hb hby d8_6)
  have Fw91 : Fld Z h91 a1 "java/util/AbstractList" "modCount" "I" (.int (0 : Int32)) := F_modCount.same W91
  have K91 : Keep h0 h91 [a1] := K0.wr W91 (Or.inl (List.mem_of_getElem? (i := 0) rfl))
  have N91 := Fr.snoc X91 NN90 g_a1
  refine Go.st (T' := T91.setTop (mkF m 9 #[.val (.ref a1)] [])) (fun zt zk => st91 zt zk) ?_
  have f92 : Exa Z h91 a1 "java/util/ArrayList" := (E1.wr W91)
  have f93 : Fld Z h91 a1 "java/util/ArrayList" "elementData" "[Ljava/lang/Object;" .null := (F_elementData.other W91 (Or.inr (slot_ne (Or.inl (hw _ (List.mem_of_getElem? (i := 56) rfl))) (Or.inl (hw _ (List.mem_of_getElem? (i := 53) rfl))) (by decide) (t := (.array (.object "java/lang/Object"))) (t' := .int) (by decide) (by decide))))
  have f94 : Fld Z h91 a1 "java/util/ArrayList" "size" "I" (.int (0 : Int32)) := (F_size.other W91 (Or.inr (slot_ne (Or.inl (hw _ (List.mem_of_getElem? (i := 71) rfl))) (Or.inl (hw _ (List.mem_of_getElem? (i := 53) rfl))) (by decide) (t := .int) (t' := .int) (by decide) (by decide))))
  exact Go.done X91 Bd.notSynchronized (v := none) (fun _ => rfl) (fun fs hr => X91.returnOut hx Bd.returns (hb hby d8_9) hr) (by rw [e91]; exact ⟨rfl, N91, K91, f92, Fw91, f93, f94⟩) (by decide) (by decide)
theorem d7_0 : decode jdk_38_method_2_code 0 = .ok (.aload_n 0, 1) := by decide +kernel
theorem d7_1 : decode jdk_38_method_2_code 1 = .ok (.invokespecial 1, 3) := by decide +kernel
theorem d7_4 : decode jdk_38_method_2_code 4 = .ok (.aload_n 0, 1) := by decide +kernel
theorem d7_5 : decode jdk_38_method_2_code 5 = .ok (.getstatic 39, 3) := by decide +kernel
theorem d7_8 : decode jdk_38_method_2_code 8 = .ok (.putfield 9, 3) := by decide +kernel
theorem d7_11 : decode jdk_38_method_2_code 11 = .ok (.return_, 1) := by decide +kernel
theorem pn_c56ca98 : plainName "java/util/ArrayList" = true := by first | (simp [plainName, overriddenIn]; done) | decide +kernel
theorem ef_7 (m : MethodId) (x0 : Addr) : entryFrame m #[(.ref x0)] 1 = mkF m 0 #[.val (.ref x0)] [] := by first | (simp [entryFrame, mkF, argsToLocals, Value.category]; done) | rfl
def Q_rmALi (Z : State) (a1 de : Addr) (h0 : Heap) (n0 : Nat) (v : Option Value) (h : Heap) (L : List Loc) : Prop := v = none ∧ Fr n0 L ∧ Keep h0 h [a1] ∧ Exa Z h a1 "java/util/ArrayList" ∧ Fld Z h a1 "java/util/AbstractList" "modCount" "I" (.int (0 : Int32)) ∧ Fld Z h a1 "java/util/ArrayList" "elementData" "[Ljava/lang/Object;" (.ref de) ∧ Fld Z h a1 "java/util/ArrayList" "size" "I" (.int (0 : Int32))
set_option maxRecDepth 65536 in
set_option maxHeartbeats 40000000 in
theorem rmALi (l : Launch) (Z : State) (a0 : Array Value) (hw : ∀ d ∈ tables_1, d.before a0 Z = true) (a1 de : Addr) (h0 : Heap) (n0 : Nat) (Z0 : n0 ≤ h0.size) (X00 : Old Z n0 h0) (Sd : Sta Z Z.heap "java/util/ArrayList" "DEFAULTCAPACITY_EMPTY_ELEMENTDATA" "[Ljava/lang/Object;" (.ref de)) (E1 : Exa Z h0 a1 "java/util/ArrayList") (g_a1 : n0 ≤ a1) (F_modCount : Fld Z h0 a1 "java/util/AbstractList" "modCount" "I" (.int (0 : Int32))) (F_elementData : Fld Z h0 a1 "java/util/ArrayList" "elementData" "[Ljava/lang/Object;" .null) (F_size : Fld Z h0 a1 "java/util/ArrayList" "size" "I" (.int (0 : Int32))) :
    MetFree l (⟨"java/util/ArrayList", "<init>", "()V"⟩ : MethodName) (head1 [Jvm.Cond.code (⟨"java/util/ArrayList", "<init>", "()V"⟩ : MethodName) jdk_38_method_2_code 1 none] ({ frames := 3, cells := 0, slots := 0, locals := 36 } : Room)) (fun a U => a = #[(.ref a1)] ∧ Z.Warmed39 U.vm ∧ U.heap = h0) (fun _ _ _ _ _ => True) (fun _ U o U' => ∃ v L, o = .returned v ∧ (Q_rmALi Z a1 de h0 n0) v U'.heap L ∧ FrameEnd U o U' L ({ frames := 3, cells := 0, slots := 0, locals := 36 } : Room).cells ({ frames := 3, cells := 0, slots := 0, locals := 36 } : Room).slots) := by
  refine MetFree.of_bodySF (plainFor_of_name pn_c56ca98) hisR ?_
  intro p e s m args below meth c s₁ Bd hml0 hP hK
  obtain ⟨rfl, hZ, hh⟩ := hP
  have hx := Bd.exec
  have hby := Bd.bytes
  have hml : c.maxLocals = 1 := hml0
  have hown : s.vm.findClass "java/util/ArrayList" = some m.cls := findClass_of_methodNamed Bd.named
  have hnm := (name_of_methodNamed Bd.named Bd.method).1
  have X0 : Stand p l e ({ frames := 3, cells := 0, slots := 0, locals := 36 } : Room) s m #[(.ref a1)] below meth c s₁ [] 0 0 := Stand.of_body Bd
  have e0 : s₁.heap = h0 := by rw [← hh, Bd.state]; rfl
  have N0 := Fr.nil n0
  have K0 : Keep h0 h0 [a1] := Keep.refl h0 [a1]
  show Go p e below (s₁.setTop (entryFrame m #[(.ref a1)] 1)) (EndN s (Q_rmALi Z a1 de h0 n0) ({ frames := 3, cells := 0, slots := 0, locals := 36 } : Room).cells ({ frames := 3, cells := 0, slots := 0, locals := 36 } : Room).slots)
  refine Go.top (ef_7 m a1) ?_
  have own_KX : ∀ y_ ∈ [a1], n0 ≤ y_ := (allS g_a1 all0)
  refine Go.st (T' := s₁.setTop (mkF m 1 #[.val (.ref a1)] [(.ref a1)])) (fun zt zk => XS.aloadN X0.here hx rfl (hb hby d7_0) rfl rfl zk) ?_
  obtain ⟨vr95, _, ⟨T95, L95, k95, n95⟩, -, X95, ⟨Lc95, hQ95, l95, y95, z95⟩, st95⟩ := X0.specialBack hx (y := (⟨"java/util/AbstractList", "<init>", "()V"⟩ : MethodName)) rfl hown (mvT hZ (hw _ (List.mem_of_getElem? (i := 39) rfl))) (mvT hZ (hw _ (List.mem_of_getElem? (i := 40) rfl))) (mvT hZ (hw _ (List.mem_of_getElem? (i := 44) rfl))) (by decide) (backOf (W := 0) (rmABL l Z a0 hw a1 h0 n0 Z0 E1 g_a1 F_modCount F_elementData F_size) hZ (hw _ (List.mem_of_getElem? (i := 44) rfl)) (hw _ (List.mem_of_getElem? (i := 43) rfl)) (by decide) (by decide)) (g := (mkF m 1 #[.val (.ref a1)] [(.ref a1)])) rfl (by rw [hml]; rfl) (Steps.refl _) (a := a1) (argsL := []) (rest := []) (lenOf pd_a8eb9 rfl) rfl (by show 2 * 0 + _ ≤ _; exact Nat.le_of_eq rfl) (hb hby d7_1) (fun _ _ => ⟨rfl, e0, (by decide : 0 + 0 ≤ _), (by decide : 0 + 0 ≤ _)⟩)
  dsimp only [Pt.U, Pt.locs, Pt.cells, Pt.slots] at X95 l95 y95 z95 st95 hQ95
  subst l95 y95 z95
  obtain ⟨rfl, Nq95, Kq95, E95, Fa95, Fb95, Fc95⟩ := hQ95
  have KK96 : Keep h0 T95.heap [a1] := K0.trans Kq95 (allS (Or.inl (List.mem_of_getElem? (i := 0) rfl)) all0)
  have NN97 := Fr.app N0 Nq95
  refine Go.st (T' := T95.setTop (mkF m 4 #[.val (.ref a1)] [])) (fun zt zk => st95.trans zk) ?_
  refine Go.st (T' := T95.setTop (mkF m 5 #[.val (.ref a1)] [(.ref a1)])) (fun zt zk => XS.aloadN X95.here hx rfl (hb hby d7_4) rfl rfl zk) ?_
  obtain ⟨T98, X98, e98, st98⟩ := getS (host := "") X95 hx hZ hown (hw _ (List.mem_of_getElem? (i := 54) rfl)) Via.refl rfl (Sd.ext (X00.keep KK96 own_KX).2) (g := (mkF m 5 #[.val (.ref a1)] [(.ref a1)])) rfl (hb hby d7_5)
  refine Go.st (T' := T98.setTop (mkF m 8 #[.val (.ref a1)] [(.ref de), (.ref a1)])) (fun zt zk => st98 zt zk) ?_
  obtain ⟨T99, h99, X99, e99, W99, st99⟩ := putF X98 hx hZ hown (host := "") (Or.inl (hw _ (List.mem_of_getElem? (i := 55) rfl))) Via.refl e98 Fb95 E95 (Or.inl (hw _ (List.mem_of_getElem? (i := 56) rfl))) (hw _ (List.mem_of_getElem? (i := 34) rfl)) (ty := (.array (.object "java/lang/Object"))) (by decide) rfl rfl (g := (mkF m 8 #[.val (.ref a1)] [(.ref de), (.ref a1)])) rfl rfl (hb hby d7_8)
  have Fw99 : Fld Z h99 a1 "java/util/ArrayList" "elementData" "[Ljava/lang/Object;" (.ref de) := Fb95.same W99
  have K99 : Keep h0 h99 [a1] := KK96.wr W99 (Or.inl (List.mem_of_getElem? (i := 0) rfl))
  have N99 := Fr.snoc X99 NN97 g_a1
  refine Go.st (T' := T99.setTop (mkF m 11 #[.val (.ref a1)] [])) (fun zt zk => st99 zt zk) ?_
  have f100 : Exa Z h99 a1 "java/util/ArrayList" := (E95.wr W99)
  have f101 : Fld Z h99 a1 "java/util/AbstractList" "modCount" "I" (.int (0 : Int32)) := (Fa95.other W99 (Or.inr (slot_ne (Or.inl (hw _ (List.mem_of_getElem? (i := 53) rfl))) (Or.inl (hw _ (List.mem_of_getElem? (i := 56) rfl))) (by decide) (t := .int) (t' := (.array (.object "java/lang/Object"))) (by decide) (by decide))))
  have f102 : Fld Z h99 a1 "java/util/ArrayList" "size" "I" (.int (0 : Int32)) := (Fc95.other W99 (Or.inr (slot_ne (Or.inl (hw _ (List.mem_of_getElem? (i := 71) rfl))) (Or.inl (hw _ (List.mem_of_getElem? (i := 56) rfl))) (by decide) (t := .int) (t' := (.array (.object "java/lang/Object"))) (by decide) (by decide))))
  exact Go.done X99 Bd.notSynchronized (v := none) (fun _ => rfl) (fun fs hr => X99.returnOut hx Bd.returns (hb hby d7_11) hr) (by rw [e99]; exact ⟨rfl, N99, K99, f100, f101, Fw99, f102⟩) (by decide) (by decide)
theorem d20_0 : decode jdk_29_method_65_code 0 = .ok (.iload_n 0, 1) := by decide +kernel
theorem d20_1 : decode jdk_29_method_65_code 1 = .ok (.iload_n 1, 1) := by decide +kernel
theorem d20_2 : decode jdk_29_method_65_code 2 = .ok (.if_icmp .lt 7, 3) := by decide +kernel
theorem d20_5 : decode jdk_29_method_65_code 5 = .ok (.iload_n 0, 1) := by decide +kernel
theorem d20_6 : decode jdk_29_method_65_code 6 = .ok (.goto 4, 3) := by decide +kernel
theorem d20_10 : decode jdk_29_method_65_code 10 = .ok (.ireturn, 1) := by decide +kernel
theorem pf_20 : plainFor (⟨"java/lang/Math", "max", "(II)I"⟩ : MethodName) = true := by decide +kernel
theorem ef_20 (m : MethodId) (x0 : Int32) (x1 : Int32) : entryFrame m #[(.int x0), (.int x1)] 2 = mkF m 0 #[.val (.int x0), .val (.int x1)] [] := by first | (simp [entryFrame, mkF, argsToLocals, Value.category]; done) | rfl
def Q_rmMax (Z : State)  (h0 : Heap) (n0 : Nat) (v : Option Value) (h : Heap) (L : List Loc) : Prop := v = some (.int (10 : Int32)) ∧ Fr n0 L ∧ h = h0
set_option maxRecDepth 65536 in
set_option maxHeartbeats 40000000 in
theorem rmMax (l : Launch) (Z : State) (a0 : Array Value) (hw : ∀ d ∈ tables_1, d.before a0 Z = true)  (h0 : Heap) (n0 : Nat) (Z0 : n0 ≤ h0.size)  :
    MetFree l (⟨"java/lang/Math", "max", "(II)I"⟩ : MethodName) (head1 [Jvm.Cond.code (⟨"java/lang/Math", "max", "(II)I"⟩ : MethodName) jdk_29_method_65_code 2 (some .int)] ({ frames := 0, cells := 0, slots := 0, locals := 0 } : Room)) (fun a U => a = #[(.int (10 : Int32)), (.int (1 : Int32))] ∧ Z.Warmed39 U.vm ∧ U.heap = h0) (fun _ _ _ _ _ => True) (fun _ U o U' => ∃ v L, o = .returned v ∧ (Q_rmMax Z  h0 n0) v U'.heap L ∧ FrameEnd U o U' L ({ frames := 0, cells := 0, slots := 0, locals := 0 } : Room).cells ({ frames := 0, cells := 0, slots := 0, locals := 0 } : Room).slots) := by
  refine MetFree.of_bodySF pf_20 hisR ?_
  intro p e s m args below meth c s₁ Bd hml0 hP hK
  obtain ⟨rfl, hZ, hh⟩ := hP
  have hx := Bd.exec
  have hby := Bd.bytes
  have hml : c.maxLocals = 2 := hml0
  have hown : s.vm.findClass "java/lang/Math" = some m.cls := findClass_of_methodNamed Bd.named
  have hnm := (name_of_methodNamed Bd.named Bd.method).1
  have X0 : Stand p l e ({ frames := 0, cells := 0, slots := 0, locals := 0 } : Room) s m #[(.int (10 : Int32)), (.int (1 : Int32))] below meth c s₁ [] 0 0 := Stand.of_body Bd
  have e0 : s₁.heap = h0 := by rw [← hh, Bd.state]; rfl
  have N0 := Fr.nil n0
  have K0 : Keep h0 h0 [] := Keep.refl h0 []
  show Go p e below (s₁.setTop (entryFrame m #[(.int (10 : Int32)), (.int (1 : Int32))] 2)) (EndN s (Q_rmMax Z  h0 n0) ({ frames := 0, cells := 0, slots := 0, locals := 0 } : Room).cells ({ frames := 0, cells := 0, slots := 0, locals := 0 } : Room).slots)
  refine Go.top (ef_20 m (10 : Int32) (1 : Int32)) ?_
  refine Go.st (T' := s₁.setTop (mkF m 1 #[.val (.int (10 : Int32)), .val (.int (1 : Int32))] [(.int (10 : Int32))])) (fun zt zk => XS.iloadN X0.here hx rfl (hb hby d20_0) rfl zk) ?_
  refine Go.st (T' := s₁.setTop (mkF m 2 #[.val (.int (10 : Int32)), .val (.int (1 : Int32))] [(.int (1 : Int32)), (.int (10 : Int32))])) (fun zt zk => XS.iloadN X0.here hx rfl (hb hby d20_1) rfl zk) ?_
  refine Go.st (T' := s₁.setTop (mkF m 5 #[.val (.int (10 : Int32)), .val (.int (1 : Int32))] [])) (fun zt zk => XS.icmpNo X0.here hx rfl (hb hby d20_2) rfl (flt (by decide)).1 zk) ?_
  refine Go.st (T' := s₁.setTop (mkF m 6 #[.val (.int (10 : Int32)), .val (.int (1 : Int32))] [(.int (10 : Int32))])) (fun zt zk => XS.iloadN X0.here hx rfl (hb hby d20_5) rfl zk) ?_
  refine Go.st (T' := s₁.setTop (mkF m 10 #[.val (.int (10 : Int32)), .val (.int (1 : Int32))] [(.int (10 : Int32))])) (fun zt zk => XS.goto X0.here hx rfl (pc0 := 6) (pc' := 10) rfl (hb hby d20_6) (by decide) (by decide) zk) ?_
  exact Go.done X0 Bd.notSynchronized (v := some (.int (10 : Int32))) (fun h => by rw [Bd.returns] at h; cases h) (fun fs hr => retI X0 hx Bd.returns (hb hby d20_10) hr) (by rw [e0]; exact ⟨rfl, N0, rfl⟩) (by decide) (by decide)
theorem d19_0 : decode jdk_38_method_6_code 0 = .ok (.aload_n 0, 1) := by decide +kernel
theorem d19_1 : decode jdk_38_method_6_code 1 = .ok (.getfield 9, 3) := by decide +kernel
theorem d19_4 : decode jdk_38_method_6_code 4 = .ok (.arraylength, 1) := by decide +kernel
theorem d19_5 : decode jdk_38_method_6_code 5 = .ok (.istore_n 2, 1) := by decide +kernel
theorem d19_6 : decode jdk_38_method_6_code 6 = .ok (.iload_n 2, 1) := by decide +kernel
theorem d19_7 : decode jdk_38_method_6_code 7 = .ok (.ifCond .gt 13, 3) := by decide +kernel
theorem d19_10 : decode jdk_38_method_6_code 10 = .ok (.aload_n 0, 1) := by decide +kernel
theorem d19_11 : decode jdk_38_method_6_code 11 = .ok (.getfield 9, 3) := by decide +kernel
theorem d19_14 : decode jdk_38_method_6_code 14 = .ok (.getstatic 39, 3) := by decide +kernel
theorem d19_17 : decode jdk_38_method_6_code 17 = .ok (.if_acmp .eq 28, 3) := by decide +kernel
theorem d19_45 : decode jdk_38_method_6_code 45 = .ok (.aload_n 0, 1) := by decide +kernel
theorem d19_46 : decode jdk_38_method_6_code 46 = .ok (.bipush 10, 2) := by decide +kernel
theorem d19_48 : decode jdk_38_method_6_code 48 = .ok (.iload_n 1, 1) := by decide +kernel
theorem d19_49 : decode jdk_38_method_6_code 49 = .ok (.invokestatic 79, 3) := by decide +kernel
theorem d19_52 : decode jdk_38_method_6_code 52 = .ok (.anewarray 7, 3) := by decide +kernel
theorem d19_55 : decode jdk_38_method_6_code 55 = .ok (.dup_x1, 1) := by decide +kernel
theorem d19_56 : decode jdk_38_method_6_code 56 = .ok (.putfield 9, 3) := by decide +kernel
theorem d19_59 : decode jdk_38_method_6_code 59 = .ok (.areturn, 1) := by decide +kernel
theorem pd_7ffd0b0 : parseMethodDescriptor "(II)I" = some ⟨[.int, .int], some .int⟩ := by decide +kernel
theorem ef_19 (m : MethodId) (x0 : Addr) (x1 : Int32) : entryFrame m #[(.ref x0), (.int x1)] 4 = mkF m 0 #[.val (.ref x0), .val (.int x1), .unset, .unset] [] := by first | (simp [entryFrame, mkF, argsToLocals, Value.category]; done) | rfl
def Q_rmG1 (Z : State) (a1 de : Addr) (mc : Int32) (h0 : Heap) (n0 : Nat) (v : Option Value) (h : Heap) (L : List Loc) : Prop := Fr n0 L ∧ Keep h0 h [a1] ∧ ∃ (ed : Addr) (ke : ClassId), v = some (.ref ed) ∧ h0.size ≤ ed ∧ Exa Z h a1 "java/util/ArrayList" ∧ Fld Z h a1 "java/util/AbstractList" "modCount" "I" (.int mc) ∧ Fld Z h a1 "java/util/ArrayList" "elementData" "[Ljava/lang/Object;" (.ref ed) ∧ Fld Z h a1 "java/util/ArrayList" "size" "I" (.int (0 : Int32)) ∧ Arv Z h ed ke (.object "java/lang/Object") (10 : Int32) [] .null ∧ Ovr Z ke "java/lang/Object"
set_option maxRecDepth 65536 in
set_option maxHeartbeats 40000000 in
theorem rmG1 (l : Launch) (Z : State) (a0 : Array Value) (hw : ∀ d ∈ tables_1, d.before a0 Z = true) (a1 de : Addr) (mc : Int32) (h0 : Heap) (n0 : Nat) (Z0 : n0 ≤ h0.size) (X00 : Old Z n0 h0) (Sd : Sta Z Z.heap "java/util/ArrayList" "DEFAULTCAPACITY_EMPTY_ELEMENTDATA" "[Ljava/lang/Object;" (.ref de)) (Bde : own_D Z h0 de) (E1 : Exa Z h0 a1 "java/util/ArrayList") (g_a1 : n0 ≤ a1) (F_modCount : Fld Z h0 a1 "java/util/AbstractList" "modCount" "I" (.int mc)) (F_elementData : Fld Z h0 a1 "java/util/ArrayList" "elementData" "[Ljava/lang/Object;" (.ref de)) (F_size : Fld Z h0 a1 "java/util/ArrayList" "size" "I" (.int (0 : Int32))) :
    MetFree l (⟨"java/util/ArrayList", "grow", "(I)[Ljava/lang/Object;"⟩ : MethodName) (head1 [Jvm.Cond.code (⟨"java/util/ArrayList", "grow", "(I)[Ljava/lang/Object;"⟩ : MethodName) jdk_38_method_6_code 4 (some (.array (.object "java/lang/Object")))] ({ frames := 1, cells := 1, slots := 10, locals := 14 } : Room)) (fun a U => a = #[(.ref a1), (.int (1 : Int32))] ∧ Z.Warmed39 U.vm ∧ U.heap = h0) (fun _ _ _ _ _ => True) (fun _ U o U' => ∃ v L, o = .returned v ∧ (Q_rmG1 Z a1 de mc h0 n0) v U'.heap L ∧ FrameEnd U o U' L ({ frames := 1, cells := 1, slots := 10, locals := 14 } : Room).cells ({ frames := 1, cells := 1, slots := 10, locals := 14 } : Room).slots) := by
  refine MetFree.of_bodySF (plainFor_of_name pn_c56ca98) hisR ?_
  intro p e s m args below meth c s₁ Bd hml0 hP hK
  obtain ⟨rfl, hZ, hh⟩ := hP
  have hx := Bd.exec
  have hby := Bd.bytes
  have hml : c.maxLocals = 4 := hml0
  have hown : s.vm.findClass "java/util/ArrayList" = some m.cls := findClass_of_methodNamed Bd.named
  have hnm := (name_of_methodNamed Bd.named Bd.method).1
  have X0 : Stand p l e ({ frames := 1, cells := 1, slots := 10, locals := 14 } : Room) s m #[(.ref a1), (.int (1 : Int32))] below meth c s₁ [] 0 0 := Stand.of_body Bd
  have e0 : s₁.heap = h0 := by rw [← hh, Bd.state]; rfl
  have N0 := Fr.nil n0
  have K0 : Keep h0 h0 [a1] := Keep.refl h0 [a1]
  show Go p e below (s₁.setTop (entryFrame m #[(.ref a1), (.int (1 : Int32))] 4)) (EndN s (Q_rmG1 Z a1 de mc h0 n0) ({ frames := 1, cells := 1, slots := 10, locals := 14 } : Room).cells ({ frames := 1, cells := 1, slots := 10, locals := 14 } : Room).slots)
  refine Go.top (ef_19 m a1 (1 : Int32)) ?_
  have own_KX : ∀ y_ ∈ [a1], n0 ≤ y_ := (allS g_a1 all0)
  refine Go.st (T' := s₁.setTop (mkF m 1 #[.val (.ref a1), .val (.int (1 : Int32)), .unset, .unset] [(.ref a1)])) (fun zt zk => XS.aloadN X0.here hx rfl (hb hby d19_0) rfl rfl zk) ?_
  obtain ⟨T103, X103, e103, st103⟩ := getF X0 hx hZ hown (host := "") (Or.inl (hw _ (List.mem_of_getElem? (i := 55) rfl))) Via.refl e0 F_elementData (g := (mkF m 1 #[.val (.ref a1), .val (.int (1 : Int32)), .unset, .unset] [(.ref a1)])) rfl rfl (hb hby d19_1)
  refine Go.st (T' := T103.setTop (mkF m 4 #[.val (.ref a1), .val (.int (1 : Int32)), .unset, .unset] [(.ref de)])) (fun zt zk => st103 zt zk) ?_
  obtain ⟨cl104, Ar104, hl104⟩ := id Bde
  refine Go.st (T' := T103.setTop (mkF m 5 #[.val (.ref a1), .val (.int (1 : Int32)), .unset, .unset] [(.int (0 : Int32))])) (fun zt zk => X103.arraylength hx (by rw [e103]; exact Ar104.1) (State.isArrayOf_alike hZ.alike Ar104.2.1) (g := (mkF m 4 #[.val (.ref a1), .val (.int (1 : Int32)), .unset, .unset] [(.ref de)])) rfl rfl (hb hby d19_4) zt (by rw [hl104]; exact zk)) ?_
  refine Go.st (T' := T103.setTop (mkF m 6 #[.val (.ref a1), .val (.int (1 : Int32)), .val (.int (0 : Int32)), .unset] [])) (fun zt zk => XS.istoreN X103.here hx rfl (hb hby d19_5) rfl (l' := #[.val (.ref a1), .val (.int (1 : Int32)), .val (.int (0 : Int32)), .unset]) rfl zk) ?_
  refine Go.st (T' := T103.setTop (mkF m 7 #[.val (.ref a1), .val (.int (1 : Int32)), .val (.int (0 : Int32)), .unset] [(.int (0 : Int32))])) (fun zt zk => XS.iloadN X103.here hx rfl (hb hby d19_6) rfl zk) ?_
  refine Go.st (T' := T103.setTop (mkF m 10 #[.val (.ref a1), .val (.int (1 : Int32)), .val (.int (0 : Int32)), .unset] [])) (fun zt zk => XS.ifNo X103.here hx rfl (hb hby d19_7) rfl ((if0 _ _).trans (flt (by decide)).2.2.1) zk) ?_
  refine Go.st (T' := T103.setTop (mkF m 11 #[.val (.ref a1), .val (.int (1 : Int32)), .val (.int (0 : Int32)), .unset] [(.ref a1)])) (fun zt zk => XS.aloadN X103.here hx rfl (hb hby d19_10) rfl rfl zk) ?_
  obtain ⟨T105, X105, e105, st105⟩ := getF X103 hx hZ hown (host := "") (Or.inl (hw _ (List.mem_of_getElem? (i := 55) rfl))) Via.refl e103 F_elementData (g := (mkF m 11 #[.val (.ref a1), .val (.int (1 : Int32)), .val (.int (0 : Int32)), .unset] [(.ref a1)])) rfl rfl (hb hby d19_11)
  refine Go.st (T' := T105.setTop (mkF m 14 #[.val (.ref a1), .val (.int (1 : Int32)), .val (.int (0 : Int32)), .unset] [(.ref de)])) (fun zt zk => st105 zt zk) ?_
  obtain ⟨T106, X106, e106, st106⟩ := getS (host := "") X105 hx hZ hown (hw _ (List.mem_of_getElem? (i := 54) rfl)) Via.refl e105 (Sd.ext (X00.keep K0 own_KX).2) (g := (mkF m 14 #[.val (.ref a1), .val (.int (1 : Int32)), .val (.int (0 : Int32)), .unset] [(.ref de)])) rfl (hb hby d19_14)
  refine Go.st (T' := T106.setTop (mkF m 17 #[.val (.ref a1), .val (.int (1 : Int32)), .val (.int (0 : Int32)), .unset] [(.ref de), (.ref de)])) (fun zt zk => st106 zt zk) ?_
  refine Go.st (T' := T106.setTop (mkF m 45 #[.val (.ref a1), .val (.int (1 : Int32)), .val (.int (0 : Int32)), .unset] [])) (fun zt zk => Jvm.RoadKit.acmp (g := (mkF m 17 #[.val (.ref a1), .val (.int (1 : Int32)), .val (.int (0 : Int32)), .unset] [(.ref de), (.ref de)])) X106 hx rfl rfl rfl (pc0 := 17) (pc' := 45) (same := true) rfl (hb hby d19_17) rfl (decide_eq_true rfl) (by decide) (by decide) zk) ?_
  refine Go.st (T' := T106.setTop (mkF m 46 #[.val (.ref a1), .val (.int (1 : Int32)), .val (.int (0 : Int32)), .unset] [(.ref a1)])) (fun zt zk => XS.aloadN X106.here hx rfl (hb hby d19_45) rfl rfl zk) ?_
  refine Go.st (T' := T106.setTop (mkF m 48 #[.val (.ref a1), .val (.int (1 : Int32)), .val (.int (0 : Int32)), .unset] [(.int (10 : Int32)), (.ref a1)])) (fun zt zk => XS.bipush X106.here hx rfl (hb hby d19_46) zk) ?_
  refine Go.st (T' := T106.setTop (mkF m 49 #[.val (.ref a1), .val (.int (1 : Int32)), .val (.int (0 : Int32)), .unset] [(.int (1 : Int32)), (.int (10 : Int32)), (.ref a1)])) (fun zt zk => XS.iloadN X106.here hx rfl (hb hby d19_48) rfl zk) ?_
  obtain ⟨vr107, _, ⟨T107, L107, k107, n107⟩, -, X107, ⟨Lc107, hQ107, l107, y107, z107⟩, st107⟩ := Jvm.LawKit.callS X106 hx (y := (⟨"java/lang/Math", "max", "(II)I"⟩ : MethodName)) hown (mvT hZ (hw _ (List.mem_of_getElem? (i := 112) rfl))) (mvT hZ (hw _ (List.mem_of_getElem? (i := 113) rfl))) (mvT hZ (hw _ (List.mem_of_getElem? (i := 114) rfl))) (mvT hZ (hw _ (List.mem_of_getElem? (i := 115) rfl))) (by decide) (backOf (W := 1) (rmMax l Z a0 hw h0 n0 Z0) hZ (hw _ (List.mem_of_getElem? (i := 115) rfl)) (hw _ (List.mem_of_getElem? (i := 114) rfl)) (by decide) (by decide)) (g := (mkF m 49 #[.val (.ref a1), .val (.int (1 : Int32)), .val (.int (0 : Int32)), .unset] [(.int (1 : Int32)), (.int (10 : Int32)), (.ref a1)])) rfl (by rw [hml]; rfl) (argsL := [(.int (10 : Int32)), (.int (1 : Int32))]) (rest := [(.ref a1)]) (lenOf pd_7ffd0b0 rfl) rfl (by show 2 * 0 + _ ≤ _; exact Nat.le_of_eq rfl) (hb hby d19_49) (fun _ _ => ⟨rfl, e106, (by decide : 0 + 0 ≤ _), (by decide : 0 + 0 ≤ _)⟩)
  dsimp only [Pt.U, Pt.locs, Pt.cells, Pt.slots] at X107 l107 y107 z107 st107 hQ107
  subst l107 y107 z107
  obtain ⟨rfl, Nq107, eq107⟩ := hQ107
  have NN108 := Fr.app N0 Nq107
  refine Go.st (T' := T107.setTop (mkF m 52 #[.val (.ref a1), .val (.int (1 : Int32)), .val (.int (0 : Int32)), .unset] [(.int (10 : Int32)), (.ref a1)])) (fun zt zk => st107 zt zk) ?_
  obtain ⟨T109, h109, k109, X109, e109, E109, A109, O109, st109⟩ := newR X107 hx hZ hown (hw _ (List.mem_of_getElem? (i := 116) rfl)) (hw _ (List.mem_of_getElem? (i := 117) rfl)) eq107 (g := (mkF m 52 #[.val (.ref a1), .val (.int (1 : Int32)), .val (.int (0 : Int32)), .unset] [(.int (10 : Int32)), (.ref a1)])) rfl (hb hby d19_52) rfl (by decide) (cap := 10) (by decide) (by decide) (by decide) (by decide)
  obtain ⟨b109, g109⟩ : ∃ z, z = h0.size := ⟨_, rfl⟩
  rw [← g109] at A109 st109
  have g_b109 : n0 ≤ b109 := Nat.le_trans (Nat.le_trans Z0 K0.1) (Nat.le_of_eq g109.symm)
  have sz_b109 : h0.size ≤ b109 := Nat.le_trans K0.1 (Nat.le_of_eq g109.symm)
  have ne110 : a1 ≠ b109 := Nat.ne_of_lt (Nat.lt_of_lt_of_le E1.lt (Nat.le_of_eq g109.symm))
  have ne111 : de ≠ b109 := Nat.ne_of_lt (Nat.lt_of_lt_of_le Bde.lt (Nat.le_of_eq g109.symm))
  have K109 : Keep h0 h109 [a1] := K0.ext E109
  have V109 : Arv Z h109 b109 k109 (.object "java/lang/Object") (10 : Int32) [] .null := Arv.new A109 (by decide)
  refine Go.st (T' := T109.setTop (mkF m 55 #[.val (.ref a1), .val (.int (1 : Int32)), .val (.int (0 : Int32)), .unset] [(.ref b109), (.ref a1)])) (fun zt zk => st109 zt zk) ?_
  refine Go.st (T' := T109.setTop (mkF m 56 #[.val (.ref a1), .val (.int (1 : Int32)), .val (.int (0 : Int32)), .unset] [(.ref b109), (.ref a1), (.ref b109)])) (fun zt zk => XS.dupX1 X109.here hx rfl (hb hby d19_55) rfl rfl rfl zk) ?_
  have f112 : Fld Z h109 a1 "java/util/ArrayList" "elementData" "[Ljava/lang/Object;" (.ref de) := (F_elementData.ext E109)
  have f113 : Exa Z h109 a1 "java/util/ArrayList" := (E1.ext E109)
  obtain ⟨T114, h114, X114, e114, W114, st114⟩ := putF X109 hx hZ hown (host := "") (Or.inl (hw _ (List.mem_of_getElem? (i := 55) rfl))) Via.refl e109 f112 f113 (Or.inl (hw _ (List.mem_of_getElem? (i := 56) rfl))) (hw _ (List.mem_of_getElem? (i := 34) rfl)) (ty := (.array (.object "java/lang/Object"))) (by decide) rfl rfl (g := (mkF m 56 #[.val (.ref a1), .val (.int (1 : Int32)), .val (.int (0 : Int32)), .unset] [(.ref b109), (.ref a1), (.ref b109)])) rfl rfl (hb hby d19_56)
  have Fw114 : Fld Z h114 a1 "java/util/ArrayList" "elementData" "[Ljava/lang/Object;" (.ref b109) := f112.same W114
  have K114 : Keep h0 h114 [a1] := K109.wr W114 (Or.inl (List.mem_of_getElem? (i := 0) rfl))
  have N114 := Fr.snoc X114 NN108 g_a1
  refine Go.st (T' := T114.setTop (mkF m 59 #[.val (.ref a1), .val (.int (1 : Int32)), .val (.int (0 : Int32)), .unset] [(.ref b109)])) (fun zt zk => st114 zt zk) ?_
  have f115 : Exa Z h114 a1 "java/util/ArrayList" := (f113.wr W114)
  have f116 : Fld Z h114 a1 "java/util/AbstractList" "modCount" "I" (.int mc) := ((F_modCount.ext E109).other W114 (Or.inr (slot_ne (Or.inl (hw _ (List.mem_of_getElem? (i := 53) rfl))) (Or.inl (hw _ (List.mem_of_getElem? (i := 56) rfl))) (by decide) (t := .int) (t' := (.array (.object "java/lang/Object"))) (by decide) (by decide))))
  have f117 : Fld Z h114 a1 "java/util/ArrayList" "size" "I" (.int (0 : Int32)) := ((F_size.ext E109).other W114 (Or.inr (slot_ne (Or.inl (hw _ (List.mem_of_getElem? (i := 71) rfl))) (Or.inl (hw _ (List.mem_of_getElem? (i := 56) rfl))) (by decide) (t := .int) (t' := (.array (.object "java/lang/Object"))) (by decide) (by decide))))
  have f118 : Arv Z h114 b109 k109 (.object "java/lang/Object") (10 : Int32) [] .null := (V109.other W114 (Ne.symm ne110))
  exact Go.done X114 Bd.notSynchronized (v := some (.ref b109)) (fun h => by rw [Bd.returns] at h; cases h) (fun fs hr => retA X114 hx Bd.returns rfl rfl rfl (hb hby d19_59) hr) (by rw [e114]; exact ⟨N114, K114, b109, _, rfl, sz_b109, f115, f116, Fw114, f117, f118, O109⟩) (by decide) (by decide)
theorem d18_0 : decode jdk_38_method_7_code 0 = .ok (.aload_n 0, 1) := by decide +kernel
theorem d18_1 : decode jdk_38_method_7_code 1 = .ok (.aload_n 0, 1) := by decide +kernel
theorem d18_2 : decode jdk_38_method_7_code 2 = .ok (.getfield 48, 3) := by decide +kernel
theorem d18_5 : decode jdk_38_method_7_code 5 = .ok (.iconst 1, 1) := by decide +kernel
theorem d18_6 : decode jdk_38_method_7_code 6 = .ok (.iadd, 1) := by decide +kernel
theorem d18_7 : decode jdk_38_method_7_code 7 = .ok (.invokevirtual 69, 3) := by decide +kernel
theorem d18_10 : decode jdk_38_method_7_code 10 = .ok (.areturn, 1) := by decide +kernel
theorem pd_5a5ffe8 : parseMethodDescriptor "(I)[Ljava/lang/Object;" = some ⟨[.int], some (.array (.object "java/lang/Object"))⟩ := by decide +kernel
theorem ef_18 (m : MethodId) (x0 : Addr) : entryFrame m #[(.ref x0)] 1 = mkF m 0 #[.val (.ref x0)] [] := by first | (simp [entryFrame, mkF, argsToLocals, Value.category]; done) | rfl
def Q_rmG0 (Z : State) (a1 de : Addr) (mc : Int32) (h0 : Heap) (n0 : Nat) (v : Option Value) (h : Heap) (L : List Loc) : Prop := Fr n0 L ∧ Keep h0 h [a1] ∧ ∃ (ed : Addr) (ke : ClassId), v = some (.ref ed) ∧ h0.size ≤ ed ∧ Exa Z h a1 "java/util/ArrayList" ∧ Fld Z h a1 "java/util/AbstractList" "modCount" "I" (.int mc) ∧ Fld Z h a1 "java/util/ArrayList" "elementData" "[Ljava/lang/Object;" (.ref ed) ∧ Fld Z h a1 "java/util/ArrayList" "size" "I" (.int (0 : Int32)) ∧ Arv Z h ed ke (.object "java/lang/Object") (10 : Int32) [] .null ∧ Ovr Z ke "java/lang/Object"
set_option maxRecDepth 65536 in
set_option maxHeartbeats 40000000 in
theorem rmG0 (l : Launch) (Z : State) (a0 : Array Value) (hw : ∀ d ∈ tables_1, d.before a0 Z = true) (a1 de : Addr) (mc : Int32) (h0 : Heap) (n0 : Nat) (Z0 : n0 ≤ h0.size) (X00 : Old Z n0 h0) (Sd : Sta Z Z.heap "java/util/ArrayList" "DEFAULTCAPACITY_EMPTY_ELEMENTDATA" "[Ljava/lang/Object;" (.ref de)) (Bde : own_D Z h0 de) (E1 : Exa Z h0 a1 "java/util/ArrayList") (g_a1 : n0 ≤ a1) (F_modCount : Fld Z h0 a1 "java/util/AbstractList" "modCount" "I" (.int mc)) (F_elementData : Fld Z h0 a1 "java/util/ArrayList" "elementData" "[Ljava/lang/Object;" (.ref de)) (F_size : Fld Z h0 a1 "java/util/ArrayList" "size" "I" (.int (0 : Int32))) :
    MetFree l (⟨"java/util/ArrayList", "grow", "()[Ljava/lang/Object;"⟩ : MethodName) (head1 [Jvm.Cond.code (⟨"java/util/ArrayList", "grow", "()[Ljava/lang/Object;"⟩ : MethodName) jdk_38_method_7_code 1 (some (.array (.object "java/lang/Object")))] ({ frames := 2, cells := 1, slots := 10, locals := 29 } : Room)) (fun a U => a = #[(.ref a1)] ∧ Z.Warmed39 U.vm ∧ U.heap = h0) (fun _ _ _ _ _ => True) (fun _ U o U' => ∃ v L, o = .returned v ∧ (Q_rmG0 Z a1 de mc h0 n0) v U'.heap L ∧ FrameEnd U o U' L ({ frames := 2, cells := 1, slots := 10, locals := 29 } : Room).cells ({ frames := 2, cells := 1, slots := 10, locals := 29 } : Room).slots) := by
  refine MetFree.of_bodySF (plainFor_of_name pn_c56ca98) hisR ?_
  intro p e s m args below meth c s₁ Bd hml0 hP hK
  obtain ⟨rfl, hZ, hh⟩ := hP
  have hx := Bd.exec
  have hby := Bd.bytes
  have hml : c.maxLocals = 1 := hml0
  have hown : s.vm.findClass "java/util/ArrayList" = some m.cls := findClass_of_methodNamed Bd.named
  have hnm := (name_of_methodNamed Bd.named Bd.method).1
  have X0 : Stand p l e ({ frames := 2, cells := 1, slots := 10, locals := 29 } : Room) s m #[(.ref a1)] below meth c s₁ [] 0 0 := Stand.of_body Bd
  have e0 : s₁.heap = h0 := by rw [← hh, Bd.state]; rfl
  have N0 := Fr.nil n0
  have K0 : Keep h0 h0 [a1] := Keep.refl h0 [a1]
  show Go p e below (s₁.setTop (entryFrame m #[(.ref a1)] 1)) (EndN s (Q_rmG0 Z a1 de mc h0 n0) ({ frames := 2, cells := 1, slots := 10, locals := 29 } : Room).cells ({ frames := 2, cells := 1, slots := 10, locals := 29 } : Room).slots)
  refine Go.top (ef_18 m a1) ?_
  have own_KX : ∀ y_ ∈ [a1], n0 ≤ y_ := (allS g_a1 all0)
  refine Go.st (T' := s₁.setTop (mkF m 1 #[.val (.ref a1)] [(.ref a1)])) (fun zt zk => XS.aloadN X0.here hx rfl (hb hby d18_0) rfl rfl zk) ?_
  refine Go.st (T' := s₁.setTop (mkF m 2 #[.val (.ref a1)] [(.ref a1), (.ref a1)])) (fun zt zk => XS.aloadN X0.here hx rfl (hb hby d18_1) rfl rfl zk) ?_
  obtain ⟨T119, X119, e119, st119⟩ := getF X0 hx hZ hown (host := "") (Or.inl (hw _ (List.mem_of_getElem? (i := 70) rfl))) Via.refl e0 F_size (g := (mkF m 2 #[.val (.ref a1)] [(.ref a1), (.ref a1)])) rfl rfl (hb hby d18_2)
  refine Go.st (T' := T119.setTop (mkF m 5 #[.val (.ref a1)] [(.int (0 : Int32)), (.ref a1)])) (fun zt zk => st119 zt zk) ?_
  refine Go.st (T' := T119.setTop (mkF m 6 #[.val (.ref a1)] [(.int (1 : Int32)), (.int (0 : Int32)), (.ref a1)])) (fun zt zk => XS.iconst X119.here hx rfl (hb hby d18_5) zk) ?_
  refine Go.st (T' := T119.setTop (mkF m 7 #[.val (.ref a1)] [(.int ((0 : Int32) + (1 : Int32))), (.ref a1)])) (fun zt zk => XS.iadd X119.here hx rfl (hb hby d18_6) rfl zk) ?_
  rw [show (0 : Int32) + (1 : Int32) = (1 : Int32) by decide]
  obtain ⟨cq120, kq120, q120a, q120b, q120c⟩ := isOf hZ e119 E1
  obtain ⟨vr120, _, ⟨T120, L120, k120, n120⟩, -, X120, ⟨Lc120, hQ120, l120, y120, z120⟩, st120⟩ := X119.virtualBack hx (y := (⟨"java/util/ArrayList", "grow", "(I)[Ljava/lang/Object;"⟩ : MethodName)) (z := (⟨"java/util/ArrayList", "grow", "(I)[Ljava/lang/Object;"⟩ : MethodName)) hown (mvT hZ (hw _ (List.mem_of_getElem? (i := 107) rfl))) (mvT hZ (own_decl (hw _ (List.mem_of_getElem? (i := 108) rfl)) (hw _ (List.mem_of_getElem? (i := 111) rfl)))) (notFace_of_selects (args := #[]) (mvT hZ (hw _ (List.mem_of_getElem? (i := 110) rfl)))) (mvT hZ (hw _ (List.mem_of_getElem? (i := 110) rfl))) (mvT hZ (hw _ (List.mem_of_getElem? (i := 108) rfl))) (by decide) (backOf (W := 0) (rmG1 l Z a0 hw a1 de mc h0 n0 (Nat.le_trans Z0 K0.1) (X00.keep K0 own_KX) Sd Bde E1 g_a1 F_modCount F_elementData F_size) hZ (hw _ (List.mem_of_getElem? (i := 111) rfl)) (hw _ (List.mem_of_getElem? (i := 35) rfl)) (by decide) (by decide)) q120a q120c (g := (mkF m 7 #[.val (.ref a1)] [(.int (1 : Int32)), (.ref a1)])) rfl (by rw [hml]; rfl) (Steps.refl _) (argsL := [(.int (1 : Int32))]) (rest := []) (lenOf pd_5a5ffe8 rfl) rfl (by show 2 * 0 + _ ≤ _; exact Nat.le_of_eq rfl) (hb hby d18_7) (fun _ _ => ⟨rfl, e119, (by decide : 0 + 1 ≤ _), (by decide : 0 + 10 ≤ _)⟩)
  dsimp only [Pt.U, Pt.locs, Pt.cells, Pt.slots] at X120 l120 y120 z120 st120 hQ120
  subst l120 y120 z120
  obtain ⟨Nq120, Kq120, ed120, ke120, rfl, sy120, E120, Fa120, Fb120, Fc120, V120, Ov120⟩ := hQ120
  have sz_ed120 : h0.size ≤ ed120 := Nat.le_trans K0.1 sy120
  have g_ed120 : n0 ≤ ed120 := Nat.le_trans Z0 sz_ed120
  have na120 : a1 ≠ ed120 := Nat.ne_of_lt (Nat.lt_of_lt_of_le E1.lt sy120)
  have KK121 : Keep h0 T120.heap [a1] := K0.trans Kq120 (allS (Or.inl (List.mem_of_getElem? (i := 0) rfl)) all0)
  have NN122 := Fr.app N0 Nq120
  refine Go.st (T' := T120.setTop (mkF m 10 #[.val (.ref a1)] [(.ref ed120)])) (fun zt zk => st120.trans zk) ?_
  exact Go.done X120 Bd.notSynchronized (v := some (.ref ed120)) (fun h => by rw [Bd.returns] at h; cases h) (fun fs hr => retA X120 hx Bd.returns rfl rfl rfl (hb hby d18_10) hr) (by rw [(rfl : T120.heap = T120.heap)]; exact ⟨NN122, KK121, ed120, _, rfl, sz_ed120, E120, Fa120, Fb120, Fc120, V120, Ov120⟩) (by decide) (by decide)
theorem d17_0 : decode jdk_38_method_24_code 0 = .ok (.iload_n 3, 1) := by decide +kernel
theorem d17_1 : decode jdk_38_method_24_code 1 = .ok (.aload_n 2, 1) := by decide +kernel
theorem d17_2 : decode jdk_38_method_24_code 2 = .ok (.arraylength, 1) := by decide +kernel
theorem d17_3 : decode jdk_38_method_24_code 3 = .ok (.if_icmp .ne 8, 3) := by decide +kernel
theorem d17_6 : decode jdk_38_method_24_code 6 = .ok (.aload_n 0, 1) := by decide +kernel
theorem d17_7 : decode jdk_38_method_24_code 7 = .ok (.invokevirtual 129, 3) := by decide +kernel
theorem d17_10 : decode jdk_38_method_24_code 10 = .ok (.astore_n 2, 1) := by decide +kernel
theorem d17_11 : decode jdk_38_method_24_code 11 = .ok (.aload_n 2, 1) := by decide +kernel
theorem d17_12 : decode jdk_38_method_24_code 12 = .ok (.iload_n 3, 1) := by decide +kernel
theorem d17_13 : decode jdk_38_method_24_code 13 = .ok (.aload_n 1, 1) := by decide +kernel
theorem d17_14 : decode jdk_38_method_24_code 14 = .ok (.aastore, 1) := by decide +kernel
theorem d17_15 : decode jdk_38_method_24_code 15 = .ok (.aload_n 0, 1) := by decide +kernel
theorem d17_16 : decode jdk_38_method_24_code 16 = .ok (.iload_n 3, 1) := by decide +kernel
theorem d17_17 : decode jdk_38_method_24_code 17 = .ok (.iconst 1, 1) := by decide +kernel
theorem d17_18 : decode jdk_38_method_24_code 18 = .ok (.iadd, 1) := by decide +kernel
theorem d17_19 : decode jdk_38_method_24_code 19 = .ok (.putfield 48, 3) := by decide +kernel
theorem d17_22 : decode jdk_38_method_24_code 22 = .ok (.return_, 1) := by decide +kernel
theorem pd_9f5bfee : parseMethodDescriptor "()[Ljava/lang/Object;" = some ⟨[], some (.array (.object "java/lang/Object"))⟩ := by decide +kernel
theorem ef_17 (m : MethodId) (x0 : Addr) (x1 : Addr) (x2 : Addr) (x3 : Int32) : entryFrame m #[(.ref x0), (.ref x1), (.ref x2), (.int x3)] 4 = mkF m 0 #[.val (.ref x0), .val (.ref x1), .val (.ref x2), .val (.int x3)] [] := by first | (simp [entryFrame, mkF, argsToLocals, Value.category]; done) | rfl
def Q_rmA3a (Z : State) (a1 x de : Addr) (mc : Int32) (h0 : Heap) (n0 : Nat) (v : Option Value) (h : Heap) (L : List Loc) : Prop := v = none ∧ Fr n0 L ∧ Keep h0 h [a1] ∧ ∃ (ed : Addr) (ke : ClassId), h0.size ≤ ed ∧ own_AL Z h a1 ed ke [x]
set_option maxRecDepth 65536 in
set_option maxHeartbeats 40000000 in
theorem rmA3a (l : Launch) (Z : State) (a0 : Array Value) (hw : ∀ d ∈ tables_1, d.before a0 Z = true) (a1 x de : Addr) (mc : Int32) (h0 : Heap) (n0 : Nat) (Z0 : n0 ≤ h0.size) (X00 : Old Z n0 h0) (Sd : Sta Z Z.heap "java/util/ArrayList" "DEFAULTCAPACITY_EMPTY_ELEMENTDATA" "[Ljava/lang/Object;" (.ref de)) (Bde : own_D Z h0 de) (E1 : Exa Z h0 a1 "java/util/ArrayList") (g_a1 : n0 ≤ a1) (F_modCount : Fld Z h0 a1 "java/util/AbstractList" "modCount" "I" (.int mc)) (F_elementData : Fld Z h0 a1 "java/util/ArrayList" "elementData" "[Ljava/lang/Object;" (.ref de)) (F_size : Fld Z h0 a1 "java/util/ArrayList" "size" "I" (.int (0 : Int32))) (Ex : Exa Z h0 x "java/lang/String") :
    MetFree l (⟨"java/util/ArrayList", "add", "(Ljava/lang/Object;[Ljava/lang/Object;I)V"⟩ : MethodName) (head1 [Jvm.Cond.code (⟨"java/util/ArrayList", "add", "(Ljava/lang/Object;[Ljava/lang/Object;I)V"⟩ : MethodName) jdk_38_method_24_code 4 none] ({ frames := 3, cells := 1, slots := 10, locals := 41 } : Room)) (fun a U => a = #[(.ref a1), (.ref x), (.ref de), (.int (0 : Int32))] ∧ Z.Warmed39 U.vm ∧ U.heap = h0) (fun _ _ _ _ _ => True) (fun _ U o U' => ∃ v L, o = .returned v ∧ (Q_rmA3a Z a1 x de mc h0 n0) v U'.heap L ∧ FrameEnd U o U' L ({ frames := 3, cells := 1, slots := 10, locals := 41 } : Room).cells ({ frames := 3, cells := 1, slots := 10, locals := 41 } : Room).slots) := by
  refine MetFree.of_bodySF (plainFor_of_name pn_c56ca98) hisR ?_
  intro p e s m args below meth c s₁ Bd hml0 hP hK
  obtain ⟨rfl, hZ, hh⟩ := hP
  have hx := Bd.exec
  have hby := Bd.bytes
  have hml : c.maxLocals = 4 := hml0
  have hown : s.vm.findClass "java/util/ArrayList" = some m.cls := findClass_of_methodNamed Bd.named
  have hnm := (name_of_methodNamed Bd.named Bd.method).1
  have X0 : Stand p l e ({ frames := 3, cells := 1, slots := 10, locals := 41 } : Room) s m #[(.ref a1), (.ref x), (.ref de), (.int (0 : Int32))] below meth c s₁ [] 0 0 := Stand.of_body Bd
  have e0 : s₁.heap = h0 := by rw [← hh, Bd.state]; rfl
  have N0 := Fr.nil n0
  have K0 : Keep h0 h0 [a1] := Keep.refl h0 [a1]
  show Go p e below (s₁.setTop (entryFrame m #[(.ref a1), (.ref x), (.ref de), (.int (0 : Int32))] 4)) (EndN s (Q_rmA3a Z a1 x de mc h0 n0) ({ frames := 3, cells := 1, slots := 10, locals := 41 } : Room).cells ({ frames := 3, cells := 1, slots := 10, locals := 41 } : Room).slots)
  refine Go.top (ef_17 m a1 x de (0 : Int32)) ?_
  have own_KX : ∀ y_ ∈ [a1], n0 ≤ y_ := (allS g_a1 all0)
  refine Go.st (T' := s₁.setTop (mkF m 1 #[.val (.ref a1), .val (.ref x), .val (.ref de), .val (.int (0 : Int32))] [(.int (0 : Int32))])) (fun zt zk => XS.iloadN X0.here hx rfl (hb hby d17_0) rfl zk) ?_
  refine Go.st (T' := s₁.setTop (mkF m 2 #[.val (.ref a1), .val (.ref x), .val (.ref de), .val (.int (0 : Int32))] [(.ref de), (.int (0 : Int32))])) (fun zt zk => XS.aloadN X0.here hx rfl (hb hby d17_1) rfl rfl zk) ?_
  obtain ⟨cl123, Ar123, hl123⟩ := id Bde
  refine Go.st (T' := s₁.setTop (mkF m 3 #[.val (.ref a1), .val (.ref x), .val (.ref de), .val (.int (0 : Int32))] [(.int (0 : Int32)), (.int (0 : Int32))])) (fun zt zk => X0.arraylength hx (by rw [e0]; exact Ar123.1) (State.isArrayOf_alike hZ.alike Ar123.2.1) (g := (mkF m 2 #[.val (.ref a1), .val (.ref x), .val (.ref de), .val (.int (0 : Int32))] [(.ref de), (.int (0 : Int32))])) rfl rfl (hb hby d17_2) zt (by rw [hl123]; exact zk)) ?_
  refine Go.st (T' := s₁.setTop (mkF m 6 #[.val (.ref a1), .val (.ref x), .val (.ref de), .val (.int (0 : Int32))] [])) (fun zt zk => XS.icmpNo X0.here hx rfl (hb hby d17_3) rfl (teq rfl).2 zk) ?_
  refine Go.st (T' := s₁.setTop (mkF m 7 #[.val (.ref a1), .val (.ref x), .val (.ref de), .val (.int (0 : Int32))] [(.ref a1)])) (fun zt zk => XS.aloadN X0.here hx rfl (hb hby d17_6) rfl rfl zk) ?_
  obtain ⟨cq124, kq124, q124a, q124b, q124c⟩ := isOf hZ e0 E1
  obtain ⟨vr124, _, ⟨T124, L124, k124, n124⟩, -, X124, ⟨Lc124, hQ124, l124, y124, z124⟩, st124⟩ := X0.virtualBack hx (y := (⟨"java/util/ArrayList", "grow", "()[Ljava/lang/Object;"⟩ : MethodName)) (z := (⟨"java/util/ArrayList", "grow", "()[Ljava/lang/Object;"⟩ : MethodName)) hown (mvT hZ (hw _ (List.mem_of_getElem? (i := 102) rfl))) (mvT hZ (own_decl (hw _ (List.mem_of_getElem? (i := 103) rfl)) (hw _ (List.mem_of_getElem? (i := 106) rfl)))) (notFace_of_selects (args := #[]) (mvT hZ (hw _ (List.mem_of_getElem? (i := 105) rfl)))) (mvT hZ (hw _ (List.mem_of_getElem? (i := 105) rfl))) (mvT hZ (hw _ (List.mem_of_getElem? (i := 103) rfl))) (by decide) (backOf (W := 0) (rmG0 l Z a0 hw a1 de mc h0 n0 (Nat.le_trans Z0 K0.1) (X00.keep K0 own_KX) Sd Bde E1 g_a1 F_modCount F_elementData F_size) hZ (hw _ (List.mem_of_getElem? (i := 106) rfl)) (hw _ (List.mem_of_getElem? (i := 35) rfl)) (by decide) (by decide)) q124a q124c (g := (mkF m 7 #[.val (.ref a1), .val (.ref x), .val (.ref de), .val (.int (0 : Int32))] [(.ref a1)])) rfl (by rw [hml]; rfl) (Steps.refl _) (argsL := []) (rest := []) (lenOf pd_9f5bfee rfl) rfl (by show 2 * 0 + _ ≤ _; exact Nat.le_of_eq rfl) (hb hby d17_7) (fun _ _ => ⟨rfl, e0, (by decide : 0 + 1 ≤ _), (by decide : 0 + 10 ≤ _)⟩)
  dsimp only [Pt.U, Pt.locs, Pt.cells, Pt.slots] at X124 l124 y124 z124 st124 hQ124
  subst l124 y124 z124
  obtain ⟨Nq124, Kq124, ed124, ke124, rfl, sy124, E124, Fa124, Fb124, Fc124, V124, Ov124⟩ := hQ124
  have Ex2 := Ex.keep Kq124
  have sz_ed124 : h0.size ≤ ed124 := Nat.le_trans K0.1 sy124
  have g_ed124 : n0 ≤ ed124 := Nat.le_trans Z0 sz_ed124
  have na124 : a1 ≠ ed124 := Nat.ne_of_lt (Nat.lt_of_lt_of_le E1.lt sy124)
  have KK125 : Keep h0 T124.heap [a1] := K0.trans Kq124 (allS (Or.inl (List.mem_of_getElem? (i := 0) rfl)) all0)
  have NN126 := Fr.app N0 Nq124
  refine Go.st (T' := T124.setTop (mkF m 10 #[.val (.ref a1), .val (.ref x), .val (.ref de), .val (.int (0 : Int32))] [(.ref ed124)])) (fun zt zk => st124.trans zk) ?_
  refine Go.st (T' := T124.setTop (mkF m 11 #[.val (.ref a1), .val (.ref x), .val (.ref ed124), .val (.int (0 : Int32))] [])) (fun zt zk => XS.astoreN X124.here hx rfl (hb hby d17_10) rfl rfl (l' := #[.val (.ref a1), .val (.ref x), .val (.ref ed124), .val (.int (0 : Int32))]) rfl zk) ?_
  refine Go.st (T' := T124.setTop (mkF m 12 #[.val (.ref a1), .val (.ref x), .val (.ref ed124), .val (.int (0 : Int32))] [(.ref ed124)])) (fun zt zk => XS.aloadN X124.here hx rfl (hb hby d17_11) rfl rfl zk) ?_
  refine Go.st (T' := T124.setTop (mkF m 13 #[.val (.ref a1), .val (.ref x), .val (.ref ed124), .val (.int (0 : Int32))] [(.int (0 : Int32)), (.ref ed124)])) (fun zt zk => XS.iloadN X124.here hx rfl (hb hby d17_12) rfl zk) ?_
  refine Go.st (T' := T124.setTop (mkF m 14 #[.val (.ref a1), .val (.ref x), .val (.ref ed124), .val (.int (0 : Int32))] [(.ref x), (.int (0 : Int32)), (.ref ed124)])) (fun zt zk => XS.aloadN X124.here hx rfl (hb hby d17_13) rfl rfl zk) ?_
  have hnil : ([] : List Addr).length = 0 := rfl
  have Vp := (V124).pad (pad_rep (([] : List Addr).map Value.ref) .null (10 - ([] : List Addr).length))
  obtain ⟨cl127, Ar127, q127, S127, M127, H127, G127⟩ := id Vp
  obtain ⟨T127, h127, X127, e127, W127, st127⟩ := stR X124 hx hZ rfl Ar127 (j := (0 : Int32)) (inb_of S127 ⟨by decide, by decide⟩) rfl (Sto.ofV Ar127 q127 Ov124 (Ins.of_exa Ex2 (hw _ (List.mem_of_getElem? (i := 118) rfl)))) (g := (mkF m 14 #[.val (.ref a1), .val (.ref x), .val (.ref ed124), .val (.int (0 : Int32))] [(.ref x), (.int (0 : Int32)), (.ref ed124)])) rfl rfl (hb hby d17_14)
  have V127 : Arv Z h127 ed124 ke124 (.object "java/lang/Object") (10 : Int32) ((([] : List Addr).map Value.ref ++ List.replicate (10 - ([] : List Addr).length) Value.null).set ([] : List Addr).length (.ref x)) .null := Arv.set Ar127 q127 S127 M127 H127 G127 rfl W127 ([] : List Addr).length rfl (by rw [List.length_append, List.length_map, List.length_replicate]; exact Nat.le_of_ble_eq_true rfl)
  have K127 : Keep h0 h127 [a1] := KK125.wr W127 (Or.inr sz_ed124)
  have N127 := Fr.snoc X127 NN126 g_ed124
  refine Go.st (T' := T127.setTop (mkF m 15 #[.val (.ref a1), .val (.ref x), .val (.ref ed124), .val (.int (0 : Int32))] [])) (fun zt zk => st127 zt zk) ?_
  have Vq := (V127).pad (own_pd ([] : List Addr) x (by omega))
  refine Go.st (T' := T127.setTop (mkF m 16 #[.val (.ref a1), .val (.ref x), .val (.ref ed124), .val (.int (0 : Int32))] [(.ref a1)])) (fun zt zk => XS.aloadN X127.here hx rfl (hb hby d17_15) rfl rfl zk) ?_
  refine Go.st (T' := T127.setTop (mkF m 17 #[.val (.ref a1), .val (.ref x), .val (.ref ed124), .val (.int (0 : Int32))] [(.int (0 : Int32)), (.ref a1)])) (fun zt zk => XS.iloadN X127.here hx rfl (hb hby d17_16) rfl zk) ?_
  refine Go.st (T' := T127.setTop (mkF m 18 #[.val (.ref a1), .val (.ref x), .val (.ref ed124), .val (.int (0 : Int32))] [(.int (1 : Int32)), (.int (0 : Int32)), (.ref a1)])) (fun zt zk => XS.iconst X127.here hx rfl (hb hby d17_17) zk) ?_
  refine Go.st (T' := T127.setTop (mkF m 19 #[.val (.ref a1), .val (.ref x), .val (.ref ed124), .val (.int (0 : Int32))] [(.int ((0 : Int32) + (1 : Int32))), (.ref a1)])) (fun zt zk => XS.iadd X127.here hx rfl (hb hby d17_18) rfl zk) ?_
  have f128 : Fld Z h127 a1 "java/util/ArrayList" "size" "I" (.int (0 : Int32)) := (Fc124.other W127 (Or.inl na124))
  have f129 : Exa Z h127 a1 "java/util/ArrayList" := (E124.wr W127)
  obtain ⟨T130, h130, X130, e130, W130, st130⟩ := putF X127 hx hZ hown (host := "") (Or.inl (hw _ (List.mem_of_getElem? (i := 70) rfl))) Via.refl e127 f128 f129 (Or.inl (hw _ (List.mem_of_getElem? (i := 71) rfl))) (hw _ (List.mem_of_getElem? (i := 34) rfl)) (ty := .int) (by decide) rfl rfl (g := (mkF m 19 #[.val (.ref a1), .val (.ref x), .val (.ref ed124), .val (.int (0 : Int32))] [(.int ((0 : Int32) + (1 : Int32))), (.ref a1)])) rfl rfl (hb hby d17_19)
  have Fw130 : Fld Z h130 a1 "java/util/ArrayList" "size" "I" (.int ((0 : Int32) + (1 : Int32))) := f128.same W130
  have K130 : Keep h0 h130 [a1] := K127.wr W130 (Or.inl (List.mem_of_getElem? (i := 0) rfl))
  have N130 := Fr.snoc X130 N127 g_a1
  refine Go.st (T' := T130.setTop (mkF m 22 #[.val (.ref a1), .val (.ref x), .val (.ref ed124), .val (.int (0 : Int32))] [])) (fun zt zk => st130 zt zk) ?_
  have f131 : Exa Z h130 a1 "java/util/ArrayList" := (f129.wr W130)
  have f132 : Fld Z h130 a1 "java/util/AbstractList" "modCount" "I" (.int mc) := ((Fa124.other W127 (Or.inl na124)).other W130 (Or.inr (slot_ne (Or.inl (hw _ (List.mem_of_getElem? (i := 53) rfl))) (Or.inl (hw _ (List.mem_of_getElem? (i := 71) rfl))) (by decide) (t := .int) (t' := .int) (by decide) (by decide))))
  have f133 : Fld Z h130 a1 "java/util/ArrayList" "elementData" "[Ljava/lang/Object;" (.ref ed124) := ((Fb124.other W127 (Or.inl na124)).other W130 (Or.inr (slot_ne (Or.inl (hw _ (List.mem_of_getElem? (i := 56) rfl))) (Or.inl (hw _ (List.mem_of_getElem? (i := 71) rfl))) (by decide) (t := (.array (.object "java/lang/Object"))) (t' := .int) (by decide) (by decide))))
  have f134 : Arv Z h130 ed124 ke124 (.object "java/lang/Object") (10 : Int32) ((([] : List Addr) ++ [x]).map Value.ref) .null := (Vq.other W130 (Ne.symm na124))
  exact Go.done X130 Bd.notSynchronized (v := none) (fun _ => rfl) (fun fs hr => X130.returnOut hx Bd.returns (hb hby d17_22) hr) (by rw [e130]; exact ⟨rfl, N130, K130, ed124, _, sz_ed124, f131, ⟨_, f132⟩, Fw130, f133, f134, Ov124⟩) (by decide) (by decide)
def Q_rmA3b (Z : State) (a1 x ed : Addr) (ke : ClassId) (ys : List Addr) (h0 : Heap) (n0 : Nat) (v : Option Value) (h : Heap) (L : List Loc) : Prop := v = none ∧ Fr n0 L ∧ Keep h0 h [a1, ed] ∧ own_AL Z h a1 ed ke (ys ++ [x])
set_option maxRecDepth 65536 in
set_option maxHeartbeats 40000000 in
theorem rmA3b (l : Launch) (Z : State) (a0 : Array Value) (hw : ∀ d ∈ tables_1, d.before a0 Z = true) (a1 x ed : Addr) (ke : ClassId) (ys : List Addr) (h0 : Heap) (n0 : Nat) (Z0 : n0 ≤ h0.size) (AL_ : own_AL Z h0 a1 ed ke ys) (hy : ys.length ≤ 2) (g_a1 : n0 ≤ a1) (g_ed : n0 ≤ ed) (nae : a1 ≠ ed) (Ex : Exa Z h0 x "java/lang/String") :
    MetFree l (⟨"java/util/ArrayList", "add", "(Ljava/lang/Object;[Ljava/lang/Object;I)V"⟩ : MethodName) (head1 [Jvm.Cond.code (⟨"java/util/ArrayList", "add", "(Ljava/lang/Object;[Ljava/lang/Object;I)V"⟩ : MethodName) jdk_38_method_24_code 4 none] ({ frames := 0, cells := 0, slots := 0, locals := 0 } : Room)) (fun a U => a = #[(.ref a1), (.ref x), (.ref ed), (.int (Int32.ofNat ys.length))] ∧ Z.Warmed39 U.vm ∧ U.heap = h0) (fun _ _ _ _ _ => True) (fun _ U o U' => ∃ v L, o = .returned v ∧ (Q_rmA3b Z a1 x ed ke ys h0 n0) v U'.heap L ∧ FrameEnd U o U' L ({ frames := 0, cells := 0, slots := 0, locals := 0 } : Room).cells ({ frames := 0, cells := 0, slots := 0, locals := 0 } : Room).slots) := by
  refine MetFree.of_bodySF (plainFor_of_name pn_c56ca98) hisR ?_
  intro p e s m args below meth c s₁ Bd hml0 hP hK
  obtain ⟨rfl, hZ, hh⟩ := hP
  have hx := Bd.exec
  have hby := Bd.bytes
  have hml : c.maxLocals = 4 := hml0
  have hown : s.vm.findClass "java/util/ArrayList" = some m.cls := findClass_of_methodNamed Bd.named
  have hnm := (name_of_methodNamed Bd.named Bd.method).1
  have X0 : Stand p l e ({ frames := 0, cells := 0, slots := 0, locals := 0 } : Room) s m #[(.ref a1), (.ref x), (.ref ed), (.int (Int32.ofNat ys.length))] below meth c s₁ [] 0 0 := Stand.of_body Bd
  have e0 : s₁.heap = h0 := by rw [← hh, Bd.state]; rfl
  have N0 := Fr.nil n0
  have K0 : Keep h0 h0 [a1, ed] := Keep.refl h0 [a1, ed]
  show Go p e below (s₁.setTop (entryFrame m #[(.ref a1), (.ref x), (.ref ed), (.int (Int32.ofNat ys.length))] 4)) (EndN s (Q_rmA3b Z a1 x ed ke ys h0 n0) ({ frames := 0, cells := 0, slots := 0, locals := 0 } : Room).cells ({ frames := 0, cells := 0, slots := 0, locals := 0 } : Room).slots)
  refine Go.top (ef_17 m a1 x ed (Int32.ofNat ys.length)) ?_
  obtain ⟨E1, ⟨mc, F_modCount⟩, F_size, F_elementData, Va, Ov⟩ := id AL_
  refine Go.st (T' := s₁.setTop (mkF m 1 #[.val (.ref a1), .val (.ref x), .val (.ref ed), .val (.int (Int32.ofNat ys.length))] [(.int (Int32.ofNat ys.length))])) (fun zt zk => XS.iloadN X0.here hx rfl (hb hby d17_0) rfl zk) ?_
  refine Go.st (T' := s₁.setTop (mkF m 2 #[.val (.ref a1), .val (.ref x), .val (.ref ed), .val (.int (Int32.ofNat ys.length))] [(.ref ed), (.int (Int32.ofNat ys.length))])) (fun zt zk => XS.aloadN X0.here hx rfl (hb hby d17_1) rfl rfl zk) ?_
  obtain ⟨cl135, Ar135, -, S135, M135, -, -⟩ := id Va
  refine Go.st (T' := s₁.setTop (mkF m 3 #[.val (.ref a1), .val (.ref x), .val (.ref ed), .val (.int (Int32.ofNat ys.length))] [(.int (10 : Int32)), (.int (Int32.ofNat ys.length))])) (fun zt zk => X0.arraylength hx (by rw [e0]; exact Ar135.1) (State.isArrayOf_alike hZ.alike Ar135.2.1) (g := (mkF m 2 #[.val (.ref a1), .val (.ref x), .val (.ref ed), .val (.int (Int32.ofNat ys.length))] [(.ref ed), (.int (Int32.ofNat ys.length))])) rfl rfl (hb hby d17_2) zt (by rw [len_of S135 M135]; exact zk)) ?_
  refine Go.st (T' := s₁.setTop (mkF m 11 #[.val (.ref a1), .val (.ref x), .val (.ref ed), .val (.int (Int32.ofNat ys.length))] [])) (fun zt zk => XS.icmpYes X0.here hx rfl (pc0 := 3) (pc' := 11) rfl (hb hby d17_3) rfl (feq (fun q => absurd ((own_eq32 (n := 10) (by omega) (by omega)).mp q) (by omega))).2 (by decide) (by decide) zk) ?_
  refine Go.st (T' := s₁.setTop (mkF m 12 #[.val (.ref a1), .val (.ref x), .val (.ref ed), .val (.int (Int32.ofNat ys.length))] [(.ref ed)])) (fun zt zk => XS.aloadN X0.here hx rfl (hb hby d17_11) rfl rfl zk) ?_
  refine Go.st (T' := s₁.setTop (mkF m 13 #[.val (.ref a1), .val (.ref x), .val (.ref ed), .val (.int (Int32.ofNat ys.length))] [(.int (Int32.ofNat ys.length)), (.ref ed)])) (fun zt zk => XS.iloadN X0.here hx rfl (hb hby d17_12) rfl zk) ?_
  refine Go.st (T' := s₁.setTop (mkF m 14 #[.val (.ref a1), .val (.ref x), .val (.ref ed), .val (.int (Int32.ofNat ys.length))] [(.ref x), (.int (Int32.ofNat ys.length)), (.ref ed)])) (fun zt zk => XS.aloadN X0.here hx rfl (hb hby d17_13) rfl rfl zk) ?_
  have Vp := (Va).pad (pad_rep (ys.map Value.ref) .null (10 - ys.length))
  obtain ⟨cl136, Ar136, q136, S136, M136, H136, G136⟩ := id Vp
  obtain ⟨T136, h136, X136, e136, W136, st136⟩ := stR X0 hx hZ e0 Ar136 (j := (Int32.ofNat ys.length)) (inb_of S136 ⟨own_nn (by omega), (own_lt32 (n := 10) (by omega) (by omega)).mpr (by omega)⟩) rfl (Sto.ofV Ar136 q136 Ov (Ins.of_exa Ex (hw _ (List.mem_of_getElem? (i := 118) rfl)))) (g := (mkF m 14 #[.val (.ref a1), .val (.ref x), .val (.ref ed), .val (.int (Int32.ofNat ys.length))] [(.ref x), (.int (Int32.ofNat ys.length)), (.ref ed)])) rfl rfl (hb hby d17_14)
  have V136 : Arv Z h136 ed ke (.object "java/lang/Object") (10 : Int32) ((ys.map Value.ref ++ List.replicate (10 - ys.length) Value.null).set ys.length (.ref x)) .null := Arv.set Ar136 q136 S136 M136 H136 G136 rfl W136 ys.length (own_clamp (by omega)) (by rw [List.length_append, List.length_map, List.length_replicate]; omega)
  have K136 : Keep h0 h136 [a1, ed] := K0.wr W136 (Or.inl (List.mem_of_getElem? (i := 1) rfl))
  have N136 := Fr.snoc X136 N0 g_ed
  refine Go.st (T' := T136.setTop (mkF m 15 #[.val (.ref a1), .val (.ref x), .val (.ref ed), .val (.int (Int32.ofNat ys.length))] [])) (fun zt zk => st136 zt zk) ?_
  have Vq := (V136).pad (own_pd ys x (by omega))
  refine Go.st (T' := T136.setTop (mkF m 16 #[.val (.ref a1), .val (.ref x), .val (.ref ed), .val (.int (Int32.ofNat ys.length))] [(.ref a1)])) (fun zt zk => XS.aloadN X136.here hx rfl (hb hby d17_15) rfl rfl zk) ?_
  refine Go.st (T' := T136.setTop (mkF m 17 #[.val (.ref a1), .val (.ref x), .val (.ref ed), .val (.int (Int32.ofNat ys.length))] [(.int (Int32.ofNat ys.length)), (.ref a1)])) (fun zt zk => XS.iloadN X136.here hx rfl (hb hby d17_16) rfl zk) ?_
  refine Go.st (T' := T136.setTop (mkF m 18 #[.val (.ref a1), .val (.ref x), .val (.ref ed), .val (.int (Int32.ofNat ys.length))] [(.int (1 : Int32)), (.int (Int32.ofNat ys.length)), (.ref a1)])) (fun zt zk => XS.iconst X136.here hx rfl (hb hby d17_17) zk) ?_
  refine Go.st (T' := T136.setTop (mkF m 19 #[.val (.ref a1), .val (.ref x), .val (.ref ed), .val (.int (Int32.ofNat ys.length))] [(.int ((Int32.ofNat ys.length) + (1 : Int32))), (.ref a1)])) (fun zt zk => XS.iadd X136.here hx rfl (hb hby d17_18) rfl zk) ?_
  rw [own_addn (k := (1 : Int32)) (b := 1) rfl (by omega)]
  have f137 : Fld Z h136 a1 "java/util/ArrayList" "size" "I" (.int (Int32.ofNat ys.length)) := (F_size.other W136 (Or.inl nae))
  have f138 : Exa Z h136 a1 "java/util/ArrayList" := (E1.wr W136)
  obtain ⟨T139, h139, X139, e139, W139, st139⟩ := putF X136 hx hZ hown (host := "") (Or.inl (hw _ (List.mem_of_getElem? (i := 70) rfl))) Via.refl e136 f137 f138 (Or.inl (hw _ (List.mem_of_getElem? (i := 71) rfl))) (hw _ (List.mem_of_getElem? (i := 34) rfl)) (ty := .int) (by decide) rfl rfl (g := (mkF m 19 #[.val (.ref a1), .val (.ref x), .val (.ref ed), .val (.int (Int32.ofNat ys.length))] [(.int (Int32.ofNat (ys.length + 1))), (.ref a1)])) rfl rfl (hb hby d17_19)
  have Fw139 : Fld Z h139 a1 "java/util/ArrayList" "size" "I" (.int (Int32.ofNat (ys.length + 1))) := f137.same W139
  have K139 : Keep h0 h139 [a1, ed] := K136.wr W139 (Or.inl (List.mem_of_getElem? (i := 0) rfl))
  have N139 := Fr.snoc X139 N136 g_a1
  refine Go.st (T' := T139.setTop (mkF m 22 #[.val (.ref a1), .val (.ref x), .val (.ref ed), .val (.int (Int32.ofNat ys.length))] [])) (fun zt zk => st139 zt zk) ?_
  have f140 : Exa Z h139 a1 "java/util/ArrayList" := (f138.wr W139)
  have f141 : Fld Z h139 a1 "java/util/AbstractList" "modCount" "I" (.int mc) := ((F_modCount.other W136 (Or.inl nae)).other W139 (Or.inr (slot_ne (Or.inl (hw _ (List.mem_of_getElem? (i := 53) rfl))) (Or.inl (hw _ (List.mem_of_getElem? (i := 71) rfl))) (by decide) (t := .int) (t' := .int) (by decide) (by decide))))
  have f142 : Fld Z h139 a1 "java/util/ArrayList" "elementData" "[Ljava/lang/Object;" (.ref ed) := ((F_elementData.other W136 (Or.inl nae)).other W139 (Or.inr (slot_ne (Or.inl (hw _ (List.mem_of_getElem? (i := 56) rfl))) (Or.inl (hw _ (List.mem_of_getElem? (i := 71) rfl))) (by decide) (t := (.array (.object "java/lang/Object"))) (t' := .int) (by decide) (by decide))))
  have f143 : Arv Z h139 ed ke (.object "java/lang/Object") (10 : Int32) ((ys ++ [x]).map Value.ref) .null := (Vq.other W139 (Ne.symm nae))
  exact Go.done X139 Bd.notSynchronized (v := none) (fun _ => rfl) (fun fs hr => X139.returnOut hx Bd.returns (hb hby d17_22) hr) (by rw [e139]; exact ⟨rfl, N139, K139, f140, ⟨_, f141⟩, (by rw [List.length_append]; exact Fw139), f142, f143, Ov⟩) (by decide) (by decide)
theorem d16_0 : decode jdk_38_method_25_code 0 = .ok (.aload_n 0, 1) := by decide +kernel
theorem d16_1 : decode jdk_38_method_25_code 1 = .ok (.dup, 1) := by decide +kernel
theorem d16_2 : decode jdk_38_method_25_code 2 = .ok (.getfield 63, 3) := by decide +kernel
theorem d16_5 : decode jdk_38_method_25_code 5 = .ok (.iconst 1, 1) := by decide +kernel
theorem d16_6 : decode jdk_38_method_25_code 6 = .ok (.iadd, 1) := by decide +kernel
theorem d16_7 : decode jdk_38_method_25_code 7 = .ok (.putfield 63, 3) := by decide +kernel
theorem d16_10 : decode jdk_38_method_25_code 10 = .ok (.aload_n 0, 1) := by decide +kernel
theorem d16_11 : decode jdk_38_method_25_code 11 = .ok (.aload_n 1, 1) := by decide +kernel
theorem d16_12 : decode jdk_38_method_25_code 12 = .ok (.aload_n 0, 1) := by decide +kernel
theorem d16_13 : decode jdk_38_method_25_code 13 = .ok (.getfield 9, 3) := by decide +kernel
theorem d16_16 : decode jdk_38_method_25_code 16 = .ok (.aload_n 0, 1) := by decide +kernel
theorem d16_17 : decode jdk_38_method_25_code 17 = .ok (.getfield 48, 3) := by decide +kernel
theorem d16_20 : decode jdk_38_method_25_code 20 = .ok (.invokevirtual 131, 3) := by decide +kernel
theorem d16_23 : decode jdk_38_method_25_code 23 = .ok (.iconst 1, 1) := by decide +kernel
theorem d16_24 : decode jdk_38_method_25_code 24 = .ok (.ireturn, 1) := by decide +kernel
theorem pd_d753aca : parseMethodDescriptor "(Ljava/lang/Object;[Ljava/lang/Object;I)V" = some ⟨[(.object "java/lang/Object"), (.array (.object "java/lang/Object")), .int], none⟩ := by decide +kernel
theorem ef_16 (m : MethodId) (x0 : Addr) (x1 : Addr) : entryFrame m #[(.ref x0), (.ref x1)] 2 = mkF m 0 #[.val (.ref x0), .val (.ref x1)] [] := by first | (simp [entryFrame, mkF, argsToLocals, Value.category]; done) | rfl
def Q_rmAddA (Z : State) (a1 x de : Addr) (mc : Int32) (h0 : Heap) (n0 : Nat) (v : Option Value) (h : Heap) (L : List Loc) : Prop := v = some (.int (1 : Int32)) ∧ Fr n0 L ∧ Keep h0 h [a1] ∧ ∃ (ed : Addr) (ke : ClassId), h0.size ≤ ed ∧ own_AL Z h a1 ed ke [x]
set_option maxRecDepth 65536 in
set_option maxHeartbeats 40000000 in
theorem rmAddA (l : Launch) (Z : State) (a0 : Array Value) (hw : ∀ d ∈ tables_1, d.before a0 Z = true) (a1 x de : Addr) (mc : Int32) (h0 : Heap) (n0 : Nat) (Z0 : n0 ≤ h0.size) (X00 : Old Z n0 h0) (Sd : Sta Z Z.heap "java/util/ArrayList" "DEFAULTCAPACITY_EMPTY_ELEMENTDATA" "[Ljava/lang/Object;" (.ref de)) (Bde : own_D Z h0 de) (E1 : Exa Z h0 a1 "java/util/ArrayList") (g_a1 : n0 ≤ a1) (F_modCount : Fld Z h0 a1 "java/util/AbstractList" "modCount" "I" (.int mc)) (F_elementData : Fld Z h0 a1 "java/util/ArrayList" "elementData" "[Ljava/lang/Object;" (.ref de)) (F_size : Fld Z h0 a1 "java/util/ArrayList" "size" "I" (.int (0 : Int32))) (Ex : Exa Z h0 x "java/lang/String") (lde : de < n0) :
    MetFree l (⟨"java/util/ArrayList", "add", "(Ljava/lang/Object;)Z"⟩ : MethodName) (head1 [Jvm.Cond.code (⟨"java/util/ArrayList", "add", "(Ljava/lang/Object;)Z"⟩ : MethodName) jdk_38_method_25_code 2 (some .boolean)] ({ frames := 4, cells := 1, slots := 10, locals := 56 } : Room)) (fun a U => a = #[(.ref a1), (.ref x)] ∧ Z.Warmed39 U.vm ∧ U.heap = h0) (fun _ _ _ _ _ => True) (fun _ U o U' => ∃ v L, o = .returned v ∧ (Q_rmAddA Z a1 x de mc h0 n0) v U'.heap L ∧ FrameEnd U o U' L ({ frames := 4, cells := 1, slots := 10, locals := 56 } : Room).cells ({ frames := 4, cells := 1, slots := 10, locals := 56 } : Room).slots) := by
  refine MetFree.of_bodySF (plainFor_of_name pn_c56ca98) hisR ?_
  intro p e s m args below meth c s₁ Bd hml0 hP hK
  obtain ⟨rfl, hZ, hh⟩ := hP
  have hx := Bd.exec
  have hby := Bd.bytes
  have hml : c.maxLocals = 2 := hml0
  have hown : s.vm.findClass "java/util/ArrayList" = some m.cls := findClass_of_methodNamed Bd.named
  have hnm := (name_of_methodNamed Bd.named Bd.method).1
  have X0 : Stand p l e ({ frames := 4, cells := 1, slots := 10, locals := 56 } : Room) s m #[(.ref a1), (.ref x)] below meth c s₁ [] 0 0 := Stand.of_body Bd
  have e0 : s₁.heap = h0 := by rw [← hh, Bd.state]; rfl
  have N0 := Fr.nil n0
  have K0 : Keep h0 h0 [a1] := Keep.refl h0 [a1]
  show Go p e below (s₁.setTop (entryFrame m #[(.ref a1), (.ref x)] 2)) (EndN s (Q_rmAddA Z a1 x de mc h0 n0) ({ frames := 4, cells := 1, slots := 10, locals := 56 } : Room).cells ({ frames := 4, cells := 1, slots := 10, locals := 56 } : Room).slots)
  refine Go.top (ef_16 m a1 x) ?_
  have own_KX : ∀ y_ ∈ [a1], n0 ≤ y_ := (allS g_a1 all0)
  have nad : de ≠ a1 := Nat.ne_of_lt (Nat.lt_of_lt_of_le lde g_a1)
  refine Go.st (T' := s₁.setTop (mkF m 1 #[.val (.ref a1), .val (.ref x)] [(.ref a1)])) (fun zt zk => XS.aloadN X0.here hx rfl (hb hby d16_0) rfl rfl zk) ?_
  refine Go.st (T' := s₁.setTop (mkF m 2 #[.val (.ref a1), .val (.ref x)] [(.ref a1), (.ref a1)])) (fun zt zk => XS.dup X0.here hx rfl (hb hby d16_1) rfl rfl zk) ?_
  obtain ⟨T144, X144, e144, st144⟩ := getF X0 hx hZ hown (host := "") (Or.inl (hw _ (List.mem_of_getElem? (i := 95) rfl))) (Via.of (hw _ (List.mem_of_getElem? (i := 96) rfl))) e0 F_modCount (g := (mkF m 2 #[.val (.ref a1), .val (.ref x)] [(.ref a1), (.ref a1)])) rfl rfl (hb hby d16_2)
  refine Go.st (T' := T144.setTop (mkF m 5 #[.val (.ref a1), .val (.ref x)] [(.int mc), (.ref a1)])) (fun zt zk => st144 zt zk) ?_
  refine Go.st (T' := T144.setTop (mkF m 6 #[.val (.ref a1), .val (.ref x)] [(.int (1 : Int32)), (.int mc), (.ref a1)])) (fun zt zk => XS.iconst X144.here hx rfl (hb hby d16_5) zk) ?_
  refine Go.st (T' := T144.setTop (mkF m 7 #[.val (.ref a1), .val (.ref x)] [(.int (mc + (1 : Int32))), (.ref a1)])) (fun zt zk => XS.iadd X144.here hx rfl (hb hby d16_6) rfl zk) ?_
  obtain ⟨T145, h145, X145, e145, W145, st145⟩ := putF X144 hx hZ hown (host := "") (Or.inl (hw _ (List.mem_of_getElem? (i := 95) rfl))) (Via.of (hw _ (List.mem_of_getElem? (i := 96) rfl))) e144 F_modCount E1 (Or.inl (hw _ (List.mem_of_getElem? (i := 53) rfl))) (hw _ (List.mem_of_getElem? (i := 34) rfl)) (ty := .int) (by decide) rfl rfl (g := (mkF m 7 #[.val (.ref a1), .val (.ref x)] [(.int (mc + (1 : Int32))), (.ref a1)])) rfl rfl (hb hby d16_7)
  have Fw145 : Fld Z h145 a1 "java/util/AbstractList" "modCount" "I" (.int (mc + (1 : Int32))) := F_modCount.same W145
  have K145 : Keep h0 h145 [a1] := K0.wr W145 (Or.inl (List.mem_of_getElem? (i := 0) rfl))
  have N145 := Fr.snoc X145 N0 g_a1
  refine Go.st (T' := T145.setTop (mkF m 10 #[.val (.ref a1), .val (.ref x)] [])) (fun zt zk => st145 zt zk) ?_
  refine Go.st (T' := T145.setTop (mkF m 11 #[.val (.ref a1), .val (.ref x)] [(.ref a1)])) (fun zt zk => XS.aloadN X145.here hx rfl (hb hby d16_10) rfl rfl zk) ?_
  refine Go.st (T' := T145.setTop (mkF m 12 #[.val (.ref a1), .val (.ref x)] [(.ref x), (.ref a1)])) (fun zt zk => XS.aloadN X145.here hx rfl (hb hby d16_11) rfl rfl zk) ?_
  refine Go.st (T' := T145.setTop (mkF m 13 #[.val (.ref a1), .val (.ref x)] [(.ref a1), (.ref x), (.ref a1)])) (fun zt zk => XS.aloadN X145.here hx rfl (hb hby d16_12) rfl rfl zk) ?_
  have f146 : Fld Z h145 a1 "java/util/ArrayList" "elementData" "[Ljava/lang/Object;" (.ref de) := (F_elementData.other W145 (Or.inr (slot_ne (Or.inl (hw _ (List.mem_of_getElem? (i := 56) rfl))) (Or.inl (hw _ (List.mem_of_getElem? (i := 53) rfl))) (by decide) (t := (.array (.object "java/lang/Object"))) (t' := .int) (by decide) (by decide))))
  obtain ⟨T147, X147, e147, st147⟩ := getF X145 hx hZ hown (host := "") (Or.inl (hw _ (List.mem_of_getElem? (i := 55) rfl))) Via.refl e145 f146 (g := (mkF m 13 #[.val (.ref a1), .val (.ref x)] [(.ref a1), (.ref x), (.ref a1)])) rfl rfl (hb hby d16_13)
  refine Go.st (T' := T147.setTop (mkF m 16 #[.val (.ref a1), .val (.ref x)] [(.ref de), (.ref x), (.ref a1)])) (fun zt zk => st147 zt zk) ?_
  refine Go.st (T' := T147.setTop (mkF m 17 #[.val (.ref a1), .val (.ref x)] [(.ref a1), (.ref de), (.ref x), (.ref a1)])) (fun zt zk => XS.aloadN X147.here hx rfl (hb hby d16_16) rfl rfl zk) ?_
  have f148 : Fld Z h145 a1 "java/util/ArrayList" "size" "I" (.int (0 : Int32)) := (F_size.other W145 (Or.inr (slot_ne (Or.inl (hw _ (List.mem_of_getElem? (i := 71) rfl))) (Or.inl (hw _ (List.mem_of_getElem? (i := 53) rfl))) (by decide) (t := .int) (t' := .int) (by decide) (by decide))))
  obtain ⟨T149, X149, e149, st149⟩ := getF X147 hx hZ hown (host := "") (Or.inl (hw _ (List.mem_of_getElem? (i := 70) rfl))) Via.refl e147 f148 (g := (mkF m 17 #[.val (.ref a1), .val (.ref x)] [(.ref a1), (.ref de), (.ref x), (.ref a1)])) rfl rfl (hb hby d16_17)
  refine Go.st (T' := T149.setTop (mkF m 20 #[.val (.ref a1), .val (.ref x)] [(.int (0 : Int32)), (.ref de), (.ref x), (.ref a1)])) (fun zt zk => st149 zt zk) ?_
  obtain ⟨md, hmd⟩ : ∃ z, z = mc + (1 : Int32) := ⟨_, rfl⟩
  have f151 : own_D Z h145 de := (Bde.other W145 nad)
  have f152 : Exa Z h145 a1 "java/util/ArrayList" := (E1.wr W145)
  have f153 : Exa Z h145 x "java/lang/String" := (Ex.wr W145)
  obtain ⟨cq150, kq150, q150a, q150b, q150c⟩ := isOf hZ e149 f152
  obtain ⟨vr150, _, ⟨T150, L150, k150, n150⟩, -, X150, ⟨Lc150, hQ150, l150, y150, z150⟩, st150⟩ := X149.virtualBack hx (y := (⟨"java/util/ArrayList", "add", "(Ljava/lang/Object;[Ljava/lang/Object;I)V"⟩ : MethodName)) (z := (⟨"java/util/ArrayList", "add", "(Ljava/lang/Object;[Ljava/lang/Object;I)V"⟩ : MethodName)) hown (mvT hZ (hw _ (List.mem_of_getElem? (i := 97) rfl))) (mvT hZ (own_decl (hw _ (List.mem_of_getElem? (i := 98) rfl)) (hw _ (List.mem_of_getElem? (i := 101) rfl)))) (notFace_of_selects (args := #[]) (mvT hZ (hw _ (List.mem_of_getElem? (i := 100) rfl)))) (mvT hZ (hw _ (List.mem_of_getElem? (i := 100) rfl))) (mvT hZ (hw _ (List.mem_of_getElem? (i := 98) rfl))) (by decide) (backOf (W := 0) (rmA3a l Z a0 hw a1 x de _ h145 n0 (Nat.le_trans Z0 K145.1) (X00.keep K145 own_KX) Sd f151 f152 g_a1 Fw145 f146 f148 f153) hZ (hw _ (List.mem_of_getElem? (i := 101) rfl)) (hw _ (List.mem_of_getElem? (i := 35) rfl)) (by decide) (by decide)) q150a q150c (g := (mkF m 20 #[.val (.ref a1), .val (.ref x)] [(.int (0 : Int32)), (.ref de), (.ref x), (.ref a1)])) rfl (by rw [hml]; rfl) (Steps.refl _) (argsL := [(.ref x), (.ref de), (.int (0 : Int32))]) (rest := []) (lenOf pd_d753aca rfl) rfl (by show 2 * 0 + _ ≤ _; exact Nat.le_of_eq rfl) (hb hby d16_20) (fun _ _ => ⟨rfl, e149, (by decide : 0 + 1 ≤ _), (by decide : 0 + 10 ≤ _)⟩)
  dsimp only [Pt.U, Pt.locs, Pt.cells, Pt.slots] at X150 l150 y150 z150 st150 hQ150
  subst l150 y150 z150
  obtain ⟨rfl, Nq150, Kq150, ed150, ke150, sy150, R150⟩ := hQ150
  have KK154 : Keep h0 T150.heap [a1] := K145.trans Kq150 (allS (Or.inl (List.mem_of_getElem? (i := 0) rfl)) all0)
  have NN155 := Fr.app N145 Nq150
  refine Go.st (T' := T150.setTop (mkF m 23 #[.val (.ref a1), .val (.ref x)] [])) (fun zt zk => st150.trans zk) ?_
  refine Go.st (T' := T150.setTop (mkF m 24 #[.val (.ref a1), .val (.ref x)] [(.int (1 : Int32))])) (fun zt zk => XS.iconst X150.here hx rfl (hb hby d16_23) zk) ?_
  exact Go.done X150 Bd.notSynchronized (v := some (.int (nar .boolean (1 : Int32)))) (fun h => by rw [Bd.returns] at h; cases h) (fun fs hr => retN X150 hx (t := .boolean) Bd.returns (by simp) (hb hby d16_24) hr) (by rw [(rfl : T150.heap = T150.heap)]; exact ⟨rfl, NN155, KK154, ed150, ke150, Nat.le_trans K145.1 sy150, R150⟩) (by decide) (by decide)
def Q_rmAddB (Z : State) (a1 x ed : Addr) (ke : ClassId) (ys : List Addr) (h0 : Heap) (n0 : Nat) (v : Option Value) (h : Heap) (L : List Loc) : Prop := v = some (.int (1 : Int32)) ∧ Fr n0 L ∧ Keep h0 h [a1, ed] ∧ own_AL Z h a1 ed ke (ys ++ [x])
set_option maxRecDepth 65536 in
set_option maxHeartbeats 40000000 in
theorem rmAddB (l : Launch) (Z : State) (a0 : Array Value) (hw : ∀ d ∈ tables_1, d.before a0 Z = true) (a1 x ed : Addr) (ke : ClassId) (ys : List Addr) (h0 : Heap) (n0 : Nat) (Z0 : n0 ≤ h0.size) (AL_ : own_AL Z h0 a1 ed ke ys) (hy : ys.length ≤ 2) (g_a1 : n0 ≤ a1) (g_ed : n0 ≤ ed) (nae : a1 ≠ ed) (Ex : Exa Z h0 x "java/lang/String") :
    MetFree l (⟨"java/util/ArrayList", "add", "(Ljava/lang/Object;)Z"⟩ : MethodName) (head1 [Jvm.Cond.code (⟨"java/util/ArrayList", "add", "(Ljava/lang/Object;)Z"⟩ : MethodName) jdk_38_method_25_code 2 (some .boolean)] ({ frames := 1, cells := 0, slots := 0, locals := 15 } : Room)) (fun a U => a = #[(.ref a1), (.ref x)] ∧ Z.Warmed39 U.vm ∧ U.heap = h0) (fun _ _ _ _ _ => True) (fun _ U o U' => ∃ v L, o = .returned v ∧ (Q_rmAddB Z a1 x ed ke ys h0 n0) v U'.heap L ∧ FrameEnd U o U' L ({ frames := 1, cells := 0, slots := 0, locals := 15 } : Room).cells ({ frames := 1, cells := 0, slots := 0, locals := 15 } : Room).slots) := by
  refine MetFree.of_bodySF (plainFor_of_name pn_c56ca98) hisR ?_
  intro p e s m args below meth c s₁ Bd hml0 hP hK
  obtain ⟨rfl, hZ, hh⟩ := hP
  have hx := Bd.exec
  have hby := Bd.bytes
  have hml : c.maxLocals = 2 := hml0
  have hown : s.vm.findClass "java/util/ArrayList" = some m.cls := findClass_of_methodNamed Bd.named
  have hnm := (name_of_methodNamed Bd.named Bd.method).1
  have X0 : Stand p l e ({ frames := 1, cells := 0, slots := 0, locals := 15 } : Room) s m #[(.ref a1), (.ref x)] below meth c s₁ [] 0 0 := Stand.of_body Bd
  have e0 : s₁.heap = h0 := by rw [← hh, Bd.state]; rfl
  have N0 := Fr.nil n0
  have K0 : Keep h0 h0 [a1, ed] := Keep.refl h0 [a1, ed]
  show Go p e below (s₁.setTop (entryFrame m #[(.ref a1), (.ref x)] 2)) (EndN s (Q_rmAddB Z a1 x ed ke ys h0 n0) ({ frames := 1, cells := 0, slots := 0, locals := 15 } : Room).cells ({ frames := 1, cells := 0, slots := 0, locals := 15 } : Room).slots)
  refine Go.top (ef_16 m a1 x) ?_
  obtain ⟨E1, ⟨mc, F_modCount⟩, F_size, F_elementData, Va, Ov⟩ := id AL_
  refine Go.st (T' := s₁.setTop (mkF m 1 #[.val (.ref a1), .val (.ref x)] [(.ref a1)])) (fun zt zk => XS.aloadN X0.here hx rfl (hb hby d16_0) rfl rfl zk) ?_
  refine Go.st (T' := s₁.setTop (mkF m 2 #[.val (.ref a1), .val (.ref x)] [(.ref a1), (.ref a1)])) (fun zt zk => XS.dup X0.here hx rfl (hb hby d16_1) rfl rfl zk) ?_
  obtain ⟨T156, X156, e156, st156⟩ := getF X0 hx hZ hown (host := "") (Or.inl (hw _ (List.mem_of_getElem? (i := 95) rfl))) (Via.of (hw _ (List.mem_of_getElem? (i := 96) rfl))) e0 F_modCount (g := (mkF m 2 #[.val (.ref a1), .val (.ref x)] [(.ref a1), (.ref a1)])) rfl rfl (hb hby d16_2)
  refine Go.st (T' := T156.setTop (mkF m 5 #[.val (.ref a1), .val (.ref x)] [(.int mc), (.ref a1)])) (fun zt zk => st156 zt zk) ?_
  refine Go.st (T' := T156.setTop (mkF m 6 #[.val (.ref a1), .val (.ref x)] [(.int (1 : Int32)), (.int mc), (.ref a1)])) (fun zt zk => XS.iconst X156.here hx rfl (hb hby d16_5) zk) ?_
  refine Go.st (T' := T156.setTop (mkF m 7 #[.val (.ref a1), .val (.ref x)] [(.int (mc + (1 : Int32))), (.ref a1)])) (fun zt zk => XS.iadd X156.here hx rfl (hb hby d16_6) rfl zk) ?_
  obtain ⟨T157, h157, X157, e157, W157, st157⟩ := putF X156 hx hZ hown (host := "") (Or.inl (hw _ (List.mem_of_getElem? (i := 95) rfl))) (Via.of (hw _ (List.mem_of_getElem? (i := 96) rfl))) e156 F_modCount E1 (Or.inl (hw _ (List.mem_of_getElem? (i := 53) rfl))) (hw _ (List.mem_of_getElem? (i := 34) rfl)) (ty := .int) (by decide) rfl rfl (g := (mkF m 7 #[.val (.ref a1), .val (.ref x)] [(.int (mc + (1 : Int32))), (.ref a1)])) rfl rfl (hb hby d16_7)
  have Fw157 : Fld Z h157 a1 "java/util/AbstractList" "modCount" "I" (.int (mc + (1 : Int32))) := F_modCount.same W157
  have K157 : Keep h0 h157 [a1, ed] := K0.wr W157 (Or.inl (List.mem_of_getElem? (i := 0) rfl))
  have N157 := Fr.snoc X157 N0 g_a1
  refine Go.st (T' := T157.setTop (mkF m 10 #[.val (.ref a1), .val (.ref x)] [])) (fun zt zk => st157 zt zk) ?_
  refine Go.st (T' := T157.setTop (mkF m 11 #[.val (.ref a1), .val (.ref x)] [(.ref a1)])) (fun zt zk => XS.aloadN X157.here hx rfl (hb hby d16_10) rfl rfl zk) ?_
  refine Go.st (T' := T157.setTop (mkF m 12 #[.val (.ref a1), .val (.ref x)] [(.ref x), (.ref a1)])) (fun zt zk => XS.aloadN X157.here hx rfl (hb hby d16_11) rfl rfl zk) ?_
  refine Go.st (T' := T157.setTop (mkF m 13 #[.val (.ref a1), .val (.ref x)] [(.ref a1), (.ref x), (.ref a1)])) (fun zt zk => XS.aloadN X157.here hx rfl (hb hby d16_12) rfl rfl zk) ?_
  have f158 : Fld Z h157 a1 "java/util/ArrayList" "elementData" "[Ljava/lang/Object;" (.ref ed) := (F_elementData.other W157 (Or.inr (slot_ne (Or.inl (hw _ (List.mem_of_getElem? (i := 56) rfl))) (Or.inl (hw _ (List.mem_of_getElem? (i := 53) rfl))) (by decide) (t := (.array (.object "java/lang/Object"))) (t' := .int) (by decide) (by decide))))
  obtain ⟨T159, X159, e159, st159⟩ := getF X157 hx hZ hown (host := "") (Or.inl (hw _ (List.mem_of_getElem? (i := 55) rfl))) Via.refl e157 f158 (g := (mkF m 13 #[.val (.ref a1), .val (.ref x)] [(.ref a1), (.ref x), (.ref a1)])) rfl rfl (hb hby d16_13)
  refine Go.st (T' := T159.setTop (mkF m 16 #[.val (.ref a1), .val (.ref x)] [(.ref ed), (.ref x), (.ref a1)])) (fun zt zk => st159 zt zk) ?_
  refine Go.st (T' := T159.setTop (mkF m 17 #[.val (.ref a1), .val (.ref x)] [(.ref a1), (.ref ed), (.ref x), (.ref a1)])) (fun zt zk => XS.aloadN X159.here hx rfl (hb hby d16_16) rfl rfl zk) ?_
  have f160 : Fld Z h157 a1 "java/util/ArrayList" "size" "I" (.int (Int32.ofNat ys.length)) := (F_size.other W157 (Or.inr (slot_ne (Or.inl (hw _ (List.mem_of_getElem? (i := 71) rfl))) (Or.inl (hw _ (List.mem_of_getElem? (i := 53) rfl))) (by decide) (t := .int) (t' := .int) (by decide) (by decide))))
  obtain ⟨T161, X161, e161, st161⟩ := getF X159 hx hZ hown (host := "") (Or.inl (hw _ (List.mem_of_getElem? (i := 70) rfl))) Via.refl e159 f160 (g := (mkF m 17 #[.val (.ref a1), .val (.ref x)] [(.ref a1), (.ref ed), (.ref x), (.ref a1)])) rfl rfl (hb hby d16_17)
  refine Go.st (T' := T161.setTop (mkF m 20 #[.val (.ref a1), .val (.ref x)] [(.int (Int32.ofNat ys.length)), (.ref ed), (.ref x), (.ref a1)])) (fun zt zk => st161 zt zk) ?_
  have f163 : Exa Z h157 a1 "java/util/ArrayList" := (E1.wr W157)
  have f164 : Arv Z h157 ed ke (.object "java/lang/Object") (10 : Int32) (ys.map Value.ref) .null := (Va.other W157 (Ne.symm nae))
  have f165 : Exa Z h157 x "java/lang/String" := (Ex.wr W157)
  obtain ⟨cq162, kq162, q162a, q162b, q162c⟩ := isOf hZ e161 f163
  obtain ⟨vr162, _, ⟨T162, L162, k162, n162⟩, -, X162, ⟨Lc162, hQ162, l162, y162, z162⟩, st162⟩ := X161.virtualBack hx (y := (⟨"java/util/ArrayList", "add", "(Ljava/lang/Object;[Ljava/lang/Object;I)V"⟩ : MethodName)) (z := (⟨"java/util/ArrayList", "add", "(Ljava/lang/Object;[Ljava/lang/Object;I)V"⟩ : MethodName)) hown (mvT hZ (hw _ (List.mem_of_getElem? (i := 97) rfl))) (mvT hZ (own_decl (hw _ (List.mem_of_getElem? (i := 98) rfl)) (hw _ (List.mem_of_getElem? (i := 101) rfl)))) (notFace_of_selects (args := #[]) (mvT hZ (hw _ (List.mem_of_getElem? (i := 100) rfl)))) (mvT hZ (hw _ (List.mem_of_getElem? (i := 100) rfl))) (mvT hZ (hw _ (List.mem_of_getElem? (i := 98) rfl))) (by decide) (backOf (W := 0) (rmA3b l Z a0 hw a1 x ed ke ys h157 n0 (Nat.le_trans Z0 K157.1) ⟨f163, ⟨_, Fw157⟩, f160, f158, f164, Ov⟩ hy g_a1 g_ed nae f165) hZ (hw _ (List.mem_of_getElem? (i := 101) rfl)) (hw _ (List.mem_of_getElem? (i := 35) rfl)) (by decide) (by decide)) q162a q162c (g := (mkF m 20 #[.val (.ref a1), .val (.ref x)] [(.int (Int32.ofNat ys.length)), (.ref ed), (.ref x), (.ref a1)])) rfl (by rw [hml]; rfl) (Steps.refl _) (argsL := [(.ref x), (.ref ed), (.int (Int32.ofNat ys.length))]) (rest := []) (lenOf pd_d753aca rfl) rfl (by show 2 * 0 + _ ≤ _; exact Nat.le_of_eq rfl) (hb hby d16_20) (fun _ _ => ⟨rfl, e161, (by decide : 0 + 0 ≤ _), (by decide : 0 + 0 ≤ _)⟩)
  dsimp only [Pt.U, Pt.locs, Pt.cells, Pt.slots] at X162 l162 y162 z162 st162 hQ162
  subst l162 y162 z162
  obtain ⟨rfl, Nq162, Kq162, R162⟩ := hQ162
  have KK166 : Keep h0 T162.heap [a1, ed] := K157.trans Kq162 (allS (Or.inl (List.mem_of_getElem? (i := 0) rfl)) (allS (Or.inl (List.mem_of_getElem? (i := 1) rfl)) all0))
  have NN167 := Fr.app N157 Nq162
  refine Go.st (T' := T162.setTop (mkF m 23 #[.val (.ref a1), .val (.ref x)] [])) (fun zt zk => st162.trans zk) ?_
  refine Go.st (T' := T162.setTop (mkF m 24 #[.val (.ref a1), .val (.ref x)] [(.int (1 : Int32))])) (fun zt zk => XS.iconst X162.here hx rfl (hb hby d16_23) zk) ?_
  exact Go.done X162 Bd.notSynchronized (v := some (.int (nar .boolean (1 : Int32)))) (fun h => by rw [Bd.returns] at h; cases h) (fun fs hr => retN X162 hx (t := .boolean) Bd.returns (by simp) (hb hby d16_24) hr) (by rw [(rfl : T162.heap = T162.heap)]; exact ⟨rfl, NN167, KK166, R162⟩) (by decide) (by decide)
theorem d11_0 : decode jdk_38_method_8_code 0 = .ok (.aload_n 0, 1) := by decide +kernel
theorem d11_1 : decode jdk_38_method_8_code 1 = .ok (.getfield 48, 3) := by decide +kernel
theorem d11_4 : decode jdk_38_method_8_code 4 = .ok (.ireturn, 1) := by decide +kernel
theorem ef_11 (m : MethodId) (x0 : Addr) : entryFrame m #[(.ref x0)] 1 = mkF m 0 #[.val (.ref x0)] [] := by first | (simp [entryFrame, mkF, argsToLocals, Value.category]; done) | rfl
def Q_rmSize (Z : State) (a1 : Addr) (pn : Int32) (h0 : Heap) (n0 : Nat) (v : Option Value) (h : Heap) (L : List Loc) : Prop := v = some (.int pn) ∧ Fr n0 L ∧ h = h0
set_option maxRecDepth 65536 in
set_option maxHeartbeats 40000000 in
theorem rmSize (l : Launch) (Z : State) (a0 : Array Value) (hw : ∀ d ∈ tables_1, d.before a0 Z = true) (a1 : Addr) (pn : Int32) (h0 : Heap) (n0 : Nat) (Z0 : n0 ≤ h0.size) (Fs : Fld Z h0 a1 "java/util/ArrayList" "size" "I" (.int pn)) :
    MetFree l (⟨"java/util/ArrayList", "size", "()I"⟩ : MethodName) (head1 [Jvm.Cond.code (⟨"java/util/ArrayList", "size", "()I"⟩ : MethodName) jdk_38_method_8_code 1 (some .int)] ({ frames := 0, cells := 0, slots := 0, locals := 0 } : Room)) (fun a U => a = #[(.ref a1)] ∧ Z.Warmed39 U.vm ∧ U.heap = h0) (fun _ _ _ _ _ => True) (fun _ U o U' => ∃ v L, o = .returned v ∧ (Q_rmSize Z a1 pn h0 n0) v U'.heap L ∧ FrameEnd U o U' L ({ frames := 0, cells := 0, slots := 0, locals := 0 } : Room).cells ({ frames := 0, cells := 0, slots := 0, locals := 0 } : Room).slots) := by
  refine MetFree.of_bodySF (plainFor_of_name pn_c56ca98) hisR ?_
  intro p e s m args below meth c s₁ Bd hml0 hP hK
  obtain ⟨rfl, hZ, hh⟩ := hP
  have hx := Bd.exec
  have hby := Bd.bytes
  have hml : c.maxLocals = 1 := hml0
  have hown : s.vm.findClass "java/util/ArrayList" = some m.cls := findClass_of_methodNamed Bd.named
  have hnm := (name_of_methodNamed Bd.named Bd.method).1
  have X0 : Stand p l e ({ frames := 0, cells := 0, slots := 0, locals := 0 } : Room) s m #[(.ref a1)] below meth c s₁ [] 0 0 := Stand.of_body Bd
  have e0 : s₁.heap = h0 := by rw [← hh, Bd.state]; rfl
  have N0 := Fr.nil n0
  have K0 : Keep h0 h0 [] := Keep.refl h0 []
  show Go p e below (s₁.setTop (entryFrame m #[(.ref a1)] 1)) (EndN s (Q_rmSize Z a1 pn h0 n0) ({ frames := 0, cells := 0, slots := 0, locals := 0 } : Room).cells ({ frames := 0, cells := 0, slots := 0, locals := 0 } : Room).slots)
  refine Go.top (ef_11 m a1) ?_
  refine Go.st (T' := s₁.setTop (mkF m 1 #[.val (.ref a1)] [(.ref a1)])) (fun zt zk => XS.aloadN X0.here hx rfl (hb hby d11_0) rfl rfl zk) ?_
  obtain ⟨T168, X168, e168, st168⟩ := getF X0 hx hZ hown (host := "") (Or.inl (hw _ (List.mem_of_getElem? (i := 70) rfl))) Via.refl e0 Fs (g := (mkF m 1 #[.val (.ref a1)] [(.ref a1)])) rfl rfl (hb hby d11_1)
  refine Go.st (T' := T168.setTop (mkF m 4 #[.val (.ref a1)] [(.int pn)])) (fun zt zk => st168 zt zk) ?_
  exact Go.done X168 Bd.notSynchronized (v := some (.int pn)) (fun h => by rw [Bd.returns] at h; cases h) (fun fs hr => retI X168 hx Bd.returns (hb hby d11_4) hr) (by rw [e168]; exact ⟨rfl, N0, rfl⟩) (by decide) (by decide)
theorem d23_0 : decode jdk_41_method_11_code 0 = .ok (.iload_n 0, 1) := by decide +kernel
theorem d23_1 : decode jdk_41_method_11_code 1 = .ok (.ifCond .lt 8, 3) := by decide +kernel
theorem d23_4 : decode jdk_41_method_11_code 4 = .ok (.iload_n 0, 1) := by decide +kernel
theorem d23_5 : decode jdk_41_method_11_code 5 = .ok (.iload_n 1, 1) := by decide +kernel
theorem d23_6 : decode jdk_41_method_11_code 6 = .ok (.if_icmp .lt 10, 3) := by decide +kernel
theorem d23_16 : decode jdk_41_method_11_code 16 = .ok (.iload_n 0, 1) := by decide +kernel
theorem d23_17 : decode jdk_41_method_11_code 17 = .ok (.ireturn, 1) := by decide +kernel
theorem ef_23 (m : MethodId) (x0 : Int32) (x1 : Int32) : entryFrame m #[(.int x0), (.int x1), .null] 3 = mkF m 0 #[.val (.int x0), .val (.int x1), .val .null] [] := by first | (simp [entryFrame, mkF, argsToLocals, Value.category]; done) | rfl
def Q_rmPCI (Z : State) (i nn : Nat) (h0 : Heap) (n0 : Nat) (v : Option Value) (h : Heap) (L : List Loc) : Prop := v = some (.int (Int32.ofNat i)) ∧ Fr n0 L ∧ h = h0
set_option maxRecDepth 65536 in
set_option maxHeartbeats 40000000 in
theorem rmPCI (l : Launch) (Z : State) (a0 : Array Value) (hw : ∀ d ∈ tables_1, d.before a0 Z = true) (i nn : Nat) (h0 : Heap) (n0 : Nat) (Z0 : n0 ≤ h0.size) (hi : i < nn) (hle : nn ≤ 4099) :
    MetFree l (⟨"jdk/internal/util/Preconditions", "checkIndex", "(IILjava/util/function/BiFunction;)I"⟩ : MethodName) (head1 [Jvm.Cond.code (⟨"jdk/internal/util/Preconditions", "checkIndex", "(IILjava/util/function/BiFunction;)I"⟩ : MethodName) jdk_41_method_11_code 3 (some .int)] ({ frames := 0, cells := 0, slots := 0, locals := 0 } : Room)) (fun a U => a = #[(.int (Int32.ofNat i)), (.int (Int32.ofNat nn)), .null] ∧ Z.Warmed39 U.vm ∧ U.heap = h0) (fun _ _ _ _ _ => True) (fun _ U o U' => ∃ v L, o = .returned v ∧ (Q_rmPCI Z i nn h0 n0) v U'.heap L ∧ FrameEnd U o U' L ({ frames := 0, cells := 0, slots := 0, locals := 0 } : Room).cells ({ frames := 0, cells := 0, slots := 0, locals := 0 } : Room).slots) := by
  refine MetFree.of_bodySF (plainFor_of_name pn_cc17781) hisR ?_
  intro p e s m args below meth c s₁ Bd hml0 hP hK
  obtain ⟨rfl, hZ, hh⟩ := hP
  have hx := Bd.exec
  have hby := Bd.bytes
  have hml : c.maxLocals = 3 := hml0
  have hown : s.vm.findClass "jdk/internal/util/Preconditions" = some m.cls := findClass_of_methodNamed Bd.named
  have hnm := (name_of_methodNamed Bd.named Bd.method).1
  have X0 : Stand p l e ({ frames := 0, cells := 0, slots := 0, locals := 0 } : Room) s m #[(.int (Int32.ofNat i)), (.int (Int32.ofNat nn)), .null] below meth c s₁ [] 0 0 := Stand.of_body Bd
  have e0 : s₁.heap = h0 := by rw [← hh, Bd.state]; rfl
  have N0 := Fr.nil n0
  have K0 : Keep h0 h0 [] := Keep.refl h0 []
  show Go p e below (s₁.setTop (entryFrame m #[(.int (Int32.ofNat i)), (.int (Int32.ofNat nn)), .null] 3)) (EndN s (Q_rmPCI Z i nn h0 n0) ({ frames := 0, cells := 0, slots := 0, locals := 0 } : Room).cells ({ frames := 0, cells := 0, slots := 0, locals := 0 } : Room).slots)
  refine Go.top (ef_23 m (Int32.ofNat i) (Int32.ofNat nn)) ?_
  refine Go.st (T' := s₁.setTop (mkF m 1 #[.val (.int (Int32.ofNat i)), .val (.int (Int32.ofNat nn)), .val .null] [(.int (Int32.ofNat i))])) (fun zt zk => XS.iloadN X0.here hx rfl (hb hby d23_0) rfl zk) ?_
  refine Go.st (T' := s₁.setTop (mkF m 4 #[.val (.int (Int32.ofNat i)), .val (.int (Int32.ofNat nn)), .val .null] [])) (fun zt zk => XS.ifNo X0.here hx rfl (hb hby d23_1) rfl ((if0 _ _).trans (flt (own_nn (by omega))).1) zk) ?_
  refine Go.st (T' := s₁.setTop (mkF m 5 #[.val (.int (Int32.ofNat i)), .val (.int (Int32.ofNat nn)), .val .null] [(.int (Int32.ofNat i))])) (fun zt zk => XS.iloadN X0.here hx rfl (hb hby d23_4) rfl zk) ?_
  refine Go.st (T' := s₁.setTop (mkF m 6 #[.val (.int (Int32.ofNat i)), .val (.int (Int32.ofNat nn)), .val .null] [(.int (Int32.ofNat nn)), (.int (Int32.ofNat i))])) (fun zt zk => XS.iloadN X0.here hx rfl (hb hby d23_5) rfl zk) ?_
  refine Go.st (T' := s₁.setTop (mkF m 16 #[.val (.int (Int32.ofNat i)), .val (.int (Int32.ofNat nn)), .val .null] [])) (fun zt zk => XS.icmpYes X0.here hx rfl (pc0 := 6) (pc' := 16) rfl (hb hby d23_6) rfl (tlt ((own_lt32 (by omega) (by omega)).mpr (by omega))).1 (by decide) (by decide) zk) ?_
  refine Go.st (T' := s₁.setTop (mkF m 17 #[.val (.int (Int32.ofNat i)), .val (.int (Int32.ofNat nn)), .val .null] [(.int (Int32.ofNat i))])) (fun zt zk => XS.iloadN X0.here hx rfl (hb hby d23_16) rfl zk) ?_
  exact Go.done X0 Bd.notSynchronized (v := some (.int (Int32.ofNat i))) (fun h => by rw [Bd.returns] at h; cases h) (fun fs hr => retI X0 hx Bd.returns (hb hby d23_17) hr) (by rw [e0]; exact ⟨rfl, N0, rfl⟩) (by decide) (by decide)
theorem d22_0 : decode jdk_31_method_17_code 0 = .ok (.iload_n 0, 1) := by decide +kernel
theorem d22_1 : decode jdk_31_method_17_code 1 = .ok (.iload_n 1, 1) := by decide +kernel
theorem d22_2 : decode jdk_31_method_17_code 2 = .ok (.aconst_null, 1) := by decide +kernel
theorem d22_3 : decode jdk_31_method_17_code 3 = .ok (.invokestatic 105, 3) := by decide +kernel
theorem d22_6 : decode jdk_31_method_17_code 6 = .ok (.ireturn, 1) := by decide +kernel
theorem pd_5c7f975 : parseMethodDescriptor "(IILjava/util/function/BiFunction;)I" = some ⟨[.int, .int, (.object "java/util/function/BiFunction")], some .int⟩ := by decide +kernel
theorem ef_22 (m : MethodId) (x0 : Int32) (x1 : Int32) : entryFrame m #[(.int x0), (.int x1)] 2 = mkF m 0 #[.val (.int x0), .val (.int x1)] [] := by first | (simp [entryFrame, mkF, argsToLocals, Value.category]; done) | rfl
def Q_rmOCI (Z : State) (i nn : Nat) (h0 : Heap) (n0 : Nat) (v : Option Value) (h : Heap) (L : List Loc) : Prop := v = some (.int (Int32.ofNat i)) ∧ Fr n0 L ∧ h = h0
set_option maxRecDepth 65536 in
set_option maxHeartbeats 40000000 in
theorem rmOCI (l : Launch) (Z : State) (a0 : Array Value) (hw : ∀ d ∈ tables_1, d.before a0 Z = true) (i nn : Nat) (h0 : Heap) (n0 : Nat) (Z0 : n0 ≤ h0.size) (hi : i < nn) (hle : nn ≤ 4099) :
    MetFree l (⟨"java/util/Objects", "checkIndex", "(II)I"⟩ : MethodName) (head1 [Jvm.Cond.code (⟨"java/util/Objects", "checkIndex", "(II)I"⟩ : MethodName) jdk_31_method_17_code 2 (some .int)] ({ frames := 1, cells := 0, slots := 0, locals := 14 } : Room)) (fun a U => a = #[(.int (Int32.ofNat i)), (.int (Int32.ofNat nn))] ∧ Z.Warmed39 U.vm ∧ U.heap = h0) (fun _ _ _ _ _ => True) (fun _ U o U' => ∃ v L, o = .returned v ∧ (Q_rmOCI Z i nn h0 n0) v U'.heap L ∧ FrameEnd U o U' L ({ frames := 1, cells := 0, slots := 0, locals := 14 } : Room).cells ({ frames := 1, cells := 0, slots := 0, locals := 14 } : Room).slots) := by
  refine MetFree.of_bodySF (plainFor_of_name pn_8a7aea2) hisR ?_
  intro p e s m args below meth c s₁ Bd hml0 hP hK
  obtain ⟨rfl, hZ, hh⟩ := hP
  have hx := Bd.exec
  have hby := Bd.bytes
  have hml : c.maxLocals = 2 := hml0
  have hown : s.vm.findClass "java/util/Objects" = some m.cls := findClass_of_methodNamed Bd.named
  have hnm := (name_of_methodNamed Bd.named Bd.method).1
  have X0 : Stand p l e ({ frames := 1, cells := 0, slots := 0, locals := 14 } : Room) s m #[(.int (Int32.ofNat i)), (.int (Int32.ofNat nn))] below meth c s₁ [] 0 0 := Stand.of_body Bd
  have e0 : s₁.heap = h0 := by rw [← hh, Bd.state]; rfl
  have N0 := Fr.nil n0
  have K0 : Keep h0 h0 [] := Keep.refl h0 []
  show Go p e below (s₁.setTop (entryFrame m #[(.int (Int32.ofNat i)), (.int (Int32.ofNat nn))] 2)) (EndN s (Q_rmOCI Z i nn h0 n0) ({ frames := 1, cells := 0, slots := 0, locals := 14 } : Room).cells ({ frames := 1, cells := 0, slots := 0, locals := 14 } : Room).slots)
  refine Go.top (ef_22 m (Int32.ofNat i) (Int32.ofNat nn)) ?_
  refine Go.st (T' := s₁.setTop (mkF m 1 #[.val (.int (Int32.ofNat i)), .val (.int (Int32.ofNat nn))] [(.int (Int32.ofNat i))])) (fun zt zk => XS.iloadN X0.here hx rfl (hb hby d22_0) rfl zk) ?_
  refine Go.st (T' := s₁.setTop (mkF m 2 #[.val (.int (Int32.ofNat i)), .val (.int (Int32.ofNat nn))] [(.int (Int32.ofNat nn)), (.int (Int32.ofNat i))])) (fun zt zk => XS.iloadN X0.here hx rfl (hb hby d22_1) rfl zk) ?_
  refine Go.st (T' := s₁.setTop (mkF m 3 #[.val (.int (Int32.ofNat i)), .val (.int (Int32.ofNat nn))] [.null, (.int (Int32.ofNat nn)), (.int (Int32.ofNat i))])) (fun zt zk => XS.aconstNull X0.here hx rfl (hb hby d22_2) zk) ?_
  obtain ⟨vr169, _, ⟨T169, L169, k169, n169⟩, -, X169, ⟨Lc169, hQ169, l169, y169, z169⟩, st169⟩ := Jvm.LawKit.callS X0 hx (y := (⟨"jdk/internal/util/Preconditions", "checkIndex", "(IILjava/util/function/BiFunction;)I"⟩ : MethodName)) hown (mvT hZ (hw _ (List.mem_of_getElem? (i := 131) rfl))) (mvT hZ (hw _ (List.mem_of_getElem? (i := 132) rfl))) (mvT hZ (hw _ (List.mem_of_getElem? (i := 133) rfl))) (mvT hZ (hw _ (List.mem_of_getElem? (i := 134) rfl))) (by decide) (backOf (W := 0) (rmPCI l Z a0 hw i nn h0 n0 Z0 hi hle) hZ (hw _ (List.mem_of_getElem? (i := 134) rfl)) (hw _ (List.mem_of_getElem? (i := 133) rfl)) (by decide) (by decide)) (g := (mkF m 3 #[.val (.int (Int32.ofNat i)), .val (.int (Int32.ofNat nn))] [.null, (.int (Int32.ofNat nn)), (.int (Int32.ofNat i))])) rfl (by rw [hml]; rfl) (argsL := [(.int (Int32.ofNat i)), (.int (Int32.ofNat nn)), .null]) (rest := []) (lenOf pd_5c7f975 rfl) rfl (by show 2 * 0 + _ ≤ _; exact Nat.le_of_eq rfl) (hb hby d22_3) (fun _ _ => ⟨rfl, e0, (by decide : 0 + 0 ≤ _), (by decide : 0 + 0 ≤ _)⟩)
  dsimp only [Pt.U, Pt.locs, Pt.cells, Pt.slots] at X169 l169 y169 z169 st169 hQ169
  subst l169 y169 z169
  obtain ⟨rfl, Nq169, eq169⟩ := hQ169
  have NN170 := Fr.app N0 Nq169
  refine Go.st (T' := T169.setTop (mkF m 6 #[.val (.int (Int32.ofNat i)), .val (.int (Int32.ofNat nn))] [(.int (Int32.ofNat i))])) (fun zt zk => st169 zt zk) ?_
  exact Go.done X169 Bd.notSynchronized (v := some (.int (Int32.ofNat i))) (fun h => by rw [Bd.returns] at h; cases h) (fun fs hr => retI X169 hx Bd.returns (hb hby d22_6) hr) (by rw [eq169]; exact ⟨rfl, NN170, rfl⟩) (by decide) (by decide)
theorem d24_0 : decode jdk_38_method_18_code 0 = .ok (.aload_n 0, 1) := by decide +kernel
theorem d24_1 : decode jdk_38_method_18_code 1 = .ok (.getfield 9, 3) := by decide +kernel
theorem d24_4 : decode jdk_38_method_18_code 4 = .ok (.iload_n 1, 1) := by decide +kernel
theorem d24_5 : decode jdk_38_method_18_code 5 = .ok (.aaload, 1) := by decide +kernel
theorem d24_6 : decode jdk_38_method_18_code 6 = .ok (.areturn, 1) := by decide +kernel
theorem ef_24 (m : MethodId) (x0 : Addr) (x1 : Int32) : entryFrame m #[(.ref x0), (.int x1)] 2 = mkF m 0 #[.val (.ref x0), .val (.int x1)] [] := by first | (simp [entryFrame, mkF, argsToLocals, Value.category]; done) | rfl
def Q_rmED (Z : State) (a1 ed : Addr) (ke : ClassId) (ys : List Addr) (i : Nat) (h0 : Heap) (n0 : Nat) (v : Option Value) (h : Heap) (L : List Loc) : Prop := v = some (.ref (ys.getD i 0)) ∧ Fr n0 L ∧ h = h0
set_option maxRecDepth 65536 in
set_option maxHeartbeats 40000000 in
theorem rmED (l : Launch) (Z : State) (a0 : Array Value) (hw : ∀ d ∈ tables_1, d.before a0 Z = true) (a1 ed : Addr) (ke : ClassId) (ys : List Addr) (i : Nat) (h0 : Heap) (n0 : Nat) (Z0 : n0 ≤ h0.size) (AL_ : own_AL Z h0 a1 ed ke ys) (hi : i < ys.length) (hy : ys.length ≤ 3) :
    MetFree l (⟨"java/util/ArrayList", "elementData", "(I)Ljava/lang/Object;"⟩ : MethodName) (head1 [Jvm.Cond.code (⟨"java/util/ArrayList", "elementData", "(I)Ljava/lang/Object;"⟩ : MethodName) jdk_38_method_18_code 2 (some (.object "java/lang/Object"))] ({ frames := 0, cells := 0, slots := 0, locals := 0 } : Room)) (fun a U => a = #[(.ref a1), (.int (Int32.ofNat i))] ∧ Z.Warmed39 U.vm ∧ U.heap = h0) (fun _ _ _ _ _ => True) (fun _ U o U' => ∃ v L, o = .returned v ∧ (Q_rmED Z a1 ed ke ys i h0 n0) v U'.heap L ∧ FrameEnd U o U' L ({ frames := 0, cells := 0, slots := 0, locals := 0 } : Room).cells ({ frames := 0, cells := 0, slots := 0, locals := 0 } : Room).slots) := by
  refine MetFree.of_bodySF (plainFor_of_name pn_c56ca98) hisR ?_
  intro p e s m args below meth c s₁ Bd hml0 hP hK
  obtain ⟨rfl, hZ, hh⟩ := hP
  have hx := Bd.exec
  have hby := Bd.bytes
  have hml : c.maxLocals = 2 := hml0
  have hown : s.vm.findClass "java/util/ArrayList" = some m.cls := findClass_of_methodNamed Bd.named
  have hnm := (name_of_methodNamed Bd.named Bd.method).1
  have X0 : Stand p l e ({ frames := 0, cells := 0, slots := 0, locals := 0 } : Room) s m #[(.ref a1), (.int (Int32.ofNat i))] below meth c s₁ [] 0 0 := Stand.of_body Bd
  have e0 : s₁.heap = h0 := by rw [← hh, Bd.state]; rfl
  have N0 := Fr.nil n0
  have K0 : Keep h0 h0 [] := Keep.refl h0 []
  show Go p e below (s₁.setTop (entryFrame m #[(.ref a1), (.int (Int32.ofNat i))] 2)) (EndN s (Q_rmED Z a1 ed ke ys i h0 n0) ({ frames := 0, cells := 0, slots := 0, locals := 0 } : Room).cells ({ frames := 0, cells := 0, slots := 0, locals := 0 } : Room).slots)
  refine Go.top (ef_24 m a1 (Int32.ofNat i)) ?_
  obtain ⟨E1, ⟨mc, F_modCount⟩, F_size, F_elementData, Va, Ov⟩ := id AL_
  refine Go.st (T' := s₁.setTop (mkF m 1 #[.val (.ref a1), .val (.int (Int32.ofNat i))] [(.ref a1)])) (fun zt zk => XS.aloadN X0.here hx rfl (hb hby d24_0) rfl rfl zk) ?_
  obtain ⟨T171, X171, e171, st171⟩ := getF X0 hx hZ hown (host := "") (Or.inl (hw _ (List.mem_of_getElem? (i := 55) rfl))) Via.refl e0 F_elementData (g := (mkF m 1 #[.val (.ref a1), .val (.int (Int32.ofNat i))] [(.ref a1)])) rfl rfl (hb hby d24_1)
  refine Go.st (T' := T171.setTop (mkF m 4 #[.val (.ref a1), .val (.int (Int32.ofNat i))] [(.ref ed)])) (fun zt zk => st171 zt zk) ?_
  refine Go.st (T' := T171.setTop (mkF m 5 #[.val (.ref a1), .val (.int (Int32.ofNat i))] [(.int (Int32.ofNat i)), (.ref ed)])) (fun zt zk => XS.iloadN X171.here hx rfl (hb hby d24_4) rfl zk) ?_
  obtain ⟨cl172, Ar172, q172, S172, M172, H172, G172⟩ := id Va
  have hin172 := ((inb_of S172 ⟨own_nn (by omega), (own_lt32 (n := 10) (by omega) (by omega)).mpr (by omega)⟩) : ¬ ((Int32.ofNat i) < 0 ∨ cl172.slots.size ≤ ((Int32.ofNat i)).toNatClampNeg))
  refine Go.st (T' := T171.setTop (mkF m 6 #[.val (.ref a1), .val (.int (Int32.ofNat i))] [(.ref (ys.getD i 0))])) (fun zt zk => X171.aaload hx (j := (Int32.ofNat i)) (v := (.ref (ys.getD i 0))) (by rw [e171]; exact Ar172.1) (State.isArrayOf_alike hZ.alike Ar172.2.1) rfl Ar172.2.2 hin172 (H172.at hin172 (own_gr ys hi hy)) (g := (mkF m 5 #[.val (.ref a1), .val (.int (Int32.ofNat i))] [(.int (Int32.ofNat i)), (.ref ed)])) rfl rfl (hb hby d24_5) zt zk) ?_
  exact Go.done X171 Bd.notSynchronized (v := some (.ref (ys.getD i 0))) (fun h => by rw [Bd.returns] at h; cases h) (fun fs hr => retA X171 hx Bd.returns rfl rfl rfl (hb hby d24_6) hr) (by rw [e171]; exact ⟨rfl, N0, rfl⟩) (by decide) (by decide)
theorem d21_0 : decode jdk_38_method_20_code 0 = .ok (.iload_n 1, 1) := by decide +kernel
theorem d21_1 : decode jdk_38_method_20_code 1 = .ok (.aload_n 0, 1) := by decide +kernel
theorem d21_2 : decode jdk_38_method_20_code 2 = .ok (.getfield 48, 3) := by decide +kernel
theorem d21_5 : decode jdk_38_method_20_code 5 = .ok (.invokestatic 118, 3) := by decide +kernel
theorem d21_8 : decode jdk_38_method_20_code 8 = .ok (.pop, 1) := by decide +kernel
theorem d21_9 : decode jdk_38_method_20_code 9 = .ok (.aload_n 0, 1) := by decide +kernel
theorem d21_10 : decode jdk_38_method_20_code 10 = .ok (.iload_n 1, 1) := by decide +kernel
theorem d21_11 : decode jdk_38_method_20_code 11 = .ok (.invokevirtual 123, 3) := by decide +kernel
theorem d21_14 : decode jdk_38_method_20_code 14 = .ok (.areturn, 1) := by decide +kernel
theorem pd_f6251a8 : parseMethodDescriptor "(I)Ljava/lang/Object;" = some ⟨[.int], some (.object "java/lang/Object")⟩ := by decide +kernel
theorem ef_21 (m : MethodId) (x0 : Addr) (x1 : Int32) : entryFrame m #[(.ref x0), (.int x1)] 2 = mkF m 0 #[.val (.ref x0), .val (.int x1)] [] := by first | (simp [entryFrame, mkF, argsToLocals, Value.category]; done) | rfl
def Q_rmGet (Z : State) (a1 ed : Addr) (ke : ClassId) (ys : List Addr) (i : Nat) (h0 : Heap) (n0 : Nat) (v : Option Value) (h : Heap) (L : List Loc) : Prop := v = some (.ref (ys.getD i 0)) ∧ Fr n0 L ∧ h = h0
set_option maxRecDepth 65536 in
set_option maxHeartbeats 40000000 in
theorem rmGet (l : Launch) (Z : State) (a0 : Array Value) (hw : ∀ d ∈ tables_1, d.before a0 Z = true) (a1 ed : Addr) (ke : ClassId) (ys : List Addr) (i : Nat) (h0 : Heap) (n0 : Nat) (Z0 : n0 ≤ h0.size) (AL_ : own_AL Z h0 a1 ed ke ys) (hi : i < ys.length) (hy : ys.length ≤ 3) :
    MetFree l (⟨"java/util/ArrayList", "get", "(I)Ljava/lang/Object;"⟩ : MethodName) (head1 [Jvm.Cond.code (⟨"java/util/ArrayList", "get", "(I)Ljava/lang/Object;"⟩ : MethodName) jdk_38_method_20_code 2 (some (.object "java/lang/Object"))] ({ frames := 2, cells := 0, slots := 0, locals := 27 } : Room)) (fun a U => a = #[(.ref a1), (.int (Int32.ofNat i))] ∧ Z.Warmed39 U.vm ∧ U.heap = h0) (fun _ _ _ _ _ => True) (fun _ U o U' => ∃ v L, o = .returned v ∧ (Q_rmGet Z a1 ed ke ys i h0 n0) v U'.heap L ∧ FrameEnd U o U' L ({ frames := 2, cells := 0, slots := 0, locals := 27 } : Room).cells ({ frames := 2, cells := 0, slots := 0, locals := 27 } : Room).slots) := by
  refine MetFree.of_bodySF (plainFor_of_name pn_c56ca98) hisR ?_
  intro p e s m args below meth c s₁ Bd hml0 hP hK
  obtain ⟨rfl, hZ, hh⟩ := hP
  have hx := Bd.exec
  have hby := Bd.bytes
  have hml : c.maxLocals = 2 := hml0
  have hown : s.vm.findClass "java/util/ArrayList" = some m.cls := findClass_of_methodNamed Bd.named
  have hnm := (name_of_methodNamed Bd.named Bd.method).1
  have X0 : Stand p l e ({ frames := 2, cells := 0, slots := 0, locals := 27 } : Room) s m #[(.ref a1), (.int (Int32.ofNat i))] below meth c s₁ [] 0 0 := Stand.of_body Bd
  have e0 : s₁.heap = h0 := by rw [← hh, Bd.state]; rfl
  have N0 := Fr.nil n0
  have K0 : Keep h0 h0 [] := Keep.refl h0 []
  show Go p e below (s₁.setTop (entryFrame m #[(.ref a1), (.int (Int32.ofNat i))] 2)) (EndN s (Q_rmGet Z a1 ed ke ys i h0 n0) ({ frames := 2, cells := 0, slots := 0, locals := 27 } : Room).cells ({ frames := 2, cells := 0, slots := 0, locals := 27 } : Room).slots)
  refine Go.top (ef_21 m a1 (Int32.ofNat i)) ?_
  obtain ⟨E1, ⟨mc, F_modCount⟩, F_size, F_elementData, Va, Ov⟩ := id AL_
  refine Go.st (T' := s₁.setTop (mkF m 1 #[.val (.ref a1), .val (.int (Int32.ofNat i))] [(.int (Int32.ofNat i))])) (fun zt zk => XS.iloadN X0.here hx rfl (hb hby d21_0) rfl zk) ?_
  refine Go.st (T' := s₁.setTop (mkF m 2 #[.val (.ref a1), .val (.int (Int32.ofNat i))] [(.ref a1), (.int (Int32.ofNat i))])) (fun zt zk => XS.aloadN X0.here hx rfl (hb hby d21_1) rfl rfl zk) ?_
  obtain ⟨T173, X173, e173, st173⟩ := getF X0 hx hZ hown (host := "") (Or.inl (hw _ (List.mem_of_getElem? (i := 70) rfl))) Via.refl e0 F_size (g := (mkF m 2 #[.val (.ref a1), .val (.int (Int32.ofNat i))] [(.ref a1), (.int (Int32.ofNat i))])) rfl rfl (hb hby d21_2)
  refine Go.st (T' := T173.setTop (mkF m 5 #[.val (.ref a1), .val (.int (Int32.ofNat i))] [(.int (Int32.ofNat ys.length)), (.int (Int32.ofNat i))])) (fun zt zk => st173 zt zk) ?_
  obtain ⟨vr174, _, ⟨T174, L174, k174, n174⟩, -, X174, ⟨Lc174, hQ174, l174, y174, z174⟩, st174⟩ := Jvm.LawKit.callS X173 hx (y := (⟨"java/util/Objects", "checkIndex", "(II)I"⟩ : MethodName)) hown (mvT hZ (hw _ (List.mem_of_getElem? (i := 127) rfl))) (mvT hZ (hw _ (List.mem_of_getElem? (i := 128) rfl))) (mvT hZ (hw _ (List.mem_of_getElem? (i := 129) rfl))) (mvT hZ (hw _ (List.mem_of_getElem? (i := 130) rfl))) (by decide) (backOf (W := 0) (rmOCI l Z a0 hw i ys.length h0 n0 Z0 hi (by omega)) hZ (hw _ (List.mem_of_getElem? (i := 130) rfl)) (hw _ (List.mem_of_getElem? (i := 129) rfl)) (by decide) (by decide)) (g := (mkF m 5 #[.val (.ref a1), .val (.int (Int32.ofNat i))] [(.int (Int32.ofNat ys.length)), (.int (Int32.ofNat i))])) rfl (by rw [hml]; rfl) (argsL := [(.int (Int32.ofNat i)), (.int (Int32.ofNat ys.length))]) (rest := []) (lenOf pd_7ffd0b0 rfl) rfl (by show 2 * 0 + _ ≤ _; exact Nat.le_of_eq rfl) (hb hby d21_5) (fun _ _ => ⟨rfl, e173, (by decide : 0 + 0 ≤ _), (by decide : 0 + 0 ≤ _)⟩)
  dsimp only [Pt.U, Pt.locs, Pt.cells, Pt.slots] at X174 l174 y174 z174 st174 hQ174
  subst l174 y174 z174
  obtain ⟨rfl, Nq174, eq174⟩ := hQ174
  have NN175 := Fr.app N0 Nq174
  refine Go.st (T' := T174.setTop (mkF m 8 #[.val (.ref a1), .val (.int (Int32.ofNat i))] [(.int (Int32.ofNat i))])) (fun zt zk => st174 zt zk) ?_
  refine Go.st (T' := T174.setTop (mkF m 9 #[.val (.ref a1), .val (.int (Int32.ofNat i))] [])) (fun zt zk => XS.pop X174.here hx rfl (hb hby d21_8) rfl rfl zk) ?_
  refine Go.st (T' := T174.setTop (mkF m 10 #[.val (.ref a1), .val (.int (Int32.ofNat i))] [(.ref a1)])) (fun zt zk => XS.aloadN X174.here hx rfl (hb hby d21_9) rfl rfl zk) ?_
  refine Go.st (T' := T174.setTop (mkF m 11 #[.val (.ref a1), .val (.int (Int32.ofNat i))] [(.int (Int32.ofNat i)), (.ref a1)])) (fun zt zk => XS.iloadN X174.here hx rfl (hb hby d21_10) rfl zk) ?_
  obtain ⟨cq176, kq176, q176a, q176b, q176c⟩ := isOf hZ eq174 E1
  obtain ⟨vr176, _, ⟨T176, L176, k176, n176⟩, -, X176, ⟨Lc176, hQ176, l176, y176, z176⟩, st176⟩ := X174.virtualBack hx (y := (⟨"java/util/ArrayList", "elementData", "(I)Ljava/lang/Object;"⟩ : MethodName)) (z := (⟨"java/util/ArrayList", "elementData", "(I)Ljava/lang/Object;"⟩ : MethodName)) hown (mvT hZ (hw _ (List.mem_of_getElem? (i := 135) rfl))) (mvT hZ (hw _ (List.mem_of_getElem? (i := 136) rfl))) (notFace_of_selects (args := #[]) (mvT hZ (hw _ (List.mem_of_getElem? (i := 138) rfl)))) (mvT hZ (hw _ (List.mem_of_getElem? (i := 138) rfl))) (mvT hZ (hw _ (List.mem_of_getElem? (i := 137) rfl))) (by decide) (backOf (W := 0) (rmED l Z a0 hw a1 ed ke ys i h0 n0 Z0 AL_ hi hy) hZ (hw _ (List.mem_of_getElem? (i := 139) rfl)) (hw _ (List.mem_of_getElem? (i := 35) rfl)) (by decide) (by decide)) q176a q176c (g := (mkF m 11 #[.val (.ref a1), .val (.int (Int32.ofNat i))] [(.int (Int32.ofNat i)), (.ref a1)])) rfl (by rw [hml]; rfl) (Steps.refl _) (argsL := [(.int (Int32.ofNat i))]) (rest := []) (lenOf pd_f6251a8 rfl) rfl (by show 2 * 0 + _ ≤ _; exact Nat.le_of_eq rfl) (hb hby d21_11) (fun _ _ => ⟨rfl, eq174, (by decide : 0 + 0 ≤ _), (by decide : 0 + 0 ≤ _)⟩)
  dsimp only [Pt.U, Pt.locs, Pt.cells, Pt.slots] at X176 l176 y176 z176 st176 hQ176
  subst l176 y176 z176
  obtain ⟨rfl, Nq176, eq176⟩ := hQ176
  have NN177 := Fr.app NN175 Nq176
  refine Go.st (T' := T176.setTop (mkF m 14 #[.val (.ref a1), .val (.int (Int32.ofNat i))] [(.ref (ys.getD i 0))])) (fun zt zk => st176.trans zk) ?_
  exact Go.done X176 Bd.notSynchronized (v := some (.ref (ys.getD i 0))) (fun h => by rw [Bd.returns] at h; cases h) (fun fs hr => retA X176 hx Bd.returns rfl rfl rfl (hb hby d21_14) hr) (by rw [eq176]; exact ⟨rfl, NN177, rfl⟩) (by decide) (by decide)
theorem own_os3 {z0 z1 z2 : Value} {s3 : Slot} {a : Addr} (h : One s3) : storeLocals #[.val z0, .val z1, .val z2, s3] 3 (.ref a) = some #[.val z0, .val z1, .val z2, .val (.ref a)] := by
  rcases h with rfl | ⟨w, rfl, hw⟩
  · rfl
  · cases w <;> first | rfl | (simp [Value.category] at hw)
theorem d10_0 : decode prog_68_method_5_code 0 = .ok (.iconst 0, 1) := by decide +kernel
theorem d10_1 : decode prog_68_method_5_code 1 = .ok (.istore_n 2, 1) := by decide +kernel
theorem d10_2 : decode prog_68_method_5_code 2 = .ok (.iload_n 2, 1) := by decide +kernel
theorem d10_3 : decode prog_68_method_5_code 3 = .ok (.aload_n 1, 1) := by decide +kernel
theorem d10_4 : decode prog_68_method_5_code 4 = .ok (.invokeinterface 76 1, 5) := by decide +kernel
theorem d10_9 : decode prog_68_method_5_code 9 = .ok (.if_icmp .ge 98, 3) := by decide +kernel
theorem d10_12 : decode prog_68_method_5_code 12 = .ok (.aload_n 1, 1) := by decide +kernel
theorem d10_13 : decode prog_68_method_5_code 13 = .ok (.iload_n 2, 1) := by decide +kernel
theorem d10_14 : decode prog_68_method_5_code 14 = .ok (.invokeinterface 81 2, 5) := by decide +kernel
theorem d10_19 : decode prog_68_method_5_code 19 = .ok (.checkcast 85, 3) := by decide +kernel
theorem d10_22 : decode prog_68_method_5_code 22 = .ok (.astore_n 3, 1) := by decide +kernel
theorem d10_23 : decode prog_68_method_5_code 23 = .ok (.aload_n 3, 1) := by decide +kernel
theorem d10_24 : decode prog_68_method_5_code 24 = .ok (.invokevirtual 87, 3) := by decide +kernel
theorem d10_27 : decode prog_68_method_5_code 27 = .ok (.ifCond .eq 26, 3) := by decide +kernel
theorem d10_53 : decode prog_68_method_5_code 53 = .ok (.aload_n 3, 1) := by decide +kernel
theorem d10_54 : decode prog_68_method_5_code 54 = .ok (.invokevirtual 100, 3) := by decide +kernel
theorem d10_57 : decode prog_68_method_5_code 57 = .ok (.sipush 4096, 3) := by decide +kernel
theorem d10_60 : decode prog_68_method_5_code 60 = .ok (.if_icmp .le 41, 3) := by decide +kernel
theorem d10_63 : decode prog_68_method_5_code 63 = .ok (.aload_n 3, 1) := by decide +kernel
theorem d10_64 : decode prog_68_method_5_code 64 = .ok (.iconst 0, 1) := by decide +kernel
theorem d10_65 : decode prog_68_method_5_code 65 = .ok (.aload_n 3, 1) := by decide +kernel
theorem d10_66 : decode prog_68_method_5_code 66 = .ok (.invokevirtual 100, 3) := by decide +kernel
theorem d10_69 : decode prog_68_method_5_code 69 = .ok (.invokevirtual 103, 3) := by decide +kernel
theorem d10_72 : decode prog_68_method_5_code 72 = .ok (.sipush 4096, 3) := by decide +kernel
theorem d10_75 : decode prog_68_method_5_code 75 = .ok (.if_icmp .le 26, 3) := by decide +kernel
theorem d10_101 : decode prog_68_method_5_code 101 = .ok (.iinc 2 1, 3) := by decide +kernel
theorem d10_104 : decode prog_68_method_5_code 104 = .ok (.goto (-102), 3) := by decide +kernel
theorem d10_107 : decode prog_68_method_5_code 107 = .ok (.return_, 1) := by decide +kernel
theorem pn_c4670b3 : plainName "com/example/librole/librole/textfile/TextFile" = true := by first | (simp [plainName, overriddenIn]; done) | decide +kernel
theorem ef_10 (m : MethodId) (x0 : Addr) (x1 : Addr) : entryFrame m #[(.ref x0), (.ref x1)] 4 = mkF m 0 #[.val (.ref x0), .val (.ref x1), .unset, .unset] [] := by first | (simp [entryFrame, mkF, argsToLocals, Value.category]; done) | rfl
def Q_rmRef (Z : State) (an a1 : Addr) (ys : List Addr) (h0 : Heap) (n0 : Nat) (v : Option Value) (h : Heap) (L : List Loc) : Prop := v = none ∧ Fr n0 L ∧ h = h0
set_option maxRecDepth 65536 in
set_option maxHeartbeats 40000000 in
theorem rmRef (l : Launch) (Z : State) (a0 : Array Value) (hw : ∀ d ∈ tables_1, d.before a0 Z = true) (an a1 : Addr) (ys : List Addr) (h0 : Heap) (n0 : Nat) (Z0 : n0 ≤ h0.size) (G1 : Int32) (O2 : Sta Z Z.heap "java/lang/String" "COMPACT_STRINGS" "Z" (.int G1)) (P5 : ¬ (G1 = (0 : Int32))) (X00 : Old Z n0 h0) (A1 : Sta Z Z.heap "java/lang/StringUTF16" "$assertionsDisabled" "Z" (.int (1 : Int32))) (A2 : Sta Z Z.heap "java/lang/StringUTF16" "HI_BYTE_SHIFT" "I" (.int (0 : Int32))) (A3 : Sta Z Z.heap "java/lang/StringUTF16" "LO_BYTE_SHIFT" "I" (.int (8 : Int32))) (E1 : Exa Z h0 a1 "java/util/ArrayList") (Fs : Fld Z h0 a1 "java/util/ArrayList" "size" "I" (.int (Int32.ofNat ys.length))) (hA : 0 < ys.length → ∃ (ed : Addr) (ke : ClassId), own_AL Z h0 a1 ed ke ys) (hy : ys.length ≤ 3) (hS : ∀ y ∈ ys, ∃ (t : Addr) (cs : List Int32), own_St Z h0 y t cs ∧ own_ok cs) :
    MetFree l (⟨"com/example/librole/librole/textfile/TextFile", "refuseEmptyOrTooLong", "(Ljava/util/List;Ljava/util/List;)V"⟩ : MethodName) (head1 [Jvm.Cond.code (⟨"com/example/librole/librole/textfile/TextFile", "refuseEmptyOrTooLong", "(Ljava/util/List;Ljava/util/List;)V"⟩ : MethodName) prog_68_method_5_code 4 none] ({ frames := 4, cells := 0, slots := 0, locals := 58 } : Room)) (fun a U => a = #[(.ref an), (.ref a1)] ∧ Z.Warmed39 U.vm ∧ U.heap = h0) (fun _ _ _ _ _ => True) (fun _ U o U' => ∃ v L, o = .returned v ∧ (Q_rmRef Z an a1 ys h0 n0) v U'.heap L ∧ FrameEnd U o U' L ({ frames := 4, cells := 0, slots := 0, locals := 58 } : Room).cells ({ frames := 4, cells := 0, slots := 0, locals := 58 } : Room).slots) := by
  refine MetFree.of_bodySF (plainFor_of_name pn_c4670b3) hisR ?_
  intro p e s m args below meth c s₁ Bd hml0 hP hK
  obtain ⟨rfl, hZ, hh⟩ := hP
  have hx := Bd.exec
  have hby := Bd.bytes
  have hml : c.maxLocals = 4 := hml0
  have hown : s.vm.findClass "com/example/librole/librole/textfile/TextFile" = some m.cls := findClass_of_methodNamed Bd.named
  have hnm := (name_of_methodNamed Bd.named Bd.method).1
  have X0 : Stand p l e ({ frames := 4, cells := 0, slots := 0, locals := 58 } : Room) s m #[(.ref an), (.ref a1)] below meth c s₁ [] 0 0 := Stand.of_body Bd
  have e0 : s₁.heap = h0 := by rw [← hh, Bd.state]; rfl
  have N0 := Fr.nil n0
  have K0 : Keep h0 h0 [] := Keep.refl h0 []
  show Go p e below (s₁.setTop (entryFrame m #[(.ref an), (.ref a1)] 4)) (EndN s (Q_rmRef Z an a1 ys h0 n0) ({ frames := 4, cells := 0, slots := 0, locals := 58 } : Room).cells ({ frames := 4, cells := 0, slots := 0, locals := 58 } : Room).slots)
  refine Go.top (ef_10 m an a1) ?_
  refine Go.st (T' := s₁.setTop (mkF m 1 #[.val (.ref an), .val (.ref a1), .unset, .unset] [(.int (0 : Int32))])) (fun zt zk => XS.iconst X0.here hx rfl (hb hby d10_0) zk) ?_
  refine Go.st (T' := s₁.setTop (mkF m 2 #[.val (.ref an), .val (.ref a1), .val (.int (0 : Int32)), .unset] [])) (fun zt zk => XS.istoreN X0.here hx rfl (hb hby d10_1) rfl (l' := #[.val (.ref an), .val (.ref a1), .val (.int (0 : Int32)), .unset]) rfl zk) ?_
  suffices loop : ∀ (r : Nat), r ≤ ys.length → ∀ (TL : State) (LL : List Loc) (s3 : Slot), Stand p l e ({ frames := 4, cells := 0, slots := 0, locals := 58 } : Room) s m #[(.ref an), (.ref a1)] below meth c TL LL 0 0 → TL.heap = h0 → Fr n0 LL → One s3 → Go p e below (TL.setTop (mkF m 2 #[.val (.ref an), .val (.ref a1), .val (.int (Int32.ofNat (ys.length - r))), s3] [])) (EndN s (Q_rmRef Z an a1 ys h0 n0) ({ frames := 4, cells := 0, slots := 0, locals := 58 } : Room).cells ({ frames := 4, cells := 0, slots := 0, locals := 58 } : Room).slots) by
    have := loop ys.length (Nat.le_refl _) s₁ _ .unset X0 e0 N0 One.u
    rw [Nat.sub_self] at this
    exact this
  intro r
  induction r with
  | zero =>
    intro hr TL LL s3 XL eL NL hs3
    refine Go.st (T' := TL.setTop (mkF m 3 #[.val (.ref an), .val (.ref a1), .val (.int (Int32.ofNat (ys.length - 0))), s3] [(.int (Int32.ofNat (ys.length - 0)))])) (fun zt zk => XS.iloadN XL.here hx rfl (hb hby d10_2) rfl zk) ?_
    refine Go.st (T' := TL.setTop (mkF m 4 #[.val (.ref an), .val (.ref a1), .val (.int (Int32.ofNat (ys.length - 0))), s3] [(.ref a1), (.int (Int32.ofNat (ys.length - 0)))])) (fun zt zk => XS.aloadN XL.here hx rfl (hb hby d10_3) rfl rfl zk) ?_
    obtain ⟨cq178, kq178, q178a, q178b, q178c⟩ := isOf hZ eL E1
    obtain ⟨vr178, _, ⟨T178, L178, k178, n178⟩, -, X178, ⟨Lc178, hQ178, l178, y178, z178⟩, st178⟩ := XL.interfaceBack hx (xi := (⟨"java/util/List", "size", "()I"⟩ : MethodName)) (y := (⟨"java/util/ArrayList", "size", "()I"⟩ : MethodName)) hown (mvT hZ (hw _ (List.mem_of_getElem? (i := 61) rfl))) (mvT hZ (hw _ (List.mem_of_getElem? (i := 62) rfl))) (mvT hZ (hw _ (List.mem_of_getElem? (i := 63) rfl))) (mvT hZ (hw _ (List.mem_of_getElem? (i := 64) rfl))) (mvT hZ (hw _ (List.mem_of_getElem? (i := 65) rfl))) (mvT hZ (hw _ (List.mem_of_getElem? (i := 66) rfl))) (mvT hZ (hw _ (List.mem_of_getElem? (i := 67) rfl))) (mvT hZ (hw _ (List.mem_of_getElem? (i := 68) rfl))) (by decide) (backOf (W := 1) (rmSize l Z a0 hw a1 (Int32.ofNat ys.length) h0 n0 Z0 Fs) hZ (hw _ (List.mem_of_getElem? (i := 69) rfl)) (hw _ (List.mem_of_getElem? (i := 35) rfl)) (by decide) (by decide)) q178a q178b q178c (g := (mkF m 4 #[.val (.ref an), .val (.ref a1), .val (.int (Int32.ofNat (ys.length - 0))), s3] [(.ref a1), (.int (Int32.ofNat (ys.length - 0)))])) rfl (by rw [hml]; rfl) (Steps.refl _) (argsL := []) (rest := [(.int (Int32.ofNat (ys.length - 0)))]) (lenOf pd_a8eac rfl) rfl (by show 2 * 0 + _ ≤ _; exact Nat.le_of_eq rfl) (hb hby d10_4) (fun _ _ => ⟨rfl, eL, (by decide : 0 + 0 ≤ _), (by decide : 0 + 0 ≤ _)⟩)
    dsimp only [Pt.U, Pt.locs, Pt.cells, Pt.slots] at X178 l178 y178 z178 st178 hQ178
    subst l178 y178 z178
    obtain ⟨rfl, Nq178, eq178⟩ := hQ178
    have NN179 := Fr.app NL Nq178
    refine Go.st (T' := T178.setTop (mkF m 9 #[.val (.ref an), .val (.ref a1), .val (.int (Int32.ofNat (ys.length - 0))), s3] [(.int (Int32.ofNat ys.length)), (.int (Int32.ofNat (ys.length - 0)))])) (fun zt zk => st178.trans zk) ?_
    refine Go.st (T' := T178.setTop (mkF m 107 #[.val (.ref an), .val (.ref a1), .val (.int (Int32.ofNat (ys.length - 0))), s3] [])) (fun zt zk => XS.icmpYes X178.here hx rfl (pc0 := 9) (pc' := 107) rfl (hb hby d10_9) rfl (flt (fun q => absurd ((own_lt32 (by omega) (by omega)).mp q) (by omega))).2.1 (by decide) (by decide) zk) ?_
    exact Go.done X178 Bd.notSynchronized (v := none) (fun _ => rfl) (fun fs hr => X178.returnOut hx Bd.returns (hb hby d10_107) hr) (by rw [eq178]; exact ⟨rfl, NN179, rfl⟩) (by decide) (by decide)
  | succ r ih =>
    intro hr TL LL s3 XL eL NL hs3
    refine Go.st (T' := TL.setTop (mkF m 3 #[.val (.ref an), .val (.ref a1), .val (.int (Int32.ofNat (ys.length - (r + 1)))), s3] [(.int (Int32.ofNat (ys.length - (r + 1))))])) (fun zt zk => XS.iloadN XL.here hx rfl (hb hby d10_2) rfl zk) ?_
    refine Go.st (T' := TL.setTop (mkF m 4 #[.val (.ref an), .val (.ref a1), .val (.int (Int32.ofNat (ys.length - (r + 1)))), s3] [(.ref a1), (.int (Int32.ofNat (ys.length - (r + 1))))])) (fun zt zk => XS.aloadN XL.here hx rfl (hb hby d10_3) rfl rfl zk) ?_
    obtain ⟨cq180, kq180, q180a, q180b, q180c⟩ := isOf hZ eL E1
    obtain ⟨vr180, _, ⟨T180, L180, k180, n180⟩, -, X180, ⟨Lc180, hQ180, l180, y180, z180⟩, st180⟩ := XL.interfaceBack hx (xi := (⟨"java/util/List", "size", "()I"⟩ : MethodName)) (y := (⟨"java/util/ArrayList", "size", "()I"⟩ : MethodName)) hown (mvT hZ (hw _ (List.mem_of_getElem? (i := 61) rfl))) (mvT hZ (hw _ (List.mem_of_getElem? (i := 62) rfl))) (mvT hZ (hw _ (List.mem_of_getElem? (i := 63) rfl))) (mvT hZ (hw _ (List.mem_of_getElem? (i := 64) rfl))) (mvT hZ (hw _ (List.mem_of_getElem? (i := 65) rfl))) (mvT hZ (hw _ (List.mem_of_getElem? (i := 66) rfl))) (mvT hZ (hw _ (List.mem_of_getElem? (i := 67) rfl))) (mvT hZ (hw _ (List.mem_of_getElem? (i := 68) rfl))) (by decide) (backOf (W := 1) (rmSize l Z a0 hw a1 (Int32.ofNat ys.length) h0 n0 Z0 Fs) hZ (hw _ (List.mem_of_getElem? (i := 69) rfl)) (hw _ (List.mem_of_getElem? (i := 35) rfl)) (by decide) (by decide)) q180a q180b q180c (g := (mkF m 4 #[.val (.ref an), .val (.ref a1), .val (.int (Int32.ofNat (ys.length - (r + 1)))), s3] [(.ref a1), (.int (Int32.ofNat (ys.length - (r + 1))))])) rfl (by rw [hml]; rfl) (Steps.refl _) (argsL := []) (rest := [(.int (Int32.ofNat (ys.length - (r + 1))))]) (lenOf pd_a8eac rfl) rfl (by show 2 * 0 + _ ≤ _; exact Nat.le_of_eq rfl) (hb hby d10_4) (fun _ _ => ⟨rfl, eL, (by decide : 0 + 0 ≤ _), (by decide : 0 + 0 ≤ _)⟩)
    dsimp only [Pt.U, Pt.locs, Pt.cells, Pt.slots] at X180 l180 y180 z180 st180 hQ180
    subst l180 y180 z180
    obtain ⟨rfl, Nq180, eq180⟩ := hQ180
    have NN181 := Fr.app NL Nq180
    refine Go.st (T' := T180.setTop (mkF m 9 #[.val (.ref an), .val (.ref a1), .val (.int (Int32.ofNat (ys.length - (r + 1)))), s3] [(.int (Int32.ofNat ys.length)), (.int (Int32.ofNat (ys.length - (r + 1))))])) (fun zt zk => st180.trans zk) ?_
    refine Go.st (T' := T180.setTop (mkF m 12 #[.val (.ref an), .val (.ref a1), .val (.int (Int32.ofNat (ys.length - (r + 1)))), s3] [])) (fun zt zk => XS.icmpNo X180.here hx rfl (hb hby d10_9) rfl (tlt ((own_lt32 (by omega) (by omega)).mpr (by omega))).2.1 zk) ?_
    refine Go.st (T' := T180.setTop (mkF m 13 #[.val (.ref an), .val (.ref a1), .val (.int (Int32.ofNat (ys.length - (r + 1)))), s3] [(.ref a1)])) (fun zt zk => XS.aloadN X180.here hx rfl (hb hby d10_12) rfl rfl zk) ?_
    refine Go.st (T' := T180.setTop (mkF m 14 #[.val (.ref an), .val (.ref a1), .val (.int (Int32.ofNat (ys.length - (r + 1)))), s3] [(.int (Int32.ofNat (ys.length - (r + 1)))), (.ref a1)])) (fun zt zk => XS.iloadN X180.here hx rfl (hb hby d10_13) rfl zk) ?_
    obtain ⟨ed, ke, AL_⟩ := hA (by omega)
    obtain ⟨y, hyy⟩ : ∃ z, z = ys.getD (ys.length - (r + 1)) 0 := ⟨_, rfl⟩
    obtain ⟨t, cs, Sx, hok⟩ := hS y (by rw [hyy, List.getD_eq_getElem?_getD, List.getElem?_eq_getElem (by omega)]; exact List.getElem_mem (by omega))
    obtain ⟨h1l, hle, hp, h4⟩ := id hok
    obtain ⟨cq182, kq182, q182a, q182b, q182c⟩ := isOf hZ eq180 E1
    obtain ⟨vr182, _, ⟨T182, L182, k182, n182⟩, -, X182, ⟨Lc182, hQ182, l182, y182, z182⟩, st182⟩ := X180.interfaceBack hx (xi := (⟨"java/util/List", "get", "(I)Ljava/lang/Object;"⟩ : MethodName)) (y := (⟨"java/util/ArrayList", "get", "(I)Ljava/lang/Object;"⟩ : MethodName)) hown (mvT hZ (hw _ (List.mem_of_getElem? (i := 119) rfl))) (mvT hZ (hw _ (List.mem_of_getElem? (i := 120) rfl))) (mvT hZ (hw _ (List.mem_of_getElem? (i := 121) rfl))) (mvT hZ (hw _ (List.mem_of_getElem? (i := 122) rfl))) (mvT hZ (hw _ (List.mem_of_getElem? (i := 123) rfl))) (mvT hZ (hw _ (List.mem_of_getElem? (i := 124) rfl))) (mvT hZ (hw _ (List.mem_of_getElem? (i := 125) rfl))) (mvT hZ (hw _ (List.mem_of_getElem? (i := 68) rfl))) (by decide) (backOf (W := 0) (rmGet l Z a0 hw a1 ed ke ys (ys.length - (r + 1)) h0 n0 Z0 AL_ (by omega) hy) hZ (hw _ (List.mem_of_getElem? (i := 126) rfl)) (hw _ (List.mem_of_getElem? (i := 35) rfl)) (by decide) (by decide)) q182a q182b q182c (g := (mkF m 14 #[.val (.ref an), .val (.ref a1), .val (.int (Int32.ofNat (ys.length - (r + 1)))), s3] [(.int (Int32.ofNat (ys.length - (r + 1)))), (.ref a1)])) rfl (by rw [hml]; rfl) (Steps.refl _) (argsL := [(.int (Int32.ofNat (ys.length - (r + 1))))]) (rest := []) (lenOf pd_f6251a8 rfl) rfl (by show 2 * 0 + _ ≤ _; exact Nat.le_of_eq rfl) (hb hby d10_14) (fun _ _ => ⟨rfl, eq180, (by decide : 0 + 0 ≤ _), (by decide : 0 + 0 ≤ _)⟩)
    dsimp only [Pt.U, Pt.locs, Pt.cells, Pt.slots] at X182 l182 y182 z182 st182 hQ182
    subst l182 y182 z182
    obtain ⟨rfl, Nq182, eq182⟩ := hQ182
    have NN183 := Fr.app NN181 Nq182
    refine Go.st (T' := T182.setTop (mkF m 19 #[.val (.ref an), .val (.ref a1), .val (.int (Int32.ofNat (ys.length - (r + 1)))), s3] [(.ref (ys.getD (ys.length - (r + 1)) 0))])) (fun zt zk => st182.trans zk) ?_
    rw [← hyy]
    obtain ⟨T184, X184, e184, st184⟩ := castY X182 hx hZ hown (hw _ (List.mem_of_getElem? (i := 140) rfl)) eq182 (Ins.self Sx.1) (g := (mkF m 19 #[.val (.ref an), .val (.ref a1), .val (.int (Int32.ofNat (ys.length - (r + 1)))), s3] [(.ref y)])) rfl rfl (hb hby d10_19)
    refine Go.st (T' := T184.setTop (mkF m 22 #[.val (.ref an), .val (.ref a1), .val (.int (Int32.ofNat (ys.length - (r + 1)))), s3] [(.ref y)])) (fun zt zk => st184 zt zk) ?_
    refine Go.st (T' := T184.setTop (mkF m 23 #[.val (.ref an), .val (.ref a1), .val (.int (Int32.ofNat (ys.length - (r + 1)))), .val (.ref y)] [])) (fun zt zk => XS.astoreN X184.here hx rfl (hb hby d10_22) rfl rfl (l' := #[.val (.ref an), .val (.ref a1), .val (.int (Int32.ofNat (ys.length - (r + 1)))), .val (.ref y)]) (own_os3 hs3) zk) ?_
    refine Go.st (T' := T184.setTop (mkF m 24 #[.val (.ref an), .val (.ref a1), .val (.int (Int32.ofNat (ys.length - (r + 1)))), .val (.ref y)] [(.ref y)])) (fun zt zk => XS.aloadN X184.here hx rfl (hb hby d10_23) rfl rfl zk) ?_
    obtain ⟨cq185, kq185, q185a, q185b, q185c⟩ := isOf hZ e184 Sx.1
    obtain ⟨vr185, _, ⟨T185, L185, k185, n185⟩, -, X185, ⟨Lc185, hQ185, l185, y185, z185⟩, st185⟩ := X184.virtualBack hx (y := (⟨"java/lang/String", "isEmpty", "()Z"⟩ : MethodName)) (z := (⟨"java/lang/String", "isEmpty", "()Z"⟩ : MethodName)) hown (mvT hZ (hw _ (List.mem_of_getElem? (i := 141) rfl))) (mvT hZ (hw _ (List.mem_of_getElem? (i := 142) rfl))) (notFace_of_selects (args := #[]) (mvT hZ (hw _ (List.mem_of_getElem? (i := 144) rfl)))) (mvT hZ (hw _ (List.mem_of_getElem? (i := 144) rfl))) (mvT hZ (hw _ (List.mem_of_getElem? (i := 143) rfl))) (by decide) (backOf (W := 0) (rmEmp l Z a0 hw y t cs h0 n0 Z0 Sx h1l hle) hZ (hw _ (List.mem_of_getElem? (i := 145) rfl)) (hw _ (List.mem_of_getElem? (i := 6) rfl)) (by decide) (by decide)) q185a q185c (g := (mkF m 24 #[.val (.ref an), .val (.ref a1), .val (.int (Int32.ofNat (ys.length - (r + 1)))), .val (.ref y)] [(.ref y)])) rfl (by rw [hml]; rfl) (Steps.refl _) (argsL := []) (rest := []) (lenOf pd_a8ebd rfl) rfl (by show 2 * 0 + _ ≤ _; exact Nat.le_of_eq rfl) (hb hby d10_24) (fun _ _ => ⟨rfl, e184, (by decide : 0 + 0 ≤ _), (by decide : 0 + 0 ≤ _)⟩)
    dsimp only [Pt.U, Pt.locs, Pt.cells, Pt.slots] at X185 l185 y185 z185 st185 hQ185
    subst l185 y185 z185
    obtain ⟨rfl, Nq185, eq185⟩ := hQ185
    have NN186 := Fr.app NN183 Nq185
    refine Go.st (T' := T185.setTop (mkF m 27 #[.val (.ref an), .val (.ref a1), .val (.int (Int32.ofNat (ys.length - (r + 1)))), .val (.ref y)] [(.int (0 : Int32))])) (fun zt zk => st185.trans zk) ?_
    refine Go.st (T' := T185.setTop (mkF m 53 #[.val (.ref an), .val (.ref a1), .val (.int (Int32.ofNat (ys.length - (r + 1)))), .val (.ref y)] [])) (fun zt zk => XS.ifYes X185.here hx rfl (pc0 := 27) (pc' := 53) rfl (hb hby d10_27) rfl ((if0 _ _).trans (teq rfl).1) (by decide) (by decide) zk) ?_
    refine Go.st (T' := T185.setTop (mkF m 54 #[.val (.ref an), .val (.ref a1), .val (.int (Int32.ofNat (ys.length - (r + 1)))), .val (.ref y)] [(.ref y)])) (fun zt zk => XS.aloadN X185.here hx rfl (hb hby d10_53) rfl rfl zk) ?_
    obtain ⟨cq187, kq187, q187a, q187b, q187c⟩ := isOf hZ eq185 Sx.1
    obtain ⟨vr187, _, ⟨T187, L187, k187, n187⟩, -, X187, ⟨Lc187, hQ187, l187, y187, z187⟩, st187⟩ := X185.virtualBack hx (y := (⟨"java/lang/String", "length", "()I"⟩ : MethodName)) (z := (⟨"java/lang/String", "length", "()I"⟩ : MethodName)) hown (mvT hZ (hw _ (List.mem_of_getElem? (i := 146) rfl))) (mvT hZ (hw _ (List.mem_of_getElem? (i := 147) rfl))) (notFace_of_selects (args := #[]) (mvT hZ (hw _ (List.mem_of_getElem? (i := 149) rfl)))) (mvT hZ (hw _ (List.mem_of_getElem? (i := 149) rfl))) (mvT hZ (hw _ (List.mem_of_getElem? (i := 148) rfl))) (by decide) (backOf (W := 0) (rmLen l Z a0 hw y t cs h0 n0 Z0 G1 O2 P5 X00 Sx h1l hle) hZ (hw _ (List.mem_of_getElem? (i := 150) rfl)) (hw _ (List.mem_of_getElem? (i := 6) rfl)) (by decide) (by decide)) q187a q187c (g := (mkF m 54 #[.val (.ref an), .val (.ref a1), .val (.int (Int32.ofNat (ys.length - (r + 1)))), .val (.ref y)] [(.ref y)])) rfl (by rw [hml]; rfl) (Steps.refl _) (argsL := []) (rest := []) (lenOf pd_a8eac rfl) rfl (by show 2 * 0 + _ ≤ _; exact Nat.le_of_eq rfl) (hb hby d10_54) (fun _ _ => ⟨rfl, eq185, (by decide : 0 + 0 ≤ _), (by decide : 0 + 0 ≤ _)⟩)
    dsimp only [Pt.U, Pt.locs, Pt.cells, Pt.slots] at X187 l187 y187 z187 st187 hQ187
    subst l187 y187 z187
    obtain ⟨rfl, Nq187, eq187⟩ := hQ187
    have NN188 := Fr.app NN186 Nq187
    refine Go.st (T' := T187.setTop (mkF m 57 #[.val (.ref an), .val (.ref a1), .val (.int (Int32.ofNat (ys.length - (r + 1)))), .val (.ref y)] [(.int (Int32.ofNat cs.length))])) (fun zt zk => st187.trans zk) ?_
    refine Go.st (T' := T187.setTop (mkF m 60 #[.val (.ref an), .val (.ref a1), .val (.int (Int32.ofNat (ys.length - (r + 1)))), .val (.ref y)] [(.int (4096 : Int32)), (.int (Int32.ofNat cs.length))])) (fun zt zk => XS.sipush X187.here hx rfl (hb hby d10_57) zk) ?_
    by_cases h40 : (4096 : Int32) < (Int32.ofNat cs.length)
    ·
      refine Go.st (T' := T187.setTop (mkF m 63 #[.val (.ref an), .val (.ref a1), .val (.int (Int32.ofNat (ys.length - (r + 1)))), .val (.ref y)] [])) (fun zt zk => XS.icmpNo X187.here hx rfl (hb hby d10_60) rfl (tlt h40).2.2.2 zk) ?_
      have hbig := h4 ((own_lt32 (i := 4096) (by omega) (by omega)).mp h40)
      refine Go.st (T' := T187.setTop (mkF m 64 #[.val (.ref an), .val (.ref a1), .val (.int (Int32.ofNat (ys.length - (r + 1)))), .val (.ref y)] [(.ref y)])) (fun zt zk => XS.aloadN X187.here hx rfl (hb hby d10_63) rfl rfl zk) ?_
      refine Go.st (T' := T187.setTop (mkF m 65 #[.val (.ref an), .val (.ref a1), .val (.int (Int32.ofNat (ys.length - (r + 1)))), .val (.ref y)] [(.int (0 : Int32)), (.ref y)])) (fun zt zk => XS.iconst X187.here hx rfl (hb hby d10_64) zk) ?_
      refine Go.st (T' := T187.setTop (mkF m 66 #[.val (.ref an), .val (.ref a1), .val (.int (Int32.ofNat (ys.length - (r + 1)))), .val (.ref y)] [(.ref y), (.int (0 : Int32)), (.ref y)])) (fun zt zk => XS.aloadN X187.here hx rfl (hb hby d10_65) rfl rfl zk) ?_
      obtain ⟨cq189, kq189, q189a, q189b, q189c⟩ := isOf hZ eq187 Sx.1
      obtain ⟨vr189, _, ⟨T189, L189, k189, n189⟩, -, X189, ⟨Lc189, hQ189, l189, y189, z189⟩, st189⟩ := X187.virtualBack hx (y := (⟨"java/lang/String", "length", "()I"⟩ : MethodName)) (z := (⟨"java/lang/String", "length", "()I"⟩ : MethodName)) hown (mvT hZ (hw _ (List.mem_of_getElem? (i := 146) rfl))) (mvT hZ (hw _ (List.mem_of_getElem? (i := 147) rfl))) (notFace_of_selects (args := #[]) (mvT hZ (hw _ (List.mem_of_getElem? (i := 149) rfl)))) (mvT hZ (hw _ (List.mem_of_getElem? (i := 149) rfl))) (mvT hZ (hw _ (List.mem_of_getElem? (i := 148) rfl))) (by decide) (backOf (W := 2) (rmLen l Z a0 hw y t cs h0 n0 Z0 G1 O2 P5 X00 Sx h1l hle) hZ (hw _ (List.mem_of_getElem? (i := 150) rfl)) (hw _ (List.mem_of_getElem? (i := 6) rfl)) (by decide) (by decide)) q189a q189c (g := (mkF m 66 #[.val (.ref an), .val (.ref a1), .val (.int (Int32.ofNat (ys.length - (r + 1)))), .val (.ref y)] [(.ref y), (.int (0 : Int32)), (.ref y)])) rfl (by rw [hml]; rfl) (Steps.refl _) (argsL := []) (rest := [(.int (0 : Int32)), (.ref y)]) (lenOf pd_a8eac rfl) rfl (by show 2 * 0 + _ ≤ _; exact Nat.le_of_eq rfl) (hb hby d10_66) (fun _ _ => ⟨rfl, eq187, (by decide : 0 + 0 ≤ _), (by decide : 0 + 0 ≤ _)⟩)
      dsimp only [Pt.U, Pt.locs, Pt.cells, Pt.slots] at X189 l189 y189 z189 st189 hQ189
      subst l189 y189 z189
      obtain ⟨rfl, Nq189, eq189⟩ := hQ189
      have NN190 := Fr.app NN188 Nq189
      refine Go.st (T' := T189.setTop (mkF m 69 #[.val (.ref an), .val (.ref a1), .val (.int (Int32.ofNat (ys.length - (r + 1)))), .val (.ref y)] [(.int (Int32.ofNat cs.length)), (.int (0 : Int32)), (.ref y)])) (fun zt zk => st189.trans zk) ?_
      obtain ⟨cq191, kq191, q191a, q191b, q191c⟩ := isOf hZ eq189 Sx.1
      obtain ⟨vr191, _, ⟨T191, L191, k191, n191⟩, -, X191, ⟨Lc191, hQ191, l191, y191, z191⟩, st191⟩ := X189.virtualBack hx (y := (⟨"java/lang/String", "codePointCount", "(II)I"⟩ : MethodName)) (z := (⟨"java/lang/String", "codePointCount", "(II)I"⟩ : MethodName)) hown (mvT hZ (hw _ (List.mem_of_getElem? (i := 175) rfl))) (mvT hZ (hw _ (List.mem_of_getElem? (i := 176) rfl))) (notFace_of_selects (args := #[]) (mvT hZ (hw _ (List.mem_of_getElem? (i := 178) rfl)))) (mvT hZ (hw _ (List.mem_of_getElem? (i := 178) rfl))) (mvT hZ (hw _ (List.mem_of_getElem? (i := 177) rfl))) (by decide) (backOf (W := 0) (rmCPC l Z a0 hw y t cs h0 n0 Z0 G1 O2 P5 X00 A1 A2 A3 Sx h1l hle hbig.1 hp) hZ (hw _ (List.mem_of_getElem? (i := 179) rfl)) (hw _ (List.mem_of_getElem? (i := 6) rfl)) (by decide) (by decide)) q191a q191c (g := (mkF m 69 #[.val (.ref an), .val (.ref a1), .val (.int (Int32.ofNat (ys.length - (r + 1)))), .val (.ref y)] [(.int (Int32.ofNat cs.length)), (.int (0 : Int32)), (.ref y)])) rfl (by rw [hml]; rfl) (Steps.refl _) (argsL := [(.int (0 : Int32)), (.int (Int32.ofNat cs.length))]) (rest := []) (lenOf pd_7ffd0b0 rfl) rfl (by show 2 * 0 + _ ≤ _; exact Nat.le_of_eq rfl) (hb hby d10_69) (fun _ _ => ⟨rfl, eq189, (by decide : 0 + 0 ≤ _), (by decide : 0 + 0 ≤ _)⟩)
      dsimp only [Pt.U, Pt.locs, Pt.cells, Pt.slots] at X191 l191 y191 z191 st191 hQ191
      subst l191 y191 z191
      obtain ⟨rfl, Nq191, eq191⟩ := hQ191
      have NN192 := Fr.app NN190 Nq191
      refine Go.st (T' := T191.setTop (mkF m 72 #[.val (.ref an), .val (.ref a1), .val (.int (Int32.ofNat (ys.length - (r + 1)))), .val (.ref y)] [(.int (Int32.ofNat (cs.length - own_cq (fun i => cs.getD i 0) cs.length cs.length)))])) (fun zt zk => st191.trans zk) ?_
      refine Go.st (T' := T191.setTop (mkF m 75 #[.val (.ref an), .val (.ref a1), .val (.int (Int32.ofNat (ys.length - (r + 1)))), .val (.ref y)] [(.int (4096 : Int32)), (.int (Int32.ofNat (cs.length - own_cq (fun i => cs.getD i 0) cs.length cs.length)))])) (fun zt zk => XS.sipush X191.here hx rfl (hb hby d10_72) zk) ?_
      refine Go.st (T' := T191.setTop (mkF m 101 #[.val (.ref an), .val (.ref a1), .val (.int (Int32.ofNat (ys.length - (r + 1)))), .val (.ref y)] [])) (fun zt zk => XS.icmpYes X191.here hx rfl (pc0 := 75) (pc' := 101) rfl (hb hby d10_75) rfl (flt (fun q => absurd ((own_lt32 (i := 4096) (by omega) (by omega)).mp q) (by have := hbig.2; omega))).2.2.2 (by decide) (by decide) zk) ?_
      refine Go.st (T' := T191.setTop (mkF m 104 #[.val (.ref an), .val (.ref a1), .val (.int ((Int32.ofNat (ys.length - (r + 1))) + (1 : Int32))), .val (.ref y)] [])) (fun zt zk => XS.iinc X191.here hx rfl (hb hby d10_101) rfl (l' := #[.val (.ref an), .val (.ref a1), .val (.int ((Int32.ofNat (ys.length - (r + 1))) + (1 : Int32))), .val (.ref y)]) rfl zk) ?_
      rw [own_addn (k := (1 : Int32)) (b := 1) rfl (by omega), show ys.length - (r + 1) + 1 = ys.length - r by omega]
      refine Go.st (T' := T191.setTop (mkF m 2 #[.val (.ref an), .val (.ref a1), .val (.int (Int32.ofNat (ys.length - r))), .val (.ref y)] [])) (fun zt zk => XS.goto X191.here hx rfl (pc0 := 104) (pc' := 2) rfl (hb hby d10_104) (by decide) (by decide) zk) ?_
      exact ih (by omega) _ _ _ X191 eq191 NN192 (One.val rfl)
    ·
      refine Go.st (T' := T187.setTop (mkF m 101 #[.val (.ref an), .val (.ref a1), .val (.int (Int32.ofNat (ys.length - (r + 1)))), .val (.ref y)] [])) (fun zt zk => XS.icmpYes X187.here hx rfl (pc0 := 60) (pc' := 101) rfl (hb hby d10_60) rfl (flt h40).2.2.2 (by decide) (by decide) zk) ?_
      refine Go.st (T' := T187.setTop (mkF m 104 #[.val (.ref an), .val (.ref a1), .val (.int ((Int32.ofNat (ys.length - (r + 1))) + (1 : Int32))), .val (.ref y)] [])) (fun zt zk => XS.iinc X187.here hx rfl (hb hby d10_101) rfl (l' := #[.val (.ref an), .val (.ref a1), .val (.int ((Int32.ofNat (ys.length - (r + 1))) + (1 : Int32))), .val (.ref y)]) rfl zk) ?_
      rw [own_addn (k := (1 : Int32)) (b := 1) rfl (by omega), show ys.length - (r + 1) + 1 = ys.length - r by omega]
      refine Go.st (T' := T187.setTop (mkF m 2 #[.val (.ref an), .val (.ref a1), .val (.int (Int32.ofNat (ys.length - r))), .val (.ref y)] [])) (fun zt zk => XS.goto X187.here hx rfl (pc0 := 104) (pc' := 2) rfl (hb hby d10_104) (by decide) (by decide) zk) ?_
      exact ih (by omega) _ _ _ X187 eq187 NN188 (One.val rfl)
theorem d13_0 : decode jdk_43_method_3_code 0 = .ok (.iload_n 0, 1) := by decide +kernel
theorem d13_1 : decode jdk_43_method_3_code 1 = .ok (.sipush 255, 3) := by decide +kernel
theorem d13_4 : decode jdk_43_method_3_code 4 = .ok (.if_icmp .gt 7, 3) := by decide +kernel
theorem d13_7 : decode jdk_43_method_3_code 7 = .ok (.iconst 1, 1) := by decide +kernel
theorem d13_8 : decode jdk_43_method_3_code 8 = .ok (.goto 4, 3) := by decide +kernel
theorem d13_12 : decode jdk_43_method_3_code 12 = .ok (.ireturn, 1) := by decide +kernel
theorem pn_9a48540 : plainName "java/lang/StringLatin1" = true := by first | (simp [plainName, overriddenIn]; done) | decide +kernel
theorem ef_13 (m : MethodId) (x0 : Int32) : entryFrame m #[(.int x0)] 1 = mkF m 0 #[.val (.int x0)] [] := by first | (simp [entryFrame, mkF, argsToLocals, Value.category]; done) | rfl
def Q_rmCan (Z : State) (p1 : Int32) (h0 : Heap) (n0 : Nat) (v : Option Value) (h : Heap) (L : List Loc) : Prop := v = some (.int (1 : Int32)) ∧ Fr n0 L ∧ h = h0
set_option maxRecDepth 65536 in
set_option maxHeartbeats 40000000 in
theorem rmCan (l : Launch) (Z : State) (a0 : Array Value) (hw : ∀ d ∈ tables_1, d.before a0 Z = true) (p1 : Int32) (h0 : Heap) (n0 : Nat) (Z0 : n0 ≤ h0.size) (hc : ¬ (255 : Int32) < p1) :
    MetFree l (⟨"java/lang/StringLatin1", "canEncode", "(C)Z"⟩ : MethodName) (head1 [Jvm.Cond.code (⟨"java/lang/StringLatin1", "canEncode", "(C)Z"⟩ : MethodName) jdk_43_method_3_code 1 (some .boolean)] ({ frames := 0, cells := 0, slots := 0, locals := 0 } : Room)) (fun a U => a = #[(.int p1)] ∧ Z.Warmed39 U.vm ∧ U.heap = h0) (fun _ _ _ _ _ => True) (fun _ U o U' => ∃ v L, o = .returned v ∧ (Q_rmCan Z p1 h0 n0) v U'.heap L ∧ FrameEnd U o U' L ({ frames := 0, cells := 0, slots := 0, locals := 0 } : Room).cells ({ frames := 0, cells := 0, slots := 0, locals := 0 } : Room).slots) := by
  refine MetFree.of_bodySF (plainFor_of_name pn_9a48540) hisR ?_
  intro p e s m args below meth c s₁ Bd hml0 hP hK
  obtain ⟨rfl, hZ, hh⟩ := hP
  have hx := Bd.exec
  have hby := Bd.bytes
  have hml : c.maxLocals = 1 := hml0
  have hown : s.vm.findClass "java/lang/StringLatin1" = some m.cls := findClass_of_methodNamed Bd.named
  have hnm := (name_of_methodNamed Bd.named Bd.method).1
  have X0 : Stand p l e ({ frames := 0, cells := 0, slots := 0, locals := 0 } : Room) s m #[(.int p1)] below meth c s₁ [] 0 0 := Stand.of_body Bd
  have e0 : s₁.heap = h0 := by rw [← hh, Bd.state]; rfl
  have N0 := Fr.nil n0
  have K0 : Keep h0 h0 [] := Keep.refl h0 []
  show Go p e below (s₁.setTop (entryFrame m #[(.int p1)] 1)) (EndN s (Q_rmCan Z p1 h0 n0) ({ frames := 0, cells := 0, slots := 0, locals := 0 } : Room).cells ({ frames := 0, cells := 0, slots := 0, locals := 0 } : Room).slots)
  refine Go.top (ef_13 m p1) ?_
  refine Go.st (T' := s₁.setTop (mkF m 1 #[.val (.int p1)] [(.int p1)])) (fun zt zk => XS.iloadN X0.here hx rfl (hb hby d13_0) rfl zk) ?_
  refine Go.st (T' := s₁.setTop (mkF m 4 #[.val (.int p1)] [(.int (255 : Int32)), (.int p1)])) (fun zt zk => XS.sipush X0.here hx rfl (hb hby d13_1) zk) ?_
  refine Go.st (T' := s₁.setTop (mkF m 7 #[.val (.int p1)] [])) (fun zt zk => XS.icmpNo X0.here hx rfl (hb hby d13_4) rfl (flt hc).2.2.1 zk) ?_
  refine Go.st (T' := s₁.setTop (mkF m 8 #[.val (.int p1)] [(.int (1 : Int32))])) (fun zt zk => XS.iconst X0.here hx rfl (hb hby d13_7) zk) ?_
  refine Go.st (T' := s₁.setTop (mkF m 12 #[.val (.int p1)] [(.int (1 : Int32))])) (fun zt zk => XS.goto X0.here hx rfl (pc0 := 8) (pc' := 12) rfl (hb hby d13_8) (by decide) (by decide) zk) ?_
  exact Go.done X0 Bd.notSynchronized (v := some (.int (nar .boolean (1 : Int32)))) (fun h => by rw [Bd.returns] at h; cases h) (fun fs hr => retN X0 hx (t := .boolean) Bd.returns (by simp) (hb hby d13_12) hr) (by rw [e0]; exact ⟨rfl, N0, rfl⟩) (by decide) (by decide)
theorem d14_0 : decode jdk_43_method_46_code 0 = .ok (.iconst 1, 1) := by decide +kernel
theorem d14_1 : decode jdk_43_method_46_code 1 = .ok (.newarray .byte, 2) := by decide +kernel
theorem d14_3 : decode jdk_43_method_46_code 3 = .ok (.dup, 1) := by decide +kernel
theorem d14_4 : decode jdk_43_method_46_code 4 = .ok (.iconst 0, 1) := by decide +kernel
theorem d14_5 : decode jdk_43_method_46_code 5 = .ok (.iload_n 0, 1) := by decide +kernel
theorem d14_6 : decode jdk_43_method_46_code 6 = .ok (.i2b, 1) := by decide +kernel
theorem d14_7 : decode jdk_43_method_46_code 7 = .ok (.bastore, 1) := by decide +kernel
theorem d14_8 : decode jdk_43_method_46_code 8 = .ok (.areturn, 1) := by decide +kernel
theorem ef_14 (m : MethodId) (x0 : Int32) : entryFrame m #[(.int x0)] 1 = mkF m 0 #[.val (.int x0)] [] := by first | (simp [entryFrame, mkF, argsToLocals, Value.category]; done) | rfl
def Q_rmToB (Z : State) (p1 : Int32) (h0 : Heap) (n0 : Nat) (v : Option Value) (h : Heap) (L : List Loc) : Prop := Fr n0 L ∧ Keep h0 h [] ∧ ∃ x : Addr, v = some (.ref x)
set_option maxRecDepth 65536 in
set_option maxHeartbeats 40000000 in
theorem rmToB (l : Launch) (Z : State) (a0 : Array Value) (hw : ∀ d ∈ tables_1, d.before a0 Z = true) (p1 : Int32) (h0 : Heap) (n0 : Nat) (Z0 : n0 ≤ h0.size)  :
    MetFree l (⟨"java/lang/StringLatin1", "toBytes", "(C)[B"⟩ : MethodName) (head1 [Jvm.Cond.code (⟨"java/lang/StringLatin1", "toBytes", "(C)[B"⟩ : MethodName) jdk_43_method_46_code 1 (some (.array .byte))] ({ frames := 0, cells := 1, slots := 1, locals := 0 } : Room)) (fun a U => a = #[(.int p1)] ∧ Z.Warmed39 U.vm ∧ U.heap = h0) (fun _ _ _ _ _ => True) (fun _ U o U' => ∃ v L, o = .returned v ∧ (Q_rmToB Z p1 h0 n0) v U'.heap L ∧ FrameEnd U o U' L ({ frames := 0, cells := 1, slots := 1, locals := 0 } : Room).cells ({ frames := 0, cells := 1, slots := 1, locals := 0 } : Room).slots) := by
  refine MetFree.of_bodySF (plainFor_of_name pn_9a48540) hisR ?_
  intro p e s m args below meth c s₁ Bd hml0 hP hK
  obtain ⟨rfl, hZ, hh⟩ := hP
  have hx := Bd.exec
  have hby := Bd.bytes
  have hml : c.maxLocals = 1 := hml0
  have hown : s.vm.findClass "java/lang/StringLatin1" = some m.cls := findClass_of_methodNamed Bd.named
  have hnm := (name_of_methodNamed Bd.named Bd.method).1
  have X0 : Stand p l e ({ frames := 0, cells := 1, slots := 1, locals := 0 } : Room) s m #[(.int p1)] below meth c s₁ [] 0 0 := Stand.of_body Bd
  have e0 : s₁.heap = h0 := by rw [← hh, Bd.state]; rfl
  have N0 := Fr.nil n0
  have K0 : Keep h0 h0 [] := Keep.refl h0 []
  show Go p e below (s₁.setTop (entryFrame m #[(.int p1)] 1)) (EndN s (Q_rmToB Z p1 h0 n0) ({ frames := 0, cells := 1, slots := 1, locals := 0 } : Room).cells ({ frames := 0, cells := 1, slots := 1, locals := 0 } : Room).slots)
  refine Go.top (ef_14 m p1) ?_
  refine Go.st (T' := s₁.setTop (mkF m 1 #[.val (.int p1)] [(.int (1 : Int32))])) (fun zt zk => XS.iconst X0.here hx rfl (hb hby d14_0) zk) ?_
  obtain ⟨T193, h193, k193, X193, e193, E193, A193, st193⟩ := newP X0 hx hZ (hw _ (List.mem_of_getElem? (i := 22) rfl)) e0 (g := (mkF m 1 #[.val (.int p1)] [(.int (1 : Int32))])) rfl (hb hby d14_1) rfl (by decide) (cap := 1) (by decide) (by decide) (by decide) (by decide)
  obtain ⟨b193, g193⟩ : ∃ z, z = h0.size := ⟨_, rfl⟩
  rw [← g193] at A193 st193
  have g_b193 : n0 ≤ b193 := Nat.le_trans (Nat.le_trans Z0 K0.1) (Nat.le_of_eq g193.symm)
  have sz_b193 : h0.size ≤ b193 := Nat.le_trans K0.1 (Nat.le_of_eq g193.symm)
  have K193 : Keep h0 h193 [] := K0.ext E193
  have V193 : Arv Z h193 b193 k193 .byte (1 : Int32) [(.int (0 : Int32))] (.int (0 : Int32)) := (Arv.new A193 (by decide)).pad (pad_rep [] (.int (0 : Int32)) 1)
  refine Go.st (T' := T193.setTop (mkF m 3 #[.val (.int p1)] [(.ref b193)])) (fun zt zk => st193 zt zk) ?_
  refine Go.st (T' := T193.setTop (mkF m 4 #[.val (.int p1)] [(.ref b193), (.ref b193)])) (fun zt zk => XS.dup X193.here hx rfl (hb hby d14_3) rfl rfl zk) ?_
  refine Go.st (T' := T193.setTop (mkF m 5 #[.val (.int p1)] [(.int (0 : Int32)), (.ref b193), (.ref b193)])) (fun zt zk => XS.iconst X193.here hx rfl (hb hby d14_4) zk) ?_
  refine Go.st (T' := T193.setTop (mkF m 6 #[.val (.int p1)] [(.int p1), (.int (0 : Int32)), (.ref b193), (.ref b193)])) (fun zt zk => XS.iloadN X193.here hx rfl (hb hby d14_5) rfl zk) ?_
  refine Go.st (T' := T193.setTop (mkF m 7 #[.val (.int p1)] [(.int (p1.toInt8.toInt32)), (.int (0 : Int32)), (.ref b193), (.ref b193)])) (fun zt zk => XS.i2b X193.here hx rfl (hb hby d14_6) rfl zk) ?_
  obtain ⟨cl194, Ar194, q194, S194, M194, H194, G194⟩ := id V193
  obtain ⟨T194, h194, X194, e194, W194, st194⟩ := stB X193 hx hZ e193 Ar194 (j := (0 : Int32)) (inb_of S194 ⟨by decide, by decide⟩) (g := (mkF m 7 #[.val (.int p1)] [(.int (p1.toInt8.toInt32)), (.int (0 : Int32)), (.ref b193), (.ref b193)])) rfl rfl (hb hby d14_7)
  have V194 : Arv Z h194 b193 k193 .byte (1 : Int32) [(.int (nar .byte (p1.toInt8.toInt32)))] (.int (0 : Int32)) := Arv.set Ar194 q194 S194 M194 H194 G194 (fits_nar_byte _) W194 0 rfl (Nat.le_of_ble_eq_true rfl)
  have K194 : Keep h0 h194 [] := K193.wr W194 (Or.inr sz_b193)
  have N194 := Fr.snoc X194 N0 g_b193
  refine Go.st (T' := T194.setTop (mkF m 8 #[.val (.int p1)] [(.ref b193)])) (fun zt zk => st194 zt zk) ?_
  exact Go.done X194 Bd.notSynchronized (v := some (.ref b193)) (fun h => by rw [Bd.returns] at h; cases h) (fun fs hr => retA X194 hx Bd.returns rfl rfl rfl (hb hby d14_8) hr) (by rw [e194]; exact ⟨N194, K194, b193, rfl⟩) (by decide) (by decide)
theorem d15_0 : decode jdk_42_method_151_code 0 = .ok (.aload_n 0, 1) := by decide +kernel
theorem d15_1 : decode jdk_42_method_151_code 1 = .ok (.invokespecial 1, 3) := by decide +kernel
theorem d15_4 : decode jdk_42_method_151_code 4 = .ok (.aload_n 0, 1) := by decide +kernel
theorem d15_5 : decode jdk_42_method_151_code 5 = .ok (.aload_n 1, 1) := by decide +kernel
theorem d15_6 : decode jdk_42_method_151_code 6 = .ok (.putfield 9, 3) := by decide +kernel
theorem d15_9 : decode jdk_42_method_151_code 9 = .ok (.aload_n 0, 1) := by decide +kernel
theorem d15_10 : decode jdk_42_method_151_code 10 = .ok (.iload_n 2, 1) := by decide +kernel
theorem d15_11 : decode jdk_42_method_151_code 11 = .ok (.putfield 15, 3) := by decide +kernel
theorem d15_14 : decode jdk_42_method_151_code 14 = .ok (.return_, 1) := by decide +kernel
theorem ef_15 (m : MethodId) (x0 : Addr) (x1 : Addr) (x2 : Int32) : entryFrame m #[(.ref x0), (.ref x1), (.int x2)] 3 = mkF m 0 #[.val (.ref x0), .val (.ref x1), .val (.int x2)] [] := by first | (simp [entryFrame, mkF, argsToLocals, Value.category]; done) | rfl
def Q_rmBB (Z : State) (x b : Addr) (h0 : Heap) (n0 : Nat) (v : Option Value) (h : Heap) (L : List Loc) : Prop := v = none ∧ Fr n0 L ∧ Keep h0 h [x] ∧ Exa Z h x "java/lang/String"
set_option maxRecDepth 65536 in
set_option maxHeartbeats 40000000 in
theorem rmBB (l : Launch) (Z : State) (a0 : Array Value) (hw : ∀ d ∈ tables_1, d.before a0 Z = true) (x b : Addr) (h0 : Heap) (n0 : Nat) (Z0 : n0 ≤ h0.size) (E1 : Exa Z h0 x "java/lang/String") (g_x : n0 ≤ x) (Fv : Fld Z h0 x "java/lang/String" "value" "[B" .null) (Fc : Fld Z h0 x "java/lang/String" "coder" "B" (.int (0 : Int32))) :
    MetFree l (⟨"java/lang/String", "<init>", "([BB)V"⟩ : MethodName) (head1 [Jvm.Cond.code (⟨"java/lang/String", "<init>", "([BB)V"⟩ : MethodName) jdk_42_method_151_code 3 none] ({ frames := 1, cells := 0, slots := 0, locals := 12 } : Room)) (fun a U => a = #[(.ref x), (.ref b), (.int (0 : Int32))] ∧ Z.Warmed39 U.vm ∧ U.heap = h0) (fun _ _ _ _ _ => True) (fun _ U o U' => ∃ v L, o = .returned v ∧ (Q_rmBB Z x b h0 n0) v U'.heap L ∧ FrameEnd U o U' L ({ frames := 1, cells := 0, slots := 0, locals := 12 } : Room).cells ({ frames := 1, cells := 0, slots := 0, locals := 12 } : Room).slots) := by
  refine MetFree.of_bodySF (plainFor_of_name pn_397d88e) hisR ?_
  intro p e s m args below meth c s₁ Bd hml0 hP hK
  obtain ⟨rfl, hZ, hh⟩ := hP
  have hx := Bd.exec
  have hby := Bd.bytes
  have hml : c.maxLocals = 3 := hml0
  have hown : s.vm.findClass "java/lang/String" = some m.cls := findClass_of_methodNamed Bd.named
  have hnm := (name_of_methodNamed Bd.named Bd.method).1
  have X0 : Stand p l e ({ frames := 1, cells := 0, slots := 0, locals := 12 } : Room) s m #[(.ref x), (.ref b), (.int (0 : Int32))] below meth c s₁ [] 0 0 := Stand.of_body Bd
  have e0 : s₁.heap = h0 := by rw [← hh, Bd.state]; rfl
  have N0 := Fr.nil n0
  have K0 : Keep h0 h0 [x] := Keep.refl h0 [x]
  show Go p e below (s₁.setTop (entryFrame m #[(.ref x), (.ref b), (.int (0 : Int32))] 3)) (EndN s (Q_rmBB Z x b h0 n0) ({ frames := 1, cells := 0, slots := 0, locals := 12 } : Room).cells ({ frames := 1, cells := 0, slots := 0, locals := 12 } : Room).slots)
  refine Go.top (ef_15 m x b (0 : Int32)) ?_
  refine Go.st (T' := s₁.setTop (mkF m 1 #[.val (.ref x), .val (.ref b), .val (.int (0 : Int32))] [(.ref x)])) (fun zt zk => XS.aloadN X0.here hx rfl (hb hby d15_0) rfl rfl zk) ?_
  obtain ⟨T195, X195, e195, st195⟩ := initO X0 hx hZ hown (hw _ (List.mem_of_getElem? (i := 14) rfl)) (hw _ (List.mem_of_getElem? (i := 15) rfl)) (hw _ (List.mem_of_getElem? (i := 16) rfl)) e0 (g := (mkF m 1 #[.val (.ref x), .val (.ref b), .val (.int (0 : Int32))] [(.ref x)])) rfl (by rw [hml]; rfl) rfl (hb hby d15_1) (by decide) (W := 0) (by show 2 * 0 + _ ≤ _; exact Nat.le_of_eq rfl) (by decide)
  refine Go.st (T' := T195.setTop (mkF m 4 #[.val (.ref x), .val (.ref b), .val (.int (0 : Int32))] [])) (fun zt zk => st195 zt zk) ?_
  refine Go.st (T' := T195.setTop (mkF m 5 #[.val (.ref x), .val (.ref b), .val (.int (0 : Int32))] [(.ref x)])) (fun zt zk => XS.aloadN X195.here hx rfl (hb hby d15_4) rfl rfl zk) ?_
  refine Go.st (T' := T195.setTop (mkF m 6 #[.val (.ref x), .val (.ref b), .val (.int (0 : Int32))] [(.ref b), (.ref x)])) (fun zt zk => XS.aloadN X195.here hx rfl (hb hby d15_5) rfl rfl zk) ?_
  obtain ⟨T196, h196, X196, e196, W196, st196⟩ := putF X195 hx hZ hown (host := "") (Or.inl (hw _ (List.mem_of_getElem? (i := 31) rfl))) Via.refl e195 Fv E1 (Or.inr ⟨(hw _ (List.mem_of_getElem? (i := 32) rfl)), rfl, hnm⟩) (hw _ (List.mem_of_getElem? (i := 5) rfl)) (ty := (.array .byte)) (by decide) rfl rfl (g := (mkF m 6 #[.val (.ref x), .val (.ref b), .val (.int (0 : Int32))] [(.ref b), (.ref x)])) rfl rfl (hb hby d15_6)
  have Fw196 : Fld Z h196 x "java/lang/String" "value" "[B" (.ref b) := Fv.same W196
  have K196 : Keep h0 h196 [x] := K0.wr W196 (Or.inl (List.mem_of_getElem? (i := 0) rfl))
  have N196 := Fr.snoc X196 N0 g_x
  refine Go.st (T' := T196.setTop (mkF m 9 #[.val (.ref x), .val (.ref b), .val (.int (0 : Int32))] [])) (fun zt zk => st196 zt zk) ?_
  refine Go.st (T' := T196.setTop (mkF m 10 #[.val (.ref x), .val (.ref b), .val (.int (0 : Int32))] [(.ref x)])) (fun zt zk => XS.aloadN X196.here hx rfl (hb hby d15_9) rfl rfl zk) ?_
  refine Go.st (T' := T196.setTop (mkF m 11 #[.val (.ref x), .val (.ref b), .val (.int (0 : Int32))] [(.int (0 : Int32)), (.ref x)])) (fun zt zk => XS.iloadN X196.here hx rfl (hb hby d15_10) rfl zk) ?_
  have f197 : Fld Z h196 x "java/lang/String" "coder" "B" (.int (0 : Int32)) := (Fc.other W196 (Or.inr (slot_ne (Or.inr (hw _ (List.mem_of_getElem? (i := 30) rfl))) (Or.inr (hw _ (List.mem_of_getElem? (i := 32) rfl))) (by decide) (t := .byte) (t' := (.array .byte)) (by decide) (by decide))))
  have f198 : Exa Z h196 x "java/lang/String" := (E1.wr W196)
  obtain ⟨T199, h199, X199, e199, W199, st199⟩ := putFN X196 hx hZ hown (hw _ (List.mem_of_getElem? (i := 29) rfl)) Via.refl e196 f197 f198 (Or.inr ⟨(hw _ (List.mem_of_getElem? (i := 30) rfl)), rfl, hnm⟩) (hw _ (List.mem_of_getElem? (i := 5) rfl)) (ty := .byte) (v' := (.int (nar .byte (0 : Int32)))) (by decide) rfl (fits_nar_byte _) (g := (mkF m 11 #[.val (.ref x), .val (.ref b), .val (.int (0 : Int32))] [(.int (0 : Int32)), (.ref x)])) rfl rfl (hb hby d15_11)
  have Fw199 : Fld Z h199 x "java/lang/String" "coder" "B" (.int (nar .byte (0 : Int32))) := f197.same W199
  have K199 : Keep h0 h199 [x] := K196.wr W199 (Or.inl (List.mem_of_getElem? (i := 0) rfl))
  have N199 := Fr.snoc X199 N196 g_x
  refine Go.st (T' := T199.setTop (mkF m 14 #[.val (.ref x), .val (.ref b), .val (.int (0 : Int32))] [])) (fun zt zk => st199 zt zk) ?_
  have f200 : Exa Z h199 x "java/lang/String" := (f198.wr W199)
  exact Go.done X199 Bd.notSynchronized (v := none) (fun _ => rfl) (fun fs hr => X199.returnOut hx Bd.returns (hb hby d15_14) hr) (by rw [e199]; exact ⟨rfl, N199, K199, f200⟩) (by decide) (by decide)
theorem d12_0 : decode jdk_42_method_139_code 0 = .ok (.getstatic 38, 3) := by decide +kernel
theorem d12_3 : decode jdk_42_method_139_code 3 = .ok (.ifCond .eq 23, 3) := by decide +kernel
theorem d12_6 : decode jdk_42_method_139_code 6 = .ok (.iload_n 0, 1) := by decide +kernel
theorem d12_7 : decode jdk_42_method_139_code 7 = .ok (.invokestatic 1015, 3) := by decide +kernel
theorem d12_10 : decode jdk_42_method_139_code 10 = .ok (.ifCond .eq 16, 3) := by decide +kernel
theorem d12_13 : decode jdk_42_method_139_code 13 = .ok (.new 10, 3) := by decide +kernel
theorem d12_16 : decode jdk_42_method_139_code 16 = .ok (.dup, 1) := by decide +kernel
theorem d12_17 : decode jdk_42_method_139_code 17 = .ok (.iload_n 0, 1) := by decide +kernel
theorem d12_18 : decode jdk_42_method_139_code 18 = .ok (.invokestatic 1018, 3) := by decide +kernel
theorem d12_21 : decode jdk_42_method_139_code 21 = .ok (.iconst 0, 1) := by decide +kernel
theorem d12_22 : decode jdk_42_method_139_code 22 = .ok (.invokespecial 209, 3) := by decide +kernel
theorem d12_25 : decode jdk_42_method_139_code 25 = .ok (.areturn, 1) := by decide +kernel
theorem pd_729b77d : parseMethodDescriptor "(C)[B" = some ⟨[.char], some (.array .byte)⟩ := by decide +kernel
theorem pd_2f4f85c : parseMethodDescriptor "([BB)V" = some ⟨[(.array .byte), .byte], none⟩ := by decide +kernel
theorem ef_12 (m : MethodId) (x0 : Int32) : entryFrame m #[(.int x0)] 1 = mkF m 0 #[.val (.int x0)] [] := by first | (simp [entryFrame, mkF, argsToLocals, Value.category]; done) | rfl
def Q_rmVal (Z : State) (p1 : Int32) (h0 : Heap) (n0 : Nat) (v : Option Value) (h : Heap) (L : List Loc) : Prop := Fr n0 L ∧ Keep h0 h [] ∧ ∃ x : Addr, v = some (.ref x) ∧ Exa Z h x "java/lang/String"
set_option maxRecDepth 65536 in
set_option maxHeartbeats 40000000 in
theorem rmVal (l : Launch) (Z : State) (a0 : Array Value) (hw : ∀ d ∈ tables_1, d.before a0 Z = true) (p1 : Int32) (h0 : Heap) (n0 : Nat) (Z0 : n0 ≤ h0.size) (G1 : Int32) (O2 : Sta Z Z.heap "java/lang/String" "COMPACT_STRINGS" "Z" (.int G1)) (P5 : ¬ (G1 = (0 : Int32))) (X00 : Old Z n0 h0) (hc : ¬ (255 : Int32) < p1) :
    MetFree l (⟨"java/lang/String", "valueOf", "(C)Ljava/lang/String;"⟩ : MethodName) (head1 [Jvm.Cond.code (⟨"java/lang/String", "valueOf", "(C)Ljava/lang/String;"⟩ : MethodName) jdk_42_method_139_code 1 (some (.object "java/lang/String"))] ({ frames := 2, cells := 2, slots := 5, locals := 27 } : Room)) (fun a U => a = #[(.int p1)] ∧ Z.Warmed39 U.vm ∧ U.heap = h0) (fun _ _ _ _ _ => True) (fun _ U o U' => ∃ v L, o = .returned v ∧ (Q_rmVal Z p1 h0 n0) v U'.heap L ∧ FrameEnd U o U' L ({ frames := 2, cells := 2, slots := 5, locals := 27 } : Room).cells ({ frames := 2, cells := 2, slots := 5, locals := 27 } : Room).slots) := by
  refine MetFree.of_bodySF (plainFor_of_name pn_397d88e) hisR ?_
  intro p e s m args below meth c s₁ Bd hml0 hP hK
  obtain ⟨rfl, hZ, hh⟩ := hP
  have hx := Bd.exec
  have hby := Bd.bytes
  have hml : c.maxLocals = 1 := hml0
  have hown : s.vm.findClass "java/lang/String" = some m.cls := findClass_of_methodNamed Bd.named
  have hnm := (name_of_methodNamed Bd.named Bd.method).1
  have X0 : Stand p l e ({ frames := 2, cells := 2, slots := 5, locals := 27 } : Room) s m #[(.int p1)] below meth c s₁ [] 0 0 := Stand.of_body Bd
  have e0 : s₁.heap = h0 := by rw [← hh, Bd.state]; rfl
  have N0 := Fr.nil n0
  have K0 : Keep h0 h0 [] := Keep.refl h0 []
  show Go p e below (s₁.setTop (entryFrame m #[(.int p1)] 1)) (EndN s (Q_rmVal Z p1 h0 n0) ({ frames := 2, cells := 2, slots := 5, locals := 27 } : Room).cells ({ frames := 2, cells := 2, slots := 5, locals := 27 } : Room).slots)
  refine Go.top (ef_12 m p1) ?_
  obtain ⟨T201, X201, e201, st201⟩ := getS (host := "") X0 hx hZ hown (hw _ (List.mem_of_getElem? (i := 17) rfl)) Via.refl e0 (O2.ext (X00.keep K0 all0).2) (g := (mkF m 0 #[.val (.int p1)] [])) rfl (hb hby d12_0)
  refine Go.st (T' := T201.setTop (mkF m 3 #[.val (.int p1)] [(.int G1)])) (fun zt zk => st201 zt zk) ?_
  refine Go.st (T' := T201.setTop (mkF m 6 #[.val (.int p1)] [])) (fun zt zk => XS.ifNo X201.here hx rfl (hb hby d12_3) rfl ((if0 _ _).trans (feq P5).1) zk) ?_
  refine Go.st (T' := T201.setTop (mkF m 7 #[.val (.int p1)] [(.int p1)])) (fun zt zk => XS.iloadN X201.here hx rfl (hb hby d12_6) rfl zk) ?_
  obtain ⟨vr202, _, ⟨T202, L202, k202, n202⟩, -, X202, ⟨Lc202, hQ202, l202, y202, z202⟩, st202⟩ := Jvm.LawKit.callS X201 hx (y := (⟨"java/lang/StringLatin1", "canEncode", "(C)Z"⟩ : MethodName)) hown (mvT hZ (hw _ (List.mem_of_getElem? (i := 76) rfl))) (mvT hZ (hw _ (List.mem_of_getElem? (i := 77) rfl))) (mvT hZ (hw _ (List.mem_of_getElem? (i := 78) rfl))) (mvT hZ (hw _ (List.mem_of_getElem? (i := 79) rfl))) (by decide) (backOf (W := 0) (rmCan l Z a0 hw p1 h0 n0 Z0 hc) hZ (hw _ (List.mem_of_getElem? (i := 79) rfl)) (hw _ (List.mem_of_getElem? (i := 78) rfl)) (by decide) (by decide)) (g := (mkF m 7 #[.val (.int p1)] [(.int p1)])) rfl (by rw [hml]; rfl) (argsL := [(.int p1)]) (rest := []) (lenOf pd_56dc0e8 rfl) rfl (by show 2 * 0 + _ ≤ _; exact Nat.le_of_eq rfl) (hb hby d12_7) (fun _ _ => ⟨rfl, e201, (by decide : 0 + 0 ≤ _), (by decide : 0 + 0 ≤ _)⟩)
  dsimp only [Pt.U, Pt.locs, Pt.cells, Pt.slots] at X202 l202 y202 z202 st202 hQ202
  subst l202 y202 z202
  obtain ⟨rfl, Nq202, eq202⟩ := hQ202
  have NN203 := Fr.app N0 Nq202
  refine Go.st (T' := T202.setTop (mkF m 10 #[.val (.int p1)] [(.int (1 : Int32))])) (fun zt zk => st202 zt zk) ?_
  refine Go.st (T' := T202.setTop (mkF m 13 #[.val (.int p1)] [])) (fun zt zk => XS.ifNo X202.here hx rfl (hb hby d12_10) rfl ((if0 _ _).trans (feq (by decide)).1) zk) ?_
  obtain ⟨T204, h204, X204, e204, E204, A204, D204, U204, st204⟩ := newO X202 hx hZ hown (hw _ (List.mem_of_getElem? (i := 80) rfl)) (hw _ (List.mem_of_getElem? (i := 5) rfl)) (hw _ (List.mem_of_getElem? (i := 6) rfl)) eq202 (g := (mkF m 13 #[.val (.int p1)] [])) rfl (hb hby d12_13) (by decide) (by decide)
  obtain ⟨b204, g204⟩ : ∃ z, z = h0.size := ⟨_, rfl⟩
  rw [← g204] at A204 D204 U204 st204
  have g_b204 : n0 ≤ b204 := Nat.le_trans (Nat.le_trans Z0 K0.1) (Nat.le_of_eq g204.symm)
  have sz_b204 : h0.size ≤ b204 := Nat.le_trans K0.1 (Nat.le_of_eq g204.symm)
  have K204 : Keep h0 h204 [] := K0.ext E204
  have Fn204_coder : Fld Z h204 b204 "java/lang/String" "coder" "B" (.int (0 : Int32)) := D204 (Or.inr (hw _ (List.mem_of_getElem? (i := 30) rfl))) (ty := .byte) (by decide)
  have Fn204_value : Fld Z h204 b204 "java/lang/String" "value" "[B" .null := D204 (Or.inr (hw _ (List.mem_of_getElem? (i := 32) rfl))) (ty := (.array .byte)) (by decide)
  refine Go.st (T' := T204.setTop (mkF m 16 #[.val (.int p1)] [(.ref b204)])) (fun zt zk => st204 zt zk) ?_
  refine Go.st (T' := T204.setTop (mkF m 17 #[.val (.int p1)] [(.ref b204), (.ref b204)])) (fun zt zk => XS.dup X204.here hx rfl (hb hby d12_16) rfl rfl zk) ?_
  refine Go.st (T' := T204.setTop (mkF m 18 #[.val (.int p1)] [(.int p1), (.ref b204), (.ref b204)])) (fun zt zk => XS.iloadN X204.here hx rfl (hb hby d12_17) rfl zk) ?_
  obtain ⟨vr205, _, ⟨T205, L205, k205, n205⟩, -, X205, ⟨Lc205, hQ205, l205, y205, z205⟩, st205⟩ := Jvm.LawKit.callS X204 hx (y := (⟨"java/lang/StringLatin1", "toBytes", "(C)[B"⟩ : MethodName)) hown (mvT hZ (hw _ (List.mem_of_getElem? (i := 81) rfl))) (mvT hZ (hw _ (List.mem_of_getElem? (i := 82) rfl))) (mvT hZ (hw _ (List.mem_of_getElem? (i := 78) rfl))) (mvT hZ (hw _ (List.mem_of_getElem? (i := 83) rfl))) (by decide) (backOf (W := 2) (rmToB l Z a0 hw p1 h204 n0 (Nat.le_trans Z0 K204.1)) hZ (hw _ (List.mem_of_getElem? (i := 83) rfl)) (hw _ (List.mem_of_getElem? (i := 78) rfl)) (by decide) (by decide)) (g := (mkF m 18 #[.val (.int p1)] [(.int p1), (.ref b204), (.ref b204)])) rfl (by rw [hml]; rfl) (argsL := [(.int p1)]) (rest := [(.ref b204), (.ref b204)]) (lenOf pd_729b77d rfl) rfl (by show 2 * 0 + _ ≤ _; exact Nat.le_of_eq rfl) (hb hby d12_18) (fun _ _ => ⟨rfl, e204, (by decide : 1 + 1 ≤ _), (by decide : 4 + 1 ≤ _)⟩)
  dsimp only [Pt.U, Pt.locs, Pt.cells, Pt.slots] at X205 l205 y205 z205 st205 hQ205
  subst l205 y205 z205
  obtain ⟨Nq205, Kq205, yb205, rfl⟩ := hQ205
  have KK206 : Keep h0 T205.heap [] := K204.trans Kq205 all0
  have NN207 := Fr.app NN203 Nq205
  refine Go.st (T' := T205.setTop (mkF m 21 #[.val (.int p1)] [(.ref yb205), (.ref b204), (.ref b204)])) (fun zt zk => st205 zt zk) ?_
  refine Go.st (T' := T205.setTop (mkF m 22 #[.val (.int p1)] [(.int (0 : Int32)), (.ref yb205), (.ref b204), (.ref b204)])) (fun zt zk => XS.iconst X205.here hx rfl (hb hby d12_21) zk) ?_
  have f209 : Exa Z T205.heap b204 "java/lang/String" := (A204.keep Kq205)
  have f210 : Fld Z T205.heap b204 "java/lang/String" "value" "[B" .null := (Fn204_value.keep Kq205 nin0)
  have f211 : Fld Z T205.heap b204 "java/lang/String" "coder" "B" (.int (0 : Int32)) := (Fn204_coder.keep Kq205 nin0)
  obtain ⟨vr208, _, ⟨T208, L208, k208, n208⟩, -, X208, ⟨Lc208, hQ208, l208, y208, z208⟩, st208⟩ := X205.specialBack hx (y := (⟨"java/lang/String", "<init>", "([BB)V"⟩ : MethodName)) rfl hown (mvT hZ (hw _ (List.mem_of_getElem? (i := 84) rfl))) (mvT hZ (hw _ (List.mem_of_getElem? (i := 85) rfl))) (mvT hZ (hw _ (List.mem_of_getElem? (i := 86) rfl))) (by decide) (backOf (W := 1) (rmBB l Z a0 hw b204 yb205 T205.heap n0 (Nat.le_trans Z0 KK206.1) f209 g_b204 f210 f211) hZ (hw _ (List.mem_of_getElem? (i := 86) rfl)) (hw _ (List.mem_of_getElem? (i := 6) rfl)) (by decide) (by decide)) (g := (mkF m 22 #[.val (.int p1)] [(.int (0 : Int32)), (.ref yb205), (.ref b204), (.ref b204)])) rfl (by rw [hml]; rfl) (Steps.refl _) (a := b204) (argsL := [(.ref yb205), (.int (0 : Int32))]) (rest := [(.ref b204)]) (lenOf pd_2f4f85c rfl) rfl (by show 2 * 0 + _ ≤ _; exact Nat.le_of_eq rfl) (hb hby d12_22) (fun _ _ => ⟨rfl, rfl, (by decide : 2 + 0 ≤ _), (by decide : 5 + 0 ≤ _)⟩)
  dsimp only [Pt.U, Pt.locs, Pt.cells, Pt.slots] at X208 l208 y208 z208 st208 hQ208
  subst l208 y208 z208
  obtain ⟨rfl, Nq208, Kq208, Eq208⟩ := hQ208
  have KK212 : Keep h0 T208.heap [] := KK206.trans Kq208 (allS (Or.inr sz_b204) all0)
  have NN213 := Fr.app NN207 Nq208
  refine Go.st (T' := T208.setTop (mkF m 25 #[.val (.int p1)] [(.ref b204)])) (fun zt zk => st208.trans zk) ?_
  exact Go.done X208 Bd.notSynchronized (v := some (.ref b204)) (fun h => by rw [Bd.returns] at h; cases h) (fun fs hr => retA X208 hx Bd.returns rfl rfl rfl (hb hby d12_25) hr) (by rw [(rfl : T208.heap = T208.heap)]; exact ⟨NN213, KK212, b204, rfl, Eq208⟩) (by decide) (by decide)
theorem pn_800e57d : plainName "com/example/librole/librole/textfile/TextFileRefuseEmptyOrTooLongPinLaw" = true := by first | (simp [plainName, overriddenIn]; done) | decide +kernel
theorem pd_a67b36d : parseMethodDescriptor "([C)V" = some ⟨[(.array .char)], none⟩ := by decide +kernel
theorem pd_b86c906 : parseMethodDescriptor "(Ljava/util/List;Ljava/util/List;)V" = some ⟨[(.object "java/util/List"), (.object "java/util/List")], none⟩ := by decide +kernel
theorem pd_b5a46ce : parseMethodDescriptor "(C)Ljava/lang/String;" = some ⟨[.char], some (.object "java/lang/String")⟩ := by decide +kernel
theorem pd_a0133a8 : parseMethodDescriptor "(Ljava/lang/Object;)Z" = some ⟨[(.object "java/lang/Object")], some .boolean⟩ := by decide +kernel
theorem ef_0 (m : MethodId) (x0 : Int32) (x1 : Int32) (x2 : Int32) (x3 : Int32) (x4 : Int32) : entryFrame m #[(.int x0), (.int x1), (.int x2), (.int x3), (.int x4)] maxLocals = mkF m 0 #[.val (.int x0), .val (.int x1), .val (.int x2), .val (.int x3), .val (.int x4), .unset, .unset, .unset, .unset, .unset, .unset, .unset, .unset, .unset, .unset] [] := by first | (simp [entryFrame, mkF, argsToLocals, Value.category, maxLocals]; done) | rfl
def Q_rm0 (Z : State) (p1 p2 p3 p4 p5 : Int32) (h0 : Heap) (n0 : Nat) (v : Option Value) (h : Heap) (L : List Loc) : Prop := v = some (.int (1 : Int32)) ∧ Fr n0 L
set_option maxRecDepth 65536 in
set_option maxHeartbeats 40000000 in
theorem rm0 (l : Launch) (Z : State) (a0 : Array Value) (hw : ∀ d ∈ tables_1, d.before a0 Z = true) (ws : List Jvm.Cond) (p1 p2 p3 p4 p5 : Int32) (h0 : Heap) (n0 : Nat) (Z0 : n0 ≤ h0.size) (G1 : Int32) (O2 : Sta Z Z.heap "java/lang/String" "COMPACT_STRINGS" "Z" (.int G1)) (P5 : ¬ (G1 = (0 : Int32))) (X00 : Old Z n0 h0) (A1 : Sta Z Z.heap "java/lang/StringUTF16" "$assertionsDisabled" "Z" (.int (1 : Int32))) (A2 : Sta Z Z.heap "java/lang/StringUTF16" "HI_BYTE_SHIFT" "I" (.int (0 : Int32))) (A3 : Sta Z Z.heap "java/lang/StringUTF16" "LO_BYTE_SHIFT" "I" (.int (8 : Int32))) (de : Addr) (Sd : Sta Z Z.heap "java/util/ArrayList" "DEFAULTCAPACITY_EMPTY_ELEMENTDATA" "[Ljava/lang/Object;" (.ref de)) (Bde0 : own_D Z Z.heap de) :
    MetFree l x (head1 (Jvm.Cond.code x code maxLocals ret :: ws) room_1) (fun a U => a = #[(.int p1), (.int p2), (.int p3), (.int p4), (.int p5)] ∧ Z.Warmed39 U.vm ∧ U.heap = h0) (fun _ _ _ _ _ => True) (fun _ U o U' => ∃ v L, o = .returned v ∧ (Q_rm0 Z p1 p2 p3 p4 p5 h0 n0) v U'.heap L ∧ FrameEnd U o U' L room_1.cells room_1.slots) := by
  refine MetFree.of_bodySF (plainFor_of_name pn_800e57d) hisR ?_
  intro p e s m args below meth c s₁ Bd hml0 hP hK
  obtain ⟨rfl, hZ, hh⟩ := hP
  have hx := Bd.exec
  have hby := Bd.bytes
  have hml : c.maxLocals = 15 := hml0
  have hown : s.vm.findClass "com/example/librole/librole/textfile/TextFileRefuseEmptyOrTooLongPinLaw" = some m.cls := findClass_of_methodNamed Bd.named
  have hnm := (name_of_methodNamed Bd.named Bd.method).1
  have X0 : Stand p l e room_1 s m #[(.int p1), (.int p2), (.int p3), (.int p4), (.int p5)] below meth c s₁ [] 0 0 := Stand.of_body Bd
  have e0 : s₁.heap = h0 := by rw [← hh, Bd.state]; rfl
  have N0 := Fr.nil n0
  have K0 : Keep h0 h0 [] := Keep.refl h0 []
  show Go p e below (s₁.setTop (entryFrame m #[(.int p1), (.int p2), (.int p3), (.int p4), (.int p5)] maxLocals)) (EndN s (Q_rm0 Z p1 p2 p3 p4 p5 h0 n0) room_1.cells room_1.slots)
  refine Go.top (ef_0 m p1 p2 p3 p4 p5) ?_
  have lde : de < n0 := by rw [← X00.1]; exact Bde0.lt
  refine Go.st (T' := s₁.setTop (mkF m 1 #[.val (.int p1), .val (.int p2), .val (.int p3), .val (.int p4), .val (.int p5), .unset, .unset, .unset, .unset, .unset, .unset, .unset, .unset, .unset, .unset] [(.int p1)])) (fun zt zk => XS.iloadN X0.here hx rfl (hb hby at_0) rfl zk) ?_
  refine Go.st (T' := s₁.setTop (mkF m 2 #[.val (.int p1), .val (.int p2), .val (.int p3), .val (.int p4), .val (.int p5), .unset, .unset, .unset, .unset, .unset, .unset, .unset, .unset, .unset, .unset] [(.int (3 : Int32)), (.int p1)])) (fun zt zk => XS.iconst X0.here hx rfl (hb hby at_1) zk) ?_
  refine Go.st (T' := s₁.setTop (mkF m 3 #[.val (.int p1), .val (.int p2), .val (.int p3), .val (.int p4), .val (.int p5), .unset, .unset, .unset, .unset, .unset, .unset, .unset, .unset, .unset, .unset] [(.int (p1 &&& (3 : Int32)))])) (fun zt zk => XS.iand X0.here hx rfl (hb hby at_2) rfl zk) ?_
  obtain ⟨nv, hnv⟩ : ∃ z, z = (p1 &&& (3 : Int32)) := ⟨_, rfl⟩
  rw [← hnv]
  have Hnv : nv = 0 ∨ nv = 1 ∨ nv = 2 ∨ nv = 3 := by rw [hnv]; exact own_m3 _
  refine Go.st (T' := s₁.setTop (mkF m 5 #[.val (.int p1), .val (.int p2), .val (.int p3), .val (.int p4), .val (.int p5), .val (.int nv), .unset, .unset, .unset, .unset, .unset, .unset, .unset, .unset, .unset] [])) (fun zt zk => XS.istore X0.here hx rfl (hb hby at_3) rfl (l' := #[.val (.int p1), .val (.int p2), .val (.int p3), .val (.int p4), .val (.int p5), .val (.int nv), .unset, .unset, .unset, .unset, .unset, .unset, .unset, .unset, .unset]) rfl zk) ?_
  refine Go.st (T' := s₁.setTop (mkF m 6 #[.val (.int p1), .val (.int p2), .val (.int p3), .val (.int p4), .val (.int p5), .val (.int nv), .unset, .unset, .unset, .unset, .unset, .unset, .unset, .unset, .unset] [(.int p1)])) (fun zt zk => XS.iloadN X0.here hx rfl (hb hby at_5) rfl zk) ?_
  refine Go.st (T' := s₁.setTop (mkF m 7 #[.val (.int p1), .val (.int p2), .val (.int p3), .val (.int p4), .val (.int p5), .val (.int nv), .unset, .unset, .unset, .unset, .unset, .unset, .unset, .unset, .unset] [(.int (2 : Int32)), (.int p1)])) (fun zt zk => XS.iconst X0.here hx rfl (hb hby at_6) zk) ?_
  refine Go.st (T' := s₁.setTop (mkF m 8 #[.val (.int p1), .val (.int p2), .val (.int p3), .val (.int p4), .val (.int p5), .val (.int nv), .unset, .unset, .unset, .unset, .unset, .unset, .unset, .unset, .unset] [(.int ((p1.toUInt32 >>> ((2 : Int32) &&& 31).toUInt32).toInt32))])) (fun zt zk => XS.iushr X0.here hx rfl (hb hby at_7) rfl zk) ?_
  refine Go.st (T' := s₁.setTop (mkF m 9 #[.val (.int p1), .val (.int p2), .val (.int p3), .val (.int p4), .val (.int p5), .val (.int nv), .unset, .unset, .unset, .unset, .unset, .unset, .unset, .unset, .unset] [(.int (3 : Int32)), (.int ((p1.toUInt32 >>> ((2 : Int32) &&& 31).toUInt32).toInt32))])) (fun zt zk => XS.iconst X0.here hx rfl (hb hby at_8) zk) ?_
  refine Go.st (T' := s₁.setTop (mkF m 10 #[.val (.int p1), .val (.int p2), .val (.int p3), .val (.int p4), .val (.int p5), .val (.int nv), .unset, .unset, .unset, .unset, .unset, .unset, .unset, .unset, .unset] [(.int (((p1.toUInt32 >>> ((2 : Int32) &&& 31).toUInt32).toInt32) &&& (3 : Int32)))])) (fun zt zk => XS.iand X0.here hx rfl (hb hby at_9) rfl zk) ?_
  obtain ⟨kv, hkv⟩ : ∃ z, z = (((p1.toUInt32 >>> ((2 : Int32) &&& 31).toUInt32).toInt32) &&& (3 : Int32)) := ⟨_, rfl⟩
  rw [← hkv]
  have Hkv : kv = 0 ∨ kv = 1 ∨ kv = 2 ∨ kv = 3 := by rw [hkv]; exact own_m3 _
  refine Go.st (T' := s₁.setTop (mkF m 12 #[.val (.int p1), .val (.int p2), .val (.int p3), .val (.int p4), .val (.int p5), .val (.int nv), .val (.int kv), .unset, .unset, .unset, .unset, .unset, .unset, .unset, .unset] [])) (fun zt zk => XS.istore X0.here hx rfl (hb hby at_10) rfl (l' := #[.val (.int p1), .val (.int p2), .val (.int p3), .val (.int p4), .val (.int p5), .val (.int nv), .val (.int kv), .unset, .unset, .unset, .unset, .unset, .unset, .unset, .unset]) rfl zk) ?_
  suffices J1 : ∀ (TJ : State) (hJ : Heap) (LL : List Loc) (ax : Addr) (kx : ClassId) (cs : List Int32) (z6 z8 z9 z10 : Int32), Stand p l e room_1 s m #[(.int p1), (.int p2), (.int p3), (.int p4), (.int p5)] below meth c TJ LL 1 4099 → TJ.heap = hJ → Fr n0 LL → Keep h0 hJ [] → n0 ≤ ax → h0.size ≤ ax → Arv Z hJ ax kx .char (Int32.ofNat cs.length) (cs.map Value.int) (.int (0 : Int32)) → own_ok cs → Go p e below (TJ.setTop (mkF m 197 #[.val (.int p1), .val (.int p2), .val (.int p3), .val (.int p4), .val (.int p5), .val (.int nv), .val (.int z6), .val (.ref ax), .val (.int z8), .val (.int z9), .val (.int z10), .unset, .unset, .unset, .unset] [])) (EndN s (Q_rm0 Z p1 p2 p3 p4 p5 h0 n0) room_1.cells room_1.slots) by
    rcases Hkv with rfl | rfl | rfl | rfl
    ·
      refine Go.st (T' := s₁.setTop (mkF m 14 #[.val (.int p1), .val (.int p2), .val (.int p3), .val (.int p4), .val (.int p5), .val (.int nv), .val (.int (0 : Int32)), .unset, .unset, .unset, .unset, .unset, .unset, .unset, .unset] [(.int (0 : Int32))])) (fun zt zk => XS.iload X0.here hx rfl (hb hby at_12) rfl zk) ?_
      refine Go.st (T' := s₁.setTop (mkF m 17 #[.val (.int p1), .val (.int p2), .val (.int p3), .val (.int p4), .val (.int p5), .val (.int nv), .val (.int (0 : Int32)), .unset, .unset, .unset, .unset, .unset, .unset, .unset, .unset] [])) (fun zt zk => XS.ifNo X0.here hx rfl (hb hby at_14) rfl ((if0 _ _).trans (teq (by decide)).2) zk) ?_
      refine Go.st (T' := s₁.setTop (mkF m 20 #[.val (.int p1), .val (.int p2), .val (.int p3), .val (.int p4), .val (.int p5), .val (.int nv), .val (.int (0 : Int32)), .unset, .unset, .unset, .unset, .unset, .unset, .unset, .unset] [(.int (4096 : Int32))])) (fun zt zk => XS.sipush X0.here hx rfl (hb hby at_17) zk) ?_
      obtain ⟨T214, h214, k214, X214, e214, E214, A214, st214⟩ := newP X0 hx hZ (hw _ (List.mem_of_getElem? (i := 0) rfl)) e0 (g := (mkF m 20 #[.val (.int p1), .val (.int p2), .val (.int p3), .val (.int p4), .val (.int p5), .val (.int nv), .val (.int (0 : Int32)), .unset, .unset, .unset, .unset, .unset, .unset, .unset, .unset] [(.int (4096 : Int32))])) rfl (hb hby at_20) rfl (by decide) (cap := 4096) (by decide) (by decide) (by decide) (by decide)
      obtain ⟨b214, g214⟩ : ∃ z, z = h0.size := ⟨_, rfl⟩
      rw [← g214] at A214 st214
      have g_b214 : n0 ≤ b214 := Nat.le_trans (Nat.le_trans Z0 K0.1) (Nat.le_of_eq g214.symm)
      have sz_b214 : h0.size ≤ b214 := Nat.le_trans K0.1 (Nat.le_of_eq g214.symm)
      have K214 : Keep h0 h214 [] := K0.ext E214
      have V214 : Arv Z h214 b214 k214 .char (4096 : Int32) [] (.int (0 : Int32)) := Arv.new A214 (by decide)
      refine Go.st (T' := T214.setTop (mkF m 22 #[.val (.int p1), .val (.int p2), .val (.int p3), .val (.int p4), .val (.int p5), .val (.int nv), .val (.int (0 : Int32)), .unset, .unset, .unset, .unset, .unset, .unset, .unset, .unset] [(.ref b214)])) (fun zt zk => st214 zt zk) ?_
      have Vr := (V214).pad (pad_rep [] (.int (0 : Int32)) 4096)
      rw [List.nil_append] at Vr
      refine Go.st (T' := T214.setTop (mkF m 58 #[.val (.int p1), .val (.int p2), .val (.int p3), .val (.int p4), .val (.int p5), .val (.int nv), .val (.int (0 : Int32)), .unset, .unset, .unset, .unset, .unset, .unset, .unset, .unset] [(.ref b214)])) (fun zt zk => XS.goto X214.here hx rfl (pc0 := 22) (pc' := 58) rfl (hb hby at_22) (by decide) (by decide) zk) ?_
      refine Go.st (T' := T214.setTop (mkF m 60 #[.val (.int p1), .val (.int p2), .val (.int p3), .val (.int p4), .val (.int p5), .val (.int nv), .val (.int (0 : Int32)), .val (.ref b214), .unset, .unset, .unset, .unset, .unset, .unset, .unset] [])) (fun zt zk => XS.astore X214.here hx rfl (hb hby at_58) rfl rfl (l' := #[.val (.int p1), .val (.int p2), .val (.int p3), .val (.int p4), .val (.int p5), .val (.int nv), .val (.int (0 : Int32)), .val (.ref b214), .unset, .unset, .unset, .unset, .unset, .unset, .unset]) rfl zk) ?_
      refine Go.st (T' := T214.setTop (mkF m 61 #[.val (.int p1), .val (.int p2), .val (.int p3), .val (.int p4), .val (.int p5), .val (.int nv), .val (.int (0 : Int32)), .val (.ref b214), .unset, .unset, .unset, .unset, .unset, .unset, .unset] [(.int p3)])) (fun zt zk => XS.iloadN X214.here hx rfl (hb hby at_60) rfl zk) ?_
      refine Go.st (T' := T214.setTop (mkF m 63 #[.val (.int p1), .val (.int p2), .val (.int p3), .val (.int p4), .val (.int p5), .val (.int nv), .val (.int (0 : Int32)), .val (.ref b214), .unset, .unset, .unset, .unset, .unset, .unset, .unset] [(.int (2147483647 : Int32)), (.int p3)])) (fun zt zk => X214.ldcInt hx hown (mvT hZ (hw _ (List.mem_of_getElem? (i := 1) rfl))) (g := (mkF m 61 #[.val (.int p1), .val (.int p2), .val (.int p3), .val (.int p4), .val (.int p5), .val (.int nv), .val (.int (0 : Int32)), .val (.ref b214), .unset, .unset, .unset, .unset, .unset, .unset, .unset] [(.int p3)])) rfl (hb hby at_61) zt zk) ?_
      refine Go.st (T' := T214.setTop (mkF m 64 #[.val (.int p1), .val (.int p2), .val (.int p3), .val (.int p4), .val (.int p5), .val (.int nv), .val (.int (0 : Int32)), .val (.ref b214), .unset, .unset, .unset, .unset, .unset, .unset, .unset] [(.int (p3 &&& (2147483647 : Int32)))])) (fun zt zk => XS.iand X214.here hx rfl (hb hby at_63) rfl zk) ?_
      refine Go.st (T' := T214.setTop (mkF m 66 #[.val (.int p1), .val (.int p2), .val (.int p3), .val (.int p4), .val (.int p5), .val (.int nv), .val (.int (0 : Int32)), .val (.ref b214), .unset, .unset, .unset, .unset, .unset, .unset, .unset] [(.int (0 : Int32)), (.int (p3 &&& (2147483647 : Int32)))])) (fun zt zk => XS.iload X214.here hx rfl (hb hby at_64) rfl zk) ?_
      refine Go.st (T' := T214.setTop (mkF m 69 #[.val (.int p1), .val (.int p2), .val (.int p3), .val (.int p4), .val (.int p5), .val (.int nv), .val (.int (0 : Int32)), .val (.ref b214), .unset, .unset, .unset, .unset, .unset, .unset, .unset] [(.int (p3 &&& (2147483647 : Int32)))])) (fun zt zk => XS.ifNo X214.here hx rfl (hb hby at_66) rfl ((if0 _ _).trans (teq (by decide)).2) zk) ?_
      refine Go.st (T' := T214.setTop (mkF m 72 #[.val (.int p1), .val (.int p2), .val (.int p3), .val (.int p4), .val (.int p5), .val (.int nv), .val (.int (0 : Int32)), .val (.ref b214), .unset, .unset, .unset, .unset, .unset, .unset, .unset] [(.int (4096 : Int32)), (.int (p3 &&& (2147483647 : Int32)))])) (fun zt zk => XS.sipush X214.here hx rfl (hb hby at_69) zk) ?_
      refine Go.st (T' := T214.setTop (mkF m 81 #[.val (.int p1), .val (.int p2), .val (.int p3), .val (.int p4), .val (.int p5), .val (.int nv), .val (.int (0 : Int32)), .val (.ref b214), .unset, .unset, .unset, .unset, .unset, .unset, .unset] [(.int (4096 : Int32)), (.int (p3 &&& (2147483647 : Int32)))])) (fun zt zk => XS.goto X214.here hx rfl (pc0 := 72) (pc' := 81) rfl (hb hby at_72) (by decide) (by decide) zk) ?_
      refine Go.st (T' := T214.setTop (mkF m 82 #[.val (.int p1), .val (.int p2), .val (.int p3), .val (.int p4), .val (.int p5), .val (.int nv), .val (.int (0 : Int32)), .val (.ref b214), .unset, .unset, .unset, .unset, .unset, .unset, .unset] [(.int ((p3 &&& (2147483647 : Int32)) - ((p3 &&& (2147483647 : Int32)) / (4096 : Int32)) * (4096 : Int32)))])) (fun zt zk => XS.irem X214.here hx rfl (hb hby at_81) rfl (by decide) zk) ?_
      obtain ⟨pos, hpos, hlt⟩ := own_rem4096 p3
      rw [hpos]
      refine Go.st (T' := T214.setTop (mkF m 84 #[.val (.int p1), .val (.int p2), .val (.int p3), .val (.int p4), .val (.int p5), .val (.int nv), .val (.int (0 : Int32)), .val (.ref b214), .val (.int (Int32.ofNat pos)), .unset, .unset, .unset, .unset, .unset, .unset] [])) (fun zt zk => XS.istore X214.here hx rfl (hb hby at_82) rfl (l' := #[.val (.int p1), .val (.int p2), .val (.int p3), .val (.int p4), .val (.int p5), .val (.int nv), .val (.int (0 : Int32)), .val (.ref b214), .val (.int (Int32.ofNat pos)), .unset, .unset, .unset, .unset, .unset, .unset]) rfl zk) ?_
      refine Go.st (T' := T214.setTop (mkF m 86 #[.val (.int p1), .val (.int p2), .val (.int p3), .val (.int p4), .val (.int p5), .val (.int nv), .val (.int (0 : Int32)), .val (.ref b214), .val (.int (Int32.ofNat pos)), .unset, .unset, .unset, .unset, .unset, .unset] [(.int (55296 : Int32))])) (fun zt zk => X214.ldcInt hx hown (mvT hZ (hw _ (List.mem_of_getElem? (i := 2) rfl))) (g := (mkF m 84 #[.val (.int p1), .val (.int p2), .val (.int p3), .val (.int p4), .val (.int p5), .val (.int nv), .val (.int (0 : Int32)), .val (.ref b214), .val (.int (Int32.ofNat pos)), .unset, .unset, .unset, .unset, .unset, .unset] [])) rfl (hb hby at_84) zt zk) ?_
      refine Go.st (T' := T214.setTop (mkF m 88 #[.val (.int p1), .val (.int p2), .val (.int p3), .val (.int p4), .val (.int p5), .val (.int nv), .val (.int (0 : Int32)), .val (.ref b214), .val (.int (Int32.ofNat pos)), .unset, .unset, .unset, .unset, .unset, .unset] [(.int p5), (.int (55296 : Int32))])) (fun zt zk => XS.iload X214.here hx rfl (hb hby at_86) rfl zk) ?_
      refine Go.st (T' := T214.setTop (mkF m 91 #[.val (.int p1), .val (.int p2), .val (.int p3), .val (.int p4), .val (.int p5), .val (.int nv), .val (.int (0 : Int32)), .val (.ref b214), .val (.int (Int32.ofNat pos)), .unset, .unset, .unset, .unset, .unset, .unset] [(.int (1023 : Int32)), (.int p5), (.int (55296 : Int32))])) (fun zt zk => XS.sipush X214.here hx rfl (hb hby at_88) zk) ?_
      refine Go.st (T' := T214.setTop (mkF m 92 #[.val (.int p1), .val (.int p2), .val (.int p3), .val (.int p4), .val (.int p5), .val (.int nv), .val (.int (0 : Int32)), .val (.ref b214), .val (.int (Int32.ofNat pos)), .unset, .unset, .unset, .unset, .unset, .unset] [(.int (p5 &&& (1023 : Int32))), (.int (55296 : Int32))])) (fun zt zk => XS.iand X214.here hx rfl (hb hby at_91) rfl zk) ?_
      refine Go.st (T' := T214.setTop (mkF m 93 #[.val (.int p1), .val (.int p2), .val (.int p3), .val (.int p4), .val (.int p5), .val (.int nv), .val (.int (0 : Int32)), .val (.ref b214), .val (.int (Int32.ofNat pos)), .unset, .unset, .unset, .unset, .unset, .unset] [(.int ((55296 : Int32) + (p5 &&& (1023 : Int32))))])) (fun zt zk => XS.iadd X214.here hx rfl (hb hby at_92) rfl zk) ?_
      refine Go.st (T' := T214.setTop (mkF m 94 #[.val (.int p1), .val (.int p2), .val (.int p3), .val (.int p4), .val (.int p5), .val (.int nv), .val (.int (0 : Int32)), .val (.ref b214), .val (.int (Int32.ofNat pos)), .unset, .unset, .unset, .unset, .unset, .unset] [(.int (((55296 : Int32) + (p5 &&& (1023 : Int32))).toUInt32.toUInt16.toUInt32.toInt32))])) (fun zt zk => XS.i2c X214.here hx rfl (hb hby at_93) rfl zk) ?_
      obtain ⟨hv, hhv⟩ : ∃ z, z = (((55296 : Int32) + (p5 &&& (1023 : Int32))).toUInt32.toUInt16.toUInt32.toInt32) := ⟨_, rfl⟩
      rw [← hhv]
      have Hhv : own_H (nar .char hv) := by rw [hhv]; exact own_hiv _
      refine Go.st (T' := T214.setTop (mkF m 96 #[.val (.int p1), .val (.int p2), .val (.int p3), .val (.int p4), .val (.int p5), .val (.int nv), .val (.int (0 : Int32)), .val (.ref b214), .val (.int (Int32.ofNat pos)), .val (.int hv), .unset, .unset, .unset, .unset, .unset] [])) (fun zt zk => XS.istore X214.here hx rfl (hb hby at_94) rfl (l' := #[.val (.int p1), .val (.int p2), .val (.int p3), .val (.int p4), .val (.int p5), .val (.int nv), .val (.int (0 : Int32)), .val (.ref b214), .val (.int (Int32.ofNat pos)), .val (.int hv), .unset, .unset, .unset, .unset, .unset]) rfl zk) ?_
      refine Go.st (T' := T214.setTop (mkF m 98 #[.val (.int p1), .val (.int p2), .val (.int p3), .val (.int p4), .val (.int p5), .val (.int nv), .val (.int (0 : Int32)), .val (.ref b214), .val (.int (Int32.ofNat pos)), .val (.int hv), .unset, .unset, .unset, .unset, .unset] [(.int (56320 : Int32))])) (fun zt zk => X214.ldcInt hx hown (mvT hZ (hw _ (List.mem_of_getElem? (i := 3) rfl))) (g := (mkF m 96 #[.val (.int p1), .val (.int p2), .val (.int p3), .val (.int p4), .val (.int p5), .val (.int nv), .val (.int (0 : Int32)), .val (.ref b214), .val (.int (Int32.ofNat pos)), .val (.int hv), .unset, .unset, .unset, .unset, .unset] [])) rfl (hb hby at_96) zt zk) ?_
      refine Go.st (T' := T214.setTop (mkF m 100 #[.val (.int p1), .val (.int p2), .val (.int p3), .val (.int p4), .val (.int p5), .val (.int nv), .val (.int (0 : Int32)), .val (.ref b214), .val (.int (Int32.ofNat pos)), .val (.int hv), .unset, .unset, .unset, .unset, .unset] [(.int p5), (.int (56320 : Int32))])) (fun zt zk => XS.iload X214.here hx rfl (hb hby at_98) rfl zk) ?_
      refine Go.st (T' := T214.setTop (mkF m 102 #[.val (.int p1), .val (.int p2), .val (.int p3), .val (.int p4), .val (.int p5), .val (.int nv), .val (.int (0 : Int32)), .val (.ref b214), .val (.int (Int32.ofNat pos)), .val (.int hv), .unset, .unset, .unset, .unset, .unset] [(.int (10 : Int32)), (.int p5), (.int (56320 : Int32))])) (fun zt zk => XS.bipush X214.here hx rfl (hb hby at_100) zk) ?_
      refine Go.st (T' := T214.setTop (mkF m 103 #[.val (.int p1), .val (.int p2), .val (.int p3), .val (.int p4), .val (.int p5), .val (.int nv), .val (.int (0 : Int32)), .val (.ref b214), .val (.int (Int32.ofNat pos)), .val (.int hv), .unset, .unset, .unset, .unset, .unset] [(.int ((p5.toUInt32 >>> ((10 : Int32) &&& 31).toUInt32).toInt32)), (.int (56320 : Int32))])) (fun zt zk => XS.iushr X214.here hx rfl (hb hby at_102) rfl zk) ?_
      refine Go.st (T' := T214.setTop (mkF m 106 #[.val (.int p1), .val (.int p2), .val (.int p3), .val (.int p4), .val (.int p5), .val (.int nv), .val (.int (0 : Int32)), .val (.ref b214), .val (.int (Int32.ofNat pos)), .val (.int hv), .unset, .unset, .unset, .unset, .unset] [(.int (1023 : Int32)), (.int ((p5.toUInt32 >>> ((10 : Int32) &&& 31).toUInt32).toInt32)), (.int (56320 : Int32))])) (fun zt zk => XS.sipush X214.here hx rfl (hb hby at_103) zk) ?_
      refine Go.st (T' := T214.setTop (mkF m 107 #[.val (.int p1), .val (.int p2), .val (.int p3), .val (.int p4), .val (.int p5), .val (.int nv), .val (.int (0 : Int32)), .val (.ref b214), .val (.int (Int32.ofNat pos)), .val (.int hv), .unset, .unset, .unset, .unset, .unset] [(.int (((p5.toUInt32 >>> ((10 : Int32) &&& 31).toUInt32).toInt32) &&& (1023 : Int32))), (.int (56320 : Int32))])) (fun zt zk => XS.iand X214.here hx rfl (hb hby at_106) rfl zk) ?_
      refine Go.st (T' := T214.setTop (mkF m 108 #[.val (.int p1), .val (.int p2), .val (.int p3), .val (.int p4), .val (.int p5), .val (.int nv), .val (.int (0 : Int32)), .val (.ref b214), .val (.int (Int32.ofNat pos)), .val (.int hv), .unset, .unset, .unset, .unset, .unset] [(.int ((56320 : Int32) + (((p5.toUInt32 >>> ((10 : Int32) &&& 31).toUInt32).toInt32) &&& (1023 : Int32))))])) (fun zt zk => XS.iadd X214.here hx rfl (hb hby at_107) rfl zk) ?_
      refine Go.st (T' := T214.setTop (mkF m 109 #[.val (.int p1), .val (.int p2), .val (.int p3), .val (.int p4), .val (.int p5), .val (.int nv), .val (.int (0 : Int32)), .val (.ref b214), .val (.int (Int32.ofNat pos)), .val (.int hv), .unset, .unset, .unset, .unset, .unset] [(.int (((56320 : Int32) + (((p5.toUInt32 >>> ((10 : Int32) &&& 31).toUInt32).toInt32) &&& (1023 : Int32))).toUInt32.toUInt16.toUInt32.toInt32))])) (fun zt zk => XS.i2c X214.here hx rfl (hb hby at_108) rfl zk) ?_
      obtain ⟨lv, hlv⟩ : ∃ z, z = (((56320 : Int32) + (((p5.toUInt32 >>> ((10 : Int32) &&& 31).toUInt32).toInt32) &&& (1023 : Int32))).toUInt32.toUInt16.toUInt32.toInt32) := ⟨_, rfl⟩
      rw [← hlv]
      have Hlv : own_L (nar .char lv) := by rw [hlv]; exact own_lov _
      refine Go.st (T' := T214.setTop (mkF m 111 #[.val (.int p1), .val (.int p2), .val (.int p3), .val (.int p4), .val (.int p5), .val (.int nv), .val (.int (0 : Int32)), .val (.ref b214), .val (.int (Int32.ofNat pos)), .val (.int hv), .val (.int lv), .unset, .unset, .unset, .unset] [])) (fun zt zk => XS.istore X214.here hx rfl (hb hby at_109) rfl (l' := #[.val (.int p1), .val (.int p2), .val (.int p3), .val (.int p4), .val (.int p5), .val (.int nv), .val (.int (0 : Int32)), .val (.ref b214), .val (.int (Int32.ofNat pos)), .val (.int hv), .val (.int lv), .unset, .unset, .unset, .unset]) rfl zk) ?_
      refine Go.st (T' := T214.setTop (mkF m 113 #[.val (.int p1), .val (.int p2), .val (.int p3), .val (.int p4), .val (.int p5), .val (.int nv), .val (.int (0 : Int32)), .val (.ref b214), .val (.int (Int32.ofNat pos)), .val (.int hv), .val (.int lv), .unset, .unset, .unset, .unset] [(.int (0 : Int32))])) (fun zt zk => XS.iload X214.here hx rfl (hb hby at_111) rfl zk) ?_
      refine Go.st (T' := T214.setTop (mkF m 116 #[.val (.int p1), .val (.int p2), .val (.int p3), .val (.int p4), .val (.int p5), .val (.int nv), .val (.int (0 : Int32)), .val (.ref b214), .val (.int (Int32.ofNat pos)), .val (.int hv), .val (.int lv), .unset, .unset, .unset, .unset] [])) (fun zt zk => XS.ifNo X214.here hx rfl (hb hby at_113) rfl ((if0 _ _).trans (teq (by decide)).2) zk) ?_
      refine Go.st (T' := T214.setTop (mkF m 118 #[.val (.int p1), .val (.int p2), .val (.int p3), .val (.int p4), .val (.int p5), .val (.int nv), .val (.int (0 : Int32)), .val (.ref b214), .val (.int (Int32.ofNat pos)), .val (.int hv), .val (.int lv), .unset, .unset, .unset, .unset] [(.ref b214)])) (fun zt zk => XS.aload X214.here hx rfl (hb hby at_116) rfl rfl zk) ?_
      refine Go.st (T' := T214.setTop (mkF m 120 #[.val (.int p1), .val (.int p2), .val (.int p3), .val (.int p4), .val (.int p5), .val (.int nv), .val (.int (0 : Int32)), .val (.ref b214), .val (.int (Int32.ofNat pos)), .val (.int hv), .val (.int lv), .unset, .unset, .unset, .unset] [(.int (Int32.ofNat pos)), (.ref b214)])) (fun zt zk => XS.iload X214.here hx rfl (hb hby at_118) rfl zk) ?_
      refine Go.st (T' := T214.setTop (mkF m 122 #[.val (.int p1), .val (.int p2), .val (.int p3), .val (.int p4), .val (.int p5), .val (.int nv), .val (.int (0 : Int32)), .val (.ref b214), .val (.int (Int32.ofNat pos)), .val (.int hv), .val (.int lv), .unset, .unset, .unset, .unset] [(.int p5), (.int (Int32.ofNat pos)), (.ref b214)])) (fun zt zk => XS.iload X214.here hx rfl (hb hby at_120) rfl zk) ?_
      refine Go.st (T' := T214.setTop (mkF m 124 #[.val (.int p1), .val (.int p2), .val (.int p3), .val (.int p4), .val (.int p5), .val (.int nv), .val (.int (0 : Int32)), .val (.ref b214), .val (.int (Int32.ofNat pos)), .val (.int hv), .val (.int lv), .unset, .unset, .unset, .unset] [(.int (16 : Int32)), (.int p5), (.int (Int32.ofNat pos)), (.ref b214)])) (fun zt zk => XS.bipush X214.here hx rfl (hb hby at_122) zk) ?_
      refine Go.st (T' := T214.setTop (mkF m 125 #[.val (.int p1), .val (.int p2), .val (.int p3), .val (.int p4), .val (.int p5), .val (.int nv), .val (.int (0 : Int32)), .val (.ref b214), .val (.int (Int32.ofNat pos)), .val (.int hv), .val (.int lv), .unset, .unset, .unset, .unset] [(.int ((p5.toUInt32 >>> ((16 : Int32) &&& 31).toUInt32).toInt32)), (.int (Int32.ofNat pos)), (.ref b214)])) (fun zt zk => XS.iushr X214.here hx rfl (hb hby at_124) rfl zk) ?_
      refine Go.st (T' := T214.setTop (mkF m 126 #[.val (.int p1), .val (.int p2), .val (.int p3), .val (.int p4), .val (.int p5), .val (.int nv), .val (.int (0 : Int32)), .val (.ref b214), .val (.int (Int32.ofNat pos)), .val (.int hv), .val (.int lv), .unset, .unset, .unset, .unset] [(.int (((p5.toUInt32 >>> ((16 : Int32) &&& 31).toUInt32).toInt32).toUInt32.toUInt16.toUInt32.toInt32)), (.int (Int32.ofNat pos)), (.ref b214)])) (fun zt zk => XS.i2c X214.here hx rfl (hb hby at_125) rfl zk) ?_
      obtain ⟨cv, hcv⟩ : ∃ z, z = (((p5.toUInt32 >>> ((16 : Int32) &&& 31).toUInt32).toInt32).toUInt32.toUInt16.toUInt32.toInt32) := ⟨_, rfl⟩
      rw [← hcv]
      obtain ⟨cl215, Ar215, q215, S215, M215, H215, G215⟩ := id Vr
      obtain ⟨T215, h215, X215, e215, W215, st215⟩ := stC X214 hx hZ e214 Ar215 (j := (Int32.ofNat pos)) (inb_of S215 ⟨own_nn (by omega), (own_lt32 (n := 4096) (by omega) (by omega)).mpr (by omega)⟩) (g := (mkF m 126 #[.val (.int p1), .val (.int p2), .val (.int p3), .val (.int p4), .val (.int p5), .val (.int nv), .val (.int (0 : Int32)), .val (.ref b214), .val (.int (Int32.ofNat pos)), .val (.int hv), .val (.int lv), .unset, .unset, .unset, .unset] [(.int cv), (.int (Int32.ofNat pos)), (.ref b214)])) rfl rfl (hb hby at_126)
      have V215 : Arv Z h215 b214 k214 .char (4096 : Int32) ((List.replicate 4096 (.int (0 : Int32))).set pos (.int (nar .char cv))) (.int (0 : Int32)) := Arv.set Ar215 q215 S215 M215 H215 G215 (fits_nar_char _) W215 pos (own_clamp (by omega)) (by simp only [List.length_set, List.length_replicate]; omega)
      have K215 : Keep h0 h215 [] := K214.wr W215 (Or.inr sz_b214)
      have N215 := Fr.snoc X215 N0 g_b214
      refine Go.st (T' := T215.setTop (mkF m 127 #[.val (.int p1), .val (.int p2), .val (.int p3), .val (.int p4), .val (.int p5), .val (.int nv), .val (.int (0 : Int32)), .val (.ref b214), .val (.int (Int32.ofNat pos)), .val (.int hv), .val (.int lv), .unset, .unset, .unset, .unset] [])) (fun zt zk => st215 zt zk) ?_
      refine Go.st (T' := T215.setTop (mkF m 129 #[.val (.int p1), .val (.int p2), .val (.int p3), .val (.int p4), .val (.int p5), .val (.int nv), .val (.int (0 : Int32)), .val (.ref b214), .val (.int (Int32.ofNat pos)), .val (.int hv), .val (.int lv), .unset, .unset, .unset, .unset] [(.int (0 : Int32))])) (fun zt zk => XS.iload X215.here hx rfl (hb hby at_127) rfl zk) ?_
      refine Go.st (T' := T215.setTop (mkF m 130 #[.val (.int p1), .val (.int p2), .val (.int p3), .val (.int p4), .val (.int p5), .val (.int nv), .val (.int (0 : Int32)), .val (.ref b214), .val (.int (Int32.ofNat pos)), .val (.int hv), .val (.int lv), .unset, .unset, .unset, .unset] [(.int (1 : Int32)), (.int (0 : Int32))])) (fun zt zk => XS.iconst X215.here hx rfl (hb hby at_129) zk) ?_
      refine Go.st (T' := T215.setTop (mkF m 149 #[.val (.int p1), .val (.int p2), .val (.int p3), .val (.int p4), .val (.int p5), .val (.int nv), .val (.int (0 : Int32)), .val (.ref b214), .val (.int (Int32.ofNat pos)), .val (.int hv), .val (.int lv), .unset, .unset, .unset, .unset] [])) (fun zt zk => XS.icmpYes X215.here hx rfl (pc0 := 130) (pc' := 149) rfl (hb hby at_130) rfl (tlt (by decide)).1 (by decide) (by decide) zk) ?_
      refine Go.st (T' := T215.setTop (mkF m 151 #[.val (.int p1), .val (.int p2), .val (.int p3), .val (.int p4), .val (.int p5), .val (.int nv), .val (.int (0 : Int32)), .val (.ref b214), .val (.int (Int32.ofNat pos)), .val (.int hv), .val (.int lv), .unset, .unset, .unset, .unset] [(.int (0 : Int32))])) (fun zt zk => XS.iload X215.here hx rfl (hb hby at_149) rfl zk) ?_
      refine Go.st (T' := T215.setTop (mkF m 152 #[.val (.int p1), .val (.int p2), .val (.int p3), .val (.int p4), .val (.int p5), .val (.int nv), .val (.int (0 : Int32)), .val (.ref b214), .val (.int (Int32.ofNat pos)), .val (.int hv), .val (.int lv), .unset, .unset, .unset, .unset] [(.int (2 : Int32)), (.int (0 : Int32))])) (fun zt zk => XS.iconst X215.here hx rfl (hb hby at_151) zk) ?_
      refine Go.st (T' := T215.setTop (mkF m 173 #[.val (.int p1), .val (.int p2), .val (.int p3), .val (.int p4), .val (.int p5), .val (.int nv), .val (.int (0 : Int32)), .val (.ref b214), .val (.int (Int32.ofNat pos)), .val (.int hv), .val (.int lv), .unset, .unset, .unset, .unset] [])) (fun zt zk => XS.icmpYes X215.here hx rfl (pc0 := 152) (pc' := 173) rfl (hb hby at_152) rfl (tlt (by decide)).1 (by decide) (by decide) zk) ?_
      refine Go.st (T' := T215.setTop (mkF m 175 #[.val (.int p1), .val (.int p2), .val (.int p3), .val (.int p4), .val (.int p5), .val (.int nv), .val (.int (0 : Int32)), .val (.ref b214), .val (.int (Int32.ofNat pos)), .val (.int hv), .val (.int lv), .unset, .unset, .unset, .unset] [(.int (0 : Int32))])) (fun zt zk => XS.iload X215.here hx rfl (hb hby at_173) rfl zk) ?_
      refine Go.st (T' := T215.setTop (mkF m 176 #[.val (.int p1), .val (.int p2), .val (.int p3), .val (.int p4), .val (.int p5), .val (.int nv), .val (.int (0 : Int32)), .val (.ref b214), .val (.int (Int32.ofNat pos)), .val (.int hv), .val (.int lv), .unset, .unset, .unset, .unset] [(.int (3 : Int32)), (.int (0 : Int32))])) (fun zt zk => XS.iconst X215.here hx rfl (hb hby at_175) zk) ?_
      refine Go.st (T' := T215.setTop (mkF m 197 #[.val (.int p1), .val (.int p2), .val (.int p3), .val (.int p4), .val (.int p5), .val (.int nv), .val (.int (0 : Int32)), .val (.ref b214), .val (.int (Int32.ofNat pos)), .val (.int hv), .val (.int lv), .unset, .unset, .unset, .unset] [])) (fun zt zk => XS.icmpYes X215.here hx rfl (pc0 := 176) (pc' := 197) rfl (hb hby at_176) rfl (tlt (by decide)).1 (by decide) (by decide) zk) ?_
      obtain ⟨cs, hcs⟩ : ∃ z, z = ((List.replicate 4096 (0 : Int32)).set pos (nar .char cv)) := ⟨_, rfl⟩
      have hl : cs.length = 4096 := by rw [hcs]; simp only [List.length_set, List.length_replicate]
      have hm : cs.map Value.int = ((List.replicate 4096 (.int (0 : Int32))).set pos (.int (nar .char cv))) := by rw [hcs]; simp only [List.map_set, List.map_replicate]
      have hz : (4096 : Int32) = Int32.ofNat cs.length := by rw [hl]; rfl
      have hok : own_ok cs := by rw [hcs]; exact (own_long0 (own_chr cv))
      have VJ := V215
      rw [← hm, hz] at VJ
      exact J1 _ _ _ b214 _ cs _ _ _ _ (X215.more (Nat.le_refl _) (by decide)) e215 N215 K215 g_b214 sz_b214 VJ hok
    ·
      refine Go.st (T' := s₁.setTop (mkF m 14 #[.val (.int p1), .val (.int p2), .val (.int p3), .val (.int p4), .val (.int p5), .val (.int nv), .val (.int (1 : Int32)), .unset, .unset, .unset, .unset, .unset, .unset, .unset, .unset] [(.int (1 : Int32))])) (fun zt zk => XS.iload X0.here hx rfl (hb hby at_12) rfl zk) ?_
      refine Go.st (T' := s₁.setTop (mkF m 25 #[.val (.int p1), .val (.int p2), .val (.int p3), .val (.int p4), .val (.int p5), .val (.int nv), .val (.int (1 : Int32)), .unset, .unset, .unset, .unset, .unset, .unset, .unset, .unset] [])) (fun zt zk => XS.ifYes X0.here hx rfl (pc0 := 14) (pc' := 25) rfl (hb hby at_14) rfl ((if0 _ _).trans (feq (by decide)).2) (by decide) (by decide) zk) ?_
      refine Go.st (T' := s₁.setTop (mkF m 27 #[.val (.int p1), .val (.int p2), .val (.int p3), .val (.int p4), .val (.int p5), .val (.int nv), .val (.int (1 : Int32)), .unset, .unset, .unset, .unset, .unset, .unset, .unset, .unset] [(.int (1 : Int32))])) (fun zt zk => XS.iload X0.here hx rfl (hb hby at_25) rfl zk) ?_
      refine Go.st (T' := s₁.setTop (mkF m 28 #[.val (.int p1), .val (.int p2), .val (.int p3), .val (.int p4), .val (.int p5), .val (.int nv), .val (.int (1 : Int32)), .unset, .unset, .unset, .unset, .unset, .unset, .unset, .unset] [(.int (1 : Int32)), (.int (1 : Int32))])) (fun zt zk => XS.iconst X0.here hx rfl (hb hby at_27) zk) ?_
      refine Go.st (T' := s₁.setTop (mkF m 31 #[.val (.int p1), .val (.int p2), .val (.int p3), .val (.int p4), .val (.int p5), .val (.int nv), .val (.int (1 : Int32)), .unset, .unset, .unset, .unset, .unset, .unset, .unset, .unset] [])) (fun zt zk => XS.icmpNo X0.here hx rfl (hb hby at_28) rfl (teq (by decide)).2 zk) ?_
      refine Go.st (T' := s₁.setTop (mkF m 34 #[.val (.int p1), .val (.int p2), .val (.int p3), .val (.int p4), .val (.int p5), .val (.int nv), .val (.int (1 : Int32)), .unset, .unset, .unset, .unset, .unset, .unset, .unset, .unset] [(.int (4097 : Int32))])) (fun zt zk => XS.sipush X0.here hx rfl (hb hby at_31) zk) ?_
      obtain ⟨T216, h216, k216, X216, e216, E216, A216, st216⟩ := newP X0 hx hZ (hw _ (List.mem_of_getElem? (i := 0) rfl)) e0 (g := (mkF m 34 #[.val (.int p1), .val (.int p2), .val (.int p3), .val (.int p4), .val (.int p5), .val (.int nv), .val (.int (1 : Int32)), .unset, .unset, .unset, .unset, .unset, .unset, .unset, .unset] [(.int (4097 : Int32))])) rfl (hb hby at_34) rfl (by decide) (cap := 4097) (by decide) (by decide) (by decide) (by decide)
      obtain ⟨b216, g216⟩ : ∃ z, z = h0.size := ⟨_, rfl⟩
      rw [← g216] at A216 st216
      have g_b216 : n0 ≤ b216 := Nat.le_trans (Nat.le_trans Z0 K0.1) (Nat.le_of_eq g216.symm)
      have sz_b216 : h0.size ≤ b216 := Nat.le_trans K0.1 (Nat.le_of_eq g216.symm)
      have K216 : Keep h0 h216 [] := K0.ext E216
      have V216 : Arv Z h216 b216 k216 .char (4097 : Int32) [] (.int (0 : Int32)) := Arv.new A216 (by decide)
      refine Go.st (T' := T216.setTop (mkF m 36 #[.val (.int p1), .val (.int p2), .val (.int p3), .val (.int p4), .val (.int p5), .val (.int nv), .val (.int (1 : Int32)), .unset, .unset, .unset, .unset, .unset, .unset, .unset, .unset] [(.ref b216)])) (fun zt zk => st216 zt zk) ?_
      have Vr := (V216).pad (pad_rep [] (.int (0 : Int32)) 4097)
      rw [List.nil_append] at Vr
      refine Go.st (T' := T216.setTop (mkF m 58 #[.val (.int p1), .val (.int p2), .val (.int p3), .val (.int p4), .val (.int p5), .val (.int nv), .val (.int (1 : Int32)), .unset, .unset, .unset, .unset, .unset, .unset, .unset, .unset] [(.ref b216)])) (fun zt zk => XS.goto X216.here hx rfl (pc0 := 36) (pc' := 58) rfl (hb hby at_36) (by decide) (by decide) zk) ?_
      refine Go.st (T' := T216.setTop (mkF m 60 #[.val (.int p1), .val (.int p2), .val (.int p3), .val (.int p4), .val (.int p5), .val (.int nv), .val (.int (1 : Int32)), .val (.ref b216), .unset, .unset, .unset, .unset, .unset, .unset, .unset] [])) (fun zt zk => XS.astore X216.here hx rfl (hb hby at_58) rfl rfl (l' := #[.val (.int p1), .val (.int p2), .val (.int p3), .val (.int p4), .val (.int p5), .val (.int nv), .val (.int (1 : Int32)), .val (.ref b216), .unset, .unset, .unset, .unset, .unset, .unset, .unset]) rfl zk) ?_
      refine Go.st (T' := T216.setTop (mkF m 61 #[.val (.int p1), .val (.int p2), .val (.int p3), .val (.int p4), .val (.int p5), .val (.int nv), .val (.int (1 : Int32)), .val (.ref b216), .unset, .unset, .unset, .unset, .unset, .unset, .unset] [(.int p3)])) (fun zt zk => XS.iloadN X216.here hx rfl (hb hby at_60) rfl zk) ?_
      refine Go.st (T' := T216.setTop (mkF m 63 #[.val (.int p1), .val (.int p2), .val (.int p3), .val (.int p4), .val (.int p5), .val (.int nv), .val (.int (1 : Int32)), .val (.ref b216), .unset, .unset, .unset, .unset, .unset, .unset, .unset] [(.int (2147483647 : Int32)), (.int p3)])) (fun zt zk => X216.ldcInt hx hown (mvT hZ (hw _ (List.mem_of_getElem? (i := 1) rfl))) (g := (mkF m 61 #[.val (.int p1), .val (.int p2), .val (.int p3), .val (.int p4), .val (.int p5), .val (.int nv), .val (.int (1 : Int32)), .val (.ref b216), .unset, .unset, .unset, .unset, .unset, .unset, .unset] [(.int p3)])) rfl (hb hby at_61) zt zk) ?_
      refine Go.st (T' := T216.setTop (mkF m 64 #[.val (.int p1), .val (.int p2), .val (.int p3), .val (.int p4), .val (.int p5), .val (.int nv), .val (.int (1 : Int32)), .val (.ref b216), .unset, .unset, .unset, .unset, .unset, .unset, .unset] [(.int (p3 &&& (2147483647 : Int32)))])) (fun zt zk => XS.iand X216.here hx rfl (hb hby at_63) rfl zk) ?_
      refine Go.st (T' := T216.setTop (mkF m 66 #[.val (.int p1), .val (.int p2), .val (.int p3), .val (.int p4), .val (.int p5), .val (.int nv), .val (.int (1 : Int32)), .val (.ref b216), .unset, .unset, .unset, .unset, .unset, .unset, .unset] [(.int (1 : Int32)), (.int (p3 &&& (2147483647 : Int32)))])) (fun zt zk => XS.iload X216.here hx rfl (hb hby at_64) rfl zk) ?_
      refine Go.st (T' := T216.setTop (mkF m 75 #[.val (.int p1), .val (.int p2), .val (.int p3), .val (.int p4), .val (.int p5), .val (.int nv), .val (.int (1 : Int32)), .val (.ref b216), .unset, .unset, .unset, .unset, .unset, .unset, .unset] [(.int (p3 &&& (2147483647 : Int32)))])) (fun zt zk => XS.ifYes X216.here hx rfl (pc0 := 66) (pc' := 75) rfl (hb hby at_66) rfl ((if0 _ _).trans (feq (by decide)).2) (by decide) (by decide) zk) ?_
      refine Go.st (T' := T216.setTop (mkF m 78 #[.val (.int p1), .val (.int p2), .val (.int p3), .val (.int p4), .val (.int p5), .val (.int nv), .val (.int (1 : Int32)), .val (.ref b216), .unset, .unset, .unset, .unset, .unset, .unset, .unset] [(.int (4097 : Int32)), (.int (p3 &&& (2147483647 : Int32)))])) (fun zt zk => XS.sipush X216.here hx rfl (hb hby at_75) zk) ?_
      refine Go.st (T' := T216.setTop (mkF m 80 #[.val (.int p1), .val (.int p2), .val (.int p3), .val (.int p4), .val (.int p5), .val (.int nv), .val (.int (1 : Int32)), .val (.ref b216), .unset, .unset, .unset, .unset, .unset, .unset, .unset] [(.int (1 : Int32)), (.int (4097 : Int32)), (.int (p3 &&& (2147483647 : Int32)))])) (fun zt zk => XS.iload X216.here hx rfl (hb hby at_78) rfl zk) ?_
      refine Go.st (T' := T216.setTop (mkF m 81 #[.val (.int p1), .val (.int p2), .val (.int p3), .val (.int p4), .val (.int p5), .val (.int nv), .val (.int (1 : Int32)), .val (.ref b216), .unset, .unset, .unset, .unset, .unset, .unset, .unset] [(.int ((4097 : Int32) - (1 : Int32))), (.int (p3 &&& (2147483647 : Int32)))])) (fun zt zk => XS.isub X216.here hx rfl (hb hby at_80) rfl zk) ?_
      rw [show (4097 : Int32) - (1 : Int32) = (4096 : Int32) by decide]
      refine Go.st (T' := T216.setTop (mkF m 82 #[.val (.int p1), .val (.int p2), .val (.int p3), .val (.int p4), .val (.int p5), .val (.int nv), .val (.int (1 : Int32)), .val (.ref b216), .unset, .unset, .unset, .unset, .unset, .unset, .unset] [(.int ((p3 &&& (2147483647 : Int32)) - ((p3 &&& (2147483647 : Int32)) / (4096 : Int32)) * (4096 : Int32)))])) (fun zt zk => XS.irem X216.here hx rfl (hb hby at_81) rfl (by decide) zk) ?_
      obtain ⟨pos, hpos, hlt⟩ := own_rem4096 p3
      rw [hpos]
      refine Go.st (T' := T216.setTop (mkF m 84 #[.val (.int p1), .val (.int p2), .val (.int p3), .val (.int p4), .val (.int p5), .val (.int nv), .val (.int (1 : Int32)), .val (.ref b216), .val (.int (Int32.ofNat pos)), .unset, .unset, .unset, .unset, .unset, .unset] [])) (fun zt zk => XS.istore X216.here hx rfl (hb hby at_82) rfl (l' := #[.val (.int p1), .val (.int p2), .val (.int p3), .val (.int p4), .val (.int p5), .val (.int nv), .val (.int (1 : Int32)), .val (.ref b216), .val (.int (Int32.ofNat pos)), .unset, .unset, .unset, .unset, .unset, .unset]) rfl zk) ?_
      refine Go.st (T' := T216.setTop (mkF m 86 #[.val (.int p1), .val (.int p2), .val (.int p3), .val (.int p4), .val (.int p5), .val (.int nv), .val (.int (1 : Int32)), .val (.ref b216), .val (.int (Int32.ofNat pos)), .unset, .unset, .unset, .unset, .unset, .unset] [(.int (55296 : Int32))])) (fun zt zk => X216.ldcInt hx hown (mvT hZ (hw _ (List.mem_of_getElem? (i := 2) rfl))) (g := (mkF m 84 #[.val (.int p1), .val (.int p2), .val (.int p3), .val (.int p4), .val (.int p5), .val (.int nv), .val (.int (1 : Int32)), .val (.ref b216), .val (.int (Int32.ofNat pos)), .unset, .unset, .unset, .unset, .unset, .unset] [])) rfl (hb hby at_84) zt zk) ?_
      refine Go.st (T' := T216.setTop (mkF m 88 #[.val (.int p1), .val (.int p2), .val (.int p3), .val (.int p4), .val (.int p5), .val (.int nv), .val (.int (1 : Int32)), .val (.ref b216), .val (.int (Int32.ofNat pos)), .unset, .unset, .unset, .unset, .unset, .unset] [(.int p5), (.int (55296 : Int32))])) (fun zt zk => XS.iload X216.here hx rfl (hb hby at_86) rfl zk) ?_
      refine Go.st (T' := T216.setTop (mkF m 91 #[.val (.int p1), .val (.int p2), .val (.int p3), .val (.int p4), .val (.int p5), .val (.int nv), .val (.int (1 : Int32)), .val (.ref b216), .val (.int (Int32.ofNat pos)), .unset, .unset, .unset, .unset, .unset, .unset] [(.int (1023 : Int32)), (.int p5), (.int (55296 : Int32))])) (fun zt zk => XS.sipush X216.here hx rfl (hb hby at_88) zk) ?_
      refine Go.st (T' := T216.setTop (mkF m 92 #[.val (.int p1), .val (.int p2), .val (.int p3), .val (.int p4), .val (.int p5), .val (.int nv), .val (.int (1 : Int32)), .val (.ref b216), .val (.int (Int32.ofNat pos)), .unset, .unset, .unset, .unset, .unset, .unset] [(.int (p5 &&& (1023 : Int32))), (.int (55296 : Int32))])) (fun zt zk => XS.iand X216.here hx rfl (hb hby at_91) rfl zk) ?_
      refine Go.st (T' := T216.setTop (mkF m 93 #[.val (.int p1), .val (.int p2), .val (.int p3), .val (.int p4), .val (.int p5), .val (.int nv), .val (.int (1 : Int32)), .val (.ref b216), .val (.int (Int32.ofNat pos)), .unset, .unset, .unset, .unset, .unset, .unset] [(.int ((55296 : Int32) + (p5 &&& (1023 : Int32))))])) (fun zt zk => XS.iadd X216.here hx rfl (hb hby at_92) rfl zk) ?_
      refine Go.st (T' := T216.setTop (mkF m 94 #[.val (.int p1), .val (.int p2), .val (.int p3), .val (.int p4), .val (.int p5), .val (.int nv), .val (.int (1 : Int32)), .val (.ref b216), .val (.int (Int32.ofNat pos)), .unset, .unset, .unset, .unset, .unset, .unset] [(.int (((55296 : Int32) + (p5 &&& (1023 : Int32))).toUInt32.toUInt16.toUInt32.toInt32))])) (fun zt zk => XS.i2c X216.here hx rfl (hb hby at_93) rfl zk) ?_
      obtain ⟨hv, hhv⟩ : ∃ z, z = (((55296 : Int32) + (p5 &&& (1023 : Int32))).toUInt32.toUInt16.toUInt32.toInt32) := ⟨_, rfl⟩
      rw [← hhv]
      have Hhv : own_H (nar .char hv) := by rw [hhv]; exact own_hiv _
      refine Go.st (T' := T216.setTop (mkF m 96 #[.val (.int p1), .val (.int p2), .val (.int p3), .val (.int p4), .val (.int p5), .val (.int nv), .val (.int (1 : Int32)), .val (.ref b216), .val (.int (Int32.ofNat pos)), .val (.int hv), .unset, .unset, .unset, .unset, .unset] [])) (fun zt zk => XS.istore X216.here hx rfl (hb hby at_94) rfl (l' := #[.val (.int p1), .val (.int p2), .val (.int p3), .val (.int p4), .val (.int p5), .val (.int nv), .val (.int (1 : Int32)), .val (.ref b216), .val (.int (Int32.ofNat pos)), .val (.int hv), .unset, .unset, .unset, .unset, .unset]) rfl zk) ?_
      refine Go.st (T' := T216.setTop (mkF m 98 #[.val (.int p1), .val (.int p2), .val (.int p3), .val (.int p4), .val (.int p5), .val (.int nv), .val (.int (1 : Int32)), .val (.ref b216), .val (.int (Int32.ofNat pos)), .val (.int hv), .unset, .unset, .unset, .unset, .unset] [(.int (56320 : Int32))])) (fun zt zk => X216.ldcInt hx hown (mvT hZ (hw _ (List.mem_of_getElem? (i := 3) rfl))) (g := (mkF m 96 #[.val (.int p1), .val (.int p2), .val (.int p3), .val (.int p4), .val (.int p5), .val (.int nv), .val (.int (1 : Int32)), .val (.ref b216), .val (.int (Int32.ofNat pos)), .val (.int hv), .unset, .unset, .unset, .unset, .unset] [])) rfl (hb hby at_96) zt zk) ?_
      refine Go.st (T' := T216.setTop (mkF m 100 #[.val (.int p1), .val (.int p2), .val (.int p3), .val (.int p4), .val (.int p5), .val (.int nv), .val (.int (1 : Int32)), .val (.ref b216), .val (.int (Int32.ofNat pos)), .val (.int hv), .unset, .unset, .unset, .unset, .unset] [(.int p5), (.int (56320 : Int32))])) (fun zt zk => XS.iload X216.here hx rfl (hb hby at_98) rfl zk) ?_
      refine Go.st (T' := T216.setTop (mkF m 102 #[.val (.int p1), .val (.int p2), .val (.int p3), .val (.int p4), .val (.int p5), .val (.int nv), .val (.int (1 : Int32)), .val (.ref b216), .val (.int (Int32.ofNat pos)), .val (.int hv), .unset, .unset, .unset, .unset, .unset] [(.int (10 : Int32)), (.int p5), (.int (56320 : Int32))])) (fun zt zk => XS.bipush X216.here hx rfl (hb hby at_100) zk) ?_
      refine Go.st (T' := T216.setTop (mkF m 103 #[.val (.int p1), .val (.int p2), .val (.int p3), .val (.int p4), .val (.int p5), .val (.int nv), .val (.int (1 : Int32)), .val (.ref b216), .val (.int (Int32.ofNat pos)), .val (.int hv), .unset, .unset, .unset, .unset, .unset] [(.int ((p5.toUInt32 >>> ((10 : Int32) &&& 31).toUInt32).toInt32)), (.int (56320 : Int32))])) (fun zt zk => XS.iushr X216.here hx rfl (hb hby at_102) rfl zk) ?_
      refine Go.st (T' := T216.setTop (mkF m 106 #[.val (.int p1), .val (.int p2), .val (.int p3), .val (.int p4), .val (.int p5), .val (.int nv), .val (.int (1 : Int32)), .val (.ref b216), .val (.int (Int32.ofNat pos)), .val (.int hv), .unset, .unset, .unset, .unset, .unset] [(.int (1023 : Int32)), (.int ((p5.toUInt32 >>> ((10 : Int32) &&& 31).toUInt32).toInt32)), (.int (56320 : Int32))])) (fun zt zk => XS.sipush X216.here hx rfl (hb hby at_103) zk) ?_
      refine Go.st (T' := T216.setTop (mkF m 107 #[.val (.int p1), .val (.int p2), .val (.int p3), .val (.int p4), .val (.int p5), .val (.int nv), .val (.int (1 : Int32)), .val (.ref b216), .val (.int (Int32.ofNat pos)), .val (.int hv), .unset, .unset, .unset, .unset, .unset] [(.int (((p5.toUInt32 >>> ((10 : Int32) &&& 31).toUInt32).toInt32) &&& (1023 : Int32))), (.int (56320 : Int32))])) (fun zt zk => XS.iand X216.here hx rfl (hb hby at_106) rfl zk) ?_
      refine Go.st (T' := T216.setTop (mkF m 108 #[.val (.int p1), .val (.int p2), .val (.int p3), .val (.int p4), .val (.int p5), .val (.int nv), .val (.int (1 : Int32)), .val (.ref b216), .val (.int (Int32.ofNat pos)), .val (.int hv), .unset, .unset, .unset, .unset, .unset] [(.int ((56320 : Int32) + (((p5.toUInt32 >>> ((10 : Int32) &&& 31).toUInt32).toInt32) &&& (1023 : Int32))))])) (fun zt zk => XS.iadd X216.here hx rfl (hb hby at_107) rfl zk) ?_
      refine Go.st (T' := T216.setTop (mkF m 109 #[.val (.int p1), .val (.int p2), .val (.int p3), .val (.int p4), .val (.int p5), .val (.int nv), .val (.int (1 : Int32)), .val (.ref b216), .val (.int (Int32.ofNat pos)), .val (.int hv), .unset, .unset, .unset, .unset, .unset] [(.int (((56320 : Int32) + (((p5.toUInt32 >>> ((10 : Int32) &&& 31).toUInt32).toInt32) &&& (1023 : Int32))).toUInt32.toUInt16.toUInt32.toInt32))])) (fun zt zk => XS.i2c X216.here hx rfl (hb hby at_108) rfl zk) ?_
      obtain ⟨lv, hlv⟩ : ∃ z, z = (((56320 : Int32) + (((p5.toUInt32 >>> ((10 : Int32) &&& 31).toUInt32).toInt32) &&& (1023 : Int32))).toUInt32.toUInt16.toUInt32.toInt32) := ⟨_, rfl⟩
      rw [← hlv]
      have Hlv : own_L (nar .char lv) := by rw [hlv]; exact own_lov _
      refine Go.st (T' := T216.setTop (mkF m 111 #[.val (.int p1), .val (.int p2), .val (.int p3), .val (.int p4), .val (.int p5), .val (.int nv), .val (.int (1 : Int32)), .val (.ref b216), .val (.int (Int32.ofNat pos)), .val (.int hv), .val (.int lv), .unset, .unset, .unset, .unset] [])) (fun zt zk => XS.istore X216.here hx rfl (hb hby at_109) rfl (l' := #[.val (.int p1), .val (.int p2), .val (.int p3), .val (.int p4), .val (.int p5), .val (.int nv), .val (.int (1 : Int32)), .val (.ref b216), .val (.int (Int32.ofNat pos)), .val (.int hv), .val (.int lv), .unset, .unset, .unset, .unset]) rfl zk) ?_
      refine Go.st (T' := T216.setTop (mkF m 113 #[.val (.int p1), .val (.int p2), .val (.int p3), .val (.int p4), .val (.int p5), .val (.int nv), .val (.int (1 : Int32)), .val (.ref b216), .val (.int (Int32.ofNat pos)), .val (.int hv), .val (.int lv), .unset, .unset, .unset, .unset] [(.int (1 : Int32))])) (fun zt zk => XS.iload X216.here hx rfl (hb hby at_111) rfl zk) ?_
      refine Go.st (T' := T216.setTop (mkF m 127 #[.val (.int p1), .val (.int p2), .val (.int p3), .val (.int p4), .val (.int p5), .val (.int nv), .val (.int (1 : Int32)), .val (.ref b216), .val (.int (Int32.ofNat pos)), .val (.int hv), .val (.int lv), .unset, .unset, .unset, .unset] [])) (fun zt zk => XS.ifYes X216.here hx rfl (pc0 := 113) (pc' := 127) rfl (hb hby at_113) rfl ((if0 _ _).trans (feq (by decide)).2) (by decide) (by decide) zk) ?_
      refine Go.st (T' := T216.setTop (mkF m 129 #[.val (.int p1), .val (.int p2), .val (.int p3), .val (.int p4), .val (.int p5), .val (.int nv), .val (.int (1 : Int32)), .val (.ref b216), .val (.int (Int32.ofNat pos)), .val (.int hv), .val (.int lv), .unset, .unset, .unset, .unset] [(.int (1 : Int32))])) (fun zt zk => XS.iload X216.here hx rfl (hb hby at_127) rfl zk) ?_
      refine Go.st (T' := T216.setTop (mkF m 130 #[.val (.int p1), .val (.int p2), .val (.int p3), .val (.int p4), .val (.int p5), .val (.int nv), .val (.int (1 : Int32)), .val (.ref b216), .val (.int (Int32.ofNat pos)), .val (.int hv), .val (.int lv), .unset, .unset, .unset, .unset] [(.int (1 : Int32)), (.int (1 : Int32))])) (fun zt zk => XS.iconst X216.here hx rfl (hb hby at_129) zk) ?_
      refine Go.st (T' := T216.setTop (mkF m 133 #[.val (.int p1), .val (.int p2), .val (.int p3), .val (.int p4), .val (.int p5), .val (.int nv), .val (.int (1 : Int32)), .val (.ref b216), .val (.int (Int32.ofNat pos)), .val (.int hv), .val (.int lv), .unset, .unset, .unset, .unset] [])) (fun zt zk => XS.icmpNo X216.here hx rfl (hb hby at_130) rfl (flt (by decide)).1 zk) ?_
      refine Go.st (T' := T216.setTop (mkF m 135 #[.val (.int p1), .val (.int p2), .val (.int p3), .val (.int p4), .val (.int p5), .val (.int nv), .val (.int (1 : Int32)), .val (.ref b216), .val (.int (Int32.ofNat pos)), .val (.int hv), .val (.int lv), .unset, .unset, .unset, .unset] [(.ref b216)])) (fun zt zk => XS.aload X216.here hx rfl (hb hby at_133) rfl rfl zk) ?_
      refine Go.st (T' := T216.setTop (mkF m 137 #[.val (.int p1), .val (.int p2), .val (.int p3), .val (.int p4), .val (.int p5), .val (.int nv), .val (.int (1 : Int32)), .val (.ref b216), .val (.int (Int32.ofNat pos)), .val (.int hv), .val (.int lv), .unset, .unset, .unset, .unset] [(.int (Int32.ofNat pos)), (.ref b216)])) (fun zt zk => XS.iload X216.here hx rfl (hb hby at_135) rfl zk) ?_
      refine Go.st (T' := T216.setTop (mkF m 139 #[.val (.int p1), .val (.int p2), .val (.int p3), .val (.int p4), .val (.int p5), .val (.int nv), .val (.int (1 : Int32)), .val (.ref b216), .val (.int (Int32.ofNat pos)), .val (.int hv), .val (.int lv), .unset, .unset, .unset, .unset] [(.int hv), (.int (Int32.ofNat pos)), (.ref b216)])) (fun zt zk => XS.iload X216.here hx rfl (hb hby at_137) rfl zk) ?_
      obtain ⟨cl217, Ar217, q217, S217, M217, H217, G217⟩ := id Vr
      obtain ⟨T217, h217, X217, e217, W217, st217⟩ := stC X216 hx hZ e216 Ar217 (j := (Int32.ofNat pos)) (inb_of S217 ⟨own_nn (by omega), (own_lt32 (n := 4097) (by omega) (by omega)).mpr (by omega)⟩) (g := (mkF m 139 #[.val (.int p1), .val (.int p2), .val (.int p3), .val (.int p4), .val (.int p5), .val (.int nv), .val (.int (1 : Int32)), .val (.ref b216), .val (.int (Int32.ofNat pos)), .val (.int hv), .val (.int lv), .unset, .unset, .unset, .unset] [(.int hv), (.int (Int32.ofNat pos)), (.ref b216)])) rfl rfl (hb hby at_139)
      have V217 : Arv Z h217 b216 k216 .char (4097 : Int32) ((List.replicate 4097 (.int (0 : Int32))).set pos (.int (nar .char hv))) (.int (0 : Int32)) := Arv.set Ar217 q217 S217 M217 H217 G217 (fits_nar_char _) W217 pos (own_clamp (by omega)) (by simp only [List.length_set, List.length_replicate]; omega)
      have K217 : Keep h0 h217 [] := K216.wr W217 (Or.inr sz_b216)
      have N217 := Fr.snoc X217 N0 g_b216
      refine Go.st (T' := T217.setTop (mkF m 140 #[.val (.int p1), .val (.int p2), .val (.int p3), .val (.int p4), .val (.int p5), .val (.int nv), .val (.int (1 : Int32)), .val (.ref b216), .val (.int (Int32.ofNat pos)), .val (.int hv), .val (.int lv), .unset, .unset, .unset, .unset] [])) (fun zt zk => st217 zt zk) ?_
      refine Go.st (T' := T217.setTop (mkF m 142 #[.val (.int p1), .val (.int p2), .val (.int p3), .val (.int p4), .val (.int p5), .val (.int nv), .val (.int (1 : Int32)), .val (.ref b216), .val (.int (Int32.ofNat pos)), .val (.int hv), .val (.int lv), .unset, .unset, .unset, .unset] [(.ref b216)])) (fun zt zk => XS.aload X217.here hx rfl (hb hby at_140) rfl rfl zk) ?_
      refine Go.st (T' := T217.setTop (mkF m 144 #[.val (.int p1), .val (.int p2), .val (.int p3), .val (.int p4), .val (.int p5), .val (.int nv), .val (.int (1 : Int32)), .val (.ref b216), .val (.int (Int32.ofNat pos)), .val (.int hv), .val (.int lv), .unset, .unset, .unset, .unset] [(.int (Int32.ofNat pos)), (.ref b216)])) (fun zt zk => XS.iload X217.here hx rfl (hb hby at_142) rfl zk) ?_
      refine Go.st (T' := T217.setTop (mkF m 145 #[.val (.int p1), .val (.int p2), .val (.int p3), .val (.int p4), .val (.int p5), .val (.int nv), .val (.int (1 : Int32)), .val (.ref b216), .val (.int (Int32.ofNat pos)), .val (.int hv), .val (.int lv), .unset, .unset, .unset, .unset] [(.int (1 : Int32)), (.int (Int32.ofNat pos)), (.ref b216)])) (fun zt zk => XS.iconst X217.here hx rfl (hb hby at_144) zk) ?_
      refine Go.st (T' := T217.setTop (mkF m 146 #[.val (.int p1), .val (.int p2), .val (.int p3), .val (.int p4), .val (.int p5), .val (.int nv), .val (.int (1 : Int32)), .val (.ref b216), .val (.int (Int32.ofNat pos)), .val (.int hv), .val (.int lv), .unset, .unset, .unset, .unset] [(.int ((Int32.ofNat pos) + (1 : Int32))), (.ref b216)])) (fun zt zk => XS.iadd X217.here hx rfl (hb hby at_145) rfl zk) ?_
      refine Go.st (T' := T217.setTop (mkF m 148 #[.val (.int p1), .val (.int p2), .val (.int p3), .val (.int p4), .val (.int p5), .val (.int nv), .val (.int (1 : Int32)), .val (.ref b216), .val (.int (Int32.ofNat pos)), .val (.int hv), .val (.int lv), .unset, .unset, .unset, .unset] [(.int lv), (.int ((Int32.ofNat pos) + (1 : Int32))), (.ref b216)])) (fun zt zk => XS.iload X217.here hx rfl (hb hby at_146) rfl zk) ?_
      rw [own_addn (k := (1 : Int32)) (b := 1) rfl (by omega)]
      obtain ⟨cl218, Ar218, q218, S218, M218, H218, G218⟩ := id V217
      obtain ⟨T218, h218, X218, e218, W218, st218⟩ := stC X217 hx hZ e217 Ar218 (j := (Int32.ofNat (pos + 1))) (inb_of S218 ⟨own_nn (by omega), (own_lt32 (n := 4097) (by omega) (by omega)).mpr (by omega)⟩) (g := (mkF m 148 #[.val (.int p1), .val (.int p2), .val (.int p3), .val (.int p4), .val (.int p5), .val (.int nv), .val (.int (1 : Int32)), .val (.ref b216), .val (.int (Int32.ofNat pos)), .val (.int hv), .val (.int lv), .unset, .unset, .unset, .unset] [(.int lv), (.int (Int32.ofNat (pos + 1))), (.ref b216)])) rfl rfl (hb hby at_148)
      have V218 : Arv Z h218 b216 k216 .char (4097 : Int32) (((List.replicate 4097 (.int (0 : Int32))).set pos (.int (nar .char hv))).set (pos + 1) (.int (nar .char lv))) (.int (0 : Int32)) := Arv.set Ar218 q218 S218 M218 H218 G218 (fits_nar_char _) W218 (pos + 1) (own_clamp (by omega)) (by simp only [List.length_set, List.length_replicate]; omega)
      have K218 : Keep h0 h218 [] := K217.wr W218 (Or.inr sz_b216)
      have N218 := Fr.snoc X218 N217 g_b216
      refine Go.st (T' := T218.setTop (mkF m 149 #[.val (.int p1), .val (.int p2), .val (.int p3), .val (.int p4), .val (.int p5), .val (.int nv), .val (.int (1 : Int32)), .val (.ref b216), .val (.int (Int32.ofNat pos)), .val (.int hv), .val (.int lv), .unset, .unset, .unset, .unset] [])) (fun zt zk => st218 zt zk) ?_
      refine Go.st (T' := T218.setTop (mkF m 151 #[.val (.int p1), .val (.int p2), .val (.int p3), .val (.int p4), .val (.int p5), .val (.int nv), .val (.int (1 : Int32)), .val (.ref b216), .val (.int (Int32.ofNat pos)), .val (.int hv), .val (.int lv), .unset, .unset, .unset, .unset] [(.int (1 : Int32))])) (fun zt zk => XS.iload X218.here hx rfl (hb hby at_149) rfl zk) ?_
      refine Go.st (T' := T218.setTop (mkF m 152 #[.val (.int p1), .val (.int p2), .val (.int p3), .val (.int p4), .val (.int p5), .val (.int nv), .val (.int (1 : Int32)), .val (.ref b216), .val (.int (Int32.ofNat pos)), .val (.int hv), .val (.int lv), .unset, .unset, .unset, .unset] [(.int (2 : Int32)), (.int (1 : Int32))])) (fun zt zk => XS.iconst X218.here hx rfl (hb hby at_151) zk) ?_
      refine Go.st (T' := T218.setTop (mkF m 173 #[.val (.int p1), .val (.int p2), .val (.int p3), .val (.int p4), .val (.int p5), .val (.int nv), .val (.int (1 : Int32)), .val (.ref b216), .val (.int (Int32.ofNat pos)), .val (.int hv), .val (.int lv), .unset, .unset, .unset, .unset] [])) (fun zt zk => XS.icmpYes X218.here hx rfl (pc0 := 152) (pc' := 173) rfl (hb hby at_152) rfl (tlt (by decide)).1 (by decide) (by decide) zk) ?_
      refine Go.st (T' := T218.setTop (mkF m 175 #[.val (.int p1), .val (.int p2), .val (.int p3), .val (.int p4), .val (.int p5), .val (.int nv), .val (.int (1 : Int32)), .val (.ref b216), .val (.int (Int32.ofNat pos)), .val (.int hv), .val (.int lv), .unset, .unset, .unset, .unset] [(.int (1 : Int32))])) (fun zt zk => XS.iload X218.here hx rfl (hb hby at_173) rfl zk) ?_
      refine Go.st (T' := T218.setTop (mkF m 176 #[.val (.int p1), .val (.int p2), .val (.int p3), .val (.int p4), .val (.int p5), .val (.int nv), .val (.int (1 : Int32)), .val (.ref b216), .val (.int (Int32.ofNat pos)), .val (.int hv), .val (.int lv), .unset, .unset, .unset, .unset] [(.int (3 : Int32)), (.int (1 : Int32))])) (fun zt zk => XS.iconst X218.here hx rfl (hb hby at_175) zk) ?_
      refine Go.st (T' := T218.setTop (mkF m 197 #[.val (.int p1), .val (.int p2), .val (.int p3), .val (.int p4), .val (.int p5), .val (.int nv), .val (.int (1 : Int32)), .val (.ref b216), .val (.int (Int32.ofNat pos)), .val (.int hv), .val (.int lv), .unset, .unset, .unset, .unset] [])) (fun zt zk => XS.icmpYes X218.here hx rfl (pc0 := 176) (pc' := 197) rfl (hb hby at_176) rfl (tlt (by decide)).1 (by decide) (by decide) zk) ?_
      obtain ⟨cs, hcs⟩ : ∃ z, z = (((List.replicate 4097 (0 : Int32)).set pos (nar .char hv)).set (pos + 1) (nar .char lv)) := ⟨_, rfl⟩
      have hl : cs.length = 4097 := by rw [hcs]; simp only [List.length_set, List.length_replicate]
      have hm : cs.map Value.int = (((List.replicate 4097 (.int (0 : Int32))).set pos (.int (nar .char hv))).set (pos + 1) (.int (nar .char lv))) := by rw [hcs]; simp only [List.map_set, List.map_replicate]
      have hz : (4097 : Int32) = Int32.ofNat cs.length := by rw [hl]; rfl
      have hok : own_ok cs := by rw [hcs]; exact (own_long1 hlt Hhv Hlv (own_chr _) (own_chr _))
      have VJ := V218
      rw [← hm, hz] at VJ
      exact J1 _ _ _ b216 _ cs _ _ _ _ (X218.more (Nat.le_refl _) (by decide)) e218 N218 K218 g_b216 sz_b216 VJ hok
    ·
      refine Go.st (T' := s₁.setTop (mkF m 14 #[.val (.int p1), .val (.int p2), .val (.int p3), .val (.int p4), .val (.int p5), .val (.int nv), .val (.int (2 : Int32)), .unset, .unset, .unset, .unset, .unset, .unset, .unset, .unset] [(.int (2 : Int32))])) (fun zt zk => XS.iload X0.here hx rfl (hb hby at_12) rfl zk) ?_
      refine Go.st (T' := s₁.setTop (mkF m 25 #[.val (.int p1), .val (.int p2), .val (.int p3), .val (.int p4), .val (.int p5), .val (.int nv), .val (.int (2 : Int32)), .unset, .unset, .unset, .unset, .unset, .unset, .unset, .unset] [])) (fun zt zk => XS.ifYes X0.here hx rfl (pc0 := 14) (pc' := 25) rfl (hb hby at_14) rfl ((if0 _ _).trans (feq (by decide)).2) (by decide) (by decide) zk) ?_
      refine Go.st (T' := s₁.setTop (mkF m 27 #[.val (.int p1), .val (.int p2), .val (.int p3), .val (.int p4), .val (.int p5), .val (.int nv), .val (.int (2 : Int32)), .unset, .unset, .unset, .unset, .unset, .unset, .unset, .unset] [(.int (2 : Int32))])) (fun zt zk => XS.iload X0.here hx rfl (hb hby at_25) rfl zk) ?_
      refine Go.st (T' := s₁.setTop (mkF m 28 #[.val (.int p1), .val (.int p2), .val (.int p3), .val (.int p4), .val (.int p5), .val (.int nv), .val (.int (2 : Int32)), .unset, .unset, .unset, .unset, .unset, .unset, .unset, .unset] [(.int (1 : Int32)), (.int (2 : Int32))])) (fun zt zk => XS.iconst X0.here hx rfl (hb hby at_27) zk) ?_
      refine Go.st (T' := s₁.setTop (mkF m 39 #[.val (.int p1), .val (.int p2), .val (.int p3), .val (.int p4), .val (.int p5), .val (.int nv), .val (.int (2 : Int32)), .unset, .unset, .unset, .unset, .unset, .unset, .unset, .unset] [])) (fun zt zk => XS.icmpYes X0.here hx rfl (pc0 := 28) (pc' := 39) rfl (hb hby at_28) rfl (feq (by decide)).2 (by decide) (by decide) zk) ?_
      refine Go.st (T' := s₁.setTop (mkF m 41 #[.val (.int p1), .val (.int p2), .val (.int p3), .val (.int p4), .val (.int p5), .val (.int nv), .val (.int (2 : Int32)), .unset, .unset, .unset, .unset, .unset, .unset, .unset, .unset] [(.int (2 : Int32))])) (fun zt zk => XS.iload X0.here hx rfl (hb hby at_39) rfl zk) ?_
      refine Go.st (T' := s₁.setTop (mkF m 42 #[.val (.int p1), .val (.int p2), .val (.int p3), .val (.int p4), .val (.int p5), .val (.int nv), .val (.int (2 : Int32)), .unset, .unset, .unset, .unset, .unset, .unset, .unset, .unset] [(.int (2 : Int32)), (.int (2 : Int32))])) (fun zt zk => XS.iconst X0.here hx rfl (hb hby at_41) zk) ?_
      refine Go.st (T' := s₁.setTop (mkF m 45 #[.val (.int p1), .val (.int p2), .val (.int p3), .val (.int p4), .val (.int p5), .val (.int nv), .val (.int (2 : Int32)), .unset, .unset, .unset, .unset, .unset, .unset, .unset, .unset] [])) (fun zt zk => XS.icmpNo X0.here hx rfl (hb hby at_42) rfl (teq (by decide)).2 zk) ?_
      refine Go.st (T' := s₁.setTop (mkF m 48 #[.val (.int p1), .val (.int p2), .val (.int p3), .val (.int p4), .val (.int p5), .val (.int nv), .val (.int (2 : Int32)), .unset, .unset, .unset, .unset, .unset, .unset, .unset, .unset] [(.int (4098 : Int32))])) (fun zt zk => XS.sipush X0.here hx rfl (hb hby at_45) zk) ?_
      obtain ⟨T219, h219, k219, X219, e219, E219, A219, st219⟩ := newP X0 hx hZ (hw _ (List.mem_of_getElem? (i := 0) rfl)) e0 (g := (mkF m 48 #[.val (.int p1), .val (.int p2), .val (.int p3), .val (.int p4), .val (.int p5), .val (.int nv), .val (.int (2 : Int32)), .unset, .unset, .unset, .unset, .unset, .unset, .unset, .unset] [(.int (4098 : Int32))])) rfl (hb hby at_48) rfl (by decide) (cap := 4098) (by decide) (by decide) (by decide) (by decide)
      obtain ⟨b219, g219⟩ : ∃ z, z = h0.size := ⟨_, rfl⟩
      rw [← g219] at A219 st219
      have g_b219 : n0 ≤ b219 := Nat.le_trans (Nat.le_trans Z0 K0.1) (Nat.le_of_eq g219.symm)
      have sz_b219 : h0.size ≤ b219 := Nat.le_trans K0.1 (Nat.le_of_eq g219.symm)
      have K219 : Keep h0 h219 [] := K0.ext E219
      have V219 : Arv Z h219 b219 k219 .char (4098 : Int32) [] (.int (0 : Int32)) := Arv.new A219 (by decide)
      refine Go.st (T' := T219.setTop (mkF m 50 #[.val (.int p1), .val (.int p2), .val (.int p3), .val (.int p4), .val (.int p5), .val (.int nv), .val (.int (2 : Int32)), .unset, .unset, .unset, .unset, .unset, .unset, .unset, .unset] [(.ref b219)])) (fun zt zk => st219 zt zk) ?_
      have Vr := (V219).pad (pad_rep [] (.int (0 : Int32)) 4098)
      rw [List.nil_append] at Vr
      refine Go.st (T' := T219.setTop (mkF m 58 #[.val (.int p1), .val (.int p2), .val (.int p3), .val (.int p4), .val (.int p5), .val (.int nv), .val (.int (2 : Int32)), .unset, .unset, .unset, .unset, .unset, .unset, .unset, .unset] [(.ref b219)])) (fun zt zk => XS.goto X219.here hx rfl (pc0 := 50) (pc' := 58) rfl (hb hby at_50) (by decide) (by decide) zk) ?_
      refine Go.st (T' := T219.setTop (mkF m 60 #[.val (.int p1), .val (.int p2), .val (.int p3), .val (.int p4), .val (.int p5), .val (.int nv), .val (.int (2 : Int32)), .val (.ref b219), .unset, .unset, .unset, .unset, .unset, .unset, .unset] [])) (fun zt zk => XS.astore X219.here hx rfl (hb hby at_58) rfl rfl (l' := #[.val (.int p1), .val (.int p2), .val (.int p3), .val (.int p4), .val (.int p5), .val (.int nv), .val (.int (2 : Int32)), .val (.ref b219), .unset, .unset, .unset, .unset, .unset, .unset, .unset]) rfl zk) ?_
      refine Go.st (T' := T219.setTop (mkF m 61 #[.val (.int p1), .val (.int p2), .val (.int p3), .val (.int p4), .val (.int p5), .val (.int nv), .val (.int (2 : Int32)), .val (.ref b219), .unset, .unset, .unset, .unset, .unset, .unset, .unset] [(.int p3)])) (fun zt zk => XS.iloadN X219.here hx rfl (hb hby at_60) rfl zk) ?_
      refine Go.st (T' := T219.setTop (mkF m 63 #[.val (.int p1), .val (.int p2), .val (.int p3), .val (.int p4), .val (.int p5), .val (.int nv), .val (.int (2 : Int32)), .val (.ref b219), .unset, .unset, .unset, .unset, .unset, .unset, .unset] [(.int (2147483647 : Int32)), (.int p3)])) (fun zt zk => X219.ldcInt hx hown (mvT hZ (hw _ (List.mem_of_getElem? (i := 1) rfl))) (g := (mkF m 61 #[.val (.int p1), .val (.int p2), .val (.int p3), .val (.int p4), .val (.int p5), .val (.int nv), .val (.int (2 : Int32)), .val (.ref b219), .unset, .unset, .unset, .unset, .unset, .unset, .unset] [(.int p3)])) rfl (hb hby at_61) zt zk) ?_
      refine Go.st (T' := T219.setTop (mkF m 64 #[.val (.int p1), .val (.int p2), .val (.int p3), .val (.int p4), .val (.int p5), .val (.int nv), .val (.int (2 : Int32)), .val (.ref b219), .unset, .unset, .unset, .unset, .unset, .unset, .unset] [(.int (p3 &&& (2147483647 : Int32)))])) (fun zt zk => XS.iand X219.here hx rfl (hb hby at_63) rfl zk) ?_
      refine Go.st (T' := T219.setTop (mkF m 66 #[.val (.int p1), .val (.int p2), .val (.int p3), .val (.int p4), .val (.int p5), .val (.int nv), .val (.int (2 : Int32)), .val (.ref b219), .unset, .unset, .unset, .unset, .unset, .unset, .unset] [(.int (2 : Int32)), (.int (p3 &&& (2147483647 : Int32)))])) (fun zt zk => XS.iload X219.here hx rfl (hb hby at_64) rfl zk) ?_
      refine Go.st (T' := T219.setTop (mkF m 75 #[.val (.int p1), .val (.int p2), .val (.int p3), .val (.int p4), .val (.int p5), .val (.int nv), .val (.int (2 : Int32)), .val (.ref b219), .unset, .unset, .unset, .unset, .unset, .unset, .unset] [(.int (p3 &&& (2147483647 : Int32)))])) (fun zt zk => XS.ifYes X219.here hx rfl (pc0 := 66) (pc' := 75) rfl (hb hby at_66) rfl ((if0 _ _).trans (feq (by decide)).2) (by decide) (by decide) zk) ?_
      refine Go.st (T' := T219.setTop (mkF m 78 #[.val (.int p1), .val (.int p2), .val (.int p3), .val (.int p4), .val (.int p5), .val (.int nv), .val (.int (2 : Int32)), .val (.ref b219), .unset, .unset, .unset, .unset, .unset, .unset, .unset] [(.int (4097 : Int32)), (.int (p3 &&& (2147483647 : Int32)))])) (fun zt zk => XS.sipush X219.here hx rfl (hb hby at_75) zk) ?_
      refine Go.st (T' := T219.setTop (mkF m 80 #[.val (.int p1), .val (.int p2), .val (.int p3), .val (.int p4), .val (.int p5), .val (.int nv), .val (.int (2 : Int32)), .val (.ref b219), .unset, .unset, .unset, .unset, .unset, .unset, .unset] [(.int (2 : Int32)), (.int (4097 : Int32)), (.int (p3 &&& (2147483647 : Int32)))])) (fun zt zk => XS.iload X219.here hx rfl (hb hby at_78) rfl zk) ?_
      refine Go.st (T' := T219.setTop (mkF m 81 #[.val (.int p1), .val (.int p2), .val (.int p3), .val (.int p4), .val (.int p5), .val (.int nv), .val (.int (2 : Int32)), .val (.ref b219), .unset, .unset, .unset, .unset, .unset, .unset, .unset] [(.int ((4097 : Int32) - (2 : Int32))), (.int (p3 &&& (2147483647 : Int32)))])) (fun zt zk => XS.isub X219.here hx rfl (hb hby at_80) rfl zk) ?_
      rw [show (4097 : Int32) - (2 : Int32) = (4095 : Int32) by decide]
      refine Go.st (T' := T219.setTop (mkF m 82 #[.val (.int p1), .val (.int p2), .val (.int p3), .val (.int p4), .val (.int p5), .val (.int nv), .val (.int (2 : Int32)), .val (.ref b219), .unset, .unset, .unset, .unset, .unset, .unset, .unset] [(.int ((p3 &&& (2147483647 : Int32)) - ((p3 &&& (2147483647 : Int32)) / (4095 : Int32)) * (4095 : Int32)))])) (fun zt zk => XS.irem X219.here hx rfl (hb hby at_81) rfl (by decide) zk) ?_
      obtain ⟨pos, hpos, hlt⟩ := own_rem4095 p3
      rw [hpos]
      refine Go.st (T' := T219.setTop (mkF m 84 #[.val (.int p1), .val (.int p2), .val (.int p3), .val (.int p4), .val (.int p5), .val (.int nv), .val (.int (2 : Int32)), .val (.ref b219), .val (.int (Int32.ofNat pos)), .unset, .unset, .unset, .unset, .unset, .unset] [])) (fun zt zk => XS.istore X219.here hx rfl (hb hby at_82) rfl (l' := #[.val (.int p1), .val (.int p2), .val (.int p3), .val (.int p4), .val (.int p5), .val (.int nv), .val (.int (2 : Int32)), .val (.ref b219), .val (.int (Int32.ofNat pos)), .unset, .unset, .unset, .unset, .unset, .unset]) rfl zk) ?_
      refine Go.st (T' := T219.setTop (mkF m 86 #[.val (.int p1), .val (.int p2), .val (.int p3), .val (.int p4), .val (.int p5), .val (.int nv), .val (.int (2 : Int32)), .val (.ref b219), .val (.int (Int32.ofNat pos)), .unset, .unset, .unset, .unset, .unset, .unset] [(.int (55296 : Int32))])) (fun zt zk => X219.ldcInt hx hown (mvT hZ (hw _ (List.mem_of_getElem? (i := 2) rfl))) (g := (mkF m 84 #[.val (.int p1), .val (.int p2), .val (.int p3), .val (.int p4), .val (.int p5), .val (.int nv), .val (.int (2 : Int32)), .val (.ref b219), .val (.int (Int32.ofNat pos)), .unset, .unset, .unset, .unset, .unset, .unset] [])) rfl (hb hby at_84) zt zk) ?_
      refine Go.st (T' := T219.setTop (mkF m 88 #[.val (.int p1), .val (.int p2), .val (.int p3), .val (.int p4), .val (.int p5), .val (.int nv), .val (.int (2 : Int32)), .val (.ref b219), .val (.int (Int32.ofNat pos)), .unset, .unset, .unset, .unset, .unset, .unset] [(.int p5), (.int (55296 : Int32))])) (fun zt zk => XS.iload X219.here hx rfl (hb hby at_86) rfl zk) ?_
      refine Go.st (T' := T219.setTop (mkF m 91 #[.val (.int p1), .val (.int p2), .val (.int p3), .val (.int p4), .val (.int p5), .val (.int nv), .val (.int (2 : Int32)), .val (.ref b219), .val (.int (Int32.ofNat pos)), .unset, .unset, .unset, .unset, .unset, .unset] [(.int (1023 : Int32)), (.int p5), (.int (55296 : Int32))])) (fun zt zk => XS.sipush X219.here hx rfl (hb hby at_88) zk) ?_
      refine Go.st (T' := T219.setTop (mkF m 92 #[.val (.int p1), .val (.int p2), .val (.int p3), .val (.int p4), .val (.int p5), .val (.int nv), .val (.int (2 : Int32)), .val (.ref b219), .val (.int (Int32.ofNat pos)), .unset, .unset, .unset, .unset, .unset, .unset] [(.int (p5 &&& (1023 : Int32))), (.int (55296 : Int32))])) (fun zt zk => XS.iand X219.here hx rfl (hb hby at_91) rfl zk) ?_
      refine Go.st (T' := T219.setTop (mkF m 93 #[.val (.int p1), .val (.int p2), .val (.int p3), .val (.int p4), .val (.int p5), .val (.int nv), .val (.int (2 : Int32)), .val (.ref b219), .val (.int (Int32.ofNat pos)), .unset, .unset, .unset, .unset, .unset, .unset] [(.int ((55296 : Int32) + (p5 &&& (1023 : Int32))))])) (fun zt zk => XS.iadd X219.here hx rfl (hb hby at_92) rfl zk) ?_
      refine Go.st (T' := T219.setTop (mkF m 94 #[.val (.int p1), .val (.int p2), .val (.int p3), .val (.int p4), .val (.int p5), .val (.int nv), .val (.int (2 : Int32)), .val (.ref b219), .val (.int (Int32.ofNat pos)), .unset, .unset, .unset, .unset, .unset, .unset] [(.int (((55296 : Int32) + (p5 &&& (1023 : Int32))).toUInt32.toUInt16.toUInt32.toInt32))])) (fun zt zk => XS.i2c X219.here hx rfl (hb hby at_93) rfl zk) ?_
      obtain ⟨hv, hhv⟩ : ∃ z, z = (((55296 : Int32) + (p5 &&& (1023 : Int32))).toUInt32.toUInt16.toUInt32.toInt32) := ⟨_, rfl⟩
      rw [← hhv]
      have Hhv : own_H (nar .char hv) := by rw [hhv]; exact own_hiv _
      refine Go.st (T' := T219.setTop (mkF m 96 #[.val (.int p1), .val (.int p2), .val (.int p3), .val (.int p4), .val (.int p5), .val (.int nv), .val (.int (2 : Int32)), .val (.ref b219), .val (.int (Int32.ofNat pos)), .val (.int hv), .unset, .unset, .unset, .unset, .unset] [])) (fun zt zk => XS.istore X219.here hx rfl (hb hby at_94) rfl (l' := #[.val (.int p1), .val (.int p2), .val (.int p3), .val (.int p4), .val (.int p5), .val (.int nv), .val (.int (2 : Int32)), .val (.ref b219), .val (.int (Int32.ofNat pos)), .val (.int hv), .unset, .unset, .unset, .unset, .unset]) rfl zk) ?_
      refine Go.st (T' := T219.setTop (mkF m 98 #[.val (.int p1), .val (.int p2), .val (.int p3), .val (.int p4), .val (.int p5), .val (.int nv), .val (.int (2 : Int32)), .val (.ref b219), .val (.int (Int32.ofNat pos)), .val (.int hv), .unset, .unset, .unset, .unset, .unset] [(.int (56320 : Int32))])) (fun zt zk => X219.ldcInt hx hown (mvT hZ (hw _ (List.mem_of_getElem? (i := 3) rfl))) (g := (mkF m 96 #[.val (.int p1), .val (.int p2), .val (.int p3), .val (.int p4), .val (.int p5), .val (.int nv), .val (.int (2 : Int32)), .val (.ref b219), .val (.int (Int32.ofNat pos)), .val (.int hv), .unset, .unset, .unset, .unset, .unset] [])) rfl (hb hby at_96) zt zk) ?_
      refine Go.st (T' := T219.setTop (mkF m 100 #[.val (.int p1), .val (.int p2), .val (.int p3), .val (.int p4), .val (.int p5), .val (.int nv), .val (.int (2 : Int32)), .val (.ref b219), .val (.int (Int32.ofNat pos)), .val (.int hv), .unset, .unset, .unset, .unset, .unset] [(.int p5), (.int (56320 : Int32))])) (fun zt zk => XS.iload X219.here hx rfl (hb hby at_98) rfl zk) ?_
      refine Go.st (T' := T219.setTop (mkF m 102 #[.val (.int p1), .val (.int p2), .val (.int p3), .val (.int p4), .val (.int p5), .val (.int nv), .val (.int (2 : Int32)), .val (.ref b219), .val (.int (Int32.ofNat pos)), .val (.int hv), .unset, .unset, .unset, .unset, .unset] [(.int (10 : Int32)), (.int p5), (.int (56320 : Int32))])) (fun zt zk => XS.bipush X219.here hx rfl (hb hby at_100) zk) ?_
      refine Go.st (T' := T219.setTop (mkF m 103 #[.val (.int p1), .val (.int p2), .val (.int p3), .val (.int p4), .val (.int p5), .val (.int nv), .val (.int (2 : Int32)), .val (.ref b219), .val (.int (Int32.ofNat pos)), .val (.int hv), .unset, .unset, .unset, .unset, .unset] [(.int ((p5.toUInt32 >>> ((10 : Int32) &&& 31).toUInt32).toInt32)), (.int (56320 : Int32))])) (fun zt zk => XS.iushr X219.here hx rfl (hb hby at_102) rfl zk) ?_
      refine Go.st (T' := T219.setTop (mkF m 106 #[.val (.int p1), .val (.int p2), .val (.int p3), .val (.int p4), .val (.int p5), .val (.int nv), .val (.int (2 : Int32)), .val (.ref b219), .val (.int (Int32.ofNat pos)), .val (.int hv), .unset, .unset, .unset, .unset, .unset] [(.int (1023 : Int32)), (.int ((p5.toUInt32 >>> ((10 : Int32) &&& 31).toUInt32).toInt32)), (.int (56320 : Int32))])) (fun zt zk => XS.sipush X219.here hx rfl (hb hby at_103) zk) ?_
      refine Go.st (T' := T219.setTop (mkF m 107 #[.val (.int p1), .val (.int p2), .val (.int p3), .val (.int p4), .val (.int p5), .val (.int nv), .val (.int (2 : Int32)), .val (.ref b219), .val (.int (Int32.ofNat pos)), .val (.int hv), .unset, .unset, .unset, .unset, .unset] [(.int (((p5.toUInt32 >>> ((10 : Int32) &&& 31).toUInt32).toInt32) &&& (1023 : Int32))), (.int (56320 : Int32))])) (fun zt zk => XS.iand X219.here hx rfl (hb hby at_106) rfl zk) ?_
      refine Go.st (T' := T219.setTop (mkF m 108 #[.val (.int p1), .val (.int p2), .val (.int p3), .val (.int p4), .val (.int p5), .val (.int nv), .val (.int (2 : Int32)), .val (.ref b219), .val (.int (Int32.ofNat pos)), .val (.int hv), .unset, .unset, .unset, .unset, .unset] [(.int ((56320 : Int32) + (((p5.toUInt32 >>> ((10 : Int32) &&& 31).toUInt32).toInt32) &&& (1023 : Int32))))])) (fun zt zk => XS.iadd X219.here hx rfl (hb hby at_107) rfl zk) ?_
      refine Go.st (T' := T219.setTop (mkF m 109 #[.val (.int p1), .val (.int p2), .val (.int p3), .val (.int p4), .val (.int p5), .val (.int nv), .val (.int (2 : Int32)), .val (.ref b219), .val (.int (Int32.ofNat pos)), .val (.int hv), .unset, .unset, .unset, .unset, .unset] [(.int (((56320 : Int32) + (((p5.toUInt32 >>> ((10 : Int32) &&& 31).toUInt32).toInt32) &&& (1023 : Int32))).toUInt32.toUInt16.toUInt32.toInt32))])) (fun zt zk => XS.i2c X219.here hx rfl (hb hby at_108) rfl zk) ?_
      obtain ⟨lv, hlv⟩ : ∃ z, z = (((56320 : Int32) + (((p5.toUInt32 >>> ((10 : Int32) &&& 31).toUInt32).toInt32) &&& (1023 : Int32))).toUInt32.toUInt16.toUInt32.toInt32) := ⟨_, rfl⟩
      rw [← hlv]
      have Hlv : own_L (nar .char lv) := by rw [hlv]; exact own_lov _
      refine Go.st (T' := T219.setTop (mkF m 111 #[.val (.int p1), .val (.int p2), .val (.int p3), .val (.int p4), .val (.int p5), .val (.int nv), .val (.int (2 : Int32)), .val (.ref b219), .val (.int (Int32.ofNat pos)), .val (.int hv), .val (.int lv), .unset, .unset, .unset, .unset] [])) (fun zt zk => XS.istore X219.here hx rfl (hb hby at_109) rfl (l' := #[.val (.int p1), .val (.int p2), .val (.int p3), .val (.int p4), .val (.int p5), .val (.int nv), .val (.int (2 : Int32)), .val (.ref b219), .val (.int (Int32.ofNat pos)), .val (.int hv), .val (.int lv), .unset, .unset, .unset, .unset]) rfl zk) ?_
      refine Go.st (T' := T219.setTop (mkF m 113 #[.val (.int p1), .val (.int p2), .val (.int p3), .val (.int p4), .val (.int p5), .val (.int nv), .val (.int (2 : Int32)), .val (.ref b219), .val (.int (Int32.ofNat pos)), .val (.int hv), .val (.int lv), .unset, .unset, .unset, .unset] [(.int (2 : Int32))])) (fun zt zk => XS.iload X219.here hx rfl (hb hby at_111) rfl zk) ?_
      refine Go.st (T' := T219.setTop (mkF m 127 #[.val (.int p1), .val (.int p2), .val (.int p3), .val (.int p4), .val (.int p5), .val (.int nv), .val (.int (2 : Int32)), .val (.ref b219), .val (.int (Int32.ofNat pos)), .val (.int hv), .val (.int lv), .unset, .unset, .unset, .unset] [])) (fun zt zk => XS.ifYes X219.here hx rfl (pc0 := 113) (pc' := 127) rfl (hb hby at_113) rfl ((if0 _ _).trans (feq (by decide)).2) (by decide) (by decide) zk) ?_
      refine Go.st (T' := T219.setTop (mkF m 129 #[.val (.int p1), .val (.int p2), .val (.int p3), .val (.int p4), .val (.int p5), .val (.int nv), .val (.int (2 : Int32)), .val (.ref b219), .val (.int (Int32.ofNat pos)), .val (.int hv), .val (.int lv), .unset, .unset, .unset, .unset] [(.int (2 : Int32))])) (fun zt zk => XS.iload X219.here hx rfl (hb hby at_127) rfl zk) ?_
      refine Go.st (T' := T219.setTop (mkF m 130 #[.val (.int p1), .val (.int p2), .val (.int p3), .val (.int p4), .val (.int p5), .val (.int nv), .val (.int (2 : Int32)), .val (.ref b219), .val (.int (Int32.ofNat pos)), .val (.int hv), .val (.int lv), .unset, .unset, .unset, .unset] [(.int (1 : Int32)), (.int (2 : Int32))])) (fun zt zk => XS.iconst X219.here hx rfl (hb hby at_129) zk) ?_
      refine Go.st (T' := T219.setTop (mkF m 133 #[.val (.int p1), .val (.int p2), .val (.int p3), .val (.int p4), .val (.int p5), .val (.int nv), .val (.int (2 : Int32)), .val (.ref b219), .val (.int (Int32.ofNat pos)), .val (.int hv), .val (.int lv), .unset, .unset, .unset, .unset] [])) (fun zt zk => XS.icmpNo X219.here hx rfl (hb hby at_130) rfl (flt (by decide)).1 zk) ?_
      refine Go.st (T' := T219.setTop (mkF m 135 #[.val (.int p1), .val (.int p2), .val (.int p3), .val (.int p4), .val (.int p5), .val (.int nv), .val (.int (2 : Int32)), .val (.ref b219), .val (.int (Int32.ofNat pos)), .val (.int hv), .val (.int lv), .unset, .unset, .unset, .unset] [(.ref b219)])) (fun zt zk => XS.aload X219.here hx rfl (hb hby at_133) rfl rfl zk) ?_
      refine Go.st (T' := T219.setTop (mkF m 137 #[.val (.int p1), .val (.int p2), .val (.int p3), .val (.int p4), .val (.int p5), .val (.int nv), .val (.int (2 : Int32)), .val (.ref b219), .val (.int (Int32.ofNat pos)), .val (.int hv), .val (.int lv), .unset, .unset, .unset, .unset] [(.int (Int32.ofNat pos)), (.ref b219)])) (fun zt zk => XS.iload X219.here hx rfl (hb hby at_135) rfl zk) ?_
      refine Go.st (T' := T219.setTop (mkF m 139 #[.val (.int p1), .val (.int p2), .val (.int p3), .val (.int p4), .val (.int p5), .val (.int nv), .val (.int (2 : Int32)), .val (.ref b219), .val (.int (Int32.ofNat pos)), .val (.int hv), .val (.int lv), .unset, .unset, .unset, .unset] [(.int hv), (.int (Int32.ofNat pos)), (.ref b219)])) (fun zt zk => XS.iload X219.here hx rfl (hb hby at_137) rfl zk) ?_
      obtain ⟨cl220, Ar220, q220, S220, M220, H220, G220⟩ := id Vr
      obtain ⟨T220, h220, X220, e220, W220, st220⟩ := stC X219 hx hZ e219 Ar220 (j := (Int32.ofNat pos)) (inb_of S220 ⟨own_nn (by omega), (own_lt32 (n := 4098) (by omega) (by omega)).mpr (by omega)⟩) (g := (mkF m 139 #[.val (.int p1), .val (.int p2), .val (.int p3), .val (.int p4), .val (.int p5), .val (.int nv), .val (.int (2 : Int32)), .val (.ref b219), .val (.int (Int32.ofNat pos)), .val (.int hv), .val (.int lv), .unset, .unset, .unset, .unset] [(.int hv), (.int (Int32.ofNat pos)), (.ref b219)])) rfl rfl (hb hby at_139)
      have V220 : Arv Z h220 b219 k219 .char (4098 : Int32) ((List.replicate 4098 (.int (0 : Int32))).set pos (.int (nar .char hv))) (.int (0 : Int32)) := Arv.set Ar220 q220 S220 M220 H220 G220 (fits_nar_char _) W220 pos (own_clamp (by omega)) (by simp only [List.length_set, List.length_replicate]; omega)
      have K220 : Keep h0 h220 [] := K219.wr W220 (Or.inr sz_b219)
      have N220 := Fr.snoc X220 N0 g_b219
      refine Go.st (T' := T220.setTop (mkF m 140 #[.val (.int p1), .val (.int p2), .val (.int p3), .val (.int p4), .val (.int p5), .val (.int nv), .val (.int (2 : Int32)), .val (.ref b219), .val (.int (Int32.ofNat pos)), .val (.int hv), .val (.int lv), .unset, .unset, .unset, .unset] [])) (fun zt zk => st220 zt zk) ?_
      refine Go.st (T' := T220.setTop (mkF m 142 #[.val (.int p1), .val (.int p2), .val (.int p3), .val (.int p4), .val (.int p5), .val (.int nv), .val (.int (2 : Int32)), .val (.ref b219), .val (.int (Int32.ofNat pos)), .val (.int hv), .val (.int lv), .unset, .unset, .unset, .unset] [(.ref b219)])) (fun zt zk => XS.aload X220.here hx rfl (hb hby at_140) rfl rfl zk) ?_
      refine Go.st (T' := T220.setTop (mkF m 144 #[.val (.int p1), .val (.int p2), .val (.int p3), .val (.int p4), .val (.int p5), .val (.int nv), .val (.int (2 : Int32)), .val (.ref b219), .val (.int (Int32.ofNat pos)), .val (.int hv), .val (.int lv), .unset, .unset, .unset, .unset] [(.int (Int32.ofNat pos)), (.ref b219)])) (fun zt zk => XS.iload X220.here hx rfl (hb hby at_142) rfl zk) ?_
      refine Go.st (T' := T220.setTop (mkF m 145 #[.val (.int p1), .val (.int p2), .val (.int p3), .val (.int p4), .val (.int p5), .val (.int nv), .val (.int (2 : Int32)), .val (.ref b219), .val (.int (Int32.ofNat pos)), .val (.int hv), .val (.int lv), .unset, .unset, .unset, .unset] [(.int (1 : Int32)), (.int (Int32.ofNat pos)), (.ref b219)])) (fun zt zk => XS.iconst X220.here hx rfl (hb hby at_144) zk) ?_
      refine Go.st (T' := T220.setTop (mkF m 146 #[.val (.int p1), .val (.int p2), .val (.int p3), .val (.int p4), .val (.int p5), .val (.int nv), .val (.int (2 : Int32)), .val (.ref b219), .val (.int (Int32.ofNat pos)), .val (.int hv), .val (.int lv), .unset, .unset, .unset, .unset] [(.int ((Int32.ofNat pos) + (1 : Int32))), (.ref b219)])) (fun zt zk => XS.iadd X220.here hx rfl (hb hby at_145) rfl zk) ?_
      refine Go.st (T' := T220.setTop (mkF m 148 #[.val (.int p1), .val (.int p2), .val (.int p3), .val (.int p4), .val (.int p5), .val (.int nv), .val (.int (2 : Int32)), .val (.ref b219), .val (.int (Int32.ofNat pos)), .val (.int hv), .val (.int lv), .unset, .unset, .unset, .unset] [(.int lv), (.int ((Int32.ofNat pos) + (1 : Int32))), (.ref b219)])) (fun zt zk => XS.iload X220.here hx rfl (hb hby at_146) rfl zk) ?_
      rw [own_addn (k := (1 : Int32)) (b := 1) rfl (by omega)]
      obtain ⟨cl221, Ar221, q221, S221, M221, H221, G221⟩ := id V220
      obtain ⟨T221, h221, X221, e221, W221, st221⟩ := stC X220 hx hZ e220 Ar221 (j := (Int32.ofNat (pos + 1))) (inb_of S221 ⟨own_nn (by omega), (own_lt32 (n := 4098) (by omega) (by omega)).mpr (by omega)⟩) (g := (mkF m 148 #[.val (.int p1), .val (.int p2), .val (.int p3), .val (.int p4), .val (.int p5), .val (.int nv), .val (.int (2 : Int32)), .val (.ref b219), .val (.int (Int32.ofNat pos)), .val (.int hv), .val (.int lv), .unset, .unset, .unset, .unset] [(.int lv), (.int (Int32.ofNat (pos + 1))), (.ref b219)])) rfl rfl (hb hby at_148)
      have V221 : Arv Z h221 b219 k219 .char (4098 : Int32) (((List.replicate 4098 (.int (0 : Int32))).set pos (.int (nar .char hv))).set (pos + 1) (.int (nar .char lv))) (.int (0 : Int32)) := Arv.set Ar221 q221 S221 M221 H221 G221 (fits_nar_char _) W221 (pos + 1) (own_clamp (by omega)) (by simp only [List.length_set, List.length_replicate]; omega)
      have K221 : Keep h0 h221 [] := K220.wr W221 (Or.inr sz_b219)
      have N221 := Fr.snoc X221 N220 g_b219
      refine Go.st (T' := T221.setTop (mkF m 149 #[.val (.int p1), .val (.int p2), .val (.int p3), .val (.int p4), .val (.int p5), .val (.int nv), .val (.int (2 : Int32)), .val (.ref b219), .val (.int (Int32.ofNat pos)), .val (.int hv), .val (.int lv), .unset, .unset, .unset, .unset] [])) (fun zt zk => st221 zt zk) ?_
      refine Go.st (T' := T221.setTop (mkF m 151 #[.val (.int p1), .val (.int p2), .val (.int p3), .val (.int p4), .val (.int p5), .val (.int nv), .val (.int (2 : Int32)), .val (.ref b219), .val (.int (Int32.ofNat pos)), .val (.int hv), .val (.int lv), .unset, .unset, .unset, .unset] [(.int (2 : Int32))])) (fun zt zk => XS.iload X221.here hx rfl (hb hby at_149) rfl zk) ?_
      refine Go.st (T' := T221.setTop (mkF m 152 #[.val (.int p1), .val (.int p2), .val (.int p3), .val (.int p4), .val (.int p5), .val (.int nv), .val (.int (2 : Int32)), .val (.ref b219), .val (.int (Int32.ofNat pos)), .val (.int hv), .val (.int lv), .unset, .unset, .unset, .unset] [(.int (2 : Int32)), (.int (2 : Int32))])) (fun zt zk => XS.iconst X221.here hx rfl (hb hby at_151) zk) ?_
      refine Go.st (T' := T221.setTop (mkF m 155 #[.val (.int p1), .val (.int p2), .val (.int p3), .val (.int p4), .val (.int p5), .val (.int nv), .val (.int (2 : Int32)), .val (.ref b219), .val (.int (Int32.ofNat pos)), .val (.int hv), .val (.int lv), .unset, .unset, .unset, .unset] [])) (fun zt zk => XS.icmpNo X221.here hx rfl (hb hby at_152) rfl (flt (by decide)).1 zk) ?_
      refine Go.st (T' := T221.setTop (mkF m 157 #[.val (.int p1), .val (.int p2), .val (.int p3), .val (.int p4), .val (.int p5), .val (.int nv), .val (.int (2 : Int32)), .val (.ref b219), .val (.int (Int32.ofNat pos)), .val (.int hv), .val (.int lv), .unset, .unset, .unset, .unset] [(.ref b219)])) (fun zt zk => XS.aload X221.here hx rfl (hb hby at_155) rfl rfl zk) ?_
      refine Go.st (T' := T221.setTop (mkF m 159 #[.val (.int p1), .val (.int p2), .val (.int p3), .val (.int p4), .val (.int p5), .val (.int nv), .val (.int (2 : Int32)), .val (.ref b219), .val (.int (Int32.ofNat pos)), .val (.int hv), .val (.int lv), .unset, .unset, .unset, .unset] [(.int (Int32.ofNat pos)), (.ref b219)])) (fun zt zk => XS.iload X221.here hx rfl (hb hby at_157) rfl zk) ?_
      refine Go.st (T' := T221.setTop (mkF m 160 #[.val (.int p1), .val (.int p2), .val (.int p3), .val (.int p4), .val (.int p5), .val (.int nv), .val (.int (2 : Int32)), .val (.ref b219), .val (.int (Int32.ofNat pos)), .val (.int hv), .val (.int lv), .unset, .unset, .unset, .unset] [(.int (2 : Int32)), (.int (Int32.ofNat pos)), (.ref b219)])) (fun zt zk => XS.iconst X221.here hx rfl (hb hby at_159) zk) ?_
      refine Go.st (T' := T221.setTop (mkF m 161 #[.val (.int p1), .val (.int p2), .val (.int p3), .val (.int p4), .val (.int p5), .val (.int nv), .val (.int (2 : Int32)), .val (.ref b219), .val (.int (Int32.ofNat pos)), .val (.int hv), .val (.int lv), .unset, .unset, .unset, .unset] [(.int ((Int32.ofNat pos) + (2 : Int32))), (.ref b219)])) (fun zt zk => XS.iadd X221.here hx rfl (hb hby at_160) rfl zk) ?_
      refine Go.st (T' := T221.setTop (mkF m 163 #[.val (.int p1), .val (.int p2), .val (.int p3), .val (.int p4), .val (.int p5), .val (.int nv), .val (.int (2 : Int32)), .val (.ref b219), .val (.int (Int32.ofNat pos)), .val (.int hv), .val (.int lv), .unset, .unset, .unset, .unset] [(.int hv), (.int ((Int32.ofNat pos) + (2 : Int32))), (.ref b219)])) (fun zt zk => XS.iload X221.here hx rfl (hb hby at_161) rfl zk) ?_
      rw [own_addn (k := (2 : Int32)) (b := 2) rfl (by omega)]
      obtain ⟨cl222, Ar222, q222, S222, M222, H222, G222⟩ := id V221
      obtain ⟨T222, h222, X222, e222, W222, st222⟩ := stC X221 hx hZ e221 Ar222 (j := (Int32.ofNat (pos + 2))) (inb_of S222 ⟨own_nn (by omega), (own_lt32 (n := 4098) (by omega) (by omega)).mpr (by omega)⟩) (g := (mkF m 163 #[.val (.int p1), .val (.int p2), .val (.int p3), .val (.int p4), .val (.int p5), .val (.int nv), .val (.int (2 : Int32)), .val (.ref b219), .val (.int (Int32.ofNat pos)), .val (.int hv), .val (.int lv), .unset, .unset, .unset, .unset] [(.int hv), (.int (Int32.ofNat (pos + 2))), (.ref b219)])) rfl rfl (hb hby at_163)
      have V222 : Arv Z h222 b219 k219 .char (4098 : Int32) ((((List.replicate 4098 (.int (0 : Int32))).set pos (.int (nar .char hv))).set (pos + 1) (.int (nar .char lv))).set (pos + 2) (.int (nar .char hv))) (.int (0 : Int32)) := Arv.set Ar222 q222 S222 M222 H222 G222 (fits_nar_char _) W222 (pos + 2) (own_clamp (by omega)) (by simp only [List.length_set, List.length_replicate]; omega)
      have K222 : Keep h0 h222 [] := K221.wr W222 (Or.inr sz_b219)
      have N222 := Fr.snoc X222 N221 g_b219
      refine Go.st (T' := T222.setTop (mkF m 164 #[.val (.int p1), .val (.int p2), .val (.int p3), .val (.int p4), .val (.int p5), .val (.int nv), .val (.int (2 : Int32)), .val (.ref b219), .val (.int (Int32.ofNat pos)), .val (.int hv), .val (.int lv), .unset, .unset, .unset, .unset] [])) (fun zt zk => st222 zt zk) ?_
      refine Go.st (T' := T222.setTop (mkF m 166 #[.val (.int p1), .val (.int p2), .val (.int p3), .val (.int p4), .val (.int p5), .val (.int nv), .val (.int (2 : Int32)), .val (.ref b219), .val (.int (Int32.ofNat pos)), .val (.int hv), .val (.int lv), .unset, .unset, .unset, .unset] [(.ref b219)])) (fun zt zk => XS.aload X222.here hx rfl (hb hby at_164) rfl rfl zk) ?_
      refine Go.st (T' := T222.setTop (mkF m 168 #[.val (.int p1), .val (.int p2), .val (.int p3), .val (.int p4), .val (.int p5), .val (.int nv), .val (.int (2 : Int32)), .val (.ref b219), .val (.int (Int32.ofNat pos)), .val (.int hv), .val (.int lv), .unset, .unset, .unset, .unset] [(.int (Int32.ofNat pos)), (.ref b219)])) (fun zt zk => XS.iload X222.here hx rfl (hb hby at_166) rfl zk) ?_
      refine Go.st (T' := T222.setTop (mkF m 169 #[.val (.int p1), .val (.int p2), .val (.int p3), .val (.int p4), .val (.int p5), .val (.int nv), .val (.int (2 : Int32)), .val (.ref b219), .val (.int (Int32.ofNat pos)), .val (.int hv), .val (.int lv), .unset, .unset, .unset, .unset] [(.int (3 : Int32)), (.int (Int32.ofNat pos)), (.ref b219)])) (fun zt zk => XS.iconst X222.here hx rfl (hb hby at_168) zk) ?_
      refine Go.st (T' := T222.setTop (mkF m 170 #[.val (.int p1), .val (.int p2), .val (.int p3), .val (.int p4), .val (.int p5), .val (.int nv), .val (.int (2 : Int32)), .val (.ref b219), .val (.int (Int32.ofNat pos)), .val (.int hv), .val (.int lv), .unset, .unset, .unset, .unset] [(.int ((Int32.ofNat pos) + (3 : Int32))), (.ref b219)])) (fun zt zk => XS.iadd X222.here hx rfl (hb hby at_169) rfl zk) ?_
      refine Go.st (T' := T222.setTop (mkF m 172 #[.val (.int p1), .val (.int p2), .val (.int p3), .val (.int p4), .val (.int p5), .val (.int nv), .val (.int (2 : Int32)), .val (.ref b219), .val (.int (Int32.ofNat pos)), .val (.int hv), .val (.int lv), .unset, .unset, .unset, .unset] [(.int lv), (.int ((Int32.ofNat pos) + (3 : Int32))), (.ref b219)])) (fun zt zk => XS.iload X222.here hx rfl (hb hby at_170) rfl zk) ?_
      rw [own_addn (k := (3 : Int32)) (b := 3) rfl (by omega)]
      obtain ⟨cl223, Ar223, q223, S223, M223, H223, G223⟩ := id V222
      obtain ⟨T223, h223, X223, e223, W223, st223⟩ := stC X222 hx hZ e222 Ar223 (j := (Int32.ofNat (pos + 3))) (inb_of S223 ⟨own_nn (by omega), (own_lt32 (n := 4098) (by omega) (by omega)).mpr (by omega)⟩) (g := (mkF m 172 #[.val (.int p1), .val (.int p2), .val (.int p3), .val (.int p4), .val (.int p5), .val (.int nv), .val (.int (2 : Int32)), .val (.ref b219), .val (.int (Int32.ofNat pos)), .val (.int hv), .val (.int lv), .unset, .unset, .unset, .unset] [(.int lv), (.int (Int32.ofNat (pos + 3))), (.ref b219)])) rfl rfl (hb hby at_172)
      have V223 : Arv Z h223 b219 k219 .char (4098 : Int32) (((((List.replicate 4098 (.int (0 : Int32))).set pos (.int (nar .char hv))).set (pos + 1) (.int (nar .char lv))).set (pos + 2) (.int (nar .char hv))).set (pos + 3) (.int (nar .char lv))) (.int (0 : Int32)) := Arv.set Ar223 q223 S223 M223 H223 G223 (fits_nar_char _) W223 (pos + 3) (own_clamp (by omega)) (by simp only [List.length_set, List.length_replicate]; omega)
      have K223 : Keep h0 h223 [] := K222.wr W223 (Or.inr sz_b219)
      have N223 := Fr.snoc X223 N222 g_b219
      refine Go.st (T' := T223.setTop (mkF m 173 #[.val (.int p1), .val (.int p2), .val (.int p3), .val (.int p4), .val (.int p5), .val (.int nv), .val (.int (2 : Int32)), .val (.ref b219), .val (.int (Int32.ofNat pos)), .val (.int hv), .val (.int lv), .unset, .unset, .unset, .unset] [])) (fun zt zk => st223 zt zk) ?_
      refine Go.st (T' := T223.setTop (mkF m 175 #[.val (.int p1), .val (.int p2), .val (.int p3), .val (.int p4), .val (.int p5), .val (.int nv), .val (.int (2 : Int32)), .val (.ref b219), .val (.int (Int32.ofNat pos)), .val (.int hv), .val (.int lv), .unset, .unset, .unset, .unset] [(.int (2 : Int32))])) (fun zt zk => XS.iload X223.here hx rfl (hb hby at_173) rfl zk) ?_
      refine Go.st (T' := T223.setTop (mkF m 176 #[.val (.int p1), .val (.int p2), .val (.int p3), .val (.int p4), .val (.int p5), .val (.int nv), .val (.int (2 : Int32)), .val (.ref b219), .val (.int (Int32.ofNat pos)), .val (.int hv), .val (.int lv), .unset, .unset, .unset, .unset] [(.int (3 : Int32)), (.int (2 : Int32))])) (fun zt zk => XS.iconst X223.here hx rfl (hb hby at_175) zk) ?_
      refine Go.st (T' := T223.setTop (mkF m 197 #[.val (.int p1), .val (.int p2), .val (.int p3), .val (.int p4), .val (.int p5), .val (.int nv), .val (.int (2 : Int32)), .val (.ref b219), .val (.int (Int32.ofNat pos)), .val (.int hv), .val (.int lv), .unset, .unset, .unset, .unset] [])) (fun zt zk => XS.icmpYes X223.here hx rfl (pc0 := 176) (pc' := 197) rfl (hb hby at_176) rfl (tlt (by decide)).1 (by decide) (by decide) zk) ?_
      obtain ⟨cs, hcs⟩ : ∃ z, z = (((((List.replicate 4098 (0 : Int32)).set pos (nar .char hv)).set (pos + 1) (nar .char lv)).set (pos + 2) (nar .char hv)).set (pos + 3) (nar .char lv)) := ⟨_, rfl⟩
      have hl : cs.length = 4098 := by rw [hcs]; simp only [List.length_set, List.length_replicate]
      have hm : cs.map Value.int = (((((List.replicate 4098 (.int (0 : Int32))).set pos (.int (nar .char hv))).set (pos + 1) (.int (nar .char lv))).set (pos + 2) (.int (nar .char hv))).set (pos + 3) (.int (nar .char lv))) := by rw [hcs]; simp only [List.map_set, List.map_replicate]
      have hz : (4098 : Int32) = Int32.ofNat cs.length := by rw [hl]; rfl
      have hok : own_ok cs := by rw [hcs]; exact (own_long2 hlt Hhv Hlv (own_chr _) (own_chr _))
      have VJ := V223
      rw [← hm, hz] at VJ
      exact J1 _ _ _ b219 _ cs _ _ _ _ (X223.more (Nat.le_refl _) (by decide)) e223 N223 K223 g_b219 sz_b219 VJ hok
    ·
      refine Go.st (T' := s₁.setTop (mkF m 14 #[.val (.int p1), .val (.int p2), .val (.int p3), .val (.int p4), .val (.int p5), .val (.int nv), .val (.int (3 : Int32)), .unset, .unset, .unset, .unset, .unset, .unset, .unset, .unset] [(.int (3 : Int32))])) (fun zt zk => XS.iload X0.here hx rfl (hb hby at_12) rfl zk) ?_
      refine Go.st (T' := s₁.setTop (mkF m 25 #[.val (.int p1), .val (.int p2), .val (.int p3), .val (.int p4), .val (.int p5), .val (.int nv), .val (.int (3 : Int32)), .unset, .unset, .unset, .unset, .unset, .unset, .unset, .unset] [])) (fun zt zk => XS.ifYes X0.here hx rfl (pc0 := 14) (pc' := 25) rfl (hb hby at_14) rfl ((if0 _ _).trans (feq (by decide)).2) (by decide) (by decide) zk) ?_
      refine Go.st (T' := s₁.setTop (mkF m 27 #[.val (.int p1), .val (.int p2), .val (.int p3), .val (.int p4), .val (.int p5), .val (.int nv), .val (.int (3 : Int32)), .unset, .unset, .unset, .unset, .unset, .unset, .unset, .unset] [(.int (3 : Int32))])) (fun zt zk => XS.iload X0.here hx rfl (hb hby at_25) rfl zk) ?_
      refine Go.st (T' := s₁.setTop (mkF m 28 #[.val (.int p1), .val (.int p2), .val (.int p3), .val (.int p4), .val (.int p5), .val (.int nv), .val (.int (3 : Int32)), .unset, .unset, .unset, .unset, .unset, .unset, .unset, .unset] [(.int (1 : Int32)), (.int (3 : Int32))])) (fun zt zk => XS.iconst X0.here hx rfl (hb hby at_27) zk) ?_
      refine Go.st (T' := s₁.setTop (mkF m 39 #[.val (.int p1), .val (.int p2), .val (.int p3), .val (.int p4), .val (.int p5), .val (.int nv), .val (.int (3 : Int32)), .unset, .unset, .unset, .unset, .unset, .unset, .unset, .unset] [])) (fun zt zk => XS.icmpYes X0.here hx rfl (pc0 := 28) (pc' := 39) rfl (hb hby at_28) rfl (feq (by decide)).2 (by decide) (by decide) zk) ?_
      refine Go.st (T' := s₁.setTop (mkF m 41 #[.val (.int p1), .val (.int p2), .val (.int p3), .val (.int p4), .val (.int p5), .val (.int nv), .val (.int (3 : Int32)), .unset, .unset, .unset, .unset, .unset, .unset, .unset, .unset] [(.int (3 : Int32))])) (fun zt zk => XS.iload X0.here hx rfl (hb hby at_39) rfl zk) ?_
      refine Go.st (T' := s₁.setTop (mkF m 42 #[.val (.int p1), .val (.int p2), .val (.int p3), .val (.int p4), .val (.int p5), .val (.int nv), .val (.int (3 : Int32)), .unset, .unset, .unset, .unset, .unset, .unset, .unset, .unset] [(.int (2 : Int32)), (.int (3 : Int32))])) (fun zt zk => XS.iconst X0.here hx rfl (hb hby at_41) zk) ?_
      refine Go.st (T' := s₁.setTop (mkF m 53 #[.val (.int p1), .val (.int p2), .val (.int p3), .val (.int p4), .val (.int p5), .val (.int nv), .val (.int (3 : Int32)), .unset, .unset, .unset, .unset, .unset, .unset, .unset, .unset] [])) (fun zt zk => XS.icmpYes X0.here hx rfl (pc0 := 42) (pc' := 53) rfl (hb hby at_42) rfl (feq (by decide)).2 (by decide) (by decide) zk) ?_
      refine Go.st (T' := s₁.setTop (mkF m 56 #[.val (.int p1), .val (.int p2), .val (.int p3), .val (.int p4), .val (.int p5), .val (.int nv), .val (.int (3 : Int32)), .unset, .unset, .unset, .unset, .unset, .unset, .unset, .unset] [(.int (4099 : Int32))])) (fun zt zk => XS.sipush X0.here hx rfl (hb hby at_53) zk) ?_
      obtain ⟨T224, h224, k224, X224, e224, E224, A224, st224⟩ := newP X0 hx hZ (hw _ (List.mem_of_getElem? (i := 0) rfl)) e0 (g := (mkF m 56 #[.val (.int p1), .val (.int p2), .val (.int p3), .val (.int p4), .val (.int p5), .val (.int nv), .val (.int (3 : Int32)), .unset, .unset, .unset, .unset, .unset, .unset, .unset, .unset] [(.int (4099 : Int32))])) rfl (hb hby at_56) rfl (by decide) (cap := 4099) (by decide) (by decide) (by decide) (by decide)
      obtain ⟨b224, g224⟩ : ∃ z, z = h0.size := ⟨_, rfl⟩
      rw [← g224] at A224 st224
      have g_b224 : n0 ≤ b224 := Nat.le_trans (Nat.le_trans Z0 K0.1) (Nat.le_of_eq g224.symm)
      have sz_b224 : h0.size ≤ b224 := Nat.le_trans K0.1 (Nat.le_of_eq g224.symm)
      have K224 : Keep h0 h224 [] := K0.ext E224
      have V224 : Arv Z h224 b224 k224 .char (4099 : Int32) [] (.int (0 : Int32)) := Arv.new A224 (by decide)
      refine Go.st (T' := T224.setTop (mkF m 58 #[.val (.int p1), .val (.int p2), .val (.int p3), .val (.int p4), .val (.int p5), .val (.int nv), .val (.int (3 : Int32)), .unset, .unset, .unset, .unset, .unset, .unset, .unset, .unset] [(.ref b224)])) (fun zt zk => st224 zt zk) ?_
      have Vr := (V224).pad (pad_rep [] (.int (0 : Int32)) 4099)
      rw [List.nil_append] at Vr
      refine Go.st (T' := T224.setTop (mkF m 60 #[.val (.int p1), .val (.int p2), .val (.int p3), .val (.int p4), .val (.int p5), .val (.int nv), .val (.int (3 : Int32)), .val (.ref b224), .unset, .unset, .unset, .unset, .unset, .unset, .unset] [])) (fun zt zk => XS.astore X224.here hx rfl (hb hby at_58) rfl rfl (l' := #[.val (.int p1), .val (.int p2), .val (.int p3), .val (.int p4), .val (.int p5), .val (.int nv), .val (.int (3 : Int32)), .val (.ref b224), .unset, .unset, .unset, .unset, .unset, .unset, .unset]) rfl zk) ?_
      refine Go.st (T' := T224.setTop (mkF m 61 #[.val (.int p1), .val (.int p2), .val (.int p3), .val (.int p4), .val (.int p5), .val (.int nv), .val (.int (3 : Int32)), .val (.ref b224), .unset, .unset, .unset, .unset, .unset, .unset, .unset] [(.int p3)])) (fun zt zk => XS.iloadN X224.here hx rfl (hb hby at_60) rfl zk) ?_
      refine Go.st (T' := T224.setTop (mkF m 63 #[.val (.int p1), .val (.int p2), .val (.int p3), .val (.int p4), .val (.int p5), .val (.int nv), .val (.int (3 : Int32)), .val (.ref b224), .unset, .unset, .unset, .unset, .unset, .unset, .unset] [(.int (2147483647 : Int32)), (.int p3)])) (fun zt zk => X224.ldcInt hx hown (mvT hZ (hw _ (List.mem_of_getElem? (i := 1) rfl))) (g := (mkF m 61 #[.val (.int p1), .val (.int p2), .val (.int p3), .val (.int p4), .val (.int p5), .val (.int nv), .val (.int (3 : Int32)), .val (.ref b224), .unset, .unset, .unset, .unset, .unset, .unset, .unset] [(.int p3)])) rfl (hb hby at_61) zt zk) ?_
      refine Go.st (T' := T224.setTop (mkF m 64 #[.val (.int p1), .val (.int p2), .val (.int p3), .val (.int p4), .val (.int p5), .val (.int nv), .val (.int (3 : Int32)), .val (.ref b224), .unset, .unset, .unset, .unset, .unset, .unset, .unset] [(.int (p3 &&& (2147483647 : Int32)))])) (fun zt zk => XS.iand X224.here hx rfl (hb hby at_63) rfl zk) ?_
      refine Go.st (T' := T224.setTop (mkF m 66 #[.val (.int p1), .val (.int p2), .val (.int p3), .val (.int p4), .val (.int p5), .val (.int nv), .val (.int (3 : Int32)), .val (.ref b224), .unset, .unset, .unset, .unset, .unset, .unset, .unset] [(.int (3 : Int32)), (.int (p3 &&& (2147483647 : Int32)))])) (fun zt zk => XS.iload X224.here hx rfl (hb hby at_64) rfl zk) ?_
      refine Go.st (T' := T224.setTop (mkF m 75 #[.val (.int p1), .val (.int p2), .val (.int p3), .val (.int p4), .val (.int p5), .val (.int nv), .val (.int (3 : Int32)), .val (.ref b224), .unset, .unset, .unset, .unset, .unset, .unset, .unset] [(.int (p3 &&& (2147483647 : Int32)))])) (fun zt zk => XS.ifYes X224.here hx rfl (pc0 := 66) (pc' := 75) rfl (hb hby at_66) rfl ((if0 _ _).trans (feq (by decide)).2) (by decide) (by decide) zk) ?_
      refine Go.st (T' := T224.setTop (mkF m 78 #[.val (.int p1), .val (.int p2), .val (.int p3), .val (.int p4), .val (.int p5), .val (.int nv), .val (.int (3 : Int32)), .val (.ref b224), .unset, .unset, .unset, .unset, .unset, .unset, .unset] [(.int (4097 : Int32)), (.int (p3 &&& (2147483647 : Int32)))])) (fun zt zk => XS.sipush X224.here hx rfl (hb hby at_75) zk) ?_
      refine Go.st (T' := T224.setTop (mkF m 80 #[.val (.int p1), .val (.int p2), .val (.int p3), .val (.int p4), .val (.int p5), .val (.int nv), .val (.int (3 : Int32)), .val (.ref b224), .unset, .unset, .unset, .unset, .unset, .unset, .unset] [(.int (3 : Int32)), (.int (4097 : Int32)), (.int (p3 &&& (2147483647 : Int32)))])) (fun zt zk => XS.iload X224.here hx rfl (hb hby at_78) rfl zk) ?_
      refine Go.st (T' := T224.setTop (mkF m 81 #[.val (.int p1), .val (.int p2), .val (.int p3), .val (.int p4), .val (.int p5), .val (.int nv), .val (.int (3 : Int32)), .val (.ref b224), .unset, .unset, .unset, .unset, .unset, .unset, .unset] [(.int ((4097 : Int32) - (3 : Int32))), (.int (p3 &&& (2147483647 : Int32)))])) (fun zt zk => XS.isub X224.here hx rfl (hb hby at_80) rfl zk) ?_
      rw [show (4097 : Int32) - (3 : Int32) = (4094 : Int32) by decide]
      refine Go.st (T' := T224.setTop (mkF m 82 #[.val (.int p1), .val (.int p2), .val (.int p3), .val (.int p4), .val (.int p5), .val (.int nv), .val (.int (3 : Int32)), .val (.ref b224), .unset, .unset, .unset, .unset, .unset, .unset, .unset] [(.int ((p3 &&& (2147483647 : Int32)) - ((p3 &&& (2147483647 : Int32)) / (4094 : Int32)) * (4094 : Int32)))])) (fun zt zk => XS.irem X224.here hx rfl (hb hby at_81) rfl (by decide) zk) ?_
      obtain ⟨pos, hpos, hlt⟩ := own_rem4094 p3
      rw [hpos]
      refine Go.st (T' := T224.setTop (mkF m 84 #[.val (.int p1), .val (.int p2), .val (.int p3), .val (.int p4), .val (.int p5), .val (.int nv), .val (.int (3 : Int32)), .val (.ref b224), .val (.int (Int32.ofNat pos)), .unset, .unset, .unset, .unset, .unset, .unset] [])) (fun zt zk => XS.istore X224.here hx rfl (hb hby at_82) rfl (l' := #[.val (.int p1), .val (.int p2), .val (.int p3), .val (.int p4), .val (.int p5), .val (.int nv), .val (.int (3 : Int32)), .val (.ref b224), .val (.int (Int32.ofNat pos)), .unset, .unset, .unset, .unset, .unset, .unset]) rfl zk) ?_
      refine Go.st (T' := T224.setTop (mkF m 86 #[.val (.int p1), .val (.int p2), .val (.int p3), .val (.int p4), .val (.int p5), .val (.int nv), .val (.int (3 : Int32)), .val (.ref b224), .val (.int (Int32.ofNat pos)), .unset, .unset, .unset, .unset, .unset, .unset] [(.int (55296 : Int32))])) (fun zt zk => X224.ldcInt hx hown (mvT hZ (hw _ (List.mem_of_getElem? (i := 2) rfl))) (g := (mkF m 84 #[.val (.int p1), .val (.int p2), .val (.int p3), .val (.int p4), .val (.int p5), .val (.int nv), .val (.int (3 : Int32)), .val (.ref b224), .val (.int (Int32.ofNat pos)), .unset, .unset, .unset, .unset, .unset, .unset] [])) rfl (hb hby at_84) zt zk) ?_
      refine Go.st (T' := T224.setTop (mkF m 88 #[.val (.int p1), .val (.int p2), .val (.int p3), .val (.int p4), .val (.int p5), .val (.int nv), .val (.int (3 : Int32)), .val (.ref b224), .val (.int (Int32.ofNat pos)), .unset, .unset, .unset, .unset, .unset, .unset] [(.int p5), (.int (55296 : Int32))])) (fun zt zk => XS.iload X224.here hx rfl (hb hby at_86) rfl zk) ?_
      refine Go.st (T' := T224.setTop (mkF m 91 #[.val (.int p1), .val (.int p2), .val (.int p3), .val (.int p4), .val (.int p5), .val (.int nv), .val (.int (3 : Int32)), .val (.ref b224), .val (.int (Int32.ofNat pos)), .unset, .unset, .unset, .unset, .unset, .unset] [(.int (1023 : Int32)), (.int p5), (.int (55296 : Int32))])) (fun zt zk => XS.sipush X224.here hx rfl (hb hby at_88) zk) ?_
      refine Go.st (T' := T224.setTop (mkF m 92 #[.val (.int p1), .val (.int p2), .val (.int p3), .val (.int p4), .val (.int p5), .val (.int nv), .val (.int (3 : Int32)), .val (.ref b224), .val (.int (Int32.ofNat pos)), .unset, .unset, .unset, .unset, .unset, .unset] [(.int (p5 &&& (1023 : Int32))), (.int (55296 : Int32))])) (fun zt zk => XS.iand X224.here hx rfl (hb hby at_91) rfl zk) ?_
      refine Go.st (T' := T224.setTop (mkF m 93 #[.val (.int p1), .val (.int p2), .val (.int p3), .val (.int p4), .val (.int p5), .val (.int nv), .val (.int (3 : Int32)), .val (.ref b224), .val (.int (Int32.ofNat pos)), .unset, .unset, .unset, .unset, .unset, .unset] [(.int ((55296 : Int32) + (p5 &&& (1023 : Int32))))])) (fun zt zk => XS.iadd X224.here hx rfl (hb hby at_92) rfl zk) ?_
      refine Go.st (T' := T224.setTop (mkF m 94 #[.val (.int p1), .val (.int p2), .val (.int p3), .val (.int p4), .val (.int p5), .val (.int nv), .val (.int (3 : Int32)), .val (.ref b224), .val (.int (Int32.ofNat pos)), .unset, .unset, .unset, .unset, .unset, .unset] [(.int (((55296 : Int32) + (p5 &&& (1023 : Int32))).toUInt32.toUInt16.toUInt32.toInt32))])) (fun zt zk => XS.i2c X224.here hx rfl (hb hby at_93) rfl zk) ?_
      obtain ⟨hv, hhv⟩ : ∃ z, z = (((55296 : Int32) + (p5 &&& (1023 : Int32))).toUInt32.toUInt16.toUInt32.toInt32) := ⟨_, rfl⟩
      rw [← hhv]
      have Hhv : own_H (nar .char hv) := by rw [hhv]; exact own_hiv _
      refine Go.st (T' := T224.setTop (mkF m 96 #[.val (.int p1), .val (.int p2), .val (.int p3), .val (.int p4), .val (.int p5), .val (.int nv), .val (.int (3 : Int32)), .val (.ref b224), .val (.int (Int32.ofNat pos)), .val (.int hv), .unset, .unset, .unset, .unset, .unset] [])) (fun zt zk => XS.istore X224.here hx rfl (hb hby at_94) rfl (l' := #[.val (.int p1), .val (.int p2), .val (.int p3), .val (.int p4), .val (.int p5), .val (.int nv), .val (.int (3 : Int32)), .val (.ref b224), .val (.int (Int32.ofNat pos)), .val (.int hv), .unset, .unset, .unset, .unset, .unset]) rfl zk) ?_
      refine Go.st (T' := T224.setTop (mkF m 98 #[.val (.int p1), .val (.int p2), .val (.int p3), .val (.int p4), .val (.int p5), .val (.int nv), .val (.int (3 : Int32)), .val (.ref b224), .val (.int (Int32.ofNat pos)), .val (.int hv), .unset, .unset, .unset, .unset, .unset] [(.int (56320 : Int32))])) (fun zt zk => X224.ldcInt hx hown (mvT hZ (hw _ (List.mem_of_getElem? (i := 3) rfl))) (g := (mkF m 96 #[.val (.int p1), .val (.int p2), .val (.int p3), .val (.int p4), .val (.int p5), .val (.int nv), .val (.int (3 : Int32)), .val (.ref b224), .val (.int (Int32.ofNat pos)), .val (.int hv), .unset, .unset, .unset, .unset, .unset] [])) rfl (hb hby at_96) zt zk) ?_
      refine Go.st (T' := T224.setTop (mkF m 100 #[.val (.int p1), .val (.int p2), .val (.int p3), .val (.int p4), .val (.int p5), .val (.int nv), .val (.int (3 : Int32)), .val (.ref b224), .val (.int (Int32.ofNat pos)), .val (.int hv), .unset, .unset, .unset, .unset, .unset] [(.int p5), (.int (56320 : Int32))])) (fun zt zk => XS.iload X224.here hx rfl (hb hby at_98) rfl zk) ?_
      refine Go.st (T' := T224.setTop (mkF m 102 #[.val (.int p1), .val (.int p2), .val (.int p3), .val (.int p4), .val (.int p5), .val (.int nv), .val (.int (3 : Int32)), .val (.ref b224), .val (.int (Int32.ofNat pos)), .val (.int hv), .unset, .unset, .unset, .unset, .unset] [(.int (10 : Int32)), (.int p5), (.int (56320 : Int32))])) (fun zt zk => XS.bipush X224.here hx rfl (hb hby at_100) zk) ?_
      refine Go.st (T' := T224.setTop (mkF m 103 #[.val (.int p1), .val (.int p2), .val (.int p3), .val (.int p4), .val (.int p5), .val (.int nv), .val (.int (3 : Int32)), .val (.ref b224), .val (.int (Int32.ofNat pos)), .val (.int hv), .unset, .unset, .unset, .unset, .unset] [(.int ((p5.toUInt32 >>> ((10 : Int32) &&& 31).toUInt32).toInt32)), (.int (56320 : Int32))])) (fun zt zk => XS.iushr X224.here hx rfl (hb hby at_102) rfl zk) ?_
      refine Go.st (T' := T224.setTop (mkF m 106 #[.val (.int p1), .val (.int p2), .val (.int p3), .val (.int p4), .val (.int p5), .val (.int nv), .val (.int (3 : Int32)), .val (.ref b224), .val (.int (Int32.ofNat pos)), .val (.int hv), .unset, .unset, .unset, .unset, .unset] [(.int (1023 : Int32)), (.int ((p5.toUInt32 >>> ((10 : Int32) &&& 31).toUInt32).toInt32)), (.int (56320 : Int32))])) (fun zt zk => XS.sipush X224.here hx rfl (hb hby at_103) zk) ?_
      refine Go.st (T' := T224.setTop (mkF m 107 #[.val (.int p1), .val (.int p2), .val (.int p3), .val (.int p4), .val (.int p5), .val (.int nv), .val (.int (3 : Int32)), .val (.ref b224), .val (.int (Int32.ofNat pos)), .val (.int hv), .unset, .unset, .unset, .unset, .unset] [(.int (((p5.toUInt32 >>> ((10 : Int32) &&& 31).toUInt32).toInt32) &&& (1023 : Int32))), (.int (56320 : Int32))])) (fun zt zk => XS.iand X224.here hx rfl (hb hby at_106) rfl zk) ?_
      refine Go.st (T' := T224.setTop (mkF m 108 #[.val (.int p1), .val (.int p2), .val (.int p3), .val (.int p4), .val (.int p5), .val (.int nv), .val (.int (3 : Int32)), .val (.ref b224), .val (.int (Int32.ofNat pos)), .val (.int hv), .unset, .unset, .unset, .unset, .unset] [(.int ((56320 : Int32) + (((p5.toUInt32 >>> ((10 : Int32) &&& 31).toUInt32).toInt32) &&& (1023 : Int32))))])) (fun zt zk => XS.iadd X224.here hx rfl (hb hby at_107) rfl zk) ?_
      refine Go.st (T' := T224.setTop (mkF m 109 #[.val (.int p1), .val (.int p2), .val (.int p3), .val (.int p4), .val (.int p5), .val (.int nv), .val (.int (3 : Int32)), .val (.ref b224), .val (.int (Int32.ofNat pos)), .val (.int hv), .unset, .unset, .unset, .unset, .unset] [(.int (((56320 : Int32) + (((p5.toUInt32 >>> ((10 : Int32) &&& 31).toUInt32).toInt32) &&& (1023 : Int32))).toUInt32.toUInt16.toUInt32.toInt32))])) (fun zt zk => XS.i2c X224.here hx rfl (hb hby at_108) rfl zk) ?_
      obtain ⟨lv, hlv⟩ : ∃ z, z = (((56320 : Int32) + (((p5.toUInt32 >>> ((10 : Int32) &&& 31).toUInt32).toInt32) &&& (1023 : Int32))).toUInt32.toUInt16.toUInt32.toInt32) := ⟨_, rfl⟩
      rw [← hlv]
      have Hlv : own_L (nar .char lv) := by rw [hlv]; exact own_lov _
      refine Go.st (T' := T224.setTop (mkF m 111 #[.val (.int p1), .val (.int p2), .val (.int p3), .val (.int p4), .val (.int p5), .val (.int nv), .val (.int (3 : Int32)), .val (.ref b224), .val (.int (Int32.ofNat pos)), .val (.int hv), .val (.int lv), .unset, .unset, .unset, .unset] [])) (fun zt zk => XS.istore X224.here hx rfl (hb hby at_109) rfl (l' := #[.val (.int p1), .val (.int p2), .val (.int p3), .val (.int p4), .val (.int p5), .val (.int nv), .val (.int (3 : Int32)), .val (.ref b224), .val (.int (Int32.ofNat pos)), .val (.int hv), .val (.int lv), .unset, .unset, .unset, .unset]) rfl zk) ?_
      refine Go.st (T' := T224.setTop (mkF m 113 #[.val (.int p1), .val (.int p2), .val (.int p3), .val (.int p4), .val (.int p5), .val (.int nv), .val (.int (3 : Int32)), .val (.ref b224), .val (.int (Int32.ofNat pos)), .val (.int hv), .val (.int lv), .unset, .unset, .unset, .unset] [(.int (3 : Int32))])) (fun zt zk => XS.iload X224.here hx rfl (hb hby at_111) rfl zk) ?_
      refine Go.st (T' := T224.setTop (mkF m 127 #[.val (.int p1), .val (.int p2), .val (.int p3), .val (.int p4), .val (.int p5), .val (.int nv), .val (.int (3 : Int32)), .val (.ref b224), .val (.int (Int32.ofNat pos)), .val (.int hv), .val (.int lv), .unset, .unset, .unset, .unset] [])) (fun zt zk => XS.ifYes X224.here hx rfl (pc0 := 113) (pc' := 127) rfl (hb hby at_113) rfl ((if0 _ _).trans (feq (by decide)).2) (by decide) (by decide) zk) ?_
      refine Go.st (T' := T224.setTop (mkF m 129 #[.val (.int p1), .val (.int p2), .val (.int p3), .val (.int p4), .val (.int p5), .val (.int nv), .val (.int (3 : Int32)), .val (.ref b224), .val (.int (Int32.ofNat pos)), .val (.int hv), .val (.int lv), .unset, .unset, .unset, .unset] [(.int (3 : Int32))])) (fun zt zk => XS.iload X224.here hx rfl (hb hby at_127) rfl zk) ?_
      refine Go.st (T' := T224.setTop (mkF m 130 #[.val (.int p1), .val (.int p2), .val (.int p3), .val (.int p4), .val (.int p5), .val (.int nv), .val (.int (3 : Int32)), .val (.ref b224), .val (.int (Int32.ofNat pos)), .val (.int hv), .val (.int lv), .unset, .unset, .unset, .unset] [(.int (1 : Int32)), (.int (3 : Int32))])) (fun zt zk => XS.iconst X224.here hx rfl (hb hby at_129) zk) ?_
      refine Go.st (T' := T224.setTop (mkF m 133 #[.val (.int p1), .val (.int p2), .val (.int p3), .val (.int p4), .val (.int p5), .val (.int nv), .val (.int (3 : Int32)), .val (.ref b224), .val (.int (Int32.ofNat pos)), .val (.int hv), .val (.int lv), .unset, .unset, .unset, .unset] [])) (fun zt zk => XS.icmpNo X224.here hx rfl (hb hby at_130) rfl (flt (by decide)).1 zk) ?_
      refine Go.st (T' := T224.setTop (mkF m 135 #[.val (.int p1), .val (.int p2), .val (.int p3), .val (.int p4), .val (.int p5), .val (.int nv), .val (.int (3 : Int32)), .val (.ref b224), .val (.int (Int32.ofNat pos)), .val (.int hv), .val (.int lv), .unset, .unset, .unset, .unset] [(.ref b224)])) (fun zt zk => XS.aload X224.here hx rfl (hb hby at_133) rfl rfl zk) ?_
      refine Go.st (T' := T224.setTop (mkF m 137 #[.val (.int p1), .val (.int p2), .val (.int p3), .val (.int p4), .val (.int p5), .val (.int nv), .val (.int (3 : Int32)), .val (.ref b224), .val (.int (Int32.ofNat pos)), .val (.int hv), .val (.int lv), .unset, .unset, .unset, .unset] [(.int (Int32.ofNat pos)), (.ref b224)])) (fun zt zk => XS.iload X224.here hx rfl (hb hby at_135) rfl zk) ?_
      refine Go.st (T' := T224.setTop (mkF m 139 #[.val (.int p1), .val (.int p2), .val (.int p3), .val (.int p4), .val (.int p5), .val (.int nv), .val (.int (3 : Int32)), .val (.ref b224), .val (.int (Int32.ofNat pos)), .val (.int hv), .val (.int lv), .unset, .unset, .unset, .unset] [(.int hv), (.int (Int32.ofNat pos)), (.ref b224)])) (fun zt zk => XS.iload X224.here hx rfl (hb hby at_137) rfl zk) ?_
      obtain ⟨cl225, Ar225, q225, S225, M225, H225, G225⟩ := id Vr
      obtain ⟨T225, h225, X225, e225, W225, st225⟩ := stC X224 hx hZ e224 Ar225 (j := (Int32.ofNat pos)) (inb_of S225 ⟨own_nn (by omega), (own_lt32 (n := 4099) (by omega) (by omega)).mpr (by omega)⟩) (g := (mkF m 139 #[.val (.int p1), .val (.int p2), .val (.int p3), .val (.int p4), .val (.int p5), .val (.int nv), .val (.int (3 : Int32)), .val (.ref b224), .val (.int (Int32.ofNat pos)), .val (.int hv), .val (.int lv), .unset, .unset, .unset, .unset] [(.int hv), (.int (Int32.ofNat pos)), (.ref b224)])) rfl rfl (hb hby at_139)
      have V225 : Arv Z h225 b224 k224 .char (4099 : Int32) ((List.replicate 4099 (.int (0 : Int32))).set pos (.int (nar .char hv))) (.int (0 : Int32)) := Arv.set Ar225 q225 S225 M225 H225 G225 (fits_nar_char _) W225 pos (own_clamp (by omega)) (by simp only [List.length_set, List.length_replicate]; omega)
      have K225 : Keep h0 h225 [] := K224.wr W225 (Or.inr sz_b224)
      have N225 := Fr.snoc X225 N0 g_b224
      refine Go.st (T' := T225.setTop (mkF m 140 #[.val (.int p1), .val (.int p2), .val (.int p3), .val (.int p4), .val (.int p5), .val (.int nv), .val (.int (3 : Int32)), .val (.ref b224), .val (.int (Int32.ofNat pos)), .val (.int hv), .val (.int lv), .unset, .unset, .unset, .unset] [])) (fun zt zk => st225 zt zk) ?_
      refine Go.st (T' := T225.setTop (mkF m 142 #[.val (.int p1), .val (.int p2), .val (.int p3), .val (.int p4), .val (.int p5), .val (.int nv), .val (.int (3 : Int32)), .val (.ref b224), .val (.int (Int32.ofNat pos)), .val (.int hv), .val (.int lv), .unset, .unset, .unset, .unset] [(.ref b224)])) (fun zt zk => XS.aload X225.here hx rfl (hb hby at_140) rfl rfl zk) ?_
      refine Go.st (T' := T225.setTop (mkF m 144 #[.val (.int p1), .val (.int p2), .val (.int p3), .val (.int p4), .val (.int p5), .val (.int nv), .val (.int (3 : Int32)), .val (.ref b224), .val (.int (Int32.ofNat pos)), .val (.int hv), .val (.int lv), .unset, .unset, .unset, .unset] [(.int (Int32.ofNat pos)), (.ref b224)])) (fun zt zk => XS.iload X225.here hx rfl (hb hby at_142) rfl zk) ?_
      refine Go.st (T' := T225.setTop (mkF m 145 #[.val (.int p1), .val (.int p2), .val (.int p3), .val (.int p4), .val (.int p5), .val (.int nv), .val (.int (3 : Int32)), .val (.ref b224), .val (.int (Int32.ofNat pos)), .val (.int hv), .val (.int lv), .unset, .unset, .unset, .unset] [(.int (1 : Int32)), (.int (Int32.ofNat pos)), (.ref b224)])) (fun zt zk => XS.iconst X225.here hx rfl (hb hby at_144) zk) ?_
      refine Go.st (T' := T225.setTop (mkF m 146 #[.val (.int p1), .val (.int p2), .val (.int p3), .val (.int p4), .val (.int p5), .val (.int nv), .val (.int (3 : Int32)), .val (.ref b224), .val (.int (Int32.ofNat pos)), .val (.int hv), .val (.int lv), .unset, .unset, .unset, .unset] [(.int ((Int32.ofNat pos) + (1 : Int32))), (.ref b224)])) (fun zt zk => XS.iadd X225.here hx rfl (hb hby at_145) rfl zk) ?_
      refine Go.st (T' := T225.setTop (mkF m 148 #[.val (.int p1), .val (.int p2), .val (.int p3), .val (.int p4), .val (.int p5), .val (.int nv), .val (.int (3 : Int32)), .val (.ref b224), .val (.int (Int32.ofNat pos)), .val (.int hv), .val (.int lv), .unset, .unset, .unset, .unset] [(.int lv), (.int ((Int32.ofNat pos) + (1 : Int32))), (.ref b224)])) (fun zt zk => XS.iload X225.here hx rfl (hb hby at_146) rfl zk) ?_
      rw [own_addn (k := (1 : Int32)) (b := 1) rfl (by omega)]
      obtain ⟨cl226, Ar226, q226, S226, M226, H226, G226⟩ := id V225
      obtain ⟨T226, h226, X226, e226, W226, st226⟩ := stC X225 hx hZ e225 Ar226 (j := (Int32.ofNat (pos + 1))) (inb_of S226 ⟨own_nn (by omega), (own_lt32 (n := 4099) (by omega) (by omega)).mpr (by omega)⟩) (g := (mkF m 148 #[.val (.int p1), .val (.int p2), .val (.int p3), .val (.int p4), .val (.int p5), .val (.int nv), .val (.int (3 : Int32)), .val (.ref b224), .val (.int (Int32.ofNat pos)), .val (.int hv), .val (.int lv), .unset, .unset, .unset, .unset] [(.int lv), (.int (Int32.ofNat (pos + 1))), (.ref b224)])) rfl rfl (hb hby at_148)
      have V226 : Arv Z h226 b224 k224 .char (4099 : Int32) (((List.replicate 4099 (.int (0 : Int32))).set pos (.int (nar .char hv))).set (pos + 1) (.int (nar .char lv))) (.int (0 : Int32)) := Arv.set Ar226 q226 S226 M226 H226 G226 (fits_nar_char _) W226 (pos + 1) (own_clamp (by omega)) (by simp only [List.length_set, List.length_replicate]; omega)
      have K226 : Keep h0 h226 [] := K225.wr W226 (Or.inr sz_b224)
      have N226 := Fr.snoc X226 N225 g_b224
      refine Go.st (T' := T226.setTop (mkF m 149 #[.val (.int p1), .val (.int p2), .val (.int p3), .val (.int p4), .val (.int p5), .val (.int nv), .val (.int (3 : Int32)), .val (.ref b224), .val (.int (Int32.ofNat pos)), .val (.int hv), .val (.int lv), .unset, .unset, .unset, .unset] [])) (fun zt zk => st226 zt zk) ?_
      refine Go.st (T' := T226.setTop (mkF m 151 #[.val (.int p1), .val (.int p2), .val (.int p3), .val (.int p4), .val (.int p5), .val (.int nv), .val (.int (3 : Int32)), .val (.ref b224), .val (.int (Int32.ofNat pos)), .val (.int hv), .val (.int lv), .unset, .unset, .unset, .unset] [(.int (3 : Int32))])) (fun zt zk => XS.iload X226.here hx rfl (hb hby at_149) rfl zk) ?_
      refine Go.st (T' := T226.setTop (mkF m 152 #[.val (.int p1), .val (.int p2), .val (.int p3), .val (.int p4), .val (.int p5), .val (.int nv), .val (.int (3 : Int32)), .val (.ref b224), .val (.int (Int32.ofNat pos)), .val (.int hv), .val (.int lv), .unset, .unset, .unset, .unset] [(.int (2 : Int32)), (.int (3 : Int32))])) (fun zt zk => XS.iconst X226.here hx rfl (hb hby at_151) zk) ?_
      refine Go.st (T' := T226.setTop (mkF m 155 #[.val (.int p1), .val (.int p2), .val (.int p3), .val (.int p4), .val (.int p5), .val (.int nv), .val (.int (3 : Int32)), .val (.ref b224), .val (.int (Int32.ofNat pos)), .val (.int hv), .val (.int lv), .unset, .unset, .unset, .unset] [])) (fun zt zk => XS.icmpNo X226.here hx rfl (hb hby at_152) rfl (flt (by decide)).1 zk) ?_
      refine Go.st (T' := T226.setTop (mkF m 157 #[.val (.int p1), .val (.int p2), .val (.int p3), .val (.int p4), .val (.int p5), .val (.int nv), .val (.int (3 : Int32)), .val (.ref b224), .val (.int (Int32.ofNat pos)), .val (.int hv), .val (.int lv), .unset, .unset, .unset, .unset] [(.ref b224)])) (fun zt zk => XS.aload X226.here hx rfl (hb hby at_155) rfl rfl zk) ?_
      refine Go.st (T' := T226.setTop (mkF m 159 #[.val (.int p1), .val (.int p2), .val (.int p3), .val (.int p4), .val (.int p5), .val (.int nv), .val (.int (3 : Int32)), .val (.ref b224), .val (.int (Int32.ofNat pos)), .val (.int hv), .val (.int lv), .unset, .unset, .unset, .unset] [(.int (Int32.ofNat pos)), (.ref b224)])) (fun zt zk => XS.iload X226.here hx rfl (hb hby at_157) rfl zk) ?_
      refine Go.st (T' := T226.setTop (mkF m 160 #[.val (.int p1), .val (.int p2), .val (.int p3), .val (.int p4), .val (.int p5), .val (.int nv), .val (.int (3 : Int32)), .val (.ref b224), .val (.int (Int32.ofNat pos)), .val (.int hv), .val (.int lv), .unset, .unset, .unset, .unset] [(.int (2 : Int32)), (.int (Int32.ofNat pos)), (.ref b224)])) (fun zt zk => XS.iconst X226.here hx rfl (hb hby at_159) zk) ?_
      refine Go.st (T' := T226.setTop (mkF m 161 #[.val (.int p1), .val (.int p2), .val (.int p3), .val (.int p4), .val (.int p5), .val (.int nv), .val (.int (3 : Int32)), .val (.ref b224), .val (.int (Int32.ofNat pos)), .val (.int hv), .val (.int lv), .unset, .unset, .unset, .unset] [(.int ((Int32.ofNat pos) + (2 : Int32))), (.ref b224)])) (fun zt zk => XS.iadd X226.here hx rfl (hb hby at_160) rfl zk) ?_
      refine Go.st (T' := T226.setTop (mkF m 163 #[.val (.int p1), .val (.int p2), .val (.int p3), .val (.int p4), .val (.int p5), .val (.int nv), .val (.int (3 : Int32)), .val (.ref b224), .val (.int (Int32.ofNat pos)), .val (.int hv), .val (.int lv), .unset, .unset, .unset, .unset] [(.int hv), (.int ((Int32.ofNat pos) + (2 : Int32))), (.ref b224)])) (fun zt zk => XS.iload X226.here hx rfl (hb hby at_161) rfl zk) ?_
      rw [own_addn (k := (2 : Int32)) (b := 2) rfl (by omega)]
      obtain ⟨cl227, Ar227, q227, S227, M227, H227, G227⟩ := id V226
      obtain ⟨T227, h227, X227, e227, W227, st227⟩ := stC X226 hx hZ e226 Ar227 (j := (Int32.ofNat (pos + 2))) (inb_of S227 ⟨own_nn (by omega), (own_lt32 (n := 4099) (by omega) (by omega)).mpr (by omega)⟩) (g := (mkF m 163 #[.val (.int p1), .val (.int p2), .val (.int p3), .val (.int p4), .val (.int p5), .val (.int nv), .val (.int (3 : Int32)), .val (.ref b224), .val (.int (Int32.ofNat pos)), .val (.int hv), .val (.int lv), .unset, .unset, .unset, .unset] [(.int hv), (.int (Int32.ofNat (pos + 2))), (.ref b224)])) rfl rfl (hb hby at_163)
      have V227 : Arv Z h227 b224 k224 .char (4099 : Int32) ((((List.replicate 4099 (.int (0 : Int32))).set pos (.int (nar .char hv))).set (pos + 1) (.int (nar .char lv))).set (pos + 2) (.int (nar .char hv))) (.int (0 : Int32)) := Arv.set Ar227 q227 S227 M227 H227 G227 (fits_nar_char _) W227 (pos + 2) (own_clamp (by omega)) (by simp only [List.length_set, List.length_replicate]; omega)
      have K227 : Keep h0 h227 [] := K226.wr W227 (Or.inr sz_b224)
      have N227 := Fr.snoc X227 N226 g_b224
      refine Go.st (T' := T227.setTop (mkF m 164 #[.val (.int p1), .val (.int p2), .val (.int p3), .val (.int p4), .val (.int p5), .val (.int nv), .val (.int (3 : Int32)), .val (.ref b224), .val (.int (Int32.ofNat pos)), .val (.int hv), .val (.int lv), .unset, .unset, .unset, .unset] [])) (fun zt zk => st227 zt zk) ?_
      refine Go.st (T' := T227.setTop (mkF m 166 #[.val (.int p1), .val (.int p2), .val (.int p3), .val (.int p4), .val (.int p5), .val (.int nv), .val (.int (3 : Int32)), .val (.ref b224), .val (.int (Int32.ofNat pos)), .val (.int hv), .val (.int lv), .unset, .unset, .unset, .unset] [(.ref b224)])) (fun zt zk => XS.aload X227.here hx rfl (hb hby at_164) rfl rfl zk) ?_
      refine Go.st (T' := T227.setTop (mkF m 168 #[.val (.int p1), .val (.int p2), .val (.int p3), .val (.int p4), .val (.int p5), .val (.int nv), .val (.int (3 : Int32)), .val (.ref b224), .val (.int (Int32.ofNat pos)), .val (.int hv), .val (.int lv), .unset, .unset, .unset, .unset] [(.int (Int32.ofNat pos)), (.ref b224)])) (fun zt zk => XS.iload X227.here hx rfl (hb hby at_166) rfl zk) ?_
      refine Go.st (T' := T227.setTop (mkF m 169 #[.val (.int p1), .val (.int p2), .val (.int p3), .val (.int p4), .val (.int p5), .val (.int nv), .val (.int (3 : Int32)), .val (.ref b224), .val (.int (Int32.ofNat pos)), .val (.int hv), .val (.int lv), .unset, .unset, .unset, .unset] [(.int (3 : Int32)), (.int (Int32.ofNat pos)), (.ref b224)])) (fun zt zk => XS.iconst X227.here hx rfl (hb hby at_168) zk) ?_
      refine Go.st (T' := T227.setTop (mkF m 170 #[.val (.int p1), .val (.int p2), .val (.int p3), .val (.int p4), .val (.int p5), .val (.int nv), .val (.int (3 : Int32)), .val (.ref b224), .val (.int (Int32.ofNat pos)), .val (.int hv), .val (.int lv), .unset, .unset, .unset, .unset] [(.int ((Int32.ofNat pos) + (3 : Int32))), (.ref b224)])) (fun zt zk => XS.iadd X227.here hx rfl (hb hby at_169) rfl zk) ?_
      refine Go.st (T' := T227.setTop (mkF m 172 #[.val (.int p1), .val (.int p2), .val (.int p3), .val (.int p4), .val (.int p5), .val (.int nv), .val (.int (3 : Int32)), .val (.ref b224), .val (.int (Int32.ofNat pos)), .val (.int hv), .val (.int lv), .unset, .unset, .unset, .unset] [(.int lv), (.int ((Int32.ofNat pos) + (3 : Int32))), (.ref b224)])) (fun zt zk => XS.iload X227.here hx rfl (hb hby at_170) rfl zk) ?_
      rw [own_addn (k := (3 : Int32)) (b := 3) rfl (by omega)]
      obtain ⟨cl228, Ar228, q228, S228, M228, H228, G228⟩ := id V227
      obtain ⟨T228, h228, X228, e228, W228, st228⟩ := stC X227 hx hZ e227 Ar228 (j := (Int32.ofNat (pos + 3))) (inb_of S228 ⟨own_nn (by omega), (own_lt32 (n := 4099) (by omega) (by omega)).mpr (by omega)⟩) (g := (mkF m 172 #[.val (.int p1), .val (.int p2), .val (.int p3), .val (.int p4), .val (.int p5), .val (.int nv), .val (.int (3 : Int32)), .val (.ref b224), .val (.int (Int32.ofNat pos)), .val (.int hv), .val (.int lv), .unset, .unset, .unset, .unset] [(.int lv), (.int (Int32.ofNat (pos + 3))), (.ref b224)])) rfl rfl (hb hby at_172)
      have V228 : Arv Z h228 b224 k224 .char (4099 : Int32) (((((List.replicate 4099 (.int (0 : Int32))).set pos (.int (nar .char hv))).set (pos + 1) (.int (nar .char lv))).set (pos + 2) (.int (nar .char hv))).set (pos + 3) (.int (nar .char lv))) (.int (0 : Int32)) := Arv.set Ar228 q228 S228 M228 H228 G228 (fits_nar_char _) W228 (pos + 3) (own_clamp (by omega)) (by simp only [List.length_set, List.length_replicate]; omega)
      have K228 : Keep h0 h228 [] := K227.wr W228 (Or.inr sz_b224)
      have N228 := Fr.snoc X228 N227 g_b224
      refine Go.st (T' := T228.setTop (mkF m 173 #[.val (.int p1), .val (.int p2), .val (.int p3), .val (.int p4), .val (.int p5), .val (.int nv), .val (.int (3 : Int32)), .val (.ref b224), .val (.int (Int32.ofNat pos)), .val (.int hv), .val (.int lv), .unset, .unset, .unset, .unset] [])) (fun zt zk => st228 zt zk) ?_
      refine Go.st (T' := T228.setTop (mkF m 175 #[.val (.int p1), .val (.int p2), .val (.int p3), .val (.int p4), .val (.int p5), .val (.int nv), .val (.int (3 : Int32)), .val (.ref b224), .val (.int (Int32.ofNat pos)), .val (.int hv), .val (.int lv), .unset, .unset, .unset, .unset] [(.int (3 : Int32))])) (fun zt zk => XS.iload X228.here hx rfl (hb hby at_173) rfl zk) ?_
      refine Go.st (T' := T228.setTop (mkF m 176 #[.val (.int p1), .val (.int p2), .val (.int p3), .val (.int p4), .val (.int p5), .val (.int nv), .val (.int (3 : Int32)), .val (.ref b224), .val (.int (Int32.ofNat pos)), .val (.int hv), .val (.int lv), .unset, .unset, .unset, .unset] [(.int (3 : Int32)), (.int (3 : Int32))])) (fun zt zk => XS.iconst X228.here hx rfl (hb hby at_175) zk) ?_
      refine Go.st (T' := T228.setTop (mkF m 179 #[.val (.int p1), .val (.int p2), .val (.int p3), .val (.int p4), .val (.int p5), .val (.int nv), .val (.int (3 : Int32)), .val (.ref b224), .val (.int (Int32.ofNat pos)), .val (.int hv), .val (.int lv), .unset, .unset, .unset, .unset] [])) (fun zt zk => XS.icmpNo X228.here hx rfl (hb hby at_176) rfl (flt (by decide)).1 zk) ?_
      refine Go.st (T' := T228.setTop (mkF m 181 #[.val (.int p1), .val (.int p2), .val (.int p3), .val (.int p4), .val (.int p5), .val (.int nv), .val (.int (3 : Int32)), .val (.ref b224), .val (.int (Int32.ofNat pos)), .val (.int hv), .val (.int lv), .unset, .unset, .unset, .unset] [(.ref b224)])) (fun zt zk => XS.aload X228.here hx rfl (hb hby at_179) rfl rfl zk) ?_
      refine Go.st (T' := T228.setTop (mkF m 183 #[.val (.int p1), .val (.int p2), .val (.int p3), .val (.int p4), .val (.int p5), .val (.int nv), .val (.int (3 : Int32)), .val (.ref b224), .val (.int (Int32.ofNat pos)), .val (.int hv), .val (.int lv), .unset, .unset, .unset, .unset] [(.int (Int32.ofNat pos)), (.ref b224)])) (fun zt zk => XS.iload X228.here hx rfl (hb hby at_181) rfl zk) ?_
      refine Go.st (T' := T228.setTop (mkF m 184 #[.val (.int p1), .val (.int p2), .val (.int p3), .val (.int p4), .val (.int p5), .val (.int nv), .val (.int (3 : Int32)), .val (.ref b224), .val (.int (Int32.ofNat pos)), .val (.int hv), .val (.int lv), .unset, .unset, .unset, .unset] [(.int (4 : Int32)), (.int (Int32.ofNat pos)), (.ref b224)])) (fun zt zk => XS.iconst X228.here hx rfl (hb hby at_183) zk) ?_
      refine Go.st (T' := T228.setTop (mkF m 185 #[.val (.int p1), .val (.int p2), .val (.int p3), .val (.int p4), .val (.int p5), .val (.int nv), .val (.int (3 : Int32)), .val (.ref b224), .val (.int (Int32.ofNat pos)), .val (.int hv), .val (.int lv), .unset, .unset, .unset, .unset] [(.int ((Int32.ofNat pos) + (4 : Int32))), (.ref b224)])) (fun zt zk => XS.iadd X228.here hx rfl (hb hby at_184) rfl zk) ?_
      refine Go.st (T' := T228.setTop (mkF m 187 #[.val (.int p1), .val (.int p2), .val (.int p3), .val (.int p4), .val (.int p5), .val (.int nv), .val (.int (3 : Int32)), .val (.ref b224), .val (.int (Int32.ofNat pos)), .val (.int hv), .val (.int lv), .unset, .unset, .unset, .unset] [(.int hv), (.int ((Int32.ofNat pos) + (4 : Int32))), (.ref b224)])) (fun zt zk => XS.iload X228.here hx rfl (hb hby at_185) rfl zk) ?_
      rw [own_addn (k := (4 : Int32)) (b := 4) rfl (by omega)]
      obtain ⟨cl229, Ar229, q229, S229, M229, H229, G229⟩ := id V228
      obtain ⟨T229, h229, X229, e229, W229, st229⟩ := stC X228 hx hZ e228 Ar229 (j := (Int32.ofNat (pos + 4))) (inb_of S229 ⟨own_nn (by omega), (own_lt32 (n := 4099) (by omega) (by omega)).mpr (by omega)⟩) (g := (mkF m 187 #[.val (.int p1), .val (.int p2), .val (.int p3), .val (.int p4), .val (.int p5), .val (.int nv), .val (.int (3 : Int32)), .val (.ref b224), .val (.int (Int32.ofNat pos)), .val (.int hv), .val (.int lv), .unset, .unset, .unset, .unset] [(.int hv), (.int (Int32.ofNat (pos + 4))), (.ref b224)])) rfl rfl (hb hby at_187)
      have V229 : Arv Z h229 b224 k224 .char (4099 : Int32) ((((((List.replicate 4099 (.int (0 : Int32))).set pos (.int (nar .char hv))).set (pos + 1) (.int (nar .char lv))).set (pos + 2) (.int (nar .char hv))).set (pos + 3) (.int (nar .char lv))).set (pos + 4) (.int (nar .char hv))) (.int (0 : Int32)) := Arv.set Ar229 q229 S229 M229 H229 G229 (fits_nar_char _) W229 (pos + 4) (own_clamp (by omega)) (by simp only [List.length_set, List.length_replicate]; omega)
      have K229 : Keep h0 h229 [] := K228.wr W229 (Or.inr sz_b224)
      have N229 := Fr.snoc X229 N228 g_b224
      refine Go.st (T' := T229.setTop (mkF m 188 #[.val (.int p1), .val (.int p2), .val (.int p3), .val (.int p4), .val (.int p5), .val (.int nv), .val (.int (3 : Int32)), .val (.ref b224), .val (.int (Int32.ofNat pos)), .val (.int hv), .val (.int lv), .unset, .unset, .unset, .unset] [])) (fun zt zk => st229 zt zk) ?_
      refine Go.st (T' := T229.setTop (mkF m 190 #[.val (.int p1), .val (.int p2), .val (.int p3), .val (.int p4), .val (.int p5), .val (.int nv), .val (.int (3 : Int32)), .val (.ref b224), .val (.int (Int32.ofNat pos)), .val (.int hv), .val (.int lv), .unset, .unset, .unset, .unset] [(.ref b224)])) (fun zt zk => XS.aload X229.here hx rfl (hb hby at_188) rfl rfl zk) ?_
      refine Go.st (T' := T229.setTop (mkF m 192 #[.val (.int p1), .val (.int p2), .val (.int p3), .val (.int p4), .val (.int p5), .val (.int nv), .val (.int (3 : Int32)), .val (.ref b224), .val (.int (Int32.ofNat pos)), .val (.int hv), .val (.int lv), .unset, .unset, .unset, .unset] [(.int (Int32.ofNat pos)), (.ref b224)])) (fun zt zk => XS.iload X229.here hx rfl (hb hby at_190) rfl zk) ?_
      refine Go.st (T' := T229.setTop (mkF m 193 #[.val (.int p1), .val (.int p2), .val (.int p3), .val (.int p4), .val (.int p5), .val (.int nv), .val (.int (3 : Int32)), .val (.ref b224), .val (.int (Int32.ofNat pos)), .val (.int hv), .val (.int lv), .unset, .unset, .unset, .unset] [(.int (5 : Int32)), (.int (Int32.ofNat pos)), (.ref b224)])) (fun zt zk => XS.iconst X229.here hx rfl (hb hby at_192) zk) ?_
      refine Go.st (T' := T229.setTop (mkF m 194 #[.val (.int p1), .val (.int p2), .val (.int p3), .val (.int p4), .val (.int p5), .val (.int nv), .val (.int (3 : Int32)), .val (.ref b224), .val (.int (Int32.ofNat pos)), .val (.int hv), .val (.int lv), .unset, .unset, .unset, .unset] [(.int ((Int32.ofNat pos) + (5 : Int32))), (.ref b224)])) (fun zt zk => XS.iadd X229.here hx rfl (hb hby at_193) rfl zk) ?_
      refine Go.st (T' := T229.setTop (mkF m 196 #[.val (.int p1), .val (.int p2), .val (.int p3), .val (.int p4), .val (.int p5), .val (.int nv), .val (.int (3 : Int32)), .val (.ref b224), .val (.int (Int32.ofNat pos)), .val (.int hv), .val (.int lv), .unset, .unset, .unset, .unset] [(.int lv), (.int ((Int32.ofNat pos) + (5 : Int32))), (.ref b224)])) (fun zt zk => XS.iload X229.here hx rfl (hb hby at_194) rfl zk) ?_
      rw [own_addn (k := (5 : Int32)) (b := 5) rfl (by omega)]
      obtain ⟨cl230, Ar230, q230, S230, M230, H230, G230⟩ := id V229
      obtain ⟨T230, h230, X230, e230, W230, st230⟩ := stC X229 hx hZ e229 Ar230 (j := (Int32.ofNat (pos + 5))) (inb_of S230 ⟨own_nn (by omega), (own_lt32 (n := 4099) (by omega) (by omega)).mpr (by omega)⟩) (g := (mkF m 196 #[.val (.int p1), .val (.int p2), .val (.int p3), .val (.int p4), .val (.int p5), .val (.int nv), .val (.int (3 : Int32)), .val (.ref b224), .val (.int (Int32.ofNat pos)), .val (.int hv), .val (.int lv), .unset, .unset, .unset, .unset] [(.int lv), (.int (Int32.ofNat (pos + 5))), (.ref b224)])) rfl rfl (hb hby at_196)
      have V230 : Arv Z h230 b224 k224 .char (4099 : Int32) (((((((List.replicate 4099 (.int (0 : Int32))).set pos (.int (nar .char hv))).set (pos + 1) (.int (nar .char lv))).set (pos + 2) (.int (nar .char hv))).set (pos + 3) (.int (nar .char lv))).set (pos + 4) (.int (nar .char hv))).set (pos + 5) (.int (nar .char lv))) (.int (0 : Int32)) := Arv.set Ar230 q230 S230 M230 H230 G230 (fits_nar_char _) W230 (pos + 5) (own_clamp (by omega)) (by simp only [List.length_set, List.length_replicate]; omega)
      have K230 : Keep h0 h230 [] := K229.wr W230 (Or.inr sz_b224)
      have N230 := Fr.snoc X230 N229 g_b224
      refine Go.st (T' := T230.setTop (mkF m 197 #[.val (.int p1), .val (.int p2), .val (.int p3), .val (.int p4), .val (.int p5), .val (.int nv), .val (.int (3 : Int32)), .val (.ref b224), .val (.int (Int32.ofNat pos)), .val (.int hv), .val (.int lv), .unset, .unset, .unset, .unset] [])) (fun zt zk => st230 zt zk) ?_
      obtain ⟨cs, hcs⟩ : ∃ z, z = (((((((List.replicate 4099 (0 : Int32)).set pos (nar .char hv)).set (pos + 1) (nar .char lv)).set (pos + 2) (nar .char hv)).set (pos + 3) (nar .char lv)).set (pos + 4) (nar .char hv)).set (pos + 5) (nar .char lv)) := ⟨_, rfl⟩
      have hl : cs.length = 4099 := by rw [hcs]; simp only [List.length_set, List.length_replicate]
      have hm : cs.map Value.int = (((((((List.replicate 4099 (.int (0 : Int32))).set pos (.int (nar .char hv))).set (pos + 1) (.int (nar .char lv))).set (pos + 2) (.int (nar .char hv))).set (pos + 3) (.int (nar .char lv))).set (pos + 4) (.int (nar .char hv))).set (pos + 5) (.int (nar .char lv))) := by rw [hcs]; simp only [List.map_set, List.map_replicate]
      have hz : (4099 : Int32) = Int32.ofNat cs.length := by rw [hl]; rfl
      have hok : own_ok cs := by rw [hcs]; exact (own_long3 hlt Hhv Hlv (own_chr _) (own_chr _))
      have VJ := V230
      rw [← hm, hz] at VJ
      exact J1 _ _ _ b224 _ cs _ _ _ _ (X230.more (Nat.le_refl _) (by decide)) e230 N230 K230 g_b224 sz_b224 VJ hok
  intro TJ hJ LL ax kx csL z6 z8 z9 z10 XJ eJ NJ KJ g_ax sz_ax VJ okL
  obtain ⟨T231, h231, X231, e231, E231, A231, D231, U231, st231⟩ := newO XJ hx hZ hown (hw _ (List.mem_of_getElem? (i := 4) rfl)) (hw _ (List.mem_of_getElem? (i := 5) rfl)) (hw _ (List.mem_of_getElem? (i := 6) rfl)) eJ (g := (mkF m 197 #[.val (.int p1), .val (.int p2), .val (.int p3), .val (.int p4), .val (.int p5), .val (.int nv), .val (.int z6), .val (.ref ax), .val (.int z8), .val (.int z9), .val (.int z10), .unset, .unset, .unset, .unset] [])) rfl (hb hby at_197) (by decide) (by decide)
  obtain ⟨b231, g231⟩ : ∃ z, z = hJ.size := ⟨_, rfl⟩
  rw [← g231] at A231 D231 U231 st231
  have g_b231 : n0 ≤ b231 := Nat.le_trans (Nat.le_trans Z0 KJ.1) (Nat.le_of_eq g231.symm)
  have sz_b231 : h0.size ≤ b231 := Nat.le_trans KJ.1 (Nat.le_of_eq g231.symm)
  have ne232 : ax ≠ b231 := Nat.ne_of_lt (Nat.lt_of_lt_of_le VJ.lt (Nat.le_of_eq g231.symm))
  have K231 : Keep h0 h231 [] := KJ.ext E231
  have Fn231_coder : Fld Z h231 b231 "java/lang/String" "coder" "B" (.int (0 : Int32)) := D231 (Or.inr (hw _ (List.mem_of_getElem? (i := 30) rfl))) (ty := .byte) (by decide)
  have Fn231_value : Fld Z h231 b231 "java/lang/String" "value" "[B" .null := D231 (Or.inr (hw _ (List.mem_of_getElem? (i := 32) rfl))) (ty := (.array .byte)) (by decide)
  refine Go.st (T' := T231.setTop (mkF m 200 #[.val (.int p1), .val (.int p2), .val (.int p3), .val (.int p4), .val (.int p5), .val (.int nv), .val (.int z6), .val (.ref ax), .val (.int z8), .val (.int z9), .val (.int z10), .unset, .unset, .unset, .unset] [(.ref b231)])) (fun zt zk => st231 zt zk) ?_
  refine Go.st (T' := T231.setTop (mkF m 201 #[.val (.int p1), .val (.int p2), .val (.int p3), .val (.int p4), .val (.int p5), .val (.int nv), .val (.int z6), .val (.ref ax), .val (.int z8), .val (.int z9), .val (.int z10), .unset, .unset, .unset, .unset] [(.ref b231), (.ref b231)])) (fun zt zk => XS.dup X231.here hx rfl (hb hby at_200) rfl rfl zk) ?_
  refine Go.st (T' := T231.setTop (mkF m 203 #[.val (.int p1), .val (.int p2), .val (.int p3), .val (.int p4), .val (.int p5), .val (.int nv), .val (.int z6), .val (.ref ax), .val (.int z8), .val (.int z9), .val (.int z10), .unset, .unset, .unset, .unset] [(.ref ax), (.ref b231), (.ref b231)])) (fun zt zk => XS.aload X231.here hx rfl (hb hby at_201) rfl rfl zk) ?_
  have f233 : Arv Z h231 ax kx .char (Int32.ofNat csL.length) (csL.map Value.int) (.int (0 : Int32)) := (VJ.ext E231)
  obtain ⟨vr234, _, ⟨T234, L234, k234, n234⟩, -, X234, ⟨Lc234, hQ234, l234, y234, z234⟩, st234⟩ := X231.specialBack hx (y := (⟨"java/lang/String", "<init>", "([C)V"⟩ : MethodName)) rfl hown (mvT hZ (hw _ (List.mem_of_getElem? (i := 7) rfl))) (mvT hZ (hw _ (List.mem_of_getElem? (i := 8) rfl))) (mvT hZ (hw _ (List.mem_of_getElem? (i := 9) rfl))) (by decide) (backOf (W := 1) (rmS1 l Z a0 hw b231 ax kx csL h231 n0 (Nat.le_trans Z0 K231.1) G1 O2 P5 (X00.keep K231 all0) A1 A2 A3 A231 g_b231 Fn231_value Fn231_coder f233 (okL).1 (okL).2.1 (okL).2.2.1) hZ (hw _ (List.mem_of_getElem? (i := 9) rfl)) (hw _ (List.mem_of_getElem? (i := 6) rfl)) (by decide) (by decide)) (g := (mkF m 203 #[.val (.int p1), .val (.int p2), .val (.int p3), .val (.int p4), .val (.int p5), .val (.int nv), .val (.int z6), .val (.ref ax), .val (.int z8), .val (.int z9), .val (.int z10), .unset, .unset, .unset, .unset] [(.ref ax), (.ref b231), (.ref b231)])) rfl (by rw [hml]; rfl) (Steps.refl _) (a := b231) (argsL := [(.ref ax)]) (rest := [(.ref b231)]) (lenOf pd_a67b36d rfl) rfl (by show 2 * 0 + _ ≤ _; exact Nat.le_of_eq rfl) (hb hby at_203) (fun _ _ => ⟨rfl, e231, (by decide : 2 + 2 ≤ _), (by decide : 4103 + 12297 ≤ _)⟩)
  dsimp only [Pt.U, Pt.locs, Pt.cells, Pt.slots] at X234 l234 y234 z234 st234 hQ234
  subst l234 y234 z234
  obtain ⟨rfl, Nq234, Kq234, t234, sy234, R234⟩ := hQ234
  have KK235 : Keep h0 T234.heap [] := K231.trans Kq234 (allS (Or.inr sz_b231) all0)
  have NN236 := Fr.app NJ Nq234
  refine Go.st (T' := T234.setTop (mkF m 206 #[.val (.int p1), .val (.int p2), .val (.int p3), .val (.int p4), .val (.int p5), .val (.int nv), .val (.int z6), .val (.ref ax), .val (.int z8), .val (.int z9), .val (.int z10), .unset, .unset, .unset, .unset] [(.ref b231)])) (fun zt zk => st234.trans zk) ?_
  refine Go.st (T' := T234.setTop (mkF m 208 #[.val (.int p1), .val (.int p2), .val (.int p3), .val (.int p4), .val (.int p5), .val (.int nv), .val (.int z6), .val (.ref ax), .val (.int z8), .val (.int z9), .val (.int z10), .val (.ref b231), .unset, .unset, .unset] [])) (fun zt zk => XS.astore X234.here hx rfl (hb hby at_206) rfl rfl (l' := #[.val (.int p1), .val (.int p2), .val (.int p3), .val (.int p4), .val (.int p5), .val (.int nv), .val (.int z6), .val (.ref ax), .val (.int z8), .val (.int z9), .val (.int z10), .val (.ref b231), .unset, .unset, .unset]) rfl zk) ?_
  refine Go.st (T' := T234.setTop (mkF m 209 #[.val (.int p1), .val (.int p2), .val (.int p3), .val (.int p4), .val (.int p5), .val (.int nv), .val (.int z6), .val (.ref ax), .val (.int z8), .val (.int z9), .val (.int z10), .val (.ref b231), .unset, .unset, .unset] [(.int p2)])) (fun zt zk => XS.iloadN X234.here hx rfl (hb hby at_208) rfl zk) ?_
  refine Go.st (T' := T234.setTop (mkF m 210 #[.val (.int p1), .val (.int p2), .val (.int p3), .val (.int p4), .val (.int p5), .val (.int nv), .val (.int z6), .val (.ref ax), .val (.int z8), .val (.int z9), .val (.int z10), .val (.ref b231), .unset, .unset, .unset] [(.int (1 : Int32)), (.int p2)])) (fun zt zk => XS.iconst X234.here hx rfl (hb hby at_209) zk) ?_
  refine Go.st (T' := T234.setTop (mkF m 211 #[.val (.int p1), .val (.int p2), .val (.int p3), .val (.int p4), .val (.int p5), .val (.int nv), .val (.int z6), .val (.ref ax), .val (.int z8), .val (.int z9), .val (.int z10), .val (.ref b231), .unset, .unset, .unset] [(.int (p2 &&& (1 : Int32)))])) (fun zt zk => XS.iand X234.here hx rfl (hb hby at_210) rfl zk) ?_
  suffices J2 : ∀ (TK : State) (hK2 : Heap) (LL : List Loc) (sx st : Addr) (csS : List Int32), Stand p l e room_1 s m #[(.int p1), (.int p2), (.int p3), (.int p4), (.int p5)] below meth c TK LL 8 28703 → TK.heap = hK2 → Fr n0 LL → Keep h0 hK2 [] → own_St Z hK2 b231 t234 csL → own_St Z hK2 sx st csS → own_ok csS → Go p e below (TK.setTop (mkF m 260 #[.val (.int p1), .val (.int p2), .val (.int p3), .val (.int p4), .val (.int p5), .val (.int nv), .val (.int z6), .val (.ref ax), .val (.int z8), .val (.int z9), .val (.int z10), .val (.ref b231), .unset, .unset, .unset] [(.ref sx)])) (EndN s (Q_rm0 Z p1 p2 p3 p4 p5 h0 n0) room_1.cells room_1.slots) by
    by_cases hpar : (p2 &&& (1 : Int32)) = (0 : Int32)
    ·
      refine Go.st (T' := T234.setTop (mkF m 214 #[.val (.int p1), .val (.int p2), .val (.int p3), .val (.int p4), .val (.int p5), .val (.int nv), .val (.int z6), .val (.ref ax), .val (.int z8), .val (.int z9), .val (.int z10), .val (.ref b231), .unset, .unset, .unset] [])) (fun zt zk => XS.ifNo X234.here hx rfl (hb hby at_211) rfl ((if0 _ _).trans (teq hpar).2) zk) ?_
      obtain ⟨T237, h237, X237, e237, E237, A237, D237, U237, st237⟩ := newO X234 hx hZ hown (hw _ (List.mem_of_getElem? (i := 4) rfl)) (hw _ (List.mem_of_getElem? (i := 5) rfl)) (hw _ (List.mem_of_getElem? (i := 6) rfl)) rfl (g := (mkF m 214 #[.val (.int p1), .val (.int p2), .val (.int p3), .val (.int p4), .val (.int p5), .val (.int nv), .val (.int z6), .val (.ref ax), .val (.int z8), .val (.int z9), .val (.int z10), .val (.ref b231), .unset, .unset, .unset] [])) rfl (hb hby at_214) (by decide) (by decide)
      obtain ⟨b237, g237⟩ : ∃ z, z = T234.heap.size := ⟨_, rfl⟩
      rw [← g237] at A237 D237 U237 st237
      have g_b237 : n0 ≤ b237 := Nat.le_trans (Nat.le_trans Z0 KK235.1) (Nat.le_of_eq g237.symm)
      have sz_b237 : h0.size ≤ b237 := Nat.le_trans KK235.1 (Nat.le_of_eq g237.symm)
      have ne238 : b231 ≠ b237 := Nat.ne_of_lt (Nat.lt_of_lt_of_le R234.lt1 (Nat.le_of_eq g237.symm))
      have ne239 : t234 ≠ b237 := Nat.ne_of_lt (Nat.lt_of_lt_of_le R234.lt2 (Nat.le_of_eq g237.symm))
      have K237 : Keep h0 h237 [] := KK235.ext E237
      have Fn237_coder : Fld Z h237 b237 "java/lang/String" "coder" "B" (.int (0 : Int32)) := D237 (Or.inr (hw _ (List.mem_of_getElem? (i := 30) rfl))) (ty := .byte) (by decide)
      have Fn237_value : Fld Z h237 b237 "java/lang/String" "value" "[B" .null := D237 (Or.inr (hw _ (List.mem_of_getElem? (i := 32) rfl))) (ty := (.array .byte)) (by decide)
      refine Go.st (T' := T237.setTop (mkF m 217 #[.val (.int p1), .val (.int p2), .val (.int p3), .val (.int p4), .val (.int p5), .val (.int nv), .val (.int z6), .val (.ref ax), .val (.int z8), .val (.int z9), .val (.int z10), .val (.ref b231), .unset, .unset, .unset] [(.ref b237)])) (fun zt zk => st237 zt zk) ?_
      refine Go.st (T' := T237.setTop (mkF m 218 #[.val (.int p1), .val (.int p2), .val (.int p3), .val (.int p4), .val (.int p5), .val (.int nv), .val (.int z6), .val (.ref ax), .val (.int z8), .val (.int z9), .val (.int z10), .val (.ref b231), .unset, .unset, .unset] [(.ref b237), (.ref b237)])) (fun zt zk => XS.dup X237.here hx rfl (hb hby at_217) rfl rfl zk) ?_
      refine Go.st (T' := T237.setTop (mkF m 219 #[.val (.int p1), .val (.int p2), .val (.int p3), .val (.int p4), .val (.int p5), .val (.int nv), .val (.int z6), .val (.ref ax), .val (.int z8), .val (.int z9), .val (.int z10), .val (.ref b231), .unset, .unset, .unset] [(.int (1 : Int32)), (.ref b237), (.ref b237)])) (fun zt zk => XS.iconst X237.here hx rfl (hb hby at_218) zk) ?_
      obtain ⟨T240, h240, k240, X240, e240, E240, A240, st240⟩ := newP X237 hx hZ (hw _ (List.mem_of_getElem? (i := 0) rfl)) e237 (g := (mkF m 219 #[.val (.int p1), .val (.int p2), .val (.int p3), .val (.int p4), .val (.int p5), .val (.int nv), .val (.int z6), .val (.ref ax), .val (.int z8), .val (.int z9), .val (.int z10), .val (.ref b231), .unset, .unset, .unset] [(.int (1 : Int32)), (.ref b237), (.ref b237)])) rfl (hb hby at_219) rfl (by decide) (cap := 1) (by decide) (by decide) (by decide) (by decide)
      obtain ⟨b240, g240⟩ : ∃ z, z = h237.size := ⟨_, rfl⟩
      rw [← g240] at A240 st240
      have g_b240 : n0 ≤ b240 := Nat.le_trans (Nat.le_trans Z0 K237.1) (Nat.le_of_eq g240.symm)
      have sz_b240 : h0.size ≤ b240 := Nat.le_trans K237.1 (Nat.le_of_eq g240.symm)
      have f241 : own_St Z h237 b231 t234 csL := (R234.ext E237)
      have ne242 : b231 ≠ b240 := Nat.ne_of_lt (Nat.lt_of_lt_of_le f241.lt1 (Nat.le_of_eq g240.symm))
      have ne243 : t234 ≠ b240 := Nat.ne_of_lt (Nat.lt_of_lt_of_le f241.lt2 (Nat.le_of_eq g240.symm))
      have ne244 : b237 ≠ b240 := Nat.ne_of_lt (Nat.lt_of_lt_of_le A237.lt (Nat.le_of_eq g240.symm))
      have K240 : Keep h0 h240 [] := K237.ext E240
      have V240 : Arv Z h240 b240 k240 .char (1 : Int32) [(.int (0 : Int32))] (.int (0 : Int32)) := (Arv.new A240 (by decide)).pad (pad_rep [] (.int (0 : Int32)) 1)
      refine Go.st (T' := T240.setTop (mkF m 221 #[.val (.int p1), .val (.int p2), .val (.int p3), .val (.int p4), .val (.int p5), .val (.int nv), .val (.int z6), .val (.ref ax), .val (.int z8), .val (.int z9), .val (.int z10), .val (.ref b231), .unset, .unset, .unset] [(.ref b240), (.ref b237), (.ref b237)])) (fun zt zk => st240 zt zk) ?_
      refine Go.st (T' := T240.setTop (mkF m 222 #[.val (.int p1), .val (.int p2), .val (.int p3), .val (.int p4), .val (.int p5), .val (.int nv), .val (.int z6), .val (.ref ax), .val (.int z8), .val (.int z9), .val (.int z10), .val (.ref b231), .unset, .unset, .unset] [(.ref b240), (.ref b240), (.ref b237), (.ref b237)])) (fun zt zk => XS.dup X240.here hx rfl (hb hby at_221) rfl rfl zk) ?_
      refine Go.st (T' := T240.setTop (mkF m 223 #[.val (.int p1), .val (.int p2), .val (.int p3), .val (.int p4), .val (.int p5), .val (.int nv), .val (.int z6), .val (.ref ax), .val (.int z8), .val (.int z9), .val (.int z10), .val (.ref b231), .unset, .unset, .unset] [(.int (0 : Int32)), (.ref b240), (.ref b240), (.ref b237), (.ref b237)])) (fun zt zk => XS.iconst X240.here hx rfl (hb hby at_222) zk) ?_
      refine Go.st (T' := T240.setTop (mkF m 224 #[.val (.int p1), .val (.int p2), .val (.int p3), .val (.int p4), .val (.int p5), .val (.int nv), .val (.int z6), .val (.ref ax), .val (.int z8), .val (.int z9), .val (.int z10), .val (.ref b231), .unset, .unset, .unset] [(.int p2), (.int (0 : Int32)), (.ref b240), (.ref b240), (.ref b237), (.ref b237)])) (fun zt zk => XS.iloadN X240.here hx rfl (hb hby at_223) rfl zk) ?_
      refine Go.st (T' := T240.setTop (mkF m 226 #[.val (.int p1), .val (.int p2), .val (.int p3), .val (.int p4), .val (.int p5), .val (.int nv), .val (.int z6), .val (.ref ax), .val (.int z8), .val (.int z9), .val (.int z10), .val (.ref b231), .unset, .unset, .unset] [(.int (16 : Int32)), (.int p2), (.int (0 : Int32)), (.ref b240), (.ref b240), (.ref b237), (.ref b237)])) (fun zt zk => XS.bipush X240.here hx rfl (hb hby at_224) zk) ?_
      refine Go.st (T' := T240.setTop (mkF m 227 #[.val (.int p1), .val (.int p2), .val (.int p3), .val (.int p4), .val (.int p5), .val (.int nv), .val (.int z6), .val (.ref ax), .val (.int z8), .val (.int z9), .val (.int z10), .val (.ref b231), .unset, .unset, .unset] [(.int ((p2.toUInt32 >>> ((16 : Int32) &&& 31).toUInt32).toInt32)), (.int (0 : Int32)), (.ref b240), (.ref b240), (.ref b237), (.ref b237)])) (fun zt zk => XS.iushr X240.here hx rfl (hb hby at_226) rfl zk) ?_
      refine Go.st (T' := T240.setTop (mkF m 228 #[.val (.int p1), .val (.int p2), .val (.int p3), .val (.int p4), .val (.int p5), .val (.int nv), .val (.int z6), .val (.ref ax), .val (.int z8), .val (.int z9), .val (.int z10), .val (.ref b231), .unset, .unset, .unset] [(.int (((p2.toUInt32 >>> ((16 : Int32) &&& 31).toUInt32).toInt32).toUInt32.toUInt16.toUInt32.toInt32)), (.int (0 : Int32)), (.ref b240), (.ref b240), (.ref b237), (.ref b237)])) (fun zt zk => XS.i2c X240.here hx rfl (hb hby at_227) rfl zk) ?_
      obtain ⟨cl245, Ar245, q245, S245, M245, H245, G245⟩ := id V240
      obtain ⟨T245, h245, X245, e245, W245, st245⟩ := stC X240 hx hZ e240 Ar245 (j := (0 : Int32)) (inb_of S245 ⟨by decide, by decide⟩) (g := (mkF m 228 #[.val (.int p1), .val (.int p2), .val (.int p3), .val (.int p4), .val (.int p5), .val (.int nv), .val (.int z6), .val (.ref ax), .val (.int z8), .val (.int z9), .val (.int z10), .val (.ref b231), .unset, .unset, .unset] [(.int (((p2.toUInt32 >>> ((16 : Int32) &&& 31).toUInt32).toInt32).toUInt32.toUInt16.toUInt32.toInt32)), (.int (0 : Int32)), (.ref b240), (.ref b240), (.ref b237), (.ref b237)])) rfl rfl (hb hby at_228)
      have V245 : Arv Z h245 b240 k240 .char (1 : Int32) [(.int (nar .char (((p2.toUInt32 >>> ((16 : Int32) &&& 31).toUInt32).toInt32).toUInt32.toUInt16.toUInt32.toInt32)))] (.int (0 : Int32)) := Arv.set Ar245 q245 S245 M245 H245 G245 (fits_nar_char _) W245 0 rfl (Nat.le_of_ble_eq_true rfl)
      have K245 : Keep h0 h245 [] := K240.wr W245 (Or.inr sz_b240)
      have N245 := Fr.snoc X245 NN236 g_b240
      refine Go.st (T' := T245.setTop (mkF m 229 #[.val (.int p1), .val (.int p2), .val (.int p3), .val (.int p4), .val (.int p5), .val (.int nv), .val (.int z6), .val (.ref ax), .val (.int z8), .val (.int z9), .val (.int z10), .val (.ref b231), .unset, .unset, .unset] [(.ref b240), (.ref b237), (.ref b237)])) (fun zt zk => st245 zt zk) ?_
      have okS : own_ok ([(nar .char (((p2.toUInt32 >>> ((16 : Int32) &&& 31).toUInt32).toInt32).toUInt32.toUInt16.toUInt32.toInt32))] : List Int32) := own_short (Nat.le_of_ble_eq_true rfl) (Nat.le_of_ble_eq_true rfl) (by
        intro q hq
        simp only [List.mem_cons, List.not_mem_nil, or_false] at hq
        rcases hq with rfl <;> exact own_chr _)
      have f246 : own_St Z h245 b231 t234 csL := ((f241.ext E240).keep (Keep.of_wr W245) (ninS ne242 nin0) (ninS ne243 nin0))
      have f247 : Exa Z h245 b237 "java/lang/String" := ((A237.ext E240).wr W245)
      have f248 : Fld Z h245 b237 "java/lang/String" "coder" "B" (.int (0 : Int32)) := ((Fn237_coder.ext E240).other W245 (Or.inl ne244))
      have f249 : Fld Z h245 b237 "java/lang/String" "value" "[B" .null := ((Fn237_value.ext E240).other W245 (Or.inl ne244))
      obtain ⟨vr250, _, ⟨T250, L250, k250, n250⟩, -, X250, ⟨Lc250, hQ250, l250, y250, z250⟩, st250⟩ := X245.specialBack hx (y := (⟨"java/lang/String", "<init>", "([C)V"⟩ : MethodName)) rfl hown (mvT hZ (hw _ (List.mem_of_getElem? (i := 7) rfl))) (mvT hZ (hw _ (List.mem_of_getElem? (i := 8) rfl))) (mvT hZ (hw _ (List.mem_of_getElem? (i := 9) rfl))) (by decide) (backOf (W := 1) (rmS1 l Z a0 hw b237 b240 k240 ([(nar .char (((p2.toUInt32 >>> ((16 : Int32) &&& 31).toUInt32).toInt32).toUInt32.toUInt16.toUInt32.toInt32))] : List Int32) h245 n0 (Nat.le_trans Z0 K245.1) G1 O2 P5 (X00.keep K245 all0) A1 A2 A3 f247 g_b237 f249 f248 (show Arv Z h245 b240 k240 .char (Int32.ofNat ([(nar .char (((p2.toUInt32 >>> ((16 : Int32) &&& 31).toUInt32).toInt32).toUInt32.toUInt16.toUInt32.toInt32))] : List Int32).length) (([(nar .char (((p2.toUInt32 >>> ((16 : Int32) &&& 31).toUInt32).toInt32).toUInt32.toUInt16.toUInt32.toInt32))] : List Int32).map Value.int) (.int (0 : Int32)) from V245) (okS).1 (okS).2.1 (okS).2.2.1) hZ (hw _ (List.mem_of_getElem? (i := 9) rfl)) (hw _ (List.mem_of_getElem? (i := 6) rfl)) (by decide) (by decide)) (g := (mkF m 229 #[.val (.int p1), .val (.int p2), .val (.int p3), .val (.int p4), .val (.int p5), .val (.int nv), .val (.int z6), .val (.ref ax), .val (.int z8), .val (.int z9), .val (.int z10), .val (.ref b231), .unset, .unset, .unset] [(.ref b240), (.ref b237), (.ref b237)])) rfl (by rw [hml]; rfl) (Steps.refl _) (a := b237) (argsL := [(.ref b240)]) (rest := [(.ref b237)]) (lenOf pd_a67b36d rfl) rfl (by show 2 * 0 + _ ≤ _; exact Nat.le_of_eq rfl) (hb hby at_229) (fun _ _ => ⟨rfl, e245, (by decide : 6 + 2 ≤ _), (by decide : 16405 + 12297 ≤ _)⟩)
      dsimp only [Pt.U, Pt.locs, Pt.cells, Pt.slots] at X250 l250 y250 z250 st250 hQ250
      subst l250 y250 z250
      obtain ⟨rfl, Nq250, Kq250, t250, sy250, R250⟩ := hQ250
      have KK251 : Keep h0 T250.heap [] := K245.trans Kq250 (allS (Or.inr sz_b237) all0)
      have NN252 := Fr.app N245 Nq250
      refine Go.st (T' := T250.setTop (mkF m 232 #[.val (.int p1), .val (.int p2), .val (.int p3), .val (.int p4), .val (.int p5), .val (.int nv), .val (.int z6), .val (.ref ax), .val (.int z8), .val (.int z9), .val (.int z10), .val (.ref b231), .unset, .unset, .unset] [(.ref b237)])) (fun zt zk => st250.trans zk) ?_
      refine Go.st (T' := T250.setTop (mkF m 260 #[.val (.int p1), .val (.int p2), .val (.int p3), .val (.int p4), .val (.int p5), .val (.int nv), .val (.int z6), .val (.ref ax), .val (.int z8), .val (.int z9), .val (.int z10), .val (.ref b231), .unset, .unset, .unset] [(.ref b237)])) (fun zt zk => XS.goto X250.here hx rfl (pc0 := 232) (pc' := 260) rfl (hb hby at_232) (by decide) (by decide) zk) ?_
      have f253 : own_St Z T250.heap b231 t234 csL := (f246.keep Kq250 (ninS ne238 nin0) (ninS ne239 nin0))
      exact J2 _ _ _ b237 t250 _ (X250.more (by decide) (by decide)) rfl NN252 KK251 f253 R250 okS
    ·
      refine Go.st (T' := T234.setTop (mkF m 235 #[.val (.int p1), .val (.int p2), .val (.int p3), .val (.int p4), .val (.int p5), .val (.int nv), .val (.int z6), .val (.ref ax), .val (.int z8), .val (.int z9), .val (.int z10), .val (.ref b231), .unset, .unset, .unset] [])) (fun zt zk => XS.ifYes X234.here hx rfl (pc0 := 211) (pc' := 235) rfl (hb hby at_211) rfl ((if0 _ _).trans (feq hpar).2) (by decide) (by decide) zk) ?_
      obtain ⟨T254, h254, X254, e254, E254, A254, D254, U254, st254⟩ := newO X234 hx hZ hown (hw _ (List.mem_of_getElem? (i := 4) rfl)) (hw _ (List.mem_of_getElem? (i := 5) rfl)) (hw _ (List.mem_of_getElem? (i := 6) rfl)) rfl (g := (mkF m 235 #[.val (.int p1), .val (.int p2), .val (.int p3), .val (.int p4), .val (.int p5), .val (.int nv), .val (.int z6), .val (.ref ax), .val (.int z8), .val (.int z9), .val (.int z10), .val (.ref b231), .unset, .unset, .unset] [])) rfl (hb hby at_235) (by decide) (by decide)
      obtain ⟨b254, g254⟩ : ∃ z, z = T234.heap.size := ⟨_, rfl⟩
      rw [← g254] at A254 D254 U254 st254
      have g_b254 : n0 ≤ b254 := Nat.le_trans (Nat.le_trans Z0 KK235.1) (Nat.le_of_eq g254.symm)
      have sz_b254 : h0.size ≤ b254 := Nat.le_trans KK235.1 (Nat.le_of_eq g254.symm)
      have ne255 : b231 ≠ b254 := Nat.ne_of_lt (Nat.lt_of_lt_of_le R234.lt1 (Nat.le_of_eq g254.symm))
      have ne256 : t234 ≠ b254 := Nat.ne_of_lt (Nat.lt_of_lt_of_le R234.lt2 (Nat.le_of_eq g254.symm))
      have K254 : Keep h0 h254 [] := KK235.ext E254
      have Fn254_coder : Fld Z h254 b254 "java/lang/String" "coder" "B" (.int (0 : Int32)) := D254 (Or.inr (hw _ (List.mem_of_getElem? (i := 30) rfl))) (ty := .byte) (by decide)
      have Fn254_value : Fld Z h254 b254 "java/lang/String" "value" "[B" .null := D254 (Or.inr (hw _ (List.mem_of_getElem? (i := 32) rfl))) (ty := (.array .byte)) (by decide)
      refine Go.st (T' := T254.setTop (mkF m 238 #[.val (.int p1), .val (.int p2), .val (.int p3), .val (.int p4), .val (.int p5), .val (.int nv), .val (.int z6), .val (.ref ax), .val (.int z8), .val (.int z9), .val (.int z10), .val (.ref b231), .unset, .unset, .unset] [(.ref b254)])) (fun zt zk => st254 zt zk) ?_
      refine Go.st (T' := T254.setTop (mkF m 239 #[.val (.int p1), .val (.int p2), .val (.int p3), .val (.int p4), .val (.int p5), .val (.int nv), .val (.int z6), .val (.ref ax), .val (.int z8), .val (.int z9), .val (.int z10), .val (.ref b231), .unset, .unset, .unset] [(.ref b254), (.ref b254)])) (fun zt zk => XS.dup X254.here hx rfl (hb hby at_238) rfl rfl zk) ?_
      refine Go.st (T' := T254.setTop (mkF m 240 #[.val (.int p1), .val (.int p2), .val (.int p3), .val (.int p4), .val (.int p5), .val (.int nv), .val (.int z6), .val (.ref ax), .val (.int z8), .val (.int z9), .val (.int z10), .val (.ref b231), .unset, .unset, .unset] [(.int (2 : Int32)), (.ref b254), (.ref b254)])) (fun zt zk => XS.iconst X254.here hx rfl (hb hby at_239) zk) ?_
      obtain ⟨T257, h257, k257, X257, e257, E257, A257, st257⟩ := newP X254 hx hZ (hw _ (List.mem_of_getElem? (i := 0) rfl)) e254 (g := (mkF m 240 #[.val (.int p1), .val (.int p2), .val (.int p3), .val (.int p4), .val (.int p5), .val (.int nv), .val (.int z6), .val (.ref ax), .val (.int z8), .val (.int z9), .val (.int z10), .val (.ref b231), .unset, .unset, .unset] [(.int (2 : Int32)), (.ref b254), (.ref b254)])) rfl (hb hby at_240) rfl (by decide) (cap := 2) (by decide) (by decide) (by decide) (by decide)
      obtain ⟨b257, g257⟩ : ∃ z, z = h254.size := ⟨_, rfl⟩
      rw [← g257] at A257 st257
      have g_b257 : n0 ≤ b257 := Nat.le_trans (Nat.le_trans Z0 K254.1) (Nat.le_of_eq g257.symm)
      have sz_b257 : h0.size ≤ b257 := Nat.le_trans K254.1 (Nat.le_of_eq g257.symm)
      have f258 : own_St Z h254 b231 t234 csL := (R234.ext E254)
      have ne259 : b231 ≠ b257 := Nat.ne_of_lt (Nat.lt_of_lt_of_le f258.lt1 (Nat.le_of_eq g257.symm))
      have ne260 : t234 ≠ b257 := Nat.ne_of_lt (Nat.lt_of_lt_of_le f258.lt2 (Nat.le_of_eq g257.symm))
      have ne261 : b254 ≠ b257 := Nat.ne_of_lt (Nat.lt_of_lt_of_le A254.lt (Nat.le_of_eq g257.symm))
      have K257 : Keep h0 h257 [] := K254.ext E257
      have V257 : Arv Z h257 b257 k257 .char (2 : Int32) [(.int (0 : Int32)), (.int (0 : Int32))] (.int (0 : Int32)) := (Arv.new A257 (by decide)).pad (pad_rep [] (.int (0 : Int32)) 2)
      refine Go.st (T' := T257.setTop (mkF m 242 #[.val (.int p1), .val (.int p2), .val (.int p3), .val (.int p4), .val (.int p5), .val (.int nv), .val (.int z6), .val (.ref ax), .val (.int z8), .val (.int z9), .val (.int z10), .val (.ref b231), .unset, .unset, .unset] [(.ref b257), (.ref b254), (.ref b254)])) (fun zt zk => st257 zt zk) ?_
      refine Go.st (T' := T257.setTop (mkF m 243 #[.val (.int p1), .val (.int p2), .val (.int p3), .val (.int p4), .val (.int p5), .val (.int nv), .val (.int z6), .val (.ref ax), .val (.int z8), .val (.int z9), .val (.int z10), .val (.ref b231), .unset, .unset, .unset] [(.ref b257), (.ref b257), (.ref b254), (.ref b254)])) (fun zt zk => XS.dup X257.here hx rfl (hb hby at_242) rfl rfl zk) ?_
      refine Go.st (T' := T257.setTop (mkF m 244 #[.val (.int p1), .val (.int p2), .val (.int p3), .val (.int p4), .val (.int p5), .val (.int nv), .val (.int z6), .val (.ref ax), .val (.int z8), .val (.int z9), .val (.int z10), .val (.ref b231), .unset, .unset, .unset] [(.int (0 : Int32)), (.ref b257), (.ref b257), (.ref b254), (.ref b254)])) (fun zt zk => XS.iconst X257.here hx rfl (hb hby at_243) zk) ?_
      refine Go.st (T' := T257.setTop (mkF m 245 #[.val (.int p1), .val (.int p2), .val (.int p3), .val (.int p4), .val (.int p5), .val (.int nv), .val (.int z6), .val (.ref ax), .val (.int z8), .val (.int z9), .val (.int z10), .val (.ref b231), .unset, .unset, .unset] [(.int p2), (.int (0 : Int32)), (.ref b257), (.ref b257), (.ref b254), (.ref b254)])) (fun zt zk => XS.iloadN X257.here hx rfl (hb hby at_244) rfl zk) ?_
      refine Go.st (T' := T257.setTop (mkF m 247 #[.val (.int p1), .val (.int p2), .val (.int p3), .val (.int p4), .val (.int p5), .val (.int nv), .val (.int z6), .val (.ref ax), .val (.int z8), .val (.int z9), .val (.int z10), .val (.ref b231), .unset, .unset, .unset] [(.int (16 : Int32)), (.int p2), (.int (0 : Int32)), (.ref b257), (.ref b257), (.ref b254), (.ref b254)])) (fun zt zk => XS.bipush X257.here hx rfl (hb hby at_245) zk) ?_
      refine Go.st (T' := T257.setTop (mkF m 248 #[.val (.int p1), .val (.int p2), .val (.int p3), .val (.int p4), .val (.int p5), .val (.int nv), .val (.int z6), .val (.ref ax), .val (.int z8), .val (.int z9), .val (.int z10), .val (.ref b231), .unset, .unset, .unset] [(.int ((p2.toUInt32 >>> ((16 : Int32) &&& 31).toUInt32).toInt32)), (.int (0 : Int32)), (.ref b257), (.ref b257), (.ref b254), (.ref b254)])) (fun zt zk => XS.iushr X257.here hx rfl (hb hby at_247) rfl zk) ?_
      refine Go.st (T' := T257.setTop (mkF m 249 #[.val (.int p1), .val (.int p2), .val (.int p3), .val (.int p4), .val (.int p5), .val (.int nv), .val (.int z6), .val (.ref ax), .val (.int z8), .val (.int z9), .val (.int z10), .val (.ref b231), .unset, .unset, .unset] [(.int (((p2.toUInt32 >>> ((16 : Int32) &&& 31).toUInt32).toInt32).toUInt32.toUInt16.toUInt32.toInt32)), (.int (0 : Int32)), (.ref b257), (.ref b257), (.ref b254), (.ref b254)])) (fun zt zk => XS.i2c X257.here hx rfl (hb hby at_248) rfl zk) ?_
      obtain ⟨cl262, Ar262, q262, S262, M262, H262, G262⟩ := id V257
      obtain ⟨T262, h262, X262, e262, W262, st262⟩ := stC X257 hx hZ e257 Ar262 (j := (0 : Int32)) (inb_of S262 ⟨by decide, by decide⟩) (g := (mkF m 249 #[.val (.int p1), .val (.int p2), .val (.int p3), .val (.int p4), .val (.int p5), .val (.int nv), .val (.int z6), .val (.ref ax), .val (.int z8), .val (.int z9), .val (.int z10), .val (.ref b231), .unset, .unset, .unset] [(.int (((p2.toUInt32 >>> ((16 : Int32) &&& 31).toUInt32).toInt32).toUInt32.toUInt16.toUInt32.toInt32)), (.int (0 : Int32)), (.ref b257), (.ref b257), (.ref b254), (.ref b254)])) rfl rfl (hb hby at_249)
      have V262 : Arv Z h262 b257 k257 .char (2 : Int32) [(.int (nar .char (((p2.toUInt32 >>> ((16 : Int32) &&& 31).toUInt32).toInt32).toUInt32.toUInt16.toUInt32.toInt32))), (.int (0 : Int32))] (.int (0 : Int32)) := Arv.set Ar262 q262 S262 M262 H262 G262 (fits_nar_char _) W262 0 rfl (Nat.le_of_ble_eq_true rfl)
      have K262 : Keep h0 h262 [] := K257.wr W262 (Or.inr sz_b257)
      have N262 := Fr.snoc X262 NN236 g_b257
      refine Go.st (T' := T262.setTop (mkF m 250 #[.val (.int p1), .val (.int p2), .val (.int p3), .val (.int p4), .val (.int p5), .val (.int nv), .val (.int z6), .val (.ref ax), .val (.int z8), .val (.int z9), .val (.int z10), .val (.ref b231), .unset, .unset, .unset] [(.ref b257), (.ref b254), (.ref b254)])) (fun zt zk => st262 zt zk) ?_
      refine Go.st (T' := T262.setTop (mkF m 251 #[.val (.int p1), .val (.int p2), .val (.int p3), .val (.int p4), .val (.int p5), .val (.int nv), .val (.int z6), .val (.ref ax), .val (.int z8), .val (.int z9), .val (.int z10), .val (.ref b231), .unset, .unset, .unset] [(.ref b257), (.ref b257), (.ref b254), (.ref b254)])) (fun zt zk => XS.dup X262.here hx rfl (hb hby at_250) rfl rfl zk) ?_
      refine Go.st (T' := T262.setTop (mkF m 252 #[.val (.int p1), .val (.int p2), .val (.int p3), .val (.int p4), .val (.int p5), .val (.int nv), .val (.int z6), .val (.ref ax), .val (.int z8), .val (.int z9), .val (.int z10), .val (.ref b231), .unset, .unset, .unset] [(.int (1 : Int32)), (.ref b257), (.ref b257), (.ref b254), (.ref b254)])) (fun zt zk => XS.iconst X262.here hx rfl (hb hby at_251) zk) ?_
      refine Go.st (T' := T262.setTop (mkF m 253 #[.val (.int p1), .val (.int p2), .val (.int p3), .val (.int p4), .val (.int p5), .val (.int nv), .val (.int z6), .val (.ref ax), .val (.int z8), .val (.int z9), .val (.int z10), .val (.ref b231), .unset, .unset, .unset] [(.int p2), (.int (1 : Int32)), (.ref b257), (.ref b257), (.ref b254), (.ref b254)])) (fun zt zk => XS.iloadN X262.here hx rfl (hb hby at_252) rfl zk) ?_
      refine Go.st (T' := T262.setTop (mkF m 254 #[.val (.int p1), .val (.int p2), .val (.int p3), .val (.int p4), .val (.int p5), .val (.int nv), .val (.int z6), .val (.ref ax), .val (.int z8), .val (.int z9), .val (.int z10), .val (.ref b231), .unset, .unset, .unset] [(.int (1 : Int32)), (.int p2), (.int (1 : Int32)), (.ref b257), (.ref b257), (.ref b254), (.ref b254)])) (fun zt zk => XS.iconst X262.here hx rfl (hb hby at_253) zk) ?_
      refine Go.st (T' := T262.setTop (mkF m 255 #[.val (.int p1), .val (.int p2), .val (.int p3), .val (.int p4), .val (.int p5), .val (.int nv), .val (.int z6), .val (.ref ax), .val (.int z8), .val (.int z9), .val (.int z10), .val (.ref b231), .unset, .unset, .unset] [(.int ((p2.toUInt32 >>> ((1 : Int32) &&& 31).toUInt32).toInt32)), (.int (1 : Int32)), (.ref b257), (.ref b257), (.ref b254), (.ref b254)])) (fun zt zk => XS.iushr X262.here hx rfl (hb hby at_254) rfl zk) ?_
      refine Go.st (T' := T262.setTop (mkF m 256 #[.val (.int p1), .val (.int p2), .val (.int p3), .val (.int p4), .val (.int p5), .val (.int nv), .val (.int z6), .val (.ref ax), .val (.int z8), .val (.int z9), .val (.int z10), .val (.ref b231), .unset, .unset, .unset] [(.int (((p2.toUInt32 >>> ((1 : Int32) &&& 31).toUInt32).toInt32).toUInt32.toUInt16.toUInt32.toInt32)), (.int (1 : Int32)), (.ref b257), (.ref b257), (.ref b254), (.ref b254)])) (fun zt zk => XS.i2c X262.here hx rfl (hb hby at_255) rfl zk) ?_
      obtain ⟨cl263, Ar263, q263, S263, M263, H263, G263⟩ := id V262
      obtain ⟨T263, h263, X263, e263, W263, st263⟩ := stC X262 hx hZ e262 Ar263 (j := (1 : Int32)) (inb_of S263 ⟨by decide, by decide⟩) (g := (mkF m 256 #[.val (.int p1), .val (.int p2), .val (.int p3), .val (.int p4), .val (.int p5), .val (.int nv), .val (.int z6), .val (.ref ax), .val (.int z8), .val (.int z9), .val (.int z10), .val (.ref b231), .unset, .unset, .unset] [(.int (((p2.toUInt32 >>> ((1 : Int32) &&& 31).toUInt32).toInt32).toUInt32.toUInt16.toUInt32.toInt32)), (.int (1 : Int32)), (.ref b257), (.ref b257), (.ref b254), (.ref b254)])) rfl rfl (hb hby at_256)
      have V263 : Arv Z h263 b257 k257 .char (2 : Int32) [(.int (nar .char (((p2.toUInt32 >>> ((16 : Int32) &&& 31).toUInt32).toInt32).toUInt32.toUInt16.toUInt32.toInt32))), (.int (nar .char (((p2.toUInt32 >>> ((1 : Int32) &&& 31).toUInt32).toInt32).toUInt32.toUInt16.toUInt32.toInt32)))] (.int (0 : Int32)) := Arv.set Ar263 q263 S263 M263 H263 G263 (fits_nar_char _) W263 1 rfl (Nat.le_of_ble_eq_true rfl)
      have K263 : Keep h0 h263 [] := K262.wr W263 (Or.inr sz_b257)
      have N263 := Fr.snoc X263 N262 g_b257
      refine Go.st (T' := T263.setTop (mkF m 257 #[.val (.int p1), .val (.int p2), .val (.int p3), .val (.int p4), .val (.int p5), .val (.int nv), .val (.int z6), .val (.ref ax), .val (.int z8), .val (.int z9), .val (.int z10), .val (.ref b231), .unset, .unset, .unset] [(.ref b257), (.ref b254), (.ref b254)])) (fun zt zk => st263 zt zk) ?_
      have okS : own_ok ([(nar .char (((p2.toUInt32 >>> ((16 : Int32) &&& 31).toUInt32).toInt32).toUInt32.toUInt16.toUInt32.toInt32)), (nar .char (((p2.toUInt32 >>> ((1 : Int32) &&& 31).toUInt32).toInt32).toUInt32.toUInt16.toUInt32.toInt32))] : List Int32) := own_short (Nat.le_of_ble_eq_true rfl) (Nat.le_of_ble_eq_true rfl) (by
        intro q hq
        simp only [List.mem_cons, List.not_mem_nil, or_false] at hq
        rcases hq with rfl | rfl <;> exact own_chr _)
      have f264 : own_St Z h263 b231 t234 csL := (((f258.ext E257).keep (Keep.of_wr W262) (ninS ne259 nin0) (ninS ne260 nin0)).keep (Keep.of_wr W263) (ninS ne259 nin0) (ninS ne260 nin0))
      have f265 : Exa Z h263 b254 "java/lang/String" := (((A254.ext E257).wr W262).wr W263)
      have f266 : Fld Z h263 b254 "java/lang/String" "coder" "B" (.int (0 : Int32)) := (((Fn254_coder.ext E257).other W262 (Or.inl ne261)).other W263 (Or.inl ne261))
      have f267 : Fld Z h263 b254 "java/lang/String" "value" "[B" .null := (((Fn254_value.ext E257).other W262 (Or.inl ne261)).other W263 (Or.inl ne261))
      obtain ⟨vr268, _, ⟨T268, L268, k268, n268⟩, -, X268, ⟨Lc268, hQ268, l268, y268, z268⟩, st268⟩ := X263.specialBack hx (y := (⟨"java/lang/String", "<init>", "([C)V"⟩ : MethodName)) rfl hown (mvT hZ (hw _ (List.mem_of_getElem? (i := 7) rfl))) (mvT hZ (hw _ (List.mem_of_getElem? (i := 8) rfl))) (mvT hZ (hw _ (List.mem_of_getElem? (i := 9) rfl))) (by decide) (backOf (W := 1) (rmS1 l Z a0 hw b254 b257 k257 ([(nar .char (((p2.toUInt32 >>> ((16 : Int32) &&& 31).toUInt32).toInt32).toUInt32.toUInt16.toUInt32.toInt32)), (nar .char (((p2.toUInt32 >>> ((1 : Int32) &&& 31).toUInt32).toInt32).toUInt32.toUInt16.toUInt32.toInt32))] : List Int32) h263 n0 (Nat.le_trans Z0 K263.1) G1 O2 P5 (X00.keep K263 all0) A1 A2 A3 f265 g_b254 f267 f266 (show Arv Z h263 b257 k257 .char (Int32.ofNat ([(nar .char (((p2.toUInt32 >>> ((16 : Int32) &&& 31).toUInt32).toInt32).toUInt32.toUInt16.toUInt32.toInt32)), (nar .char (((p2.toUInt32 >>> ((1 : Int32) &&& 31).toUInt32).toInt32).toUInt32.toUInt16.toUInt32.toInt32))] : List Int32).length) (([(nar .char (((p2.toUInt32 >>> ((16 : Int32) &&& 31).toUInt32).toInt32).toUInt32.toUInt16.toUInt32.toInt32)), (nar .char (((p2.toUInt32 >>> ((1 : Int32) &&& 31).toUInt32).toInt32).toUInt32.toUInt16.toUInt32.toInt32))] : List Int32).map Value.int) (.int (0 : Int32)) from V263) (okS).1 (okS).2.1 (okS).2.2.1) hZ (hw _ (List.mem_of_getElem? (i := 9) rfl)) (hw _ (List.mem_of_getElem? (i := 6) rfl)) (by decide) (by decide)) (g := (mkF m 257 #[.val (.int p1), .val (.int p2), .val (.int p3), .val (.int p4), .val (.int p5), .val (.int nv), .val (.int z6), .val (.ref ax), .val (.int z8), .val (.int z9), .val (.int z10), .val (.ref b231), .unset, .unset, .unset] [(.ref b257), (.ref b254), (.ref b254)])) rfl (by rw [hml]; rfl) (Steps.refl _) (a := b254) (argsL := [(.ref b257)]) (rest := [(.ref b254)]) (lenOf pd_a67b36d rfl) rfl (by show 2 * 0 + _ ≤ _; exact Nat.le_of_eq rfl) (hb hby at_257) (fun _ _ => ⟨rfl, e263, (by decide : 6 + 2 ≤ _), (by decide : 16406 + 12297 ≤ _)⟩)
      dsimp only [Pt.U, Pt.locs, Pt.cells, Pt.slots] at X268 l268 y268 z268 st268 hQ268
      subst l268 y268 z268
      obtain ⟨rfl, Nq268, Kq268, t268, sy268, R268⟩ := hQ268
      have KK269 : Keep h0 T268.heap [] := K263.trans Kq268 (allS (Or.inr sz_b254) all0)
      have NN270 := Fr.app N263 Nq268
      refine Go.st (T' := T268.setTop (mkF m 260 #[.val (.int p1), .val (.int p2), .val (.int p3), .val (.int p4), .val (.int p5), .val (.int nv), .val (.int z6), .val (.ref ax), .val (.int z8), .val (.int z9), .val (.int z10), .val (.ref b231), .unset, .unset, .unset] [(.ref b254)])) (fun zt zk => st268.trans zk) ?_
      have f271 : own_St Z T268.heap b231 t234 csL := (f264.keep Kq268 (ninS ne255 nin0) (ninS ne256 nin0))
      exact J2 _ _ _ b254 t268 _ (X268.more (by decide) (by decide)) rfl NN270 KK269 f271 R268 okS
  intro TK hK2 LL sx st csS XK eK NK KK SLx SSx okS
  refine Go.st (T' := TK.setTop (mkF m 262 #[.val (.int p1), .val (.int p2), .val (.int p3), .val (.int p4), .val (.int p5), .val (.int nv), .val (.int z6), .val (.ref ax), .val (.int z8), .val (.int z9), .val (.int z10), .val (.ref b231), .val (.ref sx), .unset, .unset] [])) (fun zt zk => XS.astore XK.here hx rfl (hb hby at_260) rfl rfl (l' := #[.val (.int p1), .val (.int p2), .val (.int p3), .val (.int p4), .val (.int p5), .val (.int nv), .val (.int z6), .val (.ref ax), .val (.int z8), .val (.int z9), .val (.int z10), .val (.ref b231), .val (.ref sx), .unset, .unset]) rfl zk) ?_
  obtain ⟨T272, h272, X272, e272, E272, A272, D272, U272, st272⟩ := newO XK hx hZ hown (hw _ (List.mem_of_getElem? (i := 33) rfl)) (hw _ (List.mem_of_getElem? (i := 34) rfl)) (hw _ (List.mem_of_getElem? (i := 35) rfl)) eK (g := (mkF m 262 #[.val (.int p1), .val (.int p2), .val (.int p3), .val (.int p4), .val (.int p5), .val (.int nv), .val (.int z6), .val (.ref ax), .val (.int z8), .val (.int z9), .val (.int z10), .val (.ref b231), .val (.ref sx), .unset, .unset] [])) rfl (hb hby at_262) (by decide) (by decide)
  obtain ⟨b272, g272⟩ : ∃ z, z = hK2.size := ⟨_, rfl⟩
  rw [← g272] at A272 D272 U272 st272
  have g_b272 : n0 ≤ b272 := Nat.le_trans (Nat.le_trans Z0 KK.1) (Nat.le_of_eq g272.symm)
  have sz_b272 : h0.size ≤ b272 := Nat.le_trans KK.1 (Nat.le_of_eq g272.symm)
  have ne273 : b231 ≠ b272 := Nat.ne_of_lt (Nat.lt_of_lt_of_le SLx.lt1 (Nat.le_of_eq g272.symm))
  have ne274 : t234 ≠ b272 := Nat.ne_of_lt (Nat.lt_of_lt_of_le SLx.lt2 (Nat.le_of_eq g272.symm))
  have ne275 : sx ≠ b272 := Nat.ne_of_lt (Nat.lt_of_lt_of_le SSx.lt1 (Nat.le_of_eq g272.symm))
  have ne276 : st ≠ b272 := Nat.ne_of_lt (Nat.lt_of_lt_of_le SSx.lt2 (Nat.le_of_eq g272.symm))
  have K272 : Keep h0 h272 [] := KK.ext E272
  have Fn272_modCount : Fld Z h272 b272 "java/util/AbstractList" "modCount" "I" (.int (0 : Int32)) := D272 (Or.inl (hw _ (List.mem_of_getElem? (i := 53) rfl))) (ty := .int) (by decide)
  have Fn272_elementData : Fld Z h272 b272 "java/util/ArrayList" "elementData" "[Ljava/lang/Object;" .null := D272 (Or.inl (hw _ (List.mem_of_getElem? (i := 56) rfl))) (ty := (.array (.object "java/lang/Object"))) (by decide)
  have Fn272_size : Fld Z h272 b272 "java/util/ArrayList" "size" "I" (.int (0 : Int32)) := D272 (Or.inl (hw _ (List.mem_of_getElem? (i := 71) rfl))) (ty := .int) (by decide)
  refine Go.st (T' := T272.setTop (mkF m 265 #[.val (.int p1), .val (.int p2), .val (.int p3), .val (.int p4), .val (.int p5), .val (.int nv), .val (.int z6), .val (.ref ax), .val (.int z8), .val (.int z9), .val (.int z10), .val (.ref b231), .val (.ref sx), .unset, .unset] [(.ref b272)])) (fun zt zk => st272 zt zk) ?_
  refine Go.st (T' := T272.setTop (mkF m 266 #[.val (.int p1), .val (.int p2), .val (.int p3), .val (.int p4), .val (.int p5), .val (.int nv), .val (.int z6), .val (.ref ax), .val (.int z8), .val (.int z9), .val (.int z10), .val (.ref b231), .val (.ref sx), .unset, .unset] [(.ref b272), (.ref b272)])) (fun zt zk => XS.dup X272.here hx rfl (hb hby at_265) rfl rfl zk) ?_
  have f277 : own_St Z h272 b231 t234 csL := (SLx.ext E272)
  have f278 : own_St Z h272 sx st csS := (SSx.ext E272)
  obtain ⟨vr279, _, ⟨T279, L279, k279, n279⟩, -, X279, ⟨Lc279, hQ279, l279, y279, z279⟩, st279⟩ := X272.specialBack hx (y := (⟨"java/util/ArrayList", "<init>", "()V"⟩ : MethodName)) rfl hown (mvT hZ (hw _ (List.mem_of_getElem? (i := 36) rfl))) (mvT hZ (hw _ (List.mem_of_getElem? (i := 37) rfl))) (mvT hZ (hw _ (List.mem_of_getElem? (i := 38) rfl))) (by decide) (backOf (W := 1) (rmALi l Z a0 hw b272 de h272 n0 (Nat.le_trans Z0 K272.1) (X00.keep K272 all0) Sd A272 g_b272 Fn272_modCount Fn272_elementData Fn272_size) hZ (hw _ (List.mem_of_getElem? (i := 38) rfl)) (hw _ (List.mem_of_getElem? (i := 35) rfl)) (by decide) (by decide)) (g := (mkF m 266 #[.val (.int p1), .val (.int p2), .val (.int p3), .val (.int p4), .val (.int p5), .val (.int nv), .val (.int z6), .val (.ref ax), .val (.int z8), .val (.int z9), .val (.int z10), .val (.ref b231), .val (.ref sx), .unset, .unset] [(.ref b272), (.ref b272)])) rfl (by rw [hml]; rfl) (Steps.refl _) (a := b272) (argsL := []) (rest := [(.ref b272)]) (lenOf pd_a8eb9 rfl) rfl (by show 2 * 0 + _ ≤ _; exact Nat.le_of_eq rfl) (hb hby at_266) (fun _ _ => ⟨rfl, e272, (by decide : 9 + 0 ≤ _), (by decide : 28706 + 0 ≤ _)⟩)
  dsimp only [Pt.U, Pt.locs, Pt.cells, Pt.slots] at X279 l279 y279 z279 st279 hQ279
  subst l279 y279 z279
  obtain ⟨rfl, Nq279, Kq279, E279, Fa279, Fb279, Fc279⟩ := hQ279
  have KK280 : Keep h0 T279.heap [] := K272.trans Kq279 (allS (Or.inr sz_b272) all0)
  have NN281 := Fr.app NK Nq279
  refine Go.st (T' := T279.setTop (mkF m 269 #[.val (.int p1), .val (.int p2), .val (.int p3), .val (.int p4), .val (.int p5), .val (.int nv), .val (.int z6), .val (.ref ax), .val (.int z8), .val (.int z9), .val (.int z10), .val (.ref b231), .val (.ref sx), .unset, .unset] [(.ref b272)])) (fun zt zk => st279.trans zk) ?_
  refine Go.st (T' := T279.setTop (mkF m 271 #[.val (.int p1), .val (.int p2), .val (.int p3), .val (.int p4), .val (.int p5), .val (.int nv), .val (.int z6), .val (.ref ax), .val (.int z8), .val (.int z9), .val (.int z10), .val (.ref b231), .val (.ref sx), .val (.ref b272), .unset] [])) (fun zt zk => XS.astore X279.here hx rfl (hb hby at_269) rfl rfl (l' := #[.val (.int p1), .val (.int p2), .val (.int p3), .val (.int p4), .val (.int p5), .val (.int nv), .val (.int z6), .val (.ref ax), .val (.int z8), .val (.int z9), .val (.int z10), .val (.ref b231), .val (.ref sx), .val (.ref b272), .unset]) rfl zk) ?_
  obtain ⟨T282, h282, X282, e282, E282, A282, D282, U282, st282⟩ := newO X279 hx hZ hown (hw _ (List.mem_of_getElem? (i := 33) rfl)) (hw _ (List.mem_of_getElem? (i := 34) rfl)) (hw _ (List.mem_of_getElem? (i := 35) rfl)) rfl (g := (mkF m 271 #[.val (.int p1), .val (.int p2), .val (.int p3), .val (.int p4), .val (.int p5), .val (.int nv), .val (.int z6), .val (.ref ax), .val (.int z8), .val (.int z9), .val (.int z10), .val (.ref b231), .val (.ref sx), .val (.ref b272), .unset] [])) rfl (hb hby at_271) (by decide) (by decide)
  obtain ⟨b282, g282⟩ : ∃ z, z = T279.heap.size := ⟨_, rfl⟩
  rw [← g282] at A282 D282 U282 st282
  have g_b282 : n0 ≤ b282 := Nat.le_trans (Nat.le_trans Z0 KK280.1) (Nat.le_of_eq g282.symm)
  have sz_b282 : h0.size ≤ b282 := Nat.le_trans KK280.1 (Nat.le_of_eq g282.symm)
  have f283 : own_St Z T279.heap b231 t234 csL := (f277.keep Kq279 (ninS ne273 nin0) (ninS ne274 nin0))
  have ne284 : b231 ≠ b282 := Nat.ne_of_lt (Nat.lt_of_lt_of_le f283.lt1 (Nat.le_of_eq g282.symm))
  have ne285 : t234 ≠ b282 := Nat.ne_of_lt (Nat.lt_of_lt_of_le f283.lt2 (Nat.le_of_eq g282.symm))
  have f286 : own_St Z T279.heap sx st csS := (f278.keep Kq279 (ninS ne275 nin0) (ninS ne276 nin0))
  have ne287 : sx ≠ b282 := Nat.ne_of_lt (Nat.lt_of_lt_of_le f286.lt1 (Nat.le_of_eq g282.symm))
  have ne288 : st ≠ b282 := Nat.ne_of_lt (Nat.lt_of_lt_of_le f286.lt2 (Nat.le_of_eq g282.symm))
  have ne289 : b272 ≠ b282 := Nat.ne_of_lt (Nat.lt_of_lt_of_le E279.lt (Nat.le_of_eq g282.symm))
  have K282 : Keep h0 h282 [] := KK280.ext E282
  have Fn282_modCount : Fld Z h282 b282 "java/util/AbstractList" "modCount" "I" (.int (0 : Int32)) := D282 (Or.inl (hw _ (List.mem_of_getElem? (i := 53) rfl))) (ty := .int) (by decide)
  have Fn282_elementData : Fld Z h282 b282 "java/util/ArrayList" "elementData" "[Ljava/lang/Object;" .null := D282 (Or.inl (hw _ (List.mem_of_getElem? (i := 56) rfl))) (ty := (.array (.object "java/lang/Object"))) (by decide)
  have Fn282_size : Fld Z h282 b282 "java/util/ArrayList" "size" "I" (.int (0 : Int32)) := D282 (Or.inl (hw _ (List.mem_of_getElem? (i := 71) rfl))) (ty := .int) (by decide)
  refine Go.st (T' := T282.setTop (mkF m 274 #[.val (.int p1), .val (.int p2), .val (.int p3), .val (.int p4), .val (.int p5), .val (.int nv), .val (.int z6), .val (.ref ax), .val (.int z8), .val (.int z9), .val (.int z10), .val (.ref b231), .val (.ref sx), .val (.ref b272), .unset] [(.ref b282)])) (fun zt zk => st282 zt zk) ?_
  refine Go.st (T' := T282.setTop (mkF m 275 #[.val (.int p1), .val (.int p2), .val (.int p3), .val (.int p4), .val (.int p5), .val (.int nv), .val (.int z6), .val (.ref ax), .val (.int z8), .val (.int z9), .val (.int z10), .val (.ref b231), .val (.ref sx), .val (.ref b272), .unset] [(.ref b282), (.ref b282)])) (fun zt zk => XS.dup X282.here hx rfl (hb hby at_274) rfl rfl zk) ?_
  have f290 : own_St Z h282 b231 t234 csL := (f283.ext E282)
  have f291 : own_St Z h282 sx st csS := (f286.ext E282)
  have f292 : Exa Z h282 b272 "java/util/ArrayList" := (E279.ext E282)
  have f293 : Fld Z h282 b272 "java/util/AbstractList" "modCount" "I" (.int (0 : Int32)) := (Fa279.ext E282)
  have f294 : Fld Z h282 b272 "java/util/ArrayList" "elementData" "[Ljava/lang/Object;" (.ref de) := (Fb279.ext E282)
  have f295 : Fld Z h282 b272 "java/util/ArrayList" "size" "I" (.int (0 : Int32)) := (Fc279.ext E282)
  obtain ⟨vr296, _, ⟨T296, L296, k296, n296⟩, -, X296, ⟨Lc296, hQ296, l296, y296, z296⟩, st296⟩ := X282.specialBack hx (y := (⟨"java/util/ArrayList", "<init>", "()V"⟩ : MethodName)) rfl hown (mvT hZ (hw _ (List.mem_of_getElem? (i := 36) rfl))) (mvT hZ (hw _ (List.mem_of_getElem? (i := 37) rfl))) (mvT hZ (hw _ (List.mem_of_getElem? (i := 38) rfl))) (by decide) (backOf (W := 1) (rmALi l Z a0 hw b282 de h282 n0 (Nat.le_trans Z0 K282.1) (X00.keep K282 all0) Sd A282 g_b282 Fn282_modCount Fn282_elementData Fn282_size) hZ (hw _ (List.mem_of_getElem? (i := 38) rfl)) (hw _ (List.mem_of_getElem? (i := 35) rfl)) (by decide) (by decide)) (g := (mkF m 275 #[.val (.int p1), .val (.int p2), .val (.int p3), .val (.int p4), .val (.int p5), .val (.int nv), .val (.int z6), .val (.ref ax), .val (.int z8), .val (.int z9), .val (.int z10), .val (.ref b231), .val (.ref sx), .val (.ref b272), .unset] [(.ref b282), (.ref b282)])) rfl (by rw [hml]; rfl) (Steps.refl _) (a := b282) (argsL := []) (rest := [(.ref b282)]) (lenOf pd_a8eb9 rfl) rfl (by show 2 * 0 + _ ≤ _; exact Nat.le_of_eq rfl) (hb hby at_275) (fun _ _ => ⟨rfl, e282, (by decide : 10 + 0 ≤ _), (by decide : 28709 + 0 ≤ _)⟩)
  dsimp only [Pt.U, Pt.locs, Pt.cells, Pt.slots] at X296 l296 y296 z296 st296 hQ296
  subst l296 y296 z296
  obtain ⟨rfl, Nq296, Kq296, E296, Fa296, Fb296, Fc296⟩ := hQ296
  have KK297 : Keep h0 T296.heap [] := K282.trans Kq296 (allS (Or.inr sz_b282) all0)
  have NN298 := Fr.app NN281 Nq296
  refine Go.st (T' := T296.setTop (mkF m 278 #[.val (.int p1), .val (.int p2), .val (.int p3), .val (.int p4), .val (.int p5), .val (.int nv), .val (.int z6), .val (.ref ax), .val (.int z8), .val (.int z9), .val (.int z10), .val (.ref b231), .val (.ref sx), .val (.ref b272), .unset] [(.ref b282)])) (fun zt zk => st296.trans zk) ?_
  refine Go.st (T' := T296.setTop (mkF m 280 #[.val (.int p1), .val (.int p2), .val (.int p3), .val (.int p4), .val (.int p5), .val (.int nv), .val (.int z6), .val (.ref ax), .val (.int z8), .val (.int z9), .val (.int z10), .val (.ref b231), .val (.ref sx), .val (.ref b272), .val (.ref b282)] [])) (fun zt zk => XS.astore X296.here hx rfl (hb hby at_278) rfl rfl (l' := #[.val (.int p1), .val (.int p2), .val (.int p3), .val (.int p4), .val (.int p5), .val (.int nv), .val (.int z6), .val (.ref ax), .val (.int z8), .val (.int z9), .val (.int z10), .val (.ref b231), .val (.ref sx), .val (.ref b272), .val (.ref b282)]) rfl zk) ?_
  rcases Hnv with rfl | rfl | rfl | rfl
  ·
    refine Go.st (T' := T296.setTop (mkF m 282 #[.val (.int p1), .val (.int p2), .val (.int p3), .val (.int p4), .val (.int p5), .val (.int (0 : Int32)), .val (.int z6), .val (.ref ax), .val (.int z8), .val (.int z9), .val (.int z10), .val (.ref b231), .val (.ref sx), .val (.ref b272), .val (.ref b282)] [(.int (0 : Int32))])) (fun zt zk => XS.iload X296.here hx rfl (hb hby at_280) rfl zk) ?_
    refine Go.st (T' := T296.setTop (mkF m 283 #[.val (.int p1), .val (.int p2), .val (.int p3), .val (.int p4), .val (.int p5), .val (.int (0 : Int32)), .val (.int z6), .val (.ref ax), .val (.int z8), .val (.int z9), .val (.int z10), .val (.ref b231), .val (.ref sx), .val (.ref b272), .val (.ref b282)] [(.int (1 : Int32)), (.int (0 : Int32))])) (fun zt zk => XS.iconst X296.here hx rfl (hb hby at_282) zk) ?_
    refine Go.st (T' := T296.setTop (mkF m 320 #[.val (.int p1), .val (.int p2), .val (.int p3), .val (.int p4), .val (.int p5), .val (.int (0 : Int32)), .val (.int z6), .val (.ref ax), .val (.int z8), .val (.int z9), .val (.int z10), .val (.ref b231), .val (.ref sx), .val (.ref b272), .val (.ref b282)] [])) (fun zt zk => XS.icmpYes X296.here hx rfl (pc0 := 283) (pc' := 320) rfl (hb hby at_283) rfl (tlt (by decide)).1 (by decide) (by decide) zk) ?_
    refine Go.st (T' := T296.setTop (mkF m 322 #[.val (.int p1), .val (.int p2), .val (.int p3), .val (.int p4), .val (.int p5), .val (.int (0 : Int32)), .val (.int z6), .val (.ref ax), .val (.int z8), .val (.int z9), .val (.int z10), .val (.ref b231), .val (.ref sx), .val (.ref b272), .val (.ref b282)] [(.int (0 : Int32))])) (fun zt zk => XS.iload X296.here hx rfl (hb hby at_320) rfl zk) ?_
    refine Go.st (T' := T296.setTop (mkF m 323 #[.val (.int p1), .val (.int p2), .val (.int p3), .val (.int p4), .val (.int p5), .val (.int (0 : Int32)), .val (.int z6), .val (.ref ax), .val (.int z8), .val (.int z9), .val (.int z10), .val (.ref b231), .val (.ref sx), .val (.ref b272), .val (.ref b282)] [(.int (2 : Int32)), (.int (0 : Int32))])) (fun zt zk => XS.iconst X296.here hx rfl (hb hby at_322) zk) ?_
    refine Go.st (T' := T296.setTop (mkF m 360 #[.val (.int p1), .val (.int p2), .val (.int p3), .val (.int p4), .val (.int p5), .val (.int (0 : Int32)), .val (.int z6), .val (.ref ax), .val (.int z8), .val (.int z9), .val (.int z10), .val (.ref b231), .val (.ref sx), .val (.ref b272), .val (.ref b282)] [])) (fun zt zk => XS.icmpYes X296.here hx rfl (pc0 := 323) (pc' := 360) rfl (hb hby at_323) rfl (tlt (by decide)).1 (by decide) (by decide) zk) ?_
    refine Go.st (T' := T296.setTop (mkF m 362 #[.val (.int p1), .val (.int p2), .val (.int p3), .val (.int p4), .val (.int p5), .val (.int (0 : Int32)), .val (.int z6), .val (.ref ax), .val (.int z8), .val (.int z9), .val (.int z10), .val (.ref b231), .val (.ref sx), .val (.ref b272), .val (.ref b282)] [(.int (0 : Int32))])) (fun zt zk => XS.iload X296.here hx rfl (hb hby at_360) rfl zk) ?_
    refine Go.st (T' := T296.setTop (mkF m 363 #[.val (.int p1), .val (.int p2), .val (.int p3), .val (.int p4), .val (.int p5), .val (.int (0 : Int32)), .val (.int z6), .val (.ref ax), .val (.int z8), .val (.int z9), .val (.int z10), .val (.ref b231), .val (.ref sx), .val (.ref b272), .val (.ref b282)] [(.int (3 : Int32)), (.int (0 : Int32))])) (fun zt zk => XS.iconst X296.here hx rfl (hb hby at_362) zk) ?_
    refine Go.st (T' := T296.setTop (mkF m 400 #[.val (.int p1), .val (.int p2), .val (.int p3), .val (.int p4), .val (.int p5), .val (.int (0 : Int32)), .val (.int z6), .val (.ref ax), .val (.int z8), .val (.int z9), .val (.int z10), .val (.ref b231), .val (.ref sx), .val (.ref b272), .val (.ref b282)] [])) (fun zt zk => XS.icmpYes X296.here hx rfl (pc0 := 363) (pc' := 400) rfl (hb hby at_363) rfl (tlt (by decide)).1 (by decide) (by decide) zk) ?_
    refine Go.st (T' := T296.setTop (mkF m 402 #[.val (.int p1), .val (.int p2), .val (.int p3), .val (.int p4), .val (.int p5), .val (.int (0 : Int32)), .val (.int z6), .val (.ref ax), .val (.int z8), .val (.int z9), .val (.int z10), .val (.ref b231), .val (.ref sx), .val (.ref b272), .val (.ref b282)] [(.ref b272)])) (fun zt zk => XS.aload X296.here hx rfl (hb hby at_400) rfl rfl zk) ?_
    refine Go.st (T' := T296.setTop (mkF m 404 #[.val (.int p1), .val (.int p2), .val (.int p3), .val (.int p4), .val (.int p5), .val (.int (0 : Int32)), .val (.int z6), .val (.ref ax), .val (.int z8), .val (.int z9), .val (.int z10), .val (.ref b231), .val (.ref sx), .val (.ref b272), .val (.ref b282)] [(.ref b282), (.ref b272)])) (fun zt zk => XS.aload X296.here hx rfl (hb hby at_402) rfl rfl zk) ?_
    have f299 : own_St Z T296.heap b231 t234 csL := (f290.keep Kq296 (ninS ne284 nin0) (ninS ne285 nin0))
    have f300 : own_St Z T296.heap sx st csS := (f291.keep Kq296 (ninS ne287 nin0) (ninS ne288 nin0))
    have hSy : ∀ y, (y = b231 ∨ y = sx) → ∃ (t : Addr) (cs : List Int32), own_St Z T296.heap y t cs ∧ own_ok cs := by
      intro y hy
      rcases hy with q | q
      · rw [q]; exact ⟨_, _, f299, okL⟩
      · rw [q]; exact ⟨_, _, f300, okS⟩
    obtain ⟨vr301, _, ⟨T301, L301, k301, n301⟩, -, X301, ⟨Lc301, hQ301, l301, y301, z301⟩, st301⟩ := Jvm.LawKit.callS X296 hx (y := (⟨"com/example/librole/librole/textfile/TextFile", "refuseEmptyOrTooLong", "(Ljava/util/List;Ljava/util/List;)V"⟩ : MethodName)) hown (mvT hZ (hw _ (List.mem_of_getElem? (i := 57) rfl))) (mvT hZ (hw _ (List.mem_of_getElem? (i := 58) rfl))) (mvT hZ (hw _ (List.mem_of_getElem? (i := 59) rfl))) (mvT hZ (hw _ (List.mem_of_getElem? (i := 60) rfl))) (by decide) (backOf (W := 0) (rmRef l Z a0 hw b272 b282 ([] : List Addr) T296.heap n0 (Nat.le_trans Z0 KK297.1) G1 O2 P5 (X00.keep KK297 all0) A1 A2 A3 E296 (show Fld Z T296.heap b282 "java/util/ArrayList" "size" "I" (.int (Int32.ofNat ([] : List Addr).length)) from Fc296) (fun q => absurd q (Nat.lt_irrefl 0)) (Nat.le_of_ble_eq_true rfl) (fun y hy => absurd hy List.not_mem_nil)) hZ (hw _ (List.mem_of_getElem? (i := 60) rfl)) (hw _ (List.mem_of_getElem? (i := 59) rfl)) (by decide) (by decide)) (g := (mkF m 404 #[.val (.int p1), .val (.int p2), .val (.int p3), .val (.int p4), .val (.int p5), .val (.int (0 : Int32)), .val (.int z6), .val (.ref ax), .val (.int z8), .val (.int z9), .val (.int z10), .val (.ref b231), .val (.ref sx), .val (.ref b272), .val (.ref b282)] [(.ref b282), (.ref b272)])) rfl (by rw [hml]; rfl) (argsL := [(.ref b272), (.ref b282)]) (rest := []) (lenOf pd_b86c906 rfl) rfl (by show 2 * 0 + _ ≤ _; exact Nat.le_of_eq rfl) (hb hby at_404) (fun _ _ => ⟨rfl, rfl, (by decide : 10 + 0 ≤ _), (by decide : 28709 + 0 ≤ _)⟩)
    dsimp only [Pt.U, Pt.locs, Pt.cells, Pt.slots] at X301 l301 y301 z301 st301 hQ301
    subst l301 y301 z301
    obtain ⟨rfl, Nq301, eq301⟩ := hQ301
    have NN302 := Fr.app NN298 Nq301
    refine Go.st (T' := T301.setTop (mkF m 407 #[.val (.int p1), .val (.int p2), .val (.int p3), .val (.int p4), .val (.int p5), .val (.int (0 : Int32)), .val (.int z6), .val (.ref ax), .val (.int z8), .val (.int z9), .val (.int z10), .val (.ref b231), .val (.ref sx), .val (.ref b272), .val (.ref b282)] [])) (fun zt zk => st301 zt zk) ?_
    refine Go.st (T' := T301.setTop (mkF m 409 #[.val (.int p1), .val (.int p2), .val (.int p3), .val (.int p4), .val (.int p5), .val (.int (0 : Int32)), .val (.int z6), .val (.ref ax), .val (.int z8), .val (.int z9), .val (.int z10), .val (.ref b231), .val (.ref sx), .val (.ref b272), .val (.ref b282)] [(.ref b282)])) (fun zt zk => XS.aload X301.here hx rfl (hb hby at_407) rfl rfl zk) ?_
    obtain ⟨cq303, kq303, q303a, q303b, q303c⟩ := isOf hZ eq301 E296
    obtain ⟨vr303, _, ⟨T303, L303, k303, n303⟩, -, X303, ⟨Lc303, hQ303, l303, y303, z303⟩, st303⟩ := X301.interfaceBack hx (xi := (⟨"java/util/List", "size", "()I"⟩ : MethodName)) (y := (⟨"java/util/ArrayList", "size", "()I"⟩ : MethodName)) hown (mvT hZ (hw _ (List.mem_of_getElem? (i := 72) rfl))) (mvT hZ (hw _ (List.mem_of_getElem? (i := 62) rfl))) (mvT hZ (hw _ (List.mem_of_getElem? (i := 63) rfl))) (mvT hZ (hw _ (List.mem_of_getElem? (i := 64) rfl))) (mvT hZ (hw _ (List.mem_of_getElem? (i := 65) rfl))) (mvT hZ (hw _ (List.mem_of_getElem? (i := 66) rfl))) (mvT hZ (hw _ (List.mem_of_getElem? (i := 67) rfl))) (mvT hZ (hw _ (List.mem_of_getElem? (i := 68) rfl))) (by decide) (backOf (W := 0) (rmSize l Z a0 hw b282 (Int32.ofNat ([] : List Addr).length) T296.heap n0 (Nat.le_trans Z0 KK297.1) (show Fld Z T296.heap b282 "java/util/ArrayList" "size" "I" (.int (Int32.ofNat ([] : List Addr).length)) from Fc296)) hZ (hw _ (List.mem_of_getElem? (i := 69) rfl)) (hw _ (List.mem_of_getElem? (i := 35) rfl)) (by decide) (by decide)) q303a q303b q303c (g := (mkF m 409 #[.val (.int p1), .val (.int p2), .val (.int p3), .val (.int p4), .val (.int p5), .val (.int (0 : Int32)), .val (.int z6), .val (.ref ax), .val (.int z8), .val (.int z9), .val (.int z10), .val (.ref b231), .val (.ref sx), .val (.ref b272), .val (.ref b282)] [(.ref b282)])) rfl (by rw [hml]; rfl) (Steps.refl _) (argsL := []) (rest := []) (lenOf pd_a8eac rfl) rfl (by show 2 * 0 + _ ≤ _; exact Nat.le_of_eq rfl) (hb hby at_409) (fun _ _ => ⟨rfl, eq301, (by decide : 10 + 0 ≤ _), (by decide : 28709 + 0 ≤ _)⟩)
    dsimp only [Pt.U, Pt.locs, Pt.cells, Pt.slots] at X303 l303 y303 z303 st303 hQ303
    subst l303 y303 z303
    obtain ⟨rfl, Nq303, eq303⟩ := hQ303
    have NN304 := Fr.app NN302 Nq303
    refine Go.st (T' := T303.setTop (mkF m 414 #[.val (.int p1), .val (.int p2), .val (.int p3), .val (.int p4), .val (.int p5), .val (.int (0 : Int32)), .val (.int z6), .val (.ref ax), .val (.int z8), .val (.int z9), .val (.int z10), .val (.ref b231), .val (.ref sx), .val (.ref b272), .val (.ref b282)] [(.int (Int32.ofNat ([] : List Addr).length))])) (fun zt zk => st303.trans zk) ?_
    refine Go.st (T' := T303.setTop (mkF m 416 #[.val (.int p1), .val (.int p2), .val (.int p3), .val (.int p4), .val (.int p5), .val (.int (0 : Int32)), .val (.int z6), .val (.ref ax), .val (.int z8), .val (.int z9), .val (.int z10), .val (.ref b231), .val (.ref sx), .val (.ref b272), .val (.ref b282)] [(.int (0 : Int32)), (.int (Int32.ofNat ([] : List Addr).length))])) (fun zt zk => XS.iload X303.here hx rfl (hb hby at_414) rfl zk) ?_
    refine Go.st (T' := T303.setTop (mkF m 419 #[.val (.int p1), .val (.int p2), .val (.int p3), .val (.int p4), .val (.int p5), .val (.int (0 : Int32)), .val (.int z6), .val (.ref ax), .val (.int z8), .val (.int z9), .val (.int z10), .val (.ref b231), .val (.ref sx), .val (.ref b272), .val (.ref b282)] [])) (fun zt zk => XS.icmpNo X303.here hx rfl (hb hby at_416) rfl (teq rfl).2 zk) ?_
    refine Go.st (T' := T303.setTop (mkF m 420 #[.val (.int p1), .val (.int p2), .val (.int p3), .val (.int p4), .val (.int p5), .val (.int (0 : Int32)), .val (.int z6), .val (.ref ax), .val (.int z8), .val (.int z9), .val (.int z10), .val (.ref b231), .val (.ref sx), .val (.ref b272), .val (.ref b282)] [(.int (1 : Int32))])) (fun zt zk => XS.iconst X303.here hx rfl (hb hby at_419) zk) ?_
    refine Go.st (T' := T303.setTop (mkF m 424 #[.val (.int p1), .val (.int p2), .val (.int p3), .val (.int p4), .val (.int p5), .val (.int (0 : Int32)), .val (.int z6), .val (.ref ax), .val (.int z8), .val (.int z9), .val (.int z10), .val (.ref b231), .val (.ref sx), .val (.ref b272), .val (.ref b282)] [(.int (1 : Int32))])) (fun zt zk => XS.goto X303.here hx rfl (pc0 := 420) (pc' := 424) rfl (hb hby at_420) (by decide) (by decide) zk) ?_
    exact Go.done X303 Bd.notSynchronized (v := some (.int (nar .boolean (1 : Int32)))) (fun h => by rw [Bd.returns] at h; cases h) (fun fs hr => retN X303 hx (t := .boolean) Bd.returns (by simp) (hb hby at_424) hr) (by rw [eq303]; exact ⟨rfl, NN304⟩) (by decide) (by decide)
  ·
    refine Go.st (T' := T296.setTop (mkF m 282 #[.val (.int p1), .val (.int p2), .val (.int p3), .val (.int p4), .val (.int p5), .val (.int (1 : Int32)), .val (.int z6), .val (.ref ax), .val (.int z8), .val (.int z9), .val (.int z10), .val (.ref b231), .val (.ref sx), .val (.ref b272), .val (.ref b282)] [(.int (1 : Int32))])) (fun zt zk => XS.iload X296.here hx rfl (hb hby at_280) rfl zk) ?_
    refine Go.st (T' := T296.setTop (mkF m 283 #[.val (.int p1), .val (.int p2), .val (.int p3), .val (.int p4), .val (.int p5), .val (.int (1 : Int32)), .val (.int z6), .val (.ref ax), .val (.int z8), .val (.int z9), .val (.int z10), .val (.ref b231), .val (.ref sx), .val (.ref b272), .val (.ref b282)] [(.int (1 : Int32)), (.int (1 : Int32))])) (fun zt zk => XS.iconst X296.here hx rfl (hb hby at_282) zk) ?_
    refine Go.st (T' := T296.setTop (mkF m 286 #[.val (.int p1), .val (.int p2), .val (.int p3), .val (.int p4), .val (.int p5), .val (.int (1 : Int32)), .val (.int z6), .val (.ref ax), .val (.int z8), .val (.int z9), .val (.int z10), .val (.ref b231), .val (.ref sx), .val (.ref b272), .val (.ref b282)] [])) (fun zt zk => XS.icmpNo X296.here hx rfl (hb hby at_283) rfl (flt (by decide)).1 zk) ?_
    refine Go.st (T' := T296.setTop (mkF m 288 #[.val (.int p1), .val (.int p2), .val (.int p3), .val (.int p4), .val (.int p5), .val (.int (1 : Int32)), .val (.int z6), .val (.ref ax), .val (.int z8), .val (.int z9), .val (.int z10), .val (.ref b231), .val (.ref sx), .val (.ref b272), .val (.ref b282)] [(.ref b272)])) (fun zt zk => XS.aload X296.here hx rfl (hb hby at_286) rfl rfl zk) ?_
    refine Go.st (T' := T296.setTop (mkF m 290 #[.val (.int p1), .val (.int p2), .val (.int p3), .val (.int p4), .val (.int p5), .val (.int (1 : Int32)), .val (.int z6), .val (.ref ax), .val (.int z8), .val (.int z9), .val (.int z10), .val (.ref b231), .val (.ref sx), .val (.ref b272), .val (.ref b282)] [(.int (97 : Int32)), (.ref b272)])) (fun zt zk => XS.bipush X296.here hx rfl (hb hby at_288) zk) ?_
    obtain ⟨vr305, _, ⟨T305, L305, k305, n305⟩, -, X305, ⟨Lc305, hQ305, l305, y305, z305⟩, st305⟩ := Jvm.LawKit.callS X296 hx (y := (⟨"java/lang/String", "valueOf", "(C)Ljava/lang/String;"⟩ : MethodName)) hown (mvT hZ (hw _ (List.mem_of_getElem? (i := 73) rfl))) (mvT hZ (hw _ (List.mem_of_getElem? (i := 74) rfl))) (mvT hZ (hw _ (List.mem_of_getElem? (i := 6) rfl))) (mvT hZ (hw _ (List.mem_of_getElem? (i := 75) rfl))) (by decide) (backOf (W := 1) (rmVal l Z a0 hw (97 : Int32) T296.heap n0 (Nat.le_trans Z0 KK297.1) G1 O2 P5 (X00.keep KK297 all0) (by decide)) hZ (hw _ (List.mem_of_getElem? (i := 75) rfl)) (hw _ (List.mem_of_getElem? (i := 6) rfl)) (by decide) (by decide)) (g := (mkF m 290 #[.val (.int p1), .val (.int p2), .val (.int p3), .val (.int p4), .val (.int p5), .val (.int (1 : Int32)), .val (.int z6), .val (.ref ax), .val (.int z8), .val (.int z9), .val (.int z10), .val (.ref b231), .val (.ref sx), .val (.ref b272), .val (.ref b282)] [(.int (97 : Int32)), (.ref b272)])) rfl (by rw [hml]; rfl) (argsL := [(.int (97 : Int32))]) (rest := [(.ref b272)]) (lenOf pd_b5a46ce rfl) rfl (by show 2 * 0 + _ ≤ _; exact Nat.le_of_eq rfl) (hb hby at_290) (fun _ _ => ⟨rfl, rfl, (by decide : 10 + 2 ≤ _), (by decide : 28709 + 5 ≤ _)⟩)
    dsimp only [Pt.U, Pt.locs, Pt.cells, Pt.slots] at X305 l305 y305 z305 st305 hQ305
    subst l305 y305 z305
    obtain ⟨Nq305, Kq305, vx305, rfl, Ev305⟩ := hQ305
    have KK306 : Keep h0 T305.heap [] := KK297.trans Kq305 all0
    have NN307 := Fr.app NN298 Nq305
    refine Go.st (T' := T305.setTop (mkF m 293 #[.val (.int p1), .val (.int p2), .val (.int p3), .val (.int p4), .val (.int p5), .val (.int (1 : Int32)), .val (.int z6), .val (.ref ax), .val (.int z8), .val (.int z9), .val (.int z10), .val (.ref b231), .val (.ref sx), .val (.ref b272), .val (.ref b282)] [(.ref vx305), (.ref b272)])) (fun zt zk => st305 zt zk) ?_
    have f308 : own_St Z T305.heap b231 t234 csL := ((f290.keep Kq296 (ninS ne284 nin0) (ninS ne285 nin0)).keep Kq305 nin0 nin0)
    have f309 : own_St Z T305.heap sx st csS := ((f291.keep Kq296 (ninS ne287 nin0) (ninS ne288 nin0)).keep Kq305 nin0 nin0)
    have f310 : Exa Z T305.heap b272 "java/util/ArrayList" := ((f292.keep Kq296).keep Kq305)
    have f311 : Fld Z T305.heap b272 "java/util/AbstractList" "modCount" "I" (.int (0 : Int32)) := ((f293.keep Kq296 (ninS ne289 nin0)).keep Kq305 nin0)
    have f312 : Fld Z T305.heap b272 "java/util/ArrayList" "elementData" "[Ljava/lang/Object;" (.ref de) := ((f294.keep Kq296 (ninS ne289 nin0)).keep Kq305 nin0)
    have f313 : Fld Z T305.heap b272 "java/util/ArrayList" "size" "I" (.int (0 : Int32)) := ((f295.keep Kq296 (ninS ne289 nin0)).keep Kq305 nin0)
    have f314 : Exa Z T305.heap b282 "java/util/ArrayList" := (E296.keep Kq305)
    have f315 : Fld Z T305.heap b282 "java/util/AbstractList" "modCount" "I" (.int (0 : Int32)) := (Fa296.keep Kq305 nin0)
    have f316 : Fld Z T305.heap b282 "java/util/ArrayList" "elementData" "[Ljava/lang/Object;" (.ref de) := (Fb296.keep Kq305 nin0)
    have f317 : Fld Z T305.heap b282 "java/util/ArrayList" "size" "I" (.int (0 : Int32)) := (Fc296.keep Kq305 nin0)
    obtain ⟨cq318, kq318, q318a, q318b, q318c⟩ := isOf hZ rfl f310
    obtain ⟨vr318, _, ⟨T318, L318, k318, n318⟩, -, X318, ⟨Lc318, hQ318, l318, y318, z318⟩, st318⟩ := X305.interfaceBack hx (xi := (⟨"java/util/List", "add", "(Ljava/lang/Object;)Z"⟩ : MethodName)) (y := (⟨"java/util/ArrayList", "add", "(Ljava/lang/Object;)Z"⟩ : MethodName)) hown (mvT hZ (hw _ (List.mem_of_getElem? (i := 87) rfl))) (mvT hZ (hw _ (List.mem_of_getElem? (i := 88) rfl))) (mvT hZ (hw _ (List.mem_of_getElem? (i := 89) rfl))) (mvT hZ (hw _ (List.mem_of_getElem? (i := 90) rfl))) (mvT hZ (hw _ (List.mem_of_getElem? (i := 91) rfl))) (mvT hZ (hw _ (List.mem_of_getElem? (i := 92) rfl))) (mvT hZ (hw _ (List.mem_of_getElem? (i := 93) rfl))) (mvT hZ (hw _ (List.mem_of_getElem? (i := 68) rfl))) (by decide) (backOf (W := 0) (rmAddA l Z a0 hw b272 vx305 de _ T305.heap n0 (Nat.le_trans Z0 KK306.1) (X00.keep KK306 all0) Sd (Bde0.ext (X00.keep KK306 all0).2) f310 g_b272 f311 f312 f313 Ev305 lde) hZ (hw _ (List.mem_of_getElem? (i := 94) rfl)) (hw _ (List.mem_of_getElem? (i := 35) rfl)) (by decide) (by decide)) q318a q318b q318c (g := (mkF m 293 #[.val (.int p1), .val (.int p2), .val (.int p3), .val (.int p4), .val (.int p5), .val (.int (1 : Int32)), .val (.int z6), .val (.ref ax), .val (.int z8), .val (.int z9), .val (.int z10), .val (.ref b231), .val (.ref sx), .val (.ref b272), .val (.ref b282)] [(.ref vx305), (.ref b272)])) rfl (by rw [hml]; rfl) (Steps.refl _) (argsL := [(.ref vx305)]) (rest := []) (lenOf pd_a0133a8 rfl) rfl (by show 2 * 0 + _ ≤ _; exact Nat.le_of_eq rfl) (hb hby at_293) (fun _ _ => ⟨rfl, rfl, (by decide : 12 + 1 ≤ _), (by decide : 28714 + 10 ≤ _)⟩)
    dsimp only [Pt.U, Pt.locs, Pt.cells, Pt.slots] at X318 l318 y318 z318 st318 hQ318
    subst l318 y318 z318
    obtain ⟨rfl, Nq318, Kq318, ed318, ke318, sy318, R318⟩ := hQ318
    have ne319 : b231 ≠ ed318 := Nat.ne_of_lt (Nat.lt_of_lt_of_le f308.lt1 sy318)
    have ne320 : t234 ≠ ed318 := Nat.ne_of_lt (Nat.lt_of_lt_of_le f308.lt2 sy318)
    have ne321 : sx ≠ ed318 := Nat.ne_of_lt (Nat.lt_of_lt_of_le f309.lt1 sy318)
    have ne322 : st ≠ ed318 := Nat.ne_of_lt (Nat.lt_of_lt_of_le f309.lt2 sy318)
    have ne323 : b272 ≠ ed318 := Nat.ne_of_lt (Nat.lt_of_lt_of_le f310.lt sy318)
    have ne324 : b282 ≠ ed318 := Nat.ne_of_lt (Nat.lt_of_lt_of_le f314.lt sy318)
    have sz_ed318 : h0.size ≤ ed318 := Nat.le_trans KK306.1 sy318
    have g_ed318 : n0 ≤ ed318 := Nat.le_trans Z0 sz_ed318
    have KK325 : Keep h0 T318.heap [] := KK306.trans Kq318 (allS (Or.inr sz_b272) all0)
    have NN326 := Fr.app NN307 Nq318
    refine Go.st (T' := T318.setTop (mkF m 298 #[.val (.int p1), .val (.int p2), .val (.int p3), .val (.int p4), .val (.int p5), .val (.int (1 : Int32)), .val (.int z6), .val (.ref ax), .val (.int z8), .val (.int z9), .val (.int z10), .val (.ref b231), .val (.ref sx), .val (.ref b272), .val (.ref b282)] [(.int (1 : Int32))])) (fun zt zk => st318.trans zk) ?_
    refine Go.st (T' := T318.setTop (mkF m 299 #[.val (.int p1), .val (.int p2), .val (.int p3), .val (.int p4), .val (.int p5), .val (.int (1 : Int32)), .val (.int z6), .val (.ref ax), .val (.int z8), .val (.int z9), .val (.int z10), .val (.ref b231), .val (.ref sx), .val (.ref b272), .val (.ref b282)] [])) (fun zt zk => XS.pop X318.here hx rfl (hb hby at_298) rfl rfl zk) ?_
    refine Go.st (T' := T318.setTop (mkF m 301 #[.val (.int p1), .val (.int p2), .val (.int p3), .val (.int p4), .val (.int p5), .val (.int (1 : Int32)), .val (.int z6), .val (.ref ax), .val (.int z8), .val (.int z9), .val (.int z10), .val (.ref b231), .val (.ref sx), .val (.ref b272), .val (.ref b282)] [(.ref b282)])) (fun zt zk => XS.aload X318.here hx rfl (hb hby at_299) rfl rfl zk) ?_
    refine Go.st (T' := T318.setTop (mkF m 302 #[.val (.int p1), .val (.int p2), .val (.int p3), .val (.int p4), .val (.int p5), .val (.int (1 : Int32)), .val (.int z6), .val (.ref ax), .val (.int z8), .val (.int z9), .val (.int z10), .val (.ref b231), .val (.ref sx), .val (.ref b272), .val (.ref b282)] [(.int p4), (.ref b282)])) (fun zt zk => XS.iloadN X318.here hx rfl (hb hby at_301) rfl zk) ?_
    refine Go.st (T' := T318.setTop (mkF m 303 #[.val (.int p1), .val (.int p2), .val (.int p3), .val (.int p4), .val (.int p5), .val (.int (1 : Int32)), .val (.int z6), .val (.ref ax), .val (.int z8), .val (.int z9), .val (.int z10), .val (.ref b231), .val (.ref sx), .val (.ref b272), .val (.ref b282)] [(.int (1 : Int32)), (.int p4), (.ref b282)])) (fun zt zk => XS.iconst X318.here hx rfl (hb hby at_302) zk) ?_
    refine Go.st (T' := T318.setTop (mkF m 304 #[.val (.int p1), .val (.int p2), .val (.int p3), .val (.int p4), .val (.int p5), .val (.int (1 : Int32)), .val (.int z6), .val (.ref ax), .val (.int z8), .val (.int z9), .val (.int z10), .val (.ref b231), .val (.ref sx), .val (.ref b272), .val (.ref b282)] [(.int (p4 &&& (1 : Int32))), (.ref b282)])) (fun zt zk => XS.iand X318.here hx rfl (hb hby at_303) rfl zk) ?_
    suffices Jyy1 : ∀ yy1 : Addr, (yy1 = b231 ∨ yy1 = sx) → Go p e below (T318.setTop (mkF m 314 #[.val (.int p1), .val (.int p2), .val (.int p3), .val (.int p4), .val (.int p5), .val (.int (1 : Int32)), .val (.int z6), .val (.ref ax), .val (.int z8), .val (.int z9), .val (.int z10), .val (.ref b231), .val (.ref sx), .val (.ref b272), .val (.ref b282)] [(.ref yy1), (.ref b282)])) (EndN s (Q_rm0 Z p1 p2 p3 p4 p5 h0 n0) room_1.cells room_1.slots) by
      by_cases hcyy1 : (p4 &&& (1 : Int32)) = (0 : Int32)
      ·
        refine Go.st (T' := T318.setTop (mkF m 312 #[.val (.int p1), .val (.int p2), .val (.int p3), .val (.int p4), .val (.int p5), .val (.int (1 : Int32)), .val (.int z6), .val (.ref ax), .val (.int z8), .val (.int z9), .val (.int z10), .val (.ref b231), .val (.ref sx), .val (.ref b272), .val (.ref b282)] [(.ref b282)])) (fun zt zk => XS.ifYes X318.here hx rfl (pc0 := 304) (pc' := 312) rfl (hb hby at_304) rfl ((if0 _ _).trans (teq hcyy1).1) (by decide) (by decide) zk) ?_
        refine Go.st (T' := T318.setTop (mkF m 314 #[.val (.int p1), .val (.int p2), .val (.int p3), .val (.int p4), .val (.int p5), .val (.int (1 : Int32)), .val (.int z6), .val (.ref ax), .val (.int z8), .val (.int z9), .val (.int z10), .val (.ref b231), .val (.ref sx), .val (.ref b272), .val (.ref b282)] [(.ref sx), (.ref b282)])) (fun zt zk => XS.aload X318.here hx rfl (hb hby at_312) rfl rfl zk) ?_
        exact Jyy1 _ (Or.inr rfl)
      ·
        refine Go.st (T' := T318.setTop (mkF m 307 #[.val (.int p1), .val (.int p2), .val (.int p3), .val (.int p4), .val (.int p5), .val (.int (1 : Int32)), .val (.int z6), .val (.ref ax), .val (.int z8), .val (.int z9), .val (.int z10), .val (.ref b231), .val (.ref sx), .val (.ref b272), .val (.ref b282)] [(.ref b282)])) (fun zt zk => XS.ifNo X318.here hx rfl (hb hby at_304) rfl ((if0 _ _).trans (feq hcyy1).1) zk) ?_
        refine Go.st (T' := T318.setTop (mkF m 309 #[.val (.int p1), .val (.int p2), .val (.int p3), .val (.int p4), .val (.int p5), .val (.int (1 : Int32)), .val (.int z6), .val (.ref ax), .val (.int z8), .val (.int z9), .val (.int z10), .val (.ref b231), .val (.ref sx), .val (.ref b272), .val (.ref b282)] [(.ref b231), (.ref b282)])) (fun zt zk => XS.aload X318.here hx rfl (hb hby at_307) rfl rfl zk) ?_
        refine Go.st (T' := T318.setTop (mkF m 314 #[.val (.int p1), .val (.int p2), .val (.int p3), .val (.int p4), .val (.int p5), .val (.int (1 : Int32)), .val (.int z6), .val (.ref ax), .val (.int z8), .val (.int z9), .val (.int z10), .val (.ref b231), .val (.ref sx), .val (.ref b272), .val (.ref b282)] [(.ref b231), (.ref b282)])) (fun zt zk => XS.goto X318.here hx rfl (pc0 := 309) (pc' := 314) rfl (hb hby at_309) (by decide) (by decide) zk) ?_
        exact Jyy1 _ (Or.inl rfl)
    intro yy1 h_yy1
    have f327 : own_St Z T318.heap b231 t234 csL := (f308.keep Kq318 (ninS ne273 nin0) (ninS ne274 nin0))
    have f328 : own_St Z T318.heap sx st csS := (f309.keep Kq318 (ninS ne275 nin0) (ninS ne276 nin0))
    have Ey1 : Exa Z T318.heap yy1 "java/lang/String" := by
      rcases h_yy1 with q | q
      · rw [q]; exact (f327).1
      · rw [q]; exact (f328).1
    have f329 : Exa Z T318.heap b282 "java/util/ArrayList" := (f314.keep Kq318)
    have f330 : Fld Z T318.heap b282 "java/util/AbstractList" "modCount" "I" (.int (0 : Int32)) := (f315.keep Kq318 (ninS (Ne.symm ne289) nin0))
    have f331 : Fld Z T318.heap b282 "java/util/ArrayList" "elementData" "[Ljava/lang/Object;" (.ref de) := (f316.keep Kq318 (ninS (Ne.symm ne289) nin0))
    have f332 : Fld Z T318.heap b282 "java/util/ArrayList" "size" "I" (.int (0 : Int32)) := (f317.keep Kq318 (ninS (Ne.symm ne289) nin0))
    obtain ⟨cq333, kq333, q333a, q333b, q333c⟩ := isOf hZ rfl f329
    obtain ⟨vr333, _, ⟨T333, L333, k333, n333⟩, -, X333, ⟨Lc333, hQ333, l333, y333, z333⟩, st333⟩ := X318.interfaceBack hx (xi := (⟨"java/util/List", "add", "(Ljava/lang/Object;)Z"⟩ : MethodName)) (y := (⟨"java/util/ArrayList", "add", "(Ljava/lang/Object;)Z"⟩ : MethodName)) hown (mvT hZ (hw _ (List.mem_of_getElem? (i := 87) rfl))) (mvT hZ (hw _ (List.mem_of_getElem? (i := 88) rfl))) (mvT hZ (hw _ (List.mem_of_getElem? (i := 89) rfl))) (mvT hZ (hw _ (List.mem_of_getElem? (i := 90) rfl))) (mvT hZ (hw _ (List.mem_of_getElem? (i := 91) rfl))) (mvT hZ (hw _ (List.mem_of_getElem? (i := 92) rfl))) (mvT hZ (hw _ (List.mem_of_getElem? (i := 93) rfl))) (mvT hZ (hw _ (List.mem_of_getElem? (i := 68) rfl))) (by decide) (backOf (W := 0) (rmAddA l Z a0 hw b282 yy1 de _ T318.heap n0 (Nat.le_trans Z0 KK325.1) (X00.keep KK325 all0) Sd (Bde0.ext (X00.keep KK325 all0).2) f329 g_b282 f330 f331 f332 Ey1 lde) hZ (hw _ (List.mem_of_getElem? (i := 94) rfl)) (hw _ (List.mem_of_getElem? (i := 35) rfl)) (by decide) (by decide)) q333a q333b q333c (g := (mkF m 314 #[.val (.int p1), .val (.int p2), .val (.int p3), .val (.int p4), .val (.int p5), .val (.int (1 : Int32)), .val (.int z6), .val (.ref ax), .val (.int z8), .val (.int z9), .val (.int z10), .val (.ref b231), .val (.ref sx), .val (.ref b272), .val (.ref b282)] [(.ref yy1), (.ref b282)])) rfl (by rw [hml]; rfl) (Steps.refl _) (argsL := [(.ref yy1)]) (rest := []) (lenOf pd_a0133a8 rfl) rfl (by show 2 * 0 + _ ≤ _; exact Nat.le_of_eq rfl) (hb hby at_314) (fun _ _ => ⟨rfl, rfl, (by decide : 13 + 1 ≤ _), (by decide : 28724 + 10 ≤ _)⟩)
    dsimp only [Pt.U, Pt.locs, Pt.cells, Pt.slots] at X333 l333 y333 z333 st333 hQ333
    subst l333 y333 z333
    obtain ⟨rfl, Nq333, Kq333, ed333, ke333, sy333, R333⟩ := hQ333
    have ne334 : b231 ≠ ed333 := Nat.ne_of_lt (Nat.lt_of_lt_of_le f327.lt1 sy333)
    have ne335 : t234 ≠ ed333 := Nat.ne_of_lt (Nat.lt_of_lt_of_le f327.lt2 sy333)
    have ne336 : sx ≠ ed333 := Nat.ne_of_lt (Nat.lt_of_lt_of_le f328.lt1 sy333)
    have ne337 : st ≠ ed333 := Nat.ne_of_lt (Nat.lt_of_lt_of_le f328.lt2 sy333)
    have ne338 : b272 ≠ ed333 := Nat.ne_of_lt (Nat.lt_of_lt_of_le R318.lt1 sy333)
    have ne339 : b282 ≠ ed333 := Nat.ne_of_lt (Nat.lt_of_lt_of_le f329.lt sy333)
    have ne340 : ed318 ≠ ed333 := Nat.ne_of_lt (Nat.lt_of_lt_of_le R318.lt2 sy333)
    have sz_ed333 : h0.size ≤ ed333 := Nat.le_trans KK325.1 sy333
    have g_ed333 : n0 ≤ ed333 := Nat.le_trans Z0 sz_ed333
    have KK341 : Keep h0 T333.heap [] := KK325.trans Kq333 (allS (Or.inr sz_b282) all0)
    have NN342 := Fr.app NN326 Nq333
    refine Go.st (T' := T333.setTop (mkF m 319 #[.val (.int p1), .val (.int p2), .val (.int p3), .val (.int p4), .val (.int p5), .val (.int (1 : Int32)), .val (.int z6), .val (.ref ax), .val (.int z8), .val (.int z9), .val (.int z10), .val (.ref b231), .val (.ref sx), .val (.ref b272), .val (.ref b282)] [(.int (1 : Int32))])) (fun zt zk => st333.trans zk) ?_
    refine Go.st (T' := T333.setTop (mkF m 320 #[.val (.int p1), .val (.int p2), .val (.int p3), .val (.int p4), .val (.int p5), .val (.int (1 : Int32)), .val (.int z6), .val (.ref ax), .val (.int z8), .val (.int z9), .val (.int z10), .val (.ref b231), .val (.ref sx), .val (.ref b272), .val (.ref b282)] [])) (fun zt zk => XS.pop X333.here hx rfl (hb hby at_319) rfl rfl zk) ?_
    refine Go.st (T' := T333.setTop (mkF m 322 #[.val (.int p1), .val (.int p2), .val (.int p3), .val (.int p4), .val (.int p5), .val (.int (1 : Int32)), .val (.int z6), .val (.ref ax), .val (.int z8), .val (.int z9), .val (.int z10), .val (.ref b231), .val (.ref sx), .val (.ref b272), .val (.ref b282)] [(.int (1 : Int32))])) (fun zt zk => XS.iload X333.here hx rfl (hb hby at_320) rfl zk) ?_
    refine Go.st (T' := T333.setTop (mkF m 323 #[.val (.int p1), .val (.int p2), .val (.int p3), .val (.int p4), .val (.int p5), .val (.int (1 : Int32)), .val (.int z6), .val (.ref ax), .val (.int z8), .val (.int z9), .val (.int z10), .val (.ref b231), .val (.ref sx), .val (.ref b272), .val (.ref b282)] [(.int (2 : Int32)), (.int (1 : Int32))])) (fun zt zk => XS.iconst X333.here hx rfl (hb hby at_322) zk) ?_
    refine Go.st (T' := T333.setTop (mkF m 360 #[.val (.int p1), .val (.int p2), .val (.int p3), .val (.int p4), .val (.int p5), .val (.int (1 : Int32)), .val (.int z6), .val (.ref ax), .val (.int z8), .val (.int z9), .val (.int z10), .val (.ref b231), .val (.ref sx), .val (.ref b272), .val (.ref b282)] [])) (fun zt zk => XS.icmpYes X333.here hx rfl (pc0 := 323) (pc' := 360) rfl (hb hby at_323) rfl (tlt (by decide)).1 (by decide) (by decide) zk) ?_
    refine Go.st (T' := T333.setTop (mkF m 362 #[.val (.int p1), .val (.int p2), .val (.int p3), .val (.int p4), .val (.int p5), .val (.int (1 : Int32)), .val (.int z6), .val (.ref ax), .val (.int z8), .val (.int z9), .val (.int z10), .val (.ref b231), .val (.ref sx), .val (.ref b272), .val (.ref b282)] [(.int (1 : Int32))])) (fun zt zk => XS.iload X333.here hx rfl (hb hby at_360) rfl zk) ?_
    refine Go.st (T' := T333.setTop (mkF m 363 #[.val (.int p1), .val (.int p2), .val (.int p3), .val (.int p4), .val (.int p5), .val (.int (1 : Int32)), .val (.int z6), .val (.ref ax), .val (.int z8), .val (.int z9), .val (.int z10), .val (.ref b231), .val (.ref sx), .val (.ref b272), .val (.ref b282)] [(.int (3 : Int32)), (.int (1 : Int32))])) (fun zt zk => XS.iconst X333.here hx rfl (hb hby at_362) zk) ?_
    refine Go.st (T' := T333.setTop (mkF m 400 #[.val (.int p1), .val (.int p2), .val (.int p3), .val (.int p4), .val (.int p5), .val (.int (1 : Int32)), .val (.int z6), .val (.ref ax), .val (.int z8), .val (.int z9), .val (.int z10), .val (.ref b231), .val (.ref sx), .val (.ref b272), .val (.ref b282)] [])) (fun zt zk => XS.icmpYes X333.here hx rfl (pc0 := 363) (pc' := 400) rfl (hb hby at_363) rfl (tlt (by decide)).1 (by decide) (by decide) zk) ?_
    refine Go.st (T' := T333.setTop (mkF m 402 #[.val (.int p1), .val (.int p2), .val (.int p3), .val (.int p4), .val (.int p5), .val (.int (1 : Int32)), .val (.int z6), .val (.ref ax), .val (.int z8), .val (.int z9), .val (.int z10), .val (.ref b231), .val (.ref sx), .val (.ref b272), .val (.ref b282)] [(.ref b272)])) (fun zt zk => XS.aload X333.here hx rfl (hb hby at_400) rfl rfl zk) ?_
    refine Go.st (T' := T333.setTop (mkF m 404 #[.val (.int p1), .val (.int p2), .val (.int p3), .val (.int p4), .val (.int p5), .val (.int (1 : Int32)), .val (.int z6), .val (.ref ax), .val (.int z8), .val (.int z9), .val (.int z10), .val (.ref b231), .val (.ref sx), .val (.ref b272), .val (.ref b282)] [(.ref b282), (.ref b272)])) (fun zt zk => XS.aload X333.here hx rfl (hb hby at_402) rfl rfl zk) ?_
    have f343 : own_St Z T333.heap b231 t234 csL := (f327.keep Kq333 (ninS ne284 nin0) (ninS ne285 nin0))
    have f344 : own_St Z T333.heap sx st csS := (f328.keep Kq333 (ninS ne287 nin0) (ninS ne288 nin0))
    have hSy : ∀ y, (y = b231 ∨ y = sx) → ∃ (t : Addr) (cs : List Int32), own_St Z T333.heap y t cs ∧ own_ok cs := by
      intro y hy
      rcases hy with q | q
      · rw [q]; exact ⟨_, _, f343, okL⟩
      · rw [q]; exact ⟨_, _, f344, okS⟩
    have hmem : ∀ y ∈ [yy1], y = b231 ∨ y = sx := by
      intro y hy
      simp only [List.mem_append, List.mem_cons, List.not_mem_nil, or_false] at hy
      have q1 := hy
      · rw [q1]; exact h_yy1
    obtain ⟨LX345, XX345, NX345⟩ : ∃ LX, Stand p l e room_1 s m #[(.int p1), (.int p2), (.int p3), (.int p4), (.int p5)] below meth c T333 LX 14 28734 ∧ Fr n0 LX := ⟨_, X333, NN342⟩
    obtain ⟨vr346, _, ⟨T346, L346, k346, n346⟩, -, X346, ⟨Lc346, hQ346, l346, y346, z346⟩, st346⟩ := Jvm.LawKit.callS XX345 hx (y := (⟨"com/example/librole/librole/textfile/TextFile", "refuseEmptyOrTooLong", "(Ljava/util/List;Ljava/util/List;)V"⟩ : MethodName)) hown (mvT hZ (hw _ (List.mem_of_getElem? (i := 57) rfl))) (mvT hZ (hw _ (List.mem_of_getElem? (i := 58) rfl))) (mvT hZ (hw _ (List.mem_of_getElem? (i := 59) rfl))) (mvT hZ (hw _ (List.mem_of_getElem? (i := 60) rfl))) (by decide) (backOf (W := 0) (rmRef l Z a0 hw b272 b282 [yy1] T333.heap n0 (Nat.le_trans Z0 KK341.1) G1 O2 P5 (X00.keep KK341 all0) A1 A2 A3 R333.1 R333.2.2.1 (fun _ => ⟨_, _, R333⟩) (Nat.le_of_ble_eq_true rfl) (fun y hy => hSy y (hmem y hy))) hZ (hw _ (List.mem_of_getElem? (i := 60) rfl)) (hw _ (List.mem_of_getElem? (i := 59) rfl)) (by decide) (by decide)) (g := (mkF m 404 #[.val (.int p1), .val (.int p2), .val (.int p3), .val (.int p4), .val (.int p5), .val (.int (1 : Int32)), .val (.int z6), .val (.ref ax), .val (.int z8), .val (.int z9), .val (.int z10), .val (.ref b231), .val (.ref sx), .val (.ref b272), .val (.ref b282)] [(.ref b282), (.ref b272)])) rfl (by rw [hml]; rfl) (argsL := [(.ref b272), (.ref b282)]) (rest := []) (lenOf pd_b86c906 rfl) rfl (by show 2 * 0 + _ ≤ _; exact Nat.le_of_eq rfl) (hb hby at_404) (fun _ _ => ⟨rfl, rfl, (by decide : 14 + 0 ≤ _), (by decide : 28734 + 0 ≤ _)⟩)
    dsimp only [Pt.U, Pt.locs, Pt.cells, Pt.slots] at X346 l346 y346 z346 st346 hQ346
    subst l346 y346 z346
    obtain ⟨rfl, Nq346, eq346⟩ := hQ346
    have NN347 := Fr.app NX345 Nq346
    refine Go.st (T' := T346.setTop (mkF m 407 #[.val (.int p1), .val (.int p2), .val (.int p3), .val (.int p4), .val (.int p5), .val (.int (1 : Int32)), .val (.int z6), .val (.ref ax), .val (.int z8), .val (.int z9), .val (.int z10), .val (.ref b231), .val (.ref sx), .val (.ref b272), .val (.ref b282)] [])) (fun zt zk => st346 zt zk) ?_
    refine Go.st (T' := T346.setTop (mkF m 409 #[.val (.int p1), .val (.int p2), .val (.int p3), .val (.int p4), .val (.int p5), .val (.int (1 : Int32)), .val (.int z6), .val (.ref ax), .val (.int z8), .val (.int z9), .val (.int z10), .val (.ref b231), .val (.ref sx), .val (.ref b272), .val (.ref b282)] [(.ref b282)])) (fun zt zk => XS.aload X346.here hx rfl (hb hby at_407) rfl rfl zk) ?_
    obtain ⟨cq348, kq348, q348a, q348b, q348c⟩ := isOf hZ eq346 R333.1
    obtain ⟨vr348, _, ⟨T348, L348, k348, n348⟩, -, X348, ⟨Lc348, hQ348, l348, y348, z348⟩, st348⟩ := X346.interfaceBack hx (xi := (⟨"java/util/List", "size", "()I"⟩ : MethodName)) (y := (⟨"java/util/ArrayList", "size", "()I"⟩ : MethodName)) hown (mvT hZ (hw _ (List.mem_of_getElem? (i := 72) rfl))) (mvT hZ (hw _ (List.mem_of_getElem? (i := 62) rfl))) (mvT hZ (hw _ (List.mem_of_getElem? (i := 63) rfl))) (mvT hZ (hw _ (List.mem_of_getElem? (i := 64) rfl))) (mvT hZ (hw _ (List.mem_of_getElem? (i := 65) rfl))) (mvT hZ (hw _ (List.mem_of_getElem? (i := 66) rfl))) (mvT hZ (hw _ (List.mem_of_getElem? (i := 67) rfl))) (mvT hZ (hw _ (List.mem_of_getElem? (i := 68) rfl))) (by decide) (backOf (W := 0) (rmSize l Z a0 hw b282 (Int32.ofNat [yy1].length) T333.heap n0 (Nat.le_trans Z0 KK341.1) R333.2.2.1) hZ (hw _ (List.mem_of_getElem? (i := 69) rfl)) (hw _ (List.mem_of_getElem? (i := 35) rfl)) (by decide) (by decide)) q348a q348b q348c (g := (mkF m 409 #[.val (.int p1), .val (.int p2), .val (.int p3), .val (.int p4), .val (.int p5), .val (.int (1 : Int32)), .val (.int z6), .val (.ref ax), .val (.int z8), .val (.int z9), .val (.int z10), .val (.ref b231), .val (.ref sx), .val (.ref b272), .val (.ref b282)] [(.ref b282)])) rfl (by rw [hml]; rfl) (Steps.refl _) (argsL := []) (rest := []) (lenOf pd_a8eac rfl) rfl (by show 2 * 0 + _ ≤ _; exact Nat.le_of_eq rfl) (hb hby at_409) (fun _ _ => ⟨rfl, eq346, (by decide : 14 + 0 ≤ _), (by decide : 28734 + 0 ≤ _)⟩)
    dsimp only [Pt.U, Pt.locs, Pt.cells, Pt.slots] at X348 l348 y348 z348 st348 hQ348
    subst l348 y348 z348
    obtain ⟨rfl, Nq348, eq348⟩ := hQ348
    have NN349 := Fr.app NN347 Nq348
    refine Go.st (T' := T348.setTop (mkF m 414 #[.val (.int p1), .val (.int p2), .val (.int p3), .val (.int p4), .val (.int p5), .val (.int (1 : Int32)), .val (.int z6), .val (.ref ax), .val (.int z8), .val (.int z9), .val (.int z10), .val (.ref b231), .val (.ref sx), .val (.ref b272), .val (.ref b282)] [(.int (Int32.ofNat [yy1].length))])) (fun zt zk => st348.trans zk) ?_
    refine Go.st (T' := T348.setTop (mkF m 416 #[.val (.int p1), .val (.int p2), .val (.int p3), .val (.int p4), .val (.int p5), .val (.int (1 : Int32)), .val (.int z6), .val (.ref ax), .val (.int z8), .val (.int z9), .val (.int z10), .val (.ref b231), .val (.ref sx), .val (.ref b272), .val (.ref b282)] [(.int (1 : Int32)), (.int (Int32.ofNat [yy1].length))])) (fun zt zk => XS.iload X348.here hx rfl (hb hby at_414) rfl zk) ?_
    refine Go.st (T' := T348.setTop (mkF m 419 #[.val (.int p1), .val (.int p2), .val (.int p3), .val (.int p4), .val (.int p5), .val (.int (1 : Int32)), .val (.int z6), .val (.ref ax), .val (.int z8), .val (.int z9), .val (.int z10), .val (.ref b231), .val (.ref sx), .val (.ref b272), .val (.ref b282)] [])) (fun zt zk => XS.icmpNo X348.here hx rfl (hb hby at_416) rfl (teq rfl).2 zk) ?_
    refine Go.st (T' := T348.setTop (mkF m 420 #[.val (.int p1), .val (.int p2), .val (.int p3), .val (.int p4), .val (.int p5), .val (.int (1 : Int32)), .val (.int z6), .val (.ref ax), .val (.int z8), .val (.int z9), .val (.int z10), .val (.ref b231), .val (.ref sx), .val (.ref b272), .val (.ref b282)] [(.int (1 : Int32))])) (fun zt zk => XS.iconst X348.here hx rfl (hb hby at_419) zk) ?_
    refine Go.st (T' := T348.setTop (mkF m 424 #[.val (.int p1), .val (.int p2), .val (.int p3), .val (.int p4), .val (.int p5), .val (.int (1 : Int32)), .val (.int z6), .val (.ref ax), .val (.int z8), .val (.int z9), .val (.int z10), .val (.ref b231), .val (.ref sx), .val (.ref b272), .val (.ref b282)] [(.int (1 : Int32))])) (fun zt zk => XS.goto X348.here hx rfl (pc0 := 420) (pc' := 424) rfl (hb hby at_420) (by decide) (by decide) zk) ?_
    exact Go.done X348 Bd.notSynchronized (v := some (.int (nar .boolean (1 : Int32)))) (fun h => by rw [Bd.returns] at h; cases h) (fun fs hr => retN X348 hx (t := .boolean) Bd.returns (by simp) (hb hby at_424) hr) (by rw [eq348]; exact ⟨rfl, NN349⟩) (by decide) (by decide)
  ·
    refine Go.st (T' := T296.setTop (mkF m 282 #[.val (.int p1), .val (.int p2), .val (.int p3), .val (.int p4), .val (.int p5), .val (.int (2 : Int32)), .val (.int z6), .val (.ref ax), .val (.int z8), .val (.int z9), .val (.int z10), .val (.ref b231), .val (.ref sx), .val (.ref b272), .val (.ref b282)] [(.int (2 : Int32))])) (fun zt zk => XS.iload X296.here hx rfl (hb hby at_280) rfl zk) ?_
    refine Go.st (T' := T296.setTop (mkF m 283 #[.val (.int p1), .val (.int p2), .val (.int p3), .val (.int p4), .val (.int p5), .val (.int (2 : Int32)), .val (.int z6), .val (.ref ax), .val (.int z8), .val (.int z9), .val (.int z10), .val (.ref b231), .val (.ref sx), .val (.ref b272), .val (.ref b282)] [(.int (1 : Int32)), (.int (2 : Int32))])) (fun zt zk => XS.iconst X296.here hx rfl (hb hby at_282) zk) ?_
    refine Go.st (T' := T296.setTop (mkF m 286 #[.val (.int p1), .val (.int p2), .val (.int p3), .val (.int p4), .val (.int p5), .val (.int (2 : Int32)), .val (.int z6), .val (.ref ax), .val (.int z8), .val (.int z9), .val (.int z10), .val (.ref b231), .val (.ref sx), .val (.ref b272), .val (.ref b282)] [])) (fun zt zk => XS.icmpNo X296.here hx rfl (hb hby at_283) rfl (flt (by decide)).1 zk) ?_
    refine Go.st (T' := T296.setTop (mkF m 288 #[.val (.int p1), .val (.int p2), .val (.int p3), .val (.int p4), .val (.int p5), .val (.int (2 : Int32)), .val (.int z6), .val (.ref ax), .val (.int z8), .val (.int z9), .val (.int z10), .val (.ref b231), .val (.ref sx), .val (.ref b272), .val (.ref b282)] [(.ref b272)])) (fun zt zk => XS.aload X296.here hx rfl (hb hby at_286) rfl rfl zk) ?_
    refine Go.st (T' := T296.setTop (mkF m 290 #[.val (.int p1), .val (.int p2), .val (.int p3), .val (.int p4), .val (.int p5), .val (.int (2 : Int32)), .val (.int z6), .val (.ref ax), .val (.int z8), .val (.int z9), .val (.int z10), .val (.ref b231), .val (.ref sx), .val (.ref b272), .val (.ref b282)] [(.int (97 : Int32)), (.ref b272)])) (fun zt zk => XS.bipush X296.here hx rfl (hb hby at_288) zk) ?_
    obtain ⟨vr350, _, ⟨T350, L350, k350, n350⟩, -, X350, ⟨Lc350, hQ350, l350, y350, z350⟩, st350⟩ := Jvm.LawKit.callS X296 hx (y := (⟨"java/lang/String", "valueOf", "(C)Ljava/lang/String;"⟩ : MethodName)) hown (mvT hZ (hw _ (List.mem_of_getElem? (i := 73) rfl))) (mvT hZ (hw _ (List.mem_of_getElem? (i := 74) rfl))) (mvT hZ (hw _ (List.mem_of_getElem? (i := 6) rfl))) (mvT hZ (hw _ (List.mem_of_getElem? (i := 75) rfl))) (by decide) (backOf (W := 1) (rmVal l Z a0 hw (97 : Int32) T296.heap n0 (Nat.le_trans Z0 KK297.1) G1 O2 P5 (X00.keep KK297 all0) (by decide)) hZ (hw _ (List.mem_of_getElem? (i := 75) rfl)) (hw _ (List.mem_of_getElem? (i := 6) rfl)) (by decide) (by decide)) (g := (mkF m 290 #[.val (.int p1), .val (.int p2), .val (.int p3), .val (.int p4), .val (.int p5), .val (.int (2 : Int32)), .val (.int z6), .val (.ref ax), .val (.int z8), .val (.int z9), .val (.int z10), .val (.ref b231), .val (.ref sx), .val (.ref b272), .val (.ref b282)] [(.int (97 : Int32)), (.ref b272)])) rfl (by rw [hml]; rfl) (argsL := [(.int (97 : Int32))]) (rest := [(.ref b272)]) (lenOf pd_b5a46ce rfl) rfl (by show 2 * 0 + _ ≤ _; exact Nat.le_of_eq rfl) (hb hby at_290) (fun _ _ => ⟨rfl, rfl, (by decide : 10 + 2 ≤ _), (by decide : 28709 + 5 ≤ _)⟩)
    dsimp only [Pt.U, Pt.locs, Pt.cells, Pt.slots] at X350 l350 y350 z350 st350 hQ350
    subst l350 y350 z350
    obtain ⟨Nq350, Kq350, vx350, rfl, Ev350⟩ := hQ350
    have KK351 : Keep h0 T350.heap [] := KK297.trans Kq350 all0
    have NN352 := Fr.app NN298 Nq350
    refine Go.st (T' := T350.setTop (mkF m 293 #[.val (.int p1), .val (.int p2), .val (.int p3), .val (.int p4), .val (.int p5), .val (.int (2 : Int32)), .val (.int z6), .val (.ref ax), .val (.int z8), .val (.int z9), .val (.int z10), .val (.ref b231), .val (.ref sx), .val (.ref b272), .val (.ref b282)] [(.ref vx350), (.ref b272)])) (fun zt zk => st350 zt zk) ?_
    have f353 : own_St Z T350.heap b231 t234 csL := ((f290.keep Kq296 (ninS ne284 nin0) (ninS ne285 nin0)).keep Kq350 nin0 nin0)
    have f354 : own_St Z T350.heap sx st csS := ((f291.keep Kq296 (ninS ne287 nin0) (ninS ne288 nin0)).keep Kq350 nin0 nin0)
    have f355 : Exa Z T350.heap b272 "java/util/ArrayList" := ((f292.keep Kq296).keep Kq350)
    have f356 : Fld Z T350.heap b272 "java/util/AbstractList" "modCount" "I" (.int (0 : Int32)) := ((f293.keep Kq296 (ninS ne289 nin0)).keep Kq350 nin0)
    have f357 : Fld Z T350.heap b272 "java/util/ArrayList" "elementData" "[Ljava/lang/Object;" (.ref de) := ((f294.keep Kq296 (ninS ne289 nin0)).keep Kq350 nin0)
    have f358 : Fld Z T350.heap b272 "java/util/ArrayList" "size" "I" (.int (0 : Int32)) := ((f295.keep Kq296 (ninS ne289 nin0)).keep Kq350 nin0)
    have f359 : Exa Z T350.heap b282 "java/util/ArrayList" := (E296.keep Kq350)
    have f360 : Fld Z T350.heap b282 "java/util/AbstractList" "modCount" "I" (.int (0 : Int32)) := (Fa296.keep Kq350 nin0)
    have f361 : Fld Z T350.heap b282 "java/util/ArrayList" "elementData" "[Ljava/lang/Object;" (.ref de) := (Fb296.keep Kq350 nin0)
    have f362 : Fld Z T350.heap b282 "java/util/ArrayList" "size" "I" (.int (0 : Int32)) := (Fc296.keep Kq350 nin0)
    obtain ⟨cq363, kq363, q363a, q363b, q363c⟩ := isOf hZ rfl f355
    obtain ⟨vr363, _, ⟨T363, L363, k363, n363⟩, -, X363, ⟨Lc363, hQ363, l363, y363, z363⟩, st363⟩ := X350.interfaceBack hx (xi := (⟨"java/util/List", "add", "(Ljava/lang/Object;)Z"⟩ : MethodName)) (y := (⟨"java/util/ArrayList", "add", "(Ljava/lang/Object;)Z"⟩ : MethodName)) hown (mvT hZ (hw _ (List.mem_of_getElem? (i := 87) rfl))) (mvT hZ (hw _ (List.mem_of_getElem? (i := 88) rfl))) (mvT hZ (hw _ (List.mem_of_getElem? (i := 89) rfl))) (mvT hZ (hw _ (List.mem_of_getElem? (i := 90) rfl))) (mvT hZ (hw _ (List.mem_of_getElem? (i := 91) rfl))) (mvT hZ (hw _ (List.mem_of_getElem? (i := 92) rfl))) (mvT hZ (hw _ (List.mem_of_getElem? (i := 93) rfl))) (mvT hZ (hw _ (List.mem_of_getElem? (i := 68) rfl))) (by decide) (backOf (W := 0) (rmAddA l Z a0 hw b272 vx350 de _ T350.heap n0 (Nat.le_trans Z0 KK351.1) (X00.keep KK351 all0) Sd (Bde0.ext (X00.keep KK351 all0).2) f355 g_b272 f356 f357 f358 Ev350 lde) hZ (hw _ (List.mem_of_getElem? (i := 94) rfl)) (hw _ (List.mem_of_getElem? (i := 35) rfl)) (by decide) (by decide)) q363a q363b q363c (g := (mkF m 293 #[.val (.int p1), .val (.int p2), .val (.int p3), .val (.int p4), .val (.int p5), .val (.int (2 : Int32)), .val (.int z6), .val (.ref ax), .val (.int z8), .val (.int z9), .val (.int z10), .val (.ref b231), .val (.ref sx), .val (.ref b272), .val (.ref b282)] [(.ref vx350), (.ref b272)])) rfl (by rw [hml]; rfl) (Steps.refl _) (argsL := [(.ref vx350)]) (rest := []) (lenOf pd_a0133a8 rfl) rfl (by show 2 * 0 + _ ≤ _; exact Nat.le_of_eq rfl) (hb hby at_293) (fun _ _ => ⟨rfl, rfl, (by decide : 12 + 1 ≤ _), (by decide : 28714 + 10 ≤ _)⟩)
    dsimp only [Pt.U, Pt.locs, Pt.cells, Pt.slots] at X363 l363 y363 z363 st363 hQ363
    subst l363 y363 z363
    obtain ⟨rfl, Nq363, Kq363, ed363, ke363, sy363, R363⟩ := hQ363
    have ne364 : b231 ≠ ed363 := Nat.ne_of_lt (Nat.lt_of_lt_of_le f353.lt1 sy363)
    have ne365 : t234 ≠ ed363 := Nat.ne_of_lt (Nat.lt_of_lt_of_le f353.lt2 sy363)
    have ne366 : sx ≠ ed363 := Nat.ne_of_lt (Nat.lt_of_lt_of_le f354.lt1 sy363)
    have ne367 : st ≠ ed363 := Nat.ne_of_lt (Nat.lt_of_lt_of_le f354.lt2 sy363)
    have ne368 : b272 ≠ ed363 := Nat.ne_of_lt (Nat.lt_of_lt_of_le f355.lt sy363)
    have ne369 : b282 ≠ ed363 := Nat.ne_of_lt (Nat.lt_of_lt_of_le f359.lt sy363)
    have sz_ed363 : h0.size ≤ ed363 := Nat.le_trans KK351.1 sy363
    have g_ed363 : n0 ≤ ed363 := Nat.le_trans Z0 sz_ed363
    have KK370 : Keep h0 T363.heap [] := KK351.trans Kq363 (allS (Or.inr sz_b272) all0)
    have NN371 := Fr.app NN352 Nq363
    refine Go.st (T' := T363.setTop (mkF m 298 #[.val (.int p1), .val (.int p2), .val (.int p3), .val (.int p4), .val (.int p5), .val (.int (2 : Int32)), .val (.int z6), .val (.ref ax), .val (.int z8), .val (.int z9), .val (.int z10), .val (.ref b231), .val (.ref sx), .val (.ref b272), .val (.ref b282)] [(.int (1 : Int32))])) (fun zt zk => st363.trans zk) ?_
    refine Go.st (T' := T363.setTop (mkF m 299 #[.val (.int p1), .val (.int p2), .val (.int p3), .val (.int p4), .val (.int p5), .val (.int (2 : Int32)), .val (.int z6), .val (.ref ax), .val (.int z8), .val (.int z9), .val (.int z10), .val (.ref b231), .val (.ref sx), .val (.ref b272), .val (.ref b282)] [])) (fun zt zk => XS.pop X363.here hx rfl (hb hby at_298) rfl rfl zk) ?_
    refine Go.st (T' := T363.setTop (mkF m 301 #[.val (.int p1), .val (.int p2), .val (.int p3), .val (.int p4), .val (.int p5), .val (.int (2 : Int32)), .val (.int z6), .val (.ref ax), .val (.int z8), .val (.int z9), .val (.int z10), .val (.ref b231), .val (.ref sx), .val (.ref b272), .val (.ref b282)] [(.ref b282)])) (fun zt zk => XS.aload X363.here hx rfl (hb hby at_299) rfl rfl zk) ?_
    refine Go.st (T' := T363.setTop (mkF m 302 #[.val (.int p1), .val (.int p2), .val (.int p3), .val (.int p4), .val (.int p5), .val (.int (2 : Int32)), .val (.int z6), .val (.ref ax), .val (.int z8), .val (.int z9), .val (.int z10), .val (.ref b231), .val (.ref sx), .val (.ref b272), .val (.ref b282)] [(.int p4), (.ref b282)])) (fun zt zk => XS.iloadN X363.here hx rfl (hb hby at_301) rfl zk) ?_
    refine Go.st (T' := T363.setTop (mkF m 303 #[.val (.int p1), .val (.int p2), .val (.int p3), .val (.int p4), .val (.int p5), .val (.int (2 : Int32)), .val (.int z6), .val (.ref ax), .val (.int z8), .val (.int z9), .val (.int z10), .val (.ref b231), .val (.ref sx), .val (.ref b272), .val (.ref b282)] [(.int (1 : Int32)), (.int p4), (.ref b282)])) (fun zt zk => XS.iconst X363.here hx rfl (hb hby at_302) zk) ?_
    refine Go.st (T' := T363.setTop (mkF m 304 #[.val (.int p1), .val (.int p2), .val (.int p3), .val (.int p4), .val (.int p5), .val (.int (2 : Int32)), .val (.int z6), .val (.ref ax), .val (.int z8), .val (.int z9), .val (.int z10), .val (.ref b231), .val (.ref sx), .val (.ref b272), .val (.ref b282)] [(.int (p4 &&& (1 : Int32))), (.ref b282)])) (fun zt zk => XS.iand X363.here hx rfl (hb hby at_303) rfl zk) ?_
    suffices Jyy1 : ∀ yy1 : Addr, (yy1 = b231 ∨ yy1 = sx) → Go p e below (T363.setTop (mkF m 314 #[.val (.int p1), .val (.int p2), .val (.int p3), .val (.int p4), .val (.int p5), .val (.int (2 : Int32)), .val (.int z6), .val (.ref ax), .val (.int z8), .val (.int z9), .val (.int z10), .val (.ref b231), .val (.ref sx), .val (.ref b272), .val (.ref b282)] [(.ref yy1), (.ref b282)])) (EndN s (Q_rm0 Z p1 p2 p3 p4 p5 h0 n0) room_1.cells room_1.slots) by
      by_cases hcyy1 : (p4 &&& (1 : Int32)) = (0 : Int32)
      ·
        refine Go.st (T' := T363.setTop (mkF m 312 #[.val (.int p1), .val (.int p2), .val (.int p3), .val (.int p4), .val (.int p5), .val (.int (2 : Int32)), .val (.int z6), .val (.ref ax), .val (.int z8), .val (.int z9), .val (.int z10), .val (.ref b231), .val (.ref sx), .val (.ref b272), .val (.ref b282)] [(.ref b282)])) (fun zt zk => XS.ifYes X363.here hx rfl (pc0 := 304) (pc' := 312) rfl (hb hby at_304) rfl ((if0 _ _).trans (teq hcyy1).1) (by decide) (by decide) zk) ?_
        refine Go.st (T' := T363.setTop (mkF m 314 #[.val (.int p1), .val (.int p2), .val (.int p3), .val (.int p4), .val (.int p5), .val (.int (2 : Int32)), .val (.int z6), .val (.ref ax), .val (.int z8), .val (.int z9), .val (.int z10), .val (.ref b231), .val (.ref sx), .val (.ref b272), .val (.ref b282)] [(.ref sx), (.ref b282)])) (fun zt zk => XS.aload X363.here hx rfl (hb hby at_312) rfl rfl zk) ?_
        exact Jyy1 _ (Or.inr rfl)
      ·
        refine Go.st (T' := T363.setTop (mkF m 307 #[.val (.int p1), .val (.int p2), .val (.int p3), .val (.int p4), .val (.int p5), .val (.int (2 : Int32)), .val (.int z6), .val (.ref ax), .val (.int z8), .val (.int z9), .val (.int z10), .val (.ref b231), .val (.ref sx), .val (.ref b272), .val (.ref b282)] [(.ref b282)])) (fun zt zk => XS.ifNo X363.here hx rfl (hb hby at_304) rfl ((if0 _ _).trans (feq hcyy1).1) zk) ?_
        refine Go.st (T' := T363.setTop (mkF m 309 #[.val (.int p1), .val (.int p2), .val (.int p3), .val (.int p4), .val (.int p5), .val (.int (2 : Int32)), .val (.int z6), .val (.ref ax), .val (.int z8), .val (.int z9), .val (.int z10), .val (.ref b231), .val (.ref sx), .val (.ref b272), .val (.ref b282)] [(.ref b231), (.ref b282)])) (fun zt zk => XS.aload X363.here hx rfl (hb hby at_307) rfl rfl zk) ?_
        refine Go.st (T' := T363.setTop (mkF m 314 #[.val (.int p1), .val (.int p2), .val (.int p3), .val (.int p4), .val (.int p5), .val (.int (2 : Int32)), .val (.int z6), .val (.ref ax), .val (.int z8), .val (.int z9), .val (.int z10), .val (.ref b231), .val (.ref sx), .val (.ref b272), .val (.ref b282)] [(.ref b231), (.ref b282)])) (fun zt zk => XS.goto X363.here hx rfl (pc0 := 309) (pc' := 314) rfl (hb hby at_309) (by decide) (by decide) zk) ?_
        exact Jyy1 _ (Or.inl rfl)
    intro yy1 h_yy1
    have f372 : own_St Z T363.heap b231 t234 csL := (f353.keep Kq363 (ninS ne273 nin0) (ninS ne274 nin0))
    have f373 : own_St Z T363.heap sx st csS := (f354.keep Kq363 (ninS ne275 nin0) (ninS ne276 nin0))
    have Ey1 : Exa Z T363.heap yy1 "java/lang/String" := by
      rcases h_yy1 with q | q
      · rw [q]; exact (f372).1
      · rw [q]; exact (f373).1
    have f374 : Exa Z T363.heap b282 "java/util/ArrayList" := (f359.keep Kq363)
    have f375 : Fld Z T363.heap b282 "java/util/AbstractList" "modCount" "I" (.int (0 : Int32)) := (f360.keep Kq363 (ninS (Ne.symm ne289) nin0))
    have f376 : Fld Z T363.heap b282 "java/util/ArrayList" "elementData" "[Ljava/lang/Object;" (.ref de) := (f361.keep Kq363 (ninS (Ne.symm ne289) nin0))
    have f377 : Fld Z T363.heap b282 "java/util/ArrayList" "size" "I" (.int (0 : Int32)) := (f362.keep Kq363 (ninS (Ne.symm ne289) nin0))
    obtain ⟨cq378, kq378, q378a, q378b, q378c⟩ := isOf hZ rfl f374
    obtain ⟨vr378, _, ⟨T378, L378, k378, n378⟩, -, X378, ⟨Lc378, hQ378, l378, y378, z378⟩, st378⟩ := X363.interfaceBack hx (xi := (⟨"java/util/List", "add", "(Ljava/lang/Object;)Z"⟩ : MethodName)) (y := (⟨"java/util/ArrayList", "add", "(Ljava/lang/Object;)Z"⟩ : MethodName)) hown (mvT hZ (hw _ (List.mem_of_getElem? (i := 87) rfl))) (mvT hZ (hw _ (List.mem_of_getElem? (i := 88) rfl))) (mvT hZ (hw _ (List.mem_of_getElem? (i := 89) rfl))) (mvT hZ (hw _ (List.mem_of_getElem? (i := 90) rfl))) (mvT hZ (hw _ (List.mem_of_getElem? (i := 91) rfl))) (mvT hZ (hw _ (List.mem_of_getElem? (i := 92) rfl))) (mvT hZ (hw _ (List.mem_of_getElem? (i := 93) rfl))) (mvT hZ (hw _ (List.mem_of_getElem? (i := 68) rfl))) (by decide) (backOf (W := 0) (rmAddA l Z a0 hw b282 yy1 de _ T363.heap n0 (Nat.le_trans Z0 KK370.1) (X00.keep KK370 all0) Sd (Bde0.ext (X00.keep KK370 all0).2) f374 g_b282 f375 f376 f377 Ey1 lde) hZ (hw _ (List.mem_of_getElem? (i := 94) rfl)) (hw _ (List.mem_of_getElem? (i := 35) rfl)) (by decide) (by decide)) q378a q378b q378c (g := (mkF m 314 #[.val (.int p1), .val (.int p2), .val (.int p3), .val (.int p4), .val (.int p5), .val (.int (2 : Int32)), .val (.int z6), .val (.ref ax), .val (.int z8), .val (.int z9), .val (.int z10), .val (.ref b231), .val (.ref sx), .val (.ref b272), .val (.ref b282)] [(.ref yy1), (.ref b282)])) rfl (by rw [hml]; rfl) (Steps.refl _) (argsL := [(.ref yy1)]) (rest := []) (lenOf pd_a0133a8 rfl) rfl (by show 2 * 0 + _ ≤ _; exact Nat.le_of_eq rfl) (hb hby at_314) (fun _ _ => ⟨rfl, rfl, (by decide : 13 + 1 ≤ _), (by decide : 28724 + 10 ≤ _)⟩)
    dsimp only [Pt.U, Pt.locs, Pt.cells, Pt.slots] at X378 l378 y378 z378 st378 hQ378
    subst l378 y378 z378
    obtain ⟨rfl, Nq378, Kq378, ed378, ke378, sy378, R378⟩ := hQ378
    have ne379 : b231 ≠ ed378 := Nat.ne_of_lt (Nat.lt_of_lt_of_le f372.lt1 sy378)
    have ne380 : t234 ≠ ed378 := Nat.ne_of_lt (Nat.lt_of_lt_of_le f372.lt2 sy378)
    have ne381 : sx ≠ ed378 := Nat.ne_of_lt (Nat.lt_of_lt_of_le f373.lt1 sy378)
    have ne382 : st ≠ ed378 := Nat.ne_of_lt (Nat.lt_of_lt_of_le f373.lt2 sy378)
    have ne383 : b272 ≠ ed378 := Nat.ne_of_lt (Nat.lt_of_lt_of_le R363.lt1 sy378)
    have ne384 : b282 ≠ ed378 := Nat.ne_of_lt (Nat.lt_of_lt_of_le f374.lt sy378)
    have ne385 : ed363 ≠ ed378 := Nat.ne_of_lt (Nat.lt_of_lt_of_le R363.lt2 sy378)
    have sz_ed378 : h0.size ≤ ed378 := Nat.le_trans KK370.1 sy378
    have g_ed378 : n0 ≤ ed378 := Nat.le_trans Z0 sz_ed378
    have KK386 : Keep h0 T378.heap [] := KK370.trans Kq378 (allS (Or.inr sz_b282) all0)
    have NN387 := Fr.app NN371 Nq378
    refine Go.st (T' := T378.setTop (mkF m 319 #[.val (.int p1), .val (.int p2), .val (.int p3), .val (.int p4), .val (.int p5), .val (.int (2 : Int32)), .val (.int z6), .val (.ref ax), .val (.int z8), .val (.int z9), .val (.int z10), .val (.ref b231), .val (.ref sx), .val (.ref b272), .val (.ref b282)] [(.int (1 : Int32))])) (fun zt zk => st378.trans zk) ?_
    refine Go.st (T' := T378.setTop (mkF m 320 #[.val (.int p1), .val (.int p2), .val (.int p3), .val (.int p4), .val (.int p5), .val (.int (2 : Int32)), .val (.int z6), .val (.ref ax), .val (.int z8), .val (.int z9), .val (.int z10), .val (.ref b231), .val (.ref sx), .val (.ref b272), .val (.ref b282)] [])) (fun zt zk => XS.pop X378.here hx rfl (hb hby at_319) rfl rfl zk) ?_
    refine Go.st (T' := T378.setTop (mkF m 322 #[.val (.int p1), .val (.int p2), .val (.int p3), .val (.int p4), .val (.int p5), .val (.int (2 : Int32)), .val (.int z6), .val (.ref ax), .val (.int z8), .val (.int z9), .val (.int z10), .val (.ref b231), .val (.ref sx), .val (.ref b272), .val (.ref b282)] [(.int (2 : Int32))])) (fun zt zk => XS.iload X378.here hx rfl (hb hby at_320) rfl zk) ?_
    refine Go.st (T' := T378.setTop (mkF m 323 #[.val (.int p1), .val (.int p2), .val (.int p3), .val (.int p4), .val (.int p5), .val (.int (2 : Int32)), .val (.int z6), .val (.ref ax), .val (.int z8), .val (.int z9), .val (.int z10), .val (.ref b231), .val (.ref sx), .val (.ref b272), .val (.ref b282)] [(.int (2 : Int32)), (.int (2 : Int32))])) (fun zt zk => XS.iconst X378.here hx rfl (hb hby at_322) zk) ?_
    refine Go.st (T' := T378.setTop (mkF m 326 #[.val (.int p1), .val (.int p2), .val (.int p3), .val (.int p4), .val (.int p5), .val (.int (2 : Int32)), .val (.int z6), .val (.ref ax), .val (.int z8), .val (.int z9), .val (.int z10), .val (.ref b231), .val (.ref sx), .val (.ref b272), .val (.ref b282)] [])) (fun zt zk => XS.icmpNo X378.here hx rfl (hb hby at_323) rfl (flt (by decide)).1 zk) ?_
    refine Go.st (T' := T378.setTop (mkF m 328 #[.val (.int p1), .val (.int p2), .val (.int p3), .val (.int p4), .val (.int p5), .val (.int (2 : Int32)), .val (.int z6), .val (.ref ax), .val (.int z8), .val (.int z9), .val (.int z10), .val (.ref b231), .val (.ref sx), .val (.ref b272), .val (.ref b282)] [(.ref b272)])) (fun zt zk => XS.aload X378.here hx rfl (hb hby at_326) rfl rfl zk) ?_
    refine Go.st (T' := T378.setTop (mkF m 330 #[.val (.int p1), .val (.int p2), .val (.int p3), .val (.int p4), .val (.int p5), .val (.int (2 : Int32)), .val (.int z6), .val (.ref ax), .val (.int z8), .val (.int z9), .val (.int z10), .val (.ref b231), .val (.ref sx), .val (.ref b272), .val (.ref b282)] [(.int (98 : Int32)), (.ref b272)])) (fun zt zk => XS.bipush X378.here hx rfl (hb hby at_328) zk) ?_
    obtain ⟨vr388, _, ⟨T388, L388, k388, n388⟩, -, X388, ⟨Lc388, hQ388, l388, y388, z388⟩, st388⟩ := Jvm.LawKit.callS X378 hx (y := (⟨"java/lang/String", "valueOf", "(C)Ljava/lang/String;"⟩ : MethodName)) hown (mvT hZ (hw _ (List.mem_of_getElem? (i := 73) rfl))) (mvT hZ (hw _ (List.mem_of_getElem? (i := 74) rfl))) (mvT hZ (hw _ (List.mem_of_getElem? (i := 6) rfl))) (mvT hZ (hw _ (List.mem_of_getElem? (i := 75) rfl))) (by decide) (backOf (W := 1) (rmVal l Z a0 hw (98 : Int32) T378.heap n0 (Nat.le_trans Z0 KK386.1) G1 O2 P5 (X00.keep KK386 all0) (by decide)) hZ (hw _ (List.mem_of_getElem? (i := 75) rfl)) (hw _ (List.mem_of_getElem? (i := 6) rfl)) (by decide) (by decide)) (g := (mkF m 330 #[.val (.int p1), .val (.int p2), .val (.int p3), .val (.int p4), .val (.int p5), .val (.int (2 : Int32)), .val (.int z6), .val (.ref ax), .val (.int z8), .val (.int z9), .val (.int z10), .val (.ref b231), .val (.ref sx), .val (.ref b272), .val (.ref b282)] [(.int (98 : Int32)), (.ref b272)])) rfl (by rw [hml]; rfl) (argsL := [(.int (98 : Int32))]) (rest := [(.ref b272)]) (lenOf pd_b5a46ce rfl) rfl (by show 2 * 0 + _ ≤ _; exact Nat.le_of_eq rfl) (hb hby at_330) (fun _ _ => ⟨rfl, rfl, (by decide : 14 + 2 ≤ _), (by decide : 28734 + 5 ≤ _)⟩)
    dsimp only [Pt.U, Pt.locs, Pt.cells, Pt.slots] at X388 l388 y388 z388 st388 hQ388
    subst l388 y388 z388
    obtain ⟨Nq388, Kq388, vx388, rfl, Ev388⟩ := hQ388
    have KK389 : Keep h0 T388.heap [] := KK386.trans Kq388 all0
    have NN390 := Fr.app NN387 Nq388
    refine Go.st (T' := T388.setTop (mkF m 333 #[.val (.int p1), .val (.int p2), .val (.int p3), .val (.int p4), .val (.int p5), .val (.int (2 : Int32)), .val (.int z6), .val (.ref ax), .val (.int z8), .val (.int z9), .val (.int z10), .val (.ref b231), .val (.ref sx), .val (.ref b272), .val (.ref b282)] [(.ref vx388), (.ref b272)])) (fun zt zk => st388 zt zk) ?_
    have f391 : own_St Z T388.heap b231 t234 csL := ((f372.keep Kq378 (ninS ne284 nin0) (ninS ne285 nin0)).keep Kq388 nin0 nin0)
    have f392 : own_St Z T388.heap sx st csS := ((f373.keep Kq378 (ninS ne287 nin0) (ninS ne288 nin0)).keep Kq388 nin0 nin0)
    have f393 : Exa Z T388.heap b272 "java/util/ArrayList" := ((R363.1.keep Kq378).keep Kq388)
    have f394 : own_AL Z T388.heap b272 ed363 ke363 [vx350] := ((R363.keep Kq378 (ninS ne289 nin0) (ninS (Ne.symm ne369) nin0)).keep Kq388 nin0 nin0)
    have f395 : Exa Z T388.heap b282 "java/util/ArrayList" := (R378.1.keep Kq388)
    have f396 : own_AL Z T388.heap b282 ed378 ke378 [yy1] := (R378.keep Kq388 nin0 nin0)
    obtain ⟨cq397, kq397, q397a, q397b, q397c⟩ := isOf hZ rfl f393
    obtain ⟨vr397, _, ⟨T397, L397, k397, n397⟩, -, X397, ⟨Lc397, hQ397, l397, y397, z397⟩, st397⟩ := X388.interfaceBack hx (xi := (⟨"java/util/List", "add", "(Ljava/lang/Object;)Z"⟩ : MethodName)) (y := (⟨"java/util/ArrayList", "add", "(Ljava/lang/Object;)Z"⟩ : MethodName)) hown (mvT hZ (hw _ (List.mem_of_getElem? (i := 87) rfl))) (mvT hZ (hw _ (List.mem_of_getElem? (i := 88) rfl))) (mvT hZ (hw _ (List.mem_of_getElem? (i := 89) rfl))) (mvT hZ (hw _ (List.mem_of_getElem? (i := 90) rfl))) (mvT hZ (hw _ (List.mem_of_getElem? (i := 91) rfl))) (mvT hZ (hw _ (List.mem_of_getElem? (i := 92) rfl))) (mvT hZ (hw _ (List.mem_of_getElem? (i := 93) rfl))) (mvT hZ (hw _ (List.mem_of_getElem? (i := 68) rfl))) (by decide) (backOf (W := 0) (rmAddB l Z a0 hw b272 vx388 ed363 ke363 [vx350] T388.heap n0 (Nat.le_trans Z0 KK389.1) f394 (Nat.le_of_ble_eq_true rfl) g_b272 g_ed363 ne368 Ev388) hZ (hw _ (List.mem_of_getElem? (i := 94) rfl)) (hw _ (List.mem_of_getElem? (i := 35) rfl)) (by decide) (by decide)) q397a q397b q397c (g := (mkF m 333 #[.val (.int p1), .val (.int p2), .val (.int p3), .val (.int p4), .val (.int p5), .val (.int (2 : Int32)), .val (.int z6), .val (.ref ax), .val (.int z8), .val (.int z9), .val (.int z10), .val (.ref b231), .val (.ref sx), .val (.ref b272), .val (.ref b282)] [(.ref vx388), (.ref b272)])) rfl (by rw [hml]; rfl) (Steps.refl _) (argsL := [(.ref vx388)]) (rest := []) (lenOf pd_a0133a8 rfl) rfl (by show 2 * 0 + _ ≤ _; exact Nat.le_of_eq rfl) (hb hby at_333) (fun _ _ => ⟨rfl, rfl, (by decide : 16 + 0 ≤ _), (by decide : 28739 + 0 ≤ _)⟩)
    dsimp only [Pt.U, Pt.locs, Pt.cells, Pt.slots] at X397 l397 y397 z397 st397 hQ397
    subst l397 y397 z397
    obtain ⟨rfl, Nq397, Kq397, R397⟩ := hQ397
    have KK398 : Keep h0 T397.heap [] := KK389.trans Kq397 (allS (Or.inr sz_b272) (allS (Or.inr sz_ed363) all0))
    have NN399 := Fr.app NN390 Nq397
    refine Go.st (T' := T397.setTop (mkF m 338 #[.val (.int p1), .val (.int p2), .val (.int p3), .val (.int p4), .val (.int p5), .val (.int (2 : Int32)), .val (.int z6), .val (.ref ax), .val (.int z8), .val (.int z9), .val (.int z10), .val (.ref b231), .val (.ref sx), .val (.ref b272), .val (.ref b282)] [(.int (1 : Int32))])) (fun zt zk => st397.trans zk) ?_
    refine Go.st (T' := T397.setTop (mkF m 339 #[.val (.int p1), .val (.int p2), .val (.int p3), .val (.int p4), .val (.int p5), .val (.int (2 : Int32)), .val (.int z6), .val (.ref ax), .val (.int z8), .val (.int z9), .val (.int z10), .val (.ref b231), .val (.ref sx), .val (.ref b272), .val (.ref b282)] [])) (fun zt zk => XS.pop X397.here hx rfl (hb hby at_338) rfl rfl zk) ?_
    refine Go.st (T' := T397.setTop (mkF m 341 #[.val (.int p1), .val (.int p2), .val (.int p3), .val (.int p4), .val (.int p5), .val (.int (2 : Int32)), .val (.int z6), .val (.ref ax), .val (.int z8), .val (.int z9), .val (.int z10), .val (.ref b231), .val (.ref sx), .val (.ref b272), .val (.ref b282)] [(.ref b282)])) (fun zt zk => XS.aload X397.here hx rfl (hb hby at_339) rfl rfl zk) ?_
    refine Go.st (T' := T397.setTop (mkF m 342 #[.val (.int p1), .val (.int p2), .val (.int p3), .val (.int p4), .val (.int p5), .val (.int (2 : Int32)), .val (.int z6), .val (.ref ax), .val (.int z8), .val (.int z9), .val (.int z10), .val (.ref b231), .val (.ref sx), .val (.ref b272), .val (.ref b282)] [(.int p4), (.ref b282)])) (fun zt zk => XS.iloadN X397.here hx rfl (hb hby at_341) rfl zk) ?_
    refine Go.st (T' := T397.setTop (mkF m 343 #[.val (.int p1), .val (.int p2), .val (.int p3), .val (.int p4), .val (.int p5), .val (.int (2 : Int32)), .val (.int z6), .val (.ref ax), .val (.int z8), .val (.int z9), .val (.int z10), .val (.ref b231), .val (.ref sx), .val (.ref b272), .val (.ref b282)] [(.int (2 : Int32)), (.int p4), (.ref b282)])) (fun zt zk => XS.iconst X397.here hx rfl (hb hby at_342) zk) ?_
    refine Go.st (T' := T397.setTop (mkF m 344 #[.val (.int p1), .val (.int p2), .val (.int p3), .val (.int p4), .val (.int p5), .val (.int (2 : Int32)), .val (.int z6), .val (.ref ax), .val (.int z8), .val (.int z9), .val (.int z10), .val (.ref b231), .val (.ref sx), .val (.ref b272), .val (.ref b282)] [(.int (p4 &&& (2 : Int32))), (.ref b282)])) (fun zt zk => XS.iand X397.here hx rfl (hb hby at_343) rfl zk) ?_
    suffices Jyy2 : ∀ yy2 : Addr, (yy2 = b231 ∨ yy2 = sx) → Go p e below (T397.setTop (mkF m 354 #[.val (.int p1), .val (.int p2), .val (.int p3), .val (.int p4), .val (.int p5), .val (.int (2 : Int32)), .val (.int z6), .val (.ref ax), .val (.int z8), .val (.int z9), .val (.int z10), .val (.ref b231), .val (.ref sx), .val (.ref b272), .val (.ref b282)] [(.ref yy2), (.ref b282)])) (EndN s (Q_rm0 Z p1 p2 p3 p4 p5 h0 n0) room_1.cells room_1.slots) by
      by_cases hcyy2 : (p4 &&& (2 : Int32)) = (0 : Int32)
      ·
        refine Go.st (T' := T397.setTop (mkF m 352 #[.val (.int p1), .val (.int p2), .val (.int p3), .val (.int p4), .val (.int p5), .val (.int (2 : Int32)), .val (.int z6), .val (.ref ax), .val (.int z8), .val (.int z9), .val (.int z10), .val (.ref b231), .val (.ref sx), .val (.ref b272), .val (.ref b282)] [(.ref b282)])) (fun zt zk => XS.ifYes X397.here hx rfl (pc0 := 344) (pc' := 352) rfl (hb hby at_344) rfl ((if0 _ _).trans (teq hcyy2).1) (by decide) (by decide) zk) ?_
        refine Go.st (T' := T397.setTop (mkF m 354 #[.val (.int p1), .val (.int p2), .val (.int p3), .val (.int p4), .val (.int p5), .val (.int (2 : Int32)), .val (.int z6), .val (.ref ax), .val (.int z8), .val (.int z9), .val (.int z10), .val (.ref b231), .val (.ref sx), .val (.ref b272), .val (.ref b282)] [(.ref sx), (.ref b282)])) (fun zt zk => XS.aload X397.here hx rfl (hb hby at_352) rfl rfl zk) ?_
        exact Jyy2 _ (Or.inr rfl)
      ·
        refine Go.st (T' := T397.setTop (mkF m 347 #[.val (.int p1), .val (.int p2), .val (.int p3), .val (.int p4), .val (.int p5), .val (.int (2 : Int32)), .val (.int z6), .val (.ref ax), .val (.int z8), .val (.int z9), .val (.int z10), .val (.ref b231), .val (.ref sx), .val (.ref b272), .val (.ref b282)] [(.ref b282)])) (fun zt zk => XS.ifNo X397.here hx rfl (hb hby at_344) rfl ((if0 _ _).trans (feq hcyy2).1) zk) ?_
        refine Go.st (T' := T397.setTop (mkF m 349 #[.val (.int p1), .val (.int p2), .val (.int p3), .val (.int p4), .val (.int p5), .val (.int (2 : Int32)), .val (.int z6), .val (.ref ax), .val (.int z8), .val (.int z9), .val (.int z10), .val (.ref b231), .val (.ref sx), .val (.ref b272), .val (.ref b282)] [(.ref b231), (.ref b282)])) (fun zt zk => XS.aload X397.here hx rfl (hb hby at_347) rfl rfl zk) ?_
        refine Go.st (T' := T397.setTop (mkF m 354 #[.val (.int p1), .val (.int p2), .val (.int p3), .val (.int p4), .val (.int p5), .val (.int (2 : Int32)), .val (.int z6), .val (.ref ax), .val (.int z8), .val (.int z9), .val (.int z10), .val (.ref b231), .val (.ref sx), .val (.ref b272), .val (.ref b282)] [(.ref b231), (.ref b282)])) (fun zt zk => XS.goto X397.here hx rfl (pc0 := 349) (pc' := 354) rfl (hb hby at_349) (by decide) (by decide) zk) ?_
        exact Jyy2 _ (Or.inl rfl)
    intro yy2 h_yy2
    have f400 : own_St Z T397.heap b231 t234 csL := (f391.keep Kq397 (ninS ne273 (ninS ne364 nin0)) (ninS ne274 (ninS ne365 nin0)))
    have f401 : own_St Z T397.heap sx st csS := (f392.keep Kq397 (ninS ne275 (ninS ne366 nin0)) (ninS ne276 (ninS ne367 nin0)))
    have Ey2 : Exa Z T397.heap yy2 "java/lang/String" := by
      rcases h_yy2 with q | q
      · rw [q]; exact (f400).1
      · rw [q]; exact (f401).1
    have f402 : Exa Z T397.heap b282 "java/util/ArrayList" := (f395.keep Kq397)
    have f403 : own_AL Z T397.heap b282 ed378 ke378 [yy1] := (f396.keep Kq397 (ninS (Ne.symm ne289) (ninS ne369 nin0)) (ninS (Ne.symm ne383) (ninS (Ne.symm ne385) nin0)))
    obtain ⟨LX404, XX404, NX404⟩ : ∃ LX, Stand p l e room_1 s m #[(.int p1), (.int p2), (.int p3), (.int p4), (.int p5)] below meth c T397 LX 16 28739 ∧ Fr n0 LX := ⟨_, X397, NN399⟩
    obtain ⟨cq405, kq405, q405a, q405b, q405c⟩ := isOf hZ rfl f402
    obtain ⟨vr405, _, ⟨T405, L405, k405, n405⟩, -, X405, ⟨Lc405, hQ405, l405, y405, z405⟩, st405⟩ := XX404.interfaceBack hx (xi := (⟨"java/util/List", "add", "(Ljava/lang/Object;)Z"⟩ : MethodName)) (y := (⟨"java/util/ArrayList", "add", "(Ljava/lang/Object;)Z"⟩ : MethodName)) hown (mvT hZ (hw _ (List.mem_of_getElem? (i := 87) rfl))) (mvT hZ (hw _ (List.mem_of_getElem? (i := 88) rfl))) (mvT hZ (hw _ (List.mem_of_getElem? (i := 89) rfl))) (mvT hZ (hw _ (List.mem_of_getElem? (i := 90) rfl))) (mvT hZ (hw _ (List.mem_of_getElem? (i := 91) rfl))) (mvT hZ (hw _ (List.mem_of_getElem? (i := 92) rfl))) (mvT hZ (hw _ (List.mem_of_getElem? (i := 93) rfl))) (mvT hZ (hw _ (List.mem_of_getElem? (i := 68) rfl))) (by decide) (backOf (W := 0) (rmAddB l Z a0 hw b282 yy2 ed378 ke378 [yy1] T397.heap n0 (Nat.le_trans Z0 KK398.1) f403 (Nat.le_of_ble_eq_true rfl) g_b282 g_ed378 ne384 Ey2) hZ (hw _ (List.mem_of_getElem? (i := 94) rfl)) (hw _ (List.mem_of_getElem? (i := 35) rfl)) (by decide) (by decide)) q405a q405b q405c (g := (mkF m 354 #[.val (.int p1), .val (.int p2), .val (.int p3), .val (.int p4), .val (.int p5), .val (.int (2 : Int32)), .val (.int z6), .val (.ref ax), .val (.int z8), .val (.int z9), .val (.int z10), .val (.ref b231), .val (.ref sx), .val (.ref b272), .val (.ref b282)] [(.ref yy2), (.ref b282)])) rfl (by rw [hml]; rfl) (Steps.refl _) (argsL := [(.ref yy2)]) (rest := []) (lenOf pd_a0133a8 rfl) rfl (by show 2 * 0 + _ ≤ _; exact Nat.le_of_eq rfl) (hb hby at_354) (fun _ _ => ⟨rfl, rfl, (by decide : 16 + 0 ≤ _), (by decide : 28739 + 0 ≤ _)⟩)
    dsimp only [Pt.U, Pt.locs, Pt.cells, Pt.slots] at X405 l405 y405 z405 st405 hQ405
    subst l405 y405 z405
    obtain ⟨rfl, Nq405, Kq405, R405⟩ := hQ405
    have KK406 : Keep h0 T405.heap [] := KK398.trans Kq405 (allS (Or.inr sz_b282) (allS (Or.inr sz_ed378) all0))
    have NN407 := Fr.app NX404 Nq405
    refine Go.st (T' := T405.setTop (mkF m 359 #[.val (.int p1), .val (.int p2), .val (.int p3), .val (.int p4), .val (.int p5), .val (.int (2 : Int32)), .val (.int z6), .val (.ref ax), .val (.int z8), .val (.int z9), .val (.int z10), .val (.ref b231), .val (.ref sx), .val (.ref b272), .val (.ref b282)] [(.int (1 : Int32))])) (fun zt zk => st405.trans zk) ?_
    refine Go.st (T' := T405.setTop (mkF m 360 #[.val (.int p1), .val (.int p2), .val (.int p3), .val (.int p4), .val (.int p5), .val (.int (2 : Int32)), .val (.int z6), .val (.ref ax), .val (.int z8), .val (.int z9), .val (.int z10), .val (.ref b231), .val (.ref sx), .val (.ref b272), .val (.ref b282)] [])) (fun zt zk => XS.pop X405.here hx rfl (hb hby at_359) rfl rfl zk) ?_
    refine Go.st (T' := T405.setTop (mkF m 362 #[.val (.int p1), .val (.int p2), .val (.int p3), .val (.int p4), .val (.int p5), .val (.int (2 : Int32)), .val (.int z6), .val (.ref ax), .val (.int z8), .val (.int z9), .val (.int z10), .val (.ref b231), .val (.ref sx), .val (.ref b272), .val (.ref b282)] [(.int (2 : Int32))])) (fun zt zk => XS.iload X405.here hx rfl (hb hby at_360) rfl zk) ?_
    refine Go.st (T' := T405.setTop (mkF m 363 #[.val (.int p1), .val (.int p2), .val (.int p3), .val (.int p4), .val (.int p5), .val (.int (2 : Int32)), .val (.int z6), .val (.ref ax), .val (.int z8), .val (.int z9), .val (.int z10), .val (.ref b231), .val (.ref sx), .val (.ref b272), .val (.ref b282)] [(.int (3 : Int32)), (.int (2 : Int32))])) (fun zt zk => XS.iconst X405.here hx rfl (hb hby at_362) zk) ?_
    refine Go.st (T' := T405.setTop (mkF m 400 #[.val (.int p1), .val (.int p2), .val (.int p3), .val (.int p4), .val (.int p5), .val (.int (2 : Int32)), .val (.int z6), .val (.ref ax), .val (.int z8), .val (.int z9), .val (.int z10), .val (.ref b231), .val (.ref sx), .val (.ref b272), .val (.ref b282)] [])) (fun zt zk => XS.icmpYes X405.here hx rfl (pc0 := 363) (pc' := 400) rfl (hb hby at_363) rfl (tlt (by decide)).1 (by decide) (by decide) zk) ?_
    refine Go.st (T' := T405.setTop (mkF m 402 #[.val (.int p1), .val (.int p2), .val (.int p3), .val (.int p4), .val (.int p5), .val (.int (2 : Int32)), .val (.int z6), .val (.ref ax), .val (.int z8), .val (.int z9), .val (.int z10), .val (.ref b231), .val (.ref sx), .val (.ref b272), .val (.ref b282)] [(.ref b272)])) (fun zt zk => XS.aload X405.here hx rfl (hb hby at_400) rfl rfl zk) ?_
    refine Go.st (T' := T405.setTop (mkF m 404 #[.val (.int p1), .val (.int p2), .val (.int p3), .val (.int p4), .val (.int p5), .val (.int (2 : Int32)), .val (.int z6), .val (.ref ax), .val (.int z8), .val (.int z9), .val (.int z10), .val (.ref b231), .val (.ref sx), .val (.ref b272), .val (.ref b282)] [(.ref b282), (.ref b272)])) (fun zt zk => XS.aload X405.here hx rfl (hb hby at_402) rfl rfl zk) ?_
    have f408 : own_St Z T405.heap b231 t234 csL := (f400.keep Kq405 (ninS ne284 (ninS ne379 nin0)) (ninS ne285 (ninS ne380 nin0)))
    have f409 : own_St Z T405.heap sx st csS := (f401.keep Kq405 (ninS ne287 (ninS ne381 nin0)) (ninS ne288 (ninS ne382 nin0)))
    have hSy : ∀ y, (y = b231 ∨ y = sx) → ∃ (t : Addr) (cs : List Int32), own_St Z T405.heap y t cs ∧ own_ok cs := by
      intro y hy
      rcases hy with q | q
      · rw [q]; exact ⟨_, _, f408, okL⟩
      · rw [q]; exact ⟨_, _, f409, okS⟩
    have hmem : ∀ y ∈ ([yy1] ++ [yy2]), y = b231 ∨ y = sx := by
      intro y hy
      simp only [List.mem_append, List.mem_cons, List.not_mem_nil, or_false] at hy
      rcases hy with q1 | q1
      · rw [q1]; exact h_yy1
      · rw [q1]; exact h_yy2
    obtain ⟨vr410, _, ⟨T410, L410, k410, n410⟩, -, X410, ⟨Lc410, hQ410, l410, y410, z410⟩, st410⟩ := Jvm.LawKit.callS X405 hx (y := (⟨"com/example/librole/librole/textfile/TextFile", "refuseEmptyOrTooLong", "(Ljava/util/List;Ljava/util/List;)V"⟩ : MethodName)) hown (mvT hZ (hw _ (List.mem_of_getElem? (i := 57) rfl))) (mvT hZ (hw _ (List.mem_of_getElem? (i := 58) rfl))) (mvT hZ (hw _ (List.mem_of_getElem? (i := 59) rfl))) (mvT hZ (hw _ (List.mem_of_getElem? (i := 60) rfl))) (by decide) (backOf (W := 0) (rmRef l Z a0 hw b272 b282 ([yy1] ++ [yy2]) T405.heap n0 (Nat.le_trans Z0 KK406.1) G1 O2 P5 (X00.keep KK406 all0) A1 A2 A3 R405.1 R405.2.2.1 (fun _ => ⟨_, _, R405⟩) (Nat.le_of_ble_eq_true rfl) (fun y hy => hSy y (hmem y hy))) hZ (hw _ (List.mem_of_getElem? (i := 60) rfl)) (hw _ (List.mem_of_getElem? (i := 59) rfl)) (by decide) (by decide)) (g := (mkF m 404 #[.val (.int p1), .val (.int p2), .val (.int p3), .val (.int p4), .val (.int p5), .val (.int (2 : Int32)), .val (.int z6), .val (.ref ax), .val (.int z8), .val (.int z9), .val (.int z10), .val (.ref b231), .val (.ref sx), .val (.ref b272), .val (.ref b282)] [(.ref b282), (.ref b272)])) rfl (by rw [hml]; rfl) (argsL := [(.ref b272), (.ref b282)]) (rest := []) (lenOf pd_b86c906 rfl) rfl (by show 2 * 0 + _ ≤ _; exact Nat.le_of_eq rfl) (hb hby at_404) (fun _ _ => ⟨rfl, rfl, (by decide : 16 + 0 ≤ _), (by decide : 28739 + 0 ≤ _)⟩)
    dsimp only [Pt.U, Pt.locs, Pt.cells, Pt.slots] at X410 l410 y410 z410 st410 hQ410
    subst l410 y410 z410
    obtain ⟨rfl, Nq410, eq410⟩ := hQ410
    have NN411 := Fr.app NN407 Nq410
    refine Go.st (T' := T410.setTop (mkF m 407 #[.val (.int p1), .val (.int p2), .val (.int p3), .val (.int p4), .val (.int p5), .val (.int (2 : Int32)), .val (.int z6), .val (.ref ax), .val (.int z8), .val (.int z9), .val (.int z10), .val (.ref b231), .val (.ref sx), .val (.ref b272), .val (.ref b282)] [])) (fun zt zk => st410 zt zk) ?_
    refine Go.st (T' := T410.setTop (mkF m 409 #[.val (.int p1), .val (.int p2), .val (.int p3), .val (.int p4), .val (.int p5), .val (.int (2 : Int32)), .val (.int z6), .val (.ref ax), .val (.int z8), .val (.int z9), .val (.int z10), .val (.ref b231), .val (.ref sx), .val (.ref b272), .val (.ref b282)] [(.ref b282)])) (fun zt zk => XS.aload X410.here hx rfl (hb hby at_407) rfl rfl zk) ?_
    obtain ⟨cq412, kq412, q412a, q412b, q412c⟩ := isOf hZ eq410 R405.1
    obtain ⟨vr412, _, ⟨T412, L412, k412, n412⟩, -, X412, ⟨Lc412, hQ412, l412, y412, z412⟩, st412⟩ := X410.interfaceBack hx (xi := (⟨"java/util/List", "size", "()I"⟩ : MethodName)) (y := (⟨"java/util/ArrayList", "size", "()I"⟩ : MethodName)) hown (mvT hZ (hw _ (List.mem_of_getElem? (i := 72) rfl))) (mvT hZ (hw _ (List.mem_of_getElem? (i := 62) rfl))) (mvT hZ (hw _ (List.mem_of_getElem? (i := 63) rfl))) (mvT hZ (hw _ (List.mem_of_getElem? (i := 64) rfl))) (mvT hZ (hw _ (List.mem_of_getElem? (i := 65) rfl))) (mvT hZ (hw _ (List.mem_of_getElem? (i := 66) rfl))) (mvT hZ (hw _ (List.mem_of_getElem? (i := 67) rfl))) (mvT hZ (hw _ (List.mem_of_getElem? (i := 68) rfl))) (by decide) (backOf (W := 0) (rmSize l Z a0 hw b282 (Int32.ofNat ([yy1] ++ [yy2]).length) T405.heap n0 (Nat.le_trans Z0 KK406.1) R405.2.2.1) hZ (hw _ (List.mem_of_getElem? (i := 69) rfl)) (hw _ (List.mem_of_getElem? (i := 35) rfl)) (by decide) (by decide)) q412a q412b q412c (g := (mkF m 409 #[.val (.int p1), .val (.int p2), .val (.int p3), .val (.int p4), .val (.int p5), .val (.int (2 : Int32)), .val (.int z6), .val (.ref ax), .val (.int z8), .val (.int z9), .val (.int z10), .val (.ref b231), .val (.ref sx), .val (.ref b272), .val (.ref b282)] [(.ref b282)])) rfl (by rw [hml]; rfl) (Steps.refl _) (argsL := []) (rest := []) (lenOf pd_a8eac rfl) rfl (by show 2 * 0 + _ ≤ _; exact Nat.le_of_eq rfl) (hb hby at_409) (fun _ _ => ⟨rfl, eq410, (by decide : 16 + 0 ≤ _), (by decide : 28739 + 0 ≤ _)⟩)
    dsimp only [Pt.U, Pt.locs, Pt.cells, Pt.slots] at X412 l412 y412 z412 st412 hQ412
    subst l412 y412 z412
    obtain ⟨rfl, Nq412, eq412⟩ := hQ412
    have NN413 := Fr.app NN411 Nq412
    refine Go.st (T' := T412.setTop (mkF m 414 #[.val (.int p1), .val (.int p2), .val (.int p3), .val (.int p4), .val (.int p5), .val (.int (2 : Int32)), .val (.int z6), .val (.ref ax), .val (.int z8), .val (.int z9), .val (.int z10), .val (.ref b231), .val (.ref sx), .val (.ref b272), .val (.ref b282)] [(.int (Int32.ofNat ([yy1] ++ [yy2]).length))])) (fun zt zk => st412.trans zk) ?_
    refine Go.st (T' := T412.setTop (mkF m 416 #[.val (.int p1), .val (.int p2), .val (.int p3), .val (.int p4), .val (.int p5), .val (.int (2 : Int32)), .val (.int z6), .val (.ref ax), .val (.int z8), .val (.int z9), .val (.int z10), .val (.ref b231), .val (.ref sx), .val (.ref b272), .val (.ref b282)] [(.int (2 : Int32)), (.int (Int32.ofNat ([yy1] ++ [yy2]).length))])) (fun zt zk => XS.iload X412.here hx rfl (hb hby at_414) rfl zk) ?_
    refine Go.st (T' := T412.setTop (mkF m 419 #[.val (.int p1), .val (.int p2), .val (.int p3), .val (.int p4), .val (.int p5), .val (.int (2 : Int32)), .val (.int z6), .val (.ref ax), .val (.int z8), .val (.int z9), .val (.int z10), .val (.ref b231), .val (.ref sx), .val (.ref b272), .val (.ref b282)] [])) (fun zt zk => XS.icmpNo X412.here hx rfl (hb hby at_416) rfl (teq rfl).2 zk) ?_
    refine Go.st (T' := T412.setTop (mkF m 420 #[.val (.int p1), .val (.int p2), .val (.int p3), .val (.int p4), .val (.int p5), .val (.int (2 : Int32)), .val (.int z6), .val (.ref ax), .val (.int z8), .val (.int z9), .val (.int z10), .val (.ref b231), .val (.ref sx), .val (.ref b272), .val (.ref b282)] [(.int (1 : Int32))])) (fun zt zk => XS.iconst X412.here hx rfl (hb hby at_419) zk) ?_
    refine Go.st (T' := T412.setTop (mkF m 424 #[.val (.int p1), .val (.int p2), .val (.int p3), .val (.int p4), .val (.int p5), .val (.int (2 : Int32)), .val (.int z6), .val (.ref ax), .val (.int z8), .val (.int z9), .val (.int z10), .val (.ref b231), .val (.ref sx), .val (.ref b272), .val (.ref b282)] [(.int (1 : Int32))])) (fun zt zk => XS.goto X412.here hx rfl (pc0 := 420) (pc' := 424) rfl (hb hby at_420) (by decide) (by decide) zk) ?_
    exact Go.done X412 Bd.notSynchronized (v := some (.int (nar .boolean (1 : Int32)))) (fun h => by rw [Bd.returns] at h; cases h) (fun fs hr => retN X412 hx (t := .boolean) Bd.returns (by simp) (hb hby at_424) hr) (by rw [eq412]; exact ⟨rfl, NN413⟩) (by decide) (by decide)
  ·
    refine Go.st (T' := T296.setTop (mkF m 282 #[.val (.int p1), .val (.int p2), .val (.int p3), .val (.int p4), .val (.int p5), .val (.int (3 : Int32)), .val (.int z6), .val (.ref ax), .val (.int z8), .val (.int z9), .val (.int z10), .val (.ref b231), .val (.ref sx), .val (.ref b272), .val (.ref b282)] [(.int (3 : Int32))])) (fun zt zk => XS.iload X296.here hx rfl (hb hby at_280) rfl zk) ?_
    refine Go.st (T' := T296.setTop (mkF m 283 #[.val (.int p1), .val (.int p2), .val (.int p3), .val (.int p4), .val (.int p5), .val (.int (3 : Int32)), .val (.int z6), .val (.ref ax), .val (.int z8), .val (.int z9), .val (.int z10), .val (.ref b231), .val (.ref sx), .val (.ref b272), .val (.ref b282)] [(.int (1 : Int32)), (.int (3 : Int32))])) (fun zt zk => XS.iconst X296.here hx rfl (hb hby at_282) zk) ?_
    refine Go.st (T' := T296.setTop (mkF m 286 #[.val (.int p1), .val (.int p2), .val (.int p3), .val (.int p4), .val (.int p5), .val (.int (3 : Int32)), .val (.int z6), .val (.ref ax), .val (.int z8), .val (.int z9), .val (.int z10), .val (.ref b231), .val (.ref sx), .val (.ref b272), .val (.ref b282)] [])) (fun zt zk => XS.icmpNo X296.here hx rfl (hb hby at_283) rfl (flt (by decide)).1 zk) ?_
    refine Go.st (T' := T296.setTop (mkF m 288 #[.val (.int p1), .val (.int p2), .val (.int p3), .val (.int p4), .val (.int p5), .val (.int (3 : Int32)), .val (.int z6), .val (.ref ax), .val (.int z8), .val (.int z9), .val (.int z10), .val (.ref b231), .val (.ref sx), .val (.ref b272), .val (.ref b282)] [(.ref b272)])) (fun zt zk => XS.aload X296.here hx rfl (hb hby at_286) rfl rfl zk) ?_
    refine Go.st (T' := T296.setTop (mkF m 290 #[.val (.int p1), .val (.int p2), .val (.int p3), .val (.int p4), .val (.int p5), .val (.int (3 : Int32)), .val (.int z6), .val (.ref ax), .val (.int z8), .val (.int z9), .val (.int z10), .val (.ref b231), .val (.ref sx), .val (.ref b272), .val (.ref b282)] [(.int (97 : Int32)), (.ref b272)])) (fun zt zk => XS.bipush X296.here hx rfl (hb hby at_288) zk) ?_
    obtain ⟨vr414, _, ⟨T414, L414, k414, n414⟩, -, X414, ⟨Lc414, hQ414, l414, y414, z414⟩, st414⟩ := Jvm.LawKit.callS X296 hx (y := (⟨"java/lang/String", "valueOf", "(C)Ljava/lang/String;"⟩ : MethodName)) hown (mvT hZ (hw _ (List.mem_of_getElem? (i := 73) rfl))) (mvT hZ (hw _ (List.mem_of_getElem? (i := 74) rfl))) (mvT hZ (hw _ (List.mem_of_getElem? (i := 6) rfl))) (mvT hZ (hw _ (List.mem_of_getElem? (i := 75) rfl))) (by decide) (backOf (W := 1) (rmVal l Z a0 hw (97 : Int32) T296.heap n0 (Nat.le_trans Z0 KK297.1) G1 O2 P5 (X00.keep KK297 all0) (by decide)) hZ (hw _ (List.mem_of_getElem? (i := 75) rfl)) (hw _ (List.mem_of_getElem? (i := 6) rfl)) (by decide) (by decide)) (g := (mkF m 290 #[.val (.int p1), .val (.int p2), .val (.int p3), .val (.int p4), .val (.int p5), .val (.int (3 : Int32)), .val (.int z6), .val (.ref ax), .val (.int z8), .val (.int z9), .val (.int z10), .val (.ref b231), .val (.ref sx), .val (.ref b272), .val (.ref b282)] [(.int (97 : Int32)), (.ref b272)])) rfl (by rw [hml]; rfl) (argsL := [(.int (97 : Int32))]) (rest := [(.ref b272)]) (lenOf pd_b5a46ce rfl) rfl (by show 2 * 0 + _ ≤ _; exact Nat.le_of_eq rfl) (hb hby at_290) (fun _ _ => ⟨rfl, rfl, (by decide : 10 + 2 ≤ _), (by decide : 28709 + 5 ≤ _)⟩)
    dsimp only [Pt.U, Pt.locs, Pt.cells, Pt.slots] at X414 l414 y414 z414 st414 hQ414
    subst l414 y414 z414
    obtain ⟨Nq414, Kq414, vx414, rfl, Ev414⟩ := hQ414
    have KK415 : Keep h0 T414.heap [] := KK297.trans Kq414 all0
    have NN416 := Fr.app NN298 Nq414
    refine Go.st (T' := T414.setTop (mkF m 293 #[.val (.int p1), .val (.int p2), .val (.int p3), .val (.int p4), .val (.int p5), .val (.int (3 : Int32)), .val (.int z6), .val (.ref ax), .val (.int z8), .val (.int z9), .val (.int z10), .val (.ref b231), .val (.ref sx), .val (.ref b272), .val (.ref b282)] [(.ref vx414), (.ref b272)])) (fun zt zk => st414 zt zk) ?_
    have f417 : own_St Z T414.heap b231 t234 csL := ((f290.keep Kq296 (ninS ne284 nin0) (ninS ne285 nin0)).keep Kq414 nin0 nin0)
    have f418 : own_St Z T414.heap sx st csS := ((f291.keep Kq296 (ninS ne287 nin0) (ninS ne288 nin0)).keep Kq414 nin0 nin0)
    have f419 : Exa Z T414.heap b272 "java/util/ArrayList" := ((f292.keep Kq296).keep Kq414)
    have f420 : Fld Z T414.heap b272 "java/util/AbstractList" "modCount" "I" (.int (0 : Int32)) := ((f293.keep Kq296 (ninS ne289 nin0)).keep Kq414 nin0)
    have f421 : Fld Z T414.heap b272 "java/util/ArrayList" "elementData" "[Ljava/lang/Object;" (.ref de) := ((f294.keep Kq296 (ninS ne289 nin0)).keep Kq414 nin0)
    have f422 : Fld Z T414.heap b272 "java/util/ArrayList" "size" "I" (.int (0 : Int32)) := ((f295.keep Kq296 (ninS ne289 nin0)).keep Kq414 nin0)
    have f423 : Exa Z T414.heap b282 "java/util/ArrayList" := (E296.keep Kq414)
    have f424 : Fld Z T414.heap b282 "java/util/AbstractList" "modCount" "I" (.int (0 : Int32)) := (Fa296.keep Kq414 nin0)
    have f425 : Fld Z T414.heap b282 "java/util/ArrayList" "elementData" "[Ljava/lang/Object;" (.ref de) := (Fb296.keep Kq414 nin0)
    have f426 : Fld Z T414.heap b282 "java/util/ArrayList" "size" "I" (.int (0 : Int32)) := (Fc296.keep Kq414 nin0)
    obtain ⟨cq427, kq427, q427a, q427b, q427c⟩ := isOf hZ rfl f419
    obtain ⟨vr427, _, ⟨T427, L427, k427, n427⟩, -, X427, ⟨Lc427, hQ427, l427, y427, z427⟩, st427⟩ := X414.interfaceBack hx (xi := (⟨"java/util/List", "add", "(Ljava/lang/Object;)Z"⟩ : MethodName)) (y := (⟨"java/util/ArrayList", "add", "(Ljava/lang/Object;)Z"⟩ : MethodName)) hown (mvT hZ (hw _ (List.mem_of_getElem? (i := 87) rfl))) (mvT hZ (hw _ (List.mem_of_getElem? (i := 88) rfl))) (mvT hZ (hw _ (List.mem_of_getElem? (i := 89) rfl))) (mvT hZ (hw _ (List.mem_of_getElem? (i := 90) rfl))) (mvT hZ (hw _ (List.mem_of_getElem? (i := 91) rfl))) (mvT hZ (hw _ (List.mem_of_getElem? (i := 92) rfl))) (mvT hZ (hw _ (List.mem_of_getElem? (i := 93) rfl))) (mvT hZ (hw _ (List.mem_of_getElem? (i := 68) rfl))) (by decide) (backOf (W := 0) (rmAddA l Z a0 hw b272 vx414 de _ T414.heap n0 (Nat.le_trans Z0 KK415.1) (X00.keep KK415 all0) Sd (Bde0.ext (X00.keep KK415 all0).2) f419 g_b272 f420 f421 f422 Ev414 lde) hZ (hw _ (List.mem_of_getElem? (i := 94) rfl)) (hw _ (List.mem_of_getElem? (i := 35) rfl)) (by decide) (by decide)) q427a q427b q427c (g := (mkF m 293 #[.val (.int p1), .val (.int p2), .val (.int p3), .val (.int p4), .val (.int p5), .val (.int (3 : Int32)), .val (.int z6), .val (.ref ax), .val (.int z8), .val (.int z9), .val (.int z10), .val (.ref b231), .val (.ref sx), .val (.ref b272), .val (.ref b282)] [(.ref vx414), (.ref b272)])) rfl (by rw [hml]; rfl) (Steps.refl _) (argsL := [(.ref vx414)]) (rest := []) (lenOf pd_a0133a8 rfl) rfl (by show 2 * 0 + _ ≤ _; exact Nat.le_of_eq rfl) (hb hby at_293) (fun _ _ => ⟨rfl, rfl, (by decide : 12 + 1 ≤ _), (by decide : 28714 + 10 ≤ _)⟩)
    dsimp only [Pt.U, Pt.locs, Pt.cells, Pt.slots] at X427 l427 y427 z427 st427 hQ427
    subst l427 y427 z427
    obtain ⟨rfl, Nq427, Kq427, ed427, ke427, sy427, R427⟩ := hQ427
    have ne428 : b231 ≠ ed427 := Nat.ne_of_lt (Nat.lt_of_lt_of_le f417.lt1 sy427)
    have ne429 : t234 ≠ ed427 := Nat.ne_of_lt (Nat.lt_of_lt_of_le f417.lt2 sy427)
    have ne430 : sx ≠ ed427 := Nat.ne_of_lt (Nat.lt_of_lt_of_le f418.lt1 sy427)
    have ne431 : st ≠ ed427 := Nat.ne_of_lt (Nat.lt_of_lt_of_le f418.lt2 sy427)
    have ne432 : b272 ≠ ed427 := Nat.ne_of_lt (Nat.lt_of_lt_of_le f419.lt sy427)
    have ne433 : b282 ≠ ed427 := Nat.ne_of_lt (Nat.lt_of_lt_of_le f423.lt sy427)
    have sz_ed427 : h0.size ≤ ed427 := Nat.le_trans KK415.1 sy427
    have g_ed427 : n0 ≤ ed427 := Nat.le_trans Z0 sz_ed427
    have KK434 : Keep h0 T427.heap [] := KK415.trans Kq427 (allS (Or.inr sz_b272) all0)
    have NN435 := Fr.app NN416 Nq427
    refine Go.st (T' := T427.setTop (mkF m 298 #[.val (.int p1), .val (.int p2), .val (.int p3), .val (.int p4), .val (.int p5), .val (.int (3 : Int32)), .val (.int z6), .val (.ref ax), .val (.int z8), .val (.int z9), .val (.int z10), .val (.ref b231), .val (.ref sx), .val (.ref b272), .val (.ref b282)] [(.int (1 : Int32))])) (fun zt zk => st427.trans zk) ?_
    refine Go.st (T' := T427.setTop (mkF m 299 #[.val (.int p1), .val (.int p2), .val (.int p3), .val (.int p4), .val (.int p5), .val (.int (3 : Int32)), .val (.int z6), .val (.ref ax), .val (.int z8), .val (.int z9), .val (.int z10), .val (.ref b231), .val (.ref sx), .val (.ref b272), .val (.ref b282)] [])) (fun zt zk => XS.pop X427.here hx rfl (hb hby at_298) rfl rfl zk) ?_
    refine Go.st (T' := T427.setTop (mkF m 301 #[.val (.int p1), .val (.int p2), .val (.int p3), .val (.int p4), .val (.int p5), .val (.int (3 : Int32)), .val (.int z6), .val (.ref ax), .val (.int z8), .val (.int z9), .val (.int z10), .val (.ref b231), .val (.ref sx), .val (.ref b272), .val (.ref b282)] [(.ref b282)])) (fun zt zk => XS.aload X427.here hx rfl (hb hby at_299) rfl rfl zk) ?_
    refine Go.st (T' := T427.setTop (mkF m 302 #[.val (.int p1), .val (.int p2), .val (.int p3), .val (.int p4), .val (.int p5), .val (.int (3 : Int32)), .val (.int z6), .val (.ref ax), .val (.int z8), .val (.int z9), .val (.int z10), .val (.ref b231), .val (.ref sx), .val (.ref b272), .val (.ref b282)] [(.int p4), (.ref b282)])) (fun zt zk => XS.iloadN X427.here hx rfl (hb hby at_301) rfl zk) ?_
    refine Go.st (T' := T427.setTop (mkF m 303 #[.val (.int p1), .val (.int p2), .val (.int p3), .val (.int p4), .val (.int p5), .val (.int (3 : Int32)), .val (.int z6), .val (.ref ax), .val (.int z8), .val (.int z9), .val (.int z10), .val (.ref b231), .val (.ref sx), .val (.ref b272), .val (.ref b282)] [(.int (1 : Int32)), (.int p4), (.ref b282)])) (fun zt zk => XS.iconst X427.here hx rfl (hb hby at_302) zk) ?_
    refine Go.st (T' := T427.setTop (mkF m 304 #[.val (.int p1), .val (.int p2), .val (.int p3), .val (.int p4), .val (.int p5), .val (.int (3 : Int32)), .val (.int z6), .val (.ref ax), .val (.int z8), .val (.int z9), .val (.int z10), .val (.ref b231), .val (.ref sx), .val (.ref b272), .val (.ref b282)] [(.int (p4 &&& (1 : Int32))), (.ref b282)])) (fun zt zk => XS.iand X427.here hx rfl (hb hby at_303) rfl zk) ?_
    suffices Jyy1 : ∀ yy1 : Addr, (yy1 = b231 ∨ yy1 = sx) → Go p e below (T427.setTop (mkF m 314 #[.val (.int p1), .val (.int p2), .val (.int p3), .val (.int p4), .val (.int p5), .val (.int (3 : Int32)), .val (.int z6), .val (.ref ax), .val (.int z8), .val (.int z9), .val (.int z10), .val (.ref b231), .val (.ref sx), .val (.ref b272), .val (.ref b282)] [(.ref yy1), (.ref b282)])) (EndN s (Q_rm0 Z p1 p2 p3 p4 p5 h0 n0) room_1.cells room_1.slots) by
      by_cases hcyy1 : (p4 &&& (1 : Int32)) = (0 : Int32)
      ·
        refine Go.st (T' := T427.setTop (mkF m 312 #[.val (.int p1), .val (.int p2), .val (.int p3), .val (.int p4), .val (.int p5), .val (.int (3 : Int32)), .val (.int z6), .val (.ref ax), .val (.int z8), .val (.int z9), .val (.int z10), .val (.ref b231), .val (.ref sx), .val (.ref b272), .val (.ref b282)] [(.ref b282)])) (fun zt zk => XS.ifYes X427.here hx rfl (pc0 := 304) (pc' := 312) rfl (hb hby at_304) rfl ((if0 _ _).trans (teq hcyy1).1) (by decide) (by decide) zk) ?_
        refine Go.st (T' := T427.setTop (mkF m 314 #[.val (.int p1), .val (.int p2), .val (.int p3), .val (.int p4), .val (.int p5), .val (.int (3 : Int32)), .val (.int z6), .val (.ref ax), .val (.int z8), .val (.int z9), .val (.int z10), .val (.ref b231), .val (.ref sx), .val (.ref b272), .val (.ref b282)] [(.ref sx), (.ref b282)])) (fun zt zk => XS.aload X427.here hx rfl (hb hby at_312) rfl rfl zk) ?_
        exact Jyy1 _ (Or.inr rfl)
      ·
        refine Go.st (T' := T427.setTop (mkF m 307 #[.val (.int p1), .val (.int p2), .val (.int p3), .val (.int p4), .val (.int p5), .val (.int (3 : Int32)), .val (.int z6), .val (.ref ax), .val (.int z8), .val (.int z9), .val (.int z10), .val (.ref b231), .val (.ref sx), .val (.ref b272), .val (.ref b282)] [(.ref b282)])) (fun zt zk => XS.ifNo X427.here hx rfl (hb hby at_304) rfl ((if0 _ _).trans (feq hcyy1).1) zk) ?_
        refine Go.st (T' := T427.setTop (mkF m 309 #[.val (.int p1), .val (.int p2), .val (.int p3), .val (.int p4), .val (.int p5), .val (.int (3 : Int32)), .val (.int z6), .val (.ref ax), .val (.int z8), .val (.int z9), .val (.int z10), .val (.ref b231), .val (.ref sx), .val (.ref b272), .val (.ref b282)] [(.ref b231), (.ref b282)])) (fun zt zk => XS.aload X427.here hx rfl (hb hby at_307) rfl rfl zk) ?_
        refine Go.st (T' := T427.setTop (mkF m 314 #[.val (.int p1), .val (.int p2), .val (.int p3), .val (.int p4), .val (.int p5), .val (.int (3 : Int32)), .val (.int z6), .val (.ref ax), .val (.int z8), .val (.int z9), .val (.int z10), .val (.ref b231), .val (.ref sx), .val (.ref b272), .val (.ref b282)] [(.ref b231), (.ref b282)])) (fun zt zk => XS.goto X427.here hx rfl (pc0 := 309) (pc' := 314) rfl (hb hby at_309) (by decide) (by decide) zk) ?_
        exact Jyy1 _ (Or.inl rfl)
    intro yy1 h_yy1
    have f436 : own_St Z T427.heap b231 t234 csL := (f417.keep Kq427 (ninS ne273 nin0) (ninS ne274 nin0))
    have f437 : own_St Z T427.heap sx st csS := (f418.keep Kq427 (ninS ne275 nin0) (ninS ne276 nin0))
    have Ey1 : Exa Z T427.heap yy1 "java/lang/String" := by
      rcases h_yy1 with q | q
      · rw [q]; exact (f436).1
      · rw [q]; exact (f437).1
    have f438 : Exa Z T427.heap b282 "java/util/ArrayList" := (f423.keep Kq427)
    have f439 : Fld Z T427.heap b282 "java/util/AbstractList" "modCount" "I" (.int (0 : Int32)) := (f424.keep Kq427 (ninS (Ne.symm ne289) nin0))
    have f440 : Fld Z T427.heap b282 "java/util/ArrayList" "elementData" "[Ljava/lang/Object;" (.ref de) := (f425.keep Kq427 (ninS (Ne.symm ne289) nin0))
    have f441 : Fld Z T427.heap b282 "java/util/ArrayList" "size" "I" (.int (0 : Int32)) := (f426.keep Kq427 (ninS (Ne.symm ne289) nin0))
    obtain ⟨cq442, kq442, q442a, q442b, q442c⟩ := isOf hZ rfl f438
    obtain ⟨vr442, _, ⟨T442, L442, k442, n442⟩, -, X442, ⟨Lc442, hQ442, l442, y442, z442⟩, st442⟩ := X427.interfaceBack hx (xi := (⟨"java/util/List", "add", "(Ljava/lang/Object;)Z"⟩ : MethodName)) (y := (⟨"java/util/ArrayList", "add", "(Ljava/lang/Object;)Z"⟩ : MethodName)) hown (mvT hZ (hw _ (List.mem_of_getElem? (i := 87) rfl))) (mvT hZ (hw _ (List.mem_of_getElem? (i := 88) rfl))) (mvT hZ (hw _ (List.mem_of_getElem? (i := 89) rfl))) (mvT hZ (hw _ (List.mem_of_getElem? (i := 90) rfl))) (mvT hZ (hw _ (List.mem_of_getElem? (i := 91) rfl))) (mvT hZ (hw _ (List.mem_of_getElem? (i := 92) rfl))) (mvT hZ (hw _ (List.mem_of_getElem? (i := 93) rfl))) (mvT hZ (hw _ (List.mem_of_getElem? (i := 68) rfl))) (by decide) (backOf (W := 0) (rmAddA l Z a0 hw b282 yy1 de _ T427.heap n0 (Nat.le_trans Z0 KK434.1) (X00.keep KK434 all0) Sd (Bde0.ext (X00.keep KK434 all0).2) f438 g_b282 f439 f440 f441 Ey1 lde) hZ (hw _ (List.mem_of_getElem? (i := 94) rfl)) (hw _ (List.mem_of_getElem? (i := 35) rfl)) (by decide) (by decide)) q442a q442b q442c (g := (mkF m 314 #[.val (.int p1), .val (.int p2), .val (.int p3), .val (.int p4), .val (.int p5), .val (.int (3 : Int32)), .val (.int z6), .val (.ref ax), .val (.int z8), .val (.int z9), .val (.int z10), .val (.ref b231), .val (.ref sx), .val (.ref b272), .val (.ref b282)] [(.ref yy1), (.ref b282)])) rfl (by rw [hml]; rfl) (Steps.refl _) (argsL := [(.ref yy1)]) (rest := []) (lenOf pd_a0133a8 rfl) rfl (by show 2 * 0 + _ ≤ _; exact Nat.le_of_eq rfl) (hb hby at_314) (fun _ _ => ⟨rfl, rfl, (by decide : 13 + 1 ≤ _), (by decide : 28724 + 10 ≤ _)⟩)
    dsimp only [Pt.U, Pt.locs, Pt.cells, Pt.slots] at X442 l442 y442 z442 st442 hQ442
    subst l442 y442 z442
    obtain ⟨rfl, Nq442, Kq442, ed442, ke442, sy442, R442⟩ := hQ442
    have ne443 : b231 ≠ ed442 := Nat.ne_of_lt (Nat.lt_of_lt_of_le f436.lt1 sy442)
    have ne444 : t234 ≠ ed442 := Nat.ne_of_lt (Nat.lt_of_lt_of_le f436.lt2 sy442)
    have ne445 : sx ≠ ed442 := Nat.ne_of_lt (Nat.lt_of_lt_of_le f437.lt1 sy442)
    have ne446 : st ≠ ed442 := Nat.ne_of_lt (Nat.lt_of_lt_of_le f437.lt2 sy442)
    have ne447 : b272 ≠ ed442 := Nat.ne_of_lt (Nat.lt_of_lt_of_le R427.lt1 sy442)
    have ne448 : b282 ≠ ed442 := Nat.ne_of_lt (Nat.lt_of_lt_of_le f438.lt sy442)
    have ne449 : ed427 ≠ ed442 := Nat.ne_of_lt (Nat.lt_of_lt_of_le R427.lt2 sy442)
    have sz_ed442 : h0.size ≤ ed442 := Nat.le_trans KK434.1 sy442
    have g_ed442 : n0 ≤ ed442 := Nat.le_trans Z0 sz_ed442
    have KK450 : Keep h0 T442.heap [] := KK434.trans Kq442 (allS (Or.inr sz_b282) all0)
    have NN451 := Fr.app NN435 Nq442
    refine Go.st (T' := T442.setTop (mkF m 319 #[.val (.int p1), .val (.int p2), .val (.int p3), .val (.int p4), .val (.int p5), .val (.int (3 : Int32)), .val (.int z6), .val (.ref ax), .val (.int z8), .val (.int z9), .val (.int z10), .val (.ref b231), .val (.ref sx), .val (.ref b272), .val (.ref b282)] [(.int (1 : Int32))])) (fun zt zk => st442.trans zk) ?_
    refine Go.st (T' := T442.setTop (mkF m 320 #[.val (.int p1), .val (.int p2), .val (.int p3), .val (.int p4), .val (.int p5), .val (.int (3 : Int32)), .val (.int z6), .val (.ref ax), .val (.int z8), .val (.int z9), .val (.int z10), .val (.ref b231), .val (.ref sx), .val (.ref b272), .val (.ref b282)] [])) (fun zt zk => XS.pop X442.here hx rfl (hb hby at_319) rfl rfl zk) ?_
    refine Go.st (T' := T442.setTop (mkF m 322 #[.val (.int p1), .val (.int p2), .val (.int p3), .val (.int p4), .val (.int p5), .val (.int (3 : Int32)), .val (.int z6), .val (.ref ax), .val (.int z8), .val (.int z9), .val (.int z10), .val (.ref b231), .val (.ref sx), .val (.ref b272), .val (.ref b282)] [(.int (3 : Int32))])) (fun zt zk => XS.iload X442.here hx rfl (hb hby at_320) rfl zk) ?_
    refine Go.st (T' := T442.setTop (mkF m 323 #[.val (.int p1), .val (.int p2), .val (.int p3), .val (.int p4), .val (.int p5), .val (.int (3 : Int32)), .val (.int z6), .val (.ref ax), .val (.int z8), .val (.int z9), .val (.int z10), .val (.ref b231), .val (.ref sx), .val (.ref b272), .val (.ref b282)] [(.int (2 : Int32)), (.int (3 : Int32))])) (fun zt zk => XS.iconst X442.here hx rfl (hb hby at_322) zk) ?_
    refine Go.st (T' := T442.setTop (mkF m 326 #[.val (.int p1), .val (.int p2), .val (.int p3), .val (.int p4), .val (.int p5), .val (.int (3 : Int32)), .val (.int z6), .val (.ref ax), .val (.int z8), .val (.int z9), .val (.int z10), .val (.ref b231), .val (.ref sx), .val (.ref b272), .val (.ref b282)] [])) (fun zt zk => XS.icmpNo X442.here hx rfl (hb hby at_323) rfl (flt (by decide)).1 zk) ?_
    refine Go.st (T' := T442.setTop (mkF m 328 #[.val (.int p1), .val (.int p2), .val (.int p3), .val (.int p4), .val (.int p5), .val (.int (3 : Int32)), .val (.int z6), .val (.ref ax), .val (.int z8), .val (.int z9), .val (.int z10), .val (.ref b231), .val (.ref sx), .val (.ref b272), .val (.ref b282)] [(.ref b272)])) (fun zt zk => XS.aload X442.here hx rfl (hb hby at_326) rfl rfl zk) ?_
    refine Go.st (T' := T442.setTop (mkF m 330 #[.val (.int p1), .val (.int p2), .val (.int p3), .val (.int p4), .val (.int p5), .val (.int (3 : Int32)), .val (.int z6), .val (.ref ax), .val (.int z8), .val (.int z9), .val (.int z10), .val (.ref b231), .val (.ref sx), .val (.ref b272), .val (.ref b282)] [(.int (98 : Int32)), (.ref b272)])) (fun zt zk => XS.bipush X442.here hx rfl (hb hby at_328) zk) ?_
    obtain ⟨vr452, _, ⟨T452, L452, k452, n452⟩, -, X452, ⟨Lc452, hQ452, l452, y452, z452⟩, st452⟩ := Jvm.LawKit.callS X442 hx (y := (⟨"java/lang/String", "valueOf", "(C)Ljava/lang/String;"⟩ : MethodName)) hown (mvT hZ (hw _ (List.mem_of_getElem? (i := 73) rfl))) (mvT hZ (hw _ (List.mem_of_getElem? (i := 74) rfl))) (mvT hZ (hw _ (List.mem_of_getElem? (i := 6) rfl))) (mvT hZ (hw _ (List.mem_of_getElem? (i := 75) rfl))) (by decide) (backOf (W := 1) (rmVal l Z a0 hw (98 : Int32) T442.heap n0 (Nat.le_trans Z0 KK450.1) G1 O2 P5 (X00.keep KK450 all0) (by decide)) hZ (hw _ (List.mem_of_getElem? (i := 75) rfl)) (hw _ (List.mem_of_getElem? (i := 6) rfl)) (by decide) (by decide)) (g := (mkF m 330 #[.val (.int p1), .val (.int p2), .val (.int p3), .val (.int p4), .val (.int p5), .val (.int (3 : Int32)), .val (.int z6), .val (.ref ax), .val (.int z8), .val (.int z9), .val (.int z10), .val (.ref b231), .val (.ref sx), .val (.ref b272), .val (.ref b282)] [(.int (98 : Int32)), (.ref b272)])) rfl (by rw [hml]; rfl) (argsL := [(.int (98 : Int32))]) (rest := [(.ref b272)]) (lenOf pd_b5a46ce rfl) rfl (by show 2 * 0 + _ ≤ _; exact Nat.le_of_eq rfl) (hb hby at_330) (fun _ _ => ⟨rfl, rfl, (by decide : 14 + 2 ≤ _), (by decide : 28734 + 5 ≤ _)⟩)
    dsimp only [Pt.U, Pt.locs, Pt.cells, Pt.slots] at X452 l452 y452 z452 st452 hQ452
    subst l452 y452 z452
    obtain ⟨Nq452, Kq452, vx452, rfl, Ev452⟩ := hQ452
    have KK453 : Keep h0 T452.heap [] := KK450.trans Kq452 all0
    have NN454 := Fr.app NN451 Nq452
    refine Go.st (T' := T452.setTop (mkF m 333 #[.val (.int p1), .val (.int p2), .val (.int p3), .val (.int p4), .val (.int p5), .val (.int (3 : Int32)), .val (.int z6), .val (.ref ax), .val (.int z8), .val (.int z9), .val (.int z10), .val (.ref b231), .val (.ref sx), .val (.ref b272), .val (.ref b282)] [(.ref vx452), (.ref b272)])) (fun zt zk => st452 zt zk) ?_
    have f455 : own_St Z T452.heap b231 t234 csL := ((f436.keep Kq442 (ninS ne284 nin0) (ninS ne285 nin0)).keep Kq452 nin0 nin0)
    have f456 : own_St Z T452.heap sx st csS := ((f437.keep Kq442 (ninS ne287 nin0) (ninS ne288 nin0)).keep Kq452 nin0 nin0)
    have f457 : Exa Z T452.heap b272 "java/util/ArrayList" := ((R427.1.keep Kq442).keep Kq452)
    have f458 : own_AL Z T452.heap b272 ed427 ke427 [vx414] := ((R427.keep Kq442 (ninS ne289 nin0) (ninS (Ne.symm ne433) nin0)).keep Kq452 nin0 nin0)
    have f459 : Exa Z T452.heap b282 "java/util/ArrayList" := (R442.1.keep Kq452)
    have f460 : own_AL Z T452.heap b282 ed442 ke442 [yy1] := (R442.keep Kq452 nin0 nin0)
    obtain ⟨LX461, XX461, NX461⟩ : ∃ LX, Stand p l e room_1 s m #[(.int p1), (.int p2), (.int p3), (.int p4), (.int p5)] below meth c T452 LX 16 28739 ∧ Fr n0 LX := ⟨_, X452, NN454⟩
    obtain ⟨cq462, kq462, q462a, q462b, q462c⟩ := isOf hZ rfl f457
    obtain ⟨vr462, _, ⟨T462, L462, k462, n462⟩, -, X462, ⟨Lc462, hQ462, l462, y462, z462⟩, st462⟩ := XX461.interfaceBack hx (xi := (⟨"java/util/List", "add", "(Ljava/lang/Object;)Z"⟩ : MethodName)) (y := (⟨"java/util/ArrayList", "add", "(Ljava/lang/Object;)Z"⟩ : MethodName)) hown (mvT hZ (hw _ (List.mem_of_getElem? (i := 87) rfl))) (mvT hZ (hw _ (List.mem_of_getElem? (i := 88) rfl))) (mvT hZ (hw _ (List.mem_of_getElem? (i := 89) rfl))) (mvT hZ (hw _ (List.mem_of_getElem? (i := 90) rfl))) (mvT hZ (hw _ (List.mem_of_getElem? (i := 91) rfl))) (mvT hZ (hw _ (List.mem_of_getElem? (i := 92) rfl))) (mvT hZ (hw _ (List.mem_of_getElem? (i := 93) rfl))) (mvT hZ (hw _ (List.mem_of_getElem? (i := 68) rfl))) (by decide) (backOf (W := 0) (rmAddB l Z a0 hw b272 vx452 ed427 ke427 [vx414] T452.heap n0 (Nat.le_trans Z0 KK453.1) f458 (Nat.le_of_ble_eq_true rfl) g_b272 g_ed427 ne432 Ev452) hZ (hw _ (List.mem_of_getElem? (i := 94) rfl)) (hw _ (List.mem_of_getElem? (i := 35) rfl)) (by decide) (by decide)) q462a q462b q462c (g := (mkF m 333 #[.val (.int p1), .val (.int p2), .val (.int p3), .val (.int p4), .val (.int p5), .val (.int (3 : Int32)), .val (.int z6), .val (.ref ax), .val (.int z8), .val (.int z9), .val (.int z10), .val (.ref b231), .val (.ref sx), .val (.ref b272), .val (.ref b282)] [(.ref vx452), (.ref b272)])) rfl (by rw [hml]; rfl) (Steps.refl _) (argsL := [(.ref vx452)]) (rest := []) (lenOf pd_a0133a8 rfl) rfl (by show 2 * 0 + _ ≤ _; exact Nat.le_of_eq rfl) (hb hby at_333) (fun _ _ => ⟨rfl, rfl, (by decide : 16 + 0 ≤ _), (by decide : 28739 + 0 ≤ _)⟩)
    dsimp only [Pt.U, Pt.locs, Pt.cells, Pt.slots] at X462 l462 y462 z462 st462 hQ462
    subst l462 y462 z462
    obtain ⟨rfl, Nq462, Kq462, R462⟩ := hQ462
    have KK463 : Keep h0 T462.heap [] := KK453.trans Kq462 (allS (Or.inr sz_b272) (allS (Or.inr sz_ed427) all0))
    have NN464 := Fr.app NX461 Nq462
    refine Go.st (T' := T462.setTop (mkF m 338 #[.val (.int p1), .val (.int p2), .val (.int p3), .val (.int p4), .val (.int p5), .val (.int (3 : Int32)), .val (.int z6), .val (.ref ax), .val (.int z8), .val (.int z9), .val (.int z10), .val (.ref b231), .val (.ref sx), .val (.ref b272), .val (.ref b282)] [(.int (1 : Int32))])) (fun zt zk => st462.trans zk) ?_
    refine Go.st (T' := T462.setTop (mkF m 339 #[.val (.int p1), .val (.int p2), .val (.int p3), .val (.int p4), .val (.int p5), .val (.int (3 : Int32)), .val (.int z6), .val (.ref ax), .val (.int z8), .val (.int z9), .val (.int z10), .val (.ref b231), .val (.ref sx), .val (.ref b272), .val (.ref b282)] [])) (fun zt zk => XS.pop X462.here hx rfl (hb hby at_338) rfl rfl zk) ?_
    refine Go.st (T' := T462.setTop (mkF m 341 #[.val (.int p1), .val (.int p2), .val (.int p3), .val (.int p4), .val (.int p5), .val (.int (3 : Int32)), .val (.int z6), .val (.ref ax), .val (.int z8), .val (.int z9), .val (.int z10), .val (.ref b231), .val (.ref sx), .val (.ref b272), .val (.ref b282)] [(.ref b282)])) (fun zt zk => XS.aload X462.here hx rfl (hb hby at_339) rfl rfl zk) ?_
    refine Go.st (T' := T462.setTop (mkF m 342 #[.val (.int p1), .val (.int p2), .val (.int p3), .val (.int p4), .val (.int p5), .val (.int (3 : Int32)), .val (.int z6), .val (.ref ax), .val (.int z8), .val (.int z9), .val (.int z10), .val (.ref b231), .val (.ref sx), .val (.ref b272), .val (.ref b282)] [(.int p4), (.ref b282)])) (fun zt zk => XS.iloadN X462.here hx rfl (hb hby at_341) rfl zk) ?_
    refine Go.st (T' := T462.setTop (mkF m 343 #[.val (.int p1), .val (.int p2), .val (.int p3), .val (.int p4), .val (.int p5), .val (.int (3 : Int32)), .val (.int z6), .val (.ref ax), .val (.int z8), .val (.int z9), .val (.int z10), .val (.ref b231), .val (.ref sx), .val (.ref b272), .val (.ref b282)] [(.int (2 : Int32)), (.int p4), (.ref b282)])) (fun zt zk => XS.iconst X462.here hx rfl (hb hby at_342) zk) ?_
    refine Go.st (T' := T462.setTop (mkF m 344 #[.val (.int p1), .val (.int p2), .val (.int p3), .val (.int p4), .val (.int p5), .val (.int (3 : Int32)), .val (.int z6), .val (.ref ax), .val (.int z8), .val (.int z9), .val (.int z10), .val (.ref b231), .val (.ref sx), .val (.ref b272), .val (.ref b282)] [(.int (p4 &&& (2 : Int32))), (.ref b282)])) (fun zt zk => XS.iand X462.here hx rfl (hb hby at_343) rfl zk) ?_
    suffices Jyy2 : ∀ yy2 : Addr, (yy2 = b231 ∨ yy2 = sx) → Go p e below (T462.setTop (mkF m 354 #[.val (.int p1), .val (.int p2), .val (.int p3), .val (.int p4), .val (.int p5), .val (.int (3 : Int32)), .val (.int z6), .val (.ref ax), .val (.int z8), .val (.int z9), .val (.int z10), .val (.ref b231), .val (.ref sx), .val (.ref b272), .val (.ref b282)] [(.ref yy2), (.ref b282)])) (EndN s (Q_rm0 Z p1 p2 p3 p4 p5 h0 n0) room_1.cells room_1.slots) by
      by_cases hcyy2 : (p4 &&& (2 : Int32)) = (0 : Int32)
      ·
        refine Go.st (T' := T462.setTop (mkF m 352 #[.val (.int p1), .val (.int p2), .val (.int p3), .val (.int p4), .val (.int p5), .val (.int (3 : Int32)), .val (.int z6), .val (.ref ax), .val (.int z8), .val (.int z9), .val (.int z10), .val (.ref b231), .val (.ref sx), .val (.ref b272), .val (.ref b282)] [(.ref b282)])) (fun zt zk => XS.ifYes X462.here hx rfl (pc0 := 344) (pc' := 352) rfl (hb hby at_344) rfl ((if0 _ _).trans (teq hcyy2).1) (by decide) (by decide) zk) ?_
        refine Go.st (T' := T462.setTop (mkF m 354 #[.val (.int p1), .val (.int p2), .val (.int p3), .val (.int p4), .val (.int p5), .val (.int (3 : Int32)), .val (.int z6), .val (.ref ax), .val (.int z8), .val (.int z9), .val (.int z10), .val (.ref b231), .val (.ref sx), .val (.ref b272), .val (.ref b282)] [(.ref sx), (.ref b282)])) (fun zt zk => XS.aload X462.here hx rfl (hb hby at_352) rfl rfl zk) ?_
        exact Jyy2 _ (Or.inr rfl)
      ·
        refine Go.st (T' := T462.setTop (mkF m 347 #[.val (.int p1), .val (.int p2), .val (.int p3), .val (.int p4), .val (.int p5), .val (.int (3 : Int32)), .val (.int z6), .val (.ref ax), .val (.int z8), .val (.int z9), .val (.int z10), .val (.ref b231), .val (.ref sx), .val (.ref b272), .val (.ref b282)] [(.ref b282)])) (fun zt zk => XS.ifNo X462.here hx rfl (hb hby at_344) rfl ((if0 _ _).trans (feq hcyy2).1) zk) ?_
        refine Go.st (T' := T462.setTop (mkF m 349 #[.val (.int p1), .val (.int p2), .val (.int p3), .val (.int p4), .val (.int p5), .val (.int (3 : Int32)), .val (.int z6), .val (.ref ax), .val (.int z8), .val (.int z9), .val (.int z10), .val (.ref b231), .val (.ref sx), .val (.ref b272), .val (.ref b282)] [(.ref b231), (.ref b282)])) (fun zt zk => XS.aload X462.here hx rfl (hb hby at_347) rfl rfl zk) ?_
        refine Go.st (T' := T462.setTop (mkF m 354 #[.val (.int p1), .val (.int p2), .val (.int p3), .val (.int p4), .val (.int p5), .val (.int (3 : Int32)), .val (.int z6), .val (.ref ax), .val (.int z8), .val (.int z9), .val (.int z10), .val (.ref b231), .val (.ref sx), .val (.ref b272), .val (.ref b282)] [(.ref b231), (.ref b282)])) (fun zt zk => XS.goto X462.here hx rfl (pc0 := 349) (pc' := 354) rfl (hb hby at_349) (by decide) (by decide) zk) ?_
        exact Jyy2 _ (Or.inl rfl)
    intro yy2 h_yy2
    have f465 : own_St Z T462.heap b231 t234 csL := (f455.keep Kq462 (ninS ne273 (ninS ne428 nin0)) (ninS ne274 (ninS ne429 nin0)))
    have f466 : own_St Z T462.heap sx st csS := (f456.keep Kq462 (ninS ne275 (ninS ne430 nin0)) (ninS ne276 (ninS ne431 nin0)))
    have Ey2 : Exa Z T462.heap yy2 "java/lang/String" := by
      rcases h_yy2 with q | q
      · rw [q]; exact (f465).1
      · rw [q]; exact (f466).1
    have f467 : Exa Z T462.heap b282 "java/util/ArrayList" := (f459.keep Kq462)
    have f468 : own_AL Z T462.heap b282 ed442 ke442 [yy1] := (f460.keep Kq462 (ninS (Ne.symm ne289) (ninS ne433 nin0)) (ninS (Ne.symm ne447) (ninS (Ne.symm ne449) nin0)))
    obtain ⟨cq469, kq469, q469a, q469b, q469c⟩ := isOf hZ rfl f467
    obtain ⟨vr469, _, ⟨T469, L469, k469, n469⟩, -, X469, ⟨Lc469, hQ469, l469, y469, z469⟩, st469⟩ := X462.interfaceBack hx (xi := (⟨"java/util/List", "add", "(Ljava/lang/Object;)Z"⟩ : MethodName)) (y := (⟨"java/util/ArrayList", "add", "(Ljava/lang/Object;)Z"⟩ : MethodName)) hown (mvT hZ (hw _ (List.mem_of_getElem? (i := 87) rfl))) (mvT hZ (hw _ (List.mem_of_getElem? (i := 88) rfl))) (mvT hZ (hw _ (List.mem_of_getElem? (i := 89) rfl))) (mvT hZ (hw _ (List.mem_of_getElem? (i := 90) rfl))) (mvT hZ (hw _ (List.mem_of_getElem? (i := 91) rfl))) (mvT hZ (hw _ (List.mem_of_getElem? (i := 92) rfl))) (mvT hZ (hw _ (List.mem_of_getElem? (i := 93) rfl))) (mvT hZ (hw _ (List.mem_of_getElem? (i := 68) rfl))) (by decide) (backOf (W := 0) (rmAddB l Z a0 hw b282 yy2 ed442 ke442 [yy1] T462.heap n0 (Nat.le_trans Z0 KK463.1) f468 (Nat.le_of_ble_eq_true rfl) g_b282 g_ed442 ne448 Ey2) hZ (hw _ (List.mem_of_getElem? (i := 94) rfl)) (hw _ (List.mem_of_getElem? (i := 35) rfl)) (by decide) (by decide)) q469a q469b q469c (g := (mkF m 354 #[.val (.int p1), .val (.int p2), .val (.int p3), .val (.int p4), .val (.int p5), .val (.int (3 : Int32)), .val (.int z6), .val (.ref ax), .val (.int z8), .val (.int z9), .val (.int z10), .val (.ref b231), .val (.ref sx), .val (.ref b272), .val (.ref b282)] [(.ref yy2), (.ref b282)])) rfl (by rw [hml]; rfl) (Steps.refl _) (argsL := [(.ref yy2)]) (rest := []) (lenOf pd_a0133a8 rfl) rfl (by show 2 * 0 + _ ≤ _; exact Nat.le_of_eq rfl) (hb hby at_354) (fun _ _ => ⟨rfl, rfl, (by decide : 16 + 0 ≤ _), (by decide : 28739 + 0 ≤ _)⟩)
    dsimp only [Pt.U, Pt.locs, Pt.cells, Pt.slots] at X469 l469 y469 z469 st469 hQ469
    subst l469 y469 z469
    obtain ⟨rfl, Nq469, Kq469, R469⟩ := hQ469
    have KK470 : Keep h0 T469.heap [] := KK463.trans Kq469 (allS (Or.inr sz_b282) (allS (Or.inr sz_ed442) all0))
    have NN471 := Fr.app NN464 Nq469
    refine Go.st (T' := T469.setTop (mkF m 359 #[.val (.int p1), .val (.int p2), .val (.int p3), .val (.int p4), .val (.int p5), .val (.int (3 : Int32)), .val (.int z6), .val (.ref ax), .val (.int z8), .val (.int z9), .val (.int z10), .val (.ref b231), .val (.ref sx), .val (.ref b272), .val (.ref b282)] [(.int (1 : Int32))])) (fun zt zk => st469.trans zk) ?_
    refine Go.st (T' := T469.setTop (mkF m 360 #[.val (.int p1), .val (.int p2), .val (.int p3), .val (.int p4), .val (.int p5), .val (.int (3 : Int32)), .val (.int z6), .val (.ref ax), .val (.int z8), .val (.int z9), .val (.int z10), .val (.ref b231), .val (.ref sx), .val (.ref b272), .val (.ref b282)] [])) (fun zt zk => XS.pop X469.here hx rfl (hb hby at_359) rfl rfl zk) ?_
    refine Go.st (T' := T469.setTop (mkF m 362 #[.val (.int p1), .val (.int p2), .val (.int p3), .val (.int p4), .val (.int p5), .val (.int (3 : Int32)), .val (.int z6), .val (.ref ax), .val (.int z8), .val (.int z9), .val (.int z10), .val (.ref b231), .val (.ref sx), .val (.ref b272), .val (.ref b282)] [(.int (3 : Int32))])) (fun zt zk => XS.iload X469.here hx rfl (hb hby at_360) rfl zk) ?_
    refine Go.st (T' := T469.setTop (mkF m 363 #[.val (.int p1), .val (.int p2), .val (.int p3), .val (.int p4), .val (.int p5), .val (.int (3 : Int32)), .val (.int z6), .val (.ref ax), .val (.int z8), .val (.int z9), .val (.int z10), .val (.ref b231), .val (.ref sx), .val (.ref b272), .val (.ref b282)] [(.int (3 : Int32)), (.int (3 : Int32))])) (fun zt zk => XS.iconst X469.here hx rfl (hb hby at_362) zk) ?_
    refine Go.st (T' := T469.setTop (mkF m 366 #[.val (.int p1), .val (.int p2), .val (.int p3), .val (.int p4), .val (.int p5), .val (.int (3 : Int32)), .val (.int z6), .val (.ref ax), .val (.int z8), .val (.int z9), .val (.int z10), .val (.ref b231), .val (.ref sx), .val (.ref b272), .val (.ref b282)] [])) (fun zt zk => XS.icmpNo X469.here hx rfl (hb hby at_363) rfl (flt (by decide)).1 zk) ?_
    refine Go.st (T' := T469.setTop (mkF m 368 #[.val (.int p1), .val (.int p2), .val (.int p3), .val (.int p4), .val (.int p5), .val (.int (3 : Int32)), .val (.int z6), .val (.ref ax), .val (.int z8), .val (.int z9), .val (.int z10), .val (.ref b231), .val (.ref sx), .val (.ref b272), .val (.ref b282)] [(.ref b272)])) (fun zt zk => XS.aload X469.here hx rfl (hb hby at_366) rfl rfl zk) ?_
    refine Go.st (T' := T469.setTop (mkF m 370 #[.val (.int p1), .val (.int p2), .val (.int p3), .val (.int p4), .val (.int p5), .val (.int (3 : Int32)), .val (.int z6), .val (.ref ax), .val (.int z8), .val (.int z9), .val (.int z10), .val (.ref b231), .val (.ref sx), .val (.ref b272), .val (.ref b282)] [(.int (99 : Int32)), (.ref b272)])) (fun zt zk => XS.bipush X469.here hx rfl (hb hby at_368) zk) ?_
    obtain ⟨vr472, _, ⟨T472, L472, k472, n472⟩, -, X472, ⟨Lc472, hQ472, l472, y472, z472⟩, st472⟩ := Jvm.LawKit.callS X469 hx (y := (⟨"java/lang/String", "valueOf", "(C)Ljava/lang/String;"⟩ : MethodName)) hown (mvT hZ (hw _ (List.mem_of_getElem? (i := 73) rfl))) (mvT hZ (hw _ (List.mem_of_getElem? (i := 74) rfl))) (mvT hZ (hw _ (List.mem_of_getElem? (i := 6) rfl))) (mvT hZ (hw _ (List.mem_of_getElem? (i := 75) rfl))) (by decide) (backOf (W := 1) (rmVal l Z a0 hw (99 : Int32) T469.heap n0 (Nat.le_trans Z0 KK470.1) G1 O2 P5 (X00.keep KK470 all0) (by decide)) hZ (hw _ (List.mem_of_getElem? (i := 75) rfl)) (hw _ (List.mem_of_getElem? (i := 6) rfl)) (by decide) (by decide)) (g := (mkF m 370 #[.val (.int p1), .val (.int p2), .val (.int p3), .val (.int p4), .val (.int p5), .val (.int (3 : Int32)), .val (.int z6), .val (.ref ax), .val (.int z8), .val (.int z9), .val (.int z10), .val (.ref b231), .val (.ref sx), .val (.ref b272), .val (.ref b282)] [(.int (99 : Int32)), (.ref b272)])) rfl (by rw [hml]; rfl) (argsL := [(.int (99 : Int32))]) (rest := [(.ref b272)]) (lenOf pd_b5a46ce rfl) rfl (by show 2 * 0 + _ ≤ _; exact Nat.le_of_eq rfl) (hb hby at_370) (fun _ _ => ⟨rfl, rfl, (by decide : 16 + 2 ≤ _), (by decide : 28739 + 5 ≤ _)⟩)
    dsimp only [Pt.U, Pt.locs, Pt.cells, Pt.slots] at X472 l472 y472 z472 st472 hQ472
    subst l472 y472 z472
    obtain ⟨Nq472, Kq472, vx472, rfl, Ev472⟩ := hQ472
    have KK473 : Keep h0 T472.heap [] := KK470.trans Kq472 all0
    have NN474 := Fr.app NN471 Nq472
    refine Go.st (T' := T472.setTop (mkF m 373 #[.val (.int p1), .val (.int p2), .val (.int p3), .val (.int p4), .val (.int p5), .val (.int (3 : Int32)), .val (.int z6), .val (.ref ax), .val (.int z8), .val (.int z9), .val (.int z10), .val (.ref b231), .val (.ref sx), .val (.ref b272), .val (.ref b282)] [(.ref vx472), (.ref b272)])) (fun zt zk => st472 zt zk) ?_
    have f475 : own_St Z T472.heap b231 t234 csL := ((f465.keep Kq469 (ninS ne284 (ninS ne443 nin0)) (ninS ne285 (ninS ne444 nin0))).keep Kq472 nin0 nin0)
    have f476 : own_St Z T472.heap sx st csS := ((f466.keep Kq469 (ninS ne287 (ninS ne445 nin0)) (ninS ne288 (ninS ne446 nin0))).keep Kq472 nin0 nin0)
    have f477 : Exa Z T472.heap b272 "java/util/ArrayList" := ((R462.1.keep Kq469).keep Kq472)
    have f478 : Exa Z T472.heap b282 "java/util/ArrayList" := (R469.1.keep Kq472)
    have f479 : own_AL Z T472.heap b272 ed427 ke427 ([vx414] ++ [vx452]) := ((R462.keep Kq469 (ninS ne289 (ninS ne447 nin0)) (ninS (Ne.symm ne433) (ninS ne449 nin0))).keep Kq472 nin0 nin0)
    have f480 : own_AL Z T472.heap b282 ed442 ke442 ([yy1] ++ [yy2]) := (R469.keep Kq472 nin0 nin0)
    obtain ⟨cq481, kq481, q481a, q481b, q481c⟩ := isOf hZ rfl f477
    obtain ⟨vr481, _, ⟨T481, L481, k481, n481⟩, -, X481, ⟨Lc481, hQ481, l481, y481, z481⟩, st481⟩ := X472.interfaceBack hx (xi := (⟨"java/util/List", "add", "(Ljava/lang/Object;)Z"⟩ : MethodName)) (y := (⟨"java/util/ArrayList", "add", "(Ljava/lang/Object;)Z"⟩ : MethodName)) hown (mvT hZ (hw _ (List.mem_of_getElem? (i := 87) rfl))) (mvT hZ (hw _ (List.mem_of_getElem? (i := 88) rfl))) (mvT hZ (hw _ (List.mem_of_getElem? (i := 89) rfl))) (mvT hZ (hw _ (List.mem_of_getElem? (i := 90) rfl))) (mvT hZ (hw _ (List.mem_of_getElem? (i := 91) rfl))) (mvT hZ (hw _ (List.mem_of_getElem? (i := 92) rfl))) (mvT hZ (hw _ (List.mem_of_getElem? (i := 93) rfl))) (mvT hZ (hw _ (List.mem_of_getElem? (i := 68) rfl))) (by decide) (backOf (W := 0) (rmAddB l Z a0 hw b272 vx472 ed427 ke427 ([vx414] ++ [vx452]) T472.heap n0 (Nat.le_trans Z0 KK473.1) f479 (Nat.le_of_ble_eq_true rfl) g_b272 g_ed427 ne432 Ev472) hZ (hw _ (List.mem_of_getElem? (i := 94) rfl)) (hw _ (List.mem_of_getElem? (i := 35) rfl)) (by decide) (by decide)) q481a q481b q481c (g := (mkF m 373 #[.val (.int p1), .val (.int p2), .val (.int p3), .val (.int p4), .val (.int p5), .val (.int (3 : Int32)), .val (.int z6), .val (.ref ax), .val (.int z8), .val (.int z9), .val (.int z10), .val (.ref b231), .val (.ref sx), .val (.ref b272), .val (.ref b282)] [(.ref vx472), (.ref b272)])) rfl (by rw [hml]; rfl) (Steps.refl _) (argsL := [(.ref vx472)]) (rest := []) (lenOf pd_a0133a8 rfl) rfl (by show 2 * 0 + _ ≤ _; exact Nat.le_of_eq rfl) (hb hby at_373) (fun _ _ => ⟨rfl, rfl, (by decide : 18 + 0 ≤ _), (by decide : 28744 + 0 ≤ _)⟩)
    dsimp only [Pt.U, Pt.locs, Pt.cells, Pt.slots] at X481 l481 y481 z481 st481 hQ481
    subst l481 y481 z481
    obtain ⟨rfl, Nq481, Kq481, R481⟩ := hQ481
    have KK482 : Keep h0 T481.heap [] := KK473.trans Kq481 (allS (Or.inr sz_b272) (allS (Or.inr sz_ed427) all0))
    have NN483 := Fr.app NN474 Nq481
    refine Go.st (T' := T481.setTop (mkF m 378 #[.val (.int p1), .val (.int p2), .val (.int p3), .val (.int p4), .val (.int p5), .val (.int (3 : Int32)), .val (.int z6), .val (.ref ax), .val (.int z8), .val (.int z9), .val (.int z10), .val (.ref b231), .val (.ref sx), .val (.ref b272), .val (.ref b282)] [(.int (1 : Int32))])) (fun zt zk => st481.trans zk) ?_
    refine Go.st (T' := T481.setTop (mkF m 379 #[.val (.int p1), .val (.int p2), .val (.int p3), .val (.int p4), .val (.int p5), .val (.int (3 : Int32)), .val (.int z6), .val (.ref ax), .val (.int z8), .val (.int z9), .val (.int z10), .val (.ref b231), .val (.ref sx), .val (.ref b272), .val (.ref b282)] [])) (fun zt zk => XS.pop X481.here hx rfl (hb hby at_378) rfl rfl zk) ?_
    refine Go.st (T' := T481.setTop (mkF m 381 #[.val (.int p1), .val (.int p2), .val (.int p3), .val (.int p4), .val (.int p5), .val (.int (3 : Int32)), .val (.int z6), .val (.ref ax), .val (.int z8), .val (.int z9), .val (.int z10), .val (.ref b231), .val (.ref sx), .val (.ref b272), .val (.ref b282)] [(.ref b282)])) (fun zt zk => XS.aload X481.here hx rfl (hb hby at_379) rfl rfl zk) ?_
    refine Go.st (T' := T481.setTop (mkF m 382 #[.val (.int p1), .val (.int p2), .val (.int p3), .val (.int p4), .val (.int p5), .val (.int (3 : Int32)), .val (.int z6), .val (.ref ax), .val (.int z8), .val (.int z9), .val (.int z10), .val (.ref b231), .val (.ref sx), .val (.ref b272), .val (.ref b282)] [(.int p4), (.ref b282)])) (fun zt zk => XS.iloadN X481.here hx rfl (hb hby at_381) rfl zk) ?_
    refine Go.st (T' := T481.setTop (mkF m 383 #[.val (.int p1), .val (.int p2), .val (.int p3), .val (.int p4), .val (.int p5), .val (.int (3 : Int32)), .val (.int z6), .val (.ref ax), .val (.int z8), .val (.int z9), .val (.int z10), .val (.ref b231), .val (.ref sx), .val (.ref b272), .val (.ref b282)] [(.int (4 : Int32)), (.int p4), (.ref b282)])) (fun zt zk => XS.iconst X481.here hx rfl (hb hby at_382) zk) ?_
    refine Go.st (T' := T481.setTop (mkF m 384 #[.val (.int p1), .val (.int p2), .val (.int p3), .val (.int p4), .val (.int p5), .val (.int (3 : Int32)), .val (.int z6), .val (.ref ax), .val (.int z8), .val (.int z9), .val (.int z10), .val (.ref b231), .val (.ref sx), .val (.ref b272), .val (.ref b282)] [(.int (p4 &&& (4 : Int32))), (.ref b282)])) (fun zt zk => XS.iand X481.here hx rfl (hb hby at_383) rfl zk) ?_
    suffices Jyy3 : ∀ yy3 : Addr, (yy3 = b231 ∨ yy3 = sx) → Go p e below (T481.setTop (mkF m 394 #[.val (.int p1), .val (.int p2), .val (.int p3), .val (.int p4), .val (.int p5), .val (.int (3 : Int32)), .val (.int z6), .val (.ref ax), .val (.int z8), .val (.int z9), .val (.int z10), .val (.ref b231), .val (.ref sx), .val (.ref b272), .val (.ref b282)] [(.ref yy3), (.ref b282)])) (EndN s (Q_rm0 Z p1 p2 p3 p4 p5 h0 n0) room_1.cells room_1.slots) by
      by_cases hcyy3 : (p4 &&& (4 : Int32)) = (0 : Int32)
      ·
        refine Go.st (T' := T481.setTop (mkF m 392 #[.val (.int p1), .val (.int p2), .val (.int p3), .val (.int p4), .val (.int p5), .val (.int (3 : Int32)), .val (.int z6), .val (.ref ax), .val (.int z8), .val (.int z9), .val (.int z10), .val (.ref b231), .val (.ref sx), .val (.ref b272), .val (.ref b282)] [(.ref b282)])) (fun zt zk => XS.ifYes X481.here hx rfl (pc0 := 384) (pc' := 392) rfl (hb hby at_384) rfl ((if0 _ _).trans (teq hcyy3).1) (by decide) (by decide) zk) ?_
        refine Go.st (T' := T481.setTop (mkF m 394 #[.val (.int p1), .val (.int p2), .val (.int p3), .val (.int p4), .val (.int p5), .val (.int (3 : Int32)), .val (.int z6), .val (.ref ax), .val (.int z8), .val (.int z9), .val (.int z10), .val (.ref b231), .val (.ref sx), .val (.ref b272), .val (.ref b282)] [(.ref sx), (.ref b282)])) (fun zt zk => XS.aload X481.here hx rfl (hb hby at_392) rfl rfl zk) ?_
        exact Jyy3 _ (Or.inr rfl)
      ·
        refine Go.st (T' := T481.setTop (mkF m 387 #[.val (.int p1), .val (.int p2), .val (.int p3), .val (.int p4), .val (.int p5), .val (.int (3 : Int32)), .val (.int z6), .val (.ref ax), .val (.int z8), .val (.int z9), .val (.int z10), .val (.ref b231), .val (.ref sx), .val (.ref b272), .val (.ref b282)] [(.ref b282)])) (fun zt zk => XS.ifNo X481.here hx rfl (hb hby at_384) rfl ((if0 _ _).trans (feq hcyy3).1) zk) ?_
        refine Go.st (T' := T481.setTop (mkF m 389 #[.val (.int p1), .val (.int p2), .val (.int p3), .val (.int p4), .val (.int p5), .val (.int (3 : Int32)), .val (.int z6), .val (.ref ax), .val (.int z8), .val (.int z9), .val (.int z10), .val (.ref b231), .val (.ref sx), .val (.ref b272), .val (.ref b282)] [(.ref b231), (.ref b282)])) (fun zt zk => XS.aload X481.here hx rfl (hb hby at_387) rfl rfl zk) ?_
        refine Go.st (T' := T481.setTop (mkF m 394 #[.val (.int p1), .val (.int p2), .val (.int p3), .val (.int p4), .val (.int p5), .val (.int (3 : Int32)), .val (.int z6), .val (.ref ax), .val (.int z8), .val (.int z9), .val (.int z10), .val (.ref b231), .val (.ref sx), .val (.ref b272), .val (.ref b282)] [(.ref b231), (.ref b282)])) (fun zt zk => XS.goto X481.here hx rfl (pc0 := 389) (pc' := 394) rfl (hb hby at_389) (by decide) (by decide) zk) ?_
        exact Jyy3 _ (Or.inl rfl)
    intro yy3 h_yy3
    have f484 : own_St Z T481.heap b231 t234 csL := (f475.keep Kq481 (ninS ne273 (ninS ne428 nin0)) (ninS ne274 (ninS ne429 nin0)))
    have f485 : own_St Z T481.heap sx st csS := (f476.keep Kq481 (ninS ne275 (ninS ne430 nin0)) (ninS ne276 (ninS ne431 nin0)))
    have Ey3 : Exa Z T481.heap yy3 "java/lang/String" := by
      rcases h_yy3 with q | q
      · rw [q]; exact (f484).1
      · rw [q]; exact (f485).1
    have f486 : Exa Z T481.heap b282 "java/util/ArrayList" := (f478.keep Kq481)
    have f487 : own_AL Z T481.heap b282 ed442 ke442 ([yy1] ++ [yy2]) := (f480.keep Kq481 (ninS (Ne.symm ne289) (ninS ne433 nin0)) (ninS (Ne.symm ne447) (ninS (Ne.symm ne449) nin0)))
    obtain ⟨cq488, kq488, q488a, q488b, q488c⟩ := isOf hZ rfl f486
    obtain ⟨vr488, _, ⟨T488, L488, k488, n488⟩, -, X488, ⟨Lc488, hQ488, l488, y488, z488⟩, st488⟩ := X481.interfaceBack hx (xi := (⟨"java/util/List", "add", "(Ljava/lang/Object;)Z"⟩ : MethodName)) (y := (⟨"java/util/ArrayList", "add", "(Ljava/lang/Object;)Z"⟩ : MethodName)) hown (mvT hZ (hw _ (List.mem_of_getElem? (i := 87) rfl))) (mvT hZ (hw _ (List.mem_of_getElem? (i := 88) rfl))) (mvT hZ (hw _ (List.mem_of_getElem? (i := 89) rfl))) (mvT hZ (hw _ (List.mem_of_getElem? (i := 90) rfl))) (mvT hZ (hw _ (List.mem_of_getElem? (i := 91) rfl))) (mvT hZ (hw _ (List.mem_of_getElem? (i := 92) rfl))) (mvT hZ (hw _ (List.mem_of_getElem? (i := 93) rfl))) (mvT hZ (hw _ (List.mem_of_getElem? (i := 68) rfl))) (by decide) (backOf (W := 0) (rmAddB l Z a0 hw b282 yy3 ed442 ke442 ([yy1] ++ [yy2]) T481.heap n0 (Nat.le_trans Z0 KK482.1) f487 (Nat.le_of_ble_eq_true rfl) g_b282 g_ed442 ne448 Ey3) hZ (hw _ (List.mem_of_getElem? (i := 94) rfl)) (hw _ (List.mem_of_getElem? (i := 35) rfl)) (by decide) (by decide)) q488a q488b q488c (g := (mkF m 394 #[.val (.int p1), .val (.int p2), .val (.int p3), .val (.int p4), .val (.int p5), .val (.int (3 : Int32)), .val (.int z6), .val (.ref ax), .val (.int z8), .val (.int z9), .val (.int z10), .val (.ref b231), .val (.ref sx), .val (.ref b272), .val (.ref b282)] [(.ref yy3), (.ref b282)])) rfl (by rw [hml]; rfl) (Steps.refl _) (argsL := [(.ref yy3)]) (rest := []) (lenOf pd_a0133a8 rfl) rfl (by show 2 * 0 + _ ≤ _; exact Nat.le_of_eq rfl) (hb hby at_394) (fun _ _ => ⟨rfl, rfl, (by decide : 18 + 0 ≤ _), (by decide : 28744 + 0 ≤ _)⟩)
    dsimp only [Pt.U, Pt.locs, Pt.cells, Pt.slots] at X488 l488 y488 z488 st488 hQ488
    subst l488 y488 z488
    obtain ⟨rfl, Nq488, Kq488, R488⟩ := hQ488
    have KK489 : Keep h0 T488.heap [] := KK482.trans Kq488 (allS (Or.inr sz_b282) (allS (Or.inr sz_ed442) all0))
    have NN490 := Fr.app NN483 Nq488
    refine Go.st (T' := T488.setTop (mkF m 399 #[.val (.int p1), .val (.int p2), .val (.int p3), .val (.int p4), .val (.int p5), .val (.int (3 : Int32)), .val (.int z6), .val (.ref ax), .val (.int z8), .val (.int z9), .val (.int z10), .val (.ref b231), .val (.ref sx), .val (.ref b272), .val (.ref b282)] [(.int (1 : Int32))])) (fun zt zk => st488.trans zk) ?_
    refine Go.st (T' := T488.setTop (mkF m 400 #[.val (.int p1), .val (.int p2), .val (.int p3), .val (.int p4), .val (.int p5), .val (.int (3 : Int32)), .val (.int z6), .val (.ref ax), .val (.int z8), .val (.int z9), .val (.int z10), .val (.ref b231), .val (.ref sx), .val (.ref b272), .val (.ref b282)] [])) (fun zt zk => XS.pop X488.here hx rfl (hb hby at_399) rfl rfl zk) ?_
    refine Go.st (T' := T488.setTop (mkF m 402 #[.val (.int p1), .val (.int p2), .val (.int p3), .val (.int p4), .val (.int p5), .val (.int (3 : Int32)), .val (.int z6), .val (.ref ax), .val (.int z8), .val (.int z9), .val (.int z10), .val (.ref b231), .val (.ref sx), .val (.ref b272), .val (.ref b282)] [(.ref b272)])) (fun zt zk => XS.aload X488.here hx rfl (hb hby at_400) rfl rfl zk) ?_
    refine Go.st (T' := T488.setTop (mkF m 404 #[.val (.int p1), .val (.int p2), .val (.int p3), .val (.int p4), .val (.int p5), .val (.int (3 : Int32)), .val (.int z6), .val (.ref ax), .val (.int z8), .val (.int z9), .val (.int z10), .val (.ref b231), .val (.ref sx), .val (.ref b272), .val (.ref b282)] [(.ref b282), (.ref b272)])) (fun zt zk => XS.aload X488.here hx rfl (hb hby at_402) rfl rfl zk) ?_
    have f491 : own_St Z T488.heap b231 t234 csL := (f484.keep Kq488 (ninS ne284 (ninS ne443 nin0)) (ninS ne285 (ninS ne444 nin0)))
    have f492 : own_St Z T488.heap sx st csS := (f485.keep Kq488 (ninS ne287 (ninS ne445 nin0)) (ninS ne288 (ninS ne446 nin0)))
    have hSy : ∀ y, (y = b231 ∨ y = sx) → ∃ (t : Addr) (cs : List Int32), own_St Z T488.heap y t cs ∧ own_ok cs := by
      intro y hy
      rcases hy with q | q
      · rw [q]; exact ⟨_, _, f491, okL⟩
      · rw [q]; exact ⟨_, _, f492, okS⟩
    have hmem : ∀ y ∈ (([yy1] ++ [yy2]) ++ [yy3]), y = b231 ∨ y = sx := by
      intro y hy
      simp only [List.mem_append, List.mem_cons, List.not_mem_nil, or_false] at hy
      rcases hy with (q1 | q1) | q1
      · rw [q1]; exact h_yy1
      · rw [q1]; exact h_yy2
      · rw [q1]; exact h_yy3
    obtain ⟨vr493, _, ⟨T493, L493, k493, n493⟩, -, X493, ⟨Lc493, hQ493, l493, y493, z493⟩, st493⟩ := Jvm.LawKit.callS X488 hx (y := (⟨"com/example/librole/librole/textfile/TextFile", "refuseEmptyOrTooLong", "(Ljava/util/List;Ljava/util/List;)V"⟩ : MethodName)) hown (mvT hZ (hw _ (List.mem_of_getElem? (i := 57) rfl))) (mvT hZ (hw _ (List.mem_of_getElem? (i := 58) rfl))) (mvT hZ (hw _ (List.mem_of_getElem? (i := 59) rfl))) (mvT hZ (hw _ (List.mem_of_getElem? (i := 60) rfl))) (by decide) (backOf (W := 0) (rmRef l Z a0 hw b272 b282 (([yy1] ++ [yy2]) ++ [yy3]) T488.heap n0 (Nat.le_trans Z0 KK489.1) G1 O2 P5 (X00.keep KK489 all0) A1 A2 A3 R488.1 R488.2.2.1 (fun _ => ⟨_, _, R488⟩) (Nat.le_of_ble_eq_true rfl) (fun y hy => hSy y (hmem y hy))) hZ (hw _ (List.mem_of_getElem? (i := 60) rfl)) (hw _ (List.mem_of_getElem? (i := 59) rfl)) (by decide) (by decide)) (g := (mkF m 404 #[.val (.int p1), .val (.int p2), .val (.int p3), .val (.int p4), .val (.int p5), .val (.int (3 : Int32)), .val (.int z6), .val (.ref ax), .val (.int z8), .val (.int z9), .val (.int z10), .val (.ref b231), .val (.ref sx), .val (.ref b272), .val (.ref b282)] [(.ref b282), (.ref b272)])) rfl (by rw [hml]; rfl) (argsL := [(.ref b272), (.ref b282)]) (rest := []) (lenOf pd_b86c906 rfl) rfl (by show 2 * 0 + _ ≤ _; exact Nat.le_of_eq rfl) (hb hby at_404) (fun _ _ => ⟨rfl, rfl, (by decide : 18 + 0 ≤ _), (by decide : 28744 + 0 ≤ _)⟩)
    dsimp only [Pt.U, Pt.locs, Pt.cells, Pt.slots] at X493 l493 y493 z493 st493 hQ493
    subst l493 y493 z493
    obtain ⟨rfl, Nq493, eq493⟩ := hQ493
    have NN494 := Fr.app NN490 Nq493
    refine Go.st (T' := T493.setTop (mkF m 407 #[.val (.int p1), .val (.int p2), .val (.int p3), .val (.int p4), .val (.int p5), .val (.int (3 : Int32)), .val (.int z6), .val (.ref ax), .val (.int z8), .val (.int z9), .val (.int z10), .val (.ref b231), .val (.ref sx), .val (.ref b272), .val (.ref b282)] [])) (fun zt zk => st493 zt zk) ?_
    refine Go.st (T' := T493.setTop (mkF m 409 #[.val (.int p1), .val (.int p2), .val (.int p3), .val (.int p4), .val (.int p5), .val (.int (3 : Int32)), .val (.int z6), .val (.ref ax), .val (.int z8), .val (.int z9), .val (.int z10), .val (.ref b231), .val (.ref sx), .val (.ref b272), .val (.ref b282)] [(.ref b282)])) (fun zt zk => XS.aload X493.here hx rfl (hb hby at_407) rfl rfl zk) ?_
    obtain ⟨cq495, kq495, q495a, q495b, q495c⟩ := isOf hZ eq493 R488.1
    obtain ⟨vr495, _, ⟨T495, L495, k495, n495⟩, -, X495, ⟨Lc495, hQ495, l495, y495, z495⟩, st495⟩ := X493.interfaceBack hx (xi := (⟨"java/util/List", "size", "()I"⟩ : MethodName)) (y := (⟨"java/util/ArrayList", "size", "()I"⟩ : MethodName)) hown (mvT hZ (hw _ (List.mem_of_getElem? (i := 72) rfl))) (mvT hZ (hw _ (List.mem_of_getElem? (i := 62) rfl))) (mvT hZ (hw _ (List.mem_of_getElem? (i := 63) rfl))) (mvT hZ (hw _ (List.mem_of_getElem? (i := 64) rfl))) (mvT hZ (hw _ (List.mem_of_getElem? (i := 65) rfl))) (mvT hZ (hw _ (List.mem_of_getElem? (i := 66) rfl))) (mvT hZ (hw _ (List.mem_of_getElem? (i := 67) rfl))) (mvT hZ (hw _ (List.mem_of_getElem? (i := 68) rfl))) (by decide) (backOf (W := 0) (rmSize l Z a0 hw b282 (Int32.ofNat (([yy1] ++ [yy2]) ++ [yy3]).length) T488.heap n0 (Nat.le_trans Z0 KK489.1) R488.2.2.1) hZ (hw _ (List.mem_of_getElem? (i := 69) rfl)) (hw _ (List.mem_of_getElem? (i := 35) rfl)) (by decide) (by decide)) q495a q495b q495c (g := (mkF m 409 #[.val (.int p1), .val (.int p2), .val (.int p3), .val (.int p4), .val (.int p5), .val (.int (3 : Int32)), .val (.int z6), .val (.ref ax), .val (.int z8), .val (.int z9), .val (.int z10), .val (.ref b231), .val (.ref sx), .val (.ref b272), .val (.ref b282)] [(.ref b282)])) rfl (by rw [hml]; rfl) (Steps.refl _) (argsL := []) (rest := []) (lenOf pd_a8eac rfl) rfl (by show 2 * 0 + _ ≤ _; exact Nat.le_of_eq rfl) (hb hby at_409) (fun _ _ => ⟨rfl, eq493, (by decide : 18 + 0 ≤ _), (by decide : 28744 + 0 ≤ _)⟩)
    dsimp only [Pt.U, Pt.locs, Pt.cells, Pt.slots] at X495 l495 y495 z495 st495 hQ495
    subst l495 y495 z495
    obtain ⟨rfl, Nq495, eq495⟩ := hQ495
    have NN496 := Fr.app NN494 Nq495
    refine Go.st (T' := T495.setTop (mkF m 414 #[.val (.int p1), .val (.int p2), .val (.int p3), .val (.int p4), .val (.int p5), .val (.int (3 : Int32)), .val (.int z6), .val (.ref ax), .val (.int z8), .val (.int z9), .val (.int z10), .val (.ref b231), .val (.ref sx), .val (.ref b272), .val (.ref b282)] [(.int (Int32.ofNat (([yy1] ++ [yy2]) ++ [yy3]).length))])) (fun zt zk => st495.trans zk) ?_
    refine Go.st (T' := T495.setTop (mkF m 416 #[.val (.int p1), .val (.int p2), .val (.int p3), .val (.int p4), .val (.int p5), .val (.int (3 : Int32)), .val (.int z6), .val (.ref ax), .val (.int z8), .val (.int z9), .val (.int z10), .val (.ref b231), .val (.ref sx), .val (.ref b272), .val (.ref b282)] [(.int (3 : Int32)), (.int (Int32.ofNat (([yy1] ++ [yy2]) ++ [yy3]).length))])) (fun zt zk => XS.iload X495.here hx rfl (hb hby at_414) rfl zk) ?_
    refine Go.st (T' := T495.setTop (mkF m 419 #[.val (.int p1), .val (.int p2), .val (.int p3), .val (.int p4), .val (.int p5), .val (.int (3 : Int32)), .val (.int z6), .val (.ref ax), .val (.int z8), .val (.int z9), .val (.int z10), .val (.ref b231), .val (.ref sx), .val (.ref b272), .val (.ref b282)] [])) (fun zt zk => XS.icmpNo X495.here hx rfl (hb hby at_416) rfl (teq rfl).2 zk) ?_
    refine Go.st (T' := T495.setTop (mkF m 420 #[.val (.int p1), .val (.int p2), .val (.int p3), .val (.int p4), .val (.int p5), .val (.int (3 : Int32)), .val (.int z6), .val (.ref ax), .val (.int z8), .val (.int z9), .val (.int z10), .val (.ref b231), .val (.ref sx), .val (.ref b272), .val (.ref b282)] [(.int (1 : Int32))])) (fun zt zk => XS.iconst X495.here hx rfl (hb hby at_419) zk) ?_
    refine Go.st (T' := T495.setTop (mkF m 424 #[.val (.int p1), .val (.int p2), .val (.int p3), .val (.int p4), .val (.int p5), .val (.int (3 : Int32)), .val (.int z6), .val (.ref ax), .val (.int z8), .val (.int z9), .val (.int z10), .val (.ref b231), .val (.ref sx), .val (.ref b272), .val (.ref b282)] [(.int (1 : Int32))])) (fun zt zk => XS.goto X495.here hx rfl (pc0 := 420) (pc' := 424) rfl (hb hby at_420) (by decide) (by decide) zk) ?_
    exact Go.done X495 Bd.notSynchronized (v := some (.int (nar .boolean (1 : Int32)))) (fun h => by rw [Bd.returns] at h; cases h) (fun fs hr => retN X495 hx (t := .boolean) Bd.returns (by simp) (hb hby at_424) hr) (by rw [eq495]; exact ⟨rfl, NN496⟩) (by decide) (by decide)
set_option maxRecDepth 65536 in
set_option maxHeartbeats 40000000 in
theorem comes_1 {Post : Tables → Env → Array Value → State → Outcome → State → Prop} (hpost : ∀ tb e args s v u, (limb_1_1.after args s (.returned v) u = true ∧ limb_1_2.after args s (.returned v) u = true ∧ True) → FrameEnd s (.returned v) u (Jvm.fieldLocs frame_1_writes args s ++ Jvm.arrayLocs frame_1_arrays args s ++ Jvm.staticLocs frame_1_statics s) 48 33024 → Post tb e args s (.returned v) u) :
    ArmFor flags0 classFile x code maxLocals ret World_1 tables_1 room_1 Calls_1 rest_1 Pre_1 Post := by
  intro l hfl _ _ p e ha hc hk s m args below hf hA hF happ hP
  obtain ⟨hcalls, hrest, hpre⟩ := hP
  obtain ⟨-, -, -, hnamed, -, -, -, hat⟩ := (Spec.applies_iff hf).mp happ
  obtain ⟨hg, hn⟩ := and_e (Cond.before_iff.mp (show (Jvm.Cond.and given_1 narrow_1).before args s = true from hpre))
  obtain ⟨gc, gr0⟩ := and_e hg
  obtain ⟨ga0, gr1⟩ := and_e gr0
  obtain ⟨ga1, gr2⟩ := and_e gr1
  obtain ⟨ga2, gr3⟩ := and_e gr2
  obtain ⟨ga3, gr4⟩ := and_e gr3
  obtain ⟨w0, w1, w2, w3, w4, rfl⟩ : ∃ w0 w1 w2 w3 w4 : Value, args = #[w0, w1, w2, w3, w4] := by
    have hs : args.size = 5 := by simpa [Cond.value, given_1] using gc
    obtain ⟨L⟩ := args
    match L, hs with
    | [w0, w1, w2, w3, w4], _ => exact ⟨w0, w1, w2, w3, w4, rfl⟩
  have hw := fun d (hd : d ∈ tables_1) => atoms_spec (ws := Jvm.Cond.code x code maxLocals ret :: tables_1) hat d (List.mem_cons_of_mem _ hd)
  have hfit : Fit s := fun {y c} hc i hi => by
    obtain ⟨ha, rfl⟩ := Array.getElem?_eq_some_iff.mp hc
    have q := List.all_eq_true.mp ((Array.all_eq_true_iff_forall_mem.mp hF) _ (Array.getElem_mem ha)) i (List.mem_range.mpr hi)
    simpa [Array.getElem?_eq_getElem hi] using q
  obtain ⟨i0, ei0⟩ := is_v ga0
  obtain rfl : w0 = (.int i0) := Option.some.inj ei0
  obtain ⟨i1, ei1⟩ := is_v ga1
  obtain rfl : w1 = (.int i1) := Option.some.inj ei1
  obtain ⟨i2, ei2⟩ := is_v ga2
  obtain rfl : w2 = (.int i2) := Option.some.inj ei2
  obtain ⟨i3, ei3⟩ := is_v ga3
  obtain rfl : w3 = (.int i3) := Option.some.inj ei3
  obtain ⟨i4, ei4⟩ := is_v gr4
  obtain rfl : w4 = (.int i4) := Option.some.inj ei4
  obtain ⟨hsets, hown0⟩ := atoms_of _ (rest_1_c_eq ▸ (show rest_1_c.before _ s = true from hrest))
  have n5 := not_v (Cond.before_iff.mp (hsets _ (List.mem_of_getElem? (i := 2) rfl)))
  obtain ⟨iC, eC⟩ := is_v (Cond.before_iff.mp (hsets _ (List.mem_of_getElem? (i := 1) rfl)))
  have SC : Sta s s.heap "java/lang/String" "COMPACT_STRINGS" "Z" (.int iC) := Sta.start eC (Or.inl (hsets _ (List.mem_of_getElem? (i := 0) rfl)))
  have cC : ¬ (iC = (0 : Int32)) := gotF (Cond.eq_ints eC (Term.int_eval (0))) n5
  have A1 : Sta s s.heap "java/lang/StringUTF16" "$assertionsDisabled" "Z" (.int (1 : Int32)) := Sta.start (own_eqv (Cond.before_iff.mp (hsets _ (List.mem_of_getElem? (i := 21) rfl)))) (Or.inl (hsets _ (List.mem_of_getElem? (i := 20) rfl)))
  have A2 : Sta s s.heap "java/lang/StringUTF16" "HI_BYTE_SHIFT" "I" (.int (0 : Int32)) := Sta.start (own_eqv (Cond.before_iff.mp (hsets _ (List.mem_of_getElem? (i := 24) rfl)))) (Or.inl (hsets _ (List.mem_of_getElem? (i := 23) rfl)))
  have A3 : Sta s s.heap "java/lang/StringUTF16" "LO_BYTE_SHIFT" "I" (.int (8 : Int32)) := Sta.start (own_eqv (Cond.before_iff.mp (hsets _ (List.mem_of_getElem? (i := 27) rfl)))) (Or.inl (hsets _ (List.mem_of_getElem? (i := 26) rfl)))
  have ar := Cond.before_iff.mp (hsets _ (List.mem_of_getElem? (i := 15) rfl))
  obtain ⟨de, ede⟩ := arr_v ar
  obtain ⟨cl, Acl⟩ := Arr.start ede ar
  obtain ⟨a', cl', el1, el2, el3⟩ := Term.length_spec (own_eqv (Cond.before_iff.mp (hsets _ (List.mem_of_getElem? (i := 17) rfl))))
  have hde : a' = de := by have q := el1.symm.trans ede; cases q; rfl
  subst hde
  have hcl : cl' = cl := Option.some.inj ((State.arrayAt?_spec el2).1.symm.trans Acl.1)
  have Bde0 : own_D s s.heap a' := ⟨cl, Acl, by rw [← hcl]; exact (Value.int.inj el3).symm⟩
  have Sd : Sta s s.heap "java/util/ArrayList" "DEFAULTCAPACITY_EMPTY_ELEMENTDATA" "[Ljava/lang/Object;" (.ref a') := Sta.start ede (Or.inr ⟨(hw _ (List.mem_of_getElem? (i := 35) rfl)), hsets _ (List.mem_of_getElem? (i := 11) rfl)⟩)
  obtain ⟨n, o, h1, h2, h3, _, L, rfl, ⟨rfl, N⟩, hq⟩ := rm0 l s _ hw tables_1 i0 i1 i2 i3 i4 s.heap s.heap.size (Nat.le_refl _) iC SC cC (Old.start s) A1 A2 A3 a' Sd Bde0 p e ha hc hk s m _ below hf ((Spec.applies_iff_loose hf).mp happ).1 ⟨rfl, State.Warmed39.refl s, rfl⟩ trivial
  refine ⟨n, _, h1, h2, h3, hpost _ _ _ _ _ _ ⟨Cond.after_iff.mpr rfl, Cond.after_iff.mpr (eq_i res_at (Term.int_eval (1)) rfl), trivial⟩ ⟨hq.1, hq.2.1, (hq.2.2.sift fun y hy => Or.inr (N y hy)).mono (by decide) (by decide)⟩⟩
theorem main_1_1 : Claimed_1_1 := comes_1 fun _ _ _ _ _ _ h hF => ⟨h.1, hF⟩
theorem main_1_2 : Claimed_1_2 := comes_1 fun _ _ _ _ _ _ h hF => ⟨h.2.1, hF⟩
end Jvm.Pilot.@@N@@
namespace Jvm.Pilot.@@N@@
open Jvm Jvm.ClassFile Sem Op Lib Jvm.Free Jvm.Stand Jvm.Pilot.@@N@@.Jvm.D
/-! MADE BY PROGRAM (witnessworld.py) out of the Statement's table words and the real class files: 37 classes; the members and pool entries that the words name. The judged class is class 1, her method 1. -/
namespace start1
open Jvm.ClassFile
def u (s : String) : CpInfo := .utf8 (stringToUtf16 s)
/-- a pool by its gaps: so many unusable entries, then the entry; so many at the end -/
def gap : Nat → List CpInfo → List CpInfo
  | 0, r => r
  | n + 1, r => .unusable :: gap n r
def poolList (es : List (Nat × CpInfo)) (last : Nat) : List CpInfo := es.foldr (fun e r => gap e.1 (e.2 :: r)) (gap last [])
def pool (es : List (Nat × CpInfo)) (last : Nat) : Array CpInfo := ⟨poolList es last⟩
def fileOf (pool : Array CpInfo) (this : Nat) (attrs : Array Attribute := #[]) (ms : Array MethodInfo := #[]) (fl : Nat := 33) (sup : Nat := 0) (ifs : Array Nat := #[]) (fds : Array FieldInfo := #[]) : ClassFile where
  minorVersion := 0
  majorVersion := 65
  constantPool := pool
  accessFlags := fl
  thisClass := this
  superClass := sup
  interfaces := ifs
  fields := fds
  methods := ms
  attributes := attrs
def plain (name : String) (sup : Option ClassId) : Class where
  name := name
  kind := .ordinary
  loader := none
  accessFlags := 33
  super := sup
  interfaces := #[]
  cf := none
  fields := #[]
  methods := #[]
  instanceTypes := #[]
  staticTypes := #[]
  resolved := #[]
  callSites := []
  init := .initialized
  statics := none
  mirror := none

def pool0 : Array CpInfo := pool [(5, u "<init>"), (0, u "()V"), (1, .class_ 10), (1, u "java/lang/Object")] 113

def k0c0 : Code := { maxStack := 0, maxLocals := 1, code := object_method_1_code, exceptionTable := #[], attributes := #[] }
def k0m0 : Method := { name := "<init>", desc := "()V", sig := { parameters := [], returnType := none }, accessFlags := 1, code := some k0c0 }
/-- java/lang/Object -/
def k0 : Class := { plain "java/lang/Object" none with
  accessFlags := 33
  interfaces := #[]
  cf := some (fileOf pool0 8 #[] #[{ accessFlags := 1, nameIndex := 5, descriptorIndex := 6, attributes := #[] }] 33 0 #[] #[])
  fields := #[]
  methods := #[k0m0]
  instanceTypes := #[]
  staticTypes := #[]
  resolved := Array.replicate 124 none
  statics := none }

def pool1 : Array CpInfo := pool [(2, .class_ 4), (0, .nameAndType 5 6), (0, u "java/lang/Object"), (0, u "<init>"), (0, u "()V"), (0, .integer 2147483647), (0, .integer 55296), (0, .integer 56320), (0, .class_ 11), (0, u "java/lang/String"), (0, .methodref 10 13), (0, .nameAndType 5 14), (0, u "([C)V"), (0, .class_ 16), (0, u "java/util/ArrayList"), (0, .methodref 15 3), (0, .methodref 10 19), (0, .nameAndType 20 21), (0, u "valueOf"), (0, u "(C)Ljava/lang/String;"), (0, .interfaceMethodref 23 24), (0, .class_ 25), (0, .nameAndType 26 27), (0, u "java/util/List"), (0, u "add"), (0, u "(Ljava/lang/Object;)Z"), (0, .methodref 29 30), (0, .class_ 31), (0, .nameAndType 32 33), (0, u "com/example/librole/librole/textfile/TextFile"), (0, u "refuseEmptyOrTooLong"), (0, u "(Ljava/util/List;Ljava/util/List;)V"), (0, .interfaceMethodref 23 35), (0, .nameAndType 36 37), (0, u "size"), (0, u "()I"), (0, .class_ 39), (0, u "com/example/librole/librole/textfile/TextFileRefuseEmptyOrTooLongPinLaw"), (2, u "law"), (0, u "(IIIII)Z")] 8

def k1m0 : Method := { name := "<init>", desc := "()V", sig := { parameters := [], returnType := none }, accessFlags := 2, code := none }
def k1c1 : Code := { maxStack := 7, maxLocals := 15, code := code, exceptionTable := #[], attributes := #[] }
def k1m1 : Method := { name := "law", desc := "(IIIII)Z", sig := { parameters := [.int, .int, .int, .int, .int], returnType := some .boolean }, accessFlags := 9, code := some k1c1 }
/-- com/example/librole/librole/textfile/TextFileRefuseEmptyOrTooLongPinLaw -/
def k1 : Class := { plain "com/example/librole/librole/textfile/TextFileRefuseEmptyOrTooLongPinLaw" (some 0) with
  accessFlags := 49
  interfaces := #[]
  cf := some (fileOf pool1 38 #[] #[{ accessFlags := 2, nameIndex := 5, descriptorIndex := 6, attributes := #[] }, { accessFlags := 9, nameIndex := 42, descriptorIndex := 43, attributes := #[] }] 49 2 #[] #[])
  fields := #[]
  methods := #[k1m0, k1m1]
  instanceTypes := #[]
  staticTypes := #[]
  resolved := Array.replicate 52 none
  statics := none }

def pool2 : Array CpInfo := pool [(1, .class_ 2), (0, u "java/io/Serializable"), (0, .class_ 4), (0, u "java/lang/Object")] 2

/-- java/io/Serializable -/
def k2 : Class := { plain "java/io/Serializable" (some 0) with
  accessFlags := 1537
  interfaces := #[]
  cf := some (fileOf pool2 1 #[] #[] 1537 3 #[] #[])
  fields := #[]
  methods := #[]
  instanceTypes := #[]
  staticTypes := #[]
  resolved := Array.replicate 7 none
  statics := none }

def pool3 : Array CpInfo := pool [(1, .class_ 2), (0, u "java/lang/Comparable"), (0, .class_ 4), (0, u "java/lang/Object")] 7

/-- java/lang/Comparable -/
def k3 : Class := { plain "java/lang/Comparable" (some 0) with
  accessFlags := 1537
  interfaces := #[]
  cf := some (fileOf pool3 1 #[] #[] 1537 3 #[] #[])
  fields := #[]
  methods := #[]
  instanceTypes := #[]
  staticTypes := #[]
  resolved := Array.replicate 12 none
  statics := none }

def pool4 : Array CpInfo := pool [(2, .class_ 4), (1, u "java/lang/CharSequence"), (42, .class_ 48), (0, u "java/lang/CharSequence$1CodePointIterator"), (10, .class_ 60), (0, u "java/lang/CharSequence$1CharIterator"), (5, .class_ 67), (0, u "java/lang/Object")] 63

/-- java/lang/CharSequence -/
def k4 : Class := { plain "java/lang/CharSequence" (some 0) with
  accessFlags := 1537
  interfaces := #[]
  cf := some (fileOf pool4 2 #[.nestMembers #[47, 59]] #[] 1537 66 #[] #[])
  fields := #[]
  methods := #[]
  instanceTypes := #[]
  staticTypes := #[]
  resolved := Array.replicate 131 none
  statics := none }

def pool5 : Array CpInfo := pool [(1, .class_ 2), (0, u "java/lang/constant/Constable"), (0, .class_ 4), (0, u "java/lang/Object")] 6

/-- java/lang/constant/Constable -/
def k5 : Class := { plain "java/lang/constant/Constable" (some 0) with
  accessFlags := 1537
  interfaces := #[]
  cf := some (fileOf pool5 1 #[] #[] 1537 3 #[] #[])
  fields := #[]
  methods := #[]
  instanceTypes := #[]
  staticTypes := #[]
  resolved := Array.replicate 11 none
  statics := none }

def pool6 : Array CpInfo := pool [(1, .class_ 2), (0, u "java/lang/constant/ConstantDesc"), (0, .class_ 4), (0, u "java/lang/Object")] 32

/-- java/lang/constant/ConstantDesc -/
def k6 : Class := { plain "java/lang/constant/ConstantDesc" (some 0) with
  accessFlags := 1537
  interfaces := #[]
  cf := some (fileOf pool6 1 #[] #[] 1537 3 #[] #[])
  fields := #[]
  methods := #[]
  instanceTypes := #[]
  staticTypes := #[]
  resolved := Array.replicate 37 none
  statics := none }

def pool7 : Array CpInfo := pool [(1, .methodref 2 3), (0, .class_ 4), (0, .nameAndType 5 6), (0, u "java/lang/Object"), (0, u "<init>"), (0, u "()V"), (2, .fieldref 10 11), (0, .class_ 12), (0, .nameAndType 13 14), (0, u "java/lang/String"), (0, u "value"), (0, u "[B"), (0, .fieldref 10 16), (0, .nameAndType 17 18), (0, u "coder"), (0, u "B"), (2, u "hash"), (0, u "I"), (2, u "hashIsZero"), (0, u "Z"), (0, .methodref 10 28), (0, .nameAndType 5 29), (0, u "([CIILjava/lang/Void;)V"), (7, u "(III)I"), (0, .fieldref 10 39), (0, .nameAndType 40 26), (0, u "COMPACT_STRINGS"), (1, .class_ 44), (1, u "java/lang/StringUTF16"), (0, u "compress"), (1, .methodref 42 48), (0, .nameAndType 49 50), (0, u "coderFromArrayLen"), (0, u "([BI)B"), (2, u "toBytes"), (25, .class_ 81), (1, u "java/util/Objects"), (15, u "([BII)I"), (9, .class_ 109), (1, u "java/lang/StringLatin1"), (32, u "()Z"), (34, .methodref 42 178), (0, .nameAndType 45 179), (0, u "([CII)[B"), (29, .methodref 10 210), (0, .nameAndType 5 211), (0, u "([BB)V"), (122, u "()I"), (0, .methodref 10 336), (0, .nameAndType 17 337), (0, u "()B"), (31, u "(C)Z"), (122, .methodref 10 493), (0, .nameAndType 494 142), (0, u "isLatin1"), (10, .methodref 10 506), (0, .nameAndType 507 334), (0, u "length"), (3, .methodref 79 512), (0, .nameAndType 513 37), (0, u "checkFromToIndex"), (0, .methodref 42 515), (0, .nameAndType 516 97), (0, u "codePointCount"), (58, .class_ 576), (0, u "java/lang/CharSequence"), (22, u "CASE_INSENSITIVE_ORDER"), (0, u "Ljava/util/Comparator;"), (35, u "(II)I"), (55, u "isEmpty"), (89, u "valueOf"), (0, u "(C)Ljava/lang/String;"), (226, u "([C)V"), (4, .methodref 107 1016), (0, .nameAndType 1017 369), (0, u "canEncode"), (0, .methodref 107 1019), (0, .nameAndType 53 1020), (0, u "(C)[B"), (80, u "serialPersistentFields"), (0, u "[Ljava/io/ObjectStreamField;"), (0, .class_ 1104), (0, u "java/lang/String$CaseInsensitiveComparator"), (1, .class_ 1107), (0, u "java/io/Serializable"), (0, .class_ 1109), (0, u "java/lang/Comparable"), (0, .class_ 1111), (0, u "java/lang/constant/Constable"), (0, .class_ 1113), (0, u "java/lang/constant/ConstantDesc"), (2, u "serialVersionUID"), (0, u "J"), (3, u "REPL"), (0, u "C"), (2, u "LATIN1"), (1, u "UTF16")] 323

def k7m0 : Method := { name := "<init>", desc := "()V", sig := { parameters := [], returnType := none }, accessFlags := 1, code := none }
def k7c1 : Code := { maxStack := 5, maxLocals := 2, code := jdk_42_method_3_code, exceptionTable := #[], attributes := #[] }
def k7m1 : Method := { name := "<init>", desc := "([C)V", sig := { parameters := [(.array .char)], returnType := none }, accessFlags := 1, code := some k7c1 }
def k7c2 : Code := { maxStack := 2, maxLocals := 1, code := jdk_42_method_54_code, exceptionTable := #[], attributes := #[] }
def k7m2 : Method := { name := "length", desc := "()I", sig := { parameters := [], returnType := some .int }, accessFlags := 1, code := some k7c2 }
def k7c3 : Code := { maxStack := 1, maxLocals := 1, code := jdk_42_method_55_code, exceptionTable := #[], attributes := #[] }
def k7m3 : Method := { name := "isEmpty", desc := "()Z", sig := { parameters := [], returnType := some .boolean }, accessFlags := 1, code := some k7c3 }
def k7c4 : Code := { maxStack := 3, maxLocals := 3, code := jdk_42_method_59_code, exceptionTable := #[], attributes := #[] }
def k7m4 : Method := { name := "codePointCount", desc := "(II)I", sig := { parameters := [.int, .int], returnType := some .int }, accessFlags := 1, code := some k7c4 }
def k7c5 : Code := { maxStack := 4, maxLocals := 1, code := jdk_42_method_139_code, exceptionTable := #[], attributes := #[] }
def k7m5 : Method := { name := "valueOf", desc := "(C)Ljava/lang/String;", sig := { parameters := [.char], returnType := some (.object "java/lang/String") }, accessFlags := 9, code := some k7c5 }
def k7c6 : Code := { maxStack := 4, maxLocals := 6, code := jdk_42_method_149_code, exceptionTable := #[], attributes := #[] }
def k7m6 : Method := { name := "<init>", desc := "([CIILjava/lang/Void;)V", sig := { parameters := [(.array .char), .int, .int, (.object "java/lang/Void")], returnType := none }, accessFlags := 2, code := some k7c6 }
def k7c7 : Code := { maxStack := 2, maxLocals := 3, code := jdk_42_method_151_code, exceptionTable := #[], attributes := #[] }
def k7m7 : Method := { name := "<init>", desc := "([BB)V", sig := { parameters := [(.array .byte), .byte], returnType := none }, accessFlags := 0, code := some k7c7 }
def k7c8 : Code := { maxStack := 1, maxLocals := 1, code := jdk_42_method_152_code, exceptionTable := #[], attributes := #[] }
def k7m8 : Method := { name := "coder", desc := "()B", sig := { parameters := [], returnType := some .byte }, accessFlags := 0, code := some k7c8 }
def k7c9 : Code := { maxStack := 1, maxLocals := 1, code := jdk_42_method_154_code, exceptionTable := #[], attributes := #[] }
def k7m9 : Method := { name := "isLatin1", desc := "()Z", sig := { parameters := [], returnType := some .boolean }, accessFlags := 0, code := some k7c9 }
/-- java/lang/String -/
def k7 : Class := { plain "java/lang/String" (some 0) with
  accessFlags := 49
  interfaces := #[2, 3, 4, 5, 6]
  cf := some (fileOf pool7 10 #[.nestMembers #[1103]] #[{ accessFlags := 1, nameIndex := 5, descriptorIndex := 6, attributes := #[] }, { accessFlags := 1, nameIndex := 5, descriptorIndex := 1010, attributes := #[] }, { accessFlags := 1, nameIndex := 507, descriptorIndex := 334, attributes := #[] }, { accessFlags := 1, nameIndex := 692, descriptorIndex := 142, attributes := #[] }, { accessFlags := 1, nameIndex := 516, descriptorIndex := 636, attributes := #[] }, { accessFlags := 9, nameIndex := 782, descriptorIndex := 783, attributes := #[] }, { accessFlags := 2, nameIndex := 5, descriptorIndex := 29, attributes := #[] }, { accessFlags := 0, nameIndex := 5, descriptorIndex := 211, attributes := #[] }, { accessFlags := 0, nameIndex := 17, descriptorIndex := 337, attributes := #[] }, { accessFlags := 0, nameIndex := 494, descriptorIndex := 142, attributes := #[] }] 49 2 #[1106, 1108, 575, 1110, 1112] #[{ accessFlags := 18, nameIndex := 13, descriptorIndex := 14, attributes := #[] }, { accessFlags := 18, nameIndex := 17, descriptorIndex := 18, attributes := #[] }, { accessFlags := 2, nameIndex := 21, descriptorIndex := 22, attributes := #[] }, { accessFlags := 2, nameIndex := 25, descriptorIndex := 26, attributes := #[] }, { accessFlags := 26, nameIndex := 1116, descriptorIndex := 1117, attributes := #[] }, { accessFlags := 24, nameIndex := 40, descriptorIndex := 26, attributes := #[] }, { accessFlags := 26, nameIndex := 1101, descriptorIndex := 1102, attributes := #[] }, { accessFlags := 26, nameIndex := 1121, descriptorIndex := 1122, attributes := #[] }, { accessFlags := 25, nameIndex := 599, descriptorIndex := 600, attributes := #[] }, { accessFlags := 24, nameIndex := 1125, descriptorIndex := 18, attributes := #[] }, { accessFlags := 24, nameIndex := 1127, descriptorIndex := 18, attributes := #[] }])
  fields := #[{ name := "value", type := (.array .byte), accessFlags := 18, slot := 0, constantValue := 0 }, { name := "coder", type := .byte, accessFlags := 18, slot := 1, constantValue := 0 }, { name := "hash", type := .int, accessFlags := 2, slot := 2, constantValue := 0 }, { name := "hashIsZero", type := .boolean, accessFlags := 2, slot := 3, constantValue := 0 }, { name := "serialVersionUID", type := .long, accessFlags := 26, slot := 0, constantValue := 0 }, { name := "COMPACT_STRINGS", type := .boolean, accessFlags := 24, slot := 1, constantValue := 0 }, { name := "serialPersistentFields", type := (.array (.object "java/io/ObjectStreamField")), accessFlags := 26, slot := 2, constantValue := 0 }, { name := "REPL", type := .char, accessFlags := 26, slot := 3, constantValue := 0 }, { name := "CASE_INSENSITIVE_ORDER", type := (.object "java/util/Comparator"), accessFlags := 25, slot := 4, constantValue := 0 }, { name := "LATIN1", type := .byte, accessFlags := 24, slot := 5, constantValue := 0 }, { name := "UTF16", type := .byte, accessFlags := 24, slot := 6, constantValue := 0 }]
  methods := #[k7m0, k7m1, k7m2, k7m3, k7m4, k7m5, k7m6, k7m7, k7m8, k7m9]
  instanceTypes := #[(.array .byte), .byte, .int, .boolean]
  staticTypes := #[.long, .boolean, (.array (.object "java/io/ObjectStreamField")), .char, (.object "java/util/Comparator"), .byte, .byte]
  resolved := Array.replicate 1451 none
  statics := some 0 }

def pool8 : Array CpInfo := pool [(6, .class_ 8), (1, u "java/lang/Object"), (0, u "<init>"), (0, u "()V"), (0, .methodref 12 13), (0, .class_ 14), (0, .nameAndType 15 16), (0, u "java/lang/StringUTF16"), (0, u "newBytesLength"), (0, u "(I)I"), (3, .integer 1073741823), (23, .fieldref 12 45), (0, .nameAndType 46 47), (0, u "$assertionsDisabled"), (0, u "Z"), (11, .fieldref 12 60), (0, .nameAndType 61 62), (0, u "HI_BYTE_SHIFT"), (0, u "I"), (0, .fieldref 12 64), (0, .nameAndType 65 62), (0, u "LO_BYTE_SHIFT"), (5, .methodref 12 72), (0, .nameAndType 73 74), (0, u "getChar"), (0, u "([BI)C"), (0, .methodref 76 77), (0, .class_ 78), (0, .nameAndType 79 80), (0, u "java/lang/Character"), (0, u "isHighSurrogate"), (0, u "(C)Z"), (0, .methodref 76 82), (0, .nameAndType 83 80), (0, u "isLowSurrogate"), (7, u "([BIIZ)I"), (8, .methodref 12 101), (0, .nameAndType 102 91), (0, u "codePointCount"), (4, .methodref 12 108), (0, .nameAndType 109 110), (0, u "newBytesFor"), (0, u "(I)[B"), (0, .methodref 12 112), (0, .nameAndType 113 114), (0, u "putChar"), (0, u "([BII)V"), (0, .methodref 12 116), (0, .nameAndType 117 118), (0, u "compress"), (0, u "([CI[BII)I"), (0, .methodref 12 120), (0, .nameAndType 121 122), (0, u "toBytes"), (0, u "([CII)[B"), (127, u "([BII)I"), (10, u "coderFromArrayLen"), (0, u "([BI)B"), (106, .class_ 371), (1, u "java/lang/StringUTF16$LinesSpliterator"), (58, u "MAX_LENGTH"), (196, .class_ 628), (0, u "java/lang/StringUTF16$CodePointsSpliterator"), (0, .class_ 630), (0, u "java/lang/StringUTF16$CharsSpliterator")] 4

def k8m0 : Method := { name := "<init>", desc := "()V", sig := { parameters := [], returnType := none }, accessFlags := 0, code := none }
def k8c1 : Code := { maxStack := 1, maxLocals := 1, code := jdk_52_method_2_code, exceptionTable := #[], attributes := #[] }
def k8m1 : Method := { name := "newBytesFor", desc := "(I)[B", sig := { parameters := [.int], returnType := some (.array .byte) }, accessFlags := 9, code := some k8c1 }
def k8c2 : Code := { maxStack := 4, maxLocals := 1, code := jdk_52_method_3_code, exceptionTable := #[], attributes := #[] }
def k8m2 : Method := { name := "newBytesLength", desc := "(I)I", sig := { parameters := [.int], returnType := some .int }, accessFlags := 9, code := some k8c2 }
def k8c3 : Code := { maxStack := 4, maxLocals := 3, code := jdk_52_method_4_code, exceptionTable := #[], attributes := #[] }
def k8m3 : Method := { name := "putChar", desc := "([BII)V", sig := { parameters := [(.array .byte), .int, .int], returnType := none }, accessFlags := 8, code := some k8c3 }
def k8c4 : Code := { maxStack := 3, maxLocals := 2, code := jdk_52_method_5_code, exceptionTable := #[], attributes := #[] }
def k8m4 : Method := { name := "getChar", desc := "([BI)C", sig := { parameters := [(.array .byte), .int], returnType := some .char }, accessFlags := 8, code := some k8c4 }
def k8c5 : Code := { maxStack := 3, maxLocals := 6, code := jdk_52_method_11_code, exceptionTable := #[], attributes := #[] }
def k8m5 : Method := { name := "codePointCount", desc := "([BIIZ)I", sig := { parameters := [(.array .byte), .int, .int, .boolean], returnType := some .int }, accessFlags := 10, code := some k8c5 }
def k8c6 : Code := { maxStack := 4, maxLocals := 3, code := jdk_52_method_12_code, exceptionTable := #[], attributes := #[] }
def k8m6 : Method := { name := "codePointCount", desc := "([BII)I", sig := { parameters := [(.array .byte), .int, .int], returnType := some .int }, accessFlags := 9, code := some k8c6 }
def k8c7 : Code := { maxStack := 4, maxLocals := 5, code := jdk_52_method_14_code, exceptionTable := #[], attributes := #[] }
def k8m7 : Method := { name := "toBytes", desc := "([CII)[B", sig := { parameters := [(.array .char), .int, .int], returnType := some (.array .byte) }, accessFlags := 9, code := some k8c7 }
def k8c8 : Code := { maxStack := 2, maxLocals := 2, code := jdk_52_method_15_code, exceptionTable := #[], attributes := #[] }
def k8m8 : Method := { name := "coderFromArrayLen", desc := "([BI)B", sig := { parameters := [(.array .byte), .int], returnType := some .byte }, accessFlags := 8, code := some k8c8 }
def k8c9 : Code := { maxStack := 5, maxLocals := 6, code := jdk_52_method_16_code, exceptionTable := #[], attributes := #[] }
def k8m9 : Method := { name := "compress", desc := "([CII)[B", sig := { parameters := [(.array .char), .int, .int], returnType := some (.array .byte) }, accessFlags := 9, code := some k8c9 }
def k8c10 : Code := { maxStack := 3, maxLocals := 7, code := jdk_52_method_21_code, exceptionTable := #[], attributes := #[] }
def k8m10 : Method := { name := "compress", desc := "([CI[BII)I", sig := { parameters := [(.array .char), .int, (.array .byte), .int, .int], returnType := some .int }, accessFlags := 9, code := some k8c10 }
/-- java/lang/StringUTF16 -/
def k8 : Class := { plain "java/lang/StringUTF16" (some 0) with
  accessFlags := 48
  interfaces := #[]
  cf := some (fileOf pool8 12 #[.nestMembers #[627, 629, 369]] #[{ accessFlags := 0, nameIndex := 9, descriptorIndex := 10, attributes := #[] }, { accessFlags := 9, nameIndex := 109, descriptorIndex := 110, attributes := #[] }, { accessFlags := 9, nameIndex := 15, descriptorIndex := 16, attributes := #[] }, { accessFlags := 8, nameIndex := 113, descriptorIndex := 114, attributes := #[] }, { accessFlags := 8, nameIndex := 73, descriptorIndex := 74, attributes := #[] }, { accessFlags := 10, nameIndex := 102, descriptorIndex := 91, attributes := #[] }, { accessFlags := 9, nameIndex := 102, descriptorIndex := 250, attributes := #[] }, { accessFlags := 9, nameIndex := 121, descriptorIndex := 122, attributes := #[] }, { accessFlags := 8, nameIndex := 261, descriptorIndex := 262, attributes := #[] }, { accessFlags := 9, nameIndex := 117, descriptorIndex := 122, attributes := #[] }, { accessFlags := 9, nameIndex := 117, descriptorIndex := 118, attributes := #[] }] 48 6 #[] #[{ accessFlags := 26, nameIndex := 61, descriptorIndex := 62, attributes := #[] }, { accessFlags := 26, nameIndex := 65, descriptorIndex := 62, attributes := #[] }, { accessFlags := 24, nameIndex := 430, descriptorIndex := 62, attributes := #[] }, { accessFlags := 4120, nameIndex := 46, descriptorIndex := 47, attributes := #[] }])
  fields := #[{ name := "HI_BYTE_SHIFT", type := .int, accessFlags := 26, slot := 0, constantValue := 0 }, { name := "LO_BYTE_SHIFT", type := .int, accessFlags := 26, slot := 1, constantValue := 0 }, { name := "MAX_LENGTH", type := .int, accessFlags := 24, slot := 2, constantValue := 0 }, { name := "$assertionsDisabled", type := .boolean, accessFlags := 4120, slot := 3, constantValue := 0 }]
  methods := #[k8m0, k8m1, k8m2, k8m3, k8m4, k8m5, k8m6, k8m7, k8m8, k8m9, k8m10]
  instanceTypes := #[]
  staticTypes := #[.int, .int, .int, .boolean]
  resolved := Array.replicate 635 none
  statics := some 1 }

def pool9 : Array CpInfo := pool [(8, .class_ 10), (1, u "java/lang/Iterable"), (24, .class_ 36), (0, u "java/lang/Object")] 25

/-- java/lang/Iterable -/
def k9 : Class := { plain "java/lang/Iterable" (some 0) with
  accessFlags := 1537
  interfaces := #[]
  cf := some (fileOf pool9 8 #[] #[] 1537 35 #[] #[])
  fields := #[]
  methods := #[]
  instanceTypes := #[]
  staticTypes := #[]
  resolved := Array.replicate 62 none
  statics := none }

def pool10 : Array CpInfo := pool [(10, .class_ 12), (1, u "java/util/Collection"), (47, .class_ 61), (0, u "java/lang/Object"), (0, .class_ 63), (0, u "java/lang/Iterable")] 51

/-- java/util/Collection -/
def k10 : Class := { plain "java/util/Collection" (some 0) with
  accessFlags := 1537
  interfaces := #[9]
  cf := some (fileOf pool10 10 #[] #[] 1537 60 #[62] #[])
  fields := #[]
  methods := #[]
  instanceTypes := #[]
  staticTypes := #[]
  resolved := Array.replicate 115 none
  statics := none }

def pool11 : Array CpInfo := pool [(1, .methodref 2 3), (0, .class_ 4), (0, .nameAndType 5 6), (0, u "java/lang/Object"), (0, u "<init>"), (0, u "()V"), (1, .class_ 10), (1, u "java/util/AbstractCollection"), (66, .class_ 78), (0, u "java/util/Collection")] 81

def k11c0 : Code := { maxStack := 1, maxLocals := 1, code := jdk_22_method_1_code, exceptionTable := #[], attributes := #[] }
def k11m0 : Method := { name := "<init>", desc := "()V", sig := { parameters := [], returnType := none }, accessFlags := 4, code := some k11c0 }
/-- java/util/AbstractCollection -/
def k11 : Class := { plain "java/util/AbstractCollection" (some 0) with
  accessFlags := 1057
  interfaces := #[10]
  cf := some (fileOf pool11 8 #[] #[{ accessFlags := 4, nameIndex := 5, descriptorIndex := 6, attributes := #[] }] 1057 2 #[77] #[])
  fields := #[]
  methods := #[k11m0]
  instanceTypes := #[]
  staticTypes := #[]
  resolved := Array.replicate 160 none
  statics := none }

def pool12 : Array CpInfo := pool [(8, .class_ 10), (1, u "java/util/SequencedCollection"), (15, .class_ 27), (0, u "java/lang/Object"), (0, .class_ 29), (0, u "java/util/Collection")] 27

/-- java/util/SequencedCollection -/
def k12 : Class := { plain "java/util/SequencedCollection" (some 0) with
  accessFlags := 1537
  interfaces := #[10]
  cf := some (fileOf pool12 8 #[] #[] 1537 26 #[28] #[])
  fields := #[]
  methods := #[]
  instanceTypes := #[]
  staticTypes := #[]
  resolved := Array.replicate 57 none
  statics := none }

def pool13 : Array CpInfo := pool [(8, .class_ 10), (1, u "java/util/List"), (49, u "add"), (3, u "(Ljava/lang/Object;)Z"), (10, u "get"), (0, u "(I)Ljava/lang/Object;"), (2, u "size"), (0, u "()I"), (22, .class_ 104), (0, u "java/lang/Object"), (15, .class_ 121), (0, u "java/util/SequencedCollection")] 129

def k13m0 : Method := { name := "size", desc := "()I", sig := { parameters := [], returnType := some .int }, accessFlags := 1025, code := none }
def k13m1 : Method := { name := "add", desc := "(Ljava/lang/Object;)Z", sig := { parameters := [(.object "java/lang/Object")], returnType := some .boolean }, accessFlags := 1025, code := none }
def k13m2 : Method := { name := "get", desc := "(I)Ljava/lang/Object;", sig := { parameters := [.int], returnType := some (.object "java/lang/Object") }, accessFlags := 1025, code := none }
/-- java/util/List -/
def k13 : Class := { plain "java/util/List" (some 0) with
  accessFlags := 1537
  interfaces := #[12]
  cf := some (fileOf pool13 8 #[] #[{ accessFlags := 1025, nameIndex := 79, descriptorIndex := 80, attributes := #[] }, { accessFlags := 1025, nameIndex := 60, descriptorIndex := 64, attributes := #[] }, { accessFlags := 1025, nameIndex := 75, descriptorIndex := 76, attributes := #[] }] 1537 103 #[120] #[])
  fields := #[]
  methods := #[k13m0, k13m1, k13m2]
  instanceTypes := #[]
  staticTypes := #[]
  resolved := Array.replicate 251 none
  statics := none }

def pool14 : Array CpInfo := pool [(1, .methodref 2 3), (0, .class_ 4), (0, .nameAndType 5 6), (0, u "java/util/AbstractCollection"), (0, u "<init>"), (0, u "()V"), (0, .fieldref 8 9), (0, .class_ 10), (0, .nameAndType 11 12), (0, u "java/util/AbstractList"), (0, u "modCount"), (0, u "I"), (64, .class_ 78), (0, u "java/util/AbstractList$Itr"), (3, .class_ 83), (0, u "java/util/AbstractList$ListItr"), (9, .class_ 94), (0, u "java/util/AbstractList$RandomAccessSubList"), (3, .class_ 99), (0, u "java/util/AbstractList$SubList"), (33, .class_ 134), (0, u "java/util/List"), (73, .class_ 209), (0, u "java/util/AbstractList$SubList$1"), (0, .class_ 211), (0, u "java/util/AbstractList$RandomAccessSpliterator")] 6

def k14c0 : Code := { maxStack := 2, maxLocals := 1, code := jdk_39_method_1_code, exceptionTable := #[], attributes := #[] }
def k14m0 : Method := { name := "<init>", desc := "()V", sig := { parameters := [], returnType := none }, accessFlags := 4, code := some k14c0 }
/-- java/util/AbstractList -/
def k14 : Class := { plain "java/util/AbstractList" (some 11) with
  accessFlags := 1057
  interfaces := #[13]
  cf := some (fileOf pool14 8 #[.nestMembers #[93, 98, 208, 210, 82, 77]] #[{ accessFlags := 4, nameIndex := 5, descriptorIndex := 6, attributes := #[] }] 1057 2 #[133] #[{ accessFlags := 132, nameIndex := 11, descriptorIndex := 12, attributes := #[] }])
  fields := #[{ name := "modCount", type := .int, accessFlags := 132, slot := 0, constantValue := 0 }]
  methods := #[k14m0]
  instanceTypes := #[.int]
  staticTypes := #[]
  resolved := Array.replicate 218 none
  statics := none }

def pool15 : Array CpInfo := pool [(1, .class_ 2), (0, u "java/util/RandomAccess"), (0, .class_ 4), (0, u "java/lang/Object")] 2

/-- java/util/RandomAccess -/
def k15 : Class := { plain "java/util/RandomAccess" (some 0) with
  accessFlags := 1537
  interfaces := #[]
  cf := some (fileOf pool15 1 #[] #[] 1537 3 #[] #[])
  fields := #[]
  methods := #[]
  instanceTypes := #[]
  staticTypes := #[]
  resolved := Array.replicate 7 none
  statics := none }

def pool16 : Array CpInfo := pool [(1, .class_ 2), (0, u "java/lang/Cloneable"), (0, .class_ 4), (0, u "java/lang/Object")] 2

/-- java/lang/Cloneable -/
def k16 : Class := { plain "java/lang/Cloneable" (some 0) with
  accessFlags := 1537
  interfaces := #[]
  cf := some (fileOf pool16 1 #[] #[] 1537 3 #[] #[])
  fields := #[]
  methods := #[]
  instanceTypes := #[]
  staticTypes := #[]
  resolved := Array.replicate 7 none
  statics := none }

def pool17 : Array CpInfo := pool [(1, .methodref 2 3), (0, .class_ 4), (0, .nameAndType 5 6), (0, u "java/util/AbstractList"), (0, u "<init>"), (0, u "()V"), (0, .class_ 8), (0, u "java/lang/Object"), (0, .fieldref 10 11), (0, .class_ 12), (0, .nameAndType 13 14), (0, u "java/util/ArrayList"), (0, u "elementData"), (0, u "[Ljava/lang/Object;"), (2, u "EMPTY_ELEMENTDATA"), (21, .fieldref 10 40), (0, .nameAndType 41 14), (0, u "DEFAULTCAPACITY_EMPTY_ELEMENTDATA"), (5, u "()[Ljava/lang/Object;"), (0, .fieldref 10 49), (0, .nameAndType 50 51), (0, u "size"), (0, u "I"), (11, .fieldref 10 64), (0, .nameAndType 65 51), (0, u "modCount"), (3, .methodref 10 70), (0, .nameAndType 71 72), (0, u "grow"), (0, u "(I)[Ljava/lang/Object;"), (6, .methodref 80 81), (0, .class_ 82), (0, .nameAndType 83 84), (0, u "java/lang/Math"), (0, u "max"), (0, u "(II)I"), (11, u "(Ljava/lang/Object;)Z"), (21, .methodref 119 120), (0, .class_ 121), (0, .nameAndType 122 84), (0, u "java/util/Objects"), (0, u "checkIndex"), (0, .methodref 10 124), (0, .nameAndType 13 125), (0, u "(I)Ljava/lang/Object;"), (3, .methodref 10 130), (0, .nameAndType 71 47), (0, .methodref 10 132), (0, .nameAndType 133 134), (0, u "add"), (0, u "(Ljava/lang/Object;[Ljava/lang/Object;I)V"), (13, .class_ 149), (0, u "java/util/List"), (36, u "()I"), (75, .class_ 263), (0, u "java/util/ArrayList$ListItr"), (3, .class_ 268), (0, u "java/util/ArrayList$Itr"), (7, .class_ 277), (0, u "java/util/ArrayList$SubList"), (12, .class_ 291), (0, u "java/util/ArrayList$ArrayListSpliterator"), (37, .class_ 330), (0, u "java/util/RandomAccess"), (0, .class_ 332), (0, u "java/lang/Cloneable"), (0, .class_ 334), (0, u "java/io/Serializable"), (0, u "serialVersionUID"), (0, u "J"), (3, u "DEFAULT_CAPACITY"), (40, u "get"), (118, .class_ 501), (0, u "java/util/ArrayList$SubList$2"), (0, .class_ 503), (0, u "java/util/ArrayList$SubList$1")] 5

def k17c0 : Code := { maxStack := 2, maxLocals := 1, code := jdk_38_method_2_code, exceptionTable := #[], attributes := #[] }
def k17m0 : Method := { name := "<init>", desc := "()V", sig := { parameters := [], returnType := none }, accessFlags := 1, code := some k17c0 }
def k17c1 : Code := { maxStack := 4, maxLocals := 4, code := jdk_38_method_6_code, exceptionTable := #[], attributes := #[] }
def k17m1 : Method := { name := "grow", desc := "(I)[Ljava/lang/Object;", sig := { parameters := [.int], returnType := some (.array (.object "java/lang/Object")) }, accessFlags := 2, code := some k17c1 }
def k17c2 : Code := { maxStack := 3, maxLocals := 1, code := jdk_38_method_7_code, exceptionTable := #[], attributes := #[] }
def k17m2 : Method := { name := "grow", desc := "()[Ljava/lang/Object;", sig := { parameters := [], returnType := some (.array (.object "java/lang/Object")) }, accessFlags := 2, code := some k17c2 }
def k17c3 : Code := { maxStack := 1, maxLocals := 1, code := jdk_38_method_8_code, exceptionTable := #[], attributes := #[] }
def k17m3 : Method := { name := "size", desc := "()I", sig := { parameters := [], returnType := some .int }, accessFlags := 1, code := some k17c3 }
def k17c4 : Code := { maxStack := 2, maxLocals := 2, code := jdk_38_method_18_code, exceptionTable := #[], attributes := #[] }
def k17m4 : Method := { name := "elementData", desc := "(I)Ljava/lang/Object;", sig := { parameters := [.int], returnType := some (.object "java/lang/Object") }, accessFlags := 0, code := some k17c4 }
def k17c5 : Code := { maxStack := 2, maxLocals := 2, code := jdk_38_method_20_code, exceptionTable := #[], attributes := #[] }
def k17m5 : Method := { name := "get", desc := "(I)Ljava/lang/Object;", sig := { parameters := [.int], returnType := some (.object "java/lang/Object") }, accessFlags := 1, code := some k17c5 }
def k17c6 : Code := { maxStack := 3, maxLocals := 4, code := jdk_38_method_24_code, exceptionTable := #[], attributes := #[] }
def k17m6 : Method := { name := "add", desc := "(Ljava/lang/Object;[Ljava/lang/Object;I)V", sig := { parameters := [(.object "java/lang/Object"), (.array (.object "java/lang/Object")), .int], returnType := none }, accessFlags := 2, code := some k17c6 }
def k17c7 : Code := { maxStack := 4, maxLocals := 2, code := jdk_38_method_25_code, exceptionTable := #[], attributes := #[] }
def k17m7 : Method := { name := "add", desc := "(Ljava/lang/Object;)Z", sig := { parameters := [(.object "java/lang/Object")], returnType := some .boolean }, accessFlags := 1, code := some k17c7 }
/-- java/util/ArrayList -/
def k17 : Class := { plain "java/util/ArrayList" (some 14) with
  accessFlags := 33
  interfaces := #[13, 15, 16, 2]
  cf := some (fileOf pool17 10 #[.nestMembers #[290, 276, 500, 502, 262, 267]] #[{ accessFlags := 1, nameIndex := 5, descriptorIndex := 6, attributes := #[] }, { accessFlags := 2, nameIndex := 71, descriptorIndex := 72, attributes := #[] }, { accessFlags := 2, nameIndex := 71, descriptorIndex := 47, attributes := #[] }, { accessFlags := 1, nameIndex := 50, descriptorIndex := 186, attributes := #[] }, { accessFlags := 0, nameIndex := 13, descriptorIndex := 125, attributes := #[] }, { accessFlags := 1, nameIndex := 381, descriptorIndex := 125, attributes := #[] }, { accessFlags := 2, nameIndex := 133, descriptorIndex := 134, attributes := #[] }, { accessFlags := 1, nameIndex := 133, descriptorIndex := 96, attributes := #[] }] 33 2 #[148, 329, 331, 333] #[{ accessFlags := 26, nameIndex := 335, descriptorIndex := 336, attributes := #[] }, { accessFlags := 26, nameIndex := 340, descriptorIndex := 51, attributes := #[] }, { accessFlags := 26, nameIndex := 17, descriptorIndex := 14, attributes := #[] }, { accessFlags := 26, nameIndex := 41, descriptorIndex := 14, attributes := #[] }, { accessFlags := 128, nameIndex := 13, descriptorIndex := 14, attributes := #[] }, { accessFlags := 2, nameIndex := 50, descriptorIndex := 51, attributes := #[] }])
  fields := #[{ name := "serialVersionUID", type := .long, accessFlags := 26, slot := 0, constantValue := 0 }, { name := "DEFAULT_CAPACITY", type := .int, accessFlags := 26, slot := 1, constantValue := 0 }, { name := "EMPTY_ELEMENTDATA", type := (.array (.object "java/lang/Object")), accessFlags := 26, slot := 2, constantValue := 0 }, { name := "DEFAULTCAPACITY_EMPTY_ELEMENTDATA", type := (.array (.object "java/lang/Object")), accessFlags := 26, slot := 3, constantValue := 0 }, { name := "elementData", type := (.array (.object "java/lang/Object")), accessFlags := 128, slot := 1, constantValue := 0 }, { name := "size", type := .int, accessFlags := 2, slot := 2, constantValue := 0 }]
  methods := #[k17m0, k17m1, k17m2, k17m3, k17m4, k17m5, k17m6, k17m7]
  instanceTypes := #[.int, (.array (.object "java/lang/Object")), .int]
  staticTypes := #[.long, .int, (.array (.object "java/lang/Object")), (.array (.object "java/lang/Object"))]
  resolved := Array.replicate 509 none
  statics := some 2 }

def pool18 : Array CpInfo := pool [(1, .class_ 2), (0, u "java/lang/Readable"), (0, .class_ 4), (0, u "java/lang/Object")] 7

/-- java/lang/Readable -/
def k18 : Class := { plain "java/lang/Readable" (some 0) with
  accessFlags := 1537
  interfaces := #[]
  cf := some (fileOf pool18 1 #[] #[] 1537 3 #[] #[])
  fields := #[]
  methods := #[]
  instanceTypes := #[]
  staticTypes := #[]
  resolved := Array.replicate 12 none
  statics := none }

def pool19 : Array CpInfo := pool [(1, .class_ 2), (0, u "java/lang/AutoCloseable"), (0, .class_ 4), (0, u "java/lang/Object")] 7

/-- java/lang/AutoCloseable -/
def k19 : Class := { plain "java/lang/AutoCloseable" (some 0) with
  accessFlags := 1537
  interfaces := #[]
  cf := some (fileOf pool19 1 #[] #[] 1537 3 #[] #[])
  fields := #[]
  methods := #[]
  instanceTypes := #[]
  staticTypes := #[]
  resolved := Array.replicate 12 none
  statics := none }

def pool20 : Array CpInfo := pool [(1, .class_ 2), (0, u "java/io/Closeable"), (0, .class_ 4), (0, u "java/lang/Object"), (0, .class_ 6), (0, u "java/lang/AutoCloseable")] 7

/-- java/io/Closeable -/
def k20 : Class := { plain "java/io/Closeable" (some 0) with
  accessFlags := 1537
  interfaces := #[19]
  cf := some (fileOf pool20 1 #[] #[] 1537 3 #[5] #[])
  fields := #[]
  methods := #[]
  instanceTypes := #[]
  staticTypes := #[]
  resolved := Array.replicate 14 none
  statics := none }

def pool21 : Array CpInfo := pool [(1, .class_ 2), (0, u "java/io/Reader$1"), (2, u "<init>"), (0, u "()V"), (1, .class_ 9), (0, u "java/lang/Object"), (1, .class_ 13), (1, u "java/io/Reader"), (0, u "skipBuffer"), (0, u "[C"), (2, u "lock"), (0, u "Ljava/lang/Object;"), (117, .class_ 138), (0, u "java/lang/Readable"), (0, .class_ 140), (0, u "java/io/Closeable"), (0, u "TRANSFER_BUFFER_SIZE"), (0, u "I"), (2, u "maxSkipBufferSize")] 59

def k21m0 : Method := { name := "<init>", desc := "()V", sig := { parameters := [], returnType := none }, accessFlags := 4, code := none }
/-- java/io/Reader -/
def k21 : Class := { plain "java/io/Reader" (some 0) with
  accessFlags := 1057
  interfaces := #[18, 20]
  cf := some (fileOf pool21 11 #[.nestMembers #[1]] #[{ accessFlags := 4, nameIndex := 5, descriptorIndex := 6, attributes := #[] }] 1057 8 #[137, 139] #[{ accessFlags := 26, nameIndex := 141, descriptorIndex := 142, attributes := #[] }, { accessFlags := 4, nameIndex := 18, descriptorIndex := 19, attributes := #[] }, { accessFlags := 26, nameIndex := 145, descriptorIndex := 142, attributes := #[] }, { accessFlags := 2, nameIndex := 14, descriptorIndex := 15, attributes := #[] }])
  fields := #[{ name := "TRANSFER_BUFFER_SIZE", type := .int, accessFlags := 26, slot := 0, constantValue := 0 }, { name := "lock", type := (.object "java/lang/Object"), accessFlags := 4, slot := 0, constantValue := 0 }, { name := "maxSkipBufferSize", type := .int, accessFlags := 26, slot := 1, constantValue := 0 }, { name := "skipBuffer", type := (.array .char), accessFlags := 2, slot := 1, constantValue := 0 }]
  methods := #[k21m0]
  instanceTypes := #[(.object "java/lang/Object"), (.array .char)]
  staticTypes := #[.int, .int]
  resolved := Array.replicate 205 none
  statics := none }

def pool22 : Array CpInfo := pool [(2, .class_ 4), (1, u "java/io/Reader"), (2, .class_ 8), (0, u "java/io/BufferedReader"), (2, u "markedChar"), (0, u "I"), (2, u "readAheadLimit"), (2, u "skipLF"), (0, u "Z"), (2, u "markedSkipLF"), (9, u "in"), (0, u "Ljava/io/Reader;"), (2, u "cb"), (0, u "[C"), (2, u "nChars"), (2, u "nextChar"), (116, .class_ 161), (0, u "java/io/BufferedReader$1"), (17, u "INVALIDATED"), (2, u "UNMARKED"), (1, u "DEFAULT_CHAR_BUFFER_SIZE"), (1, u "DEFAULT_EXPECTED_LINE_LENGTH")] 57

/-- java/io/BufferedReader -/
def k22 : Class := { plain "java/io/BufferedReader" (some 21) with
  accessFlags := 33
  interfaces := #[]
  cf := some (fileOf pool22 7 #[.nestMembers #[160]] #[] 33 2 #[] #[{ accessFlags := 2, nameIndex := 32, descriptorIndex := 33, attributes := #[] }, { accessFlags := 2, nameIndex := 36, descriptorIndex := 37, attributes := #[] }, { accessFlags := 2, nameIndex := 40, descriptorIndex := 12, attributes := #[] }, { accessFlags := 2, nameIndex := 43, descriptorIndex := 12, attributes := #[] }, { accessFlags := 26, nameIndex := 179, descriptorIndex := 12, attributes := #[] }, { accessFlags := 26, nameIndex := 182, descriptorIndex := 12, attributes := #[] }, { accessFlags := 2, nameIndex := 11, descriptorIndex := 12, attributes := #[] }, { accessFlags := 2, nameIndex := 15, descriptorIndex := 12, attributes := #[] }, { accessFlags := 2, nameIndex := 18, descriptorIndex := 19, attributes := #[] }, { accessFlags := 2, nameIndex := 22, descriptorIndex := 19, attributes := #[] }, { accessFlags := 26, nameIndex := 184, descriptorIndex := 12, attributes := #[] }, { accessFlags := 26, nameIndex := 186, descriptorIndex := 12, attributes := #[] }])
  fields := #[{ name := "in", type := (.object "java/io/Reader"), accessFlags := 2, slot := 2, constantValue := 0 }, { name := "cb", type := (.array .char), accessFlags := 2, slot := 3, constantValue := 0 }, { name := "nChars", type := .int, accessFlags := 2, slot := 4, constantValue := 0 }, { name := "nextChar", type := .int, accessFlags := 2, slot := 5, constantValue := 0 }, { name := "INVALIDATED", type := .int, accessFlags := 26, slot := 0, constantValue := 0 }, { name := "UNMARKED", type := .int, accessFlags := 26, slot := 1, constantValue := 0 }, { name := "markedChar", type := .int, accessFlags := 2, slot := 6, constantValue := 0 }, { name := "readAheadLimit", type := .int, accessFlags := 2, slot := 7, constantValue := 0 }, { name := "skipLF", type := .boolean, accessFlags := 2, slot := 8, constantValue := 0 }, { name := "markedSkipLF", type := .boolean, accessFlags := 2, slot := 9, constantValue := 0 }, { name := "DEFAULT_CHAR_BUFFER_SIZE", type := .int, accessFlags := 26, slot := 2, constantValue := 0 }, { name := "DEFAULT_EXPECTED_LINE_LENGTH", type := .int, accessFlags := 26, slot := 3, constantValue := 0 }]
  methods := #[]
  instanceTypes := #[(.object "java/lang/Object"), (.array .char), (.object "java/io/Reader"), (.array .char), .int, .int, .int, .int, .boolean, .boolean]
  staticTypes := #[.int, .int, .int, .int]
  resolved := Array.replicate 244 none
  statics := none }

def pool23 : Array CpInfo := pool [(1, .class_ 2), (0, u "com/example/librole/librole/textfile/TextFile"), (1, .class_ 6), (1, u "java/io/BufferedReader"), (4, u "bound"), (0, u "Lcom/example/librole/librole/textfile/TextFile$Bound;"), (12, .class_ 26), (0, u "com/example/librole/librole/textfile/TextFile$Bound"), (28, u "()I"), (20, .interfaceMethodref 77 78), (0, .class_ 79), (0, .nameAndType 80 55), (0, u "java/util/List"), (0, u "size"), (0, .interfaceMethodref 77 82), (0, .nameAndType 83 84), (0, u "get"), (0, u "(I)Ljava/lang/Object;"), (0, .class_ 86), (0, u "java/lang/String"), (0, .methodref 85 88), (0, .nameAndType 89 90), (0, u "isEmpty"), (0, u "()Z"), (0, .class_ 92), (0, u "com/example/librole/librole/textfile/TextFile$InvalidFieldException"), (7, .methodref 85 101), (0, .nameAndType 102 55), (0, u "length"), (0, .methodref 85 104), (0, .nameAndType 105 106), (0, u "codePointCount"), (0, u "(II)I"), (4, u "J"), (0, u "MAX_FIELD_LENGTH"), (0, u "I"), (2, u "BYTE_ORDER_MARK"), (0, u "MAX_ROW_LENGTH"), (8, u "refuseEmptyOrTooLong"), (0, u "(Ljava/util/List;Ljava/util/List;)V"), (6, .class_ 135), (0, u "com/example/librole/librole/textfile/TextFile$RowTooLongException")] 20

def k23c0 : Code := { maxStack := 4, maxLocals := 4, code := prog_68_method_5_code, exceptionTable := #[], attributes := #[] }
def k23m0 : Method := { name := "refuseEmptyOrTooLong", desc := "(Ljava/util/List;Ljava/util/List;)V", sig := { parameters := [(.object "java/util/List"), (.object "java/util/List")], returnType := none }, accessFlags := 9, code := some k23c0 }
/-- com/example/librole/librole/textfile/TextFile -/
def k23 : Class := { plain "com/example/librole/librole/textfile/TextFile" (some 22) with
  accessFlags := 49
  interfaces := #[]
  cf := some (fileOf pool23 1 #[.nestMembers #[25, 91, 134]] #[{ accessFlags := 9, nameIndex := 126, descriptorIndex := 127, attributes := #[] }] 49 4 #[] #[{ accessFlags := 25, nameIndex := 112, descriptorIndex := 113, attributes := #[] }, { accessFlags := 26, nameIndex := 116, descriptorIndex := 113, attributes := #[] }, { accessFlags := 26, nameIndex := 117, descriptorIndex := 111, attributes := #[] }, { accessFlags := 18, nameIndex := 11, descriptorIndex := 12, attributes := #[] }])
  fields := #[{ name := "MAX_FIELD_LENGTH", type := .int, accessFlags := 25, slot := 0, constantValue := 0 }, { name := "BYTE_ORDER_MARK", type := .int, accessFlags := 26, slot := 1, constantValue := 0 }, { name := "MAX_ROW_LENGTH", type := .long, accessFlags := 26, slot := 2, constantValue := 0 }, { name := "bound", type := (.object "com/example/librole/librole/textfile/TextFile$Bound"), accessFlags := 18, slot := 10, constantValue := 0 }]
  methods := #[k23m0]
  instanceTypes := #[(.object "java/lang/Object"), (.array .char), (.object "java/io/Reader"), (.array .char), .int, .int, .int, .int, .boolean, .boolean, (.object "com/example/librole/librole/textfile/TextFile$Bound")]
  staticTypes := #[.int, .int, .long]
  resolved := Array.replicate 156 none
  statics := none }

def pool24 : Array CpInfo := pool [(4, .class_ 6), (1, u "java/lang/Object"), (0, u "<init>"), (0, u "()V"), (5, .class_ 16), (1, u "java/lang/StringLatin1"), (73, u "canEncode"), (14, u "(C)Z"), (15, u "$assertionsDisabled"), (0, u "Z"), (98, .class_ 223), (1, u "java/lang/StringLatin1$LinesSpliterator"), (156, u "toBytes"), (1, u "(C)[B"), (7, .class_ 391), (0, u "java/lang/StringLatin1$CharsSpliterator")] 3

def k24m0 : Method := { name := "<init>", desc := "()V", sig := { parameters := [], returnType := none }, accessFlags := 0, code := none }
def k24c1 : Code := { maxStack := 2, maxLocals := 1, code := jdk_43_method_3_code, exceptionTable := #[], attributes := #[] }
def k24m1 : Method := { name := "canEncode", desc := "(C)Z", sig := { parameters := [.char], returnType := some .boolean }, accessFlags := 9, code := some k24c1 }
def k24c2 : Code := { maxStack := 4, maxLocals := 1, code := jdk_43_method_46_code, exceptionTable := #[], attributes := #[] }
def k24m2 : Method := { name := "toBytes", desc := "(C)[B", sig := { parameters := [.char], returnType := some (.array .byte) }, accessFlags := 9, code := some k24c2 }
/-- java/lang/StringLatin1 -/
def k24 : Class := { plain "java/lang/StringLatin1" (some 0) with
  accessFlags := 48
  interfaces := #[]
  cf := some (fileOf pool24 14 #[.nestMembers #[390, 221]] #[{ accessFlags := 0, nameIndex := 7, descriptorIndex := 8, attributes := #[] }, { accessFlags := 9, nameIndex := 90, descriptorIndex := 105, attributes := #[] }, { accessFlags := 9, nameIndex := 380, descriptorIndex := 382, attributes := #[] }] 48 4 #[] #[{ accessFlags := 4120, nameIndex := 121, descriptorIndex := 122, attributes := #[] }])
  fields := #[{ name := "$assertionsDisabled", type := .boolean, accessFlags := 4120, slot := 0, constantValue := 0 }]
  methods := #[k24m0, k24m1, k24m2]
  instanceTypes := #[]
  staticTypes := #[.boolean]
  resolved := Array.replicate 395 none
  statics := none }

def pool25 : Array CpInfo := pool [(1, .class_ 2), (0, u "java/lang/Math"), (1, .class_ 6), (1, u "java/lang/Object"), (0, u "<init>"), (0, u "()V"), (89, .class_ 100), (1, u "java/lang/Math$RandomNumberGeneratorHolder"), (71, u "negativeZeroFloatBits"), (0, u "J"), (2, u "negativeZeroDoubleBits"), (21, u "max"), (46, u "$assertionsDisabled"), (0, u "Z"), (88, u "(II)I"), (2, u "twoToTheDoubleScaleDown"), (0, u "D"), (4, u "twoToTheDoubleScaleUp"), (9, u "E"), (3, u "PI"), (2, u "TAU"), (2, u "DEGREES_TO_RADIANS"), (0, u "RADIANS_TO_DEGREES")] 94

def k25m0 : Method := { name := "<init>", desc := "()V", sig := { parameters := [], returnType := none }, accessFlags := 2, code := none }
def k25c1 : Code := { maxStack := 2, maxLocals := 2, code := jdk_29_method_65_code, exceptionTable := #[], attributes := #[] }
def k25m1 : Method := { name := "max", desc := "(II)I", sig := { parameters := [.int, .int], returnType := some .int }, accessFlags := 9, code := some k25c1 }
/-- java/lang/Math -/
def k25 : Class := { plain "java/lang/Math" (some 0) with
  accessFlags := 49
  interfaces := #[]
  cf := some (fileOf pool25 1 #[.nestMembers #[98]] #[{ accessFlags := 2, nameIndex := 7, descriptorIndex := 8, attributes := #[] }, { accessFlags := 9, nameIndex := 198, descriptorIndex := 335, attributes := #[] }] 49 4 #[] #[{ accessFlags := 25, nameIndex := 354, descriptorIndex := 339, attributes := #[] }, { accessFlags := 25, nameIndex := 358, descriptorIndex := 339, attributes := #[] }, { accessFlags := 25, nameIndex := 361, descriptorIndex := 339, attributes := #[] }, { accessFlags := 26, nameIndex := 364, descriptorIndex := 339, attributes := #[] }, { accessFlags := 26, nameIndex := 365, descriptorIndex := 339, attributes := #[] }, { accessFlags := 26, nameIndex := 172, descriptorIndex := 173, attributes := #[] }, { accessFlags := 26, nameIndex := 176, descriptorIndex := 173, attributes := #[] }, { accessFlags := 8, nameIndex := 344, descriptorIndex := 339, attributes := #[] }, { accessFlags := 8, nameIndex := 338, descriptorIndex := 339, attributes := #[] }, { accessFlags := 4120, nameIndex := 245, descriptorIndex := 246, attributes := #[] }])
  fields := #[{ name := "E", type := .double, accessFlags := 25, slot := 0, constantValue := 0 }, { name := "PI", type := .double, accessFlags := 25, slot := 1, constantValue := 0 }, { name := "TAU", type := .double, accessFlags := 25, slot := 2, constantValue := 0 }, { name := "DEGREES_TO_RADIANS", type := .double, accessFlags := 26, slot := 3, constantValue := 0 }, { name := "RADIANS_TO_DEGREES", type := .double, accessFlags := 26, slot := 4, constantValue := 0 }, { name := "negativeZeroFloatBits", type := .long, accessFlags := 26, slot := 5, constantValue := 0 }, { name := "negativeZeroDoubleBits", type := .long, accessFlags := 26, slot := 6, constantValue := 0 }, { name := "twoToTheDoubleScaleUp", type := .double, accessFlags := 8, slot := 7, constantValue := 0 }, { name := "twoToTheDoubleScaleDown", type := .double, accessFlags := 8, slot := 8, constantValue := 0 }, { name := "$assertionsDisabled", type := .boolean, accessFlags := 4120, slot := 9, constantValue := 0 }]
  methods := #[k25m0, k25m1]
  instanceTypes := #[]
  staticTypes := #[.double, .double, .double, .double, .double, .long, .long, .double, .double, .boolean]
  resolved := Array.replicate 460 none
  statics := none }

def pool26 : Array CpInfo := pool [(2, .class_ 4), (1, u "java/lang/Object"), (0, u "<init>"), (0, u "()V"), (35, .class_ 44), (1, u "java/util/Objects"), (60, .methodref 106 107), (0, .class_ 108), (0, .nameAndType 109 110), (0, u "jdk/internal/util/Preconditions"), (0, u "checkIndex"), (0, u "(IILjava/util/function/BiFunction;)I"), (0, .methodref 106 112), (0, .nameAndType 113 114), (0, u "checkFromToIndex"), (0, u "(IIILjava/util/function/BiFunction;)I"), (56, u "(II)I"), (3, u "(III)I")] 8

def k26m0 : Method := { name := "<init>", desc := "()V", sig := { parameters := [], returnType := none }, accessFlags := 2, code := none }
def k26c1 : Code := { maxStack := 3, maxLocals := 2, code := jdk_31_method_17_code, exceptionTable := #[], attributes := #[] }
def k26m1 : Method := { name := "checkIndex", desc := "(II)I", sig := { parameters := [.int, .int], returnType := some .int }, accessFlags := 9, code := some k26c1 }
def k26c2 : Code := { maxStack := 4, maxLocals := 3, code := jdk_31_method_18_code, exceptionTable := #[], attributes := #[] }
def k26m2 : Method := { name := "checkFromToIndex", desc := "(III)I", sig := { parameters := [.int, .int, .int], returnType := some .int }, accessFlags := 9, code := some k26c2 }
/-- java/util/Objects -/
def k26 : Class := { plain "java/util/Objects" (some 0) with
  accessFlags := 49
  interfaces := #[]
  cf := some (fileOf pool26 42 #[] #[{ accessFlags := 2, nameIndex := 5, descriptorIndex := 6, attributes := #[] }, { accessFlags := 9, nameIndex := 109, descriptorIndex := 171, attributes := #[] }, { accessFlags := 9, nameIndex := 113, descriptorIndex := 175, attributes := #[] }] 49 2 #[] #[])
  fields := #[]
  methods := #[k26m0, k26m1, k26m2]
  instanceTypes := #[]
  staticTypes := #[]
  resolved := Array.replicate 184 none
  statics := none }

def pool27 : Array CpInfo := pool [(2, .class_ 4), (1, u "java/lang/Object"), (0, u "<init>"), (0, u "()V"), (17, .class_ 26), (1, u "jdk/internal/util/Preconditions"), (6, u "checkIndex"), (13, u "checkFromToIndex"), (7, .class_ 56), (0, u "jdk/internal/util/Preconditions$4"), (57, .class_ 115), (0, u "jdk/internal/util/Preconditions$1"), (7, u "SIOOBE_FORMATTER"), (0, u "Ljava/util/function/BiFunction;"), (0, .class_ 126), (0, u "jdk/internal/util/Preconditions$2"), (3, u "AIOOBE_FORMATTER"), (0, .class_ 132), (0, u "jdk/internal/util/Preconditions$3"), (3, u "IOOBE_FORMATTER"), (41, u "(IILjava/util/function/BiFunction;)I"), (4, u "(IIILjava/util/function/BiFunction;)I")] 10

def k27m0 : Method := { name := "<init>", desc := "()V", sig := { parameters := [], returnType := none }, accessFlags := 1, code := none }
def k27c1 : Code := { maxStack := 3, maxLocals := 3, code := jdk_41_method_11_code, exceptionTable := #[], attributes := #[] }
def k27m1 : Method := { name := "checkIndex", desc := "(IILjava/util/function/BiFunction;)I", sig := { parameters := [.int, .int, (.object "java/util/function/BiFunction")], returnType := some .int }, accessFlags := 9, code := some k27c1 }
def k27c2 : Code := { maxStack := 4, maxLocals := 4, code := jdk_41_method_12_code, exceptionTable := #[], attributes := #[] }
def k27m2 : Method := { name := "checkFromToIndex", desc := "(IIILjava/util/function/BiFunction;)I", sig := { parameters := [.int, .int, .int, (.object "java/util/function/BiFunction")], returnType := some .int }, accessFlags := 9, code := some k27c2 }
/-- jdk/internal/util/Preconditions -/
def k27 : Class := { plain "jdk/internal/util/Preconditions" (some 0) with
  accessFlags := 33
  interfaces := #[]
  cf := some (fileOf pool27 24 #[.nestMembers #[55, 131, 125, 114]] #[{ accessFlags := 1, nameIndex := 5, descriptorIndex := 6, attributes := #[] }, { accessFlags := 9, nameIndex := 33, descriptorIndex := 178, attributes := #[] }, { accessFlags := 9, nameIndex := 47, descriptorIndex := 183, attributes := #[] }] 33 2 #[] #[{ accessFlags := 25, nameIndex := 123, descriptorIndex := 124, attributes := #[] }, { accessFlags := 25, nameIndex := 130, descriptorIndex := 124, attributes := #[] }, { accessFlags := 25, nameIndex := 136, descriptorIndex := 124, attributes := #[] }])
  fields := #[{ name := "SIOOBE_FORMATTER", type := (.object "java/util/function/BiFunction"), accessFlags := 25, slot := 0, constantValue := 0 }, { name := "AIOOBE_FORMATTER", type := (.object "java/util/function/BiFunction"), accessFlags := 25, slot := 1, constantValue := 0 }, { name := "IOOBE_FORMATTER", type := (.object "java/util/function/BiFunction"), accessFlags := 25, slot := 2, constantValue := 0 }]
  methods := #[k27m0, k27m1, k27m2]
  instanceTypes := #[]
  staticTypes := #[(.object "java/util/function/BiFunction"), (.object "java/util/function/BiFunction"), (.object "java/util/function/BiFunction")]
  resolved := Array.replicate 194 none
  statics := some 3 }

def pool28 : Array CpInfo := pool [(1, .class_ 2), (0, u "java/lang/Character"), (18, u "value"), (0, u "C"), (19, .class_ 44), (1, u "java/lang/Object"), (3, .class_ 50), (1, u "java/lang/Character$CharacterCache"), (24, .integer 55296), (0, .integer 56320), (0, .integer 57344), (2, u "isHighSurrogate"), (0, u "(C)Z"), (2, u "isLowSurrogate"), (199, u "$assertionsDisabled"), (0, u "Z"), (21, .class_ 309), (1, u "java/lang/Character$UnicodeBlock"), (73, u "TYPE"), (0, u "Ljava/lang/Class;"), (0, .class_ 386), (0, u "java/io/Serializable"), (0, .class_ 388), (0, u "java/lang/Comparable"), (0, .class_ 390), (0, u "java/lang/constant/Constable"), (0, u "MIN_RADIX"), (0, u "I"), (2, u "MAX_RADIX"), (1, u "MIN_VALUE"), (1, u "MAX_VALUE"), (3, u "UNASSIGNED"), (0, u "B"), (0, u "UPPERCASE_LETTER"), (1, u "LOWERCASE_LETTER"), (0, u "TITLECASE_LETTER"), (1, u "MODIFIER_LETTER"), (1, u "OTHER_LETTER"), (1, u "NON_SPACING_MARK"), (1, u "ENCLOSING_MARK"), (1, u "COMBINING_SPACING_MARK"), (1, u "DECIMAL_DIGIT_NUMBER"), (1, u "LETTER_NUMBER"), (1, u "OTHER_NUMBER"), (1, u "SPACE_SEPARATOR"), (1, u "LINE_SEPARATOR"), (1, u "PARAGRAPH_SEPARATOR"), (1, u "CONTROL"), (1, u "FORMAT"), (1, u "PRIVATE_USE"), (1, u "SURROGATE"), (1, u "DASH_PUNCTUATION"), (1, u "START_PUNCTUATION"), (1, u "END_PUNCTUATION"), (1, u "CONNECTOR_PUNCTUATION"), (1, u "OTHER_PUNCTUATION"), (1, u "MATH_SYMBOL"), (1, u "CURRENCY_SYMBOL"), (1, u "MODIFIER_SYMBOL"), (1, u "OTHER_SYMBOL"), (1, u "INITIAL_QUOTE_PUNCTUATION"), (1, u "FINAL_QUOTE_PUNCTUATION"), (1, u "ERROR"), (1, u "DIRECTIONALITY_UNDEFINED"), (0, u "DIRECTIONALITY_LEFT_TO_RIGHT"), (0, u "DIRECTIONALITY_RIGHT_TO_LEFT"), (0, u "DIRECTIONALITY_RIGHT_TO_LEFT_ARABIC"), (0, u "DIRECTIONALITY_EUROPEAN_NUMBER"), (0, u "DIRECTIONALITY_EUROPEAN_NUMBER_SEPARATOR"), (0, u "DIRECTIONALITY_EUROPEAN_NUMBER_TERMINATOR"), (0, u "DIRECTIONALITY_ARABIC_NUMBER"), (0, u "DIRECTIONALITY_COMMON_NUMBER_SEPARATOR"), (0, u "DIRECTIONALITY_NONSPACING_MARK"), (0, u "DIRECTIONALITY_BOUNDARY_NEUTRAL"), (0, u "DIRECTIONALITY_PARAGRAPH_SEPARATOR"), (0, u "DIRECTIONALITY_SEGMENT_SEPARATOR"), (0, u "DIRECTIONALITY_WHITESPACE"), (0, u "DIRECTIONALITY_OTHER_NEUTRALS"), (0, u "DIRECTIONALITY_LEFT_TO_RIGHT_EMBEDDING"), (0, u "DIRECTIONALITY_LEFT_TO_RIGHT_OVERRIDE"), (0, u "DIRECTIONALITY_RIGHT_TO_LEFT_EMBEDDING"), (0, u "DIRECTIONALITY_RIGHT_TO_LEFT_OVERRIDE"), (1, u "DIRECTIONALITY_POP_DIRECTIONAL_FORMAT"), (0, u "DIRECTIONALITY_LEFT_TO_RIGHT_ISOLATE"), (0, u "DIRECTIONALITY_RIGHT_TO_LEFT_ISOLATE"), (0, u "DIRECTIONALITY_FIRST_STRONG_ISOLATE"), (0, u "DIRECTIONALITY_POP_DIRECTIONAL_ISOLATE"), (0, u "MIN_HIGH_SURROGATE"), (0, u "MAX_HIGH_SURROGATE"), (1, u "MIN_LOW_SURROGATE"), (0, u "MAX_LOW_SURROGATE"), (1, u "MIN_SURROGATE"), (0, u "MAX_SURROGATE"), (0, u "MIN_SUPPLEMENTARY_CODE_POINT"), (0, u "MIN_CODE_POINT"), (0, u "MAX_CODE_POINT"), (1, u "serialVersionUID"), (0, u "J"), (2, u "SIZE"), (0, u "BYTES"), (88, .class_ 596), (0, u "java/lang/Character$UnicodeScript"), (0, .class_ 598), (0, u "java/lang/Character$Subset")] 5

def k28c0 : Code := { maxStack := 2, maxLocals := 1, code := jdk_89_method_14_code, exceptionTable := #[], attributes := #[] }
def k28m0 : Method := { name := "isHighSurrogate", desc := "(C)Z", sig := { parameters := [.char], returnType := some .boolean }, accessFlags := 9, code := some k28c0 }
def k28c1 : Code := { maxStack := 2, maxLocals := 1, code := jdk_89_method_15_code, exceptionTable := #[], attributes := #[] }
def k28m1 : Method := { name := "isLowSurrogate", desc := "(C)Z", sig := { parameters := [.char], returnType := some .boolean }, accessFlags := 9, code := some k28c1 }
/-- java/lang/Character -/
def k28 : Class := { plain "java/lang/Character" (some 0) with
  accessFlags := 49
  interfaces := #[2, 3, 5]
  cf := some (fileOf pool28 1 #[.nestMembers #[48, 595, 307, 597]] #[{ accessFlags := 9, nameIndex := 80, descriptorIndex := 81, attributes := #[] }, { accessFlags := 9, nameIndex := 84, descriptorIndex := 81, attributes := #[] }] 49 42 #[385, 387, 389] #[{ accessFlags := 25, nameIndex := 391, descriptorIndex := 392, attributes := #[] }, { accessFlags := 25, nameIndex := 395, descriptorIndex := 392, attributes := #[] }, { accessFlags := 25, nameIndex := 397, descriptorIndex := 22, attributes := #[] }, { accessFlags := 25, nameIndex := 399, descriptorIndex := 22, attributes := #[] }, { accessFlags := 25, nameIndex := 383, descriptorIndex := 384, attributes := #[] }, { accessFlags := 25, nameIndex := 403, descriptorIndex := 404, attributes := #[] }, { accessFlags := 25, nameIndex := 405, descriptorIndex := 404, attributes := #[] }, { accessFlags := 25, nameIndex := 407, descriptorIndex := 404, attributes := #[] }, { accessFlags := 25, nameIndex := 408, descriptorIndex := 404, attributes := #[] }, { accessFlags := 25, nameIndex := 410, descriptorIndex := 404, attributes := #[] }, { accessFlags := 25, nameIndex := 412, descriptorIndex := 404, attributes := #[] }, { accessFlags := 25, nameIndex := 414, descriptorIndex := 404, attributes := #[] }, { accessFlags := 25, nameIndex := 416, descriptorIndex := 404, attributes := #[] }, { accessFlags := 25, nameIndex := 418, descriptorIndex := 404, attributes := #[] }, { accessFlags := 25, nameIndex := 420, descriptorIndex := 404, attributes := #[] }, { accessFlags := 25, nameIndex := 422, descriptorIndex := 404, attributes := #[] }, { accessFlags := 25, nameIndex := 424, descriptorIndex := 404, attributes := #[] }, { accessFlags := 25, nameIndex := 426, descriptorIndex := 404, attributes := #[] }, { accessFlags := 25, nameIndex := 428, descriptorIndex := 404, attributes := #[] }, { accessFlags := 25, nameIndex := 430, descriptorIndex := 404, attributes := #[] }, { accessFlags := 25, nameIndex := 432, descriptorIndex := 404, attributes := #[] }, { accessFlags := 25, nameIndex := 434, descriptorIndex := 404, attributes := #[] }, { accessFlags := 25, nameIndex := 436, descriptorIndex := 404, attributes := #[] }, { accessFlags := 25, nameIndex := 438, descriptorIndex := 404, attributes := #[] }, { accessFlags := 25, nameIndex := 440, descriptorIndex := 404, attributes := #[] }, { accessFlags := 25, nameIndex := 442, descriptorIndex := 404, attributes := #[] }, { accessFlags := 25, nameIndex := 444, descriptorIndex := 404, attributes := #[] }, { accessFlags := 25, nameIndex := 446, descriptorIndex := 404, attributes := #[] }, { accessFlags := 25, nameIndex := 448, descriptorIndex := 404, attributes := #[] }, { accessFlags := 25, nameIndex := 450, descriptorIndex := 404, attributes := #[] }, { accessFlags := 25, nameIndex := 452, descriptorIndex := 404, attributes := #[] }, { accessFlags := 25, nameIndex := 454, descriptorIndex := 404, attributes := #[] }, { accessFlags := 25, nameIndex := 456, descriptorIndex := 404, attributes := #[] }, { accessFlags := 25, nameIndex := 458, descriptorIndex := 404, attributes := #[] }, { accessFlags := 25, nameIndex := 460, descriptorIndex := 404, attributes := #[] }, { accessFlags := 24, nameIndex := 462, descriptorIndex := 392, attributes := #[] }, { accessFlags := 25, nameIndex := 464, descriptorIndex := 404, attributes := #[] }, { accessFlags := 25, nameIndex := 465, descriptorIndex := 404, attributes := #[] }, { accessFlags := 25, nameIndex := 466, descriptorIndex := 404, attributes := #[] }, { accessFlags := 25, nameIndex := 467, descriptorIndex := 404, attributes := #[] }, { accessFlags := 25, nameIndex := 468, descriptorIndex := 404, attributes := #[] }, { accessFlags := 25, nameIndex := 469, descriptorIndex := 404, attributes := #[] }, { accessFlags := 25, nameIndex := 470, descriptorIndex := 404, attributes := #[] }, { accessFlags := 25, nameIndex := 471, descriptorIndex := 404, attributes := #[] }, { accessFlags := 25, nameIndex := 472, descriptorIndex := 404, attributes := #[] }, { accessFlags := 25, nameIndex := 473, descriptorIndex := 404, attributes := #[] }, { accessFlags := 25, nameIndex := 474, descriptorIndex := 404, attributes := #[] }, { accessFlags := 25, nameIndex := 475, descriptorIndex := 404, attributes := #[] }, { accessFlags := 25, nameIndex := 476, descriptorIndex := 404, attributes := #[] }, { accessFlags := 25, nameIndex := 477, descriptorIndex := 404, attributes := #[] }, { accessFlags := 25, nameIndex := 478, descriptorIndex := 404, attributes := #[] }, { accessFlags := 25, nameIndex := 479, descriptorIndex := 404, attributes := #[] }, { accessFlags := 25, nameIndex := 480, descriptorIndex := 404, attributes := #[] }, { accessFlags := 25, nameIndex := 481, descriptorIndex := 404, attributes := #[] }, { accessFlags := 25, nameIndex := 482, descriptorIndex := 404, attributes := #[] }, { accessFlags := 25, nameIndex := 484, descriptorIndex := 404, attributes := #[] }, { accessFlags := 25, nameIndex := 485, descriptorIndex := 404, attributes := #[] }, { accessFlags := 25, nameIndex := 486, descriptorIndex := 404, attributes := #[] }, { accessFlags := 25, nameIndex := 487, descriptorIndex := 404, attributes := #[] }, { accessFlags := 25, nameIndex := 488, descriptorIndex := 404, attributes := #[] }, { accessFlags := 25, nameIndex := 489, descriptorIndex := 22, attributes := #[] }, { accessFlags := 25, nameIndex := 490, descriptorIndex := 22, attributes := #[] }, { accessFlags := 25, nameIndex := 492, descriptorIndex := 22, attributes := #[] }, { accessFlags := 25, nameIndex := 493, descriptorIndex := 22, attributes := #[] }, { accessFlags := 25, nameIndex := 495, descriptorIndex := 22, attributes := #[] }, { accessFlags := 25, nameIndex := 496, descriptorIndex := 22, attributes := #[] }, { accessFlags := 25, nameIndex := 497, descriptorIndex := 392, attributes := #[] }, { accessFlags := 25, nameIndex := 498, descriptorIndex := 392, attributes := #[] }, { accessFlags := 25, nameIndex := 499, descriptorIndex := 392, attributes := #[] }, { accessFlags := 18, nameIndex := 21, descriptorIndex := 22, attributes := #[] }, { accessFlags := 26, nameIndex := 501, descriptorIndex := 502, attributes := #[] }, { accessFlags := 25, nameIndex := 505, descriptorIndex := 392, attributes := #[] }, { accessFlags := 25, nameIndex := 506, descriptorIndex := 392, attributes := #[] }, { accessFlags := 4120, nameIndex := 284, descriptorIndex := 285, attributes := #[] }])
  fields := #[{ name := "MIN_RADIX", type := .int, accessFlags := 25, slot := 0, constantValue := 0 }, { name := "MAX_RADIX", type := .int, accessFlags := 25, slot := 1, constantValue := 0 }, { name := "MIN_VALUE", type := .char, accessFlags := 25, slot := 2, constantValue := 0 }, { name := "MAX_VALUE", type := .char, accessFlags := 25, slot := 3, constantValue := 0 }, { name := "TYPE", type := (.object "java/lang/Class"), accessFlags := 25, slot := 4, constantValue := 0 }, { name := "UNASSIGNED", type := .byte, accessFlags := 25, slot := 5, constantValue := 0 }, { name := "UPPERCASE_LETTER", type := .byte, accessFlags := 25, slot := 6, constantValue := 0 }, { name := "LOWERCASE_LETTER", type := .byte, accessFlags := 25, slot := 7, constantValue := 0 }, { name := "TITLECASE_LETTER", type := .byte, accessFlags := 25, slot := 8, constantValue := 0 }, { name := "MODIFIER_LETTER", type := .byte, accessFlags := 25, slot := 9, constantValue := 0 }, { name := "OTHER_LETTER", type := .byte, accessFlags := 25, slot := 10, constantValue := 0 }, { name := "NON_SPACING_MARK", type := .byte, accessFlags := 25, slot := 11, constantValue := 0 }, { name := "ENCLOSING_MARK", type := .byte, accessFlags := 25, slot := 12, constantValue := 0 }, { name := "COMBINING_SPACING_MARK", type := .byte, accessFlags := 25, slot := 13, constantValue := 0 }, { name := "DECIMAL_DIGIT_NUMBER", type := .byte, accessFlags := 25, slot := 14, constantValue := 0 }, { name := "LETTER_NUMBER", type := .byte, accessFlags := 25, slot := 15, constantValue := 0 }, { name := "OTHER_NUMBER", type := .byte, accessFlags := 25, slot := 16, constantValue := 0 }, { name := "SPACE_SEPARATOR", type := .byte, accessFlags := 25, slot := 17, constantValue := 0 }, { name := "LINE_SEPARATOR", type := .byte, accessFlags := 25, slot := 18, constantValue := 0 }, { name := "PARAGRAPH_SEPARATOR", type := .byte, accessFlags := 25, slot := 19, constantValue := 0 }, { name := "CONTROL", type := .byte, accessFlags := 25, slot := 20, constantValue := 0 }, { name := "FORMAT", type := .byte, accessFlags := 25, slot := 21, constantValue := 0 }, { name := "PRIVATE_USE", type := .byte, accessFlags := 25, slot := 22, constantValue := 0 }, { name := "SURROGATE", type := .byte, accessFlags := 25, slot := 23, constantValue := 0 }, { name := "DASH_PUNCTUATION", type := .byte, accessFlags := 25, slot := 24, constantValue := 0 }, { name := "START_PUNCTUATION", type := .byte, accessFlags := 25, slot := 25, constantValue := 0 }, { name := "END_PUNCTUATION", type := .byte, accessFlags := 25, slot := 26, constantValue := 0 }, { name := "CONNECTOR_PUNCTUATION", type := .byte, accessFlags := 25, slot := 27, constantValue := 0 }, { name := "OTHER_PUNCTUATION", type := .byte, accessFlags := 25, slot := 28, constantValue := 0 }, { name := "MATH_SYMBOL", type := .byte, accessFlags := 25, slot := 29, constantValue := 0 }, { name := "CURRENCY_SYMBOL", type := .byte, accessFlags := 25, slot := 30, constantValue := 0 }, { name := "MODIFIER_SYMBOL", type := .byte, accessFlags := 25, slot := 31, constantValue := 0 }, { name := "OTHER_SYMBOL", type := .byte, accessFlags := 25, slot := 32, constantValue := 0 }, { name := "INITIAL_QUOTE_PUNCTUATION", type := .byte, accessFlags := 25, slot := 33, constantValue := 0 }, { name := "FINAL_QUOTE_PUNCTUATION", type := .byte, accessFlags := 25, slot := 34, constantValue := 0 }, { name := "ERROR", type := .int, accessFlags := 24, slot := 35, constantValue := 0 }, { name := "DIRECTIONALITY_UNDEFINED", type := .byte, accessFlags := 25, slot := 36, constantValue := 0 }, { name := "DIRECTIONALITY_LEFT_TO_RIGHT", type := .byte, accessFlags := 25, slot := 37, constantValue := 0 }, { name := "DIRECTIONALITY_RIGHT_TO_LEFT", type := .byte, accessFlags := 25, slot := 38, constantValue := 0 }, { name := "DIRECTIONALITY_RIGHT_TO_LEFT_ARABIC", type := .byte, accessFlags := 25, slot := 39, constantValue := 0 }, { name := "DIRECTIONALITY_EUROPEAN_NUMBER", type := .byte, accessFlags := 25, slot := 40, constantValue := 0 }, { name := "DIRECTIONALITY_EUROPEAN_NUMBER_SEPARATOR", type := .byte, accessFlags := 25, slot := 41, constantValue := 0 }, { name := "DIRECTIONALITY_EUROPEAN_NUMBER_TERMINATOR", type := .byte, accessFlags := 25, slot := 42, constantValue := 0 }, { name := "DIRECTIONALITY_ARABIC_NUMBER", type := .byte, accessFlags := 25, slot := 43, constantValue := 0 }, { name := "DIRECTIONALITY_COMMON_NUMBER_SEPARATOR", type := .byte, accessFlags := 25, slot := 44, constantValue := 0 }, { name := "DIRECTIONALITY_NONSPACING_MARK", type := .byte, accessFlags := 25, slot := 45, constantValue := 0 }, { name := "DIRECTIONALITY_BOUNDARY_NEUTRAL", type := .byte, accessFlags := 25, slot := 46, constantValue := 0 }, { name := "DIRECTIONALITY_PARAGRAPH_SEPARATOR", type := .byte, accessFlags := 25, slot := 47, constantValue := 0 }, { name := "DIRECTIONALITY_SEGMENT_SEPARATOR", type := .byte, accessFlags := 25, slot := 48, constantValue := 0 }, { name := "DIRECTIONALITY_WHITESPACE", type := .byte, accessFlags := 25, slot := 49, constantValue := 0 }, { name := "DIRECTIONALITY_OTHER_NEUTRALS", type := .byte, accessFlags := 25, slot := 50, constantValue := 0 }, { name := "DIRECTIONALITY_LEFT_TO_RIGHT_EMBEDDING", type := .byte, accessFlags := 25, slot := 51, constantValue := 0 }, { name := "DIRECTIONALITY_LEFT_TO_RIGHT_OVERRIDE", type := .byte, accessFlags := 25, slot := 52, constantValue := 0 }, { name := "DIRECTIONALITY_RIGHT_TO_LEFT_EMBEDDING", type := .byte, accessFlags := 25, slot := 53, constantValue := 0 }, { name := "DIRECTIONALITY_RIGHT_TO_LEFT_OVERRIDE", type := .byte, accessFlags := 25, slot := 54, constantValue := 0 }, { name := "DIRECTIONALITY_POP_DIRECTIONAL_FORMAT", type := .byte, accessFlags := 25, slot := 55, constantValue := 0 }, { name := "DIRECTIONALITY_LEFT_TO_RIGHT_ISOLATE", type := .byte, accessFlags := 25, slot := 56, constantValue := 0 }, { name := "DIRECTIONALITY_RIGHT_TO_LEFT_ISOLATE", type := .byte, accessFlags := 25, slot := 57, constantValue := 0 }, { name := "DIRECTIONALITY_FIRST_STRONG_ISOLATE", type := .byte, accessFlags := 25, slot := 58, constantValue := 0 }, { name := "DIRECTIONALITY_POP_DIRECTIONAL_ISOLATE", type := .byte, accessFlags := 25, slot := 59, constantValue := 0 }, { name := "MIN_HIGH_SURROGATE", type := .char, accessFlags := 25, slot := 60, constantValue := 0 }, { name := "MAX_HIGH_SURROGATE", type := .char, accessFlags := 25, slot := 61, constantValue := 0 }, { name := "MIN_LOW_SURROGATE", type := .char, accessFlags := 25, slot := 62, constantValue := 0 }, { name := "MAX_LOW_SURROGATE", type := .char, accessFlags := 25, slot := 63, constantValue := 0 }, { name := "MIN_SURROGATE", type := .char, accessFlags := 25, slot := 64, constantValue := 0 }, { name := "MAX_SURROGATE", type := .char, accessFlags := 25, slot := 65, constantValue := 0 }, { name := "MIN_SUPPLEMENTARY_CODE_POINT", type := .int, accessFlags := 25, slot := 66, constantValue := 0 }, { name := "MIN_CODE_POINT", type := .int, accessFlags := 25, slot := 67, constantValue := 0 }, { name := "MAX_CODE_POINT", type := .int, accessFlags := 25, slot := 68, constantValue := 0 }, { name := "value", type := .char, accessFlags := 18, slot := 0, constantValue := 0 }, { name := "serialVersionUID", type := .long, accessFlags := 26, slot := 69, constantValue := 0 }, { name := "SIZE", type := .int, accessFlags := 25, slot := 70, constantValue := 0 }, { name := "BYTES", type := .int, accessFlags := 25, slot := 71, constantValue := 0 }, { name := "$assertionsDisabled", type := .boolean, accessFlags := 4120, slot := 72, constantValue := 0 }]
  methods := #[k28m0, k28m1]
  instanceTypes := #[.char]
  staticTypes := #[.int, .int, .char, .char, (.object "java/lang/Class"), .byte, .byte, .byte, .byte, .byte, .byte, .byte, .byte, .byte, .byte, .byte, .byte, .byte, .byte, .byte, .byte, .byte, .byte, .byte, .byte, .byte, .byte, .byte, .byte, .byte, .byte, .byte, .byte, .byte, .byte, .int, .byte, .byte, .byte, .byte, .byte, .byte, .byte, .byte, .byte, .byte, .byte, .byte, .byte, .byte, .byte, .byte, .byte, .byte, .byte, .byte, .byte, .byte, .byte, .byte, .char, .char, .char, .char, .char, .char, .int, .int, .int, .long, .int, .int, .boolean]
  resolved := Array.replicate 604 none
  statics := none }

def pool29 : Array CpInfo := pool [(9, u "<init>"), (6, .class_ 18), (1, u "java/lang/Object"), (0, u "()V"), (1, .class_ 23), (1, u "jdk/internal/util/ArraysSupport"), (0, u "LOG2_ARRAY_LONG_INDEX_SCALE"), (0, u "I"), (2, u "U"), (0, u "Ljdk/internal/misc/Unsafe;"), (8, u "BIG_ENDIAN"), (0, u "Z"), (8, u "LOG2_BYTE_BIT_SIZE"), (4, u "LOG2_ARRAY_INT_INDEX_SCALE"), (54, u "JLA"), (0, u "Ljdk/internal/access/JavaLangAccess;"), (11, u "LOG2_ARRAY_BOOLEAN_INDEX_SCALE"), (9, u "LOG2_ARRAY_BYTE_INDEX_SCALE"), (5, u "LOG2_ARRAY_CHAR_INDEX_SCALE"), (5, u "LOG2_ARRAY_SHORT_INDEX_SCALE"), (18, u "LOG2_ARRAY_FLOAT_INDEX_SCALE"), (24, u "LOG2_ARRAY_DOUBLE_INDEX_SCALE"), (89, u "T_BOOLEAN"), (2, u "T_CHAR"), (1, u "T_FLOAT"), (1, u "T_DOUBLE"), (1, u "T_BYTE"), (1, u "T_SHORT"), (1, u "T_INT"), (1, u "T_LONG"), (1, u "SOFT_MAX_ARRAY_LENGTH")] 83

def k29m0 : Method := { name := "<init>", desc := "()V", sig := { parameters := [], returnType := none }, accessFlags := 2, code := none }
/-- jdk/internal/util/ArraysSupport -/
def k29 : Class := { plain "jdk/internal/util/ArraysSupport" (some 0) with
  accessFlags := 33
  interfaces := #[]
  cf := some (fileOf pool29 21 #[] #[{ accessFlags := 2, nameIndex := 9, descriptorIndex := 19, attributes := #[] }] 33 16 #[] #[{ accessFlags := 24, nameIndex := 28, descriptorIndex := 29, attributes := #[] }, { accessFlags := 26, nameIndex := 38, descriptorIndex := 39, attributes := #[] }, { accessFlags := 25, nameIndex := 121, descriptorIndex := 25, attributes := #[] }, { accessFlags := 25, nameIndex := 131, descriptorIndex := 25, attributes := #[] }, { accessFlags := 25, nameIndex := 137, descriptorIndex := 25, attributes := #[] }, { accessFlags := 25, nameIndex := 143, descriptorIndex := 25, attributes := #[] }, { accessFlags := 25, nameIndex := 53, descriptorIndex := 25, attributes := #[] }, { accessFlags := 25, nameIndex := 24, descriptorIndex := 25, attributes := #[] }, { accessFlags := 25, nameIndex := 162, descriptorIndex := 25, attributes := #[] }, { accessFlags := 25, nameIndex := 187, descriptorIndex := 25, attributes := #[] }, { accessFlags := 26, nameIndex := 48, descriptorIndex := 25, attributes := #[] }, { accessFlags := 25, nameIndex := 277, descriptorIndex := 25, attributes := #[] }, { accessFlags := 25, nameIndex := 280, descriptorIndex := 25, attributes := #[] }, { accessFlags := 25, nameIndex := 282, descriptorIndex := 25, attributes := #[] }, { accessFlags := 25, nameIndex := 284, descriptorIndex := 25, attributes := #[] }, { accessFlags := 25, nameIndex := 286, descriptorIndex := 25, attributes := #[] }, { accessFlags := 25, nameIndex := 288, descriptorIndex := 25, attributes := #[] }, { accessFlags := 25, nameIndex := 290, descriptorIndex := 25, attributes := #[] }, { accessFlags := 25, nameIndex := 292, descriptorIndex := 25, attributes := #[] }, { accessFlags := 26, nameIndex := 108, descriptorIndex := 109, attributes := #[] }, { accessFlags := 25, nameIndex := 294, descriptorIndex := 25, attributes := #[] }])
  fields := #[{ name := "U", type := (.object "jdk/internal/misc/Unsafe"), accessFlags := 24, slot := 0, constantValue := 0 }, { name := "BIG_ENDIAN", type := .boolean, accessFlags := 26, slot := 1, constantValue := 0 }, { name := "LOG2_ARRAY_BOOLEAN_INDEX_SCALE", type := .int, accessFlags := 25, slot := 2, constantValue := 0 }, { name := "LOG2_ARRAY_BYTE_INDEX_SCALE", type := .int, accessFlags := 25, slot := 3, constantValue := 0 }, { name := "LOG2_ARRAY_CHAR_INDEX_SCALE", type := .int, accessFlags := 25, slot := 4, constantValue := 0 }, { name := "LOG2_ARRAY_SHORT_INDEX_SCALE", type := .int, accessFlags := 25, slot := 5, constantValue := 0 }, { name := "LOG2_ARRAY_INT_INDEX_SCALE", type := .int, accessFlags := 25, slot := 6, constantValue := 0 }, { name := "LOG2_ARRAY_LONG_INDEX_SCALE", type := .int, accessFlags := 25, slot := 7, constantValue := 0 }, { name := "LOG2_ARRAY_FLOAT_INDEX_SCALE", type := .int, accessFlags := 25, slot := 8, constantValue := 0 }, { name := "LOG2_ARRAY_DOUBLE_INDEX_SCALE", type := .int, accessFlags := 25, slot := 9, constantValue := 0 }, { name := "LOG2_BYTE_BIT_SIZE", type := .int, accessFlags := 26, slot := 10, constantValue := 0 }, { name := "T_BOOLEAN", type := .int, accessFlags := 25, slot := 11, constantValue := 0 }, { name := "T_CHAR", type := .int, accessFlags := 25, slot := 12, constantValue := 0 }, { name := "T_FLOAT", type := .int, accessFlags := 25, slot := 13, constantValue := 0 }, { name := "T_DOUBLE", type := .int, accessFlags := 25, slot := 14, constantValue := 0 }, { name := "T_BYTE", type := .int, accessFlags := 25, slot := 15, constantValue := 0 }, { name := "T_SHORT", type := .int, accessFlags := 25, slot := 16, constantValue := 0 }, { name := "T_INT", type := .int, accessFlags := 25, slot := 17, constantValue := 0 }, { name := "T_LONG", type := .int, accessFlags := 25, slot := 18, constantValue := 0 }, { name := "JLA", type := (.object "jdk/internal/access/JavaLangAccess"), accessFlags := 26, slot := 19, constantValue := 0 }, { name := "SOFT_MAX_ARRAY_LENGTH", type := .int, accessFlags := 25, slot := 20, constantValue := 0 }]
  methods := #[k29m0]
  instanceTypes := #[]
  staticTypes := #[(.object "jdk/internal/misc/Unsafe"), .boolean, .int, .int, .int, .int, .int, .int, .int, .int, .int, .int, .int, .int, .int, .int, .int, .int, .int, (.object "jdk/internal/access/JavaLangAccess"), .int]
  resolved := Array.replicate 378 none
  statics := none }

/-- the primitive byte -/
def k30 : Class := { plain "byte" none with kind := .primitive 'B', accessFlags := 0x411 }
/-- [B -/
def k31 : Class := { plain "[B" (some 0) with kind := .array 30 .byte, interfaces := #[16, 2], accessFlags := 1041 }

/-- the primitive char -/
def k32 : Class := { plain "char" none with kind := .primitive 'C', accessFlags := 0x411 }
/-- [C -/
def k33 : Class := { plain "[C" (some 0) with kind := .array 32 .char, interfaces := #[16, 2], accessFlags := 1041 }

/-- the primitive int -/
def k34 : Class := { plain "int" none with kind := .primitive 'I', accessFlags := 0x411 }
/-- [I -/
def k35 : Class := { plain "[I" (some 0) with kind := .array 34 .int, interfaces := #[16, 2], accessFlags := 1041 }

/-- [Ljava/lang/Object; -/
def k36 : Class := { plain "[Ljava/lang/Object;" (some 0) with kind := .array 0 (.object "java/lang/Object"), interfaces := #[16, 2], accessFlags := 1041 }

def heap : Heap := #[{ cls := 7, slots := #[.long 0, .int 1, .null, .int 0, .null, .int 0, .int 0], vm := .statics 7 },
  { cls := 8, slots := #[.int 0, .int 8, .int 0, .int 1], vm := .statics 8 },
  { cls := 17, slots := #[.long 0, .int 0, .ref 4, .ref 5], vm := .statics 17 },
  { cls := 27, slots := #[.null, .null, .null], vm := .statics 27 },
  { cls := 36, slots := #[], vm := .none },
  { cls := 36, slots := #[], vm := .none }]
def classes : Array Class := #[k0, k1, k2, k3, k4, k5, k6, k7, k8, k9, k10, k11, k12, k13, k14, k15, k16, k17, k18, k19, k20, k21, k22, k23, k24, k25, k26, k27, k28, k29, k30, k31, k32, k33, k34, k35, k36]
def interned : List (Array UInt16 × Addr) := []
def slotsUsed : Nat := 18
def theMethod : MethodId := ⟨1, 1⟩
def args0 : Array Value := #[.int 5, .int 6, .int 7, .int 3, .int 9]
def aboutOver (below : List Frame) : State where
  vm := { classes := classes, interned := interned.toArray }
  heap := heap
  slotsUsed := slotsUsed
  threads := #[{ frames := .invoking theMethod args0 :: below }]
def below0 : List Frame := [.native { method := ⟨0, 0⟩, args := #[] }]
def about1 : State := aboutOver below0
def p0 : Program := .bare "" "" ""
def e0 : Env := launch0.env 0 0 0
theorem w_frames : about1.frames = Frame.invoking theMethod args0 :: below0 := rfl
set_option maxRecDepth 65536 in
theorem w_args : argsFit about1.vm theMethod args0 = true := by decide +kernel
set_option maxRecDepth 65536 in
theorem w_heap : heapFits about1 = true := by decide +kernel
set_option maxRecDepth 65536 in
theorem w_runnable : about1.curStatus? = some .runnable := by decide +kernel
set_option maxRecDepth 65536 in
theorem w_alone : about1.alone = true := by decide +kernel
set_option maxRecDepth 65536 in
theorem w_named : about1.methodNamed? x = some theMethod := by decide +kernel
set_option maxRecDepth 65536 in
theorem w_hears : about1.hears theMethod below0 = true := by decide +kernel
set_option maxRecDepth 65536 in
theorem w_ripe : about1.ripe theMethod args0 below0 = true := by decide +kernel
theorem w_running : about1.status = .running := rfl
set_option maxRecDepth 65536 in
theorem w_room : about1.hasRoom e0.platform room_1 = true :=
  launch0.hasRoom_least _ room_1 (by decide +kernel) (by decide +kernel) (by decide +kernel) (by decide +kernel) (by decide +kernel) (by decide +kernel)
theorem allAtoms_all (ts : List Jvm.Cond) (a : Array Jvm.Value) (st : Jvm.State) : (allAtoms ts).before a st = ts.all (fun c => c.before a st) := by
  induction ts with
  | nil => rfl
  | cons c t ih =>
    show (Jvm.Cond.and c (allAtoms t)).before a st = _
    rw [Jvm.Cond.before_and, ih, List.all_cons]
def words1 : List Jvm.Cond := Jvm.Cond.code x code maxLocals ret :: tables_1
/-- a 'code' word, met by the world's own term for the bytes: nothing is compared byte by byte -/
theorem code_word {y : MethodName} {bytes : ByteArray} {mx : Nat} {rt : Option FieldType} {a : Array Value} {s : State} {m : MethodId} {meth : Method} {c : Code} (h1 : s.methodNamed? y = some m) (h2 : s.vm.method? m = some meth) (h3 : meth.code = some c) (h4 : c.code = bytes)
    (h5 : (c.maxLocals == mx && c.exceptionTable.isEmpty && decide (c.maxStack ≤ mostOperands) && decide (meth.sig.returnType = rt) && !meth.locks && decide (parseMethodDescriptor y.desc = some meth.sig)) = true) : (Jvm.Cond.code y bytes mx rt).before a s = true := by
  simp only [Bool.and_eq_true, beq_iff_eq, Bool.not_eq_true', decide_eq_true_eq] at h5
  obtain ⟨⟨⟨⟨⟨g1, g2⟩, g3⟩, g4⟩, g5⟩, g6⟩ := h5
  simp [Cond.before, Cond.holds, Cond.value, h1, h2, h3, h4, g1, g2, g3, g4, g5, g6]
def isCode : Jvm.Cond → Bool
  | .code _ _ _ _ => true
  | _ => false
theorem all_split {L : List Jvm.Cond} {P : Jvm.Cond → Bool} (h1 : L.all (fun c => isCode c || P c) = true) (h2 : ∀ c ∈ L.filter isCode, P c = true) : L.all P = true := by
  refine List.all_eq_true.mpr fun c hc => ?_
  have h := List.all_eq_true.mp h1 c hc
  rcases Bool.eq_false_or_eq_true (isCode c) with hi | hi
  · exact h2 c (List.mem_filter.mpr ⟨hc, hi⟩)
  · simpa [hi] using h
set_option maxRecDepth 65536 in
theorem w_c0 : (Jvm.Cond.code x code maxLocals ret).before args0 about1 = true := code_word (m := ⟨1, 1⟩) (meth := k1m1) (c := k1c1) (by decide +kernel) rfl rfl rfl (by decide +kernel)
set_option maxRecDepth 65536 in
theorem w_c1 : (Jvm.Cond.code ({ cls := "java/lang/String", name := "<init>", desc := "([C)V" } : Jvm.MethodName) jdk_42_method_3_code (2 : Nat) (Option.none : Option Jvm.ClassFile.FieldType)).before args0 about1 = true := code_word (m := ⟨7, 1⟩) (meth := k7m1) (c := k7c1) (by decide +kernel) rfl rfl rfl (by decide +kernel)
set_option maxRecDepth 65536 in
theorem w_c2 : (Jvm.Cond.code ({ cls := "java/lang/String", name := "<init>", desc := "([CIILjava/lang/Void;)V" } : Jvm.MethodName) jdk_42_method_149_code (6 : Nat) (Option.none : Option Jvm.ClassFile.FieldType)).before args0 about1 = true := code_word (m := ⟨7, 6⟩) (meth := k7m6) (c := k7c6) (by decide +kernel) rfl rfl rfl (by decide +kernel)
set_option maxRecDepth 65536 in
theorem w_c3 : (Jvm.Cond.code ({ cls := "java/lang/Object", name := "<init>", desc := "()V" } : Jvm.MethodName) object_method_1_code (1 : Nat) (Option.none : Option Jvm.ClassFile.FieldType)).before args0 about1 = true := code_word (m := ⟨0, 0⟩) (meth := k0m0) (c := k0c0) (by decide +kernel) rfl rfl rfl (by decide +kernel)
set_option maxRecDepth 65536 in
theorem w_c4 : (Jvm.Cond.code ({ cls := "java/lang/StringUTF16", name := "compress", desc := "([CII)[B" } : Jvm.MethodName) jdk_52_method_16_code (6 : Nat) (Option.some (Jvm.ClassFile.FieldType.array Jvm.ClassFile.FieldType.byte))).before args0 about1 = true := code_word (m := ⟨8, 9⟩) (meth := k8m9) (c := k8c9) (by decide +kernel) rfl rfl rfl (by decide +kernel)
set_option maxRecDepth 65536 in
theorem w_c5 : (Jvm.Cond.code ({ cls := "java/lang/StringUTF16", name := "compress", desc := "([CI[BII)I" } : Jvm.MethodName) jdk_52_method_21_code (7 : Nat) (Option.some Jvm.ClassFile.FieldType.int)).before args0 about1 = true := code_word (m := ⟨8, 10⟩) (meth := k8m10) (c := k8c10) (by decide +kernel) rfl rfl rfl (by decide +kernel)
set_option maxRecDepth 65536 in
theorem w_c6 : (Jvm.Cond.code ({ cls := "java/lang/StringUTF16", name := "coderFromArrayLen", desc := "([BI)B" } : Jvm.MethodName) jdk_52_method_15_code (2 : Nat) (Option.some Jvm.ClassFile.FieldType.byte)).before args0 about1 = true := code_word (m := ⟨8, 8⟩) (meth := k8m8) (c := k8c8) (by decide +kernel) rfl rfl rfl (by decide +kernel)
set_option maxRecDepth 65536 in
theorem w_c7 : (Jvm.Cond.code ({ cls := "java/util/ArrayList", name := "<init>", desc := "()V" } : Jvm.MethodName) jdk_38_method_2_code (1 : Nat) (Option.none : Option Jvm.ClassFile.FieldType)).before args0 about1 = true := code_word (m := ⟨17, 0⟩) (meth := k17m0) (c := k17c0) (by decide +kernel) rfl rfl rfl (by decide +kernel)
set_option maxRecDepth 65536 in
theorem w_c8 : (Jvm.Cond.code ({ cls := "java/util/AbstractList", name := "<init>", desc := "()V" } : Jvm.MethodName) jdk_39_method_1_code (1 : Nat) (Option.none : Option Jvm.ClassFile.FieldType)).before args0 about1 = true := code_word (m := ⟨14, 0⟩) (meth := k14m0) (c := k14c0) (by decide +kernel) rfl rfl rfl (by decide +kernel)
set_option maxRecDepth 65536 in
theorem w_c9 : (Jvm.Cond.code ({ cls := "java/util/AbstractCollection", name := "<init>", desc := "()V" } : Jvm.MethodName) jdk_22_method_1_code (1 : Nat) (Option.none : Option Jvm.ClassFile.FieldType)).before args0 about1 = true := code_word (m := ⟨11, 0⟩) (meth := k11m0) (c := k11c0) (by decide +kernel) rfl rfl rfl (by decide +kernel)
set_option maxRecDepth 65536 in
theorem w_c10 : (Jvm.Cond.code ({ cls := "com/example/librole/librole/textfile/TextFile", name := "refuseEmptyOrTooLong", desc := "(Ljava/util/List;Ljava/util/List;)V" } : Jvm.MethodName) prog_68_method_5_code (4 : Nat) (Option.none : Option Jvm.ClassFile.FieldType)).before args0 about1 = true := code_word (m := ⟨23, 0⟩) (meth := k23m0) (c := k23c0) (by decide +kernel) rfl rfl rfl (by decide +kernel)
set_option maxRecDepth 65536 in
theorem w_c11 : (Jvm.Cond.code ({ cls := "java/util/ArrayList", name := "size", desc := "()I" } : Jvm.MethodName) jdk_38_method_8_code (1 : Nat) (Option.some Jvm.ClassFile.FieldType.int)).before args0 about1 = true := code_word (m := ⟨17, 3⟩) (meth := k17m3) (c := k17c3) (by decide +kernel) rfl rfl rfl (by decide +kernel)
set_option maxRecDepth 65536 in
theorem w_c12 : (Jvm.Cond.code ({ cls := "java/lang/String", name := "valueOf", desc := "(C)Ljava/lang/String;" } : Jvm.MethodName) jdk_42_method_139_code (1 : Nat) (Option.some (Jvm.ClassFile.FieldType.object "java/lang/String"))).before args0 about1 = true := code_word (m := ⟨7, 5⟩) (meth := k7m5) (c := k7c5) (by decide +kernel) rfl rfl rfl (by decide +kernel)
set_option maxRecDepth 65536 in
theorem w_c13 : (Jvm.Cond.code ({ cls := "java/lang/StringLatin1", name := "canEncode", desc := "(C)Z" } : Jvm.MethodName) jdk_43_method_3_code (1 : Nat) (Option.some Jvm.ClassFile.FieldType.boolean)).before args0 about1 = true := code_word (m := ⟨24, 1⟩) (meth := k24m1) (c := k24c1) (by decide +kernel) rfl rfl rfl (by decide +kernel)
set_option maxRecDepth 65536 in
theorem w_c14 : (Jvm.Cond.code ({ cls := "java/lang/StringLatin1", name := "toBytes", desc := "(C)[B" } : Jvm.MethodName) jdk_43_method_46_code (1 : Nat) (Option.some (Jvm.ClassFile.FieldType.array Jvm.ClassFile.FieldType.byte))).before args0 about1 = true := code_word (m := ⟨24, 2⟩) (meth := k24m2) (c := k24c2) (by decide +kernel) rfl rfl rfl (by decide +kernel)
set_option maxRecDepth 65536 in
theorem w_c15 : (Jvm.Cond.code ({ cls := "java/lang/String", name := "<init>", desc := "([BB)V" } : Jvm.MethodName) jdk_42_method_151_code (3 : Nat) (Option.none : Option Jvm.ClassFile.FieldType)).before args0 about1 = true := code_word (m := ⟨7, 7⟩) (meth := k7m7) (c := k7c7) (by decide +kernel) rfl rfl rfl (by decide +kernel)
set_option maxRecDepth 65536 in
theorem w_c16 : (Jvm.Cond.code ({ cls := "java/util/ArrayList", name := "add", desc := "(Ljava/lang/Object;)Z" } : Jvm.MethodName) jdk_38_method_25_code (2 : Nat) (Option.some Jvm.ClassFile.FieldType.boolean)).before args0 about1 = true := code_word (m := ⟨17, 7⟩) (meth := k17m7) (c := k17c7) (by decide +kernel) rfl rfl rfl (by decide +kernel)
set_option maxRecDepth 65536 in
theorem w_c17 : (Jvm.Cond.code ({ cls := "java/util/ArrayList", name := "add", desc := "(Ljava/lang/Object;[Ljava/lang/Object;I)V" } : Jvm.MethodName) jdk_38_method_24_code (4 : Nat) (Option.none : Option Jvm.ClassFile.FieldType)).before args0 about1 = true := code_word (m := ⟨17, 6⟩) (meth := k17m6) (c := k17c6) (by decide +kernel) rfl rfl rfl (by decide +kernel)
set_option maxRecDepth 65536 in
theorem w_c18 : (Jvm.Cond.code ({ cls := "java/util/ArrayList", name := "grow", desc := "()[Ljava/lang/Object;" } : Jvm.MethodName) jdk_38_method_7_code (1 : Nat) (Option.some (Jvm.ClassFile.FieldType.array (Jvm.ClassFile.FieldType.object "java/lang/Object")))).before args0 about1 = true := code_word (m := ⟨17, 2⟩) (meth := k17m2) (c := k17c2) (by decide +kernel) rfl rfl rfl (by decide +kernel)
set_option maxRecDepth 65536 in
theorem w_c19 : (Jvm.Cond.code ({ cls := "java/util/ArrayList", name := "grow", desc := "(I)[Ljava/lang/Object;" } : Jvm.MethodName) jdk_38_method_6_code (4 : Nat) (Option.some (Jvm.ClassFile.FieldType.array (Jvm.ClassFile.FieldType.object "java/lang/Object")))).before args0 about1 = true := code_word (m := ⟨17, 1⟩) (meth := k17m1) (c := k17c1) (by decide +kernel) rfl rfl rfl (by decide +kernel)
set_option maxRecDepth 65536 in
theorem w_c20 : (Jvm.Cond.code ({ cls := "java/lang/Math", name := "max", desc := "(II)I" } : Jvm.MethodName) jdk_29_method_65_code (2 : Nat) (Option.some Jvm.ClassFile.FieldType.int)).before args0 about1 = true := code_word (m := ⟨25, 1⟩) (meth := k25m1) (c := k25c1) (by decide +kernel) rfl rfl rfl (by decide +kernel)
set_option maxRecDepth 65536 in
theorem w_c21 : (Jvm.Cond.code ({ cls := "java/util/ArrayList", name := "get", desc := "(I)Ljava/lang/Object;" } : Jvm.MethodName) jdk_38_method_20_code (2 : Nat) (Option.some (Jvm.ClassFile.FieldType.object "java/lang/Object"))).before args0 about1 = true := code_word (m := ⟨17, 5⟩) (meth := k17m5) (c := k17c5) (by decide +kernel) rfl rfl rfl (by decide +kernel)
set_option maxRecDepth 65536 in
theorem w_c22 : (Jvm.Cond.code ({ cls := "java/util/Objects", name := "checkIndex", desc := "(II)I" } : Jvm.MethodName) jdk_31_method_17_code (2 : Nat) (Option.some Jvm.ClassFile.FieldType.int)).before args0 about1 = true := code_word (m := ⟨26, 1⟩) (meth := k26m1) (c := k26c1) (by decide +kernel) rfl rfl rfl (by decide +kernel)
set_option maxRecDepth 65536 in
theorem w_c23 : (Jvm.Cond.code ({ cls := "jdk/internal/util/Preconditions", name := "checkIndex", desc := "(IILjava/util/function/BiFunction;)I" } : Jvm.MethodName) jdk_41_method_11_code (3 : Nat) (Option.some Jvm.ClassFile.FieldType.int)).before args0 about1 = true := code_word (m := ⟨27, 1⟩) (meth := k27m1) (c := k27c1) (by decide +kernel) rfl rfl rfl (by decide +kernel)
set_option maxRecDepth 65536 in
theorem w_c24 : (Jvm.Cond.code ({ cls := "java/util/ArrayList", name := "elementData", desc := "(I)Ljava/lang/Object;" } : Jvm.MethodName) jdk_38_method_18_code (2 : Nat) (Option.some (Jvm.ClassFile.FieldType.object "java/lang/Object"))).before args0 about1 = true := code_word (m := ⟨17, 4⟩) (meth := k17m4) (c := k17c4) (by decide +kernel) rfl rfl rfl (by decide +kernel)
set_option maxRecDepth 65536 in
theorem w_c25 : (Jvm.Cond.code ({ cls := "java/lang/String", name := "isEmpty", desc := "()Z" } : Jvm.MethodName) jdk_42_method_55_code (1 : Nat) (Option.some Jvm.ClassFile.FieldType.boolean)).before args0 about1 = true := code_word (m := ⟨7, 3⟩) (meth := k7m3) (c := k7c3) (by decide +kernel) rfl rfl rfl (by decide +kernel)
set_option maxRecDepth 65536 in
theorem w_c26 : (Jvm.Cond.code ({ cls := "java/lang/String", name := "length", desc := "()I" } : Jvm.MethodName) jdk_42_method_54_code (1 : Nat) (Option.some Jvm.ClassFile.FieldType.int)).before args0 about1 = true := code_word (m := ⟨7, 2⟩) (meth := k7m2) (c := k7c2) (by decide +kernel) rfl rfl rfl (by decide +kernel)
set_option maxRecDepth 65536 in
theorem w_c27 : (Jvm.Cond.code ({ cls := "java/lang/String", name := "coder", desc := "()B" } : Jvm.MethodName) jdk_42_method_152_code (1 : Nat) (Option.some Jvm.ClassFile.FieldType.byte)).before args0 about1 = true := code_word (m := ⟨7, 8⟩) (meth := k7m8) (c := k7c8) (by decide +kernel) rfl rfl rfl (by decide +kernel)
set_option maxRecDepth 65536 in
theorem w_c28 : (Jvm.Cond.code ({ cls := "java/lang/StringUTF16", name := "toBytes", desc := "([CII)[B" } : Jvm.MethodName) jdk_52_method_14_code (5 : Nat) (Option.some (Jvm.ClassFile.FieldType.array Jvm.ClassFile.FieldType.byte))).before args0 about1 = true := code_word (m := ⟨8, 7⟩) (meth := k8m7) (c := k8c7) (by decide +kernel) rfl rfl rfl (by decide +kernel)
set_option maxRecDepth 65536 in
theorem w_c29 : (Jvm.Cond.code ({ cls := "java/lang/StringUTF16", name := "newBytesFor", desc := "(I)[B" } : Jvm.MethodName) jdk_52_method_2_code (1 : Nat) (Option.some (Jvm.ClassFile.FieldType.array Jvm.ClassFile.FieldType.byte))).before args0 about1 = true := code_word (m := ⟨8, 1⟩) (meth := k8m1) (c := k8c1) (by decide +kernel) rfl rfl rfl (by decide +kernel)
set_option maxRecDepth 65536 in
theorem w_c30 : (Jvm.Cond.code ({ cls := "java/lang/StringUTF16", name := "newBytesLength", desc := "(I)I" } : Jvm.MethodName) jdk_52_method_3_code (1 : Nat) (Option.some Jvm.ClassFile.FieldType.int)).before args0 about1 = true := code_word (m := ⟨8, 2⟩) (meth := k8m2) (c := k8c2) (by decide +kernel) rfl rfl rfl (by decide +kernel)
set_option maxRecDepth 65536 in
theorem w_c31 : (Jvm.Cond.code ({ cls := "java/lang/StringUTF16", name := "putChar", desc := "([BII)V" } : Jvm.MethodName) jdk_52_method_4_code (3 : Nat) (Option.none : Option Jvm.ClassFile.FieldType)).before args0 about1 = true := code_word (m := ⟨8, 3⟩) (meth := k8m3) (c := k8c3) (by decide +kernel) rfl rfl rfl (by decide +kernel)
set_option maxRecDepth 65536 in
theorem w_c32 : (Jvm.Cond.code ({ cls := "java/lang/StringUTF16", name := "getChar", desc := "([BI)C" } : Jvm.MethodName) jdk_52_method_5_code (2 : Nat) (Option.some Jvm.ClassFile.FieldType.char)).before args0 about1 = true := code_word (m := ⟨8, 4⟩) (meth := k8m4) (c := k8c4) (by decide +kernel) rfl rfl rfl (by decide +kernel)
set_option maxRecDepth 65536 in
theorem w_c33 : (Jvm.Cond.code ({ cls := "java/lang/String", name := "codePointCount", desc := "(II)I" } : Jvm.MethodName) jdk_42_method_59_code (3 : Nat) (Option.some Jvm.ClassFile.FieldType.int)).before args0 about1 = true := code_word (m := ⟨7, 4⟩) (meth := k7m4) (c := k7c4) (by decide +kernel) rfl rfl rfl (by decide +kernel)
set_option maxRecDepth 65536 in
theorem w_c34 : (Jvm.Cond.code ({ cls := "java/util/Objects", name := "checkFromToIndex", desc := "(III)I" } : Jvm.MethodName) jdk_31_method_18_code (3 : Nat) (Option.some Jvm.ClassFile.FieldType.int)).before args0 about1 = true := code_word (m := ⟨26, 2⟩) (meth := k26m2) (c := k26c2) (by decide +kernel) rfl rfl rfl (by decide +kernel)
set_option maxRecDepth 65536 in
theorem w_c35 : (Jvm.Cond.code ({ cls := "jdk/internal/util/Preconditions", name := "checkFromToIndex", desc := "(IIILjava/util/function/BiFunction;)I" } : Jvm.MethodName) jdk_41_method_12_code (4 : Nat) (Option.some Jvm.ClassFile.FieldType.int)).before args0 about1 = true := code_word (m := ⟨27, 2⟩) (meth := k27m2) (c := k27c2) (by decide +kernel) rfl rfl rfl (by decide +kernel)
set_option maxRecDepth 65536 in
theorem w_c36 : (Jvm.Cond.code ({ cls := "java/lang/String", name := "isLatin1", desc := "()Z" } : Jvm.MethodName) jdk_42_method_154_code (1 : Nat) (Option.some Jvm.ClassFile.FieldType.boolean)).before args0 about1 = true := code_word (m := ⟨7, 9⟩) (meth := k7m9) (c := k7c9) (by decide +kernel) rfl rfl rfl (by decide +kernel)
set_option maxRecDepth 65536 in
theorem w_c37 : (Jvm.Cond.code ({ cls := "java/lang/StringUTF16", name := "codePointCount", desc := "([BII)I" } : Jvm.MethodName) jdk_52_method_12_code (3 : Nat) (Option.some Jvm.ClassFile.FieldType.int)).before args0 about1 = true := code_word (m := ⟨8, 6⟩) (meth := k8m6) (c := k8c6) (by decide +kernel) rfl rfl rfl (by decide +kernel)
set_option maxRecDepth 65536 in
theorem w_c38 : (Jvm.Cond.code ({ cls := "java/lang/StringUTF16", name := "codePointCount", desc := "([BIIZ)I" } : Jvm.MethodName) jdk_52_method_11_code (6 : Nat) (Option.some Jvm.ClassFile.FieldType.int)).before args0 about1 = true := code_word (m := ⟨8, 5⟩) (meth := k8m5) (c := k8c5) (by decide +kernel) rfl rfl rfl (by decide +kernel)
set_option maxRecDepth 65536 in
theorem w_c39 : (Jvm.Cond.code ({ cls := "java/lang/Character", name := "isHighSurrogate", desc := "(C)Z" } : Jvm.MethodName) jdk_89_method_14_code (1 : Nat) (Option.some Jvm.ClassFile.FieldType.boolean)).before args0 about1 = true := code_word (m := ⟨28, 0⟩) (meth := k28m0) (c := k28c0) (by decide +kernel) rfl rfl rfl (by decide +kernel)
set_option maxRecDepth 65536 in
theorem w_c40 : (Jvm.Cond.code ({ cls := "java/lang/Character", name := "isLowSurrogate", desc := "(C)Z" } : Jvm.MethodName) jdk_89_method_15_code (1 : Nat) (Option.some Jvm.ClassFile.FieldType.boolean)).before args0 about1 = true := code_word (m := ⟨28, 1⟩) (meth := k28m1) (c := k28c1) (by decide +kernel) rfl rfl rfl (by decide +kernel)
def codes1 : List Jvm.Cond := [Jvm.Cond.code x code maxLocals ret, Jvm.Cond.code ({ cls := "java/lang/String", name := "<init>", desc := "([C)V" } : Jvm.MethodName) jdk_42_method_3_code (2 : Nat) (Option.none : Option Jvm.ClassFile.FieldType), Jvm.Cond.code ({ cls := "java/lang/String", name := "<init>", desc := "([CIILjava/lang/Void;)V" } : Jvm.MethodName) jdk_42_method_149_code (6 : Nat) (Option.none : Option Jvm.ClassFile.FieldType), Jvm.Cond.code ({ cls := "java/lang/Object", name := "<init>", desc := "()V" } : Jvm.MethodName) object_method_1_code (1 : Nat) (Option.none : Option Jvm.ClassFile.FieldType), Jvm.Cond.code ({ cls := "java/lang/StringUTF16", name := "compress", desc := "([CII)[B" } : Jvm.MethodName) jdk_52_method_16_code (6 : Nat) (Option.some (Jvm.ClassFile.FieldType.array Jvm.ClassFile.FieldType.byte)), Jvm.Cond.code ({ cls := "java/lang/StringUTF16", name := "compress", desc := "([CI[BII)I" } : Jvm.MethodName) jdk_52_method_21_code (7 : Nat) (Option.some Jvm.ClassFile.FieldType.int), Jvm.Cond.code ({ cls := "java/lang/StringUTF16", name := "coderFromArrayLen", desc := "([BI)B" } : Jvm.MethodName) jdk_52_method_15_code (2 : Nat) (Option.some Jvm.ClassFile.FieldType.byte), Jvm.Cond.code ({ cls := "java/util/ArrayList", name := "<init>", desc := "()V" } : Jvm.MethodName) jdk_38_method_2_code (1 : Nat) (Option.none : Option Jvm.ClassFile.FieldType), Jvm.Cond.code ({ cls := "java/util/AbstractList", name := "<init>", desc := "()V" } : Jvm.MethodName) jdk_39_method_1_code (1 : Nat) (Option.none : Option Jvm.ClassFile.FieldType), Jvm.Cond.code ({ cls := "java/util/AbstractCollection", name := "<init>", desc := "()V" } : Jvm.MethodName) jdk_22_method_1_code (1 : Nat) (Option.none : Option Jvm.ClassFile.FieldType), Jvm.Cond.code ({ cls := "com/example/librole/librole/textfile/TextFile", name := "refuseEmptyOrTooLong", desc := "(Ljava/util/List;Ljava/util/List;)V" } : Jvm.MethodName) prog_68_method_5_code (4 : Nat) (Option.none : Option Jvm.ClassFile.FieldType), Jvm.Cond.code ({ cls := "java/util/ArrayList", name := "size", desc := "()I" } : Jvm.MethodName) jdk_38_method_8_code (1 : Nat) (Option.some Jvm.ClassFile.FieldType.int), Jvm.Cond.code ({ cls := "java/lang/String", name := "valueOf", desc := "(C)Ljava/lang/String;" } : Jvm.MethodName) jdk_42_method_139_code (1 : Nat) (Option.some (Jvm.ClassFile.FieldType.object "java/lang/String")), Jvm.Cond.code ({ cls := "java/lang/StringLatin1", name := "canEncode", desc := "(C)Z" } : Jvm.MethodName) jdk_43_method_3_code (1 : Nat) (Option.some Jvm.ClassFile.FieldType.boolean), Jvm.Cond.code ({ cls := "java/lang/StringLatin1", name := "toBytes", desc := "(C)[B" } : Jvm.MethodName) jdk_43_method_46_code (1 : Nat) (Option.some (Jvm.ClassFile.FieldType.array Jvm.ClassFile.FieldType.byte)), Jvm.Cond.code ({ cls := "java/lang/String", name := "<init>", desc := "([BB)V" } : Jvm.MethodName) jdk_42_method_151_code (3 : Nat) (Option.none : Option Jvm.ClassFile.FieldType), Jvm.Cond.code ({ cls := "java/util/ArrayList", name := "add", desc := "(Ljava/lang/Object;)Z" } : Jvm.MethodName) jdk_38_method_25_code (2 : Nat) (Option.some Jvm.ClassFile.FieldType.boolean), Jvm.Cond.code ({ cls := "java/util/ArrayList", name := "add", desc := "(Ljava/lang/Object;[Ljava/lang/Object;I)V" } : Jvm.MethodName) jdk_38_method_24_code (4 : Nat) (Option.none : Option Jvm.ClassFile.FieldType), Jvm.Cond.code ({ cls := "java/util/ArrayList", name := "grow", desc := "()[Ljava/lang/Object;" } : Jvm.MethodName) jdk_38_method_7_code (1 : Nat) (Option.some (Jvm.ClassFile.FieldType.array (Jvm.ClassFile.FieldType.object "java/lang/Object"))), Jvm.Cond.code ({ cls := "java/util/ArrayList", name := "grow", desc := "(I)[Ljava/lang/Object;" } : Jvm.MethodName) jdk_38_method_6_code (4 : Nat) (Option.some (Jvm.ClassFile.FieldType.array (Jvm.ClassFile.FieldType.object "java/lang/Object"))), Jvm.Cond.code ({ cls := "java/lang/Math", name := "max", desc := "(II)I" } : Jvm.MethodName) jdk_29_method_65_code (2 : Nat) (Option.some Jvm.ClassFile.FieldType.int), Jvm.Cond.code ({ cls := "java/util/ArrayList", name := "get", desc := "(I)Ljava/lang/Object;" } : Jvm.MethodName) jdk_38_method_20_code (2 : Nat) (Option.some (Jvm.ClassFile.FieldType.object "java/lang/Object")), Jvm.Cond.code ({ cls := "java/util/Objects", name := "checkIndex", desc := "(II)I" } : Jvm.MethodName) jdk_31_method_17_code (2 : Nat) (Option.some Jvm.ClassFile.FieldType.int), Jvm.Cond.code ({ cls := "jdk/internal/util/Preconditions", name := "checkIndex", desc := "(IILjava/util/function/BiFunction;)I" } : Jvm.MethodName) jdk_41_method_11_code (3 : Nat) (Option.some Jvm.ClassFile.FieldType.int), Jvm.Cond.code ({ cls := "java/util/ArrayList", name := "elementData", desc := "(I)Ljava/lang/Object;" } : Jvm.MethodName) jdk_38_method_18_code (2 : Nat) (Option.some (Jvm.ClassFile.FieldType.object "java/lang/Object")), Jvm.Cond.code ({ cls := "java/lang/String", name := "isEmpty", desc := "()Z" } : Jvm.MethodName) jdk_42_method_55_code (1 : Nat) (Option.some Jvm.ClassFile.FieldType.boolean), Jvm.Cond.code ({ cls := "java/lang/String", name := "length", desc := "()I" } : Jvm.MethodName) jdk_42_method_54_code (1 : Nat) (Option.some Jvm.ClassFile.FieldType.int), Jvm.Cond.code ({ cls := "java/lang/String", name := "coder", desc := "()B" } : Jvm.MethodName) jdk_42_method_152_code (1 : Nat) (Option.some Jvm.ClassFile.FieldType.byte), Jvm.Cond.code ({ cls := "java/lang/StringUTF16", name := "toBytes", desc := "([CII)[B" } : Jvm.MethodName) jdk_52_method_14_code (5 : Nat) (Option.some (Jvm.ClassFile.FieldType.array Jvm.ClassFile.FieldType.byte)), Jvm.Cond.code ({ cls := "java/lang/StringUTF16", name := "newBytesFor", desc := "(I)[B" } : Jvm.MethodName) jdk_52_method_2_code (1 : Nat) (Option.some (Jvm.ClassFile.FieldType.array Jvm.ClassFile.FieldType.byte)), Jvm.Cond.code ({ cls := "java/lang/StringUTF16", name := "newBytesLength", desc := "(I)I" } : Jvm.MethodName) jdk_52_method_3_code (1 : Nat) (Option.some Jvm.ClassFile.FieldType.int), Jvm.Cond.code ({ cls := "java/lang/StringUTF16", name := "putChar", desc := "([BII)V" } : Jvm.MethodName) jdk_52_method_4_code (3 : Nat) (Option.none : Option Jvm.ClassFile.FieldType), Jvm.Cond.code ({ cls := "java/lang/StringUTF16", name := "getChar", desc := "([BI)C" } : Jvm.MethodName) jdk_52_method_5_code (2 : Nat) (Option.some Jvm.ClassFile.FieldType.char), Jvm.Cond.code ({ cls := "java/lang/String", name := "codePointCount", desc := "(II)I" } : Jvm.MethodName) jdk_42_method_59_code (3 : Nat) (Option.some Jvm.ClassFile.FieldType.int), Jvm.Cond.code ({ cls := "java/util/Objects", name := "checkFromToIndex", desc := "(III)I" } : Jvm.MethodName) jdk_31_method_18_code (3 : Nat) (Option.some Jvm.ClassFile.FieldType.int), Jvm.Cond.code ({ cls := "jdk/internal/util/Preconditions", name := "checkFromToIndex", desc := "(IIILjava/util/function/BiFunction;)I" } : Jvm.MethodName) jdk_41_method_12_code (4 : Nat) (Option.some Jvm.ClassFile.FieldType.int), Jvm.Cond.code ({ cls := "java/lang/String", name := "isLatin1", desc := "()Z" } : Jvm.MethodName) jdk_42_method_154_code (1 : Nat) (Option.some Jvm.ClassFile.FieldType.boolean), Jvm.Cond.code ({ cls := "java/lang/StringUTF16", name := "codePointCount", desc := "([BII)I" } : Jvm.MethodName) jdk_52_method_12_code (3 : Nat) (Option.some Jvm.ClassFile.FieldType.int), Jvm.Cond.code ({ cls := "java/lang/StringUTF16", name := "codePointCount", desc := "([BIIZ)I" } : Jvm.MethodName) jdk_52_method_11_code (6 : Nat) (Option.some Jvm.ClassFile.FieldType.int), Jvm.Cond.code ({ cls := "java/lang/Character", name := "isHighSurrogate", desc := "(C)Z" } : Jvm.MethodName) jdk_89_method_14_code (1 : Nat) (Option.some Jvm.ClassFile.FieldType.boolean), Jvm.Cond.code ({ cls := "java/lang/Character", name := "isLowSurrogate", desc := "(C)Z" } : Jvm.MethodName) jdk_89_method_15_code (1 : Nat) (Option.some Jvm.ClassFile.FieldType.boolean)]
set_option maxRecDepth 65536 in
theorem codes_eq : words1.filter isCode = codes1 := rfl
theorem w_codes : ∀ c ∈ words1.filter isCode, c.before args0 about1 = true := by
  rw [codes_eq]
  intro c hc
  simp only [codes1, List.mem_cons, List.not_mem_nil, or_false] at hc
  rcases hc with rfl | rfl | rfl | rfl | rfl | rfl | rfl | rfl | rfl | rfl | rfl | rfl | rfl | rfl | rfl | rfl | rfl | rfl | rfl | rfl | rfl | rfl | rfl | rfl | rfl | rfl | rfl | rfl | rfl | rfl | rfl | rfl | rfl | rfl | rfl | rfl | rfl | rfl | rfl | rfl | rfl
  · exact w_c0
  · exact w_c1
  · exact w_c2
  · exact w_c3
  · exact w_c4
  · exact w_c5
  · exact w_c6
  · exact w_c7
  · exact w_c8
  · exact w_c9
  · exact w_c10
  · exact w_c11
  · exact w_c12
  · exact w_c13
  · exact w_c14
  · exact w_c15
  · exact w_c16
  · exact w_c17
  · exact w_c18
  · exact w_c19
  · exact w_c20
  · exact w_c21
  · exact w_c22
  · exact w_c23
  · exact w_c24
  · exact w_c25
  · exact w_c26
  · exact w_c27
  · exact w_c28
  · exact w_c29
  · exact w_c30
  · exact w_c31
  · exact w_c32
  · exact w_c33
  · exact w_c34
  · exact w_c35
  · exact w_c36
  · exact w_c37
  · exact w_c38
  · exact w_c39
  · exact w_c40
set_option maxRecDepth 65536 in
theorem w_t1 : (words1.take 24).all (fun c => isCode c || c.before args0 about1) = true := by decide +kernel
set_option maxRecDepth 65536 in
theorem w_t2 : ((words1.drop 24).take 24).all (fun c => isCode c || c.before args0 about1) = true := by decide +kernel
set_option maxRecDepth 65536 in
theorem w_t3 : (((words1.drop 24).drop 24).take 24).all (fun c => isCode c || c.before args0 about1) = true := by decide +kernel
set_option maxRecDepth 65536 in
theorem w_t4 : ((((words1.drop 24).drop 24).drop 24).take 24).all (fun c => isCode c || c.before args0 about1) = true := by decide +kernel
set_option maxRecDepth 65536 in
theorem w_t5 : (((((words1.drop 24).drop 24).drop 24).drop 24).take 24).all (fun c => isCode c || c.before args0 about1) = true := by decide +kernel
set_option maxRecDepth 65536 in
theorem w_t6 : ((((((words1.drop 24).drop 24).drop 24).drop 24).drop 24).take 24).all (fun c => isCode c || c.before args0 about1) = true := by decide +kernel
set_option maxRecDepth 65536 in
theorem w_t7 : (((((((words1.drop 24).drop 24).drop 24).drop 24).drop 24).drop 24).take 24).all (fun c => isCode c || c.before args0 about1) = true := by decide +kernel
set_option maxRecDepth 65536 in
theorem w_t8 : ((((((((words1.drop 24).drop 24).drop 24).drop 24).drop 24).drop 24).drop 24).take 24).all (fun c => isCode c || c.before args0 about1) = true := by decide +kernel
set_option maxRecDepth 65536 in
theorem w_t9 : ((((((((words1.drop 24).drop 24).drop 24).drop 24).drop 24).drop 24).drop 24).drop 24).all (fun c => isCode c || c.before args0 about1) = true := by decide +kernel
theorem w_tables : (allAtoms (Jvm.Cond.code x code maxLocals ret :: tables_1)).before args0 about1 = true := by
  rw [allAtoms_all]
  show words1.all (fun c => c.before args0 about1) = true
  refine all_split ?_ w_codes
  rw [← List.take_append_drop 24 words1, List.all_append, w_t1, ← List.take_append_drop 24 (words1.drop 24), List.all_append, w_t2, ← List.take_append_drop 24 ((words1.drop 24).drop 24), List.all_append, w_t3, ← List.take_append_drop 24 (((words1.drop 24).drop 24).drop 24), List.all_append, w_t4, ← List.take_append_drop 24 ((((words1.drop 24).drop 24).drop 24).drop 24), List.all_append, w_t5, ← List.take_append_drop 24 (((((words1.drop 24).drop 24).drop 24).drop 24).drop 24), List.all_append, w_t6, ← List.take_append_drop 24 ((((((words1.drop 24).drop 24).drop 24).drop 24).drop 24).drop 24), List.all_append, w_t7, ← List.take_append_drop 24 (((((((words1.drop 24).drop 24).drop 24).drop 24).drop 24).drop 24).drop 24), List.all_append, w_t8, w_t9]
  rfl
set_option maxRecDepth 65536 in
theorem w_rest : rest_1_c.before args0 about1 = true := by decide +kernel
set_option maxRecDepth 65536 in
theorem w_case : (Jvm.Cond.and given_1 narrow_1).before args0 about1 = true := by decide +kernel
theorem w_applies : (headSpec (Jvm.Cond.code x code maxLocals ret :: tables_1) room_1).applies x e0.platform about1 = true :=
  (Spec.applies_iff w_frames).mpr ⟨w_running, w_runnable, w_alone, w_named, w_hears, w_ripe, w_room, w_tables⟩
theorem atStart : AtStart classFile x code maxLocals ret World_1 tables_1 room_1 Calls_1 rest_1 Pre_1 launch0 p0 e0 about1 theMethod args0 below0 :=
  ⟨lists_1, trivial, launch0.admits_env _ _ _, launch0.least_env, fairChoices_fair.cas, fairChoices_fair.clock, w_frames, w_args, w_heap, w_applies, trivial, w_rest, w_case⟩
end start1
theorem witness_1 : WitnessClaimed_1 := ⟨start1.p0, start1.e0, start1.about1, start1.theMethod, start1.args0, start1.below0, start1.atStart⟩
end Jvm.Pilot.@@N@@
