import JvmDerived
import JvmDerived.Pilot.@@N@@Statement
import JvmDerived.Pilot.@@N@@Code
set_option linter.unusedVariables false
set_option linter.unusedSimpArgs false
namespace Jvm.RoadKit
open Sem ClassFile Op Lib Jvm.Stand Jvm.Free Jvm.LawKit
section New
variable {p : Program} {l : Launch} {e : Env} {R : Room} {s : State} {m : MethodId} {args : Array Value} {below : List Frame} {meth : Method} {c : Code} {T : State} {locs : List Loc} {cells slots : Nat}
theorem retI (X : Stand p l e R s m args below meth c T locs cells slots) (hx : p.tables.exec = Jvm.exec) {pc : Nat} {Ls : Array Slot} {z : Int32} {rest : List Value} (hret : meth.sig.returnType = some .int) (hd : decode c.code pc = .ok (.ireturn, 1)) {fs : List Frame}
    (hl : ∀ (f : JFrame) (acts : List Action), f.method = m → f.locked = none → f.entered = [] → (doReturn e (T.setTop f) acts (some (.int z))).1 = T.setFrames fs) : Steps p.tables e below (T.setTop (mkF m pc Ls (.int z :: rest))) (T.setFrames fs) := by
  have hm' : T.vm.method? m = some meth := X.method'
  have hn : narrow .int (.int z) = .int z := rfl
  show Steps p.tables e below (T.setTop { method := m, pc := pc, locals := Ls, stack := _ :: rest, locked := none }) _
  jvm_step X.here [X.here.top, hx, hd, hm', hret, hn]
  first | (intro acts; rw [hl _ acts rfl rfl rfl]) | rw [hl _ _ rfl rfl rfl]
  exact Steps.refl _
end New
end Jvm.RoadKit
namespace Jvm.RoadKit
open Sem ClassFile Op Lib Bundle Jvm.Stand Jvm.Free Jvm.LawKit Jvm.Free.SB Jvm.Free.SBG
section Goes
variable {p : Program} {l : Launch} {e : Env} {R : Room} {s : State} {m : MethodId} {args : Array Value} {below : List Frame} {meth : Method} {c : Code} {T T' : State} {locs : List Loc} {cells slots k n : Nat} {F : Outcome → State → Prop} {Q : Option Value → Heap → List Loc → Prop}
/-- from T the run comes to an end of which F holds -/
def Go (p : Program) (e : Env) (below : List Frame) (T : State) (F : Outcome → State → Prop) : Prop := ∃ s₂ o, Steps p.tables e below T s₂ ∧ s₂.status = .running ∧ Ended s₂ below o ∧ F o s₂
theorem Go.st (k : ∀ t, Steps p.tables e below T' t → Steps p.tables e below T t) (G : Go p e below T' F) : Go p e below T F := by
  obtain ⟨s2, o, h, r⟩ := G
  exact ⟨s2, o, k _ h, r⟩
theorem Go.top {g g' : JFrame} (q : g = g') (G : Go p e below (T.setTop g') F) : Go p e below (T.setTop g) F := q ▸ G
/-- the end of a body that interns nothing -/
abbrev EndN (s : State) (Q : Option Value → Heap → List Loc → Prop) (cells slots : Nat) : Outcome → State → Prop := fun o U' => ∃ v L, o = .returned v ∧ Q v U'.heap L ∧ FrameEnd s o U' L cells slots
/-- the end of a body that may intern -/
abbrev EndW (s : State) (Q : Option Value → Heap → List Loc → Prop) (cells slots : Nat) : Outcome → State → Prop := fun o U' => ∃ v L, o = .returned v ∧ Q v U'.heap L ∧ ReturnedEndW s o U' L cells slots
theorem Go.done (X : Stand p l e R s m args below meth c T locs k n) (hlocks : meth.locks = false) {v : Option Value} (hv : meth.sig.returnType = none → v = none) {f : JFrame}
    (st : ∀ fs, (∀ (f : JFrame) (acts : List Action), f.method = m → f.locked = none → f.entered = [] → (doReturn e (T.setTop f) acts v).1 = T.setFrames fs) → Steps p.tables e below (T.setTop f) (T.setFrames fs))
    (hQ : Q v T.heap locs) (hk : k ≤ cells) (hn : n ≤ slots) : Go p e below (T.setTop f) (EndN s Q cells slots) := by
  obtain ⟨fs, hr, hrun, hended, hW, hsame⟩ := X.leave (v := v) hv hlocks
  exact ⟨_, _, st fs hr, hrun, hended, v, locs, rfl, hQ, ⟨_, rfl⟩, hW, hsame.mono hk hn⟩
theorem Go.doneW {vm₁ : Vm} (X : Stand p l e R (s.setVm vm₁) m args below meth c T locs k n) {N : Nat} (hS : s.Since vm₁ N) (hN : N ≤ T.heap.size) (hlocks : meth.locks = false) {v : Option Value} (hv : meth.sig.returnType = none → v = none) {f : JFrame}
    (st : ∀ fs, (∀ (f : JFrame) (acts : List Action), f.method = m → f.locked = none → f.entered = [] → (doReturn e (T.setTop f) acts v).1 = T.setFrames fs) → Steps p.tables e below (T.setTop f) (T.setFrames fs))
    (hQ : Q v T.heap locs) (hk : k ≤ cells) (hn : n ≤ slots) : Go p e below (T.setTop f) (EndW s Q cells slots) := by
  obtain ⟨fs, hr, hrun, hended, h1, h2, h3, h4⟩ := X.leaveW hS hN (v := v) hv hlocks
  exact ⟨_, _, st fs hr, hrun, hended, v, locs, rfl, hQ, h1, h2, h3, h4.mono hk hn⟩
/-- the end of a body that may intern, and that keeps what is booked of EL -/
abbrev EndH (Z : State) (EL : List (String × Nat)) (s : State) (Q : Option Value → Heap → List Loc → Prop) (cells slots : Nat) : Outcome → State → Prop := fun o U' => ∃ v L, o = .returned v ∧ Q v U'.heap L ∧ CHr Z EL s.vm s.heap U'.vm U'.heap ∧ ReturnedEndW s o U' L cells slots
theorem Go.doneH {Z : State} {a0 : Array Value} {EL : List (String × Nat)} {vm₁ : Vm} {h0 h : Heap} (X : Stand p l e R (s.setVm vm₁) m args below meth c T locs k n) {N : Nat} (hS : s.Since vm₁ N) (hN : N ≤ T.heap.size) (hlocks : meth.locks = false) {v : Option Value} (hv : meth.sig.returnType = none → v = none) {f : JFrame}
    (st : ∀ fs, (∀ (f : JFrame) (acts : List Action), f.method = m → f.locked = none → f.entered = [] → (doReturn e (T.setTop f) acts v).1 = T.setFrames fs) → Steps p.tables e below (T.setTop f) (T.setFrames fs))
    (hQ : Q v T.heap locs) (hk : k ≤ cells) (hn : n ≤ slots) (hZ : Z.Warmed39 vm₁) (hEL : EW Z a0 EL) (hh : s.heap = h0) (eT : T.heap = h) (hC : CHr Z EL s.vm h0 vm₁ h) : Go p e below (T.setTop f) (EndH Z EL s Q cells slots) := by
  subst hh eT
  obtain ⟨fs, hr, hrun, hended, h1, h2, h3, h4⟩ := X.leaveW hS hN (v := v) hv hlocks
  exact ⟨_, _, st fs hr, hrun, hended, v, locs, rfl, hQ, show CHr Z EL s.vm s.heap T.vm T.heap from hC.trans (CHv.at X hZ hEL hC.1), h1, h2, h3, h4.mono hk hn⟩
/-- a String whose value is still null is none that is booked -/
theorem own_safe {Z : State} {EL : List (String × Nat)} {vm : Vm} {h : Heap} {x : Addr} (hal : Z.vm.Alike vm) (E : Exa Z h x "java/lang/String") (F : Fld Z h x "java/lang/String" "value" "[B" .null) : Safe Z EL vm h x := fun B => by
  obtain ⟨p, -, u, a, -, q, -, S, hy⟩ := B
  obtain ⟨cell, cf, k, i, f, f1, f2, -, -, -, -, f7⟩ := F
  obtain ⟨cS, ⟨⟨s1, -, -, ⟨cv, kv, iv, s4, -⟩, -, s6, -, s8, -, s10, -⟩, -, -⟩, -, hB, -⟩ := S
  rcases hy with rfl | rfl
  · cases (show h[q.sa]? = some q.sC from s1).symm.trans f1
    obtain ⟨kv', z4⟩ := ff_back (U := Wst Z vm h) hal s4
    cases f2.symm.trans z4
    rw [s8] at f7
    cases f7
  · obtain ⟨cell', k', e1, e2, e3, -⟩ := E
    cases (show h[q.sd]? = some q.SA from s10).symm.trans e1
    have hB' : Z.vm.findClass "[B" = some q.SA.cls := by rw [← hal.findClass]; exact hB
    exact ids_ne hB' e2 (by decide) rfl
theorem retJ (X : Stand p l e R s m args below meth c T locs cells slots) (hx : p.tables.exec = Jvm.exec) {pc : Nat} {Ls : Array Slot} {z : Int64} {rest : List Value} (hret : meth.sig.returnType = some .long) (hd : decode c.code pc = .ok (.lreturn, 1)) {fs : List Frame}
    (hl : ∀ (f : JFrame) (acts : List Action), f.method = m → f.locked = none → f.entered = [] → (doReturn e (T.setTop f) acts (some (.long z))).1 = T.setFrames fs) : Steps p.tables e below (T.setTop (mkF m pc Ls (.long z :: rest))) (T.setFrames fs) :=
  retOut X hx hret rfl (Or.inr (Or.inl ⟨rfl, rfl, z, rfl⟩)) hd hl
theorem retA (X : Stand p l e R s m args below meth c T locs cells slots) (hx : p.tables.exec = Jvm.exec) {pc : Nat} {Ls : Array Slot} {w : Value} {t : FieldType} {rest : List Value} (hret : meth.sig.returnType = some t) (hn : narrow t w = w) (ht : t.isReference = true) (hw : w.isRef = true) (hd : decode c.code pc = .ok (.areturn, 1)) {fs : List Frame}
    (hl : ∀ (f : JFrame) (acts : List Action), f.method = m → f.locked = none → f.entered = [] → (doReturn e (T.setTop f) acts (some w)).1 = T.setFrames fs) : Steps p.tables e below (T.setTop (mkF m pc Ls (w :: rest))) (T.setFrames fs) :=
  retOut X hx hret hn (Or.inr (Or.inr (Or.inr (Or.inr ⟨rfl, ht, hw⟩)))) hd hl
end Goes
end Jvm.RoadKit
/- laws to paste: Road.backV, Road.eqW, Road.codOf (cut by pick.py; bodies as the Statement names them) -/
namespace Jvm.Pilot.@@N@@
namespace StrChars
open Jvm Sem ClassFile Op Lib Jvm.Stand Jvm.Free.XT Jvm.Free.ALB Jvm.Free.JM Jvm.Free
open Jvm.Lib.Cold (StaticIs)
/-- a char array whose places are chars -/
def Ch (a : Addr) (A : Cell) (U : State) : Prop := Arr .char a A U ∧ Typed .char A
theorem Ch.mv {a : Addr} {A : Cell} {U U' : State} (h : Ch a A U) (hal : U.vm.Alike U'.vm) (hh : U'.heap = U.heap) : Ch a A U' := ⟨h.1.mv hal hh, h.2⟩
theorem Ch.keep {a : Addr} {A : Cell} {U U' : State} (h : Ch a A U) (hal : U.vm.Alike U'.vm) (hk : U'.heap[a]? = some A) : Ch a A U' := ⟨h.1.keep hal hk, h.2⟩
/-- what place i of a char[]'s cell holds -/
def cv (A : Cell) (i : Nat) : Int32 := match A.slots[i]? with | some (.int x) => x | _ => 0
theorem Ch.get {a : Addr} {A : Cell} {U : State} (h : Ch a A U) {i : Nat} (hi : i < A.slots.size) : A.slots[i]? = some (.int (cv A i)) := by
  have e := Array.getElem?_eq_getElem hi
  have f := h.2 i _ e
  unfold cv; rw [e]
  generalize A.slots[i] = v at f
  cases v <;> simp [fits] at f ⊢
/-- the byte that i2b leaves of a char -/
def lo8 (x : Int32) : Int32 := x.toInt8.toInt32
theorem fits_lo8 (y : Int32) : fits .byte (.int (lo8 y)) = true := by
  have h1 := y.toInt8.le_toInt
  have h2 := y.toInt8.toInt_lt
  simp only [lo8, fits, Bool.and_eq_true, decide_eq_true_eq, Int32.le_iff_toInt_le, Int8.toInt_toInt32, show (-128 : Int32).toInt = -128 from by decide, show (127 : Int32).toInt = 127 from by decide]
  omega
/-- A' is A but that each place j of lo .. hi - 1 holds f j -/
def Laid (A A' : Cell) (lo hi : Nat) (f : Nat → Value) : Prop := A'.cls = A.cls ∧ A'.vm = A.vm ∧ A'.slots.size = A.slots.size ∧ ∀ i, A'.slots[i]? = if lo ≤ i ∧ i < hi then some (f i) else A.slots[i]?
theorem Laid.zero (A : Cell) (lo : Nat) (f : Nat → Value) : Laid A A lo (lo + 0) f := ⟨rfl, rfl, rfl, fun i => by rw [if_neg (by omega)]⟩
theorem Laid.step {A Ak : Cell} {lo k : Nat} {f : Nat → Value} {v : Value} (h : Laid A Ak lo k f) (hlo : lo ≤ k) (hk : k < Ak.slots.size) (hv : v = f k) : Laid A (Ak.setSlot k v) lo (k + 1) f := by
  refine ⟨h.1, h.2.1, by simpa [Cell.setSlot] using h.2.2.1, fun i => ?_⟩
  by_cases e : k = i
  · subst e; rw [Cell.slots_setSlot_self v hk, if_pos (by omega), hv]
  · rw [Cell.slots_setSlot_ne v e, h.2.2.2 i]
    by_cases q : lo ≤ i ∧ i < k
    · rw [if_pos q, if_pos (by omega)]
    · rw [if_neg q, if_neg (by omega)]
def U16 : String := "java/lang/StringUTF16"
namespace Cmp5
def yN : MethodName := ⟨"java/lang/StringUTF16", "compress", "([CI[BII)I"⟩
abbrev yB : ByteArray := jdk_52_method_21_code
theorem d0 : decode yB 0 = .ok (.iconst 0, 1) := by decide +kernel
theorem d1 : decode yB 1 = .ok (.istore 5, 2) := by decide +kernel
theorem d3 : decode yB 3 = .ok (.iload 5, 2) := by decide +kernel
theorem d5 : decode yB 5 = .ok (.iload 4, 2) := by decide +kernel
theorem d7 : decode yB 7 = .ok (.if_icmp (.ge) 37, 3) := by decide +kernel
theorem d10 : decode yB 10 = .ok (.aload_n 0, 1) := by decide +kernel
theorem d11 : decode yB 11 = .ok (.iload_n 1, 1) := by decide +kernel
theorem d12 : decode yB 12 = .ok (.caload, 1) := by decide +kernel
theorem d13 : decode yB 13 = .ok (.istore 6, 2) := by decide +kernel
theorem d15 : decode yB 15 = .ok (.iload 6, 2) := by decide +kernel
theorem d17 : decode yB 17 = .ok (.sipush 255, 3) := by decide +kernel
theorem d20 : decode yB 20 = .ok (.if_icmp (.le) 6, 3) := by decide +kernel
theorem d26 : decode yB 26 = .ok (.aload_n 2, 1) := by decide +kernel
theorem d27 : decode yB 27 = .ok (.iload_n 3, 1) := by decide +kernel
theorem d28 : decode yB 28 = .ok (.iload 6, 2) := by decide +kernel
theorem d30 : decode yB 30 = .ok (.i2b, 1) := by decide +kernel
theorem d31 : decode yB 31 = .ok (.bastore, 1) := by decide +kernel
theorem d32 : decode yB 32 = .ok (.iinc 1 1, 3) := by decide +kernel
theorem d35 : decode yB 35 = .ok (.iinc 3 1, 3) := by decide +kernel
theorem d38 : decode yB 38 = .ok (.iinc 5 1, 3) := by decide +kernel
theorem d41 : decode yB 41 = .ok (.goto (-38), 3) := by decide +kernel
theorem d44 : decode yB 44 = .ok (.iload 4, 2) := by decide +kernel
theorem d46 : decode yB 46 = .ok (.ireturn, 1) := by decide +kernel
def site : List Cond := []
def tab : Cond := tabOf yN yB 7 (some .int) site
def P (b : Addr) (A : Cell) (d : Addr) (B : Cell) (o q len : Nat) (args : Array Value) (s : State) : Prop := args = #[.ref b, .int (Int32.ofNat o), .ref d, .int (Int32.ofNat q), .int (Int32.ofNat len)] ∧ Ch b A s ∧ Arr .byte d B s ∧ b ≠ d ∧ o + len ≤ A.slots.size ∧ q + len ≤ B.slots.size ∧ ∀ i, i < len → ¬ 255 < cv A (o + i)
def E (b : Addr) (A : Cell) (d : Addr) (B : Cell) (o q len : Nat) (r : Option Value) (s u : State) : Prop := r = some (.int (Int32.ofNat len)) ∧ ∃ B', Put d B' s u ∧ Laid B B' q (q + len) (fun j => Value.int (lo8 (cv A (o + (j - q)))))
/-- no char of the range above 255: len; the places written hold each char's low byte -/
theorem law (l : Launch) (b : Addr) (A : Cell) (d : Addr) (B : Cell) (o q len : Nat) : Law l yN 5 5 0 0 yB 7 (some .int) site (P b A d B o q len) (E b A d B o q len) (copyLocs d q len) 0 0 := by
  refine Law.of_walk (plainFor_of_name (by decide +kernel)) (by decide +kernel) (by decide +kernel) (by decide) (fun _ _ h => by rw [h.1]; rfl) (fun _ U U' hal hh h => ⟨h.1, h.2.1.mv hal hh, h.2.2.1.mv hal hh, h.2.2.2⟩) (fun r U U' V V' h1 hal h2 h => ⟨h.1, h.2.elim fun B' q => ⟨B', q.1.mv h1 h2, q.2⟩⟩) ?_
  intro p e s m args below meth c s₁ X0 hexec hbytes hml hret hlk hnm hown hh0 W hP
  obtain ⟨rfl, hA, hB, hne, l1, l2, hp⟩ := hP
  have c1 : Steps p.tables e below (s₁.setTop (entryFrame m #[.ref b, .int (Int32.ofNat o), .ref d, .int (Int32.ofNat q), .int (Int32.ofNat len)] 7)) (s₁.setTop (mkF m 0 #[.val (.ref b), .val (.int (Int32.ofNat o)), .val (.ref d), .val (.int (Int32.ofNat q)), .val (.int (Int32.ofNat len)), .unset, .unset] [])) := entry rfl
  have hA0 := hA.1.mv X0.warmed.alike hh0
  have hB0 := hB.mv X0.warmed.alike hh0
  have a31 := hA.1.2.2.2
  have c2 : Steps p.tables e below (s₁.setTop (entryFrame m #[.ref b, .int (Int32.ofNat o), .ref d, .int (Int32.ofNat q), .int (Int32.ofNat len)] 7)) (s₁.setTop (mkF m 3 #[.val (.ref b), .val (.int (Int32.ofNat o)), .val (.ref d), .val (.int (Int32.ofNat q)), .val (.int (Int32.ofNat len)), .val (.int 0), .unset] [])) := c1.trans (by
    refine iconstV X0.here hexec rfl 0 (hb hbytes d0) (by decide) ?_
    refine XS.istore X0.here hexec rfl (hb hbytes d1) rfl rfl ?_
    exact Steps.refl _)
  have loop : ∀ (r i : Nat), i + r = len → ∀ (z : Slot), (z = .unset ∨ ∃ w, z = .val w ∧ w.category = 1) → ∀ (Tl : State) (Bk : Cell), Stand p l e { frames := 0, locals := 0, cells := 0, slots := 0 } s m #[.ref b, .int (Int32.ofNat o), .ref d, .int (Int32.ofNat q), .int (Int32.ofNat len)] below meth c Tl ([] ++ copyLocs d q i) 0 0 → Put d Bk s₁ Tl → Laid B Bk q (q + i) (fun j => Value.int (lo8 (cv A (o + (j - q))))) →
      Steps p.tables e below (s₁.setTop (entryFrame m #[.ref b, .int (Int32.ofNat o), .ref d, .int (Int32.ofNat q), .int (Int32.ofNat len)] 7)) (Tl.setTop (mkF m 3 #[.val (.ref b), .val (.int (Int32.ofNat (o + i))), .val (.ref d), .val (.int (Int32.ofNat (q + i))), .val (.int (Int32.ofNat len)), .val (.int (Int32.ofNat i)), z] [])) → ∃ (T' : State) (B' : Cell) (z' : Slot), Stand p l e { frames := 0, locals := 0, cells := 0, slots := 0 } s m #[.ref b, .int (Int32.ofNat o), .ref d, .int (Int32.ofNat q), .int (Int32.ofNat len)] below meth c T' ([] ++ copyLocs d q len) 0 0 ∧ Put d B' s₁ T' ∧ Laid B B' q (q + len) (fun j => Value.int (lo8 (cv A (o + (j - q))))) ∧
      Steps p.tables e below (s₁.setTop (entryFrame m #[.ref b, .int (Int32.ofNat o), .ref d, .int (Int32.ofNat q), .int (Int32.ofNat len)] 7)) (T'.setTop (mkF m 3 #[.val (.ref b), .val (.int (Int32.ofNat (o + len))), .val (.ref d), .val (.int (Int32.ofNat (q + len))), .val (.int (Int32.ofNat len)), .val (.int (Int32.ofNat len)), z'] [])) := by
    intro r
    induction r with
    | zero =>
      intro i hi z hz Tl Bk Xl pl fl cl
      have hil : i = len := by omega
      rw [hil] at Xl fl cl
      exact ⟨Tl, Bk, z, Xl, pl, fl, cl⟩
    | succ r ih =>
      intro i hi z hz Tl Bk Xl pl fl cl
      have all := X0.warmed.alike.symm.trans Xl.warmed.alike
      have hAl := hA0.keep all (pl.other hne hA0.1)
      have hBk := hB0.like all pl.1 fl.1 fl.2.1 fl.2.2.1
      have hlt : q + i < Bk.slots.size := by rw [fl.2.2.1]; omega
      have c3 : Steps p.tables e below (s₁.setTop (entryFrame m #[.ref b, .int (Int32.ofNat o), .ref d, .int (Int32.ofNat q), .int (Int32.ofNat len)] 7)) (Tl.setTop (mkF m 12 #[.val (.ref b), .val (.int (Int32.ofNat (o + i))), .val (.ref d), .val (.int (Int32.ofNat (q + i))), .val (.int (Int32.ofNat len)), .val (.int (Int32.ofNat i)), z] [.int (Int32.ofNat (o + i)), .ref b])) := cl.trans (by
        refine XS.iload Xl.here hexec rfl (hb hbytes d3) rfl ?_
        refine XS.iload Xl.here hexec rfl (hb hbytes d5) rfl ?_
        refine XS.icmpNo Xl.here hexec rfl (hb hbytes d7) rfl (ii_ge_f (lt32 (by omega) (by omega))) ?_
        refine XS.aloadN Xl.here hexec rfl (hb hbytes d10) rfl rfl ?_
        refine XS.iloadN Xl.here hexec rfl (hb hbytes d11) rfl ?_
        exact Steps.refl _)
      have c4 : Steps p.tables e below (s₁.setTop (entryFrame m #[.ref b, .int (Int32.ofNat o), .ref d, .int (Int32.ofNat q), .int (Int32.ofNat len)] 7)) (Tl.setTop (mkF m 13 #[.val (.ref b), .val (.int (Int32.ofNat (o + i))), .val (.ref d), .val (.int (Int32.ofNat (q + i))), .val (.int (Int32.ofNat len)), .val (.int (Int32.ofNat i)), z] [.int (cv A (o + i))])) := c3.trans (by
        refine Xl.aget hexec hAl rfl (hA.get (i := o + i) (by omega)) rfl rfl (hb hbytes d12) ?_
        exact Steps.refl _)
      have c5 : Steps p.tables e below (s₁.setTop (entryFrame m #[.ref b, .int (Int32.ofNat o), .ref d, .int (Int32.ofNat q), .int (Int32.ofNat len)] 7)) (Tl.setTop (mkF m 15 #[.val (.ref b), .val (.int (Int32.ofNat (o + i))), .val (.ref d), .val (.int (Int32.ofNat (q + i))), .val (.int (Int32.ofNat len)), .val (.int (Int32.ofNat i)), .val (.int (cv A (o + i)))] [])) := c4.trans (by
        refine XS.istoreS Xl.here hexec rfl (hb hbytes d13) rfl rfl hz ?_
        exact Steps.refl _)
      have c6 : Steps p.tables e below (s₁.setTop (entryFrame m #[.ref b, .int (Int32.ofNat o), .ref d, .int (Int32.ofNat q), .int (Int32.ofNat len)] 7)) (Tl.setTop (mkF m 31 #[.val (.ref b), .val (.int (Int32.ofNat (o + i))), .val (.ref d), .val (.int (Int32.ofNat (q + i))), .val (.int (Int32.ofNat len)), .val (.int (Int32.ofNat i)), .val (.int (cv A (o + i)))] [.int (lo8 (cv A (o + i))), .int (Int32.ofNat (q + i)), .ref d])) := c5.trans (by
        refine XS.iload Xl.here hexec rfl (hb hbytes d15) rfl ?_
        refine sipushV Xl.here hexec rfl 255 (hb hbytes d17) (by decide) ?_
        refine XS.icmpYes Xl.here hexec rfl (pc0 := 20) rfl (hb hbytes d20) rfl (ii_le_t (hp i (by omega))) (by decide) rfl ?_
        refine XS.aloadN Xl.here hexec rfl (hb hbytes d26) rfl rfl ?_
        refine XS.iloadN Xl.here hexec rfl (hb hbytes d27) rfl ?_
        refine XS.iload Xl.here hexec rfl (hb hbytes d28) rfl ?_
        refine i2b Xl.here hexec rfl (hb hbytes d30) rfl ?_
        exact Steps.refl _)
      obtain ⟨T7, X7, p7, st7⟩ := Xl.aput hexec hBk rfl hlt rfl (fits_lo8 (cv A (o + i))) (g := (mkF m 31 #[.val (.ref b), .val (.int (Int32.ofNat (o + i))), .val (.ref d), .val (.int (Int32.ofNat (q + i))), .val (.int (Int32.ofNat len)), .val (.int (Int32.ofNat i)), .val (.int (cv A (o + i)))] [.int (lo8 (cv A (o + i))), .int (Int32.ofNat (q + i)), .ref d])) rfl (rest := []) rfl (hb hbytes d31)
      have c8 : Steps p.tables e below (s₁.setTop (entryFrame m #[.ref b, .int (Int32.ofNat o), .ref d, .int (Int32.ofNat q), .int (Int32.ofNat len)] 7)) (T7.setTop (mkF m 32 #[.val (.ref b), .val (.int (Int32.ofNat (o + i))), .val (.ref d), .val (.int (Int32.ofNat (q + i))), .val (.int (Int32.ofNat len)), .val (.int (Int32.ofNat i)), .val (.int (cv A (o + i)))] [])) := c6.trans (st7 _ (Steps.refl _))
      have c9 : Steps p.tables e below (s₁.setTop (entryFrame m #[.ref b, .int (Int32.ofNat o), .ref d, .int (Int32.ofNat q), .int (Int32.ofNat len)] 7)) (T7.setTop (mkF m 3 #[.val (.ref b), .val (.int (Int32.ofNat (o + i) + 1)), .val (.ref d), .val (.int (Int32.ofNat (q + i) + 1)), .val (.int (Int32.ofNat len)), .val (.int (Int32.ofNat i + 1)), .val (.int (cv A (o + i)))] [])) := c8.trans (by
        refine iincV X7.here hexec rfl 1 (hb hbytes d32) (by decide) rfl rfl ?_
        refine iincV X7.here hexec rfl 1 (hb hbytes d35) (by decide) rfl rfl ?_
        refine iincV X7.here hexec rfl 1 (hb hbytes d38) (by decide) rfl rfl ?_
        refine XS.goto X7.here hexec rfl (pc0 := 41) rfl (hb hbytes d41) (by decide) rfl ?_
        exact Steps.refl _)
      have c10 : Steps p.tables e below (s₁.setTop (entryFrame m #[.ref b, .int (Int32.ofNat o), .ref d, .int (Int32.ofNat q), .int (Int32.ofNat len)] 7)) (T7.setTop (mkF m 3 #[.val (.ref b), .val (.int (Int32.ofNat (o + (i + 1)))), .val (.ref d), .val (.int (Int32.ofNat (q + (i + 1)))), .val (.int (Int32.ofNat len)), .val (.int (Int32.ofNat (i + 1))), .val (.int (cv A (o + i)))] [])) := by
        have := c9
        rw [succ32, succ32, succ32] at this
        exact this
      exact ih (i + 1) (by omega) _ (Or.inr ⟨_, rfl, rfl⟩) T7 _ (by rw [copyLocs_step, ← List.append_assoc]; exact X7) (pl.trans p7) (fl.step (by omega) hlt (by simp)) c10
  obtain ⟨T9, B9, z9, X9, p9, f9, g9⟩ := loop len 0 (by omega) .unset (Or.inl rfl) s₁ B (by simpa [copyLocs] using X0) ⟨hB0.1, fun _ _ => rfl, rfl⟩ (Laid.zero _ _ _) c2
  have c11 : Steps p.tables e below (s₁.setTop (entryFrame m #[.ref b, .int (Int32.ofNat o), .ref d, .int (Int32.ofNat q), .int (Int32.ofNat len)] 7)) (T9.setTop (mkF m 46 #[.val (.ref b), .val (.int (Int32.ofNat (o + len))), .val (.ref d), .val (.int (Int32.ofNat (q + len))), .val (.int (Int32.ofNat len)), .val (.int (Int32.ofNat len)), z9] [.int (Int32.ofNat len)])) := g9.trans (by
    refine XS.iload X9.here hexec rfl (hb hbytes d3) rfl ?_
    refine XS.iload X9.here hexec rfl (hb hbytes d5) rfl ?_
    refine XS.icmpYes X9.here hexec rfl (pc0 := 7) rfl (hb hbytes d7) rfl (ii_ge_t (nlt32 (by omega) (Nat.le_refl _))) (by decide) rfl ?_
    refine XS.iload X9.here hexec rfl (hb hbytes d44) rfl ?_
    exact Steps.refl _)
  exact ⟨T9, some (.int (Int32.ofNat len)), _, _, _, X9, by simp, rfl, rfl, (fun h => by cases h), ⟨rfl, B9, p9.from hh0, f9⟩, fun fs hl => c11.trans (X9.ireturnOut hexec hret rfl (Or.inl rfl) (hb hbytes d46) hl)⟩
end Cmp5
namespace Cmp3
def yN : MethodName := ⟨"java/lang/StringUTF16", "compress", "([CII)[B"⟩
abbrev yB : ByteArray := jdk_52_method_16_code
theorem d0 : decode yB 0 = .ok (.iload_n 2, 1) := by decide +kernel
theorem d1 : decode yB 1 = .ok (.newarray .byte, 2) := by decide +kernel
theorem d3 : decode yB 3 = .ok (.astore_n 3, 1) := by decide +kernel
theorem d4 : decode yB 4 = .ok (.aload_n 0, 1) := by decide +kernel
theorem d5 : decode yB 5 = .ok (.iload_n 1, 1) := by decide +kernel
theorem d6 : decode yB 6 = .ok (.aload_n 3, 1) := by decide +kernel
theorem d7 : decode yB 7 = .ok (.iconst 0, 1) := by decide +kernel
theorem d8 : decode yB 8 = .ok (.iload_n 2, 1) := by decide +kernel
theorem d9 : decode yB 9 = .ok (.invokestatic 115, 3) := by decide +kernel
theorem d12 : decode yB 12 = .ok (.istore 4, 2) := by decide +kernel
theorem d14 : decode yB 14 = .ok (.iload 4, 2) := by decide +kernel
theorem d16 : decode yB 16 = .ok (.iload_n 2, 1) := by decide +kernel
theorem d17 : decode yB 17 = .ok (.if_icmp (.eq) 40, 3) := by decide +kernel
theorem d57 : decode yB 57 = .ok (.aload_n 3, 1) := by decide +kernel
theorem d58 : decode yB 58 = .ok (.areturn, 1) := by decide +kernel
def site : List Cond := [.arrayClass .byte, Cmp5.tab] ++ staticW U16 115 Cmp5.yN
def tab : Cond := tabOf yN yB 6 (some (.array .byte)) site
def P (b : Addr) (A : Cell) (o len : Nat) (args : Array Value) (s : State) : Prop := args = #[.ref b, .int (Int32.ofNat o), .int (Int32.ofNat len)] ∧ Ch b A s ∧ o + len ≤ A.slots.size ∧ len ≤ 536870912 ∧ ∀ i, i < len → ¬ 255 < cv A (o + i)
def E (b : Addr) (A : Cell) (o len : Nat) (r : Option Value) (s u : State) : Prop := NewArr .byte "[B" len (fun j => .int (lo8 (cv A (o + j)))) r s u ∧ u.heap.size = s.heap.size + 1
/-- no char of the range above 255: a new byte[] of their low bytes -/
theorem law (l : Launch) (b : Addr) (A : Cell) (o len : Nat) : Law l yN 3 3 1 18 yB 6 (some (.array .byte)) site (P b A o len) (E b A o len) [] 1 len := by
  refine Law.of_walk (plainFor_of_name (by decide +kernel)) (by decide +kernel) (by decide +kernel) (by decide) (fun _ _ h => by rw [h.1]; rfl) (fun _ U U' hal hh h => ⟨h.1, h.2.1.mv hal hh, h.2.2⟩) (fun r U U' V V' h1 hal h2 h => ⟨NewArr.mv r U U' V V' h1 hal h2 h.1, by rw [h1, h2]; exact h.2⟩) ?_
  intro p e s m args below meth c s₁ X0 hexec hbytes hml hret hlk hnm hown hh0 W hP
  obtain ⟨rfl, hA, l1, l2, hp⟩ := hP
  have a31 := hA.1.2.2.2
  have c1 : Steps p.tables e below (s₁.setTop (entryFrame m #[.ref b, .int (Int32.ofNat o), .int (Int32.ofNat len)] 6)) (s₁.setTop (mkF m 0 #[.val (.ref b), .val (.int (Int32.ofNat o)), .val (.int (Int32.ofNat len)), .unset, .unset, .unset] [])) := entry rfl
  have c2 : Steps p.tables e below (s₁.setTop (entryFrame m #[.ref b, .int (Int32.ofNat o), .int (Int32.ofNat len)] 6)) (s₁.setTop (mkF m 1 #[.val (.ref b), .val (.int (Int32.ofNat o)), .val (.int (Int32.ofNat len)), .unset, .unset, .unset] [.int (Int32.ofNat len)])) := c1.trans (by
    refine XS.iloadN X0.here hexec rfl (hb hbytes d0) rfl ?_
    exact Steps.refl _)
  obtain ⟨T3, B3, X3, ba3, bs3, bv3, bh3, bf3, st3⟩ := X0.anew hexec (atype := .byte) (wk W (.arrayClass .byte)) rfl (by show len * 1 ≤ _; omega) (by omega) (g := (mkF m 1 #[.val (.ref b), .val (.int (Int32.ofNat o)), .val (.int (Int32.ofNat len)), .unset, .unset, .unset] [.int (Int32.ofNat len)])) rfl (hb hbytes d1) (rest := []) rfl (Nat.le_refl _) (by show 0 + len ≤ len; omega)
  rw [hh0] at ba3 st3
  have kp3 : XT.Kept s T3 := (XT.Kept.of_eq hh0).push bh3
  have hA3 := hA.keep X3.warmed.alike (kp3 _ _ hA.1.1)
  have hne : b ≠ s.heap.size := hA.1.ne
  have c4 : Steps p.tables e below (s₁.setTop (entryFrame m #[.ref b, .int (Int32.ofNat o), .int (Int32.ofNat len)] 6)) (T3.setTop (mkF m 3 #[.val (.ref b), .val (.int (Int32.ofNat o)), .val (.int (Int32.ofNat len)), .unset, .unset, .unset] [.ref s.heap.size])) := c2.trans (st3 _ (Steps.refl _))
  have c5 : Steps p.tables e below (s₁.setTop (entryFrame m #[.ref b, .int (Int32.ofNat o), .int (Int32.ofNat len)] 6)) (T3.setTop (mkF m 9 #[.val (.ref b), .val (.int (Int32.ofNat o)), .val (.int (Int32.ofNat len)), .val (.ref s.heap.size), .unset, .unset] [.int (Int32.ofNat len), .int 0, .ref s.heap.size, .int (Int32.ofNat o), .ref b])) := c4.trans (by
    refine XS.astoreN X3.here hexec rfl (hb hbytes d3) rfl rfl rfl ?_
    refine XS.aloadN X3.here hexec rfl (hb hbytes d4) rfl rfl ?_
    refine XS.iloadN X3.here hexec rfl (hb hbytes d5) rfl ?_
    refine XS.aloadN X3.here hexec rfl (hb hbytes d6) rfl rfl ?_
    refine iconstV X3.here hexec rfl 0 (hb hbytes d7) (by decide) ?_
    refine XS.iloadN X3.here hexec rfl (hb hbytes d8) rfl ?_
    exact Steps.refl _)
  obtain ⟨v6, T6, X6, E6, g6⟩ := X3.callS hexec (Cmp5.law l b A s.heap.size B3 o 0 len) hown (wks W (staticW U16 115 Cmp5.yN)) (wk W Cmp5.tab) (W := 0) (Nat.le_of_ble_eq_true rfl) (Nat.le_of_ble_eq_true rfl) (Nat.le_refl _) (by show 0 + len + 0 ≤ len; omega) (g := (mkF m 9 #[.val (.ref b), .val (.int (Int32.ofNat o)), .val (.int (Int32.ofNat len)), .val (.ref s.heap.size), .unset, .unset] [.int (Int32.ofNat len), .int (Int32.ofNat 0), .ref s.heap.size, .int (Int32.ofNat o), .ref b])) rfl (by rw [hml]; rfl) c5 (argsL := [.ref b, .int (Int32.ofNat o), .ref s.heap.size, .int (Int32.ofNat 0), .int (Int32.ofNat len)]) (rest := []) rfl rfl (by show 2 * 0 + 0 ≤ _; decide) (hb hbytes d9) (⟨rfl, hA3, ba3, hne, l1, by rw [bs3]; simp, hp⟩)
  obtain ⟨rfl, B6, p6, f6⟩ := E6
  have c7 : Steps p.tables e below (s₁.setTop (entryFrame m #[.ref b, .int (Int32.ofNat o), .int (Int32.ofNat len)] 6)) (T6.setTop (mkF m 12 #[.val (.ref b), .val (.int (Int32.ofNat o)), .val (.int (Int32.ofNat len)), .val (.ref s.heap.size), .unset, .unset] [.int (Int32.ofNat len)])) := g6
  have c8 : Steps p.tables e below (s₁.setTop (entryFrame m #[.ref b, .int (Int32.ofNat o), .int (Int32.ofNat len)] 6)) (T6.setTop (mkF m 58 #[.val (.ref b), .val (.int (Int32.ofNat o)), .val (.int (Int32.ofNat len)), .val (.ref s.heap.size), .val (.int (Int32.ofNat len)), .unset] [.ref s.heap.size])) := c7.trans (by
    refine XS.istore X6.here hexec rfl (hb hbytes d12) rfl rfl ?_
    refine XS.iload X6.here hexec rfl (hb hbytes d14) rfl ?_
    refine XS.iloadN X6.here hexec rfl (hb hbytes d16) rfl ?_
    refine XS.icmpYes X6.here hexec rfl (pc0 := 17) rfl (hb hbytes d17) rfl (ii_eq_t rfl) (by decide) rfl ?_
    refine XS.aloadN X6.here hexec rfl (hb hbytes d57) rfl rfl ?_
    exact Steps.refl _)
  have X8 := X6.wide (L' := []) (cells' := 1) (slots' := len) (fun x hx hlt => by
    simp only [List.nil_append, copyLocs, List.mem_map, List.mem_range] at hx
    obtain ⟨i, -, rfl⟩ := hx
    exact absurd hlt (Nat.lt_irrefl _)) (Nat.le_refl _) (by omega)
  exact ⟨T6, some (.ref s.heap.size), _, _, _, X8, rfl, rfl, rfl, (fun h => by cases h), ⟨⟨rfl, B6, ba3.like (X3.warmed.alike.symm.trans X6.warmed.alike) p6.1 f6.1 f6.2.1 f6.2.2.1, f6.2.1.trans bv3, by rw [X6.warmed.alike.findClass, f6.1]; exact bf3, by rw [f6.2.2.1, bs3]; simp, fun j hj => by rw [f6.2.2.2 j, if_pos (by omega)]; rfl, kp3.put p6 (Nat.le_refl _)⟩, by rw [p6.2.2, bh3, hh0]; simp⟩, fun fs hl => c8.trans (X8.areturnOut hexec rfl hret rfl (hb hbytes d58) hl)⟩
end Cmp3
namespace CodL
def yN : MethodName := ⟨"java/lang/StringUTF16", "coderFromArrayLen", "([BI)B"⟩
abbrev yB : ByteArray := jdk_52_method_15_code
theorem d0 : decode yB 0 = .ok (.iload_n 1, 1) := by decide +kernel
theorem d1 : decode yB 1 = .ok (.aload_n 0, 1) := by decide +kernel
theorem d2 : decode yB 2 = .ok (.arraylength, 1) := by decide +kernel
theorem d3 : decode yB 3 = .ok (.isub, 1) := by decide +kernel
theorem d4 : decode yB 4 = .ok (.bipush 31, 2) := by decide +kernel
theorem d6 : decode yB 6 = .ok (.iushr, 1) := by decide +kernel
theorem d7 : decode yB 7 = .ok (.i2b, 1) := by decide +kernel
theorem d8 : decode yB 8 = .ok (.ireturn, 1) := by decide +kernel
def site : List Cond := []
def tab : Cond := tabOf yN yB 2 (some .byte) site
def P (d : Addr) (B : Cell) (args : Array Value) (s : State) : Prop := args = #[.ref d, .int (Int32.ofNat B.slots.size)] ∧ Arr .byte d B s
def E (r : Option Value) (s u : State) : Prop := XT.PureE (some (.int 0)) r s u
/-- an array as long as the number of chars: LATIN1 -/
theorem law (l : Launch) (d : Addr) (B : Cell) : Law l yN 2 2 0 0 yB 2 (some .byte) site (P d B) E [] 0 0 := by
  refine Law.of_walk (plainFor_of_name (by decide +kernel)) (by decide +kernel) (by decide +kernel) (by decide) (fun _ _ h => by rw [h.1]; rfl) (fun _ U U' hal hh h => ⟨h.1, h.2.mv hal hh⟩) (fun r U U' V V' h1 hal h2 h => XT.PureE.mv r U U' V V' h1 hal h2 h) ?_
  intro p e s m args below meth c s₁ X0 hexec hbytes hml hret hlk hnm hown hh0 W hP
  obtain ⟨rfl, hB⟩ := hP
  have hB0 := hB.mv X0.warmed.alike hh0
  have c1 : Steps p.tables e below (s₁.setTop (entryFrame m #[.ref d, .int (Int32.ofNat B.slots.size)] 2)) (s₁.setTop (mkF m 0 #[.val (.ref d), .val (.int (Int32.ofNat B.slots.size))] [])) := entry rfl
  have c2 : Steps p.tables e below (s₁.setTop (entryFrame m #[.ref d, .int (Int32.ofNat B.slots.size)] 2)) (s₁.setTop (mkF m 2 #[.val (.ref d), .val (.int (Int32.ofNat B.slots.size))] [.ref d, .int (Int32.ofNat B.slots.size)])) := c1.trans (by
    refine XS.iloadN X0.here hexec rfl (hb hbytes d0) rfl ?_
    refine XS.aloadN X0.here hexec rfl (hb hbytes d1) rfl rfl ?_
    exact Steps.refl _)
  have c3 : Steps p.tables e below (s₁.setTop (entryFrame m #[.ref d, .int (Int32.ofNat B.slots.size)] 2)) (s₁.setTop (mkF m 8 #[.val (.ref d), .val (.int (Int32.ofNat B.slots.size))] [.int (lo8 (ushr (Int32.ofNat B.slots.size - Int32.ofNat B.slots.size) 31))])) := c2.trans (by
    refine X0.alen hexec hB0 rfl rfl (hb hbytes d2) ?_
    refine XS.isub X0.here hexec rfl (hb hbytes d3) rfl ?_
    refine bipushV X0.here hexec rfl 31 (hb hbytes d4) (by decide) ?_
    refine iushr X0.here hexec rfl (hb hbytes d6) rfl ?_
    refine i2b X0.here hexec rfl (hb hbytes d7) rfl ?_
    exact Steps.refl _)
  have e0 : lo8 (ushr (Int32.ofNat B.slots.size - Int32.ofNat B.slots.size) 31) = 0 := by rw [Int32.sub_self]; decide
  rw [e0] at c3
  exact ⟨s₁, some (.int 0), _, _, _, X0, rfl, rfl, rfl, (fun h => by cases h), ⟨rfl, hh0⟩, fun fs hl => c3.trans (X0.ireturnOut hexec hret rfl (Or.inr (Or.inr (Or.inl rfl))) (hb hbytes d8) hl)⟩
end CodL
/-- the String at a is Latin-1 over a new byte[] (the heap's one new cell): the low bytes of the len chars of A from o on; every cell but a is kept -/
def Got (a : Addr) (D : Cell) (fV fC : Field) (A : Cell) (o len : Nat) (r : Option Value) (s u : State) : Prop := r = none ∧ ∃ D' V : Cell, Blank "java/lang/String" a D' u ∧ Same D D' [fV.slot, fC.slot] ∧ D'.slots[fV.slot]? = some (.ref s.heap.size) ∧ D'.slots[fC.slot]? = some (.int 0) ∧ Arr .byte s.heap.size V u ∧ V.vm = .none ∧ u.vm.findClass "[B" = some V.cls ∧ V.slots.size = len ∧ (∀ j, j < len → V.slots[j]? = some (.int (lo8 (cv A (o + j))))) ∧ (∀ (y : Addr) (c : Cell), y ≠ a → s.heap[y]? = some c → u.heap[y]? = some c) ∧ u.heap.size = s.heap.size + 1
theorem Got.mv {a : Addr} {D A : Cell} {fV fC : Field} {o len : Nat} : ∀ r (U U' V V' : State), U'.heap = U.heap → V.vm.Alike V'.vm → V'.heap = V.heap → Got a D fV fC A o len r U V → Got a D fV fC A o len r U' V' :=
  fun r U U' V V' h1 hal h2 ⟨e0, D', X, a1, a2, a3, a4, a5, a6, a7, a8, a9, a10, a11⟩ => ⟨e0, D', X, a1.mv hal h2, a2, by rw [h1]; exact a3, a4, by rw [h1]; exact a5.mv hal h2, a6, by rw [hal.findClass]; exact a7, a8, a9, by rw [h1, h2]; exact a10, by rw [h1, h2]; exact a11⟩
namespace New4
def yN : MethodName := ⟨"java/lang/String", "<init>", "([CIILjava/lang/Void;)V"⟩
abbrev yB : ByteArray := jdk_42_method_149_code
theorem d0 : decode yB 0 = .ok (.aload_n 0, 1) := by decide +kernel
theorem d1 : decode yB 1 = .ok (.invokespecial 1, 3) := by decide +kernel
theorem d4 : decode yB 4 = .ok (.iload_n 3, 1) := by decide +kernel
theorem d5 : decode yB 5 = .ok (.ifCond (.ne) 22, 3) := by decide +kernel
theorem d27 : decode yB 27 = .ok (.getstatic 38, 3) := by decide +kernel
theorem d30 : decode yB 30 = .ok (.ifCond (.eq) 28, 3) := by decide +kernel
theorem d33 : decode yB 33 = .ok (.aload_n 1, 1) := by decide +kernel
theorem d34 : decode yB 34 = .ok (.iload_n 2, 1) := by decide +kernel
theorem d35 : decode yB 35 = .ok (.iload_n 3, 1) := by decide +kernel
theorem d36 : decode yB 36 = .ok (.invokestatic 177, 3) := by decide +kernel
theorem d39 : decode yB 39 = .ok (.astore 5, 2) := by decide +kernel
theorem d41 : decode yB 41 = .ok (.aload_n 0, 1) := by decide +kernel
theorem d42 : decode yB 42 = .ok (.aload 5, 2) := by decide +kernel
theorem d44 : decode yB 44 = .ok (.iload_n 3, 1) := by decide +kernel
theorem d45 : decode yB 45 = .ok (.invokestatic 47, 3) := by decide +kernel
theorem d48 : decode yB 48 = .ok (.putfield 15, 3) := by decide +kernel
theorem d51 : decode yB 51 = .ok (.aload_n 0, 1) := by decide +kernel
theorem d52 : decode yB 52 = .ok (.aload 5, 2) := by decide +kernel
theorem d54 : decode yB 54 = .ok (.putfield 9, 3) := by decide +kernel
theorem d57 : decode yB 57 = .ok (.return_, 1) := by decide +kernel
def site : List Cond := [.fieldLink "java/lang/String" 38 "java/lang/String" "COMPACT_STRINGS" "Z", Cmp3.tab, CodL.tab, .laysFinal "java/lang/String" "java/lang/String" "value" "[B", .fieldLink "java/lang/String" 9 "java/lang/String" "value" "[B", .laysFinal "java/lang/String" "java/lang/String" "coder" "B", .fieldLink "java/lang/String" 15 "java/lang/String" "coder" "B"] ++ objW "java/lang/String" 1 ++ staticW "java/lang/String" 177 Cmp3.yN ++ staticW "java/lang/String" 47 CodL.yN
def tab : Cond := tabOf yN yB 6 none site
def P (a : Addr) (D : Cell) (fV fC : Field) (b : Addr) (A : Cell) (z : Int32) (o len : Nat) (args : Array Value) (s : State) : Prop := args = #[.ref a, .ref b, .int (Int32.ofNat o), .int (Int32.ofNat len), .null] ∧ Blank "java/lang/String" a D s ∧ Found "java/lang/String" "value" "[B" fV s ∧ Found "java/lang/String" "coder" "B" fC s ∧ Ch b A s ∧ StaticIs s "java/lang/String" "COMPACT_STRINGS" "Z" (.int z) ∧ ¬ z = 0 ∧ 0 < len ∧ o + len ≤ A.slots.size ∧ len ≤ 536870912 ∧ ∀ i, i < len → ¬ 255 < cv A (o + i)
def E (a : Addr) (D : Cell) (fV fC : Field) (A : Cell) (o len : Nat) (r : Option Value) (s u : State) : Prop := Got a D fV fC A o len r s u
/-- len > 0, no char of the range above 255: a Latin-1 String of their low bytes -/
theorem law (l : Launch) (a : Addr) (D : Cell) (fV fC : Field) (b : Addr) (A : Cell) (z : Int32) (o len : Nat) : Law l yN 5 4 2 35 yB 6 none site (P a D fV fC b A z o len) (E a D fV fC A o len) [⟨a, fC.slot⟩, ⟨a, fV.slot⟩] 1 len := by
  refine Law.of_walk (plainFor_of_name (by decide +kernel)) (by decide +kernel) (by decide +kernel) (by decide) (fun _ _ h => by rw [h.1]; rfl) (fun _ U U' hal hh h => ⟨h.1, h.2.1.mv hal hh, h.2.2.1.al hal, h.2.2.2.1.al hal, h.2.2.2.2.1.mv hal hh, h.2.2.2.2.2.1.there hal hh, h.2.2.2.2.2.2⟩) (fun r U U' V V' h1 hal h2 h => Got.mv r U U' V V' h1 hal h2 h) ?_
  intro p e s m args below meth c s₁ X0 hexec hbytes hml hret hlk hnm hown hh0 W hP
  obtain ⟨rfl, hB, f1, f2, hA, s1, hz, l0, l1, l2, hp⟩ := hP
  have a31 := hA.1.2.2.2
  have c1 : Steps p.tables e below (s₁.setTop (entryFrame m #[.ref a, .ref b, .int (Int32.ofNat o), .int (Int32.ofNat len), .null] 6)) (s₁.setTop (mkF m 0 #[.val (.ref a), .val (.ref b), .val (.int (Int32.ofNat o)), .val (.int (Int32.ofNat len)), .val .null, .unset] [])) := entry rfl
  have c2 : Steps p.tables e below (s₁.setTop (entryFrame m #[.ref a, .ref b, .int (Int32.ofNat o), .int (Int32.ofNat len), .null] 6)) (s₁.setTop (mkF m 1 #[.val (.ref a), .val (.ref b), .val (.int (Int32.ofNat o)), .val (.int (Int32.ofNat len)), .val .null, .unset] [.ref a])) := c1.trans (by
    refine XS.aloadN X0.here hexec rfl (hb hbytes d0) rfl rfl ?_
    exact Steps.refl _)
  obtain ⟨T3, X3, q3, st3⟩ := X0.oinit hexec hown (wks W (objW "java/lang/String" 1)) (g := (mkF m 1 #[.val (.ref a), .val (.ref b), .val (.int (Int32.ofNat o)), .val (.int (Int32.ofNat len)), .val .null, .unset] [.ref a])) rfl (by rw [hml]; rfl) (rest := []) rfl (hb hbytes d1) (W := 0) (by show 2 * 0 + 0 ≤ _; decide) (Nat.le_of_ble_eq_true rfl) (Nat.le_of_ble_eq_true rfl)
  have hh3 := q3.trans hh0
  have c4 : Steps p.tables e below (s₁.setTop (entryFrame m #[.ref a, .ref b, .int (Int32.ofNat o), .int (Int32.ofNat len), .null] 6)) (T3.setTop (mkF m 27 #[.val (.ref a), .val (.ref b), .val (.int (Int32.ofNat o)), .val (.int (Int32.ofNat len)), .val .null, .unset] [])) := (c2.trans (st3 _ (Steps.refl _))).trans (by
    refine XS.iloadN X3.here hexec rfl (hb hbytes d4) rfl ?_
    refine XS.ifYes X3.here hexec rfl (pc0 := 5) rfl (hb hbytes d5) rfl (i0_ne_t (nz32 (by omega) l0)) (by decide) rfl ?_
    exact Steps.refl _)
  obtain ⟨T5, X5, q5, st5⟩ := X3.sget hexec hown (wk W (.fieldLink "java/lang/String" 38 "java/lang/String" "COMPACT_STRINGS" "Z")) s1 (fun _ _ h => by rw [hh3]; exact h) (g := (mkF m 27 #[.val (.ref a), .val (.ref b), .val (.int (Int32.ofNat o)), .val (.int (Int32.ofNat len)), .val .null, .unset] [])) rfl (hb hbytes d27)
  have hh5 := q5.trans hh3
  have c6 : Steps p.tables e below (s₁.setTop (entryFrame m #[.ref a, .ref b, .int (Int32.ofNat o), .int (Int32.ofNat len), .null] 6)) (T5.setTop (mkF m 30 #[.val (.ref a), .val (.ref b), .val (.int (Int32.ofNat o)), .val (.int (Int32.ofNat len)), .val .null, .unset] [.int z])) := c4.trans (st5 _ (Steps.refl _))
  have c7 : Steps p.tables e below (s₁.setTop (entryFrame m #[.ref a, .ref b, .int (Int32.ofNat o), .int (Int32.ofNat len), .null] 6)) (T5.setTop (mkF m 36 #[.val (.ref a), .val (.ref b), .val (.int (Int32.ofNat o)), .val (.int (Int32.ofNat len)), .val .null, .unset] [.int (Int32.ofNat len), .int (Int32.ofNat o), .ref b])) := c6.trans (by
    refine XS.ifNo X5.here hexec rfl (hb hbytes d30) rfl (i0_eq_f hz) ?_
    refine XS.aloadN X5.here hexec rfl (hb hbytes d33) rfl rfl ?_
    refine XS.iloadN X5.here hexec rfl (hb hbytes d34) rfl ?_
    refine XS.iloadN X5.here hexec rfl (hb hbytes d35) rfl ?_
    exact Steps.refl _)
  obtain ⟨v8, T8, X8, E8, g8⟩ := X5.callS hexec (Cmp3.law l b A o len) hown (wks W (staticW "java/lang/String" 177 Cmp3.yN)) (wk W Cmp3.tab) (W := 0) (Nat.le_of_ble_eq_true rfl) (Nat.le_of_ble_eq_true rfl) (Nat.le_refl _) (by show 0 + len ≤ len; omega) (g := (mkF m 36 #[.val (.ref a), .val (.ref b), .val (.int (Int32.ofNat o)), .val (.int (Int32.ofNat len)), .val .null, .unset] [.int (Int32.ofNat len), .int (Int32.ofNat o), .ref b])) rfl (by rw [hml]; rfl) c7 (argsL := [.ref b, .int (Int32.ofNat o), .int (Int32.ofNat len)]) (rest := []) rfl rfl (by show 2 * 0 + 0 ≤ _; decide) (hb hbytes d36) (⟨rfl, hA.mv X5.warmed.alike hh5, l1, l2, hp⟩)
  obtain ⟨e8, z8⟩ := E8
  obtain ⟨rfl, N, n1, n2, n3, n4, n5, n6⟩ := NewArr.mv _ T5 s _ _ hh5.symm (Vm.Alike.refl _) rfl e8
  rw [hh5] at z8
  have hB1 := hB.keep X8.warmed.alike (n6 _ _ hB.1)
  have hne : s.heap.size ≠ a := (Nat.ne_of_lt (Array.getElem?_eq_some_iff.mp hB.1).1).symm
  have c9 : Steps p.tables e below (s₁.setTop (entryFrame m #[.ref a, .ref b, .int (Int32.ofNat o), .int (Int32.ofNat len), .null] 6)) (T8.setTop (mkF m 39 #[.val (.ref a), .val (.ref b), .val (.int (Int32.ofNat o)), .val (.int (Int32.ofNat len)), .val .null, .unset] [.ref s.heap.size])) := g8
  have c10 : Steps p.tables e below (s₁.setTop (entryFrame m #[.ref a, .ref b, .int (Int32.ofNat o), .int (Int32.ofNat len), .null] 6)) (T8.setTop (mkF m 45 #[.val (.ref a), .val (.ref b), .val (.int (Int32.ofNat o)), .val (.int (Int32.ofNat len)), .val .null, .val (.ref s.heap.size)] [.int (Int32.ofNat N.slots.size), .ref s.heap.size, .ref a])) := by
    have hc : Steps p.tables e below (s₁.setTop (entryFrame m #[.ref a, .ref b, .int (Int32.ofNat o), .int (Int32.ofNat len), .null] 6)) (T8.setTop (mkF m 45 #[.val (.ref a), .val (.ref b), .val (.int (Int32.ofNat o)), .val (.int (Int32.ofNat len)), .val .null, .val (.ref s.heap.size)] [.int (Int32.ofNat len), .ref s.heap.size, .ref a])) := c9.trans (by
      refine XS.astore X8.here hexec rfl (hb hbytes d39) rfl rfl rfl ?_
      refine XS.aloadN X8.here hexec rfl (hb hbytes d41) rfl rfl ?_
      refine XS.aload X8.here hexec rfl (hb hbytes d42) rfl rfl ?_
      refine XS.iloadN X8.here hexec rfl (hb hbytes d44) rfl ?_
      exact Steps.refl _)
    rw [n4]; exact hc
  obtain ⟨v11, T11, X11, E11, g11⟩ := X8.callS hexec (CodL.law l s.heap.size N) hown (wks W (staticW "java/lang/String" 47 CodL.yN)) (wk W CodL.tab) (W := 1) (Nat.le_of_ble_eq_true rfl) (Nat.le_of_ble_eq_true rfl) (Nat.le_refl _) (by show 0 + len + 0 ≤ len; omega) (g := (mkF m 45 #[.val (.ref a), .val (.ref b), .val (.int (Int32.ofNat o)), .val (.int (Int32.ofNat len)), .val .null, .val (.ref s.heap.size)] [.int (Int32.ofNat N.slots.size), .ref s.heap.size, .ref a])) rfl (by rw [hml]; rfl) c10 (argsL := [.ref s.heap.size, .int (Int32.ofNat N.slots.size)]) (rest := [.ref a]) rfl rfl (by show 2 * 0 + (1 + 0) ≤ _; decide) (hb hbytes d45) (⟨rfl, n1⟩)
  obtain ⟨rfl, q11⟩ := E11
  have hB11 := hB1.mv (X8.warmed.alike.symm.trans X11.warmed.alike) q11
  have c12 : Steps p.tables e below (s₁.setTop (entryFrame m #[.ref a, .ref b, .int (Int32.ofNat o), .int (Int32.ofNat len), .null] 6)) (T11.setTop (mkF m 48 #[.val (.ref a), .val (.ref b), .val (.int (Int32.ofNat o)), .val (.int (Int32.ofNat len)), .val .null, .val (.ref s.heap.size)] [.int 0, .ref a])) := g11
  obtain ⟨T13, X13, p13, bl13, sl13, st13⟩ := X11.finit hexec hown (wk W (.fieldLink "java/lang/String" 15 "java/lang/String" "coder" "B")) (Or.inr ⟨_, (wk W (.laysFinal "java/lang/String" "java/lang/String" "coder" "B"))⟩) (Or.inl ⟨rfl, hnm⟩) f2 (Or.inl rfl) hB11 (t := .byte) (by decide +kernel) rfl (g := (mkF m 48 #[.val (.ref a), .val (.ref b), .val (.int (Int32.ofNat o)), .val (.int (Int32.ofNat len)), .val .null, .val (.ref s.heap.size)] [.int 0, .ref a])) rfl (rest := []) rfl (hb hbytes d48)
  have c14 : Steps p.tables e below (s₁.setTop (entryFrame m #[.ref a, .ref b, .int (Int32.ofNat o), .int (Int32.ofNat len), .null] 6)) (T13.setTop (mkF m 54 #[.val (.ref a), .val (.ref b), .val (.int (Int32.ofNat o)), .val (.int (Int32.ofNat len)), .val .null, .val (.ref s.heap.size)] [.ref s.heap.size, .ref a])) := (c12.trans (st13 _ (Steps.refl _))).trans (by
    refine XS.aloadN X13.here hexec rfl (hb hbytes d51) rfl rfl ?_
    refine XS.aload X13.here hexec rfl (hb hbytes d52) rfl rfl ?_
    exact Steps.refl _)
  obtain ⟨T15, X15, p15, bl15, sl15, st15⟩ := X13.finit hexec hown (wk W (.fieldLink "java/lang/String" 9 "java/lang/String" "value" "[B")) (Or.inr ⟨_, (wk W (.laysFinal "java/lang/String" "java/lang/String" "value" "[B"))⟩) (Or.inl ⟨rfl, hnm⟩) f1 (Or.inl rfl) bl13 (t := (.array .byte)) (by decide +kernel) rfl (g := (mkF m 54 #[.val (.ref a), .val (.ref b), .val (.int (Int32.ofNat o)), .val (.int (Int32.ofNat len)), .val .null, .val (.ref s.heap.size)] [.ref s.heap.size, .ref a])) rfl (rest := []) rfl (hb hbytes d54)
  have c16 : Steps p.tables e below (s₁.setTop (entryFrame m #[.ref a, .ref b, .int (Int32.ofNat o), .int (Int32.ofNat len), .null] 6)) (T15.setTop (mkF m 57 #[.val (.ref a), .val (.ref b), .val (.int (Int32.ofNat o)), .val (.int (Int32.ofNat len)), .val .null, .val (.ref s.heap.size)] [])) := c14.trans (st15 _ (Steps.refl _))
  have ap := apart (Or.inr ⟨_, (wk W (.laysFinal "java/lang/String" "java/lang/String" "value" "[B"))⟩) (Or.inr ⟨_, (wk W (.laysFinal "java/lang/String" "java/lang/String" "coder" "B"))⟩) f1 f2 (t₁ := .array .byte) (t₂ := .byte) (by decide +kernel) (by decide +kernel) (by decide)
  have al := X8.warmed.alike.symm.trans X15.warmed.alike
  have n7 : T11.heap[s.heap.size]? = some N := by rw [q11]; exact n1.1
  exact ⟨T15, none, _, _, _, X15, by simp, rfl, by omega, (fun _ => rfl), ⟨rfl, _, N, bl15, ((Same.refl D _).set _ (by simp)).set _ (by simp), sl15, (Cell.slots_setSlot_ne _ ap).trans sl13, n1.keep al (p15.other hne (p13.other hne n7)), n2, by rw [al.findClass]; exact n3, n4, n5, fun y c h1 h2 => p15.other h1 (p13.other h1 (by rw [q11]; exact n6 y c h2)), by rw [p15.2.2, p13.2.2, q11]; exact z8⟩, fun fs hl => c16.trans (X15.returnOut hexec hret (hb hbytes d57) hl)⟩
end New4
namespace New1
def yN : MethodName := ⟨"java/lang/String", "<init>", "([C)V"⟩
abbrev yB : ByteArray := jdk_42_method_3_code
theorem d0 : decode yB 0 = .ok (.aload_n 0, 1) := by decide +kernel
theorem d1 : decode yB 1 = .ok (.aload_n 1, 1) := by decide +kernel
theorem d2 : decode yB 2 = .ok (.iconst 0, 1) := by decide +kernel
theorem d3 : decode yB 3 = .ok (.aload_n 1, 1) := by decide +kernel
theorem d4 : decode yB 4 = .ok (.arraylength, 1) := by decide +kernel
theorem d5 : decode yB 5 = .ok (.aconst_null, 1) := by decide +kernel
theorem d6 : decode yB 6 = .ok (.invokespecial 27, 3) := by decide +kernel
theorem d9 : decode yB 9 = .ok (.return_, 1) := by decide +kernel
def site : List Cond := [New4.tab] ++ initW "java/lang/String" 27 New4.yN
def tab : Cond := tabOf yN yB 2 none site
def P (a : Addr) (D : Cell) (fV fC : Field) (b : Addr) (A : Cell) (z : Int32) (args : Array Value) (s : State) : Prop := args = #[.ref a, .ref b] ∧ Blank "java/lang/String" a D s ∧ Found "java/lang/String" "value" "[B" fV s ∧ Found "java/lang/String" "coder" "B" fC s ∧ Ch b A s ∧ StaticIs s "java/lang/String" "COMPACT_STRINGS" "Z" (.int z) ∧ ¬ z = 0 ∧ 0 < A.slots.size ∧ A.slots.size ≤ 536870912 ∧ ∀ i, i < A.slots.size → ¬ 255 < cv A i
def E (a : Addr) (D : Cell) (fV fC : Field) (A : Cell) (r : Option Value) (s u : State) : Prop := Got a D fV fC A 0 A.slots.size r s u
/-- new String(chars), not empty, no char above 255: a Latin-1 String of their low bytes -/
theorem law (l : Launch) (a : Addr) (D : Cell) (fV fC : Field) (b : Addr) (A : Cell) (z : Int32) : Law l yN 2 1 3 52 yB 2 none site (P a D fV fC b A z) (E a D fV fC A) [⟨a, fC.slot⟩, ⟨a, fV.slot⟩] 1 A.slots.size := by
  refine Law.of_walk (plainFor_of_name (by decide +kernel)) (by decide +kernel) (by decide +kernel) (by decide) (fun _ _ h => by rw [h.1]; rfl) (fun _ U U' hal hh h => ⟨h.1, h.2.1.mv hal hh, h.2.2.1.al hal, h.2.2.2.1.al hal, h.2.2.2.2.1.mv hal hh, h.2.2.2.2.2.1.there hal hh, h.2.2.2.2.2.2⟩) (fun r U U' V V' h1 hal h2 h => Got.mv r U U' V V' h1 hal h2 h) ?_
  intro p e s m args below meth c s₁ X0 hexec hbytes hml hret hlk hnm hown hh0 W hP
  obtain ⟨rfl, hB, f1, f2, hA, s1, hz, l0, l2, hp⟩ := hP
  have c1 : Steps p.tables e below (s₁.setTop (entryFrame m #[.ref a, .ref b] 2)) (s₁.setTop (mkF m 0 #[.val (.ref a), .val (.ref b)] [])) := entry rfl
  have c2 : Steps p.tables e below (s₁.setTop (entryFrame m #[.ref a, .ref b] 2)) (s₁.setTop (mkF m 6 #[.val (.ref a), .val (.ref b)] [.null, .int (Int32.ofNat A.slots.size), .int 0, .ref b, .ref a])) := c1.trans (by
    refine XS.aloadN X0.here hexec rfl (hb hbytes d0) rfl rfl ?_
    refine XS.aloadN X0.here hexec rfl (hb hbytes d1) rfl rfl ?_
    refine iconstV X0.here hexec rfl 0 (hb hbytes d2) (by decide) ?_
    refine XS.aloadN X0.here hexec rfl (hb hbytes d3) rfl rfl ?_
    refine X0.alen hexec (hA.1.mv X0.warmed.alike hh0) rfl rfl (hb hbytes d4) ?_
    refine XS.aconstNull X0.here hexec rfl (hb hbytes d5) ?_
    exact Steps.refl _)
  obtain ⟨v3, T3, X3, E3, g3⟩ := X0.callN hexec (New4.law l a D fV fC b A z 0 A.slots.size) rfl hown (wks W (initW "java/lang/String" 27 New4.yN)) (W New4.tab (by simp only [site, List.mem_cons, List.mem_append, true_or, or_true])) (W := 0) (Nat.le_of_ble_eq_true rfl) (Nat.le_of_ble_eq_true rfl) (Nat.le_refl _) (by show 0 + A.slots.size ≤ A.slots.size; omega) (g := (mkF m 6 #[.val (.ref a), .val (.ref b)] [.null, .int (Int32.ofNat A.slots.size), .int (Int32.ofNat 0), .ref b, .ref a])) rfl (by rw [hml]; rfl) c2 (argsL := [.ref b, .int (Int32.ofNat 0), .int (Int32.ofNat A.slots.size), .null]) (rest := []) rfl rfl (by show 2 * 0 + 0 ≤ _; decide) (hb hbytes d6) (⟨rfl, hB.mv X0.warmed.alike hh0, f1.al X0.warmed.alike, f2.al X0.warmed.alike, hA.mv X0.warmed.alike hh0, s1.there X0.warmed.alike hh0, hz, l0, by omega, l2, fun i hi => by rw [Nat.zero_add]; exact hp i hi⟩)
  have e0 := Got.mv _ s₁ s _ _ hh0.symm (Vm.Alike.refl _) rfl E3
  obtain rfl := e0.1
  have c4 : Steps p.tables e below (s₁.setTop (entryFrame m #[.ref a, .ref b] 2)) (T3.setTop (mkF m 9 #[.val (.ref a), .val (.ref b)] [])) := g3
  exact ⟨T3, none, _, _, _, X3, by simp, rfl, by omega, (fun _ => rfl), e0, fun fs hl => c4.trans (X3.returnOut hexec hret (hb hbytes d9) hl)⟩
theorem pays {l : Launch} {R : Room} {p : Program} {e : Env} {below : List Frame} {s : State} {sargs : Array Value} {len W : Nat} (a : Addr) (D : Cell) (fV fC : Field) (b : Addr) (A : Cell) (z : Int32) (htab : tab.before sargs s = true) (hfr : 4 ≤ R.frames) (hlo : W + 65 ≤ R.locals) :
    Back l R p e below s sargs yN len W (fun A₁ a₁ => A₁.cells + 1 ≤ R.cells ∧ A₁.slots + A.slots.size ≤ R.slots ∧ P a D fV fC b A z a₁ A₁.U) (fun A₁ _ v₁ B₁ => E a D fV fC A v₁ A₁.U B₁.U ∧ B₁.locs = A₁.locs ++ [⟨a, fC.slot⟩, ⟨a, fV.slot⟩] ∧ B₁.cells = A₁.cells + 1 ∧ B₁.slots = A₁.slots + A.slots.size) :=
  (law l a D fV fC b A z).pays htab hfr (by omega)
end New1
/-- the byte, read back as charAt reads it, is the char -/
theorem lo8_mask {x : Int32} (h0 : ¬ x < 0) (h1 : ¬ 255 < x) : lo8 x &&& 255 = x := by
  have t : ∀ k : Fin 256, lo8 (Int32.ofNat k.val) &&& 255 = Int32.ofNat k.val := by decide +kernel
  rw [Int32.lt_iff_toInt_lt] at h0 h1
  have e0 : (0 : Int32).toInt = 0 := rfl
  have e1 : (255 : Int32).toInt = 255 := rfl
  obtain ⟨k, hk⟩ : ∃ k : Nat, x.toInt = k := ⟨x.toInt.toNat, by omega⟩
  have hx : x = Int32.ofNat k := Int32.toInt_inj.mp (by rw [hk, Int32.toInt_ofNat_small (by omega)])
  rw [hx]
  exact t ⟨k, by omega⟩
end StrChars
namespace StrChars.Road
open Jvm Sem ClassFile Op Lib Jvm.Stand Jvm.Free Jvm.Free.XT
open Jvm.Lib.Cold (StaticIs)
abbrev ST : String := "java/lang/String"
/-- every table word that New1's law asks, flat -/
abbrev words : List Jvm.Cond := [.code New1.yN New1.yB 2 none, .initialized ST, .methodLink ST 27 New4.yN, .instanceMethod New4.yN,
  .code New4.yN New4.yB 6 none, .fieldLink ST 38 ST "COMPACT_STRINGS" "Z", .laysFinal ST ST "value" "[B", .fieldLink ST 9 ST "value" "[B", .laysFinal ST ST "coder" "B", .fieldLink ST 15 ST "coder" "B",
  .methodLink ST 1 Lib.objectInit, .instanceMethod Lib.objectInit, .code Lib.objectInit ⟨#[0xb1]⟩ 1 none, .methodLink ST 177 Cmp3.yN, .static Cmp3.yN, .methodLink ST 47 CodL.yN, .static CodL.yN,
  .code Cmp3.yN Cmp3.yB 6 (some (.array .byte)), .initialized U16, .arrayClass .byte, .methodLink U16 115 Cmp5.yN, .static Cmp5.yN, .code Cmp5.yN Cmp5.yB 7 (some .int), .code CodL.yN CodL.yB 2 (some .byte)]
theorem tab_of {a : Array Value} {s : State} (h : ∀ w ∈ words, w.before a s = true) : New1.tab.before a s = true := by
  have h5 : Cmp5.tab.before a s = true := unparts (wk h (.code Cmp5.yN Cmp5.yB 7 (some .int))) (wks h (.initialized Cmp5.yN.cls :: Cmp5.site))
  have hc : CodL.tab.before a s = true := unparts (wk h (.code CodL.yN CodL.yB 2 (some .byte))) (wks h (.initialized CodL.yN.cls :: CodL.site))
  have q5 : ∀ w ∈ Cmp5.tab :: words, w.before a s = true := fun w hw => (List.mem_cons.mp hw).elim (fun e => e ▸ h5) (h w)
  have h3 : Cmp3.tab.before a s = true := unparts (wk q5 (.code Cmp3.yN Cmp3.yB 6 (some (.array .byte)))) (wks q5 (.initialized Cmp3.yN.cls :: Cmp3.site))
  have q3 : ∀ w ∈ Cmp3.tab :: CodL.tab :: words, w.before a s = true := fun w hw => (List.mem_cons.mp hw).elim (fun e => e ▸ h3) fun hw => (List.mem_cons.mp hw).elim (fun e => e ▸ hc) (h w)
  have h4 : New4.tab.before a s = true := unparts (wk q3 (.code New4.yN New4.yB 6 none)) (wks q3 (.initialized New4.yN.cls :: New4.site))
  have q4 : ∀ w ∈ New4.tab :: words, w.before a s = true := fun w hw => (List.mem_cons.mp hw).elim (fun e => e ▸ h4) (h w)
  exact unparts (wk q4 (.code New1.yN New1.yB 2 none)) (wks q4 (.initialized New1.yN.cls :: New1.site))
/-- the words ride from the start Z to the walk's own state -/
theorem moved {Z s : State} {a0 args : Array Value} (hZ : Z.Warmed39 s.vm) (hw : ∀ d ∈ words, d.before a0 Z = true) : ∀ d ∈ words, d.before args s = true := fun d hd => by
  have q := hw d hd
  have t : ∀ d ∈ words, d = .arrayClass .byte ∨ (d.onTables && d.keepsFace) = true := by decide +kernel
  rcases t d hd with rfl | t
  · exact RoadKit.mvA hZ q
  · exact RoadKit.mv hZ q t
/-- WHAT COMES BACK, over the tables of the start Z: h the heap at the call, h' behind it -/
def Q (Z : State) (x : Addr) (A : Cell) (h : Heap) (v : Option Value) (h' : Heap) (L : List Loc) : Prop := v = none ∧ (∀ y ∈ L, y.base = x) ∧ RoadKit.Keep h h' [x] ∧ h'.size = h.size + 1 ∧ RoadKit.Exa Z h' x ST ∧ RoadKit.Fld Z h' x ST "value" "[B" (.ref h.size) ∧ RoadKit.Fld Z h' x ST "coder" "B" (.int 0) ∧
  (∃ V : Cell, RoadKit.Arr Z h' h.size V .byte ∧ V.vm = .none ∧ Z.vm.findClass "[B" = some V.cls ∧ V.slots.size = A.slots.size ∧ ∀ j, j < A.slots.size → V.slots[j]? = some (.int (lo8 (cv A j)))) ∧
  ∀ (O n d : String) (w : Value), RoadKit.Fld Z h x O n d w → RoadKit.slotOf Z O n d ≠ RoadKit.slotOf Z ST "value" "[B" → RoadKit.slotOf Z O n d ≠ RoadKit.slotOf Z ST "coder" "B" → RoadKit.Fld Z h' x O n d w
/-- **new String(chars) AT A CALL, IN THE ROAD'S FORM**: for specialBack behind newO: x the fresh String, b the char[] with the cell A -/
theorem back {p : Program} {l : Launch} {e : Env} {R : Room} {s : State} {args : Array Value} {below : List Frame} {len W : Nat} {Z : State} {a0 : Array Value} {h : Heap} (hZ : Z.Warmed39 s.vm) (hw : ∀ d ∈ words, d.before a0 Z = true) {kI : Nat} (wi : (Jvm.Cond.instantiable ST kI).before a0 Z = true)
    {x b : Addr} {A : Cell} {z : Int32} {v0 c0 : Value} (E : RoadKit.Exa Z h x ST) (V : RoadKit.Fld Z h x ST "value" "[B" v0) (C : RoadKit.Fld Z h x ST "coder" "B" c0) (K : RoadKit.Arr Z h b A .char) (hty : Typed .char A) (S : RoadKit.Sta Z h ST "COMPACT_STRINGS" "Z" (.int z)) (hz : ¬ z = 0)
    (l0 : 0 < A.slots.size) (l2 : A.slots.size ≤ 536870912) (hp : ∀ i, i < A.slots.size → ¬ 255 < cv A i) (hfr : 4 ≤ R.frames) (hlo : W + 65 ≤ R.locals) :
    Back l R p e below s args New1.yN len W (fun P a => a = #[.ref x, .ref b] ∧ P.U.heap = h ∧ P.cells + 1 ≤ R.cells ∧ P.slots + A.slots.size ≤ R.slots)
      (fun P _ v B => ∃ L, Q Z x A h v B.U.heap L ∧ B.locs = P.locs ++ L ∧ B.cells = P.cells + 1 ∧ B.slots = P.slots + A.slots.size) := by
  intro m meth c P g ig mk a X hg hsize hdg hW hn hp'
  obtain ⟨rfl, rfl, r1, r2⟩ := hp'
  have al : Z.vm.Alike P.U.vm := hZ.alike.trans X.warmed.alike
  obtain ⟨D, cfV, kV, iV, fV, hD, gV, stV, knV, obV, asV, slV⟩ := id V
  obtain ⟨D', cfC, kC, iC, fC, hD', gC, stC, -, -, asC, slC⟩ := id C
  cases hD.symm.trans hD'
  obtain ⟨D2, kD, e1, e2, e3, e4, e5⟩ := id E
  cases hD.symm.trans e1
  obtain ⟨c2, k2, i1, i2, i3, -⟩ := Cond.instantiable_spec wi
  cases e2.symm.trans i1
  cases e3.symm.trans i2
  obtain ⟨kU, u1, u2⟩ := al.2.2 _ _ e3
  have hB : Blank ST x D P.U := ⟨hD, ⟨knV, fun q hq => by rw [hq] at obV; cases obV⟩, by rw [al.findClass]; exact e2, kU, u1, by rw [u2]; exact i3, by rw [u2]; exact e5 i3⟩
  have F1 : Found ST "value" "[B" fV P.U := ⟨SBG.found_only al ⟨cfV, kV, iV, gV⟩, stV⟩
  have F2 : Found ST "coder" "B" fC P.U := ⟨SBG.found_only al ⟨cfC, kC, iC, gC⟩, stC⟩
  have hA : Ch b A P.U := ⟨⟨K.1, State.isArrayOf_alike al K.2.1, K.2.2, by omega⟩, hty⟩
  have hS : StaticIs P.U ST "COMPACT_STRINGS" "Z" (.int z) := by
    obtain ⟨cfS, iS, kS, fS, st, cS, t1, t2, t3, t4, t5, t6, t7⟩ := S
    exact StaticIs.there (s := { Z with heap := P.U.heap }) ⟨cfS, iS, kS, fS, st, cS, t1, t2, t3, t4, t5, (fun q => by rw [q] at t6; cases t6), t7⟩ al rfl
  obtain ⟨v, B, X', ⟨⟨hv, E', V', q1, q2, q3, q4, q5, q6, q7, q8, q9, q10, q11⟩, hl, hc, hs⟩, st⟩ := New1.pays x D fV fC b A z (tab_of (moved hZ hw)) hfr hlo m meth c P g ig mk _ X hg hsize hdg hW hn ⟨r1, r2, rfl, hB, F1, F2, hA, hS, hz, l0, l2, hp⟩
  have al' : Z.vm.Alike B.U.vm := hZ.alike.trans X'.warmed.alike
  have hsz : E'.slots.size = D.slots.size := by
    obtain ⟨-, -, -, kB, w1, w2, w3⟩ := q1
    obtain ⟨kB', y1, y2⟩ := al'.2.2 _ _ e3
    rw [q2.2.1] at w1
    cases w1.symm.trans y1
    rw [w3, e5 i3, y2]
  refine ⟨v, B, X', ⟨_, ⟨hv, ?_, ⟨by omega, fun y cy hy hn' => q10 y cy (by simpa using hn') hy, fun y cy hy => ?_⟩, q11, ⟨E', _, q1.1, by rw [q2.2.1]; exact e2, by rw [q2.2.1]; exact e3, by rw [q2.1]; exact obV, fun _ => by rw [hsz]; exact e5 i3⟩,
    ⟨E', cfV, kV, iV, fV, q1.1, gV, stV, by rw [q2.1]; exact knV, by rw [q2.1]; exact obV, by rw [q2.2.1]; exact asV, q3⟩, ⟨E', cfC, kC, iC, fC, q1.1, gC, stC, by rw [q2.1]; exact knV, by rw [q2.1]; exact obV, by rw [q2.2.1]; exact asC, q4⟩,
    ⟨V', ⟨q5.1, State.isArrayOf_alike al'.symm q5.2.1, q5.2.2.1⟩, q6, by rw [← al'.findClass]; exact q7, q8, fun j hj => by have := q9 j hj; rwa [Nat.zero_add] at this⟩, fun O n d w F n1 n2 => ?_⟩, hl, hc, hs⟩, st⟩
  · intro y hy
    simp only [List.mem_cons, List.not_mem_nil, or_false] at hy
    rcases hy with rfl | rfl <;> rfl
  · by_cases q : y = x
    · subst q
      cases hD.symm.trans hy
      exact ⟨E', q1.1, q2.2.1, q2.1, hsz⟩
    · exact ⟨cy, q10 y cy q hy, rfl, rfl, rfl⟩
  · obtain ⟨D3, cf, k, i, f, g1, g2, g3, g4, g5, g6, g7⟩ := F
    cases hD.symm.trans g1
    simp only [RoadKit.slotOf, g2, gV, gC, Option.map_some, Option.getD_some] at n1 n2
    exact ⟨E', cf, k, i, f, q1.1, g2, g3, by rw [q2.1]; exact g4, by rw [q2.1]; exact g5, by rw [q2.2.1]; exact g6, by rw [q2.2.2 f.slot (by simp [n1, n2])]; exact g7⟩
end StrChars.Road
namespace StrChars.Road
open Jvm Sem ClassFile Op Lib Jvm.Stand Jvm.Free Jvm.Free.XT
/-- WHAT COMES BACK, the byte[] as a list of values -/
def QA (Z : State) (x : Addr) (zn : Int32) (cs : List Int32) (h : Heap) (v : Option Value) (h' : Heap) (L : List Loc) : Prop := v = none ∧ (∀ y ∈ L, y.base = x) ∧ RoadKit.Keep h h' [x] ∧ h'.size = h.size + 1 ∧ RoadKit.Exa Z h' x ST ∧ RoadKit.Fld Z h' x ST "value" "[B" (.ref h.size) ∧ RoadKit.Fld Z h' x ST "coder" "B" (.int 0) ∧
  (∃ kb, Z.vm.findClass "[B" = some kb ∧ RoadKit.Arv Z h' h.size kb .byte zn (cs.map fun c => .int (lo8 c)) (.int 0)) ∧
  ∀ (O n d : String) (w : Value), RoadKit.Fld Z h x O n d w → RoadKit.slotOf Z O n d ≠ RoadKit.slotOf Z ST "value" "[B" → RoadKit.slotOf Z O n d ≠ RoadKit.slotOf Z ST "coder" "B" → RoadKit.Fld Z h' x O n d w
/-- **new String(chars) AT A CALL, THE ARRAYS AS LISTS**: the char[] at b holds cs, not empty, no char above 255 -/
theorem backArv {p : Program} {l : Launch} {e : Env} {R : Room} {s : State} {args : Array Value} {below : List Frame} {len W : Nat} {Z : State} {a0 : Array Value} {h : Heap} (hZ : Z.Warmed39 s.vm) (hw : ∀ d ∈ words, d.before a0 Z = true) {kI : Nat} (wi : (Jvm.Cond.instantiable ST kI).before a0 Z = true)
    {x b : Addr} {k : ClassId} {zn z : Int32} {cs : List Int32} {dv v0 c0 : Value} (E : RoadKit.Exa Z h x ST) (V : RoadKit.Fld Z h x ST "value" "[B" v0) (C : RoadKit.Fld Z h x ST "coder" "B" c0) (K : RoadKit.Arv Z h b k .char zn (cs.map Value.int) dv) (S : RoadKit.Sta Z h ST "COMPACT_STRINGS" "Z" (.int z)) (hz : ¬ z = 0)
    (hlen : zn.toNatClampNeg = cs.length) (h0 : 0 < cs.length) (hbig : cs.length ≤ 536870912) (hall : ∀ c ∈ cs, ¬ 255 < c) (hfr : 4 ≤ R.frames) (hlo : W + 65 ≤ R.locals) :
    Back l R p e below s args New1.yN len W (fun P a => a = #[.ref x, .ref b] ∧ P.U.heap = h ∧ P.cells + 1 ≤ R.cells ∧ P.slots + cs.length ≤ R.slots)
      (fun P _ v B => ∃ L, QA Z x zn cs h v B.U.heap L ∧ B.locs = P.locs ++ L ∧ B.cells = P.cells + 1 ∧ B.slots = P.slots + cs.length) := by
  obtain ⟨A, K1, K2, K3, K4, K5, K6⟩ := K
  have e : A.slots.size = cs.length := K3.trans hlen
  have hat : ∀ (i : Nat) (hi : i < cs.length), A.slots[i]? = some (.int cs[i]) := fun i hi => by rw [K5 i (by omega)]; simp [List.getD_eq_getElem?_getD, hi]
  have hcv : ∀ (i : Nat) (hi : i < cs.length), cv A i = cs[i] := fun i hi => by unfold cv; rw [hat i hi]
  have hty : Typed .char A := fun i v hv => by
    have hi : i < A.slots.size := (Array.getElem?_eq_some_iff.mp hv).1
    have q := K5 i hi
    rw [hv] at q
    rw [Option.some.inj q]
    exact K6 i hi
  refine Back.mono (back hZ hw wi E V C K1 hty S hz (by omega) (by omega) (fun i hi => by rw [hcv i (by omega)]; exact hall _ (List.getElem_mem _)) hfr hlo) (fun P a hp => ⟨hp.1, hp.2.1, hp.2.2.1, by rw [e]; exact hp.2.2.2⟩) (fun P a v B hp hq => ?_)
  obtain ⟨L, ⟨q1, q2, q3, q4, q5, q6, q7, ⟨V', v1, v2, v3, v4, v5⟩, q9⟩, hl, hc, hs⟩ := hq
  refine ⟨L, ⟨q1, q2, q3, q4, q5, q6, q7, ⟨V'.cls, v3, V', v1, rfl, by rw [v4, e, hlen], K4, fun i hi => ?_, fun i hi => ?_⟩, q9⟩, hl, hc, by rw [hs, e]⟩
  · have hi' : i < cs.length := by omega
    rw [v5 i (by omega), hcv i hi']; simp [List.getD_eq_getElem?_getD, hi']
  · have hi' : i < cs.length := by omega
    simp only [List.getD_eq_getElem?_getD, List.getElem?_map, List.getElem?_eq_getElem hi', Option.map_some, Option.getD_some]
    exact fits_lo8 _
end StrChars.Road
namespace StrChars.Road
open Jvm Sem ClassFile Op Lib Jvm.Stand Jvm.Free Jvm.Free.XT
/-- WHAT COMES BACK, in the writer's own shape -/
def QV (Z : State) (x : Addr) (N : Int32) (bs : List Int32) (h : Heap) (n0 : Nat) (v : Option Value) (h' : Heap) (L : List Loc) : Prop := v = none ∧ RoadKit.Fr n0 L ∧ RoadKit.Keep h h' [x] ∧ RoadKit.Exa Z h' x ST ∧ RoadKit.Fld Z h' x ST "coder" "B" (.int 0) ∧
  ∃ (t : Addr) (kb : ClassId), n0 ≤ t ∧ h.size ≤ t ∧ ¬ t = x ∧ RoadKit.Fld Z h' x ST "value" "[B" (.ref t) ∧ RoadKit.Arv Z h' t kb .byte N (bs.map Value.int) (.int 0)
/-- **new String(chars) AT A CALL, FOR THE WRITER**: a char[] of n known ints, each 0 to 255 -/
theorem backV {p : Program} {l : Launch} {e : Env} {R : Room} {s : State} {args : Array Value} {below : List Frame} {len W : Nat} {Z : State} {a0 : Array Value} {h : Heap} (hZ : Z.Warmed39 s.vm) (hw : ∀ d ∈ words, d.before a0 Z = true) {kI : Nat} (wi : (Jvm.Cond.instantiable ST kI).before a0 Z = true)
    {x b : Addr} {kC : ClassId} {cs bs : List Int32} {d v0 c0 : Value} {z N : Int32} {n n0 : Nat} (hx0 : n0 ≤ x) (hh0 : n0 ≤ h.size) (E : RoadKit.Exa Z h x ST) (V : RoadKit.Fld Z h x ST "value" "[B" v0) (C : RoadKit.Fld Z h x ST "coder" "B" c0) (K : RoadKit.Arv Z h b kC .char N (cs.map Value.int) d) (S : RoadKit.Sta Z h ST "COMPACT_STRINGS" "Z" (.int z)) (hz : ¬ z = 0)
    (hn : cs.length = n) (hN : N = Int32.ofNat n) (l0 : 0 < n) (l2 : n ≤ 4000) (hp : ∀ c ∈ cs, ¬ c < 0 ∧ ¬ (255 : Int32) < c) (hb : bs = cs.map (fun c => c.toInt8.toInt32)) (hfr : 4 ≤ R.frames) (hlo : W + 65 ≤ R.locals) :
    Back l R p e below s args (⟨"java/lang/String", "<init>", "([C)V"⟩ : MethodName) len W (fun P a => a = #[.ref x, .ref b] ∧ P.U.heap = h ∧ P.cells + 1 ≤ R.cells ∧ P.slots + n ≤ R.slots)
      (fun P _ v B => ∃ L, QV Z x N bs h n0 v B.U.heap L ∧ B.locs = P.locs ++ L ∧ B.cells = P.cells + 1 ∧ B.slots = P.slots + n) := by
  subst hn hN hb
  refine Back.mono (backArv hZ hw wi E V C K S hz (n32 (by omega)) l0 (by omega) (fun c hc => (hp c hc).2) hfr hlo) (fun P a hp => hp) (fun P a v B hp hq => ?_)
  obtain ⟨L, ⟨q1, q2, q3, q4, q5, q6, q7, ⟨kb, v1, v2⟩, q9⟩, hl, hc, hs⟩ := hq
  exact ⟨L, ⟨q1, fun y hy => by rw [q2 y hy]; exact hx0, q3, q5, q7, h.size, kb, hh0, Nat.le_refl _, Nat.ne_of_gt E.lt, q6, by rw [List.map_map]; exact v2⟩, hl, hc, hs⟩
end StrChars.Road
namespace StrChars
open Jvm Sem ClassFile Op Lib Jvm.Stand Jvm.Free.XT Jvm.Free.ALB Jvm.Free.JM Jvm.Free
open Jvm.Lib.Cold (StaticIs)
def hi8 (x : Int32) : Int32 := lo8 (x >>> ((8 : Int32) &&& 31))
/-- what StringUTF16.getChar makes of two bytes -/
def pairCh (u v : Int32) : Int32 := (((u &&& 255) <<< ((0 : Int32) &&& 31)) ||| ((v &&& 255) <<< ((8 : Int32) &&& 31))).toUInt32.toUInt16.toUInt32.toInt32
theorem lo8_and (x : Int32) : (lo8 x &&& 255).toBitVec.toNat = x.toBitVec.toNat % 256 := by
  have h : (lo8 x).toBitVec = (x.toBitVec.signExtend 8).signExtend 32 := by rw [lo8, Int8.toBitVec_toInt32, Int32.toBitVec_toInt8]
  rw [Int32.toBitVec_and, BitVec.toNat_and, h]
  have e : ((x.toBitVec.signExtend 8).signExtend 32).toNat % 256 = x.toBitVec.toNat % 256 := by
    rw [BitVec.toNat_signExtend]
    have hlt := x.toBitVec.isLt
    simp only [BitVec.toNat_setWidth, BitVec.toNat_signExtend]
    split <;> split <;> omega
  rw [← e]
  exact Nat.and_two_pow_sub_one_eq_mod _ 8
theorem pair_says {c : Int32} (h0 : ¬ c < 0) (h1 : ¬ 65535 < c) : pairCh (lo8 c) (hi8 c) = c := by
  rw [Int32.lt_iff_toInt_lt] at h0 h1
  have e0 : (0 : Int32).toInt = 0 := rfl
  have e1 : (65535 : Int32).toInt = 65535 := rfl
  have hc : c.toInt = c.toBitVec.toNat := by
    have := c.toBitVec.isLt
    have e : c.toInt = c.toBitVec.toInt := rfl
    rw [e] at h0 h1
    rw [e]
    rw [BitVec.toInt_eq_toNat_cond] at h0 h1 ⊢
    split at h0 <;> split <;> omega
  have hn : c.toBitVec.toNat < 65536 := by omega
  have a1 := lo8_and c
  have a2 : (hi8 c &&& 255).toBitVec.toNat = c.toBitVec.toNat / 256 := by
    rw [hi8, lo8_and]
    have e : ((8 : Int32) &&& 31) = 8 := by decide
    rw [e, Int32.toBitVec_shiftRight]
    have e2 : ((8 : Int32).toBitVec.smod 32) = 8#32 := by decide
    rw [e2, BitVec.sshiftRight_eq', BitVec.toNat_sshiftRight_of_msb_false (by rw [BitVec.msb_eq_false_iff_two_mul_lt]; omega)]
    show c.toBitVec.toNat >>> 8 % 256 = _
    rw [Nat.shiftRight_eq_div_pow]
    omega
  unfold pairCh
  apply Int32.toBitVec_inj.mp
  apply BitVec.eq_of_toNat_eq
  have f0 : ((0 : Int32) &&& 31) = 0 := by decide
  have f8 : ((8 : Int32) &&& 31) = 8 := by decide
  rw [f0, f8]
  have g : (((lo8 c &&& 255) <<< (0 : Int32)) ||| ((hi8 c &&& 255) <<< (8 : Int32))).toBitVec.toNat = c.toBitVec.toNat := by
    rw [Int32.toBitVec_or, Int32.toBitVec_shiftLeft, Int32.toBitVec_shiftLeft]
    have s0 : ((0 : Int32).toBitVec.smod 32) = 0#32 := by decide
    have s8 : ((8 : Int32).toBitVec.smod 32) = 8#32 := by decide
    rw [s0, s8, BitVec.toNat_or]
    simp only [BitVec.shiftLeft_eq', BitVec.toNat_shiftLeft, a1, a2]
    show (c.toBitVec.toNat % 256) <<< 0 % 2 ^ 32 ||| (c.toBitVec.toNat / 256) <<< 8 % 2 ^ 32 = _
    rw [Nat.shiftLeft_zero, Nat.mod_eq_of_lt (show c.toBitVec.toNat % 256 < 2 ^ 32 by omega), Nat.mod_eq_of_lt (show (c.toBitVec.toNat / 256) <<< 8 < 2 ^ 32 by rw [Nat.shiftLeft_eq]; omega), Nat.or_comm, ← Nat.shiftLeft_add_eq_or_of_lt (by omega), Nat.shiftLeft_eq]
    omega
  show BitVec.toNat (((((lo8 c &&& 255) <<< (0 : Int32)) ||| ((hi8 c &&& 255) <<< (8 : Int32))).toBitVec.setWidth 16).setWidth 32) = _
  rw [BitVec.toNat_setWidth, BitVec.toNat_setWidth, g]
  omega
end StrChars
namespace StrChars
open Jvm Sem ClassFile Op Lib Jvm.Stand Jvm.Free.XT Jvm.Free.ALB Jvm.Free.JM Jvm.Free
open Jvm.Lib.Cold (StaticIs)
/-- the array's cell V codes the n chars f 0 .. f (n - 1) by the coder cd, as the JDK does: coder 1 just where some char is above 255 -/
def Cod (cd : Int32) (n : Nat) (f : Nat → Int32) (V : Cell) : Prop := (cd = 0 ∧ V.slots.size = n ∧ ∀ j, j < n → V.slots[j]? = some (.int (lo8 (f j))) ∧ ¬ 255 < f j) ∨ (cd = 1 ∧ V.slots.size = 2 * n ∧ (∀ j, j < n → V.slots[2 * j]? = some (.int (lo8 (f j))) ∧ V.slots[2 * j + 1]? = some (.int (hi8 (f j)))) ∧ ∃ j, j < n ∧ 255 < f j)
/-- **x is a String of the n chars f 0 .. f (n - 1)**, Latin-1 or UTF-16; its array at t has the cell V -/
def Txt (x t : Addr) (V : Cell) (cd : Int32) (n : Nat) (f : Nat → Int32) (U : State) : Prop := Exact "java/lang/String" x U ∧ Has x "java/lang/String" "value" "[B" (.ref t) U ∧ Has x "java/lang/String" "coder" "B" (.int cd) U ∧ XT.Arr .byte t V U ∧ Cod cd n f V ∧ ∀ j, j < n → ¬ f j < 0 ∧ ¬ 65535 < f j
theorem Txt.mv {x t : Addr} {V : Cell} {cd : Int32} {n : Nat} {f : Nat → Int32} {U U' : State} (h : Txt x t V cd n f U) (hal : U.vm.Alike U'.vm) (hh : U'.heap = U.heap) : Txt x t V cd n f U' := ⟨h.1.mv hal hh, h.2.1.mv hal hh, h.2.2.1.mv hal hh, h.2.2.2.1.mv hal hh, h.2.2.2.2⟩
end StrChars
namespace StrChars.Road
open Jvm Sem ClassFile Op Lib Jvm.Stand Jvm.Free Jvm.Free.XT
open Jvm.Lib.Cold (StaticIs)
theorem consq {a : Array Value} {s : State} {c : Jvm.Cond} {L : List Jvm.Cond} (h0 : c.before a s = true) (h : ∀ w ∈ L, w.before a s = true) : ∀ w ∈ c :: L, w.before a s = true := fun w hw => (List.mem_cons.mp hw).elim (fun e => e ▸ h0) (h w)
/-- the bytes of the chars cs, low before high -/
def wideBytes : List Int32 → List Value
  | [] => []
  | c :: cs => .int (lo8 c) :: .int (hi8 c) :: wideBytes cs
theorem wide_lo (d : Value) : ∀ (cs : List Int32) (j : Nat), j < cs.length → (wideBytes cs).getD (2 * j) d = .int (lo8 (cs.getD j 0))
  | [], j, h => absurd h (Nat.not_lt_zero j)
  | c :: cs, 0, _ => rfl
  | c :: cs, j + 1, h => by
    have q := wide_lo d cs j (by simpa using h)
    rw [show 2 * (j + 1) = 2 * j + 1 + 1 from by omega]
    simpa [wideBytes] using q
theorem wide_hi (d : Value) : ∀ (cs : List Int32) (j : Nat), j < cs.length → (wideBytes cs).getD (2 * j + 1) d = .int (hi8 (cs.getD j 0))
  | [], j, h => absurd h (Nat.not_lt_zero j)
  | c :: cs, 0, _ => rfl
  | c :: cs, j + 1, h => by
    have q := wide_hi d cs j (by simpa using h)
    rw [show 2 * (j + 1) + 1 = 2 * j + 1 + 1 + 1 from by omega]
    simpa [wideBytes] using q
theorem low_at (d : Value) (cs : List Int32) (j : Nat) (h : j < cs.length) : (cs.map fun c => Value.int (lo8 c)).getD j d = .int (lo8 (cs.getD j 0)) := by
  simp [List.getD_eq_getElem?_getD, h]
/-- an array of N2 bytes vs codes the chars cs by the coder cd -/
def CodA (cs : List Int32) (cd N2 : Int32) (vs : List Value) : Prop := (cd = 0 ∧ N2 = Int32.ofNat cs.length ∧ vs = (cs.map fun c => Value.int (lo8 c)) ∧ ∀ c ∈ cs, ¬ 255 < c) ∨ (cd = 1 ∧ N2 = Int32.ofNat (2 * cs.length) ∧ vs = wideBytes cs ∧ ∃ c ∈ cs, 255 < c)
theorem CodA.cod {cs : List Int32} {cd N2 : Int32} {vs : List Value} {V : Cell} (h : CodA cs cd N2 vs) (hn : 2 * cs.length < 2 ^ 31) (hs : V.slots.size = N2.toNatClampNeg) (hv : RoadKit.Has V vs (.int 0)) : Cod cd cs.length (fun j => cs.getD j 0) V := by
  rcases h with ⟨rfl, rfl, rfl, h⟩ | ⟨rfl, rfl, rfl, c, hc, hw⟩
  · rw [n32 (by omega)] at hs
    exact Or.inl ⟨rfl, hs, fun j hj => ⟨by rw [hv j (by omega), low_at _ _ _ hj], by
      have e : cs.getD j 0 = cs[j] := by simp [List.getD_eq_getElem?_getD, hj]
      show ¬ 255 < cs.getD j 0
      rw [e]; exact h _ (List.getElem_mem _)⟩⟩
  · rw [n32 (by omega)] at hs
    obtain ⟨j, hj, rfl⟩ := List.getElem_of_mem hc
    exact Or.inr ⟨rfl, hs, fun j hj => ⟨by rw [hv _ (by omega), wide_lo _ _ _ hj], by rw [hv _ (by omega), wide_hi _ _ _ hj]⟩, j, hj, by
      have e : cs.getD j 0 = cs[j] := by simp [List.getD_eq_getElem?_getD, hj]
      show 255 < cs.getD j 0
      rw [e]; exact hw⟩
/-- an object of exactly java/lang/String, its two fields found: as the laws ask it -/
theorem strObj {Z U : State} {a0 : Array Value} {kI : Nat} (wi : (Jvm.Cond.instantiable ST kI).before a0 Z = true) (al : Z.vm.Alike U.vm) {x : Addr} {v0 c0 : Value} (E : RoadKit.Exa Z U.heap x ST) (V : RoadKit.Fld Z U.heap x ST "value" "[B" v0) (C : RoadKit.Fld Z U.heap x ST "coder" "B" c0) :
    ∃ (D : Cell) (fV fC : Field), Blank ST x D U ∧ Found ST "value" "[B" fV U ∧ Found ST "coder" "B" fC U ∧ D.slots[fV.slot]? = some v0 ∧ D.slots[fC.slot]? = some c0 ∧ RoadKit.slotOf Z ST "value" "[B" = fV.slot ∧ RoadKit.slotOf Z ST "coder" "B" = fC.slot := by
  obtain ⟨D, cfV, kV, iV, fV, hD, gV, stV, knV, obV, asV, slV⟩ := V
  obtain ⟨D', cfC, kC, iC, fC, hD', gC, stC, -, -, asC, slC⟩ := C
  cases hD.symm.trans hD'
  obtain ⟨D2, kD, e1, e2, e3, e4, e5⟩ := E
  cases hD.symm.trans e1
  obtain ⟨c2, k2, i1, i2, i3, -⟩ := Cond.instantiable_spec wi
  cases e2.symm.trans i1
  cases e3.symm.trans i2
  obtain ⟨kU, u1, u2⟩ := al.2.2 _ _ e3
  exact ⟨D, fV, fC, ⟨hD, ⟨knV, fun q hq => by rw [hq] at obV; cases obV⟩, by rw [al.findClass]; exact e2, kU, u1, by rw [u2]; exact i3, by rw [u2]; exact e5 i3⟩, ⟨SBG.found_only al ⟨cfV, kV, iV, gV⟩, stV⟩, ⟨SBG.found_only al ⟨cfC, kC, iC, gC⟩, stC⟩, slV, slC, by simp [RoadKit.slotOf, gV], by simp [RoadKit.slotOf, gC]⟩
theorem sta_is {Z U : State} (al : Z.vm.Alike U.vm) {C n d : String} {v : Value} (S : RoadKit.Sta Z U.heap C n d v) : StaticIs U C n d v := by
  obtain ⟨cfS, iS, kS, fS, st, cS, t1, t2, t3, t4, t5, t6, t7⟩ := S
  exact StaticIs.there (s := { Z with heap := U.heap }) ⟨cfS, iS, kS, fS, st, cS, t1, t2, t3, t4, t5, (fun q => by rw [q] at t6; cases t6), t7⟩ al rfl
end StrChars.Road
namespace StrChars
open Jvm Sem ClassFile Op Lib Jvm.Stand Jvm.Free.XT Jvm.Free.ALB Jvm.Free.JM Jvm.Free
open Jvm.Lib.Cold (StaticIs)
/-- what place i of a byte[]'s cell holds -/
def yv (A : Cell) (i : Nat) : Int32 := match A.slots[i]? with | some (.int x) => x | _ => 0
theorem yv_get {a : Addr} {A : Cell} {U : State} (h : XT.Arr .byte a A U) (ht : Typed .byte A) {i : Nat} (hi : i < A.slots.size) : A.slots[i]? = some (.int (yv A i)) := by
  have e := Array.getElem?_eq_getElem hi
  have f := ht i _ e
  unfold yv; rw [e]
  generalize A.slots[i] = v at f
  cases v <;> simp [fits] at f ⊢
/-- the two arrays are equal, place for place -/
def EqC (A B : Cell) : Prop := A.slots.size = B.slots.size ∧ ∀ i, i < A.slots.size → yv A i = yv B i
/-- a boolean that says whether p -/
def Says01 (q : Prop) (r : Option Value) (s u : State) : Prop := ∃ v : Int32, r = some (.int v) ∧ u.heap = s.heap ∧ ((v = 1 ∧ q) ∨ (v = 0 ∧ ¬ q))
theorem Says01.mv {q : Prop} : ∀ r (U U' V V' : State), U'.heap = U.heap → V.vm.Alike V'.vm → V'.heap = V.heap → Says01 q r U V → Says01 q r U' V' :=
  fun r U U' V V' h1 _ h2 ⟨v, a, b, c⟩ => ⟨v, a, by rw [h1, h2]; exact b, c⟩
namespace LEq
def yN : MethodName := ⟨"java/lang/StringLatin1", "equals", "([B[B)Z"⟩
abbrev yB : ByteArray := jdk_43_method_13_code
theorem d0 : decode yB 0 = .ok (.aload_n 0, 1) := by decide +kernel
theorem d1 : decode yB 1 = .ok (.arraylength, 1) := by decide +kernel
theorem d2 : decode yB 2 = .ok (.aload_n 1, 1) := by decide +kernel
theorem d3 : decode yB 3 = .ok (.arraylength, 1) := by decide +kernel
theorem d4 : decode yB 4 = .ok (.if_icmp (.ne) 30, 3) := by decide +kernel
theorem d7 : decode yB 7 = .ok (.iconst 0, 1) := by decide +kernel
theorem d8 : decode yB 8 = .ok (.istore_n 2, 1) := by decide +kernel
theorem d9 : decode yB 9 = .ok (.iload_n 2, 1) := by decide +kernel
theorem d10 : decode yB 10 = .ok (.aload_n 0, 1) := by decide +kernel
theorem d11 : decode yB 11 = .ok (.arraylength, 1) := by decide +kernel
theorem d12 : decode yB 12 = .ok (.if_icmp (.ge) 20, 3) := by decide +kernel
theorem d15 : decode yB 15 = .ok (.aload_n 0, 1) := by decide +kernel
theorem d16 : decode yB 16 = .ok (.iload_n 2, 1) := by decide +kernel
theorem d17 : decode yB 17 = .ok (.baload, 1) := by decide +kernel
theorem d18 : decode yB 18 = .ok (.aload_n 1, 1) := by decide +kernel
theorem d19 : decode yB 19 = .ok (.iload_n 2, 1) := by decide +kernel
theorem d20 : decode yB 20 = .ok (.baload, 1) := by decide +kernel
theorem d21 : decode yB 21 = .ok (.if_icmp (.eq) 5, 3) := by decide +kernel
theorem d24 : decode yB 24 = .ok (.iconst 0, 1) := by decide +kernel
theorem d25 : decode yB 25 = .ok (.ireturn, 1) := by decide +kernel
theorem d26 : decode yB 26 = .ok (.iinc 2 1, 3) := by decide +kernel
theorem d29 : decode yB 29 = .ok (.goto (-20), 3) := by decide +kernel
theorem d32 : decode yB 32 = .ok (.iconst 1, 1) := by decide +kernel
theorem d33 : decode yB 33 = .ok (.ireturn, 1) := by decide +kernel
theorem d34 : decode yB 34 = .ok (.iconst 0, 1) := by decide +kernel
theorem d35 : decode yB 35 = .ok (.ireturn, 1) := by decide +kernel
def site : List Cond := []
def tab : Cond := tabOf yN yB 3 (some .boolean) site
def P (a : Addr) (A : Cell) (b : Addr) (B : Cell) (args : Array Value) (s : State) : Prop := args = #[.ref a, .ref b] ∧ XT.Arr .byte a A s ∧ Typed .byte A ∧ XT.Arr .byte b B s ∧ Typed .byte B
/-- whether two byte[] are equal, place for place -/
theorem law (l : Launch) (a : Addr) (A : Cell) (b : Addr) (B : Cell) : Law l yN 2 2 0 0 yB 3 (some .boolean) site (P a A b B) (Says01 (EqC A B)) [] 0 0 := by
  refine Law.of_walk (plainFor_of_name (by decide +kernel)) (by decide +kernel) (by decide +kernel) (by decide) (fun _ _ h => by rw [h.1]; rfl) (fun _ U U' hal hh h => ⟨h.1, h.2.1.mv hal hh, h.2.2.1, h.2.2.2.1.mv hal hh, h.2.2.2.2⟩) (fun r U U' V V' h1 hal h2 h => Says01.mv r U U' V V' h1 hal h2 h) ?_
  intro p e s m args below meth c s₁ X0 hexec hbytes hml hret hlk hnm hown hh0 W hP
  obtain ⟨rfl, hA, tA, hB, tB⟩ := hP
  have a31 := hA.2.2.2
  have b31 := hB.2.2.2
  have hA0 := hA.mv X0.warmed.alike hh0
  have hB0 := hB.mv X0.warmed.alike hh0
  have c1 : Steps p.tables e below (s₁.setTop (entryFrame m #[.ref a, .ref b] 3)) (s₁.setTop (mkF m 0 #[.val (.ref a), .val (.ref b), .unset] [])) := entry rfl
  have c2 : Steps p.tables e below (s₁.setTop (entryFrame m #[.ref a, .ref b] 3)) (s₁.setTop (mkF m 4 #[.val (.ref a), .val (.ref b), .unset] [.int (Int32.ofNat B.slots.size), .int (Int32.ofNat A.slots.size)])) := c1.trans (by
    refine XS.aloadN X0.here hexec rfl (hb hbytes d0) rfl rfl ?_
    refine X0.alen hexec hA0 rfl rfl (hb hbytes d1) ?_
    refine XS.aloadN X0.here hexec rfl (hb hbytes d2) rfl rfl ?_
    refine X0.alen hexec hB0 rfl rfl (hb hbytes d3) ?_
    exact Steps.refl _)
  by_cases hs : A.slots.size = B.slots.size
  · have c3 : Steps p.tables e below (s₁.setTop (entryFrame m #[.ref a, .ref b] 3)) (s₁.setTop (mkF m 9 #[.val (.ref a), .val (.ref b), .val (.int 0)] [])) := c2.trans (by
      refine XS.icmpNo X0.here hexec rfl (hb hbytes d4) rfl (ii_ne_f (by rw [hs])) ?_
      refine iconstV X0.here hexec rfl 0 (hb hbytes d7) (by decide) ?_
      refine XS.istoreN X0.here hexec rfl (hb hbytes d8) rfl rfl ?_
      exact Steps.refl _)
    have loop : ∀ (r i : Nat), i + r = A.slots.size → (∀ j, j < i → yv A j = yv B j) → Steps p.tables e below (s₁.setTop (entryFrame m #[.ref a, .ref b] 3)) (s₁.setTop (mkF m 9 #[.val (.ref a), .val (.ref b), .val (.int (Int32.ofNat i))] [])) → ∃ (pc : Nat) (Ls : Array Slot) (v : Int32), (pc = 25 ∨ pc = 33) ∧ ((v = 1 ∧ EqC A B) ∨ (v = 0 ∧ ¬ EqC A B)) ∧ Steps p.tables e below (s₁.setTop (entryFrame m #[.ref a, .ref b] 3)) (s₁.setTop (mkF m pc Ls [.int v])) := by
      intro r
      induction r with
      | zero =>
        intro i hi he cl
        exact ⟨33, _, 1, Or.inr rfl, Or.inl ⟨rfl, hs, fun j hj => he j (by omega)⟩, cl.trans (by
          refine XS.iloadN X0.here hexec rfl (hb hbytes d9) rfl ?_
          refine XS.aloadN X0.here hexec rfl (hb hbytes d10) rfl rfl ?_
          refine X0.alen hexec hA0 rfl rfl (hb hbytes d11) ?_
          refine XS.icmpYes X0.here hexec rfl (pc0 := 12) rfl (hb hbytes d12) rfl (ii_ge_t (nlt32 (by omega) (by omega))) (by decide) rfl ?_
          refine iconstV X0.here hexec rfl 1 (hb hbytes d32) (by decide) ?_
          exact Steps.refl _)⟩
      | succ r ih =>
        intro i hi he cl
        have c4 : Steps p.tables e below (s₁.setTop (entryFrame m #[.ref a, .ref b] 3)) (s₁.setTop (mkF m 21 #[.val (.ref a), .val (.ref b), .val (.int (Int32.ofNat i))] [.int (yv B i), .int (yv A i)])) := cl.trans (by
          refine XS.iloadN X0.here hexec rfl (hb hbytes d9) rfl ?_
          refine XS.aloadN X0.here hexec rfl (hb hbytes d10) rfl rfl ?_
          refine X0.alen hexec hA0 rfl rfl (hb hbytes d11) ?_
          refine XS.icmpNo X0.here hexec rfl (hb hbytes d12) rfl (ii_ge_f (lt32 (by omega) (by omega))) ?_
          refine XS.aloadN X0.here hexec rfl (hb hbytes d15) rfl rfl ?_
          refine XS.iloadN X0.here hexec rfl (hb hbytes d16) rfl ?_
          refine X0.aget hexec hA0 rfl (yv_get hA tA (i := i) (by omega)) rfl rfl (hb hbytes d17) ?_
          refine XS.aloadN X0.here hexec rfl (hb hbytes d18) rfl rfl ?_
          refine XS.iloadN X0.here hexec rfl (hb hbytes d19) rfl ?_
          refine X0.aget hexec hB0 rfl (yv_get hB tB (i := i) (by omega)) rfl rfl (hb hbytes d20) ?_
          exact Steps.refl _)
        by_cases hv : yv A i = yv B i
        · have c5 : Steps p.tables e below (s₁.setTop (entryFrame m #[.ref a, .ref b] 3)) (s₁.setTop (mkF m 9 #[.val (.ref a), .val (.ref b), .val (.int (Int32.ofNat i + 1))] [])) := c4.trans (by
            refine XS.icmpYes X0.here hexec rfl (pc0 := 21) rfl (hb hbytes d21) rfl (ii_eq_t hv) (by decide) rfl ?_
            refine iincV X0.here hexec rfl 1 (hb hbytes d26) (by decide) rfl rfl ?_
            refine XS.goto X0.here hexec rfl (pc0 := 29) rfl (hb hbytes d29) (by decide) rfl ?_
            exact Steps.refl _)
          rw [succ32] at c5
          exact ih (i + 1) (by omega) (fun j hj => by
            by_cases e : j = i
            · rw [e]; exact hv
            · exact he j (by omega)) c5
        · exact ⟨25, _, 0, Or.inl rfl, Or.inr ⟨rfl, fun q => hv (q.2 i (by omega))⟩, c4.trans (by
            refine XS.icmpNo X0.here hexec rfl (hb hbytes d21) rfl (ii_eq_f hv) ?_
            refine iconstV X0.here hexec rfl 0 (hb hbytes d24) (by decide) ?_
            exact Steps.refl _)⟩
    obtain ⟨pc, Ls, v, hpc, hv, cz⟩ := loop A.slots.size 0 (by omega) (fun j hj => absurd hj (Nat.not_lt_zero j)) c3
    have nv : narrow .boolean (.int v) = .int v := by rcases hv with ⟨rfl, -⟩ | ⟨rfl, -⟩ <;> rfl
    rcases hpc with rfl | rfl
    · exact ⟨s₁, some (.int v), _, _, _, X0, rfl, rfl, rfl, (fun h => by cases h), ⟨v, rfl, hh0, hv⟩, fun fs hl => cz.trans (X0.ireturnOut hexec hret nv (Or.inr (Or.inl rfl)) (hb hbytes d25) hl)⟩
    · exact ⟨s₁, some (.int v), _, _, _, X0, rfl, rfl, rfl, (fun h => by cases h), ⟨v, rfl, hh0, hv⟩, fun fs hl => cz.trans (X0.ireturnOut hexec hret nv (Or.inr (Or.inl rfl)) (hb hbytes d33) hl)⟩
  · have c3 : Steps p.tables e below (s₁.setTop (entryFrame m #[.ref a, .ref b] 3)) (s₁.setTop (mkF m 35 #[.val (.ref a), .val (.ref b), .unset] [.int 0])) := c2.trans (by
      refine XS.icmpYes X0.here hexec rfl (pc0 := 4) rfl (hb hbytes d4) rfl (ii_ne_t (ne32 a31 b31 hs)) (by decide) rfl ?_
      refine iconstV X0.here hexec rfl 0 (hb hbytes d34) (by decide) ?_
      exact Steps.refl _)
    exact ⟨s₁, some (.int 0), _, _, _, X0, rfl, rfl, rfl, (fun h => by cases h), ⟨0, rfl, hh0, Or.inr ⟨rfl, fun q => hs q.1⟩⟩, fun fs hl => c3.trans (X0.ireturnOut hexec hret rfl (Or.inr (Or.inl rfl)) (hb hbytes d35) hl)⟩
end LEq
theorem Cod.ty {cd : Int32} {n : Nat} {f : Nat → Int32} {V : Cell} (h : Cod cd n f V) : Typed .byte V := fun i v hv => by
  have hi : i < V.slots.size := (Array.getElem?_eq_some_iff.mp hv).1
  rcases h with ⟨-, k1, k2⟩ | ⟨-, k1, k2, -⟩
  · rw [(k2 i (by omega)).1] at hv; cases hv; exact fits_lo8 _
  · rcases Nat.mod_two_eq_zero_or_one i with e | e
    · obtain ⟨j, rfl⟩ : ∃ j, i = 2 * j := ⟨i / 2, by omega⟩
      rw [(k2 j (by omega)).1] at hv; cases hv; exact fits_lo8 _
    · obtain ⟨j, rfl⟩ : ∃ j, i = 2 * j + 1 := ⟨i / 2, by omega⟩
      rw [(k2 j (by omega)).2] at hv; cases hv; exact fits_lo8 _
/-- the same text -/
def SameT (n : Nat) (f : Nat → Int32) (k : Nat) (g : Nat → Int32) : Prop := n = k ∧ ∀ j, j < n → f j = g j
theorem lo8_inj {x y : Int32} (h0 : ¬ x < 0) (h1 : ¬ 255 < x) (k0 : ¬ y < 0) (k1 : ¬ 255 < y) (h : lo8 x = lo8 y) : x = y := by
  rw [← lo8_mask h0 h1, ← lo8_mask k0 k1, h]
/-- arrays coded by one coder are equal just where the texts are -/
theorem Cod.eqv {cd : Int32} {n k : Nat} {f g : Nat → Int32} {V V' : Cell} (h : Cod cd n f V) (h' : Cod cd k g V') (hf : ∀ j, j < n → ¬ f j < 0 ∧ ¬ 65535 < f j) (hg : ∀ j, j < k → ¬ g j < 0 ∧ ¬ 65535 < g j) : EqC V V' ↔ SameT n f k g := by
  have yvv : ∀ {W : Cell} {i : Nat} {x : Int32}, W.slots[i]? = some (.int x) → yv W i = x := fun q => by unfold yv; rw [q]
  rcases h with ⟨rfl, k1, k2⟩ | ⟨rfl, k1, k2, -⟩
  · rcases h' with ⟨-, m1, m2⟩ | ⟨e, -⟩
    · constructor
      · rintro ⟨e1, e2⟩
        refine ⟨by omega, fun j hj => ?_⟩
        have q := e2 j (by omega)
        rw [yvv (k2 j hj).1, yvv (m2 j (by omega)).1] at q
        exact lo8_inj (hf j hj).1 (k2 j hj).2 (hg j (by omega)).1 (m2 j (by omega)).2 q
      · rintro ⟨rfl, e2⟩
        refine ⟨by omega, fun j hj => ?_⟩
        rw [yvv (k2 j (by omega)).1, yvv (m2 j (by omega)).1, e2 j (by omega)]
    · exact absurd e (by decide)
  · rcases h' with ⟨e, -⟩ | ⟨-, m1, m2, -⟩
    · exact absurd e (by decide)
    · constructor
      · rintro ⟨e1, e2⟩
        refine ⟨by omega, fun j hj => ?_⟩
        have q1 := e2 (2 * j) (by omega)
        have q2 := e2 (2 * j + 1) (by omega)
        rw [yvv (k2 j hj).1, yvv (m2 j (by omega)).1] at q1
        rw [yvv (k2 j hj).2, yvv (m2 j (by omega)).2] at q2
        rw [← pair_says (hf j hj).1 (hf j hj).2, ← pair_says (hg j (by omega)).1 (hg j (by omega)).2, q1, q2]
      · rintro ⟨rfl, e2⟩
        refine ⟨by omega, fun i hi => ?_⟩
        rcases Nat.mod_two_eq_zero_or_one i with e | e
        · obtain ⟨j, rfl⟩ : ∃ j, i = 2 * j := ⟨i / 2, by omega⟩
          rw [yvv (k2 j (by omega)).1, yvv (m2 j (by omega)).1, e2 j (by omega)]
        · obtain ⟨j, rfl⟩ : ∃ j, i = 2 * j + 1 := ⟨i / 2, by omega⟩
          rw [yvv (k2 j (by omega)).2, yvv (m2 j (by omega)).2, e2 j (by omega)]
/-- two codings differ: so do the texts -/
theorem Cod.dif {cd cd' : Int32} {n k : Nat} {f g : Nat → Int32} {V V' : Cell} (h : Cod cd n f V) (h' : Cod cd' k g V') (hne : ¬ cd = cd') : ¬ SameT n f k g := by
  rintro ⟨rfl, e⟩
  rcases h with ⟨rfl, -, k2⟩ | ⟨rfl, -, -, j, hj, hw⟩
  · rcases h' with ⟨rfl, -⟩ | ⟨-, -, -, j, hj, hw⟩
    · exact hne rfl
    · exact (k2 j hj).2 (by rw [e j hj]; exact hw)
  · rcases h' with ⟨-, -, m2⟩ | ⟨rfl, -⟩
    · exact (m2 j hj).2 (by rw [← e j hj]; exact hw)
    · exact hne rfl
/-- an object of exactly C is an instance of C -/
theorem cinst {p : Program} {l : Launch} {e : Env} {R : Room} {s : State} {m : MethodId} {args : Array Value} {below : List Frame} {meth : Method} {c : Code} {T : State} {locs : List Loc} {cells slots : Nat} (X : Stand p l e R s m args below meth c T locs cells slots) (hexec : p.tables.exec = Jvm.exec) {own C : String} {index : Nat} (hown : s.vm.findClass own = some m.cls) (hlink : (Cond.classLink own index C).before args s = true) {a : Addr} (hE : Exact C a T)
    {g : JFrame} (hg : g.method = m) {rest : List Value} (hstack : g.stack = .ref a :: rest) (hdg : decode c.code g.pc = .ok (.instanceof index, 3)) :
    ∃ T', Stand p l e R s m args below meth c T' locs cells slots ∧ T'.heap = T.heap ∧ ∀ target, Steps p.tables e below (T'.setTop { g with pc := g.pc + 3, stack := .int 1 :: rest }) target → Steps p.tables e below (T.setTop g) target := by
  obtain ⟨cB, h1, D, h2, h3, h4⟩ := hE
  have h1' : s.vm.findClass C = some cB := by rw [← X.warmed.alike.findClass]; exact h1
  obtain ⟨vm', X', st⟩ := X.instanceofYes hexec hown hlink h2 h4 h1' (by rw [h3]; exact Jvm.Free.SB.assignable_self _ _) hg hstack hdg
  exact ⟨_, X', rfl, st⟩
theorem cself {p : Program} {l : Launch} {e : Env} {R : Room} {s : State} {m : MethodId} {args : Array Value} {below : List Frame} {meth : Method} {c : Code} {T : State} {locs : List Loc} {cells slots : Nat} (X : Stand p l e R s m args below meth c T locs cells slots) (hexec : p.tables.exec = Jvm.exec) {own C : String} {index : Nat} (hown : s.vm.findClass own = some m.cls) (hlink : (Cond.classLink own index C).before args s = true) {a : Addr} (hE : Exact C a T)
    {g : JFrame} (hg : g.method = m) {rest : List Value} (hstack : g.stack = .ref a :: rest) (hdg : decode c.code g.pc = .ok (.checkcast index, 3)) :
    ∃ T', Stand p l e R s m args below meth c T' locs cells slots ∧ T'.heap = T.heap ∧ ∀ target, Steps p.tables e below (T'.setTop { g with pc := g.pc + 3, stack := .ref a :: rest }) target → Steps p.tables e below (T.setTop g) target := by
  obtain ⟨cB, h1, D, h2, h3, h4⟩ := hE
  have h1' : s.vm.findClass C = some cB := by rw [← X.warmed.alike.findClass]; exact h1
  obtain ⟨vm', X', st⟩ := X.checkcastYes hexec hown hlink h2 h4 h1' (by rw [h3]; exact Jvm.Free.SB.assignable_self _ _) hg hstack hdg
  exact ⟨_, X', rfl, fun t h => st t (by rw [← hstack] at h; exact h)⟩
namespace SEq
def yN : MethodName := ⟨"java/lang/String", "equals", "(Ljava/lang/Object;)Z"⟩
abbrev yB : ByteArray := jdk_42_method_66_code
theorem d0 : decode yB 0 = .ok (.aload_n 0, 1) := by decide +kernel
theorem d1 : decode yB 1 = .ok (.aload_n 1, 1) := by decide +kernel
theorem d2 : decode yB 2 = .ok (.if_acmp (.ne) 5, 3) := by decide +kernel
theorem d5 : decode yB 5 = .ok (.iconst 1, 1) := by decide +kernel
theorem d6 : decode yB 6 = .ok (.ireturn, 1) := by decide +kernel
theorem d7 : decode yB 7 = .ok (.aload_n 1, 1) := by decide +kernel
theorem d8 : decode yB 8 = .ok (.instanceof 10, 3) := by decide +kernel
theorem d11 : decode yB 11 = .ok (.ifCond (.eq) 43, 3) := by decide +kernel
theorem d14 : decode yB 14 = .ok (.aload_n 1, 1) := by decide +kernel
theorem d15 : decode yB 15 = .ok (.checkcast 10, 3) := by decide +kernel
theorem d18 : decode yB 18 = .ok (.astore_n 2, 1) := by decide +kernel
theorem d19 : decode yB 19 = .ok (.getstatic 38, 3) := by decide +kernel
theorem d22 : decode yB 22 = .ok (.ifCond (.eq) 14, 3) := by decide +kernel
theorem d25 : decode yB 25 = .ok (.aload_n 0, 1) := by decide +kernel
theorem d26 : decode yB 26 = .ok (.getfield 15, 3) := by decide +kernel
theorem d29 : decode yB 29 = .ok (.aload_n 2, 1) := by decide +kernel
theorem d30 : decode yB 30 = .ok (.getfield 15, 3) := by decide +kernel
theorem d33 : decode yB 33 = .ok (.if_icmp (.ne) 21, 3) := by decide +kernel
theorem d36 : decode yB 36 = .ok (.aload_n 0, 1) := by decide +kernel
theorem d37 : decode yB 37 = .ok (.getfield 9, 3) := by decide +kernel
theorem d40 : decode yB 40 = .ok (.aload_n 2, 1) := by decide +kernel
theorem d41 : decode yB 41 = .ok (.getfield 9, 3) := by decide +kernel
theorem d44 : decode yB 44 = .ok (.invokestatic 541, 3) := by decide +kernel
theorem d47 : decode yB 47 = .ok (.ifCond (.eq) 7, 3) := by decide +kernel
theorem d50 : decode yB 50 = .ok (.iconst 1, 1) := by decide +kernel
theorem d51 : decode yB 51 = .ok (.goto 4, 3) := by decide +kernel
theorem d54 : decode yB 54 = .ok (.iconst 0, 1) := by decide +kernel
theorem d55 : decode yB 55 = .ok (.ireturn, 1) := by decide +kernel
def site : List Cond := [.classLink "java/lang/String" 10 "java/lang/String", .fieldLink "java/lang/String" 38 "java/lang/String" "COMPACT_STRINGS" "Z", .fieldLink "java/lang/String" 15 "java/lang/String" "coder" "B", .fieldLink "java/lang/String" 9 "java/lang/String" "value" "[B", LEq.tab] ++ staticW "java/lang/String" 541 LEq.yN
def tab : Cond := tabOf yN yB 3 (some .boolean) site
def P (x t : Addr) (V : Cell) (cd : Int32) (n : Nat) (f : Nat → Int32) (y t' : Addr) (V' : Cell) (cd' : Int32) (k : Nat) (g : Nat → Int32) (z : Int32) (args : Array Value) (s : State) : Prop := args = #[.ref x, .ref y] ∧ Txt x t V cd n f s ∧ Txt y t' V' cd' k g s ∧ StaticIs s "java/lang/String" "COMPACT_STRINGS" "Z" (.int z) ∧ ¬ z = 0
/-- equals(Object) of two Strings: whether the texts are the same -/
theorem law (l : Launch) (x t : Addr) (V : Cell) (cd : Int32) (n : Nat) (f : Nat → Int32) (y t' : Addr) (V' : Cell) (cd' : Int32) (k : Nat) (g : Nat → Int32) (z : Int32) : Law l yN 2 1 1 14 yB 3 (some .boolean) site (P x t V cd n f y t' V' cd' k g z) (Says01 (SameT n f k g)) [] 0 0 := by
  refine Law.of_walk (plainFor_of_name (by decide +kernel)) (by decide +kernel) (by decide +kernel) (by decide) (fun _ _ h => by rw [h.1]; rfl) (fun _ U U' hal hh h => ⟨h.1, h.2.1.mv hal hh, h.2.2.1.mv hal hh, h.2.2.2.1.there hal hh, h.2.2.2.2⟩) (fun r U U' V V' h1 hal h2 h => Says01.mv r U U' V V' h1 hal h2 h) ?_
  intro p e s m args below meth c s₁ X0 hexec hbytes hml hret hlk hnm hown hh0 W hP
  obtain ⟨rfl, hx, hy, s1, hz⟩ := hP
  have c1 : Steps p.tables e below (s₁.setTop (entryFrame m #[.ref x, .ref y] 3)) (s₁.setTop (mkF m 2 #[.val (.ref x), .val (.ref y), .unset] [.ref y, .ref x])) := Steps.trans (entry rfl) (by
    show Steps p.tables e below (s₁.setTop (mkF m 0 #[.val (.ref x), .val (.ref y), .unset] [])) _
    refine XS.aloadN X0.here hexec rfl (hb hbytes d0) rfl rfl ?_
    refine XS.aloadN X0.here hexec rfl (hb hbytes d1) rfl rfl ?_
    exact Steps.refl _)
  by_cases hxy : x = y
  · have c2 : Steps p.tables e below (s₁.setTop (entryFrame m #[.ref x, .ref y] 3)) (s₁.setTop (mkF m 6 #[.val (.ref x), .val (.ref y), .unset] [.int 1])) := c1.trans (by
      refine acmpNo X0.here hexec rfl (hb hbytes d2) rfl rfl rfl (by simp [acmp, hxy]) ?_
      refine iconstV X0.here hexec rfl 1 (hb hbytes d5) (by decide) ?_
      exact Steps.refl _)
    subst hxy
    have ec : cd = cd' := by
      obtain ⟨D, fd, a1, a2, a3⟩ := hx.2.2.1
      obtain ⟨D', fd', b1, b2, b3⟩ := hy.2.2.1
      cases a1.symm.trans b1
      obtain ⟨q1, q2, q3, q4⟩ := a2.1
      obtain ⟨r1, r2, r3, r4⟩ := b2.1
      cases q4.symm.trans r4
      cases a3.symm.trans b3; rfl
    have et : t = t' := by
      obtain ⟨D, fd, a1, a2, a3⟩ := hx.2.1
      obtain ⟨D', fd', b1, b2, b3⟩ := hy.2.1
      cases a1.symm.trans b1
      obtain ⟨q1, q2, q3, q4⟩ := a2.1
      obtain ⟨r1, r2, r3, r4⟩ := b2.1
      cases q4.symm.trans r4
      cases a3.symm.trans b3; rfl
    subst ec et
    have ev : V = V' := by cases hx.2.2.2.1.1.symm.trans hy.2.2.2.1.1; rfl
    subst ev
    have hs : SameT n f k g := (Cod.eqv hx.2.2.2.2.1 hy.2.2.2.2.1 hx.2.2.2.2.2 hy.2.2.2.2.2).mp ⟨rfl, fun _ _ => rfl⟩
    exact ⟨s₁, some (.int 1), _, _, _, X0, rfl, rfl, rfl, (fun h => by cases h), ⟨1, rfl, hh0, Or.inl ⟨rfl, hs⟩⟩, fun fs hl => c2.trans (X0.ireturnOut hexec hret rfl (Or.inr (Or.inl rfl)) (hb hbytes d6) hl)⟩
  · have c2 : Steps p.tables e below (s₁.setTop (entryFrame m #[.ref x, .ref y] 3)) (s₁.setTop (mkF m 8 #[.val (.ref x), .val (.ref y), .unset] [.ref y])) := c1.trans (by
      refine acmpYes X0.here hexec rfl (pc0 := 2) rfl (hb hbytes d2) rfl rfl rfl (by simp [acmp, hxy]) (by decide) rfl ?_
      refine XS.aloadN X0.here hexec rfl (hb hbytes d7) rfl rfl ?_
      exact Steps.refl _)
    obtain ⟨T3, X3, q3, st3⟩ := cinst X0 hexec hown (wk W (.classLink "java/lang/String" 10 "java/lang/String")) (hy.mv X0.warmed.alike hh0).1 (g := (mkF m 8 #[.val (.ref x), .val (.ref y), .unset] [.ref y])) rfl (rest := []) rfl (hb hbytes d8)
    have hh3 := q3.trans hh0
    have c4 : Steps p.tables e below (s₁.setTop (entryFrame m #[.ref x, .ref y] 3)) (T3.setTop (mkF m 15 #[.val (.ref x), .val (.ref y), .unset] [.ref y])) := (c2.trans (st3 _ (Steps.refl _))).trans (by
      refine XS.ifNo X3.here hexec rfl (hb hbytes d11) rfl (i0_eq_f (by decide)) ?_
      refine XS.aloadN X3.here hexec rfl (hb hbytes d14) rfl rfl ?_
      exact Steps.refl _)
    obtain ⟨T5, X5, q5, st5⟩ := cself X3 hexec hown (wk W (.classLink "java/lang/String" 10 "java/lang/String")) (hy.mv X3.warmed.alike hh3).1 (g := (mkF m 15 #[.val (.ref x), .val (.ref y), .unset] [.ref y])) rfl (rest := []) rfl (hb hbytes d15)
    have hh5 := q5.trans hh3
    have c6 : Steps p.tables e below (s₁.setTop (entryFrame m #[.ref x, .ref y] 3)) (T5.setTop (mkF m 19 #[.val (.ref x), .val (.ref y), .val (.ref y)] [])) := (c4.trans (st5 _ (Steps.refl _))).trans (by
      refine XS.astoreN X5.here hexec rfl (hb hbytes d18) rfl rfl rfl ?_
      exact Steps.refl _)
    obtain ⟨T7, X7, q7, st7⟩ := X5.sget hexec hown (wk W (.fieldLink "java/lang/String" 38 "java/lang/String" "COMPACT_STRINGS" "Z")) s1 (fun _ _ h => by rw [hh5]; exact h) (g := (mkF m 19 #[.val (.ref x), .val (.ref y), .val (.ref y)] [])) rfl (hb hbytes d19)
    have hh7 := q7.trans hh5
    have c8 : Steps p.tables e below (s₁.setTop (entryFrame m #[.ref x, .ref y] 3)) (T7.setTop (mkF m 26 #[.val (.ref x), .val (.ref y), .val (.ref y)] [.ref x])) := (c6.trans (st7 _ (Steps.refl _))).trans (by
      refine XS.ifNo X7.here hexec rfl (hb hbytes d22) rfl (i0_eq_f hz) ?_
      refine XS.aloadN X7.here hexec rfl (hb hbytes d25) rfl rfl ?_
      exact Steps.refl _)
    obtain ⟨T9, X9, q9, st9⟩ := X7.hget hexec hown (wk W (.fieldLink "java/lang/String" 15 "java/lang/String" "coder" "B")) (hx.mv X7.warmed.alike hh7).2.2.1 (g := (mkF m 26 #[.val (.ref x), .val (.ref y), .val (.ref y)] [.ref x])) rfl (rest := []) rfl (hb hbytes d26)
    have hh9 := q9.trans hh7
    have c10 : Steps p.tables e below (s₁.setTop (entryFrame m #[.ref x, .ref y] 3)) (T9.setTop (mkF m 30 #[.val (.ref x), .val (.ref y), .val (.ref y)] [.ref y, .int cd])) := (c8.trans (st9 _ (Steps.refl _))).trans (by
      refine XS.aloadN X9.here hexec rfl (hb hbytes d29) rfl rfl ?_
      exact Steps.refl _)
    obtain ⟨T11, X11, q11, st11⟩ := X9.hget hexec hown (wk W (.fieldLink "java/lang/String" 15 "java/lang/String" "coder" "B")) (hy.mv X9.warmed.alike hh9).2.2.1 (g := (mkF m 30 #[.val (.ref x), .val (.ref y), .val (.ref y)] [.ref y, .int cd])) rfl (rest := [.int cd]) rfl (hb hbytes d30)
    have hh11 := q11.trans hh9
    have c12 : Steps p.tables e below (s₁.setTop (entryFrame m #[.ref x, .ref y] 3)) (T11.setTop (mkF m 33 #[.val (.ref x), .val (.ref y), .val (.ref y)] [.int cd', .int cd])) := c10.trans (st11 _ (Steps.refl _))
    by_cases hcd : cd = cd'
    · subst hcd
      have c13 : Steps p.tables e below (s₁.setTop (entryFrame m #[.ref x, .ref y] 3)) (T11.setTop (mkF m 37 #[.val (.ref x), .val (.ref y), .val (.ref y)] [.ref x])) := c12.trans (by
        refine XS.icmpNo X11.here hexec rfl (hb hbytes d33) rfl (ii_ne_f rfl) ?_
        refine XS.aloadN X11.here hexec rfl (hb hbytes d36) rfl rfl ?_
        exact Steps.refl _)
      obtain ⟨T14, X14, q14, st14⟩ := X11.hget hexec hown (wk W (.fieldLink "java/lang/String" 9 "java/lang/String" "value" "[B")) (hx.mv X11.warmed.alike hh11).2.1 (g := (mkF m 37 #[.val (.ref x), .val (.ref y), .val (.ref y)] [.ref x])) rfl (rest := []) rfl (hb hbytes d37)
      have hh14 := q14.trans hh11
      have c15 : Steps p.tables e below (s₁.setTop (entryFrame m #[.ref x, .ref y] 3)) (T14.setTop (mkF m 41 #[.val (.ref x), .val (.ref y), .val (.ref y)] [.ref y, .ref t])) := (c13.trans (st14 _ (Steps.refl _))).trans (by
        refine XS.aloadN X14.here hexec rfl (hb hbytes d40) rfl rfl ?_
        exact Steps.refl _)
      obtain ⟨T16, X16, q16, st16⟩ := X14.hget hexec hown (wk W (.fieldLink "java/lang/String" 9 "java/lang/String" "value" "[B")) (hy.mv X14.warmed.alike hh14).2.1 (g := (mkF m 41 #[.val (.ref x), .val (.ref y), .val (.ref y)] [.ref y, .ref t])) rfl (rest := [.ref t]) rfl (hb hbytes d41)
      have hh16 := q16.trans hh14
      have c17 : Steps p.tables e below (s₁.setTop (entryFrame m #[.ref x, .ref y] 3)) (T16.setTop (mkF m 44 #[.val (.ref x), .val (.ref y), .val (.ref y)] [.ref t', .ref t])) := c15.trans (st16 _ (Steps.refl _))
      obtain ⟨v18, T18, X18, E18, g18⟩ := X16.callS hexec (LEq.law l t V t' V') hown (wks W (staticW "java/lang/String" 541 LEq.yN)) (wk W LEq.tab) (W := 0) (Nat.le_of_ble_eq_true rfl) (Nat.le_of_ble_eq_true rfl) (Nat.le_refl _) (Nat.le_refl _) (g := (mkF m 44 #[.val (.ref x), .val (.ref y), .val (.ref y)] [.ref t', .ref t])) rfl (by rw [hml]; rfl) c17 (argsL := [.ref t, .ref t']) (rest := []) rfl rfl (by show 2 * 0 + 0 ≤ _; decide) (hb hbytes d44) (⟨rfl, hx.2.2.2.1.mv X16.warmed.alike hh16, hx.2.2.2.2.1.ty, hy.2.2.2.1.mv X16.warmed.alike hh16, hy.2.2.2.2.1.ty⟩)
      obtain ⟨v, rfl, q18, hv⟩ := E18
      have iff := Cod.eqv hx.2.2.2.2.1 hy.2.2.2.2.1 hx.2.2.2.2.2 hy.2.2.2.2.2
      rcases hv with ⟨rfl, he⟩ | ⟨rfl, he⟩
      · have c19 : Steps p.tables e below (s₁.setTop (entryFrame m #[.ref x, .ref y] 3)) (T18.setTop (mkF m 55 #[.val (.ref x), .val (.ref y), .val (.ref y)] [.int 1])) := Steps.trans g18 (by
          refine XS.ifNo X18.here hexec rfl (hb hbytes d47) rfl (i0_eq_f (by decide)) ?_
          refine iconstV X18.here hexec rfl 1 (hb hbytes d50) (by decide) ?_
          refine XS.goto X18.here hexec rfl (pc0 := 51) rfl (hb hbytes d51) (by decide) rfl ?_
          exact Steps.refl _)
        exact ⟨T18, some (.int 1), _, _, _, X18, rfl, rfl, rfl, (fun h => by cases h), ⟨1, rfl, q18.trans hh16, Or.inl ⟨rfl, iff.mp he⟩⟩, fun fs hl => c19.trans (X18.ireturnOut hexec hret rfl (Or.inr (Or.inl rfl)) (hb hbytes d55) hl)⟩
      · have c19 : Steps p.tables e below (s₁.setTop (entryFrame m #[.ref x, .ref y] 3)) (T18.setTop (mkF m 55 #[.val (.ref x), .val (.ref y), .val (.ref y)] [.int 0])) := Steps.trans g18 (by
          refine XS.ifYes X18.here hexec rfl (pc0 := 47) rfl (hb hbytes d47) rfl (i0_eq_t rfl) (by decide) rfl ?_
          refine iconstV X18.here hexec rfl 0 (hb hbytes d54) (by decide) ?_
          exact Steps.refl _)
        exact ⟨T18, some (.int 0), _, _, _, X18, rfl, rfl, rfl, (fun h => by cases h), ⟨0, rfl, q18.trans hh16, Or.inr ⟨rfl, fun q => he (iff.mpr q)⟩⟩, fun fs hl => c19.trans (X18.ireturnOut hexec hret rfl (Or.inr (Or.inl rfl)) (hb hbytes d55) hl)⟩
    · have c13 : Steps p.tables e below (s₁.setTop (entryFrame m #[.ref x, .ref y] 3)) (T11.setTop (mkF m 55 #[.val (.ref x), .val (.ref y), .val (.ref y)] [.int 0])) := c12.trans (by
        refine XS.icmpYes X11.here hexec rfl (pc0 := 33) rfl (hb hbytes d33) rfl (ii_ne_t hcd) (by decide) rfl ?_
        refine iconstV X11.here hexec rfl 0 (hb hbytes d54) (by decide) ?_
        exact Steps.refl _)
      exact ⟨T11, some (.int 0), _, _, _, X11, rfl, rfl, rfl, (fun h => by cases h), ⟨0, rfl, hh11, Or.inr ⟨rfl, Cod.dif hx.2.2.2.2.1 hy.2.2.2.2.1 hcd⟩⟩, fun fs hl => c13.trans (X11.ireturnOut hexec hret rfl (Or.inr (Or.inl rfl)) (hb hbytes d55) hl)⟩
theorem pays {l : Launch} {R : Room} {p : Program} {e : Env} {below : List Frame} {s : State} {sargs : Array Value} {len W : Nat} (x t : Addr) (V : Cell) (cd : Int32) (n : Nat) (f : Nat → Int32) (y t' : Addr) (V' : Cell) (cd' : Int32) (k : Nat) (g : Nat → Int32) (z : Int32) (htab : tab.before sargs s = true) (hfr : 2 ≤ R.frames) (hlo : W + 28 ≤ R.locals) :
    Back l R p e below s sargs yN len W (fun A₁ a₁ => A₁.cells + 0 ≤ R.cells ∧ A₁.slots + 0 ≤ R.slots ∧ P x t V cd n f y t' V' cd' k g z a₁ A₁.U) (fun A₁ _ v₁ B₁ => Says01 (SameT n f k g) v₁ A₁.U B₁.U ∧ B₁.locs = A₁.locs ++ [] ∧ B₁.cells = A₁.cells + 0 ∧ B₁.slots = A₁.slots + 0) :=
  (law l x t V cd n f y t' V' cd' k g z).pays htab hfr (by omega)
end SEq
end StrChars
namespace StrChars.Road
open Jvm Sem ClassFile Op Lib Jvm.Stand Jvm.Free Jvm.Free.XT
open Jvm.Lib.Cold (StaticIs)
/-- the words of String.equals(Object) -/
abbrev wordsEq : List Jvm.Cond := [.code SEq.yN SEq.yB 3 (some .boolean), .initialized ST, .classLink ST 10 ST, .fieldLink ST 38 ST "COMPACT_STRINGS" "Z", .fieldLink ST 15 ST "coder" "B", .fieldLink ST 9 ST "value" "[B", .methodLink ST 541 LEq.yN, .static LEq.yN, .code LEq.yN LEq.yB 3 (some .boolean), .initialized "java/lang/StringLatin1"]
theorem tabEq_of {a : Array Value} {s : State} (h : ∀ w ∈ wordsEq, w.before a s = true) : SEq.tab.before a s = true := by
  have hl : LEq.tab.before a s = true := unparts (wk h (.code LEq.yN LEq.yB 3 (some .boolean))) (wks h (.initialized LEq.yN.cls :: LEq.site))
  have q := consq hl h
  exact unparts (wk q (.code SEq.yN SEq.yB 3 (some .boolean))) (wks q (.initialized SEq.yN.cls :: SEq.site))
theorem movedEq {Z s : State} {a0 args : Array Value} (hZ : Z.Warmed39 s.vm) (hw : ∀ d ∈ wordsEq, d.before a0 Z = true) : ∀ d ∈ wordsEq, d.before args s = true := fun d hd => by
  have t : ∀ d ∈ wordsEq, (d.onTables && d.keepsFace) = true := by decide +kernel
  exact RoadKit.mv hZ (hw d hd) (t d hd)
/-- the road's facts of a String, as the laws ask it -/
theorem txt_of {Z U : State} {a0 : Array Value} {kI : Nat} (wi : (Jvm.Cond.instantiable ST kI).before a0 Z = true) (al : Z.vm.Alike U.vm) {x t : Addr} {kb : ClassId} {cs : List Int32} {cd N2 : Int32} {vs : List Value} (E : RoadKit.Exa Z U.heap x ST) (V : RoadKit.Fld Z U.heap x ST "value" "[B" (.ref t)) (C : RoadKit.Fld Z U.heap x ST "coder" "B" (.int cd)) (K : RoadKit.Arv Z U.heap t kb .byte N2 vs (.int 0)) (hc : CodA cs cd N2 vs) (hb : ∀ c ∈ cs, ¬ c < 0 ∧ ¬ (65535 : Int32) < c) (l2 : cs.length ≤ 4000) :
    ∃ A, Txt x t A cd cs.length (fun j => cs.getD j 0) U := by
  obtain ⟨A, K1, K2, K3, K4, K5, K6⟩ := K
  have hcod := hc.cod (by omega) K3 K5
  obtain ⟨D, fV, fC, hB, F1, F2, g1, g2, -, -⟩ := strObj wi al E V C
  exact ⟨A, ⟨_, hB.2.2.1, D, hB.1, rfl, by cases q : D.vm <;> first | rfl | exact absurd q (hB.2.1.2 _)⟩, Has.of hB F1 g1, Has.of hB F2 g2, ⟨K1.1, State.isArrayOf_alike al K1.2.1, K1.2.2, by rcases hcod with ⟨-, q, -⟩ | ⟨-, q, -⟩ <;> omega⟩, hcod, fun j hj => by
    have e : cs.getD j 0 = cs[j] := by simp [List.getD_eq_getElem?_getD, hj]
    show ¬ cs.getD j 0 < 0 ∧ ¬ 65535 < cs.getD j 0
    rw [e]; exact hb _ (List.getElem_mem _)⟩
theorem same_list (cs ds : List Int32) : SameT cs.length (fun j => cs.getD j 0) ds.length (fun j => ds.getD j 0) ↔ cs = ds := by
  constructor
  · rintro ⟨e, q⟩
    refine List.ext_getElem e fun j h1 h2 => ?_
    have := q j h1
    simpa [List.getD_eq_getElem?_getD, h1, h2] using this
  · rintro rfl
    exact ⟨rfl, fun _ _ => rfl⟩
/-- **equals(Object) OF TWO SUCH STRINGS**: 1 just where the chars are the same -/
theorem eqW {p : Program} {l : Launch} {e : Env} {R : Room} {s : State} {args : Array Value} {below : List Frame} {len W : Nat} {Z : State} {a0 : Array Value} {h : Heap} (hZ : Z.Warmed39 s.vm) (hw : ∀ d ∈ wordsEq, d.before a0 Z = true) {kI : Nat} (wi : (Jvm.Cond.instantiable ST kI).before a0 Z = true)
    {x t : Addr} {kb : ClassId} {cs : List Int32} {cd N2 : Int32} {vs : List Value} (E : RoadKit.Exa Z h x ST) (V : RoadKit.Fld Z h x ST "value" "[B" (.ref t)) (C : RoadKit.Fld Z h x ST "coder" "B" (.int cd)) (K : RoadKit.Arv Z h t kb .byte N2 vs (.int 0)) (hc : CodA cs cd N2 vs) (hb : ∀ c ∈ cs, ¬ c < 0 ∧ ¬ (65535 : Int32) < c) (l2 : cs.length ≤ 4000)
    {y t' : Addr} {kb' : ClassId} {ds : List Int32} {cd' N2' : Int32} {vs' : List Value} (E' : RoadKit.Exa Z h y ST) (V' : RoadKit.Fld Z h y ST "value" "[B" (.ref t')) (C' : RoadKit.Fld Z h y ST "coder" "B" (.int cd')) (K' : RoadKit.Arv Z h t' kb' .byte N2' vs' (.int 0)) (hc' : CodA ds cd' N2' vs') (hb' : ∀ c ∈ ds, ¬ c < 0 ∧ ¬ (65535 : Int32) < c) (l2' : ds.length ≤ 4000)
    {z : Int32} (S : RoadKit.Sta Z h ST "COMPACT_STRINGS" "Z" (.int z)) (hz : ¬ z = 0) (hfr : 2 ≤ R.frames) (hlo : W + 28 ≤ R.locals) :
    Back l R p e below s args (⟨"java/lang/String", "equals", "(Ljava/lang/Object;)Z"⟩ : MethodName) len W (fun P a => a = #[.ref x, .ref y] ∧ P.U.heap = h ∧ P.cells + 0 ≤ R.cells ∧ P.slots + 0 ≤ R.slots)
      (fun P _ v B => ∃ L, (((v = some (.int 1) ∧ cs = ds) ∨ (v = some (.int 0) ∧ ¬ cs = ds)) ∧ L = [] ∧ B.U.heap = h) ∧ B.locs = P.locs ++ L ∧ B.cells = P.cells + 0 ∧ B.slots = P.slots + 0) := by
  intro m meth c P g ig mk a X hg hsize hdg hW hn hp'
  obtain ⟨rfl, rfl, r1, r2⟩ := hp'
  have al : Z.vm.Alike P.U.vm := hZ.alike.trans X.warmed.alike
  obtain ⟨A, hx⟩ := txt_of wi al E V C K hc hb l2
  obtain ⟨A', hy⟩ := txt_of wi al E' V' C' K' hc' hb' l2'
  obtain ⟨v, B, X', ⟨⟨w, hv, hh, hq⟩, hl, hk, hs⟩, st⟩ := SEq.pays x t A cd cs.length (fun j => cs.getD j 0) y t' A' cd' ds.length (fun j => ds.getD j 0) z (tabEq_of (movedEq hZ hw)) hfr hlo m meth c P g ig mk _ X hg hsize hdg hW hn ⟨r1, r2, rfl, hx, hy, sta_is al S, hz⟩
  refine ⟨v, B, X', ⟨[], ⟨?_, rfl, hh⟩, hl, hk, hs⟩, st⟩
  rcases hq with ⟨rfl, q⟩ | ⟨rfl, q⟩
  · exact Or.inl ⟨hv, (same_list cs ds).mp q⟩
  · exact Or.inr ⟨hv, fun e => q ((same_list cs ds).mpr e)⟩
end StrChars.Road
namespace StrChars.Road
open Jvm Sem ClassFile Op Lib Jvm.Stand Jvm.Free Jvm.Free.XT
open Jvm.Lib.Cold (StaticIs)
/-- what backV says of its String, as the contracts of this text ask it: cs's low bytes, coder 0 -/
theorem codOf {cs : List Int32} {n : Nat} (hn : cs.length = n) (hb : ∀ c ∈ cs, ¬ 255 < c) : CodA cs 0 (Int32.ofNat n) ((cs.map lo8).map Value.int) := Or.inl ⟨rfl, by rw [hn], by simp [List.map_map, Function.comp_def], hb⟩
end StrChars.Road
end Jvm.Pilot.@@N@@
namespace Jvm.Pilot.@@N@@
open Jvm Jvm.ClassFile Sem Op Lib Jvm.Free Jvm.Stand Jvm.LawKit Jvm.RoadKit Bundle Jvm.Pilot.@@N@@.Jvm.D
abbrev EL : List (String × Nat) := consts_1
theorem own_and255 (x : Int32) : ¬ nar .char ((x &&& (255 : Int32)).toUInt32.toUInt16.toUInt32.toInt32) < 0 ∧ ¬ (255 : Int32) < nar .char ((x &&& (255 : Int32)).toUInt32.toUInt16.toUInt32.toInt32) := by
  have t : ∀ k : Fin 256, ¬ nar .char ((Int32.ofNat k.val).toUInt32.toUInt16.toUInt32.toInt32) < 0 ∧ ¬ (255 : Int32) < nar .char ((Int32.ofNat k.val).toUInt32.toUInt16.toUInt32.toInt32) := by decide +kernel
  have h : (x &&& 255).toBitVec.toNat < 256 := by
    simp only [Int32.toBitVec_and, BitVec.toNat_and]
    exact Nat.lt_succ_of_le Nat.and_le_right
  have e : (x &&& 255) = Int32.ofNat (x &&& 255).toBitVec.toNat := by
    apply Int32.toBitVec_inj.mp
    show _ = BitVec.ofNat 32 _
    rw [BitVec.ofNat_toNat]; simp
  rw [e]
  exact t ⟨_, h⟩
theorem own_up (cs : List Int32) (h : ∀ c ∈ cs, ¬ c < 0 ∧ ¬ (255 : Int32) < c) : ∀ c ∈ cs, ¬ c < 0 ∧ ¬ (65535 : Int32) < c := fun c hc => ⟨(h c hc).1, fun q => (h c hc).2 (by rw [Int32.lt_iff_toInt_lt] at q ⊢; have e1 : (65535 : Int32).toInt = 65535 := rfl; have e2 : (255 : Int32).toInt = 255 := rfl; omega)⟩
def own_C (c : Int32) : Prop := (¬ c < 0 ∧ ¬ (255 : Int32) < c) ∧ nar .char c = c
instance (c : Int32) : Decidable (own_C c) := inferInstanceAs (Decidable ((¬ c < 0 ∧ ¬ (255 : Int32) < c) ∧ nar .char c = c))
theorem own_C_of (x : Int32) : own_C ((x &&& (255 : Int32)).toUInt32.toUInt16.toUInt32.toInt32) := by
  have t : ∀ k : Fin 256, (¬ (Int32.ofNat k.val).toUInt32.toUInt16.toUInt32.toInt32 < 0 ∧ ¬ (255 : Int32) < (Int32.ofNat k.val).toUInt32.toUInt16.toUInt32.toInt32) ∧ nar .char ((Int32.ofNat k.val).toUInt32.toUInt16.toUInt32.toInt32) = (Int32.ofNat k.val).toUInt32.toUInt16.toUInt32.toInt32 := by decide +kernel
  have h : (x &&& 255).toBitVec.toNat < 256 := by
    simp only [Int32.toBitVec_and, BitVec.toNat_and]
    exact Nat.lt_succ_of_le Nat.and_le_right
  have e : (x &&& 255) = Int32.ofNat (x &&& 255).toBitVec.toNat := by
    apply Int32.toBitVec_inj.mp
    show _ = BitVec.ofNat 32 _
    rw [BitVec.ofNat_toNat]; simp
  rw [e]
  exact t ⟨_, h⟩
abbrev own_U : List Int32 := [(117 : Int32), (110 : Int32), (115 : Int32), (117 : Int32), (112 : Int32), (112 : Int32), (111 : Int32), (114 : Int32), (116 : Int32), (101 : Int32), (100 : Int32)]
theorem own_up2 : ∀ x ∈ own_U, ¬ x < 0 ∧ ¬ (255 : Int32) < x := by decide
theorem own_k {y n : Int32} {m : Nat} (hn : n.toInt = m) (h0 : 0 < m) (hm : m < 100) : ∃ j : Nat, (y &&& (2147483647 : Int32)) - ((y &&& (2147483647 : Int32)) / n) * n = Int32.ofNat j ∧ j < m := by
  have e := c_mask y 2147483647 31 (by decide) (by decide)
  have hm1 : n ≠ -1 := fun q => by rw [q] at hn; have : (-1 : Int32).toInt = -1 := rfl; omega
  have d := (c_idiv (y &&& (2147483647 : Int32)) n m hn hm1).1 (by omega)
  have ml := c_imul ((y &&& (2147483647 : Int32)) / n) n
  have sb := c_isub (y &&& (2147483647 : Int32)) (((y &&& (2147483647 : Int32)) / n) * n)
  have r1 := rng32 (((y &&& (2147483647 : Int32)) / n) * n)
  have r2 := rng32 ((y &&& (2147483647 : Int32)) - ((y &&& (2147483647 : Int32)) / n) * n)
  rw [d, hn] at ml
  generalize hA : (y &&& (2147483647 : Int32)).toInt = A at *
  have q1 := Int.emod_add_mul_ediv A m
  have q2 := Int.emod_nonneg A (show (m : Int) ≠ 0 by omega)
  have q3 := Int.emod_lt_of_pos A (show (0 : Int) < m by omega)
  have q4 : A / m * m = m * (A / m) := Int.mul_comm _ _
  have q5 : 0 ≤ A / m := Int.ediv_nonneg (by omega) (by omega)
  rw [q4] at ml
  generalize hB : (m : Int) * (A / m) = B at *
  refine ⟨((y &&& (2147483647 : Int32)) - ((y &&& (2147483647 : Int32)) / n) * n).toInt.toNat, ?_, by omega⟩
  apply Int32.toInt_inj.mp
  rw [Int32.toInt_ofNat_of_lt (by omega)]; omega
theorem own_mem (i : Nat) {c : Int32} (h : own_C c) : ∀ z ∈ own_U.set i c, own_C z := fun z hz => by
  rcases List.mem_or_eq_of_mem_set hz with q | q
  · exact (by decide : ∀ z ∈ own_U, own_C z) z q
  · rw [q]; exact h
theorem own_iff (i : Nat) (c : Int32) (hi : i < 11) : own_U.set i c = own_U ↔ (i = 11 ∨ own_U.getD i 0 = c) := by
  constructor
  · intro q
    right
    have := congrArg (fun l => l.getD i 0) q
    simp only [List.getD_eq_getElem?_getD] at this ⊢
    rw [List.getElem?_set_self hi] at this
    exact this.symm
  · intro q
    rcases q with q | q
    · omega
    · apply List.ext_getElem?
      intro k
      by_cases z : i = k
      · subst z
        rw [List.getElem?_set_self hi, ← q]
        have e : own_U[i]? = some own_U[i] := List.getElem?_eq_getElem hi
        rw [List.getD_eq_getElem?_getD, e]; rfl
      · rw [List.getElem?_set_ne z]
theorem own_at (j : Nat) : (own_U.map Value.int).getD j (.int (0 : Int32)) = .int (own_U.getD j 0) := by
  simp only [List.getD_eq_getElem?_getD, List.getElem?_map]
  cases own_U[j]? <;> rfl
theorem d2_0 : decode jdk_42_method_149_code 0 = .ok (.aload_n 0, 1) := by decide +kernel
theorem d2_1 : decode jdk_42_method_149_code 1 = .ok (.invokespecial 1, 3) := by decide +kernel
theorem d2_4 : decode jdk_42_method_149_code 4 = .ok (.iload_n 3, 1) := by decide +kernel
theorem d2_5 : decode jdk_42_method_149_code 5 = .ok (.ifCond .ne 22, 3) := by decide +kernel
theorem d2_8 : decode jdk_42_method_149_code 8 = .ok (.aload_n 0, 1) := by decide +kernel
theorem d2_9 : decode jdk_42_method_149_code 9 = .ok (.ldc 7, 2) := by decide +kernel
theorem d2_11 : decode jdk_42_method_149_code 11 = .ok (.getfield 9, 3) := by decide +kernel
theorem d2_14 : decode jdk_42_method_149_code 14 = .ok (.putfield 9, 3) := by decide +kernel
theorem d2_17 : decode jdk_42_method_149_code 17 = .ok (.aload_n 0, 1) := by decide +kernel
theorem d2_18 : decode jdk_42_method_149_code 18 = .ok (.ldc 7, 2) := by decide +kernel
theorem d2_20 : decode jdk_42_method_149_code 20 = .ok (.getfield 15, 3) := by decide +kernel
theorem d2_23 : decode jdk_42_method_149_code 23 = .ok (.putfield 15, 3) := by decide +kernel
theorem d2_26 : decode jdk_42_method_149_code 26 = .ok (.return_, 1) := by decide +kernel
theorem pn_397d88e : plainName "java/lang/String" = true := by first | (simp [plainName, overriddenIn]; done) | decide +kernel
theorem ef_2 (m : MethodId) (x0 : Addr) (x1 : Addr) (x2 : Int32) (x3 : Int32) : entryFrame m #[(.ref x0), (.ref x1), (.int x2), (.int x3), .null] 6 = mkF m 0 #[.val (.ref x0), .val (.ref x1), .val (.int x2), .val (.int x3), .val .null, .unset] [] := by first | (simp [entryFrame, mkF, argsToLocals, Value.category]; done) | rfl
def Q_rmSE4 (Z : State) (x b : Addr) (h0 : Heap) (n0 : Nat) (v : Option Value) (h : Heap) (L : List Loc) : Prop := v = none ∧ Fr n0 L ∧ Keep h0 h [x] ∧ Exa Z h x "java/lang/String" ∧ Fld Z h x "java/lang/String" "coder" "B" (.int (0 : Int32)) ∧ ∃ (t : Addr) (kb : ClassId), ¬ t = x ∧ Fld Z h x "java/lang/String" "value" "[B" (.ref t) ∧ Arv Z h t kb .byte (0 : Int32) [] (.int (0 : Int32))
set_option maxRecDepth 65536 in
set_option maxHeartbeats 40000000 in
theorem rmSE4 (l : Launch) (Z : State) (a0 : Array Value) (hw : ∀ d ∈ tables_1, d.before a0 Z = true) (x b : Addr) (h0 : Heap) (n0 : Nat) (Z0 : n0 ≤ h0.size) (E1 : Exa Z h0 x "java/lang/String") (g_x : n0 ≤ x) (Fv : Fld Z h0 x "java/lang/String" "value" "[B" .null) (Fc : Fld Z h0 x "java/lang/String" "coder" "B" (.int (0 : Int32))) (hEL : EW Z a0 EL) (wS : ∀ a ∈ Bundle.stringAtoms, a.before a0 Z = true) :
    MetFree l (⟨"java/lang/String", "<init>", "([CIILjava/lang/Void;)V"⟩ : MethodName) (head1 [Jvm.Cond.code (⟨"java/lang/String", "<init>", "([CIILjava/lang/Void;)V"⟩ : MethodName) jdk_42_method_149_code 6 none] ({ frames := 1, cells := 2, slots := 4, locals := 15 } : Room)) (fun a U => a = #[(.ref x), (.ref b), (.int (0 : Int32)), (.int (0 : Int32)), .null] ∧ Z.Warmed39 U.vm ∧ U.heap = h0 ∧ CHv Z EL U.vm h0) (fun _ _ _ _ _ => True) (fun _ U o U' => ∃ v L, o = .returned v ∧ (Q_rmSE4 Z x b h0 n0) v U'.heap L ∧ CHr Z EL U.vm U.heap U'.vm U'.heap ∧ ReturnedEndW U o U' L ({ frames := 1, cells := 2, slots := 4, locals := 15 } : Room).cells ({ frames := 1, cells := 2, slots := 4, locals := 15 } : Room).slots) := by
  refine MetFree.of_bodySF (plainFor_of_name pn_397d88e) hisR ?_
  intro p e s m args below meth c s₁ Bd hml0 hP hK
  obtain ⟨rfl, hZ, hh, hCH⟩ := hP
  have hx := Bd.exec
  have hby := Bd.bytes
  have hml : c.maxLocals = 6 := hml0
  have hown : s.vm.findClass "java/lang/String" = some m.cls := findClass_of_methodNamed Bd.named
  have hnm := (name_of_methodNamed Bd.named Bd.method).1
  have X0 : Stand p l e ({ frames := 1, cells := 2, slots := 4, locals := 15 } : Room) s m #[(.ref x), (.ref b), (.int (0 : Int32)), (.int (0 : Int32)), .null] below meth c s₁ [] 0 0 := Stand.of_body Bd
  have e0 : s₁.heap = h0 := by rw [← hh, Bd.state]; rfl
  have N0 := Fr.nil n0
  have K0 : Keep h0 h0 [x] := Keep.refl h0 [x]
  have X0h : Stand p l e ({ frames := 1, cells := 2, slots := 4, locals := 15 } : Room) (s.setVm s.vm) m #[(.ref x), (.ref b), (.int (0 : Int32)), (.int (0 : Int32)), .null] below meth c s₁ [] 0 0 := X0
  have hZh : Z.Warmed39 (s.setVm s.vm).vm := hZ
  have hownh : (s.setVm s.vm).vm.findClass "java/lang/String" = some m.cls := hown
  have hS0 : s.Since s.vm 0 := (State.WarmedH.refl s).since 0
  have C0 : CHr Z EL s.vm h0 s.vm h0 := CHr.refl hCH
  show Go p e below (s₁.setTop (entryFrame m #[(.ref x), (.ref b), (.int (0 : Int32)), (.int (0 : Int32)), .null] 6)) (EndH Z EL s (Q_rmSE4 Z x b h0 n0) ({ frames := 1, cells := 2, slots := 4, locals := 15 } : Room).cells ({ frames := 1, cells := 2, slots := 4, locals := 15 } : Room).slots)
  refine Go.top (ef_2 m x b (0 : Int32) (0 : Int32)) ?_
  refine Go.st (T' := s₁.setTop (mkF m 1 #[.val (.ref x), .val (.ref b), .val (.int (0 : Int32)), .val (.int (0 : Int32)), .val .null, .unset] [(.ref x)])) (fun t k => XS.aloadN X0h.here hx rfl (hb hby d2_0) rfl rfl k) ?_
  obtain ⟨T1, X1, e1, st1⟩ := initO X0h hx hZh hownh (hw _ (List.mem_of_getElem? (i := 12) rfl)) (hw _ (List.mem_of_getElem? (i := 13) rfl)) (hw _ (List.mem_of_getElem? (i := 14) rfl)) e0 (g := (mkF m 1 #[.val (.ref x), .val (.ref b), .val (.int (0 : Int32)), .val (.int (0 : Int32)), .val .null, .unset] [(.ref x)])) rfl (by rw [hml]; rfl) rfl (hb hby d2_1) (by decide) (W := 0) (by show 2 * 0 + _ ≤ _; exact Nat.le_of_eq rfl) (by decide)
  refine Go.st (T' := T1.setTop (mkF m 4 #[.val (.ref x), .val (.ref b), .val (.int (0 : Int32)), .val (.int (0 : Int32)), .val .null, .unset] [])) (fun t k => st1 t k) ?_
  refine Go.st (T' := T1.setTop (mkF m 5 #[.val (.ref x), .val (.ref b), .val (.int (0 : Int32)), .val (.int (0 : Int32)), .val .null, .unset] [(.int (0 : Int32))])) (fun t k => XS.iloadN X1.here hx rfl (hb hby d2_4) rfl k) ?_
  refine Go.st (T' := T1.setTop (mkF m 8 #[.val (.ref x), .val (.ref b), .val (.int (0 : Int32)), .val (.int (0 : Int32)), .val .null, .unset] [])) (fun t k => XS.ifNo X1.here hx rfl (hb hby d2_5) rfl ((if0 _ _).trans (teq rfl).2) k) ?_
  have SX0 : Safe Z EL s.vm h0 x := own_safe hZ.alike E1 Fv
  refine Go.st (T' := T1.setTop (mkF m 9 #[.val (.ref x), .val (.ref b), .val (.int (0 : Int32)), .val (.int (0 : Int32)), .val .null, .unset] [(.ref x)])) (fun t k => XS.aloadN X1.here hx rfl (hb hby d2_8) rfl rfl k) ?_
  obtain ⟨a2, T2, h2, kS2, b2, kb2, X2, e2, E2, hS2, hk2, hZ2, ho2, EA2, CA2, VA2, BA2, lta2, ltb2, CC2, LA2, SF2, st2⟩ := ldcCH (s := s) (vm0 := s.vm) (EL := EL) X1 hx hZh hownh (hw _ (List.mem_of_getElem? (i := 72) rfl)) wS e1 hS0 (Nat.zero_le _) hEL (List.mem_of_getElem? (i := 1) rfl) C0.1 (vs := []) (z := (0 : Int32)) ⟨by decide, rfl⟩ (by decide) (by decide) (g := (mkF m 9 #[.val (.ref x), .val (.ref b), .val (.int (0 : Int32)), .val (.int (0 : Int32)), .val .null, .unset] [(.ref x)])) rfl (hb hby d2_9) (n := 0) (by decide) (by decide) (by decide) (by decide)
  have K2 : Keep h0 h2 [x] := K0.ext E2
  have C3 : CHr Z EL s.vm h0 T2.vm h2 := C0.trans CC2
  refine Go.st (T' := T2.setTop (mkF m 11 #[.val (.ref x), .val (.ref b), .val (.int (0 : Int32)), .val (.int (0 : Int32)), .val .null, .unset] [(.ref a2), (.ref x)])) (fun t k => st2 t k) ?_
  have SX1 : Safe Z EL T2.vm h2 x := CC2.safe E1.lt SX0
  obtain ⟨nxa, nxb⟩ := SF2 x SX1
  obtain ⟨T4, X4, e4, st4⟩ := getF X2 hx hZ2 ho2 (host := "") (Or.inl (hw _ (List.mem_of_getElem? (i := 29) rfl))) Via.refl e2 VA2 (g := (mkF m 11 #[.val (.ref x), .val (.ref b), .val (.int (0 : Int32)), .val (.int (0 : Int32)), .val .null, .unset] [(.ref a2), (.ref x)])) rfl rfl (hb hby d2_11)
  refine Go.st (T' := T4.setTop (mkF m 14 #[.val (.ref x), .val (.ref b), .val (.int (0 : Int32)), .val (.int (0 : Int32)), .val .null, .unset] [(.ref b2), (.ref x)])) (fun t k => st4 t k) ?_
  have f5 : Fld Z h2 x "java/lang/String" "value" "[B" .null := (Fv.ext E2)
  have f6 : Exa Z h2 x "java/lang/String" := (E1.ext E2)
  obtain ⟨T7, h7, X7, e7, W7, st7⟩ := putF X4 hx hZ2 ho2 (host := "") (Or.inl (hw _ (List.mem_of_getElem? (i := 29) rfl))) Via.refl e4 f5 f6 (Or.inr ⟨(hw _ (List.mem_of_getElem? (i := 30) rfl)), rfl, hnm⟩) (hw _ (List.mem_of_getElem? (i := 3) rfl)) (ty := (.array .byte)) (by decide) rfl rfl (g := (mkF m 14 #[.val (.ref x), .val (.ref b), .val (.int (0 : Int32)), .val (.int (0 : Int32)), .val .null, .unset] [(.ref b2), (.ref x)])) rfl rfl (hb hby d2_14)
  have C8 : CHr Z EL s.vm h0 T2.vm h7 := C3.trans (CHr.wr W7 SX1 C3.1)
  have Fw7 : Fld Z h7 x "java/lang/String" "value" "[B" (.ref b2) := f5.same W7
  have K7 : Keep h0 h7 [x] := K2.wr W7 (Or.inl (List.mem_of_getElem? (i := 0) rfl))
  have N7 := Fr.snoc X7 N0 g_x
  refine Go.st (T' := T7.setTop (mkF m 17 #[.val (.ref x), .val (.ref b), .val (.int (0 : Int32)), .val (.int (0 : Int32)), .val .null, .unset] [])) (fun t k => st7 t k) ?_
  have SX2 : Safe Z EL T2.vm h7 x := Safe.wr W7 SX1 C3.1 SX1
  refine Go.st (T' := T7.setTop (mkF m 18 #[.val (.ref x), .val (.ref b), .val (.int (0 : Int32)), .val (.int (0 : Int32)), .val .null, .unset] [(.ref x)])) (fun t k => XS.aloadN X7.here hx rfl (hb hby d2_17) rfl rfl k) ?_
  refine Go.st (T' := T7.setTop (mkF m 20 #[.val (.ref x), .val (.ref b), .val (.int (0 : Int32)), .val (.int (0 : Int32)), .val .null, .unset] [(.ref a2), (.ref x)])) (fun t k => ldcAgain (s := s) (vm0 := T2.vm) X7 hx hZ2 ho2 (hw _ (List.mem_of_getElem? (i := 72) rfl)) LA2 (g := (mkF m 18 #[.val (.ref x), .val (.ref b), .val (.int (0 : Int32)), .val (.int (0 : Int32)), .val .null, .unset] [(.ref x)])) rfl (hb hby d2_18) t k) ?_
  have f10 : Fld Z h7 a2 "java/lang/String" "coder" "B" (.int (0 : Int32)) := (CA2.other W7 (Or.inl (Ne.symm nxa)))
  obtain ⟨T11, X11, e11, st11⟩ := getF X7 hx hZ2 ho2 (host := "") (Or.inl (hw _ (List.mem_of_getElem? (i := 27) rfl))) Via.refl e7 f10 (g := (mkF m 20 #[.val (.ref x), .val (.ref b), .val (.int (0 : Int32)), .val (.int (0 : Int32)), .val .null, .unset] [(.ref a2), (.ref x)])) rfl rfl (hb hby d2_20)
  refine Go.st (T' := T11.setTop (mkF m 23 #[.val (.ref x), .val (.ref b), .val (.int (0 : Int32)), .val (.int (0 : Int32)), .val .null, .unset] [(.int (0 : Int32)), (.ref x)])) (fun t k => st11 t k) ?_
  have f12 : Fld Z h7 x "java/lang/String" "coder" "B" (.int (0 : Int32)) := ((Fc.ext E2).other W7 (Or.inr (slot_ne (Or.inr (hw _ (List.mem_of_getElem? (i := 28) rfl))) (Or.inr (hw _ (List.mem_of_getElem? (i := 30) rfl))) (by decide) (t := .byte) (t' := (.array .byte)) (by decide) (by decide))))
  have f13 : Exa Z h7 x "java/lang/String" := (f6.wr W7)
  obtain ⟨T14, h14, X14, e14, W14, st14⟩ := putFN X11 hx hZ2 ho2 (hw _ (List.mem_of_getElem? (i := 27) rfl)) Via.refl e11 f12 f13 (Or.inr ⟨(hw _ (List.mem_of_getElem? (i := 28) rfl)), rfl, hnm⟩) (hw _ (List.mem_of_getElem? (i := 3) rfl)) (ty := .byte) (v' := (.int (nar .byte (0 : Int32)))) (by decide) rfl (fits_nar_byte _) (g := (mkF m 23 #[.val (.ref x), .val (.ref b), .val (.int (0 : Int32)), .val (.int (0 : Int32)), .val .null, .unset] [(.int (0 : Int32)), (.ref x)])) rfl rfl (hb hby d2_23)
  have C15 : CHr Z EL s.vm h0 T2.vm h14 := C8.trans (CHr.wr W14 SX2 C8.1)
  have Fw14 : Fld Z h14 x "java/lang/String" "coder" "B" (.int (nar .byte (0 : Int32))) := f12.same W14
  have K14 : Keep h0 h14 [x] := K7.wr W14 (Or.inl (List.mem_of_getElem? (i := 0) rfl))
  have N14 := Fr.snoc X14 N7 g_x
  refine Go.st (T' := T14.setTop (mkF m 26 #[.val (.ref x), .val (.ref b), .val (.int (0 : Int32)), .val (.int (0 : Int32)), .val .null, .unset] [])) (fun t k => st14 t k) ?_
  have f16 : Exa Z h14 x "java/lang/String" := (f13.wr W14)
  have f17 : Fld Z h14 x "java/lang/String" "value" "[B" (.ref b2) := (Fw7.other W14 (Or.inr (slot_ne (Or.inr (hw _ (List.mem_of_getElem? (i := 30) rfl))) (Or.inr (hw _ (List.mem_of_getElem? (i := 28) rfl))) (by decide) (t := (.array .byte)) (t' := .byte) (by decide) (by decide))))
  have f18 : Arv Z h14 b2 kb2 .byte (0 : Int32) [] (.int (0 : Int32)) := ((BA2.other W7 (Ne.symm nxb)).other W14 (Ne.symm nxb))
  exact Go.doneH X14 hS2 (by rw [e14]; exact (Nat.le_trans hk2 (by have q := (Nat.le_trans (Nat.le_trans (Nat.le_refl h2.size) (Keep.of_wr W7).1) (Keep.of_wr W14).1); omega))) Bd.notSynchronized (v := none) (fun _ => rfl) (fun fs hr => X14.returnOut hx Bd.returns (hb hby d2_26) hr) (by rw [e14]; exact ⟨rfl, N14, K14, f16, Fw14, b2, kb2, Ne.symm nxb, f17, f18⟩) (by decide) (by decide) hZ2 hEL hh e14 C15
theorem d1_0 : decode jdk_42_method_3_code 0 = .ok (.aload_n 0, 1) := by decide +kernel
theorem d1_1 : decode jdk_42_method_3_code 1 = .ok (.aload_n 1, 1) := by decide +kernel
theorem d1_2 : decode jdk_42_method_3_code 2 = .ok (.iconst 0, 1) := by decide +kernel
theorem d1_3 : decode jdk_42_method_3_code 3 = .ok (.aload_n 1, 1) := by decide +kernel
theorem d1_4 : decode jdk_42_method_3_code 4 = .ok (.arraylength, 1) := by decide +kernel
theorem d1_5 : decode jdk_42_method_3_code 5 = .ok (.aconst_null, 1) := by decide +kernel
theorem d1_6 : decode jdk_42_method_3_code 6 = .ok (.invokespecial 27, 3) := by decide +kernel
theorem d1_9 : decode jdk_42_method_3_code 9 = .ok (.return_, 1) := by decide +kernel
theorem pd_f3a733a : parseMethodDescriptor "([CIILjava/lang/Void;)V" = some ⟨[(.array .char), .int, .int, (.object "java/lang/Void")], none⟩ := by decide +kernel
theorem ef_1 (m : MethodId) (x0 : Addr) (x1 : Addr) : entryFrame m #[(.ref x0), (.ref x1)] 2 = mkF m 0 #[.val (.ref x0), .val (.ref x1)] [] := by first | (simp [entryFrame, mkF, argsToLocals, Value.category]; done) | rfl
def Q_rmSE1 (Z : State) (x b : Addr) (kB : ClassId) (h0 : Heap) (n0 : Nat) (v : Option Value) (h : Heap) (L : List Loc) : Prop := v = none ∧ Fr n0 L ∧ Keep h0 h [x] ∧ Exa Z h x "java/lang/String" ∧ Fld Z h x "java/lang/String" "coder" "B" (.int (0 : Int32)) ∧ ∃ (t : Addr) (kb : ClassId), ¬ t = x ∧ Fld Z h x "java/lang/String" "value" "[B" (.ref t) ∧ Arv Z h t kb .byte (0 : Int32) [] (.int (0 : Int32))
set_option maxRecDepth 65536 in
set_option maxHeartbeats 40000000 in
theorem rmSE1 (l : Launch) (Z : State) (a0 : Array Value) (hw : ∀ d ∈ tables_1, d.before a0 Z = true) (x b : Addr) (kB : ClassId) (h0 : Heap) (n0 : Nat) (Z0 : n0 ≤ h0.size) (E1 : Exa Z h0 x "java/lang/String") (g_x : n0 ≤ x) (Fv : Fld Z h0 x "java/lang/String" "value" "[B" .null) (Fc : Fld Z h0 x "java/lang/String" "coder" "B" (.int (0 : Int32))) (hEL : EW Z a0 EL) (wS : ∀ a ∈ Bundle.stringAtoms, a.before a0 Z = true) (Vb : Arv Z h0 b kB .char (0 : Int32) [] (.int (0 : Int32))) :
    MetFree l (⟨"java/lang/String", "<init>", "([C)V"⟩ : MethodName) (head1 [Jvm.Cond.code (⟨"java/lang/String", "<init>", "([C)V"⟩ : MethodName) jdk_42_method_3_code 2 none] ({ frames := 2, cells := 2, slots := 4, locals := 32 } : Room)) (fun a U => a = #[(.ref x), (.ref b)] ∧ Z.Warmed39 U.vm ∧ U.heap = h0 ∧ CHv Z EL U.vm h0) (fun _ _ _ _ _ => True) (fun _ U o U' => ∃ v L, o = .returned v ∧ (Q_rmSE1 Z x b kB h0 n0) v U'.heap L ∧ CHr Z EL U.vm U.heap U'.vm U'.heap ∧ ReturnedEndW U o U' L ({ frames := 2, cells := 2, slots := 4, locals := 32 } : Room).cells ({ frames := 2, cells := 2, slots := 4, locals := 32 } : Room).slots) := by
  refine MetFree.of_bodySF (plainFor_of_name pn_397d88e) hisR ?_
  intro p e s m args below meth c s₁ Bd hml0 hP hK
  obtain ⟨rfl, hZ, hh, hCH⟩ := hP
  have hx := Bd.exec
  have hby := Bd.bytes
  have hml : c.maxLocals = 2 := hml0
  have hown : s.vm.findClass "java/lang/String" = some m.cls := findClass_of_methodNamed Bd.named
  have hnm := (name_of_methodNamed Bd.named Bd.method).1
  have X0 : Stand p l e ({ frames := 2, cells := 2, slots := 4, locals := 32 } : Room) s m #[(.ref x), (.ref b)] below meth c s₁ [] 0 0 := Stand.of_body Bd
  have e0 : s₁.heap = h0 := by rw [← hh, Bd.state]; rfl
  have N0 := Fr.nil n0
  have K0 : Keep h0 h0 [x] := Keep.refl h0 [x]
  have X0h : Stand p l e ({ frames := 2, cells := 2, slots := 4, locals := 32 } : Room) (s.setVm s.vm) m #[(.ref x), (.ref b)] below meth c s₁ [] 0 0 := X0
  have hZh : Z.Warmed39 (s.setVm s.vm).vm := hZ
  have hownh : (s.setVm s.vm).vm.findClass "java/lang/String" = some m.cls := hown
  have hS0 : s.Since s.vm 0 := (State.WarmedH.refl s).since 0
  have C0 : CHr Z EL s.vm h0 s.vm h0 := CHr.refl hCH
  show Go p e below (s₁.setTop (entryFrame m #[(.ref x), (.ref b)] 2)) (EndH Z EL s (Q_rmSE1 Z x b kB h0 n0) ({ frames := 2, cells := 2, slots := 4, locals := 32 } : Room).cells ({ frames := 2, cells := 2, slots := 4, locals := 32 } : Room).slots)
  refine Go.top (ef_1 m x b) ?_
  refine Go.st (T' := s₁.setTop (mkF m 1 #[.val (.ref x), .val (.ref b)] [(.ref x)])) (fun t k => XS.aloadN X0h.here hx rfl (hb hby d1_0) rfl rfl k) ?_
  refine Go.st (T' := s₁.setTop (mkF m 2 #[.val (.ref x), .val (.ref b)] [(.ref b), (.ref x)])) (fun t k => XS.aloadN X0h.here hx rfl (hb hby d1_1) rfl rfl k) ?_
  refine Go.st (T' := s₁.setTop (mkF m 3 #[.val (.ref x), .val (.ref b)] [(.int (0 : Int32)), (.ref b), (.ref x)])) (fun t k => XS.iconst X0h.here hx rfl (hb hby d1_2) k) ?_
  refine Go.st (T' := s₁.setTop (mkF m 4 #[.val (.ref x), .val (.ref b)] [(.ref b), (.int (0 : Int32)), (.ref b), (.ref x)])) (fun t k => XS.aloadN X0h.here hx rfl (hb hby d1_3) rfl rfl k) ?_
  obtain ⟨cl19, Ar19, -, S19, M19, -, -⟩ := id Vb
  refine Go.st (T' := s₁.setTop (mkF m 5 #[.val (.ref x), .val (.ref b)] [(.int (0 : Int32)), (.int (0 : Int32)), (.ref b), (.ref x)])) (fun t k => X0h.arraylength hx (by rw [e0]; exact Ar19.1) (State.isArrayOf_alike hZh.alike Ar19.2.1) (g := (mkF m 4 #[.val (.ref x), .val (.ref b)] [(.ref b), (.int (0 : Int32)), (.ref b), (.ref x)])) rfl rfl (hb hby d1_4) t (by rw [len_of S19 M19]; exact k)) ?_
  refine Go.st (T' := s₁.setTop (mkF m 6 #[.val (.ref x), .val (.ref b)] [.null, (.int (0 : Int32)), (.int (0 : Int32)), (.ref b), (.ref x)])) (fun t k => XS.aconstNull X0h.here hx rfl (hb hby d1_5) k) ?_
  obtain ⟨vr20, _, ⟨T20, L20, k20, n20⟩, -, X20, hs20, hg20, ⟨Lc20, hQ20, l20, y20, z20⟩, st20⟩ := X0h.specialBackS hx (y := (⟨"java/lang/String", "<init>", "([CIILjava/lang/Void;)V"⟩ : MethodName)) rfl hownh (mvT hZh (hw _ (List.mem_of_getElem? (i := 8) rfl))) (mvT hZh (hw _ (List.mem_of_getElem? (i := 9) rfl))) (mvT hZh (hw _ (List.mem_of_getElem? (i := 11) rfl))) (by decide) (backOfSH (s := s) (vm0 := s.vm) (W := 0) (rmSE4 l Z a0 hw x b h0 n0 Z0 E1 g_x Fv Fc hEL wS) hZh (hw _ (List.mem_of_getElem? (i := 11) rfl)) (hw _ (List.mem_of_getElem? (i := 4) rfl)) (by decide) (by decide) hEL C0.1) (g := (mkF m 6 #[.val (.ref x), .val (.ref b)] [.null, (.int (0 : Int32)), (.int (0 : Int32)), (.ref b), (.ref x)])) rfl (by rw [hml]; rfl) (Steps.refl _) (a := x) (argsL := [(.ref b), (.int (0 : Int32)), (.int (0 : Int32)), .null]) (rest := []) (lenOf pd_f3a733a rfl) rfl (by show 2 * 0 + _ ≤ _; exact Nat.le_of_eq rfl) (hb hby d1_6) (fun _ _ => ⟨rfl, e0, (by decide : 0 + 2 ≤ _), (by decide : 0 + 4 ≤ _)⟩)
  dsimp only [Pt.U, Pt.locs, Pt.cells, Pt.slots] at X20 l20 y20 z20 st20 hQ20 hs20 hg20
  subst l20 y20
  obtain ⟨z20, CC20⟩ := z20
  subst z20
  obtain ⟨rfl, Nq20, Kq20, Rq20⟩ := hQ20
  obtain ⟨Xr20, hSr20, hZr20, hor20⟩ := rebS (s := s) (vm0 := s.vm) hS0 (by rw [e0]; exact (Nat.zero_le _)) X20 hs20 hg20 hZh hownh
  have C21 : CHr Z EL s.vm h0 T20.vm T20.heap := C0.trans CC20
  have KK22 : Keep h0 T20.heap [x] := K0.trans Kq20 (allS (Or.inl (List.mem_of_getElem? (i := 0) rfl)) all0)
  have NN23 := Fr.app N0 Nq20
  refine Go.st (T' := T20.setTop (mkF m 9 #[.val (.ref x), .val (.ref b)] [])) (fun t k => st20.trans k) ?_
  exact Go.doneH Xr20 hSr20 (by rw [(rfl : T20.heap = T20.heap)]; exact (Nat.le_refl _)) Bd.notSynchronized (v := none) (fun _ => rfl) (fun fs hr => Xr20.returnOut hx Bd.returns (hb hby d1_9) hr) (by rw [(rfl : T20.heap = T20.heap)]; exact ⟨rfl, NN23, KK22, Rq20⟩) (by decide) (by decide) hZr20 hEL hh rfl C21
theorem d8_0 : decode jdk_43_method_3_code 0 = .ok (.iload_n 0, 1) := by decide +kernel
theorem d8_1 : decode jdk_43_method_3_code 1 = .ok (.sipush 255, 3) := by decide +kernel
theorem d8_4 : decode jdk_43_method_3_code 4 = .ok (.if_icmp .gt 7, 3) := by decide +kernel
theorem d8_7 : decode jdk_43_method_3_code 7 = .ok (.iconst 1, 1) := by decide +kernel
theorem d8_8 : decode jdk_43_method_3_code 8 = .ok (.goto 4, 3) := by decide +kernel
theorem d8_12 : decode jdk_43_method_3_code 12 = .ok (.ireturn, 1) := by decide +kernel
theorem pn_9a48540 : plainName "java/lang/StringLatin1" = true := by first | (simp [plainName, overriddenIn]; done) | decide +kernel
theorem ef_8 (m : MethodId) (x0 : Int32) : entryFrame m #[(.int x0)] 1 = mkF m 0 #[.val (.int x0)] [] := by first | (simp [entryFrame, mkF, argsToLocals, Value.category]; done) | rfl
def Q_rmCan (Z : State) (p1 : Int32) (h0 : Heap) (n0 : Nat) (v : Option Value) (h : Heap) (L : List Loc) : Prop := v = some (.int (1 : Int32)) ∧ Fr n0 L ∧ h = h0
set_option maxRecDepth 65536 in
set_option maxHeartbeats 40000000 in
theorem rmCan (l : Launch) (Z : State) (a0 : Array Value) (hw : ∀ d ∈ tables_1, d.before a0 Z = true) (p1 : Int32) (h0 : Heap) (n0 : Nat) (Z0 : n0 ≤ h0.size) (hc : ¬ (255 : Int32) < p1) :
    MetFree l (⟨"java/lang/StringLatin1", "canEncode", "(C)Z"⟩ : MethodName) (head1 [Jvm.Cond.code (⟨"java/lang/StringLatin1", "canEncode", "(C)Z"⟩ : MethodName) jdk_43_method_3_code 1 (some .boolean)] ({ frames := 0, cells := 0, slots := 0, locals := 0 } : Room)) (fun a U => a = #[(.int p1)] ∧ Z.Warmed39 U.vm ∧ U.heap = h0) (fun _ _ _ _ _ => True) (fun _ U o U' => ∃ v L, o = .returned v ∧ (Q_rmCan Z p1 h0 n0) v U'.heap L ∧ FrameEnd U o U' L ({ frames := 0, cells := 0, slots := 0, locals := 0 } : Room).cells ({ frames := 0, cells := 0, slots := 0, locals := 0 } : Room).slots) := by
  refine MetFree.of_bodySF (plainFor_of_name pn_9a48540) hisR ?_
  intro p e s m args below meth c s₁ Bd hml0 hP hK
  obtain ⟨rfl, hZ, hh⟩ := hP
  have hx := Bd.exec
  have hby := Bd.bytes
  have hml : c.maxLocals = 1 := hml0
  have hown : s.vm.findClass "java/lang/StringLatin1" = some m.cls := findClass_of_methodNamed Bd.named
  have hnm := (name_of_methodNamed Bd.named Bd.method).1
  have X0 : Stand p l e ({ frames := 0, cells := 0, slots := 0, locals := 0 } : Room) s m #[(.int p1)] below meth c s₁ [] 0 0 := Stand.of_body Bd
  have e0 : s₁.heap = h0 := by rw [← hh, Bd.state]; rfl
  have N0 := Fr.nil n0
  have K0 : Keep h0 h0 [] := Keep.refl h0 []
  show Go p e below (s₁.setTop (entryFrame m #[(.int p1)] 1)) (EndN s (Q_rmCan Z p1 h0 n0) ({ frames := 0, cells := 0, slots := 0, locals := 0 } : Room).cells ({ frames := 0, cells := 0, slots := 0, locals := 0 } : Room).slots)
  refine Go.top (ef_8 m p1) ?_
  refine Go.st (T' := s₁.setTop (mkF m 1 #[.val (.int p1)] [(.int p1)])) (fun t k => XS.iloadN X0.here hx rfl (hb hby d8_0) rfl k) ?_
  refine Go.st (T' := s₁.setTop (mkF m 4 #[.val (.int p1)] [(.int (255 : Int32)), (.int p1)])) (fun t k => XS.sipush X0.here hx rfl (hb hby d8_1) k) ?_
  refine Go.st (T' := s₁.setTop (mkF m 7 #[.val (.int p1)] [])) (fun t k => XS.icmpNo X0.here hx rfl (hb hby d8_4) rfl (flt hc).2.2.1 k) ?_
  refine Go.st (T' := s₁.setTop (mkF m 8 #[.val (.int p1)] [(.int (1 : Int32))])) (fun t k => XS.iconst X0.here hx rfl (hb hby d8_7) k) ?_
  refine Go.st (T' := s₁.setTop (mkF m 12 #[.val (.int p1)] [(.int (1 : Int32))])) (fun t k => XS.goto X0.here hx rfl (pc0 := 8) (pc' := 12) rfl (hb hby d8_8) (by decide) (by decide) k) ?_
  exact Go.done X0 Bd.notSynchronized (v := some (.int (nar .boolean (1 : Int32)))) (fun h => by rw [Bd.returns] at h; cases h) (fun fs hr => retN X0 hx (t := .boolean) Bd.returns (by simp) (hb hby d8_12) hr) (by rw [e0]; exact ⟨rfl, N0, rfl⟩) (by decide) (by decide)
theorem d9_0 : decode jdk_43_method_46_code 0 = .ok (.iconst 1, 1) := by decide +kernel
theorem d9_1 : decode jdk_43_method_46_code 1 = .ok (.newarray .byte, 2) := by decide +kernel
theorem d9_3 : decode jdk_43_method_46_code 3 = .ok (.dup, 1) := by decide +kernel
theorem d9_4 : decode jdk_43_method_46_code 4 = .ok (.iconst 0, 1) := by decide +kernel
theorem d9_5 : decode jdk_43_method_46_code 5 = .ok (.iload_n 0, 1) := by decide +kernel
theorem d9_6 : decode jdk_43_method_46_code 6 = .ok (.i2b, 1) := by decide +kernel
theorem d9_7 : decode jdk_43_method_46_code 7 = .ok (.bastore, 1) := by decide +kernel
theorem d9_8 : decode jdk_43_method_46_code 8 = .ok (.areturn, 1) := by decide +kernel
theorem ef_9 (m : MethodId) (x0 : Int32) : entryFrame m #[(.int x0)] 1 = mkF m 0 #[.val (.int x0)] [] := by first | (simp [entryFrame, mkF, argsToLocals, Value.category]; done) | rfl
def Q_rmToB (Z : State) (p1 : Int32) (h0 : Heap) (n0 : Nat) (v : Option Value) (h : Heap) (L : List Loc) : Prop := Fr n0 L ∧ Keep h0 h [] ∧ ∃ x : Addr, v = some (.ref x)
set_option maxRecDepth 65536 in
set_option maxHeartbeats 40000000 in
theorem rmToB (l : Launch) (Z : State) (a0 : Array Value) (hw : ∀ d ∈ tables_1, d.before a0 Z = true) (p1 : Int32) (h0 : Heap) (n0 : Nat) (Z0 : n0 ≤ h0.size)  :
    MetFree l (⟨"java/lang/StringLatin1", "toBytes", "(C)[B"⟩ : MethodName) (head1 [Jvm.Cond.code (⟨"java/lang/StringLatin1", "toBytes", "(C)[B"⟩ : MethodName) jdk_43_method_46_code 1 (some (.array .byte))] ({ frames := 0, cells := 1, slots := 1, locals := 0 } : Room)) (fun a U => a = #[(.int p1)] ∧ Z.Warmed39 U.vm ∧ U.heap = h0) (fun _ _ _ _ _ => True) (fun _ U o U' => ∃ v L, o = .returned v ∧ (Q_rmToB Z p1 h0 n0) v U'.heap L ∧ FrameEnd U o U' L ({ frames := 0, cells := 1, slots := 1, locals := 0 } : Room).cells ({ frames := 0, cells := 1, slots := 1, locals := 0 } : Room).slots) := by
  refine MetFree.of_bodySF (plainFor_of_name pn_9a48540) hisR ?_
  intro p e s m args below meth c s₁ Bd hml0 hP hK
  obtain ⟨rfl, hZ, hh⟩ := hP
  have hx := Bd.exec
  have hby := Bd.bytes
  have hml : c.maxLocals = 1 := hml0
  have hown : s.vm.findClass "java/lang/StringLatin1" = some m.cls := findClass_of_methodNamed Bd.named
  have hnm := (name_of_methodNamed Bd.named Bd.method).1
  have X0 : Stand p l e ({ frames := 0, cells := 1, slots := 1, locals := 0 } : Room) s m #[(.int p1)] below meth c s₁ [] 0 0 := Stand.of_body Bd
  have e0 : s₁.heap = h0 := by rw [← hh, Bd.state]; rfl
  have N0 := Fr.nil n0
  have K0 : Keep h0 h0 [] := Keep.refl h0 []
  show Go p e below (s₁.setTop (entryFrame m #[(.int p1)] 1)) (EndN s (Q_rmToB Z p1 h0 n0) ({ frames := 0, cells := 1, slots := 1, locals := 0 } : Room).cells ({ frames := 0, cells := 1, slots := 1, locals := 0 } : Room).slots)
  refine Go.top (ef_9 m p1) ?_
  refine Go.st (T' := s₁.setTop (mkF m 1 #[.val (.int p1)] [(.int (1 : Int32))])) (fun t k => XS.iconst X0.here hx rfl (hb hby d9_0) k) ?_
  obtain ⟨T24, h24, k24, X24, e24, E24, A24, st24⟩ := newP X0 hx hZ (hw _ (List.mem_of_getElem? (i := 20) rfl)) e0 (g := (mkF m 1 #[.val (.int p1)] [(.int (1 : Int32))])) rfl (hb hby d9_1) rfl (by decide) (cap := 1) (by decide) (by decide) (by decide) (by decide)
  obtain ⟨b24, g24⟩ : ∃ z, z = h0.size := ⟨_, rfl⟩
  rw [← g24] at A24 st24
  have g_b24 : n0 ≤ b24 := Nat.le_trans (Nat.le_trans Z0 K0.1) (Nat.le_of_eq g24.symm)
  have sz_b24 : h0.size ≤ b24 := Nat.le_trans K0.1 (Nat.le_of_eq g24.symm)
  have K24 : Keep h0 h24 [] := K0.ext E24
  have V24 : Arv Z h24 b24 k24 .byte (1 : Int32) [(.int (0 : Int32))] (.int (0 : Int32)) := (Arv.new A24 (by decide)).pad (pad_rep [] (.int (0 : Int32)) 1)
  refine Go.st (T' := T24.setTop (mkF m 3 #[.val (.int p1)] [(.ref b24)])) (fun t k => st24 t k) ?_
  refine Go.st (T' := T24.setTop (mkF m 4 #[.val (.int p1)] [(.ref b24), (.ref b24)])) (fun t k => XS.dup X24.here hx rfl (hb hby d9_3) rfl rfl k) ?_
  refine Go.st (T' := T24.setTop (mkF m 5 #[.val (.int p1)] [(.int (0 : Int32)), (.ref b24), (.ref b24)])) (fun t k => XS.iconst X24.here hx rfl (hb hby d9_4) k) ?_
  refine Go.st (T' := T24.setTop (mkF m 6 #[.val (.int p1)] [(.int p1), (.int (0 : Int32)), (.ref b24), (.ref b24)])) (fun t k => XS.iloadN X24.here hx rfl (hb hby d9_5) rfl k) ?_
  refine Go.st (T' := T24.setTop (mkF m 7 #[.val (.int p1)] [(.int (p1.toInt8.toInt32)), (.int (0 : Int32)), (.ref b24), (.ref b24)])) (fun t k => XS.i2b X24.here hx rfl (hb hby d9_6) rfl k) ?_
  obtain ⟨cl25, Ar25, q25, S25, M25, H25, G25⟩ := id V24
  obtain ⟨T25, h25, X25, e25, W25, st25⟩ := stB X24 hx hZ e24 Ar25 (j := (0 : Int32)) (inb_of S25 ⟨by decide, by decide⟩) (g := (mkF m 7 #[.val (.int p1)] [(.int (p1.toInt8.toInt32)), (.int (0 : Int32)), (.ref b24), (.ref b24)])) rfl rfl (hb hby d9_7)
  have V25 : Arv Z h25 b24 k24 .byte (1 : Int32) [(.int (nar .byte (p1.toInt8.toInt32)))] (.int (0 : Int32)) := Arv.set Ar25 q25 S25 M25 H25 G25 (fits_nar_byte _) W25 0 rfl (Nat.le_of_ble_eq_true rfl)
  have K25 : Keep h0 h25 [] := K24.wr W25 (Or.inr sz_b24)
  have N25 := Fr.snoc X25 N0 g_b24
  refine Go.st (T' := T25.setTop (mkF m 8 #[.val (.int p1)] [(.ref b24)])) (fun t k => st25 t k) ?_
  exact Go.done X25 Bd.notSynchronized (v := some (.ref b24)) (fun h => by rw [Bd.returns] at h; cases h) (fun fs hr => retA X25 hx Bd.returns rfl rfl rfl (hb hby d9_8) hr) (by rw [e25]; exact ⟨N25, K25, b24, rfl⟩) (by decide) (by decide)
theorem d10_0 : decode jdk_42_method_151_code 0 = .ok (.aload_n 0, 1) := by decide +kernel
theorem d10_1 : decode jdk_42_method_151_code 1 = .ok (.invokespecial 1, 3) := by decide +kernel
theorem d10_4 : decode jdk_42_method_151_code 4 = .ok (.aload_n 0, 1) := by decide +kernel
theorem d10_5 : decode jdk_42_method_151_code 5 = .ok (.aload_n 1, 1) := by decide +kernel
theorem d10_6 : decode jdk_42_method_151_code 6 = .ok (.putfield 9, 3) := by decide +kernel
theorem d10_9 : decode jdk_42_method_151_code 9 = .ok (.aload_n 0, 1) := by decide +kernel
theorem d10_10 : decode jdk_42_method_151_code 10 = .ok (.iload_n 2, 1) := by decide +kernel
theorem d10_11 : decode jdk_42_method_151_code 11 = .ok (.putfield 15, 3) := by decide +kernel
theorem d10_14 : decode jdk_42_method_151_code 14 = .ok (.return_, 1) := by decide +kernel
theorem ef_10 (m : MethodId) (x0 : Addr) (x1 : Addr) (x2 : Int32) : entryFrame m #[(.ref x0), (.ref x1), (.int x2)] 3 = mkF m 0 #[.val (.ref x0), .val (.ref x1), .val (.int x2)] [] := by first | (simp [entryFrame, mkF, argsToLocals, Value.category]; done) | rfl
def Q_rmBB (Z : State) (x b : Addr) (p3 : Int32) (h0 : Heap) (n0 : Nat) (v : Option Value) (h : Heap) (L : List Loc) : Prop := v = none ∧ Fr n0 L ∧ Keep h0 h [x]
set_option maxRecDepth 65536 in
set_option maxHeartbeats 40000000 in
theorem rmBB (l : Launch) (Z : State) (a0 : Array Value) (hw : ∀ d ∈ tables_1, d.before a0 Z = true) (x b : Addr) (p3 : Int32) (h0 : Heap) (n0 : Nat) (Z0 : n0 ≤ h0.size) (E1 : Exa Z h0 x "java/lang/String") (g_x : n0 ≤ x) (Fv : Fld Z h0 x "java/lang/String" "value" "[B" .null) (Fc : Fld Z h0 x "java/lang/String" "coder" "B" (.int (0 : Int32))) :
    MetFree l (⟨"java/lang/String", "<init>", "([BB)V"⟩ : MethodName) (head1 [Jvm.Cond.code (⟨"java/lang/String", "<init>", "([BB)V"⟩ : MethodName) jdk_42_method_151_code 3 none] ({ frames := 1, cells := 0, slots := 0, locals := 12 } : Room)) (fun a U => a = #[(.ref x), (.ref b), (.int p3)] ∧ Z.Warmed39 U.vm ∧ U.heap = h0) (fun _ _ _ _ _ => True) (fun _ U o U' => ∃ v L, o = .returned v ∧ (Q_rmBB Z x b p3 h0 n0) v U'.heap L ∧ FrameEnd U o U' L ({ frames := 1, cells := 0, slots := 0, locals := 12 } : Room).cells ({ frames := 1, cells := 0, slots := 0, locals := 12 } : Room).slots) := by
  refine MetFree.of_bodySF (plainFor_of_name pn_397d88e) hisR ?_
  intro p e s m args below meth c s₁ Bd hml0 hP hK
  obtain ⟨rfl, hZ, hh⟩ := hP
  have hx := Bd.exec
  have hby := Bd.bytes
  have hml : c.maxLocals = 3 := hml0
  have hown : s.vm.findClass "java/lang/String" = some m.cls := findClass_of_methodNamed Bd.named
  have hnm := (name_of_methodNamed Bd.named Bd.method).1
  have X0 : Stand p l e ({ frames := 1, cells := 0, slots := 0, locals := 12 } : Room) s m #[(.ref x), (.ref b), (.int p3)] below meth c s₁ [] 0 0 := Stand.of_body Bd
  have e0 : s₁.heap = h0 := by rw [← hh, Bd.state]; rfl
  have N0 := Fr.nil n0
  have K0 : Keep h0 h0 [x] := Keep.refl h0 [x]
  show Go p e below (s₁.setTop (entryFrame m #[(.ref x), (.ref b), (.int p3)] 3)) (EndN s (Q_rmBB Z x b p3 h0 n0) ({ frames := 1, cells := 0, slots := 0, locals := 12 } : Room).cells ({ frames := 1, cells := 0, slots := 0, locals := 12 } : Room).slots)
  refine Go.top (ef_10 m x b p3) ?_
  refine Go.st (T' := s₁.setTop (mkF m 1 #[.val (.ref x), .val (.ref b), .val (.int p3)] [(.ref x)])) (fun t k => XS.aloadN X0.here hx rfl (hb hby d10_0) rfl rfl k) ?_
  obtain ⟨T26, X26, e26, st26⟩ := initO X0 hx hZ hown (hw _ (List.mem_of_getElem? (i := 12) rfl)) (hw _ (List.mem_of_getElem? (i := 13) rfl)) (hw _ (List.mem_of_getElem? (i := 14) rfl)) e0 (g := (mkF m 1 #[.val (.ref x), .val (.ref b), .val (.int p3)] [(.ref x)])) rfl (by rw [hml]; rfl) rfl (hb hby d10_1) (by decide) (W := 0) (by show 2 * 0 + _ ≤ _; exact Nat.le_of_eq rfl) (by decide)
  refine Go.st (T' := T26.setTop (mkF m 4 #[.val (.ref x), .val (.ref b), .val (.int p3)] [])) (fun t k => st26 t k) ?_
  refine Go.st (T' := T26.setTop (mkF m 5 #[.val (.ref x), .val (.ref b), .val (.int p3)] [(.ref x)])) (fun t k => XS.aloadN X26.here hx rfl (hb hby d10_4) rfl rfl k) ?_
  refine Go.st (T' := T26.setTop (mkF m 6 #[.val (.ref x), .val (.ref b), .val (.int p3)] [(.ref b), (.ref x)])) (fun t k => XS.aloadN X26.here hx rfl (hb hby d10_5) rfl rfl k) ?_
  obtain ⟨T27, h27, X27, e27, W27, st27⟩ := putF X26 hx hZ hown (host := "") (Or.inl (hw _ (List.mem_of_getElem? (i := 29) rfl))) Via.refl e26 Fv E1 (Or.inr ⟨(hw _ (List.mem_of_getElem? (i := 30) rfl)), rfl, hnm⟩) (hw _ (List.mem_of_getElem? (i := 3) rfl)) (ty := (.array .byte)) (by decide) rfl rfl (g := (mkF m 6 #[.val (.ref x), .val (.ref b), .val (.int p3)] [(.ref b), (.ref x)])) rfl rfl (hb hby d10_6)
  have Fw27 : Fld Z h27 x "java/lang/String" "value" "[B" (.ref b) := Fv.same W27
  have K27 : Keep h0 h27 [x] := K0.wr W27 (Or.inl (List.mem_of_getElem? (i := 0) rfl))
  have N27 := Fr.snoc X27 N0 g_x
  refine Go.st (T' := T27.setTop (mkF m 9 #[.val (.ref x), .val (.ref b), .val (.int p3)] [])) (fun t k => st27 t k) ?_
  refine Go.st (T' := T27.setTop (mkF m 10 #[.val (.ref x), .val (.ref b), .val (.int p3)] [(.ref x)])) (fun t k => XS.aloadN X27.here hx rfl (hb hby d10_9) rfl rfl k) ?_
  refine Go.st (T' := T27.setTop (mkF m 11 #[.val (.ref x), .val (.ref b), .val (.int p3)] [(.int p3), (.ref x)])) (fun t k => XS.iloadN X27.here hx rfl (hb hby d10_10) rfl k) ?_
  have f28 : Fld Z h27 x "java/lang/String" "coder" "B" (.int (0 : Int32)) := (Fc.other W27 (Or.inr (slot_ne (Or.inr (hw _ (List.mem_of_getElem? (i := 28) rfl))) (Or.inr (hw _ (List.mem_of_getElem? (i := 30) rfl))) (by decide) (t := .byte) (t' := (.array .byte)) (by decide) (by decide))))
  have f29 : Exa Z h27 x "java/lang/String" := (E1.wr W27)
  obtain ⟨T30, h30, X30, e30, W30, st30⟩ := putFN X27 hx hZ hown (hw _ (List.mem_of_getElem? (i := 27) rfl)) Via.refl e27 f28 f29 (Or.inr ⟨(hw _ (List.mem_of_getElem? (i := 28) rfl)), rfl, hnm⟩) (hw _ (List.mem_of_getElem? (i := 3) rfl)) (ty := .byte) (v' := (.int (nar .byte p3))) (by decide) rfl (fits_nar_byte _) (g := (mkF m 11 #[.val (.ref x), .val (.ref b), .val (.int p3)] [(.int p3), (.ref x)])) rfl rfl (hb hby d10_11)
  have Fw30 : Fld Z h30 x "java/lang/String" "coder" "B" (.int (nar .byte p3)) := f28.same W30
  have K30 : Keep h0 h30 [x] := K27.wr W30 (Or.inl (List.mem_of_getElem? (i := 0) rfl))
  have N30 := Fr.snoc X30 N27 g_x
  refine Go.st (T' := T30.setTop (mkF m 14 #[.val (.ref x), .val (.ref b), .val (.int p3)] [])) (fun t k => st30 t k) ?_
  exact Go.done X30 Bd.notSynchronized (v := none) (fun _ => rfl) (fun fs hr => X30.returnOut hx Bd.returns (hb hby d10_14) hr) (by rw [e30]; exact ⟨rfl, N30, K30⟩) (by decide) (by decide)
theorem d7_0 : decode jdk_42_method_139_code 0 = .ok (.getstatic 38, 3) := by decide +kernel
theorem d7_3 : decode jdk_42_method_139_code 3 = .ok (.ifCond .eq 23, 3) := by decide +kernel
theorem d7_6 : decode jdk_42_method_139_code 6 = .ok (.iload_n 0, 1) := by decide +kernel
theorem d7_7 : decode jdk_42_method_139_code 7 = .ok (.invokestatic 1015, 3) := by decide +kernel
theorem d7_10 : decode jdk_42_method_139_code 10 = .ok (.ifCond .eq 16, 3) := by decide +kernel
theorem d7_13 : decode jdk_42_method_139_code 13 = .ok (.new 10, 3) := by decide +kernel
theorem d7_16 : decode jdk_42_method_139_code 16 = .ok (.dup, 1) := by decide +kernel
theorem d7_17 : decode jdk_42_method_139_code 17 = .ok (.iload_n 0, 1) := by decide +kernel
theorem d7_18 : decode jdk_42_method_139_code 18 = .ok (.invokestatic 1018, 3) := by decide +kernel
theorem d7_21 : decode jdk_42_method_139_code 21 = .ok (.iconst 0, 1) := by decide +kernel
theorem d7_22 : decode jdk_42_method_139_code 22 = .ok (.invokespecial 209, 3) := by decide +kernel
theorem d7_25 : decode jdk_42_method_139_code 25 = .ok (.areturn, 1) := by decide +kernel
theorem pd_56dc0e8 : parseMethodDescriptor "(C)Z" = some ⟨[.char], some .boolean⟩ := by decide +kernel
theorem pd_729b77d : parseMethodDescriptor "(C)[B" = some ⟨[.char], some (.array .byte)⟩ := by decide +kernel
theorem pd_2f4f85c : parseMethodDescriptor "([BB)V" = some ⟨[(.array .byte), .byte], none⟩ := by decide +kernel
theorem ef_7 (m : MethodId) (x0 : Int32) : entryFrame m #[(.int x0)] 1 = mkF m 0 #[.val (.int x0)] [] := by first | (simp [entryFrame, mkF, argsToLocals, Value.category]; done) | rfl
def Q_rmVal (Z : State) (p1 : Int32) (h0 : Heap) (n0 : Nat) (v : Option Value) (h : Heap) (L : List Loc) : Prop := Fr n0 L ∧ Keep h0 h [] ∧ ∃ x : Addr, v = some (.ref x)
set_option maxRecDepth 65536 in
set_option maxHeartbeats 40000000 in
theorem rmVal (l : Launch) (Z : State) (a0 : Array Value) (hw : ∀ d ∈ tables_1, d.before a0 Z = true) (p1 : Int32) (h0 : Heap) (n0 : Nat) (Z0 : n0 ≤ h0.size) (G1 : Int32) (O2 : Sta Z Z.heap "java/lang/String" "COMPACT_STRINGS" "Z" (.int G1)) (P5 : ¬ (G1 = (0 : Int32))) (X00 : Old Z n0 h0) (hc : ¬ (255 : Int32) < p1) :
    MetFree l (⟨"java/lang/String", "valueOf", "(C)Ljava/lang/String;"⟩ : MethodName) (head1 [Jvm.Cond.code (⟨"java/lang/String", "valueOf", "(C)Ljava/lang/String;"⟩ : MethodName) jdk_42_method_139_code 1 (some (.object "java/lang/String"))] ({ frames := 2, cells := 2, slots := 5, locals := 28 } : Room)) (fun a U => a = #[(.int p1)] ∧ Z.Warmed39 U.vm ∧ U.heap = h0) (fun _ _ _ _ _ => True) (fun _ U o U' => ∃ v L, o = .returned v ∧ (Q_rmVal Z p1 h0 n0) v U'.heap L ∧ FrameEnd U o U' L ({ frames := 2, cells := 2, slots := 5, locals := 28 } : Room).cells ({ frames := 2, cells := 2, slots := 5, locals := 28 } : Room).slots) := by
  refine MetFree.of_bodySF (plainFor_of_name pn_397d88e) hisR ?_
  intro p e s m args below meth c s₁ Bd hml0 hP hK
  obtain ⟨rfl, hZ, hh⟩ := hP
  have hx := Bd.exec
  have hby := Bd.bytes
  have hml : c.maxLocals = 1 := hml0
  have hown : s.vm.findClass "java/lang/String" = some m.cls := findClass_of_methodNamed Bd.named
  have hnm := (name_of_methodNamed Bd.named Bd.method).1
  have X0 : Stand p l e ({ frames := 2, cells := 2, slots := 5, locals := 28 } : Room) s m #[(.int p1)] below meth c s₁ [] 0 0 := Stand.of_body Bd
  have e0 : s₁.heap = h0 := by rw [← hh, Bd.state]; rfl
  have N0 := Fr.nil n0
  have K0 : Keep h0 h0 [] := Keep.refl h0 []
  show Go p e below (s₁.setTop (entryFrame m #[(.int p1)] 1)) (EndN s (Q_rmVal Z p1 h0 n0) ({ frames := 2, cells := 2, slots := 5, locals := 28 } : Room).cells ({ frames := 2, cells := 2, slots := 5, locals := 28 } : Room).slots)
  refine Go.top (ef_7 m p1) ?_
  obtain ⟨T31, X31, e31, st31⟩ := getS (host := "") X0 hx hZ hown (hw _ (List.mem_of_getElem? (i := 15) rfl)) Via.refl e0 (O2.ext (X00.keep K0 all0).2) (g := (mkF m 0 #[.val (.int p1)] [])) rfl (hb hby d7_0)
  refine Go.st (T' := T31.setTop (mkF m 3 #[.val (.int p1)] [(.int G1)])) (fun t k => st31 t k) ?_
  refine Go.st (T' := T31.setTop (mkF m 6 #[.val (.int p1)] [])) (fun t k => XS.ifNo X31.here hx rfl (hb hby d7_3) rfl ((if0 _ _).trans (feq P5).1) k) ?_
  refine Go.st (T' := T31.setTop (mkF m 7 #[.val (.int p1)] [(.int p1)])) (fun t k => XS.iloadN X31.here hx rfl (hb hby d7_6) rfl k) ?_
  obtain ⟨vr32, _, ⟨T32, L32, k32, n32⟩, -, X32, ⟨Lc32, hQ32, l32, y32, z32⟩, st32⟩ := Jvm.LawKit.callS X31 hx (y := (⟨"java/lang/StringLatin1", "canEncode", "(C)Z"⟩ : MethodName)) hown (mvT hZ (hw _ (List.mem_of_getElem? (i := 37) rfl))) (mvT hZ (hw _ (List.mem_of_getElem? (i := 38) rfl))) (mvT hZ (hw _ (List.mem_of_getElem? (i := 39) rfl))) (mvT hZ (hw _ (List.mem_of_getElem? (i := 40) rfl))) (by decide) (backOf (W := 0) (rmCan l Z a0 hw p1 h0 n0 Z0 hc) hZ (hw _ (List.mem_of_getElem? (i := 40) rfl)) (hw _ (List.mem_of_getElem? (i := 39) rfl)) (by decide) (by decide)) (g := (mkF m 7 #[.val (.int p1)] [(.int p1)])) rfl (by rw [hml]; rfl) (argsL := [(.int p1)]) (rest := []) (lenOf pd_56dc0e8 rfl) rfl (by show 2 * 0 + _ ≤ _; exact Nat.le_of_eq rfl) (hb hby d7_7) (fun _ _ => ⟨rfl, e31, (by decide : 0 + 0 ≤ _), (by decide : 0 + 0 ≤ _)⟩)
  dsimp only [Pt.U, Pt.locs, Pt.cells, Pt.slots] at X32 l32 y32 z32 st32 hQ32
  subst l32 y32 z32
  obtain ⟨rfl, Nq32, eq32⟩ := hQ32
  have NN33 := Fr.app N0 Nq32
  refine Go.st (T' := T32.setTop (mkF m 10 #[.val (.int p1)] [(.int (1 : Int32))])) (fun t k => st32 t k) ?_
  refine Go.st (T' := T32.setTop (mkF m 13 #[.val (.int p1)] [])) (fun t k => XS.ifNo X32.here hx rfl (hb hby d7_10) rfl ((if0 _ _).trans (feq (by decide)).1) k) ?_
  obtain ⟨T34, h34, X34, e34, E34, A34, D34, -, st34⟩ := newO X32 hx hZ hown (hw _ (List.mem_of_getElem? (i := 41) rfl)) (hw _ (List.mem_of_getElem? (i := 3) rfl)) (hw _ (List.mem_of_getElem? (i := 4) rfl)) eq32 (g := (mkF m 13 #[.val (.int p1)] [])) rfl (hb hby d7_13) (by decide) (by decide)
  obtain ⟨b34, g34⟩ : ∃ z, z = h0.size := ⟨_, rfl⟩
  rw [← g34] at A34 D34 st34
  have g_b34 : n0 ≤ b34 := Nat.le_trans (Nat.le_trans Z0 K0.1) (Nat.le_of_eq g34.symm)
  have sz_b34 : h0.size ≤ b34 := Nat.le_trans K0.1 (Nat.le_of_eq g34.symm)
  have K34 : Keep h0 h34 [] := K0.ext E34
  have Fn34_coder : Fld Z h34 b34 "java/lang/String" "coder" "B" (.int (0 : Int32)) := D34 (Or.inr (hw _ (List.mem_of_getElem? (i := 28) rfl))) (ty := .byte) (by decide)
  have Fn34_value : Fld Z h34 b34 "java/lang/String" "value" "[B" .null := D34 (Or.inr (hw _ (List.mem_of_getElem? (i := 30) rfl))) (ty := (.array .byte)) (by decide)
  refine Go.st (T' := T34.setTop (mkF m 16 #[.val (.int p1)] [(.ref b34)])) (fun t k => st34 t k) ?_
  refine Go.st (T' := T34.setTop (mkF m 17 #[.val (.int p1)] [(.ref b34), (.ref b34)])) (fun t k => XS.dup X34.here hx rfl (hb hby d7_16) rfl rfl k) ?_
  refine Go.st (T' := T34.setTop (mkF m 18 #[.val (.int p1)] [(.int p1), (.ref b34), (.ref b34)])) (fun t k => XS.iloadN X34.here hx rfl (hb hby d7_17) rfl k) ?_
  obtain ⟨vr35, _, ⟨T35, L35, k35, n35⟩, -, X35, ⟨Lc35, hQ35, l35, y35, z35⟩, st35⟩ := Jvm.LawKit.callS X34 hx (y := (⟨"java/lang/StringLatin1", "toBytes", "(C)[B"⟩ : MethodName)) hown (mvT hZ (hw _ (List.mem_of_getElem? (i := 42) rfl))) (mvT hZ (hw _ (List.mem_of_getElem? (i := 43) rfl))) (mvT hZ (hw _ (List.mem_of_getElem? (i := 39) rfl))) (mvT hZ (hw _ (List.mem_of_getElem? (i := 44) rfl))) (by decide) (backOf (W := 2) (rmToB l Z a0 hw p1 h34 n0 (Nat.le_trans Z0 K34.1)) hZ (hw _ (List.mem_of_getElem? (i := 44) rfl)) (hw _ (List.mem_of_getElem? (i := 39) rfl)) (by decide) (by decide)) (g := (mkF m 18 #[.val (.int p1)] [(.int p1), (.ref b34), (.ref b34)])) rfl (by rw [hml]; rfl) (argsL := [(.int p1)]) (rest := [(.ref b34), (.ref b34)]) (lenOf pd_729b77d rfl) rfl (by show 2 * 0 + _ ≤ _; exact Nat.le_of_eq rfl) (hb hby d7_18) (fun _ _ => ⟨rfl, e34, (by decide : 1 + 1 ≤ _), (by decide : 4 + 1 ≤ _)⟩)
  dsimp only [Pt.U, Pt.locs, Pt.cells, Pt.slots] at X35 l35 y35 z35 st35 hQ35
  subst l35 y35 z35
  obtain ⟨Nq35, Kq35, y35, rfl⟩ := hQ35
  have KK36 : Keep h0 T35.heap [] := K34.trans Kq35 all0
  have NN37 := Fr.app NN33 Nq35
  refine Go.st (T' := T35.setTop (mkF m 21 #[.val (.int p1)] [(.ref y35), (.ref b34), (.ref b34)])) (fun t k => st35 t k) ?_
  refine Go.st (T' := T35.setTop (mkF m 22 #[.val (.int p1)] [(.int (0 : Int32)), (.ref y35), (.ref b34), (.ref b34)])) (fun t k => XS.iconst X35.here hx rfl (hb hby d7_21) k) ?_
  have f38 : Exa Z T35.heap b34 "java/lang/String" := (A34.keep Kq35)
  have f39 : Fld Z T35.heap b34 "java/lang/String" "value" "[B" .null := (Fn34_value.keep Kq35 nin0)
  have f40 : Fld Z T35.heap b34 "java/lang/String" "coder" "B" (.int (0 : Int32)) := (Fn34_coder.keep Kq35 nin0)
  obtain ⟨vr41, _, ⟨T41, L41, k41, n41⟩, -, X41, ⟨Lc41, hQ41, l41, y41, z41⟩, st41⟩ := X35.specialBack hx (y := (⟨"java/lang/String", "<init>", "([BB)V"⟩ : MethodName)) rfl hown (mvT hZ (hw _ (List.mem_of_getElem? (i := 45) rfl))) (mvT hZ (hw _ (List.mem_of_getElem? (i := 46) rfl))) (mvT hZ (hw _ (List.mem_of_getElem? (i := 47) rfl))) (by decide) (backOf (W := 1) (rmBB l Z a0 hw b34 y35 (0 : Int32) T35.heap n0 (Nat.le_trans Z0 KK36.1) f38 g_b34 f39 f40) hZ (hw _ (List.mem_of_getElem? (i := 47) rfl)) (hw _ (List.mem_of_getElem? (i := 4) rfl)) (by decide) (by decide)) (g := (mkF m 22 #[.val (.int p1)] [(.int (0 : Int32)), (.ref y35), (.ref b34), (.ref b34)])) rfl (by rw [hml]; rfl) (Steps.refl _) (a := b34) (argsL := [(.ref y35), (.int (0 : Int32))]) (rest := [(.ref b34)]) (lenOf pd_2f4f85c rfl) rfl (by show 2 * 0 + _ ≤ _; exact Nat.le_of_eq rfl) (hb hby d7_22) (fun _ _ => ⟨rfl, rfl, (by decide : 2 + 0 ≤ _), (by decide : 5 + 0 ≤ _)⟩)
  dsimp only [Pt.U, Pt.locs, Pt.cells, Pt.slots] at X41 l41 y41 z41 st41 hQ41
  subst l41 y41 z41
  obtain ⟨rfl, Nq41, Kq41⟩ := hQ41
  have KK42 : Keep h0 T41.heap [] := KK36.trans Kq41 (allS (Or.inr sz_b34) all0)
  have NN43 := Fr.app NN37 Nq41
  refine Go.st (T' := T41.setTop (mkF m 25 #[.val (.int p1)] [(.ref b34)])) (fun t k => st41.trans k) ?_
  exact Go.done X41 Bd.notSynchronized (v := some (.ref b34)) (fun h => by rw [Bd.returns] at h; cases h) (fun fs hr => retA X41 hx Bd.returns rfl rfl rfl (hb hby d7_25) hr) (by rw [(rfl : T41.heap = T41.heap)]; exact ⟨NN43, KK42, b34, rfl⟩) (by decide) (by decide)
theorem d11_0 : decode prog_7_method_1_code 0 = .ok (.aload_n 0, 1) := by decide +kernel
theorem d11_1 : decode prog_7_method_1_code 1 = .ok (.invokespecial 1, 3) := by decide +kernel
theorem d11_4 : decode prog_7_method_1_code 4 = .ok (.aload_n 0, 1) := by decide +kernel
theorem d11_5 : decode prog_7_method_1_code 5 = .ok (.aload_n 1, 1) := by decide +kernel
theorem d11_6 : decode prog_7_method_1_code 6 = .ok (.putfield 7, 3) := by decide +kernel
theorem d11_9 : decode prog_7_method_1_code 9 = .ok (.aload_n 0, 1) := by decide +kernel
theorem d11_10 : decode prog_7_method_1_code 10 = .ok (.aload_n 2, 1) := by decide +kernel
theorem d11_11 : decode prog_7_method_1_code 11 = .ok (.putfield 13, 3) := by decide +kernel
theorem d11_14 : decode prog_7_method_1_code 14 = .ok (.return_, 1) := by decide +kernel
theorem pn_b7e2a6f : plainName "com/example/bede/bede/model/Explanation" = true := by first | (simp [plainName, overriddenIn]; done) | decide +kernel
theorem ef_11 (m : MethodId) (x0 : Addr) (x1 : Addr) (x2 : Addr) : entryFrame m #[(.ref x0), (.ref x1), (.ref x2)] 3 = mkF m 0 #[.val (.ref x0), .val (.ref x1), .val (.ref x2)] [] := by first | (simp [entryFrame, mkF, argsToLocals, Value.category]; done) | rfl
def Q_rmEx (Z : State) (a1 a2 a3 : Addr) (h0 : Heap) (n0 : Nat) (v : Option Value) (h : Heap) (L : List Loc) : Prop := v = none ∧ Fr n0 L ∧ Keep h0 h [a1] ∧ Exa Z h a1 "com/example/bede/bede/model/Explanation" ∧ Fld Z h a1 "com/example/bede/bede/model/Explanation" "expression" "Ljava/lang/String;" (.ref a3)
set_option maxRecDepth 65536 in
set_option maxHeartbeats 40000000 in
theorem rmEx (l : Launch) (Z : State) (a0 : Array Value) (hw : ∀ d ∈ tables_1, d.before a0 Z = true) (a1 a2 a3 : Addr) (h0 : Heap) (n0 : Nat) (Z0 : n0 ≤ h0.size) (E1 : Exa Z h0 a1 "com/example/bede/bede/model/Explanation") (g_a1 : n0 ≤ a1) (Fu : Fld Z h0 a1 "com/example/bede/bede/model/Explanation" "update" "Ljava/lang/String;" .null) (Fe : Fld Z h0 a1 "com/example/bede/bede/model/Explanation" "expression" "Ljava/lang/String;" .null) :
    MetFree l (⟨"com/example/bede/bede/model/Explanation", "<init>", "(Ljava/lang/String;Ljava/lang/String;)V"⟩ : MethodName) (head1 [Jvm.Cond.code (⟨"com/example/bede/bede/model/Explanation", "<init>", "(Ljava/lang/String;Ljava/lang/String;)V"⟩ : MethodName) prog_7_method_1_code 3 none] ({ frames := 1, cells := 0, slots := 0, locals := 12 } : Room)) (fun a U => a = #[(.ref a1), (.ref a2), (.ref a3)] ∧ Z.Warmed39 U.vm ∧ U.heap = h0) (fun _ _ _ _ _ => True) (fun _ U o U' => ∃ v L, o = .returned v ∧ (Q_rmEx Z a1 a2 a3 h0 n0) v U'.heap L ∧ FrameEnd U o U' L ({ frames := 1, cells := 0, slots := 0, locals := 12 } : Room).cells ({ frames := 1, cells := 0, slots := 0, locals := 12 } : Room).slots) := by
  refine MetFree.of_bodySF (plainFor_of_name pn_b7e2a6f) hisR ?_
  intro p e s m args below meth c s₁ Bd hml0 hP hK
  obtain ⟨rfl, hZ, hh⟩ := hP
  have hx := Bd.exec
  have hby := Bd.bytes
  have hml : c.maxLocals = 3 := hml0
  have hown : s.vm.findClass "com/example/bede/bede/model/Explanation" = some m.cls := findClass_of_methodNamed Bd.named
  have hnm := (name_of_methodNamed Bd.named Bd.method).1
  have X0 : Stand p l e ({ frames := 1, cells := 0, slots := 0, locals := 12 } : Room) s m #[(.ref a1), (.ref a2), (.ref a3)] below meth c s₁ [] 0 0 := Stand.of_body Bd
  have e0 : s₁.heap = h0 := by rw [← hh, Bd.state]; rfl
  have N0 := Fr.nil n0
  have K0 : Keep h0 h0 [a1] := Keep.refl h0 [a1]
  show Go p e below (s₁.setTop (entryFrame m #[(.ref a1), (.ref a2), (.ref a3)] 3)) (EndN s (Q_rmEx Z a1 a2 a3 h0 n0) ({ frames := 1, cells := 0, slots := 0, locals := 12 } : Room).cells ({ frames := 1, cells := 0, slots := 0, locals := 12 } : Room).slots)
  refine Go.top (ef_11 m a1 a2 a3) ?_
  refine Go.st (T' := s₁.setTop (mkF m 1 #[.val (.ref a1), .val (.ref a2), .val (.ref a3)] [(.ref a1)])) (fun t k => XS.aloadN X0.here hx rfl (hb hby d11_0) rfl rfl k) ?_
  obtain ⟨T44, X44, e44, st44⟩ := initO X0 hx hZ hown (hw _ (List.mem_of_getElem? (i := 51) rfl)) (hw _ (List.mem_of_getElem? (i := 13) rfl)) (hw _ (List.mem_of_getElem? (i := 14) rfl)) e0 (g := (mkF m 1 #[.val (.ref a1), .val (.ref a2), .val (.ref a3)] [(.ref a1)])) rfl (by rw [hml]; rfl) rfl (hb hby d11_1) (by decide) (W := 0) (by show 2 * 0 + _ ≤ _; exact Nat.le_of_eq rfl) (by decide)
  refine Go.st (T' := T44.setTop (mkF m 4 #[.val (.ref a1), .val (.ref a2), .val (.ref a3)] [])) (fun t k => st44 t k) ?_
  refine Go.st (T' := T44.setTop (mkF m 5 #[.val (.ref a1), .val (.ref a2), .val (.ref a3)] [(.ref a1)])) (fun t k => XS.aloadN X44.here hx rfl (hb hby d11_4) rfl rfl k) ?_
  refine Go.st (T' := T44.setTop (mkF m 6 #[.val (.ref a1), .val (.ref a2), .val (.ref a3)] [(.ref a2), (.ref a1)])) (fun t k => XS.aloadN X44.here hx rfl (hb hby d11_5) rfl rfl k) ?_
  obtain ⟨T45, h45, X45, e45, W45, st45⟩ := putF X44 hx hZ hown (host := "") (Or.inl (hw _ (List.mem_of_getElem? (i := 52) rfl))) Via.refl e44 Fu E1 (Or.inr ⟨(hw _ (List.mem_of_getElem? (i := 53) rfl)), rfl, hnm⟩) (hw _ (List.mem_of_getElem? (i := 32) rfl)) (ty := (.object "java/lang/String")) (by decide) rfl rfl (g := (mkF m 6 #[.val (.ref a1), .val (.ref a2), .val (.ref a3)] [(.ref a2), (.ref a1)])) rfl rfl (hb hby d11_6)
  have Fw45 : Fld Z h45 a1 "com/example/bede/bede/model/Explanation" "update" "Ljava/lang/String;" (.ref a2) := Fu.same W45
  have K45 : Keep h0 h45 [a1] := K0.wr W45 (Or.inl (List.mem_of_getElem? (i := 0) rfl))
  have N45 := Fr.snoc X45 N0 g_a1
  refine Go.st (T' := T45.setTop (mkF m 9 #[.val (.ref a1), .val (.ref a2), .val (.ref a3)] [])) (fun t k => st45 t k) ?_
  refine Go.st (T' := T45.setTop (mkF m 10 #[.val (.ref a1), .val (.ref a2), .val (.ref a3)] [(.ref a1)])) (fun t k => XS.aloadN X45.here hx rfl (hb hby d11_9) rfl rfl k) ?_
  refine Go.st (T' := T45.setTop (mkF m 11 #[.val (.ref a1), .val (.ref a2), .val (.ref a3)] [(.ref a3), (.ref a1)])) (fun t k => XS.aloadN X45.here hx rfl (hb hby d11_10) rfl rfl k) ?_
  have f46 : Fld Z h45 a1 "com/example/bede/bede/model/Explanation" "expression" "Ljava/lang/String;" .null := (Fe.other W45 (Or.inr (slot_ne (Or.inr (hw _ (List.mem_of_getElem? (i := 55) rfl))) (Or.inr (hw _ (List.mem_of_getElem? (i := 53) rfl))) (by decide) (t := (.object "java/lang/String")) (t' := (.object "java/lang/String")) (by decide) (by decide))))
  have f47 : Exa Z h45 a1 "com/example/bede/bede/model/Explanation" := (E1.wr W45)
  obtain ⟨T48, h48, X48, e48, W48, st48⟩ := putF X45 hx hZ hown (host := "") (Or.inl (hw _ (List.mem_of_getElem? (i := 54) rfl))) Via.refl e45 f46 f47 (Or.inr ⟨(hw _ (List.mem_of_getElem? (i := 55) rfl)), rfl, hnm⟩) (hw _ (List.mem_of_getElem? (i := 32) rfl)) (ty := (.object "java/lang/String")) (by decide) rfl rfl (g := (mkF m 11 #[.val (.ref a1), .val (.ref a2), .val (.ref a3)] [(.ref a3), (.ref a1)])) rfl rfl (hb hby d11_11)
  have Fw48 : Fld Z h48 a1 "com/example/bede/bede/model/Explanation" "expression" "Ljava/lang/String;" (.ref a3) := f46.same W48
  have K48 : Keep h0 h48 [a1] := K45.wr W48 (Or.inl (List.mem_of_getElem? (i := 0) rfl))
  have N48 := Fr.snoc X48 N45 g_a1
  refine Go.st (T' := T48.setTop (mkF m 14 #[.val (.ref a1), .val (.ref a2), .val (.ref a3)] [])) (fun t k => st48 t k) ?_
  have f49 : Exa Z h48 a1 "com/example/bede/bede/model/Explanation" := (f47.wr W48)
  exact Go.done X48 Bd.notSynchronized (v := none) (fun _ => rfl) (fun fs hr => X48.returnOut hx Bd.returns (hb hby d11_14) hr) (by rw [e48]; exact ⟨rfl, N48, K48, f49, Fw48⟩) (by decide) (by decide)
theorem d12_0 : decode prog_7_method_4_code 0 = .ok (.ldc 16, 2) := by decide +kernel
theorem d12_2 : decode prog_7_method_4_code 2 = .ok (.aload_n 0, 1) := by decide +kernel
theorem d12_3 : decode prog_7_method_4_code 3 = .ok (.getfield 13, 3) := by decide +kernel
theorem d12_6 : decode prog_7_method_4_code 6 = .ok (.invokevirtual 18, 3) := by decide +kernel
theorem d12_9 : decode prog_7_method_4_code 9 = .ok (.ifCond .ne 7, 3) := by decide +kernel
theorem d12_12 : decode prog_7_method_4_code 12 = .ok (.iconst 1, 1) := by decide +kernel
theorem d12_13 : decode prog_7_method_4_code 13 = .ok (.goto 4, 3) := by decide +kernel
theorem d12_16 : decode prog_7_method_4_code 16 = .ok (.iconst 0, 1) := by decide +kernel
theorem d12_17 : decode prog_7_method_4_code 17 = .ok (.ireturn, 1) := by decide +kernel
theorem pd_a0133a8 : parseMethodDescriptor "(Ljava/lang/Object;)Z" = some ⟨[(.object "java/lang/Object")], some .boolean⟩ := by decide +kernel
theorem ef_12 (m : MethodId) (x0 : Addr) : entryFrame m #[(.ref x0)] 1 = mkF m 0 #[.val (.ref x0)] [] := by first | (simp [entryFrame, mkF, argsToLocals, Value.category]; done) | rfl
def Q_rmSup (Z : State) (a1 a5 t5 : Addr) (k5 : ClassId) (ds : List Int32) (h0 : Heap) (n0 : Nat) (v : Option Value) (h : Heap) (L : List Loc) : Prop := Fr n0 L ∧ Keep h0 h [] ∧ ∃ r : Int32, v = some (.int (nar .boolean r)) ∧ ((r = 0 ∧ own_U = ds) ∨ (r = 1 ∧ ¬ own_U = ds))
set_option maxRecDepth 65536 in
set_option maxHeartbeats 40000000 in
theorem rmSup (l : Launch) (Z : State) (a0 : Array Value) (hw : ∀ d ∈ tables_1, d.before a0 Z = true) (a1 a5 t5 : Addr) (k5 : ClassId) (ds : List Int32) (h0 : Heap) (n0 : Nat) (Z0 : n0 ≤ h0.size) (G1 : Int32) (O2 : Sta Z Z.heap "java/lang/String" "COMPACT_STRINGS" "Z" (.int G1)) (P5 : ¬ (G1 = (0 : Int32))) (X00 : Old Z n0 h0) (Fe : Fld Z h0 a1 "com/example/bede/bede/model/Explanation" "expression" "Ljava/lang/String;" (.ref a5)) (E5 : Exa Z h0 a5 "java/lang/String") (V5 : Fld Z h0 a5 "java/lang/String" "value" "[B" (.ref t5)) (C5 : Fld Z h0 a5 "java/lang/String" "coder" "B" (.int (0 : Int32))) (B5 : Arv Z h0 t5 k5 .byte (Int32.ofNat (ds).length) (((ds).map (fun c => c.toInt8.toInt32)).map Value.int) (.int (0 : Int32))) (hp5 : ∀ c ∈ ds, ¬ c < 0 ∧ ¬ (255 : Int32) < c) (hl5 : (ds).length ≤ 4000) (hEL : EW Z a0 EL) (wS : ∀ a ∈ Bundle.stringAtoms, a.before a0 Z = true) :
    MetFree l (⟨"com/example/bede/bede/model/Explanation", "isSupported", "()Z"⟩ : MethodName) (head1 [Jvm.Cond.code (⟨"com/example/bede/bede/model/Explanation", "isSupported", "()Z"⟩ : MethodName) prog_7_method_4_code 1 (some .boolean)] ({ frames := 2, cells := 2, slots := 48, locals := 29 } : Room)) (fun a U => a = #[(.ref a1)] ∧ Z.Warmed39 U.vm ∧ U.heap = h0 ∧ CHv Z EL U.vm h0) (fun _ _ _ _ _ => True) (fun _ U o U' => ∃ v L, o = .returned v ∧ (Q_rmSup Z a1 a5 t5 k5 ds h0 n0) v U'.heap L ∧ CHr Z EL U.vm U.heap U'.vm U'.heap ∧ ReturnedEndW U o U' L ({ frames := 2, cells := 2, slots := 48, locals := 29 } : Room).cells ({ frames := 2, cells := 2, slots := 48, locals := 29 } : Room).slots) := by
  refine MetFree.of_bodySF (plainFor_of_name pn_b7e2a6f) hisR ?_
  intro p e s m args below meth c s₁ Bd hml0 hP hK
  obtain ⟨rfl, hZ, hh, hCH⟩ := hP
  have hx := Bd.exec
  have hby := Bd.bytes
  have hml : c.maxLocals = 1 := hml0
  have hown : s.vm.findClass "com/example/bede/bede/model/Explanation" = some m.cls := findClass_of_methodNamed Bd.named
  have hnm := (name_of_methodNamed Bd.named Bd.method).1
  have X0 : Stand p l e ({ frames := 2, cells := 2, slots := 48, locals := 29 } : Room) s m #[(.ref a1)] below meth c s₁ [] 0 0 := Stand.of_body Bd
  have e0 : s₁.heap = h0 := by rw [← hh, Bd.state]; rfl
  have N0 := Fr.nil n0
  have K0 : Keep h0 h0 [] := Keep.refl h0 []
  have X0h : Stand p l e ({ frames := 2, cells := 2, slots := 48, locals := 29 } : Room) (s.setVm s.vm) m #[(.ref a1)] below meth c s₁ [] 0 0 := X0
  have hZh : Z.Warmed39 (s.setVm s.vm).vm := hZ
  have hownh : (s.setVm s.vm).vm.findClass "com/example/bede/bede/model/Explanation" = some m.cls := hown
  have hS0 : s.Since s.vm 0 := (State.WarmedH.refl s).since 0
  have C0 : CHr Z EL s.vm h0 s.vm h0 := CHr.refl hCH
  show Go p e below (s₁.setTop (entryFrame m #[(.ref a1)] 1)) (EndH Z EL s (Q_rmSup Z a1 a5 t5 k5 ds h0 n0) ({ frames := 2, cells := 2, slots := 48, locals := 29 } : Room).cells ({ frames := 2, cells := 2, slots := 48, locals := 29 } : Room).slots)
  refine Go.top (ef_12 m a1) ?_
  obtain ⟨a50, T50, h50, kS50, b50, kb50, X50, e50, E50, hS50, hk50, hZ50, ho50, EA50, CA50, VA50, BA50, lta50, ltb50, CC50, LA50, SF50, st50⟩ := ldcCH (s := s) (vm0 := s.vm) (EL := EL) X0h hx hZh hownh (hw _ (List.mem_of_getElem? (i := 61) rfl)) wS e0 hS0 (Nat.zero_le _) hEL (List.mem_of_getElem? (i := 0) rfl) C0.1 (vs := [(.int (117 : Int32)), (.int (110 : Int32)), (.int (115 : Int32)), (.int (117 : Int32)), (.int (112 : Int32)), (.int (112 : Int32)), (.int (111 : Int32)), (.int (114 : Int32)), (.int (116 : Int32)), (.int (101 : Int32)), (.int (100 : Int32))]) (z := (11 : Int32)) ⟨by decide, rfl⟩ (by decide) (by decide) (g := (mkF m 0 #[.val (.ref a1)] [])) rfl (hb hby d12_0) (n := 44) (by decide) (by decide) (by decide) (by decide)
  have K50 : Keep h0 h50 [] := K0.ext E50
  have C51 : CHr Z EL s.vm h0 T50.vm h50 := C0.trans CC50
  refine Go.st (T' := T50.setTop (mkF m 2 #[.val (.ref a1)] [(.ref a50)])) (fun t k => st50 t k) ?_
  refine Go.st (T' := T50.setTop (mkF m 3 #[.val (.ref a1)] [(.ref a1), (.ref a50)])) (fun t k => XS.aloadN X50.here hx rfl (hb hby d12_2) rfl rfl k) ?_
  have f52 : Fld Z h50 a1 "com/example/bede/bede/model/Explanation" "expression" "Ljava/lang/String;" (.ref a5) := (Fe.ext E50)
  obtain ⟨T53, X53, e53, st53⟩ := getF X50 hx hZ50 ho50 (host := "") (Or.inl (hw _ (List.mem_of_getElem? (i := 54) rfl))) Via.refl e50 f52 (g := (mkF m 3 #[.val (.ref a1)] [(.ref a1), (.ref a50)])) rfl rfl (hb hby d12_3)
  refine Go.st (T' := T53.setTop (mkF m 6 #[.val (.ref a1)] [(.ref a5), (.ref a50)])) (fun t k => st53 t k) ?_
  have heq : ∀ d ∈ StrChars.Road.wordsEq, d.before a0 Z = true := fun d hd => hw d ((by decide +kernel : ∀ d ∈ StrChars.Road.wordsEq, d ∈ tables_1) d hd)
  have hcd5 : StrChars.Road.CodA ds 0 (Int32.ofNat (ds).length) (((ds).map (fun c => c.toInt8.toInt32)).map Value.int) := StrChars.Road.codOf (n := (ds).length) rfl (fun x hx => (hp5 x hx).2)
  have hcdU : StrChars.Road.CodA own_U 0 (11 : Int32) (((own_U).map (fun c => c.toInt8.toInt32)).map Value.int) := StrChars.Road.codOf (n := 11) rfl (fun x hx => (own_up2 x hx).2)
  have f54 : Exa Z h50 a5 "java/lang/String" := (E5.ext E50)
  have f55 : Fld Z h50 a5 "java/lang/String" "value" "[B" (.ref t5) := (V5.ext E50)
  have f56 : Fld Z h50 a5 "java/lang/String" "coder" "B" (.int (0 : Int32)) := (C5.ext E50)
  have f57 : Arv Z h50 t5 k5 .byte (Int32.ofNat (ds).length) (((ds).map (fun c => c.toInt8.toInt32)).map Value.int) (.int (0 : Int32)) := (B5.ext E50)
  obtain ⟨cq58, kq58, q58a, q58b, q58c⟩ := isOf hZ50 e53 EA50
  obtain ⟨vr58, _, ⟨T58, L58, k58, n58⟩, -, X58, ⟨Lc58, hQ58, l58, y58, z58⟩, st58⟩ := X53.virtualBack hx (y := (⟨"java/lang/String", "equals", "(Ljava/lang/Object;)Z"⟩ : MethodName)) (z := (⟨"java/lang/String", "equals", "(Ljava/lang/Object;)Z"⟩ : MethodName)) ho50 (mvT hZ50 (hw _ (List.mem_of_getElem? (i := 64) rfl))) (mvT hZ50 (hw _ (List.mem_of_getElem? (i := 65) rfl))) (notFace_of_selects (args := #[]) (mvT hZ50 (hw _ (List.mem_of_getElem? (i := 67) rfl)))) (mvT hZ50 (hw _ (List.mem_of_getElem? (i := 67) rfl))) (mvT hZ50 (hw _ (List.mem_of_getElem? (i := 66) rfl))) (by decide) (StrChars.Road.eqW (W := 0) hZ50 heq (kI := 4) (hw _ (List.mem_of_getElem? (i := 3) rfl)) EA50 VA50 CA50 BA50 hcdU (own_up _ own_up2) (by decide) f54 f55 f56 f57 hcd5 (own_up _ hp5) hl5 (O2.ext (X00.keep K50 all0).2) P5 (by decide) (by decide)) q58a q58c (g := (mkF m 6 #[.val (.ref a1)] [(.ref a5), (.ref a50)])) rfl (by rw [hml]; rfl) (Steps.refl _) (argsL := [(.ref a5)]) (rest := []) (lenOf pd_a0133a8 rfl) rfl (by show 2 * 0 + _ ≤ _; exact Nat.le_of_eq rfl) (hb hby d12_6) (fun _ _ => ⟨rfl, e53, (by decide : 2 + 0 ≤ _), (by decide : 48 + 0 ≤ _)⟩)
  dsimp only [Pt.U, Pt.locs, Pt.cells, Pt.slots] at X58 l58 y58 z58 st58 hQ58
  subst l58 y58 z58
  obtain ⟨hv58, rfl, eq58⟩ := hQ58
  obtain ⟨r, hr0, hr⟩ : ∃ r : Int32, vr58 = some (.int r) ∧ ((r = 1 ∧ own_U = ds) ∨ (r = 0 ∧ ¬ own_U = ds)) := by
    rcases hv58 with ⟨q, q'⟩ | ⟨q, q'⟩
    · exact ⟨1, q, Or.inl ⟨rfl, q'⟩⟩
    · exact ⟨0, q, Or.inr ⟨rfl, q'⟩⟩
  subst hr0
  have Nq58 : Fr n0 ([] : List Loc) := Fr.nil n0
  have NN59 := Fr.app N0 Nq58
  refine Go.st (T' := T58.setTop (mkF m 9 #[.val (.ref a1)] [(.int r)])) (fun t k => st58.trans k) ?_
  rcases hr with ⟨rfl, q⟩ | ⟨rfl, q⟩
  ·
    refine Go.st (T' := T58.setTop (mkF m 16 #[.val (.ref a1)] [])) (fun t k => XS.ifYes X58.here hx rfl (pc0 := 9) (pc' := 16) rfl (hb hby d12_9) rfl ((if0 _ _).trans (feq (by decide)).2) (by decide) (by decide) k) ?_
    refine Go.st (T' := T58.setTop (mkF m 17 #[.val (.ref a1)] [(.int (0 : Int32))])) (fun t k => XS.iconst X58.here hx rfl (hb hby d12_16) k) ?_
    exact Go.doneH X58 hS50 (by rw [eq58]; exact hk50) Bd.notSynchronized (v := some (.int (nar .boolean (0 : Int32)))) (fun h => by rw [Bd.returns] at h; cases h) (fun fs hr => retN X58 hx (t := .boolean) Bd.returns (by simp) (hb hby d12_17) hr) (by rw [eq58]; exact ⟨NN59, K50, ⟨0, rfl, Or.inl ⟨rfl, q⟩⟩⟩) (by decide) (by decide) hZ50 hEL hh eq58 C51
  ·
    refine Go.st (T' := T58.setTop (mkF m 12 #[.val (.ref a1)] [])) (fun t k => XS.ifNo X58.here hx rfl (hb hby d12_9) rfl ((if0 _ _).trans (teq (by decide)).2) k) ?_
    refine Go.st (T' := T58.setTop (mkF m 13 #[.val (.ref a1)] [(.int (1 : Int32))])) (fun t k => XS.iconst X58.here hx rfl (hb hby d12_12) k) ?_
    refine Go.st (T' := T58.setTop (mkF m 17 #[.val (.ref a1)] [(.int (1 : Int32))])) (fun t k => XS.goto X58.here hx rfl (pc0 := 13) (pc' := 17) rfl (hb hby d12_13) (by decide) (by decide) k) ?_
    exact Go.doneH X58 hS50 (by rw [eq58]; exact hk50) Bd.notSynchronized (v := some (.int (nar .boolean (1 : Int32)))) (fun h => by rw [Bd.returns] at h; cases h) (fun fs hr => retN X58 hx (t := .boolean) Bd.returns (by simp) (hb hby d12_17) hr) (by rw [eq58]; exact ⟨NN59, K50, ⟨1, rfl, Or.inr ⟨rfl, q⟩⟩⟩) (by decide) (by decide) hZ50 hEL hh eq58 C51
theorem pn_6a73628 : plainName "com/example/bede/bede/model/ExplanationIsSupportedPinLaw" = true := by first | (simp [plainName, overriddenIn]; done) | decide +kernel
theorem pd_a67b36d : parseMethodDescriptor "([C)V" = some ⟨[(.array .char)], none⟩ := by decide +kernel
theorem pd_b5a46ce : parseMethodDescriptor "(C)Ljava/lang/String;" = some ⟨[.char], some (.object "java/lang/String")⟩ := by decide +kernel
theorem pd_e442dcf : parseMethodDescriptor "(Ljava/lang/String;Ljava/lang/String;)V" = some ⟨[(.object "java/lang/String"), (.object "java/lang/String")], none⟩ := by decide +kernel
theorem pd_a8ebd : parseMethodDescriptor "()Z" = some ⟨[], some .boolean⟩ := by decide +kernel
theorem ef_0 (m : MethodId) (x0 : Int32) (x1 : Int32) (x2 : Int32) (x3 : Int32) : entryFrame m #[(.int x0), (.int x1), (.int x2), (.int x3)] maxLocals = mkF m 0 #[.val (.int x0), .val (.int x1), .val (.int x2), .val (.int x3), .unset, .unset, .unset, .unset, .unset, .unset, .unset, .unset, .unset, .unset] [] := by first | (simp [entryFrame, mkF, argsToLocals, Value.category, maxLocals]; done) | rfl
def Q_rm0 (Z : State) (p1 p2 p3 p4 : Int32) (h0 : Heap) (n0 : Nat) (v : Option Value) (h : Heap) (L : List Loc) : Prop := v = some (.int (1 : Int32)) ∧ Fr n0 L
set_option maxRecDepth 65536 in
set_option maxHeartbeats 40000000 in
theorem rm0 (l : Launch) (Z : State) (a0 : Array Value) (hw : ∀ d ∈ tables_1, d.before a0 Z = true) (ws : List Jvm.Cond) (p1 p2 p3 p4 : Int32) (h0 : Heap) (n0 : Nat) (Z0 : n0 ≤ h0.size) (G1 : Int32) (O2 : Sta Z Z.heap "java/lang/String" "COMPACT_STRINGS" "Z" (.int G1)) (P5 : ¬ (G1 = (0 : Int32))) (X00 : Old Z n0 h0) (hEL : EW Z a0 EL) (wS : ∀ a ∈ Bundle.stringAtoms, a.before a0 Z = true) :
    MetFree l x (head1 (Jvm.Cond.code x code maxLocals ret :: ws) room_1) (fun a U => a = #[(.int p1), (.int p2), (.int p3), (.int p4)] ∧ Z.Warmed39 U.vm ∧ U.heap = h0 ∧ CHv Z EL U.vm h0) (fun _ _ _ _ _ => True) (fun _ U o U' => ∃ v L, o = .returned v ∧ (Q_rm0 Z p1 p2 p3 p4 h0 n0) v U'.heap L ∧ CHr Z EL U.vm U.heap U'.vm U'.heap ∧ ReturnedEndW U o U' L room_1.cells room_1.slots) := by
  refine MetFree.of_bodySF (plainFor_of_name pn_6a73628) hisR ?_
  intro p e s m args below meth c s₁ Bd hml0 hP hK
  obtain ⟨rfl, hZ, hh, hCH⟩ := hP
  have hx := Bd.exec
  have hby := Bd.bytes
  have hml : c.maxLocals = 14 := hml0
  have hown : s.vm.findClass "com/example/bede/bede/model/ExplanationIsSupportedPinLaw" = some m.cls := findClass_of_methodNamed Bd.named
  have hnm := (name_of_methodNamed Bd.named Bd.method).1
  have X0 : Stand p l e room_1 s m #[(.int p1), (.int p2), (.int p3), (.int p4)] below meth c s₁ [] 0 0 := Stand.of_body Bd
  have e0 : s₁.heap = h0 := by rw [← hh, Bd.state]; rfl
  have N0 := Fr.nil n0
  have K0 : Keep h0 h0 [] := Keep.refl h0 []
  have X0h : Stand p l e room_1 (s.setVm s.vm) m #[(.int p1), (.int p2), (.int p3), (.int p4)] below meth c s₁ [] 0 0 := X0
  have hZh : Z.Warmed39 (s.setVm s.vm).vm := hZ
  have hownh : (s.setVm s.vm).vm.findClass "com/example/bede/bede/model/ExplanationIsSupportedPinLaw" = some m.cls := hown
  have hS0 : s.Since s.vm 0 := (State.WarmedH.refl s).since 0
  have C0 : CHr Z EL s.vm h0 s.vm h0 := CHr.refl hCH
  show Go p e below (s₁.setTop (entryFrame m #[(.int p1), (.int p2), (.int p3), (.int p4)] maxLocals)) (EndH Z EL s (Q_rm0 Z p1 p2 p3 p4 h0 n0) room_1.cells room_1.slots)
  refine Go.top (ef_0 m p1 p2 p3 p4) ?_
  have hws : ∀ d ∈ StrChars.Road.words, d.before a0 Z = true := fun d hd => hw d ((by decide +kernel : ∀ d ∈ StrChars.Road.words, d ∈ tables_1) d hd)
  refine Go.st (T' := s₁.setTop (mkF m 2 #[.val (.int p1), .val (.int p2), .val (.int p3), .val (.int p4), .unset, .unset, .unset, .unset, .unset, .unset, .unset, .unset, .unset, .unset] [(.int (11 : Int32))])) (fun t k => XS.bipush X0h.here hx rfl (hb hby at_0) k) ?_
  obtain ⟨T60, h60, k60, X60, e60, E60, A60, st60⟩ := newP X0h hx hZh (hw _ (List.mem_of_getElem? (i := 0) rfl)) e0 (g := (mkF m 2 #[.val (.int p1), .val (.int p2), .val (.int p3), .val (.int p4), .unset, .unset, .unset, .unset, .unset, .unset, .unset, .unset, .unset, .unset] [(.int (11 : Int32))])) rfl (hb hby at_2) rfl (by decide) (cap := 11) (by decide) (by decide) (by decide) (by decide)
  obtain ⟨b60, g60⟩ : ∃ z, z = h0.size := ⟨_, rfl⟩
  rw [← g60] at A60 st60
  have g_b60 : n0 ≤ b60 := Nat.le_trans (Nat.le_trans Z0 K0.1) (Nat.le_of_eq g60.symm)
  have sz_b60 : h0.size ≤ b60 := Nat.le_trans K0.1 (Nat.le_of_eq g60.symm)
  have C61 : CHr Z EL s.vm h0 s.vm h60 := C0.trans (CHr.ext E60 C0.1)
  have K60 : Keep h0 h60 [] := K0.ext E60
  have V60 : Arv Z h60 b60 k60 .char (11 : Int32) [(.int (0 : Int32)), (.int (0 : Int32)), (.int (0 : Int32)), (.int (0 : Int32)), (.int (0 : Int32)), (.int (0 : Int32)), (.int (0 : Int32)), (.int (0 : Int32)), (.int (0 : Int32)), (.int (0 : Int32)), (.int (0 : Int32))] (.int (0 : Int32)) := (Arv.new A60 (by decide)).pad (pad_rep [] (.int (0 : Int32)) 11)
  refine Go.st (T' := T60.setTop (mkF m 4 #[.val (.int p1), .val (.int p2), .val (.int p3), .val (.int p4), .unset, .unset, .unset, .unset, .unset, .unset, .unset, .unset, .unset, .unset] [(.ref b60)])) (fun t k => st60 t k) ?_
  refine Go.st (T' := T60.setTop (mkF m 5 #[.val (.int p1), .val (.int p2), .val (.int p3), .val (.int p4), .unset, .unset, .unset, .unset, .unset, .unset, .unset, .unset, .unset, .unset] [(.ref b60), (.ref b60)])) (fun t k => XS.dup X60.here hx rfl (hb hby at_4) rfl rfl k) ?_
  refine Go.st (T' := T60.setTop (mkF m 6 #[.val (.int p1), .val (.int p2), .val (.int p3), .val (.int p4), .unset, .unset, .unset, .unset, .unset, .unset, .unset, .unset, .unset, .unset] [(.int (0 : Int32)), (.ref b60), (.ref b60)])) (fun t k => XS.iconst X60.here hx rfl (hb hby at_5) k) ?_
  refine Go.st (T' := T60.setTop (mkF m 8 #[.val (.int p1), .val (.int p2), .val (.int p3), .val (.int p4), .unset, .unset, .unset, .unset, .unset, .unset, .unset, .unset, .unset, .unset] [(.int (117 : Int32)), (.int (0 : Int32)), (.ref b60), (.ref b60)])) (fun t k => XS.bipush X60.here hx rfl (hb hby at_6) k) ?_
  obtain ⟨cl62, Ar62, q62, S62, M62, H62, G62⟩ := id V60
  obtain ⟨T62, h62, X62, e62, W62, st62⟩ := stC X60 hx hZh e60 Ar62 (j := (0 : Int32)) (inb_of S62 ⟨by decide, by decide⟩) (g := (mkF m 8 #[.val (.int p1), .val (.int p2), .val (.int p3), .val (.int p4), .unset, .unset, .unset, .unset, .unset, .unset, .unset, .unset, .unset, .unset] [(.int (117 : Int32)), (.int (0 : Int32)), (.ref b60), (.ref b60)])) rfl rfl (hb hby at_8)
  have C63 : CHr Z EL s.vm h0 s.vm h62 := C61.trans (CHr.wr W62 (by obtain ⟨_, A_, _⟩ := id V60; exact Safe.arr hZh.alike A_ (by decide)) C61.1)
  have V62 : Arv Z h62 b60 k60 .char (11 : Int32) [(.int (nar .char (117 : Int32))), (.int (0 : Int32)), (.int (0 : Int32)), (.int (0 : Int32)), (.int (0 : Int32)), (.int (0 : Int32)), (.int (0 : Int32)), (.int (0 : Int32)), (.int (0 : Int32)), (.int (0 : Int32)), (.int (0 : Int32))] (.int (0 : Int32)) := Arv.set Ar62 q62 S62 M62 H62 G62 (fits_nar_char _) W62 0 rfl (Nat.le_of_ble_eq_true rfl)
  have K62 : Keep h0 h62 [] := K60.wr W62 (Or.inr sz_b60)
  have N62 := Fr.snoc X62 N0 g_b60
  refine Go.st (T' := T62.setTop (mkF m 9 #[.val (.int p1), .val (.int p2), .val (.int p3), .val (.int p4), .unset, .unset, .unset, .unset, .unset, .unset, .unset, .unset, .unset, .unset] [(.ref b60)])) (fun t k => st62 t k) ?_
  refine Go.st (T' := T62.setTop (mkF m 10 #[.val (.int p1), .val (.int p2), .val (.int p3), .val (.int p4), .unset, .unset, .unset, .unset, .unset, .unset, .unset, .unset, .unset, .unset] [(.ref b60), (.ref b60)])) (fun t k => XS.dup X62.here hx rfl (hb hby at_9) rfl rfl k) ?_
  refine Go.st (T' := T62.setTop (mkF m 11 #[.val (.int p1), .val (.int p2), .val (.int p3), .val (.int p4), .unset, .unset, .unset, .unset, .unset, .unset, .unset, .unset, .unset, .unset] [(.int (1 : Int32)), (.ref b60), (.ref b60)])) (fun t k => XS.iconst X62.here hx rfl (hb hby at_10) k) ?_
  refine Go.st (T' := T62.setTop (mkF m 13 #[.val (.int p1), .val (.int p2), .val (.int p3), .val (.int p4), .unset, .unset, .unset, .unset, .unset, .unset, .unset, .unset, .unset, .unset] [(.int (110 : Int32)), (.int (1 : Int32)), (.ref b60), (.ref b60)])) (fun t k => XS.bipush X62.here hx rfl (hb hby at_11) k) ?_
  obtain ⟨cl64, Ar64, q64, S64, M64, H64, G64⟩ := id V62
  obtain ⟨T64, h64, X64, e64, W64, st64⟩ := stC X62 hx hZh e62 Ar64 (j := (1 : Int32)) (inb_of S64 ⟨by decide, by decide⟩) (g := (mkF m 13 #[.val (.int p1), .val (.int p2), .val (.int p3), .val (.int p4), .unset, .unset, .unset, .unset, .unset, .unset, .unset, .unset, .unset, .unset] [(.int (110 : Int32)), (.int (1 : Int32)), (.ref b60), (.ref b60)])) rfl rfl (hb hby at_13)
  have C65 : CHr Z EL s.vm h0 s.vm h64 := C63.trans (CHr.wr W64 (by obtain ⟨_, A_, _⟩ := id V62; exact Safe.arr hZh.alike A_ (by decide)) C63.1)
  have V64 : Arv Z h64 b60 k60 .char (11 : Int32) [(.int (nar .char (117 : Int32))), (.int (nar .char (110 : Int32))), (.int (0 : Int32)), (.int (0 : Int32)), (.int (0 : Int32)), (.int (0 : Int32)), (.int (0 : Int32)), (.int (0 : Int32)), (.int (0 : Int32)), (.int (0 : Int32)), (.int (0 : Int32))] (.int (0 : Int32)) := Arv.set Ar64 q64 S64 M64 H64 G64 (fits_nar_char _) W64 1 rfl (Nat.le_of_ble_eq_true rfl)
  have K64 : Keep h0 h64 [] := K62.wr W64 (Or.inr sz_b60)
  have N64 := Fr.snoc X64 N62 g_b60
  refine Go.st (T' := T64.setTop (mkF m 14 #[.val (.int p1), .val (.int p2), .val (.int p3), .val (.int p4), .unset, .unset, .unset, .unset, .unset, .unset, .unset, .unset, .unset, .unset] [(.ref b60)])) (fun t k => st64 t k) ?_
  refine Go.st (T' := T64.setTop (mkF m 15 #[.val (.int p1), .val (.int p2), .val (.int p3), .val (.int p4), .unset, .unset, .unset, .unset, .unset, .unset, .unset, .unset, .unset, .unset] [(.ref b60), (.ref b60)])) (fun t k => XS.dup X64.here hx rfl (hb hby at_14) rfl rfl k) ?_
  refine Go.st (T' := T64.setTop (mkF m 16 #[.val (.int p1), .val (.int p2), .val (.int p3), .val (.int p4), .unset, .unset, .unset, .unset, .unset, .unset, .unset, .unset, .unset, .unset] [(.int (2 : Int32)), (.ref b60), (.ref b60)])) (fun t k => XS.iconst X64.here hx rfl (hb hby at_15) k) ?_
  refine Go.st (T' := T64.setTop (mkF m 18 #[.val (.int p1), .val (.int p2), .val (.int p3), .val (.int p4), .unset, .unset, .unset, .unset, .unset, .unset, .unset, .unset, .unset, .unset] [(.int (115 : Int32)), (.int (2 : Int32)), (.ref b60), (.ref b60)])) (fun t k => XS.bipush X64.here hx rfl (hb hby at_16) k) ?_
  obtain ⟨cl66, Ar66, q66, S66, M66, H66, G66⟩ := id V64
  obtain ⟨T66, h66, X66, e66, W66, st66⟩ := stC X64 hx hZh e64 Ar66 (j := (2 : Int32)) (inb_of S66 ⟨by decide, by decide⟩) (g := (mkF m 18 #[.val (.int p1), .val (.int p2), .val (.int p3), .val (.int p4), .unset, .unset, .unset, .unset, .unset, .unset, .unset, .unset, .unset, .unset] [(.int (115 : Int32)), (.int (2 : Int32)), (.ref b60), (.ref b60)])) rfl rfl (hb hby at_18)
  have C67 : CHr Z EL s.vm h0 s.vm h66 := C65.trans (CHr.wr W66 (by obtain ⟨_, A_, _⟩ := id V64; exact Safe.arr hZh.alike A_ (by decide)) C65.1)
  have V66 : Arv Z h66 b60 k60 .char (11 : Int32) [(.int (nar .char (117 : Int32))), (.int (nar .char (110 : Int32))), (.int (nar .char (115 : Int32))), (.int (0 : Int32)), (.int (0 : Int32)), (.int (0 : Int32)), (.int (0 : Int32)), (.int (0 : Int32)), (.int (0 : Int32)), (.int (0 : Int32)), (.int (0 : Int32))] (.int (0 : Int32)) := Arv.set Ar66 q66 S66 M66 H66 G66 (fits_nar_char _) W66 2 rfl (Nat.le_of_ble_eq_true rfl)
  have K66 : Keep h0 h66 [] := K64.wr W66 (Or.inr sz_b60)
  have N66 := Fr.snoc X66 N64 g_b60
  refine Go.st (T' := T66.setTop (mkF m 19 #[.val (.int p1), .val (.int p2), .val (.int p3), .val (.int p4), .unset, .unset, .unset, .unset, .unset, .unset, .unset, .unset, .unset, .unset] [(.ref b60)])) (fun t k => st66 t k) ?_
  refine Go.st (T' := T66.setTop (mkF m 20 #[.val (.int p1), .val (.int p2), .val (.int p3), .val (.int p4), .unset, .unset, .unset, .unset, .unset, .unset, .unset, .unset, .unset, .unset] [(.ref b60), (.ref b60)])) (fun t k => XS.dup X66.here hx rfl (hb hby at_19) rfl rfl k) ?_
  refine Go.st (T' := T66.setTop (mkF m 21 #[.val (.int p1), .val (.int p2), .val (.int p3), .val (.int p4), .unset, .unset, .unset, .unset, .unset, .unset, .unset, .unset, .unset, .unset] [(.int (3 : Int32)), (.ref b60), (.ref b60)])) (fun t k => XS.iconst X66.here hx rfl (hb hby at_20) k) ?_
  refine Go.st (T' := T66.setTop (mkF m 23 #[.val (.int p1), .val (.int p2), .val (.int p3), .val (.int p4), .unset, .unset, .unset, .unset, .unset, .unset, .unset, .unset, .unset, .unset] [(.int (117 : Int32)), (.int (3 : Int32)), (.ref b60), (.ref b60)])) (fun t k => XS.bipush X66.here hx rfl (hb hby at_21) k) ?_
  obtain ⟨cl68, Ar68, q68, S68, M68, H68, G68⟩ := id V66
  obtain ⟨T68, h68, X68, e68, W68, st68⟩ := stC X66 hx hZh e66 Ar68 (j := (3 : Int32)) (inb_of S68 ⟨by decide, by decide⟩) (g := (mkF m 23 #[.val (.int p1), .val (.int p2), .val (.int p3), .val (.int p4), .unset, .unset, .unset, .unset, .unset, .unset, .unset, .unset, .unset, .unset] [(.int (117 : Int32)), (.int (3 : Int32)), (.ref b60), (.ref b60)])) rfl rfl (hb hby at_23)
  have C69 : CHr Z EL s.vm h0 s.vm h68 := C67.trans (CHr.wr W68 (by obtain ⟨_, A_, _⟩ := id V66; exact Safe.arr hZh.alike A_ (by decide)) C67.1)
  have V68 : Arv Z h68 b60 k60 .char (11 : Int32) [(.int (nar .char (117 : Int32))), (.int (nar .char (110 : Int32))), (.int (nar .char (115 : Int32))), (.int (nar .char (117 : Int32))), (.int (0 : Int32)), (.int (0 : Int32)), (.int (0 : Int32)), (.int (0 : Int32)), (.int (0 : Int32)), (.int (0 : Int32)), (.int (0 : Int32))] (.int (0 : Int32)) := Arv.set Ar68 q68 S68 M68 H68 G68 (fits_nar_char _) W68 3 rfl (Nat.le_of_ble_eq_true rfl)
  have K68 : Keep h0 h68 [] := K66.wr W68 (Or.inr sz_b60)
  have N68 := Fr.snoc X68 N66 g_b60
  refine Go.st (T' := T68.setTop (mkF m 24 #[.val (.int p1), .val (.int p2), .val (.int p3), .val (.int p4), .unset, .unset, .unset, .unset, .unset, .unset, .unset, .unset, .unset, .unset] [(.ref b60)])) (fun t k => st68 t k) ?_
  refine Go.st (T' := T68.setTop (mkF m 25 #[.val (.int p1), .val (.int p2), .val (.int p3), .val (.int p4), .unset, .unset, .unset, .unset, .unset, .unset, .unset, .unset, .unset, .unset] [(.ref b60), (.ref b60)])) (fun t k => XS.dup X68.here hx rfl (hb hby at_24) rfl rfl k) ?_
  refine Go.st (T' := T68.setTop (mkF m 26 #[.val (.int p1), .val (.int p2), .val (.int p3), .val (.int p4), .unset, .unset, .unset, .unset, .unset, .unset, .unset, .unset, .unset, .unset] [(.int (4 : Int32)), (.ref b60), (.ref b60)])) (fun t k => XS.iconst X68.here hx rfl (hb hby at_25) k) ?_
  refine Go.st (T' := T68.setTop (mkF m 28 #[.val (.int p1), .val (.int p2), .val (.int p3), .val (.int p4), .unset, .unset, .unset, .unset, .unset, .unset, .unset, .unset, .unset, .unset] [(.int (112 : Int32)), (.int (4 : Int32)), (.ref b60), (.ref b60)])) (fun t k => XS.bipush X68.here hx rfl (hb hby at_26) k) ?_
  obtain ⟨cl70, Ar70, q70, S70, M70, H70, G70⟩ := id V68
  obtain ⟨T70, h70, X70, e70, W70, st70⟩ := stC X68 hx hZh e68 Ar70 (j := (4 : Int32)) (inb_of S70 ⟨by decide, by decide⟩) (g := (mkF m 28 #[.val (.int p1), .val (.int p2), .val (.int p3), .val (.int p4), .unset, .unset, .unset, .unset, .unset, .unset, .unset, .unset, .unset, .unset] [(.int (112 : Int32)), (.int (4 : Int32)), (.ref b60), (.ref b60)])) rfl rfl (hb hby at_28)
  have C71 : CHr Z EL s.vm h0 s.vm h70 := C69.trans (CHr.wr W70 (by obtain ⟨_, A_, _⟩ := id V68; exact Safe.arr hZh.alike A_ (by decide)) C69.1)
  have V70 : Arv Z h70 b60 k60 .char (11 : Int32) [(.int (nar .char (117 : Int32))), (.int (nar .char (110 : Int32))), (.int (nar .char (115 : Int32))), (.int (nar .char (117 : Int32))), (.int (nar .char (112 : Int32))), (.int (0 : Int32)), (.int (0 : Int32)), (.int (0 : Int32)), (.int (0 : Int32)), (.int (0 : Int32)), (.int (0 : Int32))] (.int (0 : Int32)) := Arv.set Ar70 q70 S70 M70 H70 G70 (fits_nar_char _) W70 4 rfl (Nat.le_of_ble_eq_true rfl)
  have K70 : Keep h0 h70 [] := K68.wr W70 (Or.inr sz_b60)
  have N70 := Fr.snoc X70 N68 g_b60
  refine Go.st (T' := T70.setTop (mkF m 29 #[.val (.int p1), .val (.int p2), .val (.int p3), .val (.int p4), .unset, .unset, .unset, .unset, .unset, .unset, .unset, .unset, .unset, .unset] [(.ref b60)])) (fun t k => st70 t k) ?_
  refine Go.st (T' := T70.setTop (mkF m 30 #[.val (.int p1), .val (.int p2), .val (.int p3), .val (.int p4), .unset, .unset, .unset, .unset, .unset, .unset, .unset, .unset, .unset, .unset] [(.ref b60), (.ref b60)])) (fun t k => XS.dup X70.here hx rfl (hb hby at_29) rfl rfl k) ?_
  refine Go.st (T' := T70.setTop (mkF m 31 #[.val (.int p1), .val (.int p2), .val (.int p3), .val (.int p4), .unset, .unset, .unset, .unset, .unset, .unset, .unset, .unset, .unset, .unset] [(.int (5 : Int32)), (.ref b60), (.ref b60)])) (fun t k => XS.iconst X70.here hx rfl (hb hby at_30) k) ?_
  refine Go.st (T' := T70.setTop (mkF m 33 #[.val (.int p1), .val (.int p2), .val (.int p3), .val (.int p4), .unset, .unset, .unset, .unset, .unset, .unset, .unset, .unset, .unset, .unset] [(.int (112 : Int32)), (.int (5 : Int32)), (.ref b60), (.ref b60)])) (fun t k => XS.bipush X70.here hx rfl (hb hby at_31) k) ?_
  obtain ⟨cl72, Ar72, q72, S72, M72, H72, G72⟩ := id V70
  obtain ⟨T72, h72, X72, e72, W72, st72⟩ := stC X70 hx hZh e70 Ar72 (j := (5 : Int32)) (inb_of S72 ⟨by decide, by decide⟩) (g := (mkF m 33 #[.val (.int p1), .val (.int p2), .val (.int p3), .val (.int p4), .unset, .unset, .unset, .unset, .unset, .unset, .unset, .unset, .unset, .unset] [(.int (112 : Int32)), (.int (5 : Int32)), (.ref b60), (.ref b60)])) rfl rfl (hb hby at_33)
  have C73 : CHr Z EL s.vm h0 s.vm h72 := C71.trans (CHr.wr W72 (by obtain ⟨_, A_, _⟩ := id V70; exact Safe.arr hZh.alike A_ (by decide)) C71.1)
  have V72 : Arv Z h72 b60 k60 .char (11 : Int32) [(.int (nar .char (117 : Int32))), (.int (nar .char (110 : Int32))), (.int (nar .char (115 : Int32))), (.int (nar .char (117 : Int32))), (.int (nar .char (112 : Int32))), (.int (nar .char (112 : Int32))), (.int (0 : Int32)), (.int (0 : Int32)), (.int (0 : Int32)), (.int (0 : Int32)), (.int (0 : Int32))] (.int (0 : Int32)) := Arv.set Ar72 q72 S72 M72 H72 G72 (fits_nar_char _) W72 5 rfl (Nat.le_of_ble_eq_true rfl)
  have K72 : Keep h0 h72 [] := K70.wr W72 (Or.inr sz_b60)
  have N72 := Fr.snoc X72 N70 g_b60
  refine Go.st (T' := T72.setTop (mkF m 34 #[.val (.int p1), .val (.int p2), .val (.int p3), .val (.int p4), .unset, .unset, .unset, .unset, .unset, .unset, .unset, .unset, .unset, .unset] [(.ref b60)])) (fun t k => st72 t k) ?_
  refine Go.st (T' := T72.setTop (mkF m 35 #[.val (.int p1), .val (.int p2), .val (.int p3), .val (.int p4), .unset, .unset, .unset, .unset, .unset, .unset, .unset, .unset, .unset, .unset] [(.ref b60), (.ref b60)])) (fun t k => XS.dup X72.here hx rfl (hb hby at_34) rfl rfl k) ?_
  refine Go.st (T' := T72.setTop (mkF m 37 #[.val (.int p1), .val (.int p2), .val (.int p3), .val (.int p4), .unset, .unset, .unset, .unset, .unset, .unset, .unset, .unset, .unset, .unset] [(.int (6 : Int32)), (.ref b60), (.ref b60)])) (fun t k => XS.bipush X72.here hx rfl (hb hby at_35) k) ?_
  refine Go.st (T' := T72.setTop (mkF m 39 #[.val (.int p1), .val (.int p2), .val (.int p3), .val (.int p4), .unset, .unset, .unset, .unset, .unset, .unset, .unset, .unset, .unset, .unset] [(.int (111 : Int32)), (.int (6 : Int32)), (.ref b60), (.ref b60)])) (fun t k => XS.bipush X72.here hx rfl (hb hby at_37) k) ?_
  obtain ⟨cl74, Ar74, q74, S74, M74, H74, G74⟩ := id V72
  obtain ⟨T74, h74, X74, e74, W74, st74⟩ := stC X72 hx hZh e72 Ar74 (j := (6 : Int32)) (inb_of S74 ⟨by decide, by decide⟩) (g := (mkF m 39 #[.val (.int p1), .val (.int p2), .val (.int p3), .val (.int p4), .unset, .unset, .unset, .unset, .unset, .unset, .unset, .unset, .unset, .unset] [(.int (111 : Int32)), (.int (6 : Int32)), (.ref b60), (.ref b60)])) rfl rfl (hb hby at_39)
  have C75 : CHr Z EL s.vm h0 s.vm h74 := C73.trans (CHr.wr W74 (by obtain ⟨_, A_, _⟩ := id V72; exact Safe.arr hZh.alike A_ (by decide)) C73.1)
  have V74 : Arv Z h74 b60 k60 .char (11 : Int32) [(.int (nar .char (117 : Int32))), (.int (nar .char (110 : Int32))), (.int (nar .char (115 : Int32))), (.int (nar .char (117 : Int32))), (.int (nar .char (112 : Int32))), (.int (nar .char (112 : Int32))), (.int (nar .char (111 : Int32))), (.int (0 : Int32)), (.int (0 : Int32)), (.int (0 : Int32)), (.int (0 : Int32))] (.int (0 : Int32)) := Arv.set Ar74 q74 S74 M74 H74 G74 (fits_nar_char _) W74 6 rfl (Nat.le_of_ble_eq_true rfl)
  have K74 : Keep h0 h74 [] := K72.wr W74 (Or.inr sz_b60)
  have N74 := Fr.snoc X74 N72 g_b60
  refine Go.st (T' := T74.setTop (mkF m 40 #[.val (.int p1), .val (.int p2), .val (.int p3), .val (.int p4), .unset, .unset, .unset, .unset, .unset, .unset, .unset, .unset, .unset, .unset] [(.ref b60)])) (fun t k => st74 t k) ?_
  refine Go.st (T' := T74.setTop (mkF m 41 #[.val (.int p1), .val (.int p2), .val (.int p3), .val (.int p4), .unset, .unset, .unset, .unset, .unset, .unset, .unset, .unset, .unset, .unset] [(.ref b60), (.ref b60)])) (fun t k => XS.dup X74.here hx rfl (hb hby at_40) rfl rfl k) ?_
  refine Go.st (T' := T74.setTop (mkF m 43 #[.val (.int p1), .val (.int p2), .val (.int p3), .val (.int p4), .unset, .unset, .unset, .unset, .unset, .unset, .unset, .unset, .unset, .unset] [(.int (7 : Int32)), (.ref b60), (.ref b60)])) (fun t k => XS.bipush X74.here hx rfl (hb hby at_41) k) ?_
  refine Go.st (T' := T74.setTop (mkF m 45 #[.val (.int p1), .val (.int p2), .val (.int p3), .val (.int p4), .unset, .unset, .unset, .unset, .unset, .unset, .unset, .unset, .unset, .unset] [(.int (114 : Int32)), (.int (7 : Int32)), (.ref b60), (.ref b60)])) (fun t k => XS.bipush X74.here hx rfl (hb hby at_43) k) ?_
  obtain ⟨cl76, Ar76, q76, S76, M76, H76, G76⟩ := id V74
  obtain ⟨T76, h76, X76, e76, W76, st76⟩ := stC X74 hx hZh e74 Ar76 (j := (7 : Int32)) (inb_of S76 ⟨by decide, by decide⟩) (g := (mkF m 45 #[.val (.int p1), .val (.int p2), .val (.int p3), .val (.int p4), .unset, .unset, .unset, .unset, .unset, .unset, .unset, .unset, .unset, .unset] [(.int (114 : Int32)), (.int (7 : Int32)), (.ref b60), (.ref b60)])) rfl rfl (hb hby at_45)
  have C77 : CHr Z EL s.vm h0 s.vm h76 := C75.trans (CHr.wr W76 (by obtain ⟨_, A_, _⟩ := id V74; exact Safe.arr hZh.alike A_ (by decide)) C75.1)
  have V76 : Arv Z h76 b60 k60 .char (11 : Int32) [(.int (nar .char (117 : Int32))), (.int (nar .char (110 : Int32))), (.int (nar .char (115 : Int32))), (.int (nar .char (117 : Int32))), (.int (nar .char (112 : Int32))), (.int (nar .char (112 : Int32))), (.int (nar .char (111 : Int32))), (.int (nar .char (114 : Int32))), (.int (0 : Int32)), (.int (0 : Int32)), (.int (0 : Int32))] (.int (0 : Int32)) := Arv.set Ar76 q76 S76 M76 H76 G76 (fits_nar_char _) W76 7 rfl (Nat.le_of_ble_eq_true rfl)
  have K76 : Keep h0 h76 [] := K74.wr W76 (Or.inr sz_b60)
  have N76 := Fr.snoc X76 N74 g_b60
  refine Go.st (T' := T76.setTop (mkF m 46 #[.val (.int p1), .val (.int p2), .val (.int p3), .val (.int p4), .unset, .unset, .unset, .unset, .unset, .unset, .unset, .unset, .unset, .unset] [(.ref b60)])) (fun t k => st76 t k) ?_
  refine Go.st (T' := T76.setTop (mkF m 47 #[.val (.int p1), .val (.int p2), .val (.int p3), .val (.int p4), .unset, .unset, .unset, .unset, .unset, .unset, .unset, .unset, .unset, .unset] [(.ref b60), (.ref b60)])) (fun t k => XS.dup X76.here hx rfl (hb hby at_46) rfl rfl k) ?_
  refine Go.st (T' := T76.setTop (mkF m 49 #[.val (.int p1), .val (.int p2), .val (.int p3), .val (.int p4), .unset, .unset, .unset, .unset, .unset, .unset, .unset, .unset, .unset, .unset] [(.int (8 : Int32)), (.ref b60), (.ref b60)])) (fun t k => XS.bipush X76.here hx rfl (hb hby at_47) k) ?_
  refine Go.st (T' := T76.setTop (mkF m 51 #[.val (.int p1), .val (.int p2), .val (.int p3), .val (.int p4), .unset, .unset, .unset, .unset, .unset, .unset, .unset, .unset, .unset, .unset] [(.int (116 : Int32)), (.int (8 : Int32)), (.ref b60), (.ref b60)])) (fun t k => XS.bipush X76.here hx rfl (hb hby at_49) k) ?_
  obtain ⟨cl78, Ar78, q78, S78, M78, H78, G78⟩ := id V76
  obtain ⟨T78, h78, X78, e78, W78, st78⟩ := stC X76 hx hZh e76 Ar78 (j := (8 : Int32)) (inb_of S78 ⟨by decide, by decide⟩) (g := (mkF m 51 #[.val (.int p1), .val (.int p2), .val (.int p3), .val (.int p4), .unset, .unset, .unset, .unset, .unset, .unset, .unset, .unset, .unset, .unset] [(.int (116 : Int32)), (.int (8 : Int32)), (.ref b60), (.ref b60)])) rfl rfl (hb hby at_51)
  have C79 : CHr Z EL s.vm h0 s.vm h78 := C77.trans (CHr.wr W78 (by obtain ⟨_, A_, _⟩ := id V76; exact Safe.arr hZh.alike A_ (by decide)) C77.1)
  have V78 : Arv Z h78 b60 k60 .char (11 : Int32) [(.int (nar .char (117 : Int32))), (.int (nar .char (110 : Int32))), (.int (nar .char (115 : Int32))), (.int (nar .char (117 : Int32))), (.int (nar .char (112 : Int32))), (.int (nar .char (112 : Int32))), (.int (nar .char (111 : Int32))), (.int (nar .char (114 : Int32))), (.int (nar .char (116 : Int32))), (.int (0 : Int32)), (.int (0 : Int32))] (.int (0 : Int32)) := Arv.set Ar78 q78 S78 M78 H78 G78 (fits_nar_char _) W78 8 rfl (Nat.le_of_ble_eq_true rfl)
  have K78 : Keep h0 h78 [] := K76.wr W78 (Or.inr sz_b60)
  have N78 := Fr.snoc X78 N76 g_b60
  refine Go.st (T' := T78.setTop (mkF m 52 #[.val (.int p1), .val (.int p2), .val (.int p3), .val (.int p4), .unset, .unset, .unset, .unset, .unset, .unset, .unset, .unset, .unset, .unset] [(.ref b60)])) (fun t k => st78 t k) ?_
  refine Go.st (T' := T78.setTop (mkF m 53 #[.val (.int p1), .val (.int p2), .val (.int p3), .val (.int p4), .unset, .unset, .unset, .unset, .unset, .unset, .unset, .unset, .unset, .unset] [(.ref b60), (.ref b60)])) (fun t k => XS.dup X78.here hx rfl (hb hby at_52) rfl rfl k) ?_
  refine Go.st (T' := T78.setTop (mkF m 55 #[.val (.int p1), .val (.int p2), .val (.int p3), .val (.int p4), .unset, .unset, .unset, .unset, .unset, .unset, .unset, .unset, .unset, .unset] [(.int (9 : Int32)), (.ref b60), (.ref b60)])) (fun t k => XS.bipush X78.here hx rfl (hb hby at_53) k) ?_
  refine Go.st (T' := T78.setTop (mkF m 57 #[.val (.int p1), .val (.int p2), .val (.int p3), .val (.int p4), .unset, .unset, .unset, .unset, .unset, .unset, .unset, .unset, .unset, .unset] [(.int (101 : Int32)), (.int (9 : Int32)), (.ref b60), (.ref b60)])) (fun t k => XS.bipush X78.here hx rfl (hb hby at_55) k) ?_
  obtain ⟨cl80, Ar80, q80, S80, M80, H80, G80⟩ := id V78
  obtain ⟨T80, h80, X80, e80, W80, st80⟩ := stC X78 hx hZh e78 Ar80 (j := (9 : Int32)) (inb_of S80 ⟨by decide, by decide⟩) (g := (mkF m 57 #[.val (.int p1), .val (.int p2), .val (.int p3), .val (.int p4), .unset, .unset, .unset, .unset, .unset, .unset, .unset, .unset, .unset, .unset] [(.int (101 : Int32)), (.int (9 : Int32)), (.ref b60), (.ref b60)])) rfl rfl (hb hby at_57)
  have C81 : CHr Z EL s.vm h0 s.vm h80 := C79.trans (CHr.wr W80 (by obtain ⟨_, A_, _⟩ := id V78; exact Safe.arr hZh.alike A_ (by decide)) C79.1)
  have V80 : Arv Z h80 b60 k60 .char (11 : Int32) [(.int (nar .char (117 : Int32))), (.int (nar .char (110 : Int32))), (.int (nar .char (115 : Int32))), (.int (nar .char (117 : Int32))), (.int (nar .char (112 : Int32))), (.int (nar .char (112 : Int32))), (.int (nar .char (111 : Int32))), (.int (nar .char (114 : Int32))), (.int (nar .char (116 : Int32))), (.int (nar .char (101 : Int32))), (.int (0 : Int32))] (.int (0 : Int32)) := Arv.set Ar80 q80 S80 M80 H80 G80 (fits_nar_char _) W80 9 rfl (Nat.le_of_ble_eq_true rfl)
  have K80 : Keep h0 h80 [] := K78.wr W80 (Or.inr sz_b60)
  have N80 := Fr.snoc X80 N78 g_b60
  refine Go.st (T' := T80.setTop (mkF m 58 #[.val (.int p1), .val (.int p2), .val (.int p3), .val (.int p4), .unset, .unset, .unset, .unset, .unset, .unset, .unset, .unset, .unset, .unset] [(.ref b60)])) (fun t k => st80 t k) ?_
  refine Go.st (T' := T80.setTop (mkF m 59 #[.val (.int p1), .val (.int p2), .val (.int p3), .val (.int p4), .unset, .unset, .unset, .unset, .unset, .unset, .unset, .unset, .unset, .unset] [(.ref b60), (.ref b60)])) (fun t k => XS.dup X80.here hx rfl (hb hby at_58) rfl rfl k) ?_
  refine Go.st (T' := T80.setTop (mkF m 61 #[.val (.int p1), .val (.int p2), .val (.int p3), .val (.int p4), .unset, .unset, .unset, .unset, .unset, .unset, .unset, .unset, .unset, .unset] [(.int (10 : Int32)), (.ref b60), (.ref b60)])) (fun t k => XS.bipush X80.here hx rfl (hb hby at_59) k) ?_
  refine Go.st (T' := T80.setTop (mkF m 63 #[.val (.int p1), .val (.int p2), .val (.int p3), .val (.int p4), .unset, .unset, .unset, .unset, .unset, .unset, .unset, .unset, .unset, .unset] [(.int (100 : Int32)), (.int (10 : Int32)), (.ref b60), (.ref b60)])) (fun t k => XS.bipush X80.here hx rfl (hb hby at_61) k) ?_
  obtain ⟨cl82, Ar82, q82, S82, M82, H82, G82⟩ := id V80
  obtain ⟨T82, h82, X82, e82, W82, st82⟩ := stC X80 hx hZh e80 Ar82 (j := (10 : Int32)) (inb_of S82 ⟨by decide, by decide⟩) (g := (mkF m 63 #[.val (.int p1), .val (.int p2), .val (.int p3), .val (.int p4), .unset, .unset, .unset, .unset, .unset, .unset, .unset, .unset, .unset, .unset] [(.int (100 : Int32)), (.int (10 : Int32)), (.ref b60), (.ref b60)])) rfl rfl (hb hby at_63)
  have C83 : CHr Z EL s.vm h0 s.vm h82 := C81.trans (CHr.wr W82 (by obtain ⟨_, A_, _⟩ := id V80; exact Safe.arr hZh.alike A_ (by decide)) C81.1)
  have V82 : Arv Z h82 b60 k60 .char (11 : Int32) [(.int (nar .char (117 : Int32))), (.int (nar .char (110 : Int32))), (.int (nar .char (115 : Int32))), (.int (nar .char (117 : Int32))), (.int (nar .char (112 : Int32))), (.int (nar .char (112 : Int32))), (.int (nar .char (111 : Int32))), (.int (nar .char (114 : Int32))), (.int (nar .char (116 : Int32))), (.int (nar .char (101 : Int32))), (.int (nar .char (100 : Int32)))] (.int (0 : Int32)) := Arv.set Ar82 q82 S82 M82 H82 G82 (fits_nar_char _) W82 10 rfl (Nat.le_of_ble_eq_true rfl)
  have K82 : Keep h0 h82 [] := K80.wr W82 (Or.inr sz_b60)
  have N82 := Fr.snoc X82 N80 g_b60
  refine Go.st (T' := T82.setTop (mkF m 64 #[.val (.int p1), .val (.int p2), .val (.int p3), .val (.int p4), .unset, .unset, .unset, .unset, .unset, .unset, .unset, .unset, .unset, .unset] [(.ref b60)])) (fun t k => st82 t k) ?_
  have VR84 : Arv Z h82 b60 k60 .char (11 : Int32) [(.int (117 : Int32)), (.int (110 : Int32)), (.int (115 : Int32)), (.int (117 : Int32)), (.int (112 : Int32)), (.int (112 : Int32)), (.int (111 : Int32)), (.int (114 : Int32)), (.int (116 : Int32)), (.int (101 : Int32)), (.int (100 : Int32))] (.int (0 : Int32)) := V82
  refine Go.st (T' := T82.setTop (mkF m 66 #[.val (.int p1), .val (.int p2), .val (.int p3), .val (.int p4), .val (.ref b60), .unset, .unset, .unset, .unset, .unset, .unset, .unset, .unset, .unset] [])) (fun t k => XS.astore X82.here hx rfl (hb hby at_64) rfl rfl (l' := #[.val (.int p1), .val (.int p2), .val (.int p3), .val (.int p4), .val (.ref b60), .unset, .unset, .unset, .unset, .unset, .unset, .unset, .unset, .unset]) rfl k) ?_
  refine Go.st (T' := T82.setTop (mkF m 68 #[.val (.int p1), .val (.int p2), .val (.int p3), .val (.int p4), .val (.ref b60), .unset, .unset, .unset, .unset, .unset, .unset, .unset, .unset, .unset] [(.int (11 : Int32))])) (fun t k => XS.bipush X82.here hx rfl (hb hby at_66) k) ?_
  obtain ⟨T85, h85, k85, X85, e85, E85, A85, st85⟩ := newP X82 hx hZh (hw _ (List.mem_of_getElem? (i := 0) rfl)) e82 (g := (mkF m 68 #[.val (.int p1), .val (.int p2), .val (.int p3), .val (.int p4), .val (.ref b60), .unset, .unset, .unset, .unset, .unset, .unset, .unset, .unset, .unset] [(.int (11 : Int32))])) rfl (hb hby at_68) rfl (by decide) (cap := 11) (by decide) (by decide) (by decide) (by decide)
  obtain ⟨b85, g85⟩ : ∃ z, z = h82.size := ⟨_, rfl⟩
  rw [← g85] at A85 st85
  have g_b85 : n0 ≤ b85 := Nat.le_trans (Nat.le_trans Z0 K82.1) (Nat.le_of_eq g85.symm)
  have sz_b85 : h0.size ≤ b85 := Nat.le_trans K82.1 (Nat.le_of_eq g85.symm)
  have ne86 : b60 ≠ b85 := Nat.ne_of_lt (Nat.lt_of_lt_of_le VR84.lt (Nat.le_of_eq g85.symm))
  have C87 : CHr Z EL s.vm h0 s.vm h85 := C83.trans (CHr.ext E85 C83.1)
  have K85 : Keep h0 h85 [] := K82.ext E85
  have V85 : Arv Z h85 b85 k85 .char (11 : Int32) [(.int (0 : Int32)), (.int (0 : Int32)), (.int (0 : Int32)), (.int (0 : Int32)), (.int (0 : Int32)), (.int (0 : Int32)), (.int (0 : Int32)), (.int (0 : Int32)), (.int (0 : Int32)), (.int (0 : Int32)), (.int (0 : Int32))] (.int (0 : Int32)) := (Arv.new A85 (by decide)).pad (pad_rep [] (.int (0 : Int32)) 11)
  refine Go.st (T' := T85.setTop (mkF m 70 #[.val (.int p1), .val (.int p2), .val (.int p3), .val (.int p4), .val (.ref b60), .unset, .unset, .unset, .unset, .unset, .unset, .unset, .unset, .unset] [(.ref b85)])) (fun t k => st85 t k) ?_
  refine Go.st (T' := T85.setTop (mkF m 71 #[.val (.int p1), .val (.int p2), .val (.int p3), .val (.int p4), .val (.ref b60), .unset, .unset, .unset, .unset, .unset, .unset, .unset, .unset, .unset] [(.ref b85), (.ref b85)])) (fun t k => XS.dup X85.here hx rfl (hb hby at_70) rfl rfl k) ?_
  refine Go.st (T' := T85.setTop (mkF m 72 #[.val (.int p1), .val (.int p2), .val (.int p3), .val (.int p4), .val (.ref b60), .unset, .unset, .unset, .unset, .unset, .unset, .unset, .unset, .unset] [(.int (0 : Int32)), (.ref b85), (.ref b85)])) (fun t k => XS.iconst X85.here hx rfl (hb hby at_71) k) ?_
  refine Go.st (T' := T85.setTop (mkF m 74 #[.val (.int p1), .val (.int p2), .val (.int p3), .val (.int p4), .val (.ref b60), .unset, .unset, .unset, .unset, .unset, .unset, .unset, .unset, .unset] [(.int (117 : Int32)), (.int (0 : Int32)), (.ref b85), (.ref b85)])) (fun t k => XS.bipush X85.here hx rfl (hb hby at_72) k) ?_
  obtain ⟨cl88, Ar88, q88, S88, M88, H88, G88⟩ := id V85
  obtain ⟨T88, h88, X88, e88, W88, st88⟩ := stC X85 hx hZh e85 Ar88 (j := (0 : Int32)) (inb_of S88 ⟨by decide, by decide⟩) (g := (mkF m 74 #[.val (.int p1), .val (.int p2), .val (.int p3), .val (.int p4), .val (.ref b60), .unset, .unset, .unset, .unset, .unset, .unset, .unset, .unset, .unset] [(.int (117 : Int32)), (.int (0 : Int32)), (.ref b85), (.ref b85)])) rfl rfl (hb hby at_74)
  have C89 : CHr Z EL s.vm h0 s.vm h88 := C87.trans (CHr.wr W88 (by obtain ⟨_, A_, _⟩ := id V85; exact Safe.arr hZh.alike A_ (by decide)) C87.1)
  have V88 : Arv Z h88 b85 k85 .char (11 : Int32) [(.int (nar .char (117 : Int32))), (.int (0 : Int32)), (.int (0 : Int32)), (.int (0 : Int32)), (.int (0 : Int32)), (.int (0 : Int32)), (.int (0 : Int32)), (.int (0 : Int32)), (.int (0 : Int32)), (.int (0 : Int32)), (.int (0 : Int32))] (.int (0 : Int32)) := Arv.set Ar88 q88 S88 M88 H88 G88 (fits_nar_char _) W88 0 rfl (Nat.le_of_ble_eq_true rfl)
  have K88 : Keep h0 h88 [] := K85.wr W88 (Or.inr sz_b85)
  have N88 := Fr.snoc X88 N82 g_b85
  refine Go.st (T' := T88.setTop (mkF m 75 #[.val (.int p1), .val (.int p2), .val (.int p3), .val (.int p4), .val (.ref b60), .unset, .unset, .unset, .unset, .unset, .unset, .unset, .unset, .unset] [(.ref b85)])) (fun t k => st88 t k) ?_
  refine Go.st (T' := T88.setTop (mkF m 76 #[.val (.int p1), .val (.int p2), .val (.int p3), .val (.int p4), .val (.ref b60), .unset, .unset, .unset, .unset, .unset, .unset, .unset, .unset, .unset] [(.ref b85), (.ref b85)])) (fun t k => XS.dup X88.here hx rfl (hb hby at_75) rfl rfl k) ?_
  refine Go.st (T' := T88.setTop (mkF m 77 #[.val (.int p1), .val (.int p2), .val (.int p3), .val (.int p4), .val (.ref b60), .unset, .unset, .unset, .unset, .unset, .unset, .unset, .unset, .unset] [(.int (1 : Int32)), (.ref b85), (.ref b85)])) (fun t k => XS.iconst X88.here hx rfl (hb hby at_76) k) ?_
  refine Go.st (T' := T88.setTop (mkF m 79 #[.val (.int p1), .val (.int p2), .val (.int p3), .val (.int p4), .val (.ref b60), .unset, .unset, .unset, .unset, .unset, .unset, .unset, .unset, .unset] [(.int (110 : Int32)), (.int (1 : Int32)), (.ref b85), (.ref b85)])) (fun t k => XS.bipush X88.here hx rfl (hb hby at_77) k) ?_
  obtain ⟨cl90, Ar90, q90, S90, M90, H90, G90⟩ := id V88
  obtain ⟨T90, h90, X90, e90, W90, st90⟩ := stC X88 hx hZh e88 Ar90 (j := (1 : Int32)) (inb_of S90 ⟨by decide, by decide⟩) (g := (mkF m 79 #[.val (.int p1), .val (.int p2), .val (.int p3), .val (.int p4), .val (.ref b60), .unset, .unset, .unset, .unset, .unset, .unset, .unset, .unset, .unset] [(.int (110 : Int32)), (.int (1 : Int32)), (.ref b85), (.ref b85)])) rfl rfl (hb hby at_79)
  have C91 : CHr Z EL s.vm h0 s.vm h90 := C89.trans (CHr.wr W90 (by obtain ⟨_, A_, _⟩ := id V88; exact Safe.arr hZh.alike A_ (by decide)) C89.1)
  have V90 : Arv Z h90 b85 k85 .char (11 : Int32) [(.int (nar .char (117 : Int32))), (.int (nar .char (110 : Int32))), (.int (0 : Int32)), (.int (0 : Int32)), (.int (0 : Int32)), (.int (0 : Int32)), (.int (0 : Int32)), (.int (0 : Int32)), (.int (0 : Int32)), (.int (0 : Int32)), (.int (0 : Int32))] (.int (0 : Int32)) := Arv.set Ar90 q90 S90 M90 H90 G90 (fits_nar_char _) W90 1 rfl (Nat.le_of_ble_eq_true rfl)
  have K90 : Keep h0 h90 [] := K88.wr W90 (Or.inr sz_b85)
  have N90 := Fr.snoc X90 N88 g_b85
  refine Go.st (T' := T90.setTop (mkF m 80 #[.val (.int p1), .val (.int p2), .val (.int p3), .val (.int p4), .val (.ref b60), .unset, .unset, .unset, .unset, .unset, .unset, .unset, .unset, .unset] [(.ref b85)])) (fun t k => st90 t k) ?_
  refine Go.st (T' := T90.setTop (mkF m 81 #[.val (.int p1), .val (.int p2), .val (.int p3), .val (.int p4), .val (.ref b60), .unset, .unset, .unset, .unset, .unset, .unset, .unset, .unset, .unset] [(.ref b85), (.ref b85)])) (fun t k => XS.dup X90.here hx rfl (hb hby at_80) rfl rfl k) ?_
  refine Go.st (T' := T90.setTop (mkF m 82 #[.val (.int p1), .val (.int p2), .val (.int p3), .val (.int p4), .val (.ref b60), .unset, .unset, .unset, .unset, .unset, .unset, .unset, .unset, .unset] [(.int (2 : Int32)), (.ref b85), (.ref b85)])) (fun t k => XS.iconst X90.here hx rfl (hb hby at_81) k) ?_
  refine Go.st (T' := T90.setTop (mkF m 84 #[.val (.int p1), .val (.int p2), .val (.int p3), .val (.int p4), .val (.ref b60), .unset, .unset, .unset, .unset, .unset, .unset, .unset, .unset, .unset] [(.int (115 : Int32)), (.int (2 : Int32)), (.ref b85), (.ref b85)])) (fun t k => XS.bipush X90.here hx rfl (hb hby at_82) k) ?_
  obtain ⟨cl92, Ar92, q92, S92, M92, H92, G92⟩ := id V90
  obtain ⟨T92, h92, X92, e92, W92, st92⟩ := stC X90 hx hZh e90 Ar92 (j := (2 : Int32)) (inb_of S92 ⟨by decide, by decide⟩) (g := (mkF m 84 #[.val (.int p1), .val (.int p2), .val (.int p3), .val (.int p4), .val (.ref b60), .unset, .unset, .unset, .unset, .unset, .unset, .unset, .unset, .unset] [(.int (115 : Int32)), (.int (2 : Int32)), (.ref b85), (.ref b85)])) rfl rfl (hb hby at_84)
  have C93 : CHr Z EL s.vm h0 s.vm h92 := C91.trans (CHr.wr W92 (by obtain ⟨_, A_, _⟩ := id V90; exact Safe.arr hZh.alike A_ (by decide)) C91.1)
  have V92 : Arv Z h92 b85 k85 .char (11 : Int32) [(.int (nar .char (117 : Int32))), (.int (nar .char (110 : Int32))), (.int (nar .char (115 : Int32))), (.int (0 : Int32)), (.int (0 : Int32)), (.int (0 : Int32)), (.int (0 : Int32)), (.int (0 : Int32)), (.int (0 : Int32)), (.int (0 : Int32)), (.int (0 : Int32))] (.int (0 : Int32)) := Arv.set Ar92 q92 S92 M92 H92 G92 (fits_nar_char _) W92 2 rfl (Nat.le_of_ble_eq_true rfl)
  have K92 : Keep h0 h92 [] := K90.wr W92 (Or.inr sz_b85)
  have N92 := Fr.snoc X92 N90 g_b85
  refine Go.st (T' := T92.setTop (mkF m 85 #[.val (.int p1), .val (.int p2), .val (.int p3), .val (.int p4), .val (.ref b60), .unset, .unset, .unset, .unset, .unset, .unset, .unset, .unset, .unset] [(.ref b85)])) (fun t k => st92 t k) ?_
  refine Go.st (T' := T92.setTop (mkF m 86 #[.val (.int p1), .val (.int p2), .val (.int p3), .val (.int p4), .val (.ref b60), .unset, .unset, .unset, .unset, .unset, .unset, .unset, .unset, .unset] [(.ref b85), (.ref b85)])) (fun t k => XS.dup X92.here hx rfl (hb hby at_85) rfl rfl k) ?_
  refine Go.st (T' := T92.setTop (mkF m 87 #[.val (.int p1), .val (.int p2), .val (.int p3), .val (.int p4), .val (.ref b60), .unset, .unset, .unset, .unset, .unset, .unset, .unset, .unset, .unset] [(.int (3 : Int32)), (.ref b85), (.ref b85)])) (fun t k => XS.iconst X92.here hx rfl (hb hby at_86) k) ?_
  refine Go.st (T' := T92.setTop (mkF m 89 #[.val (.int p1), .val (.int p2), .val (.int p3), .val (.int p4), .val (.ref b60), .unset, .unset, .unset, .unset, .unset, .unset, .unset, .unset, .unset] [(.int (117 : Int32)), (.int (3 : Int32)), (.ref b85), (.ref b85)])) (fun t k => XS.bipush X92.here hx rfl (hb hby at_87) k) ?_
  obtain ⟨cl94, Ar94, q94, S94, M94, H94, G94⟩ := id V92
  obtain ⟨T94, h94, X94, e94, W94, st94⟩ := stC X92 hx hZh e92 Ar94 (j := (3 : Int32)) (inb_of S94 ⟨by decide, by decide⟩) (g := (mkF m 89 #[.val (.int p1), .val (.int p2), .val (.int p3), .val (.int p4), .val (.ref b60), .unset, .unset, .unset, .unset, .unset, .unset, .unset, .unset, .unset] [(.int (117 : Int32)), (.int (3 : Int32)), (.ref b85), (.ref b85)])) rfl rfl (hb hby at_89)
  have C95 : CHr Z EL s.vm h0 s.vm h94 := C93.trans (CHr.wr W94 (by obtain ⟨_, A_, _⟩ := id V92; exact Safe.arr hZh.alike A_ (by decide)) C93.1)
  have V94 : Arv Z h94 b85 k85 .char (11 : Int32) [(.int (nar .char (117 : Int32))), (.int (nar .char (110 : Int32))), (.int (nar .char (115 : Int32))), (.int (nar .char (117 : Int32))), (.int (0 : Int32)), (.int (0 : Int32)), (.int (0 : Int32)), (.int (0 : Int32)), (.int (0 : Int32)), (.int (0 : Int32)), (.int (0 : Int32))] (.int (0 : Int32)) := Arv.set Ar94 q94 S94 M94 H94 G94 (fits_nar_char _) W94 3 rfl (Nat.le_of_ble_eq_true rfl)
  have K94 : Keep h0 h94 [] := K92.wr W94 (Or.inr sz_b85)
  have N94 := Fr.snoc X94 N92 g_b85
  refine Go.st (T' := T94.setTop (mkF m 90 #[.val (.int p1), .val (.int p2), .val (.int p3), .val (.int p4), .val (.ref b60), .unset, .unset, .unset, .unset, .unset, .unset, .unset, .unset, .unset] [(.ref b85)])) (fun t k => st94 t k) ?_
  refine Go.st (T' := T94.setTop (mkF m 91 #[.val (.int p1), .val (.int p2), .val (.int p3), .val (.int p4), .val (.ref b60), .unset, .unset, .unset, .unset, .unset, .unset, .unset, .unset, .unset] [(.ref b85), (.ref b85)])) (fun t k => XS.dup X94.here hx rfl (hb hby at_90) rfl rfl k) ?_
  refine Go.st (T' := T94.setTop (mkF m 92 #[.val (.int p1), .val (.int p2), .val (.int p3), .val (.int p4), .val (.ref b60), .unset, .unset, .unset, .unset, .unset, .unset, .unset, .unset, .unset] [(.int (4 : Int32)), (.ref b85), (.ref b85)])) (fun t k => XS.iconst X94.here hx rfl (hb hby at_91) k) ?_
  refine Go.st (T' := T94.setTop (mkF m 94 #[.val (.int p1), .val (.int p2), .val (.int p3), .val (.int p4), .val (.ref b60), .unset, .unset, .unset, .unset, .unset, .unset, .unset, .unset, .unset] [(.int (112 : Int32)), (.int (4 : Int32)), (.ref b85), (.ref b85)])) (fun t k => XS.bipush X94.here hx rfl (hb hby at_92) k) ?_
  obtain ⟨cl96, Ar96, q96, S96, M96, H96, G96⟩ := id V94
  obtain ⟨T96, h96, X96, e96, W96, st96⟩ := stC X94 hx hZh e94 Ar96 (j := (4 : Int32)) (inb_of S96 ⟨by decide, by decide⟩) (g := (mkF m 94 #[.val (.int p1), .val (.int p2), .val (.int p3), .val (.int p4), .val (.ref b60), .unset, .unset, .unset, .unset, .unset, .unset, .unset, .unset, .unset] [(.int (112 : Int32)), (.int (4 : Int32)), (.ref b85), (.ref b85)])) rfl rfl (hb hby at_94)
  have C97 : CHr Z EL s.vm h0 s.vm h96 := C95.trans (CHr.wr W96 (by obtain ⟨_, A_, _⟩ := id V94; exact Safe.arr hZh.alike A_ (by decide)) C95.1)
  have V96 : Arv Z h96 b85 k85 .char (11 : Int32) [(.int (nar .char (117 : Int32))), (.int (nar .char (110 : Int32))), (.int (nar .char (115 : Int32))), (.int (nar .char (117 : Int32))), (.int (nar .char (112 : Int32))), (.int (0 : Int32)), (.int (0 : Int32)), (.int (0 : Int32)), (.int (0 : Int32)), (.int (0 : Int32)), (.int (0 : Int32))] (.int (0 : Int32)) := Arv.set Ar96 q96 S96 M96 H96 G96 (fits_nar_char _) W96 4 rfl (Nat.le_of_ble_eq_true rfl)
  have K96 : Keep h0 h96 [] := K94.wr W96 (Or.inr sz_b85)
  have N96 := Fr.snoc X96 N94 g_b85
  refine Go.st (T' := T96.setTop (mkF m 95 #[.val (.int p1), .val (.int p2), .val (.int p3), .val (.int p4), .val (.ref b60), .unset, .unset, .unset, .unset, .unset, .unset, .unset, .unset, .unset] [(.ref b85)])) (fun t k => st96 t k) ?_
  refine Go.st (T' := T96.setTop (mkF m 96 #[.val (.int p1), .val (.int p2), .val (.int p3), .val (.int p4), .val (.ref b60), .unset, .unset, .unset, .unset, .unset, .unset, .unset, .unset, .unset] [(.ref b85), (.ref b85)])) (fun t k => XS.dup X96.here hx rfl (hb hby at_95) rfl rfl k) ?_
  refine Go.st (T' := T96.setTop (mkF m 97 #[.val (.int p1), .val (.int p2), .val (.int p3), .val (.int p4), .val (.ref b60), .unset, .unset, .unset, .unset, .unset, .unset, .unset, .unset, .unset] [(.int (5 : Int32)), (.ref b85), (.ref b85)])) (fun t k => XS.iconst X96.here hx rfl (hb hby at_96) k) ?_
  refine Go.st (T' := T96.setTop (mkF m 99 #[.val (.int p1), .val (.int p2), .val (.int p3), .val (.int p4), .val (.ref b60), .unset, .unset, .unset, .unset, .unset, .unset, .unset, .unset, .unset] [(.int (112 : Int32)), (.int (5 : Int32)), (.ref b85), (.ref b85)])) (fun t k => XS.bipush X96.here hx rfl (hb hby at_97) k) ?_
  obtain ⟨cl98, Ar98, q98, S98, M98, H98, G98⟩ := id V96
  obtain ⟨T98, h98, X98, e98, W98, st98⟩ := stC X96 hx hZh e96 Ar98 (j := (5 : Int32)) (inb_of S98 ⟨by decide, by decide⟩) (g := (mkF m 99 #[.val (.int p1), .val (.int p2), .val (.int p3), .val (.int p4), .val (.ref b60), .unset, .unset, .unset, .unset, .unset, .unset, .unset, .unset, .unset] [(.int (112 : Int32)), (.int (5 : Int32)), (.ref b85), (.ref b85)])) rfl rfl (hb hby at_99)
  have C99 : CHr Z EL s.vm h0 s.vm h98 := C97.trans (CHr.wr W98 (by obtain ⟨_, A_, _⟩ := id V96; exact Safe.arr hZh.alike A_ (by decide)) C97.1)
  have V98 : Arv Z h98 b85 k85 .char (11 : Int32) [(.int (nar .char (117 : Int32))), (.int (nar .char (110 : Int32))), (.int (nar .char (115 : Int32))), (.int (nar .char (117 : Int32))), (.int (nar .char (112 : Int32))), (.int (nar .char (112 : Int32))), (.int (0 : Int32)), (.int (0 : Int32)), (.int (0 : Int32)), (.int (0 : Int32)), (.int (0 : Int32))] (.int (0 : Int32)) := Arv.set Ar98 q98 S98 M98 H98 G98 (fits_nar_char _) W98 5 rfl (Nat.le_of_ble_eq_true rfl)
  have K98 : Keep h0 h98 [] := K96.wr W98 (Or.inr sz_b85)
  have N98 := Fr.snoc X98 N96 g_b85
  refine Go.st (T' := T98.setTop (mkF m 100 #[.val (.int p1), .val (.int p2), .val (.int p3), .val (.int p4), .val (.ref b60), .unset, .unset, .unset, .unset, .unset, .unset, .unset, .unset, .unset] [(.ref b85)])) (fun t k => st98 t k) ?_
  refine Go.st (T' := T98.setTop (mkF m 101 #[.val (.int p1), .val (.int p2), .val (.int p3), .val (.int p4), .val (.ref b60), .unset, .unset, .unset, .unset, .unset, .unset, .unset, .unset, .unset] [(.ref b85), (.ref b85)])) (fun t k => XS.dup X98.here hx rfl (hb hby at_100) rfl rfl k) ?_
  refine Go.st (T' := T98.setTop (mkF m 103 #[.val (.int p1), .val (.int p2), .val (.int p3), .val (.int p4), .val (.ref b60), .unset, .unset, .unset, .unset, .unset, .unset, .unset, .unset, .unset] [(.int (6 : Int32)), (.ref b85), (.ref b85)])) (fun t k => XS.bipush X98.here hx rfl (hb hby at_101) k) ?_
  refine Go.st (T' := T98.setTop (mkF m 105 #[.val (.int p1), .val (.int p2), .val (.int p3), .val (.int p4), .val (.ref b60), .unset, .unset, .unset, .unset, .unset, .unset, .unset, .unset, .unset] [(.int (111 : Int32)), (.int (6 : Int32)), (.ref b85), (.ref b85)])) (fun t k => XS.bipush X98.here hx rfl (hb hby at_103) k) ?_
  obtain ⟨cl100, Ar100, q100, S100, M100, H100, G100⟩ := id V98
  obtain ⟨T100, h100, X100, e100, W100, st100⟩ := stC X98 hx hZh e98 Ar100 (j := (6 : Int32)) (inb_of S100 ⟨by decide, by decide⟩) (g := (mkF m 105 #[.val (.int p1), .val (.int p2), .val (.int p3), .val (.int p4), .val (.ref b60), .unset, .unset, .unset, .unset, .unset, .unset, .unset, .unset, .unset] [(.int (111 : Int32)), (.int (6 : Int32)), (.ref b85), (.ref b85)])) rfl rfl (hb hby at_105)
  have C101 : CHr Z EL s.vm h0 s.vm h100 := C99.trans (CHr.wr W100 (by obtain ⟨_, A_, _⟩ := id V98; exact Safe.arr hZh.alike A_ (by decide)) C99.1)
  have V100 : Arv Z h100 b85 k85 .char (11 : Int32) [(.int (nar .char (117 : Int32))), (.int (nar .char (110 : Int32))), (.int (nar .char (115 : Int32))), (.int (nar .char (117 : Int32))), (.int (nar .char (112 : Int32))), (.int (nar .char (112 : Int32))), (.int (nar .char (111 : Int32))), (.int (0 : Int32)), (.int (0 : Int32)), (.int (0 : Int32)), (.int (0 : Int32))] (.int (0 : Int32)) := Arv.set Ar100 q100 S100 M100 H100 G100 (fits_nar_char _) W100 6 rfl (Nat.le_of_ble_eq_true rfl)
  have K100 : Keep h0 h100 [] := K98.wr W100 (Or.inr sz_b85)
  have N100 := Fr.snoc X100 N98 g_b85
  refine Go.st (T' := T100.setTop (mkF m 106 #[.val (.int p1), .val (.int p2), .val (.int p3), .val (.int p4), .val (.ref b60), .unset, .unset, .unset, .unset, .unset, .unset, .unset, .unset, .unset] [(.ref b85)])) (fun t k => st100 t k) ?_
  refine Go.st (T' := T100.setTop (mkF m 107 #[.val (.int p1), .val (.int p2), .val (.int p3), .val (.int p4), .val (.ref b60), .unset, .unset, .unset, .unset, .unset, .unset, .unset, .unset, .unset] [(.ref b85), (.ref b85)])) (fun t k => XS.dup X100.here hx rfl (hb hby at_106) rfl rfl k) ?_
  refine Go.st (T' := T100.setTop (mkF m 109 #[.val (.int p1), .val (.int p2), .val (.int p3), .val (.int p4), .val (.ref b60), .unset, .unset, .unset, .unset, .unset, .unset, .unset, .unset, .unset] [(.int (7 : Int32)), (.ref b85), (.ref b85)])) (fun t k => XS.bipush X100.here hx rfl (hb hby at_107) k) ?_
  refine Go.st (T' := T100.setTop (mkF m 111 #[.val (.int p1), .val (.int p2), .val (.int p3), .val (.int p4), .val (.ref b60), .unset, .unset, .unset, .unset, .unset, .unset, .unset, .unset, .unset] [(.int (114 : Int32)), (.int (7 : Int32)), (.ref b85), (.ref b85)])) (fun t k => XS.bipush X100.here hx rfl (hb hby at_109) k) ?_
  obtain ⟨cl102, Ar102, q102, S102, M102, H102, G102⟩ := id V100
  obtain ⟨T102, h102, X102, e102, W102, st102⟩ := stC X100 hx hZh e100 Ar102 (j := (7 : Int32)) (inb_of S102 ⟨by decide, by decide⟩) (g := (mkF m 111 #[.val (.int p1), .val (.int p2), .val (.int p3), .val (.int p4), .val (.ref b60), .unset, .unset, .unset, .unset, .unset, .unset, .unset, .unset, .unset] [(.int (114 : Int32)), (.int (7 : Int32)), (.ref b85), (.ref b85)])) rfl rfl (hb hby at_111)
  have C103 : CHr Z EL s.vm h0 s.vm h102 := C101.trans (CHr.wr W102 (by obtain ⟨_, A_, _⟩ := id V100; exact Safe.arr hZh.alike A_ (by decide)) C101.1)
  have V102 : Arv Z h102 b85 k85 .char (11 : Int32) [(.int (nar .char (117 : Int32))), (.int (nar .char (110 : Int32))), (.int (nar .char (115 : Int32))), (.int (nar .char (117 : Int32))), (.int (nar .char (112 : Int32))), (.int (nar .char (112 : Int32))), (.int (nar .char (111 : Int32))), (.int (nar .char (114 : Int32))), (.int (0 : Int32)), (.int (0 : Int32)), (.int (0 : Int32))] (.int (0 : Int32)) := Arv.set Ar102 q102 S102 M102 H102 G102 (fits_nar_char _) W102 7 rfl (Nat.le_of_ble_eq_true rfl)
  have K102 : Keep h0 h102 [] := K100.wr W102 (Or.inr sz_b85)
  have N102 := Fr.snoc X102 N100 g_b85
  refine Go.st (T' := T102.setTop (mkF m 112 #[.val (.int p1), .val (.int p2), .val (.int p3), .val (.int p4), .val (.ref b60), .unset, .unset, .unset, .unset, .unset, .unset, .unset, .unset, .unset] [(.ref b85)])) (fun t k => st102 t k) ?_
  refine Go.st (T' := T102.setTop (mkF m 113 #[.val (.int p1), .val (.int p2), .val (.int p3), .val (.int p4), .val (.ref b60), .unset, .unset, .unset, .unset, .unset, .unset, .unset, .unset, .unset] [(.ref b85), (.ref b85)])) (fun t k => XS.dup X102.here hx rfl (hb hby at_112) rfl rfl k) ?_
  refine Go.st (T' := T102.setTop (mkF m 115 #[.val (.int p1), .val (.int p2), .val (.int p3), .val (.int p4), .val (.ref b60), .unset, .unset, .unset, .unset, .unset, .unset, .unset, .unset, .unset] [(.int (8 : Int32)), (.ref b85), (.ref b85)])) (fun t k => XS.bipush X102.here hx rfl (hb hby at_113) k) ?_
  refine Go.st (T' := T102.setTop (mkF m 117 #[.val (.int p1), .val (.int p2), .val (.int p3), .val (.int p4), .val (.ref b60), .unset, .unset, .unset, .unset, .unset, .unset, .unset, .unset, .unset] [(.int (116 : Int32)), (.int (8 : Int32)), (.ref b85), (.ref b85)])) (fun t k => XS.bipush X102.here hx rfl (hb hby at_115) k) ?_
  obtain ⟨cl104, Ar104, q104, S104, M104, H104, G104⟩ := id V102
  obtain ⟨T104, h104, X104, e104, W104, st104⟩ := stC X102 hx hZh e102 Ar104 (j := (8 : Int32)) (inb_of S104 ⟨by decide, by decide⟩) (g := (mkF m 117 #[.val (.int p1), .val (.int p2), .val (.int p3), .val (.int p4), .val (.ref b60), .unset, .unset, .unset, .unset, .unset, .unset, .unset, .unset, .unset] [(.int (116 : Int32)), (.int (8 : Int32)), (.ref b85), (.ref b85)])) rfl rfl (hb hby at_117)
  have C105 : CHr Z EL s.vm h0 s.vm h104 := C103.trans (CHr.wr W104 (by obtain ⟨_, A_, _⟩ := id V102; exact Safe.arr hZh.alike A_ (by decide)) C103.1)
  have V104 : Arv Z h104 b85 k85 .char (11 : Int32) [(.int (nar .char (117 : Int32))), (.int (nar .char (110 : Int32))), (.int (nar .char (115 : Int32))), (.int (nar .char (117 : Int32))), (.int (nar .char (112 : Int32))), (.int (nar .char (112 : Int32))), (.int (nar .char (111 : Int32))), (.int (nar .char (114 : Int32))), (.int (nar .char (116 : Int32))), (.int (0 : Int32)), (.int (0 : Int32))] (.int (0 : Int32)) := Arv.set Ar104 q104 S104 M104 H104 G104 (fits_nar_char _) W104 8 rfl (Nat.le_of_ble_eq_true rfl)
  have K104 : Keep h0 h104 [] := K102.wr W104 (Or.inr sz_b85)
  have N104 := Fr.snoc X104 N102 g_b85
  refine Go.st (T' := T104.setTop (mkF m 118 #[.val (.int p1), .val (.int p2), .val (.int p3), .val (.int p4), .val (.ref b60), .unset, .unset, .unset, .unset, .unset, .unset, .unset, .unset, .unset] [(.ref b85)])) (fun t k => st104 t k) ?_
  refine Go.st (T' := T104.setTop (mkF m 119 #[.val (.int p1), .val (.int p2), .val (.int p3), .val (.int p4), .val (.ref b60), .unset, .unset, .unset, .unset, .unset, .unset, .unset, .unset, .unset] [(.ref b85), (.ref b85)])) (fun t k => XS.dup X104.here hx rfl (hb hby at_118) rfl rfl k) ?_
  refine Go.st (T' := T104.setTop (mkF m 121 #[.val (.int p1), .val (.int p2), .val (.int p3), .val (.int p4), .val (.ref b60), .unset, .unset, .unset, .unset, .unset, .unset, .unset, .unset, .unset] [(.int (9 : Int32)), (.ref b85), (.ref b85)])) (fun t k => XS.bipush X104.here hx rfl (hb hby at_119) k) ?_
  refine Go.st (T' := T104.setTop (mkF m 123 #[.val (.int p1), .val (.int p2), .val (.int p3), .val (.int p4), .val (.ref b60), .unset, .unset, .unset, .unset, .unset, .unset, .unset, .unset, .unset] [(.int (101 : Int32)), (.int (9 : Int32)), (.ref b85), (.ref b85)])) (fun t k => XS.bipush X104.here hx rfl (hb hby at_121) k) ?_
  obtain ⟨cl106, Ar106, q106, S106, M106, H106, G106⟩ := id V104
  obtain ⟨T106, h106, X106, e106, W106, st106⟩ := stC X104 hx hZh e104 Ar106 (j := (9 : Int32)) (inb_of S106 ⟨by decide, by decide⟩) (g := (mkF m 123 #[.val (.int p1), .val (.int p2), .val (.int p3), .val (.int p4), .val (.ref b60), .unset, .unset, .unset, .unset, .unset, .unset, .unset, .unset, .unset] [(.int (101 : Int32)), (.int (9 : Int32)), (.ref b85), (.ref b85)])) rfl rfl (hb hby at_123)
  have C107 : CHr Z EL s.vm h0 s.vm h106 := C105.trans (CHr.wr W106 (by obtain ⟨_, A_, _⟩ := id V104; exact Safe.arr hZh.alike A_ (by decide)) C105.1)
  have V106 : Arv Z h106 b85 k85 .char (11 : Int32) [(.int (nar .char (117 : Int32))), (.int (nar .char (110 : Int32))), (.int (nar .char (115 : Int32))), (.int (nar .char (117 : Int32))), (.int (nar .char (112 : Int32))), (.int (nar .char (112 : Int32))), (.int (nar .char (111 : Int32))), (.int (nar .char (114 : Int32))), (.int (nar .char (116 : Int32))), (.int (nar .char (101 : Int32))), (.int (0 : Int32))] (.int (0 : Int32)) := Arv.set Ar106 q106 S106 M106 H106 G106 (fits_nar_char _) W106 9 rfl (Nat.le_of_ble_eq_true rfl)
  have K106 : Keep h0 h106 [] := K104.wr W106 (Or.inr sz_b85)
  have N106 := Fr.snoc X106 N104 g_b85
  refine Go.st (T' := T106.setTop (mkF m 124 #[.val (.int p1), .val (.int p2), .val (.int p3), .val (.int p4), .val (.ref b60), .unset, .unset, .unset, .unset, .unset, .unset, .unset, .unset, .unset] [(.ref b85)])) (fun t k => st106 t k) ?_
  refine Go.st (T' := T106.setTop (mkF m 125 #[.val (.int p1), .val (.int p2), .val (.int p3), .val (.int p4), .val (.ref b60), .unset, .unset, .unset, .unset, .unset, .unset, .unset, .unset, .unset] [(.ref b85), (.ref b85)])) (fun t k => XS.dup X106.here hx rfl (hb hby at_124) rfl rfl k) ?_
  refine Go.st (T' := T106.setTop (mkF m 127 #[.val (.int p1), .val (.int p2), .val (.int p3), .val (.int p4), .val (.ref b60), .unset, .unset, .unset, .unset, .unset, .unset, .unset, .unset, .unset] [(.int (10 : Int32)), (.ref b85), (.ref b85)])) (fun t k => XS.bipush X106.here hx rfl (hb hby at_125) k) ?_
  refine Go.st (T' := T106.setTop (mkF m 129 #[.val (.int p1), .val (.int p2), .val (.int p3), .val (.int p4), .val (.ref b60), .unset, .unset, .unset, .unset, .unset, .unset, .unset, .unset, .unset] [(.int (100 : Int32)), (.int (10 : Int32)), (.ref b85), (.ref b85)])) (fun t k => XS.bipush X106.here hx rfl (hb hby at_127) k) ?_
  obtain ⟨cl108, Ar108, q108, S108, M108, H108, G108⟩ := id V106
  obtain ⟨T108, h108, X108, e108, W108, st108⟩ := stC X106 hx hZh e106 Ar108 (j := (10 : Int32)) (inb_of S108 ⟨by decide, by decide⟩) (g := (mkF m 129 #[.val (.int p1), .val (.int p2), .val (.int p3), .val (.int p4), .val (.ref b60), .unset, .unset, .unset, .unset, .unset, .unset, .unset, .unset, .unset] [(.int (100 : Int32)), (.int (10 : Int32)), (.ref b85), (.ref b85)])) rfl rfl (hb hby at_129)
  have C109 : CHr Z EL s.vm h0 s.vm h108 := C107.trans (CHr.wr W108 (by obtain ⟨_, A_, _⟩ := id V106; exact Safe.arr hZh.alike A_ (by decide)) C107.1)
  have V108 : Arv Z h108 b85 k85 .char (11 : Int32) [(.int (nar .char (117 : Int32))), (.int (nar .char (110 : Int32))), (.int (nar .char (115 : Int32))), (.int (nar .char (117 : Int32))), (.int (nar .char (112 : Int32))), (.int (nar .char (112 : Int32))), (.int (nar .char (111 : Int32))), (.int (nar .char (114 : Int32))), (.int (nar .char (116 : Int32))), (.int (nar .char (101 : Int32))), (.int (nar .char (100 : Int32)))] (.int (0 : Int32)) := Arv.set Ar108 q108 S108 M108 H108 G108 (fits_nar_char _) W108 10 rfl (Nat.le_of_ble_eq_true rfl)
  have K108 : Keep h0 h108 [] := K106.wr W108 (Or.inr sz_b85)
  have N108 := Fr.snoc X108 N106 g_b85
  refine Go.st (T' := T108.setTop (mkF m 130 #[.val (.int p1), .val (.int p2), .val (.int p3), .val (.int p4), .val (.ref b60), .unset, .unset, .unset, .unset, .unset, .unset, .unset, .unset, .unset] [(.ref b85)])) (fun t k => st108 t k) ?_
  have VR110 : Arv Z h108 b85 k85 .char (11 : Int32) [(.int (117 : Int32)), (.int (110 : Int32)), (.int (115 : Int32)), (.int (117 : Int32)), (.int (112 : Int32)), (.int (112 : Int32)), (.int (111 : Int32)), (.int (114 : Int32)), (.int (116 : Int32)), (.int (101 : Int32)), (.int (100 : Int32))] (.int (0 : Int32)) := V108
  refine Go.st (T' := T108.setTop (mkF m 132 #[.val (.int p1), .val (.int p2), .val (.int p3), .val (.int p4), .val (.ref b60), .val (.ref b85), .unset, .unset, .unset, .unset, .unset, .unset, .unset, .unset] [])) (fun t k => XS.astore X108.here hx rfl (hb hby at_130) rfl rfl (l' := #[.val (.int p1), .val (.int p2), .val (.int p3), .val (.int p4), .val (.ref b60), .val (.ref b85), .unset, .unset, .unset, .unset, .unset, .unset, .unset, .unset]) rfl k) ?_
  refine Go.st (T' := T108.setTop (mkF m 133 #[.val (.int p1), .val (.int p2), .val (.int p3), .val (.int p4), .val (.ref b60), .val (.ref b85), .unset, .unset, .unset, .unset, .unset, .unset, .unset, .unset] [(.int p1)])) (fun t k => XS.iloadN X108.here hx rfl (hb hby at_132) rfl k) ?_
  refine Go.st (T' := T108.setTop (mkF m 135 #[.val (.int p1), .val (.int p2), .val (.int p3), .val (.int p4), .val (.ref b60), .val (.ref b85), .unset, .unset, .unset, .unset, .unset, .unset, .unset, .unset] [(.int (2147483647 : Int32)), (.int p1)])) (fun t k => X108.ldcInt hx hownh (mvT hZh (hw _ (List.mem_of_getElem? (i := 1) rfl))) (g := (mkF m 133 #[.val (.int p1), .val (.int p2), .val (.int p3), .val (.int p4), .val (.ref b60), .val (.ref b85), .unset, .unset, .unset, .unset, .unset, .unset, .unset, .unset] [(.int p1)])) rfl (hb hby at_133) t k) ?_
  refine Go.st (T' := T108.setTop (mkF m 136 #[.val (.int p1), .val (.int p2), .val (.int p3), .val (.int p4), .val (.ref b60), .val (.ref b85), .unset, .unset, .unset, .unset, .unset, .unset, .unset, .unset] [(.int (p1 &&& (2147483647 : Int32)))])) (fun t k => XS.iand X108.here hx rfl (hb hby at_135) rfl k) ?_
  refine Go.st (T' := T108.setTop (mkF m 138 #[.val (.int p1), .val (.int p2), .val (.int p3), .val (.int p4), .val (.ref b60), .val (.ref b85), .unset, .unset, .unset, .unset, .unset, .unset, .unset, .unset] [(.int (12 : Int32)), (.int (p1 &&& (2147483647 : Int32)))])) (fun t k => XS.bipush X108.here hx rfl (hb hby at_136) k) ?_
  refine Go.st (T' := T108.setTop (mkF m 139 #[.val (.int p1), .val (.int p2), .val (.int p3), .val (.int p4), .val (.ref b60), .val (.ref b85), .unset, .unset, .unset, .unset, .unset, .unset, .unset, .unset] [(.int ((p1 &&& (2147483647 : Int32)) - ((p1 &&& (2147483647 : Int32)) / (12 : Int32)) * (12 : Int32)))])) (fun t k => XS.irem X108.here hx rfl (hb hby at_138) rfl (by decide) k) ?_
  obtain ⟨jp, hjp, hjp'⟩ := own_k (y := p1) (n := 12) (m := 12) rfl (by decide) (by decide)
  rw [hjp]
  refine Go.st (T' := T108.setTop (mkF m 141 #[.val (.int p1), .val (.int p2), .val (.int p3), .val (.int p4), .val (.ref b60), .val (.ref b85), .val (.int (Int32.ofNat jp)), .unset, .unset, .unset, .unset, .unset, .unset, .unset] [])) (fun t k => XS.istore X108.here hx rfl (hb hby at_139) rfl (l' := #[.val (.int p1), .val (.int p2), .val (.int p3), .val (.int p4), .val (.ref b60), .val (.ref b85), .val (.int (Int32.ofNat jp)), .unset, .unset, .unset, .unset, .unset, .unset, .unset]) rfl k) ?_
  refine Go.st (T' := T108.setTop (mkF m 142 #[.val (.int p1), .val (.int p2), .val (.int p3), .val (.int p4), .val (.ref b60), .val (.ref b85), .val (.int (Int32.ofNat jp)), .unset, .unset, .unset, .unset, .unset, .unset, .unset] [(.int p2)])) (fun t k => XS.iloadN X108.here hx rfl (hb hby at_141) rfl k) ?_
  refine Go.st (T' := T108.setTop (mkF m 145 #[.val (.int p1), .val (.int p2), .val (.int p3), .val (.int p4), .val (.ref b60), .val (.ref b85), .val (.int (Int32.ofNat jp)), .unset, .unset, .unset, .unset, .unset, .unset, .unset] [(.int (255 : Int32)), (.int p2)])) (fun t k => XS.sipush X108.here hx rfl (hb hby at_142) k) ?_
  refine Go.st (T' := T108.setTop (mkF m 146 #[.val (.int p1), .val (.int p2), .val (.int p3), .val (.int p4), .val (.ref b60), .val (.ref b85), .val (.int (Int32.ofNat jp)), .unset, .unset, .unset, .unset, .unset, .unset, .unset] [(.int (p2 &&& (255 : Int32)))])) (fun t k => XS.iand X108.here hx rfl (hb hby at_145) rfl k) ?_
  refine Go.st (T' := T108.setTop (mkF m 147 #[.val (.int p1), .val (.int p2), .val (.int p3), .val (.int p4), .val (.ref b60), .val (.ref b85), .val (.int (Int32.ofNat jp)), .unset, .unset, .unset, .unset, .unset, .unset, .unset] [(.int ((p2 &&& (255 : Int32)).toUInt32.toUInt16.toUInt32.toInt32))])) (fun t k => XS.i2c X108.here hx rfl (hb hby at_146) rfl k) ?_
  obtain ⟨c1, hc1⟩ : ∃ z, z = ((p2 &&& (255 : Int32)).toUInt32.toUInt16.toUInt32.toInt32) := ⟨_, rfl⟩
  rw [← hc1]
  have Hc1 : own_C c1 := by rw [hc1]; exact own_C_of _
  refine Go.st (T' := T108.setTop (mkF m 149 #[.val (.int p1), .val (.int p2), .val (.int p3), .val (.int p4), .val (.ref b60), .val (.ref b85), .val (.int (Int32.ofNat jp)), .val (.int c1), .unset, .unset, .unset, .unset, .unset, .unset] [])) (fun t k => XS.istore X108.here hx rfl (hb hby at_147) rfl (l' := #[.val (.int p1), .val (.int p2), .val (.int p3), .val (.int p4), .val (.ref b60), .val (.ref b85), .val (.int (Int32.ofNat jp)), .val (.int c1), .unset, .unset, .unset, .unset, .unset, .unset]) rfl k) ?_
  refine Go.st (T' := T108.setTop (mkF m 150 #[.val (.int p1), .val (.int p2), .val (.int p3), .val (.int p4), .val (.ref b60), .val (.ref b85), .val (.int (Int32.ofNat jp)), .val (.int c1), .unset, .unset, .unset, .unset, .unset, .unset] [(.int p2)])) (fun t k => XS.iloadN X108.here hx rfl (hb hby at_149) rfl k) ?_
  refine Go.st (T' := T108.setTop (mkF m 152 #[.val (.int p1), .val (.int p2), .val (.int p3), .val (.int p4), .val (.ref b60), .val (.ref b85), .val (.int (Int32.ofNat jp)), .val (.int c1), .unset, .unset, .unset, .unset, .unset, .unset] [(.int (8 : Int32)), (.int p2)])) (fun t k => XS.bipush X108.here hx rfl (hb hby at_150) k) ?_
  refine Go.st (T' := T108.setTop (mkF m 153 #[.val (.int p1), .val (.int p2), .val (.int p3), .val (.int p4), .val (.ref b60), .val (.ref b85), .val (.int (Int32.ofNat jp)), .val (.int c1), .unset, .unset, .unset, .unset, .unset, .unset] [(.int ((p2.toUInt32 >>> ((8 : Int32) &&& 31).toUInt32).toInt32))])) (fun t k => XS.iushr X108.here hx rfl (hb hby at_152) rfl k) ?_
  refine Go.st (T' := T108.setTop (mkF m 156 #[.val (.int p1), .val (.int p2), .val (.int p3), .val (.int p4), .val (.ref b60), .val (.ref b85), .val (.int (Int32.ofNat jp)), .val (.int c1), .unset, .unset, .unset, .unset, .unset, .unset] [(.int (255 : Int32)), (.int ((p2.toUInt32 >>> ((8 : Int32) &&& 31).toUInt32).toInt32))])) (fun t k => XS.sipush X108.here hx rfl (hb hby at_153) k) ?_
  refine Go.st (T' := T108.setTop (mkF m 157 #[.val (.int p1), .val (.int p2), .val (.int p3), .val (.int p4), .val (.ref b60), .val (.ref b85), .val (.int (Int32.ofNat jp)), .val (.int c1), .unset, .unset, .unset, .unset, .unset, .unset] [(.int (((p2.toUInt32 >>> ((8 : Int32) &&& 31).toUInt32).toInt32) &&& (255 : Int32)))])) (fun t k => XS.iand X108.here hx rfl (hb hby at_156) rfl k) ?_
  refine Go.st (T' := T108.setTop (mkF m 158 #[.val (.int p1), .val (.int p2), .val (.int p3), .val (.int p4), .val (.ref b60), .val (.ref b85), .val (.int (Int32.ofNat jp)), .val (.int c1), .unset, .unset, .unset, .unset, .unset, .unset] [(.int ((((p2.toUInt32 >>> ((8 : Int32) &&& 31).toUInt32).toInt32) &&& (255 : Int32)).toUInt32.toUInt16.toUInt32.toInt32))])) (fun t k => XS.i2c X108.here hx rfl (hb hby at_157) rfl k) ?_
  obtain ⟨c2, hc2⟩ : ∃ z, z = ((((p2.toUInt32 >>> ((8 : Int32) &&& 31).toUInt32).toInt32) &&& (255 : Int32)).toUInt32.toUInt16.toUInt32.toInt32) := ⟨_, rfl⟩
  rw [← hc2]
  have Hc2 : own_C c2 := by rw [hc2]; exact own_C_of _
  refine Go.st (T' := T108.setTop (mkF m 160 #[.val (.int p1), .val (.int p2), .val (.int p3), .val (.int p4), .val (.ref b60), .val (.ref b85), .val (.int (Int32.ofNat jp)), .val (.int c1), .val (.int c2), .unset, .unset, .unset, .unset, .unset] [])) (fun t k => XS.istore X108.here hx rfl (hb hby at_158) rfl (l' := #[.val (.int p1), .val (.int p2), .val (.int p3), .val (.int p4), .val (.ref b60), .val (.ref b85), .val (.int (Int32.ofNat jp)), .val (.int c1), .val (.int c2), .unset, .unset, .unset, .unset, .unset]) rfl k) ?_
  refine Go.st (T' := T108.setTop (mkF m 162 #[.val (.int p1), .val (.int p2), .val (.int p3), .val (.int p4), .val (.ref b60), .val (.ref b85), .val (.int (Int32.ofNat jp)), .val (.int c1), .val (.int c2), .unset, .unset, .unset, .unset, .unset] [(.int (Int32.ofNat jp))])) (fun t k => XS.iload X108.here hx rfl (hb hby at_160) rfl k) ?_
  refine Go.st (T' := T108.setTop (mkF m 164 #[.val (.int p1), .val (.int p2), .val (.int p3), .val (.int p4), .val (.ref b60), .val (.ref b85), .val (.int (Int32.ofNat jp)), .val (.int c1), .val (.int c2), .unset, .unset, .unset, .unset, .unset] [(.int (11 : Int32)), (.int (Int32.ofNat jp))])) (fun t k => XS.bipush X108.here hx rfl (hb hby at_162) k) ?_
  have hdj : jp < 11 ↔ Int32.ofNat jp < (11 : Int32) := by
    rw [Int32.lt_iff_toInt_lt, Int32.toInt_ofNat_of_lt (by omega)]
    have : (11 : Int32).toInt = 11 := rfl
    omega
  suffices J1 : ∀ (T1 : State) (h1 : Heap) (L1 : List Loc) (x0 x1 x2 x3 x4 x5 x6 x7 x8 x9 x10 : Int32), Stand p l e room_1 (s.setVm s.vm) m #[(.int p1), (.int p2), (.int p3), (.int p4)] below meth c T1 L1 2 22 → T1.heap = h1 → Keep h0 h1 [] → Fr n0 L1 → Arv Z h1 b60 k60 .char (11 : Int32) [(.int (117 : Int32)), (.int (110 : Int32)), (.int (115 : Int32)), (.int (117 : Int32)), (.int (112 : Int32)), (.int (112 : Int32)), (.int (111 : Int32)), (.int (114 : Int32)), (.int (116 : Int32)), (.int (101 : Int32)), (.int (100 : Int32))] (.int (0 : Int32)) → Arv Z h1 b85 k85 .char (11 : Int32) [(.int x0), (.int x1), (.int x2), (.int x3), (.int x4), (.int x5), (.int x6), (.int x7), (.int x8), (.int x9), (.int x10)] (.int (0 : Int32)) → CHr Z EL s.vm h0 s.vm h1 → (∀ z ∈ ([x0, x1, x2, x3, x4, x5, x6, x7, x8, x9, x10] : List Int32), own_C z) → (([x0, x1, x2, x3, x4, x5, x6, x7, x8, x9, x10] : List Int32) = own_U ↔ (jp = 11 ∨ own_U.getD jp 0 = c1)) → Go p e below (T1.setTop (mkF m 174 #[.val (.int p1), .val (.int p2), .val (.int p3), .val (.int p4), .val (.ref b60), .val (.ref b85), .val (.int (Int32.ofNat jp)), .val (.int c1), .val (.int c2), .unset, .unset, .unset, .unset, .unset] [])) (EndH Z EL s (Q_rm0 Z p1 p2 p3 p4 h0 n0) room_1.cells room_1.slots) by
    by_cases hc1 : (Int32.ofNat jp) < (11 : Int32)
    ·
      refine Go.st (T' := T108.setTop (mkF m 167 #[.val (.int p1), .val (.int p2), .val (.int p3), .val (.int p4), .val (.ref b60), .val (.ref b85), .val (.int (Int32.ofNat jp)), .val (.int c1), .val (.int c2), .unset, .unset, .unset, .unset, .unset] [])) (fun t k => XS.icmpNo X108.here hx rfl (hb hby at_164) rfl (tlt hc1).2.1 k) ?_
      refine Go.st (T' := T108.setTop (mkF m 169 #[.val (.int p1), .val (.int p2), .val (.int p3), .val (.int p4), .val (.ref b60), .val (.ref b85), .val (.int (Int32.ofNat jp)), .val (.int c1), .val (.int c2), .unset, .unset, .unset, .unset, .unset] [(.ref b85)])) (fun t k => XS.aload X108.here hx rfl (hb hby at_167) rfl rfl k) ?_
      refine Go.st (T' := T108.setTop (mkF m 171 #[.val (.int p1), .val (.int p2), .val (.int p3), .val (.int p4), .val (.ref b60), .val (.ref b85), .val (.int (Int32.ofNat jp)), .val (.int c1), .val (.int c2), .unset, .unset, .unset, .unset, .unset] [(.int (Int32.ofNat jp)), (.ref b85)])) (fun t k => XS.iload X108.here hx rfl (hb hby at_169) rfl k) ?_
      refine Go.st (T' := T108.setTop (mkF m 173 #[.val (.int p1), .val (.int p2), .val (.int p3), .val (.int p4), .val (.ref b60), .val (.ref b85), .val (.int (Int32.ofNat jp)), .val (.int c1), .val (.int c2), .unset, .unset, .unset, .unset, .unset] [(.int c1), (.int (Int32.ofNat jp)), (.ref b85)])) (fun t k => XS.iload X108.here hx rfl (hb hby at_171) rfl k) ?_
      have hj11 : jp < 11 := hdj.mpr hc1
      have hjc : jp = 0 ∨ jp = 1 ∨ jp = 2 ∨ jp = 3 ∨ jp = 4 ∨ jp = 5 ∨ jp = 6 ∨ jp = 7 ∨ jp = 8 ∨ jp = 9 ∨ jp = 10 := by omega
      have hT : (Int32.ofNat jp).toNatClampNeg = jp := by simp only [Int32.toNatClampNeg]; rw [Int32.toInt_ofNat_of_lt (by omega)]; rfl
      obtain ⟨cl111, Ar111, q111, S111, M111, H111, G111⟩ := id VR110
      obtain ⟨T111, h111, X111, e111, W111, st111⟩ := stC X108 hx hZh e108 Ar111 (j := (Int32.ofNat jp)) (inb_of S111 ⟨by rw [Int32.lt_iff_toInt_lt, Int32.toInt_ofNat_of_lt (by omega)]; show ¬ ((jp : Nat) : Int) < 0; omega, hdj.mp hj11⟩) (g := (mkF m 173 #[.val (.int p1), .val (.int p2), .val (.int p3), .val (.int p4), .val (.ref b60), .val (.ref b85), .val (.int (Int32.ofNat jp)), .val (.int c1), .val (.int c2), .unset, .unset, .unset, .unset, .unset] [(.int c1), (.int (Int32.ofNat jp)), (.ref b85)])) rfl rfl (hb hby at_173)
      have C112 : CHr Z EL s.vm h0 s.vm h111 := C109.trans (CHr.wr W111 (by obtain ⟨_, A_, _⟩ := id VR110; exact Safe.arr hZh.alike A_ (by decide)) C109.1)
      have V111 : Arv Z h111 b85 k85 .char (11 : Int32) (([(.int (117 : Int32)), (.int (110 : Int32)), (.int (115 : Int32)), (.int (117 : Int32)), (.int (112 : Int32)), (.int (112 : Int32)), (.int (111 : Int32)), (.int (114 : Int32)), (.int (116 : Int32)), (.int (101 : Int32)), (.int (100 : Int32))] : List Value).set jp (.int (nar .char c1))) (.int (0 : Int32)) := Arv.set Ar111 q111 S111 M111 H111 G111 (fits_nar_char _) W111 jp hT (by show jp < 11; omega)
      have K111 : Keep h0 h111 [] := K108.wr W111 (Or.inr sz_b85)
      have N111 := Fr.snoc X111 N108 g_b85
      refine Go.st (T' := T111.setTop (mkF m 174 #[.val (.int p1), .val (.int p2), .val (.int p3), .val (.int p4), .val (.ref b60), .val (.ref b85), .val (.int (Int32.ofNat jp)), .val (.int c1), .val (.int c2), .unset, .unset, .unset, .unset, .unset] [])) (fun t k => st111 t k) ?_
      have f113 : Arv Z h111 b60 k60 .char (11 : Int32) [(.int (117 : Int32)), (.int (110 : Int32)), (.int (115 : Int32)), (.int (117 : Int32)), (.int (112 : Int32)), (.int (112 : Int32)), (.int (111 : Int32)), (.int (114 : Int32)), (.int (116 : Int32)), (.int (101 : Int32)), (.int (100 : Int32))] (.int (0 : Int32)) := (((((((((((((VR84.ext E85).other W88 ne86).other W90 ne86).other W92 ne86).other W94 ne86).other W96 ne86).other W98 ne86).other W100 ne86).other W102 ne86).other W104 ne86).other W106 ne86).other W108 ne86).other W111 ne86)
      rw [Hc1.2] at V111
      have hall : ∀ z ∈ own_U, own_C z := by decide
      rcases hjc with rfl | rfl | rfl | rfl | rfl | rfl | rfl | rfl | rfl | rfl | rfl
      · exact J1 _ _ _ _ _ _ _ _ _ _ _ _ _ _ X111 e111 K111 N111 f113 V111 C112 (own_mem 0 Hc1) (own_iff 0 c1 (by decide))
      · exact J1 _ _ _ _ _ _ _ _ _ _ _ _ _ _ X111 e111 K111 N111 f113 V111 C112 (own_mem 1 Hc1) (own_iff 1 c1 (by decide))
      · exact J1 _ _ _ _ _ _ _ _ _ _ _ _ _ _ X111 e111 K111 N111 f113 V111 C112 (own_mem 2 Hc1) (own_iff 2 c1 (by decide))
      · exact J1 _ _ _ _ _ _ _ _ _ _ _ _ _ _ X111 e111 K111 N111 f113 V111 C112 (own_mem 3 Hc1) (own_iff 3 c1 (by decide))
      · exact J1 _ _ _ _ _ _ _ _ _ _ _ _ _ _ X111 e111 K111 N111 f113 V111 C112 (own_mem 4 Hc1) (own_iff 4 c1 (by decide))
      · exact J1 _ _ _ _ _ _ _ _ _ _ _ _ _ _ X111 e111 K111 N111 f113 V111 C112 (own_mem 5 Hc1) (own_iff 5 c1 (by decide))
      · exact J1 _ _ _ _ _ _ _ _ _ _ _ _ _ _ X111 e111 K111 N111 f113 V111 C112 (own_mem 6 Hc1) (own_iff 6 c1 (by decide))
      · exact J1 _ _ _ _ _ _ _ _ _ _ _ _ _ _ X111 e111 K111 N111 f113 V111 C112 (own_mem 7 Hc1) (own_iff 7 c1 (by decide))
      · exact J1 _ _ _ _ _ _ _ _ _ _ _ _ _ _ X111 e111 K111 N111 f113 V111 C112 (own_mem 8 Hc1) (own_iff 8 c1 (by decide))
      · exact J1 _ _ _ _ _ _ _ _ _ _ _ _ _ _ X111 e111 K111 N111 f113 V111 C112 (own_mem 9 Hc1) (own_iff 9 c1 (by decide))
      · exact J1 _ _ _ _ _ _ _ _ _ _ _ _ _ _ X111 e111 K111 N111 f113 V111 C112 (own_mem 10 Hc1) (own_iff 10 c1 (by decide))
    ·
      refine Go.st (T' := T108.setTop (mkF m 174 #[.val (.int p1), .val (.int p2), .val (.int p3), .val (.int p4), .val (.ref b60), .val (.ref b85), .val (.int (Int32.ofNat jp)), .val (.int c1), .val (.int c2), .unset, .unset, .unset, .unset, .unset] [])) (fun t k => XS.icmpYes X108.here hx rfl (pc0 := 164) (pc' := 174) rfl (hb hby at_164) rfl (flt hc1).2.1 (by decide) (by decide) k) ?_
      have f114 : Arv Z h108 b60 k60 .char (11 : Int32) [(.int (117 : Int32)), (.int (110 : Int32)), (.int (115 : Int32)), (.int (117 : Int32)), (.int (112 : Int32)), (.int (112 : Int32)), (.int (111 : Int32)), (.int (114 : Int32)), (.int (116 : Int32)), (.int (101 : Int32)), (.int (100 : Int32))] (.int (0 : Int32)) := ((((((((((((VR84.ext E85).other W88 ne86).other W90 ne86).other W92 ne86).other W94 ne86).other W96 ne86).other W98 ne86).other W100 ne86).other W102 ne86).other W104 ne86).other W106 ne86).other W108 ne86)
      have hj11 : jp = 11 := by
        have q : ¬ jp < 11 := fun z => hc1 (hdj.mp z)
        omega
      exact J1 _ _ _ (117 : Int32) (110 : Int32) (115 : Int32) (117 : Int32) (112 : Int32) (112 : Int32) (111 : Int32) (114 : Int32) (116 : Int32) (101 : Int32) (100 : Int32) X108 e108 K108 N108 f114 VR110 C109 (by decide) (by subst hj11; exact ⟨fun _ => Or.inl rfl, fun _ => rfl⟩)
  intro T1 h1 L1 x0 x1 x2 x3 x4 x5 x6 x7 x8 x9 x10 X1 e1 K1 N1 Vb1 Va1 C1 hxs hrel
  have Hx0 : own_C x0 := hxs _ (List.mem_of_getElem? (i := 0) rfl)
  have Hx1 : own_C x1 := hxs _ (List.mem_of_getElem? (i := 1) rfl)
  have Hx2 : own_C x2 := hxs _ (List.mem_of_getElem? (i := 2) rfl)
  have Hx3 : own_C x3 := hxs _ (List.mem_of_getElem? (i := 3) rfl)
  have Hx4 : own_C x4 := hxs _ (List.mem_of_getElem? (i := 4) rfl)
  have Hx5 : own_C x5 := hxs _ (List.mem_of_getElem? (i := 5) rfl)
  have Hx6 : own_C x6 := hxs _ (List.mem_of_getElem? (i := 6) rfl)
  have Hx7 : own_C x7 := hxs _ (List.mem_of_getElem? (i := 7) rfl)
  have Hx8 : own_C x8 := hxs _ (List.mem_of_getElem? (i := 8) rfl)
  have Hx9 : own_C x9 := hxs _ (List.mem_of_getElem? (i := 9) rfl)
  have Hx10 : own_C x10 := hxs _ (List.mem_of_getElem? (i := 10) rfl)
  refine Go.st (T' := T1.setTop (mkF m 175 #[.val (.int p1), .val (.int p2), .val (.int p3), .val (.int p4), .val (.ref b60), .val (.ref b85), .val (.int (Int32.ofNat jp)), .val (.int c1), .val (.int c2), .unset, .unset, .unset, .unset, .unset] [(.int p3)])) (fun t k => XS.iloadN X1.here hx rfl (hb hby at_174) rfl k) ?_
  refine Go.st (T' := T1.setTop (mkF m 177 #[.val (.int p1), .val (.int p2), .val (.int p3), .val (.int p4), .val (.ref b60), .val (.ref b85), .val (.int (Int32.ofNat jp)), .val (.int c1), .val (.int c2), .unset, .unset, .unset, .unset, .unset] [(.int (2147483647 : Int32)), (.int p3)])) (fun t k => X1.ldcInt hx hownh (mvT hZh (hw _ (List.mem_of_getElem? (i := 1) rfl))) (g := (mkF m 175 #[.val (.int p1), .val (.int p2), .val (.int p3), .val (.int p4), .val (.ref b60), .val (.ref b85), .val (.int (Int32.ofNat jp)), .val (.int c1), .val (.int c2), .unset, .unset, .unset, .unset, .unset] [(.int p3)])) rfl (hb hby at_175) t k) ?_
  refine Go.st (T' := T1.setTop (mkF m 178 #[.val (.int p1), .val (.int p2), .val (.int p3), .val (.int p4), .val (.ref b60), .val (.ref b85), .val (.int (Int32.ofNat jp)), .val (.int c1), .val (.int c2), .unset, .unset, .unset, .unset, .unset] [(.int (p3 &&& (2147483647 : Int32)))])) (fun t k => XS.iand X1.here hx rfl (hb hby at_177) rfl k) ?_
  refine Go.st (T' := T1.setTop (mkF m 179 #[.val (.int p1), .val (.int p2), .val (.int p3), .val (.int p4), .val (.ref b60), .val (.ref b85), .val (.int (Int32.ofNat jp)), .val (.int c1), .val (.int c2), .unset, .unset, .unset, .unset, .unset] [(.int (4 : Int32)), (.int (p3 &&& (2147483647 : Int32)))])) (fun t k => XS.iconst X1.here hx rfl (hb hby at_178) k) ?_
  refine Go.st (T' := T1.setTop (mkF m 180 #[.val (.int p1), .val (.int p2), .val (.int p3), .val (.int p4), .val (.ref b60), .val (.ref b85), .val (.int (Int32.ofNat jp)), .val (.int c1), .val (.int c2), .unset, .unset, .unset, .unset, .unset] [(.int ((p3 &&& (2147483647 : Int32)) - ((p3 &&& (2147483647 : Int32)) / (4 : Int32)) * (4 : Int32)))])) (fun t k => XS.irem X1.here hx rfl (hb hby at_179) rfl (by decide) k) ?_
  obtain ⟨jk, hjk, hjk'⟩ := own_k (y := p3) (n := 4) (m := 4) rfl (by decide) (by decide)
  rw [hjk]
  have hk4 : jk = 0 ∨ jk = 1 ∨ jk = 2 ∨ jk = 3 := by omega
  refine Go.st (T' := T1.setTop (mkF m 182 #[.val (.int p1), .val (.int p2), .val (.int p3), .val (.int p4), .val (.ref b60), .val (.ref b85), .val (.int (Int32.ofNat jp)), .val (.int c1), .val (.int c2), .val (.int (Int32.ofNat jk)), .unset, .unset, .unset, .unset] [])) (fun t k => XS.istore X1.here hx rfl (hb hby at_180) rfl (l' := #[.val (.int p1), .val (.int p2), .val (.int p3), .val (.int p4), .val (.ref b60), .val (.ref b85), .val (.int (Int32.ofNat jp)), .val (.int c1), .val (.int c2), .val (.int (Int32.ofNat jk)), .unset, .unset, .unset, .unset]) rfl k) ?_
  refine Go.st (T' := T1.setTop (mkF m 184 #[.val (.int p1), .val (.int p2), .val (.int p3), .val (.int p4), .val (.ref b60), .val (.ref b85), .val (.int (Int32.ofNat jp)), .val (.int c1), .val (.int c2), .val (.int (Int32.ofNat jk)), .unset, .unset, .unset, .unset] [(.int (Int32.ofNat jk))])) (fun t k => XS.iload X1.here hx rfl (hb hby at_182) rfl k) ?_
  rcases hk4 with rfl | rfl | rfl | rfl
  ·
    refine Go.st (T' := T1.setTop (mkF m 187 #[.val (.int p1), .val (.int p2), .val (.int p3), .val (.int p4), .val (.ref b60), .val (.ref b85), .val (.int (Int32.ofNat jp)), .val (.int c1), .val (.int c2), .val (.int (Int32.ofNat 0)), .unset, .unset, .unset, .unset] [])) (fun t k => XS.ifNo X1.here hx rfl (hb hby at_184) rfl ((if0 _ _).trans (teq (by decide)).2) k) ?_
    refine Go.st (T' := T1.setTop (mkF m 189 #[.val (.int p1), .val (.int p2), .val (.int p3), .val (.int p4), .val (.ref b60), .val (.ref b85), .val (.int (Int32.ofNat jp)), .val (.int c1), .val (.int c2), .val (.int (Int32.ofNat 0)), .unset, .unset, .unset, .unset] [(.ref b85)])) (fun t k => XS.aload X1.here hx rfl (hb hby at_187) rfl rfl k) ?_
    refine Go.st (T' := T1.setTop (mkF m 191 #[.val (.int p1), .val (.int p2), .val (.int p3), .val (.int p4), .val (.ref b60), .val (.ref b85), .val (.int (Int32.ofNat jp)), .val (.int c1), .val (.int c2), .val (.int (Int32.ofNat 0)), .val (.ref b85), .unset, .unset, .unset] [])) (fun t k => XS.astore X1.here hx rfl (hb hby at_189) rfl rfl (l' := #[.val (.int p1), .val (.int p2), .val (.int p3), .val (.int p4), .val (.ref b60), .val (.ref b85), .val (.int (Int32.ofNat jp)), .val (.int c1), .val (.int c2), .val (.int (Int32.ofNat 0)), .val (.ref b85), .unset, .unset, .unset]) rfl k) ?_
    refine Go.st (T' := T1.setTop (mkF m 400 #[.val (.int p1), .val (.int p2), .val (.int p3), .val (.int p4), .val (.ref b60), .val (.ref b85), .val (.int (Int32.ofNat jp)), .val (.int c1), .val (.int c2), .val (.int (Int32.ofNat 0)), .val (.ref b85), .unset, .unset, .unset] [])) (fun t k => XS.goto X1.here hx rfl (pc0 := 191) (pc' := 400) rfl (hb hby at_191) (by decide) (by decide) k) ?_
    obtain ⟨T115, h115, X115, e115, E115, A115, D115, -, st115⟩ := newO X1 hx hZh hownh (hw _ (List.mem_of_getElem? (i := 2) rfl)) (hw _ (List.mem_of_getElem? (i := 3) rfl)) (hw _ (List.mem_of_getElem? (i := 4) rfl)) e1 (g := (mkF m 400 #[.val (.int p1), .val (.int p2), .val (.int p3), .val (.int p4), .val (.ref b60), .val (.ref b85), .val (.int (Int32.ofNat jp)), .val (.int c1), .val (.int c2), .val (.int (Int32.ofNat 0)), .val (.ref b85), .unset, .unset, .unset] [])) rfl (hb hby at_400) (by decide) (by decide)
    obtain ⟨b115, g115⟩ : ∃ z, z = h1.size := ⟨_, rfl⟩
    rw [← g115] at A115 D115 st115
    have g_b115 : n0 ≤ b115 := Nat.le_trans (Nat.le_trans Z0 K1.1) (Nat.le_of_eq g115.symm)
    have sz_b115 : h0.size ≤ b115 := Nat.le_trans K1.1 (Nat.le_of_eq g115.symm)
    have ne116 : b60 ≠ b115 := Nat.ne_of_lt (Nat.lt_of_lt_of_le Vb1.lt (Nat.le_of_eq g115.symm))
    have ne117 : b85 ≠ b115 := Nat.ne_of_lt (Nat.lt_of_lt_of_le Va1.lt (Nat.le_of_eq g115.symm))
    have C118 : CHr Z EL s.vm h0 s.vm h115 := C1.trans (CHr.ext E115 C1.1)
    have K115 : Keep h0 h115 [] := K1.ext E115
    have Fn115_coder : Fld Z h115 b115 "java/lang/String" "coder" "B" (.int (0 : Int32)) := D115 (Or.inr (hw _ (List.mem_of_getElem? (i := 28) rfl))) (ty := .byte) (by decide)
    have Fn115_value : Fld Z h115 b115 "java/lang/String" "value" "[B" .null := D115 (Or.inr (hw _ (List.mem_of_getElem? (i := 30) rfl))) (ty := (.array .byte)) (by decide)
    refine Go.st (T' := T115.setTop (mkF m 403 #[.val (.int p1), .val (.int p2), .val (.int p3), .val (.int p4), .val (.ref b60), .val (.ref b85), .val (.int (Int32.ofNat jp)), .val (.int c1), .val (.int c2), .val (.int (Int32.ofNat 0)), .val (.ref b85), .unset, .unset, .unset] [(.ref b115)])) (fun t k => st115 t k) ?_
    refine Go.st (T' := T115.setTop (mkF m 404 #[.val (.int p1), .val (.int p2), .val (.int p3), .val (.int p4), .val (.ref b60), .val (.ref b85), .val (.int (Int32.ofNat jp)), .val (.int c1), .val (.int c2), .val (.int (Int32.ofNat 0)), .val (.ref b85), .unset, .unset, .unset] [(.ref b115), (.ref b115)])) (fun t k => XS.dup X115.here hx rfl (hb hby at_403) rfl rfl k) ?_
    refine Go.st (T' := T115.setTop (mkF m 406 #[.val (.int p1), .val (.int p2), .val (.int p3), .val (.int p4), .val (.ref b60), .val (.ref b85), .val (.int (Int32.ofNat jp)), .val (.int c1), .val (.int c2), .val (.int (Int32.ofNat 0)), .val (.ref b85), .unset, .unset, .unset] [(.ref b85), (.ref b115), (.ref b115)])) (fun t k => XS.aload X115.here hx rfl (hb hby at_404) rfl rfl k) ?_
    have f119 : Arv Z h115 b85 k85 .char (11 : Int32) [(.int x0), (.int x1), (.int x2), (.int x3), (.int x4), (.int x5), (.int x6), (.int x7), (.int x8), (.int x9), (.int x10)] (.int (0 : Int32)) := (Va1.ext E115)
    have hp : ∀ c ∈ ([x0, x1, x2, x3, x4, x5, x6, x7, x8, x9, x10] : List Int32), ¬ c < 0 ∧ ¬ (255 : Int32) < c := by
      intro c hc
      simp only [List.mem_cons, List.not_mem_nil, or_false] at hc
      rcases hc with rfl | rfl | rfl | rfl | rfl | rfl | rfl | rfl | rfl | rfl | rfl
      · exact Hx0.1
      · exact Hx1.1
      · exact Hx2.1
      · exact Hx3.1
      · exact Hx4.1
      · exact Hx5.1
      · exact Hx6.1
      · exact Hx7.1
      · exact Hx8.1
      · exact Hx9.1
      · exact Hx10.1
    obtain ⟨vr120, _, ⟨T120, L120, k120, n120⟩, -, X120, ⟨Lc120, hQ120, l120, y120, z120⟩, st120⟩ := X115.specialBack hx (y := (⟨"java/lang/String", "<init>", "([C)V"⟩ : MethodName)) rfl hownh (mvT hZh (hw _ (List.mem_of_getElem? (i := 5) rfl))) (mvT hZh (hw _ (List.mem_of_getElem? (i := 6) rfl))) (mvT hZh (hw _ (List.mem_of_getElem? (i := 7) rfl))) (by decide) (StrChars.Road.backV (W := 1) hZh hws (kI := 4) (hw _ (List.mem_of_getElem? (i := 3) rfl)) (cs := ([x0, x1, x2, x3, x4, x5, x6, x7, x8, x9, x10] : List Int32)) (bs := (([x0, x1, x2, x3, x4, x5, x6, x7, x8, x9, x10] : List Int32)).map (fun c => c.toInt8.toInt32)) (n := 11) g_b115 (Nat.le_trans Z0 K115.1) A115 Fn115_value Fn115_coder f119 (O2.ext (X00.keep K115 all0).2) P5 rfl rfl (by decide) (by decide) hp rfl (by decide) (by decide)) (g := (mkF m 406 #[.val (.int p1), .val (.int p2), .val (.int p3), .val (.int p4), .val (.ref b60), .val (.ref b85), .val (.int (Int32.ofNat jp)), .val (.int c1), .val (.int c2), .val (.int (Int32.ofNat 0)), .val (.ref b85), .unset, .unset, .unset] [(.ref b85), (.ref b115), (.ref b115)])) rfl (by rw [hml]; rfl) (Steps.refl _) (a := b115) (argsL := [(.ref b85)]) (rest := [(.ref b115)]) (lenOf pd_a67b36d rfl) rfl (by show 2 * 0 + _ ≤ _; exact Nat.le_of_eq rfl) (hb hby at_406) (fun _ _ => ⟨rfl, e115, (by decide : 3 + 1 ≤ _), (by decide : 26 + 11 ≤ _)⟩)
    dsimp only [Pt.U, Pt.locs, Pt.cells, Pt.slots] at X120 l120 y120 z120 st120 hQ120
    subst l120 y120 z120
    obtain ⟨rfl, Nq120, Kq120, Eq120, Cq120, t120, kb120, ut120, vt120, wt120, Vq120, Bq120⟩ := hQ120
    have C121 : CHr Z EL s.vm h0 s.vm T120.heap := C118.trans (CHr.keep Kq120 (allS (own_safe hZh.alike A115 Fn115_value) all0) C118.1)
    have KK122 : Keep h0 T120.heap [] := K115.trans Kq120 (allS (Or.inr sz_b115) all0)
    have NN123 := Fr.app N1 Nq120
    refine Go.st (T' := T120.setTop (mkF m 409 #[.val (.int p1), .val (.int p2), .val (.int p3), .val (.int p4), .val (.ref b60), .val (.ref b85), .val (.int (Int32.ofNat jp)), .val (.int c1), .val (.int c2), .val (.int (Int32.ofNat 0)), .val (.ref b85), .unset, .unset, .unset] [(.ref b115)])) (fun t k => st120.trans k) ?_
    refine Go.st (T' := T120.setTop (mkF m 411 #[.val (.int p1), .val (.int p2), .val (.int p3), .val (.int p4), .val (.ref b60), .val (.ref b85), .val (.int (Int32.ofNat jp)), .val (.int c1), .val (.int c2), .val (.int (Int32.ofNat 0)), .val (.ref b85), .val (.ref b115), .unset, .unset] [])) (fun t k => XS.astore X120.here hx rfl (hb hby at_409) rfl rfl (l' := #[.val (.int p1), .val (.int p2), .val (.int p3), .val (.int p4), .val (.ref b60), .val (.ref b85), .val (.int (Int32.ofNat jp)), .val (.int c1), .val (.int c2), .val (.int (Int32.ofNat 0)), .val (.ref b85), .val (.ref b115), .unset, .unset]) rfl k) ?_
    obtain ⟨T124, h124, X124, e124, E124, A124, D124, -, st124⟩ := newO X120 hx hZh hownh (hw _ (List.mem_of_getElem? (i := 31) rfl)) (hw _ (List.mem_of_getElem? (i := 32) rfl)) (hw _ (List.mem_of_getElem? (i := 33) rfl)) rfl (g := (mkF m 411 #[.val (.int p1), .val (.int p2), .val (.int p3), .val (.int p4), .val (.ref b60), .val (.ref b85), .val (.int (Int32.ofNat jp)), .val (.int c1), .val (.int c2), .val (.int (Int32.ofNat 0)), .val (.ref b85), .val (.ref b115), .unset, .unset] [])) rfl (hb hby at_411) (by decide) (by decide)
    obtain ⟨b124, g124⟩ : ∃ z, z = T120.heap.size := ⟨_, rfl⟩
    rw [← g124] at A124 D124 st124
    have g_b124 : n0 ≤ b124 := Nat.le_trans (Nat.le_trans Z0 KK122.1) (Nat.le_of_eq g124.symm)
    have sz_b124 : h0.size ≤ b124 := Nat.le_trans KK122.1 (Nat.le_of_eq g124.symm)
    have f125 : Arv Z T120.heap b60 k60 .char (11 : Int32) [(.int (117 : Int32)), (.int (110 : Int32)), (.int (115 : Int32)), (.int (117 : Int32)), (.int (112 : Int32)), (.int (112 : Int32)), (.int (111 : Int32)), (.int (114 : Int32)), (.int (116 : Int32)), (.int (101 : Int32)), (.int (100 : Int32))] (.int (0 : Int32)) := ((Vb1.ext E115).keep Kq120 (ninS ne116 nin0))
    have ne126 : b60 ≠ b124 := Nat.ne_of_lt (Nat.lt_of_lt_of_le f125.lt (Nat.le_of_eq g124.symm))
    have f127 : Arv Z T120.heap b85 k85 .char (11 : Int32) [(.int x0), (.int x1), (.int x2), (.int x3), (.int x4), (.int x5), (.int x6), (.int x7), (.int x8), (.int x9), (.int x10)] (.int (0 : Int32)) := (f119.keep Kq120 (ninS ne117 nin0))
    have ne128 : b85 ≠ b124 := Nat.ne_of_lt (Nat.lt_of_lt_of_le f127.lt (Nat.le_of_eq g124.symm))
    have ne129 : b115 ≠ b124 := Nat.ne_of_lt (Nat.lt_of_lt_of_le Eq120.lt (Nat.le_of_eq g124.symm))
    have ne130 : t120 ≠ b124 := Nat.ne_of_lt (Nat.lt_of_lt_of_le Bq120.lt (Nat.le_of_eq g124.symm))
    have C131 : CHr Z EL s.vm h0 s.vm h124 := C121.trans (CHr.ext E124 C121.1)
    have K124 : Keep h0 h124 [] := KK122.ext E124
    have Fn124_update : Fld Z h124 b124 "com/example/bede/bede/model/Explanation" "update" "Ljava/lang/String;" .null := D124 (Or.inr (hw _ (List.mem_of_getElem? (i := 53) rfl))) (ty := (.object "java/lang/String")) (by decide)
    have Fn124_expression : Fld Z h124 b124 "com/example/bede/bede/model/Explanation" "expression" "Ljava/lang/String;" .null := D124 (Or.inr (hw _ (List.mem_of_getElem? (i := 55) rfl))) (ty := (.object "java/lang/String")) (by decide)
    refine Go.st (T' := T124.setTop (mkF m 414 #[.val (.int p1), .val (.int p2), .val (.int p3), .val (.int p4), .val (.ref b60), .val (.ref b85), .val (.int (Int32.ofNat jp)), .val (.int c1), .val (.int c2), .val (.int (Int32.ofNat 0)), .val (.ref b85), .val (.ref b115), .unset, .unset] [(.ref b124)])) (fun t k => st124 t k) ?_
    refine Go.st (T' := T124.setTop (mkF m 415 #[.val (.int p1), .val (.int p2), .val (.int p3), .val (.int p4), .val (.ref b60), .val (.ref b85), .val (.int (Int32.ofNat jp)), .val (.int c1), .val (.int c2), .val (.int (Int32.ofNat 0)), .val (.ref b85), .val (.ref b115), .unset, .unset] [(.ref b124), (.ref b124)])) (fun t k => XS.dup X124.here hx rfl (hb hby at_414) rfl rfl k) ?_
    refine Go.st (T' := T124.setTop (mkF m 416 #[.val (.int p1), .val (.int p2), .val (.int p3), .val (.int p4), .val (.ref b60), .val (.ref b85), .val (.int (Int32.ofNat jp)), .val (.int c1), .val (.int c2), .val (.int (Int32.ofNat 0)), .val (.ref b85), .val (.ref b115), .unset, .unset] [(.int p4), (.ref b124), (.ref b124)])) (fun t k => XS.iloadN X124.here hx rfl (hb hby at_415) rfl k) ?_
    refine Go.st (T' := T124.setTop (mkF m 419 #[.val (.int p1), .val (.int p2), .val (.int p3), .val (.int p4), .val (.ref b60), .val (.ref b85), .val (.int (Int32.ofNat jp)), .val (.int c1), .val (.int c2), .val (.int (Int32.ofNat 0)), .val (.ref b85), .val (.ref b115), .unset, .unset] [(.int (255 : Int32)), (.int p4), (.ref b124), (.ref b124)])) (fun t k => XS.sipush X124.here hx rfl (hb hby at_416) k) ?_
    refine Go.st (T' := T124.setTop (mkF m 420 #[.val (.int p1), .val (.int p2), .val (.int p3), .val (.int p4), .val (.ref b60), .val (.ref b85), .val (.int (Int32.ofNat jp)), .val (.int c1), .val (.int c2), .val (.int (Int32.ofNat 0)), .val (.ref b85), .val (.ref b115), .unset, .unset] [(.int (p4 &&& (255 : Int32))), (.ref b124), (.ref b124)])) (fun t k => XS.iand X124.here hx rfl (hb hby at_419) rfl k) ?_
    refine Go.st (T' := T124.setTop (mkF m 421 #[.val (.int p1), .val (.int p2), .val (.int p3), .val (.int p4), .val (.ref b60), .val (.ref b85), .val (.int (Int32.ofNat jp)), .val (.int c1), .val (.int c2), .val (.int (Int32.ofNat 0)), .val (.ref b85), .val (.ref b115), .unset, .unset] [(.int ((p4 &&& (255 : Int32)).toUInt32.toUInt16.toUInt32.toInt32)), (.ref b124), (.ref b124)])) (fun t k => XS.i2c X124.here hx rfl (hb hby at_420) rfl k) ?_
    obtain ⟨vr132, _, ⟨T132, L132, k132, n132⟩, -, X132, ⟨Lc132, hQ132, l132, y132, z132⟩, st132⟩ := Jvm.LawKit.callS X124 hx (y := (⟨"java/lang/String", "valueOf", "(C)Ljava/lang/String;"⟩ : MethodName)) hownh (mvT hZh (hw _ (List.mem_of_getElem? (i := 34) rfl))) (mvT hZh (hw _ (List.mem_of_getElem? (i := 35) rfl))) (mvT hZh (hw _ (List.mem_of_getElem? (i := 4) rfl))) (mvT hZh (hw _ (List.mem_of_getElem? (i := 36) rfl))) (by decide) (backOf (W := 2) (rmVal l Z a0 hw ((p4 &&& (255 : Int32)).toUInt32.toUInt16.toUInt32.toInt32) h124 n0 (Nat.le_trans Z0 K124.1) G1 O2 P5 (X00.keep K124 all0) (own_C_of _).1.2) hZh (hw _ (List.mem_of_getElem? (i := 36) rfl)) (hw _ (List.mem_of_getElem? (i := 4) rfl)) (by decide) (by decide)) (g := (mkF m 421 #[.val (.int p1), .val (.int p2), .val (.int p3), .val (.int p4), .val (.ref b60), .val (.ref b85), .val (.int (Int32.ofNat jp)), .val (.int c1), .val (.int c2), .val (.int (Int32.ofNat 0)), .val (.ref b85), .val (.ref b115), .unset, .unset] [(.int ((p4 &&& (255 : Int32)).toUInt32.toUInt16.toUInt32.toInt32)), (.ref b124), (.ref b124)])) rfl (by rw [hml]; rfl) (argsL := [(.int ((p4 &&& (255 : Int32)).toUInt32.toUInt16.toUInt32.toInt32))]) (rest := [(.ref b124), (.ref b124)]) (lenOf pd_b5a46ce rfl) rfl (by show 2 * 0 + _ ≤ _; exact Nat.le_of_eq rfl) (hb hby at_421) (fun _ _ => ⟨rfl, e124, (by decide : 5 + 2 ≤ _), (by decide : 39 + 5 ≤ _)⟩)
    dsimp only [Pt.U, Pt.locs, Pt.cells, Pt.slots] at X132 l132 y132 z132 st132 hQ132
    subst l132 y132 z132
    obtain ⟨Nq132, Kq132, y132, rfl⟩ := hQ132
    have C133 : CHr Z EL s.vm h0 s.vm T132.heap := C131.trans (CHr.keep Kq132 all0 C131.1)
    have KK134 : Keep h0 T132.heap [] := K124.trans Kq132 all0
    have NN135 := Fr.app NN123 Nq132
    refine Go.st (T' := T132.setTop (mkF m 424 #[.val (.int p1), .val (.int p2), .val (.int p3), .val (.int p4), .val (.ref b60), .val (.ref b85), .val (.int (Int32.ofNat jp)), .val (.int c1), .val (.int c2), .val (.int (Int32.ofNat 0)), .val (.ref b85), .val (.ref b115), .unset, .unset] [(.ref y132), (.ref b124), (.ref b124)])) (fun t k => st132 t k) ?_
    refine Go.st (T' := T132.setTop (mkF m 426 #[.val (.int p1), .val (.int p2), .val (.int p3), .val (.int p4), .val (.ref b60), .val (.ref b85), .val (.int (Int32.ofNat jp)), .val (.int c1), .val (.int c2), .val (.int (Int32.ofNat 0)), .val (.ref b85), .val (.ref b115), .unset, .unset] [(.ref b115), (.ref y132), (.ref b124), (.ref b124)])) (fun t k => XS.aload X132.here hx rfl (hb hby at_424) rfl rfl k) ?_
    have f136 : Exa Z T132.heap b124 "com/example/bede/bede/model/Explanation" := (A124.keep Kq132)
    have f137 : Fld Z T132.heap b124 "com/example/bede/bede/model/Explanation" "update" "Ljava/lang/String;" .null := (Fn124_update.keep Kq132 nin0)
    have f138 : Fld Z T132.heap b124 "com/example/bede/bede/model/Explanation" "expression" "Ljava/lang/String;" .null := (Fn124_expression.keep Kq132 nin0)
    obtain ⟨vr139, _, ⟨T139, L139, k139, n139⟩, -, X139, ⟨Lc139, hQ139, l139, y139, z139⟩, st139⟩ := X132.specialBack hx (y := (⟨"com/example/bede/bede/model/Explanation", "<init>", "(Ljava/lang/String;Ljava/lang/String;)V"⟩ : MethodName)) rfl hownh (mvT hZh (hw _ (List.mem_of_getElem? (i := 48) rfl))) (mvT hZh (hw _ (List.mem_of_getElem? (i := 49) rfl))) (mvT hZh (hw _ (List.mem_of_getElem? (i := 50) rfl))) (by decide) (backOf (W := 1) (rmEx l Z a0 hw b124 y132 b115 T132.heap n0 (Nat.le_trans Z0 KK134.1) f136 g_b124 f137 f138) hZh (hw _ (List.mem_of_getElem? (i := 50) rfl)) (hw _ (List.mem_of_getElem? (i := 33) rfl)) (by decide) (by decide)) (g := (mkF m 426 #[.val (.int p1), .val (.int p2), .val (.int p3), .val (.int p4), .val (.ref b60), .val (.ref b85), .val (.int (Int32.ofNat jp)), .val (.int c1), .val (.int c2), .val (.int (Int32.ofNat 0)), .val (.ref b85), .val (.ref b115), .unset, .unset] [(.ref b115), (.ref y132), (.ref b124), (.ref b124)])) rfl (by rw [hml]; rfl) (Steps.refl _) (a := b124) (argsL := [(.ref y132), (.ref b115)]) (rest := [(.ref b124)]) (lenOf pd_e442dcf rfl) rfl (by show 2 * 0 + _ ≤ _; exact Nat.le_of_eq rfl) (hb hby at_426) (fun _ _ => ⟨rfl, rfl, (by decide : 7 + 0 ≤ _), (by decide : 44 + 0 ≤ _)⟩)
    dsimp only [Pt.U, Pt.locs, Pt.cells, Pt.slots] at X139 l139 y139 z139 st139 hQ139
    subst l139 y139 z139
    obtain ⟨rfl, Nq139, Kq139, Eq139, Fe139⟩ := hQ139
    have C140 : CHr Z EL s.vm h0 s.vm T139.heap := C133.trans (CHr.keep Kq139 (allS (Safe.exa hZh.alike f136 (by decide) (by decide)) all0) C133.1)
    have KK141 : Keep h0 T139.heap [] := KK134.trans Kq139 (allS (Or.inr sz_b124) all0)
    have NN142 := Fr.app NN135 Nq139
    refine Go.st (T' := T139.setTop (mkF m 429 #[.val (.int p1), .val (.int p2), .val (.int p3), .val (.int p4), .val (.ref b60), .val (.ref b85), .val (.int (Int32.ofNat jp)), .val (.int c1), .val (.int c2), .val (.int (Int32.ofNat 0)), .val (.ref b85), .val (.ref b115), .unset, .unset] [(.ref b124)])) (fun t k => st139.trans k) ?_
    refine Go.st (T' := T139.setTop (mkF m 431 #[.val (.int p1), .val (.int p2), .val (.int p3), .val (.int p4), .val (.ref b60), .val (.ref b85), .val (.int (Int32.ofNat jp)), .val (.int c1), .val (.int c2), .val (.int (Int32.ofNat 0)), .val (.ref b85), .val (.ref b115), .val (.ref b124), .unset] [])) (fun t k => XS.astore X139.here hx rfl (hb hby at_429) rfl rfl (l' := #[.val (.int p1), .val (.int p2), .val (.int p3), .val (.int p4), .val (.ref b60), .val (.ref b85), .val (.int (Int32.ofNat jp)), .val (.int c1), .val (.int c2), .val (.int (Int32.ofNat 0)), .val (.ref b85), .val (.ref b115), .val (.ref b124), .unset]) rfl k) ?_
    refine Go.st (T' := T139.setTop (mkF m 433 #[.val (.int p1), .val (.int p2), .val (.int p3), .val (.int p4), .val (.ref b60), .val (.ref b85), .val (.int (Int32.ofNat jp)), .val (.int c1), .val (.int c2), .val (.int (Int32.ofNat 0)), .val (.ref b85), .val (.ref b115), .val (.ref b124), .unset] [(.int (Int32.ofNat 0))])) (fun t k => XS.iload X139.here hx rfl (hb hby at_431) rfl k) ?_
    refine Go.st (T' := T139.setTop (mkF m 436 #[.val (.int p1), .val (.int p2), .val (.int p3), .val (.int p4), .val (.ref b60), .val (.ref b85), .val (.int (Int32.ofNat jp)), .val (.int c1), .val (.int c2), .val (.int (Int32.ofNat 0)), .val (.ref b85), .val (.ref b115), .val (.ref b124), .unset] [])) (fun t k => XS.ifNo X139.here hx rfl (hb hby at_433) rfl ((if0 _ _).trans (teq (by decide)).2) k) ?_
    refine Go.st (T' := T139.setTop (mkF m 438 #[.val (.int p1), .val (.int p2), .val (.int p3), .val (.int p4), .val (.ref b60), .val (.ref b85), .val (.int (Int32.ofNat jp)), .val (.int c1), .val (.int c2), .val (.int (Int32.ofNat 0)), .val (.ref b85), .val (.ref b115), .val (.ref b124), .unset] [(.int (Int32.ofNat jp))])) (fun t k => XS.iload X139.here hx rfl (hb hby at_436) rfl k) ?_
    refine Go.st (T' := T139.setTop (mkF m 440 #[.val (.int p1), .val (.int p2), .val (.int p3), .val (.int p4), .val (.ref b60), .val (.ref b85), .val (.int (Int32.ofNat jp)), .val (.int c1), .val (.int c2), .val (.int (Int32.ofNat 0)), .val (.ref b85), .val (.ref b115), .val (.ref b124), .unset] [(.int (11 : Int32)), (.int (Int32.ofNat jp))])) (fun t k => XS.bipush X139.here hx rfl (hb hby at_438) k) ?_
    by_cases h440 : (Int32.ofNat jp) = (11 : Int32)
    ·
      refine Go.st (T' := T139.setTop (mkF m 453 #[.val (.int p1), .val (.int p2), .val (.int p3), .val (.int p4), .val (.ref b60), .val (.ref b85), .val (.int (Int32.ofNat jp)), .val (.int c1), .val (.int c2), .val (.int (Int32.ofNat 0)), .val (.ref b85), .val (.ref b115), .val (.ref b124), .unset] [])) (fun t k => XS.icmpYes X139.here hx rfl (pc0 := 440) (pc' := 453) rfl (hb hby at_440) rfl (teq h440).1 (by decide) (by decide) k) ?_
      refine Go.st (T' := T139.setTop (mkF m 454 #[.val (.int p1), .val (.int p2), .val (.int p3), .val (.int p4), .val (.ref b60), .val (.ref b85), .val (.int (Int32.ofNat jp)), .val (.int c1), .val (.int c2), .val (.int (Int32.ofNat 0)), .val (.ref b85), .val (.ref b115), .val (.ref b124), .unset] [(.int (1 : Int32))])) (fun t k => XS.iconst X139.here hx rfl (hb hby at_453) k) ?_
      refine Go.st (T' := T139.setTop (mkF m 458 #[.val (.int p1), .val (.int p2), .val (.int p3), .val (.int p4), .val (.ref b60), .val (.ref b85), .val (.int (Int32.ofNat jp)), .val (.int c1), .val (.int c2), .val (.int (Int32.ofNat 0)), .val (.ref b85), .val (.ref b115), .val (.ref b124), .unset] [(.int (1 : Int32))])) (fun t k => XS.goto X139.here hx rfl (pc0 := 454) (pc' := 458) rfl (hb hby at_454) (by decide) (by decide) k) ?_
      refine Go.st (T' := T139.setTop (mkF m 460 #[.val (.int p1), .val (.int p2), .val (.int p3), .val (.int p4), .val (.ref b60), .val (.ref b85), .val (.int (Int32.ofNat jp)), .val (.int c1), .val (.int c2), .val (.int (Int32.ofNat 0)), .val (.ref b85), .val (.ref b115), .val (.ref b124), .val (.int (1 : Int32))] [])) (fun t k => XS.istore X139.here hx rfl (hb hby at_458) rfl (l' := #[.val (.int p1), .val (.int p2), .val (.int p3), .val (.int p4), .val (.ref b60), .val (.ref b85), .val (.int (Int32.ofNat jp)), .val (.int c1), .val (.int c2), .val (.int (Int32.ofNat 0)), .val (.ref b85), .val (.ref b115), .val (.ref b124), .val (.int (1 : Int32))]) rfl k) ?_
      refine Go.st (T' := T139.setTop (mkF m 462 #[.val (.int p1), .val (.int p2), .val (.int p3), .val (.int p4), .val (.ref b60), .val (.ref b85), .val (.int (Int32.ofNat jp)), .val (.int c1), .val (.int c2), .val (.int (Int32.ofNat 0)), .val (.ref b85), .val (.ref b115), .val (.ref b124), .val (.int (1 : Int32))] [(.ref b124)])) (fun t k => XS.aload X139.here hx rfl (hb hby at_460) rfl rfl k) ?_
      have f143 : Exa Z T139.heap b115 "java/lang/String" := (((Eq120.ext E124).keep Kq132).keep Kq139)
      have f144 : Fld Z T139.heap b115 "java/lang/String" "value" "[B" (.ref t120) := (((Vq120.ext E124).keep Kq132 nin0).keep Kq139 (ninS ne129 nin0))
      have f145 : Fld Z T139.heap b115 "java/lang/String" "coder" "B" (.int (0 : Int32)) := (((Cq120.ext E124).keep Kq132 nin0).keep Kq139 (ninS ne129 nin0))
      have f146 : Arv Z T139.heap t120 kb120 .byte (Int32.ofNat (([x0, x1, x2, x3, x4, x5, x6, x7, x8, x9, x10] : List Int32)).length) (((([x0, x1, x2, x3, x4, x5, x6, x7, x8, x9, x10] : List Int32)).map (fun c => c.toInt8.toInt32)).map Value.int) (.int (0 : Int32)) := (((Bq120.ext E124).keep Kq132 nin0).keep Kq139 (ninS ne130 nin0))
      obtain ⟨cq147, kq147, q147a, q147b, q147c⟩ := isOf hZh rfl Eq139
      obtain ⟨vr147, _, ⟨T147, L147, k147, n147⟩, -, X147, hs147, hg147, ⟨Lc147, hQ147, l147, y147, z147⟩, st147⟩ := X139.virtualBackS hx (y := (⟨"com/example/bede/bede/model/Explanation", "isSupported", "()Z"⟩ : MethodName)) (z := (⟨"com/example/bede/bede/model/Explanation", "isSupported", "()Z"⟩ : MethodName)) hownh (mvT hZh (hw _ (List.mem_of_getElem? (i := 56) rfl))) (mvT hZh (hw _ (List.mem_of_getElem? (i := 57) rfl))) (notFace_of_selects (args := #[]) (mvT hZh (hw _ (List.mem_of_getElem? (i := 59) rfl)))) (mvT hZh (hw _ (List.mem_of_getElem? (i := 59) rfl))) (mvT hZh (hw _ (List.mem_of_getElem? (i := 58) rfl))) (by decide) (backOfSH (s := s) (vm0 := s.vm) (W := 0) (rmSup l Z a0 hw b124 b115 t120 kb120 ([x0, x1, x2, x3, x4, x5, x6, x7, x8, x9, x10] : List Int32) T139.heap n0 (Nat.le_trans Z0 KK141.1) G1 O2 P5 (X00.keep KK141 all0) Fe139 f143 f144 f145 f146 hp (Nat.le_of_ble_eq_true rfl) hEL wS) hZh (hw _ (List.mem_of_getElem? (i := 60) rfl)) (hw _ (List.mem_of_getElem? (i := 33) rfl)) (by decide) (by decide) hEL C140.1) q147a q147c (g := (mkF m 462 #[.val (.int p1), .val (.int p2), .val (.int p3), .val (.int p4), .val (.ref b60), .val (.ref b85), .val (.int (Int32.ofNat jp)), .val (.int c1), .val (.int c2), .val (.int (Int32.ofNat 0)), .val (.ref b85), .val (.ref b115), .val (.ref b124), .val (.int (1 : Int32))] [(.ref b124)])) rfl (by rw [hml]; rfl) (Steps.refl _) (argsL := []) (rest := []) (lenOf pd_a8ebd rfl) rfl (by show 2 * 0 + _ ≤ _; exact Nat.le_of_eq rfl) (hb hby at_462) (fun _ _ => ⟨rfl, rfl, (by decide : 7 + 2 ≤ _), (by decide : 44 + 48 ≤ _)⟩)
      dsimp only [Pt.U, Pt.locs, Pt.cells, Pt.slots] at X147 l147 y147 z147 st147 hQ147 hs147 hg147
      subst l147 y147
      obtain ⟨z147, CC147⟩ := z147
      subst z147
      obtain ⟨Nq147, Kq147, r147, rfl, hr147⟩ := hQ147
      obtain ⟨Xr147, hSr147, hZr147, hor147⟩ := rebS (s := s) (vm0 := s.vm) hS0 (by rw [(rfl : T139.heap = T139.heap)]; exact (Nat.zero_le _)) X147 hs147 hg147 hZh hownh
      have C148 : CHr Z EL s.vm h0 T147.vm T147.heap := C140.trans CC147
      have KK149 : Keep h0 T147.heap [] := KK141.trans Kq147 all0
      have NN150 := Fr.app NN142 Nq147
      refine Go.st (T' := T147.setTop (mkF m 465 #[.val (.int p1), .val (.int p2), .val (.int p3), .val (.int p4), .val (.ref b60), .val (.ref b85), .val (.int (Int32.ofNat jp)), .val (.int c1), .val (.int c2), .val (.int (Int32.ofNat 0)), .val (.ref b85), .val (.ref b115), .val (.ref b124), .val (.int (1 : Int32))] [(.int (nar .boolean r147))])) (fun t k => st147.trans k) ?_
      have hr0 : r147 = 0 := by
        rcases hr147 with ⟨q, -⟩ | ⟨-, q⟩
        · exact q
        · exact absurd ((hrel.mpr (Or.inl (by have := h440; have e := congrArg Int32.toInt this; rw [Int32.toInt_ofNat_of_lt (by omega)] at e; have e11 : (11 : Int32).toInt = 11 := rfl; omega))).symm) q
      subst hr0
      refine Go.st (T' := T147.setTop (mkF m 467 #[.val (.int p1), .val (.int p2), .val (.int p3), .val (.int p4), .val (.ref b60), .val (.ref b85), .val (.int (Int32.ofNat jp)), .val (.int c1), .val (.int c2), .val (.int (Int32.ofNat 0)), .val (.ref b85), .val (.ref b115), .val (.ref b124), .val (.int (1 : Int32))] [(.int (1 : Int32)), (.int (nar .boolean (0 : Int32)))])) (fun t k => XS.iload Xr147.here hx rfl (hb hby at_465) rfl k) ?_
      refine Go.st (T' := T147.setTop (mkF m 474 #[.val (.int p1), .val (.int p2), .val (.int p3), .val (.int p4), .val (.ref b60), .val (.ref b85), .val (.int (Int32.ofNat jp)), .val (.int c1), .val (.int c2), .val (.int (Int32.ofNat 0)), .val (.ref b85), .val (.ref b115), .val (.ref b124), .val (.int (1 : Int32))] [(.int (nar .boolean (0 : Int32)))])) (fun t k => XS.ifYes Xr147.here hx rfl (pc0 := 467) (pc' := 474) rfl (hb hby at_467) rfl ((if0 _ _).trans (feq (by decide)).2) (by decide) (by decide) k) ?_
      refine Go.st (T' := T147.setTop (mkF m 475 #[.val (.int p1), .val (.int p2), .val (.int p3), .val (.int p4), .val (.ref b60), .val (.ref b85), .val (.int (Int32.ofNat jp)), .val (.int c1), .val (.int c2), .val (.int (Int32.ofNat 0)), .val (.ref b85), .val (.ref b115), .val (.ref b124), .val (.int (1 : Int32))] [(.int (0 : Int32)), (.int (nar .boolean (0 : Int32)))])) (fun t k => XS.iconst Xr147.here hx rfl (hb hby at_474) k) ?_
      refine Go.st (T' := T147.setTop (mkF m 478 #[.val (.int p1), .val (.int p2), .val (.int p3), .val (.int p4), .val (.ref b60), .val (.ref b85), .val (.int (Int32.ofNat jp)), .val (.int c1), .val (.int c2), .val (.int (Int32.ofNat 0)), .val (.ref b85), .val (.ref b115), .val (.ref b124), .val (.int (1 : Int32))] [])) (fun t k => XS.icmpNo Xr147.here hx rfl (hb hby at_475) rfl (teq (by decide)).2 k) ?_
      refine Go.st (T' := T147.setTop (mkF m 479 #[.val (.int p1), .val (.int p2), .val (.int p3), .val (.int p4), .val (.ref b60), .val (.ref b85), .val (.int (Int32.ofNat jp)), .val (.int c1), .val (.int c2), .val (.int (Int32.ofNat 0)), .val (.ref b85), .val (.ref b115), .val (.ref b124), .val (.int (1 : Int32))] [(.int (1 : Int32))])) (fun t k => XS.iconst Xr147.here hx rfl (hb hby at_478) k) ?_
      refine Go.st (T' := T147.setTop (mkF m 483 #[.val (.int p1), .val (.int p2), .val (.int p3), .val (.int p4), .val (.ref b60), .val (.ref b85), .val (.int (Int32.ofNat jp)), .val (.int c1), .val (.int c2), .val (.int (Int32.ofNat 0)), .val (.ref b85), .val (.ref b115), .val (.ref b124), .val (.int (1 : Int32))] [(.int (1 : Int32))])) (fun t k => XS.goto Xr147.here hx rfl (pc0 := 479) (pc' := 483) rfl (hb hby at_479) (by decide) (by decide) k) ?_
      exact Go.doneH Xr147 hSr147 (by rw [(rfl : T147.heap = T147.heap)]; exact (Nat.le_refl _)) Bd.notSynchronized (v := some (.int (nar .boolean (1 : Int32)))) (fun h => by rw [Bd.returns] at h; cases h) (fun fs hr => retN Xr147 hx (t := .boolean) Bd.returns (by simp) (hb hby at_483) hr) (by rw [(rfl : T147.heap = T147.heap)]; exact ⟨rfl, NN150⟩) (by decide) (by decide) hZr147 hEL hh rfl C148
    ·
      refine Go.st (T' := T139.setTop (mkF m 443 #[.val (.int p1), .val (.int p2), .val (.int p3), .val (.int p4), .val (.ref b60), .val (.ref b85), .val (.int (Int32.ofNat jp)), .val (.int c1), .val (.int c2), .val (.int (Int32.ofNat 0)), .val (.ref b85), .val (.ref b115), .val (.ref b124), .unset] [])) (fun t k => XS.icmpNo X139.here hx rfl (hb hby at_440) rfl (feq h440).1 k) ?_
      refine Go.st (T' := T139.setTop (mkF m 445 #[.val (.int p1), .val (.int p2), .val (.int p3), .val (.int p4), .val (.ref b60), .val (.ref b85), .val (.int (Int32.ofNat jp)), .val (.int c1), .val (.int c2), .val (.int (Int32.ofNat 0)), .val (.ref b85), .val (.ref b115), .val (.ref b124), .unset] [(.int c1)])) (fun t k => XS.iload X139.here hx rfl (hb hby at_443) rfl k) ?_
      refine Go.st (T' := T139.setTop (mkF m 447 #[.val (.int p1), .val (.int p2), .val (.int p3), .val (.int p4), .val (.ref b60), .val (.ref b85), .val (.int (Int32.ofNat jp)), .val (.int c1), .val (.int c2), .val (.int (Int32.ofNat 0)), .val (.ref b85), .val (.ref b115), .val (.ref b124), .unset] [(.ref b60), (.int c1)])) (fun t k => XS.aload X139.here hx rfl (hb hby at_445) rfl rfl k) ?_
      refine Go.st (T' := T139.setTop (mkF m 449 #[.val (.int p1), .val (.int p2), .val (.int p3), .val (.int p4), .val (.ref b60), .val (.ref b85), .val (.int (Int32.ofNat jp)), .val (.int c1), .val (.int c2), .val (.int (Int32.ofNat 0)), .val (.ref b85), .val (.ref b115), .val (.ref b124), .unset] [(.int (Int32.ofNat jp)), (.ref b60), (.int c1)])) (fun t k => XS.iload X139.here hx rfl (hb hby at_447) rfl k) ?_
      have hj11 : jp < 11 := by
        have : ¬ jp = 11 := fun q => h440 (by rw [q]; rfl)
        omega
      have hT : (Int32.ofNat jp).toNatClampNeg = jp := by simp only [Int32.toNatClampNeg]; rw [Int32.toInt_ofNat_of_lt (by omega)]; rfl
      have f151 : Arv Z T139.heap b60 k60 .char (11 : Int32) [(.int (117 : Int32)), (.int (110 : Int32)), (.int (115 : Int32)), (.int (117 : Int32)), (.int (112 : Int32)), (.int (112 : Int32)), (.int (111 : Int32)), (.int (114 : Int32)), (.int (116 : Int32)), (.int (101 : Int32)), (.int (100 : Int32))] (.int (0 : Int32)) := (((f125.ext E124).keep Kq132 nin0).keep Kq139 (ninS ne126 nin0))
      obtain ⟨cl152, Ar152, q152, S152, M152, H152, G152⟩ := id f151
      have hin152 := ((inb_of S152 ⟨by rw [Int32.lt_iff_toInt_lt, Int32.toInt_ofNat_of_lt (by omega)]; show ¬ ((jp : Nat) : Int) < 0; omega, hdj.mp hj11⟩) : ¬ ((Int32.ofNat jp) < 0 ∨ cl152.slots.size ≤ ((Int32.ofNat jp)).toNatClampNeg))
      refine Go.st (T' := T139.setTop (mkF m 450 #[.val (.int p1), .val (.int p2), .val (.int p3), .val (.int p4), .val (.ref b60), .val (.ref b85), .val (.int (Int32.ofNat jp)), .val (.int c1), .val (.int c2), .val (.int (Int32.ofNat 0)), .val (.ref b85), .val (.ref b115), .val (.ref b124), .unset] [(.int (own_U.getD jp 0)), (.int c1)])) (fun t k => X139.caload hx (j := (Int32.ofNat jp)) (v := (.int (own_U.getD jp 0))) (by rw [(rfl : T139.heap = T139.heap)]; exact Ar152.1) (State.isArrayOf_alike hZh.alike Ar152.2.1) Ar152.2.2 hin152 (H152.at hin152 (by rw [hT]; exact own_at jp)) (g := (mkF m 449 #[.val (.int p1), .val (.int p2), .val (.int p3), .val (.int p4), .val (.ref b60), .val (.ref b85), .val (.int (Int32.ofNat jp)), .val (.int c1), .val (.int c2), .val (.int (Int32.ofNat 0)), .val (.ref b85), .val (.ref b115), .val (.ref b124), .unset] [(.int (Int32.ofNat jp)), (.ref b60), (.int c1)])) rfl rfl (hb hby at_449) t k) ?_
      by_cases h450 : c1 = (own_U.getD jp 0)
      ·
        refine Go.st (T' := T139.setTop (mkF m 453 #[.val (.int p1), .val (.int p2), .val (.int p3), .val (.int p4), .val (.ref b60), .val (.ref b85), .val (.int (Int32.ofNat jp)), .val (.int c1), .val (.int c2), .val (.int (Int32.ofNat 0)), .val (.ref b85), .val (.ref b115), .val (.ref b124), .unset] [])) (fun t k => XS.icmpNo X139.here hx rfl (hb hby at_450) rfl (teq h450).2 k) ?_
        refine Go.st (T' := T139.setTop (mkF m 454 #[.val (.int p1), .val (.int p2), .val (.int p3), .val (.int p4), .val (.ref b60), .val (.ref b85), .val (.int (Int32.ofNat jp)), .val (.int c1), .val (.int c2), .val (.int (Int32.ofNat 0)), .val (.ref b85), .val (.ref b115), .val (.ref b124), .unset] [(.int (1 : Int32))])) (fun t k => XS.iconst X139.here hx rfl (hb hby at_453) k) ?_
        refine Go.st (T' := T139.setTop (mkF m 458 #[.val (.int p1), .val (.int p2), .val (.int p3), .val (.int p4), .val (.ref b60), .val (.ref b85), .val (.int (Int32.ofNat jp)), .val (.int c1), .val (.int c2), .val (.int (Int32.ofNat 0)), .val (.ref b85), .val (.ref b115), .val (.ref b124), .unset] [(.int (1 : Int32))])) (fun t k => XS.goto X139.here hx rfl (pc0 := 454) (pc' := 458) rfl (hb hby at_454) (by decide) (by decide) k) ?_
        refine Go.st (T' := T139.setTop (mkF m 460 #[.val (.int p1), .val (.int p2), .val (.int p3), .val (.int p4), .val (.ref b60), .val (.ref b85), .val (.int (Int32.ofNat jp)), .val (.int c1), .val (.int c2), .val (.int (Int32.ofNat 0)), .val (.ref b85), .val (.ref b115), .val (.ref b124), .val (.int (1 : Int32))] [])) (fun t k => XS.istore X139.here hx rfl (hb hby at_458) rfl (l' := #[.val (.int p1), .val (.int p2), .val (.int p3), .val (.int p4), .val (.ref b60), .val (.ref b85), .val (.int (Int32.ofNat jp)), .val (.int c1), .val (.int c2), .val (.int (Int32.ofNat 0)), .val (.ref b85), .val (.ref b115), .val (.ref b124), .val (.int (1 : Int32))]) rfl k) ?_
        refine Go.st (T' := T139.setTop (mkF m 462 #[.val (.int p1), .val (.int p2), .val (.int p3), .val (.int p4), .val (.ref b60), .val (.ref b85), .val (.int (Int32.ofNat jp)), .val (.int c1), .val (.int c2), .val (.int (Int32.ofNat 0)), .val (.ref b85), .val (.ref b115), .val (.ref b124), .val (.int (1 : Int32))] [(.ref b124)])) (fun t k => XS.aload X139.here hx rfl (hb hby at_460) rfl rfl k) ?_
        have f153 : Exa Z T139.heap b115 "java/lang/String" := (((Eq120.ext E124).keep Kq132).keep Kq139)
        have f154 : Fld Z T139.heap b115 "java/lang/String" "value" "[B" (.ref t120) := (((Vq120.ext E124).keep Kq132 nin0).keep Kq139 (ninS ne129 nin0))
        have f155 : Fld Z T139.heap b115 "java/lang/String" "coder" "B" (.int (0 : Int32)) := (((Cq120.ext E124).keep Kq132 nin0).keep Kq139 (ninS ne129 nin0))
        have f156 : Arv Z T139.heap t120 kb120 .byte (Int32.ofNat (([x0, x1, x2, x3, x4, x5, x6, x7, x8, x9, x10] : List Int32)).length) (((([x0, x1, x2, x3, x4, x5, x6, x7, x8, x9, x10] : List Int32)).map (fun c => c.toInt8.toInt32)).map Value.int) (.int (0 : Int32)) := (((Bq120.ext E124).keep Kq132 nin0).keep Kq139 (ninS ne130 nin0))
        obtain ⟨cq157, kq157, q157a, q157b, q157c⟩ := isOf hZh rfl Eq139
        obtain ⟨vr157, _, ⟨T157, L157, k157, n157⟩, -, X157, hs157, hg157, ⟨Lc157, hQ157, l157, y157, z157⟩, st157⟩ := X139.virtualBackS hx (y := (⟨"com/example/bede/bede/model/Explanation", "isSupported", "()Z"⟩ : MethodName)) (z := (⟨"com/example/bede/bede/model/Explanation", "isSupported", "()Z"⟩ : MethodName)) hownh (mvT hZh (hw _ (List.mem_of_getElem? (i := 56) rfl))) (mvT hZh (hw _ (List.mem_of_getElem? (i := 57) rfl))) (notFace_of_selects (args := #[]) (mvT hZh (hw _ (List.mem_of_getElem? (i := 59) rfl)))) (mvT hZh (hw _ (List.mem_of_getElem? (i := 59) rfl))) (mvT hZh (hw _ (List.mem_of_getElem? (i := 58) rfl))) (by decide) (backOfSH (s := s) (vm0 := s.vm) (W := 0) (rmSup l Z a0 hw b124 b115 t120 kb120 ([x0, x1, x2, x3, x4, x5, x6, x7, x8, x9, x10] : List Int32) T139.heap n0 (Nat.le_trans Z0 KK141.1) G1 O2 P5 (X00.keep KK141 all0) Fe139 f153 f154 f155 f156 hp (Nat.le_of_ble_eq_true rfl) hEL wS) hZh (hw _ (List.mem_of_getElem? (i := 60) rfl)) (hw _ (List.mem_of_getElem? (i := 33) rfl)) (by decide) (by decide) hEL C140.1) q157a q157c (g := (mkF m 462 #[.val (.int p1), .val (.int p2), .val (.int p3), .val (.int p4), .val (.ref b60), .val (.ref b85), .val (.int (Int32.ofNat jp)), .val (.int c1), .val (.int c2), .val (.int (Int32.ofNat 0)), .val (.ref b85), .val (.ref b115), .val (.ref b124), .val (.int (1 : Int32))] [(.ref b124)])) rfl (by rw [hml]; rfl) (Steps.refl _) (argsL := []) (rest := []) (lenOf pd_a8ebd rfl) rfl (by show 2 * 0 + _ ≤ _; exact Nat.le_of_eq rfl) (hb hby at_462) (fun _ _ => ⟨rfl, rfl, (by decide : 7 + 2 ≤ _), (by decide : 44 + 48 ≤ _)⟩)
        dsimp only [Pt.U, Pt.locs, Pt.cells, Pt.slots] at X157 l157 y157 z157 st157 hQ157 hs157 hg157
        subst l157 y157
        obtain ⟨z157, CC157⟩ := z157
        subst z157
        obtain ⟨Nq157, Kq157, r157, rfl, hr157⟩ := hQ157
        obtain ⟨Xr157, hSr157, hZr157, hor157⟩ := rebS (s := s) (vm0 := s.vm) hS0 (by rw [(rfl : T139.heap = T139.heap)]; exact (Nat.zero_le _)) X157 hs157 hg157 hZh hownh
        have C158 : CHr Z EL s.vm h0 T157.vm T157.heap := C140.trans CC157
        have KK159 : Keep h0 T157.heap [] := KK141.trans Kq157 all0
        have NN160 := Fr.app NN142 Nq157
        refine Go.st (T' := T157.setTop (mkF m 465 #[.val (.int p1), .val (.int p2), .val (.int p3), .val (.int p4), .val (.ref b60), .val (.ref b85), .val (.int (Int32.ofNat jp)), .val (.int c1), .val (.int c2), .val (.int (Int32.ofNat 0)), .val (.ref b85), .val (.ref b115), .val (.ref b124), .val (.int (1 : Int32))] [(.int (nar .boolean r157))])) (fun t k => st157.trans k) ?_
        have hr0 : r157 = 0 := by
          rcases hr157 with ⟨q, -⟩ | ⟨-, q⟩
          · exact q
          · exact absurd ((hrel.mpr (Or.inr h450.symm)).symm) q
        subst hr0
        refine Go.st (T' := T157.setTop (mkF m 467 #[.val (.int p1), .val (.int p2), .val (.int p3), .val (.int p4), .val (.ref b60), .val (.ref b85), .val (.int (Int32.ofNat jp)), .val (.int c1), .val (.int c2), .val (.int (Int32.ofNat 0)), .val (.ref b85), .val (.ref b115), .val (.ref b124), .val (.int (1 : Int32))] [(.int (1 : Int32)), (.int (nar .boolean (0 : Int32)))])) (fun t k => XS.iload Xr157.here hx rfl (hb hby at_465) rfl k) ?_
        refine Go.st (T' := T157.setTop (mkF m 474 #[.val (.int p1), .val (.int p2), .val (.int p3), .val (.int p4), .val (.ref b60), .val (.ref b85), .val (.int (Int32.ofNat jp)), .val (.int c1), .val (.int c2), .val (.int (Int32.ofNat 0)), .val (.ref b85), .val (.ref b115), .val (.ref b124), .val (.int (1 : Int32))] [(.int (nar .boolean (0 : Int32)))])) (fun t k => XS.ifYes Xr157.here hx rfl (pc0 := 467) (pc' := 474) rfl (hb hby at_467) rfl ((if0 _ _).trans (feq (by decide)).2) (by decide) (by decide) k) ?_
        refine Go.st (T' := T157.setTop (mkF m 475 #[.val (.int p1), .val (.int p2), .val (.int p3), .val (.int p4), .val (.ref b60), .val (.ref b85), .val (.int (Int32.ofNat jp)), .val (.int c1), .val (.int c2), .val (.int (Int32.ofNat 0)), .val (.ref b85), .val (.ref b115), .val (.ref b124), .val (.int (1 : Int32))] [(.int (0 : Int32)), (.int (nar .boolean (0 : Int32)))])) (fun t k => XS.iconst Xr157.here hx rfl (hb hby at_474) k) ?_
        refine Go.st (T' := T157.setTop (mkF m 478 #[.val (.int p1), .val (.int p2), .val (.int p3), .val (.int p4), .val (.ref b60), .val (.ref b85), .val (.int (Int32.ofNat jp)), .val (.int c1), .val (.int c2), .val (.int (Int32.ofNat 0)), .val (.ref b85), .val (.ref b115), .val (.ref b124), .val (.int (1 : Int32))] [])) (fun t k => XS.icmpNo Xr157.here hx rfl (hb hby at_475) rfl (teq (by decide)).2 k) ?_
        refine Go.st (T' := T157.setTop (mkF m 479 #[.val (.int p1), .val (.int p2), .val (.int p3), .val (.int p4), .val (.ref b60), .val (.ref b85), .val (.int (Int32.ofNat jp)), .val (.int c1), .val (.int c2), .val (.int (Int32.ofNat 0)), .val (.ref b85), .val (.ref b115), .val (.ref b124), .val (.int (1 : Int32))] [(.int (1 : Int32))])) (fun t k => XS.iconst Xr157.here hx rfl (hb hby at_478) k) ?_
        refine Go.st (T' := T157.setTop (mkF m 483 #[.val (.int p1), .val (.int p2), .val (.int p3), .val (.int p4), .val (.ref b60), .val (.ref b85), .val (.int (Int32.ofNat jp)), .val (.int c1), .val (.int c2), .val (.int (Int32.ofNat 0)), .val (.ref b85), .val (.ref b115), .val (.ref b124), .val (.int (1 : Int32))] [(.int (1 : Int32))])) (fun t k => XS.goto Xr157.here hx rfl (pc0 := 479) (pc' := 483) rfl (hb hby at_479) (by decide) (by decide) k) ?_
        exact Go.doneH Xr157 hSr157 (by rw [(rfl : T157.heap = T157.heap)]; exact (Nat.le_refl _)) Bd.notSynchronized (v := some (.int (nar .boolean (1 : Int32)))) (fun h => by rw [Bd.returns] at h; cases h) (fun fs hr => retN Xr157 hx (t := .boolean) Bd.returns (by simp) (hb hby at_483) hr) (by rw [(rfl : T157.heap = T157.heap)]; exact ⟨rfl, NN160⟩) (by decide) (by decide) hZr157 hEL hh rfl C158
      ·
        refine Go.st (T' := T139.setTop (mkF m 457 #[.val (.int p1), .val (.int p2), .val (.int p3), .val (.int p4), .val (.ref b60), .val (.ref b85), .val (.int (Int32.ofNat jp)), .val (.int c1), .val (.int c2), .val (.int (Int32.ofNat 0)), .val (.ref b85), .val (.ref b115), .val (.ref b124), .unset] [])) (fun t k => XS.icmpYes X139.here hx rfl (pc0 := 450) (pc' := 457) rfl (hb hby at_450) rfl (feq h450).2 (by decide) (by decide) k) ?_
        refine Go.st (T' := T139.setTop (mkF m 458 #[.val (.int p1), .val (.int p2), .val (.int p3), .val (.int p4), .val (.ref b60), .val (.ref b85), .val (.int (Int32.ofNat jp)), .val (.int c1), .val (.int c2), .val (.int (Int32.ofNat 0)), .val (.ref b85), .val (.ref b115), .val (.ref b124), .unset] [(.int (0 : Int32))])) (fun t k => XS.iconst X139.here hx rfl (hb hby at_457) k) ?_
        refine Go.st (T' := T139.setTop (mkF m 460 #[.val (.int p1), .val (.int p2), .val (.int p3), .val (.int p4), .val (.ref b60), .val (.ref b85), .val (.int (Int32.ofNat jp)), .val (.int c1), .val (.int c2), .val (.int (Int32.ofNat 0)), .val (.ref b85), .val (.ref b115), .val (.ref b124), .val (.int (0 : Int32))] [])) (fun t k => XS.istore X139.here hx rfl (hb hby at_458) rfl (l' := #[.val (.int p1), .val (.int p2), .val (.int p3), .val (.int p4), .val (.ref b60), .val (.ref b85), .val (.int (Int32.ofNat jp)), .val (.int c1), .val (.int c2), .val (.int (Int32.ofNat 0)), .val (.ref b85), .val (.ref b115), .val (.ref b124), .val (.int (0 : Int32))]) rfl k) ?_
        refine Go.st (T' := T139.setTop (mkF m 462 #[.val (.int p1), .val (.int p2), .val (.int p3), .val (.int p4), .val (.ref b60), .val (.ref b85), .val (.int (Int32.ofNat jp)), .val (.int c1), .val (.int c2), .val (.int (Int32.ofNat 0)), .val (.ref b85), .val (.ref b115), .val (.ref b124), .val (.int (0 : Int32))] [(.ref b124)])) (fun t k => XS.aload X139.here hx rfl (hb hby at_460) rfl rfl k) ?_
        have f161 : Exa Z T139.heap b115 "java/lang/String" := (((Eq120.ext E124).keep Kq132).keep Kq139)
        have f162 : Fld Z T139.heap b115 "java/lang/String" "value" "[B" (.ref t120) := (((Vq120.ext E124).keep Kq132 nin0).keep Kq139 (ninS ne129 nin0))
        have f163 : Fld Z T139.heap b115 "java/lang/String" "coder" "B" (.int (0 : Int32)) := (((Cq120.ext E124).keep Kq132 nin0).keep Kq139 (ninS ne129 nin0))
        have f164 : Arv Z T139.heap t120 kb120 .byte (Int32.ofNat (([x0, x1, x2, x3, x4, x5, x6, x7, x8, x9, x10] : List Int32)).length) (((([x0, x1, x2, x3, x4, x5, x6, x7, x8, x9, x10] : List Int32)).map (fun c => c.toInt8.toInt32)).map Value.int) (.int (0 : Int32)) := (((Bq120.ext E124).keep Kq132 nin0).keep Kq139 (ninS ne130 nin0))
        obtain ⟨cq165, kq165, q165a, q165b, q165c⟩ := isOf hZh rfl Eq139
        obtain ⟨vr165, _, ⟨T165, L165, k165, n165⟩, -, X165, hs165, hg165, ⟨Lc165, hQ165, l165, y165, z165⟩, st165⟩ := X139.virtualBackS hx (y := (⟨"com/example/bede/bede/model/Explanation", "isSupported", "()Z"⟩ : MethodName)) (z := (⟨"com/example/bede/bede/model/Explanation", "isSupported", "()Z"⟩ : MethodName)) hownh (mvT hZh (hw _ (List.mem_of_getElem? (i := 56) rfl))) (mvT hZh (hw _ (List.mem_of_getElem? (i := 57) rfl))) (notFace_of_selects (args := #[]) (mvT hZh (hw _ (List.mem_of_getElem? (i := 59) rfl)))) (mvT hZh (hw _ (List.mem_of_getElem? (i := 59) rfl))) (mvT hZh (hw _ (List.mem_of_getElem? (i := 58) rfl))) (by decide) (backOfSH (s := s) (vm0 := s.vm) (W := 0) (rmSup l Z a0 hw b124 b115 t120 kb120 ([x0, x1, x2, x3, x4, x5, x6, x7, x8, x9, x10] : List Int32) T139.heap n0 (Nat.le_trans Z0 KK141.1) G1 O2 P5 (X00.keep KK141 all0) Fe139 f161 f162 f163 f164 hp (Nat.le_of_ble_eq_true rfl) hEL wS) hZh (hw _ (List.mem_of_getElem? (i := 60) rfl)) (hw _ (List.mem_of_getElem? (i := 33) rfl)) (by decide) (by decide) hEL C140.1) q165a q165c (g := (mkF m 462 #[.val (.int p1), .val (.int p2), .val (.int p3), .val (.int p4), .val (.ref b60), .val (.ref b85), .val (.int (Int32.ofNat jp)), .val (.int c1), .val (.int c2), .val (.int (Int32.ofNat 0)), .val (.ref b85), .val (.ref b115), .val (.ref b124), .val (.int (0 : Int32))] [(.ref b124)])) rfl (by rw [hml]; rfl) (Steps.refl _) (argsL := []) (rest := []) (lenOf pd_a8ebd rfl) rfl (by show 2 * 0 + _ ≤ _; exact Nat.le_of_eq rfl) (hb hby at_462) (fun _ _ => ⟨rfl, rfl, (by decide : 7 + 2 ≤ _), (by decide : 44 + 48 ≤ _)⟩)
        dsimp only [Pt.U, Pt.locs, Pt.cells, Pt.slots] at X165 l165 y165 z165 st165 hQ165 hs165 hg165
        subst l165 y165
        obtain ⟨z165, CC165⟩ := z165
        subst z165
        obtain ⟨Nq165, Kq165, r165, rfl, hr165⟩ := hQ165
        obtain ⟨Xr165, hSr165, hZr165, hor165⟩ := rebS (s := s) (vm0 := s.vm) hS0 (by rw [(rfl : T139.heap = T139.heap)]; exact (Nat.zero_le _)) X165 hs165 hg165 hZh hownh
        have C166 : CHr Z EL s.vm h0 T165.vm T165.heap := C140.trans CC165
        have KK167 : Keep h0 T165.heap [] := KK141.trans Kq165 all0
        have NN168 := Fr.app NN142 Nq165
        refine Go.st (T' := T165.setTop (mkF m 465 #[.val (.int p1), .val (.int p2), .val (.int p3), .val (.int p4), .val (.ref b60), .val (.ref b85), .val (.int (Int32.ofNat jp)), .val (.int c1), .val (.int c2), .val (.int (Int32.ofNat 0)), .val (.ref b85), .val (.ref b115), .val (.ref b124), .val (.int (0 : Int32))] [(.int (nar .boolean r165))])) (fun t k => st165.trans k) ?_
        have hr0 : r165 = 1 := by
          rcases hr165 with ⟨-, q⟩ | ⟨q, -⟩
          · exact absurd q (fun q => (hrel.mp q.symm).elim (fun z => absurd z (by omega)) fun z => h450 z.symm)
          · exact q
        subst hr0
        refine Go.st (T' := T165.setTop (mkF m 467 #[.val (.int p1), .val (.int p2), .val (.int p3), .val (.int p4), .val (.ref b60), .val (.ref b85), .val (.int (Int32.ofNat jp)), .val (.int c1), .val (.int c2), .val (.int (Int32.ofNat 0)), .val (.ref b85), .val (.ref b115), .val (.ref b124), .val (.int (0 : Int32))] [(.int (0 : Int32)), (.int (nar .boolean (1 : Int32)))])) (fun t k => XS.iload Xr165.here hx rfl (hb hby at_465) rfl k) ?_
        refine Go.st (T' := T165.setTop (mkF m 470 #[.val (.int p1), .val (.int p2), .val (.int p3), .val (.int p4), .val (.ref b60), .val (.ref b85), .val (.int (Int32.ofNat jp)), .val (.int c1), .val (.int c2), .val (.int (Int32.ofNat 0)), .val (.ref b85), .val (.ref b115), .val (.ref b124), .val (.int (0 : Int32))] [(.int (nar .boolean (1 : Int32)))])) (fun t k => XS.ifNo Xr165.here hx rfl (hb hby at_467) rfl ((if0 _ _).trans (teq (by decide)).2) k) ?_
        refine Go.st (T' := T165.setTop (mkF m 471 #[.val (.int p1), .val (.int p2), .val (.int p3), .val (.int p4), .val (.ref b60), .val (.ref b85), .val (.int (Int32.ofNat jp)), .val (.int c1), .val (.int c2), .val (.int (Int32.ofNat 0)), .val (.ref b85), .val (.ref b115), .val (.ref b124), .val (.int (0 : Int32))] [(.int (1 : Int32)), (.int (nar .boolean (1 : Int32)))])) (fun t k => XS.iconst Xr165.here hx rfl (hb hby at_470) k) ?_
        refine Go.st (T' := T165.setTop (mkF m 475 #[.val (.int p1), .val (.int p2), .val (.int p3), .val (.int p4), .val (.ref b60), .val (.ref b85), .val (.int (Int32.ofNat jp)), .val (.int c1), .val (.int c2), .val (.int (Int32.ofNat 0)), .val (.ref b85), .val (.ref b115), .val (.ref b124), .val (.int (0 : Int32))] [(.int (1 : Int32)), (.int (nar .boolean (1 : Int32)))])) (fun t k => XS.goto Xr165.here hx rfl (pc0 := 471) (pc' := 475) rfl (hb hby at_471) (by decide) (by decide) k) ?_
        refine Go.st (T' := T165.setTop (mkF m 478 #[.val (.int p1), .val (.int p2), .val (.int p3), .val (.int p4), .val (.ref b60), .val (.ref b85), .val (.int (Int32.ofNat jp)), .val (.int c1), .val (.int c2), .val (.int (Int32.ofNat 0)), .val (.ref b85), .val (.ref b115), .val (.ref b124), .val (.int (0 : Int32))] [])) (fun t k => XS.icmpNo Xr165.here hx rfl (hb hby at_475) rfl (teq (by decide)).2 k) ?_
        refine Go.st (T' := T165.setTop (mkF m 479 #[.val (.int p1), .val (.int p2), .val (.int p3), .val (.int p4), .val (.ref b60), .val (.ref b85), .val (.int (Int32.ofNat jp)), .val (.int c1), .val (.int c2), .val (.int (Int32.ofNat 0)), .val (.ref b85), .val (.ref b115), .val (.ref b124), .val (.int (0 : Int32))] [(.int (1 : Int32))])) (fun t k => XS.iconst Xr165.here hx rfl (hb hby at_478) k) ?_
        refine Go.st (T' := T165.setTop (mkF m 483 #[.val (.int p1), .val (.int p2), .val (.int p3), .val (.int p4), .val (.ref b60), .val (.ref b85), .val (.int (Int32.ofNat jp)), .val (.int c1), .val (.int c2), .val (.int (Int32.ofNat 0)), .val (.ref b85), .val (.ref b115), .val (.ref b124), .val (.int (0 : Int32))] [(.int (1 : Int32))])) (fun t k => XS.goto Xr165.here hx rfl (pc0 := 479) (pc' := 483) rfl (hb hby at_479) (by decide) (by decide) k) ?_
        exact Go.doneH Xr165 hSr165 (by rw [(rfl : T165.heap = T165.heap)]; exact (Nat.le_refl _)) Bd.notSynchronized (v := some (.int (nar .boolean (1 : Int32)))) (fun h => by rw [Bd.returns] at h; cases h) (fun fs hr => retN Xr165 hx (t := .boolean) Bd.returns (by simp) (hb hby at_483) hr) (by rw [(rfl : T165.heap = T165.heap)]; exact ⟨rfl, NN168⟩) (by decide) (by decide) hZr165 hEL hh rfl C166
  ·
    refine Go.st (T' := T1.setTop (mkF m 194 #[.val (.int p1), .val (.int p2), .val (.int p3), .val (.int p4), .val (.ref b60), .val (.ref b85), .val (.int (Int32.ofNat jp)), .val (.int c1), .val (.int c2), .val (.int (Int32.ofNat 1)), .unset, .unset, .unset, .unset] [])) (fun t k => XS.ifYes X1.here hx rfl (pc0 := 184) (pc' := 194) rfl (hb hby at_184) rfl ((if0 _ _).trans (feq (by decide)).2) (by decide) (by decide) k) ?_
    refine Go.st (T' := T1.setTop (mkF m 196 #[.val (.int p1), .val (.int p2), .val (.int p3), .val (.int p4), .val (.ref b60), .val (.ref b85), .val (.int (Int32.ofNat jp)), .val (.int c1), .val (.int c2), .val (.int (Int32.ofNat 1)), .unset, .unset, .unset, .unset] [(.int (Int32.ofNat 1))])) (fun t k => XS.iload X1.here hx rfl (hb hby at_194) rfl k) ?_
    refine Go.st (T' := T1.setTop (mkF m 197 #[.val (.int p1), .val (.int p2), .val (.int p3), .val (.int p4), .val (.ref b60), .val (.ref b85), .val (.int (Int32.ofNat jp)), .val (.int c1), .val (.int c2), .val (.int (Int32.ofNat 1)), .unset, .unset, .unset, .unset] [(.int (1 : Int32)), (.int (Int32.ofNat 1))])) (fun t k => XS.iconst X1.here hx rfl (hb hby at_196) k) ?_
    refine Go.st (T' := T1.setTop (mkF m 200 #[.val (.int p1), .val (.int p2), .val (.int p3), .val (.int p4), .val (.ref b60), .val (.ref b85), .val (.int (Int32.ofNat jp)), .val (.int c1), .val (.int c2), .val (.int (Int32.ofNat 1)), .unset, .unset, .unset, .unset] [])) (fun t k => XS.icmpNo X1.here hx rfl (hb hby at_197) rfl (teq (by decide)).2 k) ?_
    refine Go.st (T' := T1.setTop (mkF m 202 #[.val (.int p1), .val (.int p2), .val (.int p3), .val (.int p4), .val (.ref b60), .val (.ref b85), .val (.int (Int32.ofNat jp)), .val (.int c1), .val (.int c2), .val (.int (Int32.ofNat 1)), .unset, .unset, .unset, .unset] [(.int (10 : Int32))])) (fun t k => XS.bipush X1.here hx rfl (hb hby at_200) k) ?_
    obtain ⟨T169, h169, k169, X169, e169, E169, A169, st169⟩ := newP X1 hx hZh (hw _ (List.mem_of_getElem? (i := 0) rfl)) e1 (g := (mkF m 202 #[.val (.int p1), .val (.int p2), .val (.int p3), .val (.int p4), .val (.ref b60), .val (.ref b85), .val (.int (Int32.ofNat jp)), .val (.int c1), .val (.int c2), .val (.int (Int32.ofNat 1)), .unset, .unset, .unset, .unset] [(.int (10 : Int32))])) rfl (hb hby at_202) rfl (by decide) (cap := 10) (by decide) (by decide) (by decide) (by decide)
    obtain ⟨b169, g169⟩ : ∃ z, z = h1.size := ⟨_, rfl⟩
    rw [← g169] at A169 st169
    have g_b169 : n0 ≤ b169 := Nat.le_trans (Nat.le_trans Z0 K1.1) (Nat.le_of_eq g169.symm)
    have sz_b169 : h0.size ≤ b169 := Nat.le_trans K1.1 (Nat.le_of_eq g169.symm)
    have ne170 : b60 ≠ b169 := Nat.ne_of_lt (Nat.lt_of_lt_of_le Vb1.lt (Nat.le_of_eq g169.symm))
    have ne171 : b85 ≠ b169 := Nat.ne_of_lt (Nat.lt_of_lt_of_le Va1.lt (Nat.le_of_eq g169.symm))
    have C172 : CHr Z EL s.vm h0 s.vm h169 := C1.trans (CHr.ext E169 C1.1)
    have K169 : Keep h0 h169 [] := K1.ext E169
    have V169 : Arv Z h169 b169 k169 .char (10 : Int32) [(.int (0 : Int32)), (.int (0 : Int32)), (.int (0 : Int32)), (.int (0 : Int32)), (.int (0 : Int32)), (.int (0 : Int32)), (.int (0 : Int32)), (.int (0 : Int32)), (.int (0 : Int32)), (.int (0 : Int32))] (.int (0 : Int32)) := (Arv.new A169 (by decide)).pad (pad_rep [] (.int (0 : Int32)) 10)
    refine Go.st (T' := T169.setTop (mkF m 204 #[.val (.int p1), .val (.int p2), .val (.int p3), .val (.int p4), .val (.ref b60), .val (.ref b85), .val (.int (Int32.ofNat jp)), .val (.int c1), .val (.int c2), .val (.int (Int32.ofNat 1)), .unset, .unset, .unset, .unset] [(.ref b169)])) (fun t k => st169 t k) ?_
    refine Go.st (T' := T169.setTop (mkF m 205 #[.val (.int p1), .val (.int p2), .val (.int p3), .val (.int p4), .val (.ref b60), .val (.ref b85), .val (.int (Int32.ofNat jp)), .val (.int c1), .val (.int c2), .val (.int (Int32.ofNat 1)), .unset, .unset, .unset, .unset] [(.ref b169), (.ref b169)])) (fun t k => XS.dup X169.here hx rfl (hb hby at_204) rfl rfl k) ?_
    refine Go.st (T' := T169.setTop (mkF m 206 #[.val (.int p1), .val (.int p2), .val (.int p3), .val (.int p4), .val (.ref b60), .val (.ref b85), .val (.int (Int32.ofNat jp)), .val (.int c1), .val (.int c2), .val (.int (Int32.ofNat 1)), .unset, .unset, .unset, .unset] [(.int (0 : Int32)), (.ref b169), (.ref b169)])) (fun t k => XS.iconst X169.here hx rfl (hb hby at_205) k) ?_
    refine Go.st (T' := T169.setTop (mkF m 208 #[.val (.int p1), .val (.int p2), .val (.int p3), .val (.int p4), .val (.ref b60), .val (.ref b85), .val (.int (Int32.ofNat jp)), .val (.int c1), .val (.int c2), .val (.int (Int32.ofNat 1)), .unset, .unset, .unset, .unset] [(.ref b85), (.int (0 : Int32)), (.ref b169), (.ref b169)])) (fun t k => XS.aload X169.here hx rfl (hb hby at_206) rfl rfl k) ?_
    refine Go.st (T' := T169.setTop (mkF m 209 #[.val (.int p1), .val (.int p2), .val (.int p3), .val (.int p4), .val (.ref b60), .val (.ref b85), .val (.int (Int32.ofNat jp)), .val (.int c1), .val (.int c2), .val (.int (Int32.ofNat 1)), .unset, .unset, .unset, .unset] [(.int (0 : Int32)), (.ref b85), (.int (0 : Int32)), (.ref b169), (.ref b169)])) (fun t k => XS.iconst X169.here hx rfl (hb hby at_208) k) ?_
    have f173 : Arv Z h169 b85 k85 .char (11 : Int32) [(.int x0), (.int x1), (.int x2), (.int x3), (.int x4), (.int x5), (.int x6), (.int x7), (.int x8), (.int x9), (.int x10)] (.int (0 : Int32)) := (Va1.ext E169)
    obtain ⟨cl174, Ar174, q174, S174, M174, H174, G174⟩ := id f173
    have hin174 := ((inb_of S174 ⟨by decide, by decide⟩) : ¬ ((0 : Int32) < 0 ∨ cl174.slots.size ≤ ((0 : Int32)).toNatClampNeg))
    refine Go.st (T' := T169.setTop (mkF m 210 #[.val (.int p1), .val (.int p2), .val (.int p3), .val (.int p4), .val (.ref b60), .val (.ref b85), .val (.int (Int32.ofNat jp)), .val (.int c1), .val (.int c2), .val (.int (Int32.ofNat 1)), .unset, .unset, .unset, .unset] [(.int x0), (.int (0 : Int32)), (.ref b169), (.ref b169)])) (fun t k => X169.caload hx (j := (0 : Int32)) (v := (.int x0)) (by rw [e169]; exact Ar174.1) (State.isArrayOf_alike hZh.alike Ar174.2.1) Ar174.2.2 hin174 (H174.at hin174 rfl) (g := (mkF m 209 #[.val (.int p1), .val (.int p2), .val (.int p3), .val (.int p4), .val (.ref b60), .val (.ref b85), .val (.int (Int32.ofNat jp)), .val (.int c1), .val (.int c2), .val (.int (Int32.ofNat 1)), .unset, .unset, .unset, .unset] [(.int (0 : Int32)), (.ref b85), (.int (0 : Int32)), (.ref b169), (.ref b169)])) rfl rfl (hb hby at_209) t k) ?_
    obtain ⟨cl175, Ar175, q175, S175, M175, H175, G175⟩ := id V169
    obtain ⟨T175, h175, X175, e175, W175, st175⟩ := stC X169 hx hZh e169 Ar175 (j := (0 : Int32)) (inb_of S175 ⟨by decide, by decide⟩) (g := (mkF m 210 #[.val (.int p1), .val (.int p2), .val (.int p3), .val (.int p4), .val (.ref b60), .val (.ref b85), .val (.int (Int32.ofNat jp)), .val (.int c1), .val (.int c2), .val (.int (Int32.ofNat 1)), .unset, .unset, .unset, .unset] [(.int x0), (.int (0 : Int32)), (.ref b169), (.ref b169)])) rfl rfl (hb hby at_210)
    have C176 : CHr Z EL s.vm h0 s.vm h175 := C172.trans (CHr.wr W175 (by obtain ⟨_, A_, _⟩ := id V169; exact Safe.arr hZh.alike A_ (by decide)) C172.1)
    have V175 : Arv Z h175 b169 k169 .char (10 : Int32) [(.int (nar .char x0)), (.int (0 : Int32)), (.int (0 : Int32)), (.int (0 : Int32)), (.int (0 : Int32)), (.int (0 : Int32)), (.int (0 : Int32)), (.int (0 : Int32)), (.int (0 : Int32)), (.int (0 : Int32))] (.int (0 : Int32)) := Arv.set Ar175 q175 S175 M175 H175 G175 (fits_nar_char _) W175 0 rfl (Nat.le_of_ble_eq_true rfl)
    have K175 : Keep h0 h175 [] := K169.wr W175 (Or.inr sz_b169)
    have N175 := Fr.snoc X175 N1 g_b169
    refine Go.st (T' := T175.setTop (mkF m 211 #[.val (.int p1), .val (.int p2), .val (.int p3), .val (.int p4), .val (.ref b60), .val (.ref b85), .val (.int (Int32.ofNat jp)), .val (.int c1), .val (.int c2), .val (.int (Int32.ofNat 1)), .unset, .unset, .unset, .unset] [(.ref b169)])) (fun t k => st175 t k) ?_
    refine Go.st (T' := T175.setTop (mkF m 212 #[.val (.int p1), .val (.int p2), .val (.int p3), .val (.int p4), .val (.ref b60), .val (.ref b85), .val (.int (Int32.ofNat jp)), .val (.int c1), .val (.int c2), .val (.int (Int32.ofNat 1)), .unset, .unset, .unset, .unset] [(.ref b169), (.ref b169)])) (fun t k => XS.dup X175.here hx rfl (hb hby at_211) rfl rfl k) ?_
    refine Go.st (T' := T175.setTop (mkF m 213 #[.val (.int p1), .val (.int p2), .val (.int p3), .val (.int p4), .val (.ref b60), .val (.ref b85), .val (.int (Int32.ofNat jp)), .val (.int c1), .val (.int c2), .val (.int (Int32.ofNat 1)), .unset, .unset, .unset, .unset] [(.int (1 : Int32)), (.ref b169), (.ref b169)])) (fun t k => XS.iconst X175.here hx rfl (hb hby at_212) k) ?_
    refine Go.st (T' := T175.setTop (mkF m 215 #[.val (.int p1), .val (.int p2), .val (.int p3), .val (.int p4), .val (.ref b60), .val (.ref b85), .val (.int (Int32.ofNat jp)), .val (.int c1), .val (.int c2), .val (.int (Int32.ofNat 1)), .unset, .unset, .unset, .unset] [(.ref b85), (.int (1 : Int32)), (.ref b169), (.ref b169)])) (fun t k => XS.aload X175.here hx rfl (hb hby at_213) rfl rfl k) ?_
    refine Go.st (T' := T175.setTop (mkF m 216 #[.val (.int p1), .val (.int p2), .val (.int p3), .val (.int p4), .val (.ref b60), .val (.ref b85), .val (.int (Int32.ofNat jp)), .val (.int c1), .val (.int c2), .val (.int (Int32.ofNat 1)), .unset, .unset, .unset, .unset] [(.int (1 : Int32)), (.ref b85), (.int (1 : Int32)), (.ref b169), (.ref b169)])) (fun t k => XS.iconst X175.here hx rfl (hb hby at_215) k) ?_
    have f177 : Arv Z h175 b85 k85 .char (11 : Int32) [(.int x0), (.int x1), (.int x2), (.int x3), (.int x4), (.int x5), (.int x6), (.int x7), (.int x8), (.int x9), (.int x10)] (.int (0 : Int32)) := (f173.other W175 ne171)
    obtain ⟨cl178, Ar178, q178, S178, M178, H178, G178⟩ := id f177
    have hin178 := ((inb_of S178 ⟨by decide, by decide⟩) : ¬ ((1 : Int32) < 0 ∨ cl178.slots.size ≤ ((1 : Int32)).toNatClampNeg))
    refine Go.st (T' := T175.setTop (mkF m 217 #[.val (.int p1), .val (.int p2), .val (.int p3), .val (.int p4), .val (.ref b60), .val (.ref b85), .val (.int (Int32.ofNat jp)), .val (.int c1), .val (.int c2), .val (.int (Int32.ofNat 1)), .unset, .unset, .unset, .unset] [(.int x1), (.int (1 : Int32)), (.ref b169), (.ref b169)])) (fun t k => X175.caload hx (j := (1 : Int32)) (v := (.int x1)) (by rw [e175]; exact Ar178.1) (State.isArrayOf_alike hZh.alike Ar178.2.1) Ar178.2.2 hin178 (H178.at hin178 rfl) (g := (mkF m 216 #[.val (.int p1), .val (.int p2), .val (.int p3), .val (.int p4), .val (.ref b60), .val (.ref b85), .val (.int (Int32.ofNat jp)), .val (.int c1), .val (.int c2), .val (.int (Int32.ofNat 1)), .unset, .unset, .unset, .unset] [(.int (1 : Int32)), (.ref b85), (.int (1 : Int32)), (.ref b169), (.ref b169)])) rfl rfl (hb hby at_216) t k) ?_
    obtain ⟨cl179, Ar179, q179, S179, M179, H179, G179⟩ := id V175
    obtain ⟨T179, h179, X179, e179, W179, st179⟩ := stC X175 hx hZh e175 Ar179 (j := (1 : Int32)) (inb_of S179 ⟨by decide, by decide⟩) (g := (mkF m 217 #[.val (.int p1), .val (.int p2), .val (.int p3), .val (.int p4), .val (.ref b60), .val (.ref b85), .val (.int (Int32.ofNat jp)), .val (.int c1), .val (.int c2), .val (.int (Int32.ofNat 1)), .unset, .unset, .unset, .unset] [(.int x1), (.int (1 : Int32)), (.ref b169), (.ref b169)])) rfl rfl (hb hby at_217)
    have C180 : CHr Z EL s.vm h0 s.vm h179 := C176.trans (CHr.wr W179 (by obtain ⟨_, A_, _⟩ := id V175; exact Safe.arr hZh.alike A_ (by decide)) C176.1)
    have V179 : Arv Z h179 b169 k169 .char (10 : Int32) [(.int (nar .char x0)), (.int (nar .char x1)), (.int (0 : Int32)), (.int (0 : Int32)), (.int (0 : Int32)), (.int (0 : Int32)), (.int (0 : Int32)), (.int (0 : Int32)), (.int (0 : Int32)), (.int (0 : Int32))] (.int (0 : Int32)) := Arv.set Ar179 q179 S179 M179 H179 G179 (fits_nar_char _) W179 1 rfl (Nat.le_of_ble_eq_true rfl)
    have K179 : Keep h0 h179 [] := K175.wr W179 (Or.inr sz_b169)
    have N179 := Fr.snoc X179 N175 g_b169
    refine Go.st (T' := T179.setTop (mkF m 218 #[.val (.int p1), .val (.int p2), .val (.int p3), .val (.int p4), .val (.ref b60), .val (.ref b85), .val (.int (Int32.ofNat jp)), .val (.int c1), .val (.int c2), .val (.int (Int32.ofNat 1)), .unset, .unset, .unset, .unset] [(.ref b169)])) (fun t k => st179 t k) ?_
    refine Go.st (T' := T179.setTop (mkF m 219 #[.val (.int p1), .val (.int p2), .val (.int p3), .val (.int p4), .val (.ref b60), .val (.ref b85), .val (.int (Int32.ofNat jp)), .val (.int c1), .val (.int c2), .val (.int (Int32.ofNat 1)), .unset, .unset, .unset, .unset] [(.ref b169), (.ref b169)])) (fun t k => XS.dup X179.here hx rfl (hb hby at_218) rfl rfl k) ?_
    refine Go.st (T' := T179.setTop (mkF m 220 #[.val (.int p1), .val (.int p2), .val (.int p3), .val (.int p4), .val (.ref b60), .val (.ref b85), .val (.int (Int32.ofNat jp)), .val (.int c1), .val (.int c2), .val (.int (Int32.ofNat 1)), .unset, .unset, .unset, .unset] [(.int (2 : Int32)), (.ref b169), (.ref b169)])) (fun t k => XS.iconst X179.here hx rfl (hb hby at_219) k) ?_
    refine Go.st (T' := T179.setTop (mkF m 222 #[.val (.int p1), .val (.int p2), .val (.int p3), .val (.int p4), .val (.ref b60), .val (.ref b85), .val (.int (Int32.ofNat jp)), .val (.int c1), .val (.int c2), .val (.int (Int32.ofNat 1)), .unset, .unset, .unset, .unset] [(.ref b85), (.int (2 : Int32)), (.ref b169), (.ref b169)])) (fun t k => XS.aload X179.here hx rfl (hb hby at_220) rfl rfl k) ?_
    refine Go.st (T' := T179.setTop (mkF m 223 #[.val (.int p1), .val (.int p2), .val (.int p3), .val (.int p4), .val (.ref b60), .val (.ref b85), .val (.int (Int32.ofNat jp)), .val (.int c1), .val (.int c2), .val (.int (Int32.ofNat 1)), .unset, .unset, .unset, .unset] [(.int (2 : Int32)), (.ref b85), (.int (2 : Int32)), (.ref b169), (.ref b169)])) (fun t k => XS.iconst X179.here hx rfl (hb hby at_222) k) ?_
    have f181 : Arv Z h179 b85 k85 .char (11 : Int32) [(.int x0), (.int x1), (.int x2), (.int x3), (.int x4), (.int x5), (.int x6), (.int x7), (.int x8), (.int x9), (.int x10)] (.int (0 : Int32)) := (f177.other W179 ne171)
    obtain ⟨cl182, Ar182, q182, S182, M182, H182, G182⟩ := id f181
    have hin182 := ((inb_of S182 ⟨by decide, by decide⟩) : ¬ ((2 : Int32) < 0 ∨ cl182.slots.size ≤ ((2 : Int32)).toNatClampNeg))
    refine Go.st (T' := T179.setTop (mkF m 224 #[.val (.int p1), .val (.int p2), .val (.int p3), .val (.int p4), .val (.ref b60), .val (.ref b85), .val (.int (Int32.ofNat jp)), .val (.int c1), .val (.int c2), .val (.int (Int32.ofNat 1)), .unset, .unset, .unset, .unset] [(.int x2), (.int (2 : Int32)), (.ref b169), (.ref b169)])) (fun t k => X179.caload hx (j := (2 : Int32)) (v := (.int x2)) (by rw [e179]; exact Ar182.1) (State.isArrayOf_alike hZh.alike Ar182.2.1) Ar182.2.2 hin182 (H182.at hin182 rfl) (g := (mkF m 223 #[.val (.int p1), .val (.int p2), .val (.int p3), .val (.int p4), .val (.ref b60), .val (.ref b85), .val (.int (Int32.ofNat jp)), .val (.int c1), .val (.int c2), .val (.int (Int32.ofNat 1)), .unset, .unset, .unset, .unset] [(.int (2 : Int32)), (.ref b85), (.int (2 : Int32)), (.ref b169), (.ref b169)])) rfl rfl (hb hby at_223) t k) ?_
    obtain ⟨cl183, Ar183, q183, S183, M183, H183, G183⟩ := id V179
    obtain ⟨T183, h183, X183, e183, W183, st183⟩ := stC X179 hx hZh e179 Ar183 (j := (2 : Int32)) (inb_of S183 ⟨by decide, by decide⟩) (g := (mkF m 224 #[.val (.int p1), .val (.int p2), .val (.int p3), .val (.int p4), .val (.ref b60), .val (.ref b85), .val (.int (Int32.ofNat jp)), .val (.int c1), .val (.int c2), .val (.int (Int32.ofNat 1)), .unset, .unset, .unset, .unset] [(.int x2), (.int (2 : Int32)), (.ref b169), (.ref b169)])) rfl rfl (hb hby at_224)
    have C184 : CHr Z EL s.vm h0 s.vm h183 := C180.trans (CHr.wr W183 (by obtain ⟨_, A_, _⟩ := id V179; exact Safe.arr hZh.alike A_ (by decide)) C180.1)
    have V183 : Arv Z h183 b169 k169 .char (10 : Int32) [(.int (nar .char x0)), (.int (nar .char x1)), (.int (nar .char x2)), (.int (0 : Int32)), (.int (0 : Int32)), (.int (0 : Int32)), (.int (0 : Int32)), (.int (0 : Int32)), (.int (0 : Int32)), (.int (0 : Int32))] (.int (0 : Int32)) := Arv.set Ar183 q183 S183 M183 H183 G183 (fits_nar_char _) W183 2 rfl (Nat.le_of_ble_eq_true rfl)
    have K183 : Keep h0 h183 [] := K179.wr W183 (Or.inr sz_b169)
    have N183 := Fr.snoc X183 N179 g_b169
    refine Go.st (T' := T183.setTop (mkF m 225 #[.val (.int p1), .val (.int p2), .val (.int p3), .val (.int p4), .val (.ref b60), .val (.ref b85), .val (.int (Int32.ofNat jp)), .val (.int c1), .val (.int c2), .val (.int (Int32.ofNat 1)), .unset, .unset, .unset, .unset] [(.ref b169)])) (fun t k => st183 t k) ?_
    refine Go.st (T' := T183.setTop (mkF m 226 #[.val (.int p1), .val (.int p2), .val (.int p3), .val (.int p4), .val (.ref b60), .val (.ref b85), .val (.int (Int32.ofNat jp)), .val (.int c1), .val (.int c2), .val (.int (Int32.ofNat 1)), .unset, .unset, .unset, .unset] [(.ref b169), (.ref b169)])) (fun t k => XS.dup X183.here hx rfl (hb hby at_225) rfl rfl k) ?_
    refine Go.st (T' := T183.setTop (mkF m 227 #[.val (.int p1), .val (.int p2), .val (.int p3), .val (.int p4), .val (.ref b60), .val (.ref b85), .val (.int (Int32.ofNat jp)), .val (.int c1), .val (.int c2), .val (.int (Int32.ofNat 1)), .unset, .unset, .unset, .unset] [(.int (3 : Int32)), (.ref b169), (.ref b169)])) (fun t k => XS.iconst X183.here hx rfl (hb hby at_226) k) ?_
    refine Go.st (T' := T183.setTop (mkF m 229 #[.val (.int p1), .val (.int p2), .val (.int p3), .val (.int p4), .val (.ref b60), .val (.ref b85), .val (.int (Int32.ofNat jp)), .val (.int c1), .val (.int c2), .val (.int (Int32.ofNat 1)), .unset, .unset, .unset, .unset] [(.ref b85), (.int (3 : Int32)), (.ref b169), (.ref b169)])) (fun t k => XS.aload X183.here hx rfl (hb hby at_227) rfl rfl k) ?_
    refine Go.st (T' := T183.setTop (mkF m 230 #[.val (.int p1), .val (.int p2), .val (.int p3), .val (.int p4), .val (.ref b60), .val (.ref b85), .val (.int (Int32.ofNat jp)), .val (.int c1), .val (.int c2), .val (.int (Int32.ofNat 1)), .unset, .unset, .unset, .unset] [(.int (3 : Int32)), (.ref b85), (.int (3 : Int32)), (.ref b169), (.ref b169)])) (fun t k => XS.iconst X183.here hx rfl (hb hby at_229) k) ?_
    have f185 : Arv Z h183 b85 k85 .char (11 : Int32) [(.int x0), (.int x1), (.int x2), (.int x3), (.int x4), (.int x5), (.int x6), (.int x7), (.int x8), (.int x9), (.int x10)] (.int (0 : Int32)) := (f181.other W183 ne171)
    obtain ⟨cl186, Ar186, q186, S186, M186, H186, G186⟩ := id f185
    have hin186 := ((inb_of S186 ⟨by decide, by decide⟩) : ¬ ((3 : Int32) < 0 ∨ cl186.slots.size ≤ ((3 : Int32)).toNatClampNeg))
    refine Go.st (T' := T183.setTop (mkF m 231 #[.val (.int p1), .val (.int p2), .val (.int p3), .val (.int p4), .val (.ref b60), .val (.ref b85), .val (.int (Int32.ofNat jp)), .val (.int c1), .val (.int c2), .val (.int (Int32.ofNat 1)), .unset, .unset, .unset, .unset] [(.int x3), (.int (3 : Int32)), (.ref b169), (.ref b169)])) (fun t k => X183.caload hx (j := (3 : Int32)) (v := (.int x3)) (by rw [e183]; exact Ar186.1) (State.isArrayOf_alike hZh.alike Ar186.2.1) Ar186.2.2 hin186 (H186.at hin186 rfl) (g := (mkF m 230 #[.val (.int p1), .val (.int p2), .val (.int p3), .val (.int p4), .val (.ref b60), .val (.ref b85), .val (.int (Int32.ofNat jp)), .val (.int c1), .val (.int c2), .val (.int (Int32.ofNat 1)), .unset, .unset, .unset, .unset] [(.int (3 : Int32)), (.ref b85), (.int (3 : Int32)), (.ref b169), (.ref b169)])) rfl rfl (hb hby at_230) t k) ?_
    obtain ⟨cl187, Ar187, q187, S187, M187, H187, G187⟩ := id V183
    obtain ⟨T187, h187, X187, e187, W187, st187⟩ := stC X183 hx hZh e183 Ar187 (j := (3 : Int32)) (inb_of S187 ⟨by decide, by decide⟩) (g := (mkF m 231 #[.val (.int p1), .val (.int p2), .val (.int p3), .val (.int p4), .val (.ref b60), .val (.ref b85), .val (.int (Int32.ofNat jp)), .val (.int c1), .val (.int c2), .val (.int (Int32.ofNat 1)), .unset, .unset, .unset, .unset] [(.int x3), (.int (3 : Int32)), (.ref b169), (.ref b169)])) rfl rfl (hb hby at_231)
    have C188 : CHr Z EL s.vm h0 s.vm h187 := C184.trans (CHr.wr W187 (by obtain ⟨_, A_, _⟩ := id V183; exact Safe.arr hZh.alike A_ (by decide)) C184.1)
    have V187 : Arv Z h187 b169 k169 .char (10 : Int32) [(.int (nar .char x0)), (.int (nar .char x1)), (.int (nar .char x2)), (.int (nar .char x3)), (.int (0 : Int32)), (.int (0 : Int32)), (.int (0 : Int32)), (.int (0 : Int32)), (.int (0 : Int32)), (.int (0 : Int32))] (.int (0 : Int32)) := Arv.set Ar187 q187 S187 M187 H187 G187 (fits_nar_char _) W187 3 rfl (Nat.le_of_ble_eq_true rfl)
    have K187 : Keep h0 h187 [] := K183.wr W187 (Or.inr sz_b169)
    have N187 := Fr.snoc X187 N183 g_b169
    refine Go.st (T' := T187.setTop (mkF m 232 #[.val (.int p1), .val (.int p2), .val (.int p3), .val (.int p4), .val (.ref b60), .val (.ref b85), .val (.int (Int32.ofNat jp)), .val (.int c1), .val (.int c2), .val (.int (Int32.ofNat 1)), .unset, .unset, .unset, .unset] [(.ref b169)])) (fun t k => st187 t k) ?_
    refine Go.st (T' := T187.setTop (mkF m 233 #[.val (.int p1), .val (.int p2), .val (.int p3), .val (.int p4), .val (.ref b60), .val (.ref b85), .val (.int (Int32.ofNat jp)), .val (.int c1), .val (.int c2), .val (.int (Int32.ofNat 1)), .unset, .unset, .unset, .unset] [(.ref b169), (.ref b169)])) (fun t k => XS.dup X187.here hx rfl (hb hby at_232) rfl rfl k) ?_
    refine Go.st (T' := T187.setTop (mkF m 234 #[.val (.int p1), .val (.int p2), .val (.int p3), .val (.int p4), .val (.ref b60), .val (.ref b85), .val (.int (Int32.ofNat jp)), .val (.int c1), .val (.int c2), .val (.int (Int32.ofNat 1)), .unset, .unset, .unset, .unset] [(.int (4 : Int32)), (.ref b169), (.ref b169)])) (fun t k => XS.iconst X187.here hx rfl (hb hby at_233) k) ?_
    refine Go.st (T' := T187.setTop (mkF m 236 #[.val (.int p1), .val (.int p2), .val (.int p3), .val (.int p4), .val (.ref b60), .val (.ref b85), .val (.int (Int32.ofNat jp)), .val (.int c1), .val (.int c2), .val (.int (Int32.ofNat 1)), .unset, .unset, .unset, .unset] [(.ref b85), (.int (4 : Int32)), (.ref b169), (.ref b169)])) (fun t k => XS.aload X187.here hx rfl (hb hby at_234) rfl rfl k) ?_
    refine Go.st (T' := T187.setTop (mkF m 237 #[.val (.int p1), .val (.int p2), .val (.int p3), .val (.int p4), .val (.ref b60), .val (.ref b85), .val (.int (Int32.ofNat jp)), .val (.int c1), .val (.int c2), .val (.int (Int32.ofNat 1)), .unset, .unset, .unset, .unset] [(.int (4 : Int32)), (.ref b85), (.int (4 : Int32)), (.ref b169), (.ref b169)])) (fun t k => XS.iconst X187.here hx rfl (hb hby at_236) k) ?_
    have f189 : Arv Z h187 b85 k85 .char (11 : Int32) [(.int x0), (.int x1), (.int x2), (.int x3), (.int x4), (.int x5), (.int x6), (.int x7), (.int x8), (.int x9), (.int x10)] (.int (0 : Int32)) := (f185.other W187 ne171)
    obtain ⟨cl190, Ar190, q190, S190, M190, H190, G190⟩ := id f189
    have hin190 := ((inb_of S190 ⟨by decide, by decide⟩) : ¬ ((4 : Int32) < 0 ∨ cl190.slots.size ≤ ((4 : Int32)).toNatClampNeg))
    refine Go.st (T' := T187.setTop (mkF m 238 #[.val (.int p1), .val (.int p2), .val (.int p3), .val (.int p4), .val (.ref b60), .val (.ref b85), .val (.int (Int32.ofNat jp)), .val (.int c1), .val (.int c2), .val (.int (Int32.ofNat 1)), .unset, .unset, .unset, .unset] [(.int x4), (.int (4 : Int32)), (.ref b169), (.ref b169)])) (fun t k => X187.caload hx (j := (4 : Int32)) (v := (.int x4)) (by rw [e187]; exact Ar190.1) (State.isArrayOf_alike hZh.alike Ar190.2.1) Ar190.2.2 hin190 (H190.at hin190 rfl) (g := (mkF m 237 #[.val (.int p1), .val (.int p2), .val (.int p3), .val (.int p4), .val (.ref b60), .val (.ref b85), .val (.int (Int32.ofNat jp)), .val (.int c1), .val (.int c2), .val (.int (Int32.ofNat 1)), .unset, .unset, .unset, .unset] [(.int (4 : Int32)), (.ref b85), (.int (4 : Int32)), (.ref b169), (.ref b169)])) rfl rfl (hb hby at_237) t k) ?_
    obtain ⟨cl191, Ar191, q191, S191, M191, H191, G191⟩ := id V187
    obtain ⟨T191, h191, X191, e191, W191, st191⟩ := stC X187 hx hZh e187 Ar191 (j := (4 : Int32)) (inb_of S191 ⟨by decide, by decide⟩) (g := (mkF m 238 #[.val (.int p1), .val (.int p2), .val (.int p3), .val (.int p4), .val (.ref b60), .val (.ref b85), .val (.int (Int32.ofNat jp)), .val (.int c1), .val (.int c2), .val (.int (Int32.ofNat 1)), .unset, .unset, .unset, .unset] [(.int x4), (.int (4 : Int32)), (.ref b169), (.ref b169)])) rfl rfl (hb hby at_238)
    have C192 : CHr Z EL s.vm h0 s.vm h191 := C188.trans (CHr.wr W191 (by obtain ⟨_, A_, _⟩ := id V187; exact Safe.arr hZh.alike A_ (by decide)) C188.1)
    have V191 : Arv Z h191 b169 k169 .char (10 : Int32) [(.int (nar .char x0)), (.int (nar .char x1)), (.int (nar .char x2)), (.int (nar .char x3)), (.int (nar .char x4)), (.int (0 : Int32)), (.int (0 : Int32)), (.int (0 : Int32)), (.int (0 : Int32)), (.int (0 : Int32))] (.int (0 : Int32)) := Arv.set Ar191 q191 S191 M191 H191 G191 (fits_nar_char _) W191 4 rfl (Nat.le_of_ble_eq_true rfl)
    have K191 : Keep h0 h191 [] := K187.wr W191 (Or.inr sz_b169)
    have N191 := Fr.snoc X191 N187 g_b169
    refine Go.st (T' := T191.setTop (mkF m 239 #[.val (.int p1), .val (.int p2), .val (.int p3), .val (.int p4), .val (.ref b60), .val (.ref b85), .val (.int (Int32.ofNat jp)), .val (.int c1), .val (.int c2), .val (.int (Int32.ofNat 1)), .unset, .unset, .unset, .unset] [(.ref b169)])) (fun t k => st191 t k) ?_
    refine Go.st (T' := T191.setTop (mkF m 240 #[.val (.int p1), .val (.int p2), .val (.int p3), .val (.int p4), .val (.ref b60), .val (.ref b85), .val (.int (Int32.ofNat jp)), .val (.int c1), .val (.int c2), .val (.int (Int32.ofNat 1)), .unset, .unset, .unset, .unset] [(.ref b169), (.ref b169)])) (fun t k => XS.dup X191.here hx rfl (hb hby at_239) rfl rfl k) ?_
    refine Go.st (T' := T191.setTop (mkF m 241 #[.val (.int p1), .val (.int p2), .val (.int p3), .val (.int p4), .val (.ref b60), .val (.ref b85), .val (.int (Int32.ofNat jp)), .val (.int c1), .val (.int c2), .val (.int (Int32.ofNat 1)), .unset, .unset, .unset, .unset] [(.int (5 : Int32)), (.ref b169), (.ref b169)])) (fun t k => XS.iconst X191.here hx rfl (hb hby at_240) k) ?_
    refine Go.st (T' := T191.setTop (mkF m 243 #[.val (.int p1), .val (.int p2), .val (.int p3), .val (.int p4), .val (.ref b60), .val (.ref b85), .val (.int (Int32.ofNat jp)), .val (.int c1), .val (.int c2), .val (.int (Int32.ofNat 1)), .unset, .unset, .unset, .unset] [(.ref b85), (.int (5 : Int32)), (.ref b169), (.ref b169)])) (fun t k => XS.aload X191.here hx rfl (hb hby at_241) rfl rfl k) ?_
    refine Go.st (T' := T191.setTop (mkF m 244 #[.val (.int p1), .val (.int p2), .val (.int p3), .val (.int p4), .val (.ref b60), .val (.ref b85), .val (.int (Int32.ofNat jp)), .val (.int c1), .val (.int c2), .val (.int (Int32.ofNat 1)), .unset, .unset, .unset, .unset] [(.int (5 : Int32)), (.ref b85), (.int (5 : Int32)), (.ref b169), (.ref b169)])) (fun t k => XS.iconst X191.here hx rfl (hb hby at_243) k) ?_
    have f193 : Arv Z h191 b85 k85 .char (11 : Int32) [(.int x0), (.int x1), (.int x2), (.int x3), (.int x4), (.int x5), (.int x6), (.int x7), (.int x8), (.int x9), (.int x10)] (.int (0 : Int32)) := (f189.other W191 ne171)
    obtain ⟨cl194, Ar194, q194, S194, M194, H194, G194⟩ := id f193
    have hin194 := ((inb_of S194 ⟨by decide, by decide⟩) : ¬ ((5 : Int32) < 0 ∨ cl194.slots.size ≤ ((5 : Int32)).toNatClampNeg))
    refine Go.st (T' := T191.setTop (mkF m 245 #[.val (.int p1), .val (.int p2), .val (.int p3), .val (.int p4), .val (.ref b60), .val (.ref b85), .val (.int (Int32.ofNat jp)), .val (.int c1), .val (.int c2), .val (.int (Int32.ofNat 1)), .unset, .unset, .unset, .unset] [(.int x5), (.int (5 : Int32)), (.ref b169), (.ref b169)])) (fun t k => X191.caload hx (j := (5 : Int32)) (v := (.int x5)) (by rw [e191]; exact Ar194.1) (State.isArrayOf_alike hZh.alike Ar194.2.1) Ar194.2.2 hin194 (H194.at hin194 rfl) (g := (mkF m 244 #[.val (.int p1), .val (.int p2), .val (.int p3), .val (.int p4), .val (.ref b60), .val (.ref b85), .val (.int (Int32.ofNat jp)), .val (.int c1), .val (.int c2), .val (.int (Int32.ofNat 1)), .unset, .unset, .unset, .unset] [(.int (5 : Int32)), (.ref b85), (.int (5 : Int32)), (.ref b169), (.ref b169)])) rfl rfl (hb hby at_244) t k) ?_
    obtain ⟨cl195, Ar195, q195, S195, M195, H195, G195⟩ := id V191
    obtain ⟨T195, h195, X195, e195, W195, st195⟩ := stC X191 hx hZh e191 Ar195 (j := (5 : Int32)) (inb_of S195 ⟨by decide, by decide⟩) (g := (mkF m 245 #[.val (.int p1), .val (.int p2), .val (.int p3), .val (.int p4), .val (.ref b60), .val (.ref b85), .val (.int (Int32.ofNat jp)), .val (.int c1), .val (.int c2), .val (.int (Int32.ofNat 1)), .unset, .unset, .unset, .unset] [(.int x5), (.int (5 : Int32)), (.ref b169), (.ref b169)])) rfl rfl (hb hby at_245)
    have C196 : CHr Z EL s.vm h0 s.vm h195 := C192.trans (CHr.wr W195 (by obtain ⟨_, A_, _⟩ := id V191; exact Safe.arr hZh.alike A_ (by decide)) C192.1)
    have V195 : Arv Z h195 b169 k169 .char (10 : Int32) [(.int (nar .char x0)), (.int (nar .char x1)), (.int (nar .char x2)), (.int (nar .char x3)), (.int (nar .char x4)), (.int (nar .char x5)), (.int (0 : Int32)), (.int (0 : Int32)), (.int (0 : Int32)), (.int (0 : Int32))] (.int (0 : Int32)) := Arv.set Ar195 q195 S195 M195 H195 G195 (fits_nar_char _) W195 5 rfl (Nat.le_of_ble_eq_true rfl)
    have K195 : Keep h0 h195 [] := K191.wr W195 (Or.inr sz_b169)
    have N195 := Fr.snoc X195 N191 g_b169
    refine Go.st (T' := T195.setTop (mkF m 246 #[.val (.int p1), .val (.int p2), .val (.int p3), .val (.int p4), .val (.ref b60), .val (.ref b85), .val (.int (Int32.ofNat jp)), .val (.int c1), .val (.int c2), .val (.int (Int32.ofNat 1)), .unset, .unset, .unset, .unset] [(.ref b169)])) (fun t k => st195 t k) ?_
    refine Go.st (T' := T195.setTop (mkF m 247 #[.val (.int p1), .val (.int p2), .val (.int p3), .val (.int p4), .val (.ref b60), .val (.ref b85), .val (.int (Int32.ofNat jp)), .val (.int c1), .val (.int c2), .val (.int (Int32.ofNat 1)), .unset, .unset, .unset, .unset] [(.ref b169), (.ref b169)])) (fun t k => XS.dup X195.here hx rfl (hb hby at_246) rfl rfl k) ?_
    refine Go.st (T' := T195.setTop (mkF m 249 #[.val (.int p1), .val (.int p2), .val (.int p3), .val (.int p4), .val (.ref b60), .val (.ref b85), .val (.int (Int32.ofNat jp)), .val (.int c1), .val (.int c2), .val (.int (Int32.ofNat 1)), .unset, .unset, .unset, .unset] [(.int (6 : Int32)), (.ref b169), (.ref b169)])) (fun t k => XS.bipush X195.here hx rfl (hb hby at_247) k) ?_
    refine Go.st (T' := T195.setTop (mkF m 251 #[.val (.int p1), .val (.int p2), .val (.int p3), .val (.int p4), .val (.ref b60), .val (.ref b85), .val (.int (Int32.ofNat jp)), .val (.int c1), .val (.int c2), .val (.int (Int32.ofNat 1)), .unset, .unset, .unset, .unset] [(.ref b85), (.int (6 : Int32)), (.ref b169), (.ref b169)])) (fun t k => XS.aload X195.here hx rfl (hb hby at_249) rfl rfl k) ?_
    refine Go.st (T' := T195.setTop (mkF m 253 #[.val (.int p1), .val (.int p2), .val (.int p3), .val (.int p4), .val (.ref b60), .val (.ref b85), .val (.int (Int32.ofNat jp)), .val (.int c1), .val (.int c2), .val (.int (Int32.ofNat 1)), .unset, .unset, .unset, .unset] [(.int (6 : Int32)), (.ref b85), (.int (6 : Int32)), (.ref b169), (.ref b169)])) (fun t k => XS.bipush X195.here hx rfl (hb hby at_251) k) ?_
    have f197 : Arv Z h195 b85 k85 .char (11 : Int32) [(.int x0), (.int x1), (.int x2), (.int x3), (.int x4), (.int x5), (.int x6), (.int x7), (.int x8), (.int x9), (.int x10)] (.int (0 : Int32)) := (f193.other W195 ne171)
    obtain ⟨cl198, Ar198, q198, S198, M198, H198, G198⟩ := id f197
    have hin198 := ((inb_of S198 ⟨by decide, by decide⟩) : ¬ ((6 : Int32) < 0 ∨ cl198.slots.size ≤ ((6 : Int32)).toNatClampNeg))
    refine Go.st (T' := T195.setTop (mkF m 254 #[.val (.int p1), .val (.int p2), .val (.int p3), .val (.int p4), .val (.ref b60), .val (.ref b85), .val (.int (Int32.ofNat jp)), .val (.int c1), .val (.int c2), .val (.int (Int32.ofNat 1)), .unset, .unset, .unset, .unset] [(.int x6), (.int (6 : Int32)), (.ref b169), (.ref b169)])) (fun t k => X195.caload hx (j := (6 : Int32)) (v := (.int x6)) (by rw [e195]; exact Ar198.1) (State.isArrayOf_alike hZh.alike Ar198.2.1) Ar198.2.2 hin198 (H198.at hin198 rfl) (g := (mkF m 253 #[.val (.int p1), .val (.int p2), .val (.int p3), .val (.int p4), .val (.ref b60), .val (.ref b85), .val (.int (Int32.ofNat jp)), .val (.int c1), .val (.int c2), .val (.int (Int32.ofNat 1)), .unset, .unset, .unset, .unset] [(.int (6 : Int32)), (.ref b85), (.int (6 : Int32)), (.ref b169), (.ref b169)])) rfl rfl (hb hby at_253) t k) ?_
    obtain ⟨cl199, Ar199, q199, S199, M199, H199, G199⟩ := id V195
    obtain ⟨T199, h199, X199, e199, W199, st199⟩ := stC X195 hx hZh e195 Ar199 (j := (6 : Int32)) (inb_of S199 ⟨by decide, by decide⟩) (g := (mkF m 254 #[.val (.int p1), .val (.int p2), .val (.int p3), .val (.int p4), .val (.ref b60), .val (.ref b85), .val (.int (Int32.ofNat jp)), .val (.int c1), .val (.int c2), .val (.int (Int32.ofNat 1)), .unset, .unset, .unset, .unset] [(.int x6), (.int (6 : Int32)), (.ref b169), (.ref b169)])) rfl rfl (hb hby at_254)
    have C200 : CHr Z EL s.vm h0 s.vm h199 := C196.trans (CHr.wr W199 (by obtain ⟨_, A_, _⟩ := id V195; exact Safe.arr hZh.alike A_ (by decide)) C196.1)
    have V199 : Arv Z h199 b169 k169 .char (10 : Int32) [(.int (nar .char x0)), (.int (nar .char x1)), (.int (nar .char x2)), (.int (nar .char x3)), (.int (nar .char x4)), (.int (nar .char x5)), (.int (nar .char x6)), (.int (0 : Int32)), (.int (0 : Int32)), (.int (0 : Int32))] (.int (0 : Int32)) := Arv.set Ar199 q199 S199 M199 H199 G199 (fits_nar_char _) W199 6 rfl (Nat.le_of_ble_eq_true rfl)
    have K199 : Keep h0 h199 [] := K195.wr W199 (Or.inr sz_b169)
    have N199 := Fr.snoc X199 N195 g_b169
    refine Go.st (T' := T199.setTop (mkF m 255 #[.val (.int p1), .val (.int p2), .val (.int p3), .val (.int p4), .val (.ref b60), .val (.ref b85), .val (.int (Int32.ofNat jp)), .val (.int c1), .val (.int c2), .val (.int (Int32.ofNat 1)), .unset, .unset, .unset, .unset] [(.ref b169)])) (fun t k => st199 t k) ?_
    refine Go.st (T' := T199.setTop (mkF m 256 #[.val (.int p1), .val (.int p2), .val (.int p3), .val (.int p4), .val (.ref b60), .val (.ref b85), .val (.int (Int32.ofNat jp)), .val (.int c1), .val (.int c2), .val (.int (Int32.ofNat 1)), .unset, .unset, .unset, .unset] [(.ref b169), (.ref b169)])) (fun t k => XS.dup X199.here hx rfl (hb hby at_255) rfl rfl k) ?_
    refine Go.st (T' := T199.setTop (mkF m 258 #[.val (.int p1), .val (.int p2), .val (.int p3), .val (.int p4), .val (.ref b60), .val (.ref b85), .val (.int (Int32.ofNat jp)), .val (.int c1), .val (.int c2), .val (.int (Int32.ofNat 1)), .unset, .unset, .unset, .unset] [(.int (7 : Int32)), (.ref b169), (.ref b169)])) (fun t k => XS.bipush X199.here hx rfl (hb hby at_256) k) ?_
    refine Go.st (T' := T199.setTop (mkF m 260 #[.val (.int p1), .val (.int p2), .val (.int p3), .val (.int p4), .val (.ref b60), .val (.ref b85), .val (.int (Int32.ofNat jp)), .val (.int c1), .val (.int c2), .val (.int (Int32.ofNat 1)), .unset, .unset, .unset, .unset] [(.ref b85), (.int (7 : Int32)), (.ref b169), (.ref b169)])) (fun t k => XS.aload X199.here hx rfl (hb hby at_258) rfl rfl k) ?_
    refine Go.st (T' := T199.setTop (mkF m 262 #[.val (.int p1), .val (.int p2), .val (.int p3), .val (.int p4), .val (.ref b60), .val (.ref b85), .val (.int (Int32.ofNat jp)), .val (.int c1), .val (.int c2), .val (.int (Int32.ofNat 1)), .unset, .unset, .unset, .unset] [(.int (7 : Int32)), (.ref b85), (.int (7 : Int32)), (.ref b169), (.ref b169)])) (fun t k => XS.bipush X199.here hx rfl (hb hby at_260) k) ?_
    have f201 : Arv Z h199 b85 k85 .char (11 : Int32) [(.int x0), (.int x1), (.int x2), (.int x3), (.int x4), (.int x5), (.int x6), (.int x7), (.int x8), (.int x9), (.int x10)] (.int (0 : Int32)) := (f197.other W199 ne171)
    obtain ⟨cl202, Ar202, q202, S202, M202, H202, G202⟩ := id f201
    have hin202 := ((inb_of S202 ⟨by decide, by decide⟩) : ¬ ((7 : Int32) < 0 ∨ cl202.slots.size ≤ ((7 : Int32)).toNatClampNeg))
    refine Go.st (T' := T199.setTop (mkF m 263 #[.val (.int p1), .val (.int p2), .val (.int p3), .val (.int p4), .val (.ref b60), .val (.ref b85), .val (.int (Int32.ofNat jp)), .val (.int c1), .val (.int c2), .val (.int (Int32.ofNat 1)), .unset, .unset, .unset, .unset] [(.int x7), (.int (7 : Int32)), (.ref b169), (.ref b169)])) (fun t k => X199.caload hx (j := (7 : Int32)) (v := (.int x7)) (by rw [e199]; exact Ar202.1) (State.isArrayOf_alike hZh.alike Ar202.2.1) Ar202.2.2 hin202 (H202.at hin202 rfl) (g := (mkF m 262 #[.val (.int p1), .val (.int p2), .val (.int p3), .val (.int p4), .val (.ref b60), .val (.ref b85), .val (.int (Int32.ofNat jp)), .val (.int c1), .val (.int c2), .val (.int (Int32.ofNat 1)), .unset, .unset, .unset, .unset] [(.int (7 : Int32)), (.ref b85), (.int (7 : Int32)), (.ref b169), (.ref b169)])) rfl rfl (hb hby at_262) t k) ?_
    obtain ⟨cl203, Ar203, q203, S203, M203, H203, G203⟩ := id V199
    obtain ⟨T203, h203, X203, e203, W203, st203⟩ := stC X199 hx hZh e199 Ar203 (j := (7 : Int32)) (inb_of S203 ⟨by decide, by decide⟩) (g := (mkF m 263 #[.val (.int p1), .val (.int p2), .val (.int p3), .val (.int p4), .val (.ref b60), .val (.ref b85), .val (.int (Int32.ofNat jp)), .val (.int c1), .val (.int c2), .val (.int (Int32.ofNat 1)), .unset, .unset, .unset, .unset] [(.int x7), (.int (7 : Int32)), (.ref b169), (.ref b169)])) rfl rfl (hb hby at_263)
    have C204 : CHr Z EL s.vm h0 s.vm h203 := C200.trans (CHr.wr W203 (by obtain ⟨_, A_, _⟩ := id V199; exact Safe.arr hZh.alike A_ (by decide)) C200.1)
    have V203 : Arv Z h203 b169 k169 .char (10 : Int32) [(.int (nar .char x0)), (.int (nar .char x1)), (.int (nar .char x2)), (.int (nar .char x3)), (.int (nar .char x4)), (.int (nar .char x5)), (.int (nar .char x6)), (.int (nar .char x7)), (.int (0 : Int32)), (.int (0 : Int32))] (.int (0 : Int32)) := Arv.set Ar203 q203 S203 M203 H203 G203 (fits_nar_char _) W203 7 rfl (Nat.le_of_ble_eq_true rfl)
    have K203 : Keep h0 h203 [] := K199.wr W203 (Or.inr sz_b169)
    have N203 := Fr.snoc X203 N199 g_b169
    refine Go.st (T' := T203.setTop (mkF m 264 #[.val (.int p1), .val (.int p2), .val (.int p3), .val (.int p4), .val (.ref b60), .val (.ref b85), .val (.int (Int32.ofNat jp)), .val (.int c1), .val (.int c2), .val (.int (Int32.ofNat 1)), .unset, .unset, .unset, .unset] [(.ref b169)])) (fun t k => st203 t k) ?_
    refine Go.st (T' := T203.setTop (mkF m 265 #[.val (.int p1), .val (.int p2), .val (.int p3), .val (.int p4), .val (.ref b60), .val (.ref b85), .val (.int (Int32.ofNat jp)), .val (.int c1), .val (.int c2), .val (.int (Int32.ofNat 1)), .unset, .unset, .unset, .unset] [(.ref b169), (.ref b169)])) (fun t k => XS.dup X203.here hx rfl (hb hby at_264) rfl rfl k) ?_
    refine Go.st (T' := T203.setTop (mkF m 267 #[.val (.int p1), .val (.int p2), .val (.int p3), .val (.int p4), .val (.ref b60), .val (.ref b85), .val (.int (Int32.ofNat jp)), .val (.int c1), .val (.int c2), .val (.int (Int32.ofNat 1)), .unset, .unset, .unset, .unset] [(.int (8 : Int32)), (.ref b169), (.ref b169)])) (fun t k => XS.bipush X203.here hx rfl (hb hby at_265) k) ?_
    refine Go.st (T' := T203.setTop (mkF m 269 #[.val (.int p1), .val (.int p2), .val (.int p3), .val (.int p4), .val (.ref b60), .val (.ref b85), .val (.int (Int32.ofNat jp)), .val (.int c1), .val (.int c2), .val (.int (Int32.ofNat 1)), .unset, .unset, .unset, .unset] [(.ref b85), (.int (8 : Int32)), (.ref b169), (.ref b169)])) (fun t k => XS.aload X203.here hx rfl (hb hby at_267) rfl rfl k) ?_
    refine Go.st (T' := T203.setTop (mkF m 271 #[.val (.int p1), .val (.int p2), .val (.int p3), .val (.int p4), .val (.ref b60), .val (.ref b85), .val (.int (Int32.ofNat jp)), .val (.int c1), .val (.int c2), .val (.int (Int32.ofNat 1)), .unset, .unset, .unset, .unset] [(.int (8 : Int32)), (.ref b85), (.int (8 : Int32)), (.ref b169), (.ref b169)])) (fun t k => XS.bipush X203.here hx rfl (hb hby at_269) k) ?_
    have f205 : Arv Z h203 b85 k85 .char (11 : Int32) [(.int x0), (.int x1), (.int x2), (.int x3), (.int x4), (.int x5), (.int x6), (.int x7), (.int x8), (.int x9), (.int x10)] (.int (0 : Int32)) := (f201.other W203 ne171)
    obtain ⟨cl206, Ar206, q206, S206, M206, H206, G206⟩ := id f205
    have hin206 := ((inb_of S206 ⟨by decide, by decide⟩) : ¬ ((8 : Int32) < 0 ∨ cl206.slots.size ≤ ((8 : Int32)).toNatClampNeg))
    refine Go.st (T' := T203.setTop (mkF m 272 #[.val (.int p1), .val (.int p2), .val (.int p3), .val (.int p4), .val (.ref b60), .val (.ref b85), .val (.int (Int32.ofNat jp)), .val (.int c1), .val (.int c2), .val (.int (Int32.ofNat 1)), .unset, .unset, .unset, .unset] [(.int x8), (.int (8 : Int32)), (.ref b169), (.ref b169)])) (fun t k => X203.caload hx (j := (8 : Int32)) (v := (.int x8)) (by rw [e203]; exact Ar206.1) (State.isArrayOf_alike hZh.alike Ar206.2.1) Ar206.2.2 hin206 (H206.at hin206 rfl) (g := (mkF m 271 #[.val (.int p1), .val (.int p2), .val (.int p3), .val (.int p4), .val (.ref b60), .val (.ref b85), .val (.int (Int32.ofNat jp)), .val (.int c1), .val (.int c2), .val (.int (Int32.ofNat 1)), .unset, .unset, .unset, .unset] [(.int (8 : Int32)), (.ref b85), (.int (8 : Int32)), (.ref b169), (.ref b169)])) rfl rfl (hb hby at_271) t k) ?_
    obtain ⟨cl207, Ar207, q207, S207, M207, H207, G207⟩ := id V203
    obtain ⟨T207, h207, X207, e207, W207, st207⟩ := stC X203 hx hZh e203 Ar207 (j := (8 : Int32)) (inb_of S207 ⟨by decide, by decide⟩) (g := (mkF m 272 #[.val (.int p1), .val (.int p2), .val (.int p3), .val (.int p4), .val (.ref b60), .val (.ref b85), .val (.int (Int32.ofNat jp)), .val (.int c1), .val (.int c2), .val (.int (Int32.ofNat 1)), .unset, .unset, .unset, .unset] [(.int x8), (.int (8 : Int32)), (.ref b169), (.ref b169)])) rfl rfl (hb hby at_272)
    have C208 : CHr Z EL s.vm h0 s.vm h207 := C204.trans (CHr.wr W207 (by obtain ⟨_, A_, _⟩ := id V203; exact Safe.arr hZh.alike A_ (by decide)) C204.1)
    have V207 : Arv Z h207 b169 k169 .char (10 : Int32) [(.int (nar .char x0)), (.int (nar .char x1)), (.int (nar .char x2)), (.int (nar .char x3)), (.int (nar .char x4)), (.int (nar .char x5)), (.int (nar .char x6)), (.int (nar .char x7)), (.int (nar .char x8)), (.int (0 : Int32))] (.int (0 : Int32)) := Arv.set Ar207 q207 S207 M207 H207 G207 (fits_nar_char _) W207 8 rfl (Nat.le_of_ble_eq_true rfl)
    have K207 : Keep h0 h207 [] := K203.wr W207 (Or.inr sz_b169)
    have N207 := Fr.snoc X207 N203 g_b169
    refine Go.st (T' := T207.setTop (mkF m 273 #[.val (.int p1), .val (.int p2), .val (.int p3), .val (.int p4), .val (.ref b60), .val (.ref b85), .val (.int (Int32.ofNat jp)), .val (.int c1), .val (.int c2), .val (.int (Int32.ofNat 1)), .unset, .unset, .unset, .unset] [(.ref b169)])) (fun t k => st207 t k) ?_
    refine Go.st (T' := T207.setTop (mkF m 274 #[.val (.int p1), .val (.int p2), .val (.int p3), .val (.int p4), .val (.ref b60), .val (.ref b85), .val (.int (Int32.ofNat jp)), .val (.int c1), .val (.int c2), .val (.int (Int32.ofNat 1)), .unset, .unset, .unset, .unset] [(.ref b169), (.ref b169)])) (fun t k => XS.dup X207.here hx rfl (hb hby at_273) rfl rfl k) ?_
    refine Go.st (T' := T207.setTop (mkF m 276 #[.val (.int p1), .val (.int p2), .val (.int p3), .val (.int p4), .val (.ref b60), .val (.ref b85), .val (.int (Int32.ofNat jp)), .val (.int c1), .val (.int c2), .val (.int (Int32.ofNat 1)), .unset, .unset, .unset, .unset] [(.int (9 : Int32)), (.ref b169), (.ref b169)])) (fun t k => XS.bipush X207.here hx rfl (hb hby at_274) k) ?_
    refine Go.st (T' := T207.setTop (mkF m 278 #[.val (.int p1), .val (.int p2), .val (.int p3), .val (.int p4), .val (.ref b60), .val (.ref b85), .val (.int (Int32.ofNat jp)), .val (.int c1), .val (.int c2), .val (.int (Int32.ofNat 1)), .unset, .unset, .unset, .unset] [(.ref b85), (.int (9 : Int32)), (.ref b169), (.ref b169)])) (fun t k => XS.aload X207.here hx rfl (hb hby at_276) rfl rfl k) ?_
    refine Go.st (T' := T207.setTop (mkF m 280 #[.val (.int p1), .val (.int p2), .val (.int p3), .val (.int p4), .val (.ref b60), .val (.ref b85), .val (.int (Int32.ofNat jp)), .val (.int c1), .val (.int c2), .val (.int (Int32.ofNat 1)), .unset, .unset, .unset, .unset] [(.int (9 : Int32)), (.ref b85), (.int (9 : Int32)), (.ref b169), (.ref b169)])) (fun t k => XS.bipush X207.here hx rfl (hb hby at_278) k) ?_
    have f209 : Arv Z h207 b85 k85 .char (11 : Int32) [(.int x0), (.int x1), (.int x2), (.int x3), (.int x4), (.int x5), (.int x6), (.int x7), (.int x8), (.int x9), (.int x10)] (.int (0 : Int32)) := (f205.other W207 ne171)
    obtain ⟨cl210, Ar210, q210, S210, M210, H210, G210⟩ := id f209
    have hin210 := ((inb_of S210 ⟨by decide, by decide⟩) : ¬ ((9 : Int32) < 0 ∨ cl210.slots.size ≤ ((9 : Int32)).toNatClampNeg))
    refine Go.st (T' := T207.setTop (mkF m 281 #[.val (.int p1), .val (.int p2), .val (.int p3), .val (.int p4), .val (.ref b60), .val (.ref b85), .val (.int (Int32.ofNat jp)), .val (.int c1), .val (.int c2), .val (.int (Int32.ofNat 1)), .unset, .unset, .unset, .unset] [(.int x9), (.int (9 : Int32)), (.ref b169), (.ref b169)])) (fun t k => X207.caload hx (j := (9 : Int32)) (v := (.int x9)) (by rw [e207]; exact Ar210.1) (State.isArrayOf_alike hZh.alike Ar210.2.1) Ar210.2.2 hin210 (H210.at hin210 rfl) (g := (mkF m 280 #[.val (.int p1), .val (.int p2), .val (.int p3), .val (.int p4), .val (.ref b60), .val (.ref b85), .val (.int (Int32.ofNat jp)), .val (.int c1), .val (.int c2), .val (.int (Int32.ofNat 1)), .unset, .unset, .unset, .unset] [(.int (9 : Int32)), (.ref b85), (.int (9 : Int32)), (.ref b169), (.ref b169)])) rfl rfl (hb hby at_280) t k) ?_
    obtain ⟨cl211, Ar211, q211, S211, M211, H211, G211⟩ := id V207
    obtain ⟨T211, h211, X211, e211, W211, st211⟩ := stC X207 hx hZh e207 Ar211 (j := (9 : Int32)) (inb_of S211 ⟨by decide, by decide⟩) (g := (mkF m 281 #[.val (.int p1), .val (.int p2), .val (.int p3), .val (.int p4), .val (.ref b60), .val (.ref b85), .val (.int (Int32.ofNat jp)), .val (.int c1), .val (.int c2), .val (.int (Int32.ofNat 1)), .unset, .unset, .unset, .unset] [(.int x9), (.int (9 : Int32)), (.ref b169), (.ref b169)])) rfl rfl (hb hby at_281)
    have C212 : CHr Z EL s.vm h0 s.vm h211 := C208.trans (CHr.wr W211 (by obtain ⟨_, A_, _⟩ := id V207; exact Safe.arr hZh.alike A_ (by decide)) C208.1)
    have V211 : Arv Z h211 b169 k169 .char (10 : Int32) [(.int (nar .char x0)), (.int (nar .char x1)), (.int (nar .char x2)), (.int (nar .char x3)), (.int (nar .char x4)), (.int (nar .char x5)), (.int (nar .char x6)), (.int (nar .char x7)), (.int (nar .char x8)), (.int (nar .char x9))] (.int (0 : Int32)) := Arv.set Ar211 q211 S211 M211 H211 G211 (fits_nar_char _) W211 9 rfl (Nat.le_of_ble_eq_true rfl)
    have K211 : Keep h0 h211 [] := K207.wr W211 (Or.inr sz_b169)
    have N211 := Fr.snoc X211 N207 g_b169
    refine Go.st (T' := T211.setTop (mkF m 282 #[.val (.int p1), .val (.int p2), .val (.int p3), .val (.int p4), .val (.ref b60), .val (.ref b85), .val (.int (Int32.ofNat jp)), .val (.int c1), .val (.int c2), .val (.int (Int32.ofNat 1)), .unset, .unset, .unset, .unset] [(.ref b169)])) (fun t k => st211 t k) ?_
    refine Go.st (T' := T211.setTop (mkF m 284 #[.val (.int p1), .val (.int p2), .val (.int p3), .val (.int p4), .val (.ref b60), .val (.ref b85), .val (.int (Int32.ofNat jp)), .val (.int c1), .val (.int c2), .val (.int (Int32.ofNat 1)), .val (.ref b169), .unset, .unset, .unset] [])) (fun t k => XS.astore X211.here hx rfl (hb hby at_282) rfl rfl (l' := #[.val (.int p1), .val (.int p2), .val (.int p3), .val (.int p4), .val (.ref b60), .val (.ref b85), .val (.int (Int32.ofNat jp)), .val (.int c1), .val (.int c2), .val (.int (Int32.ofNat 1)), .val (.ref b169), .unset, .unset, .unset]) rfl k) ?_
    refine Go.st (T' := T211.setTop (mkF m 400 #[.val (.int p1), .val (.int p2), .val (.int p3), .val (.int p4), .val (.ref b60), .val (.ref b85), .val (.int (Int32.ofNat jp)), .val (.int c1), .val (.int c2), .val (.int (Int32.ofNat 1)), .val (.ref b169), .unset, .unset, .unset] [])) (fun t k => XS.goto X211.here hx rfl (pc0 := 284) (pc' := 400) rfl (hb hby at_284) (by decide) (by decide) k) ?_
    obtain ⟨T213, h213, X213, e213, E213, A213, D213, -, st213⟩ := newO X211 hx hZh hownh (hw _ (List.mem_of_getElem? (i := 2) rfl)) (hw _ (List.mem_of_getElem? (i := 3) rfl)) (hw _ (List.mem_of_getElem? (i := 4) rfl)) e211 (g := (mkF m 400 #[.val (.int p1), .val (.int p2), .val (.int p3), .val (.int p4), .val (.ref b60), .val (.ref b85), .val (.int (Int32.ofNat jp)), .val (.int c1), .val (.int c2), .val (.int (Int32.ofNat 1)), .val (.ref b169), .unset, .unset, .unset] [])) rfl (hb hby at_400) (by decide) (by decide)
    obtain ⟨b213, g213⟩ : ∃ z, z = h211.size := ⟨_, rfl⟩
    rw [← g213] at A213 D213 st213
    have g_b213 : n0 ≤ b213 := Nat.le_trans (Nat.le_trans Z0 K211.1) (Nat.le_of_eq g213.symm)
    have sz_b213 : h0.size ≤ b213 := Nat.le_trans K211.1 (Nat.le_of_eq g213.symm)
    have f214 : Arv Z h211 b60 k60 .char (11 : Int32) [(.int (117 : Int32)), (.int (110 : Int32)), (.int (115 : Int32)), (.int (117 : Int32)), (.int (112 : Int32)), (.int (112 : Int32)), (.int (111 : Int32)), (.int (114 : Int32)), (.int (116 : Int32)), (.int (101 : Int32)), (.int (100 : Int32))] (.int (0 : Int32)) := (((((((((((Vb1.ext E169).other W175 ne170).other W179 ne170).other W183 ne170).other W187 ne170).other W191 ne170).other W195 ne170).other W199 ne170).other W203 ne170).other W207 ne170).other W211 ne170)
    have ne215 : b60 ≠ b213 := Nat.ne_of_lt (Nat.lt_of_lt_of_le f214.lt (Nat.le_of_eq g213.symm))
    have f216 : Arv Z h211 b85 k85 .char (11 : Int32) [(.int x0), (.int x1), (.int x2), (.int x3), (.int x4), (.int x5), (.int x6), (.int x7), (.int x8), (.int x9), (.int x10)] (.int (0 : Int32)) := (f209.other W211 ne171)
    have ne217 : b85 ≠ b213 := Nat.ne_of_lt (Nat.lt_of_lt_of_le f216.lt (Nat.le_of_eq g213.symm))
    have ne218 : b169 ≠ b213 := Nat.ne_of_lt (Nat.lt_of_lt_of_le V211.lt (Nat.le_of_eq g213.symm))
    have C219 : CHr Z EL s.vm h0 s.vm h213 := C212.trans (CHr.ext E213 C212.1)
    have K213 : Keep h0 h213 [] := K211.ext E213
    have Fn213_coder : Fld Z h213 b213 "java/lang/String" "coder" "B" (.int (0 : Int32)) := D213 (Or.inr (hw _ (List.mem_of_getElem? (i := 28) rfl))) (ty := .byte) (by decide)
    have Fn213_value : Fld Z h213 b213 "java/lang/String" "value" "[B" .null := D213 (Or.inr (hw _ (List.mem_of_getElem? (i := 30) rfl))) (ty := (.array .byte)) (by decide)
    refine Go.st (T' := T213.setTop (mkF m 403 #[.val (.int p1), .val (.int p2), .val (.int p3), .val (.int p4), .val (.ref b60), .val (.ref b85), .val (.int (Int32.ofNat jp)), .val (.int c1), .val (.int c2), .val (.int (Int32.ofNat 1)), .val (.ref b169), .unset, .unset, .unset] [(.ref b213)])) (fun t k => st213 t k) ?_
    refine Go.st (T' := T213.setTop (mkF m 404 #[.val (.int p1), .val (.int p2), .val (.int p3), .val (.int p4), .val (.ref b60), .val (.ref b85), .val (.int (Int32.ofNat jp)), .val (.int c1), .val (.int c2), .val (.int (Int32.ofNat 1)), .val (.ref b169), .unset, .unset, .unset] [(.ref b213), (.ref b213)])) (fun t k => XS.dup X213.here hx rfl (hb hby at_403) rfl rfl k) ?_
    refine Go.st (T' := T213.setTop (mkF m 406 #[.val (.int p1), .val (.int p2), .val (.int p3), .val (.int p4), .val (.ref b60), .val (.ref b85), .val (.int (Int32.ofNat jp)), .val (.int c1), .val (.int c2), .val (.int (Int32.ofNat 1)), .val (.ref b169), .unset, .unset, .unset] [(.ref b169), (.ref b213), (.ref b213)])) (fun t k => XS.aload X213.here hx rfl (hb hby at_404) rfl rfl k) ?_
    have f220 : Arv Z h213 b169 k169 .char (10 : Int32) [(.int (nar .char x0)), (.int (nar .char x1)), (.int (nar .char x2)), (.int (nar .char x3)), (.int (nar .char x4)), (.int (nar .char x5)), (.int (nar .char x6)), (.int (nar .char x7)), (.int (nar .char x8)), (.int (nar .char x9))] (.int (0 : Int32)) := (V211.ext E213)
    have VS221 : Arv Z h213 b169 k169 .char (10 : Int32) [(.int x0), (.int x1), (.int x2), (.int x3), (.int x4), (.int x5), (.int x6), (.int x7), (.int x8), (.int x9)] (.int (0 : Int32)) := by
      have q := f220
      rw [Hx0.2, Hx1.2, Hx2.2, Hx3.2, Hx4.2, Hx5.2, Hx6.2, Hx7.2, Hx8.2, Hx9.2] at q
      exact q
    have hp : ∀ c ∈ ([x0, x1, x2, x3, x4, x5, x6, x7, x8, x9] : List Int32), ¬ c < 0 ∧ ¬ (255 : Int32) < c := by
      intro c hc
      simp only [List.mem_cons, List.not_mem_nil, or_false] at hc
      rcases hc with rfl | rfl | rfl | rfl | rfl | rfl | rfl | rfl | rfl | rfl
      · exact Hx0.1
      · exact Hx1.1
      · exact Hx2.1
      · exact Hx3.1
      · exact Hx4.1
      · exact Hx5.1
      · exact Hx6.1
      · exact Hx7.1
      · exact Hx8.1
      · exact Hx9.1
    obtain ⟨vr222, _, ⟨T222, L222, k222, n222⟩, -, X222, ⟨Lc222, hQ222, l222, y222, z222⟩, st222⟩ := X213.specialBack hx (y := (⟨"java/lang/String", "<init>", "([C)V"⟩ : MethodName)) rfl hownh (mvT hZh (hw _ (List.mem_of_getElem? (i := 5) rfl))) (mvT hZh (hw _ (List.mem_of_getElem? (i := 6) rfl))) (mvT hZh (hw _ (List.mem_of_getElem? (i := 7) rfl))) (by decide) (StrChars.Road.backV (W := 1) hZh hws (kI := 4) (hw _ (List.mem_of_getElem? (i := 3) rfl)) (cs := ([x0, x1, x2, x3, x4, x5, x6, x7, x8, x9] : List Int32)) (bs := (([x0, x1, x2, x3, x4, x5, x6, x7, x8, x9] : List Int32)).map (fun c => c.toInt8.toInt32)) (n := 10) g_b213 (Nat.le_trans Z0 K213.1) A213 Fn213_value Fn213_coder VS221 (O2.ext (X00.keep K213 all0).2) P5 rfl rfl (by decide) (by decide) hp rfl (by decide) (by decide)) (g := (mkF m 406 #[.val (.int p1), .val (.int p2), .val (.int p3), .val (.int p4), .val (.ref b60), .val (.ref b85), .val (.int (Int32.ofNat jp)), .val (.int c1), .val (.int c2), .val (.int (Int32.ofNat 1)), .val (.ref b169), .unset, .unset, .unset] [(.ref b169), (.ref b213), (.ref b213)])) rfl (by rw [hml]; rfl) (Steps.refl _) (a := b213) (argsL := [(.ref b169)]) (rest := [(.ref b213)]) (lenOf pd_a67b36d rfl) rfl (by show 2 * 0 + _ ≤ _; exact Nat.le_of_eq rfl) (hb hby at_406) (fun _ _ => ⟨rfl, e213, (by decide : 4 + 1 ≤ _), (by decide : 36 + 10 ≤ _)⟩)
    dsimp only [Pt.U, Pt.locs, Pt.cells, Pt.slots] at X222 l222 y222 z222 st222 hQ222
    subst l222 y222 z222
    obtain ⟨rfl, Nq222, Kq222, Eq222, Cq222, t222, kb222, ut222, vt222, wt222, Vq222, Bq222⟩ := hQ222
    have C223 : CHr Z EL s.vm h0 s.vm T222.heap := C219.trans (CHr.keep Kq222 (allS (own_safe hZh.alike A213 Fn213_value) all0) C219.1)
    have KK224 : Keep h0 T222.heap [] := K213.trans Kq222 (allS (Or.inr sz_b213) all0)
    have NN225 := Fr.app N211 Nq222
    refine Go.st (T' := T222.setTop (mkF m 409 #[.val (.int p1), .val (.int p2), .val (.int p3), .val (.int p4), .val (.ref b60), .val (.ref b85), .val (.int (Int32.ofNat jp)), .val (.int c1), .val (.int c2), .val (.int (Int32.ofNat 1)), .val (.ref b169), .unset, .unset, .unset] [(.ref b213)])) (fun t k => st222.trans k) ?_
    refine Go.st (T' := T222.setTop (mkF m 411 #[.val (.int p1), .val (.int p2), .val (.int p3), .val (.int p4), .val (.ref b60), .val (.ref b85), .val (.int (Int32.ofNat jp)), .val (.int c1), .val (.int c2), .val (.int (Int32.ofNat 1)), .val (.ref b169), .val (.ref b213), .unset, .unset] [])) (fun t k => XS.astore X222.here hx rfl (hb hby at_409) rfl rfl (l' := #[.val (.int p1), .val (.int p2), .val (.int p3), .val (.int p4), .val (.ref b60), .val (.ref b85), .val (.int (Int32.ofNat jp)), .val (.int c1), .val (.int c2), .val (.int (Int32.ofNat 1)), .val (.ref b169), .val (.ref b213), .unset, .unset]) rfl k) ?_
    obtain ⟨T226, h226, X226, e226, E226, A226, D226, -, st226⟩ := newO X222 hx hZh hownh (hw _ (List.mem_of_getElem? (i := 31) rfl)) (hw _ (List.mem_of_getElem? (i := 32) rfl)) (hw _ (List.mem_of_getElem? (i := 33) rfl)) rfl (g := (mkF m 411 #[.val (.int p1), .val (.int p2), .val (.int p3), .val (.int p4), .val (.ref b60), .val (.ref b85), .val (.int (Int32.ofNat jp)), .val (.int c1), .val (.int c2), .val (.int (Int32.ofNat 1)), .val (.ref b169), .val (.ref b213), .unset, .unset] [])) rfl (hb hby at_411) (by decide) (by decide)
    obtain ⟨b226, g226⟩ : ∃ z, z = T222.heap.size := ⟨_, rfl⟩
    rw [← g226] at A226 D226 st226
    have g_b226 : n0 ≤ b226 := Nat.le_trans (Nat.le_trans Z0 KK224.1) (Nat.le_of_eq g226.symm)
    have sz_b226 : h0.size ≤ b226 := Nat.le_trans KK224.1 (Nat.le_of_eq g226.symm)
    have f227 : Arv Z T222.heap b60 k60 .char (11 : Int32) [(.int (117 : Int32)), (.int (110 : Int32)), (.int (115 : Int32)), (.int (117 : Int32)), (.int (112 : Int32)), (.int (112 : Int32)), (.int (111 : Int32)), (.int (114 : Int32)), (.int (116 : Int32)), (.int (101 : Int32)), (.int (100 : Int32))] (.int (0 : Int32)) := ((f214.ext E213).keep Kq222 (ninS ne215 nin0))
    have ne228 : b60 ≠ b226 := Nat.ne_of_lt (Nat.lt_of_lt_of_le f227.lt (Nat.le_of_eq g226.symm))
    have f229 : Arv Z T222.heap b85 k85 .char (11 : Int32) [(.int x0), (.int x1), (.int x2), (.int x3), (.int x4), (.int x5), (.int x6), (.int x7), (.int x8), (.int x9), (.int x10)] (.int (0 : Int32)) := ((f216.ext E213).keep Kq222 (ninS ne217 nin0))
    have ne230 : b85 ≠ b226 := Nat.ne_of_lt (Nat.lt_of_lt_of_le f229.lt (Nat.le_of_eq g226.symm))
    have f231 : Arv Z T222.heap b169 k169 .char (10 : Int32) [(.int (nar .char x0)), (.int (nar .char x1)), (.int (nar .char x2)), (.int (nar .char x3)), (.int (nar .char x4)), (.int (nar .char x5)), (.int (nar .char x6)), (.int (nar .char x7)), (.int (nar .char x8)), (.int (nar .char x9))] (.int (0 : Int32)) := (f220.keep Kq222 (ninS ne218 nin0))
    have ne232 : b169 ≠ b226 := Nat.ne_of_lt (Nat.lt_of_lt_of_le f231.lt (Nat.le_of_eq g226.symm))
    have ne233 : b213 ≠ b226 := Nat.ne_of_lt (Nat.lt_of_lt_of_le Eq222.lt (Nat.le_of_eq g226.symm))
    have ne234 : t222 ≠ b226 := Nat.ne_of_lt (Nat.lt_of_lt_of_le Bq222.lt (Nat.le_of_eq g226.symm))
    have C235 : CHr Z EL s.vm h0 s.vm h226 := C223.trans (CHr.ext E226 C223.1)
    have K226 : Keep h0 h226 [] := KK224.ext E226
    have Fn226_update : Fld Z h226 b226 "com/example/bede/bede/model/Explanation" "update" "Ljava/lang/String;" .null := D226 (Or.inr (hw _ (List.mem_of_getElem? (i := 53) rfl))) (ty := (.object "java/lang/String")) (by decide)
    have Fn226_expression : Fld Z h226 b226 "com/example/bede/bede/model/Explanation" "expression" "Ljava/lang/String;" .null := D226 (Or.inr (hw _ (List.mem_of_getElem? (i := 55) rfl))) (ty := (.object "java/lang/String")) (by decide)
    refine Go.st (T' := T226.setTop (mkF m 414 #[.val (.int p1), .val (.int p2), .val (.int p3), .val (.int p4), .val (.ref b60), .val (.ref b85), .val (.int (Int32.ofNat jp)), .val (.int c1), .val (.int c2), .val (.int (Int32.ofNat 1)), .val (.ref b169), .val (.ref b213), .unset, .unset] [(.ref b226)])) (fun t k => st226 t k) ?_
    refine Go.st (T' := T226.setTop (mkF m 415 #[.val (.int p1), .val (.int p2), .val (.int p3), .val (.int p4), .val (.ref b60), .val (.ref b85), .val (.int (Int32.ofNat jp)), .val (.int c1), .val (.int c2), .val (.int (Int32.ofNat 1)), .val (.ref b169), .val (.ref b213), .unset, .unset] [(.ref b226), (.ref b226)])) (fun t k => XS.dup X226.here hx rfl (hb hby at_414) rfl rfl k) ?_
    refine Go.st (T' := T226.setTop (mkF m 416 #[.val (.int p1), .val (.int p2), .val (.int p3), .val (.int p4), .val (.ref b60), .val (.ref b85), .val (.int (Int32.ofNat jp)), .val (.int c1), .val (.int c2), .val (.int (Int32.ofNat 1)), .val (.ref b169), .val (.ref b213), .unset, .unset] [(.int p4), (.ref b226), (.ref b226)])) (fun t k => XS.iloadN X226.here hx rfl (hb hby at_415) rfl k) ?_
    refine Go.st (T' := T226.setTop (mkF m 419 #[.val (.int p1), .val (.int p2), .val (.int p3), .val (.int p4), .val (.ref b60), .val (.ref b85), .val (.int (Int32.ofNat jp)), .val (.int c1), .val (.int c2), .val (.int (Int32.ofNat 1)), .val (.ref b169), .val (.ref b213), .unset, .unset] [(.int (255 : Int32)), (.int p4), (.ref b226), (.ref b226)])) (fun t k => XS.sipush X226.here hx rfl (hb hby at_416) k) ?_
    refine Go.st (T' := T226.setTop (mkF m 420 #[.val (.int p1), .val (.int p2), .val (.int p3), .val (.int p4), .val (.ref b60), .val (.ref b85), .val (.int (Int32.ofNat jp)), .val (.int c1), .val (.int c2), .val (.int (Int32.ofNat 1)), .val (.ref b169), .val (.ref b213), .unset, .unset] [(.int (p4 &&& (255 : Int32))), (.ref b226), (.ref b226)])) (fun t k => XS.iand X226.here hx rfl (hb hby at_419) rfl k) ?_
    refine Go.st (T' := T226.setTop (mkF m 421 #[.val (.int p1), .val (.int p2), .val (.int p3), .val (.int p4), .val (.ref b60), .val (.ref b85), .val (.int (Int32.ofNat jp)), .val (.int c1), .val (.int c2), .val (.int (Int32.ofNat 1)), .val (.ref b169), .val (.ref b213), .unset, .unset] [(.int ((p4 &&& (255 : Int32)).toUInt32.toUInt16.toUInt32.toInt32)), (.ref b226), (.ref b226)])) (fun t k => XS.i2c X226.here hx rfl (hb hby at_420) rfl k) ?_
    obtain ⟨vr236, _, ⟨T236, L236, k236, n236⟩, -, X236, ⟨Lc236, hQ236, l236, y236, z236⟩, st236⟩ := Jvm.LawKit.callS X226 hx (y := (⟨"java/lang/String", "valueOf", "(C)Ljava/lang/String;"⟩ : MethodName)) hownh (mvT hZh (hw _ (List.mem_of_getElem? (i := 34) rfl))) (mvT hZh (hw _ (List.mem_of_getElem? (i := 35) rfl))) (mvT hZh (hw _ (List.mem_of_getElem? (i := 4) rfl))) (mvT hZh (hw _ (List.mem_of_getElem? (i := 36) rfl))) (by decide) (backOf (W := 2) (rmVal l Z a0 hw ((p4 &&& (255 : Int32)).toUInt32.toUInt16.toUInt32.toInt32) h226 n0 (Nat.le_trans Z0 K226.1) G1 O2 P5 (X00.keep K226 all0) (own_C_of _).1.2) hZh (hw _ (List.mem_of_getElem? (i := 36) rfl)) (hw _ (List.mem_of_getElem? (i := 4) rfl)) (by decide) (by decide)) (g := (mkF m 421 #[.val (.int p1), .val (.int p2), .val (.int p3), .val (.int p4), .val (.ref b60), .val (.ref b85), .val (.int (Int32.ofNat jp)), .val (.int c1), .val (.int c2), .val (.int (Int32.ofNat 1)), .val (.ref b169), .val (.ref b213), .unset, .unset] [(.int ((p4 &&& (255 : Int32)).toUInt32.toUInt16.toUInt32.toInt32)), (.ref b226), (.ref b226)])) rfl (by rw [hml]; rfl) (argsL := [(.int ((p4 &&& (255 : Int32)).toUInt32.toUInt16.toUInt32.toInt32))]) (rest := [(.ref b226), (.ref b226)]) (lenOf pd_b5a46ce rfl) rfl (by show 2 * 0 + _ ≤ _; exact Nat.le_of_eq rfl) (hb hby at_421) (fun _ _ => ⟨rfl, e226, (by decide : 6 + 2 ≤ _), (by decide : 48 + 5 ≤ _)⟩)
    dsimp only [Pt.U, Pt.locs, Pt.cells, Pt.slots] at X236 l236 y236 z236 st236 hQ236
    subst l236 y236 z236
    obtain ⟨Nq236, Kq236, y236, rfl⟩ := hQ236
    have C237 : CHr Z EL s.vm h0 s.vm T236.heap := C235.trans (CHr.keep Kq236 all0 C235.1)
    have KK238 : Keep h0 T236.heap [] := K226.trans Kq236 all0
    have NN239 := Fr.app NN225 Nq236
    refine Go.st (T' := T236.setTop (mkF m 424 #[.val (.int p1), .val (.int p2), .val (.int p3), .val (.int p4), .val (.ref b60), .val (.ref b85), .val (.int (Int32.ofNat jp)), .val (.int c1), .val (.int c2), .val (.int (Int32.ofNat 1)), .val (.ref b169), .val (.ref b213), .unset, .unset] [(.ref y236), (.ref b226), (.ref b226)])) (fun t k => st236 t k) ?_
    refine Go.st (T' := T236.setTop (mkF m 426 #[.val (.int p1), .val (.int p2), .val (.int p3), .val (.int p4), .val (.ref b60), .val (.ref b85), .val (.int (Int32.ofNat jp)), .val (.int c1), .val (.int c2), .val (.int (Int32.ofNat 1)), .val (.ref b169), .val (.ref b213), .unset, .unset] [(.ref b213), (.ref y236), (.ref b226), (.ref b226)])) (fun t k => XS.aload X236.here hx rfl (hb hby at_424) rfl rfl k) ?_
    have f240 : Exa Z T236.heap b226 "com/example/bede/bede/model/Explanation" := (A226.keep Kq236)
    have f241 : Fld Z T236.heap b226 "com/example/bede/bede/model/Explanation" "update" "Ljava/lang/String;" .null := (Fn226_update.keep Kq236 nin0)
    have f242 : Fld Z T236.heap b226 "com/example/bede/bede/model/Explanation" "expression" "Ljava/lang/String;" .null := (Fn226_expression.keep Kq236 nin0)
    obtain ⟨vr243, _, ⟨T243, L243, k243, n243⟩, -, X243, ⟨Lc243, hQ243, l243, y243, z243⟩, st243⟩ := X236.specialBack hx (y := (⟨"com/example/bede/bede/model/Explanation", "<init>", "(Ljava/lang/String;Ljava/lang/String;)V"⟩ : MethodName)) rfl hownh (mvT hZh (hw _ (List.mem_of_getElem? (i := 48) rfl))) (mvT hZh (hw _ (List.mem_of_getElem? (i := 49) rfl))) (mvT hZh (hw _ (List.mem_of_getElem? (i := 50) rfl))) (by decide) (backOf (W := 1) (rmEx l Z a0 hw b226 y236 b213 T236.heap n0 (Nat.le_trans Z0 KK238.1) f240 g_b226 f241 f242) hZh (hw _ (List.mem_of_getElem? (i := 50) rfl)) (hw _ (List.mem_of_getElem? (i := 33) rfl)) (by decide) (by decide)) (g := (mkF m 426 #[.val (.int p1), .val (.int p2), .val (.int p3), .val (.int p4), .val (.ref b60), .val (.ref b85), .val (.int (Int32.ofNat jp)), .val (.int c1), .val (.int c2), .val (.int (Int32.ofNat 1)), .val (.ref b169), .val (.ref b213), .unset, .unset] [(.ref b213), (.ref y236), (.ref b226), (.ref b226)])) rfl (by rw [hml]; rfl) (Steps.refl _) (a := b226) (argsL := [(.ref y236), (.ref b213)]) (rest := [(.ref b226)]) (lenOf pd_e442dcf rfl) rfl (by show 2 * 0 + _ ≤ _; exact Nat.le_of_eq rfl) (hb hby at_426) (fun _ _ => ⟨rfl, rfl, (by decide : 8 + 0 ≤ _), (by decide : 53 + 0 ≤ _)⟩)
    dsimp only [Pt.U, Pt.locs, Pt.cells, Pt.slots] at X243 l243 y243 z243 st243 hQ243
    subst l243 y243 z243
    obtain ⟨rfl, Nq243, Kq243, Eq243, Fe243⟩ := hQ243
    have C244 : CHr Z EL s.vm h0 s.vm T243.heap := C237.trans (CHr.keep Kq243 (allS (Safe.exa hZh.alike f240 (by decide) (by decide)) all0) C237.1)
    have KK245 : Keep h0 T243.heap [] := KK238.trans Kq243 (allS (Or.inr sz_b226) all0)
    have NN246 := Fr.app NN239 Nq243
    refine Go.st (T' := T243.setTop (mkF m 429 #[.val (.int p1), .val (.int p2), .val (.int p3), .val (.int p4), .val (.ref b60), .val (.ref b85), .val (.int (Int32.ofNat jp)), .val (.int c1), .val (.int c2), .val (.int (Int32.ofNat 1)), .val (.ref b169), .val (.ref b213), .unset, .unset] [(.ref b226)])) (fun t k => st243.trans k) ?_
    refine Go.st (T' := T243.setTop (mkF m 431 #[.val (.int p1), .val (.int p2), .val (.int p3), .val (.int p4), .val (.ref b60), .val (.ref b85), .val (.int (Int32.ofNat jp)), .val (.int c1), .val (.int c2), .val (.int (Int32.ofNat 1)), .val (.ref b169), .val (.ref b213), .val (.ref b226), .unset] [])) (fun t k => XS.astore X243.here hx rfl (hb hby at_429) rfl rfl (l' := #[.val (.int p1), .val (.int p2), .val (.int p3), .val (.int p4), .val (.ref b60), .val (.ref b85), .val (.int (Int32.ofNat jp)), .val (.int c1), .val (.int c2), .val (.int (Int32.ofNat 1)), .val (.ref b169), .val (.ref b213), .val (.ref b226), .unset]) rfl k) ?_
    refine Go.st (T' := T243.setTop (mkF m 433 #[.val (.int p1), .val (.int p2), .val (.int p3), .val (.int p4), .val (.ref b60), .val (.ref b85), .val (.int (Int32.ofNat jp)), .val (.int c1), .val (.int c2), .val (.int (Int32.ofNat 1)), .val (.ref b169), .val (.ref b213), .val (.ref b226), .unset] [(.int (Int32.ofNat 1))])) (fun t k => XS.iload X243.here hx rfl (hb hby at_431) rfl k) ?_
    refine Go.st (T' := T243.setTop (mkF m 457 #[.val (.int p1), .val (.int p2), .val (.int p3), .val (.int p4), .val (.ref b60), .val (.ref b85), .val (.int (Int32.ofNat jp)), .val (.int c1), .val (.int c2), .val (.int (Int32.ofNat 1)), .val (.ref b169), .val (.ref b213), .val (.ref b226), .unset] [])) (fun t k => XS.ifYes X243.here hx rfl (pc0 := 433) (pc' := 457) rfl (hb hby at_433) rfl ((if0 _ _).trans (feq (by decide)).2) (by decide) (by decide) k) ?_
    refine Go.st (T' := T243.setTop (mkF m 458 #[.val (.int p1), .val (.int p2), .val (.int p3), .val (.int p4), .val (.ref b60), .val (.ref b85), .val (.int (Int32.ofNat jp)), .val (.int c1), .val (.int c2), .val (.int (Int32.ofNat 1)), .val (.ref b169), .val (.ref b213), .val (.ref b226), .unset] [(.int (0 : Int32))])) (fun t k => XS.iconst X243.here hx rfl (hb hby at_457) k) ?_
    refine Go.st (T' := T243.setTop (mkF m 460 #[.val (.int p1), .val (.int p2), .val (.int p3), .val (.int p4), .val (.ref b60), .val (.ref b85), .val (.int (Int32.ofNat jp)), .val (.int c1), .val (.int c2), .val (.int (Int32.ofNat 1)), .val (.ref b169), .val (.ref b213), .val (.ref b226), .val (.int (0 : Int32))] [])) (fun t k => XS.istore X243.here hx rfl (hb hby at_458) rfl (l' := #[.val (.int p1), .val (.int p2), .val (.int p3), .val (.int p4), .val (.ref b60), .val (.ref b85), .val (.int (Int32.ofNat jp)), .val (.int c1), .val (.int c2), .val (.int (Int32.ofNat 1)), .val (.ref b169), .val (.ref b213), .val (.ref b226), .val (.int (0 : Int32))]) rfl k) ?_
    refine Go.st (T' := T243.setTop (mkF m 462 #[.val (.int p1), .val (.int p2), .val (.int p3), .val (.int p4), .val (.ref b60), .val (.ref b85), .val (.int (Int32.ofNat jp)), .val (.int c1), .val (.int c2), .val (.int (Int32.ofNat 1)), .val (.ref b169), .val (.ref b213), .val (.ref b226), .val (.int (0 : Int32))] [(.ref b226)])) (fun t k => XS.aload X243.here hx rfl (hb hby at_460) rfl rfl k) ?_
    have f247 : Exa Z T243.heap b213 "java/lang/String" := (((Eq222.ext E226).keep Kq236).keep Kq243)
    have f248 : Fld Z T243.heap b213 "java/lang/String" "value" "[B" (.ref t222) := (((Vq222.ext E226).keep Kq236 nin0).keep Kq243 (ninS ne233 nin0))
    have f249 : Fld Z T243.heap b213 "java/lang/String" "coder" "B" (.int (0 : Int32)) := (((Cq222.ext E226).keep Kq236 nin0).keep Kq243 (ninS ne233 nin0))
    have f250 : Arv Z T243.heap t222 kb222 .byte (Int32.ofNat (([x0, x1, x2, x3, x4, x5, x6, x7, x8, x9] : List Int32)).length) (((([x0, x1, x2, x3, x4, x5, x6, x7, x8, x9] : List Int32)).map (fun c => c.toInt8.toInt32)).map Value.int) (.int (0 : Int32)) := (((Bq222.ext E226).keep Kq236 nin0).keep Kq243 (ninS ne234 nin0))
    obtain ⟨cq251, kq251, q251a, q251b, q251c⟩ := isOf hZh rfl Eq243
    obtain ⟨vr251, _, ⟨T251, L251, k251, n251⟩, -, X251, hs251, hg251, ⟨Lc251, hQ251, l251, y251, z251⟩, st251⟩ := X243.virtualBackS hx (y := (⟨"com/example/bede/bede/model/Explanation", "isSupported", "()Z"⟩ : MethodName)) (z := (⟨"com/example/bede/bede/model/Explanation", "isSupported", "()Z"⟩ : MethodName)) hownh (mvT hZh (hw _ (List.mem_of_getElem? (i := 56) rfl))) (mvT hZh (hw _ (List.mem_of_getElem? (i := 57) rfl))) (notFace_of_selects (args := #[]) (mvT hZh (hw _ (List.mem_of_getElem? (i := 59) rfl)))) (mvT hZh (hw _ (List.mem_of_getElem? (i := 59) rfl))) (mvT hZh (hw _ (List.mem_of_getElem? (i := 58) rfl))) (by decide) (backOfSH (s := s) (vm0 := s.vm) (W := 0) (rmSup l Z a0 hw b226 b213 t222 kb222 ([x0, x1, x2, x3, x4, x5, x6, x7, x8, x9] : List Int32) T243.heap n0 (Nat.le_trans Z0 KK245.1) G1 O2 P5 (X00.keep KK245 all0) Fe243 f247 f248 f249 f250 hp (Nat.le_of_ble_eq_true rfl) hEL wS) hZh (hw _ (List.mem_of_getElem? (i := 60) rfl)) (hw _ (List.mem_of_getElem? (i := 33) rfl)) (by decide) (by decide) hEL C244.1) q251a q251c (g := (mkF m 462 #[.val (.int p1), .val (.int p2), .val (.int p3), .val (.int p4), .val (.ref b60), .val (.ref b85), .val (.int (Int32.ofNat jp)), .val (.int c1), .val (.int c2), .val (.int (Int32.ofNat 1)), .val (.ref b169), .val (.ref b213), .val (.ref b226), .val (.int (0 : Int32))] [(.ref b226)])) rfl (by rw [hml]; rfl) (Steps.refl _) (argsL := []) (rest := []) (lenOf pd_a8ebd rfl) rfl (by show 2 * 0 + _ ≤ _; exact Nat.le_of_eq rfl) (hb hby at_462) (fun _ _ => ⟨rfl, rfl, (by decide : 8 + 2 ≤ _), (by decide : 53 + 48 ≤ _)⟩)
    dsimp only [Pt.U, Pt.locs, Pt.cells, Pt.slots] at X251 l251 y251 z251 st251 hQ251 hs251 hg251
    subst l251 y251
    obtain ⟨z251, CC251⟩ := z251
    subst z251
    obtain ⟨Nq251, Kq251, r251, rfl, hr251⟩ := hQ251
    obtain ⟨Xr251, hSr251, hZr251, hor251⟩ := rebS (s := s) (vm0 := s.vm) hS0 (by rw [(rfl : T243.heap = T243.heap)]; exact (Nat.zero_le _)) X251 hs251 hg251 hZh hownh
    have C252 : CHr Z EL s.vm h0 T251.vm T251.heap := C244.trans CC251
    have KK253 : Keep h0 T251.heap [] := KK245.trans Kq251 all0
    have NN254 := Fr.app NN246 Nq251
    refine Go.st (T' := T251.setTop (mkF m 465 #[.val (.int p1), .val (.int p2), .val (.int p3), .val (.int p4), .val (.ref b60), .val (.ref b85), .val (.int (Int32.ofNat jp)), .val (.int c1), .val (.int c2), .val (.int (Int32.ofNat 1)), .val (.ref b169), .val (.ref b213), .val (.ref b226), .val (.int (0 : Int32))] [(.int (nar .boolean r251))])) (fun t k => st251.trans k) ?_
    have hr0 : r251 = 1 := by
      rcases hr251 with ⟨-, q⟩ | ⟨q, -⟩
      · exact absurd q (fun q => absurd (congrArg List.length q) (Nat.ne_of_beq_eq_false rfl))
      · exact q
    subst hr0
    refine Go.st (T' := T251.setTop (mkF m 467 #[.val (.int p1), .val (.int p2), .val (.int p3), .val (.int p4), .val (.ref b60), .val (.ref b85), .val (.int (Int32.ofNat jp)), .val (.int c1), .val (.int c2), .val (.int (Int32.ofNat 1)), .val (.ref b169), .val (.ref b213), .val (.ref b226), .val (.int (0 : Int32))] [(.int (0 : Int32)), (.int (nar .boolean (1 : Int32)))])) (fun t k => XS.iload Xr251.here hx rfl (hb hby at_465) rfl k) ?_
    refine Go.st (T' := T251.setTop (mkF m 470 #[.val (.int p1), .val (.int p2), .val (.int p3), .val (.int p4), .val (.ref b60), .val (.ref b85), .val (.int (Int32.ofNat jp)), .val (.int c1), .val (.int c2), .val (.int (Int32.ofNat 1)), .val (.ref b169), .val (.ref b213), .val (.ref b226), .val (.int (0 : Int32))] [(.int (nar .boolean (1 : Int32)))])) (fun t k => XS.ifNo Xr251.here hx rfl (hb hby at_467) rfl ((if0 _ _).trans (teq (by decide)).2) k) ?_
    refine Go.st (T' := T251.setTop (mkF m 471 #[.val (.int p1), .val (.int p2), .val (.int p3), .val (.int p4), .val (.ref b60), .val (.ref b85), .val (.int (Int32.ofNat jp)), .val (.int c1), .val (.int c2), .val (.int (Int32.ofNat 1)), .val (.ref b169), .val (.ref b213), .val (.ref b226), .val (.int (0 : Int32))] [(.int (1 : Int32)), (.int (nar .boolean (1 : Int32)))])) (fun t k => XS.iconst Xr251.here hx rfl (hb hby at_470) k) ?_
    refine Go.st (T' := T251.setTop (mkF m 475 #[.val (.int p1), .val (.int p2), .val (.int p3), .val (.int p4), .val (.ref b60), .val (.ref b85), .val (.int (Int32.ofNat jp)), .val (.int c1), .val (.int c2), .val (.int (Int32.ofNat 1)), .val (.ref b169), .val (.ref b213), .val (.ref b226), .val (.int (0 : Int32))] [(.int (1 : Int32)), (.int (nar .boolean (1 : Int32)))])) (fun t k => XS.goto Xr251.here hx rfl (pc0 := 471) (pc' := 475) rfl (hb hby at_471) (by decide) (by decide) k) ?_
    refine Go.st (T' := T251.setTop (mkF m 478 #[.val (.int p1), .val (.int p2), .val (.int p3), .val (.int p4), .val (.ref b60), .val (.ref b85), .val (.int (Int32.ofNat jp)), .val (.int c1), .val (.int c2), .val (.int (Int32.ofNat 1)), .val (.ref b169), .val (.ref b213), .val (.ref b226), .val (.int (0 : Int32))] [])) (fun t k => XS.icmpNo Xr251.here hx rfl (hb hby at_475) rfl (teq (by decide)).2 k) ?_
    refine Go.st (T' := T251.setTop (mkF m 479 #[.val (.int p1), .val (.int p2), .val (.int p3), .val (.int p4), .val (.ref b60), .val (.ref b85), .val (.int (Int32.ofNat jp)), .val (.int c1), .val (.int c2), .val (.int (Int32.ofNat 1)), .val (.ref b169), .val (.ref b213), .val (.ref b226), .val (.int (0 : Int32))] [(.int (1 : Int32))])) (fun t k => XS.iconst Xr251.here hx rfl (hb hby at_478) k) ?_
    refine Go.st (T' := T251.setTop (mkF m 483 #[.val (.int p1), .val (.int p2), .val (.int p3), .val (.int p4), .val (.ref b60), .val (.ref b85), .val (.int (Int32.ofNat jp)), .val (.int c1), .val (.int c2), .val (.int (Int32.ofNat 1)), .val (.ref b169), .val (.ref b213), .val (.ref b226), .val (.int (0 : Int32))] [(.int (1 : Int32))])) (fun t k => XS.goto Xr251.here hx rfl (pc0 := 479) (pc' := 483) rfl (hb hby at_479) (by decide) (by decide) k) ?_
    exact Go.doneH Xr251 hSr251 (by rw [(rfl : T251.heap = T251.heap)]; exact (Nat.le_refl _)) Bd.notSynchronized (v := some (.int (nar .boolean (1 : Int32)))) (fun h => by rw [Bd.returns] at h; cases h) (fun fs hr => retN Xr251 hx (t := .boolean) Bd.returns (by simp) (hb hby at_483) hr) (by rw [(rfl : T251.heap = T251.heap)]; exact ⟨rfl, NN254⟩) (by decide) (by decide) hZr251 hEL hh rfl C252
  ·
    refine Go.st (T' := T1.setTop (mkF m 194 #[.val (.int p1), .val (.int p2), .val (.int p3), .val (.int p4), .val (.ref b60), .val (.ref b85), .val (.int (Int32.ofNat jp)), .val (.int c1), .val (.int c2), .val (.int (Int32.ofNat 2)), .unset, .unset, .unset, .unset] [])) (fun t k => XS.ifYes X1.here hx rfl (pc0 := 184) (pc' := 194) rfl (hb hby at_184) rfl ((if0 _ _).trans (feq (by decide)).2) (by decide) (by decide) k) ?_
    refine Go.st (T' := T1.setTop (mkF m 196 #[.val (.int p1), .val (.int p2), .val (.int p3), .val (.int p4), .val (.ref b60), .val (.ref b85), .val (.int (Int32.ofNat jp)), .val (.int c1), .val (.int c2), .val (.int (Int32.ofNat 2)), .unset, .unset, .unset, .unset] [(.int (Int32.ofNat 2))])) (fun t k => XS.iload X1.here hx rfl (hb hby at_194) rfl k) ?_
    refine Go.st (T' := T1.setTop (mkF m 197 #[.val (.int p1), .val (.int p2), .val (.int p3), .val (.int p4), .val (.ref b60), .val (.ref b85), .val (.int (Int32.ofNat jp)), .val (.int c1), .val (.int c2), .val (.int (Int32.ofNat 2)), .unset, .unset, .unset, .unset] [(.int (1 : Int32)), (.int (Int32.ofNat 2))])) (fun t k => XS.iconst X1.here hx rfl (hb hby at_196) k) ?_
    refine Go.st (T' := T1.setTop (mkF m 287 #[.val (.int p1), .val (.int p2), .val (.int p3), .val (.int p4), .val (.ref b60), .val (.ref b85), .val (.int (Int32.ofNat jp)), .val (.int c1), .val (.int c2), .val (.int (Int32.ofNat 2)), .unset, .unset, .unset, .unset] [])) (fun t k => XS.icmpYes X1.here hx rfl (pc0 := 197) (pc' := 287) rfl (hb hby at_197) rfl (feq (by decide)).2 (by decide) (by decide) k) ?_
    refine Go.st (T' := T1.setTop (mkF m 289 #[.val (.int p1), .val (.int p2), .val (.int p3), .val (.int p4), .val (.ref b60), .val (.ref b85), .val (.int (Int32.ofNat jp)), .val (.int c1), .val (.int c2), .val (.int (Int32.ofNat 2)), .unset, .unset, .unset, .unset] [(.int (Int32.ofNat 2))])) (fun t k => XS.iload X1.here hx rfl (hb hby at_287) rfl k) ?_
    refine Go.st (T' := T1.setTop (mkF m 290 #[.val (.int p1), .val (.int p2), .val (.int p3), .val (.int p4), .val (.ref b60), .val (.ref b85), .val (.int (Int32.ofNat jp)), .val (.int c1), .val (.int c2), .val (.int (Int32.ofNat 2)), .unset, .unset, .unset, .unset] [(.int (2 : Int32)), (.int (Int32.ofNat 2))])) (fun t k => XS.iconst X1.here hx rfl (hb hby at_289) k) ?_
    refine Go.st (T' := T1.setTop (mkF m 293 #[.val (.int p1), .val (.int p2), .val (.int p3), .val (.int p4), .val (.ref b60), .val (.ref b85), .val (.int (Int32.ofNat jp)), .val (.int c1), .val (.int c2), .val (.int (Int32.ofNat 2)), .unset, .unset, .unset, .unset] [])) (fun t k => XS.icmpNo X1.here hx rfl (hb hby at_290) rfl (teq (by decide)).2 k) ?_
    refine Go.st (T' := T1.setTop (mkF m 295 #[.val (.int p1), .val (.int p2), .val (.int p3), .val (.int p4), .val (.ref b60), .val (.ref b85), .val (.int (Int32.ofNat jp)), .val (.int c1), .val (.int c2), .val (.int (Int32.ofNat 2)), .unset, .unset, .unset, .unset] [(.int (12 : Int32))])) (fun t k => XS.bipush X1.here hx rfl (hb hby at_293) k) ?_
    obtain ⟨T255, h255, k255, X255, e255, E255, A255, st255⟩ := newP X1 hx hZh (hw _ (List.mem_of_getElem? (i := 0) rfl)) e1 (g := (mkF m 295 #[.val (.int p1), .val (.int p2), .val (.int p3), .val (.int p4), .val (.ref b60), .val (.ref b85), .val (.int (Int32.ofNat jp)), .val (.int c1), .val (.int c2), .val (.int (Int32.ofNat 2)), .unset, .unset, .unset, .unset] [(.int (12 : Int32))])) rfl (hb hby at_295) rfl (by decide) (cap := 12) (by decide) (by decide) (by decide) (by decide)
    obtain ⟨b255, g255⟩ : ∃ z, z = h1.size := ⟨_, rfl⟩
    rw [← g255] at A255 st255
    have g_b255 : n0 ≤ b255 := Nat.le_trans (Nat.le_trans Z0 K1.1) (Nat.le_of_eq g255.symm)
    have sz_b255 : h0.size ≤ b255 := Nat.le_trans K1.1 (Nat.le_of_eq g255.symm)
    have ne256 : b60 ≠ b255 := Nat.ne_of_lt (Nat.lt_of_lt_of_le Vb1.lt (Nat.le_of_eq g255.symm))
    have ne257 : b85 ≠ b255 := Nat.ne_of_lt (Nat.lt_of_lt_of_le Va1.lt (Nat.le_of_eq g255.symm))
    have C258 : CHr Z EL s.vm h0 s.vm h255 := C1.trans (CHr.ext E255 C1.1)
    have K255 : Keep h0 h255 [] := K1.ext E255
    have V255 : Arv Z h255 b255 k255 .char (12 : Int32) [(.int (0 : Int32)), (.int (0 : Int32)), (.int (0 : Int32)), (.int (0 : Int32)), (.int (0 : Int32)), (.int (0 : Int32)), (.int (0 : Int32)), (.int (0 : Int32)), (.int (0 : Int32)), (.int (0 : Int32)), (.int (0 : Int32)), (.int (0 : Int32))] (.int (0 : Int32)) := (Arv.new A255 (by decide)).pad (pad_rep [] (.int (0 : Int32)) 12)
    refine Go.st (T' := T255.setTop (mkF m 297 #[.val (.int p1), .val (.int p2), .val (.int p3), .val (.int p4), .val (.ref b60), .val (.ref b85), .val (.int (Int32.ofNat jp)), .val (.int c1), .val (.int c2), .val (.int (Int32.ofNat 2)), .unset, .unset, .unset, .unset] [(.ref b255)])) (fun t k => st255 t k) ?_
    refine Go.st (T' := T255.setTop (mkF m 298 #[.val (.int p1), .val (.int p2), .val (.int p3), .val (.int p4), .val (.ref b60), .val (.ref b85), .val (.int (Int32.ofNat jp)), .val (.int c1), .val (.int c2), .val (.int (Int32.ofNat 2)), .unset, .unset, .unset, .unset] [(.ref b255), (.ref b255)])) (fun t k => XS.dup X255.here hx rfl (hb hby at_297) rfl rfl k) ?_
    refine Go.st (T' := T255.setTop (mkF m 299 #[.val (.int p1), .val (.int p2), .val (.int p3), .val (.int p4), .val (.ref b60), .val (.ref b85), .val (.int (Int32.ofNat jp)), .val (.int c1), .val (.int c2), .val (.int (Int32.ofNat 2)), .unset, .unset, .unset, .unset] [(.int (0 : Int32)), (.ref b255), (.ref b255)])) (fun t k => XS.iconst X255.here hx rfl (hb hby at_298) k) ?_
    refine Go.st (T' := T255.setTop (mkF m 301 #[.val (.int p1), .val (.int p2), .val (.int p3), .val (.int p4), .val (.ref b60), .val (.ref b85), .val (.int (Int32.ofNat jp)), .val (.int c1), .val (.int c2), .val (.int (Int32.ofNat 2)), .unset, .unset, .unset, .unset] [(.ref b85), (.int (0 : Int32)), (.ref b255), (.ref b255)])) (fun t k => XS.aload X255.here hx rfl (hb hby at_299) rfl rfl k) ?_
    refine Go.st (T' := T255.setTop (mkF m 302 #[.val (.int p1), .val (.int p2), .val (.int p3), .val (.int p4), .val (.ref b60), .val (.ref b85), .val (.int (Int32.ofNat jp)), .val (.int c1), .val (.int c2), .val (.int (Int32.ofNat 2)), .unset, .unset, .unset, .unset] [(.int (0 : Int32)), (.ref b85), (.int (0 : Int32)), (.ref b255), (.ref b255)])) (fun t k => XS.iconst X255.here hx rfl (hb hby at_301) k) ?_
    have f259 : Arv Z h255 b85 k85 .char (11 : Int32) [(.int x0), (.int x1), (.int x2), (.int x3), (.int x4), (.int x5), (.int x6), (.int x7), (.int x8), (.int x9), (.int x10)] (.int (0 : Int32)) := (Va1.ext E255)
    obtain ⟨cl260, Ar260, q260, S260, M260, H260, G260⟩ := id f259
    have hin260 := ((inb_of S260 ⟨by decide, by decide⟩) : ¬ ((0 : Int32) < 0 ∨ cl260.slots.size ≤ ((0 : Int32)).toNatClampNeg))
    refine Go.st (T' := T255.setTop (mkF m 303 #[.val (.int p1), .val (.int p2), .val (.int p3), .val (.int p4), .val (.ref b60), .val (.ref b85), .val (.int (Int32.ofNat jp)), .val (.int c1), .val (.int c2), .val (.int (Int32.ofNat 2)), .unset, .unset, .unset, .unset] [(.int x0), (.int (0 : Int32)), (.ref b255), (.ref b255)])) (fun t k => X255.caload hx (j := (0 : Int32)) (v := (.int x0)) (by rw [e255]; exact Ar260.1) (State.isArrayOf_alike hZh.alike Ar260.2.1) Ar260.2.2 hin260 (H260.at hin260 rfl) (g := (mkF m 302 #[.val (.int p1), .val (.int p2), .val (.int p3), .val (.int p4), .val (.ref b60), .val (.ref b85), .val (.int (Int32.ofNat jp)), .val (.int c1), .val (.int c2), .val (.int (Int32.ofNat 2)), .unset, .unset, .unset, .unset] [(.int (0 : Int32)), (.ref b85), (.int (0 : Int32)), (.ref b255), (.ref b255)])) rfl rfl (hb hby at_302) t k) ?_
    obtain ⟨cl261, Ar261, q261, S261, M261, H261, G261⟩ := id V255
    obtain ⟨T261, h261, X261, e261, W261, st261⟩ := stC X255 hx hZh e255 Ar261 (j := (0 : Int32)) (inb_of S261 ⟨by decide, by decide⟩) (g := (mkF m 303 #[.val (.int p1), .val (.int p2), .val (.int p3), .val (.int p4), .val (.ref b60), .val (.ref b85), .val (.int (Int32.ofNat jp)), .val (.int c1), .val (.int c2), .val (.int (Int32.ofNat 2)), .unset, .unset, .unset, .unset] [(.int x0), (.int (0 : Int32)), (.ref b255), (.ref b255)])) rfl rfl (hb hby at_303)
    have C262 : CHr Z EL s.vm h0 s.vm h261 := C258.trans (CHr.wr W261 (by obtain ⟨_, A_, _⟩ := id V255; exact Safe.arr hZh.alike A_ (by decide)) C258.1)
    have V261 : Arv Z h261 b255 k255 .char (12 : Int32) [(.int (nar .char x0)), (.int (0 : Int32)), (.int (0 : Int32)), (.int (0 : Int32)), (.int (0 : Int32)), (.int (0 : Int32)), (.int (0 : Int32)), (.int (0 : Int32)), (.int (0 : Int32)), (.int (0 : Int32)), (.int (0 : Int32)), (.int (0 : Int32))] (.int (0 : Int32)) := Arv.set Ar261 q261 S261 M261 H261 G261 (fits_nar_char _) W261 0 rfl (Nat.le_of_ble_eq_true rfl)
    have K261 : Keep h0 h261 [] := K255.wr W261 (Or.inr sz_b255)
    have N261 := Fr.snoc X261 N1 g_b255
    refine Go.st (T' := T261.setTop (mkF m 304 #[.val (.int p1), .val (.int p2), .val (.int p3), .val (.int p4), .val (.ref b60), .val (.ref b85), .val (.int (Int32.ofNat jp)), .val (.int c1), .val (.int c2), .val (.int (Int32.ofNat 2)), .unset, .unset, .unset, .unset] [(.ref b255)])) (fun t k => st261 t k) ?_
    refine Go.st (T' := T261.setTop (mkF m 305 #[.val (.int p1), .val (.int p2), .val (.int p3), .val (.int p4), .val (.ref b60), .val (.ref b85), .val (.int (Int32.ofNat jp)), .val (.int c1), .val (.int c2), .val (.int (Int32.ofNat 2)), .unset, .unset, .unset, .unset] [(.ref b255), (.ref b255)])) (fun t k => XS.dup X261.here hx rfl (hb hby at_304) rfl rfl k) ?_
    refine Go.st (T' := T261.setTop (mkF m 306 #[.val (.int p1), .val (.int p2), .val (.int p3), .val (.int p4), .val (.ref b60), .val (.ref b85), .val (.int (Int32.ofNat jp)), .val (.int c1), .val (.int c2), .val (.int (Int32.ofNat 2)), .unset, .unset, .unset, .unset] [(.int (1 : Int32)), (.ref b255), (.ref b255)])) (fun t k => XS.iconst X261.here hx rfl (hb hby at_305) k) ?_
    refine Go.st (T' := T261.setTop (mkF m 308 #[.val (.int p1), .val (.int p2), .val (.int p3), .val (.int p4), .val (.ref b60), .val (.ref b85), .val (.int (Int32.ofNat jp)), .val (.int c1), .val (.int c2), .val (.int (Int32.ofNat 2)), .unset, .unset, .unset, .unset] [(.ref b85), (.int (1 : Int32)), (.ref b255), (.ref b255)])) (fun t k => XS.aload X261.here hx rfl (hb hby at_306) rfl rfl k) ?_
    refine Go.st (T' := T261.setTop (mkF m 309 #[.val (.int p1), .val (.int p2), .val (.int p3), .val (.int p4), .val (.ref b60), .val (.ref b85), .val (.int (Int32.ofNat jp)), .val (.int c1), .val (.int c2), .val (.int (Int32.ofNat 2)), .unset, .unset, .unset, .unset] [(.int (1 : Int32)), (.ref b85), (.int (1 : Int32)), (.ref b255), (.ref b255)])) (fun t k => XS.iconst X261.here hx rfl (hb hby at_308) k) ?_
    have f263 : Arv Z h261 b85 k85 .char (11 : Int32) [(.int x0), (.int x1), (.int x2), (.int x3), (.int x4), (.int x5), (.int x6), (.int x7), (.int x8), (.int x9), (.int x10)] (.int (0 : Int32)) := (f259.other W261 ne257)
    obtain ⟨cl264, Ar264, q264, S264, M264, H264, G264⟩ := id f263
    have hin264 := ((inb_of S264 ⟨by decide, by decide⟩) : ¬ ((1 : Int32) < 0 ∨ cl264.slots.size ≤ ((1 : Int32)).toNatClampNeg))
    refine Go.st (T' := T261.setTop (mkF m 310 #[.val (.int p1), .val (.int p2), .val (.int p3), .val (.int p4), .val (.ref b60), .val (.ref b85), .val (.int (Int32.ofNat jp)), .val (.int c1), .val (.int c2), .val (.int (Int32.ofNat 2)), .unset, .unset, .unset, .unset] [(.int x1), (.int (1 : Int32)), (.ref b255), (.ref b255)])) (fun t k => X261.caload hx (j := (1 : Int32)) (v := (.int x1)) (by rw [e261]; exact Ar264.1) (State.isArrayOf_alike hZh.alike Ar264.2.1) Ar264.2.2 hin264 (H264.at hin264 rfl) (g := (mkF m 309 #[.val (.int p1), .val (.int p2), .val (.int p3), .val (.int p4), .val (.ref b60), .val (.ref b85), .val (.int (Int32.ofNat jp)), .val (.int c1), .val (.int c2), .val (.int (Int32.ofNat 2)), .unset, .unset, .unset, .unset] [(.int (1 : Int32)), (.ref b85), (.int (1 : Int32)), (.ref b255), (.ref b255)])) rfl rfl (hb hby at_309) t k) ?_
    obtain ⟨cl265, Ar265, q265, S265, M265, H265, G265⟩ := id V261
    obtain ⟨T265, h265, X265, e265, W265, st265⟩ := stC X261 hx hZh e261 Ar265 (j := (1 : Int32)) (inb_of S265 ⟨by decide, by decide⟩) (g := (mkF m 310 #[.val (.int p1), .val (.int p2), .val (.int p3), .val (.int p4), .val (.ref b60), .val (.ref b85), .val (.int (Int32.ofNat jp)), .val (.int c1), .val (.int c2), .val (.int (Int32.ofNat 2)), .unset, .unset, .unset, .unset] [(.int x1), (.int (1 : Int32)), (.ref b255), (.ref b255)])) rfl rfl (hb hby at_310)
    have C266 : CHr Z EL s.vm h0 s.vm h265 := C262.trans (CHr.wr W265 (by obtain ⟨_, A_, _⟩ := id V261; exact Safe.arr hZh.alike A_ (by decide)) C262.1)
    have V265 : Arv Z h265 b255 k255 .char (12 : Int32) [(.int (nar .char x0)), (.int (nar .char x1)), (.int (0 : Int32)), (.int (0 : Int32)), (.int (0 : Int32)), (.int (0 : Int32)), (.int (0 : Int32)), (.int (0 : Int32)), (.int (0 : Int32)), (.int (0 : Int32)), (.int (0 : Int32)), (.int (0 : Int32))] (.int (0 : Int32)) := Arv.set Ar265 q265 S265 M265 H265 G265 (fits_nar_char _) W265 1 rfl (Nat.le_of_ble_eq_true rfl)
    have K265 : Keep h0 h265 [] := K261.wr W265 (Or.inr sz_b255)
    have N265 := Fr.snoc X265 N261 g_b255
    refine Go.st (T' := T265.setTop (mkF m 311 #[.val (.int p1), .val (.int p2), .val (.int p3), .val (.int p4), .val (.ref b60), .val (.ref b85), .val (.int (Int32.ofNat jp)), .val (.int c1), .val (.int c2), .val (.int (Int32.ofNat 2)), .unset, .unset, .unset, .unset] [(.ref b255)])) (fun t k => st265 t k) ?_
    refine Go.st (T' := T265.setTop (mkF m 312 #[.val (.int p1), .val (.int p2), .val (.int p3), .val (.int p4), .val (.ref b60), .val (.ref b85), .val (.int (Int32.ofNat jp)), .val (.int c1), .val (.int c2), .val (.int (Int32.ofNat 2)), .unset, .unset, .unset, .unset] [(.ref b255), (.ref b255)])) (fun t k => XS.dup X265.here hx rfl (hb hby at_311) rfl rfl k) ?_
    refine Go.st (T' := T265.setTop (mkF m 313 #[.val (.int p1), .val (.int p2), .val (.int p3), .val (.int p4), .val (.ref b60), .val (.ref b85), .val (.int (Int32.ofNat jp)), .val (.int c1), .val (.int c2), .val (.int (Int32.ofNat 2)), .unset, .unset, .unset, .unset] [(.int (2 : Int32)), (.ref b255), (.ref b255)])) (fun t k => XS.iconst X265.here hx rfl (hb hby at_312) k) ?_
    refine Go.st (T' := T265.setTop (mkF m 315 #[.val (.int p1), .val (.int p2), .val (.int p3), .val (.int p4), .val (.ref b60), .val (.ref b85), .val (.int (Int32.ofNat jp)), .val (.int c1), .val (.int c2), .val (.int (Int32.ofNat 2)), .unset, .unset, .unset, .unset] [(.ref b85), (.int (2 : Int32)), (.ref b255), (.ref b255)])) (fun t k => XS.aload X265.here hx rfl (hb hby at_313) rfl rfl k) ?_
    refine Go.st (T' := T265.setTop (mkF m 316 #[.val (.int p1), .val (.int p2), .val (.int p3), .val (.int p4), .val (.ref b60), .val (.ref b85), .val (.int (Int32.ofNat jp)), .val (.int c1), .val (.int c2), .val (.int (Int32.ofNat 2)), .unset, .unset, .unset, .unset] [(.int (2 : Int32)), (.ref b85), (.int (2 : Int32)), (.ref b255), (.ref b255)])) (fun t k => XS.iconst X265.here hx rfl (hb hby at_315) k) ?_
    have f267 : Arv Z h265 b85 k85 .char (11 : Int32) [(.int x0), (.int x1), (.int x2), (.int x3), (.int x4), (.int x5), (.int x6), (.int x7), (.int x8), (.int x9), (.int x10)] (.int (0 : Int32)) := (f263.other W265 ne257)
    obtain ⟨cl268, Ar268, q268, S268, M268, H268, G268⟩ := id f267
    have hin268 := ((inb_of S268 ⟨by decide, by decide⟩) : ¬ ((2 : Int32) < 0 ∨ cl268.slots.size ≤ ((2 : Int32)).toNatClampNeg))
    refine Go.st (T' := T265.setTop (mkF m 317 #[.val (.int p1), .val (.int p2), .val (.int p3), .val (.int p4), .val (.ref b60), .val (.ref b85), .val (.int (Int32.ofNat jp)), .val (.int c1), .val (.int c2), .val (.int (Int32.ofNat 2)), .unset, .unset, .unset, .unset] [(.int x2), (.int (2 : Int32)), (.ref b255), (.ref b255)])) (fun t k => X265.caload hx (j := (2 : Int32)) (v := (.int x2)) (by rw [e265]; exact Ar268.1) (State.isArrayOf_alike hZh.alike Ar268.2.1) Ar268.2.2 hin268 (H268.at hin268 rfl) (g := (mkF m 316 #[.val (.int p1), .val (.int p2), .val (.int p3), .val (.int p4), .val (.ref b60), .val (.ref b85), .val (.int (Int32.ofNat jp)), .val (.int c1), .val (.int c2), .val (.int (Int32.ofNat 2)), .unset, .unset, .unset, .unset] [(.int (2 : Int32)), (.ref b85), (.int (2 : Int32)), (.ref b255), (.ref b255)])) rfl rfl (hb hby at_316) t k) ?_
    obtain ⟨cl269, Ar269, q269, S269, M269, H269, G269⟩ := id V265
    obtain ⟨T269, h269, X269, e269, W269, st269⟩ := stC X265 hx hZh e265 Ar269 (j := (2 : Int32)) (inb_of S269 ⟨by decide, by decide⟩) (g := (mkF m 317 #[.val (.int p1), .val (.int p2), .val (.int p3), .val (.int p4), .val (.ref b60), .val (.ref b85), .val (.int (Int32.ofNat jp)), .val (.int c1), .val (.int c2), .val (.int (Int32.ofNat 2)), .unset, .unset, .unset, .unset] [(.int x2), (.int (2 : Int32)), (.ref b255), (.ref b255)])) rfl rfl (hb hby at_317)
    have C270 : CHr Z EL s.vm h0 s.vm h269 := C266.trans (CHr.wr W269 (by obtain ⟨_, A_, _⟩ := id V265; exact Safe.arr hZh.alike A_ (by decide)) C266.1)
    have V269 : Arv Z h269 b255 k255 .char (12 : Int32) [(.int (nar .char x0)), (.int (nar .char x1)), (.int (nar .char x2)), (.int (0 : Int32)), (.int (0 : Int32)), (.int (0 : Int32)), (.int (0 : Int32)), (.int (0 : Int32)), (.int (0 : Int32)), (.int (0 : Int32)), (.int (0 : Int32)), (.int (0 : Int32))] (.int (0 : Int32)) := Arv.set Ar269 q269 S269 M269 H269 G269 (fits_nar_char _) W269 2 rfl (Nat.le_of_ble_eq_true rfl)
    have K269 : Keep h0 h269 [] := K265.wr W269 (Or.inr sz_b255)
    have N269 := Fr.snoc X269 N265 g_b255
    refine Go.st (T' := T269.setTop (mkF m 318 #[.val (.int p1), .val (.int p2), .val (.int p3), .val (.int p4), .val (.ref b60), .val (.ref b85), .val (.int (Int32.ofNat jp)), .val (.int c1), .val (.int c2), .val (.int (Int32.ofNat 2)), .unset, .unset, .unset, .unset] [(.ref b255)])) (fun t k => st269 t k) ?_
    refine Go.st (T' := T269.setTop (mkF m 319 #[.val (.int p1), .val (.int p2), .val (.int p3), .val (.int p4), .val (.ref b60), .val (.ref b85), .val (.int (Int32.ofNat jp)), .val (.int c1), .val (.int c2), .val (.int (Int32.ofNat 2)), .unset, .unset, .unset, .unset] [(.ref b255), (.ref b255)])) (fun t k => XS.dup X269.here hx rfl (hb hby at_318) rfl rfl k) ?_
    refine Go.st (T' := T269.setTop (mkF m 320 #[.val (.int p1), .val (.int p2), .val (.int p3), .val (.int p4), .val (.ref b60), .val (.ref b85), .val (.int (Int32.ofNat jp)), .val (.int c1), .val (.int c2), .val (.int (Int32.ofNat 2)), .unset, .unset, .unset, .unset] [(.int (3 : Int32)), (.ref b255), (.ref b255)])) (fun t k => XS.iconst X269.here hx rfl (hb hby at_319) k) ?_
    refine Go.st (T' := T269.setTop (mkF m 322 #[.val (.int p1), .val (.int p2), .val (.int p3), .val (.int p4), .val (.ref b60), .val (.ref b85), .val (.int (Int32.ofNat jp)), .val (.int c1), .val (.int c2), .val (.int (Int32.ofNat 2)), .unset, .unset, .unset, .unset] [(.ref b85), (.int (3 : Int32)), (.ref b255), (.ref b255)])) (fun t k => XS.aload X269.here hx rfl (hb hby at_320) rfl rfl k) ?_
    refine Go.st (T' := T269.setTop (mkF m 323 #[.val (.int p1), .val (.int p2), .val (.int p3), .val (.int p4), .val (.ref b60), .val (.ref b85), .val (.int (Int32.ofNat jp)), .val (.int c1), .val (.int c2), .val (.int (Int32.ofNat 2)), .unset, .unset, .unset, .unset] [(.int (3 : Int32)), (.ref b85), (.int (3 : Int32)), (.ref b255), (.ref b255)])) (fun t k => XS.iconst X269.here hx rfl (hb hby at_322) k) ?_
    have f271 : Arv Z h269 b85 k85 .char (11 : Int32) [(.int x0), (.int x1), (.int x2), (.int x3), (.int x4), (.int x5), (.int x6), (.int x7), (.int x8), (.int x9), (.int x10)] (.int (0 : Int32)) := (f267.other W269 ne257)
    obtain ⟨cl272, Ar272, q272, S272, M272, H272, G272⟩ := id f271
    have hin272 := ((inb_of S272 ⟨by decide, by decide⟩) : ¬ ((3 : Int32) < 0 ∨ cl272.slots.size ≤ ((3 : Int32)).toNatClampNeg))
    refine Go.st (T' := T269.setTop (mkF m 324 #[.val (.int p1), .val (.int p2), .val (.int p3), .val (.int p4), .val (.ref b60), .val (.ref b85), .val (.int (Int32.ofNat jp)), .val (.int c1), .val (.int c2), .val (.int (Int32.ofNat 2)), .unset, .unset, .unset, .unset] [(.int x3), (.int (3 : Int32)), (.ref b255), (.ref b255)])) (fun t k => X269.caload hx (j := (3 : Int32)) (v := (.int x3)) (by rw [e269]; exact Ar272.1) (State.isArrayOf_alike hZh.alike Ar272.2.1) Ar272.2.2 hin272 (H272.at hin272 rfl) (g := (mkF m 323 #[.val (.int p1), .val (.int p2), .val (.int p3), .val (.int p4), .val (.ref b60), .val (.ref b85), .val (.int (Int32.ofNat jp)), .val (.int c1), .val (.int c2), .val (.int (Int32.ofNat 2)), .unset, .unset, .unset, .unset] [(.int (3 : Int32)), (.ref b85), (.int (3 : Int32)), (.ref b255), (.ref b255)])) rfl rfl (hb hby at_323) t k) ?_
    obtain ⟨cl273, Ar273, q273, S273, M273, H273, G273⟩ := id V269
    obtain ⟨T273, h273, X273, e273, W273, st273⟩ := stC X269 hx hZh e269 Ar273 (j := (3 : Int32)) (inb_of S273 ⟨by decide, by decide⟩) (g := (mkF m 324 #[.val (.int p1), .val (.int p2), .val (.int p3), .val (.int p4), .val (.ref b60), .val (.ref b85), .val (.int (Int32.ofNat jp)), .val (.int c1), .val (.int c2), .val (.int (Int32.ofNat 2)), .unset, .unset, .unset, .unset] [(.int x3), (.int (3 : Int32)), (.ref b255), (.ref b255)])) rfl rfl (hb hby at_324)
    have C274 : CHr Z EL s.vm h0 s.vm h273 := C270.trans (CHr.wr W273 (by obtain ⟨_, A_, _⟩ := id V269; exact Safe.arr hZh.alike A_ (by decide)) C270.1)
    have V273 : Arv Z h273 b255 k255 .char (12 : Int32) [(.int (nar .char x0)), (.int (nar .char x1)), (.int (nar .char x2)), (.int (nar .char x3)), (.int (0 : Int32)), (.int (0 : Int32)), (.int (0 : Int32)), (.int (0 : Int32)), (.int (0 : Int32)), (.int (0 : Int32)), (.int (0 : Int32)), (.int (0 : Int32))] (.int (0 : Int32)) := Arv.set Ar273 q273 S273 M273 H273 G273 (fits_nar_char _) W273 3 rfl (Nat.le_of_ble_eq_true rfl)
    have K273 : Keep h0 h273 [] := K269.wr W273 (Or.inr sz_b255)
    have N273 := Fr.snoc X273 N269 g_b255
    refine Go.st (T' := T273.setTop (mkF m 325 #[.val (.int p1), .val (.int p2), .val (.int p3), .val (.int p4), .val (.ref b60), .val (.ref b85), .val (.int (Int32.ofNat jp)), .val (.int c1), .val (.int c2), .val (.int (Int32.ofNat 2)), .unset, .unset, .unset, .unset] [(.ref b255)])) (fun t k => st273 t k) ?_
    refine Go.st (T' := T273.setTop (mkF m 326 #[.val (.int p1), .val (.int p2), .val (.int p3), .val (.int p4), .val (.ref b60), .val (.ref b85), .val (.int (Int32.ofNat jp)), .val (.int c1), .val (.int c2), .val (.int (Int32.ofNat 2)), .unset, .unset, .unset, .unset] [(.ref b255), (.ref b255)])) (fun t k => XS.dup X273.here hx rfl (hb hby at_325) rfl rfl k) ?_
    refine Go.st (T' := T273.setTop (mkF m 327 #[.val (.int p1), .val (.int p2), .val (.int p3), .val (.int p4), .val (.ref b60), .val (.ref b85), .val (.int (Int32.ofNat jp)), .val (.int c1), .val (.int c2), .val (.int (Int32.ofNat 2)), .unset, .unset, .unset, .unset] [(.int (4 : Int32)), (.ref b255), (.ref b255)])) (fun t k => XS.iconst X273.here hx rfl (hb hby at_326) k) ?_
    refine Go.st (T' := T273.setTop (mkF m 329 #[.val (.int p1), .val (.int p2), .val (.int p3), .val (.int p4), .val (.ref b60), .val (.ref b85), .val (.int (Int32.ofNat jp)), .val (.int c1), .val (.int c2), .val (.int (Int32.ofNat 2)), .unset, .unset, .unset, .unset] [(.ref b85), (.int (4 : Int32)), (.ref b255), (.ref b255)])) (fun t k => XS.aload X273.here hx rfl (hb hby at_327) rfl rfl k) ?_
    refine Go.st (T' := T273.setTop (mkF m 330 #[.val (.int p1), .val (.int p2), .val (.int p3), .val (.int p4), .val (.ref b60), .val (.ref b85), .val (.int (Int32.ofNat jp)), .val (.int c1), .val (.int c2), .val (.int (Int32.ofNat 2)), .unset, .unset, .unset, .unset] [(.int (4 : Int32)), (.ref b85), (.int (4 : Int32)), (.ref b255), (.ref b255)])) (fun t k => XS.iconst X273.here hx rfl (hb hby at_329) k) ?_
    have f275 : Arv Z h273 b85 k85 .char (11 : Int32) [(.int x0), (.int x1), (.int x2), (.int x3), (.int x4), (.int x5), (.int x6), (.int x7), (.int x8), (.int x9), (.int x10)] (.int (0 : Int32)) := (f271.other W273 ne257)
    obtain ⟨cl276, Ar276, q276, S276, M276, H276, G276⟩ := id f275
    have hin276 := ((inb_of S276 ⟨by decide, by decide⟩) : ¬ ((4 : Int32) < 0 ∨ cl276.slots.size ≤ ((4 : Int32)).toNatClampNeg))
    refine Go.st (T' := T273.setTop (mkF m 331 #[.val (.int p1), .val (.int p2), .val (.int p3), .val (.int p4), .val (.ref b60), .val (.ref b85), .val (.int (Int32.ofNat jp)), .val (.int c1), .val (.int c2), .val (.int (Int32.ofNat 2)), .unset, .unset, .unset, .unset] [(.int x4), (.int (4 : Int32)), (.ref b255), (.ref b255)])) (fun t k => X273.caload hx (j := (4 : Int32)) (v := (.int x4)) (by rw [e273]; exact Ar276.1) (State.isArrayOf_alike hZh.alike Ar276.2.1) Ar276.2.2 hin276 (H276.at hin276 rfl) (g := (mkF m 330 #[.val (.int p1), .val (.int p2), .val (.int p3), .val (.int p4), .val (.ref b60), .val (.ref b85), .val (.int (Int32.ofNat jp)), .val (.int c1), .val (.int c2), .val (.int (Int32.ofNat 2)), .unset, .unset, .unset, .unset] [(.int (4 : Int32)), (.ref b85), (.int (4 : Int32)), (.ref b255), (.ref b255)])) rfl rfl (hb hby at_330) t k) ?_
    obtain ⟨cl277, Ar277, q277, S277, M277, H277, G277⟩ := id V273
    obtain ⟨T277, h277, X277, e277, W277, st277⟩ := stC X273 hx hZh e273 Ar277 (j := (4 : Int32)) (inb_of S277 ⟨by decide, by decide⟩) (g := (mkF m 331 #[.val (.int p1), .val (.int p2), .val (.int p3), .val (.int p4), .val (.ref b60), .val (.ref b85), .val (.int (Int32.ofNat jp)), .val (.int c1), .val (.int c2), .val (.int (Int32.ofNat 2)), .unset, .unset, .unset, .unset] [(.int x4), (.int (4 : Int32)), (.ref b255), (.ref b255)])) rfl rfl (hb hby at_331)
    have C278 : CHr Z EL s.vm h0 s.vm h277 := C274.trans (CHr.wr W277 (by obtain ⟨_, A_, _⟩ := id V273; exact Safe.arr hZh.alike A_ (by decide)) C274.1)
    have V277 : Arv Z h277 b255 k255 .char (12 : Int32) [(.int (nar .char x0)), (.int (nar .char x1)), (.int (nar .char x2)), (.int (nar .char x3)), (.int (nar .char x4)), (.int (0 : Int32)), (.int (0 : Int32)), (.int (0 : Int32)), (.int (0 : Int32)), (.int (0 : Int32)), (.int (0 : Int32)), (.int (0 : Int32))] (.int (0 : Int32)) := Arv.set Ar277 q277 S277 M277 H277 G277 (fits_nar_char _) W277 4 rfl (Nat.le_of_ble_eq_true rfl)
    have K277 : Keep h0 h277 [] := K273.wr W277 (Or.inr sz_b255)
    have N277 := Fr.snoc X277 N273 g_b255
    refine Go.st (T' := T277.setTop (mkF m 332 #[.val (.int p1), .val (.int p2), .val (.int p3), .val (.int p4), .val (.ref b60), .val (.ref b85), .val (.int (Int32.ofNat jp)), .val (.int c1), .val (.int c2), .val (.int (Int32.ofNat 2)), .unset, .unset, .unset, .unset] [(.ref b255)])) (fun t k => st277 t k) ?_
    refine Go.st (T' := T277.setTop (mkF m 333 #[.val (.int p1), .val (.int p2), .val (.int p3), .val (.int p4), .val (.ref b60), .val (.ref b85), .val (.int (Int32.ofNat jp)), .val (.int c1), .val (.int c2), .val (.int (Int32.ofNat 2)), .unset, .unset, .unset, .unset] [(.ref b255), (.ref b255)])) (fun t k => XS.dup X277.here hx rfl (hb hby at_332) rfl rfl k) ?_
    refine Go.st (T' := T277.setTop (mkF m 334 #[.val (.int p1), .val (.int p2), .val (.int p3), .val (.int p4), .val (.ref b60), .val (.ref b85), .val (.int (Int32.ofNat jp)), .val (.int c1), .val (.int c2), .val (.int (Int32.ofNat 2)), .unset, .unset, .unset, .unset] [(.int (5 : Int32)), (.ref b255), (.ref b255)])) (fun t k => XS.iconst X277.here hx rfl (hb hby at_333) k) ?_
    refine Go.st (T' := T277.setTop (mkF m 336 #[.val (.int p1), .val (.int p2), .val (.int p3), .val (.int p4), .val (.ref b60), .val (.ref b85), .val (.int (Int32.ofNat jp)), .val (.int c1), .val (.int c2), .val (.int (Int32.ofNat 2)), .unset, .unset, .unset, .unset] [(.ref b85), (.int (5 : Int32)), (.ref b255), (.ref b255)])) (fun t k => XS.aload X277.here hx rfl (hb hby at_334) rfl rfl k) ?_
    refine Go.st (T' := T277.setTop (mkF m 337 #[.val (.int p1), .val (.int p2), .val (.int p3), .val (.int p4), .val (.ref b60), .val (.ref b85), .val (.int (Int32.ofNat jp)), .val (.int c1), .val (.int c2), .val (.int (Int32.ofNat 2)), .unset, .unset, .unset, .unset] [(.int (5 : Int32)), (.ref b85), (.int (5 : Int32)), (.ref b255), (.ref b255)])) (fun t k => XS.iconst X277.here hx rfl (hb hby at_336) k) ?_
    have f279 : Arv Z h277 b85 k85 .char (11 : Int32) [(.int x0), (.int x1), (.int x2), (.int x3), (.int x4), (.int x5), (.int x6), (.int x7), (.int x8), (.int x9), (.int x10)] (.int (0 : Int32)) := (f275.other W277 ne257)
    obtain ⟨cl280, Ar280, q280, S280, M280, H280, G280⟩ := id f279
    have hin280 := ((inb_of S280 ⟨by decide, by decide⟩) : ¬ ((5 : Int32) < 0 ∨ cl280.slots.size ≤ ((5 : Int32)).toNatClampNeg))
    refine Go.st (T' := T277.setTop (mkF m 338 #[.val (.int p1), .val (.int p2), .val (.int p3), .val (.int p4), .val (.ref b60), .val (.ref b85), .val (.int (Int32.ofNat jp)), .val (.int c1), .val (.int c2), .val (.int (Int32.ofNat 2)), .unset, .unset, .unset, .unset] [(.int x5), (.int (5 : Int32)), (.ref b255), (.ref b255)])) (fun t k => X277.caload hx (j := (5 : Int32)) (v := (.int x5)) (by rw [e277]; exact Ar280.1) (State.isArrayOf_alike hZh.alike Ar280.2.1) Ar280.2.2 hin280 (H280.at hin280 rfl) (g := (mkF m 337 #[.val (.int p1), .val (.int p2), .val (.int p3), .val (.int p4), .val (.ref b60), .val (.ref b85), .val (.int (Int32.ofNat jp)), .val (.int c1), .val (.int c2), .val (.int (Int32.ofNat 2)), .unset, .unset, .unset, .unset] [(.int (5 : Int32)), (.ref b85), (.int (5 : Int32)), (.ref b255), (.ref b255)])) rfl rfl (hb hby at_337) t k) ?_
    obtain ⟨cl281, Ar281, q281, S281, M281, H281, G281⟩ := id V277
    obtain ⟨T281, h281, X281, e281, W281, st281⟩ := stC X277 hx hZh e277 Ar281 (j := (5 : Int32)) (inb_of S281 ⟨by decide, by decide⟩) (g := (mkF m 338 #[.val (.int p1), .val (.int p2), .val (.int p3), .val (.int p4), .val (.ref b60), .val (.ref b85), .val (.int (Int32.ofNat jp)), .val (.int c1), .val (.int c2), .val (.int (Int32.ofNat 2)), .unset, .unset, .unset, .unset] [(.int x5), (.int (5 : Int32)), (.ref b255), (.ref b255)])) rfl rfl (hb hby at_338)
    have C282 : CHr Z EL s.vm h0 s.vm h281 := C278.trans (CHr.wr W281 (by obtain ⟨_, A_, _⟩ := id V277; exact Safe.arr hZh.alike A_ (by decide)) C278.1)
    have V281 : Arv Z h281 b255 k255 .char (12 : Int32) [(.int (nar .char x0)), (.int (nar .char x1)), (.int (nar .char x2)), (.int (nar .char x3)), (.int (nar .char x4)), (.int (nar .char x5)), (.int (0 : Int32)), (.int (0 : Int32)), (.int (0 : Int32)), (.int (0 : Int32)), (.int (0 : Int32)), (.int (0 : Int32))] (.int (0 : Int32)) := Arv.set Ar281 q281 S281 M281 H281 G281 (fits_nar_char _) W281 5 rfl (Nat.le_of_ble_eq_true rfl)
    have K281 : Keep h0 h281 [] := K277.wr W281 (Or.inr sz_b255)
    have N281 := Fr.snoc X281 N277 g_b255
    refine Go.st (T' := T281.setTop (mkF m 339 #[.val (.int p1), .val (.int p2), .val (.int p3), .val (.int p4), .val (.ref b60), .val (.ref b85), .val (.int (Int32.ofNat jp)), .val (.int c1), .val (.int c2), .val (.int (Int32.ofNat 2)), .unset, .unset, .unset, .unset] [(.ref b255)])) (fun t k => st281 t k) ?_
    refine Go.st (T' := T281.setTop (mkF m 340 #[.val (.int p1), .val (.int p2), .val (.int p3), .val (.int p4), .val (.ref b60), .val (.ref b85), .val (.int (Int32.ofNat jp)), .val (.int c1), .val (.int c2), .val (.int (Int32.ofNat 2)), .unset, .unset, .unset, .unset] [(.ref b255), (.ref b255)])) (fun t k => XS.dup X281.here hx rfl (hb hby at_339) rfl rfl k) ?_
    refine Go.st (T' := T281.setTop (mkF m 342 #[.val (.int p1), .val (.int p2), .val (.int p3), .val (.int p4), .val (.ref b60), .val (.ref b85), .val (.int (Int32.ofNat jp)), .val (.int c1), .val (.int c2), .val (.int (Int32.ofNat 2)), .unset, .unset, .unset, .unset] [(.int (6 : Int32)), (.ref b255), (.ref b255)])) (fun t k => XS.bipush X281.here hx rfl (hb hby at_340) k) ?_
    refine Go.st (T' := T281.setTop (mkF m 344 #[.val (.int p1), .val (.int p2), .val (.int p3), .val (.int p4), .val (.ref b60), .val (.ref b85), .val (.int (Int32.ofNat jp)), .val (.int c1), .val (.int c2), .val (.int (Int32.ofNat 2)), .unset, .unset, .unset, .unset] [(.ref b85), (.int (6 : Int32)), (.ref b255), (.ref b255)])) (fun t k => XS.aload X281.here hx rfl (hb hby at_342) rfl rfl k) ?_
    refine Go.st (T' := T281.setTop (mkF m 346 #[.val (.int p1), .val (.int p2), .val (.int p3), .val (.int p4), .val (.ref b60), .val (.ref b85), .val (.int (Int32.ofNat jp)), .val (.int c1), .val (.int c2), .val (.int (Int32.ofNat 2)), .unset, .unset, .unset, .unset] [(.int (6 : Int32)), (.ref b85), (.int (6 : Int32)), (.ref b255), (.ref b255)])) (fun t k => XS.bipush X281.here hx rfl (hb hby at_344) k) ?_
    have f283 : Arv Z h281 b85 k85 .char (11 : Int32) [(.int x0), (.int x1), (.int x2), (.int x3), (.int x4), (.int x5), (.int x6), (.int x7), (.int x8), (.int x9), (.int x10)] (.int (0 : Int32)) := (f279.other W281 ne257)
    obtain ⟨cl284, Ar284, q284, S284, M284, H284, G284⟩ := id f283
    have hin284 := ((inb_of S284 ⟨by decide, by decide⟩) : ¬ ((6 : Int32) < 0 ∨ cl284.slots.size ≤ ((6 : Int32)).toNatClampNeg))
    refine Go.st (T' := T281.setTop (mkF m 347 #[.val (.int p1), .val (.int p2), .val (.int p3), .val (.int p4), .val (.ref b60), .val (.ref b85), .val (.int (Int32.ofNat jp)), .val (.int c1), .val (.int c2), .val (.int (Int32.ofNat 2)), .unset, .unset, .unset, .unset] [(.int x6), (.int (6 : Int32)), (.ref b255), (.ref b255)])) (fun t k => X281.caload hx (j := (6 : Int32)) (v := (.int x6)) (by rw [e281]; exact Ar284.1) (State.isArrayOf_alike hZh.alike Ar284.2.1) Ar284.2.2 hin284 (H284.at hin284 rfl) (g := (mkF m 346 #[.val (.int p1), .val (.int p2), .val (.int p3), .val (.int p4), .val (.ref b60), .val (.ref b85), .val (.int (Int32.ofNat jp)), .val (.int c1), .val (.int c2), .val (.int (Int32.ofNat 2)), .unset, .unset, .unset, .unset] [(.int (6 : Int32)), (.ref b85), (.int (6 : Int32)), (.ref b255), (.ref b255)])) rfl rfl (hb hby at_346) t k) ?_
    obtain ⟨cl285, Ar285, q285, S285, M285, H285, G285⟩ := id V281
    obtain ⟨T285, h285, X285, e285, W285, st285⟩ := stC X281 hx hZh e281 Ar285 (j := (6 : Int32)) (inb_of S285 ⟨by decide, by decide⟩) (g := (mkF m 347 #[.val (.int p1), .val (.int p2), .val (.int p3), .val (.int p4), .val (.ref b60), .val (.ref b85), .val (.int (Int32.ofNat jp)), .val (.int c1), .val (.int c2), .val (.int (Int32.ofNat 2)), .unset, .unset, .unset, .unset] [(.int x6), (.int (6 : Int32)), (.ref b255), (.ref b255)])) rfl rfl (hb hby at_347)
    have C286 : CHr Z EL s.vm h0 s.vm h285 := C282.trans (CHr.wr W285 (by obtain ⟨_, A_, _⟩ := id V281; exact Safe.arr hZh.alike A_ (by decide)) C282.1)
    have V285 : Arv Z h285 b255 k255 .char (12 : Int32) [(.int (nar .char x0)), (.int (nar .char x1)), (.int (nar .char x2)), (.int (nar .char x3)), (.int (nar .char x4)), (.int (nar .char x5)), (.int (nar .char x6)), (.int (0 : Int32)), (.int (0 : Int32)), (.int (0 : Int32)), (.int (0 : Int32)), (.int (0 : Int32))] (.int (0 : Int32)) := Arv.set Ar285 q285 S285 M285 H285 G285 (fits_nar_char _) W285 6 rfl (Nat.le_of_ble_eq_true rfl)
    have K285 : Keep h0 h285 [] := K281.wr W285 (Or.inr sz_b255)
    have N285 := Fr.snoc X285 N281 g_b255
    refine Go.st (T' := T285.setTop (mkF m 348 #[.val (.int p1), .val (.int p2), .val (.int p3), .val (.int p4), .val (.ref b60), .val (.ref b85), .val (.int (Int32.ofNat jp)), .val (.int c1), .val (.int c2), .val (.int (Int32.ofNat 2)), .unset, .unset, .unset, .unset] [(.ref b255)])) (fun t k => st285 t k) ?_
    refine Go.st (T' := T285.setTop (mkF m 349 #[.val (.int p1), .val (.int p2), .val (.int p3), .val (.int p4), .val (.ref b60), .val (.ref b85), .val (.int (Int32.ofNat jp)), .val (.int c1), .val (.int c2), .val (.int (Int32.ofNat 2)), .unset, .unset, .unset, .unset] [(.ref b255), (.ref b255)])) (fun t k => XS.dup X285.here hx rfl (hb hby at_348) rfl rfl k) ?_
    refine Go.st (T' := T285.setTop (mkF m 351 #[.val (.int p1), .val (.int p2), .val (.int p3), .val (.int p4), .val (.ref b60), .val (.ref b85), .val (.int (Int32.ofNat jp)), .val (.int c1), .val (.int c2), .val (.int (Int32.ofNat 2)), .unset, .unset, .unset, .unset] [(.int (7 : Int32)), (.ref b255), (.ref b255)])) (fun t k => XS.bipush X285.here hx rfl (hb hby at_349) k) ?_
    refine Go.st (T' := T285.setTop (mkF m 353 #[.val (.int p1), .val (.int p2), .val (.int p3), .val (.int p4), .val (.ref b60), .val (.ref b85), .val (.int (Int32.ofNat jp)), .val (.int c1), .val (.int c2), .val (.int (Int32.ofNat 2)), .unset, .unset, .unset, .unset] [(.ref b85), (.int (7 : Int32)), (.ref b255), (.ref b255)])) (fun t k => XS.aload X285.here hx rfl (hb hby at_351) rfl rfl k) ?_
    refine Go.st (T' := T285.setTop (mkF m 355 #[.val (.int p1), .val (.int p2), .val (.int p3), .val (.int p4), .val (.ref b60), .val (.ref b85), .val (.int (Int32.ofNat jp)), .val (.int c1), .val (.int c2), .val (.int (Int32.ofNat 2)), .unset, .unset, .unset, .unset] [(.int (7 : Int32)), (.ref b85), (.int (7 : Int32)), (.ref b255), (.ref b255)])) (fun t k => XS.bipush X285.here hx rfl (hb hby at_353) k) ?_
    have f287 : Arv Z h285 b85 k85 .char (11 : Int32) [(.int x0), (.int x1), (.int x2), (.int x3), (.int x4), (.int x5), (.int x6), (.int x7), (.int x8), (.int x9), (.int x10)] (.int (0 : Int32)) := (f283.other W285 ne257)
    obtain ⟨cl288, Ar288, q288, S288, M288, H288, G288⟩ := id f287
    have hin288 := ((inb_of S288 ⟨by decide, by decide⟩) : ¬ ((7 : Int32) < 0 ∨ cl288.slots.size ≤ ((7 : Int32)).toNatClampNeg))
    refine Go.st (T' := T285.setTop (mkF m 356 #[.val (.int p1), .val (.int p2), .val (.int p3), .val (.int p4), .val (.ref b60), .val (.ref b85), .val (.int (Int32.ofNat jp)), .val (.int c1), .val (.int c2), .val (.int (Int32.ofNat 2)), .unset, .unset, .unset, .unset] [(.int x7), (.int (7 : Int32)), (.ref b255), (.ref b255)])) (fun t k => X285.caload hx (j := (7 : Int32)) (v := (.int x7)) (by rw [e285]; exact Ar288.1) (State.isArrayOf_alike hZh.alike Ar288.2.1) Ar288.2.2 hin288 (H288.at hin288 rfl) (g := (mkF m 355 #[.val (.int p1), .val (.int p2), .val (.int p3), .val (.int p4), .val (.ref b60), .val (.ref b85), .val (.int (Int32.ofNat jp)), .val (.int c1), .val (.int c2), .val (.int (Int32.ofNat 2)), .unset, .unset, .unset, .unset] [(.int (7 : Int32)), (.ref b85), (.int (7 : Int32)), (.ref b255), (.ref b255)])) rfl rfl (hb hby at_355) t k) ?_
    obtain ⟨cl289, Ar289, q289, S289, M289, H289, G289⟩ := id V285
    obtain ⟨T289, h289, X289, e289, W289, st289⟩ := stC X285 hx hZh e285 Ar289 (j := (7 : Int32)) (inb_of S289 ⟨by decide, by decide⟩) (g := (mkF m 356 #[.val (.int p1), .val (.int p2), .val (.int p3), .val (.int p4), .val (.ref b60), .val (.ref b85), .val (.int (Int32.ofNat jp)), .val (.int c1), .val (.int c2), .val (.int (Int32.ofNat 2)), .unset, .unset, .unset, .unset] [(.int x7), (.int (7 : Int32)), (.ref b255), (.ref b255)])) rfl rfl (hb hby at_356)
    have C290 : CHr Z EL s.vm h0 s.vm h289 := C286.trans (CHr.wr W289 (by obtain ⟨_, A_, _⟩ := id V285; exact Safe.arr hZh.alike A_ (by decide)) C286.1)
    have V289 : Arv Z h289 b255 k255 .char (12 : Int32) [(.int (nar .char x0)), (.int (nar .char x1)), (.int (nar .char x2)), (.int (nar .char x3)), (.int (nar .char x4)), (.int (nar .char x5)), (.int (nar .char x6)), (.int (nar .char x7)), (.int (0 : Int32)), (.int (0 : Int32)), (.int (0 : Int32)), (.int (0 : Int32))] (.int (0 : Int32)) := Arv.set Ar289 q289 S289 M289 H289 G289 (fits_nar_char _) W289 7 rfl (Nat.le_of_ble_eq_true rfl)
    have K289 : Keep h0 h289 [] := K285.wr W289 (Or.inr sz_b255)
    have N289 := Fr.snoc X289 N285 g_b255
    refine Go.st (T' := T289.setTop (mkF m 357 #[.val (.int p1), .val (.int p2), .val (.int p3), .val (.int p4), .val (.ref b60), .val (.ref b85), .val (.int (Int32.ofNat jp)), .val (.int c1), .val (.int c2), .val (.int (Int32.ofNat 2)), .unset, .unset, .unset, .unset] [(.ref b255)])) (fun t k => st289 t k) ?_
    refine Go.st (T' := T289.setTop (mkF m 358 #[.val (.int p1), .val (.int p2), .val (.int p3), .val (.int p4), .val (.ref b60), .val (.ref b85), .val (.int (Int32.ofNat jp)), .val (.int c1), .val (.int c2), .val (.int (Int32.ofNat 2)), .unset, .unset, .unset, .unset] [(.ref b255), (.ref b255)])) (fun t k => XS.dup X289.here hx rfl (hb hby at_357) rfl rfl k) ?_
    refine Go.st (T' := T289.setTop (mkF m 360 #[.val (.int p1), .val (.int p2), .val (.int p3), .val (.int p4), .val (.ref b60), .val (.ref b85), .val (.int (Int32.ofNat jp)), .val (.int c1), .val (.int c2), .val (.int (Int32.ofNat 2)), .unset, .unset, .unset, .unset] [(.int (8 : Int32)), (.ref b255), (.ref b255)])) (fun t k => XS.bipush X289.here hx rfl (hb hby at_358) k) ?_
    refine Go.st (T' := T289.setTop (mkF m 362 #[.val (.int p1), .val (.int p2), .val (.int p3), .val (.int p4), .val (.ref b60), .val (.ref b85), .val (.int (Int32.ofNat jp)), .val (.int c1), .val (.int c2), .val (.int (Int32.ofNat 2)), .unset, .unset, .unset, .unset] [(.ref b85), (.int (8 : Int32)), (.ref b255), (.ref b255)])) (fun t k => XS.aload X289.here hx rfl (hb hby at_360) rfl rfl k) ?_
    refine Go.st (T' := T289.setTop (mkF m 364 #[.val (.int p1), .val (.int p2), .val (.int p3), .val (.int p4), .val (.ref b60), .val (.ref b85), .val (.int (Int32.ofNat jp)), .val (.int c1), .val (.int c2), .val (.int (Int32.ofNat 2)), .unset, .unset, .unset, .unset] [(.int (8 : Int32)), (.ref b85), (.int (8 : Int32)), (.ref b255), (.ref b255)])) (fun t k => XS.bipush X289.here hx rfl (hb hby at_362) k) ?_
    have f291 : Arv Z h289 b85 k85 .char (11 : Int32) [(.int x0), (.int x1), (.int x2), (.int x3), (.int x4), (.int x5), (.int x6), (.int x7), (.int x8), (.int x9), (.int x10)] (.int (0 : Int32)) := (f287.other W289 ne257)
    obtain ⟨cl292, Ar292, q292, S292, M292, H292, G292⟩ := id f291
    have hin292 := ((inb_of S292 ⟨by decide, by decide⟩) : ¬ ((8 : Int32) < 0 ∨ cl292.slots.size ≤ ((8 : Int32)).toNatClampNeg))
    refine Go.st (T' := T289.setTop (mkF m 365 #[.val (.int p1), .val (.int p2), .val (.int p3), .val (.int p4), .val (.ref b60), .val (.ref b85), .val (.int (Int32.ofNat jp)), .val (.int c1), .val (.int c2), .val (.int (Int32.ofNat 2)), .unset, .unset, .unset, .unset] [(.int x8), (.int (8 : Int32)), (.ref b255), (.ref b255)])) (fun t k => X289.caload hx (j := (8 : Int32)) (v := (.int x8)) (by rw [e289]; exact Ar292.1) (State.isArrayOf_alike hZh.alike Ar292.2.1) Ar292.2.2 hin292 (H292.at hin292 rfl) (g := (mkF m 364 #[.val (.int p1), .val (.int p2), .val (.int p3), .val (.int p4), .val (.ref b60), .val (.ref b85), .val (.int (Int32.ofNat jp)), .val (.int c1), .val (.int c2), .val (.int (Int32.ofNat 2)), .unset, .unset, .unset, .unset] [(.int (8 : Int32)), (.ref b85), (.int (8 : Int32)), (.ref b255), (.ref b255)])) rfl rfl (hb hby at_364) t k) ?_
    obtain ⟨cl293, Ar293, q293, S293, M293, H293, G293⟩ := id V289
    obtain ⟨T293, h293, X293, e293, W293, st293⟩ := stC X289 hx hZh e289 Ar293 (j := (8 : Int32)) (inb_of S293 ⟨by decide, by decide⟩) (g := (mkF m 365 #[.val (.int p1), .val (.int p2), .val (.int p3), .val (.int p4), .val (.ref b60), .val (.ref b85), .val (.int (Int32.ofNat jp)), .val (.int c1), .val (.int c2), .val (.int (Int32.ofNat 2)), .unset, .unset, .unset, .unset] [(.int x8), (.int (8 : Int32)), (.ref b255), (.ref b255)])) rfl rfl (hb hby at_365)
    have C294 : CHr Z EL s.vm h0 s.vm h293 := C290.trans (CHr.wr W293 (by obtain ⟨_, A_, _⟩ := id V289; exact Safe.arr hZh.alike A_ (by decide)) C290.1)
    have V293 : Arv Z h293 b255 k255 .char (12 : Int32) [(.int (nar .char x0)), (.int (nar .char x1)), (.int (nar .char x2)), (.int (nar .char x3)), (.int (nar .char x4)), (.int (nar .char x5)), (.int (nar .char x6)), (.int (nar .char x7)), (.int (nar .char x8)), (.int (0 : Int32)), (.int (0 : Int32)), (.int (0 : Int32))] (.int (0 : Int32)) := Arv.set Ar293 q293 S293 M293 H293 G293 (fits_nar_char _) W293 8 rfl (Nat.le_of_ble_eq_true rfl)
    have K293 : Keep h0 h293 [] := K289.wr W293 (Or.inr sz_b255)
    have N293 := Fr.snoc X293 N289 g_b255
    refine Go.st (T' := T293.setTop (mkF m 366 #[.val (.int p1), .val (.int p2), .val (.int p3), .val (.int p4), .val (.ref b60), .val (.ref b85), .val (.int (Int32.ofNat jp)), .val (.int c1), .val (.int c2), .val (.int (Int32.ofNat 2)), .unset, .unset, .unset, .unset] [(.ref b255)])) (fun t k => st293 t k) ?_
    refine Go.st (T' := T293.setTop (mkF m 367 #[.val (.int p1), .val (.int p2), .val (.int p3), .val (.int p4), .val (.ref b60), .val (.ref b85), .val (.int (Int32.ofNat jp)), .val (.int c1), .val (.int c2), .val (.int (Int32.ofNat 2)), .unset, .unset, .unset, .unset] [(.ref b255), (.ref b255)])) (fun t k => XS.dup X293.here hx rfl (hb hby at_366) rfl rfl k) ?_
    refine Go.st (T' := T293.setTop (mkF m 369 #[.val (.int p1), .val (.int p2), .val (.int p3), .val (.int p4), .val (.ref b60), .val (.ref b85), .val (.int (Int32.ofNat jp)), .val (.int c1), .val (.int c2), .val (.int (Int32.ofNat 2)), .unset, .unset, .unset, .unset] [(.int (9 : Int32)), (.ref b255), (.ref b255)])) (fun t k => XS.bipush X293.here hx rfl (hb hby at_367) k) ?_
    refine Go.st (T' := T293.setTop (mkF m 371 #[.val (.int p1), .val (.int p2), .val (.int p3), .val (.int p4), .val (.ref b60), .val (.ref b85), .val (.int (Int32.ofNat jp)), .val (.int c1), .val (.int c2), .val (.int (Int32.ofNat 2)), .unset, .unset, .unset, .unset] [(.ref b85), (.int (9 : Int32)), (.ref b255), (.ref b255)])) (fun t k => XS.aload X293.here hx rfl (hb hby at_369) rfl rfl k) ?_
    refine Go.st (T' := T293.setTop (mkF m 373 #[.val (.int p1), .val (.int p2), .val (.int p3), .val (.int p4), .val (.ref b60), .val (.ref b85), .val (.int (Int32.ofNat jp)), .val (.int c1), .val (.int c2), .val (.int (Int32.ofNat 2)), .unset, .unset, .unset, .unset] [(.int (9 : Int32)), (.ref b85), (.int (9 : Int32)), (.ref b255), (.ref b255)])) (fun t k => XS.bipush X293.here hx rfl (hb hby at_371) k) ?_
    have f295 : Arv Z h293 b85 k85 .char (11 : Int32) [(.int x0), (.int x1), (.int x2), (.int x3), (.int x4), (.int x5), (.int x6), (.int x7), (.int x8), (.int x9), (.int x10)] (.int (0 : Int32)) := (f291.other W293 ne257)
    obtain ⟨cl296, Ar296, q296, S296, M296, H296, G296⟩ := id f295
    have hin296 := ((inb_of S296 ⟨by decide, by decide⟩) : ¬ ((9 : Int32) < 0 ∨ cl296.slots.size ≤ ((9 : Int32)).toNatClampNeg))
    refine Go.st (T' := T293.setTop (mkF m 374 #[.val (.int p1), .val (.int p2), .val (.int p3), .val (.int p4), .val (.ref b60), .val (.ref b85), .val (.int (Int32.ofNat jp)), .val (.int c1), .val (.int c2), .val (.int (Int32.ofNat 2)), .unset, .unset, .unset, .unset] [(.int x9), (.int (9 : Int32)), (.ref b255), (.ref b255)])) (fun t k => X293.caload hx (j := (9 : Int32)) (v := (.int x9)) (by rw [e293]; exact Ar296.1) (State.isArrayOf_alike hZh.alike Ar296.2.1) Ar296.2.2 hin296 (H296.at hin296 rfl) (g := (mkF m 373 #[.val (.int p1), .val (.int p2), .val (.int p3), .val (.int p4), .val (.ref b60), .val (.ref b85), .val (.int (Int32.ofNat jp)), .val (.int c1), .val (.int c2), .val (.int (Int32.ofNat 2)), .unset, .unset, .unset, .unset] [(.int (9 : Int32)), (.ref b85), (.int (9 : Int32)), (.ref b255), (.ref b255)])) rfl rfl (hb hby at_373) t k) ?_
    obtain ⟨cl297, Ar297, q297, S297, M297, H297, G297⟩ := id V293
    obtain ⟨T297, h297, X297, e297, W297, st297⟩ := stC X293 hx hZh e293 Ar297 (j := (9 : Int32)) (inb_of S297 ⟨by decide, by decide⟩) (g := (mkF m 374 #[.val (.int p1), .val (.int p2), .val (.int p3), .val (.int p4), .val (.ref b60), .val (.ref b85), .val (.int (Int32.ofNat jp)), .val (.int c1), .val (.int c2), .val (.int (Int32.ofNat 2)), .unset, .unset, .unset, .unset] [(.int x9), (.int (9 : Int32)), (.ref b255), (.ref b255)])) rfl rfl (hb hby at_374)
    have C298 : CHr Z EL s.vm h0 s.vm h297 := C294.trans (CHr.wr W297 (by obtain ⟨_, A_, _⟩ := id V293; exact Safe.arr hZh.alike A_ (by decide)) C294.1)
    have V297 : Arv Z h297 b255 k255 .char (12 : Int32) [(.int (nar .char x0)), (.int (nar .char x1)), (.int (nar .char x2)), (.int (nar .char x3)), (.int (nar .char x4)), (.int (nar .char x5)), (.int (nar .char x6)), (.int (nar .char x7)), (.int (nar .char x8)), (.int (nar .char x9)), (.int (0 : Int32)), (.int (0 : Int32))] (.int (0 : Int32)) := Arv.set Ar297 q297 S297 M297 H297 G297 (fits_nar_char _) W297 9 rfl (Nat.le_of_ble_eq_true rfl)
    have K297 : Keep h0 h297 [] := K293.wr W297 (Or.inr sz_b255)
    have N297 := Fr.snoc X297 N293 g_b255
    refine Go.st (T' := T297.setTop (mkF m 375 #[.val (.int p1), .val (.int p2), .val (.int p3), .val (.int p4), .val (.ref b60), .val (.ref b85), .val (.int (Int32.ofNat jp)), .val (.int c1), .val (.int c2), .val (.int (Int32.ofNat 2)), .unset, .unset, .unset, .unset] [(.ref b255)])) (fun t k => st297 t k) ?_
    refine Go.st (T' := T297.setTop (mkF m 376 #[.val (.int p1), .val (.int p2), .val (.int p3), .val (.int p4), .val (.ref b60), .val (.ref b85), .val (.int (Int32.ofNat jp)), .val (.int c1), .val (.int c2), .val (.int (Int32.ofNat 2)), .unset, .unset, .unset, .unset] [(.ref b255), (.ref b255)])) (fun t k => XS.dup X297.here hx rfl (hb hby at_375) rfl rfl k) ?_
    refine Go.st (T' := T297.setTop (mkF m 378 #[.val (.int p1), .val (.int p2), .val (.int p3), .val (.int p4), .val (.ref b60), .val (.ref b85), .val (.int (Int32.ofNat jp)), .val (.int c1), .val (.int c2), .val (.int (Int32.ofNat 2)), .unset, .unset, .unset, .unset] [(.int (10 : Int32)), (.ref b255), (.ref b255)])) (fun t k => XS.bipush X297.here hx rfl (hb hby at_376) k) ?_
    refine Go.st (T' := T297.setTop (mkF m 380 #[.val (.int p1), .val (.int p2), .val (.int p3), .val (.int p4), .val (.ref b60), .val (.ref b85), .val (.int (Int32.ofNat jp)), .val (.int c1), .val (.int c2), .val (.int (Int32.ofNat 2)), .unset, .unset, .unset, .unset] [(.ref b85), (.int (10 : Int32)), (.ref b255), (.ref b255)])) (fun t k => XS.aload X297.here hx rfl (hb hby at_378) rfl rfl k) ?_
    refine Go.st (T' := T297.setTop (mkF m 382 #[.val (.int p1), .val (.int p2), .val (.int p3), .val (.int p4), .val (.ref b60), .val (.ref b85), .val (.int (Int32.ofNat jp)), .val (.int c1), .val (.int c2), .val (.int (Int32.ofNat 2)), .unset, .unset, .unset, .unset] [(.int (10 : Int32)), (.ref b85), (.int (10 : Int32)), (.ref b255), (.ref b255)])) (fun t k => XS.bipush X297.here hx rfl (hb hby at_380) k) ?_
    have f299 : Arv Z h297 b85 k85 .char (11 : Int32) [(.int x0), (.int x1), (.int x2), (.int x3), (.int x4), (.int x5), (.int x6), (.int x7), (.int x8), (.int x9), (.int x10)] (.int (0 : Int32)) := (f295.other W297 ne257)
    obtain ⟨cl300, Ar300, q300, S300, M300, H300, G300⟩ := id f299
    have hin300 := ((inb_of S300 ⟨by decide, by decide⟩) : ¬ ((10 : Int32) < 0 ∨ cl300.slots.size ≤ ((10 : Int32)).toNatClampNeg))
    refine Go.st (T' := T297.setTop (mkF m 383 #[.val (.int p1), .val (.int p2), .val (.int p3), .val (.int p4), .val (.ref b60), .val (.ref b85), .val (.int (Int32.ofNat jp)), .val (.int c1), .val (.int c2), .val (.int (Int32.ofNat 2)), .unset, .unset, .unset, .unset] [(.int x10), (.int (10 : Int32)), (.ref b255), (.ref b255)])) (fun t k => X297.caload hx (j := (10 : Int32)) (v := (.int x10)) (by rw [e297]; exact Ar300.1) (State.isArrayOf_alike hZh.alike Ar300.2.1) Ar300.2.2 hin300 (H300.at hin300 rfl) (g := (mkF m 382 #[.val (.int p1), .val (.int p2), .val (.int p3), .val (.int p4), .val (.ref b60), .val (.ref b85), .val (.int (Int32.ofNat jp)), .val (.int c1), .val (.int c2), .val (.int (Int32.ofNat 2)), .unset, .unset, .unset, .unset] [(.int (10 : Int32)), (.ref b85), (.int (10 : Int32)), (.ref b255), (.ref b255)])) rfl rfl (hb hby at_382) t k) ?_
    obtain ⟨cl301, Ar301, q301, S301, M301, H301, G301⟩ := id V297
    obtain ⟨T301, h301, X301, e301, W301, st301⟩ := stC X297 hx hZh e297 Ar301 (j := (10 : Int32)) (inb_of S301 ⟨by decide, by decide⟩) (g := (mkF m 383 #[.val (.int p1), .val (.int p2), .val (.int p3), .val (.int p4), .val (.ref b60), .val (.ref b85), .val (.int (Int32.ofNat jp)), .val (.int c1), .val (.int c2), .val (.int (Int32.ofNat 2)), .unset, .unset, .unset, .unset] [(.int x10), (.int (10 : Int32)), (.ref b255), (.ref b255)])) rfl rfl (hb hby at_383)
    have C302 : CHr Z EL s.vm h0 s.vm h301 := C298.trans (CHr.wr W301 (by obtain ⟨_, A_, _⟩ := id V297; exact Safe.arr hZh.alike A_ (by decide)) C298.1)
    have V301 : Arv Z h301 b255 k255 .char (12 : Int32) [(.int (nar .char x0)), (.int (nar .char x1)), (.int (nar .char x2)), (.int (nar .char x3)), (.int (nar .char x4)), (.int (nar .char x5)), (.int (nar .char x6)), (.int (nar .char x7)), (.int (nar .char x8)), (.int (nar .char x9)), (.int (nar .char x10)), (.int (0 : Int32))] (.int (0 : Int32)) := Arv.set Ar301 q301 S301 M301 H301 G301 (fits_nar_char _) W301 10 rfl (Nat.le_of_ble_eq_true rfl)
    have K301 : Keep h0 h301 [] := K297.wr W301 (Or.inr sz_b255)
    have N301 := Fr.snoc X301 N297 g_b255
    refine Go.st (T' := T301.setTop (mkF m 384 #[.val (.int p1), .val (.int p2), .val (.int p3), .val (.int p4), .val (.ref b60), .val (.ref b85), .val (.int (Int32.ofNat jp)), .val (.int c1), .val (.int c2), .val (.int (Int32.ofNat 2)), .unset, .unset, .unset, .unset] [(.ref b255)])) (fun t k => st301 t k) ?_
    refine Go.st (T' := T301.setTop (mkF m 385 #[.val (.int p1), .val (.int p2), .val (.int p3), .val (.int p4), .val (.ref b60), .val (.ref b85), .val (.int (Int32.ofNat jp)), .val (.int c1), .val (.int c2), .val (.int (Int32.ofNat 2)), .unset, .unset, .unset, .unset] [(.ref b255), (.ref b255)])) (fun t k => XS.dup X301.here hx rfl (hb hby at_384) rfl rfl k) ?_
    refine Go.st (T' := T301.setTop (mkF m 387 #[.val (.int p1), .val (.int p2), .val (.int p3), .val (.int p4), .val (.ref b60), .val (.ref b85), .val (.int (Int32.ofNat jp)), .val (.int c1), .val (.int c2), .val (.int (Int32.ofNat 2)), .unset, .unset, .unset, .unset] [(.int (11 : Int32)), (.ref b255), (.ref b255)])) (fun t k => XS.bipush X301.here hx rfl (hb hby at_385) k) ?_
    refine Go.st (T' := T301.setTop (mkF m 389 #[.val (.int p1), .val (.int p2), .val (.int p3), .val (.int p4), .val (.ref b60), .val (.ref b85), .val (.int (Int32.ofNat jp)), .val (.int c1), .val (.int c2), .val (.int (Int32.ofNat 2)), .unset, .unset, .unset, .unset] [(.int c2), (.int (11 : Int32)), (.ref b255), (.ref b255)])) (fun t k => XS.iload X301.here hx rfl (hb hby at_387) rfl k) ?_
    obtain ⟨cl303, Ar303, q303, S303, M303, H303, G303⟩ := id V301
    obtain ⟨T303, h303, X303, e303, W303, st303⟩ := stC X301 hx hZh e301 Ar303 (j := (11 : Int32)) (inb_of S303 ⟨by decide, by decide⟩) (g := (mkF m 389 #[.val (.int p1), .val (.int p2), .val (.int p3), .val (.int p4), .val (.ref b60), .val (.ref b85), .val (.int (Int32.ofNat jp)), .val (.int c1), .val (.int c2), .val (.int (Int32.ofNat 2)), .unset, .unset, .unset, .unset] [(.int c2), (.int (11 : Int32)), (.ref b255), (.ref b255)])) rfl rfl (hb hby at_389)
    have C304 : CHr Z EL s.vm h0 s.vm h303 := C302.trans (CHr.wr W303 (by obtain ⟨_, A_, _⟩ := id V301; exact Safe.arr hZh.alike A_ (by decide)) C302.1)
    have V303 : Arv Z h303 b255 k255 .char (12 : Int32) [(.int (nar .char x0)), (.int (nar .char x1)), (.int (nar .char x2)), (.int (nar .char x3)), (.int (nar .char x4)), (.int (nar .char x5)), (.int (nar .char x6)), (.int (nar .char x7)), (.int (nar .char x8)), (.int (nar .char x9)), (.int (nar .char x10)), (.int (nar .char c2))] (.int (0 : Int32)) := Arv.set Ar303 q303 S303 M303 H303 G303 (fits_nar_char _) W303 11 rfl (Nat.le_of_ble_eq_true rfl)
    have K303 : Keep h0 h303 [] := K301.wr W303 (Or.inr sz_b255)
    have N303 := Fr.snoc X303 N301 g_b255
    refine Go.st (T' := T303.setTop (mkF m 390 #[.val (.int p1), .val (.int p2), .val (.int p3), .val (.int p4), .val (.ref b60), .val (.ref b85), .val (.int (Int32.ofNat jp)), .val (.int c1), .val (.int c2), .val (.int (Int32.ofNat 2)), .unset, .unset, .unset, .unset] [(.ref b255)])) (fun t k => st303 t k) ?_
    refine Go.st (T' := T303.setTop (mkF m 392 #[.val (.int p1), .val (.int p2), .val (.int p3), .val (.int p4), .val (.ref b60), .val (.ref b85), .val (.int (Int32.ofNat jp)), .val (.int c1), .val (.int c2), .val (.int (Int32.ofNat 2)), .val (.ref b255), .unset, .unset, .unset] [])) (fun t k => XS.astore X303.here hx rfl (hb hby at_390) rfl rfl (l' := #[.val (.int p1), .val (.int p2), .val (.int p3), .val (.int p4), .val (.ref b60), .val (.ref b85), .val (.int (Int32.ofNat jp)), .val (.int c1), .val (.int c2), .val (.int (Int32.ofNat 2)), .val (.ref b255), .unset, .unset, .unset]) rfl k) ?_
    refine Go.st (T' := T303.setTop (mkF m 400 #[.val (.int p1), .val (.int p2), .val (.int p3), .val (.int p4), .val (.ref b60), .val (.ref b85), .val (.int (Int32.ofNat jp)), .val (.int c1), .val (.int c2), .val (.int (Int32.ofNat 2)), .val (.ref b255), .unset, .unset, .unset] [])) (fun t k => XS.goto X303.here hx rfl (pc0 := 392) (pc' := 400) rfl (hb hby at_392) (by decide) (by decide) k) ?_
    obtain ⟨T305, h305, X305, e305, E305, A305, D305, -, st305⟩ := newO X303 hx hZh hownh (hw _ (List.mem_of_getElem? (i := 2) rfl)) (hw _ (List.mem_of_getElem? (i := 3) rfl)) (hw _ (List.mem_of_getElem? (i := 4) rfl)) e303 (g := (mkF m 400 #[.val (.int p1), .val (.int p2), .val (.int p3), .val (.int p4), .val (.ref b60), .val (.ref b85), .val (.int (Int32.ofNat jp)), .val (.int c1), .val (.int c2), .val (.int (Int32.ofNat 2)), .val (.ref b255), .unset, .unset, .unset] [])) rfl (hb hby at_400) (by decide) (by decide)
    obtain ⟨b305, g305⟩ : ∃ z, z = h303.size := ⟨_, rfl⟩
    rw [← g305] at A305 D305 st305
    have g_b305 : n0 ≤ b305 := Nat.le_trans (Nat.le_trans Z0 K303.1) (Nat.le_of_eq g305.symm)
    have sz_b305 : h0.size ≤ b305 := Nat.le_trans K303.1 (Nat.le_of_eq g305.symm)
    have f306 : Arv Z h303 b60 k60 .char (11 : Int32) [(.int (117 : Int32)), (.int (110 : Int32)), (.int (115 : Int32)), (.int (117 : Int32)), (.int (112 : Int32)), (.int (112 : Int32)), (.int (111 : Int32)), (.int (114 : Int32)), (.int (116 : Int32)), (.int (101 : Int32)), (.int (100 : Int32))] (.int (0 : Int32)) := (((((((((((((Vb1.ext E255).other W261 ne256).other W265 ne256).other W269 ne256).other W273 ne256).other W277 ne256).other W281 ne256).other W285 ne256).other W289 ne256).other W293 ne256).other W297 ne256).other W301 ne256).other W303 ne256)
    have ne307 : b60 ≠ b305 := Nat.ne_of_lt (Nat.lt_of_lt_of_le f306.lt (Nat.le_of_eq g305.symm))
    have f308 : Arv Z h303 b85 k85 .char (11 : Int32) [(.int x0), (.int x1), (.int x2), (.int x3), (.int x4), (.int x5), (.int x6), (.int x7), (.int x8), (.int x9), (.int x10)] (.int (0 : Int32)) := ((f299.other W301 ne257).other W303 ne257)
    have ne309 : b85 ≠ b305 := Nat.ne_of_lt (Nat.lt_of_lt_of_le f308.lt (Nat.le_of_eq g305.symm))
    have ne310 : b255 ≠ b305 := Nat.ne_of_lt (Nat.lt_of_lt_of_le V303.lt (Nat.le_of_eq g305.symm))
    have C311 : CHr Z EL s.vm h0 s.vm h305 := C304.trans (CHr.ext E305 C304.1)
    have K305 : Keep h0 h305 [] := K303.ext E305
    have Fn305_coder : Fld Z h305 b305 "java/lang/String" "coder" "B" (.int (0 : Int32)) := D305 (Or.inr (hw _ (List.mem_of_getElem? (i := 28) rfl))) (ty := .byte) (by decide)
    have Fn305_value : Fld Z h305 b305 "java/lang/String" "value" "[B" .null := D305 (Or.inr (hw _ (List.mem_of_getElem? (i := 30) rfl))) (ty := (.array .byte)) (by decide)
    refine Go.st (T' := T305.setTop (mkF m 403 #[.val (.int p1), .val (.int p2), .val (.int p3), .val (.int p4), .val (.ref b60), .val (.ref b85), .val (.int (Int32.ofNat jp)), .val (.int c1), .val (.int c2), .val (.int (Int32.ofNat 2)), .val (.ref b255), .unset, .unset, .unset] [(.ref b305)])) (fun t k => st305 t k) ?_
    refine Go.st (T' := T305.setTop (mkF m 404 #[.val (.int p1), .val (.int p2), .val (.int p3), .val (.int p4), .val (.ref b60), .val (.ref b85), .val (.int (Int32.ofNat jp)), .val (.int c1), .val (.int c2), .val (.int (Int32.ofNat 2)), .val (.ref b255), .unset, .unset, .unset] [(.ref b305), (.ref b305)])) (fun t k => XS.dup X305.here hx rfl (hb hby at_403) rfl rfl k) ?_
    refine Go.st (T' := T305.setTop (mkF m 406 #[.val (.int p1), .val (.int p2), .val (.int p3), .val (.int p4), .val (.ref b60), .val (.ref b85), .val (.int (Int32.ofNat jp)), .val (.int c1), .val (.int c2), .val (.int (Int32.ofNat 2)), .val (.ref b255), .unset, .unset, .unset] [(.ref b255), (.ref b305), (.ref b305)])) (fun t k => XS.aload X305.here hx rfl (hb hby at_404) rfl rfl k) ?_
    have f312 : Arv Z h305 b255 k255 .char (12 : Int32) [(.int (nar .char x0)), (.int (nar .char x1)), (.int (nar .char x2)), (.int (nar .char x3)), (.int (nar .char x4)), (.int (nar .char x5)), (.int (nar .char x6)), (.int (nar .char x7)), (.int (nar .char x8)), (.int (nar .char x9)), (.int (nar .char x10)), (.int (nar .char c2))] (.int (0 : Int32)) := (V303.ext E305)
    have VS313 : Arv Z h305 b255 k255 .char (12 : Int32) [(.int x0), (.int x1), (.int x2), (.int x3), (.int x4), (.int x5), (.int x6), (.int x7), (.int x8), (.int x9), (.int x10), (.int c2)] (.int (0 : Int32)) := by
      have q := f312
      rw [Hx0.2, Hx1.2, Hx2.2, Hx3.2, Hx4.2, Hx5.2, Hx6.2, Hx7.2, Hx8.2, Hx9.2, Hx10.2, Hc2.2] at q
      exact q
    have hp : ∀ c ∈ ([x0, x1, x2, x3, x4, x5, x6, x7, x8, x9, x10, c2] : List Int32), ¬ c < 0 ∧ ¬ (255 : Int32) < c := by
      intro c hc
      simp only [List.mem_cons, List.not_mem_nil, or_false] at hc
      rcases hc with rfl | rfl | rfl | rfl | rfl | rfl | rfl | rfl | rfl | rfl | rfl | rfl
      · exact Hx0.1
      · exact Hx1.1
      · exact Hx2.1
      · exact Hx3.1
      · exact Hx4.1
      · exact Hx5.1
      · exact Hx6.1
      · exact Hx7.1
      · exact Hx8.1
      · exact Hx9.1
      · exact Hx10.1
      · exact Hc2.1
    obtain ⟨vr314, _, ⟨T314, L314, k314, n314⟩, -, X314, ⟨Lc314, hQ314, l314, y314, z314⟩, st314⟩ := X305.specialBack hx (y := (⟨"java/lang/String", "<init>", "([C)V"⟩ : MethodName)) rfl hownh (mvT hZh (hw _ (List.mem_of_getElem? (i := 5) rfl))) (mvT hZh (hw _ (List.mem_of_getElem? (i := 6) rfl))) (mvT hZh (hw _ (List.mem_of_getElem? (i := 7) rfl))) (by decide) (StrChars.Road.backV (W := 1) hZh hws (kI := 4) (hw _ (List.mem_of_getElem? (i := 3) rfl)) (cs := ([x0, x1, x2, x3, x4, x5, x6, x7, x8, x9, x10, c2] : List Int32)) (bs := (([x0, x1, x2, x3, x4, x5, x6, x7, x8, x9, x10, c2] : List Int32)).map (fun c => c.toInt8.toInt32)) (n := 12) g_b305 (Nat.le_trans Z0 K305.1) A305 Fn305_value Fn305_coder VS313 (O2.ext (X00.keep K305 all0).2) P5 rfl rfl (by decide) (by decide) hp rfl (by decide) (by decide)) (g := (mkF m 406 #[.val (.int p1), .val (.int p2), .val (.int p3), .val (.int p4), .val (.ref b60), .val (.ref b85), .val (.int (Int32.ofNat jp)), .val (.int c1), .val (.int c2), .val (.int (Int32.ofNat 2)), .val (.ref b255), .unset, .unset, .unset] [(.ref b255), (.ref b305), (.ref b305)])) rfl (by rw [hml]; rfl) (Steps.refl _) (a := b305) (argsL := [(.ref b255)]) (rest := [(.ref b305)]) (lenOf pd_a67b36d rfl) rfl (by show 2 * 0 + _ ≤ _; exact Nat.le_of_eq rfl) (hb hby at_406) (fun _ _ => ⟨rfl, e305, (by decide : 4 + 1 ≤ _), (by decide : 38 + 12 ≤ _)⟩)
    dsimp only [Pt.U, Pt.locs, Pt.cells, Pt.slots] at X314 l314 y314 z314 st314 hQ314
    subst l314 y314 z314
    obtain ⟨rfl, Nq314, Kq314, Eq314, Cq314, t314, kb314, ut314, vt314, wt314, Vq314, Bq314⟩ := hQ314
    have C315 : CHr Z EL s.vm h0 s.vm T314.heap := C311.trans (CHr.keep Kq314 (allS (own_safe hZh.alike A305 Fn305_value) all0) C311.1)
    have KK316 : Keep h0 T314.heap [] := K305.trans Kq314 (allS (Or.inr sz_b305) all0)
    have NN317 := Fr.app N303 Nq314
    refine Go.st (T' := T314.setTop (mkF m 409 #[.val (.int p1), .val (.int p2), .val (.int p3), .val (.int p4), .val (.ref b60), .val (.ref b85), .val (.int (Int32.ofNat jp)), .val (.int c1), .val (.int c2), .val (.int (Int32.ofNat 2)), .val (.ref b255), .unset, .unset, .unset] [(.ref b305)])) (fun t k => st314.trans k) ?_
    refine Go.st (T' := T314.setTop (mkF m 411 #[.val (.int p1), .val (.int p2), .val (.int p3), .val (.int p4), .val (.ref b60), .val (.ref b85), .val (.int (Int32.ofNat jp)), .val (.int c1), .val (.int c2), .val (.int (Int32.ofNat 2)), .val (.ref b255), .val (.ref b305), .unset, .unset] [])) (fun t k => XS.astore X314.here hx rfl (hb hby at_409) rfl rfl (l' := #[.val (.int p1), .val (.int p2), .val (.int p3), .val (.int p4), .val (.ref b60), .val (.ref b85), .val (.int (Int32.ofNat jp)), .val (.int c1), .val (.int c2), .val (.int (Int32.ofNat 2)), .val (.ref b255), .val (.ref b305), .unset, .unset]) rfl k) ?_
    obtain ⟨T318, h318, X318, e318, E318, A318, D318, -, st318⟩ := newO X314 hx hZh hownh (hw _ (List.mem_of_getElem? (i := 31) rfl)) (hw _ (List.mem_of_getElem? (i := 32) rfl)) (hw _ (List.mem_of_getElem? (i := 33) rfl)) rfl (g := (mkF m 411 #[.val (.int p1), .val (.int p2), .val (.int p3), .val (.int p4), .val (.ref b60), .val (.ref b85), .val (.int (Int32.ofNat jp)), .val (.int c1), .val (.int c2), .val (.int (Int32.ofNat 2)), .val (.ref b255), .val (.ref b305), .unset, .unset] [])) rfl (hb hby at_411) (by decide) (by decide)
    obtain ⟨b318, g318⟩ : ∃ z, z = T314.heap.size := ⟨_, rfl⟩
    rw [← g318] at A318 D318 st318
    have g_b318 : n0 ≤ b318 := Nat.le_trans (Nat.le_trans Z0 KK316.1) (Nat.le_of_eq g318.symm)
    have sz_b318 : h0.size ≤ b318 := Nat.le_trans KK316.1 (Nat.le_of_eq g318.symm)
    have f319 : Arv Z T314.heap b60 k60 .char (11 : Int32) [(.int (117 : Int32)), (.int (110 : Int32)), (.int (115 : Int32)), (.int (117 : Int32)), (.int (112 : Int32)), (.int (112 : Int32)), (.int (111 : Int32)), (.int (114 : Int32)), (.int (116 : Int32)), (.int (101 : Int32)), (.int (100 : Int32))] (.int (0 : Int32)) := ((f306.ext E305).keep Kq314 (ninS ne307 nin0))
    have ne320 : b60 ≠ b318 := Nat.ne_of_lt (Nat.lt_of_lt_of_le f319.lt (Nat.le_of_eq g318.symm))
    have f321 : Arv Z T314.heap b85 k85 .char (11 : Int32) [(.int x0), (.int x1), (.int x2), (.int x3), (.int x4), (.int x5), (.int x6), (.int x7), (.int x8), (.int x9), (.int x10)] (.int (0 : Int32)) := ((f308.ext E305).keep Kq314 (ninS ne309 nin0))
    have ne322 : b85 ≠ b318 := Nat.ne_of_lt (Nat.lt_of_lt_of_le f321.lt (Nat.le_of_eq g318.symm))
    have f323 : Arv Z T314.heap b255 k255 .char (12 : Int32) [(.int (nar .char x0)), (.int (nar .char x1)), (.int (nar .char x2)), (.int (nar .char x3)), (.int (nar .char x4)), (.int (nar .char x5)), (.int (nar .char x6)), (.int (nar .char x7)), (.int (nar .char x8)), (.int (nar .char x9)), (.int (nar .char x10)), (.int (nar .char c2))] (.int (0 : Int32)) := (f312.keep Kq314 (ninS ne310 nin0))
    have ne324 : b255 ≠ b318 := Nat.ne_of_lt (Nat.lt_of_lt_of_le f323.lt (Nat.le_of_eq g318.symm))
    have ne325 : b305 ≠ b318 := Nat.ne_of_lt (Nat.lt_of_lt_of_le Eq314.lt (Nat.le_of_eq g318.symm))
    have ne326 : t314 ≠ b318 := Nat.ne_of_lt (Nat.lt_of_lt_of_le Bq314.lt (Nat.le_of_eq g318.symm))
    have C327 : CHr Z EL s.vm h0 s.vm h318 := C315.trans (CHr.ext E318 C315.1)
    have K318 : Keep h0 h318 [] := KK316.ext E318
    have Fn318_update : Fld Z h318 b318 "com/example/bede/bede/model/Explanation" "update" "Ljava/lang/String;" .null := D318 (Or.inr (hw _ (List.mem_of_getElem? (i := 53) rfl))) (ty := (.object "java/lang/String")) (by decide)
    have Fn318_expression : Fld Z h318 b318 "com/example/bede/bede/model/Explanation" "expression" "Ljava/lang/String;" .null := D318 (Or.inr (hw _ (List.mem_of_getElem? (i := 55) rfl))) (ty := (.object "java/lang/String")) (by decide)
    refine Go.st (T' := T318.setTop (mkF m 414 #[.val (.int p1), .val (.int p2), .val (.int p3), .val (.int p4), .val (.ref b60), .val (.ref b85), .val (.int (Int32.ofNat jp)), .val (.int c1), .val (.int c2), .val (.int (Int32.ofNat 2)), .val (.ref b255), .val (.ref b305), .unset, .unset] [(.ref b318)])) (fun t k => st318 t k) ?_
    refine Go.st (T' := T318.setTop (mkF m 415 #[.val (.int p1), .val (.int p2), .val (.int p3), .val (.int p4), .val (.ref b60), .val (.ref b85), .val (.int (Int32.ofNat jp)), .val (.int c1), .val (.int c2), .val (.int (Int32.ofNat 2)), .val (.ref b255), .val (.ref b305), .unset, .unset] [(.ref b318), (.ref b318)])) (fun t k => XS.dup X318.here hx rfl (hb hby at_414) rfl rfl k) ?_
    refine Go.st (T' := T318.setTop (mkF m 416 #[.val (.int p1), .val (.int p2), .val (.int p3), .val (.int p4), .val (.ref b60), .val (.ref b85), .val (.int (Int32.ofNat jp)), .val (.int c1), .val (.int c2), .val (.int (Int32.ofNat 2)), .val (.ref b255), .val (.ref b305), .unset, .unset] [(.int p4), (.ref b318), (.ref b318)])) (fun t k => XS.iloadN X318.here hx rfl (hb hby at_415) rfl k) ?_
    refine Go.st (T' := T318.setTop (mkF m 419 #[.val (.int p1), .val (.int p2), .val (.int p3), .val (.int p4), .val (.ref b60), .val (.ref b85), .val (.int (Int32.ofNat jp)), .val (.int c1), .val (.int c2), .val (.int (Int32.ofNat 2)), .val (.ref b255), .val (.ref b305), .unset, .unset] [(.int (255 : Int32)), (.int p4), (.ref b318), (.ref b318)])) (fun t k => XS.sipush X318.here hx rfl (hb hby at_416) k) ?_
    refine Go.st (T' := T318.setTop (mkF m 420 #[.val (.int p1), .val (.int p2), .val (.int p3), .val (.int p4), .val (.ref b60), .val (.ref b85), .val (.int (Int32.ofNat jp)), .val (.int c1), .val (.int c2), .val (.int (Int32.ofNat 2)), .val (.ref b255), .val (.ref b305), .unset, .unset] [(.int (p4 &&& (255 : Int32))), (.ref b318), (.ref b318)])) (fun t k => XS.iand X318.here hx rfl (hb hby at_419) rfl k) ?_
    refine Go.st (T' := T318.setTop (mkF m 421 #[.val (.int p1), .val (.int p2), .val (.int p3), .val (.int p4), .val (.ref b60), .val (.ref b85), .val (.int (Int32.ofNat jp)), .val (.int c1), .val (.int c2), .val (.int (Int32.ofNat 2)), .val (.ref b255), .val (.ref b305), .unset, .unset] [(.int ((p4 &&& (255 : Int32)).toUInt32.toUInt16.toUInt32.toInt32)), (.ref b318), (.ref b318)])) (fun t k => XS.i2c X318.here hx rfl (hb hby at_420) rfl k) ?_
    obtain ⟨vr328, _, ⟨T328, L328, k328, n328⟩, -, X328, ⟨Lc328, hQ328, l328, y328, z328⟩, st328⟩ := Jvm.LawKit.callS X318 hx (y := (⟨"java/lang/String", "valueOf", "(C)Ljava/lang/String;"⟩ : MethodName)) hownh (mvT hZh (hw _ (List.mem_of_getElem? (i := 34) rfl))) (mvT hZh (hw _ (List.mem_of_getElem? (i := 35) rfl))) (mvT hZh (hw _ (List.mem_of_getElem? (i := 4) rfl))) (mvT hZh (hw _ (List.mem_of_getElem? (i := 36) rfl))) (by decide) (backOf (W := 2) (rmVal l Z a0 hw ((p4 &&& (255 : Int32)).toUInt32.toUInt16.toUInt32.toInt32) h318 n0 (Nat.le_trans Z0 K318.1) G1 O2 P5 (X00.keep K318 all0) (own_C_of _).1.2) hZh (hw _ (List.mem_of_getElem? (i := 36) rfl)) (hw _ (List.mem_of_getElem? (i := 4) rfl)) (by decide) (by decide)) (g := (mkF m 421 #[.val (.int p1), .val (.int p2), .val (.int p3), .val (.int p4), .val (.ref b60), .val (.ref b85), .val (.int (Int32.ofNat jp)), .val (.int c1), .val (.int c2), .val (.int (Int32.ofNat 2)), .val (.ref b255), .val (.ref b305), .unset, .unset] [(.int ((p4 &&& (255 : Int32)).toUInt32.toUInt16.toUInt32.toInt32)), (.ref b318), (.ref b318)])) rfl (by rw [hml]; rfl) (argsL := [(.int ((p4 &&& (255 : Int32)).toUInt32.toUInt16.toUInt32.toInt32))]) (rest := [(.ref b318), (.ref b318)]) (lenOf pd_b5a46ce rfl) rfl (by show 2 * 0 + _ ≤ _; exact Nat.le_of_eq rfl) (hb hby at_421) (fun _ _ => ⟨rfl, e318, (by decide : 6 + 2 ≤ _), (by decide : 52 + 5 ≤ _)⟩)
    dsimp only [Pt.U, Pt.locs, Pt.cells, Pt.slots] at X328 l328 y328 z328 st328 hQ328
    subst l328 y328 z328
    obtain ⟨Nq328, Kq328, y328, rfl⟩ := hQ328
    have C329 : CHr Z EL s.vm h0 s.vm T328.heap := C327.trans (CHr.keep Kq328 all0 C327.1)
    have KK330 : Keep h0 T328.heap [] := K318.trans Kq328 all0
    have NN331 := Fr.app NN317 Nq328
    refine Go.st (T' := T328.setTop (mkF m 424 #[.val (.int p1), .val (.int p2), .val (.int p3), .val (.int p4), .val (.ref b60), .val (.ref b85), .val (.int (Int32.ofNat jp)), .val (.int c1), .val (.int c2), .val (.int (Int32.ofNat 2)), .val (.ref b255), .val (.ref b305), .unset, .unset] [(.ref y328), (.ref b318), (.ref b318)])) (fun t k => st328 t k) ?_
    refine Go.st (T' := T328.setTop (mkF m 426 #[.val (.int p1), .val (.int p2), .val (.int p3), .val (.int p4), .val (.ref b60), .val (.ref b85), .val (.int (Int32.ofNat jp)), .val (.int c1), .val (.int c2), .val (.int (Int32.ofNat 2)), .val (.ref b255), .val (.ref b305), .unset, .unset] [(.ref b305), (.ref y328), (.ref b318), (.ref b318)])) (fun t k => XS.aload X328.here hx rfl (hb hby at_424) rfl rfl k) ?_
    have f332 : Exa Z T328.heap b318 "com/example/bede/bede/model/Explanation" := (A318.keep Kq328)
    have f333 : Fld Z T328.heap b318 "com/example/bede/bede/model/Explanation" "update" "Ljava/lang/String;" .null := (Fn318_update.keep Kq328 nin0)
    have f334 : Fld Z T328.heap b318 "com/example/bede/bede/model/Explanation" "expression" "Ljava/lang/String;" .null := (Fn318_expression.keep Kq328 nin0)
    obtain ⟨vr335, _, ⟨T335, L335, k335, n335⟩, -, X335, ⟨Lc335, hQ335, l335, y335, z335⟩, st335⟩ := X328.specialBack hx (y := (⟨"com/example/bede/bede/model/Explanation", "<init>", "(Ljava/lang/String;Ljava/lang/String;)V"⟩ : MethodName)) rfl hownh (mvT hZh (hw _ (List.mem_of_getElem? (i := 48) rfl))) (mvT hZh (hw _ (List.mem_of_getElem? (i := 49) rfl))) (mvT hZh (hw _ (List.mem_of_getElem? (i := 50) rfl))) (by decide) (backOf (W := 1) (rmEx l Z a0 hw b318 y328 b305 T328.heap n0 (Nat.le_trans Z0 KK330.1) f332 g_b318 f333 f334) hZh (hw _ (List.mem_of_getElem? (i := 50) rfl)) (hw _ (List.mem_of_getElem? (i := 33) rfl)) (by decide) (by decide)) (g := (mkF m 426 #[.val (.int p1), .val (.int p2), .val (.int p3), .val (.int p4), .val (.ref b60), .val (.ref b85), .val (.int (Int32.ofNat jp)), .val (.int c1), .val (.int c2), .val (.int (Int32.ofNat 2)), .val (.ref b255), .val (.ref b305), .unset, .unset] [(.ref b305), (.ref y328), (.ref b318), (.ref b318)])) rfl (by rw [hml]; rfl) (Steps.refl _) (a := b318) (argsL := [(.ref y328), (.ref b305)]) (rest := [(.ref b318)]) (lenOf pd_e442dcf rfl) rfl (by show 2 * 0 + _ ≤ _; exact Nat.le_of_eq rfl) (hb hby at_426) (fun _ _ => ⟨rfl, rfl, (by decide : 8 + 0 ≤ _), (by decide : 57 + 0 ≤ _)⟩)
    dsimp only [Pt.U, Pt.locs, Pt.cells, Pt.slots] at X335 l335 y335 z335 st335 hQ335
    subst l335 y335 z335
    obtain ⟨rfl, Nq335, Kq335, Eq335, Fe335⟩ := hQ335
    have C336 : CHr Z EL s.vm h0 s.vm T335.heap := C329.trans (CHr.keep Kq335 (allS (Safe.exa hZh.alike f332 (by decide) (by decide)) all0) C329.1)
    have KK337 : Keep h0 T335.heap [] := KK330.trans Kq335 (allS (Or.inr sz_b318) all0)
    have NN338 := Fr.app NN331 Nq335
    refine Go.st (T' := T335.setTop (mkF m 429 #[.val (.int p1), .val (.int p2), .val (.int p3), .val (.int p4), .val (.ref b60), .val (.ref b85), .val (.int (Int32.ofNat jp)), .val (.int c1), .val (.int c2), .val (.int (Int32.ofNat 2)), .val (.ref b255), .val (.ref b305), .unset, .unset] [(.ref b318)])) (fun t k => st335.trans k) ?_
    refine Go.st (T' := T335.setTop (mkF m 431 #[.val (.int p1), .val (.int p2), .val (.int p3), .val (.int p4), .val (.ref b60), .val (.ref b85), .val (.int (Int32.ofNat jp)), .val (.int c1), .val (.int c2), .val (.int (Int32.ofNat 2)), .val (.ref b255), .val (.ref b305), .val (.ref b318), .unset] [])) (fun t k => XS.astore X335.here hx rfl (hb hby at_429) rfl rfl (l' := #[.val (.int p1), .val (.int p2), .val (.int p3), .val (.int p4), .val (.ref b60), .val (.ref b85), .val (.int (Int32.ofNat jp)), .val (.int c1), .val (.int c2), .val (.int (Int32.ofNat 2)), .val (.ref b255), .val (.ref b305), .val (.ref b318), .unset]) rfl k) ?_
    refine Go.st (T' := T335.setTop (mkF m 433 #[.val (.int p1), .val (.int p2), .val (.int p3), .val (.int p4), .val (.ref b60), .val (.ref b85), .val (.int (Int32.ofNat jp)), .val (.int c1), .val (.int c2), .val (.int (Int32.ofNat 2)), .val (.ref b255), .val (.ref b305), .val (.ref b318), .unset] [(.int (Int32.ofNat 2))])) (fun t k => XS.iload X335.here hx rfl (hb hby at_431) rfl k) ?_
    refine Go.st (T' := T335.setTop (mkF m 457 #[.val (.int p1), .val (.int p2), .val (.int p3), .val (.int p4), .val (.ref b60), .val (.ref b85), .val (.int (Int32.ofNat jp)), .val (.int c1), .val (.int c2), .val (.int (Int32.ofNat 2)), .val (.ref b255), .val (.ref b305), .val (.ref b318), .unset] [])) (fun t k => XS.ifYes X335.here hx rfl (pc0 := 433) (pc' := 457) rfl (hb hby at_433) rfl ((if0 _ _).trans (feq (by decide)).2) (by decide) (by decide) k) ?_
    refine Go.st (T' := T335.setTop (mkF m 458 #[.val (.int p1), .val (.int p2), .val (.int p3), .val (.int p4), .val (.ref b60), .val (.ref b85), .val (.int (Int32.ofNat jp)), .val (.int c1), .val (.int c2), .val (.int (Int32.ofNat 2)), .val (.ref b255), .val (.ref b305), .val (.ref b318), .unset] [(.int (0 : Int32))])) (fun t k => XS.iconst X335.here hx rfl (hb hby at_457) k) ?_
    refine Go.st (T' := T335.setTop (mkF m 460 #[.val (.int p1), .val (.int p2), .val (.int p3), .val (.int p4), .val (.ref b60), .val (.ref b85), .val (.int (Int32.ofNat jp)), .val (.int c1), .val (.int c2), .val (.int (Int32.ofNat 2)), .val (.ref b255), .val (.ref b305), .val (.ref b318), .val (.int (0 : Int32))] [])) (fun t k => XS.istore X335.here hx rfl (hb hby at_458) rfl (l' := #[.val (.int p1), .val (.int p2), .val (.int p3), .val (.int p4), .val (.ref b60), .val (.ref b85), .val (.int (Int32.ofNat jp)), .val (.int c1), .val (.int c2), .val (.int (Int32.ofNat 2)), .val (.ref b255), .val (.ref b305), .val (.ref b318), .val (.int (0 : Int32))]) rfl k) ?_
    refine Go.st (T' := T335.setTop (mkF m 462 #[.val (.int p1), .val (.int p2), .val (.int p3), .val (.int p4), .val (.ref b60), .val (.ref b85), .val (.int (Int32.ofNat jp)), .val (.int c1), .val (.int c2), .val (.int (Int32.ofNat 2)), .val (.ref b255), .val (.ref b305), .val (.ref b318), .val (.int (0 : Int32))] [(.ref b318)])) (fun t k => XS.aload X335.here hx rfl (hb hby at_460) rfl rfl k) ?_
    have f339 : Exa Z T335.heap b305 "java/lang/String" := (((Eq314.ext E318).keep Kq328).keep Kq335)
    have f340 : Fld Z T335.heap b305 "java/lang/String" "value" "[B" (.ref t314) := (((Vq314.ext E318).keep Kq328 nin0).keep Kq335 (ninS ne325 nin0))
    have f341 : Fld Z T335.heap b305 "java/lang/String" "coder" "B" (.int (0 : Int32)) := (((Cq314.ext E318).keep Kq328 nin0).keep Kq335 (ninS ne325 nin0))
    have f342 : Arv Z T335.heap t314 kb314 .byte (Int32.ofNat (([x0, x1, x2, x3, x4, x5, x6, x7, x8, x9, x10, c2] : List Int32)).length) (((([x0, x1, x2, x3, x4, x5, x6, x7, x8, x9, x10, c2] : List Int32)).map (fun c => c.toInt8.toInt32)).map Value.int) (.int (0 : Int32)) := (((Bq314.ext E318).keep Kq328 nin0).keep Kq335 (ninS ne326 nin0))
    obtain ⟨cq343, kq343, q343a, q343b, q343c⟩ := isOf hZh rfl Eq335
    obtain ⟨vr343, _, ⟨T343, L343, k343, n343⟩, -, X343, hs343, hg343, ⟨Lc343, hQ343, l343, y343, z343⟩, st343⟩ := X335.virtualBackS hx (y := (⟨"com/example/bede/bede/model/Explanation", "isSupported", "()Z"⟩ : MethodName)) (z := (⟨"com/example/bede/bede/model/Explanation", "isSupported", "()Z"⟩ : MethodName)) hownh (mvT hZh (hw _ (List.mem_of_getElem? (i := 56) rfl))) (mvT hZh (hw _ (List.mem_of_getElem? (i := 57) rfl))) (notFace_of_selects (args := #[]) (mvT hZh (hw _ (List.mem_of_getElem? (i := 59) rfl)))) (mvT hZh (hw _ (List.mem_of_getElem? (i := 59) rfl))) (mvT hZh (hw _ (List.mem_of_getElem? (i := 58) rfl))) (by decide) (backOfSH (s := s) (vm0 := s.vm) (W := 0) (rmSup l Z a0 hw b318 b305 t314 kb314 ([x0, x1, x2, x3, x4, x5, x6, x7, x8, x9, x10, c2] : List Int32) T335.heap n0 (Nat.le_trans Z0 KK337.1) G1 O2 P5 (X00.keep KK337 all0) Fe335 f339 f340 f341 f342 hp (Nat.le_of_ble_eq_true rfl) hEL wS) hZh (hw _ (List.mem_of_getElem? (i := 60) rfl)) (hw _ (List.mem_of_getElem? (i := 33) rfl)) (by decide) (by decide) hEL C336.1) q343a q343c (g := (mkF m 462 #[.val (.int p1), .val (.int p2), .val (.int p3), .val (.int p4), .val (.ref b60), .val (.ref b85), .val (.int (Int32.ofNat jp)), .val (.int c1), .val (.int c2), .val (.int (Int32.ofNat 2)), .val (.ref b255), .val (.ref b305), .val (.ref b318), .val (.int (0 : Int32))] [(.ref b318)])) rfl (by rw [hml]; rfl) (Steps.refl _) (argsL := []) (rest := []) (lenOf pd_a8ebd rfl) rfl (by show 2 * 0 + _ ≤ _; exact Nat.le_of_eq rfl) (hb hby at_462) (fun _ _ => ⟨rfl, rfl, (by decide : 8 + 2 ≤ _), (by decide : 57 + 48 ≤ _)⟩)
    dsimp only [Pt.U, Pt.locs, Pt.cells, Pt.slots] at X343 l343 y343 z343 st343 hQ343 hs343 hg343
    subst l343 y343
    obtain ⟨z343, CC343⟩ := z343
    subst z343
    obtain ⟨Nq343, Kq343, r343, rfl, hr343⟩ := hQ343
    obtain ⟨Xr343, hSr343, hZr343, hor343⟩ := rebS (s := s) (vm0 := s.vm) hS0 (by rw [(rfl : T335.heap = T335.heap)]; exact (Nat.zero_le _)) X343 hs343 hg343 hZh hownh
    have C344 : CHr Z EL s.vm h0 T343.vm T343.heap := C336.trans CC343
    have KK345 : Keep h0 T343.heap [] := KK337.trans Kq343 all0
    have NN346 := Fr.app NN338 Nq343
    refine Go.st (T' := T343.setTop (mkF m 465 #[.val (.int p1), .val (.int p2), .val (.int p3), .val (.int p4), .val (.ref b60), .val (.ref b85), .val (.int (Int32.ofNat jp)), .val (.int c1), .val (.int c2), .val (.int (Int32.ofNat 2)), .val (.ref b255), .val (.ref b305), .val (.ref b318), .val (.int (0 : Int32))] [(.int (nar .boolean r343))])) (fun t k => st343.trans k) ?_
    have hr0 : r343 = 1 := by
      rcases hr343 with ⟨-, q⟩ | ⟨q, -⟩
      · exact absurd q (fun q => absurd (congrArg List.length q) (Nat.ne_of_beq_eq_false rfl))
      · exact q
    subst hr0
    refine Go.st (T' := T343.setTop (mkF m 467 #[.val (.int p1), .val (.int p2), .val (.int p3), .val (.int p4), .val (.ref b60), .val (.ref b85), .val (.int (Int32.ofNat jp)), .val (.int c1), .val (.int c2), .val (.int (Int32.ofNat 2)), .val (.ref b255), .val (.ref b305), .val (.ref b318), .val (.int (0 : Int32))] [(.int (0 : Int32)), (.int (nar .boolean (1 : Int32)))])) (fun t k => XS.iload Xr343.here hx rfl (hb hby at_465) rfl k) ?_
    refine Go.st (T' := T343.setTop (mkF m 470 #[.val (.int p1), .val (.int p2), .val (.int p3), .val (.int p4), .val (.ref b60), .val (.ref b85), .val (.int (Int32.ofNat jp)), .val (.int c1), .val (.int c2), .val (.int (Int32.ofNat 2)), .val (.ref b255), .val (.ref b305), .val (.ref b318), .val (.int (0 : Int32))] [(.int (nar .boolean (1 : Int32)))])) (fun t k => XS.ifNo Xr343.here hx rfl (hb hby at_467) rfl ((if0 _ _).trans (teq (by decide)).2) k) ?_
    refine Go.st (T' := T343.setTop (mkF m 471 #[.val (.int p1), .val (.int p2), .val (.int p3), .val (.int p4), .val (.ref b60), .val (.ref b85), .val (.int (Int32.ofNat jp)), .val (.int c1), .val (.int c2), .val (.int (Int32.ofNat 2)), .val (.ref b255), .val (.ref b305), .val (.ref b318), .val (.int (0 : Int32))] [(.int (1 : Int32)), (.int (nar .boolean (1 : Int32)))])) (fun t k => XS.iconst Xr343.here hx rfl (hb hby at_470) k) ?_
    refine Go.st (T' := T343.setTop (mkF m 475 #[.val (.int p1), .val (.int p2), .val (.int p3), .val (.int p4), .val (.ref b60), .val (.ref b85), .val (.int (Int32.ofNat jp)), .val (.int c1), .val (.int c2), .val (.int (Int32.ofNat 2)), .val (.ref b255), .val (.ref b305), .val (.ref b318), .val (.int (0 : Int32))] [(.int (1 : Int32)), (.int (nar .boolean (1 : Int32)))])) (fun t k => XS.goto Xr343.here hx rfl (pc0 := 471) (pc' := 475) rfl (hb hby at_471) (by decide) (by decide) k) ?_
    refine Go.st (T' := T343.setTop (mkF m 478 #[.val (.int p1), .val (.int p2), .val (.int p3), .val (.int p4), .val (.ref b60), .val (.ref b85), .val (.int (Int32.ofNat jp)), .val (.int c1), .val (.int c2), .val (.int (Int32.ofNat 2)), .val (.ref b255), .val (.ref b305), .val (.ref b318), .val (.int (0 : Int32))] [])) (fun t k => XS.icmpNo Xr343.here hx rfl (hb hby at_475) rfl (teq (by decide)).2 k) ?_
    refine Go.st (T' := T343.setTop (mkF m 479 #[.val (.int p1), .val (.int p2), .val (.int p3), .val (.int p4), .val (.ref b60), .val (.ref b85), .val (.int (Int32.ofNat jp)), .val (.int c1), .val (.int c2), .val (.int (Int32.ofNat 2)), .val (.ref b255), .val (.ref b305), .val (.ref b318), .val (.int (0 : Int32))] [(.int (1 : Int32))])) (fun t k => XS.iconst Xr343.here hx rfl (hb hby at_478) k) ?_
    refine Go.st (T' := T343.setTop (mkF m 483 #[.val (.int p1), .val (.int p2), .val (.int p3), .val (.int p4), .val (.ref b60), .val (.ref b85), .val (.int (Int32.ofNat jp)), .val (.int c1), .val (.int c2), .val (.int (Int32.ofNat 2)), .val (.ref b255), .val (.ref b305), .val (.ref b318), .val (.int (0 : Int32))] [(.int (1 : Int32))])) (fun t k => XS.goto Xr343.here hx rfl (pc0 := 479) (pc' := 483) rfl (hb hby at_479) (by decide) (by decide) k) ?_
    exact Go.doneH Xr343 hSr343 (by rw [(rfl : T343.heap = T343.heap)]; exact (Nat.le_refl _)) Bd.notSynchronized (v := some (.int (nar .boolean (1 : Int32)))) (fun h => by rw [Bd.returns] at h; cases h) (fun fs hr => retN Xr343 hx (t := .boolean) Bd.returns (by simp) (hb hby at_483) hr) (by rw [(rfl : T343.heap = T343.heap)]; exact ⟨rfl, NN346⟩) (by decide) (by decide) hZr343 hEL hh rfl C344
  ·
    refine Go.st (T' := T1.setTop (mkF m 194 #[.val (.int p1), .val (.int p2), .val (.int p3), .val (.int p4), .val (.ref b60), .val (.ref b85), .val (.int (Int32.ofNat jp)), .val (.int c1), .val (.int c2), .val (.int (Int32.ofNat 3)), .unset, .unset, .unset, .unset] [])) (fun t k => XS.ifYes X1.here hx rfl (pc0 := 184) (pc' := 194) rfl (hb hby at_184) rfl ((if0 _ _).trans (feq (by decide)).2) (by decide) (by decide) k) ?_
    refine Go.st (T' := T1.setTop (mkF m 196 #[.val (.int p1), .val (.int p2), .val (.int p3), .val (.int p4), .val (.ref b60), .val (.ref b85), .val (.int (Int32.ofNat jp)), .val (.int c1), .val (.int c2), .val (.int (Int32.ofNat 3)), .unset, .unset, .unset, .unset] [(.int (Int32.ofNat 3))])) (fun t k => XS.iload X1.here hx rfl (hb hby at_194) rfl k) ?_
    refine Go.st (T' := T1.setTop (mkF m 197 #[.val (.int p1), .val (.int p2), .val (.int p3), .val (.int p4), .val (.ref b60), .val (.ref b85), .val (.int (Int32.ofNat jp)), .val (.int c1), .val (.int c2), .val (.int (Int32.ofNat 3)), .unset, .unset, .unset, .unset] [(.int (1 : Int32)), (.int (Int32.ofNat 3))])) (fun t k => XS.iconst X1.here hx rfl (hb hby at_196) k) ?_
    refine Go.st (T' := T1.setTop (mkF m 287 #[.val (.int p1), .val (.int p2), .val (.int p3), .val (.int p4), .val (.ref b60), .val (.ref b85), .val (.int (Int32.ofNat jp)), .val (.int c1), .val (.int c2), .val (.int (Int32.ofNat 3)), .unset, .unset, .unset, .unset] [])) (fun t k => XS.icmpYes X1.here hx rfl (pc0 := 197) (pc' := 287) rfl (hb hby at_197) rfl (feq (by decide)).2 (by decide) (by decide) k) ?_
    refine Go.st (T' := T1.setTop (mkF m 289 #[.val (.int p1), .val (.int p2), .val (.int p3), .val (.int p4), .val (.ref b60), .val (.ref b85), .val (.int (Int32.ofNat jp)), .val (.int c1), .val (.int c2), .val (.int (Int32.ofNat 3)), .unset, .unset, .unset, .unset] [(.int (Int32.ofNat 3))])) (fun t k => XS.iload X1.here hx rfl (hb hby at_287) rfl k) ?_
    refine Go.st (T' := T1.setTop (mkF m 290 #[.val (.int p1), .val (.int p2), .val (.int p3), .val (.int p4), .val (.ref b60), .val (.ref b85), .val (.int (Int32.ofNat jp)), .val (.int c1), .val (.int c2), .val (.int (Int32.ofNat 3)), .unset, .unset, .unset, .unset] [(.int (2 : Int32)), (.int (Int32.ofNat 3))])) (fun t k => XS.iconst X1.here hx rfl (hb hby at_289) k) ?_
    refine Go.st (T' := T1.setTop (mkF m 395 #[.val (.int p1), .val (.int p2), .val (.int p3), .val (.int p4), .val (.ref b60), .val (.ref b85), .val (.int (Int32.ofNat jp)), .val (.int c1), .val (.int c2), .val (.int (Int32.ofNat 3)), .unset, .unset, .unset, .unset] [])) (fun t k => XS.icmpYes X1.here hx rfl (pc0 := 290) (pc' := 395) rfl (hb hby at_290) rfl (feq (by decide)).2 (by decide) (by decide) k) ?_
    refine Go.st (T' := T1.setTop (mkF m 396 #[.val (.int p1), .val (.int p2), .val (.int p3), .val (.int p4), .val (.ref b60), .val (.ref b85), .val (.int (Int32.ofNat jp)), .val (.int c1), .val (.int c2), .val (.int (Int32.ofNat 3)), .unset, .unset, .unset, .unset] [(.int (0 : Int32))])) (fun t k => XS.iconst X1.here hx rfl (hb hby at_395) k) ?_
    obtain ⟨T347, h347, k347, X347, e347, E347, A347, st347⟩ := newP X1 hx hZh (hw _ (List.mem_of_getElem? (i := 0) rfl)) e1 (g := (mkF m 396 #[.val (.int p1), .val (.int p2), .val (.int p3), .val (.int p4), .val (.ref b60), .val (.ref b85), .val (.int (Int32.ofNat jp)), .val (.int c1), .val (.int c2), .val (.int (Int32.ofNat 3)), .unset, .unset, .unset, .unset] [(.int (0 : Int32))])) rfl (hb hby at_396) rfl (by decide) (cap := 0) (by decide) (by decide) (by decide) (by decide)
    obtain ⟨b347, g347⟩ : ∃ z, z = h1.size := ⟨_, rfl⟩
    rw [← g347] at A347 st347
    have g_b347 : n0 ≤ b347 := Nat.le_trans (Nat.le_trans Z0 K1.1) (Nat.le_of_eq g347.symm)
    have sz_b347 : h0.size ≤ b347 := Nat.le_trans K1.1 (Nat.le_of_eq g347.symm)
    have ne348 : b60 ≠ b347 := Nat.ne_of_lt (Nat.lt_of_lt_of_le Vb1.lt (Nat.le_of_eq g347.symm))
    have ne349 : b85 ≠ b347 := Nat.ne_of_lt (Nat.lt_of_lt_of_le Va1.lt (Nat.le_of_eq g347.symm))
    have C350 : CHr Z EL s.vm h0 s.vm h347 := C1.trans (CHr.ext E347 C1.1)
    have K347 : Keep h0 h347 [] := K1.ext E347
    have V347 : Arv Z h347 b347 k347 .char (0 : Int32) [] (.int (0 : Int32)) := (Arv.new A347 (by decide)).pad (pad_rep [] (.int (0 : Int32)) 0)
    refine Go.st (T' := T347.setTop (mkF m 398 #[.val (.int p1), .val (.int p2), .val (.int p3), .val (.int p4), .val (.ref b60), .val (.ref b85), .val (.int (Int32.ofNat jp)), .val (.int c1), .val (.int c2), .val (.int (Int32.ofNat 3)), .unset, .unset, .unset, .unset] [(.ref b347)])) (fun t k => st347 t k) ?_
    refine Go.st (T' := T347.setTop (mkF m 400 #[.val (.int p1), .val (.int p2), .val (.int p3), .val (.int p4), .val (.ref b60), .val (.ref b85), .val (.int (Int32.ofNat jp)), .val (.int c1), .val (.int c2), .val (.int (Int32.ofNat 3)), .val (.ref b347), .unset, .unset, .unset] [])) (fun t k => XS.astore X347.here hx rfl (hb hby at_398) rfl rfl (l' := #[.val (.int p1), .val (.int p2), .val (.int p3), .val (.int p4), .val (.ref b60), .val (.ref b85), .val (.int (Int32.ofNat jp)), .val (.int c1), .val (.int c2), .val (.int (Int32.ofNat 3)), .val (.ref b347), .unset, .unset, .unset]) rfl k) ?_
    obtain ⟨T351, h351, X351, e351, E351, A351, D351, -, st351⟩ := newO X347 hx hZh hownh (hw _ (List.mem_of_getElem? (i := 2) rfl)) (hw _ (List.mem_of_getElem? (i := 3) rfl)) (hw _ (List.mem_of_getElem? (i := 4) rfl)) e347 (g := (mkF m 400 #[.val (.int p1), .val (.int p2), .val (.int p3), .val (.int p4), .val (.ref b60), .val (.ref b85), .val (.int (Int32.ofNat jp)), .val (.int c1), .val (.int c2), .val (.int (Int32.ofNat 3)), .val (.ref b347), .unset, .unset, .unset] [])) rfl (hb hby at_400) (by decide) (by decide)
    obtain ⟨b351, g351⟩ : ∃ z, z = h347.size := ⟨_, rfl⟩
    rw [← g351] at A351 D351 st351
    have g_b351 : n0 ≤ b351 := Nat.le_trans (Nat.le_trans Z0 K347.1) (Nat.le_of_eq g351.symm)
    have sz_b351 : h0.size ≤ b351 := Nat.le_trans K347.1 (Nat.le_of_eq g351.symm)
    have f352 : Arv Z h347 b60 k60 .char (11 : Int32) [(.int (117 : Int32)), (.int (110 : Int32)), (.int (115 : Int32)), (.int (117 : Int32)), (.int (112 : Int32)), (.int (112 : Int32)), (.int (111 : Int32)), (.int (114 : Int32)), (.int (116 : Int32)), (.int (101 : Int32)), (.int (100 : Int32))] (.int (0 : Int32)) := (Vb1.ext E347)
    have ne353 : b60 ≠ b351 := Nat.ne_of_lt (Nat.lt_of_lt_of_le f352.lt (Nat.le_of_eq g351.symm))
    have f354 : Arv Z h347 b85 k85 .char (11 : Int32) [(.int x0), (.int x1), (.int x2), (.int x3), (.int x4), (.int x5), (.int x6), (.int x7), (.int x8), (.int x9), (.int x10)] (.int (0 : Int32)) := (Va1.ext E347)
    have ne355 : b85 ≠ b351 := Nat.ne_of_lt (Nat.lt_of_lt_of_le f354.lt (Nat.le_of_eq g351.symm))
    have ne356 : b347 ≠ b351 := Nat.ne_of_lt (Nat.lt_of_lt_of_le V347.lt (Nat.le_of_eq g351.symm))
    have C357 : CHr Z EL s.vm h0 s.vm h351 := C350.trans (CHr.ext E351 C350.1)
    have K351 : Keep h0 h351 [] := K347.ext E351
    have Fn351_coder : Fld Z h351 b351 "java/lang/String" "coder" "B" (.int (0 : Int32)) := D351 (Or.inr (hw _ (List.mem_of_getElem? (i := 28) rfl))) (ty := .byte) (by decide)
    have Fn351_value : Fld Z h351 b351 "java/lang/String" "value" "[B" .null := D351 (Or.inr (hw _ (List.mem_of_getElem? (i := 30) rfl))) (ty := (.array .byte)) (by decide)
    refine Go.st (T' := T351.setTop (mkF m 403 #[.val (.int p1), .val (.int p2), .val (.int p3), .val (.int p4), .val (.ref b60), .val (.ref b85), .val (.int (Int32.ofNat jp)), .val (.int c1), .val (.int c2), .val (.int (Int32.ofNat 3)), .val (.ref b347), .unset, .unset, .unset] [(.ref b351)])) (fun t k => st351 t k) ?_
    refine Go.st (T' := T351.setTop (mkF m 404 #[.val (.int p1), .val (.int p2), .val (.int p3), .val (.int p4), .val (.ref b60), .val (.ref b85), .val (.int (Int32.ofNat jp)), .val (.int c1), .val (.int c2), .val (.int (Int32.ofNat 3)), .val (.ref b347), .unset, .unset, .unset] [(.ref b351), (.ref b351)])) (fun t k => XS.dup X351.here hx rfl (hb hby at_403) rfl rfl k) ?_
    refine Go.st (T' := T351.setTop (mkF m 406 #[.val (.int p1), .val (.int p2), .val (.int p3), .val (.int p4), .val (.ref b60), .val (.ref b85), .val (.int (Int32.ofNat jp)), .val (.int c1), .val (.int c2), .val (.int (Int32.ofNat 3)), .val (.ref b347), .unset, .unset, .unset] [(.ref b347), (.ref b351), (.ref b351)])) (fun t k => XS.aload X351.here hx rfl (hb hby at_404) rfl rfl k) ?_
    have f358 : Arv Z h351 b347 k347 .char (0 : Int32) [] (.int (0 : Int32)) := (V347.ext E351)
    have hp : ∀ c ∈ ([] : List Int32), ¬ c < 0 ∧ ¬ (255 : Int32) < c := fun c hc => by cases hc
    obtain ⟨vr359, _, ⟨T359, L359, k359, n359⟩, -, X359, hs359, hg359, ⟨Lc359, hQ359, l359, y359, z359⟩, st359⟩ := X351.specialBackS hx (y := (⟨"java/lang/String", "<init>", "([C)V"⟩ : MethodName)) rfl hownh (mvT hZh (hw _ (List.mem_of_getElem? (i := 5) rfl))) (mvT hZh (hw _ (List.mem_of_getElem? (i := 6) rfl))) (mvT hZh (hw _ (List.mem_of_getElem? (i := 7) rfl))) (by decide) (backOfSH (s := s) (vm0 := s.vm) (W := 1) (rmSE1 l Z a0 hw b351 b347 k347 h351 n0 (Nat.le_trans Z0 K351.1) A351 g_b351 Fn351_value Fn351_coder hEL wS f358) hZh (hw _ (List.mem_of_getElem? (i := 7) rfl)) (hw _ (List.mem_of_getElem? (i := 4) rfl)) (by decide) (by decide) hEL C357.1) (g := (mkF m 406 #[.val (.int p1), .val (.int p2), .val (.int p3), .val (.int p4), .val (.ref b60), .val (.ref b85), .val (.int (Int32.ofNat jp)), .val (.int c1), .val (.int c2), .val (.int (Int32.ofNat 3)), .val (.ref b347), .unset, .unset, .unset] [(.ref b347), (.ref b351), (.ref b351)])) rfl (by rw [hml]; rfl) (Steps.refl _) (a := b351) (argsL := [(.ref b347)]) (rest := [(.ref b351)]) (lenOf pd_a67b36d rfl) rfl (by show 2 * 0 + _ ≤ _; exact Nat.le_of_eq rfl) (hb hby at_406) (fun _ _ => ⟨rfl, e351, (by decide : 4 + 2 ≤ _), (by decide : 26 + 4 ≤ _)⟩)
    dsimp only [Pt.U, Pt.locs, Pt.cells, Pt.slots] at X359 l359 y359 z359 st359 hQ359 hs359 hg359
    subst l359 y359
    obtain ⟨z359, CC359⟩ := z359
    subst z359
    obtain ⟨rfl, Nq359, Kq359, Eq359, Cq359, t359, kb359, nt359, Vq359, Bq359⟩ := hQ359
    obtain ⟨Xr359, hSr359, hZr359, hor359⟩ := rebS (s := s) (vm0 := s.vm) hS0 (by rw [e351]; exact (Nat.zero_le _)) X359 hs359 hg359 hZh hownh
    have C360 : CHr Z EL s.vm h0 T359.vm T359.heap := C357.trans CC359
    have KK361 : Keep h0 T359.heap [] := K351.trans Kq359 (allS (Or.inr sz_b351) all0)
    have NN362 := Fr.app N1 Nq359
    refine Go.st (T' := T359.setTop (mkF m 409 #[.val (.int p1), .val (.int p2), .val (.int p3), .val (.int p4), .val (.ref b60), .val (.ref b85), .val (.int (Int32.ofNat jp)), .val (.int c1), .val (.int c2), .val (.int (Int32.ofNat 3)), .val (.ref b347), .unset, .unset, .unset] [(.ref b351)])) (fun t k => st359.trans k) ?_
    refine Go.st (T' := T359.setTop (mkF m 411 #[.val (.int p1), .val (.int p2), .val (.int p3), .val (.int p4), .val (.ref b60), .val (.ref b85), .val (.int (Int32.ofNat jp)), .val (.int c1), .val (.int c2), .val (.int (Int32.ofNat 3)), .val (.ref b347), .val (.ref b351), .unset, .unset] [])) (fun t k => XS.astore Xr359.here hx rfl (hb hby at_409) rfl rfl (l' := #[.val (.int p1), .val (.int p2), .val (.int p3), .val (.int p4), .val (.ref b60), .val (.ref b85), .val (.int (Int32.ofNat jp)), .val (.int c1), .val (.int c2), .val (.int (Int32.ofNat 3)), .val (.ref b347), .val (.ref b351), .unset, .unset]) rfl k) ?_
    obtain ⟨T363, h363, X363, e363, E363, A363, D363, -, st363⟩ := newO Xr359 hx hZr359 hor359 (hw _ (List.mem_of_getElem? (i := 31) rfl)) (hw _ (List.mem_of_getElem? (i := 32) rfl)) (hw _ (List.mem_of_getElem? (i := 33) rfl)) rfl (g := (mkF m 411 #[.val (.int p1), .val (.int p2), .val (.int p3), .val (.int p4), .val (.ref b60), .val (.ref b85), .val (.int (Int32.ofNat jp)), .val (.int c1), .val (.int c2), .val (.int (Int32.ofNat 3)), .val (.ref b347), .val (.ref b351), .unset, .unset] [])) rfl (hb hby at_411) (by decide) (by decide)
    obtain ⟨b363, g363⟩ : ∃ z, z = T359.heap.size := ⟨_, rfl⟩
    rw [← g363] at A363 D363 st363
    have g_b363 : n0 ≤ b363 := Nat.le_trans (Nat.le_trans Z0 KK361.1) (Nat.le_of_eq g363.symm)
    have sz_b363 : h0.size ≤ b363 := Nat.le_trans KK361.1 (Nat.le_of_eq g363.symm)
    have f364 : Arv Z T359.heap b60 k60 .char (11 : Int32) [(.int (117 : Int32)), (.int (110 : Int32)), (.int (115 : Int32)), (.int (117 : Int32)), (.int (112 : Int32)), (.int (112 : Int32)), (.int (111 : Int32)), (.int (114 : Int32)), (.int (116 : Int32)), (.int (101 : Int32)), (.int (100 : Int32))] (.int (0 : Int32)) := ((f352.ext E351).keep Kq359 (ninS ne353 nin0))
    have ne365 : b60 ≠ b363 := Nat.ne_of_lt (Nat.lt_of_lt_of_le f364.lt (Nat.le_of_eq g363.symm))
    have f366 : Arv Z T359.heap b85 k85 .char (11 : Int32) [(.int x0), (.int x1), (.int x2), (.int x3), (.int x4), (.int x5), (.int x6), (.int x7), (.int x8), (.int x9), (.int x10)] (.int (0 : Int32)) := ((f354.ext E351).keep Kq359 (ninS ne355 nin0))
    have ne367 : b85 ≠ b363 := Nat.ne_of_lt (Nat.lt_of_lt_of_le f366.lt (Nat.le_of_eq g363.symm))
    have f368 : Arv Z T359.heap b347 k347 .char (0 : Int32) [] (.int (0 : Int32)) := (f358.keep Kq359 (ninS ne356 nin0))
    have ne369 : b347 ≠ b363 := Nat.ne_of_lt (Nat.lt_of_lt_of_le f368.lt (Nat.le_of_eq g363.symm))
    have ne370 : b351 ≠ b363 := Nat.ne_of_lt (Nat.lt_of_lt_of_le Eq359.lt (Nat.le_of_eq g363.symm))
    have ne371 : t359 ≠ b363 := Nat.ne_of_lt (Nat.lt_of_lt_of_le Bq359.lt (Nat.le_of_eq g363.symm))
    have C372 : CHr Z EL s.vm h0 T359.vm h363 := C360.trans (CHr.ext E363 C360.1)
    have K363 : Keep h0 h363 [] := KK361.ext E363
    have Fn363_update : Fld Z h363 b363 "com/example/bede/bede/model/Explanation" "update" "Ljava/lang/String;" .null := D363 (Or.inr (hw _ (List.mem_of_getElem? (i := 53) rfl))) (ty := (.object "java/lang/String")) (by decide)
    have Fn363_expression : Fld Z h363 b363 "com/example/bede/bede/model/Explanation" "expression" "Ljava/lang/String;" .null := D363 (Or.inr (hw _ (List.mem_of_getElem? (i := 55) rfl))) (ty := (.object "java/lang/String")) (by decide)
    refine Go.st (T' := T363.setTop (mkF m 414 #[.val (.int p1), .val (.int p2), .val (.int p3), .val (.int p4), .val (.ref b60), .val (.ref b85), .val (.int (Int32.ofNat jp)), .val (.int c1), .val (.int c2), .val (.int (Int32.ofNat 3)), .val (.ref b347), .val (.ref b351), .unset, .unset] [(.ref b363)])) (fun t k => st363 t k) ?_
    refine Go.st (T' := T363.setTop (mkF m 415 #[.val (.int p1), .val (.int p2), .val (.int p3), .val (.int p4), .val (.ref b60), .val (.ref b85), .val (.int (Int32.ofNat jp)), .val (.int c1), .val (.int c2), .val (.int (Int32.ofNat 3)), .val (.ref b347), .val (.ref b351), .unset, .unset] [(.ref b363), (.ref b363)])) (fun t k => XS.dup X363.here hx rfl (hb hby at_414) rfl rfl k) ?_
    refine Go.st (T' := T363.setTop (mkF m 416 #[.val (.int p1), .val (.int p2), .val (.int p3), .val (.int p4), .val (.ref b60), .val (.ref b85), .val (.int (Int32.ofNat jp)), .val (.int c1), .val (.int c2), .val (.int (Int32.ofNat 3)), .val (.ref b347), .val (.ref b351), .unset, .unset] [(.int p4), (.ref b363), (.ref b363)])) (fun t k => XS.iloadN X363.here hx rfl (hb hby at_415) rfl k) ?_
    refine Go.st (T' := T363.setTop (mkF m 419 #[.val (.int p1), .val (.int p2), .val (.int p3), .val (.int p4), .val (.ref b60), .val (.ref b85), .val (.int (Int32.ofNat jp)), .val (.int c1), .val (.int c2), .val (.int (Int32.ofNat 3)), .val (.ref b347), .val (.ref b351), .unset, .unset] [(.int (255 : Int32)), (.int p4), (.ref b363), (.ref b363)])) (fun t k => XS.sipush X363.here hx rfl (hb hby at_416) k) ?_
    refine Go.st (T' := T363.setTop (mkF m 420 #[.val (.int p1), .val (.int p2), .val (.int p3), .val (.int p4), .val (.ref b60), .val (.ref b85), .val (.int (Int32.ofNat jp)), .val (.int c1), .val (.int c2), .val (.int (Int32.ofNat 3)), .val (.ref b347), .val (.ref b351), .unset, .unset] [(.int (p4 &&& (255 : Int32))), (.ref b363), (.ref b363)])) (fun t k => XS.iand X363.here hx rfl (hb hby at_419) rfl k) ?_
    refine Go.st (T' := T363.setTop (mkF m 421 #[.val (.int p1), .val (.int p2), .val (.int p3), .val (.int p4), .val (.ref b60), .val (.ref b85), .val (.int (Int32.ofNat jp)), .val (.int c1), .val (.int c2), .val (.int (Int32.ofNat 3)), .val (.ref b347), .val (.ref b351), .unset, .unset] [(.int ((p4 &&& (255 : Int32)).toUInt32.toUInt16.toUInt32.toInt32)), (.ref b363), (.ref b363)])) (fun t k => XS.i2c X363.here hx rfl (hb hby at_420) rfl k) ?_
    obtain ⟨vr373, _, ⟨T373, L373, k373, n373⟩, -, X373, ⟨Lc373, hQ373, l373, y373, z373⟩, st373⟩ := Jvm.LawKit.callS X363 hx (y := (⟨"java/lang/String", "valueOf", "(C)Ljava/lang/String;"⟩ : MethodName)) hor359 (mvT hZr359 (hw _ (List.mem_of_getElem? (i := 34) rfl))) (mvT hZr359 (hw _ (List.mem_of_getElem? (i := 35) rfl))) (mvT hZr359 (hw _ (List.mem_of_getElem? (i := 4) rfl))) (mvT hZr359 (hw _ (List.mem_of_getElem? (i := 36) rfl))) (by decide) (backOf (W := 2) (rmVal l Z a0 hw ((p4 &&& (255 : Int32)).toUInt32.toUInt16.toUInt32.toInt32) h363 n0 (Nat.le_trans Z0 K363.1) G1 O2 P5 (X00.keep K363 all0) (own_C_of _).1.2) hZr359 (hw _ (List.mem_of_getElem? (i := 36) rfl)) (hw _ (List.mem_of_getElem? (i := 4) rfl)) (by decide) (by decide)) (g := (mkF m 421 #[.val (.int p1), .val (.int p2), .val (.int p3), .val (.int p4), .val (.ref b60), .val (.ref b85), .val (.int (Int32.ofNat jp)), .val (.int c1), .val (.int c2), .val (.int (Int32.ofNat 3)), .val (.ref b347), .val (.ref b351), .unset, .unset] [(.int ((p4 &&& (255 : Int32)).toUInt32.toUInt16.toUInt32.toInt32)), (.ref b363), (.ref b363)])) rfl (by rw [hml]; rfl) (argsL := [(.int ((p4 &&& (255 : Int32)).toUInt32.toUInt16.toUInt32.toInt32))]) (rest := [(.ref b363), (.ref b363)]) (lenOf pd_b5a46ce rfl) rfl (by show 2 * 0 + _ ≤ _; exact Nat.le_of_eq rfl) (hb hby at_421) (fun _ _ => ⟨rfl, e363, (by decide : 7 + 2 ≤ _), (by decide : 32 + 5 ≤ _)⟩)
    dsimp only [Pt.U, Pt.locs, Pt.cells, Pt.slots] at X373 l373 y373 z373 st373 hQ373
    subst l373 y373 z373
    obtain ⟨Nq373, Kq373, y373, rfl⟩ := hQ373
    have C374 : CHr Z EL s.vm h0 T359.vm T373.heap := C372.trans (CHr.keep Kq373 all0 C372.1)
    have KK375 : Keep h0 T373.heap [] := K363.trans Kq373 all0
    have NN376 := Fr.app NN362 Nq373
    refine Go.st (T' := T373.setTop (mkF m 424 #[.val (.int p1), .val (.int p2), .val (.int p3), .val (.int p4), .val (.ref b60), .val (.ref b85), .val (.int (Int32.ofNat jp)), .val (.int c1), .val (.int c2), .val (.int (Int32.ofNat 3)), .val (.ref b347), .val (.ref b351), .unset, .unset] [(.ref y373), (.ref b363), (.ref b363)])) (fun t k => st373 t k) ?_
    refine Go.st (T' := T373.setTop (mkF m 426 #[.val (.int p1), .val (.int p2), .val (.int p3), .val (.int p4), .val (.ref b60), .val (.ref b85), .val (.int (Int32.ofNat jp)), .val (.int c1), .val (.int c2), .val (.int (Int32.ofNat 3)), .val (.ref b347), .val (.ref b351), .unset, .unset] [(.ref b351), (.ref y373), (.ref b363), (.ref b363)])) (fun t k => XS.aload X373.here hx rfl (hb hby at_424) rfl rfl k) ?_
    have f377 : Exa Z T373.heap b363 "com/example/bede/bede/model/Explanation" := (A363.keep Kq373)
    have f378 : Fld Z T373.heap b363 "com/example/bede/bede/model/Explanation" "update" "Ljava/lang/String;" .null := (Fn363_update.keep Kq373 nin0)
    have f379 : Fld Z T373.heap b363 "com/example/bede/bede/model/Explanation" "expression" "Ljava/lang/String;" .null := (Fn363_expression.keep Kq373 nin0)
    obtain ⟨vr380, _, ⟨T380, L380, k380, n380⟩, -, X380, ⟨Lc380, hQ380, l380, y380, z380⟩, st380⟩ := X373.specialBack hx (y := (⟨"com/example/bede/bede/model/Explanation", "<init>", "(Ljava/lang/String;Ljava/lang/String;)V"⟩ : MethodName)) rfl hor359 (mvT hZr359 (hw _ (List.mem_of_getElem? (i := 48) rfl))) (mvT hZr359 (hw _ (List.mem_of_getElem? (i := 49) rfl))) (mvT hZr359 (hw _ (List.mem_of_getElem? (i := 50) rfl))) (by decide) (backOf (W := 1) (rmEx l Z a0 hw b363 y373 b351 T373.heap n0 (Nat.le_trans Z0 KK375.1) f377 g_b363 f378 f379) hZr359 (hw _ (List.mem_of_getElem? (i := 50) rfl)) (hw _ (List.mem_of_getElem? (i := 33) rfl)) (by decide) (by decide)) (g := (mkF m 426 #[.val (.int p1), .val (.int p2), .val (.int p3), .val (.int p4), .val (.ref b60), .val (.ref b85), .val (.int (Int32.ofNat jp)), .val (.int c1), .val (.int c2), .val (.int (Int32.ofNat 3)), .val (.ref b347), .val (.ref b351), .unset, .unset] [(.ref b351), (.ref y373), (.ref b363), (.ref b363)])) rfl (by rw [hml]; rfl) (Steps.refl _) (a := b363) (argsL := [(.ref y373), (.ref b351)]) (rest := [(.ref b363)]) (lenOf pd_e442dcf rfl) rfl (by show 2 * 0 + _ ≤ _; exact Nat.le_of_eq rfl) (hb hby at_426) (fun _ _ => ⟨rfl, rfl, (by decide : 9 + 0 ≤ _), (by decide : 37 + 0 ≤ _)⟩)
    dsimp only [Pt.U, Pt.locs, Pt.cells, Pt.slots] at X380 l380 y380 z380 st380 hQ380
    subst l380 y380 z380
    obtain ⟨rfl, Nq380, Kq380, Eq380, Fe380⟩ := hQ380
    have C381 : CHr Z EL s.vm h0 T359.vm T380.heap := C374.trans (CHr.keep Kq380 (allS (Safe.exa hZr359.alike f377 (by decide) (by decide)) all0) C374.1)
    have KK382 : Keep h0 T380.heap [] := KK375.trans Kq380 (allS (Or.inr sz_b363) all0)
    have NN383 := Fr.app NN376 Nq380
    refine Go.st (T' := T380.setTop (mkF m 429 #[.val (.int p1), .val (.int p2), .val (.int p3), .val (.int p4), .val (.ref b60), .val (.ref b85), .val (.int (Int32.ofNat jp)), .val (.int c1), .val (.int c2), .val (.int (Int32.ofNat 3)), .val (.ref b347), .val (.ref b351), .unset, .unset] [(.ref b363)])) (fun t k => st380.trans k) ?_
    refine Go.st (T' := T380.setTop (mkF m 431 #[.val (.int p1), .val (.int p2), .val (.int p3), .val (.int p4), .val (.ref b60), .val (.ref b85), .val (.int (Int32.ofNat jp)), .val (.int c1), .val (.int c2), .val (.int (Int32.ofNat 3)), .val (.ref b347), .val (.ref b351), .val (.ref b363), .unset] [])) (fun t k => XS.astore X380.here hx rfl (hb hby at_429) rfl rfl (l' := #[.val (.int p1), .val (.int p2), .val (.int p3), .val (.int p4), .val (.ref b60), .val (.ref b85), .val (.int (Int32.ofNat jp)), .val (.int c1), .val (.int c2), .val (.int (Int32.ofNat 3)), .val (.ref b347), .val (.ref b351), .val (.ref b363), .unset]) rfl k) ?_
    refine Go.st (T' := T380.setTop (mkF m 433 #[.val (.int p1), .val (.int p2), .val (.int p3), .val (.int p4), .val (.ref b60), .val (.ref b85), .val (.int (Int32.ofNat jp)), .val (.int c1), .val (.int c2), .val (.int (Int32.ofNat 3)), .val (.ref b347), .val (.ref b351), .val (.ref b363), .unset] [(.int (Int32.ofNat 3))])) (fun t k => XS.iload X380.here hx rfl (hb hby at_431) rfl k) ?_
    refine Go.st (T' := T380.setTop (mkF m 457 #[.val (.int p1), .val (.int p2), .val (.int p3), .val (.int p4), .val (.ref b60), .val (.ref b85), .val (.int (Int32.ofNat jp)), .val (.int c1), .val (.int c2), .val (.int (Int32.ofNat 3)), .val (.ref b347), .val (.ref b351), .val (.ref b363), .unset] [])) (fun t k => XS.ifYes X380.here hx rfl (pc0 := 433) (pc' := 457) rfl (hb hby at_433) rfl ((if0 _ _).trans (feq (by decide)).2) (by decide) (by decide) k) ?_
    refine Go.st (T' := T380.setTop (mkF m 458 #[.val (.int p1), .val (.int p2), .val (.int p3), .val (.int p4), .val (.ref b60), .val (.ref b85), .val (.int (Int32.ofNat jp)), .val (.int c1), .val (.int c2), .val (.int (Int32.ofNat 3)), .val (.ref b347), .val (.ref b351), .val (.ref b363), .unset] [(.int (0 : Int32))])) (fun t k => XS.iconst X380.here hx rfl (hb hby at_457) k) ?_
    refine Go.st (T' := T380.setTop (mkF m 460 #[.val (.int p1), .val (.int p2), .val (.int p3), .val (.int p4), .val (.ref b60), .val (.ref b85), .val (.int (Int32.ofNat jp)), .val (.int c1), .val (.int c2), .val (.int (Int32.ofNat 3)), .val (.ref b347), .val (.ref b351), .val (.ref b363), .val (.int (0 : Int32))] [])) (fun t k => XS.istore X380.here hx rfl (hb hby at_458) rfl (l' := #[.val (.int p1), .val (.int p2), .val (.int p3), .val (.int p4), .val (.ref b60), .val (.ref b85), .val (.int (Int32.ofNat jp)), .val (.int c1), .val (.int c2), .val (.int (Int32.ofNat 3)), .val (.ref b347), .val (.ref b351), .val (.ref b363), .val (.int (0 : Int32))]) rfl k) ?_
    refine Go.st (T' := T380.setTop (mkF m 462 #[.val (.int p1), .val (.int p2), .val (.int p3), .val (.int p4), .val (.ref b60), .val (.ref b85), .val (.int (Int32.ofNat jp)), .val (.int c1), .val (.int c2), .val (.int (Int32.ofNat 3)), .val (.ref b347), .val (.ref b351), .val (.ref b363), .val (.int (0 : Int32))] [(.ref b363)])) (fun t k => XS.aload X380.here hx rfl (hb hby at_460) rfl rfl k) ?_
    have f384 : Exa Z T380.heap b351 "java/lang/String" := (((Eq359.ext E363).keep Kq373).keep Kq380)
    have f385 : Fld Z T380.heap b351 "java/lang/String" "value" "[B" (.ref t359) := (((Vq359.ext E363).keep Kq373 nin0).keep Kq380 (ninS ne370 nin0))
    have f386 : Fld Z T380.heap b351 "java/lang/String" "coder" "B" (.int (0 : Int32)) := (((Cq359.ext E363).keep Kq373 nin0).keep Kq380 (ninS ne370 nin0))
    have f387 : Arv Z T380.heap t359 kb359 .byte (Int32.ofNat (([] : List Int32)).length) (((([] : List Int32)).map (fun c => c.toInt8.toInt32)).map Value.int) (.int (0 : Int32)) := (((Bq359.ext E363).keep Kq373 nin0).keep Kq380 (ninS ne371 nin0))
    obtain ⟨cq388, kq388, q388a, q388b, q388c⟩ := isOf hZr359 rfl Eq380
    obtain ⟨vr388, _, ⟨T388, L388, k388, n388⟩, -, X388, hs388, hg388, ⟨Lc388, hQ388, l388, y388, z388⟩, st388⟩ := X380.virtualBackS hx (y := (⟨"com/example/bede/bede/model/Explanation", "isSupported", "()Z"⟩ : MethodName)) (z := (⟨"com/example/bede/bede/model/Explanation", "isSupported", "()Z"⟩ : MethodName)) hor359 (mvT hZr359 (hw _ (List.mem_of_getElem? (i := 56) rfl))) (mvT hZr359 (hw _ (List.mem_of_getElem? (i := 57) rfl))) (notFace_of_selects (args := #[]) (mvT hZr359 (hw _ (List.mem_of_getElem? (i := 59) rfl)))) (mvT hZr359 (hw _ (List.mem_of_getElem? (i := 59) rfl))) (mvT hZr359 (hw _ (List.mem_of_getElem? (i := 58) rfl))) (by decide) (backOfSH (s := s) (vm0 := T359.vm) (W := 0) (rmSup l Z a0 hw b363 b351 t359 kb359 ([] : List Int32) T380.heap n0 (Nat.le_trans Z0 KK382.1) G1 O2 P5 (X00.keep KK382 all0) Fe380 f384 f385 f386 f387 hp (Nat.le_of_ble_eq_true rfl) hEL wS) hZr359 (hw _ (List.mem_of_getElem? (i := 60) rfl)) (hw _ (List.mem_of_getElem? (i := 33) rfl)) (by decide) (by decide) hEL C381.1) q388a q388c (g := (mkF m 462 #[.val (.int p1), .val (.int p2), .val (.int p3), .val (.int p4), .val (.ref b60), .val (.ref b85), .val (.int (Int32.ofNat jp)), .val (.int c1), .val (.int c2), .val (.int (Int32.ofNat 3)), .val (.ref b347), .val (.ref b351), .val (.ref b363), .val (.int (0 : Int32))] [(.ref b363)])) rfl (by rw [hml]; rfl) (Steps.refl _) (argsL := []) (rest := []) (lenOf pd_a8ebd rfl) rfl (by show 2 * 0 + _ ≤ _; exact Nat.le_of_eq rfl) (hb hby at_462) (fun _ _ => ⟨rfl, rfl, (by decide : 9 + 2 ≤ _), (by decide : 37 + 48 ≤ _)⟩)
    dsimp only [Pt.U, Pt.locs, Pt.cells, Pt.slots] at X388 l388 y388 z388 st388 hQ388 hs388 hg388
    subst l388 y388
    obtain ⟨z388, CC388⟩ := z388
    subst z388
    obtain ⟨Nq388, Kq388, r388, rfl, hr388⟩ := hQ388
    obtain ⟨Xr388, hSr388, hZr388, hor388⟩ := rebS (s := s) (vm0 := T359.vm) hSr359 (by rw [(rfl : T380.heap = T380.heap)]; exact (Nat.le_trans (Nat.le_trans (Nat.le_trans (Nat.le_refl T359.heap.size) E363.1) Kq373.1) Kq380.1)) X388 hs388 hg388 hZr359 hor359
    have C389 : CHr Z EL s.vm h0 T388.vm T388.heap := C381.trans CC388
    have KK390 : Keep h0 T388.heap [] := KK382.trans Kq388 all0
    have NN391 := Fr.app NN383 Nq388
    refine Go.st (T' := T388.setTop (mkF m 465 #[.val (.int p1), .val (.int p2), .val (.int p3), .val (.int p4), .val (.ref b60), .val (.ref b85), .val (.int (Int32.ofNat jp)), .val (.int c1), .val (.int c2), .val (.int (Int32.ofNat 3)), .val (.ref b347), .val (.ref b351), .val (.ref b363), .val (.int (0 : Int32))] [(.int (nar .boolean r388))])) (fun t k => st388.trans k) ?_
    have hr0 : r388 = 1 := by
      rcases hr388 with ⟨-, q⟩ | ⟨q, -⟩
      · exact absurd q (fun q => absurd (congrArg List.length q) (Nat.ne_of_beq_eq_false rfl))
      · exact q
    subst hr0
    refine Go.st (T' := T388.setTop (mkF m 467 #[.val (.int p1), .val (.int p2), .val (.int p3), .val (.int p4), .val (.ref b60), .val (.ref b85), .val (.int (Int32.ofNat jp)), .val (.int c1), .val (.int c2), .val (.int (Int32.ofNat 3)), .val (.ref b347), .val (.ref b351), .val (.ref b363), .val (.int (0 : Int32))] [(.int (0 : Int32)), (.int (nar .boolean (1 : Int32)))])) (fun t k => XS.iload Xr388.here hx rfl (hb hby at_465) rfl k) ?_
    refine Go.st (T' := T388.setTop (mkF m 470 #[.val (.int p1), .val (.int p2), .val (.int p3), .val (.int p4), .val (.ref b60), .val (.ref b85), .val (.int (Int32.ofNat jp)), .val (.int c1), .val (.int c2), .val (.int (Int32.ofNat 3)), .val (.ref b347), .val (.ref b351), .val (.ref b363), .val (.int (0 : Int32))] [(.int (nar .boolean (1 : Int32)))])) (fun t k => XS.ifNo Xr388.here hx rfl (hb hby at_467) rfl ((if0 _ _).trans (teq (by decide)).2) k) ?_
    refine Go.st (T' := T388.setTop (mkF m 471 #[.val (.int p1), .val (.int p2), .val (.int p3), .val (.int p4), .val (.ref b60), .val (.ref b85), .val (.int (Int32.ofNat jp)), .val (.int c1), .val (.int c2), .val (.int (Int32.ofNat 3)), .val (.ref b347), .val (.ref b351), .val (.ref b363), .val (.int (0 : Int32))] [(.int (1 : Int32)), (.int (nar .boolean (1 : Int32)))])) (fun t k => XS.iconst Xr388.here hx rfl (hb hby at_470) k) ?_
    refine Go.st (T' := T388.setTop (mkF m 475 #[.val (.int p1), .val (.int p2), .val (.int p3), .val (.int p4), .val (.ref b60), .val (.ref b85), .val (.int (Int32.ofNat jp)), .val (.int c1), .val (.int c2), .val (.int (Int32.ofNat 3)), .val (.ref b347), .val (.ref b351), .val (.ref b363), .val (.int (0 : Int32))] [(.int (1 : Int32)), (.int (nar .boolean (1 : Int32)))])) (fun t k => XS.goto Xr388.here hx rfl (pc0 := 471) (pc' := 475) rfl (hb hby at_471) (by decide) (by decide) k) ?_
    refine Go.st (T' := T388.setTop (mkF m 478 #[.val (.int p1), .val (.int p2), .val (.int p3), .val (.int p4), .val (.ref b60), .val (.ref b85), .val (.int (Int32.ofNat jp)), .val (.int c1), .val (.int c2), .val (.int (Int32.ofNat 3)), .val (.ref b347), .val (.ref b351), .val (.ref b363), .val (.int (0 : Int32))] [])) (fun t k => XS.icmpNo Xr388.here hx rfl (hb hby at_475) rfl (teq (by decide)).2 k) ?_
    refine Go.st (T' := T388.setTop (mkF m 479 #[.val (.int p1), .val (.int p2), .val (.int p3), .val (.int p4), .val (.ref b60), .val (.ref b85), .val (.int (Int32.ofNat jp)), .val (.int c1), .val (.int c2), .val (.int (Int32.ofNat 3)), .val (.ref b347), .val (.ref b351), .val (.ref b363), .val (.int (0 : Int32))] [(.int (1 : Int32))])) (fun t k => XS.iconst Xr388.here hx rfl (hb hby at_478) k) ?_
    refine Go.st (T' := T388.setTop (mkF m 483 #[.val (.int p1), .val (.int p2), .val (.int p3), .val (.int p4), .val (.ref b60), .val (.ref b85), .val (.int (Int32.ofNat jp)), .val (.int c1), .val (.int c2), .val (.int (Int32.ofNat 3)), .val (.ref b347), .val (.ref b351), .val (.ref b363), .val (.int (0 : Int32))] [(.int (1 : Int32))])) (fun t k => XS.goto Xr388.here hx rfl (pc0 := 479) (pc' := 483) rfl (hb hby at_479) (by decide) (by decide) k) ?_
    exact Go.doneH Xr388 hSr388 (by rw [(rfl : T388.heap = T388.heap)]; exact (Nat.le_refl _)) Bd.notSynchronized (v := some (.int (nar .boolean (1 : Int32)))) (fun h => by rw [Bd.returns] at h; cases h) (fun fs hr => retN Xr388 hx (t := .boolean) Bd.returns (by simp) (hb hby at_483) hr) (by rw [(rfl : T388.heap = T388.heap)]; exact ⟨rfl, NN391⟩) (by decide) (by decide) hZr388 hEL hh rfl C389
set_option maxRecDepth 65536 in
set_option maxHeartbeats 40000000 in
theorem comes_1 {Post : Tables → Env → Array Value → State → Outcome → State → Prop} (hpost : ∀ tb e args s v u, (limb_1_1.after args s (.returned v) u = true ∧ limb_1_2.after args s (.returned v) u = true ∧ True) → ReturnedEndW s (.returned v) u (Jvm.fieldLocs frame_1_writes args s ++ Jvm.arrayLocs frame_1_arrays args s ++ Jvm.staticLocs frame_1_statics s) 32 2240 → Post tb e args s (.returned v) u) :
    ArmFor flags0 classFile x code maxLocals ret World_1 tables_1 room_1 Calls_1 rest_1 Pre_1 Post := by
  intro l hfl _ _ p e ha hc hk s m args below hf hA hF happ hP
  obtain ⟨hcalls, hrest, hpre⟩ := hP
  obtain ⟨-, -, -, hnamed, -, -, -, hat⟩ := (Spec.applies_iff hf).mp happ
  obtain ⟨hg, hn⟩ := and_e (Cond.before_iff.mp (show (Jvm.Cond.and given_1 narrow_1).before args s = true from hpre))
  obtain ⟨gc, gr0⟩ := and_e hg
  obtain ⟨ga0, gr1⟩ := and_e gr0
  obtain ⟨ga1, gr2⟩ := and_e gr1
  obtain ⟨ga2, gr3⟩ := and_e gr2
  obtain ⟨w0, w1, w2, w3, rfl⟩ : ∃ w0 w1 w2 w3 : Value, args = #[w0, w1, w2, w3] := by
    have hs : args.size = 4 := by simpa [Cond.value, given_1] using gc
    obtain ⟨L⟩ := args
    match L, hs with
    | [w0, w1, w2, w3], _ => exact ⟨w0, w1, w2, w3, rfl⟩
  have hw := fun d (hd : d ∈ tables_1) => atoms_spec (ws := Jvm.Cond.code x code maxLocals ret :: tables_1) hat d (List.mem_cons_of_mem _ hd)
  have hfit : Fit s := fun {y c} hc i hi => by
    obtain ⟨ha, rfl⟩ := Array.getElem?_eq_some_iff.mp hc
    have q := List.all_eq_true.mp ((Array.all_eq_true_iff_forall_mem.mp hF) _ (Array.getElem_mem ha)) i (List.mem_range.mpr hi)
    simpa [Array.getElem?_eq_getElem hi] using q
  obtain ⟨i0, ei0⟩ := is_v ga0
  obtain rfl : w0 = (.int i0) := Option.some.inj ei0
  obtain ⟨i1, ei1⟩ := is_v ga1
  obtain rfl : w1 = (.int i1) := Option.some.inj ei1
  obtain ⟨i2, ei2⟩ := is_v ga2
  obtain rfl : w2 = (.int i2) := Option.some.inj ei2
  obtain ⟨i3, ei3⟩ := is_v gr3
  obtain rfl : w3 = (.int i3) := Option.some.inj ei3
  obtain ⟨hsets, hown0⟩ := atoms_of _ (rest_1_c_eq ▸ (show rest_1_c.before _ s = true from hrest))
  have n5 := not_v (Cond.before_iff.mp (hsets _ (List.mem_of_getElem? (i := 2) rfl)))
  obtain ⟨iC, eC⟩ := is_v (Cond.before_iff.mp (hsets _ (List.mem_of_getElem? (i := 1) rfl)))
  have SC : Sta s s.heap "java/lang/String" "COMPACT_STRINGS" "Z" (.int iC) := Sta.start eC (Or.inl (hsets _ (List.mem_of_getElem? (i := 0) rfl)))
  have cC : ¬ (iC = (0 : Int32)) := gotF (Cond.eq_ints eC (Term.int_eval (0))) n5
  have wS : ∀ a ∈ Bundle.stringAtoms, a.before _ s = true := fun d hd => hw d ((by decide +kernel : ∀ d ∈ Bundle.stringAtoms, d ∈ tables_1) d hd)
  have hEL : EW s _ EL := (EW.cons (hw _ (List.mem_of_getElem? (i := 61) rfl)) (by decide) (EW.cons (hw _ (List.mem_of_getElem? (i := 72) rfl)) (by decide) EW.nil))
  have hcw : Jvm.Lit.compactW.before _ s = true := hsets _ (List.mem_of_getElem? (i := 2) rfl)
  have hCH : CHv s EL s.vm s.heap := CHv.start hEL hcalls.1 hcw (wS _ (by simp [Bundle.stringAtoms])) (wS _ (by simp [Bundle.stringAtoms, Bundle.sN]))
  obtain ⟨n, o, h1, h2, h3, _, L, rfl, ⟨rfl, N⟩, -, hq⟩ := rm0 l s _ hw tables_1 i0 i1 i2 i3 s.heap s.heap.size (Nat.le_refl _) iC SC cC (Old.start s) hEL wS p e ha hc hk s m _ below hf ((Spec.applies_iff_loose hf).mp happ).1 ⟨rfl, State.Warmed39.refl s, rfl, hCH⟩ trivial
  refine ⟨n, _, h1, h2, h3, hpost _ _ _ _ _ _ ⟨Cond.after_iff.mpr rfl, Cond.after_iff.mpr (eq_i res_at (Term.int_eval (1)) rfl), trivial⟩ ⟨hq.1, hq.2.1, hq.2.2.1, (hq.2.2.2.sift fun y hy => Or.inr (N y hy)).mono (by decide) (by decide)⟩⟩
theorem main_1_1 : Claimed_1_1 := comes_1 fun _ _ _ _ _ _ h hF => ⟨h.1, hF⟩
theorem main_1_2 : Claimed_1_2 := comes_1 fun _ _ _ _ _ _ h hF => ⟨h.2.1, hF⟩
end Jvm.Pilot.@@N@@
namespace Jvm.Pilot.@@N@@
open Jvm Jvm.ClassFile Sem Op Lib Jvm.Free Jvm.Stand Jvm.Pilot.@@N@@.Jvm.D
/-! MADE BY PROGRAM (witnessworld.py) out of the Statement's table words and the real class files: 20 classes; the members and pool entries that the words name. The judged class is class 1, her method 1. -/
namespace start1
open Jvm.ClassFile
def u (s : String) : CpInfo := .utf8 (stringToUtf16 s)
/-- a pool by its gaps: so many unusable entries, then the entry; so many at the end -/
def gap : Nat → List CpInfo → List CpInfo
  | 0, r => r
  | n + 1, r => .unusable :: gap n r
def poolList (es : List (Nat × CpInfo)) (last : Nat) : List CpInfo := es.foldr (fun e r => gap e.1 (e.2 :: r)) (gap last [])
def pool (es : List (Nat × CpInfo)) (last : Nat) : Array CpInfo := ⟨poolList es last⟩
def fileOf (pool : Array CpInfo) (this : Nat) (attrs : Array Attribute := #[]) (ms : Array MethodInfo := #[]) (fl : Nat := 33) (sup : Nat := 0) (ifs : Array Nat := #[]) (fds : Array FieldInfo := #[]) : ClassFile where
  minorVersion := 0
  majorVersion := 65
  constantPool := pool
  accessFlags := fl
  thisClass := this
  superClass := sup
  interfaces := ifs
  fields := fds
  methods := ms
  attributes := attrs
def plain (name : String) (sup : Option ClassId) : Class where
  name := name
  kind := .ordinary
  loader := none
  accessFlags := 33
  super := sup
  interfaces := #[]
  cf := none
  fields := #[]
  methods := #[]
  instanceTypes := #[]
  staticTypes := #[]
  resolved := #[]
  callSites := []
  init := .initialized
  statics := none
  mirror := none

def pool0 : Array CpInfo := pool [(5, u "<init>"), (0, u "()V"), (1, .class_ 10), (1, u "java/lang/Object")] 113

def k0c0 : Code := { maxStack := 0, maxLocals := 1, code := object_method_1_code, exceptionTable := #[], attributes := #[] }
def k0m0 : Method := { name := "<init>", desc := "()V", sig := { parameters := [], returnType := none }, accessFlags := 1, code := some k0c0 }
/-- java/lang/Object -/
def k0 : Class := { plain "java/lang/Object" none with
  accessFlags := 33
  interfaces := #[]
  cf := some (fileOf pool0 8 #[] #[{ accessFlags := 1, nameIndex := 5, descriptorIndex := 6, attributes := #[] }] 33 0 #[] #[])
  fields := #[]
  methods := #[k0m0]
  instanceTypes := #[]
  staticTypes := #[]
  resolved := Array.replicate 124 none
  statics := none }

def pool1 : Array CpInfo := pool [(2, .class_ 4), (1, u "java/lang/Object"), (0, u "<init>"), (0, u "()V"), (0, .integer 2147483647), (0, .class_ 9), (0, u "java/lang/String"), (0, .methodref 8 11), (0, .nameAndType 5 12), (0, u "([C)V"), (0, .class_ 14), (0, u "com/example/bede/bede/model/Explanation"), (0, .methodref 8 16), (0, .nameAndType 17 18), (0, u "valueOf"), (0, u "(C)Ljava/lang/String;"), (0, .methodref 13 20), (0, .nameAndType 5 21), (0, u "(Ljava/lang/String;Ljava/lang/String;)V"), (0, .methodref 13 23), (0, .nameAndType 24 25), (0, u "isSupported"), (0, u "()Z"), (0, .class_ 27), (0, u "com/example/bede/bede/model/ExplanationIsSupportedPinLaw"), (2, u "law"), (0, u "(IIII)Z")] 5

def k1m0 : Method := { name := "<init>", desc := "()V", sig := { parameters := [], returnType := none }, accessFlags := 1, code := none }
def k1c1 : Code := { maxStack := 5, maxLocals := 14, code := code, exceptionTable := #[], attributes := #[] }
def k1m1 : Method := { name := "law", desc := "(IIII)Z", sig := { parameters := [.int, .int, .int, .int], returnType := some .boolean }, accessFlags := 9, code := some k1c1 }
/-- com/example/bede/bede/model/ExplanationIsSupportedPinLaw -/
def k1 : Class := { plain "com/example/bede/bede/model/ExplanationIsSupportedPinLaw" (some 0) with
  accessFlags := 49
  interfaces := #[]
  cf := some (fileOf pool1 26 #[] #[{ accessFlags := 1, nameIndex := 5, descriptorIndex := 6, attributes := #[] }, { accessFlags := 9, nameIndex := 30, descriptorIndex := 31, attributes := #[] }] 49 2 #[] #[])
  fields := #[]
  methods := #[k1m0, k1m1]
  instanceTypes := #[]
  staticTypes := #[]
  resolved := Array.replicate 37 none
  statics := none }

def pool2 : Array CpInfo := pool [(1, .class_ 2), (0, u "java/io/Serializable"), (0, .class_ 4), (0, u "java/lang/Object")] 2

/-- java/io/Serializable -/
def k2 : Class := { plain "java/io/Serializable" (some 0) with
  accessFlags := 1537
  interfaces := #[]
  cf := some (fileOf pool2 1 #[] #[] 1537 3 #[] #[])
  fields := #[]
  methods := #[]
  instanceTypes := #[]
  staticTypes := #[]
  resolved := Array.replicate 7 none
  statics := none }

def pool3 : Array CpInfo := pool [(1, .class_ 2), (0, u "java/lang/Comparable"), (0, .class_ 4), (0, u "java/lang/Object")] 7

/-- java/lang/Comparable -/
def k3 : Class := { plain "java/lang/Comparable" (some 0) with
  accessFlags := 1537
  interfaces := #[]
  cf := some (fileOf pool3 1 #[] #[] 1537 3 #[] #[])
  fields := #[]
  methods := #[]
  instanceTypes := #[]
  staticTypes := #[]
  resolved := Array.replicate 12 none
  statics := none }

def pool4 : Array CpInfo := pool [(2, .class_ 4), (1, u "java/lang/CharSequence"), (42, .class_ 48), (0, u "java/lang/CharSequence$1CodePointIterator"), (10, .class_ 60), (0, u "java/lang/CharSequence$1CharIterator"), (5, .class_ 67), (0, u "java/lang/Object")] 63

/-- java/lang/CharSequence -/
def k4 : Class := { plain "java/lang/CharSequence" (some 0) with
  accessFlags := 1537
  interfaces := #[]
  cf := some (fileOf pool4 2 #[.nestMembers #[47, 59]] #[] 1537 66 #[] #[])
  fields := #[]
  methods := #[]
  instanceTypes := #[]
  staticTypes := #[]
  resolved := Array.replicate 131 none
  statics := none }

def pool5 : Array CpInfo := pool [(1, .class_ 2), (0, u "java/lang/constant/Constable"), (0, .class_ 4), (0, u "java/lang/Object")] 6

/-- java/lang/constant/Constable -/
def k5 : Class := { plain "java/lang/constant/Constable" (some 0) with
  accessFlags := 1537
  interfaces := #[]
  cf := some (fileOf pool5 1 #[] #[] 1537 3 #[] #[])
  fields := #[]
  methods := #[]
  instanceTypes := #[]
  staticTypes := #[]
  resolved := Array.replicate 11 none
  statics := none }

def pool6 : Array CpInfo := pool [(1, .class_ 2), (0, u "java/lang/constant/ConstantDesc"), (0, .class_ 4), (0, u "java/lang/Object")] 32

/-- java/lang/constant/ConstantDesc -/
def k6 : Class := { plain "java/lang/constant/ConstantDesc" (some 0) with
  accessFlags := 1537
  interfaces := #[]
  cf := some (fileOf pool6 1 #[] #[] 1537 3 #[] #[])
  fields := #[]
  methods := #[]
  instanceTypes := #[]
  staticTypes := #[]
  resolved := Array.replicate 37 none
  statics := none }

def pool7 : Array CpInfo := pool [(1, .methodref 2 3), (0, .class_ 4), (0, .nameAndType 5 6), (0, u "java/lang/Object"), (0, u "<init>"), (0, u "()V"), (0, .string 8), (0, u ""), (0, .fieldref 10 11), (0, .class_ 12), (0, .nameAndType 13 14), (0, u "java/lang/String"), (0, u "value"), (0, u "[B"), (0, .fieldref 10 16), (0, .nameAndType 17 18), (0, u "coder"), (0, u "B"), (2, u "hash"), (0, u "I"), (2, u "hashIsZero"), (0, u "Z"), (0, .methodref 10 28), (0, .nameAndType 5 29), (0, u "([CIILjava/lang/Void;)V"), (8, .fieldref 10 39), (0, .nameAndType 40 26), (0, u "COMPACT_STRINGS"), (1, .class_ 44), (1, u "java/lang/StringUTF16"), (0, u "compress"), (1, .methodref 42 48), (0, .nameAndType 49 50), (0, u "coderFromArrayLen"), (0, u "([BI)B"), (2, u "toBytes"), (53, .class_ 109), (1, u "java/lang/StringLatin1"), (67, .methodref 42 178), (0, .nameAndType 45 179), (0, u "([CII)[B"), (29, .methodref 10 210), (0, .nameAndType 5 211), (0, u "([BB)V"), (157, u "(C)Z"), (171, .methodref 107 542), (0, .nameAndType 543 544), (0, u "equals"), (0, u "([B[B)Z"), (28, u "(Ljava/lang/Object;)Z"), (1, .class_ 576), (0, u "java/lang/CharSequence"), (22, u "CASE_INSENSITIVE_ORDER"), (0, u "Ljava/util/Comparator;"), (181, u "valueOf"), (0, u "(C)Ljava/lang/String;"), (226, u "([C)V"), (4, .methodref 107 1016), (0, .nameAndType 1017 369), (0, u "canEncode"), (0, .methodref 107 1019), (0, .nameAndType 53 1020), (0, u "(C)[B"), (80, u "serialPersistentFields"), (0, u "[Ljava/io/ObjectStreamField;"), (0, .class_ 1104), (0, u "java/lang/String$CaseInsensitiveComparator"), (1, .class_ 1107), (0, u "java/io/Serializable"), (0, .class_ 1109), (0, u "java/lang/Comparable"), (0, .class_ 1111), (0, u "java/lang/constant/Constable"), (0, .class_ 1113), (0, u "java/lang/constant/ConstantDesc"), (2, u "serialVersionUID"), (0, u "J"), (3, u "REPL"), (0, u "C"), (2, u "LATIN1"), (1, u "UTF16")] 323

def k7m0 : Method := { name := "<init>", desc := "()V", sig := { parameters := [], returnType := none }, accessFlags := 1, code := none }
def k7c1 : Code := { maxStack := 5, maxLocals := 2, code := jdk_42_method_3_code, exceptionTable := #[], attributes := #[] }
def k7m1 : Method := { name := "<init>", desc := "([C)V", sig := { parameters := [(.array .char)], returnType := none }, accessFlags := 1, code := some k7c1 }
def k7c2 : Code := { maxStack := 2, maxLocals := 3, code := jdk_42_method_66_code, exceptionTable := #[], attributes := #[] }
def k7m2 : Method := { name := "equals", desc := "(Ljava/lang/Object;)Z", sig := { parameters := [(.object "java/lang/Object")], returnType := some .boolean }, accessFlags := 1, code := some k7c2 }
def k7c3 : Code := { maxStack := 4, maxLocals := 1, code := jdk_42_method_139_code, exceptionTable := #[], attributes := #[] }
def k7m3 : Method := { name := "valueOf", desc := "(C)Ljava/lang/String;", sig := { parameters := [.char], returnType := some (.object "java/lang/String") }, accessFlags := 9, code := some k7c3 }
def k7c4 : Code := { maxStack := 4, maxLocals := 6, code := jdk_42_method_149_code, exceptionTable := #[], attributes := #[] }
def k7m4 : Method := { name := "<init>", desc := "([CIILjava/lang/Void;)V", sig := { parameters := [(.array .char), .int, .int, (.object "java/lang/Void")], returnType := none }, accessFlags := 2, code := some k7c4 }
def k7c5 : Code := { maxStack := 2, maxLocals := 3, code := jdk_42_method_151_code, exceptionTable := #[], attributes := #[] }
def k7m5 : Method := { name := "<init>", desc := "([BB)V", sig := { parameters := [(.array .byte), .byte], returnType := none }, accessFlags := 0, code := some k7c5 }
/-- java/lang/String -/
def k7 : Class := { plain "java/lang/String" (some 0) with
  accessFlags := 49
  interfaces := #[2, 3, 4, 5, 6]
  cf := some (fileOf pool7 10 #[.nestMembers #[1103]] #[{ accessFlags := 1, nameIndex := 5, descriptorIndex := 6, attributes := #[] }, { accessFlags := 1, nameIndex := 5, descriptorIndex := 1010, attributes := #[] }, { accessFlags := 1, nameIndex := 543, descriptorIndex := 573, attributes := #[] }, { accessFlags := 9, nameIndex := 782, descriptorIndex := 783, attributes := #[] }, { accessFlags := 2, nameIndex := 5, descriptorIndex := 29, attributes := #[] }, { accessFlags := 0, nameIndex := 5, descriptorIndex := 211, attributes := #[] }] 49 2 #[1106, 1108, 575, 1110, 1112] #[{ accessFlags := 18, nameIndex := 13, descriptorIndex := 14, attributes := #[] }, { accessFlags := 18, nameIndex := 17, descriptorIndex := 18, attributes := #[] }, { accessFlags := 2, nameIndex := 21, descriptorIndex := 22, attributes := #[] }, { accessFlags := 2, nameIndex := 25, descriptorIndex := 26, attributes := #[] }, { accessFlags := 26, nameIndex := 1116, descriptorIndex := 1117, attributes := #[] }, { accessFlags := 24, nameIndex := 40, descriptorIndex := 26, attributes := #[] }, { accessFlags := 26, nameIndex := 1101, descriptorIndex := 1102, attributes := #[] }, { accessFlags := 26, nameIndex := 1121, descriptorIndex := 1122, attributes := #[] }, { accessFlags := 25, nameIndex := 599, descriptorIndex := 600, attributes := #[] }, { accessFlags := 24, nameIndex := 1125, descriptorIndex := 18, attributes := #[] }, { accessFlags := 24, nameIndex := 1127, descriptorIndex := 18, attributes := #[] }])
  fields := #[{ name := "value", type := (.array .byte), accessFlags := 18, slot := 0, constantValue := 0 }, { name := "coder", type := .byte, accessFlags := 18, slot := 1, constantValue := 0 }, { name := "hash", type := .int, accessFlags := 2, slot := 2, constantValue := 0 }, { name := "hashIsZero", type := .boolean, accessFlags := 2, slot := 3, constantValue := 0 }, { name := "serialVersionUID", type := .long, accessFlags := 26, slot := 0, constantValue := 0 }, { name := "COMPACT_STRINGS", type := .boolean, accessFlags := 24, slot := 1, constantValue := 0 }, { name := "serialPersistentFields", type := (.array (.object "java/io/ObjectStreamField")), accessFlags := 26, slot := 2, constantValue := 0 }, { name := "REPL", type := .char, accessFlags := 26, slot := 3, constantValue := 0 }, { name := "CASE_INSENSITIVE_ORDER", type := (.object "java/util/Comparator"), accessFlags := 25, slot := 4, constantValue := 0 }, { name := "LATIN1", type := .byte, accessFlags := 24, slot := 5, constantValue := 0 }, { name := "UTF16", type := .byte, accessFlags := 24, slot := 6, constantValue := 0 }]
  methods := #[k7m0, k7m1, k7m2, k7m3, k7m4, k7m5]
  instanceTypes := #[(.array .byte), .byte, .int, .boolean]
  staticTypes := #[.long, .boolean, (.array (.object "java/io/ObjectStreamField")), .char, (.object "java/util/Comparator"), .byte, .byte]
  resolved := Array.replicate 1451 none
  statics := some 0 }

def pool8 : Array CpInfo := pool [(6, .class_ 8), (1, u "java/lang/Object"), (0, u "<init>"), (0, u "()V"), (1, .class_ 14), (1, u "java/lang/StringUTF16"), (31, u "$assertionsDisabled"), (0, u "Z"), (13, u "HI_BYTE_SHIFT"), (0, u "I"), (2, u "LO_BYTE_SHIFT"), (49, .methodref 12 116), (0, .nameAndType 117 118), (0, u "compress"), (0, u "([CI[BII)I"), (3, u "([CII)[B"), (138, u "coderFromArrayLen"), (0, u "([BI)B"), (106, .class_ 371), (1, u "java/lang/StringUTF16$LinesSpliterator"), (58, u "MAX_LENGTH"), (196, .class_ 628), (0, u "java/lang/StringUTF16$CodePointsSpliterator"), (0, .class_ 630), (0, u "java/lang/StringUTF16$CharsSpliterator")] 4

def k8m0 : Method := { name := "<init>", desc := "()V", sig := { parameters := [], returnType := none }, accessFlags := 0, code := none }
def k8c1 : Code := { maxStack := 2, maxLocals := 2, code := jdk_52_method_15_code, exceptionTable := #[], attributes := #[] }
def k8m1 : Method := { name := "coderFromArrayLen", desc := "([BI)B", sig := { parameters := [(.array .byte), .int], returnType := some .byte }, accessFlags := 8, code := some k8c1 }
def k8c2 : Code := { maxStack := 5, maxLocals := 6, code := jdk_52_method_16_code, exceptionTable := #[], attributes := #[] }
def k8m2 : Method := { name := "compress", desc := "([CII)[B", sig := { parameters := [(.array .char), .int, .int], returnType := some (.array .byte) }, accessFlags := 9, code := some k8c2 }
def k8c3 : Code := { maxStack := 3, maxLocals := 7, code := jdk_52_method_21_code, exceptionTable := #[], attributes := #[] }
def k8m3 : Method := { name := "compress", desc := "([CI[BII)I", sig := { parameters := [(.array .char), .int, (.array .byte), .int, .int], returnType := some .int }, accessFlags := 9, code := some k8c3 }
/-- java/lang/StringUTF16 -/
def k8 : Class := { plain "java/lang/StringUTF16" (some 0) with
  accessFlags := 48
  interfaces := #[]
  cf := some (fileOf pool8 12 #[.nestMembers #[627, 629, 369]] #[{ accessFlags := 0, nameIndex := 9, descriptorIndex := 10, attributes := #[] }, { accessFlags := 8, nameIndex := 261, descriptorIndex := 262, attributes := #[] }, { accessFlags := 9, nameIndex := 117, descriptorIndex := 122, attributes := #[] }, { accessFlags := 9, nameIndex := 117, descriptorIndex := 118, attributes := #[] }] 48 6 #[] #[{ accessFlags := 26, nameIndex := 61, descriptorIndex := 62, attributes := #[] }, { accessFlags := 26, nameIndex := 65, descriptorIndex := 62, attributes := #[] }, { accessFlags := 24, nameIndex := 430, descriptorIndex := 62, attributes := #[] }, { accessFlags := 4120, nameIndex := 46, descriptorIndex := 47, attributes := #[] }])
  fields := #[{ name := "HI_BYTE_SHIFT", type := .int, accessFlags := 26, slot := 0, constantValue := 0 }, { name := "LO_BYTE_SHIFT", type := .int, accessFlags := 26, slot := 1, constantValue := 0 }, { name := "MAX_LENGTH", type := .int, accessFlags := 24, slot := 2, constantValue := 0 }, { name := "$assertionsDisabled", type := .boolean, accessFlags := 4120, slot := 3, constantValue := 0 }]
  methods := #[k8m0, k8m1, k8m2, k8m3]
  instanceTypes := #[]
  staticTypes := #[.int, .int, .int, .boolean]
  resolved := Array.replicate 635 none
  statics := none }

def pool9 : Array CpInfo := pool [(1, .methodref 2 3), (0, .class_ 4), (0, .nameAndType 5 6), (0, u "java/lang/Object"), (0, u "<init>"), (0, u "()V"), (0, .fieldref 8 9), (0, .class_ 10), (0, .nameAndType 11 12), (0, u "com/example/bede/bede/model/Explanation"), (0, u "update"), (0, u "Ljava/lang/String;"), (0, .fieldref 8 14), (0, .nameAndType 15 12), (0, u "expression"), (0, .string 17), (0, u "unsupported"), (0, .methodref 19 20), (0, .class_ 21), (0, .nameAndType 22 23), (0, u "java/lang/String"), (0, u "equals"), (0, u "(Ljava/lang/Object;)Z"), (0, u "UNSUPPORTED"), (1, u "(Ljava/lang/String;Ljava/lang/String;)V"), (5, u "isSupported"), (0, u "()Z")] 3

def k9c0 : Code := { maxStack := 2, maxLocals := 3, code := prog_7_method_1_code, exceptionTable := #[], attributes := #[] }
def k9m0 : Method := { name := "<init>", desc := "(Ljava/lang/String;Ljava/lang/String;)V", sig := { parameters := [(.object "java/lang/String"), (.object "java/lang/String")], returnType := none }, accessFlags := 1, code := some k9c0 }
def k9c1 : Code := { maxStack := 2, maxLocals := 1, code := prog_7_method_4_code, exceptionTable := #[], attributes := #[] }
def k9m1 : Method := { name := "isSupported", desc := "()Z", sig := { parameters := [], returnType := some .boolean }, accessFlags := 1, code := some k9c1 }
/-- com/example/bede/bede/model/Explanation -/
def k9 : Class := { plain "com/example/bede/bede/model/Explanation" (some 0) with
  accessFlags := 49
  interfaces := #[]
  cf := some (fileOf pool9 8 #[] #[{ accessFlags := 1, nameIndex := 5, descriptorIndex := 26, attributes := #[] }, { accessFlags := 1, nameIndex := 32, descriptorIndex := 33, attributes := #[] }] 49 2 #[] #[{ accessFlags := 25, nameIndex := 24, descriptorIndex := 12, attributes := #[] }, { accessFlags := 18, nameIndex := 11, descriptorIndex := 12, attributes := #[] }, { accessFlags := 18, nameIndex := 15, descriptorIndex := 12, attributes := #[] }])
  fields := #[{ name := "UNSUPPORTED", type := (.object "java/lang/String"), accessFlags := 25, slot := 0, constantValue := 0 }, { name := "update", type := (.object "java/lang/String"), accessFlags := 18, slot := 0, constantValue := 0 }, { name := "expression", type := (.object "java/lang/String"), accessFlags := 18, slot := 1, constantValue := 0 }]
  methods := #[k9m0, k9m1]
  instanceTypes := #[(.object "java/lang/String"), (.object "java/lang/String")]
  staticTypes := #[(.object "java/lang/String")]
  resolved := Array.replicate 37 none
  statics := none }

def pool10 : Array CpInfo := pool [(4, .class_ 6), (1, u "java/lang/Object"), (0, u "<init>"), (0, u "()V"), (5, .class_ 16), (1, u "java/lang/StringLatin1"), (73, u "canEncode"), (14, u "(C)Z"), (15, u "$assertionsDisabled"), (0, u "Z"), (98, .class_ 223), (1, u "java/lang/StringLatin1$LinesSpliterator"), (57, u "equals"), (0, u "([B[B)Z"), (97, u "toBytes"), (1, u "(C)[B"), (7, .class_ 391), (0, u "java/lang/StringLatin1$CharsSpliterator")] 3

def k10m0 : Method := { name := "<init>", desc := "()V", sig := { parameters := [], returnType := none }, accessFlags := 0, code := none }
def k10c1 : Code := { maxStack := 2, maxLocals := 1, code := jdk_43_method_3_code, exceptionTable := #[], attributes := #[] }
def k10m1 : Method := { name := "canEncode", desc := "(C)Z", sig := { parameters := [.char], returnType := some .boolean }, accessFlags := 9, code := some k10c1 }
def k10c2 : Code := { maxStack := 3, maxLocals := 3, code := jdk_43_method_13_code, exceptionTable := #[], attributes := #[] }
def k10m2 : Method := { name := "equals", desc := "([B[B)Z", sig := { parameters := [(.array .byte), (.array .byte)], returnType := some .boolean }, accessFlags := 9, code := some k10c2 }
def k10c3 : Code := { maxStack := 4, maxLocals := 1, code := jdk_43_method_46_code, exceptionTable := #[], attributes := #[] }
def k10m3 : Method := { name := "toBytes", desc := "(C)[B", sig := { parameters := [.char], returnType := some (.array .byte) }, accessFlags := 9, code := some k10c3 }
/-- java/lang/StringLatin1 -/
def k10 : Class := { plain "java/lang/StringLatin1" (some 0) with
  accessFlags := 48
  interfaces := #[]
  cf := some (fileOf pool10 14 #[.nestMembers #[390, 221]] #[{ accessFlags := 0, nameIndex := 7, descriptorIndex := 8, attributes := #[] }, { accessFlags := 9, nameIndex := 90, descriptorIndex := 105, attributes := #[] }, { accessFlags := 9, nameIndex := 281, descriptorIndex := 282, attributes := #[] }, { accessFlags := 9, nameIndex := 380, descriptorIndex := 382, attributes := #[] }] 48 4 #[] #[{ accessFlags := 4120, nameIndex := 121, descriptorIndex := 122, attributes := #[] }])
  fields := #[{ name := "$assertionsDisabled", type := .boolean, accessFlags := 4120, slot := 0, constantValue := 0 }]
  methods := #[k10m0, k10m1, k10m2, k10m3]
  instanceTypes := #[]
  staticTypes := #[.boolean]
  resolved := Array.replicate 395 none
  statics := none }

def pool11 : Array CpInfo := pool [(2, .class_ 4), (1, u "java/lang/Object"), (0, u "<init>"), (0, u "()V"), (17, .class_ 26), (1, u "jdk/internal/util/Preconditions"), (28, .class_ 56), (0, u "jdk/internal/util/Preconditions$4"), (57, .class_ 115), (0, u "jdk/internal/util/Preconditions$1"), (7, u "SIOOBE_FORMATTER"), (0, u "Ljava/util/function/BiFunction;"), (0, .class_ 126), (0, u "jdk/internal/util/Preconditions$2"), (3, u "AIOOBE_FORMATTER"), (0, .class_ 132), (0, u "jdk/internal/util/Preconditions$3"), (3, u "IOOBE_FORMATTER")] 57

def k11m0 : Method := { name := "<init>", desc := "()V", sig := { parameters := [], returnType := none }, accessFlags := 1, code := none }
/-- jdk/internal/util/Preconditions -/
def k11 : Class := { plain "jdk/internal/util/Preconditions" (some 0) with
  accessFlags := 33
  interfaces := #[]
  cf := some (fileOf pool11 24 #[.nestMembers #[55, 131, 125, 114]] #[{ accessFlags := 1, nameIndex := 5, descriptorIndex := 6, attributes := #[] }] 33 2 #[] #[{ accessFlags := 25, nameIndex := 123, descriptorIndex := 124, attributes := #[] }, { accessFlags := 25, nameIndex := 130, descriptorIndex := 124, attributes := #[] }, { accessFlags := 25, nameIndex := 136, descriptorIndex := 124, attributes := #[] }])
  fields := #[{ name := "SIOOBE_FORMATTER", type := (.object "java/util/function/BiFunction"), accessFlags := 25, slot := 0, constantValue := 0 }, { name := "AIOOBE_FORMATTER", type := (.object "java/util/function/BiFunction"), accessFlags := 25, slot := 1, constantValue := 0 }, { name := "IOOBE_FORMATTER", type := (.object "java/util/function/BiFunction"), accessFlags := 25, slot := 2, constantValue := 0 }]
  methods := #[k11m0]
  instanceTypes := #[]
  staticTypes := #[(.object "java/util/function/BiFunction"), (.object "java/util/function/BiFunction"), (.object "java/util/function/BiFunction")]
  resolved := Array.replicate 194 none
  statics := some 1 }

def pool12 : Array CpInfo := pool [(9, u "<init>"), (6, .class_ 18), (1, u "java/lang/Object"), (0, u "()V"), (1, .class_ 23), (1, u "jdk/internal/util/ArraysSupport"), (0, u "LOG2_ARRAY_LONG_INDEX_SCALE"), (0, u "I"), (2, u "U"), (0, u "Ljdk/internal/misc/Unsafe;"), (8, u "BIG_ENDIAN"), (0, u "Z"), (8, u "LOG2_BYTE_BIT_SIZE"), (4, u "LOG2_ARRAY_INT_INDEX_SCALE"), (54, u "JLA"), (0, u "Ljdk/internal/access/JavaLangAccess;"), (11, u "LOG2_ARRAY_BOOLEAN_INDEX_SCALE"), (9, u "LOG2_ARRAY_BYTE_INDEX_SCALE"), (5, u "LOG2_ARRAY_CHAR_INDEX_SCALE"), (5, u "LOG2_ARRAY_SHORT_INDEX_SCALE"), (18, u "LOG2_ARRAY_FLOAT_INDEX_SCALE"), (24, u "LOG2_ARRAY_DOUBLE_INDEX_SCALE"), (89, u "T_BOOLEAN"), (2, u "T_CHAR"), (1, u "T_FLOAT"), (1, u "T_DOUBLE"), (1, u "T_BYTE"), (1, u "T_SHORT"), (1, u "T_INT"), (1, u "T_LONG"), (1, u "SOFT_MAX_ARRAY_LENGTH")] 83

def k12m0 : Method := { name := "<init>", desc := "()V", sig := { parameters := [], returnType := none }, accessFlags := 2, code := none }
/-- jdk/internal/util/ArraysSupport -/
def k12 : Class := { plain "jdk/internal/util/ArraysSupport" (some 0) with
  accessFlags := 33
  interfaces := #[]
  cf := some (fileOf pool12 21 #[] #[{ accessFlags := 2, nameIndex := 9, descriptorIndex := 19, attributes := #[] }] 33 16 #[] #[{ accessFlags := 24, nameIndex := 28, descriptorIndex := 29, attributes := #[] }, { accessFlags := 26, nameIndex := 38, descriptorIndex := 39, attributes := #[] }, { accessFlags := 25, nameIndex := 121, descriptorIndex := 25, attributes := #[] }, { accessFlags := 25, nameIndex := 131, descriptorIndex := 25, attributes := #[] }, { accessFlags := 25, nameIndex := 137, descriptorIndex := 25, attributes := #[] }, { accessFlags := 25, nameIndex := 143, descriptorIndex := 25, attributes := #[] }, { accessFlags := 25, nameIndex := 53, descriptorIndex := 25, attributes := #[] }, { accessFlags := 25, nameIndex := 24, descriptorIndex := 25, attributes := #[] }, { accessFlags := 25, nameIndex := 162, descriptorIndex := 25, attributes := #[] }, { accessFlags := 25, nameIndex := 187, descriptorIndex := 25, attributes := #[] }, { accessFlags := 26, nameIndex := 48, descriptorIndex := 25, attributes := #[] }, { accessFlags := 25, nameIndex := 277, descriptorIndex := 25, attributes := #[] }, { accessFlags := 25, nameIndex := 280, descriptorIndex := 25, attributes := #[] }, { accessFlags := 25, nameIndex := 282, descriptorIndex := 25, attributes := #[] }, { accessFlags := 25, nameIndex := 284, descriptorIndex := 25, attributes := #[] }, { accessFlags := 25, nameIndex := 286, descriptorIndex := 25, attributes := #[] }, { accessFlags := 25, nameIndex := 288, descriptorIndex := 25, attributes := #[] }, { accessFlags := 25, nameIndex := 290, descriptorIndex := 25, attributes := #[] }, { accessFlags := 25, nameIndex := 292, descriptorIndex := 25, attributes := #[] }, { accessFlags := 26, nameIndex := 108, descriptorIndex := 109, attributes := #[] }, { accessFlags := 25, nameIndex := 294, descriptorIndex := 25, attributes := #[] }])
  fields := #[{ name := "U", type := (.object "jdk/internal/misc/Unsafe"), accessFlags := 24, slot := 0, constantValue := 0 }, { name := "BIG_ENDIAN", type := .boolean, accessFlags := 26, slot := 1, constantValue := 0 }, { name := "LOG2_ARRAY_BOOLEAN_INDEX_SCALE", type := .int, accessFlags := 25, slot := 2, constantValue := 0 }, { name := "LOG2_ARRAY_BYTE_INDEX_SCALE", type := .int, accessFlags := 25, slot := 3, constantValue := 0 }, { name := "LOG2_ARRAY_CHAR_INDEX_SCALE", type := .int, accessFlags := 25, slot := 4, constantValue := 0 }, { name := "LOG2_ARRAY_SHORT_INDEX_SCALE", type := .int, accessFlags := 25, slot := 5, constantValue := 0 }, { name := "LOG2_ARRAY_INT_INDEX_SCALE", type := .int, accessFlags := 25, slot := 6, constantValue := 0 }, { name := "LOG2_ARRAY_LONG_INDEX_SCALE", type := .int, accessFlags := 25, slot := 7, constantValue := 0 }, { name := "LOG2_ARRAY_FLOAT_INDEX_SCALE", type := .int, accessFlags := 25, slot := 8, constantValue := 0 }, { name := "LOG2_ARRAY_DOUBLE_INDEX_SCALE", type := .int, accessFlags := 25, slot := 9, constantValue := 0 }, { name := "LOG2_BYTE_BIT_SIZE", type := .int, accessFlags := 26, slot := 10, constantValue := 0 }, { name := "T_BOOLEAN", type := .int, accessFlags := 25, slot := 11, constantValue := 0 }, { name := "T_CHAR", type := .int, accessFlags := 25, slot := 12, constantValue := 0 }, { name := "T_FLOAT", type := .int, accessFlags := 25, slot := 13, constantValue := 0 }, { name := "T_DOUBLE", type := .int, accessFlags := 25, slot := 14, constantValue := 0 }, { name := "T_BYTE", type := .int, accessFlags := 25, slot := 15, constantValue := 0 }, { name := "T_SHORT", type := .int, accessFlags := 25, slot := 16, constantValue := 0 }, { name := "T_INT", type := .int, accessFlags := 25, slot := 17, constantValue := 0 }, { name := "T_LONG", type := .int, accessFlags := 25, slot := 18, constantValue := 0 }, { name := "JLA", type := (.object "jdk/internal/access/JavaLangAccess"), accessFlags := 26, slot := 19, constantValue := 0 }, { name := "SOFT_MAX_ARRAY_LENGTH", type := .int, accessFlags := 25, slot := 20, constantValue := 0 }]
  methods := #[k12m0]
  instanceTypes := #[]
  staticTypes := #[(.object "jdk/internal/misc/Unsafe"), .boolean, .int, .int, .int, .int, .int, .int, .int, .int, .int, .int, .int, .int, .int, .int, .int, .int, .int, (.object "jdk/internal/access/JavaLangAccess"), .int]
  resolved := Array.replicate 378 none
  statics := none }

def pool13 : Array CpInfo := pool [(1, u "java/lang/Cloneable"), (0, .class_ 1), (0, u "java/lang/Object"), (0, .class_ 3)] 3

/-- java/lang/Cloneable -/
def k13 : Class := { plain "java/lang/Cloneable" (some 0) with
  accessFlags := 1537
  interfaces := #[]
  cf := some (fileOf pool13 2 #[] #[] 1537 4 #[] #[])
  fields := #[]
  methods := #[]
  instanceTypes := #[]
  staticTypes := #[]
  resolved := Array.replicate 8 none
  statics := none }

/-- the primitive byte -/
def k14 : Class := { plain "byte" none with kind := .primitive 'B', accessFlags := 0x411 }
/-- [B -/
def k15 : Class := { plain "[B" (some 0) with kind := .array 14 .byte, interfaces := #[13, 2], accessFlags := 1041 }

/-- the primitive char -/
def k16 : Class := { plain "char" none with kind := .primitive 'C', accessFlags := 0x411 }
/-- [C -/
def k17 : Class := { plain "[C" (some 0) with kind := .array 16 .char, interfaces := #[13, 2], accessFlags := 1041 }

/-- the primitive int -/
def k18 : Class := { plain "int" none with kind := .primitive 'I', accessFlags := 0x411 }
/-- [I -/
def k19 : Class := { plain "[I" (some 0) with kind := .array 18 .int, interfaces := #[13, 2], accessFlags := 1041 }

def heap : Heap := #[{ cls := 7, slots := #[.long 0, .int 1, .null, .int 0, .null, .int 0, .int 0], vm := .statics 7 },
  { cls := 11, slots := #[.null, .null, .null], vm := .statics 11 }]
def classes : Array Class := #[k0, k1, k2, k3, k4, k5, k6, k7, k8, k9, k10, k11, k12, k13, k14, k15, k16, k17, k18, k19]
def interned : List (Array UInt16 × Addr) := []
def slotsUsed : Nat := 10
def theMethod : MethodId := ⟨1, 1⟩
def args0 : Array Value := #[.int 5, .int 6, .int 7, .int 8]
def aboutOver (below : List Frame) : State where
  vm := { classes := classes, interned := interned.toArray }
  heap := heap
  slotsUsed := slotsUsed
  threads := #[{ frames := .invoking theMethod args0 :: below }]
def below0 : List Frame := [.native { method := ⟨0, 0⟩, args := #[] }]
def about1 : State := aboutOver below0
def p0 : Program := .bare "" "" ""
def e0 : Env := launch0.env 0 0 0
theorem w_frames : about1.frames = Frame.invoking theMethod args0 :: below0 := rfl
set_option maxRecDepth 65536 in
theorem w_args : argsFit about1.vm theMethod args0 = true := by decide +kernel
set_option maxRecDepth 65536 in
theorem w_heap : heapFits about1 = true := by decide +kernel
set_option maxRecDepth 65536 in
theorem w_runnable : about1.curStatus? = some .runnable := by decide +kernel
set_option maxRecDepth 65536 in
theorem w_alone : about1.alone = true := by decide +kernel
set_option maxRecDepth 65536 in
theorem w_named : about1.methodNamed? x = some theMethod := by decide +kernel
set_option maxRecDepth 65536 in
theorem w_hears : about1.hears theMethod below0 = true := by decide +kernel
set_option maxRecDepth 65536 in
theorem w_ripe : about1.ripe theMethod args0 below0 = true := by decide +kernel
theorem w_running : about1.status = .running := rfl
set_option maxRecDepth 65536 in
theorem w_room : about1.hasRoom e0.platform room_1 = true :=
  launch0.hasRoom_least _ room_1 (by decide +kernel) (by decide +kernel) (by decide +kernel) (by decide +kernel) (by decide +kernel) (by decide +kernel)
theorem allAtoms_all (ts : List Jvm.Cond) (a : Array Jvm.Value) (st : Jvm.State) : (allAtoms ts).before a st = ts.all (fun c => c.before a st) := by
  induction ts with
  | nil => rfl
  | cons c t ih =>
    show (Jvm.Cond.and c (allAtoms t)).before a st = _
    rw [Jvm.Cond.before_and, ih, List.all_cons]
def words1 : List Jvm.Cond := Jvm.Cond.code x code maxLocals ret :: tables_1
/-- a 'code' word, met by the world's own term for the bytes: nothing is compared byte by byte -/
theorem code_word {y : MethodName} {bytes : ByteArray} {mx : Nat} {rt : Option FieldType} {a : Array Value} {s : State} {m : MethodId} {meth : Method} {c : Code} (h1 : s.methodNamed? y = some m) (h2 : s.vm.method? m = some meth) (h3 : meth.code = some c) (h4 : c.code = bytes)
    (h5 : (c.maxLocals == mx && c.exceptionTable.isEmpty && decide (c.maxStack ≤ mostOperands) && decide (meth.sig.returnType = rt) && !meth.locks && decide (parseMethodDescriptor y.desc = some meth.sig)) = true) : (Jvm.Cond.code y bytes mx rt).before a s = true := by
  simp only [Bool.and_eq_true, beq_iff_eq, Bool.not_eq_true', decide_eq_true_eq] at h5
  obtain ⟨⟨⟨⟨⟨g1, g2⟩, g3⟩, g4⟩, g5⟩, g6⟩ := h5
  simp [Cond.before, Cond.holds, Cond.value, h1, h2, h3, h4, g1, g2, g3, g4, g5, g6]
def isCode : Jvm.Cond → Bool
  | .code _ _ _ _ => true
  | _ => false
theorem all_split {L : List Jvm.Cond} {P : Jvm.Cond → Bool} (h1 : L.all (fun c => isCode c || P c) = true) (h2 : ∀ c ∈ L.filter isCode, P c = true) : L.all P = true := by
  refine List.all_eq_true.mpr fun c hc => ?_
  have h := List.all_eq_true.mp h1 c hc
  rcases Bool.eq_false_or_eq_true (isCode c) with hi | hi
  · exact h2 c (List.mem_filter.mpr ⟨hc, hi⟩)
  · simpa [hi] using h
set_option maxRecDepth 65536 in
theorem w_c0 : (Jvm.Cond.code x code maxLocals ret).before args0 about1 = true := code_word (m := ⟨1, 1⟩) (meth := k1m1) (c := k1c1) (by decide +kernel) rfl rfl rfl (by decide +kernel)
set_option maxRecDepth 65536 in
theorem w_c1 : (Jvm.Cond.code ({ cls := "java/lang/String", name := "<init>", desc := "([C)V" } : Jvm.MethodName) jdk_42_method_3_code (2 : Nat) (Option.none : Option Jvm.ClassFile.FieldType)).before args0 about1 = true := code_word (m := ⟨7, 1⟩) (meth := k7m1) (c := k7c1) (by decide +kernel) rfl rfl rfl (by decide +kernel)
set_option maxRecDepth 65536 in
theorem w_c2 : (Jvm.Cond.code ({ cls := "java/lang/String", name := "<init>", desc := "([CIILjava/lang/Void;)V" } : Jvm.MethodName) jdk_42_method_149_code (6 : Nat) (Option.none : Option Jvm.ClassFile.FieldType)).before args0 about1 = true := code_word (m := ⟨7, 4⟩) (meth := k7m4) (c := k7c4) (by decide +kernel) rfl rfl rfl (by decide +kernel)
set_option maxRecDepth 65536 in
theorem w_c3 : (Jvm.Cond.code ({ cls := "java/lang/Object", name := "<init>", desc := "()V" } : Jvm.MethodName) object_method_1_code (1 : Nat) (Option.none : Option Jvm.ClassFile.FieldType)).before args0 about1 = true := code_word (m := ⟨0, 0⟩) (meth := k0m0) (c := k0c0) (by decide +kernel) rfl rfl rfl (by decide +kernel)
set_option maxRecDepth 65536 in
theorem w_c4 : (Jvm.Cond.code ({ cls := "java/lang/StringUTF16", name := "compress", desc := "([CII)[B" } : Jvm.MethodName) jdk_52_method_16_code (6 : Nat) (Option.some (Jvm.ClassFile.FieldType.array Jvm.ClassFile.FieldType.byte))).before args0 about1 = true := code_word (m := ⟨8, 2⟩) (meth := k8m2) (c := k8c2) (by decide +kernel) rfl rfl rfl (by decide +kernel)
set_option maxRecDepth 65536 in
theorem w_c5 : (Jvm.Cond.code ({ cls := "java/lang/StringUTF16", name := "compress", desc := "([CI[BII)I" } : Jvm.MethodName) jdk_52_method_21_code (7 : Nat) (Option.some Jvm.ClassFile.FieldType.int)).before args0 about1 = true := code_word (m := ⟨8, 3⟩) (meth := k8m3) (c := k8c3) (by decide +kernel) rfl rfl rfl (by decide +kernel)
set_option maxRecDepth 65536 in
theorem w_c6 : (Jvm.Cond.code ({ cls := "java/lang/StringUTF16", name := "coderFromArrayLen", desc := "([BI)B" } : Jvm.MethodName) jdk_52_method_15_code (2 : Nat) (Option.some Jvm.ClassFile.FieldType.byte)).before args0 about1 = true := code_word (m := ⟨8, 1⟩) (meth := k8m1) (c := k8c1) (by decide +kernel) rfl rfl rfl (by decide +kernel)
set_option maxRecDepth 65536 in
theorem w_c7 : (Jvm.Cond.code ({ cls := "java/lang/String", name := "valueOf", desc := "(C)Ljava/lang/String;" } : Jvm.MethodName) jdk_42_method_139_code (1 : Nat) (Option.some (Jvm.ClassFile.FieldType.object "java/lang/String"))).before args0 about1 = true := code_word (m := ⟨7, 3⟩) (meth := k7m3) (c := k7c3) (by decide +kernel) rfl rfl rfl (by decide +kernel)
set_option maxRecDepth 65536 in
theorem w_c8 : (Jvm.Cond.code ({ cls := "java/lang/StringLatin1", name := "canEncode", desc := "(C)Z" } : Jvm.MethodName) jdk_43_method_3_code (1 : Nat) (Option.some Jvm.ClassFile.FieldType.boolean)).before args0 about1 = true := code_word (m := ⟨10, 1⟩) (meth := k10m1) (c := k10c1) (by decide +kernel) rfl rfl rfl (by decide +kernel)
set_option maxRecDepth 65536 in
theorem w_c9 : (Jvm.Cond.code ({ cls := "java/lang/StringLatin1", name := "toBytes", desc := "(C)[B" } : Jvm.MethodName) jdk_43_method_46_code (1 : Nat) (Option.some (Jvm.ClassFile.FieldType.array Jvm.ClassFile.FieldType.byte))).before args0 about1 = true := code_word (m := ⟨10, 3⟩) (meth := k10m3) (c := k10c3) (by decide +kernel) rfl rfl rfl (by decide +kernel)
set_option maxRecDepth 65536 in
theorem w_c10 : (Jvm.Cond.code ({ cls := "java/lang/String", name := "<init>", desc := "([BB)V" } : Jvm.MethodName) jdk_42_method_151_code (3 : Nat) (Option.none : Option Jvm.ClassFile.FieldType)).before args0 about1 = true := code_word (m := ⟨7, 5⟩) (meth := k7m5) (c := k7c5) (by decide +kernel) rfl rfl rfl (by decide +kernel)
set_option maxRecDepth 65536 in
theorem w_c11 : (Jvm.Cond.code ({ cls := "com/example/bede/bede/model/Explanation", name := "<init>", desc := "(Ljava/lang/String;Ljava/lang/String;)V" } : Jvm.MethodName) prog_7_method_1_code (3 : Nat) (Option.none : Option Jvm.ClassFile.FieldType)).before args0 about1 = true := code_word (m := ⟨9, 0⟩) (meth := k9m0) (c := k9c0) (by decide +kernel) rfl rfl rfl (by decide +kernel)
set_option maxRecDepth 65536 in
theorem w_c12 : (Jvm.Cond.code ({ cls := "com/example/bede/bede/model/Explanation", name := "isSupported", desc := "()Z" } : Jvm.MethodName) prog_7_method_4_code (1 : Nat) (Option.some Jvm.ClassFile.FieldType.boolean)).before args0 about1 = true := code_word (m := ⟨9, 1⟩) (meth := k9m1) (c := k9c1) (by decide +kernel) rfl rfl rfl (by decide +kernel)
set_option maxRecDepth 65536 in
theorem w_c13 : (Jvm.Cond.code ({ cls := "java/lang/String", name := "equals", desc := "(Ljava/lang/Object;)Z" } : Jvm.MethodName) jdk_42_method_66_code (3 : Nat) (Option.some Jvm.ClassFile.FieldType.boolean)).before args0 about1 = true := code_word (m := ⟨7, 2⟩) (meth := k7m2) (c := k7c2) (by decide +kernel) rfl rfl rfl (by decide +kernel)
set_option maxRecDepth 65536 in
theorem w_c14 : (Jvm.Cond.code ({ cls := "java/lang/StringLatin1", name := "equals", desc := "([B[B)Z" } : Jvm.MethodName) jdk_43_method_13_code (3 : Nat) (Option.some Jvm.ClassFile.FieldType.boolean)).before args0 about1 = true := code_word (m := ⟨10, 2⟩) (meth := k10m2) (c := k10c2) (by decide +kernel) rfl rfl rfl (by decide +kernel)
def codes1 : List Jvm.Cond := [Jvm.Cond.code x code maxLocals ret, Jvm.Cond.code ({ cls := "java/lang/String", name := "<init>", desc := "([C)V" } : Jvm.MethodName) jdk_42_method_3_code (2 : Nat) (Option.none : Option Jvm.ClassFile.FieldType), Jvm.Cond.code ({ cls := "java/lang/String", name := "<init>", desc := "([CIILjava/lang/Void;)V" } : Jvm.MethodName) jdk_42_method_149_code (6 : Nat) (Option.none : Option Jvm.ClassFile.FieldType), Jvm.Cond.code ({ cls := "java/lang/Object", name := "<init>", desc := "()V" } : Jvm.MethodName) object_method_1_code (1 : Nat) (Option.none : Option Jvm.ClassFile.FieldType), Jvm.Cond.code ({ cls := "java/lang/StringUTF16", name := "compress", desc := "([CII)[B" } : Jvm.MethodName) jdk_52_method_16_code (6 : Nat) (Option.some (Jvm.ClassFile.FieldType.array Jvm.ClassFile.FieldType.byte)), Jvm.Cond.code ({ cls := "java/lang/StringUTF16", name := "compress", desc := "([CI[BII)I" } : Jvm.MethodName) jdk_52_method_21_code (7 : Nat) (Option.some Jvm.ClassFile.FieldType.int), Jvm.Cond.code ({ cls := "java/lang/StringUTF16", name := "coderFromArrayLen", desc := "([BI)B" } : Jvm.MethodName) jdk_52_method_15_code (2 : Nat) (Option.some Jvm.ClassFile.FieldType.byte), Jvm.Cond.code ({ cls := "java/lang/String", name := "valueOf", desc := "(C)Ljava/lang/String;" } : Jvm.MethodName) jdk_42_method_139_code (1 : Nat) (Option.some (Jvm.ClassFile.FieldType.object "java/lang/String")), Jvm.Cond.code ({ cls := "java/lang/StringLatin1", name := "canEncode", desc := "(C)Z" } : Jvm.MethodName) jdk_43_method_3_code (1 : Nat) (Option.some Jvm.ClassFile.FieldType.boolean), Jvm.Cond.code ({ cls := "java/lang/StringLatin1", name := "toBytes", desc := "(C)[B" } : Jvm.MethodName) jdk_43_method_46_code (1 : Nat) (Option.some (Jvm.ClassFile.FieldType.array Jvm.ClassFile.FieldType.byte)), Jvm.Cond.code ({ cls := "java/lang/String", name := "<init>", desc := "([BB)V" } : Jvm.MethodName) jdk_42_method_151_code (3 : Nat) (Option.none : Option Jvm.ClassFile.FieldType), Jvm.Cond.code ({ cls := "com/example/bede/bede/model/Explanation", name := "<init>", desc := "(Ljava/lang/String;Ljava/lang/String;)V" } : Jvm.MethodName) prog_7_method_1_code (3 : Nat) (Option.none : Option Jvm.ClassFile.FieldType), Jvm.Cond.code ({ cls := "com/example/bede/bede/model/Explanation", name := "isSupported", desc := "()Z" } : Jvm.MethodName) prog_7_method_4_code (1 : Nat) (Option.some Jvm.ClassFile.FieldType.boolean), Jvm.Cond.code ({ cls := "java/lang/String", name := "equals", desc := "(Ljava/lang/Object;)Z" } : Jvm.MethodName) jdk_42_method_66_code (3 : Nat) (Option.some Jvm.ClassFile.FieldType.boolean), Jvm.Cond.code ({ cls := "java/lang/StringLatin1", name := "equals", desc := "([B[B)Z" } : Jvm.MethodName) jdk_43_method_13_code (3 : Nat) (Option.some Jvm.ClassFile.FieldType.boolean)]
set_option maxRecDepth 65536 in
theorem codes_eq : words1.filter isCode = codes1 := rfl
theorem w_codes : ∀ c ∈ words1.filter isCode, c.before args0 about1 = true := by
  rw [codes_eq]
  intro c hc
  simp only [codes1, List.mem_cons, List.not_mem_nil, or_false] at hc
  rcases hc with rfl | rfl | rfl | rfl | rfl | rfl | rfl | rfl | rfl | rfl | rfl | rfl | rfl | rfl | rfl
  · exact w_c0
  · exact w_c1
  · exact w_c2
  · exact w_c3
  · exact w_c4
  · exact w_c5
  · exact w_c6
  · exact w_c7
  · exact w_c8
  · exact w_c9
  · exact w_c10
  · exact w_c11
  · exact w_c12
  · exact w_c13
  · exact w_c14
set_option maxRecDepth 65536 in
theorem w_t1 : (words1.take 24).all (fun c => isCode c || c.before args0 about1) = true := by decide +kernel
set_option maxRecDepth 65536 in
theorem w_t2 : ((words1.drop 24).take 24).all (fun c => isCode c || c.before args0 about1) = true := by decide +kernel
set_option maxRecDepth 65536 in
theorem w_t3 : (((words1.drop 24).drop 24).take 24).all (fun c => isCode c || c.before args0 about1) = true := by decide +kernel
set_option maxRecDepth 65536 in
theorem w_t4 : (((words1.drop 24).drop 24).drop 24).all (fun c => isCode c || c.before args0 about1) = true := by decide +kernel
theorem w_tables : (allAtoms (Jvm.Cond.code x code maxLocals ret :: tables_1)).before args0 about1 = true := by
  rw [allAtoms_all]
  show words1.all (fun c => c.before args0 about1) = true
  refine all_split ?_ w_codes
  rw [← List.take_append_drop 24 words1, List.all_append, w_t1, ← List.take_append_drop 24 (words1.drop 24), List.all_append, w_t2, ← List.take_append_drop 24 ((words1.drop 24).drop 24), List.all_append, w_t3, w_t4]
  rfl
set_option maxRecDepth 65536 in
theorem w_rest : rest_1_c.before args0 about1 = true := by decide +kernel
set_option maxRecDepth 65536 in
theorem w_case : (Jvm.Cond.and given_1 narrow_1).before args0 about1 = true := by decide +kernel
set_option maxRecDepth 65536 in
theorem w_consts : constsHeld consts_1 about1 := Jvm.Lit.constsHeldB_iff.mp (by decide +kernel)
theorem w_applies : (headSpec (Jvm.Cond.code x code maxLocals ret :: tables_1) room_1).applies x e0.platform about1 = true :=
  (Spec.applies_iff w_frames).mpr ⟨w_running, w_runnable, w_alone, w_named, w_hears, w_ripe, w_room, w_tables⟩
theorem atStart : AtStart classFile x code maxLocals ret World_1 tables_1 room_1 Calls_1 rest_1 Pre_1 launch0 p0 e0 about1 theMethod args0 below0 :=
  ⟨lists_1, trivial, launch0.admits_env _ _ _, launch0.least_env, fairChoices_fair.cas, fairChoices_fair.clock, w_frames, w_args, w_heap, w_applies, ⟨w_consts, trivial⟩, w_rest, w_case⟩
end start1
theorem witness_1 : WitnessClaimed_1 := ⟨start1.p0, start1.e0, start1.about1, start1.theMethod, start1.args0, start1.below0, start1.atStart⟩
end Jvm.Pilot.@@N@@
