import JvmDerived
import JvmDerived.Pilot.@@N@@Statement
import JvmDerived.Pilot.@@N@@Code
set_option linter.unusedVariables false
set_option linter.unusedSimpArgs false
namespace Jvm.RoadKit
open Sem ClassFile Op Lib Jvm.Stand Jvm.Free Jvm.LawKit
section New
variable {p : Program} {l : Launch} {e : Env} {R : Room} {s : State} {m : MethodId} {args : Array Value} {below : List Frame} {meth : Method} {c : Code} {T : State} {locs : List Loc} {cells slots : Nat}
theorem retI (X : Stand p l e R s m args below meth c T locs cells slots) (hx : p.tables.exec = Jvm.exec) {pc : Nat} {Ls : Array Slot} {z : Int32} {rest : List Value} (hret : meth.sig.returnType = some .int) (hd : decode c.code pc = .ok (.ireturn, 1)) {fs : List Frame}
    (hl : ∀ (f : JFrame) (acts : List Action), f.method = m → f.locked = none → f.entered = [] → (doReturn e (T.setTop f) acts (some (.int z))).1 = T.setFrames fs) : Steps p.tables e below (T.setTop (mkF m pc Ls (.int z :: rest))) (T.setFrames fs) := by
  have hm' : T.vm.method? m = some meth := X.method'
  have hn : narrow .int (.int z) = .int z := rfl
  show Steps p.tables e below (T.setTop { method := m, pc := pc, locals := Ls, stack := _ :: rest, locked := none }) _
  jvm_step X.here [X.here.top, hx, hd, hm', hret, hn]
  first | (intro acts; rw [hl _ acts rfl rfl rfl]) | rw [hl _ _ rfl rfl rfl]
  exact Steps.refl _
end New
end Jvm.RoadKit
namespace Jvm.RoadKit
open Sem ClassFile Op Lib Bundle Jvm.Stand Jvm.Free Jvm.LawKit Jvm.Free.SB Jvm.Free.SBG
section Goes
variable {p : Program} {l : Launch} {e : Env} {R : Room} {s : State} {m : MethodId} {args : Array Value} {below : List Frame} {meth : Method} {c : Code} {T T' : State} {locs : List Loc} {cells slots k n : Nat} {F : Outcome → State → Prop} {Q : Option Value → Heap → List Loc → Prop}
/-- from T the run comes to an end of which F holds -/
def Go (p : Program) (e : Env) (below : List Frame) (T : State) (F : Outcome → State → Prop) : Prop := ∃ s₂ o, Steps p.tables e below T s₂ ∧ s₂.status = .running ∧ Ended s₂ below o ∧ F o s₂
theorem Go.st (k : ∀ t, Steps p.tables e below T' t → Steps p.tables e below T t) (G : Go p e below T' F) : Go p e below T F := by
  obtain ⟨s2, o, h, r⟩ := G
  exact ⟨s2, o, k _ h, r⟩
theorem Go.top {g g' : JFrame} (q : g = g') (G : Go p e below (T.setTop g') F) : Go p e below (T.setTop g) F := q ▸ G
/-- the end of a body that interns nothing -/
abbrev EndN (s : State) (Q : Option Value → Heap → List Loc → Prop) (cells slots : Nat) : Outcome → State → Prop := fun o U' => ∃ v L, o = .returned v ∧ Q v U'.heap L ∧ FrameEnd s o U' L cells slots
/-- the end of a body that may intern -/
abbrev EndW (s : State) (Q : Option Value → Heap → List Loc → Prop) (cells slots : Nat) : Outcome → State → Prop := fun o U' => ∃ v L, o = .returned v ∧ Q v U'.heap L ∧ ReturnedEndW s o U' L cells slots
theorem Go.done (X : Stand p l e R s m args below meth c T locs k n) (hlocks : meth.locks = false) {v : Option Value} (hv : meth.sig.returnType = none → v = none) {f : JFrame}
    (st : ∀ fs, (∀ (f : JFrame) (acts : List Action), f.method = m → f.locked = none → f.entered = [] → (doReturn e (T.setTop f) acts v).1 = T.setFrames fs) → Steps p.tables e below (T.setTop f) (T.setFrames fs))
    (hQ : Q v T.heap locs) (hk : k ≤ cells) (hn : n ≤ slots) : Go p e below (T.setTop f) (EndN s Q cells slots) := by
  obtain ⟨fs, hr, hrun, hended, hW, hsame⟩ := X.leave (v := v) hv hlocks
  exact ⟨_, _, st fs hr, hrun, hended, v, locs, rfl, hQ, ⟨_, rfl⟩, hW, hsame.mono hk hn⟩
theorem Go.doneW {vm₁ : Vm} (X : Stand p l e R (s.setVm vm₁) m args below meth c T locs k n) {N : Nat} (hS : s.Since vm₁ N) (hN : N ≤ T.heap.size) (hlocks : meth.locks = false) {v : Option Value} (hv : meth.sig.returnType = none → v = none) {f : JFrame}
    (st : ∀ fs, (∀ (f : JFrame) (acts : List Action), f.method = m → f.locked = none → f.entered = [] → (doReturn e (T.setTop f) acts v).1 = T.setFrames fs) → Steps p.tables e below (T.setTop f) (T.setFrames fs))
    (hQ : Q v T.heap locs) (hk : k ≤ cells) (hn : n ≤ slots) : Go p e below (T.setTop f) (EndW s Q cells slots) := by
  obtain ⟨fs, hr, hrun, hended, h1, h2, h3, h4⟩ := X.leaveW hS hN (v := v) hv hlocks
  exact ⟨_, _, st fs hr, hrun, hended, v, locs, rfl, hQ, h1, h2, h3, h4.mono hk hn⟩
/-- the end of a body that may intern, and that keeps what is booked of EL -/
abbrev EndH (Z : State) (EL : List (String × Nat)) (s : State) (Q : Option Value → Heap → List Loc → Prop) (cells slots : Nat) : Outcome → State → Prop := fun o U' => ∃ v L, o = .returned v ∧ Q v U'.heap L ∧ CHr Z EL s.vm s.heap U'.vm U'.heap ∧ ReturnedEndW s o U' L cells slots
theorem Go.doneH {Z : State} {a0 : Array Value} {EL : List (String × Nat)} {vm₁ : Vm} {h0 h : Heap} (X : Stand p l e R (s.setVm vm₁) m args below meth c T locs k n) {N : Nat} (hS : s.Since vm₁ N) (hN : N ≤ T.heap.size) (hlocks : meth.locks = false) {v : Option Value} (hv : meth.sig.returnType = none → v = none) {f : JFrame}
    (st : ∀ fs, (∀ (f : JFrame) (acts : List Action), f.method = m → f.locked = none → f.entered = [] → (doReturn e (T.setTop f) acts v).1 = T.setFrames fs) → Steps p.tables e below (T.setTop f) (T.setFrames fs))
    (hQ : Q v T.heap locs) (hk : k ≤ cells) (hn : n ≤ slots) (hZ : Z.Warmed39 vm₁) (hEL : EW Z a0 EL) (hh : s.heap = h0) (eT : T.heap = h) (hC : CHr Z EL s.vm h0 vm₁ h) : Go p e below (T.setTop f) (EndH Z EL s Q cells slots) := by
  subst hh eT
  obtain ⟨fs, hr, hrun, hended, h1, h2, h3, h4⟩ := X.leaveW hS hN (v := v) hv hlocks
  exact ⟨_, _, st fs hr, hrun, hended, v, locs, rfl, hQ, show CHr Z EL s.vm s.heap T.vm T.heap from hC.trans (CHv.at X hZ hEL hC.1), h1, h2, h3, h4.mono hk hn⟩
/-- a String whose value is still null is none that is booked -/
theorem own_safe {Z : State} {EL : List (String × Nat)} {vm : Vm} {h : Heap} {x : Addr} (hal : Z.vm.Alike vm) (E : Exa Z h x "java/lang/String") (F : Fld Z h x "java/lang/String" "value" "[B" .null) : Safe Z EL vm h x := fun B => by
  obtain ⟨p, -, u, a, -, q, -, S, hy⟩ := B
  obtain ⟨cell, cf, k, i, f, f1, f2, -, -, -, -, f7⟩ := F
  obtain ⟨cS, ⟨⟨s1, -, -, ⟨cv, kv, iv, s4, -⟩, -, s6, -, s8, -, s10, -⟩, -, -⟩, -, hB, -⟩ := S
  rcases hy with rfl | rfl
  · cases (show h[q.sa]? = some q.sC from s1).symm.trans f1
    obtain ⟨kv', z4⟩ := ff_back (U := Wst Z vm h) hal s4
    cases f2.symm.trans z4
    rw [s8] at f7
    cases f7
  · obtain ⟨cell', k', e1, e2, e3, -⟩ := E
    cases (show h[q.sd]? = some q.SA from s10).symm.trans e1
    have hB' : Z.vm.findClass "[B" = some q.SA.cls := by rw [← hal.findClass]; exact hB
    exact ids_ne hB' e2 (by decide) rfl
theorem retJ (X : Stand p l e R s m args below meth c T locs cells slots) (hx : p.tables.exec = Jvm.exec) {pc : Nat} {Ls : Array Slot} {z : Int64} {rest : List Value} (hret : meth.sig.returnType = some .long) (hd : decode c.code pc = .ok (.lreturn, 1)) {fs : List Frame}
    (hl : ∀ (f : JFrame) (acts : List Action), f.method = m → f.locked = none → f.entered = [] → (doReturn e (T.setTop f) acts (some (.long z))).1 = T.setFrames fs) : Steps p.tables e below (T.setTop (mkF m pc Ls (.long z :: rest))) (T.setFrames fs) :=
  retOut X hx hret rfl (Or.inr (Or.inl ⟨rfl, rfl, z, rfl⟩)) hd hl
theorem retA (X : Stand p l e R s m args below meth c T locs cells slots) (hx : p.tables.exec = Jvm.exec) {pc : Nat} {Ls : Array Slot} {w : Value} {t : FieldType} {rest : List Value} (hret : meth.sig.returnType = some t) (hn : narrow t w = w) (ht : t.isReference = true) (hw : w.isRef = true) (hd : decode c.code pc = .ok (.areturn, 1)) {fs : List Frame}
    (hl : ∀ (f : JFrame) (acts : List Action), f.method = m → f.locked = none → f.entered = [] → (doReturn e (T.setTop f) acts (some w)).1 = T.setFrames fs) : Steps p.tables e below (T.setTop (mkF m pc Ls (w :: rest))) (T.setFrames fs) :=
  retOut X hx hret hn (Or.inr (Or.inr (Or.inr (Or.inr ⟨rfl, ht, hw⟩)))) hd hl
end Goes
end Jvm.RoadKit
/- laws to paste: Road.backV, Road.eqW, Road.codOf (cut by pick.py; bodies as the Statement names them) -/
namespace Jvm.Pilot.@@N@@
namespace StrChars
open Jvm Sem ClassFile Op Lib Jvm.Stand Jvm.Free.XT Jvm.Free.ALB Jvm.Free.JM Jvm.Free
open Jvm.Lib.Cold (StaticIs)
/-- a char array whose places are chars -/
def Ch (a : Addr) (A : Cell) (U : State) : Prop := Arr .char a A U ∧ Typed .char A
theorem Ch.mv {a : Addr} {A : Cell} {U U' : State} (h : Ch a A U) (hal : U.vm.Alike U'.vm) (hh : U'.heap = U.heap) : Ch a A U' := ⟨h.1.mv hal hh, h.2⟩
theorem Ch.keep {a : Addr} {A : Cell} {U U' : State} (h : Ch a A U) (hal : U.vm.Alike U'.vm) (hk : U'.heap[a]? = some A) : Ch a A U' := ⟨h.1.keep hal hk, h.2⟩
/-- what place i of a char[]'s cell holds -/
def cv (A : Cell) (i : Nat) : Int32 := match A.slots[i]? with | some (.int x) => x | _ => 0
theorem Ch.get {a : Addr} {A : Cell} {U : State} (h : Ch a A U) {i : Nat} (hi : i < A.slots.size) : A.slots[i]? = some (.int (cv A i)) := by
  have e := Array.getElem?_eq_getElem hi
  have f := h.2 i _ e
  unfold cv; rw [e]
  generalize A.slots[i] = v at f
  cases v <;> simp [fits] at f ⊢
/-- the byte that i2b leaves of a char -/
def lo8 (x : Int32) : Int32 := x.toInt8.toInt32
theorem fits_lo8 (y : Int32) : fits .byte (.int (lo8 y)) = true := by
  have h1 := y.toInt8.le_toInt
  have h2 := y.toInt8.toInt_lt
  simp only [lo8, fits, Bool.and_eq_true, decide_eq_true_eq, Int32.le_iff_toInt_le, Int8.toInt_toInt32, show (-128 : Int32).toInt = -128 from by decide, show (127 : Int32).toInt = 127 from by decide]
  omega
/-- A' is A but that each place j of lo .. hi - 1 holds f j -/
def Laid (A A' : Cell) (lo hi : Nat) (f : Nat → Value) : Prop := A'.cls = A.cls ∧ A'.vm = A.vm ∧ A'.slots.size = A.slots.size ∧ ∀ i, A'.slots[i]? = if lo ≤ i ∧ i < hi then some (f i) else A.slots[i]?
theorem Laid.zero (A : Cell) (lo : Nat) (f : Nat → Value) : Laid A A lo (lo + 0) f := ⟨rfl, rfl, rfl, fun i => by rw [if_neg (by omega)]⟩
theorem Laid.step {A Ak : Cell} {lo k : Nat} {f : Nat → Value} {v : Value} (h : Laid A Ak lo k f) (hlo : lo ≤ k) (hk : k < Ak.slots.size) (hv : v = f k) : Laid A (Ak.setSlot k v) lo (k + 1) f := by
  refine ⟨h.1, h.2.1, by simpa [Cell.setSlot] using h.2.2.1, fun i => ?_⟩
  by_cases e : k = i
  · subst e; rw [Cell.slots_setSlot_self v hk, if_pos (by omega), hv]
  · rw [Cell.slots_setSlot_ne v e, h.2.2.2 i]
    by_cases q : lo ≤ i ∧ i < k
    · rw [if_pos q, if_pos (by omega)]
    · rw [if_neg q, if_neg (by omega)]
def U16 : String := "java/lang/StringUTF16"
namespace Cmp5
def yN : MethodName := ⟨"java/lang/StringUTF16", "compress", "([CI[BII)I"⟩
abbrev yB : ByteArray := jdk_52_method_21_code
theorem d0 : decode yB 0 = .ok (.iconst 0, 1) := by decide +kernel
theorem d1 : decode yB 1 = .ok (.istore 5, 2) := by decide +kernel
theorem d3 : decode yB 3 = .ok (.iload 5, 2) := by decide +kernel
theorem d5 : decode yB 5 = .ok (.iload 4, 2) := by decide +kernel
theorem d7 : decode yB 7 = .ok (.if_icmp (.ge) 37, 3) := by decide +kernel
theorem d10 : decode yB 10 = .ok (.aload_n 0, 1) := by decide +kernel
theorem d11 : decode yB 11 = .ok (.iload_n 1, 1) := by decide +kernel
theorem d12 : decode yB 12 = .ok (.caload, 1) := by decide +kernel
theorem d13 : decode yB 13 = .ok (.istore 6, 2) := by decide +kernel
theorem d15 : decode yB 15 = .ok (.iload 6, 2) := by decide +kernel
theorem d17 : decode yB 17 = .ok (.sipush 255, 3) := by decide +kernel
theorem d20 : decode yB 20 = .ok (.if_icmp (.le) 6, 3) := by decide +kernel
theorem d26 : decode yB 26 = .ok (.aload_n 2, 1) := by decide +kernel
theorem d27 : decode yB 27 = .ok (.iload_n 3, 1) := by decide +kernel
theorem d28 : decode yB 28 = .ok (.iload 6, 2) := by decide +kernel
theorem d30 : decode yB 30 = .ok (.i2b, 1) := by decide +kernel
theorem d31 : decode yB 31 = .ok (.bastore, 1) := by decide +kernel
theorem d32 : decode yB 32 = .ok (.iinc 1 1, 3) := by decide +kernel
theorem d35 : decode yB 35 = .ok (.iinc 3 1, 3) := by decide +kernel
theorem d38 : decode yB 38 = .ok (.iinc 5 1, 3) := by decide +kernel
theorem d41 : decode yB 41 = .ok (.goto (-38), 3) := by decide +kernel
theorem d44 : decode yB 44 = .ok (.iload 4, 2) := by decide +kernel
theorem d46 : decode yB 46 = .ok (.ireturn, 1) := by decide +kernel
def site : List Cond := []
def tab : Cond := tabOf yN yB 7 (some .int) site
def P (b : Addr) (A : Cell) (d : Addr) (B : Cell) (o q len : Nat) (args : Array Value) (s : State) : Prop := args = #[.ref b, .int (Int32.ofNat o), .ref d, .int (Int32.ofNat q), .int (Int32.ofNat len)] ∧ Ch b A s ∧ Arr .byte d B s ∧ b ≠ d ∧ o + len ≤ A.slots.size ∧ q + len ≤ B.slots.size ∧ ∀ i, i < len → ¬ 255 < cv A (o + i)
def E (b : Addr) (A : Cell) (d : Addr) (B : Cell) (o q len : Nat) (r : Option Value) (s u : State) : Prop := r = some (.int (Int32.ofNat len)) ∧ ∃ B', Put d B' s u ∧ Laid B B' q (q + len) (fun j => Value.int (lo8 (cv A (o + (j - q)))))
/-- no char of the range above 255: len; the places written hold each char's low byte -/
theorem law (l : Launch) (b : Addr) (A : Cell) (d : Addr) (B : Cell) (o q len : Nat) : Law l yN 5 5 0 0 yB 7 (some .int) site (P b A d B o q len) (E b A d B o q len) (copyLocs d q len) 0 0 := by
  refine Law.of_walk (plainFor_of_name (by decide +kernel)) (by decide +kernel) (by decide +kernel) (by decide) (fun _ _ h => by rw [h.1]; rfl) (fun _ U U' hal hh h => ⟨h.1, h.2.1.mv hal hh, h.2.2.1.mv hal hh, h.2.2.2⟩) (fun r U U' V V' h1 hal h2 h => ⟨h.1, h.2.elim fun B' q => ⟨B', q.1.mv h1 h2, q.2⟩⟩) ?_
  intro p e s m args below meth c s₁ X0 hexec hbytes hml hret hlk hnm hown hh0 W hP
  obtain ⟨rfl, hA, hB, hne, l1, l2, hp⟩ := hP
  have c1 : Steps p.tables e below (s₁.setTop (entryFrame m #[.ref b, .int (Int32.ofNat o), .ref d, .int (Int32.ofNat q), .int (Int32.ofNat len)] 7)) (s₁.setTop (mkF m 0 #[.val (.ref b), .val (.int (Int32.ofNat o)), .val (.ref d), .val (.int (Int32.ofNat q)), .val (.int (Int32.ofNat len)), .unset, .unset] [])) := entry rfl
  have hA0 := hA.1.mv X0.warmed.alike hh0
  have hB0 := hB.mv X0.warmed.alike hh0
  have a31 := hA.1.2.2.2
  have c2 : Steps p.tables e below (s₁.setTop (entryFrame m #[.ref b, .int (Int32.ofNat o), .ref d, .int (Int32.ofNat q), .int (Int32.ofNat len)] 7)) (s₁.setTop (mkF m 3 #[.val (.ref b), .val (.int (Int32.ofNat o)), .val (.ref d), .val (.int (Int32.ofNat q)), .val (.int (Int32.ofNat len)), .val (.int 0), .unset] [])) := c1.trans (by
    refine iconstV X0.here hexec rfl 0 (hb hbytes d0) (by decide) ?_
    refine XS.istore X0.here hexec rfl (hb hbytes d1) rfl rfl ?_
    exact Steps.refl _)
  have loop : ∀ (r i : Nat), i + r = len → ∀ (z : Slot), (z = .unset ∨ ∃ w, z = .val w ∧ w.category = 1) → ∀ (Tl : State) (Bk : Cell), Stand p l e { frames := 0, locals := 0, cells := 0, slots := 0 } s m #[.ref b, .int (Int32.ofNat o), .ref d, .int (Int32.ofNat q), .int (Int32.ofNat len)] below meth c Tl ([] ++ copyLocs d q i) 0 0 → Put d Bk s₁ Tl → Laid B Bk q (q + i) (fun j => Value.int (lo8 (cv A (o + (j - q))))) →
      Steps p.tables e below (s₁.setTop (entryFrame m #[.ref b, .int (Int32.ofNat o), .ref d, .int (Int32.ofNat q), .int (Int32.ofNat len)] 7)) (Tl.setTop (mkF m 3 #[.val (.ref b), .val (.int (Int32.ofNat (o + i))), .val (.ref d), .val (.int (Int32.ofNat (q + i))), .val (.int (Int32.ofNat len)), .val (.int (Int32.ofNat i)), z] [])) → ∃ (T' : State) (B' : Cell) (z' : Slot), Stand p l e { frames := 0, locals := 0, cells := 0, slots := 0 } s m #[.ref b, .int (Int32.ofNat o), .ref d, .int (Int32.ofNat q), .int (Int32.ofNat len)] below meth c T' ([] ++ copyLocs d q len) 0 0 ∧ Put d B' s₁ T' ∧ Laid B B' q (q + len) (fun j => Value.int (lo8 (cv A (o + (j - q))))) ∧
      Steps p.tables e below (s₁.setTop (entryFrame m #[.ref b, .int (Int32.ofNat o), .ref d, .int (Int32.ofNat q), .int (Int32.ofNat len)] 7)) (T'.setTop (mkF m 3 #[.val (.ref b), .val (.int (Int32.ofNat (o + len))), .val (.ref d), .val (.int (Int32.ofNat (q + len))), .val (.int (Int32.ofNat len)), .val (.int (Int32.ofNat len)), z'] [])) := by
    intro r
    induction r with
    | zero =>
      intro i hi z hz Tl Bk Xl pl fl cl
      have hil : i = len := by omega
      rw [hil] at Xl fl cl
      exact ⟨Tl, Bk, z, Xl, pl, fl, cl⟩
    | succ r ih =>
      intro i hi z hz Tl Bk Xl pl fl cl
      have all := X0.warmed.alike.symm.trans Xl.warmed.alike
      have hAl := hA0.keep all (pl.other hne hA0.1)
      have hBk := hB0.like all pl.1 fl.1 fl.2.1 fl.2.2.1
      have hlt : q + i < Bk.slots.size := by rw [fl.2.2.1]; omega
      have c3 : Steps p.tables e below (s₁.setTop (entryFrame m #[.ref b, .int (Int32.ofNat o), .ref d, .int (Int32.ofNat q), .int (Int32.ofNat len)] 7)) (Tl.setTop (mkF m 12 #[.val (.ref b), .val (.int (Int32.ofNat (o + i))), .val (.ref d), .val (.int (Int32.ofNat (q + i))), .val (.int (Int32.ofNat len)), .val (.int (Int32.ofNat i)), z] [.int (Int32.ofNat (o + i)), .ref b])) := cl.trans (by
        refine XS.iload Xl.here hexec rfl (hb hbytes d3) rfl ?_
        refine XS.iload Xl.here hexec rfl (hb hbytes d5) rfl ?_
        refine XS.icmpNo Xl.here hexec rfl (hb hbytes d7) rfl (ii_ge_f (lt32 (by omega) (by omega))) ?_
        refine XS.aloadN Xl.here hexec rfl (hb hbytes d10) rfl rfl ?_
        refine XS.iloadN Xl.here hexec rfl (hb hbytes d11) rfl ?_
        exact Steps.refl _)
      have c4 : Steps p.tables e below (s₁.setTop (entryFrame m #[.ref b, .int (Int32.ofNat o), .ref d, .int (Int32.ofNat q), .int (Int32.ofNat len)] 7)) (Tl.setTop (mkF m 13 #[.val (.ref b), .val (.int (Int32.ofNat (o + i))), .val (.ref d), .val (.int (Int32.ofNat (q + i))), .val (.int (Int32.ofNat len)), .val (.int (Int32.ofNat i)), z] [.int (cv A (o + i))])) := c3.trans (by
        refine Xl.aget hexec hAl rfl (hA.get (i := o + i) (by omega)) rfl rfl (hb hbytes d12) ?_
        exact Steps.refl _)
      have c5 : Steps p.tables e below (s₁.setTop (entryFrame m #[.ref b, .int (Int32.ofNat o), .ref d, .int (Int32.ofNat q), .int (Int32.ofNat len)] 7)) (Tl.setTop (mkF m 15 #[.val (.ref b), .val (.int (Int32.ofNat (o + i))), .val (.ref d), .val (.int (Int32.ofNat (q + i))), .val (.int (Int32.ofNat len)), .val (.int (Int32.ofNat i)), .val (.int (cv A (o + i)))] [])) := c4.trans (by
        refine XS.istoreS Xl.here hexec rfl (hb hbytes d13) rfl rfl hz ?_
        exact Steps.refl _)
      have c6 : Steps p.tables e below (s₁.setTop (entryFrame m #[.ref b, .int (Int32.ofNat o), .ref d, .int (Int32.ofNat q), .int (Int32.ofNat len)] 7)) (Tl.setTop (mkF m 31 #[.val (.ref b), .val (.int (Int32.ofNat (o + i))), .val (.ref d), .val (.int (Int32.ofNat (q + i))), .val (.int (Int32.ofNat len)), .val (.int (Int32.ofNat i)), .val (.int (cv A (o + i)))] [.int (lo8 (cv A (o + i))), .int (Int32.ofNat (q + i)), .ref d])) := c5.trans (by
        refine XS.iload Xl.here hexec rfl (hb hbytes d15) rfl ?_
        refine sipushV Xl.here hexec rfl 255 (hb hbytes d17) (by decide) ?_
        refine XS.icmpYes Xl.here hexec rfl (pc0 := 20) rfl (hb hbytes d20) rfl (ii_le_t (hp i (by omega))) (by decide) rfl ?_
        refine XS.aloadN Xl.here hexec rfl (hb hbytes d26) rfl rfl ?_
        refine XS.iloadN Xl.here hexec rfl (hb hbytes d27) rfl ?_
        refine XS.iload Xl.here hexec rfl (hb hbytes d28) rfl ?_
        refine i2b Xl.here hexec rfl (hb hbytes d30) rfl ?_
        exact Steps.refl _)
      obtain ⟨T7, X7, p7, st7⟩ := Xl.aput hexec hBk rfl hlt rfl (fits_lo8 (cv A (o + i))) (g := (mkF m 31 #[.val (.ref b), .val (.int (Int32.ofNat (o + i))), .val (.ref d), .val (.int (Int32.ofNat (q + i))), .val (.int (Int32.ofNat len)), .val (.int (Int32.ofNat i)), .val (.int (cv A (o + i)))] [.int (lo8 (cv A (o + i))), .int (Int32.ofNat (q + i)), .ref d])) rfl (rest := []) rfl (hb hbytes d31)
      have c8 : Steps p.tables e below (s₁.setTop (entryFrame m #[.ref b, .int (Int32.ofNat o), .ref d, .int (Int32.ofNat q), .int (Int32.ofNat len)] 7)) (T7.setTop (mkF m 32 #[.val (.ref b), .val (.int (Int32.ofNat (o + i))), .val (.ref d), .val (.int (Int32.ofNat (q + i))), .val (.int (Int32.ofNat len)), .val (.int (Int32.ofNat i)), .val (.int (cv A (o + i)))] [])) := c6.trans (st7 _ (Steps.refl _))
      have c9 : Steps p.tables e below (s₁.setTop (entryFrame m #[.ref b, .int (Int32.ofNat o), .ref d, .int (Int32.ofNat q), .int (Int32.ofNat len)] 7)) (T7.setTop (mkF m 3 #[.val (.ref b), .val (.int (Int32.ofNat (o + i) + 1)), .val (.ref d), .val (.int (Int32.ofNat (q + i) + 1)), .val (.int (Int32.ofNat len)), .val (.int (Int32.ofNat i + 1)), .val (.int (cv A (o + i)))] [])) := c8.trans (by
        refine iincV X7.here hexec rfl 1 (hb hbytes d32) (by decide) rfl rfl ?_
        refine iincV X7.here hexec rfl 1 (hb hbytes d35) (by decide) rfl rfl ?_
        refine iincV X7.here hexec rfl 1 (hb hbytes d38) (by decide) rfl rfl ?_
        refine XS.goto X7.here hexec rfl (pc0 := 41) rfl (hb hbytes d41) (by decide) rfl ?_
        exact Steps.refl _)
      have c10 : Steps p.tables e below (s₁.setTop (entryFrame m #[.ref b, .int (Int32.ofNat o), .ref d, .int (Int32.ofNat q), .int (Int32.ofNat len)] 7)) (T7.setTop (mkF m 3 #[.val (.ref b), .val (.int (Int32.ofNat (o + (i + 1)))), .val (.ref d), .val (.int (Int32.ofNat (q + (i + 1)))), .val (.int (Int32.ofNat len)), .val (.int (Int32.ofNat (i + 1))), .val (.int (cv A (o + i)))] [])) := by
        have := c9
        rw [succ32, succ32, succ32] at this
        exact this
      exact ih (i + 1) (by omega) _ (Or.inr ⟨_, rfl, rfl⟩) T7 _ (by rw [copyLocs_step, ← List.append_assoc]; exact X7) (pl.trans p7) (fl.step (by omega) hlt (by simp)) c10
  obtain ⟨T9, B9, z9, X9, p9, f9, g9⟩ := loop len 0 (by omega) .unset (Or.inl rfl) s₁ B (by simpa [copyLocs] using X0) ⟨hB0.1, fun _ _ => rfl, rfl⟩ (Laid.zero _ _ _) c2
  have c11 : Steps p.tables e below (s₁.setTop (entryFrame m #[.ref b, .int (Int32.ofNat o), .ref d, .int (Int32.ofNat q), .int (Int32.ofNat len)] 7)) (T9.setTop (mkF m 46 #[.val (.ref b), .val (.int (Int32.ofNat (o + len))), .val (.ref d), .val (.int (Int32.ofNat (q + len))), .val (.int (Int32.ofNat len)), .val (.int (Int32.ofNat len)), z9] [.int (Int32.ofNat len)])) := g9.trans (by
    refine XS.iload X9.here hexec rfl (hb hbytes d3) rfl ?_
    refine XS.iload X9.here hexec rfl (hb hbytes d5) rfl ?_
    refine XS.icmpYes X9.here hexec rfl (pc0 := 7) rfl (hb hbytes d7) rfl (ii_ge_t (nlt32 (by omega) (Nat.le_refl _))) (by decide) rfl ?_
    refine XS.iload X9.here hexec rfl (hb hbytes d44) rfl ?_
    exact Steps.refl _)
  exact ⟨T9, some (.int (Int32.ofNat len)), _, _, _, X9, by simp, rfl, rfl, (fun h => by cases h), ⟨rfl, B9, p9.from hh0, f9⟩, fun fs hl => c11.trans (X9.ireturnOut hexec hret rfl (Or.inl rfl) (hb hbytes d46) hl)⟩
end Cmp5
namespace Cmp3
def yN : MethodName := ⟨"java/lang/StringUTF16", "compress", "([CII)[B"⟩
abbrev yB : ByteArray := jdk_52_method_16_code
theorem d0 : decode yB 0 = .ok (.iload_n 2, 1) := by decide +kernel
theorem d1 : decode yB 1 = .ok (.newarray .byte, 2) := by decide +kernel
theorem d3 : decode yB 3 = .ok (.astore_n 3, 1) := by decide +kernel
theorem d4 : decode yB 4 = .ok (.aload_n 0, 1) := by decide +kernel
theorem d5 : decode yB 5 = .ok (.iload_n 1, 1) := by decide +kernel
theorem d6 : decode yB 6 = .ok (.aload_n 3, 1) := by decide +kernel
theorem d7 : decode yB 7 = .ok (.iconst 0, 1) := by decide +kernel
theorem d8 : decode yB 8 = .ok (.iload_n 2, 1) := by decide +kernel
theorem d9 : decode yB 9 = .ok (.invokestatic 115, 3) := by decide +kernel
theorem d12 : decode yB 12 = .ok (.istore 4, 2) := by decide +kernel
theorem d14 : decode yB 14 = .ok (.iload 4, 2) := by decide +kernel
theorem d16 : decode yB 16 = .ok (.iload_n 2, 1) := by decide +kernel
theorem d17 : decode yB 17 = .ok (.if_icmp (.eq) 40, 3) := by decide +kernel
theorem d57 : decode yB 57 = .ok (.aload_n 3, 1) := by decide +kernel
theorem d58 : decode yB 58 = .ok (.areturn, 1) := by decide +kernel
def site : List Cond := [.arrayClass .byte, Cmp5.tab] ++ staticW U16 115 Cmp5.yN
def tab : Cond := tabOf yN yB 6 (some (.array .byte)) site
def P (b : Addr) (A : Cell) (o len : Nat) (args : Array Value) (s : State) : Prop := args = #[.ref b, .int (Int32.ofNat o), .int (Int32.ofNat len)] ∧ Ch b A s ∧ o + len ≤ A.slots.size ∧ len ≤ 536870912 ∧ ∀ i, i < len → ¬ 255 < cv A (o + i)
def E (b : Addr) (A : Cell) (o len : Nat) (r : Option Value) (s u : State) : Prop := NewArr .byte "[B" len (fun j => .int (lo8 (cv A (o + j)))) r s u ∧ u.heap.size = s.heap.size + 1
/-- no char of the range above 255: a new byte[] of their low bytes -/
theorem law (l : Launch) (b : Addr) (A : Cell) (o len : Nat) : Law l yN 3 3 1 18 yB 6 (some (.array .byte)) site (P b A o len) (E b A o len) [] 1 len := by
  refine Law.of_walk (plainFor_of_name (by decide +kernel)) (by decide +kernel) (by decide +kernel) (by decide) (fun _ _ h => by rw [h.1]; rfl) (fun _ U U' hal hh h => ⟨h.1, h.2.1.mv hal hh, h.2.2⟩) (fun r U U' V V' h1 hal h2 h => ⟨NewArr.mv r U U' V V' h1 hal h2 h.1, by rw [h1, h2]; exact h.2⟩) ?_
  intro p e s m args below meth c s₁ X0 hexec hbytes hml hret hlk hnm hown hh0 W hP
  obtain ⟨rfl, hA, l1, l2, hp⟩ := hP
  have a31 := hA.1.2.2.2
  have c1 : Steps p.tables e below (s₁.setTop (entryFrame m #[.ref b, .int (Int32.ofNat o), .int (Int32.ofNat len)] 6)) (s₁.setTop (mkF m 0 #[.val (.ref b), .val (.int (Int32.ofNat o)), .val (.int (Int32.ofNat len)), .unset, .unset, .unset] [])) := entry rfl
  have c2 : Steps p.tables e below (s₁.setTop (entryFrame m #[.ref b, .int (Int32.ofNat o), .int (Int32.ofNat len)] 6)) (s₁.setTop (mkF m 1 #[.val (.ref b), .val (.int (Int32.ofNat o)), .val (.int (Int32.ofNat len)), .unset, .unset, .unset] [.int (Int32.ofNat len)])) := c1.trans (by
    refine XS.iloadN X0.here hexec rfl (hb hbytes d0) rfl ?_
    exact Steps.refl _)
  obtain ⟨T3, B3, X3, ba3, bs3, bv3, bh3, bf3, st3⟩ := X0.anew hexec (atype := .byte) (wk W (.arrayClass .byte)) rfl (by show len * 1 ≤ _; omega) (by omega) (g := (mkF m 1 #[.val (.ref b), .val (.int (Int32.ofNat o)), .val (.int (Int32.ofNat len)), .unset, .unset, .unset] [.int (Int32.ofNat len)])) rfl (hb hbytes d1) (rest := []) rfl (Nat.le_refl _) (by show 0 + len ≤ len; omega)
  rw [hh0] at ba3 st3
  have kp3 : XT.Kept s T3 := (XT.Kept.of_eq hh0).push bh3
  have hA3 := hA.keep X3.warmed.alike (kp3 _ _ hA.1.1)
  have hne : b ≠ s.heap.size := hA.1.ne
  have c4 : Steps p.tables e below (s₁.setTop (entryFrame m #[.ref b, .int (Int32.ofNat o), .int (Int32.ofNat len)] 6)) (T3.setTop (mkF m 3 #[.val (.ref b), .val (.int (Int32.ofNat o)), .val (.int (Int32.ofNat len)), .unset, .unset, .unset] [.ref s.heap.size])) := c2.trans (st3 _ (Steps.refl _))
  have c5 : Steps p.tables e below (s₁.setTop (entryFrame m #[.ref b, .int (Int32.ofNat o), .int (Int32.ofNat len)] 6)) (T3.setTop (mkF m 9 #[.val (.ref b), .val (.int (Int32.ofNat o)), .val (.int (Int32.ofNat len)), .val (.ref s.heap.size), .unset, .unset] [.int (Int32.ofNat len), .int 0, .ref s.heap.size, .int (Int32.ofNat o), .ref b])) := c4.trans (by
    refine XS.astoreN X3.here hexec rfl (hb hbytes d3) rfl rfl rfl ?_
    refine XS.aloadN X3.here hexec rfl (hb hbytes d4) rfl rfl ?_
    refine XS.iloadN X3.here hexec rfl (hb hbytes d5) rfl ?_
    refine XS.aloadN X3.here hexec rfl (hb hbytes d6) rfl rfl ?_
    refine iconstV X3.here hexec rfl 0 (hb hbytes d7) (by decide) ?_
    refine XS.iloadN X3.here hexec rfl (hb hbytes d8) rfl ?_
    exact Steps.refl _)
  obtain ⟨v6, T6, X6, E6, g6⟩ := X3.callS hexec (Cmp5.law l b A s.heap.size B3 o 0 len) hown (wks W (staticW U16 115 Cmp5.yN)) (wk W Cmp5.tab) (W := 0) (Nat.le_of_ble_eq_true rfl) (Nat.le_of_ble_eq_true rfl) (Nat.le_refl _) (by show 0 + len + 0 ≤ len; omega) (g := (mkF m 9 #[.val (.ref b), .val (.int (Int32.ofNat o)), .val (.int (Int32.ofNat len)), .val (.ref s.heap.size), .unset, .unset] [.int (Int32.ofNat len), .int (Int32.ofNat 0), .ref s.heap.size, .int (Int32.ofNat o), .ref b])) rfl (by rw [hml]; rfl) c5 (argsL := [.ref b, .int (Int32.ofNat o), .ref s.heap.size, .int (Int32.ofNat 0), .int (Int32.ofNat len)]) (rest := []) rfl rfl (by show 2 * 0 + 0 ≤ _; decide) (hb hbytes d9) (⟨rfl, hA3, ba3, hne, l1, by rw [bs3]; simp, hp⟩)
  obtain ⟨rfl, B6, p6, f6⟩ := E6
  have c7 : Steps p.tables e below (s₁.setTop (entryFrame m #[.ref b, .int (Int32.ofNat o), .int (Int32.ofNat len)] 6)) (T6.setTop (mkF m 12 #[.val (.ref b), .val (.int (Int32.ofNat o)), .val (.int (Int32.ofNat len)), .val (.ref s.heap.size), .unset, .unset] [.int (Int32.ofNat len)])) := g6
  have c8 : Steps p.tables e below (s₁.setTop (entryFrame m #[.ref b, .int (Int32.ofNat o), .int (Int32.ofNat len)] 6)) (T6.setTop (mkF m 58 #[.val (.ref b), .val (.int (Int32.ofNat o)), .val (.int (Int32.ofNat len)), .val (.ref s.heap.size), .val (.int (Int32.ofNat len)), .unset] [.ref s.heap.size])) := c7.trans (by
    refine XS.istore X6.here hexec rfl (hb hbytes d12) rfl rfl ?_
    refine XS.iload X6.here hexec rfl (hb hbytes d14) rfl ?_
    refine XS.iloadN X6.here hexec rfl (hb hbytes d16) rfl ?_
    refine XS.icmpYes X6.here hexec rfl (pc0 := 17) rfl (hb hbytes d17) rfl (ii_eq_t rfl) (by decide) rfl ?_
    refine XS.aloadN X6.here hexec rfl (hb hbytes d57) rfl rfl ?_
    exact Steps.refl _)
  have X8 := X6.wide (L' := []) (cells' := 1) (slots' := len) (fun x hx hlt => by
    simp only [List.nil_append, copyLocs, List.mem_map, List.mem_range] at hx
    obtain ⟨i, -, rfl⟩ := hx
    exact absurd hlt (Nat.lt_irrefl _)) (Nat.le_refl _) (by omega)
  exact ⟨T6, some (.ref s.heap.size), _, _, _, X8, rfl, rfl, rfl, (fun h => by cases h), ⟨⟨rfl, B6, ba3.like (X3.warmed.alike.symm.trans X6.warmed.alike) p6.1 f6.1 f6.2.1 f6.2.2.1, f6.2.1.trans bv3, by rw [X6.warmed.alike.findClass, f6.1]; exact bf3, by rw [f6.2.2.1, bs3]; simp, fun j hj => by rw [f6.2.2.2 j, if_pos (by omega)]; rfl, kp3.put p6 (Nat.le_refl _)⟩, by rw [p6.2.2, bh3, hh0]; simp⟩, fun fs hl => c8.trans (X8.areturnOut hexec rfl hret rfl (hb hbytes d58) hl)⟩
end Cmp3
namespace CodL
def yN : MethodName := ⟨"java/lang/StringUTF16", "coderFromArrayLen", "([BI)B"⟩
abbrev yB : ByteArray := jdk_52_method_15_code
theorem d0 : decode yB 0 = .ok (.iload_n 1, 1) := by decide +kernel
theorem d1 : decode yB 1 = .ok (.aload_n 0, 1) := by decide +kernel
theorem d2 : decode yB 2 = .ok (.arraylength, 1) := by decide +kernel
theorem d3 : decode yB 3 = .ok (.isub, 1) := by decide +kernel
theorem d4 : decode yB 4 = .ok (.bipush 31, 2) := by decide +kernel
theorem d6 : decode yB 6 = .ok (.iushr, 1) := by decide +kernel
theorem d7 : decode yB 7 = .ok (.i2b, 1) := by decide +kernel
theorem d8 : decode yB 8 = .ok (.ireturn, 1) := by decide +kernel
def site : List Cond := []
def tab : Cond := tabOf yN yB 2 (some .byte) site
def P (d : Addr) (B : Cell) (args : Array Value) (s : State) : Prop := args = #[.ref d, .int (Int32.ofNat B.slots.size)] ∧ Arr .byte d B s
def E (r : Option Value) (s u : State) : Prop := XT.PureE (some (.int 0)) r s u
/-- an array as long as the number of chars: LATIN1 -/
theorem law (l : Launch) (d : Addr) (B : Cell) : Law l yN 2 2 0 0 yB 2 (some .byte) site (P d B) E [] 0 0 := by
  refine Law.of_walk (plainFor_of_name (by decide +kernel)) (by decide +kernel) (by decide +kernel) (by decide) (fun _ _ h => by rw [h.1]; rfl) (fun _ U U' hal hh h => ⟨h.1, h.2.mv hal hh⟩) (fun r U U' V V' h1 hal h2 h => XT.PureE.mv r U U' V V' h1 hal h2 h) ?_
  intro p e s m args below meth c s₁ X0 hexec hbytes hml hret hlk hnm hown hh0 W hP
  obtain ⟨rfl, hB⟩ := hP
  have hB0 := hB.mv X0.warmed.alike hh0
  have c1 : Steps p.tables e below (s₁.setTop (entryFrame m #[.ref d, .int (Int32.ofNat B.slots.size)] 2)) (s₁.setTop (mkF m 0 #[.val (.ref d), .val (.int (Int32.ofNat B.slots.size))] [])) := entry rfl
  have c2 : Steps p.tables e below (s₁.setTop (entryFrame m #[.ref d, .int (Int32.ofNat B.slots.size)] 2)) (s₁.setTop (mkF m 2 #[.val (.ref d), .val (.int (Int32.ofNat B.slots.size))] [.ref d, .int (Int32.ofNat B.slots.size)])) := c1.trans (by
    refine XS.iloadN X0.here hexec rfl (hb hbytes d0) rfl ?_
    refine XS.aloadN X0.here hexec rfl (hb hbytes d1) rfl rfl ?_
    exact Steps.refl _)
  have c3 : Steps p.tables e below (s₁.setTop (entryFrame m #[.ref d, .int (Int32.ofNat B.slots.size)] 2)) (s₁.setTop (mkF m 8 #[.val (.ref d), .val (.int (Int32.ofNat B.slots.size))] [.int (lo8 (ushr (Int32.ofNat B.slots.size - Int32.ofNat B.slots.size) 31))])) := c2.trans (by
    refine X0.alen hexec hB0 rfl rfl (hb hbytes d2) ?_
    refine XS.isub X0.here hexec rfl (hb hbytes d3) rfl ?_
    refine bipushV X0.here hexec rfl 31 (hb hbytes d4) (by decide) ?_
    refine iushr X0.here hexec rfl (hb hbytes d6) rfl ?_
    refine i2b X0.here hexec rfl (hb hbytes d7) rfl ?_
    exact Steps.refl _)
  have e0 : lo8 (ushr (Int32.ofNat B.slots.size - Int32.ofNat B.slots.size) 31) = 0 := by rw [Int32.sub_self]; decide
  rw [e0] at c3
  exact ⟨s₁, some (.int 0), _, _, _, X0, rfl, rfl, rfl, (fun h => by cases h), ⟨rfl, hh0⟩, fun fs hl => c3.trans (X0.ireturnOut hexec hret rfl (Or.inr (Or.inr (Or.inl rfl))) (hb hbytes d8) hl)⟩
end CodL
/-- the String at a is Latin-1 over a new byte[] (the heap's one new cell): the low bytes of the len chars of A from o on; every cell but a is kept -/
def Got (a : Addr) (D : Cell) (fV fC : Field) (A : Cell) (o len : Nat) (r : Option Value) (s u : State) : Prop := r = none ∧ ∃ D' V : Cell, Blank "java/lang/String" a D' u ∧ Same D D' [fV.slot, fC.slot] ∧ D'.slots[fV.slot]? = some (.ref s.heap.size) ∧ D'.slots[fC.slot]? = some (.int 0) ∧ Arr .byte s.heap.size V u ∧ V.vm = .none ∧ u.vm.findClass "[B" = some V.cls ∧ V.slots.size = len ∧ (∀ j, j < len → V.slots[j]? = some (.int (lo8 (cv A (o + j))))) ∧ (∀ (y : Addr) (c : Cell), y ≠ a → s.heap[y]? = some c → u.heap[y]? = some c) ∧ u.heap.size = s.heap.size + 1
theorem Got.mv {a : Addr} {D A : Cell} {fV fC : Field} {o len : Nat} : ∀ r (U U' V V' : State), U'.heap = U.heap → V.vm.Alike V'.vm → V'.heap = V.heap → Got a D fV fC A o len r U V → Got a D fV fC A o len r U' V' :=
  fun r U U' V V' h1 hal h2 ⟨e0, D', X, a1, a2, a3, a4, a5, a6, a7, a8, a9, a10, a11⟩ => ⟨e0, D', X, a1.mv hal h2, a2, by rw [h1]; exact a3, a4, by rw [h1]; exact a5.mv hal h2, a6, by rw [hal.findClass]; exact a7, a8, a9, by rw [h1, h2]; exact a10, by rw [h1, h2]; exact a11⟩
namespace New4
def yN : MethodName := ⟨"java/lang/String", "<init>", "([CIILjava/lang/Void;)V"⟩
abbrev yB : ByteArray := jdk_42_method_149_code
theorem d0 : decode yB 0 = .ok (.aload_n 0, 1) := by decide +kernel
theorem d1 : decode yB 1 = .ok (.invokespecial 1, 3) := by decide +kernel
theorem d4 : decode yB 4 = .ok (.iload_n 3, 1) := by decide +kernel
theorem d5 : decode yB 5 = .ok (.ifCond (.ne) 22, 3) := by decide +kernel
theorem d27 : decode yB 27 = .ok (.getstatic 38, 3) := by decide +kernel
theorem d30 : decode yB 30 = .ok (.ifCond (.eq) 28, 3) := by decide +kernel
theorem d33 : decode yB 33 = .ok (.aload_n 1, 1) := by decide +kernel
theorem d34 : decode yB 34 = .ok (.iload_n 2, 1) := by decide +kernel
theorem d35 : decode yB 35 = .ok (.iload_n 3, 1) := by decide +kernel
theorem d36 : decode yB 36 = .ok (.invokestatic 177, 3) := by decide +kernel
theorem d39 : decode yB 39 = .ok (.astore 5, 2) := by decide +kernel
theorem d41 : decode yB 41 = .ok (.aload_n 0, 1) := by decide +kernel
theorem d42 : decode yB 42 = .ok (.aload 5, 2) := by decide +kernel
theorem d44 : decode yB 44 = .ok (.iload_n 3, 1) := by decide +kernel
theorem d45 : decode yB 45 = .ok (.invokestatic 47, 3) := by decide +kernel
theorem d48 : decode yB 48 = .ok (.putfield 15, 3) := by decide +kernel
theorem d51 : decode yB 51 = .ok (.aload_n 0, 1) := by decide +kernel
theorem d52 : decode yB 52 = .ok (.aload 5, 2) := by decide +kernel
theorem d54 : decode yB 54 = .ok (.putfield 9, 3) := by decide +kernel
theorem d57 : decode yB 57 = .ok (.return_, 1) := by decide +kernel
def site : List Cond := [.fieldLink "java/lang/String" 38 "java/lang/String" "COMPACT_STRINGS" "Z", Cmp3.tab, CodL.tab, .laysFinal "java/lang/String" "java/lang/String" "value" "[B", .fieldLink "java/lang/String" 9 "java/lang/String" "value" "[B", .laysFinal "java/lang/String" "java/lang/String" "coder" "B", .fieldLink "java/lang/String" 15 "java/lang/String" "coder" "B"] ++ objW "java/lang/String" 1 ++ staticW "java/lang/String" 177 Cmp3.yN ++ staticW "java/lang/String" 47 CodL.yN
def tab : Cond := tabOf yN yB 6 none site
def P (a : Addr) (D : Cell) (fV fC : Field) (b : Addr) (A : Cell) (z : Int32) (o len : Nat) (args : Array Value) (s : State) : Prop := args = #[.ref a, .ref b, .int (Int32.ofNat o), .int (Int32.ofNat len), .null] ∧ Blank "java/lang/String" a D s ∧ Found "java/lang/String" "value" "[B" fV s ∧ Found "java/lang/String" "coder" "B" fC s ∧ Ch b A s ∧ StaticIs s "java/lang/String" "COMPACT_STRINGS" "Z" (.int z) ∧ ¬ z = 0 ∧ 0 < len ∧ o + len ≤ A.slots.size ∧ len ≤ 536870912 ∧ ∀ i, i < len → ¬ 255 < cv A (o + i)
def E (a : Addr) (D : Cell) (fV fC : Field) (A : Cell) (o len : Nat) (r : Option Value) (s u : State) : Prop := Got a D fV fC A o len r s u
/-- len > 0, no char of the range above 255: a Latin-1 String of their low bytes -/
theorem law (l : Launch) (a : Addr) (D : Cell) (fV fC : Field) (b : Addr) (A : Cell) (z : Int32) (o len : Nat) : Law l yN 5 4 2 35 yB 6 none site (P a D fV fC b A z o len) (E a D fV fC A o len) [⟨a, fC.slot⟩, ⟨a, fV.slot⟩] 1 len := by
  refine Law.of_walk (plainFor_of_name (by decide +kernel)) (by decide +kernel) (by decide +kernel) (by decide) (fun _ _ h => by rw [h.1]; rfl) (fun _ U U' hal hh h => ⟨h.1, h.2.1.mv hal hh, h.2.2.1.al hal, h.2.2.2.1.al hal, h.2.2.2.2.1.mv hal hh, h.2.2.2.2.2.1.there hal hh, h.2.2.2.2.2.2⟩) (fun r U U' V V' h1 hal h2 h => Got.mv r U U' V V' h1 hal h2 h) ?_
  intro p e s m args below meth c s₁ X0 hexec hbytes hml hret hlk hnm hown hh0 W hP
  obtain ⟨rfl, hB, f1, f2, hA, s1, hz, l0, l1, l2, hp⟩ := hP
  have a31 := hA.1.2.2.2
  have c1 : Steps p.tables e below (s₁.setTop (entryFrame m #[.ref a, .ref b, .int (Int32.ofNat o), .int (Int32.ofNat len), .null] 6)) (s₁.setTop (mkF m 0 #[.val (.ref a), .val (.ref b), .val (.int (Int32.ofNat o)), .val (.int (Int32.ofNat len)), .val .null, .unset] [])) := entry rfl
  have c2 : Steps p.tables e below (s₁.setTop (entryFrame m #[.ref a, .ref b, .int (Int32.ofNat o), .int (Int32.ofNat len), .null] 6)) (s₁.setTop (mkF m 1 #[.val (.ref a), .val (.ref b), .val (.int (Int32.ofNat o)), .val (.int (Int32.ofNat len)), .val .null, .unset] [.ref a])) := c1.trans (by
    refine XS.aloadN X0.here hexec rfl (hb hbytes d0) rfl rfl ?_
    exact Steps.refl _)
  obtain ⟨T3, X3, q3, st3⟩ := X0.oinit hexec hown (wks W (objW "java/lang/String" 1)) (g := (mkF m 1 #[.val (.ref a), .val (.ref b), .val (.int (Int32.ofNat o)), .val (.int (Int32.ofNat len)), .val .null, .unset] [.ref a])) rfl (by rw [hml]; rfl) (rest := []) rfl (hb hbytes d1) (W := 0) (by show 2 * 0 + 0 ≤ _; decide) (Nat.le_of_ble_eq_true rfl) (Nat.le_of_ble_eq_true rfl)
  have hh3 := q3.trans hh0
  have c4 : Steps p.tables e below (s₁.setTop (entryFrame m #[.ref a, .ref b, .int (Int32.ofNat o), .int (Int32.ofNat len), .null] 6)) (T3.setTop (mkF m 27 #[.val (.ref a), .val (.ref b), .val (.int (Int32.ofNat o)), .val (.int (Int32.ofNat len)), .val .null, .unset] [])) := (c2.trans (st3 _ (Steps.refl _))).trans (by
    refine XS.iloadN X3.here hexec rfl (hb hbytes d4) rfl ?_
    refine XS.ifYes X3.here hexec rfl (pc0 := 5) rfl (hb hbytes d5) rfl (i0_ne_t (nz32 (by omega) l0)) (by decide) rfl ?_
    exact Steps.refl _)
  obtain ⟨T5, X5, q5, st5⟩ := X3.sget hexec hown (wk W (.fieldLink "java/lang/String" 38 "java/lang/String" "COMPACT_STRINGS" "Z")) s1 (fun _ _ h => by rw [hh3]; exact h) (g := (mkF m 27 #[.val (.ref a), .val (.ref b), .val (.int (Int32.ofNat o)), .val (.int (Int32.ofNat len)), .val .null, .unset] [])) rfl (hb hbytes d27)
  have hh5 := q5.trans hh3
  have c6 : Steps p.tables e below (s₁.setTop (entryFrame m #[.ref a, .ref b, .int (Int32.ofNat o), .int (Int32.ofNat len), .null] 6)) (T5.setTop (mkF m 30 #[.val (.ref a), .val (.ref b), .val (.int (Int32.ofNat o)), .val (.int (Int32.ofNat len)), .val .null, .unset] [.int z])) := c4.trans (st5 _ (Steps.refl _))
  have c7 : Steps p.tables e below (s₁.setTop (entryFrame m #[.ref a, .ref b, .int (Int32.ofNat o), .int (Int32.ofNat len), .null] 6)) (T5.setTop (mkF m 36 #[.val (.ref a), .val (.ref b), .val (.int (Int32.ofNat o)), .val (.int (Int32.ofNat len)), .val .null, .unset] [.int (Int32.ofNat len), .int (Int32.ofNat o), .ref b])) := c6.trans (by
    refine XS.ifNo X5.here hexec rfl (hb hbytes d30) rfl (i0_eq_f hz) ?_
    refine XS.aloadN X5.here hexec rfl (hb hbytes d33) rfl rfl ?_
    refine XS.iloadN X5.here hexec rfl (hb hbytes d34) rfl ?_
    refine XS.iloadN X5.here hexec rfl (hb hbytes d35) rfl ?_
    exact Steps.refl _)
  obtain ⟨v8, T8, X8, E8, g8⟩ := X5.callS hexec (Cmp3.law l b A o len) hown (wks W (staticW "java/lang/String" 177 Cmp3.yN)) (wk W Cmp3.tab) (W := 0) (Nat.le_of_ble_eq_true rfl) (Nat.le_of_ble_eq_true rfl) (Nat.le_refl _) (by show 0 + len ≤ len; omega) (g := (mkF m 36 #[.val (.ref a), .val (.ref b), .val (.int (Int32.ofNat o)), .val (.int (Int32.ofNat len)), .val .null, .unset] [.int (Int32.ofNat len), .int (Int32.ofNat o), .ref b])) rfl (by rw [hml]; rfl) c7 (argsL := [.ref b, .int (Int32.ofNat o), .int (Int32.ofNat len)]) (rest := []) rfl rfl (by show 2 * 0 + 0 ≤ _; decide) (hb hbytes d36) (⟨rfl, hA.mv X5.warmed.alike hh5, l1, l2, hp⟩)
  obtain ⟨e8, z8⟩ := E8
  obtain ⟨rfl, N, n1, n2, n3, n4, n5, n6⟩ := NewArr.mv _ T5 s _ _ hh5.symm (Vm.Alike.refl _) rfl e8
  rw [hh5] at z8
  have hB1 := hB.keep X8.warmed.alike (n6 _ _ hB.1)
  have hne : s.heap.size ≠ a := (Nat.ne_of_lt (Array.getElem?_eq_some_iff.mp hB.1).1).symm
  have c9 : Steps p.tables e below (s₁.setTop (entryFrame m #[.ref a, .ref b, .int (Int32.ofNat o), .int (Int32.ofNat len), .null] 6)) (T8.setTop (mkF m 39 #[.val (.ref a), .val (.ref b), .val (.int (Int32.ofNat o)), .val (.int (Int32.ofNat len)), .val .null, .unset] [.ref s.heap.size])) := g8
  have c10 : Steps p.tables e below (s₁.setTop (entryFrame m #[.ref a, .ref b, .int (Int32.ofNat o), .int (Int32.ofNat len), .null] 6)) (T8.setTop (mkF m 45 #[.val (.ref a), .val (.ref b), .val (.int (Int32.ofNat o)), .val (.int (Int32.ofNat len)), .val .null, .val (.ref s.heap.size)] [.int (Int32.ofNat N.slots.size), .ref s.heap.size, .ref a])) := by
    have hc : Steps p.tables e below (s₁.setTop (entryFrame m #[.ref a, .ref b, .int (Int32.ofNat o), .int (Int32.ofNat len), .null] 6)) (T8.setTop (mkF m 45 #[.val (.ref a), .val (.ref b), .val (.int (Int32.ofNat o)), .val (.int (Int32.ofNat len)), .val .null, .val (.ref s.heap.size)] [.int (Int32.ofNat len), .ref s.heap.size, .ref a])) := c9.trans (by
      refine XS.astore X8.here hexec rfl (hb hbytes d39) rfl rfl rfl ?_
      refine XS.aloadN X8.here hexec rfl (hb hbytes d41) rfl rfl ?_
      refine XS.aload X8.here hexec rfl (hb hbytes d42) rfl rfl ?_
      refine XS.iloadN X8.here hexec rfl (hb hbytes d44) rfl ?_
      exact Steps.refl _)
    rw [n4]; exact hc
  obtain ⟨v11, T11, X11, E11, g11⟩ := X8.callS hexec (CodL.law l s.heap.size N) hown (wks W (staticW "java/lang/String" 47 CodL.yN)) (wk W CodL.tab) (W := 1) (Nat.le_of_ble_eq_true rfl) (Nat.le_of_ble_eq_true rfl) (Nat.le_refl _) (by show 0 + len + 0 ≤ len; omega) (g := (mkF m 45 #[.val (.ref a), .val (.ref b), .val (.int (Int32.ofNat o)), .val (.int (Int32.ofNat len)), .val .null, .val (.ref s.heap.size)] [.int (Int32.ofNat N.slots.size), .ref s.heap.size, .ref a])) rfl (by rw [hml]; rfl) c10 (argsL := [.ref s.heap.size, .int (Int32.ofNat N.slots.size)]) (rest := [.ref a]) rfl rfl (by show 2 * 0 + (1 + 0) ≤ _; decide) (hb hbytes d45) (⟨rfl, n1⟩)
  obtain ⟨rfl, q11⟩ := E11
  have hB11 := hB1.mv (X8.warmed.alike.symm.trans X11.warmed.alike) q11
  have c12 : Steps p.tables e below (s₁.setTop (entryFrame m #[.ref a, .ref b, .int (Int32.ofNat o), .int (Int32.ofNat len), .null] 6)) (T11.setTop (mkF m 48 #[.val (.ref a), .val (.ref b), .val (.int (Int32.ofNat o)), .val (.int (Int32.ofNat len)), .val .null, .val (.ref s.heap.size)] [.int 0, .ref a])) := g11
  obtain ⟨T13, X13, p13, bl13, sl13, st13⟩ := X11.finit hexec hown (wk W (.fieldLink "java/lang/String" 15 "java/lang/String" "coder" "B")) (Or.inr ⟨_, (wk W (.laysFinal "java/lang/String" "java/lang/String" "coder" "B"))⟩) (Or.inl ⟨rfl, hnm⟩) f2 (Or.inl rfl) hB11 (t := .byte) (by decide +kernel) rfl (g := (mkF m 48 #[.val (.ref a), .val (.ref b), .val (.int (Int32.ofNat o)), .val (.int (Int32.ofNat len)), .val .null, .val (.ref s.heap.size)] [.int 0, .ref a])) rfl (rest := []) rfl (hb hbytes d48)
  have c14 : Steps p.tables e below (s₁.setTop (entryFrame m #[.ref a, .ref b, .int (Int32.ofNat o), .int (Int32.ofNat len), .null] 6)) (T13.setTop (mkF m 54 #[.val (.ref a), .val (.ref b), .val (.int (Int32.ofNat o)), .val (.int (Int32.ofNat len)), .val .null, .val (.ref s.heap.size)] [.ref s.heap.size, .ref a])) := (c12.trans (st13 _ (Steps.refl _))).trans (by
    refine XS.aloadN X13.here hexec rfl (hb hbytes d51) rfl rfl ?_
    refine XS.aload X13.here hexec rfl (hb hbytes d52) rfl rfl ?_
    exact Steps.refl _)
  obtain ⟨T15, X15, p15, bl15, sl15, st15⟩ := X13.finit hexec hown (wk W (.fieldLink "java/lang/String" 9 "java/lang/String" "value" "[B")) (Or.inr ⟨_, (wk W (.laysFinal "java/lang/String" "java/lang/String" "value" "[B"))⟩) (Or.inl ⟨rfl, hnm⟩) f1 (Or.inl rfl) bl13 (t := (.array .byte)) (by decide +kernel) rfl (g := (mkF m 54 #[.val (.ref a), .val (.ref b), .val (.int (Int32.ofNat o)), .val (.int (Int32.ofNat len)), .val .null, .val (.ref s.heap.size)] [.ref s.heap.size, .ref a])) rfl (rest := []) rfl (hb hbytes d54)
  have c16 : Steps p.tables e below (s₁.setTop (entryFrame m #[.ref a, .ref b, .int (Int32.ofNat o), .int (Int32.ofNat len), .null] 6)) (T15.setTop (mkF m 57 #[.val (.ref a), .val (.ref b), .val (.int (Int32.ofNat o)), .val (.int (Int32.ofNat len)), .val .null, .val (.ref s.heap.size)] [])) := c14.trans (st15 _ (Steps.refl _))
  have ap := apart (Or.inr ⟨_, (wk W (.laysFinal "java/lang/String" "java/lang/String" "value" "[B"))⟩) (Or.inr ⟨_, (wk W (.laysFinal "java/lang/String" "java/lang/String" "coder" "B"))⟩) f1 f2 (t₁ := .array .byte) (t₂ := .byte) (by decide +kernel) (by decide +kernel) (by decide)
  have al := X8.warmed.alike.symm.trans X15.warmed.alike
  have n7 : T11.heap[s.heap.size]? = some N := by rw [q11]; exact n1.1
  exact ⟨T15, none, _, _, _, X15, by simp, rfl, by omega, (fun _ => rfl), ⟨rfl, _, N, bl15, ((Same.refl D _).set _ (by simp)).set _ (by simp), sl15, (Cell.slots_setSlot_ne _ ap).trans sl13, n1.keep al (p15.other hne (p13.other hne n7)), n2, by rw [al.findClass]; exact n3, n4, n5, fun y c h1 h2 => p15.other h1 (p13.other h1 (by rw [q11]; exact n6 y c h2)), by rw [p15.2.2, p13.2.2, q11]; exact z8⟩, fun fs hl => c16.trans (X15.returnOut hexec hret (hb hbytes d57) hl)⟩
end New4
namespace New1
def yN : MethodName := ⟨"java/lang/String", "<init>", "([C)V"⟩
abbrev yB : ByteArray := jdk_42_method_3_code
theorem d0 : decode yB 0 = .ok (.aload_n 0, 1) := by decide +kernel
theorem d1 : decode yB 1 = .ok (.aload_n 1, 1) := by decide +kernel
theorem d2 : decode yB 2 = .ok (.iconst 0, 1) := by decide +kernel
theorem d3 : decode yB 3 = .ok (.aload_n 1, 1) := by decide +kernel
theorem d4 : decode yB 4 = .ok (.arraylength, 1) := by decide +kernel
theorem d5 : decode yB 5 = .ok (.aconst_null, 1) := by decide +kernel
theorem d6 : decode yB 6 = .ok (.invokespecial 27, 3) := by decide +kernel
theorem d9 : decode yB 9 = .ok (.return_, 1) := by decide +kernel
def site : List Cond := [New4.tab] ++ initW "java/lang/String" 27 New4.yN
def tab : Cond := tabOf yN yB 2 none site
def P (a : Addr) (D : Cell) (fV fC : Field) (b : Addr) (A : Cell) (z : Int32) (args : Array Value) (s : State) : Prop := args = #[.ref a, .ref b] ∧ Blank "java/lang/String" a D s ∧ Found "java/lang/String" "value" "[B" fV s ∧ Found "java/lang/String" "coder" "B" fC s ∧ Ch b A s ∧ StaticIs s "java/lang/String" "COMPACT_STRINGS" "Z" (.int z) ∧ ¬ z = 0 ∧ 0 < A.slots.size ∧ A.slots.size ≤ 536870912 ∧ ∀ i, i < A.slots.size → ¬ 255 < cv A i
def E (a : Addr) (D : Cell) (fV fC : Field) (A : Cell) (r : Option Value) (s u : State) : Prop := Got a D fV fC A 0 A.slots.size r s u
/-- new String(chars), not empty, no char above 255: a Latin-1 String of their low bytes -/
theorem law (l : Launch) (a : Addr) (D : Cell) (fV fC : Field) (b : Addr) (A : Cell) (z : Int32) : Law l yN 2 1 3 52 yB 2 none site (P a D fV fC b A z) (E a D fV fC A) [⟨a, fC.slot⟩, ⟨a, fV.slot⟩] 1 A.slots.size := by
  refine Law.of_walk (plainFor_of_name (by decide +kernel)) (by decide +kernel) (by decide +kernel) (by decide) (fun _ _ h => by rw [h.1]; rfl) (fun _ U U' hal hh h => ⟨h.1, h.2.1.mv hal hh, h.2.2.1.al hal, h.2.2.2.1.al hal, h.2.2.2.2.1.mv hal hh, h.2.2.2.2.2.1.there hal hh, h.2.2.2.2.2.2⟩) (fun r U U' V V' h1 hal h2 h => Got.mv r U U' V V' h1 hal h2 h) ?_
  intro p e s m args below meth c s₁ X0 hexec hbytes hml hret hlk hnm hown hh0 W hP
  obtain ⟨rfl, hB, f1, f2, hA, s1, hz, l0, l2, hp⟩ := hP
  have c1 : Steps p.tables e below (s₁.setTop (entryFrame m #[.ref a, .ref b] 2)) (s₁.setTop (mkF m 0 #[.val (.ref a), .val (.ref b)] [])) := entry rfl
  have c2 : Steps p.tables e below (s₁.setTop (entryFrame m #[.ref a, .ref b] 2)) (s₁.setTop (mkF m 6 #[.val (.ref a), .val (.ref b)] [.null, .int (Int32.ofNat A.slots.size), .int 0, .ref b, .ref a])) := c1.trans (by
    refine XS.aloadN X0.here hexec rfl (hb hbytes d0) rfl rfl ?_
    refine XS.aloadN X0.here hexec rfl (hb hbytes d1) rfl rfl ?_
    refine iconstV X0.here hexec rfl 0 (hb hbytes d2) (by decide) ?_
    refine XS.aloadN X0.here hexec rfl (hb hbytes d3) rfl rfl ?_
    refine X0.alen hexec (hA.1.mv X0.warmed.alike hh0) rfl rfl (hb hbytes d4) ?_
    refine XS.aconstNull X0.here hexec rfl (hb hbytes d5) ?_
    exact Steps.refl _)
  obtain ⟨v3, T3, X3, E3, g3⟩ := X0.callN hexec (New4.law l a D fV fC b A z 0 A.slots.size) rfl hown (wks W (initW "java/lang/String" 27 New4.yN)) (W New4.tab (by simp only [site, List.mem_cons, List.mem_append, true_or, or_true])) (W := 0) (Nat.le_of_ble_eq_true rfl) (Nat.le_of_ble_eq_true rfl) (Nat.le_refl _) (by show 0 + A.slots.size ≤ A.slots.size; omega) (g := (mkF m 6 #[.val (.ref a), .val (.ref b)] [.null, .int (Int32.ofNat A.slots.size), .int (Int32.ofNat 0), .ref b, .ref a])) rfl (by rw [hml]; rfl) c2 (argsL := [.ref b, .int (Int32.ofNat 0), .int (Int32.ofNat A.slots.size), .null]) (rest := []) rfl rfl (by show 2 * 0 + 0 ≤ _; decide) (hb hbytes d6) (⟨rfl, hB.mv X0.warmed.alike hh0, f1.al X0.warmed.alike, f2.al X0.warmed.alike, hA.mv X0.warmed.alike hh0, s1.there X0.warmed.alike hh0, hz, l0, by omega, l2, fun i hi => by rw [Nat.zero_add]; exact hp i hi⟩)
  have e0 := Got.mv _ s₁ s _ _ hh0.symm (Vm.Alike.refl _) rfl E3
  obtain rfl := e0.1
  have c4 : Steps p.tables e below (s₁.setTop (entryFrame m #[.ref a, .ref b] 2)) (T3.setTop (mkF m 9 #[.val (.ref a), .val (.ref b)] [])) := g3
  exact ⟨T3, none, _, _, _, X3, by simp, rfl, by omega, (fun _ => rfl), e0, fun fs hl => c4.trans (X3.returnOut hexec hret (hb hbytes d9) hl)⟩
theorem pays {l : Launch} {R : Room} {p : Program} {e : Env} {below : List Frame} {s : State} {sargs : Array Value} {len W : Nat} (a : Addr) (D : Cell) (fV fC : Field) (b : Addr) (A : Cell) (z : Int32) (htab : tab.before sargs s = true) (hfr : 4 ≤ R.frames) (hlo : W + 65 ≤ R.locals) :
    Back l R p e below s sargs yN len W (fun A₁ a₁ => A₁.cells + 1 ≤ R.cells ∧ A₁.slots + A.slots.size ≤ R.slots ∧ P a D fV fC b A z a₁ A₁.U) (fun A₁ _ v₁ B₁ => E a D fV fC A v₁ A₁.U B₁.U ∧ B₁.locs = A₁.locs ++ [⟨a, fC.slot⟩, ⟨a, fV.slot⟩] ∧ B₁.cells = A₁.cells + 1 ∧ B₁.slots = A₁.slots + A.slots.size) :=
  (law l a D fV fC b A z).pays htab hfr (by omega)
end New1
/-- the byte, read back as charAt reads it, is the char -/
theorem lo8_mask {x : Int32} (h0 : ¬ x < 0) (h1 : ¬ 255 < x) : lo8 x &&& 255 = x := by
  have t : ∀ k : Fin 256, lo8 (Int32.ofNat k.val) &&& 255 = Int32.ofNat k.val := by decide +kernel
  rw [Int32.lt_iff_toInt_lt] at h0 h1
  have e0 : (0 : Int32).toInt = 0 := rfl
  have e1 : (255 : Int32).toInt = 255 := rfl
  obtain ⟨k, hk⟩ : ∃ k : Nat, x.toInt = k := ⟨x.toInt.toNat, by omega⟩
  have hx : x = Int32.ofNat k := Int32.toInt_inj.mp (by rw [hk, Int32.toInt_ofNat_small (by omega)])
  rw [hx]
  exact t ⟨k, by omega⟩
end StrChars
namespace StrChars.Road
open Jvm Sem ClassFile Op Lib Jvm.Stand Jvm.Free Jvm.Free.XT
open Jvm.Lib.Cold (StaticIs)
abbrev ST : String := "java/lang/String"
/-- every table word that New1's law asks, flat -/
abbrev words : List Jvm.Cond := [.code New1.yN New1.yB 2 none, .initialized ST, .methodLink ST 27 New4.yN, .instanceMethod New4.yN,
  .code New4.yN New4.yB 6 none, .fieldLink ST 38 ST "COMPACT_STRINGS" "Z", .laysFinal ST ST "value" "[B", .fieldLink ST 9 ST "value" "[B", .laysFinal ST ST "coder" "B", .fieldLink ST 15 ST "coder" "B",
  .methodLink ST 1 Lib.objectInit, .instanceMethod Lib.objectInit, .code Lib.objectInit ⟨#[0xb1]⟩ 1 none, .methodLink ST 177 Cmp3.yN, .static Cmp3.yN, .methodLink ST 47 CodL.yN, .static CodL.yN,
  .code Cmp3.yN Cmp3.yB 6 (some (.array .byte)), .initialized U16, .arrayClass .byte, .methodLink U16 115 Cmp5.yN, .static Cmp5.yN, .code Cmp5.yN Cmp5.yB 7 (some .int), .code CodL.yN CodL.yB 2 (some .byte)]
theorem tab_of {a : Array Value} {s : State} (h : ∀ w ∈ words, w.before a s = true) : New1.tab.before a s = true := by
  have h5 : Cmp5.tab.before a s = true := unparts (wk h (.code Cmp5.yN Cmp5.yB 7 (some .int))) (wks h (.initialized Cmp5.yN.cls :: Cmp5.site))
  have hc : CodL.tab.before a s = true := unparts (wk h (.code CodL.yN CodL.yB 2 (some .byte))) (wks h (.initialized CodL.yN.cls :: CodL.site))
  have q5 : ∀ w ∈ Cmp5.tab :: words, w.before a s = true := fun w hw => (List.mem_cons.mp hw).elim (fun e => e ▸ h5) (h w)
  have h3 : Cmp3.tab.before a s = true := unparts (wk q5 (.code Cmp3.yN Cmp3.yB 6 (some (.array .byte)))) (wks q5 (.initialized Cmp3.yN.cls :: Cmp3.site))
  have q3 : ∀ w ∈ Cmp3.tab :: CodL.tab :: words, w.before a s = true := fun w hw => (List.mem_cons.mp hw).elim (fun e => e ▸ h3) fun hw => (List.mem_cons.mp hw).elim (fun e => e ▸ hc) (h w)
  have h4 : New4.tab.before a s = true := unparts (wk q3 (.code New4.yN New4.yB 6 none)) (wks q3 (.initialized New4.yN.cls :: New4.site))
  have q4 : ∀ w ∈ New4.tab :: words, w.before a s = true := fun w hw => (List.mem_cons.mp hw).elim (fun e => e ▸ h4) (h w)
  exact unparts (wk q4 (.code New1.yN New1.yB 2 none)) (wks q4 (.initialized New1.yN.cls :: New1.site))
/-- the words ride from the start Z to the walk's own state -/
theorem moved {Z s : State} {a0 args : Array Value} (hZ : Z.Warmed39 s.vm) (hw : ∀ d ∈ words, d.before a0 Z = true) : ∀ d ∈ words, d.before args s = true := fun d hd => by
  have q := hw d hd
  have t : ∀ d ∈ words, d = .arrayClass .byte ∨ (d.onTables && d.keepsFace) = true := by decide +kernel
  rcases t d hd with rfl | t
  · exact RoadKit.mvA hZ q
  · exact RoadKit.mv hZ q t
/-- WHAT COMES BACK, over the tables of the start Z: h the heap at the call, h' behind it -/
def Q (Z : State) (x : Addr) (A : Cell) (h : Heap) (v : Option Value) (h' : Heap) (L : List Loc) : Prop := v = none ∧ (∀ y ∈ L, y.base = x) ∧ RoadKit.Keep h h' [x] ∧ h'.size = h.size + 1 ∧ RoadKit.Exa Z h' x ST ∧ RoadKit.Fld Z h' x ST "value" "[B" (.ref h.size) ∧ RoadKit.Fld Z h' x ST "coder" "B" (.int 0) ∧
  (∃ V : Cell, RoadKit.Arr Z h' h.size V .byte ∧ V.vm = .none ∧ Z.vm.findClass "[B" = some V.cls ∧ V.slots.size = A.slots.size ∧ ∀ j, j < A.slots.size → V.slots[j]? = some (.int (lo8 (cv A j)))) ∧
  ∀ (O n d : String) (w : Value), RoadKit.Fld Z h x O n d w → RoadKit.slotOf Z O n d ≠ RoadKit.slotOf Z ST "value" "[B" → RoadKit.slotOf Z O n d ≠ RoadKit.slotOf Z ST "coder" "B" → RoadKit.Fld Z h' x O n d w
/-- **new String(chars) AT A CALL, IN THE ROAD'S FORM**: for specialBack behind newO: x the fresh String, b the char[] with the cell A -/
theorem back {p : Program} {l : Launch} {e : Env} {R : Room} {s : State} {args : Array Value} {below : List Frame} {len W : Nat} {Z : State} {a0 : Array Value} {h : Heap} (hZ : Z.Warmed39 s.vm) (hw : ∀ d ∈ words, d.before a0 Z = true) {kI : Nat} (wi : (Jvm.Cond.instantiable ST kI).before a0 Z = true)
    {x b : Addr} {A : Cell} {z : Int32} {v0 c0 : Value} (E : RoadKit.Exa Z h x ST) (V : RoadKit.Fld Z h x ST "value" "[B" v0) (C : RoadKit.Fld Z h x ST "coder" "B" c0) (K : RoadKit.Arr Z h b A .char) (hty : Typed .char A) (S : RoadKit.Sta Z h ST "COMPACT_STRINGS" "Z" (.int z)) (hz : ¬ z = 0)
    (l0 : 0 < A.slots.size) (l2 : A.slots.size ≤ 536870912) (hp : ∀ i, i < A.slots.size → ¬ 255 < cv A i) (hfr : 4 ≤ R.frames) (hlo : W + 65 ≤ R.locals) :
    Back l R p e below s args New1.yN len W (fun P a => a = #[.ref x, .ref b] ∧ P.U.heap = h ∧ P.cells + 1 ≤ R.cells ∧ P.slots + A.slots.size ≤ R.slots)
      (fun P _ v B => ∃ L, Q Z x A h v B.U.heap L ∧ B.locs = P.locs ++ L ∧ B.cells = P.cells + 1 ∧ B.slots = P.slots + A.slots.size) := by
  intro m meth c P g ig mk a X hg hsize hdg hW hn hp'
  obtain ⟨rfl, rfl, r1, r2⟩ := hp'
  have al : Z.vm.Alike P.U.vm := hZ.alike.trans X.warmed.alike
  obtain ⟨D, cfV, kV, iV, fV, hD, gV, stV, knV, obV, asV, slV⟩ := id V
  obtain ⟨D', cfC, kC, iC, fC, hD', gC, stC, -, -, asC, slC⟩ := id C
  cases hD.symm.trans hD'
  obtain ⟨D2, kD, e1, e2, e3, e4, e5⟩ := id E
  cases hD.symm.trans e1
  obtain ⟨c2, k2, i1, i2, i3, -⟩ := Cond.instantiable_spec wi
  cases e2.symm.trans i1
  cases e3.symm.trans i2
  obtain ⟨kU, u1, u2⟩ := al.2.2 _ _ e3
  have hB : Blank ST x D P.U := ⟨hD, ⟨knV, fun q hq => by rw [hq] at obV; cases obV⟩, by rw [al.findClass]; exact e2, kU, u1, by rw [u2]; exact i3, by rw [u2]; exact e5 i3⟩
  have F1 : Found ST "value" "[B" fV P.U := ⟨SBG.found_only al ⟨cfV, kV, iV, gV⟩, stV⟩
  have F2 : Found ST "coder" "B" fC P.U := ⟨SBG.found_only al ⟨cfC, kC, iC, gC⟩, stC⟩
  have hA : Ch b A P.U := ⟨⟨K.1, State.isArrayOf_alike al K.2.1, K.2.2, by omega⟩, hty⟩
  have hS : StaticIs P.U ST "COMPACT_STRINGS" "Z" (.int z) := by
    obtain ⟨cfS, iS, kS, fS, st, cS, t1, t2, t3, t4, t5, t6, t7⟩ := S
    exact StaticIs.there (s := { Z with heap := P.U.heap }) ⟨cfS, iS, kS, fS, st, cS, t1, t2, t3, t4, t5, (fun q => by rw [q] at t6; cases t6), t7⟩ al rfl
  obtain ⟨v, B, X', ⟨⟨hv, E', V', q1, q2, q3, q4, q5, q6, q7, q8, q9, q10, q11⟩, hl, hc, hs⟩, st⟩ := New1.pays x D fV fC b A z (tab_of (moved hZ hw)) hfr hlo m meth c P g ig mk _ X hg hsize hdg hW hn ⟨r1, r2, rfl, hB, F1, F2, hA, hS, hz, l0, l2, hp⟩
  have al' : Z.vm.Alike B.U.vm := hZ.alike.trans X'.warmed.alike
  have hsz : E'.slots.size = D.slots.size := by
    obtain ⟨-, -, -, kB, w1, w2, w3⟩ := q1
    obtain ⟨kB', y1, y2⟩ := al'.2.2 _ _ e3
    rw [q2.2.1] at w1
    cases w1.symm.trans y1
    rw [w3, e5 i3, y2]
  refine ⟨v, B, X', ⟨_, ⟨hv, ?_, ⟨by omega, fun y cy hy hn' => q10 y cy (by simpa using hn') hy, fun y cy hy => ?_⟩, q11, ⟨E', _, q1.1, by rw [q2.2.1]; exact e2, by rw [q2.2.1]; exact e3, by rw [q2.1]; exact obV, fun _ => by rw [hsz]; exact e5 i3⟩,
    ⟨E', cfV, kV, iV, fV, q1.1, gV, stV, by rw [q2.1]; exact knV, by rw [q2.1]; exact obV, by rw [q2.2.1]; exact asV, q3⟩, ⟨E', cfC, kC, iC, fC, q1.1, gC, stC, by rw [q2.1]; exact knV, by rw [q2.1]; exact obV, by rw [q2.2.1]; exact asC, q4⟩,
    ⟨V', ⟨q5.1, State.isArrayOf_alike al'.symm q5.2.1, q5.2.2.1⟩, q6, by rw [← al'.findClass]; exact q7, q8, fun j hj => by have := q9 j hj; rwa [Nat.zero_add] at this⟩, fun O n d w F n1 n2 => ?_⟩, hl, hc, hs⟩, st⟩
  · intro y hy
    simp only [List.mem_cons, List.not_mem_nil, or_false] at hy
    rcases hy with rfl | rfl <;> rfl
  · by_cases q : y = x
    · subst q
      cases hD.symm.trans hy
      exact ⟨E', q1.1, q2.2.1, q2.1, hsz⟩
    · exact ⟨cy, q10 y cy q hy, rfl, rfl, rfl⟩
  · obtain ⟨D3, cf, k, i, f, g1, g2, g3, g4, g5, g6, g7⟩ := F
    cases hD.symm.trans g1
    simp only [RoadKit.slotOf, g2, gV, gC, Option.map_some, Option.getD_some] at n1 n2
    exact ⟨E', cf, k, i, f, q1.1, g2, g3, by rw [q2.1]; exact g4, by rw [q2.1]; exact g5, by rw [q2.2.1]; exact g6, by rw [q2.2.2 f.slot (by simp [n1, n2])]; exact g7⟩
end StrChars.Road
namespace StrChars.Road
open Jvm Sem ClassFile Op Lib Jvm.Stand Jvm.Free Jvm.Free.XT
/-- WHAT COMES BACK, the byte[] as a list of values -/
def QA (Z : State) (x : Addr) (zn : Int32) (cs : List Int32) (h : Heap) (v : Option Value) (h' : Heap) (L : List Loc) : Prop := v = none ∧ (∀ y ∈ L, y.base = x) ∧ RoadKit.Keep h h' [x] ∧ h'.size = h.size + 1 ∧ RoadKit.Exa Z h' x ST ∧ RoadKit.Fld Z h' x ST "value" "[B" (.ref h.size) ∧ RoadKit.Fld Z h' x ST "coder" "B" (.int 0) ∧
  (∃ kb, Z.vm.findClass "[B" = some kb ∧ RoadKit.Arv Z h' h.size kb .byte zn (cs.map fun c => .int (lo8 c)) (.int 0)) ∧
  ∀ (O n d : String) (w : Value), RoadKit.Fld Z h x O n d w → RoadKit.slotOf Z O n d ≠ RoadKit.slotOf Z ST "value" "[B" → RoadKit.slotOf Z O n d ≠ RoadKit.slotOf Z ST "coder" "B" → RoadKit.Fld Z h' x O n d w
/-- **new String(chars) AT A CALL, THE ARRAYS AS LISTS**: the char[] at b holds cs, not empty, no char above 255 -/
theorem backArv {p : Program} {l : Launch} {e : Env} {R : Room} {s : State} {args : Array Value} {below : List Frame} {len W : Nat} {Z : State} {a0 : Array Value} {h : Heap} (hZ : Z.Warmed39 s.vm) (hw : ∀ d ∈ words, d.before a0 Z = true) {kI : Nat} (wi : (Jvm.Cond.instantiable ST kI).before a0 Z = true)
    {x b : Addr} {k : ClassId} {zn z : Int32} {cs : List Int32} {dv v0 c0 : Value} (E : RoadKit.Exa Z h x ST) (V : RoadKit.Fld Z h x ST "value" "[B" v0) (C : RoadKit.Fld Z h x ST "coder" "B" c0) (K : RoadKit.Arv Z h b k .char zn (cs.map Value.int) dv) (S : RoadKit.Sta Z h ST "COMPACT_STRINGS" "Z" (.int z)) (hz : ¬ z = 0)
    (hlen : zn.toNatClampNeg = cs.length) (h0 : 0 < cs.length) (hbig : cs.length ≤ 536870912) (hall : ∀ c ∈ cs, ¬ 255 < c) (hfr : 4 ≤ R.frames) (hlo : W + 65 ≤ R.locals) :
    Back l R p e below s args New1.yN len W (fun P a => a = #[.ref x, .ref b] ∧ P.U.heap = h ∧ P.cells + 1 ≤ R.cells ∧ P.slots + cs.length ≤ R.slots)
      (fun P _ v B => ∃ L, QA Z x zn cs h v B.U.heap L ∧ B.locs = P.locs ++ L ∧ B.cells = P.cells + 1 ∧ B.slots = P.slots + cs.length) := by
  obtain ⟨A, K1, K2, K3, K4, K5, K6⟩ := K
  have e : A.slots.size = cs.length := K3.trans hlen
  have hat : ∀ (i : Nat) (hi : i < cs.length), A.slots[i]? = some (.int cs[i]) := fun i hi => by rw [K5 i (by omega)]; simp [List.getD_eq_getElem?_getD, hi]
  have hcv : ∀ (i : Nat) (hi : i < cs.length), cv A i = cs[i] := fun i hi => by unfold cv; rw [hat i hi]
  have hty : Typed .char A := fun i v hv => by
    have hi : i < A.slots.size := (Array.getElem?_eq_some_iff.mp hv).1
    have q := K5 i hi
    rw [hv] at q
    rw [Option.some.inj q]
    exact K6 i hi
  refine Back.mono (back hZ hw wi E V C K1 hty S hz (by omega) (by omega) (fun i hi => by rw [hcv i (by omega)]; exact hall _ (List.getElem_mem _)) hfr hlo) (fun P a hp => ⟨hp.1, hp.2.1, hp.2.2.1, by rw [e]; exact hp.2.2.2⟩) (fun P a v B hp hq => ?_)
  obtain ⟨L, ⟨q1, q2, q3, q4, q5, q6, q7, ⟨V', v1, v2, v3, v4, v5⟩, q9⟩, hl, hc, hs⟩ := hq
  refine ⟨L, ⟨q1, q2, q3, q4, q5, q6, q7, ⟨V'.cls, v3, V', v1, rfl, by rw [v4, e, hlen], K4, fun i hi => ?_, fun i hi => ?_⟩, q9⟩, hl, hc, by rw [hs, e]⟩
  · have hi' : i < cs.length := by omega
    rw [v5 i (by omega), hcv i hi']; simp [List.getD_eq_getElem?_getD, hi']
  · have hi' : i < cs.length := by omega
    simp only [List.getD_eq_getElem?_getD, List.getElem?_map, List.getElem?_eq_getElem hi', Option.map_some, Option.getD_some]
    exact fits_lo8 _
end StrChars.Road
namespace StrChars.Road
open Jvm Sem ClassFile Op Lib Jvm.Stand Jvm.Free Jvm.Free.XT
/-- WHAT COMES BACK, in the writer's own shape -/
def QV (Z : State) (x : Addr) (N : Int32) (bs : List Int32) (h : Heap) (n0 : Nat) (v : Option Value) (h' : Heap) (L : List Loc) : Prop := v = none ∧ RoadKit.Fr n0 L ∧ RoadKit.Keep h h' [x] ∧ RoadKit.Exa Z h' x ST ∧ RoadKit.Fld Z h' x ST "coder" "B" (.int 0) ∧
  ∃ (t : Addr) (kb : ClassId), n0 ≤ t ∧ h.size ≤ t ∧ ¬ t = x ∧ RoadKit.Fld Z h' x ST "value" "[B" (.ref t) ∧ RoadKit.Arv Z h' t kb .byte N (bs.map Value.int) (.int 0)
/-- **new String(chars) AT A CALL, FOR THE WRITER**: a char[] of n known ints, each 0 to 255 -/
theorem backV {p : Program} {l : Launch} {e : Env} {R : Room} {s : State} {args : Array Value} {below : List Frame} {len W : Nat} {Z : State} {a0 : Array Value} {h : Heap} (hZ : Z.Warmed39 s.vm) (hw : ∀ d ∈ words, d.before a0 Z = true) {kI : Nat} (wi : (Jvm.Cond.instantiable ST kI).before a0 Z = true)
    {x b : Addr} {kC : ClassId} {cs bs : List Int32} {d v0 c0 : Value} {z N : Int32} {n n0 : Nat} (hx0 : n0 ≤ x) (hh0 : n0 ≤ h.size) (E : RoadKit.Exa Z h x ST) (V : RoadKit.Fld Z h x ST "value" "[B" v0) (C : RoadKit.Fld Z h x ST "coder" "B" c0) (K : RoadKit.Arv Z h b kC .char N (cs.map Value.int) d) (S : RoadKit.Sta Z h ST "COMPACT_STRINGS" "Z" (.int z)) (hz : ¬ z = 0)
    (hn : cs.length = n) (hN : N = Int32.ofNat n) (l0 : 0 < n) (l2 : n ≤ 4000) (hp : ∀ c ∈ cs, ¬ c < 0 ∧ ¬ (255 : Int32) < c) (hb : bs = cs.map (fun c => c.toInt8.toInt32)) (hfr : 4 ≤ R.frames) (hlo : W + 65 ≤ R.locals) :
    Back l R p e below s args (⟨"java/lang/String", "<init>", "([C)V"⟩ : MethodName) len W (fun P a => a = #[.ref x, .ref b] ∧ P.U.heap = h ∧ P.cells + 1 ≤ R.cells ∧ P.slots + n ≤ R.slots)
      (fun P _ v B => ∃ L, QV Z x N bs h n0 v B.U.heap L ∧ B.locs = P.locs ++ L ∧ B.cells = P.cells + 1 ∧ B.slots = P.slots + n) := by
  subst hn hN hb
  refine Back.mono (backArv hZ hw wi E V C K S hz (n32 (by omega)) l0 (by omega) (fun c hc => (hp c hc).2) hfr hlo) (fun P a hp => hp) (fun P a v B hp hq => ?_)
  obtain ⟨L, ⟨q1, q2, q3, q4, q5, q6, q7, ⟨kb, v1, v2⟩, q9⟩, hl, hc, hs⟩ := hq
  exact ⟨L, ⟨q1, fun y hy => by rw [q2 y hy]; exact hx0, q3, q5, q7, h.size, kb, hh0, Nat.le_refl _, Nat.ne_of_gt E.lt, q6, by rw [List.map_map]; exact v2⟩, hl, hc, hs⟩
end StrChars.Road
namespace StrChars
open Jvm Sem ClassFile Op Lib Jvm.Stand Jvm.Free.XT Jvm.Free.ALB Jvm.Free.JM Jvm.Free
open Jvm.Lib.Cold (StaticIs)
def hi8 (x : Int32) : Int32 := lo8 (x >>> ((8 : Int32) &&& 31))
/-- what StringUTF16.getChar makes of two bytes -/
def pairCh (u v : Int32) : Int32 := (((u &&& 255) <<< ((0 : Int32) &&& 31)) ||| ((v &&& 255) <<< ((8 : Int32) &&& 31))).toUInt32.toUInt16.toUInt32.toInt32
theorem lo8_and (x : Int32) : (lo8 x &&& 255).toBitVec.toNat = x.toBitVec.toNat % 256 := by
  have h : (lo8 x).toBitVec = (x.toBitVec.signExtend 8).signExtend 32 := by rw [lo8, Int8.toBitVec_toInt32, Int32.toBitVec_toInt8]
  rw [Int32.toBitVec_and, BitVec.toNat_and, h]
  have e : ((x.toBitVec.signExtend 8).signExtend 32).toNat % 256 = x.toBitVec.toNat % 256 := by
    rw [BitVec.toNat_signExtend]
    have hlt := x.toBitVec.isLt
    simp only [BitVec.toNat_setWidth, BitVec.toNat_signExtend]
    split <;> split <;> omega
  rw [← e]
  exact Nat.and_two_pow_sub_one_eq_mod _ 8
theorem pair_says {c : Int32} (h0 : ¬ c < 0) (h1 : ¬ 65535 < c) : pairCh (lo8 c) (hi8 c) = c := by
  rw [Int32.lt_iff_toInt_lt] at h0 h1
  have e0 : (0 : Int32).toInt = 0 := rfl
  have e1 : (65535 : Int32).toInt = 65535 := rfl
  have hc : c.toInt = c.toBitVec.toNat := by
    have := c.toBitVec.isLt
    have e : c.toInt = c.toBitVec.toInt := rfl
    rw [e] at h0 h1
    rw [e]
    rw [BitVec.toInt_eq_toNat_cond] at h0 h1 ⊢
    split at h0 <;> split <;> omega
  have hn : c.toBitVec.toNat < 65536 := by omega
  have a1 := lo8_and c
  have a2 : (hi8 c &&& 255).toBitVec.toNat = c.toBitVec.toNat / 256 := by
    rw [hi8, lo8_and]
    have e : ((8 : Int32) &&& 31) = 8 := by decide
    rw [e, Int32.toBitVec_shiftRight]
    have e2 : ((8 : Int32).toBitVec.smod 32) = 8#32 := by decide
    rw [e2, BitVec.sshiftRight_eq', BitVec.toNat_sshiftRight_of_msb_false (by rw [BitVec.msb_eq_false_iff_two_mul_lt]; omega)]
    show c.toBitVec.toNat >>> 8 % 256 = _
    rw [Nat.shiftRight_eq_div_pow]
    omega
  unfold pairCh
  apply Int32.toBitVec_inj.mp
  apply BitVec.eq_of_toNat_eq
  have f0 : ((0 : Int32) &&& 31) = 0 := by decide
  have f8 : ((8 : Int32) &&& 31) = 8 := by decide
  rw [f0, f8]
  have g : (((lo8 c &&& 255) <<< (0 : Int32)) ||| ((hi8 c &&& 255) <<< (8 : Int32))).toBitVec.toNat = c.toBitVec.toNat := by
    rw [Int32.toBitVec_or, Int32.toBitVec_shiftLeft, Int32.toBitVec_shiftLeft]
    have s0 : ((0 : Int32).toBitVec.smod 32) = 0#32 := by decide
    have s8 : ((8 : Int32).toBitVec.smod 32) = 8#32 := by decide
    rw [s0, s8, BitVec.toNat_or]
    simp only [BitVec.shiftLeft_eq', BitVec.toNat_shiftLeft, a1, a2]
    show (c.toBitVec.toNat % 256) <<< 0 % 2 ^ 32 ||| (c.toBitVec.toNat / 256) <<< 8 % 2 ^ 32 = _
    rw [Nat.shiftLeft_zero, Nat.mod_eq_of_lt (show c.toBitVec.toNat % 256 < 2 ^ 32 by omega), Nat.mod_eq_of_lt (show (c.toBitVec.toNat / 256) <<< 8 < 2 ^ 32 by rw [Nat.shiftLeft_eq]; omega), Nat.or_comm, ← Nat.shiftLeft_add_eq_or_of_lt (by omega), Nat.shiftLeft_eq]
    omega
  show BitVec.toNat (((((lo8 c &&& 255) <<< (0 : Int32)) ||| ((hi8 c &&& 255) <<< (8 : Int32))).toBitVec.setWidth 16).setWidth 32) = _
  rw [BitVec.toNat_setWidth, BitVec.toNat_setWidth, g]
  omega
end StrChars
namespace StrChars
open Jvm Sem ClassFile Op Lib Jvm.Stand Jvm.Free.XT Jvm.Free.ALB Jvm.Free.JM Jvm.Free
open Jvm.Lib.Cold (StaticIs)
/-- the array's cell V codes the n chars f 0 .. f (n - 1) by the coder cd, as the JDK does: coder 1 just where some char is above 255 -/
def Cod (cd : Int32) (n : Nat) (f : Nat → Int32) (V : Cell) : Prop := (cd = 0 ∧ V.slots.size = n ∧ ∀ j, j < n → V.slots[j]? = some (.int (lo8 (f j))) ∧ ¬ 255 < f j) ∨ (cd = 1 ∧ V.slots.size = 2 * n ∧ (∀ j, j < n → V.slots[2 * j]? = some (.int (lo8 (f j))) ∧ V.slots[2 * j + 1]? = some (.int (hi8 (f j)))) ∧ ∃ j, j < n ∧ 255 < f j)
/-- **x is a String of the n chars f 0 .. f (n - 1)**, Latin-1 or UTF-16; its array at t has the cell V -/
def Txt (x t : Addr) (V : Cell) (cd : Int32) (n : Nat) (f : Nat → Int32) (U : State) : Prop := Exact "java/lang/String" x U ∧ Has x "java/lang/String" "value" "[B" (.ref t) U ∧ Has x "java/lang/String" "coder" "B" (.int cd) U ∧ XT.Arr .byte t V U ∧ Cod cd n f V ∧ ∀ j, j < n → ¬ f j < 0 ∧ ¬ 65535 < f j
theorem Txt.mv {x t : Addr} {V : Cell} {cd : Int32} {n : Nat} {f : Nat → Int32} {U U' : State} (h : Txt x t V cd n f U) (hal : U.vm.Alike U'.vm) (hh : U'.heap = U.heap) : Txt x t V cd n f U' := ⟨h.1.mv hal hh, h.2.1.mv hal hh, h.2.2.1.mv hal hh, h.2.2.2.1.mv hal hh, h.2.2.2.2⟩
end StrChars
namespace StrChars.Road
open Jvm Sem ClassFile Op Lib Jvm.Stand Jvm.Free Jvm.Free.XT
open Jvm.Lib.Cold (StaticIs)
theorem consq {a : Array Value} {s : State} {c : Jvm.Cond} {L : List Jvm.Cond} (h0 : c.before a s = true) (h : ∀ w ∈ L, w.before a s = true) : ∀ w ∈ c :: L, w.before a s = true := fun w hw => (List.mem_cons.mp hw).elim (fun e => e ▸ h0) (h w)
/-- the bytes of the chars cs, low before high -/
def wideBytes : List Int32 → List Value
  | [] => []
  | c :: cs => .int (lo8 c) :: .int (hi8 c) :: wideBytes cs
theorem wide_lo (d : Value) : ∀ (cs : List Int32) (j : Nat), j < cs.length → (wideBytes cs).getD (2 * j) d = .int (lo8 (cs.getD j 0))
  | [], j, h => absurd h (Nat.not_lt_zero j)
  | c :: cs, 0, _ => rfl
  | c :: cs, j + 1, h => by
    have q := wide_lo d cs j (by simpa using h)
    rw [show 2 * (j + 1) = 2 * j + 1 + 1 from by omega]
    simpa [wideBytes] using q
theorem wide_hi (d : Value) : ∀ (cs : List Int32) (j : Nat), j < cs.length → (wideBytes cs).getD (2 * j + 1) d = .int (hi8 (cs.getD j 0))
  | [], j, h => absurd h (Nat.not_lt_zero j)
  | c :: cs, 0, _ => rfl
  | c :: cs, j + 1, h => by
    have q := wide_hi d cs j (by simpa using h)
    rw [show 2 * (j + 1) + 1 = 2 * j + 1 + 1 + 1 from by omega]
    simpa [wideBytes] using q
theorem low_at (d : Value) (cs : List Int32) (j : Nat) (h : j < cs.length) : (cs.map fun c => Value.int (lo8 c)).getD j d = .int (lo8 (cs.getD j 0)) := by
  simp [List.getD_eq_getElem?_getD, h]
/-- an array of N2 bytes vs codes the chars cs by the coder cd -/
def CodA (cs : List Int32) (cd N2 : Int32) (vs : List Value) : Prop := (cd = 0 ∧ N2 = Int32.ofNat cs.length ∧ vs = (cs.map fun c => Value.int (lo8 c)) ∧ ∀ c ∈ cs, ¬ 255 < c) ∨ (cd = 1 ∧ N2 = Int32.ofNat (2 * cs.length) ∧ vs = wideBytes cs ∧ ∃ c ∈ cs, 255 < c)
theorem CodA.cod {cs : List Int32} {cd N2 : Int32} {vs : List Value} {V : Cell} (h : CodA cs cd N2 vs) (hn : 2 * cs.length < 2 ^ 31) (hs : V.slots.size = N2.toNatClampNeg) (hv : RoadKit.Has V vs (.int 0)) : Cod cd cs.length (fun j => cs.getD j 0) V := by
  rcases h with ⟨rfl, rfl, rfl, h⟩ | ⟨rfl, rfl, rfl, c, hc, hw⟩
  · rw [n32 (by omega)] at hs
    exact Or.inl ⟨rfl, hs, fun j hj => ⟨by rw [hv j (by omega), low_at _ _ _ hj], by
      have e : cs.getD j 0 = cs[j] := by simp [List.getD_eq_getElem?_getD, hj]
      show ¬ 255 < cs.getD j 0
      rw [e]; exact h _ (List.getElem_mem _)⟩⟩
  · rw [n32 (by omega)] at hs
    obtain ⟨j, hj, rfl⟩ := List.getElem_of_mem hc
    exact Or.inr ⟨rfl, hs, fun j hj => ⟨by rw [hv _ (by omega), wide_lo _ _ _ hj], by rw [hv _ (by omega), wide_hi _ _ _ hj]⟩, j, hj, by
      have e : cs.getD j 0 = cs[j] := by simp [List.getD_eq_getElem?_getD, hj]
      show 255 < cs.getD j 0
      rw [e]; exact hw⟩
/-- an object of exactly java/lang/String, its two fields found: as the laws ask it -/
theorem strObj {Z U : State} {a0 : Array Value} {kI : Nat} (wi : (Jvm.Cond.instantiable ST kI).before a0 Z = true) (al : Z.vm.Alike U.vm) {x : Addr} {v0 c0 : Value} (E : RoadKit.Exa Z U.heap x ST) (V : RoadKit.Fld Z U.heap x ST "value" "[B" v0) (C : RoadKit.Fld Z U.heap x ST "coder" "B" c0) :
    ∃ (D : Cell) (fV fC : Field), Blank ST x D U ∧ Found ST "value" "[B" fV U ∧ Found ST "coder" "B" fC U ∧ D.slots[fV.slot]? = some v0 ∧ D.slots[fC.slot]? = some c0 ∧ RoadKit.slotOf Z ST "value" "[B" = fV.slot ∧ RoadKit.slotOf Z ST "coder" "B" = fC.slot := by
  obtain ⟨D, cfV, kV, iV, fV, hD, gV, stV, knV, obV, asV, slV⟩ := V
  obtain ⟨D', cfC, kC, iC, fC, hD', gC, stC, -, -, asC, slC⟩ := C
  cases hD.symm.trans hD'
  obtain ⟨D2, kD, e1, e2, e3, e4, e5⟩ := E
  cases hD.symm.trans e1
  obtain ⟨c2, k2, i1, i2, i3, -⟩ := Cond.instantiable_spec wi
  cases e2.symm.trans i1
  cases e3.symm.trans i2
  obtain ⟨kU, u1, u2⟩ := al.2.2 _ _ e3
  exact ⟨D, fV, fC, ⟨hD, ⟨knV, fun q hq => by rw [hq] at obV; cases obV⟩, by rw [al.findClass]; exact e2, kU, u1, by rw [u2]; exact i3, by rw [u2]; exact e5 i3⟩, ⟨SBG.found_only al ⟨cfV, kV, iV, gV⟩, stV⟩, ⟨SBG.found_only al ⟨cfC, kC, iC, gC⟩, stC⟩, slV, slC, by simp [RoadKit.slotOf, gV], by simp [RoadKit.slotOf, gC]⟩
theorem sta_is {Z U : State} (al : Z.vm.Alike U.vm) {C n d : String} {v : Value} (S : RoadKit.Sta Z U.heap C n d v) : StaticIs U C n d v := by
  obtain ⟨cfS, iS, kS, fS, st, cS, t1, t2, t3, t4, t5, t6, t7⟩ := S
  exact StaticIs.there (s := { Z with heap := U.heap }) ⟨cfS, iS, kS, fS, st, cS, t1, t2, t3, t4, t5, (fun q => by rw [q] at t6; cases t6), t7⟩ al rfl
end StrChars.Road
namespace StrChars
open Jvm Sem ClassFile Op Lib Jvm.Stand Jvm.Free.XT Jvm.Free.ALB Jvm.Free.JM Jvm.Free
open Jvm.Lib.Cold (StaticIs)
/-- what place i of a byte[]'s cell holds -/
def yv (A : Cell) (i : Nat) : Int32 := match A.slots[i]? with | some (.int x) => x | _ => 0
theorem yv_get {a : Addr} {A : Cell} {U : State} (h : XT.Arr .byte a A U) (ht : Typed .byte A) {i : Nat} (hi : i < A.slots.size) : A.slots[i]? = some (.int (yv A i)) := by
  have e := Array.getElem?_eq_getElem hi
  have f := ht i _ e
  unfold yv; rw [e]
  generalize A.slots[i] = v at f
  cases v <;> simp [fits] at f ⊢
/-- the two arrays are equal, place for place -/
def EqC (A B : Cell) : Prop := A.slots.size = B.slots.size ∧ ∀ i, i < A.slots.size → yv A i = yv B i
/-- a boolean that says whether p -/
def Says01 (q : Prop) (r : Option Value) (s u : State) : Prop := ∃ v : Int32, r = some (.int v) ∧ u.heap = s.heap ∧ ((v = 1 ∧ q) ∨ (v = 0 ∧ ¬ q))
theorem Says01.mv {q : Prop} : ∀ r (U U' V V' : State), U'.heap = U.heap → V.vm.Alike V'.vm → V'.heap = V.heap → Says01 q r U V → Says01 q r U' V' :=
  fun r U U' V V' h1 _ h2 ⟨v, a, b, c⟩ => ⟨v, a, by rw [h1, h2]; exact b, c⟩
namespace LEq
def yN : MethodName := ⟨"java/lang/StringLatin1", "equals", "([B[B)Z"⟩
abbrev yB : ByteArray := jdk_43_method_13_code
theorem d0 : decode yB 0 = .ok (.aload_n 0, 1) := by decide +kernel
theorem d1 : decode yB 1 = .ok (.arraylength, 1) := by decide +kernel
theorem d2 : decode yB 2 = .ok (.aload_n 1, 1) := by decide +kernel
theorem d3 : decode yB 3 = .ok (.arraylength, 1) := by decide +kernel
theorem d4 : decode yB 4 = .ok (.if_icmp (.ne) 30, 3) := by decide +kernel
theorem d7 : decode yB 7 = .ok (.iconst 0, 1) := by decide +kernel
theorem d8 : decode yB 8 = .ok (.istore_n 2, 1) := by decide +kernel
theorem d9 : decode yB 9 = .ok (.iload_n 2, 1) := by decide +kernel
theorem d10 : decode yB 10 = .ok (.aload_n 0, 1) := by decide +kernel
theorem d11 : decode yB 11 = .ok (.arraylength, 1) := by decide +kernel
theorem d12 : decode yB 12 = .ok (.if_icmp (.ge) 20, 3) := by decide +kernel
theorem d15 : decode yB 15 = .ok (.aload_n 0, 1) := by decide +kernel
theorem d16 : decode yB 16 = .ok (.iload_n 2, 1) := by decide +kernel
theorem d17 : decode yB 17 = .ok (.baload, 1) := by decide +kernel
theorem d18 : decode yB 18 = .ok (.aload_n 1, 1) := by decide +kernel
theorem d19 : decode yB 19 = .ok (.iload_n 2, 1) := by decide +kernel
theorem d20 : decode yB 20 = .ok (.baload, 1) := by decide +kernel
theorem d21 : decode yB 21 = .ok (.if_icmp (.eq) 5, 3) := by decide +kernel
theorem d24 : decode yB 24 = .ok (.iconst 0, 1) := by decide +kernel
theorem d25 : decode yB 25 = .ok (.ireturn, 1) := by decide +kernel
theorem d26 : decode yB 26 = .ok (.iinc 2 1, 3) := by decide +kernel
theorem d29 : decode yB 29 = .ok (.goto (-20), 3) := by decide +kernel
theorem d32 : decode yB 32 = .ok (.iconst 1, 1) := by decide +kernel
theorem d33 : decode yB 33 = .ok (.ireturn, 1) := by decide +kernel
theorem d34 : decode yB 34 = .ok (.iconst 0, 1) := by decide +kernel
theorem d35 : decode yB 35 = .ok (.ireturn, 1) := by decide +kernel
def site : List Cond := []
def tab : Cond := tabOf yN yB 3 (some .boolean) site
def P (a : Addr) (A : Cell) (b : Addr) (B : Cell) (args : Array Value) (s : State) : Prop := args = #[.ref a, .ref b] ∧ XT.Arr .byte a A s ∧ Typed .byte A ∧ XT.Arr .byte b B s ∧ Typed .byte B
/-- whether two byte[] are equal, place for place -/
theorem law (l : Launch) (a : Addr) (A : Cell) (b : Addr) (B : Cell) : Law l yN 2 2 0 0 yB 3 (some .boolean) site (P a A b B) (Says01 (EqC A B)) [] 0 0 := by
  refine Law.of_walk (plainFor_of_name (by decide +kernel)) (by decide +kernel) (by decide +kernel) (by decide) (fun _ _ h => by rw [h.1]; rfl) (fun _ U U' hal hh h => ⟨h.1, h.2.1.mv hal hh, h.2.2.1, h.2.2.2.1.mv hal hh, h.2.2.2.2⟩) (fun r U U' V V' h1 hal h2 h => Says01.mv r U U' V V' h1 hal h2 h) ?_
  intro p e s m args below meth c s₁ X0 hexec hbytes hml hret hlk hnm hown hh0 W hP
  obtain ⟨rfl, hA, tA, hB, tB⟩ := hP
  have a31 := hA.2.2.2
  have b31 := hB.2.2.2
  have hA0 := hA.mv X0.warmed.alike hh0
  have hB0 := hB.mv X0.warmed.alike hh0
  have c1 : Steps p.tables e below (s₁.setTop (entryFrame m #[.ref a, .ref b] 3)) (s₁.setTop (mkF m 0 #[.val (.ref a), .val (.ref b), .unset] [])) := entry rfl
  have c2 : Steps p.tables e below (s₁.setTop (entryFrame m #[.ref a, .ref b] 3)) (s₁.setTop (mkF m 4 #[.val (.ref a), .val (.ref b), .unset] [.int (Int32.ofNat B.slots.size), .int (Int32.ofNat A.slots.size)])) := c1.trans (by
    refine XS.aloadN X0.here hexec rfl (hb hbytes d0) rfl rfl ?_
    refine X0.alen hexec hA0 rfl rfl (hb hbytes d1) ?_
    refine XS.aloadN X0.here hexec rfl (hb hbytes d2) rfl rfl ?_
    refine X0.alen hexec hB0 rfl rfl (hb hbytes d3) ?_
    exact Steps.refl _)
  by_cases hs : A.slots.size = B.slots.size
  · have c3 : Steps p.tables e below (s₁.setTop (entryFrame m #[.ref a, .ref b] 3)) (s₁.setTop (mkF m 9 #[.val (.ref a), .val (.ref b), .val (.int 0)] [])) := c2.trans (by
      refine XS.icmpNo X0.here hexec rfl (hb hbytes d4) rfl (ii_ne_f (by rw [hs])) ?_
      refine iconstV X0.here hexec rfl 0 (hb hbytes d7) (by decide) ?_
      refine XS.istoreN X0.here hexec rfl (hb hbytes d8) rfl rfl ?_
      exact Steps.refl _)
    have loop : ∀ (r i : Nat), i + r = A.slots.size → (∀ j, j < i → yv A j = yv B j) → Steps p.tables e below (s₁.setTop (entryFrame m #[.ref a, .ref b] 3)) (s₁.setTop (mkF m 9 #[.val (.ref a), .val (.ref b), .val (.int (Int32.ofNat i))] [])) → ∃ (pc : Nat) (Ls : Array Slot) (v : Int32), (pc = 25 ∨ pc = 33) ∧ ((v = 1 ∧ EqC A B) ∨ (v = 0 ∧ ¬ EqC A B)) ∧ Steps p.tables e below (s₁.setTop (entryFrame m #[.ref a, .ref b] 3)) (s₁.setTop (mkF m pc Ls [.int v])) := by
      intro r
      induction r with
      | zero =>
        intro i hi he cl
        exact ⟨33, _, 1, Or.inr rfl, Or.inl ⟨rfl, hs, fun j hj => he j (by omega)⟩, cl.trans (by
          refine XS.iloadN X0.here hexec rfl (hb hbytes d9) rfl ?_
          refine XS.aloadN X0.here hexec rfl (hb hbytes d10) rfl rfl ?_
          refine X0.alen hexec hA0 rfl rfl (hb hbytes d11) ?_
          refine XS.icmpYes X0.here hexec rfl (pc0 := 12) rfl (hb hbytes d12) rfl (ii_ge_t (nlt32 (by omega) (by omega))) (by decide) rfl ?_
          refine iconstV X0.here hexec rfl 1 (hb hbytes d32) (by decide) ?_
          exact Steps.refl _)⟩
      | succ r ih =>
        intro i hi he cl
        have c4 : Steps p.tables e below (s₁.setTop (entryFrame m #[.ref a, .ref b] 3)) (s₁.setTop (mkF m 21 #[.val (.ref a), .val (.ref b), .val (.int (Int32.ofNat i))] [.int (yv B i), .int (yv A i)])) := cl.trans (by
          refine XS.iloadN X0.here hexec rfl (hb hbytes d9) rfl ?_
          refine XS.aloadN X0.here hexec rfl (hb hbytes d10) rfl rfl ?_
          refine X0.alen hexec hA0 rfl rfl (hb hbytes d11) ?_
          refine XS.icmpNo X0.here hexec rfl (hb hbytes d12) rfl (ii_ge_f (lt32 (by omega) (by omega))) ?_
          refine XS.aloadN X0.here hexec rfl (hb hbytes d15) rfl rfl ?_
          refine XS.iloadN X0.here hexec rfl (hb hbytes d16) rfl ?_
          refine X0.aget hexec hA0 rfl (yv_get hA tA (i := i) (by omega)) rfl rfl (hb hbytes d17) ?_
          refine XS.aloadN X0.here hexec rfl (hb hbytes d18) rfl rfl ?_
          refine XS.iloadN X0.here hexec rfl (hb hbytes d19) rfl ?_
          refine X0.aget hexec hB0 rfl (yv_get hB tB (i := i) (by omega)) rfl rfl (hb hbytes d20) ?_
          exact Steps.refl _)
        by_cases hv : yv A i = yv B i
        · have c5 : Steps p.tables e below (s₁.setTop (entryFrame m #[.ref a, .ref b] 3)) (s₁.setTop (mkF m 9 #[.val (.ref a), .val (.ref b), .val (.int (Int32.ofNat i + 1))] [])) := c4.trans (by
            refine XS.icmpYes X0.here hexec rfl (pc0 := 21) rfl (hb hbytes d21) rfl (ii_eq_t hv) (by decide) rfl ?_
            refine iincV X0.here hexec rfl 1 (hb hbytes d26) (by decide) rfl rfl ?_
            refine XS.goto X0.here hexec rfl (pc0 := 29) rfl (hb hbytes d29) (by decide) rfl ?_
            exact Steps.refl _)
          rw [succ32] at c5
          exact ih (i + 1) (by omega) (fun j hj => by
            by_cases e : j = i
            · rw [e]; exact hv
            · exact he j (by omega)) c5
        · exact ⟨25, _, 0, Or.inl rfl, Or.inr ⟨rfl, fun q => hv (q.2 i (by omega))⟩, c4.trans (by
            refine XS.icmpNo X0.here hexec rfl (hb hbytes d21) rfl (ii_eq_f hv) ?_
            refine iconstV X0.here hexec rfl 0 (hb hbytes d24) (by decide) ?_
            exact Steps.refl _)⟩
    obtain ⟨pc, Ls, v, hpc, hv, cz⟩ := loop A.slots.size 0 (by omega) (fun j hj => absurd hj (Nat.not_lt_zero j)) c3
    have nv : narrow .boolean (.int v) = .int v := by rcases hv with ⟨rfl, -⟩ | ⟨rfl, -⟩ <;> rfl
    rcases hpc with rfl | rfl
    · exact ⟨s₁, some (.int v), _, _, _, X0, rfl, rfl, rfl, (fun h => by cases h), ⟨v, rfl, hh0, hv⟩, fun fs hl => cz.trans (X0.ireturnOut hexec hret nv (Or.inr (Or.inl rfl)) (hb hbytes d25) hl)⟩
    · exact ⟨s₁, some (.int v), _, _, _, X0, rfl, rfl, rfl, (fun h => by cases h), ⟨v, rfl, hh0, hv⟩, fun fs hl => cz.trans (X0.ireturnOut hexec hret nv (Or.inr (Or.inl rfl)) (hb hbytes d33) hl)⟩
  · have c3 : Steps p.tables e below (s₁.setTop (entryFrame m #[.ref a, .ref b] 3)) (s₁.setTop (mkF m 35 #[.val (.ref a), .val (.ref b), .unset] [.int 0])) := c2.trans (by
      refine XS.icmpYes X0.here hexec rfl (pc0 := 4) rfl (hb hbytes d4) rfl (ii_ne_t (ne32 a31 b31 hs)) (by decide) rfl ?_
      refine iconstV X0.here hexec rfl 0 (hb hbytes d34) (by decide) ?_
      exact Steps.refl _)
    exact ⟨s₁, some (.int 0), _, _, _, X0, rfl, rfl, rfl, (fun h => by cases h), ⟨0, rfl, hh0, Or.inr ⟨rfl, fun q => hs q.1⟩⟩, fun fs hl => c3.trans (X0.ireturnOut hexec hret rfl (Or.inr (Or.inl rfl)) (hb hbytes d35) hl)⟩
end LEq
theorem Cod.ty {cd : Int32} {n : Nat} {f : Nat → Int32} {V : Cell} (h : Cod cd n f V) : Typed .byte V := fun i v hv => by
  have hi : i < V.slots.size := (Array.getElem?_eq_some_iff.mp hv).1
  rcases h with ⟨-, k1, k2⟩ | ⟨-, k1, k2, -⟩
  · rw [(k2 i (by omega)).1] at hv; cases hv; exact fits_lo8 _
  · rcases Nat.mod_two_eq_zero_or_one i with e | e
    · obtain ⟨j, rfl⟩ : ∃ j, i = 2 * j := ⟨i / 2, by omega⟩
      rw [(k2 j (by omega)).1] at hv; cases hv; exact fits_lo8 _
    · obtain ⟨j, rfl⟩ : ∃ j, i = 2 * j + 1 := ⟨i / 2, by omega⟩
      rw [(k2 j (by omega)).2] at hv; cases hv; exact fits_lo8 _
/-- the same text -/
def SameT (n : Nat) (f : Nat → Int32) (k : Nat) (g : Nat → Int32) : Prop := n = k ∧ ∀ j, j < n → f j = g j
theorem lo8_inj {x y : Int32} (h0 : ¬ x < 0) (h1 : ¬ 255 < x) (k0 : ¬ y < 0) (k1 : ¬ 255 < y) (h : lo8 x = lo8 y) : x = y := by
  rw [← lo8_mask h0 h1, ← lo8_mask k0 k1, h]
/-- arrays coded by one coder are equal just where the texts are -/
theorem Cod.eqv {cd : Int32} {n k : Nat} {f g : Nat → Int32} {V V' : Cell} (h : Cod cd n f V) (h' : Cod cd k g V') (hf : ∀ j, j < n → ¬ f j < 0 ∧ ¬ 65535 < f j) (hg : ∀ j, j < k → ¬ g j < 0 ∧ ¬ 65535 < g j) : EqC V V' ↔ SameT n f k g := by
  have yvv : ∀ {W : Cell} {i : Nat} {x : Int32}, W.slots[i]? = some (.int x) → yv W i = x := fun q => by unfold yv; rw [q]
  rcases h with ⟨rfl, k1, k2⟩ | ⟨rfl, k1, k2, -⟩
  · rcases h' with ⟨-, m1, m2⟩ | ⟨e, -⟩
    · constructor
      · rintro ⟨e1, e2⟩
        refine ⟨by omega, fun j hj => ?_⟩
        have q := e2 j (by omega)
        rw [yvv (k2 j hj).1, yvv (m2 j (by omega)).1] at q
        exact lo8_inj (hf j hj).1 (k2 j hj).2 (hg j (by omega)).1 (m2 j (by omega)).2 q
      · rintro ⟨rfl, e2⟩
        refine ⟨by omega, fun j hj => ?_⟩
        rw [yvv (k2 j (by omega)).1, yvv (m2 j (by omega)).1, e2 j (by omega)]
    · exact absurd e (by decide)
  · rcases h' with ⟨e, -⟩ | ⟨-, m1, m2, -⟩
    · exact absurd e (by decide)
    · constructor
      · rintro ⟨e1, e2⟩
        refine ⟨by omega, fun j hj => ?_⟩
        have q1 := e2 (2 * j) (by omega)
        have q2 := e2 (2 * j + 1) (by omega)
        rw [yvv (k2 j hj).1, yvv (m2 j (by omega)).1] at q1
        rw [yvv (k2 j hj).2, yvv (m2 j (by omega)).2] at q2
        rw [← pair_says (hf j hj).1 (hf j hj).2, ← pair_says (hg j (by omega)).1 (hg j (by omega)).2, q1, q2]
      · rintro ⟨rfl, e2⟩
        refine ⟨by omega, fun i hi => ?_⟩
        rcases Nat.mod_two_eq_zero_or_one i with e | e
        · obtain ⟨j, rfl⟩ : ∃ j, i = 2 * j := ⟨i / 2, by omega⟩
          rw [yvv (k2 j (by omega)).1, yvv (m2 j (by omega)).1, e2 j (by omega)]
        · obtain ⟨j, rfl⟩ : ∃ j, i = 2 * j + 1 := ⟨i / 2, by omega⟩
          rw [yvv (k2 j (by omega)).2, yvv (m2 j (by omega)).2, e2 j (by omega)]
/-- two codings differ: so do the texts -/
theorem Cod.dif {cd cd' : Int32} {n k : Nat} {f g : Nat → Int32} {V V' : Cell} (h : Cod cd n f V) (h' : Cod cd' k g V') (hne : ¬ cd = cd') : ¬ SameT n f k g := by
  rintro ⟨rfl, e⟩
  rcases h with ⟨rfl, -, k2⟩ | ⟨rfl, -, -, j, hj, hw⟩
  · rcases h' with ⟨rfl, -⟩ | ⟨-, -, -, j, hj, hw⟩
    · exact hne rfl
    · exact (k2 j hj).2 (by rw [e j hj]; exact hw)
  · rcases h' with ⟨-, -, m2⟩ | ⟨rfl, -⟩
    · exact (m2 j hj).2 (by rw [← e j hj]; exact hw)
    · exact hne rfl
/-- an object of exactly C is an instance of C -/
theorem cinst {p : Program} {l : Launch} {e : Env} {R : Room} {s : State} {m : MethodId} {args : Array Value} {below : List Frame} {meth : Method} {c : Code} {T : State} {locs : List Loc} {cells slots : Nat} (X : Stand p l e R s m args below meth c T locs cells slots) (hexec : p.tables.exec = Jvm.exec) {own C : String} {index : Nat} (hown : s.vm.findClass own = some m.cls) (hlink : (Cond.classLink own index C).before args s = true) {a : Addr} (hE : Exact C a T)
    {g : JFrame} (hg : g.method = m) {rest : List Value} (hstack : g.stack = .ref a :: rest) (hdg : decode c.code g.pc = .ok (.instanceof index, 3)) :
    ∃ T', Stand p l e R s m args below meth c T' locs cells slots ∧ T'.heap = T.heap ∧ ∀ target, Steps p.tables e below (T'.setTop { g with pc := g.pc + 3, stack := .int 1 :: rest }) target → Steps p.tables e below (T.setTop g) target := by
  obtain ⟨cB, h1, D, h2, h3, h4⟩ := hE
  have h1' : s.vm.findClass C = some cB := by rw [← X.warmed.alike.findClass]; exact h1
  obtain ⟨vm', X', st⟩ := X.instanceofYes hexec hown hlink h2 h4 h1' (by rw [h3]; exact Jvm.Free.SB.assignable_self _ _) hg hstack hdg
  exact ⟨_, X', rfl, st⟩
theorem cself {p : Program} {l : Launch} {e : Env} {R : Room} {s : State} {m : MethodId} {args : Array Value} {below : List Frame} {meth : Method} {c : Code} {T : State} {locs : List Loc} {cells slots : Nat} (X : Stand p l e R s m args below meth c T locs cells slots) (hexec : p.tables.exec = Jvm.exec) {own C : String} {index : Nat} (hown : s.vm.findClass own = some m.cls) (hlink : (Cond.classLink own index C).before args s = true) {a : Addr} (hE : Exact C a T)
    {g : JFrame} (hg : g.method = m) {rest : List Value} (hstack : g.stack = .ref a :: rest) (hdg : decode c.code g.pc = .ok (.checkcast index, 3)) :
    ∃ T', Stand p l e R s m args below meth c T' locs cells slots ∧ T'.heap = T.heap ∧ ∀ target, Steps p.tables e below (T'.setTop { g with pc := g.pc + 3, stack := .ref a :: rest }) target → Steps p.tables e below (T.setTop g) target := by
  obtain ⟨cB, h1, D, h2, h3, h4⟩ := hE
  have h1' : s.vm.findClass C = some cB := by rw [← X.warmed.alike.findClass]; exact h1
  obtain ⟨vm', X', st⟩ := X.checkcastYes hexec hown hlink h2 h4 h1' (by rw [h3]; exact Jvm.Free.SB.assignable_self _ _) hg hstack hdg
  exact ⟨_, X', rfl, fun t h => st t (by rw [← hstack] at h; exact h)⟩
namespace SEq
def yN : MethodName := ⟨"java/lang/String", "equals", "(Ljava/lang/Object;)Z"⟩
abbrev yB : ByteArray := jdk_42_method_66_code
theorem d0 : decode yB 0 = .ok (.aload_n 0, 1) := by decide +kernel
theorem d1 : decode yB 1 = .ok (.aload_n 1, 1) := by decide +kernel
theorem d2 : decode yB 2 = .ok (.if_acmp (.ne) 5, 3) := by decide +kernel
theorem d5 : decode yB 5 = .ok (.iconst 1, 1) := by decide +kernel
theorem d6 : decode yB 6 = .ok (.ireturn, 1) := by decide +kernel
theorem d7 : decode yB 7 = .ok (.aload_n 1, 1) := by decide +kernel
theorem d8 : decode yB 8 = .ok (.instanceof 10, 3) := by decide +kernel
theorem d11 : decode yB 11 = .ok (.ifCond (.eq) 43, 3) := by decide +kernel
theorem d14 : decode yB 14 = .ok (.aload_n 1, 1) := by decide +kernel
theorem d15 : decode yB 15 = .ok (.checkcast 10, 3) := by decide +kernel
theorem d18 : decode yB 18 = .ok (.astore_n 2, 1) := by decide +kernel
theorem d19 : decode yB 19 = .ok (.getstatic 38, 3) := by decide +kernel
theorem d22 : decode yB 22 = .ok (.ifCond (.eq) 14, 3) := by decide +kernel
theorem d25 : decode yB 25 = .ok (.aload_n 0, 1) := by decide +kernel
theorem d26 : decode yB 26 = .ok (.getfield 15, 3) := by decide +kernel
theorem d29 : decode yB 29 = .ok (.aload_n 2, 1) := by decide +kernel
theorem d30 : decode yB 30 = .ok (.getfield 15, 3) := by decide +kernel
theorem d33 : decode yB 33 = .ok (.if_icmp (.ne) 21, 3) := by decide +kernel
theorem d36 : decode yB 36 = .ok (.aload_n 0, 1) := by decide +kernel
theorem d37 : decode yB 37 = .ok (.getfield 9, 3) := by decide +kernel
theorem d40 : decode yB 40 = .ok (.aload_n 2, 1) := by decide +kernel
theorem d41 : decode yB 41 = .ok (.getfield 9, 3) := by decide +kernel
theorem d44 : decode yB 44 = .ok (.invokestatic 541, 3) := by decide +kernel
theorem d47 : decode yB 47 = .ok (.ifCond (.eq) 7, 3) := by decide +kernel
theorem d50 : decode yB 50 = .ok (.iconst 1, 1) := by decide +kernel
theorem d51 : decode yB 51 = .ok (.goto 4, 3) := by decide +kernel
theorem d54 : decode yB 54 = .ok (.iconst 0, 1) := by decide +kernel
theorem d55 : decode yB 55 = .ok (.ireturn, 1) := by decide +kernel
def site : List Cond := [.classLink "java/lang/String" 10 "java/lang/String", .fieldLink "java/lang/String" 38 "java/lang/String" "COMPACT_STRINGS" "Z", .fieldLink "java/lang/String" 15 "java/lang/String" "coder" "B", .fieldLink "java/lang/String" 9 "java/lang/String" "value" "[B", LEq.tab] ++ staticW "java/lang/String" 541 LEq.yN
def tab : Cond := tabOf yN yB 3 (some .boolean) site
def P (x t : Addr) (V : Cell) (cd : Int32) (n : Nat) (f : Nat → Int32) (y t' : Addr) (V' : Cell) (cd' : Int32) (k : Nat) (g : Nat → Int32) (z : Int32) (args : Array Value) (s : State) : Prop := args = #[.ref x, .ref y] ∧ Txt x t V cd n f s ∧ Txt y t' V' cd' k g s ∧ StaticIs s "java/lang/String" "COMPACT_STRINGS" "Z" (.int z) ∧ ¬ z = 0
/-- equals(Object) of two Strings: whether the texts are the same -/
theorem law (l : Launch) (x t : Addr) (V : Cell) (cd : Int32) (n : Nat) (f : Nat → Int32) (y t' : Addr) (V' : Cell) (cd' : Int32) (k : Nat) (g : Nat → Int32) (z : Int32) : Law l yN 2 1 1 14 yB 3 (some .boolean) site (P x t V cd n f y t' V' cd' k g z) (Says01 (SameT n f k g)) [] 0 0 := by
  refine Law.of_walk (plainFor_of_name (by decide +kernel)) (by decide +kernel) (by decide +kernel) (by decide) (fun _ _ h => by rw [h.1]; rfl) (fun _ U U' hal hh h => ⟨h.1, h.2.1.mv hal hh, h.2.2.1.mv hal hh, h.2.2.2.1.there hal hh, h.2.2.2.2⟩) (fun r U U' V V' h1 hal h2 h => Says01.mv r U U' V V' h1 hal h2 h) ?_
  intro p e s m args below meth c s₁ X0 hexec hbytes hml hret hlk hnm hown hh0 W hP
  obtain ⟨rfl, hx, hy, s1, hz⟩ := hP
  have c1 : Steps p.tables e below (s₁.setTop (entryFrame m #[.ref x, .ref y] 3)) (s₁.setTop (mkF m 2 #[.val (.ref x), .val (.ref y), .unset] [.ref y, .ref x])) := Steps.trans (entry rfl) (by
    show Steps p.tables e below (s₁.setTop (mkF m 0 #[.val (.ref x), .val (.ref y), .unset] [])) _
    refine XS.aloadN X0.here hexec rfl (hb hbytes d0) rfl rfl ?_
    refine XS.aloadN X0.here hexec rfl (hb hbytes d1) rfl rfl ?_
    exact Steps.refl _)
  by_cases hxy : x = y
  · have c2 : Steps p.tables e below (s₁.setTop (entryFrame m #[.ref x, .ref y] 3)) (s₁.setTop (mkF m 6 #[.val (.ref x), .val (.ref y), .unset] [.int 1])) := c1.trans (by
      refine acmpNo X0.here hexec rfl (hb hbytes d2) rfl rfl rfl (by simp [acmp, hxy]) ?_
      refine iconstV X0.here hexec rfl 1 (hb hbytes d5) (by decide) ?_
      exact Steps.refl _)
    subst hxy
    have ec : cd = cd' := by
      obtain ⟨D, fd, a1, a2, a3⟩ := hx.2.2.1
      obtain ⟨D', fd', b1, b2, b3⟩ := hy.2.2.1
      cases a1.symm.trans b1
      obtain ⟨q1, q2, q3, q4⟩ := a2.1
      obtain ⟨r1, r2, r3, r4⟩ := b2.1
      cases q4.symm.trans r4
      cases a3.symm.trans b3; rfl
    have et : t = t' := by
      obtain ⟨D, fd, a1, a2, a3⟩ := hx.2.1
      obtain ⟨D', fd', b1, b2, b3⟩ := hy.2.1
      cases a1.symm.trans b1
      obtain ⟨q1, q2, q3, q4⟩ := a2.1
      obtain ⟨r1, r2, r3, r4⟩ := b2.1
      cases q4.symm.trans r4
      cases a3.symm.trans b3; rfl
    subst ec et
    have ev : V = V' := by cases hx.2.2.2.1.1.symm.trans hy.2.2.2.1.1; rfl
    subst ev
    have hs : SameT n f k g := (Cod.eqv hx.2.2.2.2.1 hy.2.2.2.2.1 hx.2.2.2.2.2 hy.2.2.2.2.2).mp ⟨rfl, fun _ _ => rfl⟩
    exact ⟨s₁, some (.int 1), _, _, _, X0, rfl, rfl, rfl, (fun h => by cases h), ⟨1, rfl, hh0, Or.inl ⟨rfl, hs⟩⟩, fun fs hl => c2.trans (X0.ireturnOut hexec hret rfl (Or.inr (Or.inl rfl)) (hb hbytes d6) hl)⟩
  · have c2 : Steps p.tables e below (s₁.setTop (entryFrame m #[.ref x, .ref y] 3)) (s₁.setTop (mkF m 8 #[.val (.ref x), .val (.ref y), .unset] [.ref y])) := c1.trans (by
      refine acmpYes X0.here hexec rfl (pc0 := 2) rfl (hb hbytes d2) rfl rfl rfl (by simp [acmp, hxy]) (by decide) rfl ?_
      refine XS.aloadN X0.here hexec rfl (hb hbytes d7) rfl rfl ?_
      exact Steps.refl _)
    obtain ⟨T3, X3, q3, st3⟩ := cinst X0 hexec hown (wk W (.classLink "java/lang/String" 10 "java/lang/String")) (hy.mv X0.warmed.alike hh0).1 (g := (mkF m 8 #[.val (.ref x), .val (.ref y), .unset] [.ref y])) rfl (rest := []) rfl (hb hbytes d8)
    have hh3 := q3.trans hh0
    have c4 : Steps p.tables e below (s₁.setTop (entryFrame m #[.ref x, .ref y] 3)) (T3.setTop (mkF m 15 #[.val (.ref x), .val (.ref y), .unset] [.ref y])) := (c2.trans (st3 _ (Steps.refl _))).trans (by
      refine XS.ifNo X3.here hexec rfl (hb hbytes d11) rfl (i0_eq_f (by decide)) ?_
      refine XS.aloadN X3.here hexec rfl (hb hbytes d14) rfl rfl ?_
      exact Steps.refl _)
    obtain ⟨T5, X5, q5, st5⟩ := cself X3 hexec hown (wk W (.classLink "java/lang/String" 10 "java/lang/String")) (hy.mv X3.warmed.alike hh3).1 (g := (mkF m 15 #[.val (.ref x), .val (.ref y), .unset] [.ref y])) rfl (rest := []) rfl (hb hbytes d15)
    have hh5 := q5.trans hh3
    have c6 : Steps p.tables e below (s₁.setTop (entryFrame m #[.ref x, .ref y] 3)) (T5.setTop (mkF m 19 #[.val (.ref x), .val (.ref y), .val (.ref y)] [])) := (c4.trans (st5 _ (Steps.refl _))).trans (by
      refine XS.astoreN X5.here hexec rfl (hb hbytes d18) rfl rfl rfl ?_
      exact Steps.refl _)
    obtain ⟨T7, X7, q7, st7⟩ := X5.sget hexec hown (wk W (.fieldLink "java/lang/String" 38 "java/lang/String" "COMPACT_STRINGS" "Z")) s1 (fun _ _ h => by rw [hh5]; exact h) (g := (mkF m 19 #[.val (.ref x), .val (.ref y), .val (.ref y)] [])) rfl (hb hbytes d19)
    have hh7 := q7.trans hh5
    have c8 : Steps p.tables e below (s₁.setTop (entryFrame m #[.ref x, .ref y] 3)) (T7.setTop (mkF m 26 #[.val (.ref x), .val (.ref y), .val (.ref y)] [.ref x])) := (c6.trans (st7 _ (Steps.refl _))).trans (by
      refine XS.ifNo X7.here hexec rfl (hb hbytes d22) rfl (i0_eq_f hz) ?_
      refine XS.aloadN X7.here hexec rfl (hb hbytes d25) rfl rfl ?_
      exact Steps.refl _)
    obtain ⟨T9, X9, q9, st9⟩ := X7.hget hexec hown (wk W (.fieldLink "java/lang/String" 15 "java/lang/String" "coder" "B")) (hx.mv X7.warmed.alike hh7).2.2.1 (g := (mkF m 26 #[.val (.ref x), .val (.ref y), .val (.ref y)] [.ref x])) rfl (rest := []) rfl (hb hbytes d26)
    have hh9 := q9.trans hh7
    have c10 : Steps p.tables e below (s₁.setTop (entryFrame m #[.ref x, .ref y] 3)) (T9.setTop (mkF m 30 #[.val (.ref x), .val (.ref y), .val (.ref y)] [.ref y, .int cd])) := (c8.trans (st9 _ (Steps.refl _))).trans (by
      refine XS.aloadN X9.here hexec rfl (hb hbytes d29) rfl rfl ?_
      exact Steps.refl _)
    obtain ⟨T11, X11, q11, st11⟩ := X9.hget hexec hown (wk W (.fieldLink "java/lang/String" 15 "java/lang/String" "coder" "B")) (hy.mv X9.warmed.alike hh9).2.2.1 (g := (mkF m 30 #[.val (.ref x), .val (.ref y), .val (.ref y)] [.ref y, .int cd])) rfl (rest := [.int cd]) rfl (hb hbytes d30)
    have hh11 := q11.trans hh9
    have c12 : Steps p.tables e below (s₁.setTop (entryFrame m #[.ref x, .ref y] 3)) (T11.setTop (mkF m 33 #[.val (.ref x), .val (.ref y), .val (.ref y)] [.int cd', .int cd])) := c10.trans (st11 _ (Steps.refl _))
    by_cases hcd : cd = cd'
    · subst hcd
      have c13 : Steps p.tables e below (s₁.setTop (entryFrame m #[.ref x, .ref y] 3)) (T11.setTop (mkF m 37 #[.val (.ref x), .val (.ref y), .val (.ref y)] [.ref x])) := c12.trans (by
        refine XS.icmpNo X11.here hexec rfl (hb hbytes d33) rfl (ii_ne_f rfl) ?_
        refine XS.aloadN X11.here hexec rfl (hb hbytes d36) rfl rfl ?_
        exact Steps.refl _)
      obtain ⟨T14, X14, q14, st14⟩ := X11.hget hexec hown (wk W (.fieldLink "java/lang/String" 9 "java/lang/String" "value" "[B")) (hx.mv X11.warmed.alike hh11).2.1 (g := (mkF m 37 #[.val (.ref x), .val (.ref y), .val (.ref y)] [.ref x])) rfl (rest := []) rfl (hb hbytes d37)
      have hh14 := q14.trans hh11
      have c15 : Steps p.tables e below (s₁.setTop (entryFrame m #[.ref x, .ref y] 3)) (T14.setTop (mkF m 41 #[.val (.ref x), .val (.ref y), .val (.ref y)] [.ref y, .ref t])) := (c13.trans (st14 _ (Steps.refl _))).trans (by
        refine XS.aloadN X14.here hexec rfl (hb hbytes d40) rfl rfl ?_
        exact Steps.refl _)
      obtain ⟨T16, X16, q16, st16⟩ := X14.hget hexec hown (wk W (.fieldLink "java/lang/String" 9 "java/lang/String" "value" "[B")) (hy.mv X14.warmed.alike hh14).2.1 (g := (mkF m 41 #[.val (.ref x), .val (.ref y), .val (.ref y)] [.ref y, .ref t])) rfl (rest := [.ref t]) rfl (hb hbytes d41)
      have hh16 := q16.trans hh14
      have c17 : Steps p.tables e below (s₁.setTop (entryFrame m #[.ref x, .ref y] 3)) (T16.setTop (mkF m 44 #[.val (.ref x), .val (.ref y), .val (.ref y)] [.ref t', .ref t])) := c15.trans (st16 _ (Steps.refl _))
      obtain ⟨v18, T18, X18, E18, g18⟩ := X16.callS hexec (LEq.law l t V t' V') hown (wks W (staticW "java/lang/String" 541 LEq.yN)) (wk W LEq.tab) (W := 0) (Nat.le_of_ble_eq_true rfl) (Nat.le_of_ble_eq_true rfl) (Nat.le_refl _) (Nat.le_refl _) (g := (mkF m 44 #[.val (.ref x), .val (.ref y), .val (.ref y)] [.ref t', .ref t])) rfl (by rw [hml]; rfl) c17 (argsL := [.ref t, .ref t']) (rest := []) rfl rfl (by show 2 * 0 + 0 ≤ _; decide) (hb hbytes d44) (⟨rfl, hx.2.2.2.1.mv X16.warmed.alike hh16, hx.2.2.2.2.1.ty, hy.2.2.2.1.mv X16.warmed.alike hh16, hy.2.2.2.2.1.ty⟩)
      obtain ⟨v, rfl, q18, hv⟩ := E18
      have iff := Cod.eqv hx.2.2.2.2.1 hy.2.2.2.2.1 hx.2.2.2.2.2 hy.2.2.2.2.2
      rcases hv with ⟨rfl, he⟩ | ⟨rfl, he⟩
      · have c19 : Steps p.tables e below (s₁.setTop (entryFrame m #[.ref x, .ref y] 3)) (T18.setTop (mkF m 55 #[.val (.ref x), .val (.ref y), .val (.ref y)] [.int 1])) := Steps.trans g18 (by
          refine XS.ifNo X18.here hexec rfl (hb hbytes d47) rfl (i0_eq_f (by decide)) ?_
          refine iconstV X18.here hexec rfl 1 (hb hbytes d50) (by decide) ?_
          refine XS.goto X18.here hexec rfl (pc0 := 51) rfl (hb hbytes d51) (by decide) rfl ?_
          exact Steps.refl _)
        exact ⟨T18, some (.int 1), _, _, _, X18, rfl, rfl, rfl, (fun h => by cases h), ⟨1, rfl, q18.trans hh16, Or.inl ⟨rfl, iff.mp he⟩⟩, fun fs hl => c19.trans (X18.ireturnOut hexec hret rfl (Or.inr (Or.inl rfl)) (hb hbytes d55) hl)⟩
      · have c19 : Steps p.tables e below (s₁.setTop (entryFrame m #[.ref x, .ref y] 3)) (T18.setTop (mkF m 55 #[.val (.ref x), .val (.ref y), .val (.ref y)] [.int 0])) := Steps.trans g18 (by
          refine XS.ifYes X18.here hexec rfl (pc0 := 47) rfl (hb hbytes d47) rfl (i0_eq_t rfl) (by decide) rfl ?_
          refine iconstV X18.here hexec rfl 0 (hb hbytes d54) (by decide) ?_
          exact Steps.refl _)
        exact ⟨T18, some (.int 0), _, _, _, X18, rfl, rfl, rfl, (fun h => by cases h), ⟨0, rfl, q18.trans hh16, Or.inr ⟨rfl, fun q => he (iff.mpr q)⟩⟩, fun fs hl => c19.trans (X18.ireturnOut hexec hret rfl (Or.inr (Or.inl rfl)) (hb hbytes d55) hl)⟩
    · have c13 : Steps p.tables e below (s₁.setTop (entryFrame m #[.ref x, .ref y] 3)) (T11.setTop (mkF m 55 #[.val (.ref x), .val (.ref y), .val (.ref y)] [.int 0])) := c12.trans (by
        refine XS.icmpYes X11.here hexec rfl (pc0 := 33) rfl (hb hbytes d33) rfl (ii_ne_t hcd) (by decide) rfl ?_
        refine iconstV X11.here hexec rfl 0 (hb hbytes d54) (by decide) ?_
        exact Steps.refl _)
      exact ⟨T11, some (.int 0), _, _, _, X11, rfl, rfl, rfl, (fun h => by cases h), ⟨0, rfl, hh11, Or.inr ⟨rfl, Cod.dif hx.2.2.2.2.1 hy.2.2.2.2.1 hcd⟩⟩, fun fs hl => c13.trans (X11.ireturnOut hexec hret rfl (Or.inr (Or.inl rfl)) (hb hbytes d55) hl)⟩
theorem pays {l : Launch} {R : Room} {p : Program} {e : Env} {below : List Frame} {s : State} {sargs : Array Value} {len W : Nat} (x t : Addr) (V : Cell) (cd : Int32) (n : Nat) (f : Nat → Int32) (y t' : Addr) (V' : Cell) (cd' : Int32) (k : Nat) (g : Nat → Int32) (z : Int32) (htab : tab.before sargs s = true) (hfr : 2 ≤ R.frames) (hlo : W + 28 ≤ R.locals) :
    Back l R p e below s sargs yN len W (fun A₁ a₁ => A₁.cells + 0 ≤ R.cells ∧ A₁.slots + 0 ≤ R.slots ∧ P x t V cd n f y t' V' cd' k g z a₁ A₁.U) (fun A₁ _ v₁ B₁ => Says01 (SameT n f k g) v₁ A₁.U B₁.U ∧ B₁.locs = A₁.locs ++ [] ∧ B₁.cells = A₁.cells + 0 ∧ B₁.slots = A₁.slots + 0) :=
  (law l x t V cd n f y t' V' cd' k g z).pays htab hfr (by omega)
end SEq
end StrChars
namespace StrChars.Road
open Jvm Sem ClassFile Op Lib Jvm.Stand Jvm.Free Jvm.Free.XT
open Jvm.Lib.Cold (StaticIs)
/-- the words of String.equals(Object) -/
abbrev wordsEq : List Jvm.Cond := [.code SEq.yN SEq.yB 3 (some .boolean), .initialized ST, .classLink ST 10 ST, .fieldLink ST 38 ST "COMPACT_STRINGS" "Z", .fieldLink ST 15 ST "coder" "B", .fieldLink ST 9 ST "value" "[B", .methodLink ST 541 LEq.yN, .static LEq.yN, .code LEq.yN LEq.yB 3 (some .boolean), .initialized "java/lang/StringLatin1"]
theorem tabEq_of {a : Array Value} {s : State} (h : ∀ w ∈ wordsEq, w.before a s = true) : SEq.tab.before a s = true := by
  have hl : LEq.tab.before a s = true := unparts (wk h (.code LEq.yN LEq.yB 3 (some .boolean))) (wks h (.initialized LEq.yN.cls :: LEq.site))
  have q := consq hl h
  exact unparts (wk q (.code SEq.yN SEq.yB 3 (some .boolean))) (wks q (.initialized SEq.yN.cls :: SEq.site))
theorem movedEq {Z s : State} {a0 args : Array Value} (hZ : Z.Warmed39 s.vm) (hw : ∀ d ∈ wordsEq, d.before a0 Z = true) : ∀ d ∈ wordsEq, d.before args s = true := fun d hd => by
  have t : ∀ d ∈ wordsEq, (d.onTables && d.keepsFace) = true := by decide +kernel
  exact RoadKit.mv hZ (hw d hd) (t d hd)
/-- the road's facts of a String, as the laws ask it -/
theorem txt_of {Z U : State} {a0 : Array Value} {kI : Nat} (wi : (Jvm.Cond.instantiable ST kI).before a0 Z = true) (al : Z.vm.Alike U.vm) {x t : Addr} {kb : ClassId} {cs : List Int32} {cd N2 : Int32} {vs : List Value} (E : RoadKit.Exa Z U.heap x ST) (V : RoadKit.Fld Z U.heap x ST "value" "[B" (.ref t)) (C : RoadKit.Fld Z U.heap x ST "coder" "B" (.int cd)) (K : RoadKit.Arv Z U.heap t kb .byte N2 vs (.int 0)) (hc : CodA cs cd N2 vs) (hb : ∀ c ∈ cs, ¬ c < 0 ∧ ¬ (65535 : Int32) < c) (l2 : cs.length ≤ 4000) :
    ∃ A, Txt x t A cd cs.length (fun j => cs.getD j 0) U := by
  obtain ⟨A, K1, K2, K3, K4, K5, K6⟩ := K
  have hcod := hc.cod (by omega) K3 K5
  obtain ⟨D, fV, fC, hB, F1, F2, g1, g2, -, -⟩ := strObj wi al E V C
  exact ⟨A, ⟨_, hB.2.2.1, D, hB.1, rfl, by cases q : D.vm <;> first | rfl | exact absurd q (hB.2.1.2 _)⟩, Has.of hB F1 g1, Has.of hB F2 g2, ⟨K1.1, State.isArrayOf_alike al K1.2.1, K1.2.2, by rcases hcod with ⟨-, q, -⟩ | ⟨-, q, -⟩ <;> omega⟩, hcod, fun j hj => by
    have e : cs.getD j 0 = cs[j] := by simp [List.getD_eq_getElem?_getD, hj]
    show ¬ cs.getD j 0 < 0 ∧ ¬ 65535 < cs.getD j 0
    rw [e]; exact hb _ (List.getElem_mem _)⟩
theorem same_list (cs ds : List Int32) : SameT cs.length (fun j => cs.getD j 0) ds.length (fun j => ds.getD j 0) ↔ cs = ds := by
  constructor
  · rintro ⟨e, q⟩
    refine List.ext_getElem e fun j h1 h2 => ?_
    have := q j h1
    simpa [List.getD_eq_getElem?_getD, h1, h2] using this
  · rintro rfl
    exact ⟨rfl, fun _ _ => rfl⟩
/-- **equals(Object) OF TWO SUCH STRINGS**: 1 just where the chars are the same -/
theorem eqW {p : Program} {l : Launch} {e : Env} {R : Room} {s : State} {args : Array Value} {below : List Frame} {len W : Nat} {Z : State} {a0 : Array Value} {h : Heap} (hZ : Z.Warmed39 s.vm) (hw : ∀ d ∈ wordsEq, d.before a0 Z = true) {kI : Nat} (wi : (Jvm.Cond.instantiable ST kI).before a0 Z = true)
    {x t : Addr} {kb : ClassId} {cs : List Int32} {cd N2 : Int32} {vs : List Value} (E : RoadKit.Exa Z h x ST) (V : RoadKit.Fld Z h x ST "value" "[B" (.ref t)) (C : RoadKit.Fld Z h x ST "coder" "B" (.int cd)) (K : RoadKit.Arv Z h t kb .byte N2 vs (.int 0)) (hc : CodA cs cd N2 vs) (hb : ∀ c ∈ cs, ¬ c < 0 ∧ ¬ (65535 : Int32) < c) (l2 : cs.length ≤ 4000)
    {y t' : Addr} {kb' : ClassId} {ds : List Int32} {cd' N2' : Int32} {vs' : List Value} (E' : RoadKit.Exa Z h y ST) (V' : RoadKit.Fld Z h y ST "value" "[B" (.ref t')) (C' : RoadKit.Fld Z h y ST "coder" "B" (.int cd')) (K' : RoadKit.Arv Z h t' kb' .byte N2' vs' (.int 0)) (hc' : CodA ds cd' N2' vs') (hb' : ∀ c ∈ ds, ¬ c < 0 ∧ ¬ (65535 : Int32) < c) (l2' : ds.length ≤ 4000)
    {z : Int32} (S : RoadKit.Sta Z h ST "COMPACT_STRINGS" "Z" (.int z)) (hz : ¬ z = 0) (hfr : 2 ≤ R.frames) (hlo : W + 28 ≤ R.locals) :
    Back l R p e below s args (⟨"java/lang/String", "equals", "(Ljava/lang/Object;)Z"⟩ : MethodName) len W (fun P a => a = #[.ref x, .ref y] ∧ P.U.heap = h ∧ P.cells + 0 ≤ R.cells ∧ P.slots + 0 ≤ R.slots)
      (fun P _ v B => ∃ L, (((v = some (.int 1) ∧ cs = ds) ∨ (v = some (.int 0) ∧ ¬ cs = ds)) ∧ L = [] ∧ B.U.heap = h) ∧ B.locs = P.locs ++ L ∧ B.cells = P.cells + 0 ∧ B.slots = P.slots + 0) := by
  intro m meth c P g ig mk a X hg hsize hdg hW hn hp'
  obtain ⟨rfl, rfl, r1, r2⟩ := hp'
  have al : Z.vm.Alike P.U.vm := hZ.alike.trans X.warmed.alike
  obtain ⟨A, hx⟩ := txt_of wi al E V C K hc hb l2
  obtain ⟨A', hy⟩ := txt_of wi al E' V' C' K' hc' hb' l2'
  obtain ⟨v, B, X', ⟨⟨w, hv, hh, hq⟩, hl, hk, hs⟩, st⟩ := SEq.pays x t A cd cs.length (fun j => cs.getD j 0) y t' A' cd' ds.length (fun j => ds.getD j 0) z (tabEq_of (movedEq hZ hw)) hfr hlo m meth c P g ig mk _ X hg hsize hdg hW hn ⟨r1, r2, rfl, hx, hy, sta_is al S, hz⟩
  refine ⟨v, B, X', ⟨[], ⟨?_, rfl, hh⟩, hl, hk, hs⟩, st⟩
  rcases hq with ⟨rfl, q⟩ | ⟨rfl, q⟩
  · exact Or.inl ⟨hv, (same_list cs ds).mp q⟩
  · exact Or.inr ⟨hv, fun e => q ((same_list cs ds).mpr e)⟩
end StrChars.Road
namespace StrChars.Road
open Jvm Sem ClassFile Op Lib Jvm.Stand Jvm.Free Jvm.Free.XT
open Jvm.Lib.Cold (StaticIs)
/-- what backV says of its String, as the contracts of this text ask it: cs's low bytes, coder 0 -/
theorem codOf {cs : List Int32} {n : Nat} (hn : cs.length = n) (hb : ∀ c ∈ cs, ¬ 255 < c) : CodA cs 0 (Int32.ofNat n) ((cs.map lo8).map Value.int) := Or.inl ⟨rfl, by rw [hn], by simp [List.map_map, Function.comp_def], hb⟩
end StrChars.Road
end Jvm.Pilot.@@N@@
namespace Jvm.Pilot.@@N@@
open Jvm Jvm.ClassFile Sem Op Lib Jvm.Free Jvm.Stand Jvm.LawKit Jvm.RoadKit Bundle Jvm.Pilot.@@N@@.Jvm.D
abbrev EL : List (String × Nat) := consts_1
theorem own_and255 (x : Int32) : ¬ nar .char ((x &&& (255 : Int32)).toUInt32.toUInt16.toUInt32.toInt32) < 0 ∧ ¬ (255 : Int32) < nar .char ((x &&& (255 : Int32)).toUInt32.toUInt16.toUInt32.toInt32) := by
  have t : ∀ k : Fin 256, ¬ nar .char ((Int32.ofNat k.val).toUInt32.toUInt16.toUInt32.toInt32) < 0 ∧ ¬ (255 : Int32) < nar .char ((Int32.ofNat k.val).toUInt32.toUInt16.toUInt32.toInt32) := by decide +kernel
  have h : (x &&& 255).toBitVec.toNat < 256 := by
    simp only [Int32.toBitVec_and, BitVec.toNat_and]
    exact Nat.lt_succ_of_le Nat.and_le_right
  have e : (x &&& 255) = Int32.ofNat (x &&& 255).toBitVec.toNat := by
    apply Int32.toBitVec_inj.mp
    show _ = BitVec.ofNat 32 _
    rw [BitVec.ofNat_toNat]; simp
  rw [e]
  exact t ⟨_, h⟩
theorem own_up (cs : List Int32) (h : ∀ c ∈ cs, ¬ c < 0 ∧ ¬ (255 : Int32) < c) : ∀ c ∈ cs, ¬ c < 0 ∧ ¬ (65535 : Int32) < c := fun c hc => ⟨(h c hc).1, fun q => (h c hc).2 (by rw [Int32.lt_iff_toInt_lt] at q ⊢; have e1 : (65535 : Int32).toInt = 65535 := rfl; have e2 : (255 : Int32).toInt = 255 := rfl; omega)⟩
def own_C (c : Int32) : Prop := (¬ c < 0 ∧ ¬ (255 : Int32) < c) ∧ nar .char c = c
theorem own_C_of (x : Int32) : own_C ((x &&& (255 : Int32)).toUInt32.toUInt16.toUInt32.toInt32) := by
  have t : ∀ k : Fin 256, (¬ (Int32.ofNat k.val).toUInt32.toUInt16.toUInt32.toInt32 < 0 ∧ ¬ (255 : Int32) < (Int32.ofNat k.val).toUInt32.toUInt16.toUInt32.toInt32) ∧ nar .char ((Int32.ofNat k.val).toUInt32.toUInt16.toUInt32.toInt32) = (Int32.ofNat k.val).toUInt32.toUInt16.toUInt32.toInt32 := by decide +kernel
  have h : (x &&& 255).toBitVec.toNat < 256 := by
    simp only [Int32.toBitVec_and, BitVec.toNat_and]
    exact Nat.lt_succ_of_le Nat.and_le_right
  have e : (x &&& 255) = Int32.ofNat (x &&& 255).toBitVec.toNat := by
    apply Int32.toBitVec_inj.mp
    show _ = BitVec.ofNat 32 _
    rw [BitVec.ofNat_toNat]; simp
  rw [e]
  exact t ⟨_, h⟩
def own_str (n a b c : Int32) : List Int32 := if n = 0 then [] else if n = 1 then [a] else if n = 2 then [a, b] else [a, b, c]
theorem own_len4 (n a b c : Int32) : (own_str n a b c).length ≤ 4000 := by
  unfold own_str
  split
  · exact Nat.le_of_ble_eq_true rfl
  · split
    · exact Nat.le_of_ble_eq_true rfl
    · split <;> exact Nat.le_of_ble_eq_true rfl
theorem own_all {n a b c : Int32} (ha : own_C a) (hb : own_C b) (hc : own_C c) : ∀ x ∈ own_str n a b c, ¬ x < 0 ∧ ¬ (255 : Int32) < x := by
  intro x hx
  unfold own_str at hx
  split at hx
  · cases hx
  · split at hx
    · simp only [List.mem_cons, List.not_mem_nil, or_false] at hx; rw [hx]; exact ha.1
    · split at hx
      · simp only [List.mem_cons, List.not_mem_nil, or_false] at hx; rcases hx with rfl | rfl
        · exact ha.1
        · exact hb.1
      · simp only [List.mem_cons, List.not_mem_nil, or_false] at hx; rcases hx with rfl | rfl | rfl
        · exact ha.1
        · exact hb.1
        · exact hc.1
abbrev own_4 (n : Int32) : Prop := n = 0 ∨ n = 1 ∨ n = 2 ∨ n = 3
theorem own_3 (x : Int32) : own_4 (x &&& (3 : Int32)) := by
  have m := c_mask x 3 2 (by decide) (by decide)
  have t : ∀ k : Fin 4, own_4 (Int32.ofNat k.val) := by decide +kernel
  have e : x &&& (3 : Int32) = Int32.ofNat (x &&& (3 : Int32)).toInt.toNat := by
    apply Int32.toInt_inj.mp
    rw [Int32.toInt_ofNat_of_lt (by omega)]; omega
  rw [e]
  exact t ⟨(x &&& (3 : Int32)).toInt.toNat, by omega⟩
theorem own_eq {n m a b c a' b' c' : Int32} (h1 : own_4 n) (h2 : own_4 m) : (n = m ∧ (n < (1 : Int32) ∨ a = a') ∧ (n < (2 : Int32) ∨ b = b') ∧ (n < (3 : Int32) ∨ c = c')) ↔ own_str n a b c = own_str m a' b' c' := by
  have d : (¬ (1 : Int32) < 1 ∧ ¬ (2 : Int32) < 1 ∧ ¬ (3 : Int32) < 1) ∧ (¬ (2 : Int32) < 2 ∧ ¬ (3 : Int32) < 2) ∧ ¬ (3 : Int32) < 3 := by decide
  have u : ((0 : Int32) < 1 ∧ (0 : Int32) < 2 ∧ (0 : Int32) < 3) ∧ ((1 : Int32) < 2 ∧ (1 : Int32) < 3) ∧ (2 : Int32) < 3 := by decide
  have n1 : ¬ (0 : Int32) = 1 ∧ ¬ (0 : Int32) = 2 ∧ ¬ (0 : Int32) = 3 ∧ ¬ (1 : Int32) = 2 ∧ ¬ (1 : Int32) = 3 ∧ ¬ (2 : Int32) = 3 ∧ ¬ (1 : Int32) = 0 ∧ ¬ (2 : Int32) = 0 ∧ ¬ (3 : Int32) = 0 ∧ ¬ (2 : Int32) = 1 ∧ ¬ (3 : Int32) = 1 ∧ ¬ (3 : Int32) = 2 := by decide
  rcases h1 with rfl | rfl | rfl | rfl <;> rcases h2 with rfl | rfl | rfl | rfl <;> simp only [own_str, if_true, if_false, n1, u, d, true_and, false_and, true_or, false_or, List.cons.injEq, and_true, reduceCtorEq, and_false]
def own_kd (d : Nat → Addr) (i : Int32) : Addr := if i = 0 then d 0 else if i = 1 then d 1 else if i = 2 then d 2 else if i = 3 then d 3 else if i = 4 then d 4 else if i = 5 then d 5 else if i = 6 then d 6 else if i = 7 then d 7 else if i = 8 then d 8 else if i = 9 then d 9 else d 10
theorem own_kdn (d : Nat → Addr) (j : Nat) (h : j ≤ 10) : own_kd d (Int32.ofNat j) = d j := by
  have : j = 0 ∨ j = 1 ∨ j = 2 ∨ j = 3 ∨ j = 4 ∨ j = 5 ∨ j = 6 ∨ j = 7 ∨ j = 8 ∨ j = 9 ∨ j = 10 := by omega
  rcases this with rfl | rfl | rfl | rfl | rfl | rfl | rfl | rfl | rfl | rfl | rfl <;> rfl
theorem own_rem (y : Int32) : ∃ j : Nat, (y &&& (2147483647 : Int32)) - ((y &&& (2147483647 : Int32)) / (11 : Int32)) * (11 : Int32) = Int32.ofNat j ∧ j ≤ 10 := by
  have m := c_mask y 2147483647 31 (by decide) (by decide)
  have d := (c_idiv (y &&& (2147483647 : Int32)) 11 11 rfl (by decide)).1 (by omega)
  have ml := c_imul ((y &&& (2147483647 : Int32)) / (11 : Int32)) 11
  have sb := c_isub (y &&& (2147483647 : Int32)) (((y &&& (2147483647 : Int32)) / (11 : Int32)) * (11 : Int32))
  have r1 := rng32 (((y &&& (2147483647 : Int32)) / (11 : Int32)) * (11 : Int32))
  have r2 := rng32 ((y &&& (2147483647 : Int32)) - ((y &&& (2147483647 : Int32)) / (11 : Int32)) * (11 : Int32))
  have e11 : (11 : Int32).toInt = 11 := rfl
  rw [d, e11] at ml
  refine ⟨((y &&& (2147483647 : Int32)) - ((y &&& (2147483647 : Int32)) / (11 : Int32)) * (11 : Int32)).toInt.toNat, ?_, by omega⟩
  apply Int32.toInt_inj.mp
  rw [Int32.toInt_ofNat_of_lt (by omega)]; omega
theorem own_jj {i j : Nat} (hi : i ≤ 10) (hj : j ≤ 10) (h : Int32.ofNat i = Int32.ofNat j) : i = j := by
  have := congrArg Int32.toInt h
  rw [Int32.toInt_ofNat_of_lt (by omega), Int32.toInt_ofNat_of_lt (by omega)] at this
  omega
theorem d3_0 : decode jdk_42_method_149_code 0 = .ok (.aload_n 0, 1) := by decide +kernel
theorem d3_1 : decode jdk_42_method_149_code 1 = .ok (.invokespecial 1, 3) := by decide +kernel
theorem d3_4 : decode jdk_42_method_149_code 4 = .ok (.iload_n 3, 1) := by decide +kernel
theorem d3_5 : decode jdk_42_method_149_code 5 = .ok (.ifCond .ne 22, 3) := by decide +kernel
theorem d3_8 : decode jdk_42_method_149_code 8 = .ok (.aload_n 0, 1) := by decide +kernel
theorem d3_9 : decode jdk_42_method_149_code 9 = .ok (.ldc 7, 2) := by decide +kernel
theorem d3_11 : decode jdk_42_method_149_code 11 = .ok (.getfield 9, 3) := by decide +kernel
theorem d3_14 : decode jdk_42_method_149_code 14 = .ok (.putfield 9, 3) := by decide +kernel
theorem d3_17 : decode jdk_42_method_149_code 17 = .ok (.aload_n 0, 1) := by decide +kernel
theorem d3_18 : decode jdk_42_method_149_code 18 = .ok (.ldc 7, 2) := by decide +kernel
theorem d3_20 : decode jdk_42_method_149_code 20 = .ok (.getfield 15, 3) := by decide +kernel
theorem d3_23 : decode jdk_42_method_149_code 23 = .ok (.putfield 15, 3) := by decide +kernel
theorem d3_26 : decode jdk_42_method_149_code 26 = .ok (.return_, 1) := by decide +kernel
theorem pn_397d88e : plainName "java/lang/String" = true := by first | (simp [plainName, overriddenIn]; done) | decide +kernel
theorem ef_3 (m : MethodId) (x0 : Addr) (x1 : Addr) (x2 : Int32) (x3 : Int32) : entryFrame m #[(.ref x0), (.ref x1), (.int x2), (.int x3), .null] 6 = mkF m 0 #[.val (.ref x0), .val (.ref x1), .val (.int x2), .val (.int x3), .val .null, .unset] [] := by first | (simp [entryFrame, mkF, argsToLocals, Value.category]; done) | rfl
def Q_rmSE4 (Z : State) (x b : Addr) (h0 : Heap) (n0 : Nat) (v : Option Value) (h : Heap) (L : List Loc) : Prop := v = none ∧ Fr n0 L ∧ Keep h0 h [x] ∧ Exa Z h x "java/lang/String" ∧ Fld Z h x "java/lang/String" "coder" "B" (.int (0 : Int32)) ∧ ∃ (t : Addr) (kb : ClassId), ¬ t = x ∧ Fld Z h x "java/lang/String" "value" "[B" (.ref t) ∧ Arv Z h t kb .byte (0 : Int32) [] (.int (0 : Int32))
set_option maxRecDepth 65536 in
set_option maxHeartbeats 40000000 in
theorem rmSE4 (l : Launch) (Z : State) (a0 : Array Value) (hw : ∀ d ∈ tables_1, d.before a0 Z = true) (x b : Addr) (h0 : Heap) (n0 : Nat) (Z0 : n0 ≤ h0.size) (E1 : Exa Z h0 x "java/lang/String") (g_x : n0 ≤ x) (Fv : Fld Z h0 x "java/lang/String" "value" "[B" .null) (Fc : Fld Z h0 x "java/lang/String" "coder" "B" (.int (0 : Int32))) (hEL : EW Z a0 EL) (wS : ∀ a ∈ Bundle.stringAtoms, a.before a0 Z = true) :
    MetFree l (⟨"java/lang/String", "<init>", "([CIILjava/lang/Void;)V"⟩ : MethodName) (head1 [Jvm.Cond.code (⟨"java/lang/String", "<init>", "([CIILjava/lang/Void;)V"⟩ : MethodName) jdk_42_method_149_code 6 none] ({ frames := 1, cells := 2, slots := 4, locals := 15 } : Room)) (fun a U => a = #[(.ref x), (.ref b), (.int (0 : Int32)), (.int (0 : Int32)), .null] ∧ Z.Warmed39 U.vm ∧ U.heap = h0 ∧ CHv Z EL U.vm h0) (fun _ _ _ _ _ => True) (fun _ U o U' => ∃ v L, o = .returned v ∧ (Q_rmSE4 Z x b h0 n0) v U'.heap L ∧ CHr Z EL U.vm U.heap U'.vm U'.heap ∧ ReturnedEndW U o U' L ({ frames := 1, cells := 2, slots := 4, locals := 15 } : Room).cells ({ frames := 1, cells := 2, slots := 4, locals := 15 } : Room).slots) := by
  refine MetFree.of_bodySF (plainFor_of_name pn_397d88e) hisR ?_
  intro p e s m args below meth c s₁ Bd hml0 hP hK
  obtain ⟨rfl, hZ, hh, hCH⟩ := hP
  have hx := Bd.exec
  have hby := Bd.bytes
  have hml : c.maxLocals = 6 := hml0
  have hown : s.vm.findClass "java/lang/String" = some m.cls := findClass_of_methodNamed Bd.named
  have hnm := (name_of_methodNamed Bd.named Bd.method).1
  have X0 : Stand p l e ({ frames := 1, cells := 2, slots := 4, locals := 15 } : Room) s m #[(.ref x), (.ref b), (.int (0 : Int32)), (.int (0 : Int32)), .null] below meth c s₁ [] 0 0 := Stand.of_body Bd
  have e0 : s₁.heap = h0 := by rw [← hh, Bd.state]; rfl
  have N0 := Fr.nil n0
  have K0 : Keep h0 h0 [x] := Keep.refl h0 [x]
  have X0h : Stand p l e ({ frames := 1, cells := 2, slots := 4, locals := 15 } : Room) (s.setVm s.vm) m #[(.ref x), (.ref b), (.int (0 : Int32)), (.int (0 : Int32)), .null] below meth c s₁ [] 0 0 := X0
  have hZh : Z.Warmed39 (s.setVm s.vm).vm := hZ
  have hownh : (s.setVm s.vm).vm.findClass "java/lang/String" = some m.cls := hown
  have hS0 : s.Since s.vm 0 := (State.WarmedH.refl s).since 0
  have C0 : CHr Z EL s.vm h0 s.vm h0 := CHr.refl hCH
  show Go p e below (s₁.setTop (entryFrame m #[(.ref x), (.ref b), (.int (0 : Int32)), (.int (0 : Int32)), .null] 6)) (EndH Z EL s (Q_rmSE4 Z x b h0 n0) ({ frames := 1, cells := 2, slots := 4, locals := 15 } : Room).cells ({ frames := 1, cells := 2, slots := 4, locals := 15 } : Room).slots)
  refine Go.top (ef_3 m x b (0 : Int32) (0 : Int32)) ?_
  refine Go.st (T' := s₁.setTop (mkF m 1 #[.val (.ref x), .val (.ref b), .val (.int (0 : Int32)), .val (.int (0 : Int32)), .val .null, .unset] [(.ref x)])) (fun t k => XS.aloadN X0h.here hx rfl (hb hby d3_0) rfl rfl k) ?_
  obtain ⟨T1, X1, e1, st1⟩ := initO X0h hx hZh hownh (hw _ (List.mem_of_getElem? (i := 16) rfl)) (hw _ (List.mem_of_getElem? (i := 17) rfl)) (hw _ (List.mem_of_getElem? (i := 18) rfl)) e0 (g := (mkF m 1 #[.val (.ref x), .val (.ref b), .val (.int (0 : Int32)), .val (.int (0 : Int32)), .val .null, .unset] [(.ref x)])) rfl (by rw [hml]; rfl) rfl (hb hby d3_1) (by decide) (W := 0) (by show 2 * 0 + _ ≤ _; exact Nat.le_of_eq rfl) (by decide)
  refine Go.st (T' := T1.setTop (mkF m 4 #[.val (.ref x), .val (.ref b), .val (.int (0 : Int32)), .val (.int (0 : Int32)), .val .null, .unset] [])) (fun t k => st1 t k) ?_
  refine Go.st (T' := T1.setTop (mkF m 5 #[.val (.ref x), .val (.ref b), .val (.int (0 : Int32)), .val (.int (0 : Int32)), .val .null, .unset] [(.int (0 : Int32))])) (fun t k => XS.iloadN X1.here hx rfl (hb hby d3_4) rfl k) ?_
  refine Go.st (T' := T1.setTop (mkF m 8 #[.val (.ref x), .val (.ref b), .val (.int (0 : Int32)), .val (.int (0 : Int32)), .val .null, .unset] [])) (fun t k => XS.ifNo X1.here hx rfl (hb hby d3_5) rfl ((if0 _ _).trans (teq rfl).2) k) ?_
  have SX0 : Safe Z EL s.vm h0 x := own_safe hZ.alike E1 Fv
  refine Go.st (T' := T1.setTop (mkF m 9 #[.val (.ref x), .val (.ref b), .val (.int (0 : Int32)), .val (.int (0 : Int32)), .val .null, .unset] [(.ref x)])) (fun t k => XS.aloadN X1.here hx rfl (hb hby d3_8) rfl rfl k) ?_
  obtain ⟨a2, T2, h2, kS2, b2, kb2, X2, e2, E2, hS2, hk2, hZ2, ho2, EA2, CA2, VA2, BA2, lta2, ltb2, CC2, LA2, SF2, st2⟩ := ldcCH (s := s) (vm0 := s.vm) (EL := EL) X1 hx hZh hownh (hw _ (List.mem_of_getElem? (i := 19) rfl)) wS e1 hS0 (Nat.zero_le _) hEL (List.mem_of_getElem? (i := 0) rfl) C0.1 (vs := []) (z := (0 : Int32)) ⟨by decide, rfl⟩ (by decide) (by decide) (g := (mkF m 9 #[.val (.ref x), .val (.ref b), .val (.int (0 : Int32)), .val (.int (0 : Int32)), .val .null, .unset] [(.ref x)])) rfl (hb hby d3_9) (n := 0) (by decide) (by decide) (by decide) (by decide)
  have K2 : Keep h0 h2 [x] := K0.ext E2
  have C3 : CHr Z EL s.vm h0 T2.vm h2 := C0.trans CC2
  refine Go.st (T' := T2.setTop (mkF m 11 #[.val (.ref x), .val (.ref b), .val (.int (0 : Int32)), .val (.int (0 : Int32)), .val .null, .unset] [(.ref a2), (.ref x)])) (fun t k => st2 t k) ?_
  have SX1 : Safe Z EL T2.vm h2 x := CC2.safe E1.lt SX0
  obtain ⟨nxa, nxb⟩ := SF2 x SX1
  obtain ⟨T4, X4, e4, st4⟩ := getF X2 hx hZ2 ho2 (host := "") (Or.inl (hw _ (List.mem_of_getElem? (i := 25) rfl))) Via.refl e2 VA2 (g := (mkF m 11 #[.val (.ref x), .val (.ref b), .val (.int (0 : Int32)), .val (.int (0 : Int32)), .val .null, .unset] [(.ref a2), (.ref x)])) rfl rfl (hb hby d3_11)
  refine Go.st (T' := T4.setTop (mkF m 14 #[.val (.ref x), .val (.ref b), .val (.int (0 : Int32)), .val (.int (0 : Int32)), .val .null, .unset] [(.ref b2), (.ref x)])) (fun t k => st4 t k) ?_
  have f5 : Fld Z h2 x "java/lang/String" "value" "[B" .null := (Fv.ext E2)
  have f6 : Exa Z h2 x "java/lang/String" := (E1.ext E2)
  obtain ⟨T7, h7, X7, e7, W7, st7⟩ := putF X4 hx hZ2 ho2 (host := "") (Or.inl (hw _ (List.mem_of_getElem? (i := 25) rfl))) Via.refl e4 f5 f6 (Or.inr ⟨(hw _ (List.mem_of_getElem? (i := 21) rfl)), rfl, hnm⟩) (hw _ (List.mem_of_getElem? (i := 6) rfl)) (ty := (.array .byte)) (by decide) rfl rfl (g := (mkF m 14 #[.val (.ref x), .val (.ref b), .val (.int (0 : Int32)), .val (.int (0 : Int32)), .val .null, .unset] [(.ref b2), (.ref x)])) rfl rfl (hb hby d3_14)
  have C8 : CHr Z EL s.vm h0 T2.vm h7 := C3.trans (CHr.wr W7 SX1 C3.1)
  have Fw7 : Fld Z h7 x "java/lang/String" "value" "[B" (.ref b2) := f5.same W7
  have K7 : Keep h0 h7 [x] := K2.wr W7 (Or.inl (List.mem_of_getElem? (i := 0) rfl))
  have N7 := Fr.snoc X7 N0 g_x
  refine Go.st (T' := T7.setTop (mkF m 17 #[.val (.ref x), .val (.ref b), .val (.int (0 : Int32)), .val (.int (0 : Int32)), .val .null, .unset] [])) (fun t k => st7 t k) ?_
  have SX2 : Safe Z EL T2.vm h7 x := Safe.wr W7 SX1 C3.1 SX1
  refine Go.st (T' := T7.setTop (mkF m 18 #[.val (.ref x), .val (.ref b), .val (.int (0 : Int32)), .val (.int (0 : Int32)), .val .null, .unset] [(.ref x)])) (fun t k => XS.aloadN X7.here hx rfl (hb hby d3_17) rfl rfl k) ?_
  refine Go.st (T' := T7.setTop (mkF m 20 #[.val (.ref x), .val (.ref b), .val (.int (0 : Int32)), .val (.int (0 : Int32)), .val .null, .unset] [(.ref a2), (.ref x)])) (fun t k => ldcAgain (s := s) (vm0 := T2.vm) X7 hx hZ2 ho2 (hw _ (List.mem_of_getElem? (i := 19) rfl)) LA2 (g := (mkF m 18 #[.val (.ref x), .val (.ref b), .val (.int (0 : Int32)), .val (.int (0 : Int32)), .val .null, .unset] [(.ref x)])) rfl (hb hby d3_18) t k) ?_
  have f10 : Fld Z h7 a2 "java/lang/String" "coder" "B" (.int (0 : Int32)) := (CA2.other W7 (Or.inl (Ne.symm nxa)))
  obtain ⟨T11, X11, e11, st11⟩ := getF X7 hx hZ2 ho2 (host := "") (Or.inl (hw _ (List.mem_of_getElem? (i := 26) rfl))) Via.refl e7 f10 (g := (mkF m 20 #[.val (.ref x), .val (.ref b), .val (.int (0 : Int32)), .val (.int (0 : Int32)), .val .null, .unset] [(.ref a2), (.ref x)])) rfl rfl (hb hby d3_20)
  refine Go.st (T' := T11.setTop (mkF m 23 #[.val (.ref x), .val (.ref b), .val (.int (0 : Int32)), .val (.int (0 : Int32)), .val .null, .unset] [(.int (0 : Int32)), (.ref x)])) (fun t k => st11 t k) ?_
  have f12 : Fld Z h7 x "java/lang/String" "coder" "B" (.int (0 : Int32)) := ((Fc.ext E2).other W7 (Or.inr (slot_ne (Or.inr (hw _ (List.mem_of_getElem? (i := 22) rfl))) (Or.inr (hw _ (List.mem_of_getElem? (i := 21) rfl))) (by decide) (t := .byte) (t' := (.array .byte)) (by decide) (by decide))))
  have f13 : Exa Z h7 x "java/lang/String" := (f6.wr W7)
  obtain ⟨T14, h14, X14, e14, W14, st14⟩ := putFN X11 hx hZ2 ho2 (hw _ (List.mem_of_getElem? (i := 26) rfl)) Via.refl e11 f12 f13 (Or.inr ⟨(hw _ (List.mem_of_getElem? (i := 22) rfl)), rfl, hnm⟩) (hw _ (List.mem_of_getElem? (i := 6) rfl)) (ty := .byte) (v' := (.int (nar .byte (0 : Int32)))) (by decide) rfl (fits_nar_byte _) (g := (mkF m 23 #[.val (.ref x), .val (.ref b), .val (.int (0 : Int32)), .val (.int (0 : Int32)), .val .null, .unset] [(.int (0 : Int32)), (.ref x)])) rfl rfl (hb hby d3_23)
  have C15 : CHr Z EL s.vm h0 T2.vm h14 := C8.trans (CHr.wr W14 SX2 C8.1)
  have Fw14 : Fld Z h14 x "java/lang/String" "coder" "B" (.int (nar .byte (0 : Int32))) := f12.same W14
  have K14 : Keep h0 h14 [x] := K7.wr W14 (Or.inl (List.mem_of_getElem? (i := 0) rfl))
  have N14 := Fr.snoc X14 N7 g_x
  refine Go.st (T' := T14.setTop (mkF m 26 #[.val (.ref x), .val (.ref b), .val (.int (0 : Int32)), .val (.int (0 : Int32)), .val .null, .unset] [])) (fun t k => st14 t k) ?_
  have f16 : Exa Z h14 x "java/lang/String" := (f13.wr W14)
  have f17 : Fld Z h14 x "java/lang/String" "value" "[B" (.ref b2) := (Fw7.other W14 (Or.inr (slot_ne (Or.inr (hw _ (List.mem_of_getElem? (i := 21) rfl))) (Or.inr (hw _ (List.mem_of_getElem? (i := 22) rfl))) (by decide) (t := (.array .byte)) (t' := .byte) (by decide) (by decide))))
  have f18 : Arv Z h14 b2 kb2 .byte (0 : Int32) [] (.int (0 : Int32)) := ((BA2.other W7 (Ne.symm nxb)).other W14 (Ne.symm nxb))
  exact Go.doneH X14 hS2 (by rw [e14]; exact (Nat.le_trans hk2 (by have q := (Nat.le_trans (Nat.le_trans (Nat.le_refl h2.size) (Keep.of_wr W7).1) (Keep.of_wr W14).1); omega))) Bd.notSynchronized (v := none) (fun _ => rfl) (fun fs hr => X14.returnOut hx Bd.returns (hb hby d3_26) hr) (by rw [e14]; exact ⟨rfl, N14, K14, f16, Fw14, b2, kb2, Ne.symm nxb, f17, f18⟩) (by decide) (by decide) hZ2 hEL hh e14 C15
theorem d2_0 : decode jdk_42_method_3_code 0 = .ok (.aload_n 0, 1) := by decide +kernel
theorem d2_1 : decode jdk_42_method_3_code 1 = .ok (.aload_n 1, 1) := by decide +kernel
theorem d2_2 : decode jdk_42_method_3_code 2 = .ok (.iconst 0, 1) := by decide +kernel
theorem d2_3 : decode jdk_42_method_3_code 3 = .ok (.aload_n 1, 1) := by decide +kernel
theorem d2_4 : decode jdk_42_method_3_code 4 = .ok (.arraylength, 1) := by decide +kernel
theorem d2_5 : decode jdk_42_method_3_code 5 = .ok (.aconst_null, 1) := by decide +kernel
theorem d2_6 : decode jdk_42_method_3_code 6 = .ok (.invokespecial 27, 3) := by decide +kernel
theorem d2_9 : decode jdk_42_method_3_code 9 = .ok (.return_, 1) := by decide +kernel
theorem pd_f3a733a : parseMethodDescriptor "([CIILjava/lang/Void;)V" = some ⟨[(.array .char), .int, .int, (.object "java/lang/Void")], none⟩ := by decide +kernel
theorem ef_2 (m : MethodId) (x0 : Addr) (x1 : Addr) : entryFrame m #[(.ref x0), (.ref x1)] 2 = mkF m 0 #[.val (.ref x0), .val (.ref x1)] [] := by first | (simp [entryFrame, mkF, argsToLocals, Value.category]; done) | rfl
def Q_rmSE1 (Z : State) (x b : Addr) (kB : ClassId) (h0 : Heap) (n0 : Nat) (v : Option Value) (h : Heap) (L : List Loc) : Prop := v = none ∧ Fr n0 L ∧ Keep h0 h [x] ∧ Exa Z h x "java/lang/String" ∧ Fld Z h x "java/lang/String" "coder" "B" (.int (0 : Int32)) ∧ ∃ (t : Addr) (kb : ClassId), ¬ t = x ∧ Fld Z h x "java/lang/String" "value" "[B" (.ref t) ∧ Arv Z h t kb .byte (0 : Int32) [] (.int (0 : Int32))
set_option maxRecDepth 65536 in
set_option maxHeartbeats 40000000 in
theorem rmSE1 (l : Launch) (Z : State) (a0 : Array Value) (hw : ∀ d ∈ tables_1, d.before a0 Z = true) (x b : Addr) (kB : ClassId) (h0 : Heap) (n0 : Nat) (Z0 : n0 ≤ h0.size) (E1 : Exa Z h0 x "java/lang/String") (g_x : n0 ≤ x) (Fv : Fld Z h0 x "java/lang/String" "value" "[B" .null) (Fc : Fld Z h0 x "java/lang/String" "coder" "B" (.int (0 : Int32))) (hEL : EW Z a0 EL) (wS : ∀ a ∈ Bundle.stringAtoms, a.before a0 Z = true) (Vb : Arv Z h0 b kB .char (0 : Int32) [] (.int (0 : Int32))) :
    MetFree l (⟨"java/lang/String", "<init>", "([C)V"⟩ : MethodName) (head1 [Jvm.Cond.code (⟨"java/lang/String", "<init>", "([C)V"⟩ : MethodName) jdk_42_method_3_code 2 none] ({ frames := 2, cells := 2, slots := 4, locals := 32 } : Room)) (fun a U => a = #[(.ref x), (.ref b)] ∧ Z.Warmed39 U.vm ∧ U.heap = h0 ∧ CHv Z EL U.vm h0) (fun _ _ _ _ _ => True) (fun _ U o U' => ∃ v L, o = .returned v ∧ (Q_rmSE1 Z x b kB h0 n0) v U'.heap L ∧ CHr Z EL U.vm U.heap U'.vm U'.heap ∧ ReturnedEndW U o U' L ({ frames := 2, cells := 2, slots := 4, locals := 32 } : Room).cells ({ frames := 2, cells := 2, slots := 4, locals := 32 } : Room).slots) := by
  refine MetFree.of_bodySF (plainFor_of_name pn_397d88e) hisR ?_
  intro p e s m args below meth c s₁ Bd hml0 hP hK
  obtain ⟨rfl, hZ, hh, hCH⟩ := hP
  have hx := Bd.exec
  have hby := Bd.bytes
  have hml : c.maxLocals = 2 := hml0
  have hown : s.vm.findClass "java/lang/String" = some m.cls := findClass_of_methodNamed Bd.named
  have hnm := (name_of_methodNamed Bd.named Bd.method).1
  have X0 : Stand p l e ({ frames := 2, cells := 2, slots := 4, locals := 32 } : Room) s m #[(.ref x), (.ref b)] below meth c s₁ [] 0 0 := Stand.of_body Bd
  have e0 : s₁.heap = h0 := by rw [← hh, Bd.state]; rfl
  have N0 := Fr.nil n0
  have K0 : Keep h0 h0 [x] := Keep.refl h0 [x]
  have X0h : Stand p l e ({ frames := 2, cells := 2, slots := 4, locals := 32 } : Room) (s.setVm s.vm) m #[(.ref x), (.ref b)] below meth c s₁ [] 0 0 := X0
  have hZh : Z.Warmed39 (s.setVm s.vm).vm := hZ
  have hownh : (s.setVm s.vm).vm.findClass "java/lang/String" = some m.cls := hown
  have hS0 : s.Since s.vm 0 := (State.WarmedH.refl s).since 0
  have C0 : CHr Z EL s.vm h0 s.vm h0 := CHr.refl hCH
  show Go p e below (s₁.setTop (entryFrame m #[(.ref x), (.ref b)] 2)) (EndH Z EL s (Q_rmSE1 Z x b kB h0 n0) ({ frames := 2, cells := 2, slots := 4, locals := 32 } : Room).cells ({ frames := 2, cells := 2, slots := 4, locals := 32 } : Room).slots)
  refine Go.top (ef_2 m x b) ?_
  refine Go.st (T' := s₁.setTop (mkF m 1 #[.val (.ref x), .val (.ref b)] [(.ref x)])) (fun t k => XS.aloadN X0h.here hx rfl (hb hby d2_0) rfl rfl k) ?_
  refine Go.st (T' := s₁.setTop (mkF m 2 #[.val (.ref x), .val (.ref b)] [(.ref b), (.ref x)])) (fun t k => XS.aloadN X0h.here hx rfl (hb hby d2_1) rfl rfl k) ?_
  refine Go.st (T' := s₁.setTop (mkF m 3 #[.val (.ref x), .val (.ref b)] [(.int (0 : Int32)), (.ref b), (.ref x)])) (fun t k => XS.iconst X0h.here hx rfl (hb hby d2_2) k) ?_
  refine Go.st (T' := s₁.setTop (mkF m 4 #[.val (.ref x), .val (.ref b)] [(.ref b), (.int (0 : Int32)), (.ref b), (.ref x)])) (fun t k => XS.aloadN X0h.here hx rfl (hb hby d2_3) rfl rfl k) ?_
  obtain ⟨cl19, Ar19, -, S19, M19, -, -⟩ := id Vb
  refine Go.st (T' := s₁.setTop (mkF m 5 #[.val (.ref x), .val (.ref b)] [(.int (0 : Int32)), (.int (0 : Int32)), (.ref b), (.ref x)])) (fun t k => X0h.arraylength hx (by rw [e0]; exact Ar19.1) (State.isArrayOf_alike hZh.alike Ar19.2.1) (g := (mkF m 4 #[.val (.ref x), .val (.ref b)] [(.ref b), (.int (0 : Int32)), (.ref b), (.ref x)])) rfl rfl (hb hby d2_4) t (by rw [len_of S19 M19]; exact k)) ?_
  refine Go.st (T' := s₁.setTop (mkF m 6 #[.val (.ref x), .val (.ref b)] [.null, (.int (0 : Int32)), (.int (0 : Int32)), (.ref b), (.ref x)])) (fun t k => XS.aconstNull X0h.here hx rfl (hb hby d2_5) k) ?_
  obtain ⟨vr20, _, ⟨T20, L20, k20, n20⟩, -, X20, hs20, hg20, ⟨Lc20, hQ20, l20, y20, z20⟩, st20⟩ := X0h.specialBackS hx (y := (⟨"java/lang/String", "<init>", "([CIILjava/lang/Void;)V"⟩ : MethodName)) rfl hownh (mvT hZh (hw _ (List.mem_of_getElem? (i := 12) rfl))) (mvT hZh (hw _ (List.mem_of_getElem? (i := 13) rfl))) (mvT hZh (hw _ (List.mem_of_getElem? (i := 15) rfl))) (by decide) (backOfSH (s := s) (vm0 := s.vm) (W := 0) (rmSE4 l Z a0 hw x b h0 n0 Z0 E1 g_x Fv Fc hEL wS) hZh (hw _ (List.mem_of_getElem? (i := 15) rfl)) (hw _ (List.mem_of_getElem? (i := 7) rfl)) (by decide) (by decide) hEL C0.1) (g := (mkF m 6 #[.val (.ref x), .val (.ref b)] [.null, (.int (0 : Int32)), (.int (0 : Int32)), (.ref b), (.ref x)])) rfl (by rw [hml]; rfl) (Steps.refl _) (a := x) (argsL := [(.ref b), (.int (0 : Int32)), (.int (0 : Int32)), .null]) (rest := []) (lenOf pd_f3a733a rfl) rfl (by show 2 * 0 + _ ≤ _; exact Nat.le_of_eq rfl) (hb hby d2_6) (fun _ _ => ⟨rfl, e0, (by decide : 0 + 2 ≤ _), (by decide : 0 + 4 ≤ _)⟩)
  dsimp only [Pt.U, Pt.locs, Pt.cells, Pt.slots] at X20 l20 y20 z20 st20 hQ20 hs20 hg20
  subst l20 y20
  obtain ⟨z20, CC20⟩ := z20
  subst z20
  obtain ⟨rfl, Nq20, Kq20, Rq20⟩ := hQ20
  obtain ⟨Xr20, hSr20, hZr20, hor20⟩ := rebS (s := s) (vm0 := s.vm) hS0 (by rw [e0]; exact (Nat.zero_le _)) X20 hs20 hg20 hZh hownh
  have C21 : CHr Z EL s.vm h0 T20.vm T20.heap := C0.trans CC20
  have KK22 : Keep h0 T20.heap [x] := K0.trans Kq20 (allS (Or.inl (List.mem_of_getElem? (i := 0) rfl)) all0)
  have NN23 := Fr.app N0 Nq20
  refine Go.st (T' := T20.setTop (mkF m 9 #[.val (.ref x), .val (.ref b)] [])) (fun t k => st20.trans k) ?_
  exact Go.doneH Xr20 hSr20 (by rw [(rfl : T20.heap = T20.heap)]; exact (Nat.le_refl _)) Bd.notSynchronized (v := none) (fun _ => rfl) (fun fs hr => Xr20.returnOut hx Bd.returns (hb hby d2_9) hr) (by rw [(rfl : T20.heap = T20.heap)]; exact ⟨rfl, NN23, KK22, Rq20⟩) (by decide) (by decide) hZr20 hEL hh rfl C21
theorem d1_0 : decode method_3_code 0 = .ok (.iload_n 0, 1) := by decide +kernel
theorem d1_1 : decode method_3_code 1 = .ok (.ifCond .ne 14, 3) := by decide +kernel
theorem d1_4 : decode method_3_code 4 = .ok (.new 43, 3) := by decide +kernel
theorem d1_7 : decode method_3_code 7 = .ok (.dup, 1) := by decide +kernel
theorem d1_8 : decode method_3_code 8 = .ok (.iconst 0, 1) := by decide +kernel
theorem d1_9 : decode method_3_code 9 = .ok (.newarray .char, 2) := by decide +kernel
theorem d1_11 : decode method_3_code 11 = .ok (.invokespecial 45, 3) := by decide +kernel
theorem d1_14 : decode method_3_code 14 = .ok (.areturn, 1) := by decide +kernel
theorem d1_15 : decode method_3_code 15 = .ok (.iload_n 0, 1) := by decide +kernel
theorem d1_16 : decode method_3_code 16 = .ok (.iconst 1, 1) := by decide +kernel
theorem d1_17 : decode method_3_code 17 = .ok (.if_icmp .ne 18, 3) := by decide +kernel
theorem d1_20 : decode method_3_code 20 = .ok (.new 43, 3) := by decide +kernel
theorem d1_23 : decode method_3_code 23 = .ok (.dup, 1) := by decide +kernel
theorem d1_24 : decode method_3_code 24 = .ok (.iconst 1, 1) := by decide +kernel
theorem d1_25 : decode method_3_code 25 = .ok (.newarray .char, 2) := by decide +kernel
theorem d1_27 : decode method_3_code 27 = .ok (.dup, 1) := by decide +kernel
theorem d1_28 : decode method_3_code 28 = .ok (.iconst 0, 1) := by decide +kernel
theorem d1_29 : decode method_3_code 29 = .ok (.iload_n 1, 1) := by decide +kernel
theorem d1_30 : decode method_3_code 30 = .ok (.castore, 1) := by decide +kernel
theorem d1_31 : decode method_3_code 31 = .ok (.invokespecial 45, 3) := by decide +kernel
theorem d1_34 : decode method_3_code 34 = .ok (.areturn, 1) := by decide +kernel
theorem d1_35 : decode method_3_code 35 = .ok (.iload_n 0, 1) := by decide +kernel
theorem d1_36 : decode method_3_code 36 = .ok (.iconst 2, 1) := by decide +kernel
theorem d1_37 : decode method_3_code 37 = .ok (.if_icmp .ne 22, 3) := by decide +kernel
theorem d1_40 : decode method_3_code 40 = .ok (.new 43, 3) := by decide +kernel
theorem d1_43 : decode method_3_code 43 = .ok (.dup, 1) := by decide +kernel
theorem d1_44 : decode method_3_code 44 = .ok (.iconst 2, 1) := by decide +kernel
theorem d1_45 : decode method_3_code 45 = .ok (.newarray .char, 2) := by decide +kernel
theorem d1_47 : decode method_3_code 47 = .ok (.dup, 1) := by decide +kernel
theorem d1_48 : decode method_3_code 48 = .ok (.iconst 0, 1) := by decide +kernel
theorem d1_49 : decode method_3_code 49 = .ok (.iload_n 1, 1) := by decide +kernel
theorem d1_50 : decode method_3_code 50 = .ok (.castore, 1) := by decide +kernel
theorem d1_51 : decode method_3_code 51 = .ok (.dup, 1) := by decide +kernel
theorem d1_52 : decode method_3_code 52 = .ok (.iconst 1, 1) := by decide +kernel
theorem d1_53 : decode method_3_code 53 = .ok (.iload_n 2, 1) := by decide +kernel
theorem d1_54 : decode method_3_code 54 = .ok (.castore, 1) := by decide +kernel
theorem d1_55 : decode method_3_code 55 = .ok (.invokespecial 45, 3) := by decide +kernel
theorem d1_58 : decode method_3_code 58 = .ok (.areturn, 1) := by decide +kernel
theorem d1_59 : decode method_3_code 59 = .ok (.new 43, 3) := by decide +kernel
theorem d1_62 : decode method_3_code 62 = .ok (.dup, 1) := by decide +kernel
theorem d1_63 : decode method_3_code 63 = .ok (.iconst 3, 1) := by decide +kernel
theorem d1_64 : decode method_3_code 64 = .ok (.newarray .char, 2) := by decide +kernel
theorem d1_66 : decode method_3_code 66 = .ok (.dup, 1) := by decide +kernel
theorem d1_67 : decode method_3_code 67 = .ok (.iconst 0, 1) := by decide +kernel
theorem d1_68 : decode method_3_code 68 = .ok (.iload_n 1, 1) := by decide +kernel
theorem d1_69 : decode method_3_code 69 = .ok (.castore, 1) := by decide +kernel
theorem d1_70 : decode method_3_code 70 = .ok (.dup, 1) := by decide +kernel
theorem d1_71 : decode method_3_code 71 = .ok (.iconst 1, 1) := by decide +kernel
theorem d1_72 : decode method_3_code 72 = .ok (.iload_n 2, 1) := by decide +kernel
theorem d1_73 : decode method_3_code 73 = .ok (.castore, 1) := by decide +kernel
theorem d1_74 : decode method_3_code 74 = .ok (.dup, 1) := by decide +kernel
theorem d1_75 : decode method_3_code 75 = .ok (.iconst 2, 1) := by decide +kernel
theorem d1_76 : decode method_3_code 76 = .ok (.iload_n 3, 1) := by decide +kernel
theorem d1_77 : decode method_3_code 77 = .ok (.castore, 1) := by decide +kernel
theorem d1_78 : decode method_3_code 78 = .ok (.invokespecial 45, 3) := by decide +kernel
theorem d1_81 : decode method_3_code 81 = .ok (.areturn, 1) := by decide +kernel
theorem pn_e238abf : plainName "com/example/pass3/pass3/TokenIsPinLaw" = true := by first | (simp [plainName, overriddenIn]; done) | decide +kernel
theorem pd_a67b36d : parseMethodDescriptor "([C)V" = some ⟨[(.array .char)], none⟩ := by decide +kernel
theorem ef_1 (m : MethodId) (x0 : Int32) (x1 : Int32) (x2 : Int32) (x3 : Int32) : entryFrame m #[(.int x0), (.int x1), (.int x2), (.int x3)] 4 = mkF m 0 #[.val (.int x0), .val (.int x1), .val (.int x2), .val (.int x3)] [] := by first | (simp [entryFrame, mkF, argsToLocals, Value.category]; done) | rfl
def Q_rmStr (Z : State) (pn pa pb pc : Int32) (h0 : Heap) (n0 : Nat) (v : Option Value) (h : Heap) (L : List Loc) : Prop := Fr n0 L ∧ Keep h0 h [] ∧ ∃ (x t : Addr) (kb : ClassId), v = some (.ref x) ∧ Exa Z h x "java/lang/String" ∧ Fld Z h x "java/lang/String" "coder" "B" (.int (0 : Int32)) ∧ Fld Z h x "java/lang/String" "value" "[B" (.ref t) ∧ Arv Z h t kb .byte (Int32.ofNat (own_str pn pa pb pc).length) (((own_str pn pa pb pc).map (fun c => c.toInt8.toInt32)).map Value.int) (.int (0 : Int32))
set_option maxRecDepth 65536 in
set_option maxHeartbeats 40000000 in
theorem rmStr (l : Launch) (Z : State) (a0 : Array Value) (hw : ∀ d ∈ tables_1, d.before a0 Z = true) (pn pa pb pc : Int32) (h0 : Heap) (n0 : Nat) (Z0 : n0 ≤ h0.size) (G1 : Int32) (O2 : Sta Z Z.heap "java/lang/String" "COMPACT_STRINGS" "Z" (.int G1)) (P5 : ¬ (G1 = (0 : Int32))) (X00 : Old Z n0 h0) (hA : own_C pa) (hB : own_C pb) (hC : own_C pc) (hn : own_4 pn) (hEL : EW Z a0 EL) (wS : ∀ a ∈ Bundle.stringAtoms, a.before a0 Z = true) :
    MetFree l (⟨"com/example/pass3/pass3/TokenIsPinLaw", "str", "(ICCC)Ljava/lang/String;"⟩ : MethodName) (head1 [Jvm.Cond.code (⟨"com/example/pass3/pass3/TokenIsPinLaw", "str", "(ICCC)Ljava/lang/String;"⟩ : MethodName) method_3_code 4 (some (.object "java/lang/String"))] ({ frames := 5, cells := 5, slots := 11, locals := 84 } : Room)) (fun a U => a = #[(.int pn), (.int pa), (.int pb), (.int pc)] ∧ Z.Warmed39 U.vm ∧ U.heap = h0 ∧ CHv Z EL U.vm h0) (fun _ _ _ _ _ => True) (fun _ U o U' => ∃ v L, o = .returned v ∧ (Q_rmStr Z pn pa pb pc h0 n0) v U'.heap L ∧ CHr Z EL U.vm U.heap U'.vm U'.heap ∧ ReturnedEndW U o U' L ({ frames := 5, cells := 5, slots := 11, locals := 84 } : Room).cells ({ frames := 5, cells := 5, slots := 11, locals := 84 } : Room).slots) := by
  refine MetFree.of_bodySF (plainFor_of_name pn_e238abf) hisR ?_
  intro p e s m args below meth c s₁ Bd hml0 hP hK
  obtain ⟨rfl, hZ, hh, hCH⟩ := hP
  have hx := Bd.exec
  have hby := Bd.bytes
  have hml : c.maxLocals = 4 := hml0
  have hown : s.vm.findClass "com/example/pass3/pass3/TokenIsPinLaw" = some m.cls := findClass_of_methodNamed Bd.named
  have hnm := (name_of_methodNamed Bd.named Bd.method).1
  have X0 : Stand p l e ({ frames := 5, cells := 5, slots := 11, locals := 84 } : Room) s m #[(.int pn), (.int pa), (.int pb), (.int pc)] below meth c s₁ [] 0 0 := Stand.of_body Bd
  have e0 : s₁.heap = h0 := by rw [← hh, Bd.state]; rfl
  have N0 := Fr.nil n0
  have K0 : Keep h0 h0 [] := Keep.refl h0 []
  have X0h : Stand p l e ({ frames := 5, cells := 5, slots := 11, locals := 84 } : Room) (s.setVm s.vm) m #[(.int pn), (.int pa), (.int pb), (.int pc)] below meth c s₁ [] 0 0 := X0
  have hZh : Z.Warmed39 (s.setVm s.vm).vm := hZ
  have hownh : (s.setVm s.vm).vm.findClass "com/example/pass3/pass3/TokenIsPinLaw" = some m.cls := hown
  have hS0 : s.Since s.vm 0 := (State.WarmedH.refl s).since 0
  have C0 : CHr Z EL s.vm h0 s.vm h0 := CHr.refl hCH
  show Go p e below (s₁.setTop (entryFrame m #[(.int pn), (.int pa), (.int pb), (.int pc)] 4)) (EndH Z EL s (Q_rmStr Z pn pa pb pc h0 n0) ({ frames := 5, cells := 5, slots := 11, locals := 84 } : Room).cells ({ frames := 5, cells := 5, slots := 11, locals := 84 } : Room).slots)
  refine Go.top (ef_1 m pn pa pb pc) ?_
  have hws : ∀ d ∈ StrChars.Road.words, d.before a0 Z = true := fun d hd => hw d ((by decide +kernel : ∀ d ∈ StrChars.Road.words, d ∈ tables_1) d hd)
  refine Go.st (T' := s₁.setTop (mkF m 1 #[.val (.int pn), .val (.int pa), .val (.int pb), .val (.int pc)] [(.int pn)])) (fun t k => XS.iloadN X0h.here hx rfl (hb hby d1_0) rfl k) ?_
  by_cases hz0 : pn = (0 : Int32)
  ·
    refine Go.st (T' := s₁.setTop (mkF m 4 #[.val (.int pn), .val (.int pa), .val (.int pb), .val (.int pc)] [])) (fun t k => XS.ifNo X0h.here hx rfl (hb hby d1_1) rfl ((if0 _ _).trans (teq hz0).2) k) ?_
    obtain ⟨T24, h24, X24, e24, E24, A24, D24, -, st24⟩ := newO X0h hx hZh hownh (hw _ (List.mem_of_getElem? (i := 5) rfl)) (hw _ (List.mem_of_getElem? (i := 6) rfl)) (hw _ (List.mem_of_getElem? (i := 7) rfl)) e0 (g := (mkF m 4 #[.val (.int pn), .val (.int pa), .val (.int pb), .val (.int pc)] [])) rfl (hb hby d1_4) (by decide) (by decide)
    obtain ⟨b24, g24⟩ : ∃ z, z = h0.size := ⟨_, rfl⟩
    rw [← g24] at A24 D24 st24
    have g_b24 : n0 ≤ b24 := Nat.le_trans (Nat.le_trans Z0 K0.1) (Nat.le_of_eq g24.symm)
    have sz_b24 : h0.size ≤ b24 := Nat.le_trans K0.1 (Nat.le_of_eq g24.symm)
    have C25 : CHr Z EL s.vm h0 s.vm h24 := C0.trans (CHr.ext E24 C0.1)
    have K24 : Keep h0 h24 [] := K0.ext E24
    have Fn24_value : Fld Z h24 b24 "java/lang/String" "value" "[B" .null := D24 (Or.inr (hw _ (List.mem_of_getElem? (i := 21) rfl))) (ty := (.array .byte)) (by decide)
    have Fn24_coder : Fld Z h24 b24 "java/lang/String" "coder" "B" (.int (0 : Int32)) := D24 (Or.inr (hw _ (List.mem_of_getElem? (i := 22) rfl))) (ty := .byte) (by decide)
    refine Go.st (T' := T24.setTop (mkF m 7 #[.val (.int pn), .val (.int pa), .val (.int pb), .val (.int pc)] [(.ref b24)])) (fun t k => st24 t k) ?_
    refine Go.st (T' := T24.setTop (mkF m 8 #[.val (.int pn), .val (.int pa), .val (.int pb), .val (.int pc)] [(.ref b24), (.ref b24)])) (fun t k => XS.dup X24.here hx rfl (hb hby d1_7) rfl rfl k) ?_
    refine Go.st (T' := T24.setTop (mkF m 9 #[.val (.int pn), .val (.int pa), .val (.int pb), .val (.int pc)] [(.int (0 : Int32)), (.ref b24), (.ref b24)])) (fun t k => XS.iconst X24.here hx rfl (hb hby d1_8) k) ?_
    obtain ⟨T26, h26, k26, X26, e26, E26, A26, st26⟩ := newP X24 hx hZh (hw _ (List.mem_of_getElem? (i := 8) rfl)) e24 (g := (mkF m 9 #[.val (.int pn), .val (.int pa), .val (.int pb), .val (.int pc)] [(.int (0 : Int32)), (.ref b24), (.ref b24)])) rfl (hb hby d1_9) rfl (by decide) (cap := 0) (by decide) (by decide) (by decide) (by decide)
    obtain ⟨b26, g26⟩ : ∃ z, z = h24.size := ⟨_, rfl⟩
    rw [← g26] at A26 st26
    have g_b26 : n0 ≤ b26 := Nat.le_trans (Nat.le_trans Z0 K24.1) (Nat.le_of_eq g26.symm)
    have sz_b26 : h0.size ≤ b26 := Nat.le_trans K24.1 (Nat.le_of_eq g26.symm)
    have ne27 : b24 ≠ b26 := Nat.ne_of_lt (Nat.lt_of_lt_of_le A24.lt (Nat.le_of_eq g26.symm))
    have C28 : CHr Z EL s.vm h0 s.vm h26 := C25.trans (CHr.ext E26 C25.1)
    have K26 : Keep h0 h26 [] := K24.ext E26
    have V26 : Arv Z h26 b26 k26 .char (0 : Int32) [] (.int (0 : Int32)) := (Arv.new A26 (by decide)).pad (pad_rep [] (.int (0 : Int32)) 0)
    refine Go.st (T' := T26.setTop (mkF m 11 #[.val (.int pn), .val (.int pa), .val (.int pb), .val (.int pc)] [(.ref b26), (.ref b24), (.ref b24)])) (fun t k => st26 t k) ?_
    have f29 : Exa Z h26 b24 "java/lang/String" := (A24.ext E26)
    have f30 : Fld Z h26 b24 "java/lang/String" "value" "[B" .null := (Fn24_value.ext E26)
    have f31 : Fld Z h26 b24 "java/lang/String" "coder" "B" (.int (0 : Int32)) := (Fn24_coder.ext E26)
    obtain ⟨vr32, _, ⟨T32, L32, k32, n32⟩, -, X32, hs32, hg32, ⟨Lc32, hQ32, l32, y32, z32⟩, st32⟩ := X26.specialBackS hx (y := (⟨"java/lang/String", "<init>", "([C)V"⟩ : MethodName)) rfl hownh (mvT hZh (hw _ (List.mem_of_getElem? (i := 9) rfl))) (mvT hZh (hw _ (List.mem_of_getElem? (i := 10) rfl))) (mvT hZh (hw _ (List.mem_of_getElem? (i := 11) rfl))) (by decide) (backOfSH (s := s) (vm0 := s.vm) (W := 1) (rmSE1 l Z a0 hw b24 b26 k26 h26 n0 (Nat.le_trans Z0 K26.1) f29 g_b24 f30 f31 hEL wS V26) hZh (hw _ (List.mem_of_getElem? (i := 11) rfl)) (hw _ (List.mem_of_getElem? (i := 7) rfl)) (by decide) (by decide) hEL C28.1) (g := (mkF m 11 #[.val (.int pn), .val (.int pa), .val (.int pb), .val (.int pc)] [(.ref b26), (.ref b24), (.ref b24)])) rfl (by rw [hml]; rfl) (Steps.refl _) (a := b24) (argsL := [(.ref b26)]) (rest := [(.ref b24)]) (lenOf pd_a67b36d rfl) rfl (by show 2 * 0 + _ ≤ _; exact Nat.le_of_eq rfl) (hb hby d1_11) (fun _ _ => ⟨rfl, e26, (by decide : 2 + 2 ≤ _), (by decide : 4 + 4 ≤ _)⟩)
    dsimp only [Pt.U, Pt.locs, Pt.cells, Pt.slots] at X32 l32 y32 z32 st32 hQ32 hs32 hg32
    subst l32 y32
    obtain ⟨z32, CC32⟩ := z32
    subst z32
    obtain ⟨rfl, Nq32, Kq32, Eq32, Cq32, t32, kb32, nt32, Vq32, Bq32⟩ := hQ32
    obtain ⟨Xr32, hSr32, hZr32, hor32⟩ := rebS (s := s) (vm0 := s.vm) hS0 (by rw [e26]; exact (Nat.zero_le _)) X32 hs32 hg32 hZh hownh
    have C33 : CHr Z EL s.vm h0 T32.vm T32.heap := C28.trans CC32
    have KK34 : Keep h0 T32.heap [] := K26.trans Kq32 (allS (Or.inr sz_b24) all0)
    have NN35 := Fr.app N0 Nq32
    refine Go.st (T' := T32.setTop (mkF m 14 #[.val (.int pn), .val (.int pa), .val (.int pb), .val (.int pc)] [(.ref b24)])) (fun t k => st32.trans k) ?_
    have es : own_str pn pa pb pc = [] := by simp [own_str, hz0]
    exact Go.doneH Xr32 hSr32 (by rw [(rfl : T32.heap = T32.heap)]; exact (Nat.le_refl _)) Bd.notSynchronized (v := some (.ref b24)) (fun h => by rw [Bd.returns] at h; cases h) (fun fs hr => retA Xr32 hx Bd.returns rfl rfl rfl (hb hby d1_14) hr) (by rw [(rfl : T32.heap = T32.heap)]; exact ⟨NN35, KK34, b24, t32, kb32, rfl, Eq32, Cq32, Vq32, by rw [es]; exact Bq32⟩) (by decide) (by decide) hZr32 hEL hh rfl C33
  ·
    refine Go.st (T' := s₁.setTop (mkF m 15 #[.val (.int pn), .val (.int pa), .val (.int pb), .val (.int pc)] [])) (fun t k => XS.ifYes X0h.here hx rfl (pc0 := 1) (pc' := 15) rfl (hb hby d1_1) rfl ((if0 _ _).trans (feq hz0).2) (by decide) (by decide) k) ?_
    refine Go.st (T' := s₁.setTop (mkF m 16 #[.val (.int pn), .val (.int pa), .val (.int pb), .val (.int pc)] [(.int pn)])) (fun t k => XS.iloadN X0h.here hx rfl (hb hby d1_15) rfl k) ?_
    refine Go.st (T' := s₁.setTop (mkF m 17 #[.val (.int pn), .val (.int pa), .val (.int pb), .val (.int pc)] [(.int (1 : Int32)), (.int pn)])) (fun t k => XS.iconst X0h.here hx rfl (hb hby d1_16) k) ?_
    by_cases hz1 : pn = (1 : Int32)
    ·
      refine Go.st (T' := s₁.setTop (mkF m 20 #[.val (.int pn), .val (.int pa), .val (.int pb), .val (.int pc)] [])) (fun t k => XS.icmpNo X0h.here hx rfl (hb hby d1_17) rfl (teq hz1).2 k) ?_
      obtain ⟨T36, h36, X36, e36, E36, A36, D36, -, st36⟩ := newO X0h hx hZh hownh (hw _ (List.mem_of_getElem? (i := 5) rfl)) (hw _ (List.mem_of_getElem? (i := 6) rfl)) (hw _ (List.mem_of_getElem? (i := 7) rfl)) e0 (g := (mkF m 20 #[.val (.int pn), .val (.int pa), .val (.int pb), .val (.int pc)] [])) rfl (hb hby d1_20) (by decide) (by decide)
      obtain ⟨b36, g36⟩ : ∃ z, z = h0.size := ⟨_, rfl⟩
      rw [← g36] at A36 D36 st36
      have g_b36 : n0 ≤ b36 := Nat.le_trans (Nat.le_trans Z0 K0.1) (Nat.le_of_eq g36.symm)
      have sz_b36 : h0.size ≤ b36 := Nat.le_trans K0.1 (Nat.le_of_eq g36.symm)
      have C37 : CHr Z EL s.vm h0 s.vm h36 := C0.trans (CHr.ext E36 C0.1)
      have K36 : Keep h0 h36 [] := K0.ext E36
      have Fn36_value : Fld Z h36 b36 "java/lang/String" "value" "[B" .null := D36 (Or.inr (hw _ (List.mem_of_getElem? (i := 21) rfl))) (ty := (.array .byte)) (by decide)
      have Fn36_coder : Fld Z h36 b36 "java/lang/String" "coder" "B" (.int (0 : Int32)) := D36 (Or.inr (hw _ (List.mem_of_getElem? (i := 22) rfl))) (ty := .byte) (by decide)
      refine Go.st (T' := T36.setTop (mkF m 23 #[.val (.int pn), .val (.int pa), .val (.int pb), .val (.int pc)] [(.ref b36)])) (fun t k => st36 t k) ?_
      refine Go.st (T' := T36.setTop (mkF m 24 #[.val (.int pn), .val (.int pa), .val (.int pb), .val (.int pc)] [(.ref b36), (.ref b36)])) (fun t k => XS.dup X36.here hx rfl (hb hby d1_23) rfl rfl k) ?_
      refine Go.st (T' := T36.setTop (mkF m 25 #[.val (.int pn), .val (.int pa), .val (.int pb), .val (.int pc)] [(.int (1 : Int32)), (.ref b36), (.ref b36)])) (fun t k => XS.iconst X36.here hx rfl (hb hby d1_24) k) ?_
      obtain ⟨T38, h38, k38, X38, e38, E38, A38, st38⟩ := newP X36 hx hZh (hw _ (List.mem_of_getElem? (i := 8) rfl)) e36 (g := (mkF m 25 #[.val (.int pn), .val (.int pa), .val (.int pb), .val (.int pc)] [(.int (1 : Int32)), (.ref b36), (.ref b36)])) rfl (hb hby d1_25) rfl (by decide) (cap := 1) (by decide) (by decide) (by decide) (by decide)
      obtain ⟨b38, g38⟩ : ∃ z, z = h36.size := ⟨_, rfl⟩
      rw [← g38] at A38 st38
      have g_b38 : n0 ≤ b38 := Nat.le_trans (Nat.le_trans Z0 K36.1) (Nat.le_of_eq g38.symm)
      have sz_b38 : h0.size ≤ b38 := Nat.le_trans K36.1 (Nat.le_of_eq g38.symm)
      have ne39 : b36 ≠ b38 := Nat.ne_of_lt (Nat.lt_of_lt_of_le A36.lt (Nat.le_of_eq g38.symm))
      have C40 : CHr Z EL s.vm h0 s.vm h38 := C37.trans (CHr.ext E38 C37.1)
      have K38 : Keep h0 h38 [] := K36.ext E38
      have V38 : Arv Z h38 b38 k38 .char (1 : Int32) [(.int (0 : Int32))] (.int (0 : Int32)) := (Arv.new A38 (by decide)).pad (pad_rep [] (.int (0 : Int32)) 1)
      refine Go.st (T' := T38.setTop (mkF m 27 #[.val (.int pn), .val (.int pa), .val (.int pb), .val (.int pc)] [(.ref b38), (.ref b36), (.ref b36)])) (fun t k => st38 t k) ?_
      refine Go.st (T' := T38.setTop (mkF m 28 #[.val (.int pn), .val (.int pa), .val (.int pb), .val (.int pc)] [(.ref b38), (.ref b38), (.ref b36), (.ref b36)])) (fun t k => XS.dup X38.here hx rfl (hb hby d1_27) rfl rfl k) ?_
      refine Go.st (T' := T38.setTop (mkF m 29 #[.val (.int pn), .val (.int pa), .val (.int pb), .val (.int pc)] [(.int (0 : Int32)), (.ref b38), (.ref b38), (.ref b36), (.ref b36)])) (fun t k => XS.iconst X38.here hx rfl (hb hby d1_28) k) ?_
      refine Go.st (T' := T38.setTop (mkF m 30 #[.val (.int pn), .val (.int pa), .val (.int pb), .val (.int pc)] [(.int pa), (.int (0 : Int32)), (.ref b38), (.ref b38), (.ref b36), (.ref b36)])) (fun t k => XS.iloadN X38.here hx rfl (hb hby d1_29) rfl k) ?_
      obtain ⟨cl41, Ar41, q41, S41, M41, H41, G41⟩ := id V38
      obtain ⟨T41, h41, X41, e41, W41, st41⟩ := stC X38 hx hZh e38 Ar41 (j := (0 : Int32)) (inb_of S41 ⟨by decide, by decide⟩) (g := (mkF m 30 #[.val (.int pn), .val (.int pa), .val (.int pb), .val (.int pc)] [(.int pa), (.int (0 : Int32)), (.ref b38), (.ref b38), (.ref b36), (.ref b36)])) rfl rfl (hb hby d1_30)
      have C42 : CHr Z EL s.vm h0 s.vm h41 := C40.trans (CHr.wr W41 (by obtain ⟨_, A_, _⟩ := id V38; exact Safe.arr hZh.alike A_ (by decide)) C40.1)
      have V41 : Arv Z h41 b38 k38 .char (1 : Int32) [(.int (nar .char pa))] (.int (0 : Int32)) := Arv.set Ar41 q41 S41 M41 H41 G41 (fits_nar_char _) W41 0 rfl (Nat.le_of_ble_eq_true rfl)
      have K41 : Keep h0 h41 [] := K38.wr W41 (Or.inr sz_b38)
      have N41 := Fr.snoc X41 N0 g_b38
      refine Go.st (T' := T41.setTop (mkF m 31 #[.val (.int pn), .val (.int pa), .val (.int pb), .val (.int pc)] [(.ref b38), (.ref b36), (.ref b36)])) (fun t k => st41 t k) ?_
      have hp : ∀ c ∈ ([nar .char pa] : List Int32), ¬ c < 0 ∧ ¬ (255 : Int32) < c := by
        intro c hc
        rw [hA.2] at hc
        exact own_all (n := (1 : Int32)) hA hB hC c hc
      have f43 : Exa Z h41 b36 "java/lang/String" := ((A36.ext E38).wr W41)
      have f44 : Fld Z h41 b36 "java/lang/String" "value" "[B" .null := ((Fn36_value.ext E38).other W41 (Or.inl ne39))
      have f45 : Fld Z h41 b36 "java/lang/String" "coder" "B" (.int (0 : Int32)) := ((Fn36_coder.ext E38).other W41 (Or.inl ne39))
      obtain ⟨vr46, _, ⟨T46, L46, k46, n46⟩, -, X46, ⟨Lc46, hQ46, l46, y46, z46⟩, st46⟩ := X41.specialBack hx (y := (⟨"java/lang/String", "<init>", "([C)V"⟩ : MethodName)) rfl hownh (mvT hZh (hw _ (List.mem_of_getElem? (i := 9) rfl))) (mvT hZh (hw _ (List.mem_of_getElem? (i := 10) rfl))) (mvT hZh (hw _ (List.mem_of_getElem? (i := 11) rfl))) (by decide) (StrChars.Road.backV (W := 1) hZh hws (kI := 4) (hw _ (List.mem_of_getElem? (i := 6) rfl)) (cs := ([nar .char pa] : List Int32)) (bs := (([nar .char pa] : List Int32)).map (fun c => c.toInt8.toInt32)) (n := 1) g_b36 (Nat.le_trans Z0 K41.1) f43 f44 f45 V41 (O2.ext (X00.keep K41 all0).2) P5 rfl rfl (by decide) (by decide) hp rfl (by decide) (by decide)) (g := (mkF m 31 #[.val (.int pn), .val (.int pa), .val (.int pb), .val (.int pc)] [(.ref b38), (.ref b36), (.ref b36)])) rfl (by rw [hml]; rfl) (Steps.refl _) (a := b36) (argsL := [(.ref b38)]) (rest := [(.ref b36)]) (lenOf pd_a67b36d rfl) rfl (by show 2 * 0 + _ ≤ _; exact Nat.le_of_eq rfl) (hb hby d1_31) (fun _ _ => ⟨rfl, e41, (by decide : 2 + 1 ≤ _), (by decide : 5 + 1 ≤ _)⟩)
      dsimp only [Pt.U, Pt.locs, Pt.cells, Pt.slots] at X46 l46 y46 z46 st46 hQ46
      subst l46 y46 z46
      obtain ⟨rfl, Nq46, Kq46, Eq46, Cq46, t46, kb46, ut46, vt46, wt46, Vq46, Bq46⟩ := hQ46
      have C47 : CHr Z EL s.vm h0 s.vm T46.heap := C42.trans (CHr.keep Kq46 (allS (own_safe hZh.alike f43 f44) all0) C42.1)
      have KK48 : Keep h0 T46.heap [] := K41.trans Kq46 (allS (Or.inr sz_b36) all0)
      have NN49 := Fr.app N41 Nq46
      refine Go.st (T' := T46.setTop (mkF m 34 #[.val (.int pn), .val (.int pa), .val (.int pb), .val (.int pc)] [(.ref b36)])) (fun t k => st46.trans k) ?_
      have es : own_str pn pa pb pc = ([pa] : List Int32) := by simp [own_str, hz0, hz1]
      rw [hA.2] at Bq46
      exact Go.doneH X46 hS0 (by rw [(rfl : T46.heap = T46.heap)]; exact (Nat.zero_le _)) Bd.notSynchronized (v := some (.ref b36)) (fun h => by rw [Bd.returns] at h; cases h) (fun fs hr => retA X46 hx Bd.returns rfl rfl rfl (hb hby d1_34) hr) (by rw [(rfl : T46.heap = T46.heap)]; exact ⟨NN49, KK48, b36, t46, kb46, rfl, Eq46, Cq46, Vq46, by rw [es]; exact Bq46⟩) (by decide) (by decide) hZh hEL hh rfl C47
    ·
      refine Go.st (T' := s₁.setTop (mkF m 35 #[.val (.int pn), .val (.int pa), .val (.int pb), .val (.int pc)] [])) (fun t k => XS.icmpYes X0h.here hx rfl (pc0 := 17) (pc' := 35) rfl (hb hby d1_17) rfl (feq hz1).2 (by decide) (by decide) k) ?_
      refine Go.st (T' := s₁.setTop (mkF m 36 #[.val (.int pn), .val (.int pa), .val (.int pb), .val (.int pc)] [(.int pn)])) (fun t k => XS.iloadN X0h.here hx rfl (hb hby d1_35) rfl k) ?_
      refine Go.st (T' := s₁.setTop (mkF m 37 #[.val (.int pn), .val (.int pa), .val (.int pb), .val (.int pc)] [(.int (2 : Int32)), (.int pn)])) (fun t k => XS.iconst X0h.here hx rfl (hb hby d1_36) k) ?_
      by_cases hz2 : pn = (2 : Int32)
      ·
        refine Go.st (T' := s₁.setTop (mkF m 40 #[.val (.int pn), .val (.int pa), .val (.int pb), .val (.int pc)] [])) (fun t k => XS.icmpNo X0h.here hx rfl (hb hby d1_37) rfl (teq hz2).2 k) ?_
        obtain ⟨T50, h50, X50, e50, E50, A50, D50, -, st50⟩ := newO X0h hx hZh hownh (hw _ (List.mem_of_getElem? (i := 5) rfl)) (hw _ (List.mem_of_getElem? (i := 6) rfl)) (hw _ (List.mem_of_getElem? (i := 7) rfl)) e0 (g := (mkF m 40 #[.val (.int pn), .val (.int pa), .val (.int pb), .val (.int pc)] [])) rfl (hb hby d1_40) (by decide) (by decide)
        obtain ⟨b50, g50⟩ : ∃ z, z = h0.size := ⟨_, rfl⟩
        rw [← g50] at A50 D50 st50
        have g_b50 : n0 ≤ b50 := Nat.le_trans (Nat.le_trans Z0 K0.1) (Nat.le_of_eq g50.symm)
        have sz_b50 : h0.size ≤ b50 := Nat.le_trans K0.1 (Nat.le_of_eq g50.symm)
        have C51 : CHr Z EL s.vm h0 s.vm h50 := C0.trans (CHr.ext E50 C0.1)
        have K50 : Keep h0 h50 [] := K0.ext E50
        have Fn50_value : Fld Z h50 b50 "java/lang/String" "value" "[B" .null := D50 (Or.inr (hw _ (List.mem_of_getElem? (i := 21) rfl))) (ty := (.array .byte)) (by decide)
        have Fn50_coder : Fld Z h50 b50 "java/lang/String" "coder" "B" (.int (0 : Int32)) := D50 (Or.inr (hw _ (List.mem_of_getElem? (i := 22) rfl))) (ty := .byte) (by decide)
        refine Go.st (T' := T50.setTop (mkF m 43 #[.val (.int pn), .val (.int pa), .val (.int pb), .val (.int pc)] [(.ref b50)])) (fun t k => st50 t k) ?_
        refine Go.st (T' := T50.setTop (mkF m 44 #[.val (.int pn), .val (.int pa), .val (.int pb), .val (.int pc)] [(.ref b50), (.ref b50)])) (fun t k => XS.dup X50.here hx rfl (hb hby d1_43) rfl rfl k) ?_
        refine Go.st (T' := T50.setTop (mkF m 45 #[.val (.int pn), .val (.int pa), .val (.int pb), .val (.int pc)] [(.int (2 : Int32)), (.ref b50), (.ref b50)])) (fun t k => XS.iconst X50.here hx rfl (hb hby d1_44) k) ?_
        obtain ⟨T52, h52, k52, X52, e52, E52, A52, st52⟩ := newP X50 hx hZh (hw _ (List.mem_of_getElem? (i := 8) rfl)) e50 (g := (mkF m 45 #[.val (.int pn), .val (.int pa), .val (.int pb), .val (.int pc)] [(.int (2 : Int32)), (.ref b50), (.ref b50)])) rfl (hb hby d1_45) rfl (by decide) (cap := 2) (by decide) (by decide) (by decide) (by decide)
        obtain ⟨b52, g52⟩ : ∃ z, z = h50.size := ⟨_, rfl⟩
        rw [← g52] at A52 st52
        have g_b52 : n0 ≤ b52 := Nat.le_trans (Nat.le_trans Z0 K50.1) (Nat.le_of_eq g52.symm)
        have sz_b52 : h0.size ≤ b52 := Nat.le_trans K50.1 (Nat.le_of_eq g52.symm)
        have ne53 : b50 ≠ b52 := Nat.ne_of_lt (Nat.lt_of_lt_of_le A50.lt (Nat.le_of_eq g52.symm))
        have C54 : CHr Z EL s.vm h0 s.vm h52 := C51.trans (CHr.ext E52 C51.1)
        have K52 : Keep h0 h52 [] := K50.ext E52
        have V52 : Arv Z h52 b52 k52 .char (2 : Int32) [(.int (0 : Int32)), (.int (0 : Int32))] (.int (0 : Int32)) := (Arv.new A52 (by decide)).pad (pad_rep [] (.int (0 : Int32)) 2)
        refine Go.st (T' := T52.setTop (mkF m 47 #[.val (.int pn), .val (.int pa), .val (.int pb), .val (.int pc)] [(.ref b52), (.ref b50), (.ref b50)])) (fun t k => st52 t k) ?_
        refine Go.st (T' := T52.setTop (mkF m 48 #[.val (.int pn), .val (.int pa), .val (.int pb), .val (.int pc)] [(.ref b52), (.ref b52), (.ref b50), (.ref b50)])) (fun t k => XS.dup X52.here hx rfl (hb hby d1_47) rfl rfl k) ?_
        refine Go.st (T' := T52.setTop (mkF m 49 #[.val (.int pn), .val (.int pa), .val (.int pb), .val (.int pc)] [(.int (0 : Int32)), (.ref b52), (.ref b52), (.ref b50), (.ref b50)])) (fun t k => XS.iconst X52.here hx rfl (hb hby d1_48) k) ?_
        refine Go.st (T' := T52.setTop (mkF m 50 #[.val (.int pn), .val (.int pa), .val (.int pb), .val (.int pc)] [(.int pa), (.int (0 : Int32)), (.ref b52), (.ref b52), (.ref b50), (.ref b50)])) (fun t k => XS.iloadN X52.here hx rfl (hb hby d1_49) rfl k) ?_
        obtain ⟨cl55, Ar55, q55, S55, M55, H55, G55⟩ := id V52
        obtain ⟨T55, h55, X55, e55, W55, st55⟩ := stC X52 hx hZh e52 Ar55 (j := (0 : Int32)) (inb_of S55 ⟨by decide, by decide⟩) (g := (mkF m 50 #[.val (.int pn), .val (.int pa), .val (.int pb), .val (.int pc)] [(.int pa), (.int (0 : Int32)), (.ref b52), (.ref b52), (.ref b50), (.ref b50)])) rfl rfl (hb hby d1_50)
        have C56 : CHr Z EL s.vm h0 s.vm h55 := C54.trans (CHr.wr W55 (by obtain ⟨_, A_, _⟩ := id V52; exact Safe.arr hZh.alike A_ (by decide)) C54.1)
        have V55 : Arv Z h55 b52 k52 .char (2 : Int32) [(.int (nar .char pa)), (.int (0 : Int32))] (.int (0 : Int32)) := Arv.set Ar55 q55 S55 M55 H55 G55 (fits_nar_char _) W55 0 rfl (Nat.le_of_ble_eq_true rfl)
        have K55 : Keep h0 h55 [] := K52.wr W55 (Or.inr sz_b52)
        have N55 := Fr.snoc X55 N0 g_b52
        refine Go.st (T' := T55.setTop (mkF m 51 #[.val (.int pn), .val (.int pa), .val (.int pb), .val (.int pc)] [(.ref b52), (.ref b50), (.ref b50)])) (fun t k => st55 t k) ?_
        refine Go.st (T' := T55.setTop (mkF m 52 #[.val (.int pn), .val (.int pa), .val (.int pb), .val (.int pc)] [(.ref b52), (.ref b52), (.ref b50), (.ref b50)])) (fun t k => XS.dup X55.here hx rfl (hb hby d1_51) rfl rfl k) ?_
        refine Go.st (T' := T55.setTop (mkF m 53 #[.val (.int pn), .val (.int pa), .val (.int pb), .val (.int pc)] [(.int (1 : Int32)), (.ref b52), (.ref b52), (.ref b50), (.ref b50)])) (fun t k => XS.iconst X55.here hx rfl (hb hby d1_52) k) ?_
        refine Go.st (T' := T55.setTop (mkF m 54 #[.val (.int pn), .val (.int pa), .val (.int pb), .val (.int pc)] [(.int pb), (.int (1 : Int32)), (.ref b52), (.ref b52), (.ref b50), (.ref b50)])) (fun t k => XS.iloadN X55.here hx rfl (hb hby d1_53) rfl k) ?_
        obtain ⟨cl57, Ar57, q57, S57, M57, H57, G57⟩ := id V55
        obtain ⟨T57, h57, X57, e57, W57, st57⟩ := stC X55 hx hZh e55 Ar57 (j := (1 : Int32)) (inb_of S57 ⟨by decide, by decide⟩) (g := (mkF m 54 #[.val (.int pn), .val (.int pa), .val (.int pb), .val (.int pc)] [(.int pb), (.int (1 : Int32)), (.ref b52), (.ref b52), (.ref b50), (.ref b50)])) rfl rfl (hb hby d1_54)
        have C58 : CHr Z EL s.vm h0 s.vm h57 := C56.trans (CHr.wr W57 (by obtain ⟨_, A_, _⟩ := id V55; exact Safe.arr hZh.alike A_ (by decide)) C56.1)
        have V57 : Arv Z h57 b52 k52 .char (2 : Int32) [(.int (nar .char pa)), (.int (nar .char pb))] (.int (0 : Int32)) := Arv.set Ar57 q57 S57 M57 H57 G57 (fits_nar_char _) W57 1 rfl (Nat.le_of_ble_eq_true rfl)
        have K57 : Keep h0 h57 [] := K55.wr W57 (Or.inr sz_b52)
        have N57 := Fr.snoc X57 N55 g_b52
        refine Go.st (T' := T57.setTop (mkF m 55 #[.val (.int pn), .val (.int pa), .val (.int pb), .val (.int pc)] [(.ref b52), (.ref b50), (.ref b50)])) (fun t k => st57 t k) ?_
        have hp : ∀ c ∈ ([nar .char pa, nar .char pb] : List Int32), ¬ c < 0 ∧ ¬ (255 : Int32) < c := by
          intro c hc
          rw [hA.2, hB.2] at hc
          exact own_all (n := (2 : Int32)) hA hB hC c hc
        have f59 : Exa Z h57 b50 "java/lang/String" := (((A50.ext E52).wr W55).wr W57)
        have f60 : Fld Z h57 b50 "java/lang/String" "value" "[B" .null := (((Fn50_value.ext E52).other W55 (Or.inl ne53)).other W57 (Or.inl ne53))
        have f61 : Fld Z h57 b50 "java/lang/String" "coder" "B" (.int (0 : Int32)) := (((Fn50_coder.ext E52).other W55 (Or.inl ne53)).other W57 (Or.inl ne53))
        obtain ⟨vr62, _, ⟨T62, L62, k62, n62⟩, -, X62, ⟨Lc62, hQ62, l62, y62, z62⟩, st62⟩ := X57.specialBack hx (y := (⟨"java/lang/String", "<init>", "([C)V"⟩ : MethodName)) rfl hownh (mvT hZh (hw _ (List.mem_of_getElem? (i := 9) rfl))) (mvT hZh (hw _ (List.mem_of_getElem? (i := 10) rfl))) (mvT hZh (hw _ (List.mem_of_getElem? (i := 11) rfl))) (by decide) (StrChars.Road.backV (W := 1) hZh hws (kI := 4) (hw _ (List.mem_of_getElem? (i := 6) rfl)) (cs := ([nar .char pa, nar .char pb] : List Int32)) (bs := (([nar .char pa, nar .char pb] : List Int32)).map (fun c => c.toInt8.toInt32)) (n := 2) g_b50 (Nat.le_trans Z0 K57.1) f59 f60 f61 V57 (O2.ext (X00.keep K57 all0).2) P5 rfl rfl (by decide) (by decide) hp rfl (by decide) (by decide)) (g := (mkF m 55 #[.val (.int pn), .val (.int pa), .val (.int pb), .val (.int pc)] [(.ref b52), (.ref b50), (.ref b50)])) rfl (by rw [hml]; rfl) (Steps.refl _) (a := b50) (argsL := [(.ref b52)]) (rest := [(.ref b50)]) (lenOf pd_a67b36d rfl) rfl (by show 2 * 0 + _ ≤ _; exact Nat.le_of_eq rfl) (hb hby d1_55) (fun _ _ => ⟨rfl, e57, (by decide : 2 + 1 ≤ _), (by decide : 6 + 2 ≤ _)⟩)
        dsimp only [Pt.U, Pt.locs, Pt.cells, Pt.slots] at X62 l62 y62 z62 st62 hQ62
        subst l62 y62 z62
        obtain ⟨rfl, Nq62, Kq62, Eq62, Cq62, t62, kb62, ut62, vt62, wt62, Vq62, Bq62⟩ := hQ62
        have C63 : CHr Z EL s.vm h0 s.vm T62.heap := C58.trans (CHr.keep Kq62 (allS (own_safe hZh.alike f59 f60) all0) C58.1)
        have KK64 : Keep h0 T62.heap [] := K57.trans Kq62 (allS (Or.inr sz_b50) all0)
        have NN65 := Fr.app N57 Nq62
        refine Go.st (T' := T62.setTop (mkF m 58 #[.val (.int pn), .val (.int pa), .val (.int pb), .val (.int pc)] [(.ref b50)])) (fun t k => st62.trans k) ?_
        have es : own_str pn pa pb pc = ([pa, pb] : List Int32) := by simp [own_str, hz0, hz1, hz2]
        rw [hA.2, hB.2] at Bq62
        exact Go.doneH X62 hS0 (by rw [(rfl : T62.heap = T62.heap)]; exact (Nat.zero_le _)) Bd.notSynchronized (v := some (.ref b50)) (fun h => by rw [Bd.returns] at h; cases h) (fun fs hr => retA X62 hx Bd.returns rfl rfl rfl (hb hby d1_58) hr) (by rw [(rfl : T62.heap = T62.heap)]; exact ⟨NN65, KK64, b50, t62, kb62, rfl, Eq62, Cq62, Vq62, by rw [es]; exact Bq62⟩) (by decide) (by decide) hZh hEL hh rfl C63
      ·
        refine Go.st (T' := s₁.setTop (mkF m 59 #[.val (.int pn), .val (.int pa), .val (.int pb), .val (.int pc)] [])) (fun t k => XS.icmpYes X0h.here hx rfl (pc0 := 37) (pc' := 59) rfl (hb hby d1_37) rfl (feq hz2).2 (by decide) (by decide) k) ?_
        obtain ⟨T66, h66, X66, e66, E66, A66, D66, -, st66⟩ := newO X0h hx hZh hownh (hw _ (List.mem_of_getElem? (i := 5) rfl)) (hw _ (List.mem_of_getElem? (i := 6) rfl)) (hw _ (List.mem_of_getElem? (i := 7) rfl)) e0 (g := (mkF m 59 #[.val (.int pn), .val (.int pa), .val (.int pb), .val (.int pc)] [])) rfl (hb hby d1_59) (by decide) (by decide)
        obtain ⟨b66, g66⟩ : ∃ z, z = h0.size := ⟨_, rfl⟩
        rw [← g66] at A66 D66 st66
        have g_b66 : n0 ≤ b66 := Nat.le_trans (Nat.le_trans Z0 K0.1) (Nat.le_of_eq g66.symm)
        have sz_b66 : h0.size ≤ b66 := Nat.le_trans K0.1 (Nat.le_of_eq g66.symm)
        have C67 : CHr Z EL s.vm h0 s.vm h66 := C0.trans (CHr.ext E66 C0.1)
        have K66 : Keep h0 h66 [] := K0.ext E66
        have Fn66_value : Fld Z h66 b66 "java/lang/String" "value" "[B" .null := D66 (Or.inr (hw _ (List.mem_of_getElem? (i := 21) rfl))) (ty := (.array .byte)) (by decide)
        have Fn66_coder : Fld Z h66 b66 "java/lang/String" "coder" "B" (.int (0 : Int32)) := D66 (Or.inr (hw _ (List.mem_of_getElem? (i := 22) rfl))) (ty := .byte) (by decide)
        refine Go.st (T' := T66.setTop (mkF m 62 #[.val (.int pn), .val (.int pa), .val (.int pb), .val (.int pc)] [(.ref b66)])) (fun t k => st66 t k) ?_
        refine Go.st (T' := T66.setTop (mkF m 63 #[.val (.int pn), .val (.int pa), .val (.int pb), .val (.int pc)] [(.ref b66), (.ref b66)])) (fun t k => XS.dup X66.here hx rfl (hb hby d1_62) rfl rfl k) ?_
        refine Go.st (T' := T66.setTop (mkF m 64 #[.val (.int pn), .val (.int pa), .val (.int pb), .val (.int pc)] [(.int (3 : Int32)), (.ref b66), (.ref b66)])) (fun t k => XS.iconst X66.here hx rfl (hb hby d1_63) k) ?_
        obtain ⟨T68, h68, k68, X68, e68, E68, A68, st68⟩ := newP X66 hx hZh (hw _ (List.mem_of_getElem? (i := 8) rfl)) e66 (g := (mkF m 64 #[.val (.int pn), .val (.int pa), .val (.int pb), .val (.int pc)] [(.int (3 : Int32)), (.ref b66), (.ref b66)])) rfl (hb hby d1_64) rfl (by decide) (cap := 3) (by decide) (by decide) (by decide) (by decide)
        obtain ⟨b68, g68⟩ : ∃ z, z = h66.size := ⟨_, rfl⟩
        rw [← g68] at A68 st68
        have g_b68 : n0 ≤ b68 := Nat.le_trans (Nat.le_trans Z0 K66.1) (Nat.le_of_eq g68.symm)
        have sz_b68 : h0.size ≤ b68 := Nat.le_trans K66.1 (Nat.le_of_eq g68.symm)
        have ne69 : b66 ≠ b68 := Nat.ne_of_lt (Nat.lt_of_lt_of_le A66.lt (Nat.le_of_eq g68.symm))
        have C70 : CHr Z EL s.vm h0 s.vm h68 := C67.trans (CHr.ext E68 C67.1)
        have K68 : Keep h0 h68 [] := K66.ext E68
        have V68 : Arv Z h68 b68 k68 .char (3 : Int32) [(.int (0 : Int32)), (.int (0 : Int32)), (.int (0 : Int32))] (.int (0 : Int32)) := (Arv.new A68 (by decide)).pad (pad_rep [] (.int (0 : Int32)) 3)
        refine Go.st (T' := T68.setTop (mkF m 66 #[.val (.int pn), .val (.int pa), .val (.int pb), .val (.int pc)] [(.ref b68), (.ref b66), (.ref b66)])) (fun t k => st68 t k) ?_
        refine Go.st (T' := T68.setTop (mkF m 67 #[.val (.int pn), .val (.int pa), .val (.int pb), .val (.int pc)] [(.ref b68), (.ref b68), (.ref b66), (.ref b66)])) (fun t k => XS.dup X68.here hx rfl (hb hby d1_66) rfl rfl k) ?_
        refine Go.st (T' := T68.setTop (mkF m 68 #[.val (.int pn), .val (.int pa), .val (.int pb), .val (.int pc)] [(.int (0 : Int32)), (.ref b68), (.ref b68), (.ref b66), (.ref b66)])) (fun t k => XS.iconst X68.here hx rfl (hb hby d1_67) k) ?_
        refine Go.st (T' := T68.setTop (mkF m 69 #[.val (.int pn), .val (.int pa), .val (.int pb), .val (.int pc)] [(.int pa), (.int (0 : Int32)), (.ref b68), (.ref b68), (.ref b66), (.ref b66)])) (fun t k => XS.iloadN X68.here hx rfl (hb hby d1_68) rfl k) ?_
        obtain ⟨cl71, Ar71, q71, S71, M71, H71, G71⟩ := id V68
        obtain ⟨T71, h71, X71, e71, W71, st71⟩ := stC X68 hx hZh e68 Ar71 (j := (0 : Int32)) (inb_of S71 ⟨by decide, by decide⟩) (g := (mkF m 69 #[.val (.int pn), .val (.int pa), .val (.int pb), .val (.int pc)] [(.int pa), (.int (0 : Int32)), (.ref b68), (.ref b68), (.ref b66), (.ref b66)])) rfl rfl (hb hby d1_69)
        have C72 : CHr Z EL s.vm h0 s.vm h71 := C70.trans (CHr.wr W71 (by obtain ⟨_, A_, _⟩ := id V68; exact Safe.arr hZh.alike A_ (by decide)) C70.1)
        have V71 : Arv Z h71 b68 k68 .char (3 : Int32) [(.int (nar .char pa)), (.int (0 : Int32)), (.int (0 : Int32))] (.int (0 : Int32)) := Arv.set Ar71 q71 S71 M71 H71 G71 (fits_nar_char _) W71 0 rfl (Nat.le_of_ble_eq_true rfl)
        have K71 : Keep h0 h71 [] := K68.wr W71 (Or.inr sz_b68)
        have N71 := Fr.snoc X71 N0 g_b68
        refine Go.st (T' := T71.setTop (mkF m 70 #[.val (.int pn), .val (.int pa), .val (.int pb), .val (.int pc)] [(.ref b68), (.ref b66), (.ref b66)])) (fun t k => st71 t k) ?_
        refine Go.st (T' := T71.setTop (mkF m 71 #[.val (.int pn), .val (.int pa), .val (.int pb), .val (.int pc)] [(.ref b68), (.ref b68), (.ref b66), (.ref b66)])) (fun t k => XS.dup X71.here hx rfl (hb hby d1_70) rfl rfl k) ?_
        refine Go.st (T' := T71.setTop (mkF m 72 #[.val (.int pn), .val (.int pa), .val (.int pb), .val (.int pc)] [(.int (1 : Int32)), (.ref b68), (.ref b68), (.ref b66), (.ref b66)])) (fun t k => XS.iconst X71.here hx rfl (hb hby d1_71) k) ?_
        refine Go.st (T' := T71.setTop (mkF m 73 #[.val (.int pn), .val (.int pa), .val (.int pb), .val (.int pc)] [(.int pb), (.int (1 : Int32)), (.ref b68), (.ref b68), (.ref b66), (.ref b66)])) (fun t k => XS.iloadN X71.here hx rfl (hb hby d1_72) rfl k) ?_
        obtain ⟨cl73, Ar73, q73, S73, M73, H73, G73⟩ := id V71
        obtain ⟨T73, h73, X73, e73, W73, st73⟩ := stC X71 hx hZh e71 Ar73 (j := (1 : Int32)) (inb_of S73 ⟨by decide, by decide⟩) (g := (mkF m 73 #[.val (.int pn), .val (.int pa), .val (.int pb), .val (.int pc)] [(.int pb), (.int (1 : Int32)), (.ref b68), (.ref b68), (.ref b66), (.ref b66)])) rfl rfl (hb hby d1_73)
        have C74 : CHr Z EL s.vm h0 s.vm h73 := C72.trans (CHr.wr W73 (by obtain ⟨_, A_, _⟩ := id V71; exact Safe.arr hZh.alike A_ (by decide)) C72.1)
        have V73 : Arv Z h73 b68 k68 .char (3 : Int32) [(.int (nar .char pa)), (.int (nar .char pb)), (.int (0 : Int32))] (.int (0 : Int32)) := Arv.set Ar73 q73 S73 M73 H73 G73 (fits_nar_char _) W73 1 rfl (Nat.le_of_ble_eq_true rfl)
        have K73 : Keep h0 h73 [] := K71.wr W73 (Or.inr sz_b68)
        have N73 := Fr.snoc X73 N71 g_b68
        refine Go.st (T' := T73.setTop (mkF m 74 #[.val (.int pn), .val (.int pa), .val (.int pb), .val (.int pc)] [(.ref b68), (.ref b66), (.ref b66)])) (fun t k => st73 t k) ?_
        refine Go.st (T' := T73.setTop (mkF m 75 #[.val (.int pn), .val (.int pa), .val (.int pb), .val (.int pc)] [(.ref b68), (.ref b68), (.ref b66), (.ref b66)])) (fun t k => XS.dup X73.here hx rfl (hb hby d1_74) rfl rfl k) ?_
        refine Go.st (T' := T73.setTop (mkF m 76 #[.val (.int pn), .val (.int pa), .val (.int pb), .val (.int pc)] [(.int (2 : Int32)), (.ref b68), (.ref b68), (.ref b66), (.ref b66)])) (fun t k => XS.iconst X73.here hx rfl (hb hby d1_75) k) ?_
        refine Go.st (T' := T73.setTop (mkF m 77 #[.val (.int pn), .val (.int pa), .val (.int pb), .val (.int pc)] [(.int pc), (.int (2 : Int32)), (.ref b68), (.ref b68), (.ref b66), (.ref b66)])) (fun t k => XS.iloadN X73.here hx rfl (hb hby d1_76) rfl k) ?_
        obtain ⟨cl75, Ar75, q75, S75, M75, H75, G75⟩ := id V73
        obtain ⟨T75, h75, X75, e75, W75, st75⟩ := stC X73 hx hZh e73 Ar75 (j := (2 : Int32)) (inb_of S75 ⟨by decide, by decide⟩) (g := (mkF m 77 #[.val (.int pn), .val (.int pa), .val (.int pb), .val (.int pc)] [(.int pc), (.int (2 : Int32)), (.ref b68), (.ref b68), (.ref b66), (.ref b66)])) rfl rfl (hb hby d1_77)
        have C76 : CHr Z EL s.vm h0 s.vm h75 := C74.trans (CHr.wr W75 (by obtain ⟨_, A_, _⟩ := id V73; exact Safe.arr hZh.alike A_ (by decide)) C74.1)
        have V75 : Arv Z h75 b68 k68 .char (3 : Int32) [(.int (nar .char pa)), (.int (nar .char pb)), (.int (nar .char pc))] (.int (0 : Int32)) := Arv.set Ar75 q75 S75 M75 H75 G75 (fits_nar_char _) W75 2 rfl (Nat.le_of_ble_eq_true rfl)
        have K75 : Keep h0 h75 [] := K73.wr W75 (Or.inr sz_b68)
        have N75 := Fr.snoc X75 N73 g_b68
        refine Go.st (T' := T75.setTop (mkF m 78 #[.val (.int pn), .val (.int pa), .val (.int pb), .val (.int pc)] [(.ref b68), (.ref b66), (.ref b66)])) (fun t k => st75 t k) ?_
        have hp : ∀ c ∈ ([nar .char pa, nar .char pb, nar .char pc] : List Int32), ¬ c < 0 ∧ ¬ (255 : Int32) < c := by
          intro c hc
          rw [hA.2, hB.2, hC.2] at hc
          exact own_all (n := (3 : Int32)) hA hB hC c hc
        have f77 : Exa Z h75 b66 "java/lang/String" := ((((A66.ext E68).wr W71).wr W73).wr W75)
        have f78 : Fld Z h75 b66 "java/lang/String" "value" "[B" .null := ((((Fn66_value.ext E68).other W71 (Or.inl ne69)).other W73 (Or.inl ne69)).other W75 (Or.inl ne69))
        have f79 : Fld Z h75 b66 "java/lang/String" "coder" "B" (.int (0 : Int32)) := ((((Fn66_coder.ext E68).other W71 (Or.inl ne69)).other W73 (Or.inl ne69)).other W75 (Or.inl ne69))
        obtain ⟨vr80, _, ⟨T80, L80, k80, n80⟩, -, X80, ⟨Lc80, hQ80, l80, y80, z80⟩, st80⟩ := X75.specialBack hx (y := (⟨"java/lang/String", "<init>", "([C)V"⟩ : MethodName)) rfl hownh (mvT hZh (hw _ (List.mem_of_getElem? (i := 9) rfl))) (mvT hZh (hw _ (List.mem_of_getElem? (i := 10) rfl))) (mvT hZh (hw _ (List.mem_of_getElem? (i := 11) rfl))) (by decide) (StrChars.Road.backV (W := 1) hZh hws (kI := 4) (hw _ (List.mem_of_getElem? (i := 6) rfl)) (cs := ([nar .char pa, nar .char pb, nar .char pc] : List Int32)) (bs := (([nar .char pa, nar .char pb, nar .char pc] : List Int32)).map (fun c => c.toInt8.toInt32)) (n := 3) g_b66 (Nat.le_trans Z0 K75.1) f77 f78 f79 V75 (O2.ext (X00.keep K75 all0).2) P5 rfl rfl (by decide) (by decide) hp rfl (by decide) (by decide)) (g := (mkF m 78 #[.val (.int pn), .val (.int pa), .val (.int pb), .val (.int pc)] [(.ref b68), (.ref b66), (.ref b66)])) rfl (by rw [hml]; rfl) (Steps.refl _) (a := b66) (argsL := [(.ref b68)]) (rest := [(.ref b66)]) (lenOf pd_a67b36d rfl) rfl (by show 2 * 0 + _ ≤ _; exact Nat.le_of_eq rfl) (hb hby d1_78) (fun _ _ => ⟨rfl, e75, (by decide : 2 + 1 ≤ _), (by decide : 7 + 3 ≤ _)⟩)
        dsimp only [Pt.U, Pt.locs, Pt.cells, Pt.slots] at X80 l80 y80 z80 st80 hQ80
        subst l80 y80 z80
        obtain ⟨rfl, Nq80, Kq80, Eq80, Cq80, t80, kb80, ut80, vt80, wt80, Vq80, Bq80⟩ := hQ80
        have C81 : CHr Z EL s.vm h0 s.vm T80.heap := C76.trans (CHr.keep Kq80 (allS (own_safe hZh.alike f77 f78) all0) C76.1)
        have KK82 : Keep h0 T80.heap [] := K75.trans Kq80 (allS (Or.inr sz_b66) all0)
        have NN83 := Fr.app N75 Nq80
        refine Go.st (T' := T80.setTop (mkF m 81 #[.val (.int pn), .val (.int pa), .val (.int pb), .val (.int pc)] [(.ref b66)])) (fun t k => st80.trans k) ?_
        have es : own_str pn pa pb pc = ([pa, pb, pc] : List Int32) := by simp [own_str, hz0, hz1, hz2]
        rw [hA.2, hB.2, hC.2] at Bq80
        exact Go.doneH X80 hS0 (by rw [(rfl : T80.heap = T80.heap)]; exact (Nat.zero_le _)) Bd.notSynchronized (v := some (.ref b66)) (fun h => by rw [Bd.returns] at h; cases h) (fun fs hr => retA X80 hx Bd.returns rfl rfl rfl (hb hby d1_81) hr) (by rw [(rfl : T80.heap = T80.heap)]; exact ⟨NN83, KK82, b66, t80, kb80, rfl, Eq80, Cq80, Vq80, by rw [es]; exact Bq80⟩) (by decide) (by decide) hZh hEL hh rfl C81
theorem d5_0 : decode method_2_code 0 = .ok (.iload_n 0, 1) := by decide +kernel
theorem d5_1 : decode method_2_code 1 = .ok (.ifCond .ne 7, 3) := by decide +kernel
theorem d5_4 : decode method_2_code 4 = .ok (.getstatic 7, 3) := by decide +kernel
theorem d5_7 : decode method_2_code 7 = .ok (.areturn, 1) := by decide +kernel
theorem d5_8 : decode method_2_code 8 = .ok (.iload_n 0, 1) := by decide +kernel
theorem d5_9 : decode method_2_code 9 = .ok (.iconst 1, 1) := by decide +kernel
theorem d5_10 : decode method_2_code 10 = .ok (.if_icmp .ne 7, 3) := by decide +kernel
theorem d5_13 : decode method_2_code 13 = .ok (.getstatic 13, 3) := by decide +kernel
theorem d5_16 : decode method_2_code 16 = .ok (.areturn, 1) := by decide +kernel
theorem d5_17 : decode method_2_code 17 = .ok (.iload_n 0, 1) := by decide +kernel
theorem d5_18 : decode method_2_code 18 = .ok (.iconst 2, 1) := by decide +kernel
theorem d5_19 : decode method_2_code 19 = .ok (.if_icmp .ne 7, 3) := by decide +kernel
theorem d5_22 : decode method_2_code 22 = .ok (.getstatic 16, 3) := by decide +kernel
theorem d5_25 : decode method_2_code 25 = .ok (.areturn, 1) := by decide +kernel
theorem d5_26 : decode method_2_code 26 = .ok (.iload_n 0, 1) := by decide +kernel
theorem d5_27 : decode method_2_code 27 = .ok (.iconst 3, 1) := by decide +kernel
theorem d5_28 : decode method_2_code 28 = .ok (.if_icmp .ne 7, 3) := by decide +kernel
theorem d5_31 : decode method_2_code 31 = .ok (.getstatic 19, 3) := by decide +kernel
theorem d5_34 : decode method_2_code 34 = .ok (.areturn, 1) := by decide +kernel
theorem d5_35 : decode method_2_code 35 = .ok (.iload_n 0, 1) := by decide +kernel
theorem d5_36 : decode method_2_code 36 = .ok (.iconst 4, 1) := by decide +kernel
theorem d5_37 : decode method_2_code 37 = .ok (.if_icmp .ne 7, 3) := by decide +kernel
theorem d5_40 : decode method_2_code 40 = .ok (.getstatic 22, 3) := by decide +kernel
theorem d5_43 : decode method_2_code 43 = .ok (.areturn, 1) := by decide +kernel
theorem d5_44 : decode method_2_code 44 = .ok (.iload_n 0, 1) := by decide +kernel
theorem d5_45 : decode method_2_code 45 = .ok (.iconst 5, 1) := by decide +kernel
theorem d5_46 : decode method_2_code 46 = .ok (.if_icmp .ne 7, 3) := by decide +kernel
theorem d5_49 : decode method_2_code 49 = .ok (.getstatic 25, 3) := by decide +kernel
theorem d5_52 : decode method_2_code 52 = .ok (.areturn, 1) := by decide +kernel
theorem d5_53 : decode method_2_code 53 = .ok (.iload_n 0, 1) := by decide +kernel
theorem d5_54 : decode method_2_code 54 = .ok (.bipush 6, 2) := by decide +kernel
theorem d5_56 : decode method_2_code 56 = .ok (.if_icmp .ne 7, 3) := by decide +kernel
theorem d5_59 : decode method_2_code 59 = .ok (.getstatic 28, 3) := by decide +kernel
theorem d5_62 : decode method_2_code 62 = .ok (.areturn, 1) := by decide +kernel
theorem d5_63 : decode method_2_code 63 = .ok (.iload_n 0, 1) := by decide +kernel
theorem d5_64 : decode method_2_code 64 = .ok (.bipush 7, 2) := by decide +kernel
theorem d5_66 : decode method_2_code 66 = .ok (.if_icmp .ne 7, 3) := by decide +kernel
theorem d5_69 : decode method_2_code 69 = .ok (.getstatic 31, 3) := by decide +kernel
theorem d5_72 : decode method_2_code 72 = .ok (.areturn, 1) := by decide +kernel
theorem d5_73 : decode method_2_code 73 = .ok (.iload_n 0, 1) := by decide +kernel
theorem d5_74 : decode method_2_code 74 = .ok (.bipush 8, 2) := by decide +kernel
theorem d5_76 : decode method_2_code 76 = .ok (.if_icmp .ne 7, 3) := by decide +kernel
theorem d5_79 : decode method_2_code 79 = .ok (.getstatic 34, 3) := by decide +kernel
theorem d5_82 : decode method_2_code 82 = .ok (.areturn, 1) := by decide +kernel
theorem d5_83 : decode method_2_code 83 = .ok (.iload_n 0, 1) := by decide +kernel
theorem d5_84 : decode method_2_code 84 = .ok (.bipush 9, 2) := by decide +kernel
theorem d5_86 : decode method_2_code 86 = .ok (.if_icmp .ne 7, 3) := by decide +kernel
theorem d5_89 : decode method_2_code 89 = .ok (.getstatic 37, 3) := by decide +kernel
theorem d5_92 : decode method_2_code 92 = .ok (.areturn, 1) := by decide +kernel
theorem d5_93 : decode method_2_code 93 = .ok (.getstatic 40, 3) := by decide +kernel
theorem d5_96 : decode method_2_code 96 = .ok (.areturn, 1) := by decide +kernel
theorem ef_5 (m : MethodId) (x0 : Int32) : entryFrame m #[(.int x0)] 1 = mkF m 0 #[.val (.int x0)] [] := by first | (simp [entryFrame, mkF, argsToLocals, Value.category]; done) | rfl
def Q_rmKind (Z : State) (pi : Int32) (d : Nat → Addr) (h0 : Heap) (n0 : Nat) (v : Option Value) (h : Heap) (L : List Loc) : Prop := v = some (.ref (own_kd d pi)) ∧ Fr n0 L ∧ h = h0
set_option maxRecDepth 65536 in
set_option maxHeartbeats 40000000 in
theorem rmKind (l : Launch) (Z : State) (a0 : Array Value) (hw : ∀ d ∈ tables_1, d.before a0 Z = true) (pi : Int32) (d : Nat → Addr) (h0 : Heap) (n0 : Nat) (Z0 : n0 ≤ h0.size) (X00 : Old Z n0 h0) (S0 : Sta Z Z.heap "com/example/pass3/pass3/Token$Kind" "IDENTIFIER" "Lcom/example/pass3/pass3/Token$Kind;" (.ref (d 0))) (S1 : Sta Z Z.heap "com/example/pass3/pass3/Token$Kind" "KEYWORD" "Lcom/example/pass3/pass3/Token$Kind;" (.ref (d 1))) (S2 : Sta Z Z.heap "com/example/pass3/pass3/Token$Kind" "INT" "Lcom/example/pass3/pass3/Token$Kind;" (.ref (d 2))) (S3 : Sta Z Z.heap "com/example/pass3/pass3/Token$Kind" "FLOAT" "Lcom/example/pass3/pass3/Token$Kind;" (.ref (d 3))) (S4 : Sta Z Z.heap "com/example/pass3/pass3/Token$Kind" "SYMBOL" "Lcom/example/pass3/pass3/Token$Kind;" (.ref (d 4))) (S5 : Sta Z Z.heap "com/example/pass3/pass3/Token$Kind" "QUOTE" "Lcom/example/pass3/pass3/Token$Kind;" (.ref (d 5))) (S6 : Sta Z Z.heap "com/example/pass3/pass3/Token$Kind" "TEXT" "Lcom/example/pass3/pass3/Token$Kind;" (.ref (d 6))) (S7 : Sta Z Z.heap "com/example/pass3/pass3/Token$Kind" "PLACEHOLDER" "Lcom/example/pass3/pass3/Token$Kind;" (.ref (d 7))) (S8 : Sta Z Z.heap "com/example/pass3/pass3/Token$Kind" "CLOSE" "Lcom/example/pass3/pass3/Token$Kind;" (.ref (d 8))) (S9 : Sta Z Z.heap "com/example/pass3/pass3/Token$Kind" "END" "Lcom/example/pass3/pass3/Token$Kind;" (.ref (d 9))) (S10 : Sta Z Z.heap "com/example/pass3/pass3/Token$Kind" "REFUSED" "Lcom/example/pass3/pass3/Token$Kind;" (.ref (d 10))) :
    MetFree l (⟨"com/example/pass3/pass3/TokenIsPinLaw", "kind", "(I)Lcom/example/pass3/pass3/Token$Kind;"⟩ : MethodName) (head1 [Jvm.Cond.code (⟨"com/example/pass3/pass3/TokenIsPinLaw", "kind", "(I)Lcom/example/pass3/pass3/Token$Kind;"⟩ : MethodName) method_2_code 1 (some (.object "com/example/pass3/pass3/Token$Kind"))] ({ frames := 0, cells := 0, slots := 0, locals := 0 } : Room)) (fun a U => a = #[(.int pi)] ∧ Z.Warmed39 U.vm ∧ U.heap = h0) (fun _ _ _ _ _ => True) (fun _ U o U' => ∃ v L, o = .returned v ∧ (Q_rmKind Z pi d h0 n0) v U'.heap L ∧ FrameEnd U o U' L ({ frames := 0, cells := 0, slots := 0, locals := 0 } : Room).cells ({ frames := 0, cells := 0, slots := 0, locals := 0 } : Room).slots) := by
  refine MetFree.of_bodySF (plainFor_of_name pn_e238abf) hisR ?_
  intro p e s m args below meth c s₁ Bd hml0 hP hK
  obtain ⟨rfl, hZ, hh⟩ := hP
  have hx := Bd.exec
  have hby := Bd.bytes
  have hml : c.maxLocals = 1 := hml0
  have hown : s.vm.findClass "com/example/pass3/pass3/TokenIsPinLaw" = some m.cls := findClass_of_methodNamed Bd.named
  have hnm := (name_of_methodNamed Bd.named Bd.method).1
  have X0 : Stand p l e ({ frames := 0, cells := 0, slots := 0, locals := 0 } : Room) s m #[(.int pi)] below meth c s₁ [] 0 0 := Stand.of_body Bd
  have e0 : s₁.heap = h0 := by rw [← hh, Bd.state]; rfl
  have N0 := Fr.nil n0
  have K0 : Keep h0 h0 [] := Keep.refl h0 []
  show Go p e below (s₁.setTop (entryFrame m #[(.int pi)] 1)) (EndN s (Q_rmKind Z pi d h0 n0) ({ frames := 0, cells := 0, slots := 0, locals := 0 } : Room).cells ({ frames := 0, cells := 0, slots := 0, locals := 0 } : Room).slots)
  refine Go.top (ef_5 m pi) ?_
  refine Go.st (T' := s₁.setTop (mkF m 1 #[.val (.int pi)] [(.int pi)])) (fun t k => XS.iloadN X0.here hx rfl (hb hby d5_0) rfl k) ?_
  by_cases hk0 : pi = (0 : Int32)
  ·
    refine Go.st (T' := s₁.setTop (mkF m 4 #[.val (.int pi)] [])) (fun t k => XS.ifNo X0.here hx rfl (hb hby d5_1) rfl ((if0 _ _).trans (teq hk0).2) k) ?_
    obtain ⟨T84, X84, e84, st84⟩ := getS (host := "") X0 hx hZ hown (hw _ (List.mem_of_getElem? (i := 33) rfl)) Via.refl e0 (S0.ext X00.2) (g := (mkF m 4 #[.val (.int pi)] [])) rfl (hb hby d5_4)
    refine Go.st (T' := T84.setTop (mkF m 7 #[.val (.int pi)] [(.ref (d 0))])) (fun t k => st84 t k) ?_
    exact Go.done X84 Bd.notSynchronized (v := some (.ref (d 0))) (fun h => by rw [Bd.returns] at h; cases h) (fun fs hr => retA X84 hx Bd.returns rfl rfl rfl (hb hby d5_7) hr) (by rw [e84]; exact ⟨by simp [own_kd, hk0], N0, rfl⟩) (by decide) (by decide)
  ·
    refine Go.st (T' := s₁.setTop (mkF m 8 #[.val (.int pi)] [])) (fun t k => XS.ifYes X0.here hx rfl (pc0 := 1) (pc' := 8) rfl (hb hby d5_1) rfl ((if0 _ _).trans (feq hk0).2) (by decide) (by decide) k) ?_
    refine Go.st (T' := s₁.setTop (mkF m 9 #[.val (.int pi)] [(.int pi)])) (fun t k => XS.iloadN X0.here hx rfl (hb hby d5_8) rfl k) ?_
    refine Go.st (T' := s₁.setTop (mkF m 10 #[.val (.int pi)] [(.int (1 : Int32)), (.int pi)])) (fun t k => XS.iconst X0.here hx rfl (hb hby d5_9) k) ?_
    by_cases hk1 : pi = (1 : Int32)
    ·
      refine Go.st (T' := s₁.setTop (mkF m 13 #[.val (.int pi)] [])) (fun t k => XS.icmpNo X0.here hx rfl (hb hby d5_10) rfl (teq hk1).2 k) ?_
      obtain ⟨T85, X85, e85, st85⟩ := getS (host := "") X0 hx hZ hown (hw _ (List.mem_of_getElem? (i := 98) rfl)) Via.refl e0 (S1.ext X00.2) (g := (mkF m 13 #[.val (.int pi)] [])) rfl (hb hby d5_13)
      refine Go.st (T' := T85.setTop (mkF m 16 #[.val (.int pi)] [(.ref (d 1))])) (fun t k => st85 t k) ?_
      exact Go.done X85 Bd.notSynchronized (v := some (.ref (d 1))) (fun h => by rw [Bd.returns] at h; cases h) (fun fs hr => retA X85 hx Bd.returns rfl rfl rfl (hb hby d5_16) hr) (by rw [e85]; exact ⟨by simp [own_kd, hk0, hk1], N0, rfl⟩) (by decide) (by decide)
    ·
      refine Go.st (T' := s₁.setTop (mkF m 17 #[.val (.int pi)] [])) (fun t k => XS.icmpYes X0.here hx rfl (pc0 := 10) (pc' := 17) rfl (hb hby d5_10) rfl (feq hk1).2 (by decide) (by decide) k) ?_
      refine Go.st (T' := s₁.setTop (mkF m 18 #[.val (.int pi)] [(.int pi)])) (fun t k => XS.iloadN X0.here hx rfl (hb hby d5_17) rfl k) ?_
      refine Go.st (T' := s₁.setTop (mkF m 19 #[.val (.int pi)] [(.int (2 : Int32)), (.int pi)])) (fun t k => XS.iconst X0.here hx rfl (hb hby d5_18) k) ?_
      by_cases hk2 : pi = (2 : Int32)
      ·
        refine Go.st (T' := s₁.setTop (mkF m 22 #[.val (.int pi)] [])) (fun t k => XS.icmpNo X0.here hx rfl (hb hby d5_19) rfl (teq hk2).2 k) ?_
        obtain ⟨T86, X86, e86, st86⟩ := getS (host := "") X0 hx hZ hown (hw _ (List.mem_of_getElem? (i := 94) rfl)) Via.refl e0 (S2.ext X00.2) (g := (mkF m 22 #[.val (.int pi)] [])) rfl (hb hby d5_22)
        refine Go.st (T' := T86.setTop (mkF m 25 #[.val (.int pi)] [(.ref (d 2))])) (fun t k => st86 t k) ?_
        exact Go.done X86 Bd.notSynchronized (v := some (.ref (d 2))) (fun h => by rw [Bd.returns] at h; cases h) (fun fs hr => retA X86 hx Bd.returns rfl rfl rfl (hb hby d5_25) hr) (by rw [e86]; exact ⟨by simp [own_kd, hk0, hk1, hk2], N0, rfl⟩) (by decide) (by decide)
      ·
        refine Go.st (T' := s₁.setTop (mkF m 26 #[.val (.int pi)] [])) (fun t k => XS.icmpYes X0.here hx rfl (pc0 := 19) (pc' := 26) rfl (hb hby d5_19) rfl (feq hk2).2 (by decide) (by decide) k) ?_
        refine Go.st (T' := s₁.setTop (mkF m 27 #[.val (.int pi)] [(.int pi)])) (fun t k => XS.iloadN X0.here hx rfl (hb hby d5_26) rfl k) ?_
        refine Go.st (T' := s₁.setTop (mkF m 28 #[.val (.int pi)] [(.int (3 : Int32)), (.int pi)])) (fun t k => XS.iconst X0.here hx rfl (hb hby d5_27) k) ?_
        by_cases hk3 : pi = (3 : Int32)
        ·
          refine Go.st (T' := s₁.setTop (mkF m 31 #[.val (.int pi)] [])) (fun t k => XS.icmpNo X0.here hx rfl (hb hby d5_28) rfl (teq hk3).2 k) ?_
          obtain ⟨T87, X87, e87, st87⟩ := getS (host := "") X0 hx hZ hown (hw _ (List.mem_of_getElem? (i := 102) rfl)) Via.refl e0 (S3.ext X00.2) (g := (mkF m 31 #[.val (.int pi)] [])) rfl (hb hby d5_31)
          refine Go.st (T' := T87.setTop (mkF m 34 #[.val (.int pi)] [(.ref (d 3))])) (fun t k => st87 t k) ?_
          exact Go.done X87 Bd.notSynchronized (v := some (.ref (d 3))) (fun h => by rw [Bd.returns] at h; cases h) (fun fs hr => retA X87 hx Bd.returns rfl rfl rfl (hb hby d5_34) hr) (by rw [e87]; exact ⟨by simp [own_kd, hk0, hk1, hk2, hk3], N0, rfl⟩) (by decide) (by decide)
        ·
          refine Go.st (T' := s₁.setTop (mkF m 35 #[.val (.int pi)] [])) (fun t k => XS.icmpYes X0.here hx rfl (pc0 := 28) (pc' := 35) rfl (hb hby d5_28) rfl (feq hk3).2 (by decide) (by decide) k) ?_
          refine Go.st (T' := s₁.setTop (mkF m 36 #[.val (.int pi)] [(.int pi)])) (fun t k => XS.iloadN X0.here hx rfl (hb hby d5_35) rfl k) ?_
          refine Go.st (T' := s₁.setTop (mkF m 37 #[.val (.int pi)] [(.int (4 : Int32)), (.int pi)])) (fun t k => XS.iconst X0.here hx rfl (hb hby d5_36) k) ?_
          by_cases hk4 : pi = (4 : Int32)
          ·
            refine Go.st (T' := s₁.setTop (mkF m 40 #[.val (.int pi)] [])) (fun t k => XS.icmpNo X0.here hx rfl (hb hby d5_37) rfl (teq hk4).2 k) ?_
            obtain ⟨T88, X88, e88, st88⟩ := getS (host := "") X0 hx hZ hown (hw _ (List.mem_of_getElem? (i := 78) rfl)) Via.refl e0 (S4.ext X00.2) (g := (mkF m 40 #[.val (.int pi)] [])) rfl (hb hby d5_40)
            refine Go.st (T' := T88.setTop (mkF m 43 #[.val (.int pi)] [(.ref (d 4))])) (fun t k => st88 t k) ?_
            exact Go.done X88 Bd.notSynchronized (v := some (.ref (d 4))) (fun h => by rw [Bd.returns] at h; cases h) (fun fs hr => retA X88 hx Bd.returns rfl rfl rfl (hb hby d5_43) hr) (by rw [e88]; exact ⟨by simp [own_kd, hk0, hk1, hk2, hk3, hk4], N0, rfl⟩) (by decide) (by decide)
          ·
            refine Go.st (T' := s₁.setTop (mkF m 44 #[.val (.int pi)] [])) (fun t k => XS.icmpYes X0.here hx rfl (pc0 := 37) (pc' := 44) rfl (hb hby d5_37) rfl (feq hk4).2 (by decide) (by decide) k) ?_
            refine Go.st (T' := s₁.setTop (mkF m 45 #[.val (.int pi)] [(.int pi)])) (fun t k => XS.iloadN X0.here hx rfl (hb hby d5_44) rfl k) ?_
            refine Go.st (T' := s₁.setTop (mkF m 46 #[.val (.int pi)] [(.int (5 : Int32)), (.int pi)])) (fun t k => XS.iconst X0.here hx rfl (hb hby d5_45) k) ?_
            by_cases hk5 : pi = (5 : Int32)
            ·
              refine Go.st (T' := s₁.setTop (mkF m 49 #[.val (.int pi)] [])) (fun t k => XS.icmpNo X0.here hx rfl (hb hby d5_46) rfl (teq hk5).2 k) ?_
              obtain ⟨T89, X89, e89, st89⟩ := getS (host := "") X0 hx hZ hown (hw _ (List.mem_of_getElem? (i := 80) rfl)) Via.refl e0 (S5.ext X00.2) (g := (mkF m 49 #[.val (.int pi)] [])) rfl (hb hby d5_49)
              refine Go.st (T' := T89.setTop (mkF m 52 #[.val (.int pi)] [(.ref (d 5))])) (fun t k => st89 t k) ?_
              exact Go.done X89 Bd.notSynchronized (v := some (.ref (d 5))) (fun h => by rw [Bd.returns] at h; cases h) (fun fs hr => retA X89 hx Bd.returns rfl rfl rfl (hb hby d5_52) hr) (by rw [e89]; exact ⟨by simp [own_kd, hk0, hk1, hk2, hk3, hk4, hk5], N0, rfl⟩) (by decide) (by decide)
            ·
              refine Go.st (T' := s₁.setTop (mkF m 53 #[.val (.int pi)] [])) (fun t k => XS.icmpYes X0.here hx rfl (pc0 := 46) (pc' := 53) rfl (hb hby d5_46) rfl (feq hk5).2 (by decide) (by decide) k) ?_
              refine Go.st (T' := s₁.setTop (mkF m 54 #[.val (.int pi)] [(.int pi)])) (fun t k => XS.iloadN X0.here hx rfl (hb hby d5_53) rfl k) ?_
              refine Go.st (T' := s₁.setTop (mkF m 56 #[.val (.int pi)] [(.int (6 : Int32)), (.int pi)])) (fun t k => XS.bipush X0.here hx rfl (hb hby d5_54) k) ?_
              by_cases hk6 : pi = (6 : Int32)
              ·
                refine Go.st (T' := s₁.setTop (mkF m 59 #[.val (.int pi)] [])) (fun t k => XS.icmpNo X0.here hx rfl (hb hby d5_56) rfl (teq hk6).2 k) ?_
                obtain ⟨T90, X90, e90, st90⟩ := getS (host := "") X0 hx hZ hown (hw _ (List.mem_of_getElem? (i := 100) rfl)) Via.refl e0 (S6.ext X00.2) (g := (mkF m 59 #[.val (.int pi)] [])) rfl (hb hby d5_59)
                refine Go.st (T' := T90.setTop (mkF m 62 #[.val (.int pi)] [(.ref (d 6))])) (fun t k => st90 t k) ?_
                exact Go.done X90 Bd.notSynchronized (v := some (.ref (d 6))) (fun h => by rw [Bd.returns] at h; cases h) (fun fs hr => retA X90 hx Bd.returns rfl rfl rfl (hb hby d5_62) hr) (by rw [e90]; exact ⟨by simp [own_kd, hk0, hk1, hk2, hk3, hk4, hk5, hk6], N0, rfl⟩) (by decide) (by decide)
              ·
                refine Go.st (T' := s₁.setTop (mkF m 63 #[.val (.int pi)] [])) (fun t k => XS.icmpYes X0.here hx rfl (pc0 := 56) (pc' := 63) rfl (hb hby d5_56) rfl (feq hk6).2 (by decide) (by decide) k) ?_
                refine Go.st (T' := s₁.setTop (mkF m 64 #[.val (.int pi)] [(.int pi)])) (fun t k => XS.iloadN X0.here hx rfl (hb hby d5_63) rfl k) ?_
                refine Go.st (T' := s₁.setTop (mkF m 66 #[.val (.int pi)] [(.int (7 : Int32)), (.int pi)])) (fun t k => XS.bipush X0.here hx rfl (hb hby d5_64) k) ?_
                by_cases hk7 : pi = (7 : Int32)
                ·
                  refine Go.st (T' := s₁.setTop (mkF m 69 #[.val (.int pi)] [])) (fun t k => XS.icmpNo X0.here hx rfl (hb hby d5_66) rfl (teq hk7).2 k) ?_
                  obtain ⟨T91, X91, e91, st91⟩ := getS (host := "") X0 hx hZ hown (hw _ (List.mem_of_getElem? (i := 106) rfl)) Via.refl e0 (S7.ext X00.2) (g := (mkF m 69 #[.val (.int pi)] [])) rfl (hb hby d5_69)
                  refine Go.st (T' := T91.setTop (mkF m 72 #[.val (.int pi)] [(.ref (d 7))])) (fun t k => st91 t k) ?_
                  exact Go.done X91 Bd.notSynchronized (v := some (.ref (d 7))) (fun h => by rw [Bd.returns] at h; cases h) (fun fs hr => retA X91 hx Bd.returns rfl rfl rfl (hb hby d5_72) hr) (by rw [e91]; exact ⟨by simp [own_kd, hk0, hk1, hk2, hk3, hk4, hk5, hk6, hk7], N0, rfl⟩) (by decide) (by decide)
                ·
                  refine Go.st (T' := s₁.setTop (mkF m 73 #[.val (.int pi)] [])) (fun t k => XS.icmpYes X0.here hx rfl (pc0 := 66) (pc' := 73) rfl (hb hby d5_66) rfl (feq hk7).2 (by decide) (by decide) k) ?_
                  refine Go.st (T' := s₁.setTop (mkF m 74 #[.val (.int pi)] [(.int pi)])) (fun t k => XS.iloadN X0.here hx rfl (hb hby d5_73) rfl k) ?_
                  refine Go.st (T' := s₁.setTop (mkF m 76 #[.val (.int pi)] [(.int (8 : Int32)), (.int pi)])) (fun t k => XS.bipush X0.here hx rfl (hb hby d5_74) k) ?_
                  by_cases hk8 : pi = (8 : Int32)
                  ·
                    refine Go.st (T' := s₁.setTop (mkF m 79 #[.val (.int pi)] [])) (fun t k => XS.icmpNo X0.here hx rfl (hb hby d5_76) rfl (teq hk8).2 k) ?_
                    obtain ⟨T92, X92, e92, st92⟩ := getS (host := "") X0 hx hZ hown (hw _ (List.mem_of_getElem? (i := 96) rfl)) Via.refl e0 (S8.ext X00.2) (g := (mkF m 79 #[.val (.int pi)] [])) rfl (hb hby d5_79)
                    refine Go.st (T' := T92.setTop (mkF m 82 #[.val (.int pi)] [(.ref (d 8))])) (fun t k => st92 t k) ?_
                    exact Go.done X92 Bd.notSynchronized (v := some (.ref (d 8))) (fun h => by rw [Bd.returns] at h; cases h) (fun fs hr => retA X92 hx Bd.returns rfl rfl rfl (hb hby d5_82) hr) (by rw [e92]; exact ⟨by simp [own_kd, hk0, hk1, hk2, hk3, hk4, hk5, hk6, hk7, hk8], N0, rfl⟩) (by decide) (by decide)
                  ·
                    refine Go.st (T' := s₁.setTop (mkF m 83 #[.val (.int pi)] [])) (fun t k => XS.icmpYes X0.here hx rfl (pc0 := 76) (pc' := 83) rfl (hb hby d5_76) rfl (feq hk8).2 (by decide) (by decide) k) ?_
                    refine Go.st (T' := s₁.setTop (mkF m 84 #[.val (.int pi)] [(.int pi)])) (fun t k => XS.iloadN X0.here hx rfl (hb hby d5_83) rfl k) ?_
                    refine Go.st (T' := s₁.setTop (mkF m 86 #[.val (.int pi)] [(.int (9 : Int32)), (.int pi)])) (fun t k => XS.bipush X0.here hx rfl (hb hby d5_84) k) ?_
                    by_cases hk9 : pi = (9 : Int32)
                    ·
                      refine Go.st (T' := s₁.setTop (mkF m 89 #[.val (.int pi)] [])) (fun t k => XS.icmpNo X0.here hx rfl (hb hby d5_86) rfl (teq hk9).2 k) ?_
                      obtain ⟨T93, X93, e93, st93⟩ := getS (host := "") X0 hx hZ hown (hw _ (List.mem_of_getElem? (i := 104) rfl)) Via.refl e0 (S9.ext X00.2) (g := (mkF m 89 #[.val (.int pi)] [])) rfl (hb hby d5_89)
                      refine Go.st (T' := T93.setTop (mkF m 92 #[.val (.int pi)] [(.ref (d 9))])) (fun t k => st93 t k) ?_
                      exact Go.done X93 Bd.notSynchronized (v := some (.ref (d 9))) (fun h => by rw [Bd.returns] at h; cases h) (fun fs hr => retA X93 hx Bd.returns rfl rfl rfl (hb hby d5_92) hr) (by rw [e93]; exact ⟨by simp [own_kd, hk0, hk1, hk2, hk3, hk4, hk5, hk6, hk7, hk8, hk9], N0, rfl⟩) (by decide) (by decide)
                    ·
                      refine Go.st (T' := s₁.setTop (mkF m 93 #[.val (.int pi)] [])) (fun t k => XS.icmpYes X0.here hx rfl (pc0 := 86) (pc' := 93) rfl (hb hby d5_86) rfl (feq hk9).2 (by decide) (by decide) k) ?_
                      obtain ⟨T94, X94, e94, st94⟩ := getS (host := "") X0 hx hZ hown (hw _ (List.mem_of_getElem? (i := 92) rfl)) Via.refl e0 (S10.ext X00.2) (g := (mkF m 93 #[.val (.int pi)] [])) rfl (hb hby d5_93)
                      refine Go.st (T' := T94.setTop (mkF m 96 #[.val (.int pi)] [(.ref (d 10))])) (fun t k => st94 t k) ?_
                      exact Go.done X94 Bd.notSynchronized (v := some (.ref (d 10))) (fun h => by rw [Bd.returns] at h; cases h) (fun fs hr => retA X94 hx Bd.returns rfl rfl rfl (hb hby d5_96) hr) (by rw [e94]; exact ⟨by simp [own_kd, hk0, hk1, hk2, hk3, hk4, hk5, hk6, hk7, hk8, hk9], N0, rfl⟩) (by decide) (by decide)
theorem d7_0 : decode jdk_30_method_1_code 0 = .ok (.aload_n 0, 1) := by decide +kernel
theorem d7_1 : decode jdk_30_method_1_code 1 = .ok (.invokespecial 1, 3) := by decide +kernel
theorem d7_4 : decode jdk_30_method_1_code 4 = .ok (.return_, 1) := by decide +kernel
theorem pn_ec4e686 : plainName "java/lang/Record" = true := by first | (simp [plainName, overriddenIn]; done) | decide +kernel
theorem ef_7 (m : MethodId) (x0 : Addr) : entryFrame m #[(.ref x0)] 1 = mkF m 0 #[.val (.ref x0)] [] := by first | (simp [entryFrame, mkF, argsToLocals, Value.category]; done) | rfl
def Q_rmRec (Z : State) (a1 : Addr) (h0 : Heap) (n0 : Nat) (v : Option Value) (h : Heap) (L : List Loc) : Prop := v = none ∧ Fr n0 L ∧ h = h0
set_option maxRecDepth 65536 in
set_option maxHeartbeats 40000000 in
theorem rmRec (l : Launch) (Z : State) (a0 : Array Value) (hw : ∀ d ∈ tables_1, d.before a0 Z = true) (a1 : Addr) (h0 : Heap) (n0 : Nat) (Z0 : n0 ≤ h0.size)  :
    MetFree l (⟨"java/lang/Record", "<init>", "()V"⟩ : MethodName) (head1 [Jvm.Cond.code (⟨"java/lang/Record", "<init>", "()V"⟩ : MethodName) jdk_30_method_1_code 1 none] ({ frames := 1, cells := 0, slots := 0, locals := 12 } : Room)) (fun a U => a = #[(.ref a1)] ∧ Z.Warmed39 U.vm ∧ U.heap = h0) (fun _ _ _ _ _ => True) (fun _ U o U' => ∃ v L, o = .returned v ∧ (Q_rmRec Z a1 h0 n0) v U'.heap L ∧ FrameEnd U o U' L ({ frames := 1, cells := 0, slots := 0, locals := 12 } : Room).cells ({ frames := 1, cells := 0, slots := 0, locals := 12 } : Room).slots) := by
  refine MetFree.of_bodySF (plainFor_of_name pn_ec4e686) hisR ?_
  intro p e s m args below meth c s₁ Bd hml0 hP hK
  obtain ⟨rfl, hZ, hh⟩ := hP
  have hx := Bd.exec
  have hby := Bd.bytes
  have hml : c.maxLocals = 1 := hml0
  have hown : s.vm.findClass "java/lang/Record" = some m.cls := findClass_of_methodNamed Bd.named
  have hnm := (name_of_methodNamed Bd.named Bd.method).1
  have X0 : Stand p l e ({ frames := 1, cells := 0, slots := 0, locals := 12 } : Room) s m #[(.ref a1)] below meth c s₁ [] 0 0 := Stand.of_body Bd
  have e0 : s₁.heap = h0 := by rw [← hh, Bd.state]; rfl
  have N0 := Fr.nil n0
  have K0 : Keep h0 h0 [] := Keep.refl h0 []
  show Go p e below (s₁.setTop (entryFrame m #[(.ref a1)] 1)) (EndN s (Q_rmRec Z a1 h0 n0) ({ frames := 1, cells := 0, slots := 0, locals := 12 } : Room).cells ({ frames := 1, cells := 0, slots := 0, locals := 12 } : Room).slots)
  refine Go.top (ef_7 m a1) ?_
  refine Go.st (T' := s₁.setTop (mkF m 1 #[.val (.ref a1)] [(.ref a1)])) (fun t k => XS.aloadN X0.here hx rfl (hb hby d7_0) rfl rfl k) ?_
  obtain ⟨T95, X95, e95, st95⟩ := initO X0 hx hZ hown (hw _ (List.mem_of_getElem? (i := 47) rfl)) (hw _ (List.mem_of_getElem? (i := 17) rfl)) (hw _ (List.mem_of_getElem? (i := 18) rfl)) e0 (g := (mkF m 1 #[.val (.ref a1)] [(.ref a1)])) rfl (by rw [hml]; rfl) rfl (hb hby d7_1) (by decide) (W := 0) (by show 2 * 0 + _ ≤ _; exact Nat.le_of_eq rfl) (by decide)
  refine Go.st (T' := T95.setTop (mkF m 4 #[.val (.ref a1)] [])) (fun t k => st95 t k) ?_
  exact Go.done X95 Bd.notSynchronized (v := none) (fun _ => rfl) (fun fs hr => X95.returnOut hx Bd.returns (hb hby d7_4) hr) (by rw [e95]; exact ⟨rfl, N0, rfl⟩) (by decide) (by decide)
theorem d6_0 : decode prog_51_method_1_code 0 = .ok (.aload_n 0, 1) := by decide +kernel
theorem d6_1 : decode prog_51_method_1_code 1 = .ok (.invokespecial 1, 3) := by decide +kernel
theorem d6_4 : decode prog_51_method_1_code 4 = .ok (.aload_n 0, 1) := by decide +kernel
theorem d6_5 : decode prog_51_method_1_code 5 = .ok (.iload_n 1, 1) := by decide +kernel
theorem d6_6 : decode prog_51_method_1_code 6 = .ok (.putfield 7, 3) := by decide +kernel
theorem d6_9 : decode prog_51_method_1_code 9 = .ok (.aload_n 0, 1) := by decide +kernel
theorem d6_10 : decode prog_51_method_1_code 10 = .ok (.iload_n 2, 1) := by decide +kernel
theorem d6_11 : decode prog_51_method_1_code 11 = .ok (.putfield 13, 3) := by decide +kernel
theorem d6_14 : decode prog_51_method_1_code 14 = .ok (.return_, 1) := by decide +kernel
theorem pn_70e37b : plainName "com/example/pass3/pass3/Position" = true := by first | (simp [plainName, overriddenIn]; done) | decide +kernel
theorem pd_a8eb9 : parseMethodDescriptor "()V" = some ⟨[], none⟩ := by decide +kernel
theorem ef_6 (m : MethodId) (x0 : Addr) (x1 : Int32) (x2 : Int32) : entryFrame m #[(.ref x0), (.int x1), (.int x2)] 3 = mkF m 0 #[.val (.ref x0), .val (.int x1), .val (.int x2)] [] := by first | (simp [entryFrame, mkF, argsToLocals, Value.category]; done) | rfl
def Q_rmPos (Z : State) (a1 : Addr) (p2 p3 : Int32) (h0 : Heap) (n0 : Nat) (v : Option Value) (h : Heap) (L : List Loc) : Prop := v = none ∧ Fr n0 L ∧ Keep h0 h [a1]
set_option maxRecDepth 65536 in
set_option maxHeartbeats 40000000 in
theorem rmPos (l : Launch) (Z : State) (a0 : Array Value) (hw : ∀ d ∈ tables_1, d.before a0 Z = true) (a1 : Addr) (p2 p3 : Int32) (h0 : Heap) (n0 : Nat) (Z0 : n0 ≤ h0.size) (E1 : Exa Z h0 a1 "com/example/pass3/pass3/Position") (g_a1 : n0 ≤ a1) (Fl : Fld Z h0 a1 "com/example/pass3/pass3/Position" "line" "I" (.int (0 : Int32))) (Fc : Fld Z h0 a1 "com/example/pass3/pass3/Position" "column" "I" (.int (0 : Int32))) :
    MetFree l (⟨"com/example/pass3/pass3/Position", "<init>", "(II)V"⟩ : MethodName) (head1 [Jvm.Cond.code (⟨"com/example/pass3/pass3/Position", "<init>", "(II)V"⟩ : MethodName) prog_51_method_1_code 3 none] ({ frames := 2, cells := 0, slots := 0, locals := 24 } : Room)) (fun a U => a = #[(.ref a1), (.int p2), (.int p3)] ∧ Z.Warmed39 U.vm ∧ U.heap = h0) (fun _ _ _ _ _ => True) (fun _ U o U' => ∃ v L, o = .returned v ∧ (Q_rmPos Z a1 p2 p3 h0 n0) v U'.heap L ∧ FrameEnd U o U' L ({ frames := 2, cells := 0, slots := 0, locals := 24 } : Room).cells ({ frames := 2, cells := 0, slots := 0, locals := 24 } : Room).slots) := by
  refine MetFree.of_bodySF (plainFor_of_name pn_70e37b) hisR ?_
  intro p e s m args below meth c s₁ Bd hml0 hP hK
  obtain ⟨rfl, hZ, hh⟩ := hP
  have hx := Bd.exec
  have hby := Bd.bytes
  have hml : c.maxLocals = 3 := hml0
  have hown : s.vm.findClass "com/example/pass3/pass3/Position" = some m.cls := findClass_of_methodNamed Bd.named
  have hnm := (name_of_methodNamed Bd.named Bd.method).1
  have X0 : Stand p l e ({ frames := 2, cells := 0, slots := 0, locals := 24 } : Room) s m #[(.ref a1), (.int p2), (.int p3)] below meth c s₁ [] 0 0 := Stand.of_body Bd
  have e0 : s₁.heap = h0 := by rw [← hh, Bd.state]; rfl
  have N0 := Fr.nil n0
  have K0 : Keep h0 h0 [a1] := Keep.refl h0 [a1]
  show Go p e below (s₁.setTop (entryFrame m #[(.ref a1), (.int p2), (.int p3)] 3)) (EndN s (Q_rmPos Z a1 p2 p3 h0 n0) ({ frames := 2, cells := 0, slots := 0, locals := 24 } : Room).cells ({ frames := 2, cells := 0, slots := 0, locals := 24 } : Room).slots)
  refine Go.top (ef_6 m a1 p2 p3) ?_
  refine Go.st (T' := s₁.setTop (mkF m 1 #[.val (.ref a1), .val (.int p2), .val (.int p3)] [(.ref a1)])) (fun t k => XS.aloadN X0.here hx rfl (hb hby d6_0) rfl rfl k) ?_
  obtain ⟨vr96, _, ⟨T96, L96, k96, n96⟩, -, X96, ⟨Lc96, hQ96, l96, y96, z96⟩, st96⟩ := X0.specialBack hx (y := (⟨"java/lang/Record", "<init>", "()V"⟩ : MethodName)) rfl hown (mvT hZ (hw _ (List.mem_of_getElem? (i := 42) rfl))) (mvT hZ (hw _ (List.mem_of_getElem? (i := 43) rfl))) (mvT hZ (hw _ (List.mem_of_getElem? (i := 46) rfl))) (by decide) (backOf (W := 0) (rmRec l Z a0 hw a1 h0 n0 Z0) hZ (hw _ (List.mem_of_getElem? (i := 46) rfl)) (hw _ (List.mem_of_getElem? (i := 45) rfl)) (by decide) (by decide)) (g := (mkF m 1 #[.val (.ref a1), .val (.int p2), .val (.int p3)] [(.ref a1)])) rfl (by rw [hml]; rfl) (Steps.refl _) (a := a1) (argsL := []) (rest := []) (lenOf pd_a8eb9 rfl) rfl (by show 2 * 0 + _ ≤ _; exact Nat.le_of_eq rfl) (hb hby d6_1) (fun _ _ => ⟨rfl, e0, (by decide : 0 + 0 ≤ _), (by decide : 0 + 0 ≤ _)⟩)
  dsimp only [Pt.U, Pt.locs, Pt.cells, Pt.slots] at X96 l96 y96 z96 st96 hQ96
  subst l96 y96 z96
  obtain ⟨rfl, Nq96, eq96⟩ := hQ96
  have NN97 := Fr.app N0 Nq96
  refine Go.st (T' := T96.setTop (mkF m 4 #[.val (.ref a1), .val (.int p2), .val (.int p3)] [])) (fun t k => st96.trans k) ?_
  refine Go.st (T' := T96.setTop (mkF m 5 #[.val (.ref a1), .val (.int p2), .val (.int p3)] [(.ref a1)])) (fun t k => XS.aloadN X96.here hx rfl (hb hby d6_4) rfl rfl k) ?_
  refine Go.st (T' := T96.setTop (mkF m 6 #[.val (.ref a1), .val (.int p2), .val (.int p3)] [(.int p2), (.ref a1)])) (fun t k => XS.iloadN X96.here hx rfl (hb hby d6_5) rfl k) ?_
  obtain ⟨T98, h98, X98, e98, W98, st98⟩ := putF X96 hx hZ hown (host := "") (Or.inl (hw _ (List.mem_of_getElem? (i := 48) rfl))) Via.refl eq96 Fl E1 (Or.inr ⟨(hw _ (List.mem_of_getElem? (i := 49) rfl)), rfl, hnm⟩) (hw _ (List.mem_of_getElem? (i := 37) rfl)) (ty := .int) (by decide) rfl rfl (g := (mkF m 6 #[.val (.ref a1), .val (.int p2), .val (.int p3)] [(.int p2), (.ref a1)])) rfl rfl (hb hby d6_6)
  have Fw98 : Fld Z h98 a1 "com/example/pass3/pass3/Position" "line" "I" (.int p2) := Fl.same W98
  have K98 : Keep h0 h98 [a1] := K0.wr W98 (Or.inl (List.mem_of_getElem? (i := 0) rfl))
  have N98 := Fr.snoc X98 NN97 g_a1
  refine Go.st (T' := T98.setTop (mkF m 9 #[.val (.ref a1), .val (.int p2), .val (.int p3)] [])) (fun t k => st98 t k) ?_
  refine Go.st (T' := T98.setTop (mkF m 10 #[.val (.ref a1), .val (.int p2), .val (.int p3)] [(.ref a1)])) (fun t k => XS.aloadN X98.here hx rfl (hb hby d6_9) rfl rfl k) ?_
  refine Go.st (T' := T98.setTop (mkF m 11 #[.val (.ref a1), .val (.int p2), .val (.int p3)] [(.int p3), (.ref a1)])) (fun t k => XS.iloadN X98.here hx rfl (hb hby d6_10) rfl k) ?_
  have f99 : Fld Z h98 a1 "com/example/pass3/pass3/Position" "column" "I" (.int (0 : Int32)) := (Fc.other W98 (Or.inr (slot_ne (Or.inr (hw _ (List.mem_of_getElem? (i := 51) rfl))) (Or.inr (hw _ (List.mem_of_getElem? (i := 49) rfl))) (by decide) (t := .int) (t' := .int) (by decide) (by decide))))
  have f100 : Exa Z h98 a1 "com/example/pass3/pass3/Position" := (E1.wr W98)
  obtain ⟨T101, h101, X101, e101, W101, st101⟩ := putF X98 hx hZ hown (host := "") (Or.inl (hw _ (List.mem_of_getElem? (i := 50) rfl))) Via.refl e98 f99 f100 (Or.inr ⟨(hw _ (List.mem_of_getElem? (i := 51) rfl)), rfl, hnm⟩) (hw _ (List.mem_of_getElem? (i := 37) rfl)) (ty := .int) (by decide) rfl rfl (g := (mkF m 11 #[.val (.ref a1), .val (.int p2), .val (.int p3)] [(.int p3), (.ref a1)])) rfl rfl (hb hby d6_11)
  have Fw101 : Fld Z h101 a1 "com/example/pass3/pass3/Position" "column" "I" (.int p3) := f99.same W101
  have K101 : Keep h0 h101 [a1] := K98.wr W101 (Or.inl (List.mem_of_getElem? (i := 0) rfl))
  have N101 := Fr.snoc X101 N98 g_a1
  refine Go.st (T' := T101.setTop (mkF m 14 #[.val (.ref a1), .val (.int p2), .val (.int p3)] [])) (fun t k => st101 t k) ?_
  exact Go.done X101 Bd.notSynchronized (v := none) (fun _ => rfl) (fun fs hr => X101.returnOut hx Bd.returns (hb hby d6_14) hr) (by rw [e101]; exact ⟨rfl, N101, K101⟩) (by decide) (by decide)
theorem d8_0 : decode prog_77_method_1_code 0 = .ok (.aload_n 0, 1) := by decide +kernel
theorem d8_1 : decode prog_77_method_1_code 1 = .ok (.invokespecial 1, 3) := by decide +kernel
theorem d8_4 : decode prog_77_method_1_code 4 = .ok (.aload_n 0, 1) := by decide +kernel
theorem d8_5 : decode prog_77_method_1_code 5 = .ok (.aload_n 1, 1) := by decide +kernel
theorem d8_6 : decode prog_77_method_1_code 6 = .ok (.putfield 7, 3) := by decide +kernel
theorem d8_9 : decode prog_77_method_1_code 9 = .ok (.aload_n 0, 1) := by decide +kernel
theorem d8_10 : decode prog_77_method_1_code 10 = .ok (.aload_n 2, 1) := by decide +kernel
theorem d8_11 : decode prog_77_method_1_code 11 = .ok (.putfield 13, 3) := by decide +kernel
theorem d8_14 : decode prog_77_method_1_code 14 = .ok (.aload_n 0, 1) := by decide +kernel
theorem d8_15 : decode prog_77_method_1_code 15 = .ok (.aload_n 3, 1) := by decide +kernel
theorem d8_16 : decode prog_77_method_1_code 16 = .ok (.putfield 17, 3) := by decide +kernel
theorem d8_19 : decode prog_77_method_1_code 19 = .ok (.return_, 1) := by decide +kernel
theorem pn_93bf9af : plainName "com/example/pass3/pass3/Token" = true := by first | (simp [plainName, overriddenIn]; done) | decide +kernel
theorem ef_8 (m : MethodId) (x0 : Addr) (x1 : Addr) (x2 : Addr) (x3 : Addr) : entryFrame m #[(.ref x0), (.ref x1), (.ref x2), (.ref x3)] 4 = mkF m 0 #[.val (.ref x0), .val (.ref x1), .val (.ref x2), .val (.ref x3)] [] := by first | (simp [entryFrame, mkF, argsToLocals, Value.category]; done) | rfl
def Q_rmTok (Z : State) (a1 a2 a3 a4 : Addr) (h0 : Heap) (n0 : Nat) (v : Option Value) (h : Heap) (L : List Loc) : Prop := v = none ∧ Fr n0 L ∧ Keep h0 h [a1] ∧ Exa Z h a1 "com/example/pass3/pass3/Token" ∧ Fld Z h a1 "com/example/pass3/pass3/Token" "kind" "Lcom/example/pass3/pass3/Token$Kind;" (.ref a2) ∧ Fld Z h a1 "com/example/pass3/pass3/Token" "text" "Ljava/lang/String;" (.ref a3)
set_option maxRecDepth 65536 in
set_option maxHeartbeats 40000000 in
theorem rmTok (l : Launch) (Z : State) (a0 : Array Value) (hw : ∀ d ∈ tables_1, d.before a0 Z = true) (a1 a2 a3 a4 : Addr) (h0 : Heap) (n0 : Nat) (Z0 : n0 ≤ h0.size) (E1 : Exa Z h0 a1 "com/example/pass3/pass3/Token") (g_a1 : n0 ≤ a1) (Fk : Fld Z h0 a1 "com/example/pass3/pass3/Token" "kind" "Lcom/example/pass3/pass3/Token$Kind;" .null) (Ft : Fld Z h0 a1 "com/example/pass3/pass3/Token" "text" "Ljava/lang/String;" .null) (Fp : Fld Z h0 a1 "com/example/pass3/pass3/Token" "position" "Lcom/example/pass3/pass3/Position;" .null) :
    MetFree l (⟨"com/example/pass3/pass3/Token", "<init>", "(Lcom/example/pass3/pass3/Token$Kind;Ljava/lang/String;Lcom/example/pass3/pass3/Position;)V"⟩ : MethodName) (head1 [Jvm.Cond.code (⟨"com/example/pass3/pass3/Token", "<init>", "(Lcom/example/pass3/pass3/Token$Kind;Ljava/lang/String;Lcom/example/pass3/pass3/Position;)V"⟩ : MethodName) prog_77_method_1_code 4 none] ({ frames := 2, cells := 0, slots := 0, locals := 24 } : Room)) (fun a U => a = #[(.ref a1), (.ref a2), (.ref a3), (.ref a4)] ∧ Z.Warmed39 U.vm ∧ U.heap = h0) (fun _ _ _ _ _ => True) (fun _ U o U' => ∃ v L, o = .returned v ∧ (Q_rmTok Z a1 a2 a3 a4 h0 n0) v U'.heap L ∧ FrameEnd U o U' L ({ frames := 2, cells := 0, slots := 0, locals := 24 } : Room).cells ({ frames := 2, cells := 0, slots := 0, locals := 24 } : Room).slots) := by
  refine MetFree.of_bodySF (plainFor_of_name pn_93bf9af) hisR ?_
  intro p e s m args below meth c s₁ Bd hml0 hP hK
  obtain ⟨rfl, hZ, hh⟩ := hP
  have hx := Bd.exec
  have hby := Bd.bytes
  have hml : c.maxLocals = 4 := hml0
  have hown : s.vm.findClass "com/example/pass3/pass3/Token" = some m.cls := findClass_of_methodNamed Bd.named
  have hnm := (name_of_methodNamed Bd.named Bd.method).1
  have X0 : Stand p l e ({ frames := 2, cells := 0, slots := 0, locals := 24 } : Room) s m #[(.ref a1), (.ref a2), (.ref a3), (.ref a4)] below meth c s₁ [] 0 0 := Stand.of_body Bd
  have e0 : s₁.heap = h0 := by rw [← hh, Bd.state]; rfl
  have N0 := Fr.nil n0
  have K0 : Keep h0 h0 [a1] := Keep.refl h0 [a1]
  show Go p e below (s₁.setTop (entryFrame m #[(.ref a1), (.ref a2), (.ref a3), (.ref a4)] 4)) (EndN s (Q_rmTok Z a1 a2 a3 a4 h0 n0) ({ frames := 2, cells := 0, slots := 0, locals := 24 } : Room).cells ({ frames := 2, cells := 0, slots := 0, locals := 24 } : Room).slots)
  refine Go.top (ef_8 m a1 a2 a3 a4) ?_
  refine Go.st (T' := s₁.setTop (mkF m 1 #[.val (.ref a1), .val (.ref a2), .val (.ref a3), .val (.ref a4)] [(.ref a1)])) (fun t k => XS.aloadN X0.here hx rfl (hb hby d8_0) rfl rfl k) ?_
  obtain ⟨vr102, _, ⟨T102, L102, k102, n102⟩, -, X102, ⟨Lc102, hQ102, l102, y102, z102⟩, st102⟩ := X0.specialBack hx (y := (⟨"java/lang/Record", "<init>", "()V"⟩ : MethodName)) rfl hown (mvT hZ (hw _ (List.mem_of_getElem? (i := 55) rfl))) (mvT hZ (hw _ (List.mem_of_getElem? (i := 43) rfl))) (mvT hZ (hw _ (List.mem_of_getElem? (i := 46) rfl))) (by decide) (backOf (W := 0) (rmRec l Z a0 hw a1 h0 n0 Z0) hZ (hw _ (List.mem_of_getElem? (i := 46) rfl)) (hw _ (List.mem_of_getElem? (i := 45) rfl)) (by decide) (by decide)) (g := (mkF m 1 #[.val (.ref a1), .val (.ref a2), .val (.ref a3), .val (.ref a4)] [(.ref a1)])) rfl (by rw [hml]; rfl) (Steps.refl _) (a := a1) (argsL := []) (rest := []) (lenOf pd_a8eb9 rfl) rfl (by show 2 * 0 + _ ≤ _; exact Nat.le_of_eq rfl) (hb hby d8_1) (fun _ _ => ⟨rfl, e0, (by decide : 0 + 0 ≤ _), (by decide : 0 + 0 ≤ _)⟩)
  dsimp only [Pt.U, Pt.locs, Pt.cells, Pt.slots] at X102 l102 y102 z102 st102 hQ102
  subst l102 y102 z102
  obtain ⟨rfl, Nq102, eq102⟩ := hQ102
  have NN103 := Fr.app N0 Nq102
  refine Go.st (T' := T102.setTop (mkF m 4 #[.val (.ref a1), .val (.ref a2), .val (.ref a3), .val (.ref a4)] [])) (fun t k => st102.trans k) ?_
  refine Go.st (T' := T102.setTop (mkF m 5 #[.val (.ref a1), .val (.ref a2), .val (.ref a3), .val (.ref a4)] [(.ref a1)])) (fun t k => XS.aloadN X102.here hx rfl (hb hby d8_4) rfl rfl k) ?_
  refine Go.st (T' := T102.setTop (mkF m 6 #[.val (.ref a1), .val (.ref a2), .val (.ref a3), .val (.ref a4)] [(.ref a2), (.ref a1)])) (fun t k => XS.aloadN X102.here hx rfl (hb hby d8_5) rfl rfl k) ?_
  obtain ⟨T104, h104, X104, e104, W104, st104⟩ := putF X102 hx hZ hown (host := "") (Or.inl (hw _ (List.mem_of_getElem? (i := 56) rfl))) Via.refl eq102 Fk E1 (Or.inr ⟨(hw _ (List.mem_of_getElem? (i := 57) rfl)), rfl, hnm⟩) (hw _ (List.mem_of_getElem? (i := 28) rfl)) (ty := (.object "com/example/pass3/pass3/Token$Kind")) (by decide) rfl rfl (g := (mkF m 6 #[.val (.ref a1), .val (.ref a2), .val (.ref a3), .val (.ref a4)] [(.ref a2), (.ref a1)])) rfl rfl (hb hby d8_6)
  have Fw104 : Fld Z h104 a1 "com/example/pass3/pass3/Token" "kind" "Lcom/example/pass3/pass3/Token$Kind;" (.ref a2) := Fk.same W104
  have K104 : Keep h0 h104 [a1] := K0.wr W104 (Or.inl (List.mem_of_getElem? (i := 0) rfl))
  have N104 := Fr.snoc X104 NN103 g_a1
  refine Go.st (T' := T104.setTop (mkF m 9 #[.val (.ref a1), .val (.ref a2), .val (.ref a3), .val (.ref a4)] [])) (fun t k => st104 t k) ?_
  refine Go.st (T' := T104.setTop (mkF m 10 #[.val (.ref a1), .val (.ref a2), .val (.ref a3), .val (.ref a4)] [(.ref a1)])) (fun t k => XS.aloadN X104.here hx rfl (hb hby d8_9) rfl rfl k) ?_
  refine Go.st (T' := T104.setTop (mkF m 11 #[.val (.ref a1), .val (.ref a2), .val (.ref a3), .val (.ref a4)] [(.ref a3), (.ref a1)])) (fun t k => XS.aloadN X104.here hx rfl (hb hby d8_10) rfl rfl k) ?_
  have f105 : Fld Z h104 a1 "com/example/pass3/pass3/Token" "text" "Ljava/lang/String;" .null := (Ft.other W104 (Or.inr (slot_ne (Or.inr (hw _ (List.mem_of_getElem? (i := 59) rfl))) (Or.inr (hw _ (List.mem_of_getElem? (i := 57) rfl))) (by decide) (t := (.object "java/lang/String")) (t' := (.object "com/example/pass3/pass3/Token$Kind")) (by decide) (by decide))))
  have f106 : Exa Z h104 a1 "com/example/pass3/pass3/Token" := (E1.wr W104)
  obtain ⟨T107, h107, X107, e107, W107, st107⟩ := putF X104 hx hZ hown (host := "") (Or.inl (hw _ (List.mem_of_getElem? (i := 58) rfl))) Via.refl e104 f105 f106 (Or.inr ⟨(hw _ (List.mem_of_getElem? (i := 59) rfl)), rfl, hnm⟩) (hw _ (List.mem_of_getElem? (i := 28) rfl)) (ty := (.object "java/lang/String")) (by decide) rfl rfl (g := (mkF m 11 #[.val (.ref a1), .val (.ref a2), .val (.ref a3), .val (.ref a4)] [(.ref a3), (.ref a1)])) rfl rfl (hb hby d8_11)
  have Fw107 : Fld Z h107 a1 "com/example/pass3/pass3/Token" "text" "Ljava/lang/String;" (.ref a3) := f105.same W107
  have K107 : Keep h0 h107 [a1] := K104.wr W107 (Or.inl (List.mem_of_getElem? (i := 0) rfl))
  have N107 := Fr.snoc X107 N104 g_a1
  refine Go.st (T' := T107.setTop (mkF m 14 #[.val (.ref a1), .val (.ref a2), .val (.ref a3), .val (.ref a4)] [])) (fun t k => st107 t k) ?_
  refine Go.st (T' := T107.setTop (mkF m 15 #[.val (.ref a1), .val (.ref a2), .val (.ref a3), .val (.ref a4)] [(.ref a1)])) (fun t k => XS.aloadN X107.here hx rfl (hb hby d8_14) rfl rfl k) ?_
  refine Go.st (T' := T107.setTop (mkF m 16 #[.val (.ref a1), .val (.ref a2), .val (.ref a3), .val (.ref a4)] [(.ref a4), (.ref a1)])) (fun t k => XS.aloadN X107.here hx rfl (hb hby d8_15) rfl rfl k) ?_
  have f108 : Fld Z h107 a1 "com/example/pass3/pass3/Token" "position" "Lcom/example/pass3/pass3/Position;" .null := ((Fp.other W104 (Or.inr (slot_ne (Or.inr (hw _ (List.mem_of_getElem? (i := 61) rfl))) (Or.inr (hw _ (List.mem_of_getElem? (i := 57) rfl))) (by decide) (t := (.object "com/example/pass3/pass3/Position")) (t' := (.object "com/example/pass3/pass3/Token$Kind")) (by decide) (by decide)))).other W107 (Or.inr (slot_ne (Or.inr (hw _ (List.mem_of_getElem? (i := 61) rfl))) (Or.inr (hw _ (List.mem_of_getElem? (i := 59) rfl))) (by decide) (t := (.object "com/example/pass3/pass3/Position")) (t' := (.object "java/lang/String")) (by decide) (by decide))))
  have f109 : Exa Z h107 a1 "com/example/pass3/pass3/Token" := (f106.wr W107)
  obtain ⟨T110, h110, X110, e110, W110, st110⟩ := putF X107 hx hZ hown (host := "") (Or.inl (hw _ (List.mem_of_getElem? (i := 60) rfl))) Via.refl e107 f108 f109 (Or.inr ⟨(hw _ (List.mem_of_getElem? (i := 61) rfl)), rfl, hnm⟩) (hw _ (List.mem_of_getElem? (i := 28) rfl)) (ty := (.object "com/example/pass3/pass3/Position")) (by decide) rfl rfl (g := (mkF m 16 #[.val (.ref a1), .val (.ref a2), .val (.ref a3), .val (.ref a4)] [(.ref a4), (.ref a1)])) rfl rfl (hb hby d8_16)
  have Fw110 : Fld Z h110 a1 "com/example/pass3/pass3/Token" "position" "Lcom/example/pass3/pass3/Position;" (.ref a4) := f108.same W110
  have K110 : Keep h0 h110 [a1] := K107.wr W110 (Or.inl (List.mem_of_getElem? (i := 0) rfl))
  have N110 := Fr.snoc X110 N107 g_a1
  refine Go.st (T' := T110.setTop (mkF m 19 #[.val (.ref a1), .val (.ref a2), .val (.ref a3), .val (.ref a4)] [])) (fun t k => st110 t k) ?_
  have f111 : Fld Z h110 a1 "com/example/pass3/pass3/Token" "kind" "Lcom/example/pass3/pass3/Token$Kind;" (.ref a2) := ((Fw104.other W107 (Or.inr (slot_ne (Or.inr (hw _ (List.mem_of_getElem? (i := 57) rfl))) (Or.inr (hw _ (List.mem_of_getElem? (i := 59) rfl))) (by decide) (t := (.object "com/example/pass3/pass3/Token$Kind")) (t' := (.object "java/lang/String")) (by decide) (by decide)))).other W110 (Or.inr (slot_ne (Or.inr (hw _ (List.mem_of_getElem? (i := 57) rfl))) (Or.inr (hw _ (List.mem_of_getElem? (i := 61) rfl))) (by decide) (t := (.object "com/example/pass3/pass3/Token$Kind")) (t' := (.object "com/example/pass3/pass3/Position")) (by decide) (by decide))))
  have f112 : Fld Z h110 a1 "com/example/pass3/pass3/Token" "text" "Ljava/lang/String;" (.ref a3) := (Fw107.other W110 (Or.inr (slot_ne (Or.inr (hw _ (List.mem_of_getElem? (i := 59) rfl))) (Or.inr (hw _ (List.mem_of_getElem? (i := 61) rfl))) (by decide) (t := (.object "java/lang/String")) (t' := (.object "com/example/pass3/pass3/Position")) (by decide) (by decide))))
  have f113 : Exa Z h110 a1 "com/example/pass3/pass3/Token" := (f109.wr W110)
  exact Go.done X110 Bd.notSynchronized (v := none) (fun _ => rfl) (fun fs hr => X110.returnOut hx Bd.returns (hb hby d8_19) hr) (by rw [e110]; exact ⟨rfl, N110, K110, f113, f111, f112⟩) (by decide) (by decide)
theorem d9_0 : decode prog_77_method_2_code 0 = .ok (.aload_n 0, 1) := by decide +kernel
theorem d9_1 : decode prog_77_method_2_code 1 = .ok (.getfield 7, 3) := by decide +kernel
theorem d9_4 : decode prog_77_method_2_code 4 = .ok (.aload_n 1, 1) := by decide +kernel
theorem d9_5 : decode prog_77_method_2_code 5 = .ok (.if_acmp .ne 18, 3) := by decide +kernel
theorem d9_8 : decode prog_77_method_2_code 8 = .ok (.aload_n 0, 1) := by decide +kernel
theorem d9_9 : decode prog_77_method_2_code 9 = .ok (.getfield 13, 3) := by decide +kernel
theorem d9_12 : decode prog_77_method_2_code 12 = .ok (.aload_n 2, 1) := by decide +kernel
theorem d9_13 : decode prog_77_method_2_code 13 = .ok (.invokevirtual 21, 3) := by decide +kernel
theorem d9_16 : decode prog_77_method_2_code 16 = .ok (.ifCond .eq 7, 3) := by decide +kernel
theorem d9_19 : decode prog_77_method_2_code 19 = .ok (.iconst 1, 1) := by decide +kernel
theorem d9_20 : decode prog_77_method_2_code 20 = .ok (.goto 4, 3) := by decide +kernel
theorem d9_23 : decode prog_77_method_2_code 23 = .ok (.iconst 0, 1) := by decide +kernel
theorem d9_24 : decode prog_77_method_2_code 24 = .ok (.ireturn, 1) := by decide +kernel
theorem pd_a0133a8 : parseMethodDescriptor "(Ljava/lang/Object;)Z" = some ⟨[(.object "java/lang/Object")], some .boolean⟩ := by decide +kernel
theorem ef_9 (m : MethodId) (x0 : Addr) (x1 : Addr) (x2 : Addr) : entryFrame m #[(.ref x0), (.ref x1), (.ref x2)] 3 = mkF m 0 #[.val (.ref x0), .val (.ref x1), .val (.ref x2)] [] := by first | (simp [entryFrame, mkF, argsToLocals, Value.category]; done) | rfl
def Q_rmIs (Z : State) (a1 a4 a5 a2 a3 t3 t5 : Addr) (k3 k5 : ClassId) (cs ds : List Int32) (h0 : Heap) (n0 : Nat) (v : Option Value) (h : Heap) (L : List Loc) : Prop := Fr n0 L ∧ h = h0 ∧ ∃ r : Int32, v = some (.int (nar .boolean r)) ∧ ((r = 1 ∧ a2 = a4 ∧ cs = ds) ∨ (r = 0 ∧ ¬ (a2 = a4 ∧ cs = ds)))
set_option maxRecDepth 65536 in
set_option maxHeartbeats 40000000 in
theorem rmIs (l : Launch) (Z : State) (a0 : Array Value) (hw : ∀ d ∈ tables_1, d.before a0 Z = true) (a1 a4 a5 a2 a3 t3 t5 : Addr) (k3 k5 : ClassId) (cs ds : List Int32) (h0 : Heap) (n0 : Nat) (Z0 : n0 ≤ h0.size) (G1 : Int32) (O2 : Sta Z Z.heap "java/lang/String" "COMPACT_STRINGS" "Z" (.int G1)) (P5 : ¬ (G1 = (0 : Int32))) (X00 : Old Z n0 h0) (Fk : Fld Z h0 a1 "com/example/pass3/pass3/Token" "kind" "Lcom/example/pass3/pass3/Token$Kind;" (.ref a2)) (Ft : Fld Z h0 a1 "com/example/pass3/pass3/Token" "text" "Ljava/lang/String;" (.ref a3)) (E3 : Exa Z h0 a3 "java/lang/String") (V3 : Fld Z h0 a3 "java/lang/String" "value" "[B" (.ref t3)) (C3 : Fld Z h0 a3 "java/lang/String" "coder" "B" (.int (0 : Int32))) (B3 : Arv Z h0 t3 k3 .byte (Int32.ofNat (cs).length) (((cs).map (fun c => c.toInt8.toInt32)).map Value.int) (.int (0 : Int32))) (hp3 : ∀ c ∈ cs, ¬ c < 0 ∧ ¬ (255 : Int32) < c) (hl3 : (cs).length ≤ 4000) (E5 : Exa Z h0 a5 "java/lang/String") (V5 : Fld Z h0 a5 "java/lang/String" "value" "[B" (.ref t5)) (C5 : Fld Z h0 a5 "java/lang/String" "coder" "B" (.int (0 : Int32))) (B5 : Arv Z h0 t5 k5 .byte (Int32.ofNat (ds).length) (((ds).map (fun c => c.toInt8.toInt32)).map Value.int) (.int (0 : Int32))) (hp5 : ∀ c ∈ ds, ¬ c < 0 ∧ ¬ (255 : Int32) < c) (hl5 : (ds).length ≤ 4000) :
    MetFree l (⟨"com/example/pass3/pass3/Token", "is", "(Lcom/example/pass3/pass3/Token$Kind;Ljava/lang/String;)Z"⟩ : MethodName) (head1 [Jvm.Cond.code (⟨"com/example/pass3/pass3/Token", "is", "(Lcom/example/pass3/pass3/Token$Kind;Ljava/lang/String;)Z"⟩ : MethodName) prog_77_method_2_code 3 (some .boolean)] ({ frames := 2, cells := 0, slots := 0, locals := 28 } : Room)) (fun a U => a = #[(.ref a1), (.ref a4), (.ref a5)] ∧ Z.Warmed39 U.vm ∧ U.heap = h0) (fun _ _ _ _ _ => True) (fun _ U o U' => ∃ v L, o = .returned v ∧ (Q_rmIs Z a1 a4 a5 a2 a3 t3 t5 k3 k5 cs ds h0 n0) v U'.heap L ∧ FrameEnd U o U' L ({ frames := 2, cells := 0, slots := 0, locals := 28 } : Room).cells ({ frames := 2, cells := 0, slots := 0, locals := 28 } : Room).slots) := by
  refine MetFree.of_bodySF (plainFor_of_name pn_93bf9af) hisR ?_
  intro p e s m args below meth c s₁ Bd hml0 hP hK
  obtain ⟨rfl, hZ, hh⟩ := hP
  have hx := Bd.exec
  have hby := Bd.bytes
  have hml : c.maxLocals = 3 := hml0
  have hown : s.vm.findClass "com/example/pass3/pass3/Token" = some m.cls := findClass_of_methodNamed Bd.named
  have hnm := (name_of_methodNamed Bd.named Bd.method).1
  have X0 : Stand p l e ({ frames := 2, cells := 0, slots := 0, locals := 28 } : Room) s m #[(.ref a1), (.ref a4), (.ref a5)] below meth c s₁ [] 0 0 := Stand.of_body Bd
  have e0 : s₁.heap = h0 := by rw [← hh, Bd.state]; rfl
  have N0 := Fr.nil n0
  have K0 : Keep h0 h0 [] := Keep.refl h0 []
  show Go p e below (s₁.setTop (entryFrame m #[(.ref a1), (.ref a4), (.ref a5)] 3)) (EndN s (Q_rmIs Z a1 a4 a5 a2 a3 t3 t5 k3 k5 cs ds h0 n0) ({ frames := 2, cells := 0, slots := 0, locals := 28 } : Room).cells ({ frames := 2, cells := 0, slots := 0, locals := 28 } : Room).slots)
  refine Go.top (ef_9 m a1 a4 a5) ?_
  refine Go.st (T' := s₁.setTop (mkF m 1 #[.val (.ref a1), .val (.ref a4), .val (.ref a5)] [(.ref a1)])) (fun t k => XS.aloadN X0.here hx rfl (hb hby d9_0) rfl rfl k) ?_
  obtain ⟨T114, X114, e114, st114⟩ := getF X0 hx hZ hown (host := "") (Or.inl (hw _ (List.mem_of_getElem? (i := 56) rfl))) Via.refl e0 Fk (g := (mkF m 1 #[.val (.ref a1), .val (.ref a4), .val (.ref a5)] [(.ref a1)])) rfl rfl (hb hby d9_1)
  refine Go.st (T' := T114.setTop (mkF m 4 #[.val (.ref a1), .val (.ref a4), .val (.ref a5)] [(.ref a2)])) (fun t k => st114 t k) ?_
  refine Go.st (T' := T114.setTop (mkF m 5 #[.val (.ref a1), .val (.ref a4), .val (.ref a5)] [(.ref a4), (.ref a2)])) (fun t k => XS.aloadN X114.here hx rfl (hb hby d9_4) rfl rfl k) ?_
  by_cases ha : a2 = a4
  ·
    refine Go.st (T' := T114.setTop (mkF m 8 #[.val (.ref a1), .val (.ref a4), .val (.ref a5)] [])) (fun t k => Jvm.RoadKit.acmp (g := (mkF m 5 #[.val (.ref a1), .val (.ref a4), .val (.ref a5)] [(.ref a4), (.ref a2)])) X114 hx rfl rfl rfl (pc0 := 5) (pc' := 8) (same := true) rfl (hb hby d9_5) rfl (decide_eq_true (congrArg Value.ref ha)) (by decide) (by decide) k) ?_
    refine Go.st (T' := T114.setTop (mkF m 9 #[.val (.ref a1), .val (.ref a4), .val (.ref a5)] [(.ref a1)])) (fun t k => XS.aloadN X114.here hx rfl (hb hby d9_8) rfl rfl k) ?_
    obtain ⟨T115, X115, e115, st115⟩ := getF X114 hx hZ hown (host := "") (Or.inl (hw _ (List.mem_of_getElem? (i := 58) rfl))) Via.refl e114 Ft (g := (mkF m 9 #[.val (.ref a1), .val (.ref a4), .val (.ref a5)] [(.ref a1)])) rfl rfl (hb hby d9_9)
    refine Go.st (T' := T115.setTop (mkF m 12 #[.val (.ref a1), .val (.ref a4), .val (.ref a5)] [(.ref a3)])) (fun t k => st115 t k) ?_
    refine Go.st (T' := T115.setTop (mkF m 13 #[.val (.ref a1), .val (.ref a4), .val (.ref a5)] [(.ref a5), (.ref a3)])) (fun t k => XS.aloadN X115.here hx rfl (hb hby d9_12) rfl rfl k) ?_
    have heq : ∀ d ∈ StrChars.Road.wordsEq, d.before a0 Z = true := fun d hd => hw d ((by decide +kernel : ∀ d ∈ StrChars.Road.wordsEq, d ∈ tables_1) d hd)
    have hcd3 : StrChars.Road.CodA cs 0 (Int32.ofNat (cs).length) (((cs).map (fun c => c.toInt8.toInt32)).map Value.int) := StrChars.Road.codOf (n := (cs).length) rfl (fun x hx => (hp3 x hx).2)
    have hcd5 : StrChars.Road.CodA ds 0 (Int32.ofNat (ds).length) (((ds).map (fun c => c.toInt8.toInt32)).map Value.int) := StrChars.Road.codOf (n := (ds).length) rfl (fun x hx => (hp5 x hx).2)
    obtain ⟨cq116, kq116, q116a, q116b, q116c⟩ := isOf hZ e115 E3
    obtain ⟨vr116, _, ⟨T116, L116, k116, n116⟩, -, X116, ⟨Lc116, hQ116, l116, y116, z116⟩, st116⟩ := X115.virtualBack hx (y := (⟨"java/lang/String", "equals", "(Ljava/lang/Object;)Z"⟩ : MethodName)) (z := (⟨"java/lang/String", "equals", "(Ljava/lang/Object;)Z"⟩ : MethodName)) hown (mvT hZ (hw _ (List.mem_of_getElem? (i := 67) rfl))) (mvT hZ (hw _ (List.mem_of_getElem? (i := 68) rfl))) (notFace_of_selects (args := #[]) (mvT hZ (hw _ (List.mem_of_getElem? (i := 70) rfl)))) (mvT hZ (hw _ (List.mem_of_getElem? (i := 70) rfl))) (mvT hZ (hw _ (List.mem_of_getElem? (i := 69) rfl))) (by decide) (StrChars.Road.eqW (W := 0) hZ heq (kI := 4) (hw _ (List.mem_of_getElem? (i := 6) rfl)) E3 V3 C3 B3 hcd3 (own_up _ hp3) hl3 E5 V5 C5 B5 hcd5 (own_up _ hp5) hl5 (O2.ext X00.2) P5 (by decide) (by decide)) q116a q116c (g := (mkF m 13 #[.val (.ref a1), .val (.ref a4), .val (.ref a5)] [(.ref a5), (.ref a3)])) rfl (by rw [hml]; rfl) (Steps.refl _) (argsL := [(.ref a5)]) (rest := []) (lenOf pd_a0133a8 rfl) rfl (by show 2 * 0 + _ ≤ _; exact Nat.le_of_eq rfl) (hb hby d9_13) (fun _ _ => ⟨rfl, e115, (by decide : 0 + 0 ≤ _), (by decide : 0 + 0 ≤ _)⟩)
    dsimp only [Pt.U, Pt.locs, Pt.cells, Pt.slots] at X116 l116 y116 z116 st116 hQ116
    subst l116 y116 z116
    obtain ⟨hv116, rfl, eq116⟩ := hQ116
    obtain ⟨r, hr0, hr⟩ : ∃ r : Int32, vr116 = some (.int r) ∧ ((r = 1 ∧ cs = ds) ∨ (r = 0 ∧ ¬ cs = ds)) := by
      rcases hv116 with ⟨q, q'⟩ | ⟨q, q'⟩
      · exact ⟨1, q, Or.inl ⟨rfl, q'⟩⟩
      · exact ⟨0, q, Or.inr ⟨rfl, q'⟩⟩
    subst hr0
    have Nq116 : Fr n0 ([] : List Loc) := Fr.nil n0
    have NN117 := Fr.app N0 Nq116
    refine Go.st (T' := T116.setTop (mkF m 16 #[.val (.ref a1), .val (.ref a4), .val (.ref a5)] [(.int r)])) (fun t k => st116.trans k) ?_
    rcases hr with ⟨rfl, q⟩ | ⟨rfl, q⟩
    ·
      refine Go.st (T' := T116.setTop (mkF m 19 #[.val (.ref a1), .val (.ref a4), .val (.ref a5)] [])) (fun t k => XS.ifNo X116.here hx rfl (hb hby d9_16) rfl ((if0 _ _).trans (feq (by decide)).1) k) ?_
      refine Go.st (T' := T116.setTop (mkF m 20 #[.val (.ref a1), .val (.ref a4), .val (.ref a5)] [(.int (1 : Int32))])) (fun t k => XS.iconst X116.here hx rfl (hb hby d9_19) k) ?_
      refine Go.st (T' := T116.setTop (mkF m 24 #[.val (.ref a1), .val (.ref a4), .val (.ref a5)] [(.int (1 : Int32))])) (fun t k => XS.goto X116.here hx rfl (pc0 := 20) (pc' := 24) rfl (hb hby d9_20) (by decide) (by decide) k) ?_
      exact Go.done X116 Bd.notSynchronized (v := some (.int (nar .boolean (1 : Int32)))) (fun h => by rw [Bd.returns] at h; cases h) (fun fs hr => retN X116 hx (t := .boolean) Bd.returns (by simp) (hb hby d9_24) hr) (by rw [eq116]; exact ⟨NN117, rfl, ⟨1, rfl, Or.inl ⟨rfl, ha, q⟩⟩⟩) (by decide) (by decide)
    ·
      refine Go.st (T' := T116.setTop (mkF m 23 #[.val (.ref a1), .val (.ref a4), .val (.ref a5)] [])) (fun t k => XS.ifYes X116.here hx rfl (pc0 := 16) (pc' := 23) rfl (hb hby d9_16) rfl ((if0 _ _).trans (teq (by decide)).1) (by decide) (by decide) k) ?_
      refine Go.st (T' := T116.setTop (mkF m 24 #[.val (.ref a1), .val (.ref a4), .val (.ref a5)] [(.int (0 : Int32))])) (fun t k => XS.iconst X116.here hx rfl (hb hby d9_23) k) ?_
      exact Go.done X116 Bd.notSynchronized (v := some (.int (nar .boolean (0 : Int32)))) (fun h => by rw [Bd.returns] at h; cases h) (fun fs hr => retN X116 hx (t := .boolean) Bd.returns (by simp) (hb hby d9_24) hr) (by rw [eq116]; exact ⟨NN117, rfl, ⟨0, rfl, Or.inr ⟨rfl, fun z => q z.2⟩⟩⟩) (by decide) (by decide)
  ·
    refine Go.st (T' := T114.setTop (mkF m 23 #[.val (.ref a1), .val (.ref a4), .val (.ref a5)] [])) (fun t k => Jvm.RoadKit.acmp (g := (mkF m 5 #[.val (.ref a1), .val (.ref a4), .val (.ref a5)] [(.ref a4), (.ref a2)])) X114 hx rfl rfl rfl (pc0 := 5) (pc' := 23) (same := false) rfl (hb hby d9_5) rfl (decide_eq_false fun q => ha (Value.ref.inj q)) (by decide) (by decide) k) ?_
    refine Go.st (T' := T114.setTop (mkF m 24 #[.val (.ref a1), .val (.ref a4), .val (.ref a5)] [(.int (0 : Int32))])) (fun t k => XS.iconst X114.here hx rfl (hb hby d9_23) k) ?_
    exact Go.done X114 Bd.notSynchronized (v := some (.int (nar .boolean (0 : Int32)))) (fun h => by rw [Bd.returns] at h; cases h) (fun fs hr => retN X114 hx (t := .boolean) Bd.returns (by simp) (hb hby d9_24) hr) (by rw [e114]; exact ⟨N0, rfl, 0, rfl, Or.inr ⟨rfl, fun z => ha z.1⟩⟩) (by decide) (by decide)
theorem pd_a8e4fc5 : parseMethodDescriptor "(ICCC)Ljava/lang/String;" = some ⟨[.int, .char, .char, .char], some (.object "java/lang/String")⟩ := by decide +kernel
theorem pd_52f348a : parseMethodDescriptor "(I)Lcom/example/pass3/pass3/Token$Kind;" = some ⟨[.int], some (.object "com/example/pass3/pass3/Token$Kind")⟩ := by decide +kernel
theorem pd_7ffd0bd : parseMethodDescriptor "(II)V" = some ⟨[.int, .int], none⟩ := by decide +kernel
theorem pd_bef9ebd : parseMethodDescriptor "(Lcom/example/pass3/pass3/Token$Kind;Ljava/lang/String;Lcom/example/pass3/pass3/Position;)V" = some ⟨[(.object "com/example/pass3/pass3/Token$Kind"), (.object "java/lang/String"), (.object "com/example/pass3/pass3/Position")], none⟩ := by decide +kernel
theorem pd_612c306 : parseMethodDescriptor "(Lcom/example/pass3/pass3/Token$Kind;Ljava/lang/String;)Z" = some ⟨[(.object "com/example/pass3/pass3/Token$Kind"), (.object "java/lang/String")], some .boolean⟩ := by decide +kernel
theorem ef_0 (m : MethodId) (x0 : Int32) (x1 : Int32) (x2 : Int32) (x3 : Int32) (x4 : Int32) (x5 : Int32) : entryFrame m #[(.int x0), (.int x1), (.int x2), (.int x3), (.int x4), (.int x5)] maxLocals = mkF m 0 #[.val (.int x0), .val (.int x1), .val (.int x2), .val (.int x3), .val (.int x4), .val (.int x5), .unset, .unset, .unset, .unset, .unset, .unset, .unset, .unset, .unset, .unset, .unset, .unset, .unset, .unset, .unset, .unset] [] := by first | (simp [entryFrame, mkF, argsToLocals, Value.category, maxLocals]; done) | rfl
def Q_rm0 (Z : State) (p1 p2 p3 p4 p5 p6 : Int32) (d : Nat → Addr) (h0 : Heap) (n0 : Nat) (v : Option Value) (h : Heap) (L : List Loc) : Prop := v = some (.int (1 : Int32)) ∧ Fr n0 L
set_option maxRecDepth 65536 in
set_option maxHeartbeats 40000000 in
theorem rm0 (l : Launch) (Z : State) (a0 : Array Value) (hw : ∀ d ∈ tables_1, d.before a0 Z = true) (ws : List Jvm.Cond) (p1 p2 p3 p4 p5 p6 : Int32) (d : Nat → Addr) (h0 : Heap) (n0 : Nat) (Z0 : n0 ≤ h0.size) (G1 : Int32) (O2 : Sta Z Z.heap "java/lang/String" "COMPACT_STRINGS" "Z" (.int G1)) (P5 : ¬ (G1 = (0 : Int32))) (X00 : Old Z n0 h0) (S0 : Sta Z Z.heap "com/example/pass3/pass3/Token$Kind" "IDENTIFIER" "Lcom/example/pass3/pass3/Token$Kind;" (.ref (d 0))) (S1 : Sta Z Z.heap "com/example/pass3/pass3/Token$Kind" "KEYWORD" "Lcom/example/pass3/pass3/Token$Kind;" (.ref (d 1))) (S2 : Sta Z Z.heap "com/example/pass3/pass3/Token$Kind" "INT" "Lcom/example/pass3/pass3/Token$Kind;" (.ref (d 2))) (S3 : Sta Z Z.heap "com/example/pass3/pass3/Token$Kind" "FLOAT" "Lcom/example/pass3/pass3/Token$Kind;" (.ref (d 3))) (S4 : Sta Z Z.heap "com/example/pass3/pass3/Token$Kind" "SYMBOL" "Lcom/example/pass3/pass3/Token$Kind;" (.ref (d 4))) (S5 : Sta Z Z.heap "com/example/pass3/pass3/Token$Kind" "QUOTE" "Lcom/example/pass3/pass3/Token$Kind;" (.ref (d 5))) (S6 : Sta Z Z.heap "com/example/pass3/pass3/Token$Kind" "TEXT" "Lcom/example/pass3/pass3/Token$Kind;" (.ref (d 6))) (S7 : Sta Z Z.heap "com/example/pass3/pass3/Token$Kind" "PLACEHOLDER" "Lcom/example/pass3/pass3/Token$Kind;" (.ref (d 7))) (S8 : Sta Z Z.heap "com/example/pass3/pass3/Token$Kind" "CLOSE" "Lcom/example/pass3/pass3/Token$Kind;" (.ref (d 8))) (S9 : Sta Z Z.heap "com/example/pass3/pass3/Token$Kind" "END" "Lcom/example/pass3/pass3/Token$Kind;" (.ref (d 9))) (S10 : Sta Z Z.heap "com/example/pass3/pass3/Token$Kind" "REFUSED" "Lcom/example/pass3/pass3/Token$Kind;" (.ref (d 10))) (hd : ∀ i j, i ≤ 10 → j ≤ 10 → d i = d j → i = j) (hEL : EW Z a0 EL) (wS : ∀ a ∈ Bundle.stringAtoms, a.before a0 Z = true) :
    MetFree l x (head1 (Jvm.Cond.code x code maxLocals ret :: ws) room_1) (fun a U => a = #[(.int p1), (.int p2), (.int p3), (.int p4), (.int p5), (.int p6)] ∧ Z.Warmed39 U.vm ∧ U.heap = h0 ∧ CHv Z EL U.vm h0) (fun _ _ _ _ _ => True) (fun _ U o U' => ∃ v L, o = .returned v ∧ (Q_rm0 Z p1 p2 p3 p4 p5 p6 d h0 n0) v U'.heap L ∧ CHr Z EL U.vm U.heap U'.vm U'.heap ∧ ReturnedEndW U o U' L room_1.cells room_1.slots) := by
  refine MetFree.of_bodySF (plainFor_of_name pn_e238abf) hisR ?_
  intro p e s m args below meth c s₁ Bd hml0 hP hK
  obtain ⟨rfl, hZ, hh, hCH⟩ := hP
  have hx := Bd.exec
  have hby := Bd.bytes
  have hml : c.maxLocals = 22 := hml0
  have hown : s.vm.findClass "com/example/pass3/pass3/TokenIsPinLaw" = some m.cls := findClass_of_methodNamed Bd.named
  have hnm := (name_of_methodNamed Bd.named Bd.method).1
  have X0 : Stand p l e room_1 s m #[(.int p1), (.int p2), (.int p3), (.int p4), (.int p5), (.int p6)] below meth c s₁ [] 0 0 := Stand.of_body Bd
  have e0 : s₁.heap = h0 := by rw [← hh, Bd.state]; rfl
  have N0 := Fr.nil n0
  have K0 : Keep h0 h0 [] := Keep.refl h0 []
  have X0h : Stand p l e room_1 (s.setVm s.vm) m #[(.int p1), (.int p2), (.int p3), (.int p4), (.int p5), (.int p6)] below meth c s₁ [] 0 0 := X0
  have hZh : Z.Warmed39 (s.setVm s.vm).vm := hZ
  have hownh : (s.setVm s.vm).vm.findClass "com/example/pass3/pass3/TokenIsPinLaw" = some m.cls := hown
  have hS0 : s.Since s.vm 0 := (State.WarmedH.refl s).since 0
  have C0 : CHr Z EL s.vm h0 s.vm h0 := CHr.refl hCH
  show Go p e below (s₁.setTop (entryFrame m #[(.int p1), (.int p2), (.int p3), (.int p4), (.int p5), (.int p6)] maxLocals)) (EndH Z EL s (Q_rm0 Z p1 p2 p3 p4 p5 p6 d h0 n0) room_1.cells room_1.slots)
  refine Go.top (ef_0 m p1 p2 p3 p4 p5 p6) ?_
  refine Go.st (T' := s₁.setTop (mkF m 1 #[.val (.int p1), .val (.int p2), .val (.int p3), .val (.int p4), .val (.int p5), .val (.int p6), .unset, .unset, .unset, .unset, .unset, .unset, .unset, .unset, .unset, .unset, .unset, .unset, .unset, .unset, .unset, .unset] [(.int p1)])) (fun t k => XS.iloadN X0h.here hx rfl (hb hby at_0) rfl k) ?_
  refine Go.st (T' := s₁.setTop (mkF m 3 #[.val (.int p1), .val (.int p2), .val (.int p3), .val (.int p4), .val (.int p5), .val (.int p6), .unset, .unset, .unset, .unset, .unset, .unset, .unset, .unset, .unset, .unset, .unset, .unset, .unset, .unset, .unset, .unset] [(.int (2147483647 : Int32)), (.int p1)])) (fun t k => X0h.ldcInt hx hownh (mvT hZh (hw _ (List.mem_of_getElem? (i := 0) rfl))) (g := (mkF m 1 #[.val (.int p1), .val (.int p2), .val (.int p3), .val (.int p4), .val (.int p5), .val (.int p6), .unset, .unset, .unset, .unset, .unset, .unset, .unset, .unset, .unset, .unset, .unset, .unset, .unset, .unset, .unset, .unset] [(.int p1)])) rfl (hb hby at_1) t k) ?_
  refine Go.st (T' := s₁.setTop (mkF m 4 #[.val (.int p1), .val (.int p2), .val (.int p3), .val (.int p4), .val (.int p5), .val (.int p6), .unset, .unset, .unset, .unset, .unset, .unset, .unset, .unset, .unset, .unset, .unset, .unset, .unset, .unset, .unset, .unset] [(.int (p1 &&& (2147483647 : Int32)))])) (fun t k => XS.iand X0h.here hx rfl (hb hby at_3) rfl k) ?_
  refine Go.st (T' := s₁.setTop (mkF m 6 #[.val (.int p1), .val (.int p2), .val (.int p3), .val (.int p4), .val (.int p5), .val (.int p6), .unset, .unset, .unset, .unset, .unset, .unset, .unset, .unset, .unset, .unset, .unset, .unset, .unset, .unset, .unset, .unset] [(.int (11 : Int32)), (.int (p1 &&& (2147483647 : Int32)))])) (fun t k => XS.bipush X0h.here hx rfl (hb hby at_4) k) ?_
  refine Go.st (T' := s₁.setTop (mkF m 7 #[.val (.int p1), .val (.int p2), .val (.int p3), .val (.int p4), .val (.int p5), .val (.int p6), .unset, .unset, .unset, .unset, .unset, .unset, .unset, .unset, .unset, .unset, .unset, .unset, .unset, .unset, .unset, .unset] [(.int ((p1 &&& (2147483647 : Int32)) - ((p1 &&& (2147483647 : Int32)) / (11 : Int32)) * (11 : Int32)))])) (fun t k => XS.irem X0h.here hx rfl (hb hby at_6) rfl (by decide) k) ?_
  obtain ⟨j1, hj1, hj1'⟩ := own_rem p1
  rw [hj1]
  refine Go.st (T' := s₁.setTop (mkF m 9 #[.val (.int p1), .val (.int p2), .val (.int p3), .val (.int p4), .val (.int p5), .val (.int p6), .val (.int (Int32.ofNat j1)), .unset, .unset, .unset, .unset, .unset, .unset, .unset, .unset, .unset, .unset, .unset, .unset, .unset, .unset, .unset] [])) (fun t k => XS.istore X0h.here hx rfl (hb hby at_7) rfl (l' := #[.val (.int p1), .val (.int p2), .val (.int p3), .val (.int p4), .val (.int p5), .val (.int p6), .val (.int (Int32.ofNat j1)), .unset, .unset, .unset, .unset, .unset, .unset, .unset, .unset, .unset, .unset, .unset, .unset, .unset, .unset, .unset]) rfl k) ?_
  refine Go.st (T' := s₁.setTop (mkF m 10 #[.val (.int p1), .val (.int p2), .val (.int p3), .val (.int p4), .val (.int p5), .val (.int p6), .val (.int (Int32.ofNat j1)), .unset, .unset, .unset, .unset, .unset, .unset, .unset, .unset, .unset, .unset, .unset, .unset, .unset, .unset, .unset] [(.int p4)])) (fun t k => XS.iloadN X0h.here hx rfl (hb hby at_9) rfl k) ?_
  refine Go.st (T' := s₁.setTop (mkF m 11 #[.val (.int p1), .val (.int p2), .val (.int p3), .val (.int p4), .val (.int p5), .val (.int p6), .val (.int (Int32.ofNat j1)), .unset, .unset, .unset, .unset, .unset, .unset, .unset, .unset, .unset, .unset, .unset, .unset, .unset, .unset, .unset] [(.int (1 : Int32)), (.int p4)])) (fun t k => XS.iconst X0h.here hx rfl (hb hby at_10) k) ?_
  refine Go.st (T' := s₁.setTop (mkF m 12 #[.val (.int p1), .val (.int p2), .val (.int p3), .val (.int p4), .val (.int p5), .val (.int p6), .val (.int (Int32.ofNat j1)), .unset, .unset, .unset, .unset, .unset, .unset, .unset, .unset, .unset, .unset, .unset, .unset, .unset, .unset, .unset] [(.int (p4 &&& (1 : Int32)))])) (fun t k => XS.iand X0h.here hx rfl (hb hby at_11) rfl k) ?_
  suffices Jk2 : ∀ k2 : Int32, (∃ j2, k2 = Int32.ofNat j2 ∧ j2 ≤ 10) → Go p e below (s₁.setTop (mkF m 29 #[.val (.int p1), .val (.int p2), .val (.int p3), .val (.int p4), .val (.int p5), .val (.int p6), .val (.int (Int32.ofNat j1)), .unset, .unset, .unset, .unset, .unset, .unset, .unset, .unset, .unset, .unset, .unset, .unset, .unset, .unset, .unset] [(.int k2)])) (EndH Z EL s (Q_rm0 Z p1 p2 p3 p4 p5 p6 d h0 n0) room_1.cells room_1.slots) by
    by_cases hck2 : (p4 &&& (1 : Int32)) = (0 : Int32)
    ·
      refine Go.st (T' := s₁.setTop (mkF m 20 #[.val (.int p1), .val (.int p2), .val (.int p3), .val (.int p4), .val (.int p5), .val (.int p6), .val (.int (Int32.ofNat j1)), .unset, .unset, .unset, .unset, .unset, .unset, .unset, .unset, .unset, .unset, .unset, .unset, .unset, .unset, .unset] [])) (fun t k => XS.ifYes X0h.here hx rfl (pc0 := 12) (pc' := 20) rfl (hb hby at_12) rfl ((if0 _ _).trans (teq hck2).1) (by decide) (by decide) k) ?_
      refine Go.st (T' := s₁.setTop (mkF m 21 #[.val (.int p1), .val (.int p2), .val (.int p3), .val (.int p4), .val (.int p5), .val (.int p6), .val (.int (Int32.ofNat j1)), .unset, .unset, .unset, .unset, .unset, .unset, .unset, .unset, .unset, .unset, .unset, .unset, .unset, .unset, .unset] [(.int p1)])) (fun t k => XS.iloadN X0h.here hx rfl (hb hby at_20) rfl k) ?_
      refine Go.st (T' := s₁.setTop (mkF m 22 #[.val (.int p1), .val (.int p2), .val (.int p3), .val (.int p4), .val (.int p5), .val (.int p6), .val (.int (Int32.ofNat j1)), .unset, .unset, .unset, .unset, .unset, .unset, .unset, .unset, .unset, .unset, .unset, .unset, .unset, .unset, .unset] [(.int (4 : Int32)), (.int p1)])) (fun t k => XS.iconst X0h.here hx rfl (hb hby at_21) k) ?_
      refine Go.st (T' := s₁.setTop (mkF m 23 #[.val (.int p1), .val (.int p2), .val (.int p3), .val (.int p4), .val (.int p5), .val (.int p6), .val (.int (Int32.ofNat j1)), .unset, .unset, .unset, .unset, .unset, .unset, .unset, .unset, .unset, .unset, .unset, .unset, .unset, .unset, .unset] [(.int ((p1.toUInt32 >>> ((4 : Int32) &&& 31).toUInt32).toInt32))])) (fun t k => XS.iushr X0h.here hx rfl (hb hby at_22) rfl k) ?_
      refine Go.st (T' := s₁.setTop (mkF m 25 #[.val (.int p1), .val (.int p2), .val (.int p3), .val (.int p4), .val (.int p5), .val (.int p6), .val (.int (Int32.ofNat j1)), .unset, .unset, .unset, .unset, .unset, .unset, .unset, .unset, .unset, .unset, .unset, .unset, .unset, .unset, .unset] [(.int (2147483647 : Int32)), (.int ((p1.toUInt32 >>> ((4 : Int32) &&& 31).toUInt32).toInt32))])) (fun t k => X0h.ldcInt hx hownh (mvT hZh (hw _ (List.mem_of_getElem? (i := 0) rfl))) (g := (mkF m 23 #[.val (.int p1), .val (.int p2), .val (.int p3), .val (.int p4), .val (.int p5), .val (.int p6), .val (.int (Int32.ofNat j1)), .unset, .unset, .unset, .unset, .unset, .unset, .unset, .unset, .unset, .unset, .unset, .unset, .unset, .unset, .unset] [(.int ((p1.toUInt32 >>> ((4 : Int32) &&& 31).toUInt32).toInt32))])) rfl (hb hby at_23) t k) ?_
      refine Go.st (T' := s₁.setTop (mkF m 26 #[.val (.int p1), .val (.int p2), .val (.int p3), .val (.int p4), .val (.int p5), .val (.int p6), .val (.int (Int32.ofNat j1)), .unset, .unset, .unset, .unset, .unset, .unset, .unset, .unset, .unset, .unset, .unset, .unset, .unset, .unset, .unset] [(.int (((p1.toUInt32 >>> ((4 : Int32) &&& 31).toUInt32).toInt32) &&& (2147483647 : Int32)))])) (fun t k => XS.iand X0h.here hx rfl (hb hby at_25) rfl k) ?_
      refine Go.st (T' := s₁.setTop (mkF m 28 #[.val (.int p1), .val (.int p2), .val (.int p3), .val (.int p4), .val (.int p5), .val (.int p6), .val (.int (Int32.ofNat j1)), .unset, .unset, .unset, .unset, .unset, .unset, .unset, .unset, .unset, .unset, .unset, .unset, .unset, .unset, .unset] [(.int (11 : Int32)), (.int (((p1.toUInt32 >>> ((4 : Int32) &&& 31).toUInt32).toInt32) &&& (2147483647 : Int32)))])) (fun t k => XS.bipush X0h.here hx rfl (hb hby at_26) k) ?_
      refine Go.st (T' := s₁.setTop (mkF m 29 #[.val (.int p1), .val (.int p2), .val (.int p3), .val (.int p4), .val (.int p5), .val (.int p6), .val (.int (Int32.ofNat j1)), .unset, .unset, .unset, .unset, .unset, .unset, .unset, .unset, .unset, .unset, .unset, .unset, .unset, .unset, .unset] [(.int ((((p1.toUInt32 >>> ((4 : Int32) &&& 31).toUInt32).toInt32) &&& (2147483647 : Int32)) - ((((p1.toUInt32 >>> ((4 : Int32) &&& 31).toUInt32).toInt32) &&& (2147483647 : Int32)) / (11 : Int32)) * (11 : Int32)))])) (fun t k => XS.irem X0h.here hx rfl (hb hby at_28) rfl (by decide) k) ?_
      exact Jk2 _ (own_rem _)
    ·
      refine Go.st (T' := s₁.setTop (mkF m 15 #[.val (.int p1), .val (.int p2), .val (.int p3), .val (.int p4), .val (.int p5), .val (.int p6), .val (.int (Int32.ofNat j1)), .unset, .unset, .unset, .unset, .unset, .unset, .unset, .unset, .unset, .unset, .unset, .unset, .unset, .unset, .unset] [])) (fun t k => XS.ifNo X0h.here hx rfl (hb hby at_12) rfl ((if0 _ _).trans (feq hck2).1) k) ?_
      refine Go.st (T' := s₁.setTop (mkF m 17 #[.val (.int p1), .val (.int p2), .val (.int p3), .val (.int p4), .val (.int p5), .val (.int p6), .val (.int (Int32.ofNat j1)), .unset, .unset, .unset, .unset, .unset, .unset, .unset, .unset, .unset, .unset, .unset, .unset, .unset, .unset, .unset] [(.int (Int32.ofNat j1))])) (fun t k => XS.iload X0h.here hx rfl (hb hby at_15) rfl k) ?_
      refine Go.st (T' := s₁.setTop (mkF m 29 #[.val (.int p1), .val (.int p2), .val (.int p3), .val (.int p4), .val (.int p5), .val (.int p6), .val (.int (Int32.ofNat j1)), .unset, .unset, .unset, .unset, .unset, .unset, .unset, .unset, .unset, .unset, .unset, .unset, .unset, .unset, .unset] [(.int (Int32.ofNat j1))])) (fun t k => XS.goto X0h.here hx rfl (pc0 := 17) (pc' := 29) rfl (hb hby at_17) (by decide) (by decide) k) ?_
      exact Jk2 _ (⟨j1, rfl, hj1'⟩)
  intro k2 h_k2
  obtain ⟨j2, rfl, hj2'⟩ := h_k2
  refine Go.st (T' := s₁.setTop (mkF m 31 #[.val (.int p1), .val (.int p2), .val (.int p3), .val (.int p4), .val (.int p5), .val (.int p6), .val (.int (Int32.ofNat j1)), .val (.int (Int32.ofNat j2)), .unset, .unset, .unset, .unset, .unset, .unset, .unset, .unset, .unset, .unset, .unset, .unset, .unset, .unset] [])) (fun t k => XS.istore X0h.here hx rfl (hb hby at_29) rfl (l' := #[.val (.int p1), .val (.int p2), .val (.int p3), .val (.int p4), .val (.int p5), .val (.int p6), .val (.int (Int32.ofNat j1)), .val (.int (Int32.ofNat j2)), .unset, .unset, .unset, .unset, .unset, .unset, .unset, .unset, .unset, .unset, .unset, .unset, .unset, .unset]) rfl k) ?_
  refine Go.st (T' := s₁.setTop (mkF m 32 #[.val (.int p1), .val (.int p2), .val (.int p3), .val (.int p4), .val (.int p5), .val (.int p6), .val (.int (Int32.ofNat j1)), .val (.int (Int32.ofNat j2)), .unset, .unset, .unset, .unset, .unset, .unset, .unset, .unset, .unset, .unset, .unset, .unset, .unset, .unset] [(.int p2)])) (fun t k => XS.iloadN X0h.here hx rfl (hb hby at_31) rfl k) ?_
  refine Go.st (T' := s₁.setTop (mkF m 35 #[.val (.int p1), .val (.int p2), .val (.int p3), .val (.int p4), .val (.int p5), .val (.int p6), .val (.int (Int32.ofNat j1)), .val (.int (Int32.ofNat j2)), .unset, .unset, .unset, .unset, .unset, .unset, .unset, .unset, .unset, .unset, .unset, .unset, .unset, .unset] [(.int (255 : Int32)), (.int p2)])) (fun t k => XS.sipush X0h.here hx rfl (hb hby at_32) k) ?_
  refine Go.st (T' := s₁.setTop (mkF m 36 #[.val (.int p1), .val (.int p2), .val (.int p3), .val (.int p4), .val (.int p5), .val (.int p6), .val (.int (Int32.ofNat j1)), .val (.int (Int32.ofNat j2)), .unset, .unset, .unset, .unset, .unset, .unset, .unset, .unset, .unset, .unset, .unset, .unset, .unset, .unset] [(.int (p2 &&& (255 : Int32)))])) (fun t k => XS.iand X0h.here hx rfl (hb hby at_35) rfl k) ?_
  refine Go.st (T' := s₁.setTop (mkF m 37 #[.val (.int p1), .val (.int p2), .val (.int p3), .val (.int p4), .val (.int p5), .val (.int p6), .val (.int (Int32.ofNat j1)), .val (.int (Int32.ofNat j2)), .unset, .unset, .unset, .unset, .unset, .unset, .unset, .unset, .unset, .unset, .unset, .unset, .unset, .unset] [(.int ((p2 &&& (255 : Int32)).toUInt32.toUInt16.toUInt32.toInt32))])) (fun t k => XS.i2c X0h.here hx rfl (hb hby at_36) rfl k) ?_
  obtain ⟨u0, hu0⟩ : ∃ z, z = ((p2 &&& (255 : Int32)).toUInt32.toUInt16.toUInt32.toInt32) := ⟨_, rfl⟩
  rw [← hu0]
  have Hu0 : own_C u0 := by rw [hu0]; exact own_C_of _
  refine Go.st (T' := s₁.setTop (mkF m 39 #[.val (.int p1), .val (.int p2), .val (.int p3), .val (.int p4), .val (.int p5), .val (.int p6), .val (.int (Int32.ofNat j1)), .val (.int (Int32.ofNat j2)), .val (.int u0), .unset, .unset, .unset, .unset, .unset, .unset, .unset, .unset, .unset, .unset, .unset, .unset, .unset] [])) (fun t k => XS.istore X0h.here hx rfl (hb hby at_37) rfl (l' := #[.val (.int p1), .val (.int p2), .val (.int p3), .val (.int p4), .val (.int p5), .val (.int p6), .val (.int (Int32.ofNat j1)), .val (.int (Int32.ofNat j2)), .val (.int u0), .unset, .unset, .unset, .unset, .unset, .unset, .unset, .unset, .unset, .unset, .unset, .unset, .unset]) rfl k) ?_
  refine Go.st (T' := s₁.setTop (mkF m 40 #[.val (.int p1), .val (.int p2), .val (.int p3), .val (.int p4), .val (.int p5), .val (.int p6), .val (.int (Int32.ofNat j1)), .val (.int (Int32.ofNat j2)), .val (.int u0), .unset, .unset, .unset, .unset, .unset, .unset, .unset, .unset, .unset, .unset, .unset, .unset, .unset] [(.int p2)])) (fun t k => XS.iloadN X0h.here hx rfl (hb hby at_39) rfl k) ?_
  refine Go.st (T' := s₁.setTop (mkF m 42 #[.val (.int p1), .val (.int p2), .val (.int p3), .val (.int p4), .val (.int p5), .val (.int p6), .val (.int (Int32.ofNat j1)), .val (.int (Int32.ofNat j2)), .val (.int u0), .unset, .unset, .unset, .unset, .unset, .unset, .unset, .unset, .unset, .unset, .unset, .unset, .unset] [(.int (8 : Int32)), (.int p2)])) (fun t k => XS.bipush X0h.here hx rfl (hb hby at_40) k) ?_
  refine Go.st (T' := s₁.setTop (mkF m 43 #[.val (.int p1), .val (.int p2), .val (.int p3), .val (.int p4), .val (.int p5), .val (.int p6), .val (.int (Int32.ofNat j1)), .val (.int (Int32.ofNat j2)), .val (.int u0), .unset, .unset, .unset, .unset, .unset, .unset, .unset, .unset, .unset, .unset, .unset, .unset, .unset] [(.int ((p2.toUInt32 >>> ((8 : Int32) &&& 31).toUInt32).toInt32))])) (fun t k => XS.iushr X0h.here hx rfl (hb hby at_42) rfl k) ?_
  refine Go.st (T' := s₁.setTop (mkF m 46 #[.val (.int p1), .val (.int p2), .val (.int p3), .val (.int p4), .val (.int p5), .val (.int p6), .val (.int (Int32.ofNat j1)), .val (.int (Int32.ofNat j2)), .val (.int u0), .unset, .unset, .unset, .unset, .unset, .unset, .unset, .unset, .unset, .unset, .unset, .unset, .unset] [(.int (255 : Int32)), (.int ((p2.toUInt32 >>> ((8 : Int32) &&& 31).toUInt32).toInt32))])) (fun t k => XS.sipush X0h.here hx rfl (hb hby at_43) k) ?_
  refine Go.st (T' := s₁.setTop (mkF m 47 #[.val (.int p1), .val (.int p2), .val (.int p3), .val (.int p4), .val (.int p5), .val (.int p6), .val (.int (Int32.ofNat j1)), .val (.int (Int32.ofNat j2)), .val (.int u0), .unset, .unset, .unset, .unset, .unset, .unset, .unset, .unset, .unset, .unset, .unset, .unset, .unset] [(.int (((p2.toUInt32 >>> ((8 : Int32) &&& 31).toUInt32).toInt32) &&& (255 : Int32)))])) (fun t k => XS.iand X0h.here hx rfl (hb hby at_46) rfl k) ?_
  refine Go.st (T' := s₁.setTop (mkF m 48 #[.val (.int p1), .val (.int p2), .val (.int p3), .val (.int p4), .val (.int p5), .val (.int p6), .val (.int (Int32.ofNat j1)), .val (.int (Int32.ofNat j2)), .val (.int u0), .unset, .unset, .unset, .unset, .unset, .unset, .unset, .unset, .unset, .unset, .unset, .unset, .unset] [(.int ((((p2.toUInt32 >>> ((8 : Int32) &&& 31).toUInt32).toInt32) &&& (255 : Int32)).toUInt32.toUInt16.toUInt32.toInt32))])) (fun t k => XS.i2c X0h.here hx rfl (hb hby at_47) rfl k) ?_
  obtain ⟨u1, hu1⟩ : ∃ z, z = ((((p2.toUInt32 >>> ((8 : Int32) &&& 31).toUInt32).toInt32) &&& (255 : Int32)).toUInt32.toUInt16.toUInt32.toInt32) := ⟨_, rfl⟩
  rw [← hu1]
  have Hu1 : own_C u1 := by rw [hu1]; exact own_C_of _
  refine Go.st (T' := s₁.setTop (mkF m 50 #[.val (.int p1), .val (.int p2), .val (.int p3), .val (.int p4), .val (.int p5), .val (.int p6), .val (.int (Int32.ofNat j1)), .val (.int (Int32.ofNat j2)), .val (.int u0), .val (.int u1), .unset, .unset, .unset, .unset, .unset, .unset, .unset, .unset, .unset, .unset, .unset, .unset] [])) (fun t k => XS.istore X0h.here hx rfl (hb hby at_48) rfl (l' := #[.val (.int p1), .val (.int p2), .val (.int p3), .val (.int p4), .val (.int p5), .val (.int p6), .val (.int (Int32.ofNat j1)), .val (.int (Int32.ofNat j2)), .val (.int u0), .val (.int u1), .unset, .unset, .unset, .unset, .unset, .unset, .unset, .unset, .unset, .unset, .unset, .unset]) rfl k) ?_
  refine Go.st (T' := s₁.setTop (mkF m 51 #[.val (.int p1), .val (.int p2), .val (.int p3), .val (.int p4), .val (.int p5), .val (.int p6), .val (.int (Int32.ofNat j1)), .val (.int (Int32.ofNat j2)), .val (.int u0), .val (.int u1), .unset, .unset, .unset, .unset, .unset, .unset, .unset, .unset, .unset, .unset, .unset, .unset] [(.int p2)])) (fun t k => XS.iloadN X0h.here hx rfl (hb hby at_50) rfl k) ?_
  refine Go.st (T' := s₁.setTop (mkF m 53 #[.val (.int p1), .val (.int p2), .val (.int p3), .val (.int p4), .val (.int p5), .val (.int p6), .val (.int (Int32.ofNat j1)), .val (.int (Int32.ofNat j2)), .val (.int u0), .val (.int u1), .unset, .unset, .unset, .unset, .unset, .unset, .unset, .unset, .unset, .unset, .unset, .unset] [(.int (16 : Int32)), (.int p2)])) (fun t k => XS.bipush X0h.here hx rfl (hb hby at_51) k) ?_
  refine Go.st (T' := s₁.setTop (mkF m 54 #[.val (.int p1), .val (.int p2), .val (.int p3), .val (.int p4), .val (.int p5), .val (.int p6), .val (.int (Int32.ofNat j1)), .val (.int (Int32.ofNat j2)), .val (.int u0), .val (.int u1), .unset, .unset, .unset, .unset, .unset, .unset, .unset, .unset, .unset, .unset, .unset, .unset] [(.int ((p2.toUInt32 >>> ((16 : Int32) &&& 31).toUInt32).toInt32))])) (fun t k => XS.iushr X0h.here hx rfl (hb hby at_53) rfl k) ?_
  refine Go.st (T' := s₁.setTop (mkF m 57 #[.val (.int p1), .val (.int p2), .val (.int p3), .val (.int p4), .val (.int p5), .val (.int p6), .val (.int (Int32.ofNat j1)), .val (.int (Int32.ofNat j2)), .val (.int u0), .val (.int u1), .unset, .unset, .unset, .unset, .unset, .unset, .unset, .unset, .unset, .unset, .unset, .unset] [(.int (255 : Int32)), (.int ((p2.toUInt32 >>> ((16 : Int32) &&& 31).toUInt32).toInt32))])) (fun t k => XS.sipush X0h.here hx rfl (hb hby at_54) k) ?_
  refine Go.st (T' := s₁.setTop (mkF m 58 #[.val (.int p1), .val (.int p2), .val (.int p3), .val (.int p4), .val (.int p5), .val (.int p6), .val (.int (Int32.ofNat j1)), .val (.int (Int32.ofNat j2)), .val (.int u0), .val (.int u1), .unset, .unset, .unset, .unset, .unset, .unset, .unset, .unset, .unset, .unset, .unset, .unset] [(.int (((p2.toUInt32 >>> ((16 : Int32) &&& 31).toUInt32).toInt32) &&& (255 : Int32)))])) (fun t k => XS.iand X0h.here hx rfl (hb hby at_57) rfl k) ?_
  refine Go.st (T' := s₁.setTop (mkF m 59 #[.val (.int p1), .val (.int p2), .val (.int p3), .val (.int p4), .val (.int p5), .val (.int p6), .val (.int (Int32.ofNat j1)), .val (.int (Int32.ofNat j2)), .val (.int u0), .val (.int u1), .unset, .unset, .unset, .unset, .unset, .unset, .unset, .unset, .unset, .unset, .unset, .unset] [(.int ((((p2.toUInt32 >>> ((16 : Int32) &&& 31).toUInt32).toInt32) &&& (255 : Int32)).toUInt32.toUInt16.toUInt32.toInt32))])) (fun t k => XS.i2c X0h.here hx rfl (hb hby at_58) rfl k) ?_
  obtain ⟨u2, hu2⟩ : ∃ z, z = ((((p2.toUInt32 >>> ((16 : Int32) &&& 31).toUInt32).toInt32) &&& (255 : Int32)).toUInt32.toUInt16.toUInt32.toInt32) := ⟨_, rfl⟩
  rw [← hu2]
  have Hu2 : own_C u2 := by rw [hu2]; exact own_C_of _
  refine Go.st (T' := s₁.setTop (mkF m 61 #[.val (.int p1), .val (.int p2), .val (.int p3), .val (.int p4), .val (.int p5), .val (.int p6), .val (.int (Int32.ofNat j1)), .val (.int (Int32.ofNat j2)), .val (.int u0), .val (.int u1), .val (.int u2), .unset, .unset, .unset, .unset, .unset, .unset, .unset, .unset, .unset, .unset, .unset] [])) (fun t k => XS.istore X0h.here hx rfl (hb hby at_59) rfl (l' := #[.val (.int p1), .val (.int p2), .val (.int p3), .val (.int p4), .val (.int p5), .val (.int p6), .val (.int (Int32.ofNat j1)), .val (.int (Int32.ofNat j2)), .val (.int u0), .val (.int u1), .val (.int u2), .unset, .unset, .unset, .unset, .unset, .unset, .unset, .unset, .unset, .unset, .unset]) rfl k) ?_
  refine Go.st (T' := s₁.setTop (mkF m 62 #[.val (.int p1), .val (.int p2), .val (.int p3), .val (.int p4), .val (.int p5), .val (.int p6), .val (.int (Int32.ofNat j1)), .val (.int (Int32.ofNat j2)), .val (.int u0), .val (.int u1), .val (.int u2), .unset, .unset, .unset, .unset, .unset, .unset, .unset, .unset, .unset, .unset, .unset] [(.int p2)])) (fun t k => XS.iloadN X0h.here hx rfl (hb hby at_61) rfl k) ?_
  refine Go.st (T' := s₁.setTop (mkF m 64 #[.val (.int p1), .val (.int p2), .val (.int p3), .val (.int p4), .val (.int p5), .val (.int p6), .val (.int (Int32.ofNat j1)), .val (.int (Int32.ofNat j2)), .val (.int u0), .val (.int u1), .val (.int u2), .unset, .unset, .unset, .unset, .unset, .unset, .unset, .unset, .unset, .unset, .unset] [(.int (24 : Int32)), (.int p2)])) (fun t k => XS.bipush X0h.here hx rfl (hb hby at_62) k) ?_
  refine Go.st (T' := s₁.setTop (mkF m 65 #[.val (.int p1), .val (.int p2), .val (.int p3), .val (.int p4), .val (.int p5), .val (.int p6), .val (.int (Int32.ofNat j1)), .val (.int (Int32.ofNat j2)), .val (.int u0), .val (.int u1), .val (.int u2), .unset, .unset, .unset, .unset, .unset, .unset, .unset, .unset, .unset, .unset, .unset] [(.int ((p2.toUInt32 >>> ((24 : Int32) &&& 31).toUInt32).toInt32))])) (fun t k => XS.iushr X0h.here hx rfl (hb hby at_64) rfl k) ?_
  refine Go.st (T' := s₁.setTop (mkF m 66 #[.val (.int p1), .val (.int p2), .val (.int p3), .val (.int p4), .val (.int p5), .val (.int p6), .val (.int (Int32.ofNat j1)), .val (.int (Int32.ofNat j2)), .val (.int u0), .val (.int u1), .val (.int u2), .unset, .unset, .unset, .unset, .unset, .unset, .unset, .unset, .unset, .unset, .unset] [(.int (3 : Int32)), (.int ((p2.toUInt32 >>> ((24 : Int32) &&& 31).toUInt32).toInt32))])) (fun t k => XS.iconst X0h.here hx rfl (hb hby at_65) k) ?_
  refine Go.st (T' := s₁.setTop (mkF m 67 #[.val (.int p1), .val (.int p2), .val (.int p3), .val (.int p4), .val (.int p5), .val (.int p6), .val (.int (Int32.ofNat j1)), .val (.int (Int32.ofNat j2)), .val (.int u0), .val (.int u1), .val (.int u2), .unset, .unset, .unset, .unset, .unset, .unset, .unset, .unset, .unset, .unset, .unset] [(.int (((p2.toUInt32 >>> ((24 : Int32) &&& 31).toUInt32).toInt32) &&& (3 : Int32)))])) (fun t k => XS.iand X0h.here hx rfl (hb hby at_66) rfl k) ?_
  obtain ⟨n1, hn1⟩ : ∃ z, z = (((p2.toUInt32 >>> ((24 : Int32) &&& 31).toUInt32).toInt32) &&& (3 : Int32)) := ⟨_, rfl⟩
  rw [← hn1]
  have Hn1 : own_4 n1 := by rw [hn1]; exact own_3 _
  refine Go.st (T' := s₁.setTop (mkF m 69 #[.val (.int p1), .val (.int p2), .val (.int p3), .val (.int p4), .val (.int p5), .val (.int p6), .val (.int (Int32.ofNat j1)), .val (.int (Int32.ofNat j2)), .val (.int u0), .val (.int u1), .val (.int u2), .val (.int n1), .unset, .unset, .unset, .unset, .unset, .unset, .unset, .unset, .unset, .unset] [])) (fun t k => XS.istore X0h.here hx rfl (hb hby at_67) rfl (l' := #[.val (.int p1), .val (.int p2), .val (.int p3), .val (.int p4), .val (.int p5), .val (.int p6), .val (.int (Int32.ofNat j1)), .val (.int (Int32.ofNat j2)), .val (.int u0), .val (.int u1), .val (.int u2), .val (.int n1), .unset, .unset, .unset, .unset, .unset, .unset, .unset, .unset, .unset, .unset]) rfl k) ?_
  refine Go.st (T' := s₁.setTop (mkF m 70 #[.val (.int p1), .val (.int p2), .val (.int p3), .val (.int p4), .val (.int p5), .val (.int p6), .val (.int (Int32.ofNat j1)), .val (.int (Int32.ofNat j2)), .val (.int u0), .val (.int u1), .val (.int u2), .val (.int n1), .unset, .unset, .unset, .unset, .unset, .unset, .unset, .unset, .unset, .unset] [(.int p4)])) (fun t k => XS.iloadN X0h.here hx rfl (hb hby at_69) rfl k) ?_
  refine Go.st (T' := s₁.setTop (mkF m 71 #[.val (.int p1), .val (.int p2), .val (.int p3), .val (.int p4), .val (.int p5), .val (.int p6), .val (.int (Int32.ofNat j1)), .val (.int (Int32.ofNat j2)), .val (.int u0), .val (.int u1), .val (.int u2), .val (.int n1), .unset, .unset, .unset, .unset, .unset, .unset, .unset, .unset, .unset, .unset] [(.int (2 : Int32)), (.int p4)])) (fun t k => XS.iconst X0h.here hx rfl (hb hby at_70) k) ?_
  refine Go.st (T' := s₁.setTop (mkF m 72 #[.val (.int p1), .val (.int p2), .val (.int p3), .val (.int p4), .val (.int p5), .val (.int p6), .val (.int (Int32.ofNat j1)), .val (.int (Int32.ofNat j2)), .val (.int u0), .val (.int u1), .val (.int u2), .val (.int n1), .unset, .unset, .unset, .unset, .unset, .unset, .unset, .unset, .unset, .unset] [(.int (p4 &&& (2 : Int32)))])) (fun t k => XS.iand X0h.here hx rfl (hb hby at_71) rfl k) ?_
  suffices Jsc : ∀ sc : Int32, (sc = 0 ∨ sc = 1) → Go p e below (s₁.setTop (mkF m 80 #[.val (.int p1), .val (.int p2), .val (.int p3), .val (.int p4), .val (.int p5), .val (.int p6), .val (.int (Int32.ofNat j1)), .val (.int (Int32.ofNat j2)), .val (.int u0), .val (.int u1), .val (.int u2), .val (.int n1), .unset, .unset, .unset, .unset, .unset, .unset, .unset, .unset, .unset, .unset] [(.int sc)])) (EndH Z EL s (Q_rm0 Z p1 p2 p3 p4 p5 p6 d h0 n0) room_1.cells room_1.slots) by
    by_cases hcsc : (p4 &&& (2 : Int32)) = (0 : Int32)
    ·
      refine Go.st (T' := s₁.setTop (mkF m 79 #[.val (.int p1), .val (.int p2), .val (.int p3), .val (.int p4), .val (.int p5), .val (.int p6), .val (.int (Int32.ofNat j1)), .val (.int (Int32.ofNat j2)), .val (.int u0), .val (.int u1), .val (.int u2), .val (.int n1), .unset, .unset, .unset, .unset, .unset, .unset, .unset, .unset, .unset, .unset] [])) (fun t k => XS.ifYes X0h.here hx rfl (pc0 := 72) (pc' := 79) rfl (hb hby at_72) rfl ((if0 _ _).trans (teq hcsc).1) (by decide) (by decide) k) ?_
      refine Go.st (T' := s₁.setTop (mkF m 80 #[.val (.int p1), .val (.int p2), .val (.int p3), .val (.int p4), .val (.int p5), .val (.int p6), .val (.int (Int32.ofNat j1)), .val (.int (Int32.ofNat j2)), .val (.int u0), .val (.int u1), .val (.int u2), .val (.int n1), .unset, .unset, .unset, .unset, .unset, .unset, .unset, .unset, .unset, .unset] [(.int (0 : Int32))])) (fun t k => XS.iconst X0h.here hx rfl (hb hby at_79) k) ?_
      exact Jsc _ (by decide)
    ·
      refine Go.st (T' := s₁.setTop (mkF m 75 #[.val (.int p1), .val (.int p2), .val (.int p3), .val (.int p4), .val (.int p5), .val (.int p6), .val (.int (Int32.ofNat j1)), .val (.int (Int32.ofNat j2)), .val (.int u0), .val (.int u1), .val (.int u2), .val (.int n1), .unset, .unset, .unset, .unset, .unset, .unset, .unset, .unset, .unset, .unset] [])) (fun t k => XS.ifNo X0h.here hx rfl (hb hby at_72) rfl ((if0 _ _).trans (feq hcsc).1) k) ?_
      refine Go.st (T' := s₁.setTop (mkF m 76 #[.val (.int p1), .val (.int p2), .val (.int p3), .val (.int p4), .val (.int p5), .val (.int p6), .val (.int (Int32.ofNat j1)), .val (.int (Int32.ofNat j2)), .val (.int u0), .val (.int u1), .val (.int u2), .val (.int n1), .unset, .unset, .unset, .unset, .unset, .unset, .unset, .unset, .unset, .unset] [(.int (1 : Int32))])) (fun t k => XS.iconst X0h.here hx rfl (hb hby at_75) k) ?_
      refine Go.st (T' := s₁.setTop (mkF m 80 #[.val (.int p1), .val (.int p2), .val (.int p3), .val (.int p4), .val (.int p5), .val (.int p6), .val (.int (Int32.ofNat j1)), .val (.int (Int32.ofNat j2)), .val (.int u0), .val (.int u1), .val (.int u2), .val (.int n1), .unset, .unset, .unset, .unset, .unset, .unset, .unset, .unset, .unset, .unset] [(.int (1 : Int32))])) (fun t k => XS.goto X0h.here hx rfl (pc0 := 76) (pc' := 80) rfl (hb hby at_76) (by decide) (by decide) k) ?_
      exact Jsc _ (by decide)
  intro sc h_sc
  refine Go.st (T' := s₁.setTop (mkF m 82 #[.val (.int p1), .val (.int p2), .val (.int p3), .val (.int p4), .val (.int p5), .val (.int p6), .val (.int (Int32.ofNat j1)), .val (.int (Int32.ofNat j2)), .val (.int u0), .val (.int u1), .val (.int u2), .val (.int n1), .val (.int sc), .unset, .unset, .unset, .unset, .unset, .unset, .unset, .unset, .unset] [])) (fun t k => XS.istore X0h.here hx rfl (hb hby at_80) rfl (l' := #[.val (.int p1), .val (.int p2), .val (.int p3), .val (.int p4), .val (.int p5), .val (.int p6), .val (.int (Int32.ofNat j1)), .val (.int (Int32.ofNat j2)), .val (.int u0), .val (.int u1), .val (.int u2), .val (.int n1), .val (.int sc), .unset, .unset, .unset, .unset, .unset, .unset, .unset, .unset, .unset]) rfl k) ?_
  refine Go.st (T' := s₁.setTop (mkF m 84 #[.val (.int p1), .val (.int p2), .val (.int p3), .val (.int p4), .val (.int p5), .val (.int p6), .val (.int (Int32.ofNat j1)), .val (.int (Int32.ofNat j2)), .val (.int u0), .val (.int u1), .val (.int u2), .val (.int n1), .val (.int sc), .unset, .unset, .unset, .unset, .unset, .unset, .unset, .unset, .unset] [(.int sc)])) (fun t k => XS.iload X0h.here hx rfl (hb hby at_82) rfl k) ?_
  suffices Jv0 : ∀ v0 : Int32, (own_C v0) → Go p e below (s₁.setTop (mkF m 98 #[.val (.int p1), .val (.int p2), .val (.int p3), .val (.int p4), .val (.int p5), .val (.int p6), .val (.int (Int32.ofNat j1)), .val (.int (Int32.ofNat j2)), .val (.int u0), .val (.int u1), .val (.int u2), .val (.int n1), .val (.int sc), .unset, .unset, .unset, .unset, .unset, .unset, .unset, .unset, .unset] [(.int v0)])) (EndH Z EL s (Q_rm0 Z p1 p2 p3 p4 p5 p6 d h0 n0) room_1.cells room_1.slots) by
    by_cases hcv0 : sc = (0 : Int32)
    ·
      refine Go.st (T' := s₁.setTop (mkF m 92 #[.val (.int p1), .val (.int p2), .val (.int p3), .val (.int p4), .val (.int p5), .val (.int p6), .val (.int (Int32.ofNat j1)), .val (.int (Int32.ofNat j2)), .val (.int u0), .val (.int u1), .val (.int u2), .val (.int n1), .val (.int sc), .unset, .unset, .unset, .unset, .unset, .unset, .unset, .unset, .unset] [])) (fun t k => XS.ifYes X0h.here hx rfl (pc0 := 84) (pc' := 92) rfl (hb hby at_84) rfl ((if0 _ _).trans (teq hcv0).1) (by decide) (by decide) k) ?_
      refine Go.st (T' := s₁.setTop (mkF m 93 #[.val (.int p1), .val (.int p2), .val (.int p3), .val (.int p4), .val (.int p5), .val (.int p6), .val (.int (Int32.ofNat j1)), .val (.int (Int32.ofNat j2)), .val (.int u0), .val (.int u1), .val (.int u2), .val (.int n1), .val (.int sc), .unset, .unset, .unset, .unset, .unset, .unset, .unset, .unset, .unset] [(.int p3)])) (fun t k => XS.iloadN X0h.here hx rfl (hb hby at_92) rfl k) ?_
      refine Go.st (T' := s₁.setTop (mkF m 96 #[.val (.int p1), .val (.int p2), .val (.int p3), .val (.int p4), .val (.int p5), .val (.int p6), .val (.int (Int32.ofNat j1)), .val (.int (Int32.ofNat j2)), .val (.int u0), .val (.int u1), .val (.int u2), .val (.int n1), .val (.int sc), .unset, .unset, .unset, .unset, .unset, .unset, .unset, .unset, .unset] [(.int (255 : Int32)), (.int p3)])) (fun t k => XS.sipush X0h.here hx rfl (hb hby at_93) k) ?_
      refine Go.st (T' := s₁.setTop (mkF m 97 #[.val (.int p1), .val (.int p2), .val (.int p3), .val (.int p4), .val (.int p5), .val (.int p6), .val (.int (Int32.ofNat j1)), .val (.int (Int32.ofNat j2)), .val (.int u0), .val (.int u1), .val (.int u2), .val (.int n1), .val (.int sc), .unset, .unset, .unset, .unset, .unset, .unset, .unset, .unset, .unset] [(.int (p3 &&& (255 : Int32)))])) (fun t k => XS.iand X0h.here hx rfl (hb hby at_96) rfl k) ?_
      refine Go.st (T' := s₁.setTop (mkF m 98 #[.val (.int p1), .val (.int p2), .val (.int p3), .val (.int p4), .val (.int p5), .val (.int p6), .val (.int (Int32.ofNat j1)), .val (.int (Int32.ofNat j2)), .val (.int u0), .val (.int u1), .val (.int u2), .val (.int n1), .val (.int sc), .unset, .unset, .unset, .unset, .unset, .unset, .unset, .unset, .unset] [(.int ((p3 &&& (255 : Int32)).toUInt32.toUInt16.toUInt32.toInt32))])) (fun t k => XS.i2c X0h.here hx rfl (hb hby at_97) rfl k) ?_
      exact Jv0 _ (own_C_of _)
    ·
      refine Go.st (T' := s₁.setTop (mkF m 87 #[.val (.int p1), .val (.int p2), .val (.int p3), .val (.int p4), .val (.int p5), .val (.int p6), .val (.int (Int32.ofNat j1)), .val (.int (Int32.ofNat j2)), .val (.int u0), .val (.int u1), .val (.int u2), .val (.int n1), .val (.int sc), .unset, .unset, .unset, .unset, .unset, .unset, .unset, .unset, .unset] [])) (fun t k => XS.ifNo X0h.here hx rfl (hb hby at_84) rfl ((if0 _ _).trans (feq hcv0).1) k) ?_
      refine Go.st (T' := s₁.setTop (mkF m 89 #[.val (.int p1), .val (.int p2), .val (.int p3), .val (.int p4), .val (.int p5), .val (.int p6), .val (.int (Int32.ofNat j1)), .val (.int (Int32.ofNat j2)), .val (.int u0), .val (.int u1), .val (.int u2), .val (.int n1), .val (.int sc), .unset, .unset, .unset, .unset, .unset, .unset, .unset, .unset, .unset] [(.int u0)])) (fun t k => XS.iload X0h.here hx rfl (hb hby at_87) rfl k) ?_
      refine Go.st (T' := s₁.setTop (mkF m 98 #[.val (.int p1), .val (.int p2), .val (.int p3), .val (.int p4), .val (.int p5), .val (.int p6), .val (.int (Int32.ofNat j1)), .val (.int (Int32.ofNat j2)), .val (.int u0), .val (.int u1), .val (.int u2), .val (.int n1), .val (.int sc), .unset, .unset, .unset, .unset, .unset, .unset, .unset, .unset, .unset] [(.int u0)])) (fun t k => XS.goto X0h.here hx rfl (pc0 := 89) (pc' := 98) rfl (hb hby at_89) (by decide) (by decide) k) ?_
      exact Jv0 _ (Hu0)
  intro v0 h_v0
  refine Go.st (T' := s₁.setTop (mkF m 100 #[.val (.int p1), .val (.int p2), .val (.int p3), .val (.int p4), .val (.int p5), .val (.int p6), .val (.int (Int32.ofNat j1)), .val (.int (Int32.ofNat j2)), .val (.int u0), .val (.int u1), .val (.int u2), .val (.int n1), .val (.int sc), .val (.int v0), .unset, .unset, .unset, .unset, .unset, .unset, .unset, .unset] [])) (fun t k => XS.istore X0h.here hx rfl (hb hby at_98) rfl (l' := #[.val (.int p1), .val (.int p2), .val (.int p3), .val (.int p4), .val (.int p5), .val (.int p6), .val (.int (Int32.ofNat j1)), .val (.int (Int32.ofNat j2)), .val (.int u0), .val (.int u1), .val (.int u2), .val (.int n1), .val (.int sc), .val (.int v0), .unset, .unset, .unset, .unset, .unset, .unset, .unset, .unset]) rfl k) ?_
  refine Go.st (T' := s₁.setTop (mkF m 102 #[.val (.int p1), .val (.int p2), .val (.int p3), .val (.int p4), .val (.int p5), .val (.int p6), .val (.int (Int32.ofNat j1)), .val (.int (Int32.ofNat j2)), .val (.int u0), .val (.int u1), .val (.int u2), .val (.int n1), .val (.int sc), .val (.int v0), .unset, .unset, .unset, .unset, .unset, .unset, .unset, .unset] [(.int sc)])) (fun t k => XS.iload X0h.here hx rfl (hb hby at_100) rfl k) ?_
  suffices Jv1 : ∀ v1 : Int32, (own_C v1) → Go p e below (s₁.setTop (mkF m 119 #[.val (.int p1), .val (.int p2), .val (.int p3), .val (.int p4), .val (.int p5), .val (.int p6), .val (.int (Int32.ofNat j1)), .val (.int (Int32.ofNat j2)), .val (.int u0), .val (.int u1), .val (.int u2), .val (.int n1), .val (.int sc), .val (.int v0), .unset, .unset, .unset, .unset, .unset, .unset, .unset, .unset] [(.int v1)])) (EndH Z EL s (Q_rm0 Z p1 p2 p3 p4 p5 p6 d h0 n0) room_1.cells room_1.slots) by
    by_cases hcv1 : sc = (0 : Int32)
    ·
      refine Go.st (T' := s₁.setTop (mkF m 110 #[.val (.int p1), .val (.int p2), .val (.int p3), .val (.int p4), .val (.int p5), .val (.int p6), .val (.int (Int32.ofNat j1)), .val (.int (Int32.ofNat j2)), .val (.int u0), .val (.int u1), .val (.int u2), .val (.int n1), .val (.int sc), .val (.int v0), .unset, .unset, .unset, .unset, .unset, .unset, .unset, .unset] [])) (fun t k => XS.ifYes X0h.here hx rfl (pc0 := 102) (pc' := 110) rfl (hb hby at_102) rfl ((if0 _ _).trans (teq hcv1).1) (by decide) (by decide) k) ?_
      refine Go.st (T' := s₁.setTop (mkF m 111 #[.val (.int p1), .val (.int p2), .val (.int p3), .val (.int p4), .val (.int p5), .val (.int p6), .val (.int (Int32.ofNat j1)), .val (.int (Int32.ofNat j2)), .val (.int u0), .val (.int u1), .val (.int u2), .val (.int n1), .val (.int sc), .val (.int v0), .unset, .unset, .unset, .unset, .unset, .unset, .unset, .unset] [(.int p3)])) (fun t k => XS.iloadN X0h.here hx rfl (hb hby at_110) rfl k) ?_
      refine Go.st (T' := s₁.setTop (mkF m 113 #[.val (.int p1), .val (.int p2), .val (.int p3), .val (.int p4), .val (.int p5), .val (.int p6), .val (.int (Int32.ofNat j1)), .val (.int (Int32.ofNat j2)), .val (.int u0), .val (.int u1), .val (.int u2), .val (.int n1), .val (.int sc), .val (.int v0), .unset, .unset, .unset, .unset, .unset, .unset, .unset, .unset] [(.int (8 : Int32)), (.int p3)])) (fun t k => XS.bipush X0h.here hx rfl (hb hby at_111) k) ?_
      refine Go.st (T' := s₁.setTop (mkF m 114 #[.val (.int p1), .val (.int p2), .val (.int p3), .val (.int p4), .val (.int p5), .val (.int p6), .val (.int (Int32.ofNat j1)), .val (.int (Int32.ofNat j2)), .val (.int u0), .val (.int u1), .val (.int u2), .val (.int n1), .val (.int sc), .val (.int v0), .unset, .unset, .unset, .unset, .unset, .unset, .unset, .unset] [(.int ((p3.toUInt32 >>> ((8 : Int32) &&& 31).toUInt32).toInt32))])) (fun t k => XS.iushr X0h.here hx rfl (hb hby at_113) rfl k) ?_
      refine Go.st (T' := s₁.setTop (mkF m 117 #[.val (.int p1), .val (.int p2), .val (.int p3), .val (.int p4), .val (.int p5), .val (.int p6), .val (.int (Int32.ofNat j1)), .val (.int (Int32.ofNat j2)), .val (.int u0), .val (.int u1), .val (.int u2), .val (.int n1), .val (.int sc), .val (.int v0), .unset, .unset, .unset, .unset, .unset, .unset, .unset, .unset] [(.int (255 : Int32)), (.int ((p3.toUInt32 >>> ((8 : Int32) &&& 31).toUInt32).toInt32))])) (fun t k => XS.sipush X0h.here hx rfl (hb hby at_114) k) ?_
      refine Go.st (T' := s₁.setTop (mkF m 118 #[.val (.int p1), .val (.int p2), .val (.int p3), .val (.int p4), .val (.int p5), .val (.int p6), .val (.int (Int32.ofNat j1)), .val (.int (Int32.ofNat j2)), .val (.int u0), .val (.int u1), .val (.int u2), .val (.int n1), .val (.int sc), .val (.int v0), .unset, .unset, .unset, .unset, .unset, .unset, .unset, .unset] [(.int (((p3.toUInt32 >>> ((8 : Int32) &&& 31).toUInt32).toInt32) &&& (255 : Int32)))])) (fun t k => XS.iand X0h.here hx rfl (hb hby at_117) rfl k) ?_
      refine Go.st (T' := s₁.setTop (mkF m 119 #[.val (.int p1), .val (.int p2), .val (.int p3), .val (.int p4), .val (.int p5), .val (.int p6), .val (.int (Int32.ofNat j1)), .val (.int (Int32.ofNat j2)), .val (.int u0), .val (.int u1), .val (.int u2), .val (.int n1), .val (.int sc), .val (.int v0), .unset, .unset, .unset, .unset, .unset, .unset, .unset, .unset] [(.int ((((p3.toUInt32 >>> ((8 : Int32) &&& 31).toUInt32).toInt32) &&& (255 : Int32)).toUInt32.toUInt16.toUInt32.toInt32))])) (fun t k => XS.i2c X0h.here hx rfl (hb hby at_118) rfl k) ?_
      exact Jv1 _ (own_C_of _)
    ·
      refine Go.st (T' := s₁.setTop (mkF m 105 #[.val (.int p1), .val (.int p2), .val (.int p3), .val (.int p4), .val (.int p5), .val (.int p6), .val (.int (Int32.ofNat j1)), .val (.int (Int32.ofNat j2)), .val (.int u0), .val (.int u1), .val (.int u2), .val (.int n1), .val (.int sc), .val (.int v0), .unset, .unset, .unset, .unset, .unset, .unset, .unset, .unset] [])) (fun t k => XS.ifNo X0h.here hx rfl (hb hby at_102) rfl ((if0 _ _).trans (feq hcv1).1) k) ?_
      refine Go.st (T' := s₁.setTop (mkF m 107 #[.val (.int p1), .val (.int p2), .val (.int p3), .val (.int p4), .val (.int p5), .val (.int p6), .val (.int (Int32.ofNat j1)), .val (.int (Int32.ofNat j2)), .val (.int u0), .val (.int u1), .val (.int u2), .val (.int n1), .val (.int sc), .val (.int v0), .unset, .unset, .unset, .unset, .unset, .unset, .unset, .unset] [(.int u1)])) (fun t k => XS.iload X0h.here hx rfl (hb hby at_105) rfl k) ?_
      refine Go.st (T' := s₁.setTop (mkF m 119 #[.val (.int p1), .val (.int p2), .val (.int p3), .val (.int p4), .val (.int p5), .val (.int p6), .val (.int (Int32.ofNat j1)), .val (.int (Int32.ofNat j2)), .val (.int u0), .val (.int u1), .val (.int u2), .val (.int n1), .val (.int sc), .val (.int v0), .unset, .unset, .unset, .unset, .unset, .unset, .unset, .unset] [(.int u1)])) (fun t k => XS.goto X0h.here hx rfl (pc0 := 107) (pc' := 119) rfl (hb hby at_107) (by decide) (by decide) k) ?_
      exact Jv1 _ (Hu1)
  intro v1 h_v1
  refine Go.st (T' := s₁.setTop (mkF m 121 #[.val (.int p1), .val (.int p2), .val (.int p3), .val (.int p4), .val (.int p5), .val (.int p6), .val (.int (Int32.ofNat j1)), .val (.int (Int32.ofNat j2)), .val (.int u0), .val (.int u1), .val (.int u2), .val (.int n1), .val (.int sc), .val (.int v0), .val (.int v1), .unset, .unset, .unset, .unset, .unset, .unset, .unset] [])) (fun t k => XS.istore X0h.here hx rfl (hb hby at_119) rfl (l' := #[.val (.int p1), .val (.int p2), .val (.int p3), .val (.int p4), .val (.int p5), .val (.int p6), .val (.int (Int32.ofNat j1)), .val (.int (Int32.ofNat j2)), .val (.int u0), .val (.int u1), .val (.int u2), .val (.int n1), .val (.int sc), .val (.int v0), .val (.int v1), .unset, .unset, .unset, .unset, .unset, .unset, .unset]) rfl k) ?_
  refine Go.st (T' := s₁.setTop (mkF m 123 #[.val (.int p1), .val (.int p2), .val (.int p3), .val (.int p4), .val (.int p5), .val (.int p6), .val (.int (Int32.ofNat j1)), .val (.int (Int32.ofNat j2)), .val (.int u0), .val (.int u1), .val (.int u2), .val (.int n1), .val (.int sc), .val (.int v0), .val (.int v1), .unset, .unset, .unset, .unset, .unset, .unset, .unset] [(.int sc)])) (fun t k => XS.iload X0h.here hx rfl (hb hby at_121) rfl k) ?_
  suffices Jv2 : ∀ v2 : Int32, (own_C v2) → Go p e below (s₁.setTop (mkF m 140 #[.val (.int p1), .val (.int p2), .val (.int p3), .val (.int p4), .val (.int p5), .val (.int p6), .val (.int (Int32.ofNat j1)), .val (.int (Int32.ofNat j2)), .val (.int u0), .val (.int u1), .val (.int u2), .val (.int n1), .val (.int sc), .val (.int v0), .val (.int v1), .unset, .unset, .unset, .unset, .unset, .unset, .unset] [(.int v2)])) (EndH Z EL s (Q_rm0 Z p1 p2 p3 p4 p5 p6 d h0 n0) room_1.cells room_1.slots) by
    by_cases hcv2 : sc = (0 : Int32)
    ·
      refine Go.st (T' := s₁.setTop (mkF m 131 #[.val (.int p1), .val (.int p2), .val (.int p3), .val (.int p4), .val (.int p5), .val (.int p6), .val (.int (Int32.ofNat j1)), .val (.int (Int32.ofNat j2)), .val (.int u0), .val (.int u1), .val (.int u2), .val (.int n1), .val (.int sc), .val (.int v0), .val (.int v1), .unset, .unset, .unset, .unset, .unset, .unset, .unset] [])) (fun t k => XS.ifYes X0h.here hx rfl (pc0 := 123) (pc' := 131) rfl (hb hby at_123) rfl ((if0 _ _).trans (teq hcv2).1) (by decide) (by decide) k) ?_
      refine Go.st (T' := s₁.setTop (mkF m 132 #[.val (.int p1), .val (.int p2), .val (.int p3), .val (.int p4), .val (.int p5), .val (.int p6), .val (.int (Int32.ofNat j1)), .val (.int (Int32.ofNat j2)), .val (.int u0), .val (.int u1), .val (.int u2), .val (.int n1), .val (.int sc), .val (.int v0), .val (.int v1), .unset, .unset, .unset, .unset, .unset, .unset, .unset] [(.int p3)])) (fun t k => XS.iloadN X0h.here hx rfl (hb hby at_131) rfl k) ?_
      refine Go.st (T' := s₁.setTop (mkF m 134 #[.val (.int p1), .val (.int p2), .val (.int p3), .val (.int p4), .val (.int p5), .val (.int p6), .val (.int (Int32.ofNat j1)), .val (.int (Int32.ofNat j2)), .val (.int u0), .val (.int u1), .val (.int u2), .val (.int n1), .val (.int sc), .val (.int v0), .val (.int v1), .unset, .unset, .unset, .unset, .unset, .unset, .unset] [(.int (16 : Int32)), (.int p3)])) (fun t k => XS.bipush X0h.here hx rfl (hb hby at_132) k) ?_
      refine Go.st (T' := s₁.setTop (mkF m 135 #[.val (.int p1), .val (.int p2), .val (.int p3), .val (.int p4), .val (.int p5), .val (.int p6), .val (.int (Int32.ofNat j1)), .val (.int (Int32.ofNat j2)), .val (.int u0), .val (.int u1), .val (.int u2), .val (.int n1), .val (.int sc), .val (.int v0), .val (.int v1), .unset, .unset, .unset, .unset, .unset, .unset, .unset] [(.int ((p3.toUInt32 >>> ((16 : Int32) &&& 31).toUInt32).toInt32))])) (fun t k => XS.iushr X0h.here hx rfl (hb hby at_134) rfl k) ?_
      refine Go.st (T' := s₁.setTop (mkF m 138 #[.val (.int p1), .val (.int p2), .val (.int p3), .val (.int p4), .val (.int p5), .val (.int p6), .val (.int (Int32.ofNat j1)), .val (.int (Int32.ofNat j2)), .val (.int u0), .val (.int u1), .val (.int u2), .val (.int n1), .val (.int sc), .val (.int v0), .val (.int v1), .unset, .unset, .unset, .unset, .unset, .unset, .unset] [(.int (255 : Int32)), (.int ((p3.toUInt32 >>> ((16 : Int32) &&& 31).toUInt32).toInt32))])) (fun t k => XS.sipush X0h.here hx rfl (hb hby at_135) k) ?_
      refine Go.st (T' := s₁.setTop (mkF m 139 #[.val (.int p1), .val (.int p2), .val (.int p3), .val (.int p4), .val (.int p5), .val (.int p6), .val (.int (Int32.ofNat j1)), .val (.int (Int32.ofNat j2)), .val (.int u0), .val (.int u1), .val (.int u2), .val (.int n1), .val (.int sc), .val (.int v0), .val (.int v1), .unset, .unset, .unset, .unset, .unset, .unset, .unset] [(.int (((p3.toUInt32 >>> ((16 : Int32) &&& 31).toUInt32).toInt32) &&& (255 : Int32)))])) (fun t k => XS.iand X0h.here hx rfl (hb hby at_138) rfl k) ?_
      refine Go.st (T' := s₁.setTop (mkF m 140 #[.val (.int p1), .val (.int p2), .val (.int p3), .val (.int p4), .val (.int p5), .val (.int p6), .val (.int (Int32.ofNat j1)), .val (.int (Int32.ofNat j2)), .val (.int u0), .val (.int u1), .val (.int u2), .val (.int n1), .val (.int sc), .val (.int v0), .val (.int v1), .unset, .unset, .unset, .unset, .unset, .unset, .unset] [(.int ((((p3.toUInt32 >>> ((16 : Int32) &&& 31).toUInt32).toInt32) &&& (255 : Int32)).toUInt32.toUInt16.toUInt32.toInt32))])) (fun t k => XS.i2c X0h.here hx rfl (hb hby at_139) rfl k) ?_
      exact Jv2 _ (own_C_of _)
    ·
      refine Go.st (T' := s₁.setTop (mkF m 126 #[.val (.int p1), .val (.int p2), .val (.int p3), .val (.int p4), .val (.int p5), .val (.int p6), .val (.int (Int32.ofNat j1)), .val (.int (Int32.ofNat j2)), .val (.int u0), .val (.int u1), .val (.int u2), .val (.int n1), .val (.int sc), .val (.int v0), .val (.int v1), .unset, .unset, .unset, .unset, .unset, .unset, .unset] [])) (fun t k => XS.ifNo X0h.here hx rfl (hb hby at_123) rfl ((if0 _ _).trans (feq hcv2).1) k) ?_
      refine Go.st (T' := s₁.setTop (mkF m 128 #[.val (.int p1), .val (.int p2), .val (.int p3), .val (.int p4), .val (.int p5), .val (.int p6), .val (.int (Int32.ofNat j1)), .val (.int (Int32.ofNat j2)), .val (.int u0), .val (.int u1), .val (.int u2), .val (.int n1), .val (.int sc), .val (.int v0), .val (.int v1), .unset, .unset, .unset, .unset, .unset, .unset, .unset] [(.int u2)])) (fun t k => XS.iload X0h.here hx rfl (hb hby at_126) rfl k) ?_
      refine Go.st (T' := s₁.setTop (mkF m 140 #[.val (.int p1), .val (.int p2), .val (.int p3), .val (.int p4), .val (.int p5), .val (.int p6), .val (.int (Int32.ofNat j1)), .val (.int (Int32.ofNat j2)), .val (.int u0), .val (.int u1), .val (.int u2), .val (.int n1), .val (.int sc), .val (.int v0), .val (.int v1), .unset, .unset, .unset, .unset, .unset, .unset, .unset] [(.int u2)])) (fun t k => XS.goto X0h.here hx rfl (pc0 := 128) (pc' := 140) rfl (hb hby at_128) (by decide) (by decide) k) ?_
      exact Jv2 _ (Hu2)
  intro v2 h_v2
  refine Go.st (T' := s₁.setTop (mkF m 142 #[.val (.int p1), .val (.int p2), .val (.int p3), .val (.int p4), .val (.int p5), .val (.int p6), .val (.int (Int32.ofNat j1)), .val (.int (Int32.ofNat j2)), .val (.int u0), .val (.int u1), .val (.int u2), .val (.int n1), .val (.int sc), .val (.int v0), .val (.int v1), .val (.int v2), .unset, .unset, .unset, .unset, .unset, .unset] [])) (fun t k => XS.istore X0h.here hx rfl (hb hby at_140) rfl (l' := #[.val (.int p1), .val (.int p2), .val (.int p3), .val (.int p4), .val (.int p5), .val (.int p6), .val (.int (Int32.ofNat j1)), .val (.int (Int32.ofNat j2)), .val (.int u0), .val (.int u1), .val (.int u2), .val (.int n1), .val (.int sc), .val (.int v0), .val (.int v1), .val (.int v2), .unset, .unset, .unset, .unset, .unset, .unset]) rfl k) ?_
  refine Go.st (T' := s₁.setTop (mkF m 143 #[.val (.int p1), .val (.int p2), .val (.int p3), .val (.int p4), .val (.int p5), .val (.int p6), .val (.int (Int32.ofNat j1)), .val (.int (Int32.ofNat j2)), .val (.int u0), .val (.int u1), .val (.int u2), .val (.int n1), .val (.int sc), .val (.int v0), .val (.int v1), .val (.int v2), .unset, .unset, .unset, .unset, .unset, .unset] [(.int p4)])) (fun t k => XS.iloadN X0h.here hx rfl (hb hby at_142) rfl k) ?_
  refine Go.st (T' := s₁.setTop (mkF m 144 #[.val (.int p1), .val (.int p2), .val (.int p3), .val (.int p4), .val (.int p5), .val (.int p6), .val (.int (Int32.ofNat j1)), .val (.int (Int32.ofNat j2)), .val (.int u0), .val (.int u1), .val (.int u2), .val (.int n1), .val (.int sc), .val (.int v0), .val (.int v1), .val (.int v2), .unset, .unset, .unset, .unset, .unset, .unset] [(.int (4 : Int32)), (.int p4)])) (fun t k => XS.iconst X0h.here hx rfl (hb hby at_143) k) ?_
  refine Go.st (T' := s₁.setTop (mkF m 145 #[.val (.int p1), .val (.int p2), .val (.int p3), .val (.int p4), .val (.int p5), .val (.int p6), .val (.int (Int32.ofNat j1)), .val (.int (Int32.ofNat j2)), .val (.int u0), .val (.int u1), .val (.int u2), .val (.int n1), .val (.int sc), .val (.int v0), .val (.int v1), .val (.int v2), .unset, .unset, .unset, .unset, .unset, .unset] [(.int (p4 &&& (4 : Int32)))])) (fun t k => XS.iand X0h.here hx rfl (hb hby at_144) rfl k) ?_
  suffices Jn2 : ∀ n2 : Int32, (own_4 n2) → Go p e below (s₁.setTop (mkF m 159 #[.val (.int p1), .val (.int p2), .val (.int p3), .val (.int p4), .val (.int p5), .val (.int p6), .val (.int (Int32.ofNat j1)), .val (.int (Int32.ofNat j2)), .val (.int u0), .val (.int u1), .val (.int u2), .val (.int n1), .val (.int sc), .val (.int v0), .val (.int v1), .val (.int v2), .unset, .unset, .unset, .unset, .unset, .unset] [(.int n2)])) (EndH Z EL s (Q_rm0 Z p1 p2 p3 p4 p5 p6 d h0 n0) room_1.cells room_1.slots) by
    by_cases hcn2 : (p4 &&& (4 : Int32)) = (0 : Int32)
    ·
      refine Go.st (T' := s₁.setTop (mkF m 153 #[.val (.int p1), .val (.int p2), .val (.int p3), .val (.int p4), .val (.int p5), .val (.int p6), .val (.int (Int32.ofNat j1)), .val (.int (Int32.ofNat j2)), .val (.int u0), .val (.int u1), .val (.int u2), .val (.int n1), .val (.int sc), .val (.int v0), .val (.int v1), .val (.int v2), .unset, .unset, .unset, .unset, .unset, .unset] [])) (fun t k => XS.ifYes X0h.here hx rfl (pc0 := 145) (pc' := 153) rfl (hb hby at_145) rfl ((if0 _ _).trans (teq hcn2).1) (by decide) (by decide) k) ?_
      refine Go.st (T' := s₁.setTop (mkF m 154 #[.val (.int p1), .val (.int p2), .val (.int p3), .val (.int p4), .val (.int p5), .val (.int p6), .val (.int (Int32.ofNat j1)), .val (.int (Int32.ofNat j2)), .val (.int u0), .val (.int u1), .val (.int u2), .val (.int n1), .val (.int sc), .val (.int v0), .val (.int v1), .val (.int v2), .unset, .unset, .unset, .unset, .unset, .unset] [(.int p3)])) (fun t k => XS.iloadN X0h.here hx rfl (hb hby at_153) rfl k) ?_
      refine Go.st (T' := s₁.setTop (mkF m 156 #[.val (.int p1), .val (.int p2), .val (.int p3), .val (.int p4), .val (.int p5), .val (.int p6), .val (.int (Int32.ofNat j1)), .val (.int (Int32.ofNat j2)), .val (.int u0), .val (.int u1), .val (.int u2), .val (.int n1), .val (.int sc), .val (.int v0), .val (.int v1), .val (.int v2), .unset, .unset, .unset, .unset, .unset, .unset] [(.int (24 : Int32)), (.int p3)])) (fun t k => XS.bipush X0h.here hx rfl (hb hby at_154) k) ?_
      refine Go.st (T' := s₁.setTop (mkF m 157 #[.val (.int p1), .val (.int p2), .val (.int p3), .val (.int p4), .val (.int p5), .val (.int p6), .val (.int (Int32.ofNat j1)), .val (.int (Int32.ofNat j2)), .val (.int u0), .val (.int u1), .val (.int u2), .val (.int n1), .val (.int sc), .val (.int v0), .val (.int v1), .val (.int v2), .unset, .unset, .unset, .unset, .unset, .unset] [(.int ((p3.toUInt32 >>> ((24 : Int32) &&& 31).toUInt32).toInt32))])) (fun t k => XS.iushr X0h.here hx rfl (hb hby at_156) rfl k) ?_
      refine Go.st (T' := s₁.setTop (mkF m 158 #[.val (.int p1), .val (.int p2), .val (.int p3), .val (.int p4), .val (.int p5), .val (.int p6), .val (.int (Int32.ofNat j1)), .val (.int (Int32.ofNat j2)), .val (.int u0), .val (.int u1), .val (.int u2), .val (.int n1), .val (.int sc), .val (.int v0), .val (.int v1), .val (.int v2), .unset, .unset, .unset, .unset, .unset, .unset] [(.int (3 : Int32)), (.int ((p3.toUInt32 >>> ((24 : Int32) &&& 31).toUInt32).toInt32))])) (fun t k => XS.iconst X0h.here hx rfl (hb hby at_157) k) ?_
      refine Go.st (T' := s₁.setTop (mkF m 159 #[.val (.int p1), .val (.int p2), .val (.int p3), .val (.int p4), .val (.int p5), .val (.int p6), .val (.int (Int32.ofNat j1)), .val (.int (Int32.ofNat j2)), .val (.int u0), .val (.int u1), .val (.int u2), .val (.int n1), .val (.int sc), .val (.int v0), .val (.int v1), .val (.int v2), .unset, .unset, .unset, .unset, .unset, .unset] [(.int (((p3.toUInt32 >>> ((24 : Int32) &&& 31).toUInt32).toInt32) &&& (3 : Int32)))])) (fun t k => XS.iand X0h.here hx rfl (hb hby at_158) rfl k) ?_
      exact Jn2 _ (own_3 _)
    ·
      refine Go.st (T' := s₁.setTop (mkF m 148 #[.val (.int p1), .val (.int p2), .val (.int p3), .val (.int p4), .val (.int p5), .val (.int p6), .val (.int (Int32.ofNat j1)), .val (.int (Int32.ofNat j2)), .val (.int u0), .val (.int u1), .val (.int u2), .val (.int n1), .val (.int sc), .val (.int v0), .val (.int v1), .val (.int v2), .unset, .unset, .unset, .unset, .unset, .unset] [])) (fun t k => XS.ifNo X0h.here hx rfl (hb hby at_145) rfl ((if0 _ _).trans (feq hcn2).1) k) ?_
      refine Go.st (T' := s₁.setTop (mkF m 150 #[.val (.int p1), .val (.int p2), .val (.int p3), .val (.int p4), .val (.int p5), .val (.int p6), .val (.int (Int32.ofNat j1)), .val (.int (Int32.ofNat j2)), .val (.int u0), .val (.int u1), .val (.int u2), .val (.int n1), .val (.int sc), .val (.int v0), .val (.int v1), .val (.int v2), .unset, .unset, .unset, .unset, .unset, .unset] [(.int n1)])) (fun t k => XS.iload X0h.here hx rfl (hb hby at_148) rfl k) ?_
      refine Go.st (T' := s₁.setTop (mkF m 159 #[.val (.int p1), .val (.int p2), .val (.int p3), .val (.int p4), .val (.int p5), .val (.int p6), .val (.int (Int32.ofNat j1)), .val (.int (Int32.ofNat j2)), .val (.int u0), .val (.int u1), .val (.int u2), .val (.int n1), .val (.int sc), .val (.int v0), .val (.int v1), .val (.int v2), .unset, .unset, .unset, .unset, .unset, .unset] [(.int n1)])) (fun t k => XS.goto X0h.here hx rfl (pc0 := 150) (pc' := 159) rfl (hb hby at_150) (by decide) (by decide) k) ?_
      exact Jn2 _ (Hn1)
  intro n2 h_n2
  refine Go.st (T' := s₁.setTop (mkF m 161 #[.val (.int p1), .val (.int p2), .val (.int p3), .val (.int p4), .val (.int p5), .val (.int p6), .val (.int (Int32.ofNat j1)), .val (.int (Int32.ofNat j2)), .val (.int u0), .val (.int u1), .val (.int u2), .val (.int n1), .val (.int sc), .val (.int v0), .val (.int v1), .val (.int v2), .val (.int n2), .unset, .unset, .unset, .unset, .unset] [])) (fun t k => XS.istore X0h.here hx rfl (hb hby at_159) rfl (l' := #[.val (.int p1), .val (.int p2), .val (.int p3), .val (.int p4), .val (.int p5), .val (.int p6), .val (.int (Int32.ofNat j1)), .val (.int (Int32.ofNat j2)), .val (.int u0), .val (.int u1), .val (.int u2), .val (.int n1), .val (.int sc), .val (.int v0), .val (.int v1), .val (.int v2), .val (.int n2), .unset, .unset, .unset, .unset, .unset]) rfl k) ?_
  refine Go.st (T' := s₁.setTop (mkF m 163 #[.val (.int p1), .val (.int p2), .val (.int p3), .val (.int p4), .val (.int p5), .val (.int p6), .val (.int (Int32.ofNat j1)), .val (.int (Int32.ofNat j2)), .val (.int u0), .val (.int u1), .val (.int u2), .val (.int n1), .val (.int sc), .val (.int v0), .val (.int v1), .val (.int v2), .val (.int n2), .unset, .unset, .unset, .unset, .unset] [(.int n1)])) (fun t k => XS.iload X0h.here hx rfl (hb hby at_161) rfl k) ?_
  refine Go.st (T' := s₁.setTop (mkF m 165 #[.val (.int p1), .val (.int p2), .val (.int p3), .val (.int p4), .val (.int p5), .val (.int p6), .val (.int (Int32.ofNat j1)), .val (.int (Int32.ofNat j2)), .val (.int u0), .val (.int u1), .val (.int u2), .val (.int n1), .val (.int sc), .val (.int v0), .val (.int v1), .val (.int v2), .val (.int n2), .unset, .unset, .unset, .unset, .unset] [(.int u0), (.int n1)])) (fun t k => XS.iload X0h.here hx rfl (hb hby at_163) rfl k) ?_
  refine Go.st (T' := s₁.setTop (mkF m 167 #[.val (.int p1), .val (.int p2), .val (.int p3), .val (.int p4), .val (.int p5), .val (.int p6), .val (.int (Int32.ofNat j1)), .val (.int (Int32.ofNat j2)), .val (.int u0), .val (.int u1), .val (.int u2), .val (.int n1), .val (.int sc), .val (.int v0), .val (.int v1), .val (.int v2), .val (.int n2), .unset, .unset, .unset, .unset, .unset] [(.int u1), (.int u0), (.int n1)])) (fun t k => XS.iload X0h.here hx rfl (hb hby at_165) rfl k) ?_
  refine Go.st (T' := s₁.setTop (mkF m 169 #[.val (.int p1), .val (.int p2), .val (.int p3), .val (.int p4), .val (.int p5), .val (.int p6), .val (.int (Int32.ofNat j1)), .val (.int (Int32.ofNat j2)), .val (.int u0), .val (.int u1), .val (.int u2), .val (.int n1), .val (.int sc), .val (.int v0), .val (.int v1), .val (.int v2), .val (.int n2), .unset, .unset, .unset, .unset, .unset] [(.int u2), (.int u1), (.int u0), (.int n1)])) (fun t k => XS.iload X0h.here hx rfl (hb hby at_167) rfl k) ?_
  obtain ⟨vr118, _, ⟨T118, L118, k118, n118⟩, -, X118, hs118, hg118, ⟨Lc118, hQ118, l118, y118, z118⟩, st118⟩ := callSS X0h hx (y := (⟨"com/example/pass3/pass3/TokenIsPinLaw", "str", "(ICCC)Ljava/lang/String;"⟩ : MethodName)) hownh (mvT hZh (hw _ (List.mem_of_getElem? (i := 1) rfl))) (mvT hZh (hw _ (List.mem_of_getElem? (i := 2) rfl))) (mvT hZh (hw _ (List.mem_of_getElem? (i := 3) rfl))) (mvT hZh (hw _ (List.mem_of_getElem? (i := 4) rfl))) (by decide) (backOfSH (s := s) (vm0 := s.vm) (W := 0) (rmStr l Z a0 hw n1 u0 u1 u2 h0 n0 (Nat.le_trans Z0 K0.1) G1 O2 P5 (X00.keep K0 all0) Hu0 Hu1 Hu2 Hn1 hEL wS) hZh (hw _ (List.mem_of_getElem? (i := 4) rfl)) (hw _ (List.mem_of_getElem? (i := 3) rfl)) (by decide) (by decide) hEL C0.1) (g := (mkF m 169 #[.val (.int p1), .val (.int p2), .val (.int p3), .val (.int p4), .val (.int p5), .val (.int p6), .val (.int (Int32.ofNat j1)), .val (.int (Int32.ofNat j2)), .val (.int u0), .val (.int u1), .val (.int u2), .val (.int n1), .val (.int sc), .val (.int v0), .val (.int v1), .val (.int v2), .val (.int n2), .unset, .unset, .unset, .unset, .unset] [(.int u2), (.int u1), (.int u0), (.int n1)])) rfl (by rw [hml]; rfl) (argsL := [(.int n1), (.int u0), (.int u1), (.int u2)]) (rest := []) (lenOf pd_a8e4fc5 rfl) rfl (by show 2 * 0 + _ ≤ _; exact Nat.le_of_eq rfl) (hb hby at_169) (fun _ _ => ⟨rfl, e0, (by decide : 0 + 5 ≤ _), (by decide : 0 + 11 ≤ _)⟩)
  dsimp only [Pt.U, Pt.locs, Pt.cells, Pt.slots] at X118 l118 y118 z118 st118 hQ118 hs118 hg118
  subst l118 y118
  obtain ⟨z118, CC118⟩ := z118
  subst z118
  obtain ⟨Nq118, Kq118, x118, t118, kb118, rfl, Eq118, Cq118, Vq118, Bq118⟩ := hQ118
  obtain ⟨Xr118, hSr118, hZr118, hor118⟩ := rebS (s := s) (vm0 := s.vm) hS0 (by rw [e0]; exact (Nat.zero_le _)) X118 hs118 hg118 hZh hownh
  have C119 : CHr Z EL s.vm h0 T118.vm T118.heap := C0.trans CC118
  have KK120 : Keep h0 T118.heap [] := K0.trans Kq118 all0
  have NN121 := Fr.app N0 Nq118
  refine Go.st (T' := T118.setTop (mkF m 172 #[.val (.int p1), .val (.int p2), .val (.int p3), .val (.int p4), .val (.int p5), .val (.int p6), .val (.int (Int32.ofNat j1)), .val (.int (Int32.ofNat j2)), .val (.int u0), .val (.int u1), .val (.int u2), .val (.int n1), .val (.int sc), .val (.int v0), .val (.int v1), .val (.int v2), .val (.int n2), .unset, .unset, .unset, .unset, .unset] [(.ref x118)])) (fun t k => st118.trans k) ?_
  refine Go.st (T' := T118.setTop (mkF m 174 #[.val (.int p1), .val (.int p2), .val (.int p3), .val (.int p4), .val (.int p5), .val (.int p6), .val (.int (Int32.ofNat j1)), .val (.int (Int32.ofNat j2)), .val (.int u0), .val (.int u1), .val (.int u2), .val (.int n1), .val (.int sc), .val (.int v0), .val (.int v1), .val (.int v2), .val (.int n2), .val (.ref x118), .unset, .unset, .unset, .unset] [])) (fun t k => XS.astore Xr118.here hx rfl (hb hby at_172) rfl rfl (l' := #[.val (.int p1), .val (.int p2), .val (.int p3), .val (.int p4), .val (.int p5), .val (.int p6), .val (.int (Int32.ofNat j1)), .val (.int (Int32.ofNat j2)), .val (.int u0), .val (.int u1), .val (.int u2), .val (.int n1), .val (.int sc), .val (.int v0), .val (.int v1), .val (.int v2), .val (.int n2), .val (.ref x118), .unset, .unset, .unset, .unset]) rfl k) ?_
  refine Go.st (T' := T118.setTop (mkF m 176 #[.val (.int p1), .val (.int p2), .val (.int p3), .val (.int p4), .val (.int p5), .val (.int p6), .val (.int (Int32.ofNat j1)), .val (.int (Int32.ofNat j2)), .val (.int u0), .val (.int u1), .val (.int u2), .val (.int n1), .val (.int sc), .val (.int v0), .val (.int v1), .val (.int v2), .val (.int n2), .val (.ref x118), .unset, .unset, .unset, .unset] [(.int n2)])) (fun t k => XS.iload Xr118.here hx rfl (hb hby at_174) rfl k) ?_
  refine Go.st (T' := T118.setTop (mkF m 178 #[.val (.int p1), .val (.int p2), .val (.int p3), .val (.int p4), .val (.int p5), .val (.int p6), .val (.int (Int32.ofNat j1)), .val (.int (Int32.ofNat j2)), .val (.int u0), .val (.int u1), .val (.int u2), .val (.int n1), .val (.int sc), .val (.int v0), .val (.int v1), .val (.int v2), .val (.int n2), .val (.ref x118), .unset, .unset, .unset, .unset] [(.int v0), (.int n2)])) (fun t k => XS.iload Xr118.here hx rfl (hb hby at_176) rfl k) ?_
  refine Go.st (T' := T118.setTop (mkF m 180 #[.val (.int p1), .val (.int p2), .val (.int p3), .val (.int p4), .val (.int p5), .val (.int p6), .val (.int (Int32.ofNat j1)), .val (.int (Int32.ofNat j2)), .val (.int u0), .val (.int u1), .val (.int u2), .val (.int n1), .val (.int sc), .val (.int v0), .val (.int v1), .val (.int v2), .val (.int n2), .val (.ref x118), .unset, .unset, .unset, .unset] [(.int v1), (.int v0), (.int n2)])) (fun t k => XS.iload Xr118.here hx rfl (hb hby at_178) rfl k) ?_
  refine Go.st (T' := T118.setTop (mkF m 182 #[.val (.int p1), .val (.int p2), .val (.int p3), .val (.int p4), .val (.int p5), .val (.int p6), .val (.int (Int32.ofNat j1)), .val (.int (Int32.ofNat j2)), .val (.int u0), .val (.int u1), .val (.int u2), .val (.int n1), .val (.int sc), .val (.int v0), .val (.int v1), .val (.int v2), .val (.int n2), .val (.ref x118), .unset, .unset, .unset, .unset] [(.int v2), (.int v1), (.int v0), (.int n2)])) (fun t k => XS.iload Xr118.here hx rfl (hb hby at_180) rfl k) ?_
  obtain ⟨vr122, _, ⟨T122, L122, k122, n122⟩, -, X122, hs122, hg122, ⟨Lc122, hQ122, l122, y122, z122⟩, st122⟩ := callSS Xr118 hx (y := (⟨"com/example/pass3/pass3/TokenIsPinLaw", "str", "(ICCC)Ljava/lang/String;"⟩ : MethodName)) hor118 (mvT hZr118 (hw _ (List.mem_of_getElem? (i := 1) rfl))) (mvT hZr118 (hw _ (List.mem_of_getElem? (i := 2) rfl))) (mvT hZr118 (hw _ (List.mem_of_getElem? (i := 3) rfl))) (mvT hZr118 (hw _ (List.mem_of_getElem? (i := 4) rfl))) (by decide) (backOfSH (s := s) (vm0 := T118.vm) (W := 0) (rmStr l Z a0 hw n2 v0 v1 v2 T118.heap n0 (Nat.le_trans Z0 KK120.1) G1 O2 P5 (X00.keep KK120 all0) h_v0 h_v1 h_v2 h_n2 hEL wS) hZr118 (hw _ (List.mem_of_getElem? (i := 4) rfl)) (hw _ (List.mem_of_getElem? (i := 3) rfl)) (by decide) (by decide) hEL C119.1) (g := (mkF m 182 #[.val (.int p1), .val (.int p2), .val (.int p3), .val (.int p4), .val (.int p5), .val (.int p6), .val (.int (Int32.ofNat j1)), .val (.int (Int32.ofNat j2)), .val (.int u0), .val (.int u1), .val (.int u2), .val (.int n1), .val (.int sc), .val (.int v0), .val (.int v1), .val (.int v2), .val (.int n2), .val (.ref x118), .unset, .unset, .unset, .unset] [(.int v2), (.int v1), (.int v0), (.int n2)])) rfl (by rw [hml]; rfl) (argsL := [(.int n2), (.int v0), (.int v1), (.int v2)]) (rest := []) (lenOf pd_a8e4fc5 rfl) rfl (by show 2 * 0 + _ ≤ _; exact Nat.le_of_eq rfl) (hb hby at_182) (fun _ _ => ⟨rfl, rfl, (by decide : 5 + 5 ≤ _), (by decide : 11 + 11 ≤ _)⟩)
  dsimp only [Pt.U, Pt.locs, Pt.cells, Pt.slots] at X122 l122 y122 z122 st122 hQ122 hs122 hg122
  subst l122 y122
  obtain ⟨z122, CC122⟩ := z122
  subst z122
  obtain ⟨Nq122, Kq122, x122, t122, kb122, rfl, Eq122, Cq122, Vq122, Bq122⟩ := hQ122
  obtain ⟨Xr122, hSr122, hZr122, hor122⟩ := rebS (s := s) (vm0 := T118.vm) hSr118 (by rw [(rfl : T118.heap = T118.heap)]; exact (Nat.le_refl _)) X122 hs122 hg122 hZr118 hor118
  have C123 : CHr Z EL s.vm h0 T122.vm T122.heap := C119.trans CC122
  have KK124 : Keep h0 T122.heap [] := KK120.trans Kq122 all0
  have NN125 := Fr.app NN121 Nq122
  refine Go.st (T' := T122.setTop (mkF m 185 #[.val (.int p1), .val (.int p2), .val (.int p3), .val (.int p4), .val (.int p5), .val (.int p6), .val (.int (Int32.ofNat j1)), .val (.int (Int32.ofNat j2)), .val (.int u0), .val (.int u1), .val (.int u2), .val (.int n1), .val (.int sc), .val (.int v0), .val (.int v1), .val (.int v2), .val (.int n2), .val (.ref x118), .unset, .unset, .unset, .unset] [(.ref x122)])) (fun t k => st122.trans k) ?_
  refine Go.st (T' := T122.setTop (mkF m 187 #[.val (.int p1), .val (.int p2), .val (.int p3), .val (.int p4), .val (.int p5), .val (.int p6), .val (.int (Int32.ofNat j1)), .val (.int (Int32.ofNat j2)), .val (.int u0), .val (.int u1), .val (.int u2), .val (.int n1), .val (.int sc), .val (.int v0), .val (.int v1), .val (.int v2), .val (.int n2), .val (.ref x118), .val (.ref x122), .unset, .unset, .unset] [])) (fun t k => XS.astore Xr122.here hx rfl (hb hby at_185) rfl rfl (l' := #[.val (.int p1), .val (.int p2), .val (.int p3), .val (.int p4), .val (.int p5), .val (.int p6), .val (.int (Int32.ofNat j1)), .val (.int (Int32.ofNat j2)), .val (.int u0), .val (.int u1), .val (.int u2), .val (.int n1), .val (.int sc), .val (.int v0), .val (.int v1), .val (.int v2), .val (.int n2), .val (.ref x118), .val (.ref x122), .unset, .unset, .unset]) rfl k) ?_
  refine Go.st (T' := T122.setTop (mkF m 189 #[.val (.int p1), .val (.int p2), .val (.int p3), .val (.int p4), .val (.int p5), .val (.int p6), .val (.int (Int32.ofNat j1)), .val (.int (Int32.ofNat j2)), .val (.int u0), .val (.int u1), .val (.int u2), .val (.int n1), .val (.int sc), .val (.int v0), .val (.int v1), .val (.int v2), .val (.int n2), .val (.ref x118), .val (.ref x122), .unset, .unset, .unset] [(.int n1)])) (fun t k => XS.iload Xr122.here hx rfl (hb hby at_187) rfl k) ?_
  refine Go.st (T' := T122.setTop (mkF m 191 #[.val (.int p1), .val (.int p2), .val (.int p3), .val (.int p4), .val (.int p5), .val (.int p6), .val (.int (Int32.ofNat j1)), .val (.int (Int32.ofNat j2)), .val (.int u0), .val (.int u1), .val (.int u2), .val (.int n1), .val (.int sc), .val (.int v0), .val (.int v1), .val (.int v2), .val (.int n2), .val (.ref x118), .val (.ref x122), .unset, .unset, .unset] [(.int n2), (.int n1)])) (fun t k => XS.iload Xr122.here hx rfl (hb hby at_189) rfl k) ?_
  suffices Jt9 : ∀ t9 : Int32, ((t9 = 1 ∧ (own_str n1 u0 u1 u2) = (own_str n2 v0 v1 v2)) ∨ (t9 = 0 ∧ ¬ (own_str n1 u0 u1 u2) = (own_str n2 v0 v1 v2))) → Go p e below (T122.setTop (mkF m 238 #[.val (.int p1), .val (.int p2), .val (.int p3), .val (.int p4), .val (.int p5), .val (.int p6), .val (.int (Int32.ofNat j1)), .val (.int (Int32.ofNat j2)), .val (.int u0), .val (.int u1), .val (.int u2), .val (.int n1), .val (.int sc), .val (.int v0), .val (.int v1), .val (.int v2), .val (.int n2), .val (.ref x118), .val (.ref x122), .unset, .unset, .unset] [(.int t9)])) (EndH Z EL s (Q_rm0 Z p1 p2 p3 p4 p5 p6 d h0 n0) room_1.cells room_1.slots) by
    by_cases h191 : n1 = n2
    ·
      refine Go.st (T' := T122.setTop (mkF m 194 #[.val (.int p1), .val (.int p2), .val (.int p3), .val (.int p4), .val (.int p5), .val (.int p6), .val (.int (Int32.ofNat j1)), .val (.int (Int32.ofNat j2)), .val (.int u0), .val (.int u1), .val (.int u2), .val (.int n1), .val (.int sc), .val (.int v0), .val (.int v1), .val (.int v2), .val (.int n2), .val (.ref x118), .val (.ref x122), .unset, .unset, .unset] [])) (fun t k => XS.icmpNo Xr122.here hx rfl (hb hby at_191) rfl (teq h191).2 k) ?_
      refine Go.st (T' := T122.setTop (mkF m 196 #[.val (.int p1), .val (.int p2), .val (.int p3), .val (.int p4), .val (.int p5), .val (.int p6), .val (.int (Int32.ofNat j1)), .val (.int (Int32.ofNat j2)), .val (.int u0), .val (.int u1), .val (.int u2), .val (.int n1), .val (.int sc), .val (.int v0), .val (.int v1), .val (.int v2), .val (.int n2), .val (.ref x118), .val (.ref x122), .unset, .unset, .unset] [(.int n1)])) (fun t k => XS.iload Xr122.here hx rfl (hb hby at_194) rfl k) ?_
      refine Go.st (T' := T122.setTop (mkF m 197 #[.val (.int p1), .val (.int p2), .val (.int p3), .val (.int p4), .val (.int p5), .val (.int p6), .val (.int (Int32.ofNat j1)), .val (.int (Int32.ofNat j2)), .val (.int u0), .val (.int u1), .val (.int u2), .val (.int n1), .val (.int sc), .val (.int v0), .val (.int v1), .val (.int v2), .val (.int n2), .val (.ref x118), .val (.ref x122), .unset, .unset, .unset] [(.int (1 : Int32)), (.int n1)])) (fun t k => XS.iconst Xr122.here hx rfl (hb hby at_196) k) ?_
      by_cases h197 : n1 < (1 : Int32)
      ·
        refine Go.st (T' := T122.setTop (mkF m 207 #[.val (.int p1), .val (.int p2), .val (.int p3), .val (.int p4), .val (.int p5), .val (.int p6), .val (.int (Int32.ofNat j1)), .val (.int (Int32.ofNat j2)), .val (.int u0), .val (.int u1), .val (.int u2), .val (.int n1), .val (.int sc), .val (.int v0), .val (.int v1), .val (.int v2), .val (.int n2), .val (.ref x118), .val (.ref x122), .unset, .unset, .unset] [])) (fun t k => XS.icmpYes Xr122.here hx rfl (pc0 := 197) (pc' := 207) rfl (hb hby at_197) rfl (tlt h197).1 (by decide) (by decide) k) ?_
        refine Go.st (T' := T122.setTop (mkF m 209 #[.val (.int p1), .val (.int p2), .val (.int p3), .val (.int p4), .val (.int p5), .val (.int p6), .val (.int (Int32.ofNat j1)), .val (.int (Int32.ofNat j2)), .val (.int u0), .val (.int u1), .val (.int u2), .val (.int n1), .val (.int sc), .val (.int v0), .val (.int v1), .val (.int v2), .val (.int n2), .val (.ref x118), .val (.ref x122), .unset, .unset, .unset] [(.int n1)])) (fun t k => XS.iload Xr122.here hx rfl (hb hby at_207) rfl k) ?_
        refine Go.st (T' := T122.setTop (mkF m 210 #[.val (.int p1), .val (.int p2), .val (.int p3), .val (.int p4), .val (.int p5), .val (.int p6), .val (.int (Int32.ofNat j1)), .val (.int (Int32.ofNat j2)), .val (.int u0), .val (.int u1), .val (.int u2), .val (.int n1), .val (.int sc), .val (.int v0), .val (.int v1), .val (.int v2), .val (.int n2), .val (.ref x118), .val (.ref x122), .unset, .unset, .unset] [(.int (2 : Int32)), (.int n1)])) (fun t k => XS.iconst Xr122.here hx rfl (hb hby at_209) k) ?_
        by_cases h210 : n1 < (2 : Int32)
        ·
          refine Go.st (T' := T122.setTop (mkF m 220 #[.val (.int p1), .val (.int p2), .val (.int p3), .val (.int p4), .val (.int p5), .val (.int p6), .val (.int (Int32.ofNat j1)), .val (.int (Int32.ofNat j2)), .val (.int u0), .val (.int u1), .val (.int u2), .val (.int n1), .val (.int sc), .val (.int v0), .val (.int v1), .val (.int v2), .val (.int n2), .val (.ref x118), .val (.ref x122), .unset, .unset, .unset] [])) (fun t k => XS.icmpYes Xr122.here hx rfl (pc0 := 210) (pc' := 220) rfl (hb hby at_210) rfl (tlt h210).1 (by decide) (by decide) k) ?_
          refine Go.st (T' := T122.setTop (mkF m 222 #[.val (.int p1), .val (.int p2), .val (.int p3), .val (.int p4), .val (.int p5), .val (.int p6), .val (.int (Int32.ofNat j1)), .val (.int (Int32.ofNat j2)), .val (.int u0), .val (.int u1), .val (.int u2), .val (.int n1), .val (.int sc), .val (.int v0), .val (.int v1), .val (.int v2), .val (.int n2), .val (.ref x118), .val (.ref x122), .unset, .unset, .unset] [(.int n1)])) (fun t k => XS.iload Xr122.here hx rfl (hb hby at_220) rfl k) ?_
          refine Go.st (T' := T122.setTop (mkF m 223 #[.val (.int p1), .val (.int p2), .val (.int p3), .val (.int p4), .val (.int p5), .val (.int p6), .val (.int (Int32.ofNat j1)), .val (.int (Int32.ofNat j2)), .val (.int u0), .val (.int u1), .val (.int u2), .val (.int n1), .val (.int sc), .val (.int v0), .val (.int v1), .val (.int v2), .val (.int n2), .val (.ref x118), .val (.ref x122), .unset, .unset, .unset] [(.int (3 : Int32)), (.int n1)])) (fun t k => XS.iconst Xr122.here hx rfl (hb hby at_222) k) ?_
          by_cases h223 : n1 < (3 : Int32)
          ·
            refine Go.st (T' := T122.setTop (mkF m 233 #[.val (.int p1), .val (.int p2), .val (.int p3), .val (.int p4), .val (.int p5), .val (.int p6), .val (.int (Int32.ofNat j1)), .val (.int (Int32.ofNat j2)), .val (.int u0), .val (.int u1), .val (.int u2), .val (.int n1), .val (.int sc), .val (.int v0), .val (.int v1), .val (.int v2), .val (.int n2), .val (.ref x118), .val (.ref x122), .unset, .unset, .unset] [])) (fun t k => XS.icmpYes Xr122.here hx rfl (pc0 := 223) (pc' := 233) rfl (hb hby at_223) rfl (tlt h223).1 (by decide) (by decide) k) ?_
            refine Go.st (T' := T122.setTop (mkF m 234 #[.val (.int p1), .val (.int p2), .val (.int p3), .val (.int p4), .val (.int p5), .val (.int p6), .val (.int (Int32.ofNat j1)), .val (.int (Int32.ofNat j2)), .val (.int u0), .val (.int u1), .val (.int u2), .val (.int n1), .val (.int sc), .val (.int v0), .val (.int v1), .val (.int v2), .val (.int n2), .val (.ref x118), .val (.ref x122), .unset, .unset, .unset] [(.int (1 : Int32))])) (fun t k => XS.iconst Xr122.here hx rfl (hb hby at_233) k) ?_
            refine Go.st (T' := T122.setTop (mkF m 238 #[.val (.int p1), .val (.int p2), .val (.int p3), .val (.int p4), .val (.int p5), .val (.int p6), .val (.int (Int32.ofNat j1)), .val (.int (Int32.ofNat j2)), .val (.int u0), .val (.int u1), .val (.int u2), .val (.int n1), .val (.int sc), .val (.int v0), .val (.int v1), .val (.int v2), .val (.int n2), .val (.ref x118), .val (.ref x122), .unset, .unset, .unset] [(.int (1 : Int32))])) (fun t k => XS.goto Xr122.here hx rfl (pc0 := 234) (pc' := 238) rfl (hb hby at_234) (by decide) (by decide) k) ?_
            exact Jt9 _ (Or.inl ⟨rfl, (own_eq Hn1 h_n2).mp ⟨h191, (by first | exact Or.inl h197 | exact Or.inr h204), (by first | exact Or.inl h210 | exact Or.inr h217), (by first | exact Or.inl h223 | exact Or.inr h230)⟩⟩)
          ·
            refine Go.st (T' := T122.setTop (mkF m 226 #[.val (.int p1), .val (.int p2), .val (.int p3), .val (.int p4), .val (.int p5), .val (.int p6), .val (.int (Int32.ofNat j1)), .val (.int (Int32.ofNat j2)), .val (.int u0), .val (.int u1), .val (.int u2), .val (.int n1), .val (.int sc), .val (.int v0), .val (.int v1), .val (.int v2), .val (.int n2), .val (.ref x118), .val (.ref x122), .unset, .unset, .unset] [])) (fun t k => XS.icmpNo Xr122.here hx rfl (hb hby at_223) rfl (flt h223).1 k) ?_
            refine Go.st (T' := T122.setTop (mkF m 228 #[.val (.int p1), .val (.int p2), .val (.int p3), .val (.int p4), .val (.int p5), .val (.int p6), .val (.int (Int32.ofNat j1)), .val (.int (Int32.ofNat j2)), .val (.int u0), .val (.int u1), .val (.int u2), .val (.int n1), .val (.int sc), .val (.int v0), .val (.int v1), .val (.int v2), .val (.int n2), .val (.ref x118), .val (.ref x122), .unset, .unset, .unset] [(.int u2)])) (fun t k => XS.iload Xr122.here hx rfl (hb hby at_226) rfl k) ?_
            refine Go.st (T' := T122.setTop (mkF m 230 #[.val (.int p1), .val (.int p2), .val (.int p3), .val (.int p4), .val (.int p5), .val (.int p6), .val (.int (Int32.ofNat j1)), .val (.int (Int32.ofNat j2)), .val (.int u0), .val (.int u1), .val (.int u2), .val (.int n1), .val (.int sc), .val (.int v0), .val (.int v1), .val (.int v2), .val (.int n2), .val (.ref x118), .val (.ref x122), .unset, .unset, .unset] [(.int v2), (.int u2)])) (fun t k => XS.iload Xr122.here hx rfl (hb hby at_228) rfl k) ?_
            by_cases h230 : u2 = v2
            ·
              refine Go.st (T' := T122.setTop (mkF m 233 #[.val (.int p1), .val (.int p2), .val (.int p3), .val (.int p4), .val (.int p5), .val (.int p6), .val (.int (Int32.ofNat j1)), .val (.int (Int32.ofNat j2)), .val (.int u0), .val (.int u1), .val (.int u2), .val (.int n1), .val (.int sc), .val (.int v0), .val (.int v1), .val (.int v2), .val (.int n2), .val (.ref x118), .val (.ref x122), .unset, .unset, .unset] [])) (fun t k => XS.icmpNo Xr122.here hx rfl (hb hby at_230) rfl (teq h230).2 k) ?_
              refine Go.st (T' := T122.setTop (mkF m 234 #[.val (.int p1), .val (.int p2), .val (.int p3), .val (.int p4), .val (.int p5), .val (.int p6), .val (.int (Int32.ofNat j1)), .val (.int (Int32.ofNat j2)), .val (.int u0), .val (.int u1), .val (.int u2), .val (.int n1), .val (.int sc), .val (.int v0), .val (.int v1), .val (.int v2), .val (.int n2), .val (.ref x118), .val (.ref x122), .unset, .unset, .unset] [(.int (1 : Int32))])) (fun t k => XS.iconst Xr122.here hx rfl (hb hby at_233) k) ?_
              refine Go.st (T' := T122.setTop (mkF m 238 #[.val (.int p1), .val (.int p2), .val (.int p3), .val (.int p4), .val (.int p5), .val (.int p6), .val (.int (Int32.ofNat j1)), .val (.int (Int32.ofNat j2)), .val (.int u0), .val (.int u1), .val (.int u2), .val (.int n1), .val (.int sc), .val (.int v0), .val (.int v1), .val (.int v2), .val (.int n2), .val (.ref x118), .val (.ref x122), .unset, .unset, .unset] [(.int (1 : Int32))])) (fun t k => XS.goto Xr122.here hx rfl (pc0 := 234) (pc' := 238) rfl (hb hby at_234) (by decide) (by decide) k) ?_
              exact Jt9 _ (Or.inl ⟨rfl, (own_eq Hn1 h_n2).mp ⟨h191, (by first | exact Or.inl h197 | exact Or.inr h204), (by first | exact Or.inl h210 | exact Or.inr h217), (by first | exact Or.inl h223 | exact Or.inr h230)⟩⟩)
            ·
              refine Go.st (T' := T122.setTop (mkF m 237 #[.val (.int p1), .val (.int p2), .val (.int p3), .val (.int p4), .val (.int p5), .val (.int p6), .val (.int (Int32.ofNat j1)), .val (.int (Int32.ofNat j2)), .val (.int u0), .val (.int u1), .val (.int u2), .val (.int n1), .val (.int sc), .val (.int v0), .val (.int v1), .val (.int v2), .val (.int n2), .val (.ref x118), .val (.ref x122), .unset, .unset, .unset] [])) (fun t k => XS.icmpYes Xr122.here hx rfl (pc0 := 230) (pc' := 237) rfl (hb hby at_230) rfl (feq h230).2 (by decide) (by decide) k) ?_
              refine Go.st (T' := T122.setTop (mkF m 238 #[.val (.int p1), .val (.int p2), .val (.int p3), .val (.int p4), .val (.int p5), .val (.int p6), .val (.int (Int32.ofNat j1)), .val (.int (Int32.ofNat j2)), .val (.int u0), .val (.int u1), .val (.int u2), .val (.int n1), .val (.int sc), .val (.int v0), .val (.int v1), .val (.int v2), .val (.int n2), .val (.ref x118), .val (.ref x122), .unset, .unset, .unset] [(.int (0 : Int32))])) (fun t k => XS.iconst Xr122.here hx rfl (hb hby at_237) k) ?_
              exact Jt9 _ (Or.inr ⟨rfl, fun q => by
                obtain ⟨q1, q2, q3, q4⟩ := (own_eq Hn1 h_n2).mpr q
                first | exact h191 q1 | (rcases q2 with z | z <;> first | exact h197 z | exact h204 z) | (rcases q3 with z | z <;> first | exact h210 z | exact h217 z) | (rcases q4 with z | z <;> first | exact h223 z | exact h230 z)⟩)
        ·
          refine Go.st (T' := T122.setTop (mkF m 213 #[.val (.int p1), .val (.int p2), .val (.int p3), .val (.int p4), .val (.int p5), .val (.int p6), .val (.int (Int32.ofNat j1)), .val (.int (Int32.ofNat j2)), .val (.int u0), .val (.int u1), .val (.int u2), .val (.int n1), .val (.int sc), .val (.int v0), .val (.int v1), .val (.int v2), .val (.int n2), .val (.ref x118), .val (.ref x122), .unset, .unset, .unset] [])) (fun t k => XS.icmpNo Xr122.here hx rfl (hb hby at_210) rfl (flt h210).1 k) ?_
          refine Go.st (T' := T122.setTop (mkF m 215 #[.val (.int p1), .val (.int p2), .val (.int p3), .val (.int p4), .val (.int p5), .val (.int p6), .val (.int (Int32.ofNat j1)), .val (.int (Int32.ofNat j2)), .val (.int u0), .val (.int u1), .val (.int u2), .val (.int n1), .val (.int sc), .val (.int v0), .val (.int v1), .val (.int v2), .val (.int n2), .val (.ref x118), .val (.ref x122), .unset, .unset, .unset] [(.int u1)])) (fun t k => XS.iload Xr122.here hx rfl (hb hby at_213) rfl k) ?_
          refine Go.st (T' := T122.setTop (mkF m 217 #[.val (.int p1), .val (.int p2), .val (.int p3), .val (.int p4), .val (.int p5), .val (.int p6), .val (.int (Int32.ofNat j1)), .val (.int (Int32.ofNat j2)), .val (.int u0), .val (.int u1), .val (.int u2), .val (.int n1), .val (.int sc), .val (.int v0), .val (.int v1), .val (.int v2), .val (.int n2), .val (.ref x118), .val (.ref x122), .unset, .unset, .unset] [(.int v1), (.int u1)])) (fun t k => XS.iload Xr122.here hx rfl (hb hby at_215) rfl k) ?_
          by_cases h217 : u1 = v1
          ·
            refine Go.st (T' := T122.setTop (mkF m 220 #[.val (.int p1), .val (.int p2), .val (.int p3), .val (.int p4), .val (.int p5), .val (.int p6), .val (.int (Int32.ofNat j1)), .val (.int (Int32.ofNat j2)), .val (.int u0), .val (.int u1), .val (.int u2), .val (.int n1), .val (.int sc), .val (.int v0), .val (.int v1), .val (.int v2), .val (.int n2), .val (.ref x118), .val (.ref x122), .unset, .unset, .unset] [])) (fun t k => XS.icmpNo Xr122.here hx rfl (hb hby at_217) rfl (teq h217).2 k) ?_
            refine Go.st (T' := T122.setTop (mkF m 222 #[.val (.int p1), .val (.int p2), .val (.int p3), .val (.int p4), .val (.int p5), .val (.int p6), .val (.int (Int32.ofNat j1)), .val (.int (Int32.ofNat j2)), .val (.int u0), .val (.int u1), .val (.int u2), .val (.int n1), .val (.int sc), .val (.int v0), .val (.int v1), .val (.int v2), .val (.int n2), .val (.ref x118), .val (.ref x122), .unset, .unset, .unset] [(.int n1)])) (fun t k => XS.iload Xr122.here hx rfl (hb hby at_220) rfl k) ?_
            refine Go.st (T' := T122.setTop (mkF m 223 #[.val (.int p1), .val (.int p2), .val (.int p3), .val (.int p4), .val (.int p5), .val (.int p6), .val (.int (Int32.ofNat j1)), .val (.int (Int32.ofNat j2)), .val (.int u0), .val (.int u1), .val (.int u2), .val (.int n1), .val (.int sc), .val (.int v0), .val (.int v1), .val (.int v2), .val (.int n2), .val (.ref x118), .val (.ref x122), .unset, .unset, .unset] [(.int (3 : Int32)), (.int n1)])) (fun t k => XS.iconst Xr122.here hx rfl (hb hby at_222) k) ?_
            by_cases h223 : n1 < (3 : Int32)
            ·
              refine Go.st (T' := T122.setTop (mkF m 233 #[.val (.int p1), .val (.int p2), .val (.int p3), .val (.int p4), .val (.int p5), .val (.int p6), .val (.int (Int32.ofNat j1)), .val (.int (Int32.ofNat j2)), .val (.int u0), .val (.int u1), .val (.int u2), .val (.int n1), .val (.int sc), .val (.int v0), .val (.int v1), .val (.int v2), .val (.int n2), .val (.ref x118), .val (.ref x122), .unset, .unset, .unset] [])) (fun t k => XS.icmpYes Xr122.here hx rfl (pc0 := 223) (pc' := 233) rfl (hb hby at_223) rfl (tlt h223).1 (by decide) (by decide) k) ?_
              refine Go.st (T' := T122.setTop (mkF m 234 #[.val (.int p1), .val (.int p2), .val (.int p3), .val (.int p4), .val (.int p5), .val (.int p6), .val (.int (Int32.ofNat j1)), .val (.int (Int32.ofNat j2)), .val (.int u0), .val (.int u1), .val (.int u2), .val (.int n1), .val (.int sc), .val (.int v0), .val (.int v1), .val (.int v2), .val (.int n2), .val (.ref x118), .val (.ref x122), .unset, .unset, .unset] [(.int (1 : Int32))])) (fun t k => XS.iconst Xr122.here hx rfl (hb hby at_233) k) ?_
              refine Go.st (T' := T122.setTop (mkF m 238 #[.val (.int p1), .val (.int p2), .val (.int p3), .val (.int p4), .val (.int p5), .val (.int p6), .val (.int (Int32.ofNat j1)), .val (.int (Int32.ofNat j2)), .val (.int u0), .val (.int u1), .val (.int u2), .val (.int n1), .val (.int sc), .val (.int v0), .val (.int v1), .val (.int v2), .val (.int n2), .val (.ref x118), .val (.ref x122), .unset, .unset, .unset] [(.int (1 : Int32))])) (fun t k => XS.goto Xr122.here hx rfl (pc0 := 234) (pc' := 238) rfl (hb hby at_234) (by decide) (by decide) k) ?_
              exact Jt9 _ (Or.inl ⟨rfl, (own_eq Hn1 h_n2).mp ⟨h191, (by first | exact Or.inl h197 | exact Or.inr h204), (by first | exact Or.inl h210 | exact Or.inr h217), (by first | exact Or.inl h223 | exact Or.inr h230)⟩⟩)
            ·
              refine Go.st (T' := T122.setTop (mkF m 226 #[.val (.int p1), .val (.int p2), .val (.int p3), .val (.int p4), .val (.int p5), .val (.int p6), .val (.int (Int32.ofNat j1)), .val (.int (Int32.ofNat j2)), .val (.int u0), .val (.int u1), .val (.int u2), .val (.int n1), .val (.int sc), .val (.int v0), .val (.int v1), .val (.int v2), .val (.int n2), .val (.ref x118), .val (.ref x122), .unset, .unset, .unset] [])) (fun t k => XS.icmpNo Xr122.here hx rfl (hb hby at_223) rfl (flt h223).1 k) ?_
              refine Go.st (T' := T122.setTop (mkF m 228 #[.val (.int p1), .val (.int p2), .val (.int p3), .val (.int p4), .val (.int p5), .val (.int p6), .val (.int (Int32.ofNat j1)), .val (.int (Int32.ofNat j2)), .val (.int u0), .val (.int u1), .val (.int u2), .val (.int n1), .val (.int sc), .val (.int v0), .val (.int v1), .val (.int v2), .val (.int n2), .val (.ref x118), .val (.ref x122), .unset, .unset, .unset] [(.int u2)])) (fun t k => XS.iload Xr122.here hx rfl (hb hby at_226) rfl k) ?_
              refine Go.st (T' := T122.setTop (mkF m 230 #[.val (.int p1), .val (.int p2), .val (.int p3), .val (.int p4), .val (.int p5), .val (.int p6), .val (.int (Int32.ofNat j1)), .val (.int (Int32.ofNat j2)), .val (.int u0), .val (.int u1), .val (.int u2), .val (.int n1), .val (.int sc), .val (.int v0), .val (.int v1), .val (.int v2), .val (.int n2), .val (.ref x118), .val (.ref x122), .unset, .unset, .unset] [(.int v2), (.int u2)])) (fun t k => XS.iload Xr122.here hx rfl (hb hby at_228) rfl k) ?_
              by_cases h230 : u2 = v2
              ·
                refine Go.st (T' := T122.setTop (mkF m 233 #[.val (.int p1), .val (.int p2), .val (.int p3), .val (.int p4), .val (.int p5), .val (.int p6), .val (.int (Int32.ofNat j1)), .val (.int (Int32.ofNat j2)), .val (.int u0), .val (.int u1), .val (.int u2), .val (.int n1), .val (.int sc), .val (.int v0), .val (.int v1), .val (.int v2), .val (.int n2), .val (.ref x118), .val (.ref x122), .unset, .unset, .unset] [])) (fun t k => XS.icmpNo Xr122.here hx rfl (hb hby at_230) rfl (teq h230).2 k) ?_
                refine Go.st (T' := T122.setTop (mkF m 234 #[.val (.int p1), .val (.int p2), .val (.int p3), .val (.int p4), .val (.int p5), .val (.int p6), .val (.int (Int32.ofNat j1)), .val (.int (Int32.ofNat j2)), .val (.int u0), .val (.int u1), .val (.int u2), .val (.int n1), .val (.int sc), .val (.int v0), .val (.int v1), .val (.int v2), .val (.int n2), .val (.ref x118), .val (.ref x122), .unset, .unset, .unset] [(.int (1 : Int32))])) (fun t k => XS.iconst Xr122.here hx rfl (hb hby at_233) k) ?_
                refine Go.st (T' := T122.setTop (mkF m 238 #[.val (.int p1), .val (.int p2), .val (.int p3), .val (.int p4), .val (.int p5), .val (.int p6), .val (.int (Int32.ofNat j1)), .val (.int (Int32.ofNat j2)), .val (.int u0), .val (.int u1), .val (.int u2), .val (.int n1), .val (.int sc), .val (.int v0), .val (.int v1), .val (.int v2), .val (.int n2), .val (.ref x118), .val (.ref x122), .unset, .unset, .unset] [(.int (1 : Int32))])) (fun t k => XS.goto Xr122.here hx rfl (pc0 := 234) (pc' := 238) rfl (hb hby at_234) (by decide) (by decide) k) ?_
                exact Jt9 _ (Or.inl ⟨rfl, (own_eq Hn1 h_n2).mp ⟨h191, (by first | exact Or.inl h197 | exact Or.inr h204), (by first | exact Or.inl h210 | exact Or.inr h217), (by first | exact Or.inl h223 | exact Or.inr h230)⟩⟩)
              ·
                refine Go.st (T' := T122.setTop (mkF m 237 #[.val (.int p1), .val (.int p2), .val (.int p3), .val (.int p4), .val (.int p5), .val (.int p6), .val (.int (Int32.ofNat j1)), .val (.int (Int32.ofNat j2)), .val (.int u0), .val (.int u1), .val (.int u2), .val (.int n1), .val (.int sc), .val (.int v0), .val (.int v1), .val (.int v2), .val (.int n2), .val (.ref x118), .val (.ref x122), .unset, .unset, .unset] [])) (fun t k => XS.icmpYes Xr122.here hx rfl (pc0 := 230) (pc' := 237) rfl (hb hby at_230) rfl (feq h230).2 (by decide) (by decide) k) ?_
                refine Go.st (T' := T122.setTop (mkF m 238 #[.val (.int p1), .val (.int p2), .val (.int p3), .val (.int p4), .val (.int p5), .val (.int p6), .val (.int (Int32.ofNat j1)), .val (.int (Int32.ofNat j2)), .val (.int u0), .val (.int u1), .val (.int u2), .val (.int n1), .val (.int sc), .val (.int v0), .val (.int v1), .val (.int v2), .val (.int n2), .val (.ref x118), .val (.ref x122), .unset, .unset, .unset] [(.int (0 : Int32))])) (fun t k => XS.iconst Xr122.here hx rfl (hb hby at_237) k) ?_
                exact Jt9 _ (Or.inr ⟨rfl, fun q => by
                  obtain ⟨q1, q2, q3, q4⟩ := (own_eq Hn1 h_n2).mpr q
                  first | exact h191 q1 | (rcases q2 with z | z <;> first | exact h197 z | exact h204 z) | (rcases q3 with z | z <;> first | exact h210 z | exact h217 z) | (rcases q4 with z | z <;> first | exact h223 z | exact h230 z)⟩)
          ·
            refine Go.st (T' := T122.setTop (mkF m 237 #[.val (.int p1), .val (.int p2), .val (.int p3), .val (.int p4), .val (.int p5), .val (.int p6), .val (.int (Int32.ofNat j1)), .val (.int (Int32.ofNat j2)), .val (.int u0), .val (.int u1), .val (.int u2), .val (.int n1), .val (.int sc), .val (.int v0), .val (.int v1), .val (.int v2), .val (.int n2), .val (.ref x118), .val (.ref x122), .unset, .unset, .unset] [])) (fun t k => XS.icmpYes Xr122.here hx rfl (pc0 := 217) (pc' := 237) rfl (hb hby at_217) rfl (feq h217).2 (by decide) (by decide) k) ?_
            refine Go.st (T' := T122.setTop (mkF m 238 #[.val (.int p1), .val (.int p2), .val (.int p3), .val (.int p4), .val (.int p5), .val (.int p6), .val (.int (Int32.ofNat j1)), .val (.int (Int32.ofNat j2)), .val (.int u0), .val (.int u1), .val (.int u2), .val (.int n1), .val (.int sc), .val (.int v0), .val (.int v1), .val (.int v2), .val (.int n2), .val (.ref x118), .val (.ref x122), .unset, .unset, .unset] [(.int (0 : Int32))])) (fun t k => XS.iconst Xr122.here hx rfl (hb hby at_237) k) ?_
            exact Jt9 _ (Or.inr ⟨rfl, fun q => by
              obtain ⟨q1, q2, q3, q4⟩ := (own_eq Hn1 h_n2).mpr q
              first | exact h191 q1 | (rcases q2 with z | z <;> first | exact h197 z | exact h204 z) | (rcases q3 with z | z <;> first | exact h210 z | exact h217 z) | (rcases q4 with z | z <;> first | exact h223 z | exact h230 z)⟩)
      ·
        refine Go.st (T' := T122.setTop (mkF m 200 #[.val (.int p1), .val (.int p2), .val (.int p3), .val (.int p4), .val (.int p5), .val (.int p6), .val (.int (Int32.ofNat j1)), .val (.int (Int32.ofNat j2)), .val (.int u0), .val (.int u1), .val (.int u2), .val (.int n1), .val (.int sc), .val (.int v0), .val (.int v1), .val (.int v2), .val (.int n2), .val (.ref x118), .val (.ref x122), .unset, .unset, .unset] [])) (fun t k => XS.icmpNo Xr122.here hx rfl (hb hby at_197) rfl (flt h197).1 k) ?_
        refine Go.st (T' := T122.setTop (mkF m 202 #[.val (.int p1), .val (.int p2), .val (.int p3), .val (.int p4), .val (.int p5), .val (.int p6), .val (.int (Int32.ofNat j1)), .val (.int (Int32.ofNat j2)), .val (.int u0), .val (.int u1), .val (.int u2), .val (.int n1), .val (.int sc), .val (.int v0), .val (.int v1), .val (.int v2), .val (.int n2), .val (.ref x118), .val (.ref x122), .unset, .unset, .unset] [(.int u0)])) (fun t k => XS.iload Xr122.here hx rfl (hb hby at_200) rfl k) ?_
        refine Go.st (T' := T122.setTop (mkF m 204 #[.val (.int p1), .val (.int p2), .val (.int p3), .val (.int p4), .val (.int p5), .val (.int p6), .val (.int (Int32.ofNat j1)), .val (.int (Int32.ofNat j2)), .val (.int u0), .val (.int u1), .val (.int u2), .val (.int n1), .val (.int sc), .val (.int v0), .val (.int v1), .val (.int v2), .val (.int n2), .val (.ref x118), .val (.ref x122), .unset, .unset, .unset] [(.int v0), (.int u0)])) (fun t k => XS.iload Xr122.here hx rfl (hb hby at_202) rfl k) ?_
        by_cases h204 : u0 = v0
        ·
          refine Go.st (T' := T122.setTop (mkF m 207 #[.val (.int p1), .val (.int p2), .val (.int p3), .val (.int p4), .val (.int p5), .val (.int p6), .val (.int (Int32.ofNat j1)), .val (.int (Int32.ofNat j2)), .val (.int u0), .val (.int u1), .val (.int u2), .val (.int n1), .val (.int sc), .val (.int v0), .val (.int v1), .val (.int v2), .val (.int n2), .val (.ref x118), .val (.ref x122), .unset, .unset, .unset] [])) (fun t k => XS.icmpNo Xr122.here hx rfl (hb hby at_204) rfl (teq h204).2 k) ?_
          refine Go.st (T' := T122.setTop (mkF m 209 #[.val (.int p1), .val (.int p2), .val (.int p3), .val (.int p4), .val (.int p5), .val (.int p6), .val (.int (Int32.ofNat j1)), .val (.int (Int32.ofNat j2)), .val (.int u0), .val (.int u1), .val (.int u2), .val (.int n1), .val (.int sc), .val (.int v0), .val (.int v1), .val (.int v2), .val (.int n2), .val (.ref x118), .val (.ref x122), .unset, .unset, .unset] [(.int n1)])) (fun t k => XS.iload Xr122.here hx rfl (hb hby at_207) rfl k) ?_
          refine Go.st (T' := T122.setTop (mkF m 210 #[.val (.int p1), .val (.int p2), .val (.int p3), .val (.int p4), .val (.int p5), .val (.int p6), .val (.int (Int32.ofNat j1)), .val (.int (Int32.ofNat j2)), .val (.int u0), .val (.int u1), .val (.int u2), .val (.int n1), .val (.int sc), .val (.int v0), .val (.int v1), .val (.int v2), .val (.int n2), .val (.ref x118), .val (.ref x122), .unset, .unset, .unset] [(.int (2 : Int32)), (.int n1)])) (fun t k => XS.iconst Xr122.here hx rfl (hb hby at_209) k) ?_
          by_cases h210 : n1 < (2 : Int32)
          ·
            refine Go.st (T' := T122.setTop (mkF m 220 #[.val (.int p1), .val (.int p2), .val (.int p3), .val (.int p4), .val (.int p5), .val (.int p6), .val (.int (Int32.ofNat j1)), .val (.int (Int32.ofNat j2)), .val (.int u0), .val (.int u1), .val (.int u2), .val (.int n1), .val (.int sc), .val (.int v0), .val (.int v1), .val (.int v2), .val (.int n2), .val (.ref x118), .val (.ref x122), .unset, .unset, .unset] [])) (fun t k => XS.icmpYes Xr122.here hx rfl (pc0 := 210) (pc' := 220) rfl (hb hby at_210) rfl (tlt h210).1 (by decide) (by decide) k) ?_
            refine Go.st (T' := T122.setTop (mkF m 222 #[.val (.int p1), .val (.int p2), .val (.int p3), .val (.int p4), .val (.int p5), .val (.int p6), .val (.int (Int32.ofNat j1)), .val (.int (Int32.ofNat j2)), .val (.int u0), .val (.int u1), .val (.int u2), .val (.int n1), .val (.int sc), .val (.int v0), .val (.int v1), .val (.int v2), .val (.int n2), .val (.ref x118), .val (.ref x122), .unset, .unset, .unset] [(.int n1)])) (fun t k => XS.iload Xr122.here hx rfl (hb hby at_220) rfl k) ?_
            refine Go.st (T' := T122.setTop (mkF m 223 #[.val (.int p1), .val (.int p2), .val (.int p3), .val (.int p4), .val (.int p5), .val (.int p6), .val (.int (Int32.ofNat j1)), .val (.int (Int32.ofNat j2)), .val (.int u0), .val (.int u1), .val (.int u2), .val (.int n1), .val (.int sc), .val (.int v0), .val (.int v1), .val (.int v2), .val (.int n2), .val (.ref x118), .val (.ref x122), .unset, .unset, .unset] [(.int (3 : Int32)), (.int n1)])) (fun t k => XS.iconst Xr122.here hx rfl (hb hby at_222) k) ?_
            by_cases h223 : n1 < (3 : Int32)
            ·
              refine Go.st (T' := T122.setTop (mkF m 233 #[.val (.int p1), .val (.int p2), .val (.int p3), .val (.int p4), .val (.int p5), .val (.int p6), .val (.int (Int32.ofNat j1)), .val (.int (Int32.ofNat j2)), .val (.int u0), .val (.int u1), .val (.int u2), .val (.int n1), .val (.int sc), .val (.int v0), .val (.int v1), .val (.int v2), .val (.int n2), .val (.ref x118), .val (.ref x122), .unset, .unset, .unset] [])) (fun t k => XS.icmpYes Xr122.here hx rfl (pc0 := 223) (pc' := 233) rfl (hb hby at_223) rfl (tlt h223).1 (by decide) (by decide) k) ?_
              refine Go.st (T' := T122.setTop (mkF m 234 #[.val (.int p1), .val (.int p2), .val (.int p3), .val (.int p4), .val (.int p5), .val (.int p6), .val (.int (Int32.ofNat j1)), .val (.int (Int32.ofNat j2)), .val (.int u0), .val (.int u1), .val (.int u2), .val (.int n1), .val (.int sc), .val (.int v0), .val (.int v1), .val (.int v2), .val (.int n2), .val (.ref x118), .val (.ref x122), .unset, .unset, .unset] [(.int (1 : Int32))])) (fun t k => XS.iconst Xr122.here hx rfl (hb hby at_233) k) ?_
              refine Go.st (T' := T122.setTop (mkF m 238 #[.val (.int p1), .val (.int p2), .val (.int p3), .val (.int p4), .val (.int p5), .val (.int p6), .val (.int (Int32.ofNat j1)), .val (.int (Int32.ofNat j2)), .val (.int u0), .val (.int u1), .val (.int u2), .val (.int n1), .val (.int sc), .val (.int v0), .val (.int v1), .val (.int v2), .val (.int n2), .val (.ref x118), .val (.ref x122), .unset, .unset, .unset] [(.int (1 : Int32))])) (fun t k => XS.goto Xr122.here hx rfl (pc0 := 234) (pc' := 238) rfl (hb hby at_234) (by decide) (by decide) k) ?_
              exact Jt9 _ (Or.inl ⟨rfl, (own_eq Hn1 h_n2).mp ⟨h191, (by first | exact Or.inl h197 | exact Or.inr h204), (by first | exact Or.inl h210 | exact Or.inr h217), (by first | exact Or.inl h223 | exact Or.inr h230)⟩⟩)
            ·
              refine Go.st (T' := T122.setTop (mkF m 226 #[.val (.int p1), .val (.int p2), .val (.int p3), .val (.int p4), .val (.int p5), .val (.int p6), .val (.int (Int32.ofNat j1)), .val (.int (Int32.ofNat j2)), .val (.int u0), .val (.int u1), .val (.int u2), .val (.int n1), .val (.int sc), .val (.int v0), .val (.int v1), .val (.int v2), .val (.int n2), .val (.ref x118), .val (.ref x122), .unset, .unset, .unset] [])) (fun t k => XS.icmpNo Xr122.here hx rfl (hb hby at_223) rfl (flt h223).1 k) ?_
              refine Go.st (T' := T122.setTop (mkF m 228 #[.val (.int p1), .val (.int p2), .val (.int p3), .val (.int p4), .val (.int p5), .val (.int p6), .val (.int (Int32.ofNat j1)), .val (.int (Int32.ofNat j2)), .val (.int u0), .val (.int u1), .val (.int u2), .val (.int n1), .val (.int sc), .val (.int v0), .val (.int v1), .val (.int v2), .val (.int n2), .val (.ref x118), .val (.ref x122), .unset, .unset, .unset] [(.int u2)])) (fun t k => XS.iload Xr122.here hx rfl (hb hby at_226) rfl k) ?_
              refine Go.st (T' := T122.setTop (mkF m 230 #[.val (.int p1), .val (.int p2), .val (.int p3), .val (.int p4), .val (.int p5), .val (.int p6), .val (.int (Int32.ofNat j1)), .val (.int (Int32.ofNat j2)), .val (.int u0), .val (.int u1), .val (.int u2), .val (.int n1), .val (.int sc), .val (.int v0), .val (.int v1), .val (.int v2), .val (.int n2), .val (.ref x118), .val (.ref x122), .unset, .unset, .unset] [(.int v2), (.int u2)])) (fun t k => XS.iload Xr122.here hx rfl (hb hby at_228) rfl k) ?_
              by_cases h230 : u2 = v2
              ·
                refine Go.st (T' := T122.setTop (mkF m 233 #[.val (.int p1), .val (.int p2), .val (.int p3), .val (.int p4), .val (.int p5), .val (.int p6), .val (.int (Int32.ofNat j1)), .val (.int (Int32.ofNat j2)), .val (.int u0), .val (.int u1), .val (.int u2), .val (.int n1), .val (.int sc), .val (.int v0), .val (.int v1), .val (.int v2), .val (.int n2), .val (.ref x118), .val (.ref x122), .unset, .unset, .unset] [])) (fun t k => XS.icmpNo Xr122.here hx rfl (hb hby at_230) rfl (teq h230).2 k) ?_
                refine Go.st (T' := T122.setTop (mkF m 234 #[.val (.int p1), .val (.int p2), .val (.int p3), .val (.int p4), .val (.int p5), .val (.int p6), .val (.int (Int32.ofNat j1)), .val (.int (Int32.ofNat j2)), .val (.int u0), .val (.int u1), .val (.int u2), .val (.int n1), .val (.int sc), .val (.int v0), .val (.int v1), .val (.int v2), .val (.int n2), .val (.ref x118), .val (.ref x122), .unset, .unset, .unset] [(.int (1 : Int32))])) (fun t k => XS.iconst Xr122.here hx rfl (hb hby at_233) k) ?_
                refine Go.st (T' := T122.setTop (mkF m 238 #[.val (.int p1), .val (.int p2), .val (.int p3), .val (.int p4), .val (.int p5), .val (.int p6), .val (.int (Int32.ofNat j1)), .val (.int (Int32.ofNat j2)), .val (.int u0), .val (.int u1), .val (.int u2), .val (.int n1), .val (.int sc), .val (.int v0), .val (.int v1), .val (.int v2), .val (.int n2), .val (.ref x118), .val (.ref x122), .unset, .unset, .unset] [(.int (1 : Int32))])) (fun t k => XS.goto Xr122.here hx rfl (pc0 := 234) (pc' := 238) rfl (hb hby at_234) (by decide) (by decide) k) ?_
                exact Jt9 _ (Or.inl ⟨rfl, (own_eq Hn1 h_n2).mp ⟨h191, (by first | exact Or.inl h197 | exact Or.inr h204), (by first | exact Or.inl h210 | exact Or.inr h217), (by first | exact Or.inl h223 | exact Or.inr h230)⟩⟩)
              ·
                refine Go.st (T' := T122.setTop (mkF m 237 #[.val (.int p1), .val (.int p2), .val (.int p3), .val (.int p4), .val (.int p5), .val (.int p6), .val (.int (Int32.ofNat j1)), .val (.int (Int32.ofNat j2)), .val (.int u0), .val (.int u1), .val (.int u2), .val (.int n1), .val (.int sc), .val (.int v0), .val (.int v1), .val (.int v2), .val (.int n2), .val (.ref x118), .val (.ref x122), .unset, .unset, .unset] [])) (fun t k => XS.icmpYes Xr122.here hx rfl (pc0 := 230) (pc' := 237) rfl (hb hby at_230) rfl (feq h230).2 (by decide) (by decide) k) ?_
                refine Go.st (T' := T122.setTop (mkF m 238 #[.val (.int p1), .val (.int p2), .val (.int p3), .val (.int p4), .val (.int p5), .val (.int p6), .val (.int (Int32.ofNat j1)), .val (.int (Int32.ofNat j2)), .val (.int u0), .val (.int u1), .val (.int u2), .val (.int n1), .val (.int sc), .val (.int v0), .val (.int v1), .val (.int v2), .val (.int n2), .val (.ref x118), .val (.ref x122), .unset, .unset, .unset] [(.int (0 : Int32))])) (fun t k => XS.iconst Xr122.here hx rfl (hb hby at_237) k) ?_
                exact Jt9 _ (Or.inr ⟨rfl, fun q => by
                  obtain ⟨q1, q2, q3, q4⟩ := (own_eq Hn1 h_n2).mpr q
                  first | exact h191 q1 | (rcases q2 with z | z <;> first | exact h197 z | exact h204 z) | (rcases q3 with z | z <;> first | exact h210 z | exact h217 z) | (rcases q4 with z | z <;> first | exact h223 z | exact h230 z)⟩)
          ·
            refine Go.st (T' := T122.setTop (mkF m 213 #[.val (.int p1), .val (.int p2), .val (.int p3), .val (.int p4), .val (.int p5), .val (.int p6), .val (.int (Int32.ofNat j1)), .val (.int (Int32.ofNat j2)), .val (.int u0), .val (.int u1), .val (.int u2), .val (.int n1), .val (.int sc), .val (.int v0), .val (.int v1), .val (.int v2), .val (.int n2), .val (.ref x118), .val (.ref x122), .unset, .unset, .unset] [])) (fun t k => XS.icmpNo Xr122.here hx rfl (hb hby at_210) rfl (flt h210).1 k) ?_
            refine Go.st (T' := T122.setTop (mkF m 215 #[.val (.int p1), .val (.int p2), .val (.int p3), .val (.int p4), .val (.int p5), .val (.int p6), .val (.int (Int32.ofNat j1)), .val (.int (Int32.ofNat j2)), .val (.int u0), .val (.int u1), .val (.int u2), .val (.int n1), .val (.int sc), .val (.int v0), .val (.int v1), .val (.int v2), .val (.int n2), .val (.ref x118), .val (.ref x122), .unset, .unset, .unset] [(.int u1)])) (fun t k => XS.iload Xr122.here hx rfl (hb hby at_213) rfl k) ?_
            refine Go.st (T' := T122.setTop (mkF m 217 #[.val (.int p1), .val (.int p2), .val (.int p3), .val (.int p4), .val (.int p5), .val (.int p6), .val (.int (Int32.ofNat j1)), .val (.int (Int32.ofNat j2)), .val (.int u0), .val (.int u1), .val (.int u2), .val (.int n1), .val (.int sc), .val (.int v0), .val (.int v1), .val (.int v2), .val (.int n2), .val (.ref x118), .val (.ref x122), .unset, .unset, .unset] [(.int v1), (.int u1)])) (fun t k => XS.iload Xr122.here hx rfl (hb hby at_215) rfl k) ?_
            by_cases h217 : u1 = v1
            ·
              refine Go.st (T' := T122.setTop (mkF m 220 #[.val (.int p1), .val (.int p2), .val (.int p3), .val (.int p4), .val (.int p5), .val (.int p6), .val (.int (Int32.ofNat j1)), .val (.int (Int32.ofNat j2)), .val (.int u0), .val (.int u1), .val (.int u2), .val (.int n1), .val (.int sc), .val (.int v0), .val (.int v1), .val (.int v2), .val (.int n2), .val (.ref x118), .val (.ref x122), .unset, .unset, .unset] [])) (fun t k => XS.icmpNo Xr122.here hx rfl (hb hby at_217) rfl (teq h217).2 k) ?_
              refine Go.st (T' := T122.setTop (mkF m 222 #[.val (.int p1), .val (.int p2), .val (.int p3), .val (.int p4), .val (.int p5), .val (.int p6), .val (.int (Int32.ofNat j1)), .val (.int (Int32.ofNat j2)), .val (.int u0), .val (.int u1), .val (.int u2), .val (.int n1), .val (.int sc), .val (.int v0), .val (.int v1), .val (.int v2), .val (.int n2), .val (.ref x118), .val (.ref x122), .unset, .unset, .unset] [(.int n1)])) (fun t k => XS.iload Xr122.here hx rfl (hb hby at_220) rfl k) ?_
              refine Go.st (T' := T122.setTop (mkF m 223 #[.val (.int p1), .val (.int p2), .val (.int p3), .val (.int p4), .val (.int p5), .val (.int p6), .val (.int (Int32.ofNat j1)), .val (.int (Int32.ofNat j2)), .val (.int u0), .val (.int u1), .val (.int u2), .val (.int n1), .val (.int sc), .val (.int v0), .val (.int v1), .val (.int v2), .val (.int n2), .val (.ref x118), .val (.ref x122), .unset, .unset, .unset] [(.int (3 : Int32)), (.int n1)])) (fun t k => XS.iconst Xr122.here hx rfl (hb hby at_222) k) ?_
              by_cases h223 : n1 < (3 : Int32)
              ·
                refine Go.st (T' := T122.setTop (mkF m 233 #[.val (.int p1), .val (.int p2), .val (.int p3), .val (.int p4), .val (.int p5), .val (.int p6), .val (.int (Int32.ofNat j1)), .val (.int (Int32.ofNat j2)), .val (.int u0), .val (.int u1), .val (.int u2), .val (.int n1), .val (.int sc), .val (.int v0), .val (.int v1), .val (.int v2), .val (.int n2), .val (.ref x118), .val (.ref x122), .unset, .unset, .unset] [])) (fun t k => XS.icmpYes Xr122.here hx rfl (pc0 := 223) (pc' := 233) rfl (hb hby at_223) rfl (tlt h223).1 (by decide) (by decide) k) ?_
                refine Go.st (T' := T122.setTop (mkF m 234 #[.val (.int p1), .val (.int p2), .val (.int p3), .val (.int p4), .val (.int p5), .val (.int p6), .val (.int (Int32.ofNat j1)), .val (.int (Int32.ofNat j2)), .val (.int u0), .val (.int u1), .val (.int u2), .val (.int n1), .val (.int sc), .val (.int v0), .val (.int v1), .val (.int v2), .val (.int n2), .val (.ref x118), .val (.ref x122), .unset, .unset, .unset] [(.int (1 : Int32))])) (fun t k => XS.iconst Xr122.here hx rfl (hb hby at_233) k) ?_
                refine Go.st (T' := T122.setTop (mkF m 238 #[.val (.int p1), .val (.int p2), .val (.int p3), .val (.int p4), .val (.int p5), .val (.int p6), .val (.int (Int32.ofNat j1)), .val (.int (Int32.ofNat j2)), .val (.int u0), .val (.int u1), .val (.int u2), .val (.int n1), .val (.int sc), .val (.int v0), .val (.int v1), .val (.int v2), .val (.int n2), .val (.ref x118), .val (.ref x122), .unset, .unset, .unset] [(.int (1 : Int32))])) (fun t k => XS.goto Xr122.here hx rfl (pc0 := 234) (pc' := 238) rfl (hb hby at_234) (by decide) (by decide) k) ?_
                exact Jt9 _ (Or.inl ⟨rfl, (own_eq Hn1 h_n2).mp ⟨h191, (by first | exact Or.inl h197 | exact Or.inr h204), (by first | exact Or.inl h210 | exact Or.inr h217), (by first | exact Or.inl h223 | exact Or.inr h230)⟩⟩)
              ·
                refine Go.st (T' := T122.setTop (mkF m 226 #[.val (.int p1), .val (.int p2), .val (.int p3), .val (.int p4), .val (.int p5), .val (.int p6), .val (.int (Int32.ofNat j1)), .val (.int (Int32.ofNat j2)), .val (.int u0), .val (.int u1), .val (.int u2), .val (.int n1), .val (.int sc), .val (.int v0), .val (.int v1), .val (.int v2), .val (.int n2), .val (.ref x118), .val (.ref x122), .unset, .unset, .unset] [])) (fun t k => XS.icmpNo Xr122.here hx rfl (hb hby at_223) rfl (flt h223).1 k) ?_
                refine Go.st (T' := T122.setTop (mkF m 228 #[.val (.int p1), .val (.int p2), .val (.int p3), .val (.int p4), .val (.int p5), .val (.int p6), .val (.int (Int32.ofNat j1)), .val (.int (Int32.ofNat j2)), .val (.int u0), .val (.int u1), .val (.int u2), .val (.int n1), .val (.int sc), .val (.int v0), .val (.int v1), .val (.int v2), .val (.int n2), .val (.ref x118), .val (.ref x122), .unset, .unset, .unset] [(.int u2)])) (fun t k => XS.iload Xr122.here hx rfl (hb hby at_226) rfl k) ?_
                refine Go.st (T' := T122.setTop (mkF m 230 #[.val (.int p1), .val (.int p2), .val (.int p3), .val (.int p4), .val (.int p5), .val (.int p6), .val (.int (Int32.ofNat j1)), .val (.int (Int32.ofNat j2)), .val (.int u0), .val (.int u1), .val (.int u2), .val (.int n1), .val (.int sc), .val (.int v0), .val (.int v1), .val (.int v2), .val (.int n2), .val (.ref x118), .val (.ref x122), .unset, .unset, .unset] [(.int v2), (.int u2)])) (fun t k => XS.iload Xr122.here hx rfl (hb hby at_228) rfl k) ?_
                by_cases h230 : u2 = v2
                ·
                  refine Go.st (T' := T122.setTop (mkF m 233 #[.val (.int p1), .val (.int p2), .val (.int p3), .val (.int p4), .val (.int p5), .val (.int p6), .val (.int (Int32.ofNat j1)), .val (.int (Int32.ofNat j2)), .val (.int u0), .val (.int u1), .val (.int u2), .val (.int n1), .val (.int sc), .val (.int v0), .val (.int v1), .val (.int v2), .val (.int n2), .val (.ref x118), .val (.ref x122), .unset, .unset, .unset] [])) (fun t k => XS.icmpNo Xr122.here hx rfl (hb hby at_230) rfl (teq h230).2 k) ?_
                  refine Go.st (T' := T122.setTop (mkF m 234 #[.val (.int p1), .val (.int p2), .val (.int p3), .val (.int p4), .val (.int p5), .val (.int p6), .val (.int (Int32.ofNat j1)), .val (.int (Int32.ofNat j2)), .val (.int u0), .val (.int u1), .val (.int u2), .val (.int n1), .val (.int sc), .val (.int v0), .val (.int v1), .val (.int v2), .val (.int n2), .val (.ref x118), .val (.ref x122), .unset, .unset, .unset] [(.int (1 : Int32))])) (fun t k => XS.iconst Xr122.here hx rfl (hb hby at_233) k) ?_
                  refine Go.st (T' := T122.setTop (mkF m 238 #[.val (.int p1), .val (.int p2), .val (.int p3), .val (.int p4), .val (.int p5), .val (.int p6), .val (.int (Int32.ofNat j1)), .val (.int (Int32.ofNat j2)), .val (.int u0), .val (.int u1), .val (.int u2), .val (.int n1), .val (.int sc), .val (.int v0), .val (.int v1), .val (.int v2), .val (.int n2), .val (.ref x118), .val (.ref x122), .unset, .unset, .unset] [(.int (1 : Int32))])) (fun t k => XS.goto Xr122.here hx rfl (pc0 := 234) (pc' := 238) rfl (hb hby at_234) (by decide) (by decide) k) ?_
                  exact Jt9 _ (Or.inl ⟨rfl, (own_eq Hn1 h_n2).mp ⟨h191, (by first | exact Or.inl h197 | exact Or.inr h204), (by first | exact Or.inl h210 | exact Or.inr h217), (by first | exact Or.inl h223 | exact Or.inr h230)⟩⟩)
                ·
                  refine Go.st (T' := T122.setTop (mkF m 237 #[.val (.int p1), .val (.int p2), .val (.int p3), .val (.int p4), .val (.int p5), .val (.int p6), .val (.int (Int32.ofNat j1)), .val (.int (Int32.ofNat j2)), .val (.int u0), .val (.int u1), .val (.int u2), .val (.int n1), .val (.int sc), .val (.int v0), .val (.int v1), .val (.int v2), .val (.int n2), .val (.ref x118), .val (.ref x122), .unset, .unset, .unset] [])) (fun t k => XS.icmpYes Xr122.here hx rfl (pc0 := 230) (pc' := 237) rfl (hb hby at_230) rfl (feq h230).2 (by decide) (by decide) k) ?_
                  refine Go.st (T' := T122.setTop (mkF m 238 #[.val (.int p1), .val (.int p2), .val (.int p3), .val (.int p4), .val (.int p5), .val (.int p6), .val (.int (Int32.ofNat j1)), .val (.int (Int32.ofNat j2)), .val (.int u0), .val (.int u1), .val (.int u2), .val (.int n1), .val (.int sc), .val (.int v0), .val (.int v1), .val (.int v2), .val (.int n2), .val (.ref x118), .val (.ref x122), .unset, .unset, .unset] [(.int (0 : Int32))])) (fun t k => XS.iconst Xr122.here hx rfl (hb hby at_237) k) ?_
                  exact Jt9 _ (Or.inr ⟨rfl, fun q => by
                    obtain ⟨q1, q2, q3, q4⟩ := (own_eq Hn1 h_n2).mpr q
                    first | exact h191 q1 | (rcases q2 with z | z <;> first | exact h197 z | exact h204 z) | (rcases q3 with z | z <;> first | exact h210 z | exact h217 z) | (rcases q4 with z | z <;> first | exact h223 z | exact h230 z)⟩)
            ·
              refine Go.st (T' := T122.setTop (mkF m 237 #[.val (.int p1), .val (.int p2), .val (.int p3), .val (.int p4), .val (.int p5), .val (.int p6), .val (.int (Int32.ofNat j1)), .val (.int (Int32.ofNat j2)), .val (.int u0), .val (.int u1), .val (.int u2), .val (.int n1), .val (.int sc), .val (.int v0), .val (.int v1), .val (.int v2), .val (.int n2), .val (.ref x118), .val (.ref x122), .unset, .unset, .unset] [])) (fun t k => XS.icmpYes Xr122.here hx rfl (pc0 := 217) (pc' := 237) rfl (hb hby at_217) rfl (feq h217).2 (by decide) (by decide) k) ?_
              refine Go.st (T' := T122.setTop (mkF m 238 #[.val (.int p1), .val (.int p2), .val (.int p3), .val (.int p4), .val (.int p5), .val (.int p6), .val (.int (Int32.ofNat j1)), .val (.int (Int32.ofNat j2)), .val (.int u0), .val (.int u1), .val (.int u2), .val (.int n1), .val (.int sc), .val (.int v0), .val (.int v1), .val (.int v2), .val (.int n2), .val (.ref x118), .val (.ref x122), .unset, .unset, .unset] [(.int (0 : Int32))])) (fun t k => XS.iconst Xr122.here hx rfl (hb hby at_237) k) ?_
              exact Jt9 _ (Or.inr ⟨rfl, fun q => by
                obtain ⟨q1, q2, q3, q4⟩ := (own_eq Hn1 h_n2).mpr q
                first | exact h191 q1 | (rcases q2 with z | z <;> first | exact h197 z | exact h204 z) | (rcases q3 with z | z <;> first | exact h210 z | exact h217 z) | (rcases q4 with z | z <;> first | exact h223 z | exact h230 z)⟩)
        ·
          refine Go.st (T' := T122.setTop (mkF m 237 #[.val (.int p1), .val (.int p2), .val (.int p3), .val (.int p4), .val (.int p5), .val (.int p6), .val (.int (Int32.ofNat j1)), .val (.int (Int32.ofNat j2)), .val (.int u0), .val (.int u1), .val (.int u2), .val (.int n1), .val (.int sc), .val (.int v0), .val (.int v1), .val (.int v2), .val (.int n2), .val (.ref x118), .val (.ref x122), .unset, .unset, .unset] [])) (fun t k => XS.icmpYes Xr122.here hx rfl (pc0 := 204) (pc' := 237) rfl (hb hby at_204) rfl (feq h204).2 (by decide) (by decide) k) ?_
          refine Go.st (T' := T122.setTop (mkF m 238 #[.val (.int p1), .val (.int p2), .val (.int p3), .val (.int p4), .val (.int p5), .val (.int p6), .val (.int (Int32.ofNat j1)), .val (.int (Int32.ofNat j2)), .val (.int u0), .val (.int u1), .val (.int u2), .val (.int n1), .val (.int sc), .val (.int v0), .val (.int v1), .val (.int v2), .val (.int n2), .val (.ref x118), .val (.ref x122), .unset, .unset, .unset] [(.int (0 : Int32))])) (fun t k => XS.iconst Xr122.here hx rfl (hb hby at_237) k) ?_
          exact Jt9 _ (Or.inr ⟨rfl, fun q => by
            obtain ⟨q1, q2, q3, q4⟩ := (own_eq Hn1 h_n2).mpr q
            first | exact h191 q1 | (rcases q2 with z | z <;> first | exact h197 z | exact h204 z) | (rcases q3 with z | z <;> first | exact h210 z | exact h217 z) | (rcases q4 with z | z <;> first | exact h223 z | exact h230 z)⟩)
    ·
      refine Go.st (T' := T122.setTop (mkF m 237 #[.val (.int p1), .val (.int p2), .val (.int p3), .val (.int p4), .val (.int p5), .val (.int p6), .val (.int (Int32.ofNat j1)), .val (.int (Int32.ofNat j2)), .val (.int u0), .val (.int u1), .val (.int u2), .val (.int n1), .val (.int sc), .val (.int v0), .val (.int v1), .val (.int v2), .val (.int n2), .val (.ref x118), .val (.ref x122), .unset, .unset, .unset] [])) (fun t k => XS.icmpYes Xr122.here hx rfl (pc0 := 191) (pc' := 237) rfl (hb hby at_191) rfl (feq h191).2 (by decide) (by decide) k) ?_
      refine Go.st (T' := T122.setTop (mkF m 238 #[.val (.int p1), .val (.int p2), .val (.int p3), .val (.int p4), .val (.int p5), .val (.int p6), .val (.int (Int32.ofNat j1)), .val (.int (Int32.ofNat j2)), .val (.int u0), .val (.int u1), .val (.int u2), .val (.int n1), .val (.int sc), .val (.int v0), .val (.int v1), .val (.int v2), .val (.int n2), .val (.ref x118), .val (.ref x122), .unset, .unset, .unset] [(.int (0 : Int32))])) (fun t k => XS.iconst Xr122.here hx rfl (hb hby at_237) k) ?_
      exact Jt9 _ (Or.inr ⟨rfl, fun q => by
        obtain ⟨q1, q2, q3, q4⟩ := (own_eq Hn1 h_n2).mpr q
        first | exact h191 q1 | (rcases q2 with z | z <;> first | exact h197 z | exact h204 z) | (rcases q3 with z | z <;> first | exact h210 z | exact h217 z) | (rcases q4 with z | z <;> first | exact h223 z | exact h230 z)⟩)
  intro t9 h_t9
  refine Go.st (T' := T122.setTop (mkF m 240 #[.val (.int p1), .val (.int p2), .val (.int p3), .val (.int p4), .val (.int p5), .val (.int p6), .val (.int (Int32.ofNat j1)), .val (.int (Int32.ofNat j2)), .val (.int u0), .val (.int u1), .val (.int u2), .val (.int n1), .val (.int sc), .val (.int v0), .val (.int v1), .val (.int v2), .val (.int n2), .val (.ref x118), .val (.ref x122), .val (.int t9), .unset, .unset] [])) (fun t k => XS.istore Xr122.here hx rfl (hb hby at_238) rfl (l' := #[.val (.int p1), .val (.int p2), .val (.int p3), .val (.int p4), .val (.int p5), .val (.int p6), .val (.int (Int32.ofNat j1)), .val (.int (Int32.ofNat j2)), .val (.int u0), .val (.int u1), .val (.int u2), .val (.int n1), .val (.int sc), .val (.int v0), .val (.int v1), .val (.int v2), .val (.int n2), .val (.ref x118), .val (.ref x122), .val (.int t9), .unset, .unset]) rfl k) ?_
  refine Go.st (T' := T122.setTop (mkF m 242 #[.val (.int p1), .val (.int p2), .val (.int p3), .val (.int p4), .val (.int p5), .val (.int p6), .val (.int (Int32.ofNat j1)), .val (.int (Int32.ofNat j2)), .val (.int u0), .val (.int u1), .val (.int u2), .val (.int n1), .val (.int sc), .val (.int v0), .val (.int v1), .val (.int v2), .val (.int n2), .val (.ref x118), .val (.ref x122), .val (.int t9), .unset, .unset] [(.int (Int32.ofNat j1))])) (fun t k => XS.iload Xr122.here hx rfl (hb hby at_240) rfl k) ?_
  refine Go.st (T' := T122.setTop (mkF m 244 #[.val (.int p1), .val (.int p2), .val (.int p3), .val (.int p4), .val (.int p5), .val (.int p6), .val (.int (Int32.ofNat j1)), .val (.int (Int32.ofNat j2)), .val (.int u0), .val (.int u1), .val (.int u2), .val (.int n1), .val (.int sc), .val (.int v0), .val (.int v1), .val (.int v2), .val (.int n2), .val (.ref x118), .val (.ref x122), .val (.int t9), .unset, .unset] [(.int (Int32.ofNat j2)), (.int (Int32.ofNat j1))])) (fun t k => XS.iload Xr122.here hx rfl (hb hby at_242) rfl k) ?_
  suffices Jex : ∀ ex : Int32, ((ex = 1 ∧ j1 = j2 ∧ (own_str n1 u0 u1 u2) = (own_str n2 v0 v1 v2)) ∨ (ex = 0 ∧ ¬ (j1 = j2 ∧ (own_str n1 u0 u1 u2) = (own_str n2 v0 v1 v2)))) → Go p e below (T122.setTop (mkF m 257 #[.val (.int p1), .val (.int p2), .val (.int p3), .val (.int p4), .val (.int p5), .val (.int p6), .val (.int (Int32.ofNat j1)), .val (.int (Int32.ofNat j2)), .val (.int u0), .val (.int u1), .val (.int u2), .val (.int n1), .val (.int sc), .val (.int v0), .val (.int v1), .val (.int v2), .val (.int n2), .val (.ref x118), .val (.ref x122), .val (.int t9), .unset, .unset] [(.int ex)])) (EndH Z EL s (Q_rm0 Z p1 p2 p3 p4 p5 p6 d h0 n0) room_1.cells room_1.slots) by
    by_cases h244 : (Int32.ofNat j1) = (Int32.ofNat j2)
    ·
      refine Go.st (T' := T122.setTop (mkF m 247 #[.val (.int p1), .val (.int p2), .val (.int p3), .val (.int p4), .val (.int p5), .val (.int p6), .val (.int (Int32.ofNat j1)), .val (.int (Int32.ofNat j2)), .val (.int u0), .val (.int u1), .val (.int u2), .val (.int n1), .val (.int sc), .val (.int v0), .val (.int v1), .val (.int v2), .val (.int n2), .val (.ref x118), .val (.ref x122), .val (.int t9), .unset, .unset] [])) (fun t k => XS.icmpNo Xr122.here hx rfl (hb hby at_244) rfl (teq h244).2 k) ?_
      refine Go.st (T' := T122.setTop (mkF m 249 #[.val (.int p1), .val (.int p2), .val (.int p3), .val (.int p4), .val (.int p5), .val (.int p6), .val (.int (Int32.ofNat j1)), .val (.int (Int32.ofNat j2)), .val (.int u0), .val (.int u1), .val (.int u2), .val (.int n1), .val (.int sc), .val (.int v0), .val (.int v1), .val (.int v2), .val (.int n2), .val (.ref x118), .val (.ref x122), .val (.int t9), .unset, .unset] [(.int t9)])) (fun t k => XS.iload Xr122.here hx rfl (hb hby at_247) rfl k) ?_
      by_cases h249 : t9 = (0 : Int32)
      ·
        refine Go.st (T' := T122.setTop (mkF m 256 #[.val (.int p1), .val (.int p2), .val (.int p3), .val (.int p4), .val (.int p5), .val (.int p6), .val (.int (Int32.ofNat j1)), .val (.int (Int32.ofNat j2)), .val (.int u0), .val (.int u1), .val (.int u2), .val (.int n1), .val (.int sc), .val (.int v0), .val (.int v1), .val (.int v2), .val (.int n2), .val (.ref x118), .val (.ref x122), .val (.int t9), .unset, .unset] [])) (fun t k => XS.ifYes Xr122.here hx rfl (pc0 := 249) (pc' := 256) rfl (hb hby at_249) rfl ((if0 _ _).trans (teq h249).1) (by decide) (by decide) k) ?_
        refine Go.st (T' := T122.setTop (mkF m 257 #[.val (.int p1), .val (.int p2), .val (.int p3), .val (.int p4), .val (.int p5), .val (.int p6), .val (.int (Int32.ofNat j1)), .val (.int (Int32.ofNat j2)), .val (.int u0), .val (.int u1), .val (.int u2), .val (.int n1), .val (.int sc), .val (.int v0), .val (.int v1), .val (.int v2), .val (.int n2), .val (.ref x118), .val (.ref x122), .val (.int t9), .unset, .unset] [(.int (0 : Int32))])) (fun t k => XS.iconst Xr122.here hx rfl (hb hby at_256) k) ?_
        exact Jex _ (Or.inr ⟨rfl, fun q => by first | exact h244 (congrArg Int32.ofNat q.1) | exact h_t9.elim (fun z => absurd (z.1.symm.trans h249) (by decide)) (fun z => z.2 q.2)⟩)
      ·
        refine Go.st (T' := T122.setTop (mkF m 252 #[.val (.int p1), .val (.int p2), .val (.int p3), .val (.int p4), .val (.int p5), .val (.int p6), .val (.int (Int32.ofNat j1)), .val (.int (Int32.ofNat j2)), .val (.int u0), .val (.int u1), .val (.int u2), .val (.int n1), .val (.int sc), .val (.int v0), .val (.int v1), .val (.int v2), .val (.int n2), .val (.ref x118), .val (.ref x122), .val (.int t9), .unset, .unset] [])) (fun t k => XS.ifNo Xr122.here hx rfl (hb hby at_249) rfl ((if0 _ _).trans (feq h249).1) k) ?_
        refine Go.st (T' := T122.setTop (mkF m 253 #[.val (.int p1), .val (.int p2), .val (.int p3), .val (.int p4), .val (.int p5), .val (.int p6), .val (.int (Int32.ofNat j1)), .val (.int (Int32.ofNat j2)), .val (.int u0), .val (.int u1), .val (.int u2), .val (.int n1), .val (.int sc), .val (.int v0), .val (.int v1), .val (.int v2), .val (.int n2), .val (.ref x118), .val (.ref x122), .val (.int t9), .unset, .unset] [(.int (1 : Int32))])) (fun t k => XS.iconst Xr122.here hx rfl (hb hby at_252) k) ?_
        refine Go.st (T' := T122.setTop (mkF m 257 #[.val (.int p1), .val (.int p2), .val (.int p3), .val (.int p4), .val (.int p5), .val (.int p6), .val (.int (Int32.ofNat j1)), .val (.int (Int32.ofNat j2)), .val (.int u0), .val (.int u1), .val (.int u2), .val (.int n1), .val (.int sc), .val (.int v0), .val (.int v1), .val (.int v2), .val (.int n2), .val (.ref x118), .val (.ref x122), .val (.int t9), .unset, .unset] [(.int (1 : Int32))])) (fun t k => XS.goto Xr122.here hx rfl (pc0 := 253) (pc' := 257) rfl (hb hby at_253) (by decide) (by decide) k) ?_
        exact Jex _ (Or.inl ⟨rfl, own_jj hj1' hj2' h244, h_t9.elim (fun q => q.2) (fun q => absurd q.1 h249)⟩)
    ·
      refine Go.st (T' := T122.setTop (mkF m 256 #[.val (.int p1), .val (.int p2), .val (.int p3), .val (.int p4), .val (.int p5), .val (.int p6), .val (.int (Int32.ofNat j1)), .val (.int (Int32.ofNat j2)), .val (.int u0), .val (.int u1), .val (.int u2), .val (.int n1), .val (.int sc), .val (.int v0), .val (.int v1), .val (.int v2), .val (.int n2), .val (.ref x118), .val (.ref x122), .val (.int t9), .unset, .unset] [])) (fun t k => XS.icmpYes Xr122.here hx rfl (pc0 := 244) (pc' := 256) rfl (hb hby at_244) rfl (feq h244).2 (by decide) (by decide) k) ?_
      refine Go.st (T' := T122.setTop (mkF m 257 #[.val (.int p1), .val (.int p2), .val (.int p3), .val (.int p4), .val (.int p5), .val (.int p6), .val (.int (Int32.ofNat j1)), .val (.int (Int32.ofNat j2)), .val (.int u0), .val (.int u1), .val (.int u2), .val (.int n1), .val (.int sc), .val (.int v0), .val (.int v1), .val (.int v2), .val (.int n2), .val (.ref x118), .val (.ref x122), .val (.int t9), .unset, .unset] [(.int (0 : Int32))])) (fun t k => XS.iconst Xr122.here hx rfl (hb hby at_256) k) ?_
      exact Jex _ (Or.inr ⟨rfl, fun q => by first | exact h244 (congrArg Int32.ofNat q.1) | exact h_t9.elim (fun z => absurd (z.1.symm.trans h249) (by decide)) (fun z => z.2 q.2)⟩)
  intro ex h_ex
  refine Go.st (T' := T122.setTop (mkF m 259 #[.val (.int p1), .val (.int p2), .val (.int p3), .val (.int p4), .val (.int p5), .val (.int p6), .val (.int (Int32.ofNat j1)), .val (.int (Int32.ofNat j2)), .val (.int u0), .val (.int u1), .val (.int u2), .val (.int n1), .val (.int sc), .val (.int v0), .val (.int v1), .val (.int v2), .val (.int n2), .val (.ref x118), .val (.ref x122), .val (.int t9), .val (.int ex), .unset] [])) (fun t k => XS.istore Xr122.here hx rfl (hb hby at_257) rfl (l' := #[.val (.int p1), .val (.int p2), .val (.int p3), .val (.int p4), .val (.int p5), .val (.int p6), .val (.int (Int32.ofNat j1)), .val (.int (Int32.ofNat j2)), .val (.int u0), .val (.int u1), .val (.int u2), .val (.int n1), .val (.int sc), .val (.int v0), .val (.int v1), .val (.int v2), .val (.int n2), .val (.ref x118), .val (.ref x122), .val (.int t9), .val (.int ex), .unset]) rfl k) ?_
  obtain ⟨T126, h126, X126, e126, E126, A126, D126, -, st126⟩ := newO Xr122 hx hZr122 hor122 (hw _ (List.mem_of_getElem? (i := 27) rfl)) (hw _ (List.mem_of_getElem? (i := 28) rfl)) (hw _ (List.mem_of_getElem? (i := 29) rfl)) rfl (g := (mkF m 259 #[.val (.int p1), .val (.int p2), .val (.int p3), .val (.int p4), .val (.int p5), .val (.int p6), .val (.int (Int32.ofNat j1)), .val (.int (Int32.ofNat j2)), .val (.int u0), .val (.int u1), .val (.int u2), .val (.int n1), .val (.int sc), .val (.int v0), .val (.int v1), .val (.int v2), .val (.int n2), .val (.ref x118), .val (.ref x122), .val (.int t9), .val (.int ex), .unset] [])) rfl (hb hby at_259) (by decide) (by decide)
  obtain ⟨b126, g126⟩ : ∃ z, z = T122.heap.size := ⟨_, rfl⟩
  rw [← g126] at A126 D126 st126
  have g_b126 : n0 ≤ b126 := Nat.le_trans (Nat.le_trans Z0 KK124.1) (Nat.le_of_eq g126.symm)
  have sz_b126 : h0.size ≤ b126 := Nat.le_trans KK124.1 (Nat.le_of_eq g126.symm)
  have f127 : Exa Z T122.heap x118 "java/lang/String" := (Eq118.keep Kq122)
  have ne128 : x118 ≠ b126 := Nat.ne_of_lt (Nat.lt_of_lt_of_le f127.lt (Nat.le_of_eq g126.symm))
  have f129 : Arv Z T122.heap t118 kb118 .byte (Int32.ofNat (own_str n1 u0 u1 u2).length) (((own_str n1 u0 u1 u2).map (fun c => c.toInt8.toInt32)).map Value.int) (.int (0 : Int32)) := (Bq118.keep Kq122 nin0)
  have ne130 : t118 ≠ b126 := Nat.ne_of_lt (Nat.lt_of_lt_of_le f129.lt (Nat.le_of_eq g126.symm))
  have ne131 : x122 ≠ b126 := Nat.ne_of_lt (Nat.lt_of_lt_of_le Eq122.lt (Nat.le_of_eq g126.symm))
  have ne132 : t122 ≠ b126 := Nat.ne_of_lt (Nat.lt_of_lt_of_le Bq122.lt (Nat.le_of_eq g126.symm))
  have C133 : CHr Z EL s.vm h0 T122.vm h126 := C123.trans (CHr.ext E126 C123.1)
  have K126 : Keep h0 h126 [] := KK124.ext E126
  have Fn126_kind : Fld Z h126 b126 "com/example/pass3/pass3/Token" "kind" "Lcom/example/pass3/pass3/Token$Kind;" .null := D126 (Or.inr (hw _ (List.mem_of_getElem? (i := 57) rfl))) (ty := (.object "com/example/pass3/pass3/Token$Kind")) (by decide)
  have Fn126_text : Fld Z h126 b126 "com/example/pass3/pass3/Token" "text" "Ljava/lang/String;" .null := D126 (Or.inr (hw _ (List.mem_of_getElem? (i := 59) rfl))) (ty := (.object "java/lang/String")) (by decide)
  have Fn126_position : Fld Z h126 b126 "com/example/pass3/pass3/Token" "position" "Lcom/example/pass3/pass3/Position;" .null := D126 (Or.inr (hw _ (List.mem_of_getElem? (i := 61) rfl))) (ty := (.object "com/example/pass3/pass3/Position")) (by decide)
  refine Go.st (T' := T126.setTop (mkF m 262 #[.val (.int p1), .val (.int p2), .val (.int p3), .val (.int p4), .val (.int p5), .val (.int p6), .val (.int (Int32.ofNat j1)), .val (.int (Int32.ofNat j2)), .val (.int u0), .val (.int u1), .val (.int u2), .val (.int n1), .val (.int sc), .val (.int v0), .val (.int v1), .val (.int v2), .val (.int n2), .val (.ref x118), .val (.ref x122), .val (.int t9), .val (.int ex), .unset] [(.ref b126)])) (fun t k => st126 t k) ?_
  refine Go.st (T' := T126.setTop (mkF m 263 #[.val (.int p1), .val (.int p2), .val (.int p3), .val (.int p4), .val (.int p5), .val (.int p6), .val (.int (Int32.ofNat j1)), .val (.int (Int32.ofNat j2)), .val (.int u0), .val (.int u1), .val (.int u2), .val (.int n1), .val (.int sc), .val (.int v0), .val (.int v1), .val (.int v2), .val (.int n2), .val (.ref x118), .val (.ref x122), .val (.int t9), .val (.int ex), .unset] [(.ref b126), (.ref b126)])) (fun t k => XS.dup X126.here hx rfl (hb hby at_262) rfl rfl k) ?_
  refine Go.st (T' := T126.setTop (mkF m 265 #[.val (.int p1), .val (.int p2), .val (.int p3), .val (.int p4), .val (.int p5), .val (.int p6), .val (.int (Int32.ofNat j1)), .val (.int (Int32.ofNat j2)), .val (.int u0), .val (.int u1), .val (.int u2), .val (.int n1), .val (.int sc), .val (.int v0), .val (.int v1), .val (.int v2), .val (.int n2), .val (.ref x118), .val (.ref x122), .val (.int t9), .val (.int ex), .unset] [(.int (Int32.ofNat j1)), (.ref b126), (.ref b126)])) (fun t k => XS.iload X126.here hx rfl (hb hby at_263) rfl k) ?_
  obtain ⟨vr134, _, ⟨T134, L134, k134, n134⟩, -, X134, ⟨Lc134, hQ134, l134, y134, z134⟩, st134⟩ := Jvm.LawKit.callS X126 hx (y := (⟨"com/example/pass3/pass3/TokenIsPinLaw", "kind", "(I)Lcom/example/pass3/pass3/Token$Kind;"⟩ : MethodName)) hor122 (mvT hZr122 (hw _ (List.mem_of_getElem? (i := 30) rfl))) (mvT hZr122 (hw _ (List.mem_of_getElem? (i := 31) rfl))) (mvT hZr122 (hw _ (List.mem_of_getElem? (i := 3) rfl))) (mvT hZr122 (hw _ (List.mem_of_getElem? (i := 32) rfl))) (by decide) (backOf (W := 2) (rmKind l Z a0 hw (Int32.ofNat j1) d h126 n0 (Nat.le_trans Z0 K126.1) (X00.keep K126 all0) S0 S1 S2 S3 S4 S5 S6 S7 S8 S9 S10) hZr122 (hw _ (List.mem_of_getElem? (i := 32) rfl)) (hw _ (List.mem_of_getElem? (i := 3) rfl)) (by decide) (by decide)) (g := (mkF m 265 #[.val (.int p1), .val (.int p2), .val (.int p3), .val (.int p4), .val (.int p5), .val (.int p6), .val (.int (Int32.ofNat j1)), .val (.int (Int32.ofNat j2)), .val (.int u0), .val (.int u1), .val (.int u2), .val (.int n1), .val (.int sc), .val (.int v0), .val (.int v1), .val (.int v2), .val (.int n2), .val (.ref x118), .val (.ref x122), .val (.int t9), .val (.int ex), .unset] [(.int (Int32.ofNat j1)), (.ref b126), (.ref b126)])) rfl (by rw [hml]; rfl) (argsL := [(.int (Int32.ofNat j1))]) (rest := [(.ref b126), (.ref b126)]) (lenOf pd_52f348a rfl) rfl (by show 2 * 0 + _ ≤ _; exact Nat.le_of_eq rfl) (hb hby at_265) (fun _ _ => ⟨rfl, e126, (by decide : 11 + 0 ≤ _), (by decide : 25 + 0 ≤ _)⟩)
  dsimp only [Pt.U, Pt.locs, Pt.cells, Pt.slots] at X134 l134 y134 z134 st134 hQ134
  subst l134 y134 z134
  obtain ⟨rfl, Nq134, eq134⟩ := hQ134
  have NN135 := Fr.app NN125 Nq134
  refine Go.st (T' := T134.setTop (mkF m 268 #[.val (.int p1), .val (.int p2), .val (.int p3), .val (.int p4), .val (.int p5), .val (.int p6), .val (.int (Int32.ofNat j1)), .val (.int (Int32.ofNat j2)), .val (.int u0), .val (.int u1), .val (.int u2), .val (.int n1), .val (.int sc), .val (.int v0), .val (.int v1), .val (.int v2), .val (.int n2), .val (.ref x118), .val (.ref x122), .val (.int t9), .val (.int ex), .unset] [(.ref (own_kd d (Int32.ofNat j1))), (.ref b126), (.ref b126)])) (fun t k => st134 t k) ?_
  rw [own_kdn d j1 hj1']
  refine Go.st (T' := T134.setTop (mkF m 270 #[.val (.int p1), .val (.int p2), .val (.int p3), .val (.int p4), .val (.int p5), .val (.int p6), .val (.int (Int32.ofNat j1)), .val (.int (Int32.ofNat j2)), .val (.int u0), .val (.int u1), .val (.int u2), .val (.int n1), .val (.int sc), .val (.int v0), .val (.int v1), .val (.int v2), .val (.int n2), .val (.ref x118), .val (.ref x122), .val (.int t9), .val (.int ex), .unset] [(.ref x118), (.ref (d j1)), (.ref b126), (.ref b126)])) (fun t k => XS.aload X134.here hx rfl (hb hby at_268) rfl rfl k) ?_
  obtain ⟨T136, h136, X136, e136, E136, A136, D136, -, st136⟩ := newO X134 hx hZr122 hor122 (hw _ (List.mem_of_getElem? (i := 36) rfl)) (hw _ (List.mem_of_getElem? (i := 37) rfl)) (hw _ (List.mem_of_getElem? (i := 38) rfl)) eq134 (g := (mkF m 270 #[.val (.int p1), .val (.int p2), .val (.int p3), .val (.int p4), .val (.int p5), .val (.int p6), .val (.int (Int32.ofNat j1)), .val (.int (Int32.ofNat j2)), .val (.int u0), .val (.int u1), .val (.int u2), .val (.int n1), .val (.int sc), .val (.int v0), .val (.int v1), .val (.int v2), .val (.int n2), .val (.ref x118), .val (.ref x122), .val (.int t9), .val (.int ex), .unset] [(.ref x118), (.ref (d j1)), (.ref b126), (.ref b126)])) rfl (hb hby at_270) (by decide) (by decide)
  obtain ⟨b136, g136⟩ : ∃ z, z = h126.size := ⟨_, rfl⟩
  rw [← g136] at A136 D136 st136
  have g_b136 : n0 ≤ b136 := Nat.le_trans (Nat.le_trans Z0 K126.1) (Nat.le_of_eq g136.symm)
  have sz_b136 : h0.size ≤ b136 := Nat.le_trans K126.1 (Nat.le_of_eq g136.symm)
  have f137 : Exa Z h126 x118 "java/lang/String" := (f127.ext E126)
  have ne138 : x118 ≠ b136 := Nat.ne_of_lt (Nat.lt_of_lt_of_le f137.lt (Nat.le_of_eq g136.symm))
  have f139 : Arv Z h126 t118 kb118 .byte (Int32.ofNat (own_str n1 u0 u1 u2).length) (((own_str n1 u0 u1 u2).map (fun c => c.toInt8.toInt32)).map Value.int) (.int (0 : Int32)) := (f129.ext E126)
  have ne140 : t118 ≠ b136 := Nat.ne_of_lt (Nat.lt_of_lt_of_le f139.lt (Nat.le_of_eq g136.symm))
  have f141 : Exa Z h126 x122 "java/lang/String" := (Eq122.ext E126)
  have ne142 : x122 ≠ b136 := Nat.ne_of_lt (Nat.lt_of_lt_of_le f141.lt (Nat.le_of_eq g136.symm))
  have f143 : Arv Z h126 t122 kb122 .byte (Int32.ofNat (own_str n2 v0 v1 v2).length) (((own_str n2 v0 v1 v2).map (fun c => c.toInt8.toInt32)).map Value.int) (.int (0 : Int32)) := (Bq122.ext E126)
  have ne144 : t122 ≠ b136 := Nat.ne_of_lt (Nat.lt_of_lt_of_le f143.lt (Nat.le_of_eq g136.symm))
  have ne145 : b126 ≠ b136 := Nat.ne_of_lt (Nat.lt_of_lt_of_le A126.lt (Nat.le_of_eq g136.symm))
  have C146 : CHr Z EL s.vm h0 T122.vm h136 := C133.trans (CHr.ext E136 C133.1)
  have K136 : Keep h0 h136 [] := K126.ext E136
  have Fn136_line : Fld Z h136 b136 "com/example/pass3/pass3/Position" "line" "I" (.int (0 : Int32)) := D136 (Or.inr (hw _ (List.mem_of_getElem? (i := 49) rfl))) (ty := .int) (by decide)
  have Fn136_column : Fld Z h136 b136 "com/example/pass3/pass3/Position" "column" "I" (.int (0 : Int32)) := D136 (Or.inr (hw _ (List.mem_of_getElem? (i := 51) rfl))) (ty := .int) (by decide)
  refine Go.st (T' := T136.setTop (mkF m 273 #[.val (.int p1), .val (.int p2), .val (.int p3), .val (.int p4), .val (.int p5), .val (.int p6), .val (.int (Int32.ofNat j1)), .val (.int (Int32.ofNat j2)), .val (.int u0), .val (.int u1), .val (.int u2), .val (.int n1), .val (.int sc), .val (.int v0), .val (.int v1), .val (.int v2), .val (.int n2), .val (.ref x118), .val (.ref x122), .val (.int t9), .val (.int ex), .unset] [(.ref b136), (.ref x118), (.ref (d j1)), (.ref b126), (.ref b126)])) (fun t k => st136 t k) ?_
  refine Go.st (T' := T136.setTop (mkF m 274 #[.val (.int p1), .val (.int p2), .val (.int p3), .val (.int p4), .val (.int p5), .val (.int p6), .val (.int (Int32.ofNat j1)), .val (.int (Int32.ofNat j2)), .val (.int u0), .val (.int u1), .val (.int u2), .val (.int n1), .val (.int sc), .val (.int v0), .val (.int v1), .val (.int v2), .val (.int n2), .val (.ref x118), .val (.ref x122), .val (.int t9), .val (.int ex), .unset] [(.ref b136), (.ref b136), (.ref x118), (.ref (d j1)), (.ref b126), (.ref b126)])) (fun t k => XS.dup X136.here hx rfl (hb hby at_273) rfl rfl k) ?_
  refine Go.st (T' := T136.setTop (mkF m 276 #[.val (.int p1), .val (.int p2), .val (.int p3), .val (.int p4), .val (.int p5), .val (.int p6), .val (.int (Int32.ofNat j1)), .val (.int (Int32.ofNat j2)), .val (.int u0), .val (.int u1), .val (.int u2), .val (.int n1), .val (.int sc), .val (.int v0), .val (.int v1), .val (.int v2), .val (.int n2), .val (.ref x118), .val (.ref x122), .val (.int t9), .val (.int ex), .unset] [(.int p5), (.ref b136), (.ref b136), (.ref x118), (.ref (d j1)), (.ref b126), (.ref b126)])) (fun t k => XS.iload X136.here hx rfl (hb hby at_274) rfl k) ?_
  refine Go.st (T' := T136.setTop (mkF m 278 #[.val (.int p1), .val (.int p2), .val (.int p3), .val (.int p4), .val (.int p5), .val (.int p6), .val (.int (Int32.ofNat j1)), .val (.int (Int32.ofNat j2)), .val (.int u0), .val (.int u1), .val (.int u2), .val (.int n1), .val (.int sc), .val (.int v0), .val (.int v1), .val (.int v2), .val (.int n2), .val (.ref x118), .val (.ref x122), .val (.int t9), .val (.int ex), .unset] [(.int p6), (.int p5), (.ref b136), (.ref b136), (.ref x118), (.ref (d j1)), (.ref b126), (.ref b126)])) (fun t k => XS.iload X136.here hx rfl (hb hby at_276) rfl k) ?_
  obtain ⟨vr147, _, ⟨T147, L147, k147, n147⟩, -, X147, ⟨Lc147, hQ147, l147, y147, z147⟩, st147⟩ := X136.specialBack hx (y := (⟨"com/example/pass3/pass3/Position", "<init>", "(II)V"⟩ : MethodName)) rfl hor122 (mvT hZr122 (hw _ (List.mem_of_getElem? (i := 39) rfl))) (mvT hZr122 (hw _ (List.mem_of_getElem? (i := 40) rfl))) (mvT hZr122 (hw _ (List.mem_of_getElem? (i := 41) rfl))) (by decide) (backOf (W := 5) (rmPos l Z a0 hw b136 p5 p6 h136 n0 (Nat.le_trans Z0 K136.1) A136 g_b136 Fn136_line Fn136_column) hZr122 (hw _ (List.mem_of_getElem? (i := 41) rfl)) (hw _ (List.mem_of_getElem? (i := 38) rfl)) (by decide) (by decide)) (g := (mkF m 278 #[.val (.int p1), .val (.int p2), .val (.int p3), .val (.int p4), .val (.int p5), .val (.int p6), .val (.int (Int32.ofNat j1)), .val (.int (Int32.ofNat j2)), .val (.int u0), .val (.int u1), .val (.int u2), .val (.int n1), .val (.int sc), .val (.int v0), .val (.int v1), .val (.int v2), .val (.int n2), .val (.ref x118), .val (.ref x122), .val (.int t9), .val (.int ex), .unset] [(.int p6), (.int p5), (.ref b136), (.ref b136), (.ref x118), (.ref (d j1)), (.ref b126), (.ref b126)])) rfl (by rw [hml]; rfl) (Steps.refl _) (a := b136) (argsL := [(.int p5), (.int p6)]) (rest := [(.ref b136), (.ref x118), (.ref (d j1)), (.ref b126), (.ref b126)]) (lenOf pd_7ffd0bd rfl) rfl (by show 2 * 0 + _ ≤ _; exact Nat.le_of_eq rfl) (hb hby at_278) (fun _ _ => ⟨rfl, e136, (by decide : 12 + 0 ≤ _), (by decide : 27 + 0 ≤ _)⟩)
  dsimp only [Pt.U, Pt.locs, Pt.cells, Pt.slots] at X147 l147 y147 z147 st147 hQ147
  subst l147 y147 z147
  obtain ⟨rfl, Nq147, Kq147⟩ := hQ147
  have C148 : CHr Z EL s.vm h0 T122.vm T147.heap := C146.trans (CHr.keep Kq147 (allS (Safe.exa hZr122.alike A136 (by decide) (by decide)) all0) C146.1)
  have KK149 : Keep h0 T147.heap [] := K136.trans Kq147 (allS (Or.inr sz_b136) all0)
  have NN150 := Fr.app NN135 Nq147
  refine Go.st (T' := T147.setTop (mkF m 281 #[.val (.int p1), .val (.int p2), .val (.int p3), .val (.int p4), .val (.int p5), .val (.int p6), .val (.int (Int32.ofNat j1)), .val (.int (Int32.ofNat j2)), .val (.int u0), .val (.int u1), .val (.int u2), .val (.int n1), .val (.int sc), .val (.int v0), .val (.int v1), .val (.int v2), .val (.int n2), .val (.ref x118), .val (.ref x122), .val (.int t9), .val (.int ex), .unset] [(.ref b136), (.ref x118), (.ref (d j1)), (.ref b126), (.ref b126)])) (fun t k => st147.trans k) ?_
  have f151 : Exa Z T147.heap b126 "com/example/pass3/pass3/Token" := ((A126.ext E136).keep Kq147)
  have f152 : Fld Z T147.heap b126 "com/example/pass3/pass3/Token" "kind" "Lcom/example/pass3/pass3/Token$Kind;" .null := ((Fn126_kind.ext E136).keep Kq147 (ninS ne145 nin0))
  have f153 : Fld Z T147.heap b126 "com/example/pass3/pass3/Token" "text" "Ljava/lang/String;" .null := ((Fn126_text.ext E136).keep Kq147 (ninS ne145 nin0))
  have f154 : Fld Z T147.heap b126 "com/example/pass3/pass3/Token" "position" "Lcom/example/pass3/pass3/Position;" .null := ((Fn126_position.ext E136).keep Kq147 (ninS ne145 nin0))
  obtain ⟨vr155, _, ⟨T155, L155, k155, n155⟩, -, X155, ⟨Lc155, hQ155, l155, y155, z155⟩, st155⟩ := X147.specialBack hx (y := (⟨"com/example/pass3/pass3/Token", "<init>", "(Lcom/example/pass3/pass3/Token$Kind;Ljava/lang/String;Lcom/example/pass3/pass3/Position;)V"⟩ : MethodName)) rfl hor122 (mvT hZr122 (hw _ (List.mem_of_getElem? (i := 52) rfl))) (mvT hZr122 (hw _ (List.mem_of_getElem? (i := 53) rfl))) (mvT hZr122 (hw _ (List.mem_of_getElem? (i := 54) rfl))) (by decide) (backOf (W := 1) (rmTok l Z a0 hw b126 (d j1) x118 b136 T147.heap n0 (Nat.le_trans Z0 KK149.1) f151 g_b126 f152 f153 f154) hZr122 (hw _ (List.mem_of_getElem? (i := 54) rfl)) (hw _ (List.mem_of_getElem? (i := 29) rfl)) (by decide) (by decide)) (g := (mkF m 281 #[.val (.int p1), .val (.int p2), .val (.int p3), .val (.int p4), .val (.int p5), .val (.int p6), .val (.int (Int32.ofNat j1)), .val (.int (Int32.ofNat j2)), .val (.int u0), .val (.int u1), .val (.int u2), .val (.int n1), .val (.int sc), .val (.int v0), .val (.int v1), .val (.int v2), .val (.int n2), .val (.ref x118), .val (.ref x122), .val (.int t9), .val (.int ex), .unset] [(.ref b136), (.ref x118), (.ref (d j1)), (.ref b126), (.ref b126)])) rfl (by rw [hml]; rfl) (Steps.refl _) (a := b126) (argsL := [(.ref (d j1)), (.ref x118), (.ref b136)]) (rest := [(.ref b126)]) (lenOf pd_bef9ebd rfl) rfl (by show 2 * 0 + _ ≤ _; exact Nat.le_of_eq rfl) (hb hby at_281) (fun _ _ => ⟨rfl, rfl, (by decide : 12 + 0 ≤ _), (by decide : 27 + 0 ≤ _)⟩)
  dsimp only [Pt.U, Pt.locs, Pt.cells, Pt.slots] at X155 l155 y155 z155 st155 hQ155
  subst l155 y155 z155
  obtain ⟨rfl, Nq155, Kq155, Eq155, Fk155, Ft155⟩ := hQ155
  have C156 : CHr Z EL s.vm h0 T122.vm T155.heap := C148.trans (CHr.keep Kq155 (allS (Safe.exa hZr122.alike f151 (by decide) (by decide)) all0) C148.1)
  have KK157 : Keep h0 T155.heap [] := KK149.trans Kq155 (allS (Or.inr sz_b126) all0)
  have NN158 := Fr.app NN150 Nq155
  refine Go.st (T' := T155.setTop (mkF m 284 #[.val (.int p1), .val (.int p2), .val (.int p3), .val (.int p4), .val (.int p5), .val (.int p6), .val (.int (Int32.ofNat j1)), .val (.int (Int32.ofNat j2)), .val (.int u0), .val (.int u1), .val (.int u2), .val (.int n1), .val (.int sc), .val (.int v0), .val (.int v1), .val (.int v2), .val (.int n2), .val (.ref x118), .val (.ref x122), .val (.int t9), .val (.int ex), .unset] [(.ref b126)])) (fun t k => st155.trans k) ?_
  refine Go.st (T' := T155.setTop (mkF m 286 #[.val (.int p1), .val (.int p2), .val (.int p3), .val (.int p4), .val (.int p5), .val (.int p6), .val (.int (Int32.ofNat j1)), .val (.int (Int32.ofNat j2)), .val (.int u0), .val (.int u1), .val (.int u2), .val (.int n1), .val (.int sc), .val (.int v0), .val (.int v1), .val (.int v2), .val (.int n2), .val (.ref x118), .val (.ref x122), .val (.int t9), .val (.int ex), .val (.ref b126)] [])) (fun t k => XS.astore X155.here hx rfl (hb hby at_284) rfl rfl (l' := #[.val (.int p1), .val (.int p2), .val (.int p3), .val (.int p4), .val (.int p5), .val (.int p6), .val (.int (Int32.ofNat j1)), .val (.int (Int32.ofNat j2)), .val (.int u0), .val (.int u1), .val (.int u2), .val (.int n1), .val (.int sc), .val (.int v0), .val (.int v1), .val (.int v2), .val (.int n2), .val (.ref x118), .val (.ref x122), .val (.int t9), .val (.int ex), .val (.ref b126)]) rfl k) ?_
  refine Go.st (T' := T155.setTop (mkF m 288 #[.val (.int p1), .val (.int p2), .val (.int p3), .val (.int p4), .val (.int p5), .val (.int p6), .val (.int (Int32.ofNat j1)), .val (.int (Int32.ofNat j2)), .val (.int u0), .val (.int u1), .val (.int u2), .val (.int n1), .val (.int sc), .val (.int v0), .val (.int v1), .val (.int v2), .val (.int n2), .val (.ref x118), .val (.ref x122), .val (.int t9), .val (.int ex), .val (.ref b126)] [(.ref b126)])) (fun t k => XS.aload X155.here hx rfl (hb hby at_286) rfl rfl k) ?_
  refine Go.st (T' := T155.setTop (mkF m 290 #[.val (.int p1), .val (.int p2), .val (.int p3), .val (.int p4), .val (.int p5), .val (.int p6), .val (.int (Int32.ofNat j1)), .val (.int (Int32.ofNat j2)), .val (.int u0), .val (.int u1), .val (.int u2), .val (.int n1), .val (.int sc), .val (.int v0), .val (.int v1), .val (.int v2), .val (.int n2), .val (.ref x118), .val (.ref x122), .val (.int t9), .val (.int ex), .val (.ref b126)] [(.int (Int32.ofNat j2)), (.ref b126)])) (fun t k => XS.iload X155.here hx rfl (hb hby at_288) rfl k) ?_
  obtain ⟨vr159, _, ⟨T159, L159, k159, n159⟩, -, X159, ⟨Lc159, hQ159, l159, y159, z159⟩, st159⟩ := Jvm.LawKit.callS X155 hx (y := (⟨"com/example/pass3/pass3/TokenIsPinLaw", "kind", "(I)Lcom/example/pass3/pass3/Token$Kind;"⟩ : MethodName)) hor122 (mvT hZr122 (hw _ (List.mem_of_getElem? (i := 30) rfl))) (mvT hZr122 (hw _ (List.mem_of_getElem? (i := 31) rfl))) (mvT hZr122 (hw _ (List.mem_of_getElem? (i := 3) rfl))) (mvT hZr122 (hw _ (List.mem_of_getElem? (i := 32) rfl))) (by decide) (backOf (W := 1) (rmKind l Z a0 hw (Int32.ofNat j2) d T155.heap n0 (Nat.le_trans Z0 KK157.1) (X00.keep KK157 all0) S0 S1 S2 S3 S4 S5 S6 S7 S8 S9 S10) hZr122 (hw _ (List.mem_of_getElem? (i := 32) rfl)) (hw _ (List.mem_of_getElem? (i := 3) rfl)) (by decide) (by decide)) (g := (mkF m 290 #[.val (.int p1), .val (.int p2), .val (.int p3), .val (.int p4), .val (.int p5), .val (.int p6), .val (.int (Int32.ofNat j1)), .val (.int (Int32.ofNat j2)), .val (.int u0), .val (.int u1), .val (.int u2), .val (.int n1), .val (.int sc), .val (.int v0), .val (.int v1), .val (.int v2), .val (.int n2), .val (.ref x118), .val (.ref x122), .val (.int t9), .val (.int ex), .val (.ref b126)] [(.int (Int32.ofNat j2)), (.ref b126)])) rfl (by rw [hml]; rfl) (argsL := [(.int (Int32.ofNat j2))]) (rest := [(.ref b126)]) (lenOf pd_52f348a rfl) rfl (by show 2 * 0 + _ ≤ _; exact Nat.le_of_eq rfl) (hb hby at_290) (fun _ _ => ⟨rfl, rfl, (by decide : 12 + 0 ≤ _), (by decide : 27 + 0 ≤ _)⟩)
  dsimp only [Pt.U, Pt.locs, Pt.cells, Pt.slots] at X159 l159 y159 z159 st159 hQ159
  subst l159 y159 z159
  obtain ⟨rfl, Nq159, eq159⟩ := hQ159
  have NN160 := Fr.app NN158 Nq159
  refine Go.st (T' := T159.setTop (mkF m 293 #[.val (.int p1), .val (.int p2), .val (.int p3), .val (.int p4), .val (.int p5), .val (.int p6), .val (.int (Int32.ofNat j1)), .val (.int (Int32.ofNat j2)), .val (.int u0), .val (.int u1), .val (.int u2), .val (.int n1), .val (.int sc), .val (.int v0), .val (.int v1), .val (.int v2), .val (.int n2), .val (.ref x118), .val (.ref x122), .val (.int t9), .val (.int ex), .val (.ref b126)] [(.ref (own_kd d (Int32.ofNat j2))), (.ref b126)])) (fun t k => st159 t k) ?_
  rw [own_kdn d j2 hj2']
  refine Go.st (T' := T159.setTop (mkF m 295 #[.val (.int p1), .val (.int p2), .val (.int p3), .val (.int p4), .val (.int p5), .val (.int p6), .val (.int (Int32.ofNat j1)), .val (.int (Int32.ofNat j2)), .val (.int u0), .val (.int u1), .val (.int u2), .val (.int n1), .val (.int sc), .val (.int v0), .val (.int v1), .val (.int v2), .val (.int n2), .val (.ref x118), .val (.ref x122), .val (.int t9), .val (.int ex), .val (.ref b126)] [(.ref x122), (.ref (d j2)), (.ref b126)])) (fun t k => XS.aload X159.here hx rfl (hb hby at_293) rfl rfl k) ?_
  have f161 : Exa Z T155.heap x118 "java/lang/String" := (((f137.ext E136).keep Kq147).keep Kq155)
  have f162 : Fld Z T155.heap x118 "java/lang/String" "value" "[B" (.ref t118) := (((((Vq118.keep Kq122 nin0).ext E126).ext E136).keep Kq147 (ninS ne138 nin0)).keep Kq155 (ninS ne128 nin0))
  have f163 : Fld Z T155.heap x118 "java/lang/String" "coder" "B" (.int (0 : Int32)) := (((((Cq118.keep Kq122 nin0).ext E126).ext E136).keep Kq147 (ninS ne138 nin0)).keep Kq155 (ninS ne128 nin0))
  have f164 : Arv Z T155.heap t118 kb118 .byte (Int32.ofNat (own_str n1 u0 u1 u2).length) (((own_str n1 u0 u1 u2).map (fun c => c.toInt8.toInt32)).map Value.int) (.int (0 : Int32)) := (((f139.ext E136).keep Kq147 (ninS ne140 nin0)).keep Kq155 (ninS ne130 nin0))
  have f165 : Exa Z T155.heap x122 "java/lang/String" := (((f141.ext E136).keep Kq147).keep Kq155)
  have f166 : Fld Z T155.heap x122 "java/lang/String" "value" "[B" (.ref t122) := ((((Vq122.ext E126).ext E136).keep Kq147 (ninS ne142 nin0)).keep Kq155 (ninS ne131 nin0))
  have f167 : Fld Z T155.heap x122 "java/lang/String" "coder" "B" (.int (0 : Int32)) := ((((Cq122.ext E126).ext E136).keep Kq147 (ninS ne142 nin0)).keep Kq155 (ninS ne131 nin0))
  have f168 : Arv Z T155.heap t122 kb122 .byte (Int32.ofNat (own_str n2 v0 v1 v2).length) (((own_str n2 v0 v1 v2).map (fun c => c.toInt8.toInt32)).map Value.int) (.int (0 : Int32)) := (((f143.ext E136).keep Kq147 (ninS ne144 nin0)).keep Kq155 (ninS ne132 nin0))
  obtain ⟨cq169, kq169, q169a, q169b, q169c⟩ := isOf hZr122 eq159 Eq155
  obtain ⟨vr169, _, ⟨T169, L169, k169, n169⟩, -, X169, ⟨Lc169, hQ169, l169, y169, z169⟩, st169⟩ := X159.virtualBack hx (y := (⟨"com/example/pass3/pass3/Token", "is", "(Lcom/example/pass3/pass3/Token$Kind;Ljava/lang/String;)Z"⟩ : MethodName)) (z := (⟨"com/example/pass3/pass3/Token", "is", "(Lcom/example/pass3/pass3/Token$Kind;Ljava/lang/String;)Z"⟩ : MethodName)) hor122 (mvT hZr122 (hw _ (List.mem_of_getElem? (i := 62) rfl))) (mvT hZr122 (hw _ (List.mem_of_getElem? (i := 63) rfl))) (notFace_of_selects (args := #[]) (mvT hZr122 (hw _ (List.mem_of_getElem? (i := 65) rfl)))) (mvT hZr122 (hw _ (List.mem_of_getElem? (i := 65) rfl))) (mvT hZr122 (hw _ (List.mem_of_getElem? (i := 64) rfl))) (by decide) (backOf (W := 0) (rmIs l Z a0 hw b126 (d j2) x122 (d j1) x118 t118 t122 kb118 kb122 (own_str n1 u0 u1 u2) (own_str n2 v0 v1 v2) T155.heap n0 (Nat.le_trans Z0 KK157.1) G1 O2 P5 (X00.keep KK157 all0) Fk155 Ft155 f161 f162 f163 f164 (own_all Hu0 Hu1 Hu2) (own_len4 _ _ _ _) f165 f166 f167 f168 (own_all h_v0 h_v1 h_v2) (own_len4 _ _ _ _)) hZr122 (hw _ (List.mem_of_getElem? (i := 66) rfl)) (hw _ (List.mem_of_getElem? (i := 29) rfl)) (by decide) (by decide)) q169a q169c (g := (mkF m 295 #[.val (.int p1), .val (.int p2), .val (.int p3), .val (.int p4), .val (.int p5), .val (.int p6), .val (.int (Int32.ofNat j1)), .val (.int (Int32.ofNat j2)), .val (.int u0), .val (.int u1), .val (.int u2), .val (.int n1), .val (.int sc), .val (.int v0), .val (.int v1), .val (.int v2), .val (.int n2), .val (.ref x118), .val (.ref x122), .val (.int t9), .val (.int ex), .val (.ref b126)] [(.ref x122), (.ref (d j2)), (.ref b126)])) rfl (by rw [hml]; rfl) (Steps.refl _) (argsL := [(.ref (d j2)), (.ref x122)]) (rest := []) (lenOf pd_612c306 rfl) rfl (by show 2 * 0 + _ ≤ _; exact Nat.le_of_eq rfl) (hb hby at_295) (fun _ _ => ⟨rfl, eq159, (by decide : 12 + 0 ≤ _), (by decide : 27 + 0 ≤ _)⟩)
  dsimp only [Pt.U, Pt.locs, Pt.cells, Pt.slots] at X169 l169 y169 z169 st169 hQ169
  subst l169 y169 z169
  obtain ⟨Nq169, eq169, r169, rfl, hr169⟩ := hQ169
  have NN170 := Fr.app NN160 Nq169
  refine Go.st (T' := T169.setTop (mkF m 298 #[.val (.int p1), .val (.int p2), .val (.int p3), .val (.int p4), .val (.int p5), .val (.int p6), .val (.int (Int32.ofNat j1)), .val (.int (Int32.ofNat j2)), .val (.int u0), .val (.int u1), .val (.int u2), .val (.int n1), .val (.int sc), .val (.int v0), .val (.int v1), .val (.int v2), .val (.int n2), .val (.ref x118), .val (.ref x122), .val (.int t9), .val (.int ex), .val (.ref b126)] [(.int (nar .boolean r169))])) (fun t k => st169.trans k) ?_
  refine Go.st (T' := T169.setTop (mkF m 300 #[.val (.int p1), .val (.int p2), .val (.int p3), .val (.int p4), .val (.int p5), .val (.int p6), .val (.int (Int32.ofNat j1)), .val (.int (Int32.ofNat j2)), .val (.int u0), .val (.int u1), .val (.int u2), .val (.int n1), .val (.int sc), .val (.int v0), .val (.int v1), .val (.int v2), .val (.int n2), .val (.ref x118), .val (.ref x122), .val (.int t9), .val (.int ex), .val (.ref b126)] [(.int ex), (.int (nar .boolean r169))])) (fun t k => XS.iload X169.here hx rfl (hb hby at_298) rfl k) ?_
  have hfin : nar .boolean r169 = ex := by
    rcases hr169 with ⟨q, q'⟩ | ⟨q, q'⟩ <;> rcases h_ex with ⟨z, z'⟩ | ⟨z, z'⟩
    · rw [q, z]; rfl
    · exact absurd ⟨hd _ _ hj1' hj2' q'.1, q'.2⟩ z'
    · exact absurd ⟨congrArg d z'.1, z'.2⟩ q'
    · rw [q, z]; rfl
  refine Go.st (T' := T169.setTop (mkF m 303 #[.val (.int p1), .val (.int p2), .val (.int p3), .val (.int p4), .val (.int p5), .val (.int p6), .val (.int (Int32.ofNat j1)), .val (.int (Int32.ofNat j2)), .val (.int u0), .val (.int u1), .val (.int u2), .val (.int n1), .val (.int sc), .val (.int v0), .val (.int v1), .val (.int v2), .val (.int n2), .val (.ref x118), .val (.ref x122), .val (.int t9), .val (.int ex), .val (.ref b126)] [])) (fun t k => XS.icmpNo X169.here hx rfl (hb hby at_300) rfl (teq hfin).2 k) ?_
  refine Go.st (T' := T169.setTop (mkF m 304 #[.val (.int p1), .val (.int p2), .val (.int p3), .val (.int p4), .val (.int p5), .val (.int p6), .val (.int (Int32.ofNat j1)), .val (.int (Int32.ofNat j2)), .val (.int u0), .val (.int u1), .val (.int u2), .val (.int n1), .val (.int sc), .val (.int v0), .val (.int v1), .val (.int v2), .val (.int n2), .val (.ref x118), .val (.ref x122), .val (.int t9), .val (.int ex), .val (.ref b126)] [(.int (1 : Int32))])) (fun t k => XS.iconst X169.here hx rfl (hb hby at_303) k) ?_
  refine Go.st (T' := T169.setTop (mkF m 308 #[.val (.int p1), .val (.int p2), .val (.int p3), .val (.int p4), .val (.int p5), .val (.int p6), .val (.int (Int32.ofNat j1)), .val (.int (Int32.ofNat j2)), .val (.int u0), .val (.int u1), .val (.int u2), .val (.int n1), .val (.int sc), .val (.int v0), .val (.int v1), .val (.int v2), .val (.int n2), .val (.ref x118), .val (.ref x122), .val (.int t9), .val (.int ex), .val (.ref b126)] [(.int (1 : Int32))])) (fun t k => XS.goto X169.here hx rfl (pc0 := 304) (pc' := 308) rfl (hb hby at_304) (by decide) (by decide) k) ?_
  exact Go.doneH X169 hSr122 (by rw [eq169]; exact (Nat.le_trans (Nat.le_trans (Nat.le_trans (Nat.le_trans (Nat.le_refl T122.heap.size) E126.1) E136.1) Kq147.1) Kq155.1)) Bd.notSynchronized (v := some (.int (nar .boolean (1 : Int32)))) (fun h => by rw [Bd.returns] at h; cases h) (fun fs hr => retN X169 hx (t := .boolean) Bd.returns (by simp) (hb hby at_308) hr) (by rw [eq169]; exact ⟨rfl, NN170⟩) (by decide) (by decide) hZr122 hEL hh eq169 C156
set_option maxRecDepth 65536 in
set_option maxHeartbeats 40000000 in
theorem comes_1 {Post : Tables → Env → Array Value → State → Outcome → State → Prop} (hpost : ∀ tb e args s v u, (limb_1_1.after args s (.returned v) u = true ∧ limb_1_2.after args s (.returned v) u = true ∧ True) → ReturnedEndW s (.returned v) u (Jvm.fieldLocs frame_1_writes args s ++ Jvm.arrayLocs frame_1_arrays args s ++ Jvm.staticLocs frame_1_statics s) 32 1152 → Post tb e args s (.returned v) u) :
    ArmFor flags0 classFile x code maxLocals ret World_1 tables_1 room_1 Calls_1 rest_1 Pre_1 Post := by
  intro l hfl _ _ p e ha hc hk s m args below hf hA hF happ hP
  obtain ⟨hcalls, hrest, hpre⟩ := hP
  obtain ⟨-, -, -, hnamed, -, -, -, hat⟩ := (Spec.applies_iff hf).mp happ
  obtain ⟨hg, hn⟩ := and_e (Cond.before_iff.mp (show (Jvm.Cond.and given_1 narrow_1).before args s = true from hpre))
  obtain ⟨gc, gr0⟩ := and_e hg
  obtain ⟨ga0, gr1⟩ := and_e gr0
  obtain ⟨ga1, gr2⟩ := and_e gr1
  obtain ⟨ga2, gr3⟩ := and_e gr2
  obtain ⟨ga3, gr4⟩ := and_e gr3
  obtain ⟨ga4, gr5⟩ := and_e gr4
  obtain ⟨w0, w1, w2, w3, w4, w5, rfl⟩ : ∃ w0 w1 w2 w3 w4 w5 : Value, args = #[w0, w1, w2, w3, w4, w5] := by
    have hs : args.size = 6 := by simpa [Cond.value, given_1] using gc
    obtain ⟨L⟩ := args
    match L, hs with
    | [w0, w1, w2, w3, w4, w5], _ => exact ⟨w0, w1, w2, w3, w4, w5, rfl⟩
  have hw := fun d (hd : d ∈ tables_1) => atoms_spec (ws := Jvm.Cond.code x code maxLocals ret :: tables_1) hat d (List.mem_cons_of_mem _ hd)
  have hfit : Fit s := fun {y c} hc i hi => by
    obtain ⟨ha, rfl⟩ := Array.getElem?_eq_some_iff.mp hc
    have q := List.all_eq_true.mp ((Array.all_eq_true_iff_forall_mem.mp hF) _ (Array.getElem_mem ha)) i (List.mem_range.mpr hi)
    simpa [Array.getElem?_eq_getElem hi] using q
  obtain ⟨i0, ei0⟩ := is_v ga0
  obtain rfl : w0 = (.int i0) := Option.some.inj ei0
  obtain ⟨i1, ei1⟩ := is_v ga1
  obtain rfl : w1 = (.int i1) := Option.some.inj ei1
  obtain ⟨i2, ei2⟩ := is_v ga2
  obtain rfl : w2 = (.int i2) := Option.some.inj ei2
  obtain ⟨i3, ei3⟩ := is_v ga3
  obtain rfl : w3 = (.int i3) := Option.some.inj ei3
  obtain ⟨i4, ei4⟩ := is_v ga4
  obtain rfl : w4 = (.int i4) := Option.some.inj ei4
  obtain ⟨i5, ei5⟩ := is_v gr5
  obtain rfl : w5 = (.int i5) := Option.some.inj ei5
  obtain ⟨hsets, hown0⟩ := atoms_of _ (rest_1_c_eq ▸ (show rest_1_c.before _ s = true from hrest))
  have n5 := not_v (Cond.before_iff.mp (hsets _ (List.mem_of_getElem? (i := 2) rfl)))
  obtain ⟨iC, eC⟩ := is_v (Cond.before_iff.mp (hsets _ (List.mem_of_getElem? (i := 1) rfl)))
  have SC : Sta s s.heap "java/lang/String" "COMPACT_STRINGS" "Z" (.int iC) := Sta.start eC (Or.inl (hsets _ (List.mem_of_getElem? (i := 0) rfl)))
  have cC : ¬ (iC = (0 : Int32)) := gotF (Cond.eq_ints eC (Term.int_eval (0))) n5
  have wS : ∀ a ∈ Bundle.stringAtoms, a.before _ s = true := fun d hd => hw d ((by decide +kernel : ∀ d ∈ Bundle.stringAtoms, d ∈ tables_1) d hd)
  have hEL : EW s _ EL := EW.cons (hw _ (List.mem_of_getElem? (i := 19) rfl)) (by decide) EW.nil
  have hcw : Jvm.Lit.compactW.before _ s = true := hsets _ (List.mem_of_getElem? (i := 2) rfl)
  have hCH : CHv s EL s.vm s.heap := CHv.start hEL hcalls.1 hcw (wS _ (by simp [Bundle.stringAtoms])) (wS _ (by simp [Bundle.stringAtoms, Bundle.sN]))
  obtain ⟨hn_0, hnr_0⟩ := and_e hn
  obtain ⟨hn_1, hnr_1⟩ := and_e hnr_0
  obtain ⟨hn_2, hnr_2⟩ := and_e hnr_1
  obtain ⟨hn_3, hnr_3⟩ := and_e hnr_2
  obtain ⟨hn_4, hnr_4⟩ := and_e hnr_3
  obtain ⟨hn_5, hnr_5⟩ := and_e hnr_4
  obtain ⟨hn_6, hnr_6⟩ := and_e hnr_5
  obtain ⟨hn_7, hnr_7⟩ := and_e hnr_6
  obtain ⟨hn_8, hnr_8⟩ := and_e hnr_7
  obtain ⟨hn_9, hnr_9⟩ := and_e hnr_8
  obtain ⟨hn_10, hnr_10⟩ := and_e hnr_9
  obtain ⟨hn_11, hnr_11⟩ := and_e hnr_10
  obtain ⟨hn_12, hnr_12⟩ := and_e hnr_11
  obtain ⟨hn_13, hnr_13⟩ := and_e hnr_12
  obtain ⟨hn_14, hnr_14⟩ := and_e hnr_13
  obtain ⟨hn_15, hnr_15⟩ := and_e hnr_14
  obtain ⟨hn_16, hnr_16⟩ := and_e hnr_15
  obtain ⟨hn_17, hnr_17⟩ := and_e hnr_16
  obtain ⟨hn_18, hnr_18⟩ := and_e hnr_17
  obtain ⟨hn_19, hnr_19⟩ := and_e hnr_18
  obtain ⟨hn_20, hnr_20⟩ := and_e hnr_19
  have hn_21 := hnr_20
  obtain ⟨d0, ed0⟩ := exa_v hn_0
  have Sd0 : Sta s s.heap "com/example/pass3/pass3/Token$Kind" "IDENTIFIER" "Lcom/example/pass3/pass3/Token$Kind;" (.ref d0) := Sta.start ed0 (Or.inr ⟨(hw _ (List.mem_of_getElem? (i := 34) rfl)), (hw _ (List.mem_of_getElem? (i := 35) rfl))⟩)
  have od0 : s.fieldOf? d0 "java/lang/Enum" "ordinal" "I" = some (.int (0 : Int32)) := by
    rw [← fld_at ed0]; exact Cond.eq_int (Cond.before_iff.mpr hn_10) rfl
  obtain ⟨d1, ed1⟩ := exa_v hn_8
  have Sd1 : Sta s s.heap "com/example/pass3/pass3/Token$Kind" "KEYWORD" "Lcom/example/pass3/pass3/Token$Kind;" (.ref d1) := Sta.start ed1 (Or.inr ⟨(hw _ (List.mem_of_getElem? (i := 34) rfl)), (hw _ (List.mem_of_getElem? (i := 99) rfl))⟩)
  have od1 : s.fieldOf? d1 "java/lang/Enum" "ordinal" "I" = some (.int (1 : Int32)) := by
    rw [← fld_at ed1]; exact Cond.eq_int (Cond.before_iff.mpr hn_9) rfl
  obtain ⟨d2, ed2⟩ := exa_v hn_4
  have Sd2 : Sta s s.heap "com/example/pass3/pass3/Token$Kind" "INT" "Lcom/example/pass3/pass3/Token$Kind;" (.ref d2) := Sta.start ed2 (Or.inr ⟨(hw _ (List.mem_of_getElem? (i := 34) rfl)), (hw _ (List.mem_of_getElem? (i := 95) rfl))⟩)
  have od2 : s.fieldOf? d2 "java/lang/Enum" "ordinal" "I" = some (.int (2 : Int32)) := by
    rw [← fld_at ed2]; exact Cond.eq_int (Cond.before_iff.mpr hn_5) rfl
  obtain ⟨d3, ed3⟩ := exa_v hn_13
  have Sd3 : Sta s s.heap "com/example/pass3/pass3/Token$Kind" "FLOAT" "Lcom/example/pass3/pass3/Token$Kind;" (.ref d3) := Sta.start ed3 (Or.inr ⟨(hw _ (List.mem_of_getElem? (i := 34) rfl)), (hw _ (List.mem_of_getElem? (i := 103) rfl))⟩)
  have od3 : s.fieldOf? d3 "java/lang/Enum" "ordinal" "I" = some (.int (3 : Int32)) := by
    rw [← fld_at ed3]; exact Cond.eq_int (Cond.before_iff.mpr hn_15) rfl
  obtain ⟨d4, ed4⟩ := exa_v hn_1
  have Sd4 : Sta s s.heap "com/example/pass3/pass3/Token$Kind" "SYMBOL" "Lcom/example/pass3/pass3/Token$Kind;" (.ref d4) := Sta.start ed4 (Or.inr ⟨(hw _ (List.mem_of_getElem? (i := 34) rfl)), (hw _ (List.mem_of_getElem? (i := 79) rfl))⟩)
  have od4 : s.fieldOf? d4 "java/lang/Enum" "ordinal" "I" = some (.int (4 : Int32)) := by
    rw [← fld_at ed4]; exact Cond.eq_int (Cond.before_iff.mpr hn_6) rfl
  obtain ⟨d5, ed5⟩ := exa_v hn_2
  have Sd5 : Sta s s.heap "com/example/pass3/pass3/Token$Kind" "QUOTE" "Lcom/example/pass3/pass3/Token$Kind;" (.ref d5) := Sta.start ed5 (Or.inr ⟨(hw _ (List.mem_of_getElem? (i := 34) rfl)), (hw _ (List.mem_of_getElem? (i := 81) rfl))⟩)
  have od5 : s.fieldOf? d5 "java/lang/Enum" "ordinal" "I" = some (.int (5 : Int32)) := by
    rw [← fld_at ed5]; exact Cond.eq_int (Cond.before_iff.mpr hn_21) rfl
  obtain ⟨d6, ed6⟩ := exa_v hn_11
  have Sd6 : Sta s s.heap "com/example/pass3/pass3/Token$Kind" "TEXT" "Lcom/example/pass3/pass3/Token$Kind;" (.ref d6) := Sta.start ed6 (Or.inr ⟨(hw _ (List.mem_of_getElem? (i := 34) rfl)), (hw _ (List.mem_of_getElem? (i := 101) rfl))⟩)
  have od6 : s.fieldOf? d6 "java/lang/Enum" "ordinal" "I" = some (.int (6 : Int32)) := by
    rw [← fld_at ed6]; exact Cond.eq_int (Cond.before_iff.mpr hn_12) rfl
  obtain ⟨d7, ed7⟩ := exa_v hn_17
  have Sd7 : Sta s s.heap "com/example/pass3/pass3/Token$Kind" "PLACEHOLDER" "Lcom/example/pass3/pass3/Token$Kind;" (.ref d7) := Sta.start ed7 (Or.inr ⟨(hw _ (List.mem_of_getElem? (i := 34) rfl)), (hw _ (List.mem_of_getElem? (i := 107) rfl))⟩)
  have od7 : s.fieldOf? d7 "java/lang/Enum" "ordinal" "I" = some (.int (7 : Int32)) := by
    rw [← fld_at ed7]; exact Cond.eq_int (Cond.before_iff.mpr hn_18) rfl
  obtain ⟨d8, ed8⟩ := exa_v hn_7
  have Sd8 : Sta s s.heap "com/example/pass3/pass3/Token$Kind" "CLOSE" "Lcom/example/pass3/pass3/Token$Kind;" (.ref d8) := Sta.start ed8 (Or.inr ⟨(hw _ (List.mem_of_getElem? (i := 34) rfl)), (hw _ (List.mem_of_getElem? (i := 97) rfl))⟩)
  have od8 : s.fieldOf? d8 "java/lang/Enum" "ordinal" "I" = some (.int (8 : Int32)) := by
    rw [← fld_at ed8]; exact Cond.eq_int (Cond.before_iff.mpr hn_16) rfl
  obtain ⟨d9, ed9⟩ := exa_v hn_14
  have Sd9 : Sta s s.heap "com/example/pass3/pass3/Token$Kind" "END" "Lcom/example/pass3/pass3/Token$Kind;" (.ref d9) := Sta.start ed9 (Or.inr ⟨(hw _ (List.mem_of_getElem? (i := 34) rfl)), (hw _ (List.mem_of_getElem? (i := 105) rfl))⟩)
  have od9 : s.fieldOf? d9 "java/lang/Enum" "ordinal" "I" = some (.int (9 : Int32)) := by
    rw [← fld_at ed9]; exact Cond.eq_int (Cond.before_iff.mpr hn_20) rfl
  obtain ⟨d10, ed10⟩ := exa_v hn_3
  have Sd10 : Sta s s.heap "com/example/pass3/pass3/Token$Kind" "REFUSED" "Lcom/example/pass3/pass3/Token$Kind;" (.ref d10) := Sta.start ed10 (Or.inr ⟨(hw _ (List.mem_of_getElem? (i := 34) rfl)), (hw _ (List.mem_of_getElem? (i := 93) rfl))⟩)
  have od10 : s.fieldOf? d10 "java/lang/Enum" "ordinal" "I" = some (.int (10 : Int32)) := by
    rw [← fld_at ed10]; exact Cond.eq_int (Cond.before_iff.mpr hn_19) rfl
  obtain ⟨dd, hdd⟩ : ∃ f : Nat → Addr, f = fun i => match i with | 0 => d0 | 1 => d1 | 2 => d2 | 3 => d3 | 4 => d4 | 5 => d5 | 6 => d6 | 7 => d7 | 8 => d8 | 9 => d9 | _ => d10 := ⟨_, rfl⟩
  have hod : ∀ i, i ≤ 10 → s.fieldOf? (dd i) "java/lang/Enum" "ordinal" "I" = some (.int (Int32.ofNat i)) := fun i hi => by
    have : i = 0 ∨ i = 1 ∨ i = 2 ∨ i = 3 ∨ i = 4 ∨ i = 5 ∨ i = 6 ∨ i = 7 ∨ i = 8 ∨ i = 9 ∨ i = 10 := by omega
    rw [hdd]
    rcases this with rfl | rfl | rfl | rfl | rfl | rfl | rfl | rfl | rfl | rfl | rfl
    · exact od0
    · exact od1
    · exact od2
    · exact od3
    · exact od4
    · exact od5
    · exact od6
    · exact od7
    · exact od8
    · exact od9
    · exact od10
  have hinj : ∀ i j, i ≤ 10 → j ≤ 10 → dd i = dd j → i = j := fun i j hi hj q => by
    have h1 := hod i hi
    rw [q, hod j hj] at h1
    exact (own_jj hj hi (Value.int.inj (Option.some.inj h1))).symm
  obtain ⟨n, o, h1, h2, h3, _, L, rfl, ⟨rfl, N⟩, -, hq⟩ := rm0 l s _ hw tables_1 i0 i1 i2 i3 i4 i5 dd s.heap s.heap.size (Nat.le_refl _) iC SC cC (Old.start s) (by rw [hdd]; exact Sd0) (by rw [hdd]; exact Sd1) (by rw [hdd]; exact Sd2) (by rw [hdd]; exact Sd3) (by rw [hdd]; exact Sd4) (by rw [hdd]; exact Sd5) (by rw [hdd]; exact Sd6) (by rw [hdd]; exact Sd7) (by rw [hdd]; exact Sd8) (by rw [hdd]; exact Sd9) (by rw [hdd]; exact Sd10) hinj hEL wS p e ha hc hk s m _ below hf ((Spec.applies_iff_loose hf).mp happ).1 ⟨rfl, State.Warmed39.refl s, rfl, hCH⟩ trivial
  refine ⟨n, _, h1, h2, h3, hpost _ _ _ _ _ _ ⟨Cond.after_iff.mpr rfl, Cond.after_iff.mpr (eq_i res_at (Term.int_eval (1)) rfl), trivial⟩ ⟨hq.1, hq.2.1, hq.2.2.1, (hq.2.2.2.sift fun y hy => Or.inr (N y hy)).mono (by decide) (by decide)⟩⟩
theorem main_1_1 : Claimed_1_1 := comes_1 fun _ _ _ _ _ _ h hF => ⟨h.1, hF⟩
theorem main_1_2 : Claimed_1_2 := comes_1 fun _ _ _ _ _ _ h hF => ⟨h.2.1, hF⟩
end Jvm.Pilot.@@N@@
namespace Jvm.Pilot.@@N@@
open Jvm Jvm.ClassFile Sem Op Lib Jvm.Free Jvm.Stand Jvm.Pilot.@@N@@.Jvm.D
/-! MADE BY PROGRAM (witnessworld.py) out of the Statement's table words and the real class files: 24 classes; the members and pool entries that the words name. The judged class is class 1, her method 3. -/
namespace start1
open Jvm.ClassFile
def u (s : String) : CpInfo := .utf8 (stringToUtf16 s)
/-- a pool by its gaps: so many unusable entries, then the entry; so many at the end -/
def gap : Nat → List CpInfo → List CpInfo
  | 0, r => r
  | n + 1, r => .unusable :: gap n r
def poolList (es : List (Nat × CpInfo)) (last : Nat) : List CpInfo := es.foldr (fun e r => gap e.1 (e.2 :: r)) (gap last [])
def pool (es : List (Nat × CpInfo)) (last : Nat) : Array CpInfo := ⟨poolList es last⟩
def fileOf (pool : Array CpInfo) (this : Nat) (attrs : Array Attribute := #[]) (ms : Array MethodInfo := #[]) (fl : Nat := 33) (sup : Nat := 0) (ifs : Array Nat := #[]) (fds : Array FieldInfo := #[]) : ClassFile where
  minorVersion := 0
  majorVersion := 65
  constantPool := pool
  accessFlags := fl
  thisClass := this
  superClass := sup
  interfaces := ifs
  fields := fds
  methods := ms
  attributes := attrs
def plain (name : String) (sup : Option ClassId) : Class where
  name := name
  kind := .ordinary
  loader := none
  accessFlags := 33
  super := sup
  interfaces := #[]
  cf := none
  fields := #[]
  methods := #[]
  instanceTypes := #[]
  staticTypes := #[]
  resolved := #[]
  callSites := []
  init := .initialized
  statics := none
  mirror := none

def pool0 : Array CpInfo := pool [(5, u "<init>"), (0, u "()V"), (1, .class_ 10), (1, u "java/lang/Object")] 113

def k0c0 : Code := { maxStack := 0, maxLocals := 1, code := object_method_1_code, exceptionTable := #[], attributes := #[] }
def k0m0 : Method := { name := "<init>", desc := "()V", sig := { parameters := [], returnType := none }, accessFlags := 1, code := some k0c0 }
/-- java/lang/Object -/
def k0 : Class := { plain "java/lang/Object" none with
  accessFlags := 33
  interfaces := #[]
  cf := some (fileOf pool0 8 #[] #[{ accessFlags := 1, nameIndex := 5, descriptorIndex := 6, attributes := #[] }] 33 0 #[] #[])
  fields := #[]
  methods := #[k0m0]
  instanceTypes := #[]
  staticTypes := #[]
  resolved := Array.replicate 124 none
  statics := none }

def pool1 : Array CpInfo := pool [(2, .class_ 4), (1, u "java/lang/Object"), (0, u "<init>"), (0, u "()V"), (0, .fieldref 8 9), (0, .class_ 10), (0, .nameAndType 11 12), (0, u "com/example/pass3/pass3/Token$Kind"), (0, u "IDENTIFIER"), (0, u "Lcom/example/pass3/pass3/Token$Kind;"), (0, .fieldref 8 14), (0, .nameAndType 15 12), (0, u "KEYWORD"), (0, .fieldref 8 17), (0, .nameAndType 18 12), (0, u "INT"), (0, .fieldref 8 20), (0, .nameAndType 21 12), (0, u "FLOAT"), (0, .fieldref 8 23), (0, .nameAndType 24 12), (0, u "SYMBOL"), (0, .fieldref 8 26), (0, .nameAndType 27 12), (0, u "QUOTE"), (0, .fieldref 8 29), (0, .nameAndType 30 12), (0, u "TEXT"), (0, .fieldref 8 32), (0, .nameAndType 33 12), (0, u "PLACEHOLDER"), (0, .fieldref 8 35), (0, .nameAndType 36 12), (0, u "CLOSE"), (0, .fieldref 8 38), (0, .nameAndType 39 12), (0, u "END"), (0, .fieldref 8 41), (0, .nameAndType 42 12), (0, u "REFUSED"), (0, .class_ 44), (0, u "java/lang/String"), (0, .methodref 43 46), (0, .nameAndType 5 47), (0, u "([C)V"), (0, .integer 2147483647), (0, .methodref 50 51), (0, .class_ 52), (0, .nameAndType 53 54), (0, u "com/example/pass3/pass3/TokenIsPinLaw"), (0, u "str"), (0, u "(ICCC)Ljava/lang/String;"), (0, .class_ 56), (0, u "com/example/pass3/pass3/Token"), (0, .methodref 50 58), (0, .nameAndType 59 60), (0, u "kind"), (0, u "(I)Lcom/example/pass3/pass3/Token$Kind;"), (0, .class_ 62), (0, u "com/example/pass3/pass3/Position"), (0, .methodref 61 64), (0, .nameAndType 5 65), (0, u "(II)V"), (0, .methodref 55 67), (0, .nameAndType 5 68), (0, u "(Lcom/example/pass3/pass3/Token$Kind;Ljava/lang/String;Lcom/example/pass3/pass3/Position;)V"), (0, .methodref 55 70), (0, .nameAndType 71 72), (0, u "is"), (0, u "(Lcom/example/pass3/pass3/Token$Kind;Ljava/lang/String;)Z"), (3, u "law"), (0, u "(IIIIII)Z")] 4

def k1m0 : Method := { name := "<init>", desc := "()V", sig := { parameters := [], returnType := none }, accessFlags := 1, code := none }
def k1c1 : Code := { maxStack := 2, maxLocals := 1, code := method_2_code, exceptionTable := #[], attributes := #[] }
def k1m1 : Method := { name := "kind", desc := "(I)Lcom/example/pass3/pass3/Token$Kind;", sig := { parameters := [.int], returnType := some (.object "com/example/pass3/pass3/Token$Kind") }, accessFlags := 10, code := some k1c1 }
def k1c2 : Code := { maxStack := 6, maxLocals := 4, code := method_3_code, exceptionTable := #[], attributes := #[] }
def k1m2 : Method := { name := "str", desc := "(ICCC)Ljava/lang/String;", sig := { parameters := [.int, .char, .char, .char], returnType := some (.object "java/lang/String") }, accessFlags := 10, code := some k1c2 }
def k1c3 : Code := { maxStack := 8, maxLocals := 22, code := code, exceptionTable := #[], attributes := #[] }
def k1m3 : Method := { name := "law", desc := "(IIIIII)Z", sig := { parameters := [.int, .int, .int, .int, .int, .int], returnType := some .boolean }, accessFlags := 9, code := some k1c3 }
/-- com/example/pass3/pass3/TokenIsPinLaw -/
def k1 : Class := { plain "com/example/pass3/pass3/TokenIsPinLaw" (some 0) with
  accessFlags := 49
  interfaces := #[]
  cf := some (fileOf pool1 50 #[] #[{ accessFlags := 1, nameIndex := 5, descriptorIndex := 6, attributes := #[] }, { accessFlags := 10, nameIndex := 59, descriptorIndex := 60, attributes := #[] }, { accessFlags := 10, nameIndex := 53, descriptorIndex := 54, attributes := #[] }, { accessFlags := 9, nameIndex := 76, descriptorIndex := 77, attributes := #[] }] 49 2 #[] #[])
  fields := #[]
  methods := #[k1m0, k1m1, k1m2, k1m3]
  instanceTypes := #[]
  staticTypes := #[]
  resolved := Array.replicate 82 none
  statics := none }

def pool2 : Array CpInfo := pool [(1, .class_ 2), (0, u "java/io/Serializable"), (0, .class_ 4), (0, u "java/lang/Object")] 2

/-- java/io/Serializable -/
def k2 : Class := { plain "java/io/Serializable" (some 0) with
  accessFlags := 1537
  interfaces := #[]
  cf := some (fileOf pool2 1 #[] #[] 1537 3 #[] #[])
  fields := #[]
  methods := #[]
  instanceTypes := #[]
  staticTypes := #[]
  resolved := Array.replicate 7 none
  statics := none }

def pool3 : Array CpInfo := pool [(1, .class_ 2), (0, u "java/lang/Comparable"), (0, .class_ 4), (0, u "java/lang/Object")] 7

/-- java/lang/Comparable -/
def k3 : Class := { plain "java/lang/Comparable" (some 0) with
  accessFlags := 1537
  interfaces := #[]
  cf := some (fileOf pool3 1 #[] #[] 1537 3 #[] #[])
  fields := #[]
  methods := #[]
  instanceTypes := #[]
  staticTypes := #[]
  resolved := Array.replicate 12 none
  statics := none }

def pool4 : Array CpInfo := pool [(2, .class_ 4), (1, u "java/lang/CharSequence"), (42, .class_ 48), (0, u "java/lang/CharSequence$1CodePointIterator"), (10, .class_ 60), (0, u "java/lang/CharSequence$1CharIterator"), (5, .class_ 67), (0, u "java/lang/Object")] 63

/-- java/lang/CharSequence -/
def k4 : Class := { plain "java/lang/CharSequence" (some 0) with
  accessFlags := 1537
  interfaces := #[]
  cf := some (fileOf pool4 2 #[.nestMembers #[47, 59]] #[] 1537 66 #[] #[])
  fields := #[]
  methods := #[]
  instanceTypes := #[]
  staticTypes := #[]
  resolved := Array.replicate 131 none
  statics := none }

def pool5 : Array CpInfo := pool [(1, .class_ 2), (0, u "java/lang/constant/Constable"), (0, .class_ 4), (0, u "java/lang/Object")] 6

/-- java/lang/constant/Constable -/
def k5 : Class := { plain "java/lang/constant/Constable" (some 0) with
  accessFlags := 1537
  interfaces := #[]
  cf := some (fileOf pool5 1 #[] #[] 1537 3 #[] #[])
  fields := #[]
  methods := #[]
  instanceTypes := #[]
  staticTypes := #[]
  resolved := Array.replicate 11 none
  statics := none }

def pool6 : Array CpInfo := pool [(1, .class_ 2), (0, u "java/lang/constant/ConstantDesc"), (0, .class_ 4), (0, u "java/lang/Object")] 32

/-- java/lang/constant/ConstantDesc -/
def k6 : Class := { plain "java/lang/constant/ConstantDesc" (some 0) with
  accessFlags := 1537
  interfaces := #[]
  cf := some (fileOf pool6 1 #[] #[] 1537 3 #[] #[])
  fields := #[]
  methods := #[]
  instanceTypes := #[]
  staticTypes := #[]
  resolved := Array.replicate 37 none
  statics := none }

def pool7 : Array CpInfo := pool [(1, .methodref 2 3), (0, .class_ 4), (0, .nameAndType 5 6), (0, u "java/lang/Object"), (0, u "<init>"), (0, u "()V"), (0, .string 8), (0, u ""), (0, .fieldref 10 11), (0, .class_ 12), (0, .nameAndType 13 14), (0, u "java/lang/String"), (0, u "value"), (0, u "[B"), (0, .fieldref 10 16), (0, .nameAndType 17 18), (0, u "coder"), (0, u "B"), (2, u "hash"), (0, u "I"), (2, u "hashIsZero"), (0, u "Z"), (0, .methodref 10 28), (0, .nameAndType 5 29), (0, u "([CIILjava/lang/Void;)V"), (8, .fieldref 10 39), (0, .nameAndType 40 26), (0, u "COMPACT_STRINGS"), (1, .class_ 44), (1, u "java/lang/StringUTF16"), (0, u "compress"), (1, .methodref 42 48), (0, .nameAndType 49 50), (0, u "coderFromArrayLen"), (0, u "([BI)B"), (56, .class_ 109), (1, u "java/lang/StringLatin1"), (67, .methodref 42 178), (0, .nameAndType 45 179), (0, u "([CII)[B"), (361, .methodref 107 542), (0, .nameAndType 543 544), (0, u "equals"), (0, u "([B[B)Z"), (28, u "(Ljava/lang/Object;)Z"), (1, .class_ 576), (0, u "java/lang/CharSequence"), (22, u "CASE_INSENSITIVE_ORDER"), (0, u "Ljava/util/Comparator;"), (409, u "([C)V"), (90, u "serialPersistentFields"), (0, u "[Ljava/io/ObjectStreamField;"), (0, .class_ 1104), (0, u "java/lang/String$CaseInsensitiveComparator"), (1, .class_ 1107), (0, u "java/io/Serializable"), (0, .class_ 1109), (0, u "java/lang/Comparable"), (0, .class_ 1111), (0, u "java/lang/constant/Constable"), (0, .class_ 1113), (0, u "java/lang/constant/ConstantDesc"), (2, u "serialVersionUID"), (0, u "J"), (3, u "REPL"), (0, u "C"), (2, u "LATIN1"), (1, u "UTF16")] 323

def k7m0 : Method := { name := "<init>", desc := "()V", sig := { parameters := [], returnType := none }, accessFlags := 1, code := none }
def k7c1 : Code := { maxStack := 5, maxLocals := 2, code := jdk_42_method_3_code, exceptionTable := #[], attributes := #[] }
def k7m1 : Method := { name := "<init>", desc := "([C)V", sig := { parameters := [(.array .char)], returnType := none }, accessFlags := 1, code := some k7c1 }
def k7c2 : Code := { maxStack := 2, maxLocals := 3, code := jdk_42_method_66_code, exceptionTable := #[], attributes := #[] }
def k7m2 : Method := { name := "equals", desc := "(Ljava/lang/Object;)Z", sig := { parameters := [(.object "java/lang/Object")], returnType := some .boolean }, accessFlags := 1, code := some k7c2 }
def k7c3 : Code := { maxStack := 4, maxLocals := 6, code := jdk_42_method_149_code, exceptionTable := #[], attributes := #[] }
def k7m3 : Method := { name := "<init>", desc := "([CIILjava/lang/Void;)V", sig := { parameters := [(.array .char), .int, .int, (.object "java/lang/Void")], returnType := none }, accessFlags := 2, code := some k7c3 }
/-- java/lang/String -/
def k7 : Class := { plain "java/lang/String" (some 0) with
  accessFlags := 49
  interfaces := #[2, 3, 4, 5, 6]
  cf := some (fileOf pool7 10 #[.nestMembers #[1103]] #[{ accessFlags := 1, nameIndex := 5, descriptorIndex := 6, attributes := #[] }, { accessFlags := 1, nameIndex := 5, descriptorIndex := 1010, attributes := #[] }, { accessFlags := 1, nameIndex := 543, descriptorIndex := 573, attributes := #[] }, { accessFlags := 2, nameIndex := 5, descriptorIndex := 29, attributes := #[] }] 49 2 #[1106, 1108, 575, 1110, 1112] #[{ accessFlags := 18, nameIndex := 13, descriptorIndex := 14, attributes := #[] }, { accessFlags := 18, nameIndex := 17, descriptorIndex := 18, attributes := #[] }, { accessFlags := 2, nameIndex := 21, descriptorIndex := 22, attributes := #[] }, { accessFlags := 2, nameIndex := 25, descriptorIndex := 26, attributes := #[] }, { accessFlags := 26, nameIndex := 1116, descriptorIndex := 1117, attributes := #[] }, { accessFlags := 24, nameIndex := 40, descriptorIndex := 26, attributes := #[] }, { accessFlags := 26, nameIndex := 1101, descriptorIndex := 1102, attributes := #[] }, { accessFlags := 26, nameIndex := 1121, descriptorIndex := 1122, attributes := #[] }, { accessFlags := 25, nameIndex := 599, descriptorIndex := 600, attributes := #[] }, { accessFlags := 24, nameIndex := 1125, descriptorIndex := 18, attributes := #[] }, { accessFlags := 24, nameIndex := 1127, descriptorIndex := 18, attributes := #[] }])
  fields := #[{ name := "value", type := (.array .byte), accessFlags := 18, slot := 0, constantValue := 0 }, { name := "coder", type := .byte, accessFlags := 18, slot := 1, constantValue := 0 }, { name := "hash", type := .int, accessFlags := 2, slot := 2, constantValue := 0 }, { name := "hashIsZero", type := .boolean, accessFlags := 2, slot := 3, constantValue := 0 }, { name := "serialVersionUID", type := .long, accessFlags := 26, slot := 0, constantValue := 0 }, { name := "COMPACT_STRINGS", type := .boolean, accessFlags := 24, slot := 1, constantValue := 0 }, { name := "serialPersistentFields", type := (.array (.object "java/io/ObjectStreamField")), accessFlags := 26, slot := 2, constantValue := 0 }, { name := "REPL", type := .char, accessFlags := 26, slot := 3, constantValue := 0 }, { name := "CASE_INSENSITIVE_ORDER", type := (.object "java/util/Comparator"), accessFlags := 25, slot := 4, constantValue := 0 }, { name := "LATIN1", type := .byte, accessFlags := 24, slot := 5, constantValue := 0 }, { name := "UTF16", type := .byte, accessFlags := 24, slot := 6, constantValue := 0 }]
  methods := #[k7m0, k7m1, k7m2, k7m3]
  instanceTypes := #[(.array .byte), .byte, .int, .boolean]
  staticTypes := #[.long, .boolean, (.array (.object "java/io/ObjectStreamField")), .char, (.object "java/util/Comparator"), .byte, .byte]
  resolved := Array.replicate 1451 none
  statics := some 0 }

def pool8 : Array CpInfo := pool [(1, .methodref 2 3), (0, .class_ 4), (0, .nameAndType 5 6), (0, u "java/lang/Object"), (0, u "<init>"), (0, u "()V"), (0, .class_ 8), (0, u "java/lang/Record")] 13

def k8c0 : Code := { maxStack := 1, maxLocals := 1, code := jdk_30_method_1_code, exceptionTable := #[], attributes := #[] }
def k8m0 : Method := { name := "<init>", desc := "()V", sig := { parameters := [], returnType := none }, accessFlags := 4, code := some k8c0 }
/-- java/lang/Record -/
def k8 : Class := { plain "java/lang/Record" (some 0) with
  accessFlags := 1057
  interfaces := #[]
  cf := some (fileOf pool8 7 #[] #[{ accessFlags := 4, nameIndex := 5, descriptorIndex := 6, attributes := #[] }] 1057 2 #[] #[])
  fields := #[]
  methods := #[k8m0]
  instanceTypes := #[]
  staticTypes := #[]
  resolved := Array.replicate 22 none
  statics := none }

def pool9 : Array CpInfo := pool [(1, .methodref 2 3), (0, .class_ 4), (0, .nameAndType 5 6), (0, u "java/lang/Record"), (0, u "<init>"), (0, u "()V"), (0, .fieldref 8 9), (0, .class_ 10), (0, .nameAndType 11 12), (0, u "com/example/pass3/pass3/Token"), (0, u "kind"), (0, u "Lcom/example/pass3/pass3/Token$Kind;"), (0, .fieldref 8 14), (0, .nameAndType 15 16), (0, u "text"), (0, u "Ljava/lang/String;"), (0, .fieldref 8 18), (0, .nameAndType 19 20), (0, u "position"), (0, u "Lcom/example/pass3/pass3/Position;"), (0, .methodref 22 23), (0, .class_ 24), (0, .nameAndType 25 26), (0, u "java/lang/String"), (0, u "equals"), (0, u "(Ljava/lang/Object;)Z"), (1, .class_ 30), (1, u "com/example/pass3/pass3/Token$Kind"), (18, u "(Lcom/example/pass3/pass3/Token$Kind;Ljava/lang/String;Lcom/example/pass3/pass3/Position;)V"), (3, u "is"), (0, u "(Lcom/example/pass3/pass3/Token$Kind;Ljava/lang/String;)Z")] 38

def k9c0 : Code := { maxStack := 2, maxLocals := 4, code := prog_77_method_1_code, exceptionTable := #[], attributes := #[] }
def k9m0 : Method := { name := "<init>", desc := "(Lcom/example/pass3/pass3/Token$Kind;Ljava/lang/String;Lcom/example/pass3/pass3/Position;)V", sig := { parameters := [(.object "com/example/pass3/pass3/Token$Kind"), (.object "java/lang/String"), (.object "com/example/pass3/pass3/Position")], returnType := none }, accessFlags := 0, code := some k9c0 }
def k9c1 : Code := { maxStack := 2, maxLocals := 3, code := prog_77_method_2_code, exceptionTable := #[], attributes := #[] }
def k9m1 : Method := { name := "is", desc := "(Lcom/example/pass3/pass3/Token$Kind;Ljava/lang/String;)Z", sig := { parameters := [(.object "com/example/pass3/pass3/Token$Kind"), (.object "java/lang/String")], returnType := some .boolean }, accessFlags := 0, code := some k9c1 }
/-- com/example/pass3/pass3/Token -/
def k9 : Class := { plain "com/example/pass3/pass3/Token" (some 8) with
  accessFlags := 48
  interfaces := #[]
  cf := some (fileOf pool9 8 #[.nestMembers #[28]] #[{ accessFlags := 0, nameIndex := 5, descriptorIndex := 49, attributes := #[] }, { accessFlags := 0, nameIndex := 53, descriptorIndex := 54, attributes := #[] }] 48 2 #[] #[{ accessFlags := 18, nameIndex := 11, descriptorIndex := 12, attributes := #[] }, { accessFlags := 18, nameIndex := 15, descriptorIndex := 16, attributes := #[] }, { accessFlags := 18, nameIndex := 19, descriptorIndex := 20, attributes := #[] }])
  fields := #[{ name := "kind", type := (.object "com/example/pass3/pass3/Token$Kind"), accessFlags := 18, slot := 0, constantValue := 0 }, { name := "text", type := (.object "java/lang/String"), accessFlags := 18, slot := 1, constantValue := 0 }, { name := "position", type := (.object "com/example/pass3/pass3/Position"), accessFlags := 18, slot := 2, constantValue := 0 }]
  methods := #[k9m0, k9m1]
  instanceTypes := #[(.object "com/example/pass3/pass3/Token$Kind"), (.object "java/lang/String"), (.object "com/example/pass3/pass3/Position")]
  staticTypes := #[]
  resolved := Array.replicate 93 none
  statics := none }

def pool10 : Array CpInfo := pool [(2, .class_ 4), (1, u "java/lang/Enum"), (0, u "name"), (0, u "Ljava/lang/String;"), (2, u "ordinal"), (0, u "I"), (1, .class_ 14), (1, u "java/lang/Object"), (4, u "hash"), (86, .class_ 108), (1, u "java/lang/Enum$EnumDesc"), (2, .class_ 112), (0, u "java/lang/constant/Constable"), (0, .class_ 114), (0, u "java/lang/Comparable"), (0, .class_ 116), (0, u "java/io/Serializable")] 87

/-- java/lang/Enum -/
def k10 : Class := { plain "java/lang/Enum" (some 0) with
  accessFlags := 1057
  interfaces := #[5, 3, 2]
  cf := some (fileOf pool10 2 #[.nestMembers #[106]] #[] 1057 12 #[111, 113, 115] #[{ accessFlags := 18, nameIndex := 5, descriptorIndex := 6, attributes := #[] }, { accessFlags := 18, nameIndex := 9, descriptorIndex := 10, attributes := #[] }, { accessFlags := 2, nameIndex := 19, descriptorIndex := 10, attributes := #[] }])
  fields := #[{ name := "name", type := (.object "java/lang/String"), accessFlags := 18, slot := 0, constantValue := 0 }, { name := "ordinal", type := .int, accessFlags := 18, slot := 1, constantValue := 0 }, { name := "hash", type := .int, accessFlags := 2, slot := 2, constantValue := 0 }]
  methods := #[]
  instanceTypes := #[(.object "java/lang/String"), .int, .int]
  staticTypes := #[]
  resolved := Array.replicate 204 none
  statics := none }

def pool11 : Array CpInfo := pool [(1, .class_ 2), (0, u "com/example/pass3/pass3/Token$Kind"), (2, u "IDENTIFIER"), (0, u "Lcom/example/pass3/pass3/Token$Kind;"), (2, u "KEYWORD"), (2, u "INT"), (2, u "FLOAT"), (2, u "SYMBOL"), (2, u "QUOTE"), (2, u "TEXT"), (2, u "PLACEHOLDER"), (2, u "CLOSE"), (2, u "END"), (2, u "REFUSED"), (2, u "$VALUES"), (0, u "[Lcom/example/pass3/pass3/Token$Kind;"), (6, .class_ 49), (1, u "java/lang/Enum"), (34, .class_ 85), (0, u "com/example/pass3/pass3/Token")] 2

/-- com/example/pass3/pass3/Token$Kind -/
def k11 : Class := { plain "com/example/pass3/pass3/Token$Kind" (some 10) with
  accessFlags := 16432
  interfaces := #[]
  cf := some (fileOf pool11 1 #[.nestHost 84] #[] 16432 47 #[] #[{ accessFlags := 16409, nameIndex := 5, descriptorIndex := 6, attributes := #[] }, { accessFlags := 16409, nameIndex := 9, descriptorIndex := 6, attributes := #[] }, { accessFlags := 16409, nameIndex := 12, descriptorIndex := 6, attributes := #[] }, { accessFlags := 16409, nameIndex := 15, descriptorIndex := 6, attributes := #[] }, { accessFlags := 16409, nameIndex := 18, descriptorIndex := 6, attributes := #[] }, { accessFlags := 16409, nameIndex := 21, descriptorIndex := 6, attributes := #[] }, { accessFlags := 16409, nameIndex := 24, descriptorIndex := 6, attributes := #[] }, { accessFlags := 16409, nameIndex := 27, descriptorIndex := 6, attributes := #[] }, { accessFlags := 16409, nameIndex := 30, descriptorIndex := 6, attributes := #[] }, { accessFlags := 16409, nameIndex := 33, descriptorIndex := 6, attributes := #[] }, { accessFlags := 16409, nameIndex := 36, descriptorIndex := 6, attributes := #[] }, { accessFlags := 4122, nameIndex := 39, descriptorIndex := 40, attributes := #[] }])
  fields := #[{ name := "IDENTIFIER", type := (.object "com/example/pass3/pass3/Token$Kind"), accessFlags := 16409, slot := 0, constantValue := 0 }, { name := "KEYWORD", type := (.object "com/example/pass3/pass3/Token$Kind"), accessFlags := 16409, slot := 1, constantValue := 0 }, { name := "INT", type := (.object "com/example/pass3/pass3/Token$Kind"), accessFlags := 16409, slot := 2, constantValue := 0 }, { name := "FLOAT", type := (.object "com/example/pass3/pass3/Token$Kind"), accessFlags := 16409, slot := 3, constantValue := 0 }, { name := "SYMBOL", type := (.object "com/example/pass3/pass3/Token$Kind"), accessFlags := 16409, slot := 4, constantValue := 0 }, { name := "QUOTE", type := (.object "com/example/pass3/pass3/Token$Kind"), accessFlags := 16409, slot := 5, constantValue := 0 }, { name := "TEXT", type := (.object "com/example/pass3/pass3/Token$Kind"), accessFlags := 16409, slot := 6, constantValue := 0 }, { name := "PLACEHOLDER", type := (.object "com/example/pass3/pass3/Token$Kind"), accessFlags := 16409, slot := 7, constantValue := 0 }, { name := "CLOSE", type := (.object "com/example/pass3/pass3/Token$Kind"), accessFlags := 16409, slot := 8, constantValue := 0 }, { name := "END", type := (.object "com/example/pass3/pass3/Token$Kind"), accessFlags := 16409, slot := 9, constantValue := 0 }, { name := "REFUSED", type := (.object "com/example/pass3/pass3/Token$Kind"), accessFlags := 16409, slot := 10, constantValue := 0 }, { name := "$VALUES", type := (.array (.object "com/example/pass3/pass3/Token$Kind")), accessFlags := 4122, slot := 11, constantValue := 0 }]
  methods := #[]
  instanceTypes := #[(.object "java/lang/String"), .int, .int]
  staticTypes := #[(.object "com/example/pass3/pass3/Token$Kind"), (.object "com/example/pass3/pass3/Token$Kind"), (.object "com/example/pass3/pass3/Token$Kind"), (.object "com/example/pass3/pass3/Token$Kind"), (.object "com/example/pass3/pass3/Token$Kind"), (.object "com/example/pass3/pass3/Token$Kind"), (.object "com/example/pass3/pass3/Token$Kind"), (.object "com/example/pass3/pass3/Token$Kind"), (.object "com/example/pass3/pass3/Token$Kind"), (.object "com/example/pass3/pass3/Token$Kind"), (.object "com/example/pass3/pass3/Token$Kind"), (.array (.object "com/example/pass3/pass3/Token$Kind"))]
  resolved := Array.replicate 88 none
  statics := some 1 }

def pool12 : Array CpInfo := pool [(1, .methodref 2 3), (0, .class_ 4), (0, .nameAndType 5 6), (0, u "java/lang/Record"), (0, u "<init>"), (0, u "()V"), (0, .fieldref 8 9), (0, .class_ 10), (0, .nameAndType 11 12), (0, u "com/example/pass3/pass3/Position"), (0, u "line"), (0, u "I"), (0, .fieldref 8 14), (0, .nameAndType 15 12), (0, u "column"), (12, u "(II)V")] 27

def k12c0 : Code := { maxStack := 2, maxLocals := 3, code := prog_51_method_1_code, exceptionTable := #[], attributes := #[] }
def k12m0 : Method := { name := "<init>", desc := "(II)V", sig := { parameters := [.int, .int], returnType := none }, accessFlags := 1, code := some k12c0 }
/-- com/example/pass3/pass3/Position -/
def k12 : Class := { plain "com/example/pass3/pass3/Position" (some 8) with
  accessFlags := 49
  interfaces := #[]
  cf := some (fileOf pool12 8 #[] #[{ accessFlags := 1, nameIndex := 5, descriptorIndex := 28, attributes := #[] }] 49 2 #[] #[{ accessFlags := 18, nameIndex := 11, descriptorIndex := 12, attributes := #[] }, { accessFlags := 18, nameIndex := 15, descriptorIndex := 12, attributes := #[] }])
  fields := #[{ name := "line", type := .int, accessFlags := 18, slot := 0, constantValue := 0 }, { name := "column", type := .int, accessFlags := 18, slot := 1, constantValue := 0 }]
  methods := #[k12m0]
  instanceTypes := #[.int, .int]
  staticTypes := #[]
  resolved := Array.replicate 56 none
  statics := none }

def pool13 : Array CpInfo := pool [(4, .class_ 6), (1, u "java/lang/Object"), (0, u "<init>"), (0, u "()V"), (5, .class_ 16), (1, u "java/lang/StringLatin1"), (104, u "$assertionsDisabled"), (0, u "Z"), (98, .class_ 223), (1, u "java/lang/StringLatin1$LinesSpliterator"), (57, u "equals"), (0, u "([B[B)Z"), (107, .class_ 391), (0, u "java/lang/StringLatin1$CharsSpliterator")] 3

def k13m0 : Method := { name := "<init>", desc := "()V", sig := { parameters := [], returnType := none }, accessFlags := 0, code := none }
def k13c1 : Code := { maxStack := 3, maxLocals := 3, code := jdk_43_method_13_code, exceptionTable := #[], attributes := #[] }
def k13m1 : Method := { name := "equals", desc := "([B[B)Z", sig := { parameters := [(.array .byte), (.array .byte)], returnType := some .boolean }, accessFlags := 9, code := some k13c1 }
/-- java/lang/StringLatin1 -/
def k13 : Class := { plain "java/lang/StringLatin1" (some 0) with
  accessFlags := 48
  interfaces := #[]
  cf := some (fileOf pool13 14 #[.nestMembers #[390, 221]] #[{ accessFlags := 0, nameIndex := 7, descriptorIndex := 8, attributes := #[] }, { accessFlags := 9, nameIndex := 281, descriptorIndex := 282, attributes := #[] }] 48 4 #[] #[{ accessFlags := 4120, nameIndex := 121, descriptorIndex := 122, attributes := #[] }])
  fields := #[{ name := "$assertionsDisabled", type := .boolean, accessFlags := 4120, slot := 0, constantValue := 0 }]
  methods := #[k13m0, k13m1]
  instanceTypes := #[]
  staticTypes := #[.boolean]
  resolved := Array.replicate 395 none
  statics := none }

def pool14 : Array CpInfo := pool [(6, .class_ 8), (1, u "java/lang/Object"), (0, u "<init>"), (0, u "()V"), (1, .class_ 14), (1, u "java/lang/StringUTF16"), (31, u "$assertionsDisabled"), (0, u "Z"), (13, u "HI_BYTE_SHIFT"), (0, u "I"), (2, u "LO_BYTE_SHIFT"), (49, .methodref 12 116), (0, .nameAndType 117 118), (0, u "compress"), (0, u "([CI[BII)I"), (3, u "([CII)[B"), (138, u "coderFromArrayLen"), (0, u "([BI)B"), (106, .class_ 371), (1, u "java/lang/StringUTF16$LinesSpliterator"), (58, u "MAX_LENGTH"), (196, .class_ 628), (0, u "java/lang/StringUTF16$CodePointsSpliterator"), (0, .class_ 630), (0, u "java/lang/StringUTF16$CharsSpliterator")] 4

def k14m0 : Method := { name := "<init>", desc := "()V", sig := { parameters := [], returnType := none }, accessFlags := 0, code := none }
def k14c1 : Code := { maxStack := 2, maxLocals := 2, code := jdk_52_method_15_code, exceptionTable := #[], attributes := #[] }
def k14m1 : Method := { name := "coderFromArrayLen", desc := "([BI)B", sig := { parameters := [(.array .byte), .int], returnType := some .byte }, accessFlags := 8, code := some k14c1 }
def k14c2 : Code := { maxStack := 5, maxLocals := 6, code := jdk_52_method_16_code, exceptionTable := #[], attributes := #[] }
def k14m2 : Method := { name := "compress", desc := "([CII)[B", sig := { parameters := [(.array .char), .int, .int], returnType := some (.array .byte) }, accessFlags := 9, code := some k14c2 }
def k14c3 : Code := { maxStack := 3, maxLocals := 7, code := jdk_52_method_21_code, exceptionTable := #[], attributes := #[] }
def k14m3 : Method := { name := "compress", desc := "([CI[BII)I", sig := { parameters := [(.array .char), .int, (.array .byte), .int, .int], returnType := some .int }, accessFlags := 9, code := some k14c3 }
/-- java/lang/StringUTF16 -/
def k14 : Class := { plain "java/lang/StringUTF16" (some 0) with
  accessFlags := 48
  interfaces := #[]
  cf := some (fileOf pool14 12 #[.nestMembers #[627, 629, 369]] #[{ accessFlags := 0, nameIndex := 9, descriptorIndex := 10, attributes := #[] }, { accessFlags := 8, nameIndex := 261, descriptorIndex := 262, attributes := #[] }, { accessFlags := 9, nameIndex := 117, descriptorIndex := 122, attributes := #[] }, { accessFlags := 9, nameIndex := 117, descriptorIndex := 118, attributes := #[] }] 48 6 #[] #[{ accessFlags := 26, nameIndex := 61, descriptorIndex := 62, attributes := #[] }, { accessFlags := 26, nameIndex := 65, descriptorIndex := 62, attributes := #[] }, { accessFlags := 24, nameIndex := 430, descriptorIndex := 62, attributes := #[] }, { accessFlags := 4120, nameIndex := 46, descriptorIndex := 47, attributes := #[] }])
  fields := #[{ name := "HI_BYTE_SHIFT", type := .int, accessFlags := 26, slot := 0, constantValue := 0 }, { name := "LO_BYTE_SHIFT", type := .int, accessFlags := 26, slot := 1, constantValue := 0 }, { name := "MAX_LENGTH", type := .int, accessFlags := 24, slot := 2, constantValue := 0 }, { name := "$assertionsDisabled", type := .boolean, accessFlags := 4120, slot := 3, constantValue := 0 }]
  methods := #[k14m0, k14m1, k14m2, k14m3]
  instanceTypes := #[]
  staticTypes := #[.int, .int, .int, .boolean]
  resolved := Array.replicate 635 none
  statics := none }

def pool15 : Array CpInfo := pool [(2, .class_ 4), (1, u "java/lang/Object"), (0, u "<init>"), (0, u "()V"), (17, .class_ 26), (1, u "jdk/internal/util/Preconditions"), (28, .class_ 56), (0, u "jdk/internal/util/Preconditions$4"), (57, .class_ 115), (0, u "jdk/internal/util/Preconditions$1"), (7, u "SIOOBE_FORMATTER"), (0, u "Ljava/util/function/BiFunction;"), (0, .class_ 126), (0, u "jdk/internal/util/Preconditions$2"), (3, u "AIOOBE_FORMATTER"), (0, .class_ 132), (0, u "jdk/internal/util/Preconditions$3"), (3, u "IOOBE_FORMATTER")] 57

def k15m0 : Method := { name := "<init>", desc := "()V", sig := { parameters := [], returnType := none }, accessFlags := 1, code := none }
/-- jdk/internal/util/Preconditions -/
def k15 : Class := { plain "jdk/internal/util/Preconditions" (some 0) with
  accessFlags := 33
  interfaces := #[]
  cf := some (fileOf pool15 24 #[.nestMembers #[55, 131, 125, 114]] #[{ accessFlags := 1, nameIndex := 5, descriptorIndex := 6, attributes := #[] }] 33 2 #[] #[{ accessFlags := 25, nameIndex := 123, descriptorIndex := 124, attributes := #[] }, { accessFlags := 25, nameIndex := 130, descriptorIndex := 124, attributes := #[] }, { accessFlags := 25, nameIndex := 136, descriptorIndex := 124, attributes := #[] }])
  fields := #[{ name := "SIOOBE_FORMATTER", type := (.object "java/util/function/BiFunction"), accessFlags := 25, slot := 0, constantValue := 0 }, { name := "AIOOBE_FORMATTER", type := (.object "java/util/function/BiFunction"), accessFlags := 25, slot := 1, constantValue := 0 }, { name := "IOOBE_FORMATTER", type := (.object "java/util/function/BiFunction"), accessFlags := 25, slot := 2, constantValue := 0 }]
  methods := #[k15m0]
  instanceTypes := #[]
  staticTypes := #[(.object "java/util/function/BiFunction"), (.object "java/util/function/BiFunction"), (.object "java/util/function/BiFunction")]
  resolved := Array.replicate 194 none
  statics := some 2 }

def pool16 : Array CpInfo := pool [(9, u "<init>"), (6, .class_ 18), (1, u "java/lang/Object"), (0, u "()V"), (1, .class_ 23), (1, u "jdk/internal/util/ArraysSupport"), (0, u "LOG2_ARRAY_LONG_INDEX_SCALE"), (0, u "I"), (2, u "U"), (0, u "Ljdk/internal/misc/Unsafe;"), (8, u "BIG_ENDIAN"), (0, u "Z"), (8, u "LOG2_BYTE_BIT_SIZE"), (4, u "LOG2_ARRAY_INT_INDEX_SCALE"), (54, u "JLA"), (0, u "Ljdk/internal/access/JavaLangAccess;"), (11, u "LOG2_ARRAY_BOOLEAN_INDEX_SCALE"), (9, u "LOG2_ARRAY_BYTE_INDEX_SCALE"), (5, u "LOG2_ARRAY_CHAR_INDEX_SCALE"), (5, u "LOG2_ARRAY_SHORT_INDEX_SCALE"), (18, u "LOG2_ARRAY_FLOAT_INDEX_SCALE"), (24, u "LOG2_ARRAY_DOUBLE_INDEX_SCALE"), (89, u "T_BOOLEAN"), (2, u "T_CHAR"), (1, u "T_FLOAT"), (1, u "T_DOUBLE"), (1, u "T_BYTE"), (1, u "T_SHORT"), (1, u "T_INT"), (1, u "T_LONG"), (1, u "SOFT_MAX_ARRAY_LENGTH")] 83

def k16m0 : Method := { name := "<init>", desc := "()V", sig := { parameters := [], returnType := none }, accessFlags := 2, code := none }
/-- jdk/internal/util/ArraysSupport -/
def k16 : Class := { plain "jdk/internal/util/ArraysSupport" (some 0) with
  accessFlags := 33
  interfaces := #[]
  cf := some (fileOf pool16 21 #[] #[{ accessFlags := 2, nameIndex := 9, descriptorIndex := 19, attributes := #[] }] 33 16 #[] #[{ accessFlags := 24, nameIndex := 28, descriptorIndex := 29, attributes := #[] }, { accessFlags := 26, nameIndex := 38, descriptorIndex := 39, attributes := #[] }, { accessFlags := 25, nameIndex := 121, descriptorIndex := 25, attributes := #[] }, { accessFlags := 25, nameIndex := 131, descriptorIndex := 25, attributes := #[] }, { accessFlags := 25, nameIndex := 137, descriptorIndex := 25, attributes := #[] }, { accessFlags := 25, nameIndex := 143, descriptorIndex := 25, attributes := #[] }, { accessFlags := 25, nameIndex := 53, descriptorIndex := 25, attributes := #[] }, { accessFlags := 25, nameIndex := 24, descriptorIndex := 25, attributes := #[] }, { accessFlags := 25, nameIndex := 162, descriptorIndex := 25, attributes := #[] }, { accessFlags := 25, nameIndex := 187, descriptorIndex := 25, attributes := #[] }, { accessFlags := 26, nameIndex := 48, descriptorIndex := 25, attributes := #[] }, { accessFlags := 25, nameIndex := 277, descriptorIndex := 25, attributes := #[] }, { accessFlags := 25, nameIndex := 280, descriptorIndex := 25, attributes := #[] }, { accessFlags := 25, nameIndex := 282, descriptorIndex := 25, attributes := #[] }, { accessFlags := 25, nameIndex := 284, descriptorIndex := 25, attributes := #[] }, { accessFlags := 25, nameIndex := 286, descriptorIndex := 25, attributes := #[] }, { accessFlags := 25, nameIndex := 288, descriptorIndex := 25, attributes := #[] }, { accessFlags := 25, nameIndex := 290, descriptorIndex := 25, attributes := #[] }, { accessFlags := 25, nameIndex := 292, descriptorIndex := 25, attributes := #[] }, { accessFlags := 26, nameIndex := 108, descriptorIndex := 109, attributes := #[] }, { accessFlags := 25, nameIndex := 294, descriptorIndex := 25, attributes := #[] }])
  fields := #[{ name := "U", type := (.object "jdk/internal/misc/Unsafe"), accessFlags := 24, slot := 0, constantValue := 0 }, { name := "BIG_ENDIAN", type := .boolean, accessFlags := 26, slot := 1, constantValue := 0 }, { name := "LOG2_ARRAY_BOOLEAN_INDEX_SCALE", type := .int, accessFlags := 25, slot := 2, constantValue := 0 }, { name := "LOG2_ARRAY_BYTE_INDEX_SCALE", type := .int, accessFlags := 25, slot := 3, constantValue := 0 }, { name := "LOG2_ARRAY_CHAR_INDEX_SCALE", type := .int, accessFlags := 25, slot := 4, constantValue := 0 }, { name := "LOG2_ARRAY_SHORT_INDEX_SCALE", type := .int, accessFlags := 25, slot := 5, constantValue := 0 }, { name := "LOG2_ARRAY_INT_INDEX_SCALE", type := .int, accessFlags := 25, slot := 6, constantValue := 0 }, { name := "LOG2_ARRAY_LONG_INDEX_SCALE", type := .int, accessFlags := 25, slot := 7, constantValue := 0 }, { name := "LOG2_ARRAY_FLOAT_INDEX_SCALE", type := .int, accessFlags := 25, slot := 8, constantValue := 0 }, { name := "LOG2_ARRAY_DOUBLE_INDEX_SCALE", type := .int, accessFlags := 25, slot := 9, constantValue := 0 }, { name := "LOG2_BYTE_BIT_SIZE", type := .int, accessFlags := 26, slot := 10, constantValue := 0 }, { name := "T_BOOLEAN", type := .int, accessFlags := 25, slot := 11, constantValue := 0 }, { name := "T_CHAR", type := .int, accessFlags := 25, slot := 12, constantValue := 0 }, { name := "T_FLOAT", type := .int, accessFlags := 25, slot := 13, constantValue := 0 }, { name := "T_DOUBLE", type := .int, accessFlags := 25, slot := 14, constantValue := 0 }, { name := "T_BYTE", type := .int, accessFlags := 25, slot := 15, constantValue := 0 }, { name := "T_SHORT", type := .int, accessFlags := 25, slot := 16, constantValue := 0 }, { name := "T_INT", type := .int, accessFlags := 25, slot := 17, constantValue := 0 }, { name := "T_LONG", type := .int, accessFlags := 25, slot := 18, constantValue := 0 }, { name := "JLA", type := (.object "jdk/internal/access/JavaLangAccess"), accessFlags := 26, slot := 19, constantValue := 0 }, { name := "SOFT_MAX_ARRAY_LENGTH", type := .int, accessFlags := 25, slot := 20, constantValue := 0 }]
  methods := #[k16m0]
  instanceTypes := #[]
  staticTypes := #[(.object "jdk/internal/misc/Unsafe"), .boolean, .int, .int, .int, .int, .int, .int, .int, .int, .int, .int, .int, .int, .int, .int, .int, .int, .int, (.object "jdk/internal/access/JavaLangAccess"), .int]
  resolved := Array.replicate 378 none
  statics := none }

def pool17 : Array CpInfo := pool [(1, u "java/lang/Cloneable"), (0, .class_ 1), (0, u "java/lang/Object"), (0, .class_ 3)] 3

/-- java/lang/Cloneable -/
def k17 : Class := { plain "java/lang/Cloneable" (some 0) with
  accessFlags := 1537
  interfaces := #[]
  cf := some (fileOf pool17 2 #[] #[] 1537 4 #[] #[])
  fields := #[]
  methods := #[]
  instanceTypes := #[]
  staticTypes := #[]
  resolved := Array.replicate 8 none
  statics := none }

/-- the primitive byte -/
def k18 : Class := { plain "byte" none with kind := .primitive 'B', accessFlags := 0x411 }
/-- [B -/
def k19 : Class := { plain "[B" (some 0) with kind := .array 18 .byte, interfaces := #[17, 2], accessFlags := 1041 }

/-- the primitive char -/
def k20 : Class := { plain "char" none with kind := .primitive 'C', accessFlags := 0x411 }
/-- [C -/
def k21 : Class := { plain "[C" (some 0) with kind := .array 20 .char, interfaces := #[17, 2], accessFlags := 1041 }

/-- the primitive int -/
def k22 : Class := { plain "int" none with kind := .primitive 'I', accessFlags := 0x411 }
/-- [I -/
def k23 : Class := { plain "[I" (some 0) with kind := .array 22 .int, interfaces := #[17, 2], accessFlags := 1041 }

def heap : Heap := #[{ cls := 7, slots := #[.long 0, .int 1, .null, .int 0, .null, .int 0, .int 0], vm := .statics 7 },
  { cls := 11, slots := #[.ref 3, .ref 4, .ref 5, .ref 6, .ref 7, .ref 8, .ref 9, .ref 10, .ref 11, .ref 12, .ref 13, .null], vm := .statics 11 },
  { cls := 15, slots := #[.null, .null, .null], vm := .statics 15 },
  { cls := 11, slots := #[.null, .int 0, .int 0], vm := .none },
  { cls := 11, slots := #[.null, .int 1, .int 0], vm := .none },
  { cls := 11, slots := #[.null, .int 2, .int 0], vm := .none },
  { cls := 11, slots := #[.null, .int 3, .int 0], vm := .none },
  { cls := 11, slots := #[.null, .int 4, .int 0], vm := .none },
  { cls := 11, slots := #[.null, .int 5, .int 0], vm := .none },
  { cls := 11, slots := #[.null, .int 6, .int 0], vm := .none },
  { cls := 11, slots := #[.null, .int 7, .int 0], vm := .none },
  { cls := 11, slots := #[.null, .int 8, .int 0], vm := .none },
  { cls := 11, slots := #[.null, .int 9, .int 0], vm := .none },
  { cls := 11, slots := #[.null, .int 10, .int 0], vm := .none }]
def classes : Array Class := #[k0, k1, k2, k3, k4, k5, k6, k7, k8, k9, k10, k11, k12, k13, k14, k15, k16, k17, k18, k19, k20, k21, k22, k23]
def interned : List (Array UInt16 × Addr) := []
def slotsUsed : Nat := 55
def theMethod : MethodId := ⟨1, 3⟩
def args0 : Array Value := #[.int 5, .int 6, .int 7, .int 8, .int 9, .int 10]
def aboutOver (below : List Frame) : State where
  vm := { classes := classes, interned := interned.toArray }
  heap := heap
  slotsUsed := slotsUsed
  threads := #[{ frames := .invoking theMethod args0 :: below }]
def below0 : List Frame := [.native { method := ⟨0, 0⟩, args := #[] }]
def about1 : State := aboutOver below0
def p0 : Program := .bare "" "" ""
def e0 : Env := launch0.env 0 0 0
theorem w_frames : about1.frames = Frame.invoking theMethod args0 :: below0 := rfl
set_option maxRecDepth 65536 in
theorem w_args : argsFit about1.vm theMethod args0 = true := by decide +kernel
set_option maxRecDepth 65536 in
theorem w_heap : heapFits about1 = true := by decide +kernel
set_option maxRecDepth 65536 in
theorem w_runnable : about1.curStatus? = some .runnable := by decide +kernel
set_option maxRecDepth 65536 in
theorem w_alone : about1.alone = true := by decide +kernel
set_option maxRecDepth 65536 in
theorem w_named : about1.methodNamed? x = some theMethod := by decide +kernel
set_option maxRecDepth 65536 in
theorem w_hears : about1.hears theMethod below0 = true := by decide +kernel
set_option maxRecDepth 65536 in
theorem w_ripe : about1.ripe theMethod args0 below0 = true := by decide +kernel
theorem w_running : about1.status = .running := rfl
set_option maxRecDepth 65536 in
theorem w_room : about1.hasRoom e0.platform room_1 = true :=
  launch0.hasRoom_least _ room_1 (by decide +kernel) (by decide +kernel) (by decide +kernel) (by decide +kernel) (by decide +kernel) (by decide +kernel)
theorem allAtoms_all (ts : List Jvm.Cond) (a : Array Jvm.Value) (st : Jvm.State) : (allAtoms ts).before a st = ts.all (fun c => c.before a st) := by
  induction ts with
  | nil => rfl
  | cons c t ih =>
    show (Jvm.Cond.and c (allAtoms t)).before a st = _
    rw [Jvm.Cond.before_and, ih, List.all_cons]
def words1 : List Jvm.Cond := Jvm.Cond.code x code maxLocals ret :: tables_1
/-- a 'code' word, met by the world's own term for the bytes: nothing is compared byte by byte -/
theorem code_word {y : MethodName} {bytes : ByteArray} {mx : Nat} {rt : Option FieldType} {a : Array Value} {s : State} {m : MethodId} {meth : Method} {c : Code} (h1 : s.methodNamed? y = some m) (h2 : s.vm.method? m = some meth) (h3 : meth.code = some c) (h4 : c.code = bytes)
    (h5 : (c.maxLocals == mx && c.exceptionTable.isEmpty && decide (c.maxStack ≤ mostOperands) && decide (meth.sig.returnType = rt) && !meth.locks && decide (parseMethodDescriptor y.desc = some meth.sig)) = true) : (Jvm.Cond.code y bytes mx rt).before a s = true := by
  simp only [Bool.and_eq_true, beq_iff_eq, Bool.not_eq_true', decide_eq_true_eq] at h5
  obtain ⟨⟨⟨⟨⟨g1, g2⟩, g3⟩, g4⟩, g5⟩, g6⟩ := h5
  simp [Cond.before, Cond.holds, Cond.value, h1, h2, h3, h4, g1, g2, g3, g4, g5, g6]
def isCode : Jvm.Cond → Bool
  | .code _ _ _ _ => true
  | _ => false
theorem all_split {L : List Jvm.Cond} {P : Jvm.Cond → Bool} (h1 : L.all (fun c => isCode c || P c) = true) (h2 : ∀ c ∈ L.filter isCode, P c = true) : L.all P = true := by
  refine List.all_eq_true.mpr fun c hc => ?_
  have h := List.all_eq_true.mp h1 c hc
  rcases Bool.eq_false_or_eq_true (isCode c) with hi | hi
  · exact h2 c (List.mem_filter.mpr ⟨hc, hi⟩)
  · simpa [hi] using h
set_option maxRecDepth 65536 in
theorem w_c0 : (Jvm.Cond.code x code maxLocals ret).before args0 about1 = true := code_word (m := ⟨1, 3⟩) (meth := k1m3) (c := k1c3) (by decide +kernel) rfl rfl rfl (by decide +kernel)
set_option maxRecDepth 65536 in
theorem w_c1 : (Jvm.Cond.code ({ cls := "com/example/pass3/pass3/TokenIsPinLaw", name := "str", desc := "(ICCC)Ljava/lang/String;" } : Jvm.MethodName) method_3_code (4 : Nat) (Option.some (Jvm.ClassFile.FieldType.object "java/lang/String"))).before args0 about1 = true := code_word (m := ⟨1, 2⟩) (meth := k1m2) (c := k1c2) (by decide +kernel) rfl rfl rfl (by decide +kernel)
set_option maxRecDepth 65536 in
theorem w_c2 : (Jvm.Cond.code ({ cls := "java/lang/String", name := "<init>", desc := "([C)V" } : Jvm.MethodName) jdk_42_method_3_code (2 : Nat) (Option.none : Option Jvm.ClassFile.FieldType)).before args0 about1 = true := code_word (m := ⟨7, 1⟩) (meth := k7m1) (c := k7c1) (by decide +kernel) rfl rfl rfl (by decide +kernel)
set_option maxRecDepth 65536 in
theorem w_c3 : (Jvm.Cond.code ({ cls := "java/lang/String", name := "<init>", desc := "([CIILjava/lang/Void;)V" } : Jvm.MethodName) jdk_42_method_149_code (6 : Nat) (Option.none : Option Jvm.ClassFile.FieldType)).before args0 about1 = true := code_word (m := ⟨7, 3⟩) (meth := k7m3) (c := k7c3) (by decide +kernel) rfl rfl rfl (by decide +kernel)
set_option maxRecDepth 65536 in
theorem w_c4 : (Jvm.Cond.code ({ cls := "java/lang/Object", name := "<init>", desc := "()V" } : Jvm.MethodName) object_method_1_code (1 : Nat) (Option.none : Option Jvm.ClassFile.FieldType)).before args0 about1 = true := code_word (m := ⟨0, 0⟩) (meth := k0m0) (c := k0c0) (by decide +kernel) rfl rfl rfl (by decide +kernel)
set_option maxRecDepth 65536 in
theorem w_c5 : (Jvm.Cond.code ({ cls := "com/example/pass3/pass3/TokenIsPinLaw", name := "kind", desc := "(I)Lcom/example/pass3/pass3/Token$Kind;" } : Jvm.MethodName) method_2_code (1 : Nat) (Option.some (Jvm.ClassFile.FieldType.object "com/example/pass3/pass3/Token$Kind"))).before args0 about1 = true := code_word (m := ⟨1, 1⟩) (meth := k1m1) (c := k1c1) (by decide +kernel) rfl rfl rfl (by decide +kernel)
set_option maxRecDepth 65536 in
theorem w_c6 : (Jvm.Cond.code ({ cls := "com/example/pass3/pass3/Position", name := "<init>", desc := "(II)V" } : Jvm.MethodName) prog_51_method_1_code (3 : Nat) (Option.none : Option Jvm.ClassFile.FieldType)).before args0 about1 = true := code_word (m := ⟨12, 0⟩) (meth := k12m0) (c := k12c0) (by decide +kernel) rfl rfl rfl (by decide +kernel)
set_option maxRecDepth 65536 in
theorem w_c7 : (Jvm.Cond.code ({ cls := "java/lang/Record", name := "<init>", desc := "()V" } : Jvm.MethodName) jdk_30_method_1_code (1 : Nat) (Option.none : Option Jvm.ClassFile.FieldType)).before args0 about1 = true := code_word (m := ⟨8, 0⟩) (meth := k8m0) (c := k8c0) (by decide +kernel) rfl rfl rfl (by decide +kernel)
set_option maxRecDepth 65536 in
theorem w_c8 : (Jvm.Cond.code ({ cls := "com/example/pass3/pass3/Token", name := "<init>", desc := "(Lcom/example/pass3/pass3/Token$Kind;Ljava/lang/String;Lcom/example/pass3/pass3/Position;)V" } : Jvm.MethodName) prog_77_method_1_code (4 : Nat) (Option.none : Option Jvm.ClassFile.FieldType)).before args0 about1 = true := code_word (m := ⟨9, 0⟩) (meth := k9m0) (c := k9c0) (by decide +kernel) rfl rfl rfl (by decide +kernel)
set_option maxRecDepth 65536 in
theorem w_c9 : (Jvm.Cond.code ({ cls := "com/example/pass3/pass3/Token", name := "is", desc := "(Lcom/example/pass3/pass3/Token$Kind;Ljava/lang/String;)Z" } : Jvm.MethodName) prog_77_method_2_code (3 : Nat) (Option.some Jvm.ClassFile.FieldType.boolean)).before args0 about1 = true := code_word (m := ⟨9, 1⟩) (meth := k9m1) (c := k9c1) (by decide +kernel) rfl rfl rfl (by decide +kernel)
set_option maxRecDepth 65536 in
theorem w_c10 : (Jvm.Cond.code ({ cls := "java/lang/String", name := "equals", desc := "(Ljava/lang/Object;)Z" } : Jvm.MethodName) jdk_42_method_66_code (3 : Nat) (Option.some Jvm.ClassFile.FieldType.boolean)).before args0 about1 = true := code_word (m := ⟨7, 2⟩) (meth := k7m2) (c := k7c2) (by decide +kernel) rfl rfl rfl (by decide +kernel)
set_option maxRecDepth 65536 in
theorem w_c11 : (Jvm.Cond.code ({ cls := "java/lang/StringLatin1", name := "equals", desc := "([B[B)Z" } : Jvm.MethodName) jdk_43_method_13_code (3 : Nat) (Option.some Jvm.ClassFile.FieldType.boolean)).before args0 about1 = true := code_word (m := ⟨13, 1⟩) (meth := k13m1) (c := k13c1) (by decide +kernel) rfl rfl rfl (by decide +kernel)
set_option maxRecDepth 65536 in
theorem w_c12 : (Jvm.Cond.code ({ cls := "java/lang/StringUTF16", name := "compress", desc := "([CII)[B" } : Jvm.MethodName) jdk_52_method_16_code (6 : Nat) (Option.some (Jvm.ClassFile.FieldType.array Jvm.ClassFile.FieldType.byte))).before args0 about1 = true := code_word (m := ⟨14, 2⟩) (meth := k14m2) (c := k14c2) (by decide +kernel) rfl rfl rfl (by decide +kernel)
set_option maxRecDepth 65536 in
theorem w_c13 : (Jvm.Cond.code ({ cls := "java/lang/StringUTF16", name := "compress", desc := "([CI[BII)I" } : Jvm.MethodName) jdk_52_method_21_code (7 : Nat) (Option.some Jvm.ClassFile.FieldType.int)).before args0 about1 = true := code_word (m := ⟨14, 3⟩) (meth := k14m3) (c := k14c3) (by decide +kernel) rfl rfl rfl (by decide +kernel)
set_option maxRecDepth 65536 in
theorem w_c14 : (Jvm.Cond.code ({ cls := "java/lang/StringUTF16", name := "coderFromArrayLen", desc := "([BI)B" } : Jvm.MethodName) jdk_52_method_15_code (2 : Nat) (Option.some Jvm.ClassFile.FieldType.byte)).before args0 about1 = true := code_word (m := ⟨14, 1⟩) (meth := k14m1) (c := k14c1) (by decide +kernel) rfl rfl rfl (by decide +kernel)
def codes1 : List Jvm.Cond := [Jvm.Cond.code x code maxLocals ret, Jvm.Cond.code ({ cls := "com/example/pass3/pass3/TokenIsPinLaw", name := "str", desc := "(ICCC)Ljava/lang/String;" } : Jvm.MethodName) method_3_code (4 : Nat) (Option.some (Jvm.ClassFile.FieldType.object "java/lang/String")), Jvm.Cond.code ({ cls := "java/lang/String", name := "<init>", desc := "([C)V" } : Jvm.MethodName) jdk_42_method_3_code (2 : Nat) (Option.none : Option Jvm.ClassFile.FieldType), Jvm.Cond.code ({ cls := "java/lang/String", name := "<init>", desc := "([CIILjava/lang/Void;)V" } : Jvm.MethodName) jdk_42_method_149_code (6 : Nat) (Option.none : Option Jvm.ClassFile.FieldType), Jvm.Cond.code ({ cls := "java/lang/Object", name := "<init>", desc := "()V" } : Jvm.MethodName) object_method_1_code (1 : Nat) (Option.none : Option Jvm.ClassFile.FieldType), Jvm.Cond.code ({ cls := "com/example/pass3/pass3/TokenIsPinLaw", name := "kind", desc := "(I)Lcom/example/pass3/pass3/Token$Kind;" } : Jvm.MethodName) method_2_code (1 : Nat) (Option.some (Jvm.ClassFile.FieldType.object "com/example/pass3/pass3/Token$Kind")), Jvm.Cond.code ({ cls := "com/example/pass3/pass3/Position", name := "<init>", desc := "(II)V" } : Jvm.MethodName) prog_51_method_1_code (3 : Nat) (Option.none : Option Jvm.ClassFile.FieldType), Jvm.Cond.code ({ cls := "java/lang/Record", name := "<init>", desc := "()V" } : Jvm.MethodName) jdk_30_method_1_code (1 : Nat) (Option.none : Option Jvm.ClassFile.FieldType), Jvm.Cond.code ({ cls := "com/example/pass3/pass3/Token", name := "<init>", desc := "(Lcom/example/pass3/pass3/Token$Kind;Ljava/lang/String;Lcom/example/pass3/pass3/Position;)V" } : Jvm.MethodName) prog_77_method_1_code (4 : Nat) (Option.none : Option Jvm.ClassFile.FieldType), Jvm.Cond.code ({ cls := "com/example/pass3/pass3/Token", name := "is", desc := "(Lcom/example/pass3/pass3/Token$Kind;Ljava/lang/String;)Z" } : Jvm.MethodName) prog_77_method_2_code (3 : Nat) (Option.some Jvm.ClassFile.FieldType.boolean), Jvm.Cond.code ({ cls := "java/lang/String", name := "equals", desc := "(Ljava/lang/Object;)Z" } : Jvm.MethodName) jdk_42_method_66_code (3 : Nat) (Option.some Jvm.ClassFile.FieldType.boolean), Jvm.Cond.code ({ cls := "java/lang/StringLatin1", name := "equals", desc := "([B[B)Z" } : Jvm.MethodName) jdk_43_method_13_code (3 : Nat) (Option.some Jvm.ClassFile.FieldType.boolean), Jvm.Cond.code ({ cls := "java/lang/StringUTF16", name := "compress", desc := "([CII)[B" } : Jvm.MethodName) jdk_52_method_16_code (6 : Nat) (Option.some (Jvm.ClassFile.FieldType.array Jvm.ClassFile.FieldType.byte)), Jvm.Cond.code ({ cls := "java/lang/StringUTF16", name := "compress", desc := "([CI[BII)I" } : Jvm.MethodName) jdk_52_method_21_code (7 : Nat) (Option.some Jvm.ClassFile.FieldType.int), Jvm.Cond.code ({ cls := "java/lang/StringUTF16", name := "coderFromArrayLen", desc := "([BI)B" } : Jvm.MethodName) jdk_52_method_15_code (2 : Nat) (Option.some Jvm.ClassFile.FieldType.byte)]
set_option maxRecDepth 65536 in
theorem codes_eq : words1.filter isCode = codes1 := rfl
theorem w_codes : ∀ c ∈ words1.filter isCode, c.before args0 about1 = true := by
  rw [codes_eq]
  intro c hc
  simp only [codes1, List.mem_cons, List.not_mem_nil, or_false] at hc
  rcases hc with rfl | rfl | rfl | rfl | rfl | rfl | rfl | rfl | rfl | rfl | rfl | rfl | rfl | rfl | rfl
  · exact w_c0
  · exact w_c1
  · exact w_c2
  · exact w_c3
  · exact w_c4
  · exact w_c5
  · exact w_c6
  · exact w_c7
  · exact w_c8
  · exact w_c9
  · exact w_c10
  · exact w_c11
  · exact w_c12
  · exact w_c13
  · exact w_c14
set_option maxRecDepth 65536 in
theorem w_t1 : (words1.take 24).all (fun c => isCode c || c.before args0 about1) = true := by decide +kernel
set_option maxRecDepth 65536 in
theorem w_t2 : ((words1.drop 24).take 24).all (fun c => isCode c || c.before args0 about1) = true := by decide +kernel
set_option maxRecDepth 65536 in
theorem w_t3 : (((words1.drop 24).drop 24).take 24).all (fun c => isCode c || c.before args0 about1) = true := by decide +kernel
set_option maxRecDepth 65536 in
theorem w_t4 : ((((words1.drop 24).drop 24).drop 24).take 24).all (fun c => isCode c || c.before args0 about1) = true := by decide +kernel
set_option maxRecDepth 65536 in
theorem w_t5 : ((((words1.drop 24).drop 24).drop 24).drop 24).all (fun c => isCode c || c.before args0 about1) = true := by decide +kernel
theorem w_tables : (allAtoms (Jvm.Cond.code x code maxLocals ret :: tables_1)).before args0 about1 = true := by
  rw [allAtoms_all]
  show words1.all (fun c => c.before args0 about1) = true
  refine all_split ?_ w_codes
  rw [← List.take_append_drop 24 words1, List.all_append, w_t1, ← List.take_append_drop 24 (words1.drop 24), List.all_append, w_t2, ← List.take_append_drop 24 ((words1.drop 24).drop 24), List.all_append, w_t3, ← List.take_append_drop 24 (((words1.drop 24).drop 24).drop 24), List.all_append, w_t4, w_t5]
  rfl
set_option maxRecDepth 65536 in
theorem w_rest : rest_1_c.before args0 about1 = true := by decide +kernel
set_option maxRecDepth 65536 in
theorem w_case : (Jvm.Cond.and given_1 narrow_1).before args0 about1 = true := by decide +kernel
set_option maxRecDepth 65536 in
theorem w_consts : constsHeld consts_1 about1 := Jvm.Lit.constsHeldB_iff.mp (by decide +kernel)
theorem w_applies : (headSpec (Jvm.Cond.code x code maxLocals ret :: tables_1) room_1).applies x e0.platform about1 = true :=
  (Spec.applies_iff w_frames).mpr ⟨w_running, w_runnable, w_alone, w_named, w_hears, w_ripe, w_room, w_tables⟩
theorem atStart : AtStart classFile x code maxLocals ret World_1 tables_1 room_1 Calls_1 rest_1 Pre_1 launch0 p0 e0 about1 theMethod args0 below0 :=
  ⟨lists_1, trivial, launch0.admits_env _ _ _, launch0.least_env, fairChoices_fair.cas, fairChoices_fair.clock, w_frames, w_args, w_heap, w_applies, ⟨w_consts, trivial⟩, w_rest, w_case⟩
end start1
theorem witness_1 : WitnessClaimed_1 := ⟨start1.p0, start1.e0, start1.about1, start1.theMethod, start1.args0, start1.below0, start1.atStart⟩
end Jvm.Pilot.@@N@@
