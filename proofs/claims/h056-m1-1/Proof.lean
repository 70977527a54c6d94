import JvmDerived
import JvmDerived.Pilot.@@N@@Statement
import JvmDerived.Pilot.@@N@@Code
set_option linter.unusedVariables false
set_option linter.unusedSimpArgs false
namespace Jvm.RoadKit
open Sem ClassFile Op Lib Jvm.Stand Jvm.Free Jvm.LawKit
section New
variable {p : Program} {l : Launch} {e : Env} {R : Room} {s : State} {m : MethodId} {args : Array Value} {below : List Frame} {meth : Method} {c : Code} {T : State} {locs : List Loc} {cells slots : Nat}
theorem retI (X : Stand p l e R s m args below meth c T locs cells slots) (hx : p.tables.exec = Jvm.exec) {pc : Nat} {Ls : Array Slot} {z : Int32} {rest : List Value} (hret : meth.sig.returnType = some .int) (hd : decode c.code pc = .ok (.ireturn, 1)) {fs : List Frame}
    (hl : ∀ (f : JFrame) (acts : List Action), f.method = m → f.locked = none → f.entered = [] → (doReturn e (T.setTop f) acts (some (.int z))).1 = T.setFrames fs) : Steps p.tables e below (T.setTop (mkF m pc Ls (.int z :: rest))) (T.setFrames fs) := by
  have hm' : T.vm.method? m = some meth := X.method'
  have hn : narrow .int (.int z) = .int z := rfl
  show Steps p.tables e below (T.setTop { method := m, pc := pc, locals := Ls, stack := _ :: rest, locked := none }) _
  jvm_step X.here [X.here.top, hx, hd, hm', hret, hn]
  first | (intro acts; rw [hl _ acts rfl rfl rfl]) | rw [hl _ _ rfl rfl rfl]
  exact Steps.refl _
end New
end Jvm.RoadKit
namespace Jvm.RoadKit
open Sem ClassFile Op Lib Bundle Jvm.Stand Jvm.Free Jvm.LawKit Jvm.Free.SB Jvm.Free.SBG
section Goes
variable {p : Program} {l : Launch} {e : Env} {R : Room} {s : State} {m : MethodId} {args : Array Value} {below : List Frame} {meth : Method} {c : Code} {T T' : State} {locs : List Loc} {cells slots k n : Nat} {F : Outcome → State → Prop} {Q : Option Value → Heap → List Loc → Prop}
/-- from T the run comes to an end of which F holds -/
def Go (p : Program) (e : Env) (below : List Frame) (T : State) (F : Outcome → State → Prop) : Prop := ∃ s₂ o, Steps p.tables e below T s₂ ∧ s₂.status = .running ∧ Ended s₂ below o ∧ F o s₂
theorem Go.st (k : ∀ t, Steps p.tables e below T' t → Steps p.tables e below T t) (G : Go p e below T' F) : Go p e below T F := by
  obtain ⟨s2, o, h, r⟩ := G
  exact ⟨s2, o, k _ h, r⟩
theorem Go.top {g g' : JFrame} (q : g = g') (G : Go p e below (T.setTop g') F) : Go p e below (T.setTop g) F := q ▸ G
/-- the end of a body that interns nothing -/
abbrev EndN (s : State) (Q : Option Value → Heap → List Loc → Prop) (cells slots : Nat) : Outcome → State → Prop := fun o U' => ∃ v L, o = .returned v ∧ Q v U'.heap L ∧ FrameEnd s o U' L cells slots
/-- the end of a body that may intern -/
abbrev EndW (s : State) (Q : Option Value → Heap → List Loc → Prop) (cells slots : Nat) : Outcome → State → Prop := fun o U' => ∃ v L, o = .returned v ∧ Q v U'.heap L ∧ ReturnedEndW s o U' L cells slots
theorem Go.done (X : Stand p l e R s m args below meth c T locs k n) (hlocks : meth.locks = false) {v : Option Value} (hv : meth.sig.returnType = none → v = none) {f : JFrame}
    (st : ∀ fs, (∀ (f : JFrame) (acts : List Action), f.method = m → f.locked = none → f.entered = [] → (doReturn e (T.setTop f) acts v).1 = T.setFrames fs) → Steps p.tables e below (T.setTop f) (T.setFrames fs))
    (hQ : Q v T.heap locs) (hk : k ≤ cells) (hn : n ≤ slots) : Go p e below (T.setTop f) (EndN s Q cells slots) := by
  obtain ⟨fs, hr, hrun, hended, hW, hsame⟩ := X.leave (v := v) hv hlocks
  exact ⟨_, _, st fs hr, hrun, hended, v, locs, rfl, hQ, ⟨_, rfl⟩, hW, hsame.mono hk hn⟩
theorem Go.doneW {vm₁ : Vm} (X : Stand p l e R (s.setVm vm₁) m args below meth c T locs k n) {N : Nat} (hS : s.Since vm₁ N) (hN : N ≤ T.heap.size) (hlocks : meth.locks = false) {v : Option Value} (hv : meth.sig.returnType = none → v = none) {f : JFrame}
    (st : ∀ fs, (∀ (f : JFrame) (acts : List Action), f.method = m → f.locked = none → f.entered = [] → (doReturn e (T.setTop f) acts v).1 = T.setFrames fs) → Steps p.tables e below (T.setTop f) (T.setFrames fs))
    (hQ : Q v T.heap locs) (hk : k ≤ cells) (hn : n ≤ slots) : Go p e below (T.setTop f) (EndW s Q cells slots) := by
  obtain ⟨fs, hr, hrun, hended, h1, h2, h3, h4⟩ := X.leaveW hS hN (v := v) hv hlocks
  exact ⟨_, _, st fs hr, hrun, hended, v, locs, rfl, hQ, h1, h2, h3, h4.mono hk hn⟩
/-- the end of a body that may intern, and that keeps what is booked of EL -/
abbrev EndH (Z : State) (EL : List (String × Nat)) (s : State) (Q : Option Value → Heap → List Loc → Prop) (cells slots : Nat) : Outcome → State → Prop := fun o U' => ∃ v L, o = .returned v ∧ Q v U'.heap L ∧ CHr Z EL s.vm s.heap U'.vm U'.heap ∧ ReturnedEndW s o U' L cells slots
theorem Go.doneH {Z : State} {a0 : Array Value} {EL : List (String × Nat)} {vm₁ : Vm} {h0 h : Heap} (X : Stand p l e R (s.setVm vm₁) m args below meth c T locs k n) {N : Nat} (hS : s.Since vm₁ N) (hN : N ≤ T.heap.size) (hlocks : meth.locks = false) {v : Option Value} (hv : meth.sig.returnType = none → v = none) {f : JFrame}
    (st : ∀ fs, (∀ (f : JFrame) (acts : List Action), f.method = m → f.locked = none → f.entered = [] → (doReturn e (T.setTop f) acts v).1 = T.setFrames fs) → Steps p.tables e below (T.setTop f) (T.setFrames fs))
    (hQ : Q v T.heap locs) (hk : k ≤ cells) (hn : n ≤ slots) (hZ : Z.Warmed39 vm₁) (hEL : EW Z a0 EL) (hh : s.heap = h0) (eT : T.heap = h) (hC : CHr Z EL s.vm h0 vm₁ h) : Go p e below (T.setTop f) (EndH Z EL s Q cells slots) := by
  subst hh eT
  obtain ⟨fs, hr, hrun, hended, h1, h2, h3, h4⟩ := X.leaveW hS hN (v := v) hv hlocks
  exact ⟨_, _, st fs hr, hrun, hended, v, locs, rfl, hQ, show CHr Z EL s.vm s.heap T.vm T.heap from hC.trans (CHv.at X hZ hEL hC.1), h1, h2, h3, h4.mono hk hn⟩
/-- a String whose value is still null is none that is booked -/
theorem own_safe {Z : State} {EL : List (String × Nat)} {vm : Vm} {h : Heap} {x : Addr} (hal : Z.vm.Alike vm) (E : Exa Z h x "java/lang/String") (F : Fld Z h x "java/lang/String" "value" "[B" .null) : Safe Z EL vm h x := fun B => by
  obtain ⟨p, -, u, a, -, q, -, S, hy⟩ := B
  obtain ⟨cell, cf, k, i, f, f1, f2, -, -, -, -, f7⟩ := F
  obtain ⟨cS, ⟨⟨s1, -, -, ⟨cv, kv, iv, s4, -⟩, -, s6, -, s8, -, s10, -⟩, -, -⟩, -, hB, -⟩ := S
  rcases hy with rfl | rfl
  · cases (show h[q.sa]? = some q.sC from s1).symm.trans f1
    obtain ⟨kv', z4⟩ := ff_back (U := Wst Z vm h) hal s4
    cases f2.symm.trans z4
    rw [s8] at f7
    cases f7
  · obtain ⟨cell', k', e1, e2, e3, -⟩ := E
    cases (show h[q.sd]? = some q.SA from s10).symm.trans e1
    have hB' : Z.vm.findClass "[B" = some q.SA.cls := by rw [← hal.findClass]; exact hB
    exact ids_ne hB' e2 (by decide) rfl
theorem retJ (X : Stand p l e R s m args below meth c T locs cells slots) (hx : p.tables.exec = Jvm.exec) {pc : Nat} {Ls : Array Slot} {z : Int64} {rest : List Value} (hret : meth.sig.returnType = some .long) (hd : decode c.code pc = .ok (.lreturn, 1)) {fs : List Frame}
    (hl : ∀ (f : JFrame) (acts : List Action), f.method = m → f.locked = none → f.entered = [] → (doReturn e (T.setTop f) acts (some (.long z))).1 = T.setFrames fs) : Steps p.tables e below (T.setTop (mkF m pc Ls (.long z :: rest))) (T.setFrames fs) :=
  retOut X hx hret rfl (Or.inr (Or.inl ⟨rfl, rfl, z, rfl⟩)) hd hl
theorem retA (X : Stand p l e R s m args below meth c T locs cells slots) (hx : p.tables.exec = Jvm.exec) {pc : Nat} {Ls : Array Slot} {w : Value} {t : FieldType} {rest : List Value} (hret : meth.sig.returnType = some t) (hn : narrow t w = w) (ht : t.isReference = true) (hw : w.isRef = true) (hd : decode c.code pc = .ok (.areturn, 1)) {fs : List Frame}
    (hl : ∀ (f : JFrame) (acts : List Action), f.method = m → f.locked = none → f.entered = [] → (doReturn e (T.setTop f) acts (some w)).1 = T.setFrames fs) : Steps p.tables e below (T.setTop (mkF m pc Ls (w :: rest))) (T.setFrames fs) :=
  retOut X hx hret hn (Or.inr (Or.inr (Or.inr (Or.inr ⟨rfl, ht, hw⟩)))) hd hl
end Goes
end Jvm.RoadKit
/- laws to paste: Road.backV (cut by pick.py; bodies as the Statement names them) -/
namespace Jvm.Pilot.@@N@@
namespace StrChars
open Jvm Sem ClassFile Op Lib Jvm.Stand Jvm.Free.XT Jvm.Free.ALB Jvm.Free.JM Jvm.Free
open Jvm.Lib.Cold (StaticIs)
/-- a char array whose places are chars -/
def Ch (a : Addr) (A : Cell) (U : State) : Prop := Arr .char a A U ∧ Typed .char A
theorem Ch.mv {a : Addr} {A : Cell} {U U' : State} (h : Ch a A U) (hal : U.vm.Alike U'.vm) (hh : U'.heap = U.heap) : Ch a A U' := ⟨h.1.mv hal hh, h.2⟩
theorem Ch.keep {a : Addr} {A : Cell} {U U' : State} (h : Ch a A U) (hal : U.vm.Alike U'.vm) (hk : U'.heap[a]? = some A) : Ch a A U' := ⟨h.1.keep hal hk, h.2⟩
/-- what place i of a char[]'s cell holds -/
def cv (A : Cell) (i : Nat) : Int32 := match A.slots[i]? with | some (.int x) => x | _ => 0
theorem Ch.get {a : Addr} {A : Cell} {U : State} (h : Ch a A U) {i : Nat} (hi : i < A.slots.size) : A.slots[i]? = some (.int (cv A i)) := by
  have e := Array.getElem?_eq_getElem hi
  have f := h.2 i _ e
  unfold cv; rw [e]
  generalize A.slots[i] = v at f
  cases v <;> simp [fits] at f ⊢
/-- the byte that i2b leaves of a char -/
def lo8 (x : Int32) : Int32 := x.toInt8.toInt32
theorem fits_lo8 (y : Int32) : fits .byte (.int (lo8 y)) = true := by
  have h1 := y.toInt8.le_toInt
  have h2 := y.toInt8.toInt_lt
  simp only [lo8, fits, Bool.and_eq_true, decide_eq_true_eq, Int32.le_iff_toInt_le, Int8.toInt_toInt32, show (-128 : Int32).toInt = -128 from by decide, show (127 : Int32).toInt = 127 from by decide]
  omega
/-- A' is A but that each place j of lo .. hi - 1 holds f j -/
def Laid (A A' : Cell) (lo hi : Nat) (f : Nat → Value) : Prop := A'.cls = A.cls ∧ A'.vm = A.vm ∧ A'.slots.size = A.slots.size ∧ ∀ i, A'.slots[i]? = if lo ≤ i ∧ i < hi then some (f i) else A.slots[i]?
theorem Laid.zero (A : Cell) (lo : Nat) (f : Nat → Value) : Laid A A lo (lo + 0) f := ⟨rfl, rfl, rfl, fun i => by rw [if_neg (by omega)]⟩
theorem Laid.step {A Ak : Cell} {lo k : Nat} {f : Nat → Value} {v : Value} (h : Laid A Ak lo k f) (hlo : lo ≤ k) (hk : k < Ak.slots.size) (hv : v = f k) : Laid A (Ak.setSlot k v) lo (k + 1) f := by
  refine ⟨h.1, h.2.1, by simpa [Cell.setSlot] using h.2.2.1, fun i => ?_⟩
  by_cases e : k = i
  · subst e; rw [Cell.slots_setSlot_self v hk, if_pos (by omega), hv]
  · rw [Cell.slots_setSlot_ne v e, h.2.2.2 i]
    by_cases q : lo ≤ i ∧ i < k
    · rw [if_pos q, if_pos (by omega)]
    · rw [if_neg q, if_neg (by omega)]
def U16 : String := "java/lang/StringUTF16"
namespace Cmp5
def yN : MethodName := ⟨"java/lang/StringUTF16", "compress", "([CI[BII)I"⟩
abbrev yB : ByteArray := jdk_52_method_21_code
theorem d0 : decode yB 0 = .ok (.iconst 0, 1) := by decide +kernel
theorem d1 : decode yB 1 = .ok (.istore 5, 2) := by decide +kernel
theorem d3 : decode yB 3 = .ok (.iload 5, 2) := by decide +kernel
theorem d5 : decode yB 5 = .ok (.iload 4, 2) := by decide +kernel
theorem d7 : decode yB 7 = .ok (.if_icmp (.ge) 37, 3) := by decide +kernel
theorem d10 : decode yB 10 = .ok (.aload_n 0, 1) := by decide +kernel
theorem d11 : decode yB 11 = .ok (.iload_n 1, 1) := by decide +kernel
theorem d12 : decode yB 12 = .ok (.caload, 1) := by decide +kernel
theorem d13 : decode yB 13 = .ok (.istore 6, 2) := by decide +kernel
theorem d15 : decode yB 15 = .ok (.iload 6, 2) := by decide +kernel
theorem d17 : decode yB 17 = .ok (.sipush 255, 3) := by decide +kernel
theorem d20 : decode yB 20 = .ok (.if_icmp (.le) 6, 3) := by decide +kernel
theorem d26 : decode yB 26 = .ok (.aload_n 2, 1) := by decide +kernel
theorem d27 : decode yB 27 = .ok (.iload_n 3, 1) := by decide +kernel
theorem d28 : decode yB 28 = .ok (.iload 6, 2) := by decide +kernel
theorem d30 : decode yB 30 = .ok (.i2b, 1) := by decide +kernel
theorem d31 : decode yB 31 = .ok (.bastore, 1) := by decide +kernel
theorem d32 : decode yB 32 = .ok (.iinc 1 1, 3) := by decide +kernel
theorem d35 : decode yB 35 = .ok (.iinc 3 1, 3) := by decide +kernel
theorem d38 : decode yB 38 = .ok (.iinc 5 1, 3) := by decide +kernel
theorem d41 : decode yB 41 = .ok (.goto (-38), 3) := by decide +kernel
theorem d44 : decode yB 44 = .ok (.iload 4, 2) := by decide +kernel
theorem d46 : decode yB 46 = .ok (.ireturn, 1) := by decide +kernel
def site : List Cond := []
def tab : Cond := tabOf yN yB 7 (some .int) site
def P (b : Addr) (A : Cell) (d : Addr) (B : Cell) (o q len : Nat) (args : Array Value) (s : State) : Prop := args = #[.ref b, .int (Int32.ofNat o), .ref d, .int (Int32.ofNat q), .int (Int32.ofNat len)] ∧ Ch b A s ∧ Arr .byte d B s ∧ b ≠ d ∧ o + len ≤ A.slots.size ∧ q + len ≤ B.slots.size ∧ ∀ i, i < len → ¬ 255 < cv A (o + i)
def E (b : Addr) (A : Cell) (d : Addr) (B : Cell) (o q len : Nat) (r : Option Value) (s u : State) : Prop := r = some (.int (Int32.ofNat len)) ∧ ∃ B', Put d B' s u ∧ Laid B B' q (q + len) (fun j => Value.int (lo8 (cv A (o + (j - q)))))
/-- no char of the range above 255: len; the places written hold each char's low byte -/
theorem law (l : Launch) (b : Addr) (A : Cell) (d : Addr) (B : Cell) (o q len : Nat) : Law l yN 5 5 0 0 yB 7 (some .int) site (P b A d B o q len) (E b A d B o q len) (copyLocs d q len) 0 0 := by
  refine Law.of_walk (plainFor_of_name (by decide +kernel)) (by decide +kernel) (by decide +kernel) (by decide) (fun _ _ h => by rw [h.1]; rfl) (fun _ U U' hal hh h => ⟨h.1, h.2.1.mv hal hh, h.2.2.1.mv hal hh, h.2.2.2⟩) (fun r U U' V V' h1 hal h2 h => ⟨h.1, h.2.elim fun B' q => ⟨B', q.1.mv h1 h2, q.2⟩⟩) ?_
  intro p e s m args below meth c s₁ X0 hexec hbytes hml hret hlk hnm hown hh0 W hP
  obtain ⟨rfl, hA, hB, hne, l1, l2, hp⟩ := hP
  have c1 : Steps p.tables e below (s₁.setTop (entryFrame m #[.ref b, .int (Int32.ofNat o), .ref d, .int (Int32.ofNat q), .int (Int32.ofNat len)] 7)) (s₁.setTop (mkF m 0 #[.val (.ref b), .val (.int (Int32.ofNat o)), .val (.ref d), .val (.int (Int32.ofNat q)), .val (.int (Int32.ofNat len)), .unset, .unset] [])) := entry rfl
  have hA0 := hA.1.mv X0.warmed.alike hh0
  have hB0 := hB.mv X0.warmed.alike hh0
  have a31 := hA.1.2.2.2
  have c2 : Steps p.tables e below (s₁.setTop (entryFrame m #[.ref b, .int (Int32.ofNat o), .ref d, .int (Int32.ofNat q), .int (Int32.ofNat len)] 7)) (s₁.setTop (mkF m 3 #[.val (.ref b), .val (.int (Int32.ofNat o)), .val (.ref d), .val (.int (Int32.ofNat q)), .val (.int (Int32.ofNat len)), .val (.int 0), .unset] [])) := c1.trans (by
    refine iconstV X0.here hexec rfl 0 (hb hbytes d0) (by decide) ?_
    refine XS.istore X0.here hexec rfl (hb hbytes d1) rfl rfl ?_
    exact Steps.refl _)
  have loop : ∀ (r i : Nat), i + r = len → ∀ (z : Slot), (z = .unset ∨ ∃ w, z = .val w ∧ w.category = 1) → ∀ (Tl : State) (Bk : Cell), Stand p l e { frames := 0, locals := 0, cells := 0, slots := 0 } s m #[.ref b, .int (Int32.ofNat o), .ref d, .int (Int32.ofNat q), .int (Int32.ofNat len)] below meth c Tl ([] ++ copyLocs d q i) 0 0 → Put d Bk s₁ Tl → Laid B Bk q (q + i) (fun j => Value.int (lo8 (cv A (o + (j - q))))) →
      Steps p.tables e below (s₁.setTop (entryFrame m #[.ref b, .int (Int32.ofNat o), .ref d, .int (Int32.ofNat q), .int (Int32.ofNat len)] 7)) (Tl.setTop (mkF m 3 #[.val (.ref b), .val (.int (Int32.ofNat (o + i))), .val (.ref d), .val (.int (Int32.ofNat (q + i))), .val (.int (Int32.ofNat len)), .val (.int (Int32.ofNat i)), z] [])) → ∃ (T' : State) (B' : Cell) (z' : Slot), Stand p l e { frames := 0, locals := 0, cells := 0, slots := 0 } s m #[.ref b, .int (Int32.ofNat o), .ref d, .int (Int32.ofNat q), .int (Int32.ofNat len)] below meth c T' ([] ++ copyLocs d q len) 0 0 ∧ Put d B' s₁ T' ∧ Laid B B' q (q + len) (fun j => Value.int (lo8 (cv A (o + (j - q))))) ∧
      Steps p.tables e below (s₁.setTop (entryFrame m #[.ref b, .int (Int32.ofNat o), .ref d, .int (Int32.ofNat q), .int (Int32.ofNat len)] 7)) (T'.setTop (mkF m 3 #[.val (.ref b), .val (.int (Int32.ofNat (o + len))), .val (.ref d), .val (.int (Int32.ofNat (q + len))), .val (.int (Int32.ofNat len)), .val (.int (Int32.ofNat len)), z'] [])) := by
    intro r
    induction r with
    | zero =>
      intro i hi z hz Tl Bk Xl pl fl cl
      have hil : i = len := by omega
      rw [hil] at Xl fl cl
      exact ⟨Tl, Bk, z, Xl, pl, fl, cl⟩
    | succ r ih =>
      intro i hi z hz Tl Bk Xl pl fl cl
      have all := X0.warmed.alike.symm.trans Xl.warmed.alike
      have hAl := hA0.keep all (pl.other hne hA0.1)
      have hBk := hB0.like all pl.1 fl.1 fl.2.1 fl.2.2.1
      have hlt : q + i < Bk.slots.size := by rw [fl.2.2.1]; omega
      have c3 : Steps p.tables e below (s₁.setTop (entryFrame m #[.ref b, .int (Int32.ofNat o), .ref d, .int (Int32.ofNat q), .int (Int32.ofNat len)] 7)) (Tl.setTop (mkF m 12 #[.val (.ref b), .val (.int (Int32.ofNat (o + i))), .val (.ref d), .val (.int (Int32.ofNat (q + i))), .val (.int (Int32.ofNat len)), .val (.int (Int32.ofNat i)), z] [.int (Int32.ofNat (o + i)), .ref b])) := cl.trans (by
        refine XS.iload Xl.here hexec rfl (hb hbytes d3) rfl ?_
        refine XS.iload Xl.here hexec rfl (hb hbytes d5) rfl ?_
        refine XS.icmpNo Xl.here hexec rfl (hb hbytes d7) rfl (ii_ge_f (lt32 (by omega) (by omega))) ?_
        refine XS.aloadN Xl.here hexec rfl (hb hbytes d10) rfl rfl ?_
        refine XS.iloadN Xl.here hexec rfl (hb hbytes d11) rfl ?_
        exact Steps.refl _)
      have c4 : Steps p.tables e below (s₁.setTop (entryFrame m #[.ref b, .int (Int32.ofNat o), .ref d, .int (Int32.ofNat q), .int (Int32.ofNat len)] 7)) (Tl.setTop (mkF m 13 #[.val (.ref b), .val (.int (Int32.ofNat (o + i))), .val (.ref d), .val (.int (Int32.ofNat (q + i))), .val (.int (Int32.ofNat len)), .val (.int (Int32.ofNat i)), z] [.int (cv A (o + i))])) := c3.trans (by
        refine Xl.aget hexec hAl rfl (hA.get (i := o + i) (by omega)) rfl rfl (hb hbytes d12) ?_
        exact Steps.refl _)
      have c5 : Steps p.tables e below (s₁.setTop (entryFrame m #[.ref b, .int (Int32.ofNat o), .ref d, .int (Int32.ofNat q), .int (Int32.ofNat len)] 7)) (Tl.setTop (mkF m 15 #[.val (.ref b), .val (.int (Int32.ofNat (o + i))), .val (.ref d), .val (.int (Int32.ofNat (q + i))), .val (.int (Int32.ofNat len)), .val (.int (Int32.ofNat i)), .val (.int (cv A (o + i)))] [])) := c4.trans (by
        refine XS.istoreS Xl.here hexec rfl (hb hbytes d13) rfl rfl hz ?_
        exact Steps.refl _)
      have c6 : Steps p.tables e below (s₁.setTop (entryFrame m #[.ref b, .int (Int32.ofNat o), .ref d, .int (Int32.ofNat q), .int (Int32.ofNat len)] 7)) (Tl.setTop (mkF m 31 #[.val (.ref b), .val (.int (Int32.ofNat (o + i))), .val (.ref d), .val (.int (Int32.ofNat (q + i))), .val (.int (Int32.ofNat len)), .val (.int (Int32.ofNat i)), .val (.int (cv A (o + i)))] [.int (lo8 (cv A (o + i))), .int (Int32.ofNat (q + i)), .ref d])) := c5.trans (by
        refine XS.iload Xl.here hexec rfl (hb hbytes d15) rfl ?_
        refine sipushV Xl.here hexec rfl 255 (hb hbytes d17) (by decide) ?_
        refine XS.icmpYes Xl.here hexec rfl (pc0 := 20) rfl (hb hbytes d20) rfl (ii_le_t (hp i (by omega))) (by decide) rfl ?_
        refine XS.aloadN Xl.here hexec rfl (hb hbytes d26) rfl rfl ?_
        refine XS.iloadN Xl.here hexec rfl (hb hbytes d27) rfl ?_
        refine XS.iload Xl.here hexec rfl (hb hbytes d28) rfl ?_
        refine i2b Xl.here hexec rfl (hb hbytes d30) rfl ?_
        exact Steps.refl _)
      obtain ⟨T7, X7, p7, st7⟩ := Xl.aput hexec hBk rfl hlt rfl (fits_lo8 (cv A (o + i))) (g := (mkF m 31 #[.val (.ref b), .val (.int (Int32.ofNat (o + i))), .val (.ref d), .val (.int (Int32.ofNat (q + i))), .val (.int (Int32.ofNat len)), .val (.int (Int32.ofNat i)), .val (.int (cv A (o + i)))] [.int (lo8 (cv A (o + i))), .int (Int32.ofNat (q + i)), .ref d])) rfl (rest := []) rfl (hb hbytes d31)
      have c8 : Steps p.tables e below (s₁.setTop (entryFrame m #[.ref b, .int (Int32.ofNat o), .ref d, .int (Int32.ofNat q), .int (Int32.ofNat len)] 7)) (T7.setTop (mkF m 32 #[.val (.ref b), .val (.int (Int32.ofNat (o + i))), .val (.ref d), .val (.int (Int32.ofNat (q + i))), .val (.int (Int32.ofNat len)), .val (.int (Int32.ofNat i)), .val (.int (cv A (o + i)))] [])) := c6.trans (st7 _ (Steps.refl _))
      have c9 : Steps p.tables e below (s₁.setTop (entryFrame m #[.ref b, .int (Int32.ofNat o), .ref d, .int (Int32.ofNat q), .int (Int32.ofNat len)] 7)) (T7.setTop (mkF m 3 #[.val (.ref b), .val (.int (Int32.ofNat (o + i) + 1)), .val (.ref d), .val (.int (Int32.ofNat (q + i) + 1)), .val (.int (Int32.ofNat len)), .val (.int (Int32.ofNat i + 1)), .val (.int (cv A (o + i)))] [])) := c8.trans (by
        refine iincV X7.here hexec rfl 1 (hb hbytes d32) (by decide) rfl rfl ?_
        refine iincV X7.here hexec rfl 1 (hb hbytes d35) (by decide) rfl rfl ?_
        refine iincV X7.here hexec rfl 1 (hb hbytes d38) (by decide) rfl rfl ?_
        refine XS.goto X7.here hexec rfl (pc0 := 41) rfl (hb hbytes d41) (by decide) rfl ?_
        exact Steps.refl _)
      have c10 : Steps p.tables e below (s₁.setTop (entryFrame m #[.ref b, .int (Int32.ofNat o), .ref d, .int (Int32.ofNat q), .int (Int32.ofNat len)] 7)) (T7.setTop (mkF m 3 #[.val (.ref b), .val (.int (Int32.ofNat (o + (i + 1)))), .val (.ref d), .val (.int (Int32.ofNat (q + (i + 1)))), .val (.int (Int32.ofNat len)), .val (.int (Int32.ofNat (i + 1))), .val (.int (cv A (o + i)))] [])) := by
        have := c9
        rw [succ32, succ32, succ32] at this
        exact this
      exact ih (i + 1) (by omega) _ (Or.inr ⟨_, rfl, rfl⟩) T7 _ (by rw [copyLocs_step, ← List.append_assoc]; exact X7) (pl.trans p7) (fl.step (by omega) hlt (by simp)) c10
  obtain ⟨T9, B9, z9, X9, p9, f9, g9⟩ := loop len 0 (by omega) .unset (Or.inl rfl) s₁ B (by simpa [copyLocs] using X0) ⟨hB0.1, fun _ _ => rfl, rfl⟩ (Laid.zero _ _ _) c2
  have c11 : Steps p.tables e below (s₁.setTop (entryFrame m #[.ref b, .int (Int32.ofNat o), .ref d, .int (Int32.ofNat q), .int (Int32.ofNat len)] 7)) (T9.setTop (mkF m 46 #[.val (.ref b), .val (.int (Int32.ofNat (o + len))), .val (.ref d), .val (.int (Int32.ofNat (q + len))), .val (.int (Int32.ofNat len)), .val (.int (Int32.ofNat len)), z9] [.int (Int32.ofNat len)])) := g9.trans (by
    refine XS.iload X9.here hexec rfl (hb hbytes d3) rfl ?_
    refine XS.iload X9.here hexec rfl (hb hbytes d5) rfl ?_
    refine XS.icmpYes X9.here hexec rfl (pc0 := 7) rfl (hb hbytes d7) rfl (ii_ge_t (nlt32 (by omega) (Nat.le_refl _))) (by decide) rfl ?_
    refine XS.iload X9.here hexec rfl (hb hbytes d44) rfl ?_
    exact Steps.refl _)
  exact ⟨T9, some (.int (Int32.ofNat len)), _, _, _, X9, by simp, rfl, rfl, (fun h => by cases h), ⟨rfl, B9, p9.from hh0, f9⟩, fun fs hl => c11.trans (X9.ireturnOut hexec hret rfl (Or.inl rfl) (hb hbytes d46) hl)⟩
end Cmp5
namespace Cmp3
def yN : MethodName := ⟨"java/lang/StringUTF16", "compress", "([CII)[B"⟩
abbrev yB : ByteArray := jdk_52_method_16_code
theorem d0 : decode yB 0 = .ok (.iload_n 2, 1) := by decide +kernel
theorem d1 : decode yB 1 = .ok (.newarray .byte, 2) := by decide +kernel
theorem d3 : decode yB 3 = .ok (.astore_n 3, 1) := by decide +kernel
theorem d4 : decode yB 4 = .ok (.aload_n 0, 1) := by decide +kernel
theorem d5 : decode yB 5 = .ok (.iload_n 1, 1) := by decide +kernel
theorem d6 : decode yB 6 = .ok (.aload_n 3, 1) := by decide +kernel
theorem d7 : decode yB 7 = .ok (.iconst 0, 1) := by decide +kernel
theorem d8 : decode yB 8 = .ok (.iload_n 2, 1) := by decide +kernel
theorem d9 : decode yB 9 = .ok (.invokestatic 115, 3) := by decide +kernel
theorem d12 : decode yB 12 = .ok (.istore 4, 2) := by decide +kernel
theorem d14 : decode yB 14 = .ok (.iload 4, 2) := by decide +kernel
theorem d16 : decode yB 16 = .ok (.iload_n 2, 1) := by decide +kernel
theorem d17 : decode yB 17 = .ok (.if_icmp (.eq) 40, 3) := by decide +kernel
theorem d57 : decode yB 57 = .ok (.aload_n 3, 1) := by decide +kernel
theorem d58 : decode yB 58 = .ok (.areturn, 1) := by decide +kernel
def site : List Cond := [.arrayClass .byte, Cmp5.tab] ++ staticW U16 115 Cmp5.yN
def tab : Cond := tabOf yN yB 6 (some (.array .byte)) site
def P (b : Addr) (A : Cell) (o len : Nat) (args : Array Value) (s : State) : Prop := args = #[.ref b, .int (Int32.ofNat o), .int (Int32.ofNat len)] ∧ Ch b A s ∧ o + len ≤ A.slots.size ∧ len ≤ 536870912 ∧ ∀ i, i < len → ¬ 255 < cv A (o + i)
def E (b : Addr) (A : Cell) (o len : Nat) (r : Option Value) (s u : State) : Prop := NewArr .byte "[B" len (fun j => .int (lo8 (cv A (o + j)))) r s u ∧ u.heap.size = s.heap.size + 1
/-- no char of the range above 255: a new byte[] of their low bytes -/
theorem law (l : Launch) (b : Addr) (A : Cell) (o len : Nat) : Law l yN 3 3 1 18 yB 6 (some (.array .byte)) site (P b A o len) (E b A o len) [] 1 len := by
  refine Law.of_walk (plainFor_of_name (by decide +kernel)) (by decide +kernel) (by decide +kernel) (by decide) (fun _ _ h => by rw [h.1]; rfl) (fun _ U U' hal hh h => ⟨h.1, h.2.1.mv hal hh, h.2.2⟩) (fun r U U' V V' h1 hal h2 h => ⟨NewArr.mv r U U' V V' h1 hal h2 h.1, by rw [h1, h2]; exact h.2⟩) ?_
  intro p e s m args below meth c s₁ X0 hexec hbytes hml hret hlk hnm hown hh0 W hP
  obtain ⟨rfl, hA, l1, l2, hp⟩ := hP
  have a31 := hA.1.2.2.2
  have c1 : Steps p.tables e below (s₁.setTop (entryFrame m #[.ref b, .int (Int32.ofNat o), .int (Int32.ofNat len)] 6)) (s₁.setTop (mkF m 0 #[.val (.ref b), .val (.int (Int32.ofNat o)), .val (.int (Int32.ofNat len)), .unset, .unset, .unset] [])) := entry rfl
  have c2 : Steps p.tables e below (s₁.setTop (entryFrame m #[.ref b, .int (Int32.ofNat o), .int (Int32.ofNat len)] 6)) (s₁.setTop (mkF m 1 #[.val (.ref b), .val (.int (Int32.ofNat o)), .val (.int (Int32.ofNat len)), .unset, .unset, .unset] [.int (Int32.ofNat len)])) := c1.trans (by
    refine XS.iloadN X0.here hexec rfl (hb hbytes d0) rfl ?_
    exact Steps.refl _)
  obtain ⟨T3, B3, X3, ba3, bs3, bv3, bh3, bf3, st3⟩ := X0.anew hexec (atype := .byte) (wk W (.arrayClass .byte)) rfl (by show len * 1 ≤ _; omega) (by omega) (g := (mkF m 1 #[.val (.ref b), .val (.int (Int32.ofNat o)), .val (.int (Int32.ofNat len)), .unset, .unset, .unset] [.int (Int32.ofNat len)])) rfl (hb hbytes d1) (rest := []) rfl (Nat.le_refl _) (by show 0 + len ≤ len; omega)
  rw [hh0] at ba3 st3
  have kp3 : XT.Kept s T3 := (XT.Kept.of_eq hh0).push bh3
  have hA3 := hA.keep X3.warmed.alike (kp3 _ _ hA.1.1)
  have hne : b ≠ s.heap.size := hA.1.ne
  have c4 : Steps p.tables e below (s₁.setTop (entryFrame m #[.ref b, .int (Int32.ofNat o), .int (Int32.ofNat len)] 6)) (T3.setTop (mkF m 3 #[.val (.ref b), .val (.int (Int32.ofNat o)), .val (.int (Int32.ofNat len)), .unset, .unset, .unset] [.ref s.heap.size])) := c2.trans (st3 _ (Steps.refl _))
  have c5 : Steps p.tables e below (s₁.setTop (entryFrame m #[.ref b, .int (Int32.ofNat o), .int (Int32.ofNat len)] 6)) (T3.setTop (mkF m 9 #[.val (.ref b), .val (.int (Int32.ofNat o)), .val (.int (Int32.ofNat len)), .val (.ref s.heap.size), .unset, .unset] [.int (Int32.ofNat len), .int 0, .ref s.heap.size, .int (Int32.ofNat o), .ref b])) := c4.trans (by
    refine XS.astoreN X3.here hexec rfl (hb hbytes d3) rfl rfl rfl ?_
    refine XS.aloadN X3.here hexec rfl (hb hbytes d4) rfl rfl ?_
    refine XS.iloadN X3.here hexec rfl (hb hbytes d5) rfl ?_
    refine XS.aloadN X3.here hexec rfl (hb hbytes d6) rfl rfl ?_
    refine iconstV X3.here hexec rfl 0 (hb hbytes d7) (by decide) ?_
    refine XS.iloadN X3.here hexec rfl (hb hbytes d8) rfl ?_
    exact Steps.refl _)
  obtain ⟨v6, T6, X6, E6, g6⟩ := X3.callS hexec (Cmp5.law l b A s.heap.size B3 o 0 len) hown (wks W (staticW U16 115 Cmp5.yN)) (wk W Cmp5.tab) (W := 0) (Nat.le_of_ble_eq_true rfl) (Nat.le_of_ble_eq_true rfl) (Nat.le_refl _) (by show 0 + len + 0 ≤ len; omega) (g := (mkF m 9 #[.val (.ref b), .val (.int (Int32.ofNat o)), .val (.int (Int32.ofNat len)), .val (.ref s.heap.size), .unset, .unset] [.int (Int32.ofNat len), .int (Int32.ofNat 0), .ref s.heap.size, .int (Int32.ofNat o), .ref b])) rfl (by rw [hml]; rfl) c5 (argsL := [.ref b, .int (Int32.ofNat o), .ref s.heap.size, .int (Int32.ofNat 0), .int (Int32.ofNat len)]) (rest := []) rfl rfl (by show 2 * 0 + 0 ≤ _; decide) (hb hbytes d9) (⟨rfl, hA3, ba3, hne, l1, by rw [bs3]; simp, hp⟩)
  obtain ⟨rfl, B6, p6, f6⟩ := E6
  have c7 : Steps p.tables e below (s₁.setTop (entryFrame m #[.ref b, .int (Int32.ofNat o), .int (Int32.ofNat len)] 6)) (T6.setTop (mkF m 12 #[.val (.ref b), .val (.int (Int32.ofNat o)), .val (.int (Int32.ofNat len)), .val (.ref s.heap.size), .unset, .unset] [.int (Int32.ofNat len)])) := g6
  have c8 : Steps p.tables e below (s₁.setTop (entryFrame m #[.ref b, .int (Int32.ofNat o), .int (Int32.ofNat len)] 6)) (T6.setTop (mkF m 58 #[.val (.ref b), .val (.int (Int32.ofNat o)), .val (.int (Int32.ofNat len)), .val (.ref s.heap.size), .val (.int (Int32.ofNat len)), .unset] [.ref s.heap.size])) := c7.trans (by
    refine XS.istore X6.here hexec rfl (hb hbytes d12) rfl rfl ?_
    refine XS.iload X6.here hexec rfl (hb hbytes d14) rfl ?_
    refine XS.iloadN X6.here hexec rfl (hb hbytes d16) rfl ?_
    refine XS.icmpYes X6.here hexec rfl (pc0 := 17) rfl (hb hbytes d17) rfl (ii_eq_t rfl) (by decide) rfl ?_
    refine XS.aloadN X6.here hexec rfl (hb hbytes d57) rfl rfl ?_
    exact Steps.refl _)
  have X8 := X6.wide (L' := []) (cells' := 1) (slots' := len) (fun x hx hlt => by
    simp only [List.nil_append, copyLocs, List.mem_map, List.mem_range] at hx
    obtain ⟨i, -, rfl⟩ := hx
    exact absurd hlt (Nat.lt_irrefl _)) (Nat.le_refl _) (by omega)
  exact ⟨T6, some (.ref s.heap.size), _, _, _, X8, rfl, rfl, rfl, (fun h => by cases h), ⟨⟨rfl, B6, ba3.like (X3.warmed.alike.symm.trans X6.warmed.alike) p6.1 f6.1 f6.2.1 f6.2.2.1, f6.2.1.trans bv3, by rw [X6.warmed.alike.findClass, f6.1]; exact bf3, by rw [f6.2.2.1, bs3]; simp, fun j hj => by rw [f6.2.2.2 j, if_pos (by omega)]; rfl, kp3.put p6 (Nat.le_refl _)⟩, by rw [p6.2.2, bh3, hh0]; simp⟩, fun fs hl => c8.trans (X8.areturnOut hexec rfl hret rfl (hb hbytes d58) hl)⟩
end Cmp3
namespace CodL
def yN : MethodName := ⟨"java/lang/StringUTF16", "coderFromArrayLen", "([BI)B"⟩
abbrev yB : ByteArray := jdk_52_method_15_code
theorem d0 : decode yB 0 = .ok (.iload_n 1, 1) := by decide +kernel
theorem d1 : decode yB 1 = .ok (.aload_n 0, 1) := by decide +kernel
theorem d2 : decode yB 2 = .ok (.arraylength, 1) := by decide +kernel
theorem d3 : decode yB 3 = .ok (.isub, 1) := by decide +kernel
theorem d4 : decode yB 4 = .ok (.bipush 31, 2) := by decide +kernel
theorem d6 : decode yB 6 = .ok (.iushr, 1) := by decide +kernel
theorem d7 : decode yB 7 = .ok (.i2b, 1) := by decide +kernel
theorem d8 : decode yB 8 = .ok (.ireturn, 1) := by decide +kernel
def site : List Cond := []
def tab : Cond := tabOf yN yB 2 (some .byte) site
def P (d : Addr) (B : Cell) (args : Array Value) (s : State) : Prop := args = #[.ref d, .int (Int32.ofNat B.slots.size)] ∧ Arr .byte d B s
def E (r : Option Value) (s u : State) : Prop := XT.PureE (some (.int 0)) r s u
/-- an array as long as the number of chars: LATIN1 -/
theorem law (l : Launch) (d : Addr) (B : Cell) : Law l yN 2 2 0 0 yB 2 (some .byte) site (P d B) E [] 0 0 := by
  refine Law.of_walk (plainFor_of_name (by decide +kernel)) (by decide +kernel) (by decide +kernel) (by decide) (fun _ _ h => by rw [h.1]; rfl) (fun _ U U' hal hh h => ⟨h.1, h.2.mv hal hh⟩) (fun r U U' V V' h1 hal h2 h => XT.PureE.mv r U U' V V' h1 hal h2 h) ?_
  intro p e s m args below meth c s₁ X0 hexec hbytes hml hret hlk hnm hown hh0 W hP
  obtain ⟨rfl, hB⟩ := hP
  have hB0 := hB.mv X0.warmed.alike hh0
  have c1 : Steps p.tables e below (s₁.setTop (entryFrame m #[.ref d, .int (Int32.ofNat B.slots.size)] 2)) (s₁.setTop (mkF m 0 #[.val (.ref d), .val (.int (Int32.ofNat B.slots.size))] [])) := entry rfl
  have c2 : Steps p.tables e below (s₁.setTop (entryFrame m #[.ref d, .int (Int32.ofNat B.slots.size)] 2)) (s₁.setTop (mkF m 2 #[.val (.ref d), .val (.int (Int32.ofNat B.slots.size))] [.ref d, .int (Int32.ofNat B.slots.size)])) := c1.trans (by
    refine XS.iloadN X0.here hexec rfl (hb hbytes d0) rfl ?_
    refine XS.aloadN X0.here hexec rfl (hb hbytes d1) rfl rfl ?_
    exact Steps.refl _)
  have c3 : Steps p.tables e below (s₁.setTop (entryFrame m #[.ref d, .int (Int32.ofNat B.slots.size)] 2)) (s₁.setTop (mkF m 8 #[.val (.ref d), .val (.int (Int32.ofNat B.slots.size))] [.int (lo8 (ushr (Int32.ofNat B.slots.size - Int32.ofNat B.slots.size) 31))])) := c2.trans (by
    refine X0.alen hexec hB0 rfl rfl (hb hbytes d2) ?_
    refine XS.isub X0.here hexec rfl (hb hbytes d3) rfl ?_
    refine bipushV X0.here hexec rfl 31 (hb hbytes d4) (by decide) ?_
    refine iushr X0.here hexec rfl (hb hbytes d6) rfl ?_
    refine i2b X0.here hexec rfl (hb hbytes d7) rfl ?_
    exact Steps.refl _)
  have e0 : lo8 (ushr (Int32.ofNat B.slots.size - Int32.ofNat B.slots.size) 31) = 0 := by rw [Int32.sub_self]; decide
  rw [e0] at c3
  exact ⟨s₁, some (.int 0), _, _, _, X0, rfl, rfl, rfl, (fun h => by cases h), ⟨rfl, hh0⟩, fun fs hl => c3.trans (X0.ireturnOut hexec hret rfl (Or.inr (Or.inr (Or.inl rfl))) (hb hbytes d8) hl)⟩
end CodL
/-- the String at a is Latin-1 over a new byte[] (the heap's one new cell): the low bytes of the len chars of A from o on; every cell but a is kept -/
def Got (a : Addr) (D : Cell) (fV fC : Field) (A : Cell) (o len : Nat) (r : Option Value) (s u : State) : Prop := r = none ∧ ∃ D' V : Cell, Blank "java/lang/String" a D' u ∧ Same D D' [fV.slot, fC.slot] ∧ D'.slots[fV.slot]? = some (.ref s.heap.size) ∧ D'.slots[fC.slot]? = some (.int 0) ∧ Arr .byte s.heap.size V u ∧ V.vm = .none ∧ u.vm.findClass "[B" = some V.cls ∧ V.slots.size = len ∧ (∀ j, j < len → V.slots[j]? = some (.int (lo8 (cv A (o + j))))) ∧ (∀ (y : Addr) (c : Cell), y ≠ a → s.heap[y]? = some c → u.heap[y]? = some c) ∧ u.heap.size = s.heap.size + 1
theorem Got.mv {a : Addr} {D A : Cell} {fV fC : Field} {o len : Nat} : ∀ r (U U' V V' : State), U'.heap = U.heap → V.vm.Alike V'.vm → V'.heap = V.heap → Got a D fV fC A o len r U V → Got a D fV fC A o len r U' V' :=
  fun r U U' V V' h1 hal h2 ⟨e0, D', X, a1, a2, a3, a4, a5, a6, a7, a8, a9, a10, a11⟩ => ⟨e0, D', X, a1.mv hal h2, a2, by rw [h1]; exact a3, a4, by rw [h1]; exact a5.mv hal h2, a6, by rw [hal.findClass]; exact a7, a8, a9, by rw [h1, h2]; exact a10, by rw [h1, h2]; exact a11⟩
namespace New4
def yN : MethodName := ⟨"java/lang/String", "<init>", "([CIILjava/lang/Void;)V"⟩
abbrev yB : ByteArray := jdk_42_method_149_code
theorem d0 : decode yB 0 = .ok (.aload_n 0, 1) := by decide +kernel
theorem d1 : decode yB 1 = .ok (.invokespecial 1, 3) := by decide +kernel
theorem d4 : decode yB 4 = .ok (.iload_n 3, 1) := by decide +kernel
theorem d5 : decode yB 5 = .ok (.ifCond (.ne) 22, 3) := by decide +kernel
theorem d27 : decode yB 27 = .ok (.getstatic 38, 3) := by decide +kernel
theorem d30 : decode yB 30 = .ok (.ifCond (.eq) 28, 3) := by decide +kernel
theorem d33 : decode yB 33 = .ok (.aload_n 1, 1) := by decide +kernel
theorem d34 : decode yB 34 = .ok (.iload_n 2, 1) := by decide +kernel
theorem d35 : decode yB 35 = .ok (.iload_n 3, 1) := by decide +kernel
theorem d36 : decode yB 36 = .ok (.invokestatic 177, 3) := by decide +kernel
theorem d39 : decode yB 39 = .ok (.astore 5, 2) := by decide +kernel
theorem d41 : decode yB 41 = .ok (.aload_n 0, 1) := by decide +kernel
theorem d42 : decode yB 42 = .ok (.aload 5, 2) := by decide +kernel
theorem d44 : decode yB 44 = .ok (.iload_n 3, 1) := by decide +kernel
theorem d45 : decode yB 45 = .ok (.invokestatic 47, 3) := by decide +kernel
theorem d48 : decode yB 48 = .ok (.putfield 15, 3) := by decide +kernel
theorem d51 : decode yB 51 = .ok (.aload_n 0, 1) := by decide +kernel
theorem d52 : decode yB 52 = .ok (.aload 5, 2) := by decide +kernel
theorem d54 : decode yB 54 = .ok (.putfield 9, 3) := by decide +kernel
theorem d57 : decode yB 57 = .ok (.return_, 1) := by decide +kernel
def site : List Cond := [.fieldLink "java/lang/String" 38 "java/lang/String" "COMPACT_STRINGS" "Z", Cmp3.tab, CodL.tab, .laysFinal "java/lang/String" "java/lang/String" "value" "[B", .fieldLink "java/lang/String" 9 "java/lang/String" "value" "[B", .laysFinal "java/lang/String" "java/lang/String" "coder" "B", .fieldLink "java/lang/String" 15 "java/lang/String" "coder" "B"] ++ objW "java/lang/String" 1 ++ staticW "java/lang/String" 177 Cmp3.yN ++ staticW "java/lang/String" 47 CodL.yN
def tab : Cond := tabOf yN yB 6 none site
def P (a : Addr) (D : Cell) (fV fC : Field) (b : Addr) (A : Cell) (z : Int32) (o len : Nat) (args : Array Value) (s : State) : Prop := args = #[.ref a, .ref b, .int (Int32.ofNat o), .int (Int32.ofNat len), .null] ∧ Blank "java/lang/String" a D s ∧ Found "java/lang/String" "value" "[B" fV s ∧ Found "java/lang/String" "coder" "B" fC s ∧ Ch b A s ∧ StaticIs s "java/lang/String" "COMPACT_STRINGS" "Z" (.int z) ∧ ¬ z = 0 ∧ 0 < len ∧ o + len ≤ A.slots.size ∧ len ≤ 536870912 ∧ ∀ i, i < len → ¬ 255 < cv A (o + i)
def E (a : Addr) (D : Cell) (fV fC : Field) (A : Cell) (o len : Nat) (r : Option Value) (s u : State) : Prop := Got a D fV fC A o len r s u
/-- len > 0, no char of the range above 255: a Latin-1 String of their low bytes -/
theorem law (l : Launch) (a : Addr) (D : Cell) (fV fC : Field) (b : Addr) (A : Cell) (z : Int32) (o len : Nat) : Law l yN 5 4 2 35 yB 6 none site (P a D fV fC b A z o len) (E a D fV fC A o len) [⟨a, fC.slot⟩, ⟨a, fV.slot⟩] 1 len := by
  refine Law.of_walk (plainFor_of_name (by decide +kernel)) (by decide +kernel) (by decide +kernel) (by decide) (fun _ _ h => by rw [h.1]; rfl) (fun _ U U' hal hh h => ⟨h.1, h.2.1.mv hal hh, h.2.2.1.al hal, h.2.2.2.1.al hal, h.2.2.2.2.1.mv hal hh, h.2.2.2.2.2.1.there hal hh, h.2.2.2.2.2.2⟩) (fun r U U' V V' h1 hal h2 h => Got.mv r U U' V V' h1 hal h2 h) ?_
  intro p e s m args below meth c s₁ X0 hexec hbytes hml hret hlk hnm hown hh0 W hP
  obtain ⟨rfl, hB, f1, f2, hA, s1, hz, l0, l1, l2, hp⟩ := hP
  have a31 := hA.1.2.2.2
  have c1 : Steps p.tables e below (s₁.setTop (entryFrame m #[.ref a, .ref b, .int (Int32.ofNat o), .int (Int32.ofNat len), .null] 6)) (s₁.setTop (mkF m 0 #[.val (.ref a), .val (.ref b), .val (.int (Int32.ofNat o)), .val (.int (Int32.ofNat len)), .val .null, .unset] [])) := entry rfl
  have c2 : Steps p.tables e below (s₁.setTop (entryFrame m #[.ref a, .ref b, .int (Int32.ofNat o), .int (Int32.ofNat len), .null] 6)) (s₁.setTop (mkF m 1 #[.val (.ref a), .val (.ref b), .val (.int (Int32.ofNat o)), .val (.int (Int32.ofNat len)), .val .null, .unset] [.ref a])) := c1.trans (by
    refine XS.aloadN X0.here hexec rfl (hb hbytes d0) rfl rfl ?_
    exact Steps.refl _)
  obtain ⟨T3, X3, q3, st3⟩ := X0.oinit hexec hown (wks W (objW "java/lang/String" 1)) (g := (mkF m 1 #[.val (.ref a), .val (.ref b), .val (.int (Int32.ofNat o)), .val (.int (Int32.ofNat len)), .val .null, .unset] [.ref a])) rfl (by rw [hml]; rfl) (rest := []) rfl (hb hbytes d1) (W := 0) (by show 2 * 0 + 0 ≤ _; decide) (Nat.le_of_ble_eq_true rfl) (Nat.le_of_ble_eq_true rfl)
  have hh3 := q3.trans hh0
  have c4 : Steps p.tables e below (s₁.setTop (entryFrame m #[.ref a, .ref b, .int (Int32.ofNat o), .int (Int32.ofNat len), .null] 6)) (T3.setTop (mkF m 27 #[.val (.ref a), .val (.ref b), .val (.int (Int32.ofNat o)), .val (.int (Int32.ofNat len)), .val .null, .unset] [])) := (c2.trans (st3 _ (Steps.refl _))).trans (by
    refine XS.iloadN X3.here hexec rfl (hb hbytes d4) rfl ?_
    refine XS.ifYes X3.here hexec rfl (pc0 := 5) rfl (hb hbytes d5) rfl (i0_ne_t (nz32 (by omega) l0)) (by decide) rfl ?_
    exact Steps.refl _)
  obtain ⟨T5, X5, q5, st5⟩ := X3.sget hexec hown (wk W (.fieldLink "java/lang/String" 38 "java/lang/String" "COMPACT_STRINGS" "Z")) s1 (fun _ _ h => by rw [hh3]; exact h) (g := (mkF m 27 #[.val (.ref a), .val (.ref b), .val (.int (Int32.ofNat o)), .val (.int (Int32.ofNat len)), .val .null, .unset] [])) rfl (hb hbytes d27)
  have hh5 := q5.trans hh3
  have c6 : Steps p.tables e below (s₁.setTop (entryFrame m #[.ref a, .ref b, .int (Int32.ofNat o), .int (Int32.ofNat len), .null] 6)) (T5.setTop (mkF m 30 #[.val (.ref a), .val (.ref b), .val (.int (Int32.ofNat o)), .val (.int (Int32.ofNat len)), .val .null, .unset] [.int z])) := c4.trans (st5 _ (Steps.refl _))
  have c7 : Steps p.tables e below (s₁.setTop (entryFrame m #[.ref a, .ref b, .int (Int32.ofNat o), .int (Int32.ofNat len), .null] 6)) (T5.setTop (mkF m 36 #[.val (.ref a), .val (.ref b), .val (.int (Int32.ofNat o)), .val (.int (Int32.ofNat len)), .val .null, .unset] [.int (Int32.ofNat len), .int (Int32.ofNat o), .ref b])) := c6.trans (by
    refine XS.ifNo X5.here hexec rfl (hb hbytes d30) rfl (i0_eq_f hz) ?_
    refine XS.aloadN X5.here hexec rfl (hb hbytes d33) rfl rfl ?_
    refine XS.iloadN X5.here hexec rfl (hb hbytes d34) rfl ?_
    refine XS.iloadN X5.here hexec rfl (hb hbytes d35) rfl ?_
    exact Steps.refl _)
  obtain ⟨v8, T8, X8, E8, g8⟩ := X5.callS hexec (Cmp3.law l b A o len) hown (wks W (staticW "java/lang/String" 177 Cmp3.yN)) (wk W Cmp3.tab) (W := 0) (Nat.le_of_ble_eq_true rfl) (Nat.le_of_ble_eq_true rfl) (Nat.le_refl _) (by show 0 + len ≤ len; omega) (g := (mkF m 36 #[.val (.ref a), .val (.ref b), .val (.int (Int32.ofNat o)), .val (.int (Int32.ofNat len)), .val .null, .unset] [.int (Int32.ofNat len), .int (Int32.ofNat o), .ref b])) rfl (by rw [hml]; rfl) c7 (argsL := [.ref b, .int (Int32.ofNat o), .int (Int32.ofNat len)]) (rest := []) rfl rfl (by show 2 * 0 + 0 ≤ _; decide) (hb hbytes d36) (⟨rfl, hA.mv X5.warmed.alike hh5, l1, l2, hp⟩)
  obtain ⟨e8, z8⟩ := E8
  obtain ⟨rfl, N, n1, n2, n3, n4, n5, n6⟩ := NewArr.mv _ T5 s _ _ hh5.symm (Vm.Alike.refl _) rfl e8
  rw [hh5] at z8
  have hB1 := hB.keep X8.warmed.alike (n6 _ _ hB.1)
  have hne : s.heap.size ≠ a := (Nat.ne_of_lt (Array.getElem?_eq_some_iff.mp hB.1).1).symm
  have c9 : Steps p.tables e below (s₁.setTop (entryFrame m #[.ref a, .ref b, .int (Int32.ofNat o), .int (Int32.ofNat len), .null] 6)) (T8.setTop (mkF m 39 #[.val (.ref a), .val (.ref b), .val (.int (Int32.ofNat o)), .val (.int (Int32.ofNat len)), .val .null, .unset] [.ref s.heap.size])) := g8
  have c10 : Steps p.tables e below (s₁.setTop (entryFrame m #[.ref a, .ref b, .int (Int32.ofNat o), .int (Int32.ofNat len), .null] 6)) (T8.setTop (mkF m 45 #[.val (.ref a), .val (.ref b), .val (.int (Int32.ofNat o)), .val (.int (Int32.ofNat len)), .val .null, .val (.ref s.heap.size)] [.int (Int32.ofNat N.slots.size), .ref s.heap.size, .ref a])) := by
    have hc : Steps p.tables e below (s₁.setTop (entryFrame m #[.ref a, .ref b, .int (Int32.ofNat o), .int (Int32.ofNat len), .null] 6)) (T8.setTop (mkF m 45 #[.val (.ref a), .val (.ref b), .val (.int (Int32.ofNat o)), .val (.int (Int32.ofNat len)), .val .null, .val (.ref s.heap.size)] [.int (Int32.ofNat len), .ref s.heap.size, .ref a])) := c9.trans (by
      refine XS.astore X8.here hexec rfl (hb hbytes d39) rfl rfl rfl ?_
      refine XS.aloadN X8.here hexec rfl (hb hbytes d41) rfl rfl ?_
      refine XS.aload X8.here hexec rfl (hb hbytes d42) rfl rfl ?_
      refine XS.iloadN X8.here hexec rfl (hb hbytes d44) rfl ?_
      exact Steps.refl _)
    rw [n4]; exact hc
  obtain ⟨v11, T11, X11, E11, g11⟩ := X8.callS hexec (CodL.law l s.heap.size N) hown (wks W (staticW "java/lang/String" 47 CodL.yN)) (wk W CodL.tab) (W := 1) (Nat.le_of_ble_eq_true rfl) (Nat.le_of_ble_eq_true rfl) (Nat.le_refl _) (by show 0 + len + 0 ≤ len; omega) (g := (mkF m 45 #[.val (.ref a), .val (.ref b), .val (.int (Int32.ofNat o)), .val (.int (Int32.ofNat len)), .val .null, .val (.ref s.heap.size)] [.int (Int32.ofNat N.slots.size), .ref s.heap.size, .ref a])) rfl (by rw [hml]; rfl) c10 (argsL := [.ref s.heap.size, .int (Int32.ofNat N.slots.size)]) (rest := [.ref a]) rfl rfl (by show 2 * 0 + (1 + 0) ≤ _; decide) (hb hbytes d45) (⟨rfl, n1⟩)
  obtain ⟨rfl, q11⟩ := E11
  have hB11 := hB1.mv (X8.warmed.alike.symm.trans X11.warmed.alike) q11
  have c12 : Steps p.tables e below (s₁.setTop (entryFrame m #[.ref a, .ref b, .int (Int32.ofNat o), .int (Int32.ofNat len), .null] 6)) (T11.setTop (mkF m 48 #[.val (.ref a), .val (.ref b), .val (.int (Int32.ofNat o)), .val (.int (Int32.ofNat len)), .val .null, .val (.ref s.heap.size)] [.int 0, .ref a])) := g11
  obtain ⟨T13, X13, p13, bl13, sl13, st13⟩ := X11.finit hexec hown (wk W (.fieldLink "java/lang/String" 15 "java/lang/String" "coder" "B")) (Or.inr ⟨_, (wk W (.laysFinal "java/lang/String" "java/lang/String" "coder" "B"))⟩) (Or.inl ⟨rfl, hnm⟩) f2 (Or.inl rfl) hB11 (t := .byte) (by decide +kernel) rfl (g := (mkF m 48 #[.val (.ref a), .val (.ref b), .val (.int (Int32.ofNat o)), .val (.int (Int32.ofNat len)), .val .null, .val (.ref s.heap.size)] [.int 0, .ref a])) rfl (rest := []) rfl (hb hbytes d48)
  have c14 : Steps p.tables e below (s₁.setTop (entryFrame m #[.ref a, .ref b, .int (Int32.ofNat o), .int (Int32.ofNat len), .null] 6)) (T13.setTop (mkF m 54 #[.val (.ref a), .val (.ref b), .val (.int (Int32.ofNat o)), .val (.int (Int32.ofNat len)), .val .null, .val (.ref s.heap.size)] [.ref s.heap.size, .ref a])) := (c12.trans (st13 _ (Steps.refl _))).trans (by
    refine XS.aloadN X13.here hexec rfl (hb hbytes d51) rfl rfl ?_
    refine XS.aload X13.here hexec rfl (hb hbytes d52) rfl rfl ?_
    exact Steps.refl _)
  obtain ⟨T15, X15, p15, bl15, sl15, st15⟩ := X13.finit hexec hown (wk W (.fieldLink "java/lang/String" 9 "java/lang/String" "value" "[B")) (Or.inr ⟨_, (wk W (.laysFinal "java/lang/String" "java/lang/String" "value" "[B"))⟩) (Or.inl ⟨rfl, hnm⟩) f1 (Or.inl rfl) bl13 (t := (.array .byte)) (by decide +kernel) rfl (g := (mkF m 54 #[.val (.ref a), .val (.ref b), .val (.int (Int32.ofNat o)), .val (.int (Int32.ofNat len)), .val .null, .val (.ref s.heap.size)] [.ref s.heap.size, .ref a])) rfl (rest := []) rfl (hb hbytes d54)
  have c16 : Steps p.tables e below (s₁.setTop (entryFrame m #[.ref a, .ref b, .int (Int32.ofNat o), .int (Int32.ofNat len), .null] 6)) (T15.setTop (mkF m 57 #[.val (.ref a), .val (.ref b), .val (.int (Int32.ofNat o)), .val (.int (Int32.ofNat len)), .val .null, .val (.ref s.heap.size)] [])) := c14.trans (st15 _ (Steps.refl _))
  have ap := apart (Or.inr ⟨_, (wk W (.laysFinal "java/lang/String" "java/lang/String" "value" "[B"))⟩) (Or.inr ⟨_, (wk W (.laysFinal "java/lang/String" "java/lang/String" "coder" "B"))⟩) f1 f2 (t₁ := .array .byte) (t₂ := .byte) (by decide +kernel) (by decide +kernel) (by decide)
  have al := X8.warmed.alike.symm.trans X15.warmed.alike
  have n7 : T11.heap[s.heap.size]? = some N := by rw [q11]; exact n1.1
  exact ⟨T15, none, _, _, _, X15, by simp, rfl, by omega, (fun _ => rfl), ⟨rfl, _, N, bl15, ((Same.refl D _).set _ (by simp)).set _ (by simp), sl15, (Cell.slots_setSlot_ne _ ap).trans sl13, n1.keep al (p15.other hne (p13.other hne n7)), n2, by rw [al.findClass]; exact n3, n4, n5, fun y c h1 h2 => p15.other h1 (p13.other h1 (by rw [q11]; exact n6 y c h2)), by rw [p15.2.2, p13.2.2, q11]; exact z8⟩, fun fs hl => c16.trans (X15.returnOut hexec hret (hb hbytes d57) hl)⟩
end New4
namespace New1
def yN : MethodName := ⟨"java/lang/String", "<init>", "([C)V"⟩
abbrev yB : ByteArray := jdk_42_method_3_code
theorem d0 : decode yB 0 = .ok (.aload_n 0, 1) := by decide +kernel
theorem d1 : decode yB 1 = .ok (.aload_n 1, 1) := by decide +kernel
theorem d2 : decode yB 2 = .ok (.iconst 0, 1) := by decide +kernel
theorem d3 : decode yB 3 = .ok (.aload_n 1, 1) := by decide +kernel
theorem d4 : decode yB 4 = .ok (.arraylength, 1) := by decide +kernel
theorem d5 : decode yB 5 = .ok (.aconst_null, 1) := by decide +kernel
theorem d6 : decode yB 6 = .ok (.invokespecial 27, 3) := by decide +kernel
theorem d9 : decode yB 9 = .ok (.return_, 1) := by decide +kernel
def site : List Cond := [New4.tab] ++ initW "java/lang/String" 27 New4.yN
def tab : Cond := tabOf yN yB 2 none site
def P (a : Addr) (D : Cell) (fV fC : Field) (b : Addr) (A : Cell) (z : Int32) (args : Array Value) (s : State) : Prop := args = #[.ref a, .ref b] ∧ Blank "java/lang/String" a D s ∧ Found "java/lang/String" "value" "[B" fV s ∧ Found "java/lang/String" "coder" "B" fC s ∧ Ch b A s ∧ StaticIs s "java/lang/String" "COMPACT_STRINGS" "Z" (.int z) ∧ ¬ z = 0 ∧ 0 < A.slots.size ∧ A.slots.size ≤ 536870912 ∧ ∀ i, i < A.slots.size → ¬ 255 < cv A i
def E (a : Addr) (D : Cell) (fV fC : Field) (A : Cell) (r : Option Value) (s u : State) : Prop := Got a D fV fC A 0 A.slots.size r s u
/-- new String(chars), not empty, no char above 255: a Latin-1 String of their low bytes -/
theorem law (l : Launch) (a : Addr) (D : Cell) (fV fC : Field) (b : Addr) (A : Cell) (z : Int32) : Law l yN 2 1 3 52 yB 2 none site (P a D fV fC b A z) (E a D fV fC A) [⟨a, fC.slot⟩, ⟨a, fV.slot⟩] 1 A.slots.size := by
  refine Law.of_walk (plainFor_of_name (by decide +kernel)) (by decide +kernel) (by decide +kernel) (by decide) (fun _ _ h => by rw [h.1]; rfl) (fun _ U U' hal hh h => ⟨h.1, h.2.1.mv hal hh, h.2.2.1.al hal, h.2.2.2.1.al hal, h.2.2.2.2.1.mv hal hh, h.2.2.2.2.2.1.there hal hh, h.2.2.2.2.2.2⟩) (fun r U U' V V' h1 hal h2 h => Got.mv r U U' V V' h1 hal h2 h) ?_
  intro p e s m args below meth c s₁ X0 hexec hbytes hml hret hlk hnm hown hh0 W hP
  obtain ⟨rfl, hB, f1, f2, hA, s1, hz, l0, l2, hp⟩ := hP
  have c1 : Steps p.tables e below (s₁.setTop (entryFrame m #[.ref a, .ref b] 2)) (s₁.setTop (mkF m 0 #[.val (.ref a), .val (.ref b)] [])) := entry rfl
  have c2 : Steps p.tables e below (s₁.setTop (entryFrame m #[.ref a, .ref b] 2)) (s₁.setTop (mkF m 6 #[.val (.ref a), .val (.ref b)] [.null, .int (Int32.ofNat A.slots.size), .int 0, .ref b, .ref a])) := c1.trans (by
    refine XS.aloadN X0.here hexec rfl (hb hbytes d0) rfl rfl ?_
    refine XS.aloadN X0.here hexec rfl (hb hbytes d1) rfl rfl ?_
    refine iconstV X0.here hexec rfl 0 (hb hbytes d2) (by decide) ?_
    refine XS.aloadN X0.here hexec rfl (hb hbytes d3) rfl rfl ?_
    refine X0.alen hexec (hA.1.mv X0.warmed.alike hh0) rfl rfl (hb hbytes d4) ?_
    refine XS.aconstNull X0.here hexec rfl (hb hbytes d5) ?_
    exact Steps.refl _)
  obtain ⟨v3, T3, X3, E3, g3⟩ := X0.callN hexec (New4.law l a D fV fC b A z 0 A.slots.size) rfl hown (wks W (initW "java/lang/String" 27 New4.yN)) (W New4.tab (by simp only [site, List.mem_cons, List.mem_append, true_or, or_true])) (W := 0) (Nat.le_of_ble_eq_true rfl) (Nat.le_of_ble_eq_true rfl) (Nat.le_refl _) (by show 0 + A.slots.size ≤ A.slots.size; omega) (g := (mkF m 6 #[.val (.ref a), .val (.ref b)] [.null, .int (Int32.ofNat A.slots.size), .int (Int32.ofNat 0), .ref b, .ref a])) rfl (by rw [hml]; rfl) c2 (argsL := [.ref b, .int (Int32.ofNat 0), .int (Int32.ofNat A.slots.size), .null]) (rest := []) rfl rfl (by show 2 * 0 + 0 ≤ _; decide) (hb hbytes d6) (⟨rfl, hB.mv X0.warmed.alike hh0, f1.al X0.warmed.alike, f2.al X0.warmed.alike, hA.mv X0.warmed.alike hh0, s1.there X0.warmed.alike hh0, hz, l0, by omega, l2, fun i hi => by rw [Nat.zero_add]; exact hp i hi⟩)
  have e0 := Got.mv _ s₁ s _ _ hh0.symm (Vm.Alike.refl _) rfl E3
  obtain rfl := e0.1
  have c4 : Steps p.tables e below (s₁.setTop (entryFrame m #[.ref a, .ref b] 2)) (T3.setTop (mkF m 9 #[.val (.ref a), .val (.ref b)] [])) := g3
  exact ⟨T3, none, _, _, _, X3, by simp, rfl, by omega, (fun _ => rfl), e0, fun fs hl => c4.trans (X3.returnOut hexec hret (hb hbytes d9) hl)⟩
theorem pays {l : Launch} {R : Room} {p : Program} {e : Env} {below : List Frame} {s : State} {sargs : Array Value} {len W : Nat} (a : Addr) (D : Cell) (fV fC : Field) (b : Addr) (A : Cell) (z : Int32) (htab : tab.before sargs s = true) (hfr : 4 ≤ R.frames) (hlo : W + 65 ≤ R.locals) :
    Back l R p e below s sargs yN len W (fun A₁ a₁ => A₁.cells + 1 ≤ R.cells ∧ A₁.slots + A.slots.size ≤ R.slots ∧ P a D fV fC b A z a₁ A₁.U) (fun A₁ _ v₁ B₁ => E a D fV fC A v₁ A₁.U B₁.U ∧ B₁.locs = A₁.locs ++ [⟨a, fC.slot⟩, ⟨a, fV.slot⟩] ∧ B₁.cells = A₁.cells + 1 ∧ B₁.slots = A₁.slots + A.slots.size) :=
  (law l a D fV fC b A z).pays htab hfr (by omega)
end New1
end StrChars
namespace StrChars.Road
open Jvm Sem ClassFile Op Lib Jvm.Stand Jvm.Free Jvm.Free.XT
open Jvm.Lib.Cold (StaticIs)
abbrev ST : String := "java/lang/String"
/-- every table word that New1's law asks, flat -/
abbrev words : List Jvm.Cond := [.code New1.yN New1.yB 2 none, .initialized ST, .methodLink ST 27 New4.yN, .instanceMethod New4.yN,
  .code New4.yN New4.yB 6 none, .fieldLink ST 38 ST "COMPACT_STRINGS" "Z", .laysFinal ST ST "value" "[B", .fieldLink ST 9 ST "value" "[B", .laysFinal ST ST "coder" "B", .fieldLink ST 15 ST "coder" "B",
  .methodLink ST 1 Lib.objectInit, .instanceMethod Lib.objectInit, .code Lib.objectInit ⟨#[0xb1]⟩ 1 none, .methodLink ST 177 Cmp3.yN, .static Cmp3.yN, .methodLink ST 47 CodL.yN, .static CodL.yN,
  .code Cmp3.yN Cmp3.yB 6 (some (.array .byte)), .initialized U16, .arrayClass .byte, .methodLink U16 115 Cmp5.yN, .static Cmp5.yN, .code Cmp5.yN Cmp5.yB 7 (some .int), .code CodL.yN CodL.yB 2 (some .byte)]
theorem tab_of {a : Array Value} {s : State} (h : ∀ w ∈ words, w.before a s = true) : New1.tab.before a s = true := by
  have h5 : Cmp5.tab.before a s = true := unparts (wk h (.code Cmp5.yN Cmp5.yB 7 (some .int))) (wks h (.initialized Cmp5.yN.cls :: Cmp5.site))
  have hc : CodL.tab.before a s = true := unparts (wk h (.code CodL.yN CodL.yB 2 (some .byte))) (wks h (.initialized CodL.yN.cls :: CodL.site))
  have q5 : ∀ w ∈ Cmp5.tab :: words, w.before a s = true := fun w hw => (List.mem_cons.mp hw).elim (fun e => e ▸ h5) (h w)
  have h3 : Cmp3.tab.before a s = true := unparts (wk q5 (.code Cmp3.yN Cmp3.yB 6 (some (.array .byte)))) (wks q5 (.initialized Cmp3.yN.cls :: Cmp3.site))
  have q3 : ∀ w ∈ Cmp3.tab :: CodL.tab :: words, w.before a s = true := fun w hw => (List.mem_cons.mp hw).elim (fun e => e ▸ h3) fun hw => (List.mem_cons.mp hw).elim (fun e => e ▸ hc) (h w)
  have h4 : New4.tab.before a s = true := unparts (wk q3 (.code New4.yN New4.yB 6 none)) (wks q3 (.initialized New4.yN.cls :: New4.site))
  have q4 : ∀ w ∈ New4.tab :: words, w.before a s = true := fun w hw => (List.mem_cons.mp hw).elim (fun e => e ▸ h4) (h w)
  exact unparts (wk q4 (.code New1.yN New1.yB 2 none)) (wks q4 (.initialized New1.yN.cls :: New1.site))
/-- the words ride from the start Z to the walk's own state -/
theorem moved {Z s : State} {a0 args : Array Value} (hZ : Z.Warmed39 s.vm) (hw : ∀ d ∈ words, d.before a0 Z = true) : ∀ d ∈ words, d.before args s = true := fun d hd => by
  have q := hw d hd
  have t : ∀ d ∈ words, d = .arrayClass .byte ∨ (d.onTables && d.keepsFace) = true := by decide +kernel
  rcases t d hd with rfl | t
  · exact RoadKit.mvA hZ q
  · exact RoadKit.mv hZ q t
/-- WHAT COMES BACK, over the tables of the start Z: h the heap at the call, h' behind it -/
def Q (Z : State) (x : Addr) (A : Cell) (h : Heap) (v : Option Value) (h' : Heap) (L : List Loc) : Prop := v = none ∧ (∀ y ∈ L, y.base = x) ∧ RoadKit.Keep h h' [x] ∧ h'.size = h.size + 1 ∧ RoadKit.Exa Z h' x ST ∧ RoadKit.Fld Z h' x ST "value" "[B" (.ref h.size) ∧ RoadKit.Fld Z h' x ST "coder" "B" (.int 0) ∧
  (∃ V : Cell, RoadKit.Arr Z h' h.size V .byte ∧ V.vm = .none ∧ Z.vm.findClass "[B" = some V.cls ∧ V.slots.size = A.slots.size ∧ ∀ j, j < A.slots.size → V.slots[j]? = some (.int (lo8 (cv A j)))) ∧
  ∀ (O n d : String) (w : Value), RoadKit.Fld Z h x O n d w → RoadKit.slotOf Z O n d ≠ RoadKit.slotOf Z ST "value" "[B" → RoadKit.slotOf Z O n d ≠ RoadKit.slotOf Z ST "coder" "B" → RoadKit.Fld Z h' x O n d w
/-- **new String(chars) AT A CALL, IN THE ROAD'S FORM**: for specialBack behind newO: x the fresh String, b the char[] with the cell A -/
theorem back {p : Program} {l : Launch} {e : Env} {R : Room} {s : State} {args : Array Value} {below : List Frame} {len W : Nat} {Z : State} {a0 : Array Value} {h : Heap} (hZ : Z.Warmed39 s.vm) (hw : ∀ d ∈ words, d.before a0 Z = true) {kI : Nat} (wi : (Jvm.Cond.instantiable ST kI).before a0 Z = true)
    {x b : Addr} {A : Cell} {z : Int32} {v0 c0 : Value} (E : RoadKit.Exa Z h x ST) (V : RoadKit.Fld Z h x ST "value" "[B" v0) (C : RoadKit.Fld Z h x ST "coder" "B" c0) (K : RoadKit.Arr Z h b A .char) (hty : Typed .char A) (S : RoadKit.Sta Z h ST "COMPACT_STRINGS" "Z" (.int z)) (hz : ¬ z = 0)
    (l0 : 0 < A.slots.size) (l2 : A.slots.size ≤ 536870912) (hp : ∀ i, i < A.slots.size → ¬ 255 < cv A i) (hfr : 4 ≤ R.frames) (hlo : W + 65 ≤ R.locals) :
    Back l R p e below s args New1.yN len W (fun P a => a = #[.ref x, .ref b] ∧ P.U.heap = h ∧ P.cells + 1 ≤ R.cells ∧ P.slots + A.slots.size ≤ R.slots)
      (fun P _ v B => ∃ L, Q Z x A h v B.U.heap L ∧ B.locs = P.locs ++ L ∧ B.cells = P.cells + 1 ∧ B.slots = P.slots + A.slots.size) := by
  intro m meth c P g ig mk a X hg hsize hdg hW hn hp'
  obtain ⟨rfl, rfl, r1, r2⟩ := hp'
  have al : Z.vm.Alike P.U.vm := hZ.alike.trans X.warmed.alike
  obtain ⟨D, cfV, kV, iV, fV, hD, gV, stV, knV, obV, asV, slV⟩ := id V
  obtain ⟨D', cfC, kC, iC, fC, hD', gC, stC, -, -, asC, slC⟩ := id C
  cases hD.symm.trans hD'
  obtain ⟨D2, kD, e1, e2, e3, e4, e5⟩ := id E
  cases hD.symm.trans e1
  obtain ⟨c2, k2, i1, i2, i3, -⟩ := Cond.instantiable_spec wi
  cases e2.symm.trans i1
  cases e3.symm.trans i2
  obtain ⟨kU, u1, u2⟩ := al.2.2 _ _ e3
  have hB : Blank ST x D P.U := ⟨hD, ⟨knV, fun q hq => by rw [hq] at obV; cases obV⟩, by rw [al.findClass]; exact e2, kU, u1, by rw [u2]; exact i3, by rw [u2]; exact e5 i3⟩
  have F1 : Found ST "value" "[B" fV P.U := ⟨SBG.found_only al ⟨cfV, kV, iV, gV⟩, stV⟩
  have F2 : Found ST "coder" "B" fC P.U := ⟨SBG.found_only al ⟨cfC, kC, iC, gC⟩, stC⟩
  have hA : Ch b A P.U := ⟨⟨K.1, State.isArrayOf_alike al K.2.1, K.2.2, by omega⟩, hty⟩
  have hS : StaticIs P.U ST "COMPACT_STRINGS" "Z" (.int z) := by
    obtain ⟨cfS, iS, kS, fS, st, cS, t1, t2, t3, t4, t5, t6, t7⟩ := S
    exact StaticIs.there (s := { Z with heap := P.U.heap }) ⟨cfS, iS, kS, fS, st, cS, t1, t2, t3, t4, t5, (fun q => by rw [q] at t6; cases t6), t7⟩ al rfl
  obtain ⟨v, B, X', ⟨⟨hv, E', V', q1, q2, q3, q4, q5, q6, q7, q8, q9, q10, q11⟩, hl, hc, hs⟩, st⟩ := New1.pays x D fV fC b A z (tab_of (moved hZ hw)) hfr hlo m meth c P g ig mk _ X hg hsize hdg hW hn ⟨r1, r2, rfl, hB, F1, F2, hA, hS, hz, l0, l2, hp⟩
  have al' : Z.vm.Alike B.U.vm := hZ.alike.trans X'.warmed.alike
  have hsz : E'.slots.size = D.slots.size := by
    obtain ⟨-, -, -, kB, w1, w2, w3⟩ := q1
    obtain ⟨kB', y1, y2⟩ := al'.2.2 _ _ e3
    rw [q2.2.1] at w1
    cases w1.symm.trans y1
    rw [w3, e5 i3, y2]
  refine ⟨v, B, X', ⟨_, ⟨hv, ?_, ⟨by omega, fun y cy hy hn' => q10 y cy (by simpa using hn') hy, fun y cy hy => ?_⟩, q11, ⟨E', _, q1.1, by rw [q2.2.1]; exact e2, by rw [q2.2.1]; exact e3, by rw [q2.1]; exact obV, fun _ => by rw [hsz]; exact e5 i3⟩,
    ⟨E', cfV, kV, iV, fV, q1.1, gV, stV, by rw [q2.1]; exact knV, by rw [q2.1]; exact obV, by rw [q2.2.1]; exact asV, q3⟩, ⟨E', cfC, kC, iC, fC, q1.1, gC, stC, by rw [q2.1]; exact knV, by rw [q2.1]; exact obV, by rw [q2.2.1]; exact asC, q4⟩,
    ⟨V', ⟨q5.1, State.isArrayOf_alike al'.symm q5.2.1, q5.2.2.1⟩, q6, by rw [← al'.findClass]; exact q7, q8, fun j hj => by have := q9 j hj; rwa [Nat.zero_add] at this⟩, fun O n d w F n1 n2 => ?_⟩, hl, hc, hs⟩, st⟩
  · intro y hy
    simp only [List.mem_cons, List.not_mem_nil, or_false] at hy
    rcases hy with rfl | rfl <;> rfl
  · by_cases q : y = x
    · subst q
      cases hD.symm.trans hy
      exact ⟨E', q1.1, q2.2.1, q2.1, hsz⟩
    · exact ⟨cy, q10 y cy q hy, rfl, rfl, rfl⟩
  · obtain ⟨D3, cf, k, i, f, g1, g2, g3, g4, g5, g6, g7⟩ := F
    cases hD.symm.trans g1
    simp only [RoadKit.slotOf, g2, gV, gC, Option.map_some, Option.getD_some] at n1 n2
    exact ⟨E', cf, k, i, f, q1.1, g2, g3, by rw [q2.1]; exact g4, by rw [q2.1]; exact g5, by rw [q2.2.1]; exact g6, by rw [q2.2.2 f.slot (by simp [n1, n2])]; exact g7⟩
end StrChars.Road
namespace StrChars.Road
open Jvm Sem ClassFile Op Lib Jvm.Stand Jvm.Free Jvm.Free.XT
/-- WHAT COMES BACK, the byte[] as a list of values -/
def QA (Z : State) (x : Addr) (zn : Int32) (cs : List Int32) (h : Heap) (v : Option Value) (h' : Heap) (L : List Loc) : Prop := v = none ∧ (∀ y ∈ L, y.base = x) ∧ RoadKit.Keep h h' [x] ∧ h'.size = h.size + 1 ∧ RoadKit.Exa Z h' x ST ∧ RoadKit.Fld Z h' x ST "value" "[B" (.ref h.size) ∧ RoadKit.Fld Z h' x ST "coder" "B" (.int 0) ∧
  (∃ kb, Z.vm.findClass "[B" = some kb ∧ RoadKit.Arv Z h' h.size kb .byte zn (cs.map fun c => .int (lo8 c)) (.int 0)) ∧
  ∀ (O n d : String) (w : Value), RoadKit.Fld Z h x O n d w → RoadKit.slotOf Z O n d ≠ RoadKit.slotOf Z ST "value" "[B" → RoadKit.slotOf Z O n d ≠ RoadKit.slotOf Z ST "coder" "B" → RoadKit.Fld Z h' x O n d w
/-- **new String(chars) AT A CALL, THE ARRAYS AS LISTS**: the char[] at b holds cs, not empty, no char above 255 -/
theorem backArv {p : Program} {l : Launch} {e : Env} {R : Room} {s : State} {args : Array Value} {below : List Frame} {len W : Nat} {Z : State} {a0 : Array Value} {h : Heap} (hZ : Z.Warmed39 s.vm) (hw : ∀ d ∈ words, d.before a0 Z = true) {kI : Nat} (wi : (Jvm.Cond.instantiable ST kI).before a0 Z = true)
    {x b : Addr} {k : ClassId} {zn z : Int32} {cs : List Int32} {dv v0 c0 : Value} (E : RoadKit.Exa Z h x ST) (V : RoadKit.Fld Z h x ST "value" "[B" v0) (C : RoadKit.Fld Z h x ST "coder" "B" c0) (K : RoadKit.Arv Z h b k .char zn (cs.map Value.int) dv) (S : RoadKit.Sta Z h ST "COMPACT_STRINGS" "Z" (.int z)) (hz : ¬ z = 0)
    (hlen : zn.toNatClampNeg = cs.length) (h0 : 0 < cs.length) (hbig : cs.length ≤ 536870912) (hall : ∀ c ∈ cs, ¬ 255 < c) (hfr : 4 ≤ R.frames) (hlo : W + 65 ≤ R.locals) :
    Back l R p e below s args New1.yN len W (fun P a => a = #[.ref x, .ref b] ∧ P.U.heap = h ∧ P.cells + 1 ≤ R.cells ∧ P.slots + cs.length ≤ R.slots)
      (fun P _ v B => ∃ L, QA Z x zn cs h v B.U.heap L ∧ B.locs = P.locs ++ L ∧ B.cells = P.cells + 1 ∧ B.slots = P.slots + cs.length) := by
  obtain ⟨A, K1, K2, K3, K4, K5, K6⟩ := K
  have e : A.slots.size = cs.length := K3.trans hlen
  have hat : ∀ (i : Nat) (hi : i < cs.length), A.slots[i]? = some (.int cs[i]) := fun i hi => by rw [K5 i (by omega)]; simp [List.getD_eq_getElem?_getD, hi]
  have hcv : ∀ (i : Nat) (hi : i < cs.length), cv A i = cs[i] := fun i hi => by unfold cv; rw [hat i hi]
  have hty : Typed .char A := fun i v hv => by
    have hi : i < A.slots.size := (Array.getElem?_eq_some_iff.mp hv).1
    have q := K5 i hi
    rw [hv] at q
    rw [Option.some.inj q]
    exact K6 i hi
  refine Back.mono (back hZ hw wi E V C K1 hty S hz (by omega) (by omega) (fun i hi => by rw [hcv i (by omega)]; exact hall _ (List.getElem_mem _)) hfr hlo) (fun P a hp => ⟨hp.1, hp.2.1, hp.2.2.1, by rw [e]; exact hp.2.2.2⟩) (fun P a v B hp hq => ?_)
  obtain ⟨L, ⟨q1, q2, q3, q4, q5, q6, q7, ⟨V', v1, v2, v3, v4, v5⟩, q9⟩, hl, hc, hs⟩ := hq
  refine ⟨L, ⟨q1, q2, q3, q4, q5, q6, q7, ⟨V'.cls, v3, V', v1, rfl, by rw [v4, e, hlen], K4, fun i hi => ?_, fun i hi => ?_⟩, q9⟩, hl, hc, by rw [hs, e]⟩
  · have hi' : i < cs.length := by omega
    rw [v5 i (by omega), hcv i hi']; simp [List.getD_eq_getElem?_getD, hi']
  · have hi' : i < cs.length := by omega
    simp only [List.getD_eq_getElem?_getD, List.getElem?_map, List.getElem?_eq_getElem hi', Option.map_some, Option.getD_some]
    exact fits_lo8 _
end StrChars.Road
namespace StrChars.Road
open Jvm Sem ClassFile Op Lib Jvm.Stand Jvm.Free Jvm.Free.XT
/-- WHAT COMES BACK, in the writer's own shape -/
def QV (Z : State) (x : Addr) (N : Int32) (bs : List Int32) (h : Heap) (n0 : Nat) (v : Option Value) (h' : Heap) (L : List Loc) : Prop := v = none ∧ RoadKit.Fr n0 L ∧ RoadKit.Keep h h' [x] ∧ RoadKit.Exa Z h' x ST ∧ RoadKit.Fld Z h' x ST "coder" "B" (.int 0) ∧
  ∃ (t : Addr) (kb : ClassId), n0 ≤ t ∧ h.size ≤ t ∧ ¬ t = x ∧ RoadKit.Fld Z h' x ST "value" "[B" (.ref t) ∧ RoadKit.Arv Z h' t kb .byte N (bs.map Value.int) (.int 0)
/-- **new String(chars) AT A CALL, FOR THE WRITER**: a char[] of n known ints, each 0 to 255 -/
theorem backV {p : Program} {l : Launch} {e : Env} {R : Room} {s : State} {args : Array Value} {below : List Frame} {len W : Nat} {Z : State} {a0 : Array Value} {h : Heap} (hZ : Z.Warmed39 s.vm) (hw : ∀ d ∈ words, d.before a0 Z = true) {kI : Nat} (wi : (Jvm.Cond.instantiable ST kI).before a0 Z = true)
    {x b : Addr} {kC : ClassId} {cs bs : List Int32} {d v0 c0 : Value} {z N : Int32} {n n0 : Nat} (hx0 : n0 ≤ x) (hh0 : n0 ≤ h.size) (E : RoadKit.Exa Z h x ST) (V : RoadKit.Fld Z h x ST "value" "[B" v0) (C : RoadKit.Fld Z h x ST "coder" "B" c0) (K : RoadKit.Arv Z h b kC .char N (cs.map Value.int) d) (S : RoadKit.Sta Z h ST "COMPACT_STRINGS" "Z" (.int z)) (hz : ¬ z = 0)
    (hn : cs.length = n) (hN : N = Int32.ofNat n) (l0 : 0 < n) (l2 : n ≤ 4000) (hp : ∀ c ∈ cs, ¬ c < 0 ∧ ¬ (255 : Int32) < c) (hb : bs = cs.map (fun c => c.toInt8.toInt32)) (hfr : 4 ≤ R.frames) (hlo : W + 65 ≤ R.locals) :
    Back l R p e below s args (⟨"java/lang/String", "<init>", "([C)V"⟩ : MethodName) len W (fun P a => a = #[.ref x, .ref b] ∧ P.U.heap = h ∧ P.cells + 1 ≤ R.cells ∧ P.slots + n ≤ R.slots)
      (fun P _ v B => ∃ L, QV Z x N bs h n0 v B.U.heap L ∧ B.locs = P.locs ++ L ∧ B.cells = P.cells + 1 ∧ B.slots = P.slots + n) := by
  subst hn hN hb
  refine Back.mono (backArv hZ hw wi E V C K S hz (n32 (by omega)) l0 (by omega) (fun c hc => (hp c hc).2) hfr hlo) (fun P a hp => hp) (fun P a v B hp hq => ?_)
  obtain ⟨L, ⟨q1, q2, q3, q4, q5, q6, q7, ⟨kb, v1, v2⟩, q9⟩, hl, hc, hs⟩ := hq
  exact ⟨L, ⟨q1, fun y hy => by rw [q2 y hy]; exact hx0, q3, q5, q7, h.size, kb, hh0, Nat.le_refl _, Nat.ne_of_gt E.lt, q6, by rw [List.map_map]; exact v2⟩, hl, hc, hs⟩
end StrChars.Road
end Jvm.Pilot.@@N@@
namespace Jvm.Pilot.@@N@@
open Jvm Jvm.ClassFile Sem Op Lib Jvm.Free Jvm.Stand Jvm.LawKit Jvm.RoadKit Bundle Jvm.Pilot.@@N@@.Jvm.D
theorem own_and255 (x : Int32) : ¬ nar .char ((x &&& (255 : Int32)).toUInt32.toUInt16.toUInt32.toInt32) < 0 ∧ ¬ (255 : Int32) < nar .char ((x &&& (255 : Int32)).toUInt32.toUInt16.toUInt32.toInt32) := by
  have t : ∀ k : Fin 256, ¬ nar .char ((Int32.ofNat k.val).toUInt32.toUInt16.toUInt32.toInt32) < 0 ∧ ¬ (255 : Int32) < nar .char ((Int32.ofNat k.val).toUInt32.toUInt16.toUInt32.toInt32) := by decide +kernel
  have h : (x &&& 255).toBitVec.toNat < 256 := by
    simp only [Int32.toBitVec_and, BitVec.toNat_and]
    exact Nat.lt_succ_of_le Nat.and_le_right
  have e : (x &&& 255) = Int32.ofNat (x &&& 255).toBitVec.toNat := by
    apply Int32.toBitVec_inj.mp
    show _ = BitVec.ofNat 32 _
    rw [BitVec.ofNat_toNat]; simp
  rw [e]
  exact t ⟨_, h⟩
theorem d8_0 : decode jdk_30_method_1_code 0 = .ok (.aload_n 0, 1) := by decide +kernel
theorem d8_1 : decode jdk_30_method_1_code 1 = .ok (.invokespecial 1, 3) := by decide +kernel
theorem d8_4 : decode jdk_30_method_1_code 4 = .ok (.return_, 1) := by decide +kernel
theorem pn_ec4e686 : plainName "java/lang/Record" = true := by first | (simp [plainName, overriddenIn]; done) | decide +kernel
theorem ef_8 (m : MethodId) (x0 : Addr) : entryFrame m #[(.ref x0)] 1 = mkF m 0 #[.val (.ref x0)] [] := by first | (simp [entryFrame, mkF, argsToLocals, Value.category]; done) | rfl
def Q_rm8 (Z : State) (a1 : Addr) (h0 : Heap) (n0 : Nat) (v : Option Value) (h : Heap) (L : List Loc) : Prop := v = none ∧ Fr n0 L ∧ h = h0
set_option maxRecDepth 65536 in
set_option maxHeartbeats 40000000 in
theorem rm8 (l : Launch) (Z : State) (a0 : Array Value) (hw : ∀ d ∈ tables_1, d.before a0 Z = true) (a1 : Addr) (h0 : Heap) (n0 : Nat) (Z0 : n0 ≤ h0.size)  :
    MetFree l (⟨"java/lang/Record", "<init>", "()V"⟩ : MethodName) (head1 [Jvm.Cond.code (⟨"java/lang/Record", "<init>", "()V"⟩ : MethodName) jdk_30_method_1_code 1 none] ({ frames := 1, cells := 0, slots := 0, locals := 12 } : Room)) (fun a U => a = #[(.ref a1)] ∧ Z.Warmed39 U.vm ∧ U.heap = h0) (fun _ _ _ _ _ => True) (fun _ U o U' => ∃ v L, o = .returned v ∧ (Q_rm8 Z a1 h0 n0) v U'.heap L ∧ FrameEnd U o U' L ({ frames := 1, cells := 0, slots := 0, locals := 12 } : Room).cells ({ frames := 1, cells := 0, slots := 0, locals := 12 } : Room).slots) := by
  refine MetFree.of_bodySF (plainFor_of_name pn_ec4e686) hisR ?_
  intro p e s m args below meth c s₁ Bd hml0 hP hK
  obtain ⟨rfl, hZ, hh⟩ := hP
  have hx := Bd.exec
  have hby := Bd.bytes
  have hml : c.maxLocals = 1 := hml0
  have hown : s.vm.findClass "java/lang/Record" = some m.cls := findClass_of_methodNamed Bd.named
  have hnm := (name_of_methodNamed Bd.named Bd.method).1
  have X0 : Stand p l e ({ frames := 1, cells := 0, slots := 0, locals := 12 } : Room) s m #[(.ref a1)] below meth c s₁ [] 0 0 := Stand.of_body Bd
  have e0 : s₁.heap = h0 := by rw [← hh, Bd.state]; rfl
  have N0 := Fr.nil n0
  have K0 : Keep h0 h0 [] := Keep.refl h0 []
  show Go p e below (s₁.setTop (entryFrame m #[(.ref a1)] 1)) (EndN s (Q_rm8 Z a1 h0 n0) ({ frames := 1, cells := 0, slots := 0, locals := 12 } : Room).cells ({ frames := 1, cells := 0, slots := 0, locals := 12 } : Room).slots)
  refine Go.top (ef_8 m a1) ?_
  refine Go.st (T' := s₁.setTop (mkF m 1 #[.val (.ref a1)] [(.ref a1)])) (fun t k => XS.aloadN X0.here hx rfl (hb hby d8_0) rfl rfl k) ?_
  obtain ⟨T1, X1, e1, st1⟩ := initO X0 hx hZ hown (hw _ (List.mem_of_getElem? (i := 41) rfl)) (hw _ (List.mem_of_getElem? (i := 12) rfl)) (hw _ (List.mem_of_getElem? (i := 13) rfl)) e0 (g := (mkF m 1 #[.val (.ref a1)] [(.ref a1)])) rfl (by rw [hml]; rfl) rfl (hb hby d8_1) (by decide) (W := 0) (by show 2 * 0 + _ ≤ _; exact Nat.le_of_eq rfl) (by decide)
  refine Go.st (T' := T1.setTop (mkF m 4 #[.val (.ref a1)] [])) (fun t k => st1 t k) ?_
  exact Go.done X1 Bd.notSynchronized (v := none) (fun _ => rfl) (fun fs hr => X1.returnOut hx Bd.returns (hb hby d8_4) hr) (by rw [e1]; exact ⟨rfl, N0, rfl⟩) (by decide) (by decide)
theorem d7_0 : decode prog_87_method_1_code 0 = .ok (.aload_n 0, 1) := by decide +kernel
theorem d7_1 : decode prog_87_method_1_code 1 = .ok (.invokespecial 1, 3) := by decide +kernel
theorem d7_4 : decode prog_87_method_1_code 4 = .ok (.aload_n 0, 1) := by decide +kernel
theorem d7_5 : decode prog_87_method_1_code 5 = .ok (.iload_n 1, 1) := by decide +kernel
theorem d7_6 : decode prog_87_method_1_code 6 = .ok (.putfield 7, 3) := by decide +kernel
theorem d7_9 : decode prog_87_method_1_code 9 = .ok (.aload_n 0, 1) := by decide +kernel
theorem d7_10 : decode prog_87_method_1_code 10 = .ok (.lload_n 2, 1) := by decide +kernel
theorem d7_11 : decode prog_87_method_1_code 11 = .ok (.putfield 13, 3) := by decide +kernel
theorem d7_14 : decode prog_87_method_1_code 14 = .ok (.aload_n 0, 1) := by decide +kernel
theorem d7_15 : decode prog_87_method_1_code 15 = .ok (.iload 4, 2) := by decide +kernel
theorem d7_17 : decode prog_87_method_1_code 17 = .ok (.putfield 17, 3) := by decide +kernel
theorem d7_20 : decode prog_87_method_1_code 20 = .ok (.aload_n 0, 1) := by decide +kernel
theorem d7_21 : decode prog_87_method_1_code 21 = .ok (.iload 5, 2) := by decide +kernel
theorem d7_23 : decode prog_87_method_1_code 23 = .ok (.putfield 20, 3) := by decide +kernel
theorem d7_26 : decode prog_87_method_1_code 26 = .ok (.aload_n 0, 1) := by decide +kernel
theorem d7_27 : decode prog_87_method_1_code 27 = .ok (.iload 6, 2) := by decide +kernel
theorem d7_29 : decode prog_87_method_1_code 29 = .ok (.putfield 23, 3) := by decide +kernel
theorem d7_32 : decode prog_87_method_1_code 32 = .ok (.aload_n 0, 1) := by decide +kernel
theorem d7_33 : decode prog_87_method_1_code 33 = .ok (.aload 7, 2) := by decide +kernel
theorem d7_35 : decode prog_87_method_1_code 35 = .ok (.putfield 26, 3) := by decide +kernel
theorem d7_38 : decode prog_87_method_1_code 38 = .ok (.aload_n 0, 1) := by decide +kernel
theorem d7_39 : decode prog_87_method_1_code 39 = .ok (.iload 8, 2) := by decide +kernel
theorem d7_41 : decode prog_87_method_1_code 41 = .ok (.putfield 30, 3) := by decide +kernel
theorem d7_44 : decode prog_87_method_1_code 44 = .ok (.aload_n 0, 1) := by decide +kernel
theorem d7_45 : decode prog_87_method_1_code 45 = .ok (.iload 9, 2) := by decide +kernel
theorem d7_47 : decode prog_87_method_1_code 47 = .ok (.putfield 34, 3) := by decide +kernel
theorem d7_50 : decode prog_87_method_1_code 50 = .ok (.return_, 1) := by decide +kernel
theorem pn_916a809 : plainName "com/example/tagwire/tagwire/protocols/mti/MtiPacket$InventoryResponse" = true := by first | (simp [plainName, overriddenIn]; done) | decide +kernel
theorem pd_a8eb9 : parseMethodDescriptor "()V" = some ⟨[], none⟩ := by decide +kernel
theorem ef_7 (m : MethodId) (x0 : Addr) (x1 : Int32) (x2 : Int64) (x3 : Int32) (x4 : Int32) (x5 : Int32) (x6 : Addr) (x7 : Int32) (x8 : Int32) : entryFrame m #[(.ref x0), (.int x1), (.long x2), (.int x3), (.int x4), (.int x5), (.ref x6), (.int x7), (.int x8)] 10 = mkF m 0 #[.val (.ref x0), .val (.int x1), .val (.long x2), .second, .val (.int x3), .val (.int x4), .val (.int x5), .val (.ref x6), .val (.int x7), .val (.int x8)] [] := by first | (simp [entryFrame, mkF, argsToLocals, Value.category]; done) | rfl
def Q_rm7 (Z : State) (a1 : Addr) (p2 : Int32) (q3 : Int64) (p4 p5 p6 : Int32) (a7 : Addr) (p8 p9 : Int32) (h0 : Heap) (n0 : Nat) (v : Option Value) (h : Heap) (L : List Loc) : Prop := v = none ∧ Fr n0 L ∧ Keep h0 h [a1] ∧ Exa Z h a1 "com/example/tagwire/tagwire/protocols/mti/MtiPacket$InventoryResponse" ∧ Fld Z h a1 "com/example/tagwire/tagwire/protocols/mti/MtiPacket$InventoryResponse" "tagCrcOk" "Z" (.int (nar .boolean p8)) ∧ Fld Z h a1 "com/example/tagwire/tagwire/protocols/mti/MtiPacket$InventoryResponse" "crcOk" "Z" (.int (nar .boolean p9))
set_option maxRecDepth 65536 in
set_option maxHeartbeats 40000000 in
theorem rm7 (l : Launch) (Z : State) (a0 : Array Value) (hw : ∀ d ∈ tables_1, d.before a0 Z = true) (a1 : Addr) (p2 : Int32) (q3 : Int64) (p4 p5 p6 : Int32) (a7 : Addr) (p8 p9 : Int32) (h0 : Heap) (n0 : Nat) (Z0 : n0 ≤ h0.size) (E1 : Exa Z h0 a1 "com/example/tagwire/tagwire/protocols/mti/MtiPacket$InventoryResponse") (g_a1 : n0 ≤ a1) (F_sequence : Fld Z h0 a1 "com/example/tagwire/tagwire/protocols/mti/MtiPacket$InventoryResponse" "sequence" "I" (.int (0 : Int32))) (F_milliseconds : Fld Z h0 a1 "com/example/tagwire/tagwire/protocols/mti/MtiPacket$InventoryResponse" "milliseconds" "J" (.long (0 : Int64))) (F_antenna : Fld Z h0 a1 "com/example/tagwire/tagwire/protocols/mti/MtiPacket$InventoryResponse" "antenna" "I" (.int (0 : Int32))) (F_rssiTenths : Fld Z h0 a1 "com/example/tagwire/tagwire/protocols/mti/MtiPacket$InventoryResponse" "rssiTenths" "I" (.int (0 : Int32))) (F_pc : Fld Z h0 a1 "com/example/tagwire/tagwire/protocols/mti/MtiPacket$InventoryResponse" "pc" "I" (.int (0 : Int32))) (F_epc : Fld Z h0 a1 "com/example/tagwire/tagwire/protocols/mti/MtiPacket$InventoryResponse" "epc" "Ljava/lang/String;" .null) (F_tagCrcOk : Fld Z h0 a1 "com/example/tagwire/tagwire/protocols/mti/MtiPacket$InventoryResponse" "tagCrcOk" "Z" (.int (0 : Int32))) (F_crcOk : Fld Z h0 a1 "com/example/tagwire/tagwire/protocols/mti/MtiPacket$InventoryResponse" "crcOk" "Z" (.int (0 : Int32))) :
    MetFree l (⟨"com/example/tagwire/tagwire/protocols/mti/MtiPacket$InventoryResponse", "<init>", "(IJIIILjava/lang/String;ZZ)V"⟩ : MethodName) (head1 [Jvm.Cond.code (⟨"com/example/tagwire/tagwire/protocols/mti/MtiPacket$InventoryResponse", "<init>", "(IJIIILjava/lang/String;ZZ)V"⟩ : MethodName) prog_87_method_1_code 10 none] ({ frames := 2, cells := 0, slots := 0, locals := 24 } : Room)) (fun a U => a = #[(.ref a1), (.int p2), (.long q3), (.int p4), (.int p5), (.int p6), (.ref a7), (.int p8), (.int p9)] ∧ Z.Warmed39 U.vm ∧ U.heap = h0) (fun _ _ _ _ _ => True) (fun _ U o U' => ∃ v L, o = .returned v ∧ (Q_rm7 Z a1 p2 q3 p4 p5 p6 a7 p8 p9 h0 n0) v U'.heap L ∧ FrameEnd U o U' L ({ frames := 2, cells := 0, slots := 0, locals := 24 } : Room).cells ({ frames := 2, cells := 0, slots := 0, locals := 24 } : Room).slots) := by
  refine MetFree.of_bodySF (plainFor_of_name pn_916a809) hisR ?_
  intro p e s m args below meth c s₁ Bd hml0 hP hK
  obtain ⟨rfl, hZ, hh⟩ := hP
  have hx := Bd.exec
  have hby := Bd.bytes
  have hml : c.maxLocals = 10 := hml0
  have hown : s.vm.findClass "com/example/tagwire/tagwire/protocols/mti/MtiPacket$InventoryResponse" = some m.cls := findClass_of_methodNamed Bd.named
  have hnm := (name_of_methodNamed Bd.named Bd.method).1
  have X0 : Stand p l e ({ frames := 2, cells := 0, slots := 0, locals := 24 } : Room) s m #[(.ref a1), (.int p2), (.long q3), (.int p4), (.int p5), (.int p6), (.ref a7), (.int p8), (.int p9)] below meth c s₁ [] 0 0 := Stand.of_body Bd
  have e0 : s₁.heap = h0 := by rw [← hh, Bd.state]; rfl
  have N0 := Fr.nil n0
  have K0 : Keep h0 h0 [a1] := Keep.refl h0 [a1]
  show Go p e below (s₁.setTop (entryFrame m #[(.ref a1), (.int p2), (.long q3), (.int p4), (.int p5), (.int p6), (.ref a7), (.int p8), (.int p9)] 10)) (EndN s (Q_rm7 Z a1 p2 q3 p4 p5 p6 a7 p8 p9 h0 n0) ({ frames := 2, cells := 0, slots := 0, locals := 24 } : Room).cells ({ frames := 2, cells := 0, slots := 0, locals := 24 } : Room).slots)
  refine Go.top (ef_7 m a1 p2 q3 p4 p5 p6 a7 p8 p9) ?_
  refine Go.st (T' := s₁.setTop (mkF m 1 #[.val (.ref a1), .val (.int p2), .val (.long q3), .second, .val (.int p4), .val (.int p5), .val (.int p6), .val (.ref a7), .val (.int p8), .val (.int p9)] [(.ref a1)])) (fun t k => XS.aloadN X0.here hx rfl (hb hby d7_0) rfl rfl k) ?_
  obtain ⟨vr2, _, ⟨T2, L2, k2, n2⟩, -, X2, ⟨Lc2, hQ2, l2, y2, z2⟩, st2⟩ := X0.specialBack hx (y := (⟨"java/lang/Record", "<init>", "()V"⟩ : MethodName)) rfl hown (mvT hZ (hw _ (List.mem_of_getElem? (i := 36) rfl))) (mvT hZ (hw _ (List.mem_of_getElem? (i := 37) rfl))) (mvT hZ (hw _ (List.mem_of_getElem? (i := 40) rfl))) (by decide) (backOf (W := 0) (rm8 l Z a0 hw a1 h0 n0 Z0) hZ (hw _ (List.mem_of_getElem? (i := 40) rfl)) (hw _ (List.mem_of_getElem? (i := 39) rfl)) (by decide) (by decide)) (g := (mkF m 1 #[.val (.ref a1), .val (.int p2), .val (.long q3), .second, .val (.int p4), .val (.int p5), .val (.int p6), .val (.ref a7), .val (.int p8), .val (.int p9)] [(.ref a1)])) rfl (by rw [hml]; rfl) (Steps.refl _) (a := a1) (argsL := []) (rest := []) (lenOf pd_a8eb9 rfl) rfl (by show 2 * 0 + _ ≤ _; exact Nat.le_of_eq rfl) (hb hby d7_1) (fun _ _ => ⟨rfl, e0, (by decide : 0 + 0 ≤ _), (by decide : 0 + 0 ≤ _)⟩)
  dsimp only [Pt.U, Pt.locs, Pt.cells, Pt.slots] at X2 l2 y2 z2 st2 hQ2
  subst l2 y2 z2
  obtain ⟨rfl, Nq2, eq2⟩ := hQ2
  have NN3 := Fr.app N0 Nq2
  refine Go.st (T' := T2.setTop (mkF m 4 #[.val (.ref a1), .val (.int p2), .val (.long q3), .second, .val (.int p4), .val (.int p5), .val (.int p6), .val (.ref a7), .val (.int p8), .val (.int p9)] [])) (fun t k => st2.trans k) ?_
  refine Go.st (T' := T2.setTop (mkF m 5 #[.val (.ref a1), .val (.int p2), .val (.long q3), .second, .val (.int p4), .val (.int p5), .val (.int p6), .val (.ref a7), .val (.int p8), .val (.int p9)] [(.ref a1)])) (fun t k => XS.aloadN X2.here hx rfl (hb hby d7_4) rfl rfl k) ?_
  refine Go.st (T' := T2.setTop (mkF m 6 #[.val (.ref a1), .val (.int p2), .val (.long q3), .second, .val (.int p4), .val (.int p5), .val (.int p6), .val (.ref a7), .val (.int p8), .val (.int p9)] [(.int p2), (.ref a1)])) (fun t k => XS.iloadN X2.here hx rfl (hb hby d7_5) rfl k) ?_
  obtain ⟨T4, h4, X4, e4, W4, st4⟩ := putF X2 hx hZ hown (host := "") (Or.inl (hw _ (List.mem_of_getElem? (i := 42) rfl))) Via.refl eq2 F_sequence E1 (Or.inr ⟨(hw _ (List.mem_of_getElem? (i := 43) rfl)), rfl, hnm⟩) (hw _ (List.mem_of_getElem? (i := 31) rfl)) (ty := .int) (by decide) rfl rfl (g := (mkF m 6 #[.val (.ref a1), .val (.int p2), .val (.long q3), .second, .val (.int p4), .val (.int p5), .val (.int p6), .val (.ref a7), .val (.int p8), .val (.int p9)] [(.int p2), (.ref a1)])) rfl rfl (hb hby d7_6)
  have Fw4 : Fld Z h4 a1 "com/example/tagwire/tagwire/protocols/mti/MtiPacket$InventoryResponse" "sequence" "I" (.int p2) := F_sequence.same W4
  have K4 : Keep h0 h4 [a1] := K0.wr W4 (Or.inl (List.mem_of_getElem? (i := 0) rfl))
  have N4 := Fr.snoc X4 NN3 g_a1
  refine Go.st (T' := T4.setTop (mkF m 9 #[.val (.ref a1), .val (.int p2), .val (.long q3), .second, .val (.int p4), .val (.int p5), .val (.int p6), .val (.ref a7), .val (.int p8), .val (.int p9)] [])) (fun t k => st4 t k) ?_
  refine Go.st (T' := T4.setTop (mkF m 10 #[.val (.ref a1), .val (.int p2), .val (.long q3), .second, .val (.int p4), .val (.int p5), .val (.int p6), .val (.ref a7), .val (.int p8), .val (.int p9)] [(.ref a1)])) (fun t k => XS.aloadN X4.here hx rfl (hb hby d7_9) rfl rfl k) ?_
  refine Go.st (T' := T4.setTop (mkF m 11 #[.val (.ref a1), .val (.int p2), .val (.long q3), .second, .val (.int p4), .val (.int p5), .val (.int p6), .val (.ref a7), .val (.int p8), .val (.int p9)] [(.long q3), (.ref a1)])) (fun t k => XS.lloadN X4.here hx rfl (hb hby d7_10) rfl k) ?_
  have f5 : Fld Z h4 a1 "com/example/tagwire/tagwire/protocols/mti/MtiPacket$InventoryResponse" "milliseconds" "J" (.long (0 : Int64)) := (F_milliseconds.other W4 (Or.inr (slot_ne (Or.inr (hw _ (List.mem_of_getElem? (i := 45) rfl))) (Or.inr (hw _ (List.mem_of_getElem? (i := 43) rfl))) (by decide) (t := .long) (t' := .int) (by decide) (by decide))))
  have f6 : Exa Z h4 a1 "com/example/tagwire/tagwire/protocols/mti/MtiPacket$InventoryResponse" := (E1.wr W4)
  obtain ⟨T7, h7, X7, e7, W7, st7⟩ := putF X4 hx hZ hown (host := "") (Or.inl (hw _ (List.mem_of_getElem? (i := 44) rfl))) Via.refl e4 f5 f6 (Or.inr ⟨(hw _ (List.mem_of_getElem? (i := 45) rfl)), rfl, hnm⟩) (hw _ (List.mem_of_getElem? (i := 31) rfl)) (ty := .long) (by decide) rfl rfl (g := (mkF m 11 #[.val (.ref a1), .val (.int p2), .val (.long q3), .second, .val (.int p4), .val (.int p5), .val (.int p6), .val (.ref a7), .val (.int p8), .val (.int p9)] [(.long q3), (.ref a1)])) rfl rfl (hb hby d7_11)
  have Fw7 : Fld Z h7 a1 "com/example/tagwire/tagwire/protocols/mti/MtiPacket$InventoryResponse" "milliseconds" "J" (.long q3) := f5.same W7
  have K7 : Keep h0 h7 [a1] := K4.wr W7 (Or.inl (List.mem_of_getElem? (i := 0) rfl))
  have N7 := Fr.snoc X7 N4 g_a1
  refine Go.st (T' := T7.setTop (mkF m 14 #[.val (.ref a1), .val (.int p2), .val (.long q3), .second, .val (.int p4), .val (.int p5), .val (.int p6), .val (.ref a7), .val (.int p8), .val (.int p9)] [])) (fun t k => st7 t k) ?_
  refine Go.st (T' := T7.setTop (mkF m 15 #[.val (.ref a1), .val (.int p2), .val (.long q3), .second, .val (.int p4), .val (.int p5), .val (.int p6), .val (.ref a7), .val (.int p8), .val (.int p9)] [(.ref a1)])) (fun t k => XS.aloadN X7.here hx rfl (hb hby d7_14) rfl rfl k) ?_
  refine Go.st (T' := T7.setTop (mkF m 17 #[.val (.ref a1), .val (.int p2), .val (.long q3), .second, .val (.int p4), .val (.int p5), .val (.int p6), .val (.ref a7), .val (.int p8), .val (.int p9)] [(.int p4), (.ref a1)])) (fun t k => XS.iload X7.here hx rfl (hb hby d7_15) rfl k) ?_
  have f8 : Fld Z h7 a1 "com/example/tagwire/tagwire/protocols/mti/MtiPacket$InventoryResponse" "antenna" "I" (.int (0 : Int32)) := ((F_antenna.other W4 (Or.inr (slot_ne (Or.inr (hw _ (List.mem_of_getElem? (i := 47) rfl))) (Or.inr (hw _ (List.mem_of_getElem? (i := 43) rfl))) (by decide) (t := .int) (t' := .int) (by decide) (by decide)))).other W7 (Or.inr (slot_ne (Or.inr (hw _ (List.mem_of_getElem? (i := 47) rfl))) (Or.inr (hw _ (List.mem_of_getElem? (i := 45) rfl))) (by decide) (t := .int) (t' := .long) (by decide) (by decide))))
  have f9 : Exa Z h7 a1 "com/example/tagwire/tagwire/protocols/mti/MtiPacket$InventoryResponse" := (f6.wr W7)
  obtain ⟨T10, h10, X10, e10, W10, st10⟩ := putF X7 hx hZ hown (host := "") (Or.inl (hw _ (List.mem_of_getElem? (i := 46) rfl))) Via.refl e7 f8 f9 (Or.inr ⟨(hw _ (List.mem_of_getElem? (i := 47) rfl)), rfl, hnm⟩) (hw _ (List.mem_of_getElem? (i := 31) rfl)) (ty := .int) (by decide) rfl rfl (g := (mkF m 17 #[.val (.ref a1), .val (.int p2), .val (.long q3), .second, .val (.int p4), .val (.int p5), .val (.int p6), .val (.ref a7), .val (.int p8), .val (.int p9)] [(.int p4), (.ref a1)])) rfl rfl (hb hby d7_17)
  have Fw10 : Fld Z h10 a1 "com/example/tagwire/tagwire/protocols/mti/MtiPacket$InventoryResponse" "antenna" "I" (.int p4) := f8.same W10
  have K10 : Keep h0 h10 [a1] := K7.wr W10 (Or.inl (List.mem_of_getElem? (i := 0) rfl))
  have N10 := Fr.snoc X10 N7 g_a1
  refine Go.st (T' := T10.setTop (mkF m 20 #[.val (.ref a1), .val (.int p2), .val (.long q3), .second, .val (.int p4), .val (.int p5), .val (.int p6), .val (.ref a7), .val (.int p8), .val (.int p9)] [])) (fun t k => st10 t k) ?_
  refine Go.st (T' := T10.setTop (mkF m 21 #[.val (.ref a1), .val (.int p2), .val (.long q3), .second, .val (.int p4), .val (.int p5), .val (.int p6), .val (.ref a7), .val (.int p8), .val (.int p9)] [(.ref a1)])) (fun t k => XS.aloadN X10.here hx rfl (hb hby d7_20) rfl rfl k) ?_
  refine Go.st (T' := T10.setTop (mkF m 23 #[.val (.ref a1), .val (.int p2), .val (.long q3), .second, .val (.int p4), .val (.int p5), .val (.int p6), .val (.ref a7), .val (.int p8), .val (.int p9)] [(.int p5), (.ref a1)])) (fun t k => XS.iload X10.here hx rfl (hb hby d7_21) rfl k) ?_
  have f11 : Fld Z h10 a1 "com/example/tagwire/tagwire/protocols/mti/MtiPacket$InventoryResponse" "rssiTenths" "I" (.int (0 : Int32)) := (((F_rssiTenths.other W4 (Or.inr (slot_ne (Or.inr (hw _ (List.mem_of_getElem? (i := 49) rfl))) (Or.inr (hw _ (List.mem_of_getElem? (i := 43) rfl))) (by decide) (t := .int) (t' := .int) (by decide) (by decide)))).other W7 (Or.inr (slot_ne (Or.inr (hw _ (List.mem_of_getElem? (i := 49) rfl))) (Or.inr (hw _ (List.mem_of_getElem? (i := 45) rfl))) (by decide) (t := .int) (t' := .long) (by decide) (by decide)))).other W10 (Or.inr (slot_ne (Or.inr (hw _ (List.mem_of_getElem? (i := 49) rfl))) (Or.inr (hw _ (List.mem_of_getElem? (i := 47) rfl))) (by decide) (t := .int) (t' := .int) (by decide) (by decide))))
  have f12 : Exa Z h10 a1 "com/example/tagwire/tagwire/protocols/mti/MtiPacket$InventoryResponse" := (f9.wr W10)
  obtain ⟨T13, h13, X13, e13, W13, st13⟩ := putF X10 hx hZ hown (host := "") (Or.inl (hw _ (List.mem_of_getElem? (i := 48) rfl))) Via.refl e10 f11 f12 (Or.inr ⟨(hw _ (List.mem_of_getElem? (i := 49) rfl)), rfl, hnm⟩) (hw _ (List.mem_of_getElem? (i := 31) rfl)) (ty := .int) (by decide) rfl rfl (g := (mkF m 23 #[.val (.ref a1), .val (.int p2), .val (.long q3), .second, .val (.int p4), .val (.int p5), .val (.int p6), .val (.ref a7), .val (.int p8), .val (.int p9)] [(.int p5), (.ref a1)])) rfl rfl (hb hby d7_23)
  have Fw13 : Fld Z h13 a1 "com/example/tagwire/tagwire/protocols/mti/MtiPacket$InventoryResponse" "rssiTenths" "I" (.int p5) := f11.same W13
  have K13 : Keep h0 h13 [a1] := K10.wr W13 (Or.inl (List.mem_of_getElem? (i := 0) rfl))
  have N13 := Fr.snoc X13 N10 g_a1
  refine Go.st (T' := T13.setTop (mkF m 26 #[.val (.ref a1), .val (.int p2), .val (.long q3), .second, .val (.int p4), .val (.int p5), .val (.int p6), .val (.ref a7), .val (.int p8), .val (.int p9)] [])) (fun t k => st13 t k) ?_
  refine Go.st (T' := T13.setTop (mkF m 27 #[.val (.ref a1), .val (.int p2), .val (.long q3), .second, .val (.int p4), .val (.int p5), .val (.int p6), .val (.ref a7), .val (.int p8), .val (.int p9)] [(.ref a1)])) (fun t k => XS.aloadN X13.here hx rfl (hb hby d7_26) rfl rfl k) ?_
  refine Go.st (T' := T13.setTop (mkF m 29 #[.val (.ref a1), .val (.int p2), .val (.long q3), .second, .val (.int p4), .val (.int p5), .val (.int p6), .val (.ref a7), .val (.int p8), .val (.int p9)] [(.int p6), (.ref a1)])) (fun t k => XS.iload X13.here hx rfl (hb hby d7_27) rfl k) ?_
  have f14 : Fld Z h13 a1 "com/example/tagwire/tagwire/protocols/mti/MtiPacket$InventoryResponse" "pc" "I" (.int (0 : Int32)) := ((((F_pc.other W4 (Or.inr (slot_ne (Or.inr (hw _ (List.mem_of_getElem? (i := 51) rfl))) (Or.inr (hw _ (List.mem_of_getElem? (i := 43) rfl))) (by decide) (t := .int) (t' := .int) (by decide) (by decide)))).other W7 (Or.inr (slot_ne (Or.inr (hw _ (List.mem_of_getElem? (i := 51) rfl))) (Or.inr (hw _ (List.mem_of_getElem? (i := 45) rfl))) (by decide) (t := .int) (t' := .long) (by decide) (by decide)))).other W10 (Or.inr (slot_ne (Or.inr (hw _ (List.mem_of_getElem? (i := 51) rfl))) (Or.inr (hw _ (List.mem_of_getElem? (i := 47) rfl))) (by decide) (t := .int) (t' := .int) (by decide) (by decide)))).other W13 (Or.inr (slot_ne (Or.inr (hw _ (List.mem_of_getElem? (i := 51) rfl))) (Or.inr (hw _ (List.mem_of_getElem? (i := 49) rfl))) (by decide) (t := .int) (t' := .int) (by decide) (by decide))))
  have f15 : Exa Z h13 a1 "com/example/tagwire/tagwire/protocols/mti/MtiPacket$InventoryResponse" := (f12.wr W13)
  obtain ⟨T16, h16, X16, e16, W16, st16⟩ := putF X13 hx hZ hown (host := "") (Or.inl (hw _ (List.mem_of_getElem? (i := 50) rfl))) Via.refl e13 f14 f15 (Or.inr ⟨(hw _ (List.mem_of_getElem? (i := 51) rfl)), rfl, hnm⟩) (hw _ (List.mem_of_getElem? (i := 31) rfl)) (ty := .int) (by decide) rfl rfl (g := (mkF m 29 #[.val (.ref a1), .val (.int p2), .val (.long q3), .second, .val (.int p4), .val (.int p5), .val (.int p6), .val (.ref a7), .val (.int p8), .val (.int p9)] [(.int p6), (.ref a1)])) rfl rfl (hb hby d7_29)
  have Fw16 : Fld Z h16 a1 "com/example/tagwire/tagwire/protocols/mti/MtiPacket$InventoryResponse" "pc" "I" (.int p6) := f14.same W16
  have K16 : Keep h0 h16 [a1] := K13.wr W16 (Or.inl (List.mem_of_getElem? (i := 0) rfl))
  have N16 := Fr.snoc X16 N13 g_a1
  refine Go.st (T' := T16.setTop (mkF m 32 #[.val (.ref a1), .val (.int p2), .val (.long q3), .second, .val (.int p4), .val (.int p5), .val (.int p6), .val (.ref a7), .val (.int p8), .val (.int p9)] [])) (fun t k => st16 t k) ?_
  refine Go.st (T' := T16.setTop (mkF m 33 #[.val (.ref a1), .val (.int p2), .val (.long q3), .second, .val (.int p4), .val (.int p5), .val (.int p6), .val (.ref a7), .val (.int p8), .val (.int p9)] [(.ref a1)])) (fun t k => XS.aloadN X16.here hx rfl (hb hby d7_32) rfl rfl k) ?_
  refine Go.st (T' := T16.setTop (mkF m 35 #[.val (.ref a1), .val (.int p2), .val (.long q3), .second, .val (.int p4), .val (.int p5), .val (.int p6), .val (.ref a7), .val (.int p8), .val (.int p9)] [(.ref a7), (.ref a1)])) (fun t k => XS.aload X16.here hx rfl (hb hby d7_33) rfl rfl k) ?_
  have f17 : Fld Z h16 a1 "com/example/tagwire/tagwire/protocols/mti/MtiPacket$InventoryResponse" "epc" "Ljava/lang/String;" .null := (((((F_epc.other W4 (Or.inr (slot_ne (Or.inr (hw _ (List.mem_of_getElem? (i := 53) rfl))) (Or.inr (hw _ (List.mem_of_getElem? (i := 43) rfl))) (by decide) (t := (.object "java/lang/String")) (t' := .int) (by decide) (by decide)))).other W7 (Or.inr (slot_ne (Or.inr (hw _ (List.mem_of_getElem? (i := 53) rfl))) (Or.inr (hw _ (List.mem_of_getElem? (i := 45) rfl))) (by decide) (t := (.object "java/lang/String")) (t' := .long) (by decide) (by decide)))).other W10 (Or.inr (slot_ne (Or.inr (hw _ (List.mem_of_getElem? (i := 53) rfl))) (Or.inr (hw _ (List.mem_of_getElem? (i := 47) rfl))) (by decide) (t := (.object "java/lang/String")) (t' := .int) (by decide) (by decide)))).other W13 (Or.inr (slot_ne (Or.inr (hw _ (List.mem_of_getElem? (i := 53) rfl))) (Or.inr (hw _ (List.mem_of_getElem? (i := 49) rfl))) (by decide) (t := (.object "java/lang/String")) (t' := .int) (by decide) (by decide)))).other W16 (Or.inr (slot_ne (Or.inr (hw _ (List.mem_of_getElem? (i := 53) rfl))) (Or.inr (hw _ (List.mem_of_getElem? (i := 51) rfl))) (by decide) (t := (.object "java/lang/String")) (t' := .int) (by decide) (by decide))))
  have f18 : Exa Z h16 a1 "com/example/tagwire/tagwire/protocols/mti/MtiPacket$InventoryResponse" := (f15.wr W16)
  obtain ⟨T19, h19, X19, e19, W19, st19⟩ := putF X16 hx hZ hown (host := "") (Or.inl (hw _ (List.mem_of_getElem? (i := 52) rfl))) Via.refl e16 f17 f18 (Or.inr ⟨(hw _ (List.mem_of_getElem? (i := 53) rfl)), rfl, hnm⟩) (hw _ (List.mem_of_getElem? (i := 31) rfl)) (ty := (.object "java/lang/String")) (by decide) rfl rfl (g := (mkF m 35 #[.val (.ref a1), .val (.int p2), .val (.long q3), .second, .val (.int p4), .val (.int p5), .val (.int p6), .val (.ref a7), .val (.int p8), .val (.int p9)] [(.ref a7), (.ref a1)])) rfl rfl (hb hby d7_35)
  have Fw19 : Fld Z h19 a1 "com/example/tagwire/tagwire/protocols/mti/MtiPacket$InventoryResponse" "epc" "Ljava/lang/String;" (.ref a7) := f17.same W19
  have K19 : Keep h0 h19 [a1] := K16.wr W19 (Or.inl (List.mem_of_getElem? (i := 0) rfl))
  have N19 := Fr.snoc X19 N16 g_a1
  refine Go.st (T' := T19.setTop (mkF m 38 #[.val (.ref a1), .val (.int p2), .val (.long q3), .second, .val (.int p4), .val (.int p5), .val (.int p6), .val (.ref a7), .val (.int p8), .val (.int p9)] [])) (fun t k => st19 t k) ?_
  refine Go.st (T' := T19.setTop (mkF m 39 #[.val (.ref a1), .val (.int p2), .val (.long q3), .second, .val (.int p4), .val (.int p5), .val (.int p6), .val (.ref a7), .val (.int p8), .val (.int p9)] [(.ref a1)])) (fun t k => XS.aloadN X19.here hx rfl (hb hby d7_38) rfl rfl k) ?_
  refine Go.st (T' := T19.setTop (mkF m 41 #[.val (.ref a1), .val (.int p2), .val (.long q3), .second, .val (.int p4), .val (.int p5), .val (.int p6), .val (.ref a7), .val (.int p8), .val (.int p9)] [(.int p8), (.ref a1)])) (fun t k => XS.iload X19.here hx rfl (hb hby d7_39) rfl k) ?_
  have f20 : Fld Z h19 a1 "com/example/tagwire/tagwire/protocols/mti/MtiPacket$InventoryResponse" "tagCrcOk" "Z" (.int (0 : Int32)) := ((((((F_tagCrcOk.other W4 (Or.inr (slot_ne (Or.inr (hw _ (List.mem_of_getElem? (i := 55) rfl))) (Or.inr (hw _ (List.mem_of_getElem? (i := 43) rfl))) (by decide) (t := .boolean) (t' := .int) (by decide) (by decide)))).other W7 (Or.inr (slot_ne (Or.inr (hw _ (List.mem_of_getElem? (i := 55) rfl))) (Or.inr (hw _ (List.mem_of_getElem? (i := 45) rfl))) (by decide) (t := .boolean) (t' := .long) (by decide) (by decide)))).other W10 (Or.inr (slot_ne (Or.inr (hw _ (List.mem_of_getElem? (i := 55) rfl))) (Or.inr (hw _ (List.mem_of_getElem? (i := 47) rfl))) (by decide) (t := .boolean) (t' := .int) (by decide) (by decide)))).other W13 (Or.inr (slot_ne (Or.inr (hw _ (List.mem_of_getElem? (i := 55) rfl))) (Or.inr (hw _ (List.mem_of_getElem? (i := 49) rfl))) (by decide) (t := .boolean) (t' := .int) (by decide) (by decide)))).other W16 (Or.inr (slot_ne (Or.inr (hw _ (List.mem_of_getElem? (i := 55) rfl))) (Or.inr (hw _ (List.mem_of_getElem? (i := 51) rfl))) (by decide) (t := .boolean) (t' := .int) (by decide) (by decide)))).other W19 (Or.inr (slot_ne (Or.inr (hw _ (List.mem_of_getElem? (i := 55) rfl))) (Or.inr (hw _ (List.mem_of_getElem? (i := 53) rfl))) (by decide) (t := .boolean) (t' := (.object "java/lang/String")) (by decide) (by decide))))
  have f21 : Exa Z h19 a1 "com/example/tagwire/tagwire/protocols/mti/MtiPacket$InventoryResponse" := (f18.wr W19)
  obtain ⟨T22, h22, X22, e22, W22, st22⟩ := putFN X19 hx hZ hown (hw _ (List.mem_of_getElem? (i := 54) rfl)) Via.refl e19 f20 f21 (Or.inr ⟨(hw _ (List.mem_of_getElem? (i := 55) rfl)), rfl, hnm⟩) (hw _ (List.mem_of_getElem? (i := 31) rfl)) (ty := .boolean) (v' := (.int (nar .boolean p8))) (by decide) rfl (fits_nar_bool _) (g := (mkF m 41 #[.val (.ref a1), .val (.int p2), .val (.long q3), .second, .val (.int p4), .val (.int p5), .val (.int p6), .val (.ref a7), .val (.int p8), .val (.int p9)] [(.int p8), (.ref a1)])) rfl rfl (hb hby d7_41)
  have Fw22 : Fld Z h22 a1 "com/example/tagwire/tagwire/protocols/mti/MtiPacket$InventoryResponse" "tagCrcOk" "Z" (.int (nar .boolean p8)) := f20.same W22
  have K22 : Keep h0 h22 [a1] := K19.wr W22 (Or.inl (List.mem_of_getElem? (i := 0) rfl))
  have N22 := Fr.snoc X22 N19 g_a1
  refine Go.st (T' := T22.setTop (mkF m 44 #[.val (.ref a1), .val (.int p2), .val (.long q3), .second, .val (.int p4), .val (.int p5), .val (.int p6), .val (.ref a7), .val (.int p8), .val (.int p9)] [])) (fun t k => st22 t k) ?_
  refine Go.st (T' := T22.setTop (mkF m 45 #[.val (.ref a1), .val (.int p2), .val (.long q3), .second, .val (.int p4), .val (.int p5), .val (.int p6), .val (.ref a7), .val (.int p8), .val (.int p9)] [(.ref a1)])) (fun t k => XS.aloadN X22.here hx rfl (hb hby d7_44) rfl rfl k) ?_
  refine Go.st (T' := T22.setTop (mkF m 47 #[.val (.ref a1), .val (.int p2), .val (.long q3), .second, .val (.int p4), .val (.int p5), .val (.int p6), .val (.ref a7), .val (.int p8), .val (.int p9)] [(.int p9), (.ref a1)])) (fun t k => XS.iload X22.here hx rfl (hb hby d7_45) rfl k) ?_
  have f23 : Fld Z h22 a1 "com/example/tagwire/tagwire/protocols/mti/MtiPacket$InventoryResponse" "crcOk" "Z" (.int (0 : Int32)) := (((((((F_crcOk.other W4 (Or.inr (slot_ne (Or.inr (hw _ (List.mem_of_getElem? (i := 57) rfl))) (Or.inr (hw _ (List.mem_of_getElem? (i := 43) rfl))) (by decide) (t := .boolean) (t' := .int) (by decide) (by decide)))).other W7 (Or.inr (slot_ne (Or.inr (hw _ (List.mem_of_getElem? (i := 57) rfl))) (Or.inr (hw _ (List.mem_of_getElem? (i := 45) rfl))) (by decide) (t := .boolean) (t' := .long) (by decide) (by decide)))).other W10 (Or.inr (slot_ne (Or.inr (hw _ (List.mem_of_getElem? (i := 57) rfl))) (Or.inr (hw _ (List.mem_of_getElem? (i := 47) rfl))) (by decide) (t := .boolean) (t' := .int) (by decide) (by decide)))).other W13 (Or.inr (slot_ne (Or.inr (hw _ (List.mem_of_getElem? (i := 57) rfl))) (Or.inr (hw _ (List.mem_of_getElem? (i := 49) rfl))) (by decide) (t := .boolean) (t' := .int) (by decide) (by decide)))).other W16 (Or.inr (slot_ne (Or.inr (hw _ (List.mem_of_getElem? (i := 57) rfl))) (Or.inr (hw _ (List.mem_of_getElem? (i := 51) rfl))) (by decide) (t := .boolean) (t' := .int) (by decide) (by decide)))).other W19 (Or.inr (slot_ne (Or.inr (hw _ (List.mem_of_getElem? (i := 57) rfl))) (Or.inr (hw _ (List.mem_of_getElem? (i := 53) rfl))) (by decide) (t := .boolean) (t' := (.object "java/lang/String")) (by decide) (by decide)))).other W22 (Or.inr (slot_ne (Or.inr (hw _ (List.mem_of_getElem? (i := 57) rfl))) (Or.inr (hw _ (List.mem_of_getElem? (i := 55) rfl))) (by decide) (t := .boolean) (t' := .boolean) (by decide) (by decide))))
  have f24 : Exa Z h22 a1 "com/example/tagwire/tagwire/protocols/mti/MtiPacket$InventoryResponse" := (f21.wr W22)
  obtain ⟨T25, h25, X25, e25, W25, st25⟩ := putFN X22 hx hZ hown (hw _ (List.mem_of_getElem? (i := 56) rfl)) Via.refl e22 f23 f24 (Or.inr ⟨(hw _ (List.mem_of_getElem? (i := 57) rfl)), rfl, hnm⟩) (hw _ (List.mem_of_getElem? (i := 31) rfl)) (ty := .boolean) (v' := (.int (nar .boolean p9))) (by decide) rfl (fits_nar_bool _) (g := (mkF m 47 #[.val (.ref a1), .val (.int p2), .val (.long q3), .second, .val (.int p4), .val (.int p5), .val (.int p6), .val (.ref a7), .val (.int p8), .val (.int p9)] [(.int p9), (.ref a1)])) rfl rfl (hb hby d7_47)
  have Fw25 : Fld Z h25 a1 "com/example/tagwire/tagwire/protocols/mti/MtiPacket$InventoryResponse" "crcOk" "Z" (.int (nar .boolean p9)) := f23.same W25
  have K25 : Keep h0 h25 [a1] := K22.wr W25 (Or.inl (List.mem_of_getElem? (i := 0) rfl))
  have N25 := Fr.snoc X25 N22 g_a1
  refine Go.st (T' := T25.setTop (mkF m 50 #[.val (.ref a1), .val (.int p2), .val (.long q3), .second, .val (.int p4), .val (.int p5), .val (.int p6), .val (.ref a7), .val (.int p8), .val (.int p9)] [])) (fun t k => st25 t k) ?_
  have f26 : Fld Z h25 a1 "com/example/tagwire/tagwire/protocols/mti/MtiPacket$InventoryResponse" "tagCrcOk" "Z" (.int (nar .boolean p8)) := (Fw22.other W25 (Or.inr (slot_ne (Or.inr (hw _ (List.mem_of_getElem? (i := 55) rfl))) (Or.inr (hw _ (List.mem_of_getElem? (i := 57) rfl))) (by decide) (t := .boolean) (t' := .boolean) (by decide) (by decide))))
  have f27 : Exa Z h25 a1 "com/example/tagwire/tagwire/protocols/mti/MtiPacket$InventoryResponse" := (f24.wr W25)
  exact Go.done X25 Bd.notSynchronized (v := none) (fun _ => rfl) (fun fs hr => X25.returnOut hx Bd.returns (hb hby d7_50) hr) (by rw [e25]; exact ⟨rfl, N25, K25, f27, f26, Fw25⟩) (by decide) (by decide)
def own_and (t c : Int32) : Int32 := if t = 0 then 0 else if c = 0 then 0 else 1
theorem d9_0 : decode prog_87_method_2_code 0 = .ok (.aload_n 0, 1) := by decide +kernel
theorem d9_1 : decode prog_87_method_2_code 1 = .ok (.getfield 30, 3) := by decide +kernel
theorem d9_4 : decode prog_87_method_2_code 4 = .ok (.ifCond .eq 14, 3) := by decide +kernel
theorem d9_7 : decode prog_87_method_2_code 7 = .ok (.aload_n 0, 1) := by decide +kernel
theorem d9_8 : decode prog_87_method_2_code 8 = .ok (.getfield 34, 3) := by decide +kernel
theorem d9_11 : decode prog_87_method_2_code 11 = .ok (.ifCond .eq 7, 3) := by decide +kernel
theorem d9_14 : decode prog_87_method_2_code 14 = .ok (.iconst 1, 1) := by decide +kernel
theorem d9_15 : decode prog_87_method_2_code 15 = .ok (.goto 4, 3) := by decide +kernel
theorem d9_18 : decode prog_87_method_2_code 18 = .ok (.iconst 0, 1) := by decide +kernel
theorem d9_19 : decode prog_87_method_2_code 19 = .ok (.ireturn, 1) := by decide +kernel
theorem ef_9 (m : MethodId) (x0 : Addr) : entryFrame m #[(.ref x0)] 1 = mkF m 0 #[.val (.ref x0)] [] := by first | (simp [entryFrame, mkF, argsToLocals, Value.category]; done) | rfl
def Q_rm9 (Z : State) (a1 : Addr) (bt bc : Int32) (h0 : Heap) (n0 : Nat) (v : Option Value) (h : Heap) (L : List Loc) : Prop := v = some (.int (nar .boolean (own_and bt bc))) ∧ Fr n0 L ∧ h = h0
set_option maxRecDepth 65536 in
set_option maxHeartbeats 40000000 in
theorem rm9 (l : Launch) (Z : State) (a0 : Array Value) (hw : ∀ d ∈ tables_1, d.before a0 Z = true) (a1 : Addr) (bt bc : Int32) (h0 : Heap) (n0 : Nat) (Z0 : n0 ≤ h0.size) (Ft : Fld Z h0 a1 "com/example/tagwire/tagwire/protocols/mti/MtiPacket$InventoryResponse" "tagCrcOk" "Z" (.int bt)) (Fc : Fld Z h0 a1 "com/example/tagwire/tagwire/protocols/mti/MtiPacket$InventoryResponse" "crcOk" "Z" (.int bc)) :
    MetFree l (⟨"com/example/tagwire/tagwire/protocols/mti/MtiPacket$InventoryResponse", "intact", "()Z"⟩ : MethodName) (head1 [Jvm.Cond.code (⟨"com/example/tagwire/tagwire/protocols/mti/MtiPacket$InventoryResponse", "intact", "()Z"⟩ : MethodName) prog_87_method_2_code 1 (some .boolean)] ({ frames := 0, cells := 0, slots := 0, locals := 0 } : Room)) (fun a U => a = #[(.ref a1)] ∧ Z.Warmed39 U.vm ∧ U.heap = h0) (fun _ _ _ _ _ => True) (fun _ U o U' => ∃ v L, o = .returned v ∧ (Q_rm9 Z a1 bt bc h0 n0) v U'.heap L ∧ FrameEnd U o U' L ({ frames := 0, cells := 0, slots := 0, locals := 0 } : Room).cells ({ frames := 0, cells := 0, slots := 0, locals := 0 } : Room).slots) := by
  refine MetFree.of_bodySF (plainFor_of_name pn_916a809) hisR ?_
  intro p e s m args below meth c s₁ Bd hml0 hP hK
  obtain ⟨rfl, hZ, hh⟩ := hP
  have hx := Bd.exec
  have hby := Bd.bytes
  have hml : c.maxLocals = 1 := hml0
  have hown : s.vm.findClass "com/example/tagwire/tagwire/protocols/mti/MtiPacket$InventoryResponse" = some m.cls := findClass_of_methodNamed Bd.named
  have hnm := (name_of_methodNamed Bd.named Bd.method).1
  have X0 : Stand p l e ({ frames := 0, cells := 0, slots := 0, locals := 0 } : Room) s m #[(.ref a1)] below meth c s₁ [] 0 0 := Stand.of_body Bd
  have e0 : s₁.heap = h0 := by rw [← hh, Bd.state]; rfl
  have N0 := Fr.nil n0
  have K0 : Keep h0 h0 [] := Keep.refl h0 []
  show Go p e below (s₁.setTop (entryFrame m #[(.ref a1)] 1)) (EndN s (Q_rm9 Z a1 bt bc h0 n0) ({ frames := 0, cells := 0, slots := 0, locals := 0 } : Room).cells ({ frames := 0, cells := 0, slots := 0, locals := 0 } : Room).slots)
  refine Go.top (ef_9 m a1) ?_
  refine Go.st (T' := s₁.setTop (mkF m 1 #[.val (.ref a1)] [(.ref a1)])) (fun t k => XS.aloadN X0.here hx rfl (hb hby d9_0) rfl rfl k) ?_
  obtain ⟨T28, X28, e28, st28⟩ := getF X0 hx hZ hown (host := "") (Or.inl (hw _ (List.mem_of_getElem? (i := 54) rfl))) Via.refl e0 Ft (g := (mkF m 1 #[.val (.ref a1)] [(.ref a1)])) rfl rfl (hb hby d9_1)
  refine Go.st (T' := T28.setTop (mkF m 4 #[.val (.ref a1)] [(.int bt)])) (fun t k => st28 t k) ?_
  by_cases ht1 : bt = (0 : Int32)
  ·
    refine Go.st (T' := T28.setTop (mkF m 18 #[.val (.ref a1)] [])) (fun t k => XS.ifYes X28.here hx rfl (pc0 := 4) (pc' := 18) rfl (hb hby d9_4) rfl ((if0 _ _).trans (teq ht1).1) (by decide) (by decide) k) ?_
    refine Go.st (T' := T28.setTop (mkF m 19 #[.val (.ref a1)] [(.int (0 : Int32))])) (fun t k => XS.iconst X28.here hx rfl (hb hby d9_18) k) ?_
    exact Go.done X28 Bd.notSynchronized (v := some (.int (nar .boolean (0 : Int32)))) (fun h => by rw [Bd.returns] at h; cases h) (fun fs hr => retN X28 hx (t := .boolean) Bd.returns (by simp) (hb hby d9_19) hr) (by rw [e28]; exact ⟨by simp [own_and, ht1], N0, rfl⟩) (by decide) (by decide)
  ·
    refine Go.st (T' := T28.setTop (mkF m 7 #[.val (.ref a1)] [])) (fun t k => XS.ifNo X28.here hx rfl (hb hby d9_4) rfl ((if0 _ _).trans (feq ht1).1) k) ?_
    refine Go.st (T' := T28.setTop (mkF m 8 #[.val (.ref a1)] [(.ref a1)])) (fun t k => XS.aloadN X28.here hx rfl (hb hby d9_7) rfl rfl k) ?_
    obtain ⟨T29, X29, e29, st29⟩ := getF X28 hx hZ hown (host := "") (Or.inl (hw _ (List.mem_of_getElem? (i := 56) rfl))) Via.refl e28 Fc (g := (mkF m 8 #[.val (.ref a1)] [(.ref a1)])) rfl rfl (hb hby d9_8)
    refine Go.st (T' := T29.setTop (mkF m 11 #[.val (.ref a1)] [(.int bc)])) (fun t k => st29 t k) ?_
    by_cases hc1 : bc = (0 : Int32)
    ·
      refine Go.st (T' := T29.setTop (mkF m 18 #[.val (.ref a1)] [])) (fun t k => XS.ifYes X29.here hx rfl (pc0 := 11) (pc' := 18) rfl (hb hby d9_11) rfl ((if0 _ _).trans (teq hc1).1) (by decide) (by decide) k) ?_
      refine Go.st (T' := T29.setTop (mkF m 19 #[.val (.ref a1)] [(.int (0 : Int32))])) (fun t k => XS.iconst X29.here hx rfl (hb hby d9_18) k) ?_
      exact Go.done X29 Bd.notSynchronized (v := some (.int (nar .boolean (0 : Int32)))) (fun h => by rw [Bd.returns] at h; cases h) (fun fs hr => retN X29 hx (t := .boolean) Bd.returns (by simp) (hb hby d9_19) hr) (by rw [e29]; exact ⟨by simp [own_and, ht1, hc1], N0, rfl⟩) (by decide) (by decide)
    ·
      refine Go.st (T' := T29.setTop (mkF m 14 #[.val (.ref a1)] [])) (fun t k => XS.ifNo X29.here hx rfl (hb hby d9_11) rfl ((if0 _ _).trans (feq hc1).1) k) ?_
      refine Go.st (T' := T29.setTop (mkF m 15 #[.val (.ref a1)] [(.int (1 : Int32))])) (fun t k => XS.iconst X29.here hx rfl (hb hby d9_14) k) ?_
      refine Go.st (T' := T29.setTop (mkF m 19 #[.val (.ref a1)] [(.int (1 : Int32))])) (fun t k => XS.goto X29.here hx rfl (pc0 := 15) (pc' := 19) rfl (hb hby d9_15) (by decide) (by decide) k) ?_
      exact Go.done X29 Bd.notSynchronized (v := some (.int (nar .boolean (1 : Int32)))) (fun h => by rw [Bd.returns] at h; cases h) (fun fs hr => retN X29 hx (t := .boolean) Bd.returns (by simp) (hb hby d9_19) hr) (by rw [e29]; exact ⟨by simp [own_and, ht1, hc1], N0, rfl⟩) (by decide) (by decide)
theorem pn_534734b : plainName "com/example/tagwire/tagwire/protocols/mti/InventoryResponseIntactPinLaw" = true := by first | (simp [plainName, overriddenIn]; done) | decide +kernel
theorem pd_a67b36d : parseMethodDescriptor "([C)V" = some ⟨[(.array .char)], none⟩ := by decide +kernel
theorem pd_5461af1 : parseMethodDescriptor "(IJIIILjava/lang/String;ZZ)V" = some ⟨[.int, .long, .int, .int, .int, (.object "java/lang/String"), .boolean, .boolean], none⟩ := by decide +kernel
theorem pd_a8ebd : parseMethodDescriptor "()Z" = some ⟨[], some .boolean⟩ := by decide +kernel
theorem ef_0 (m : MethodId) (x0 : Int32) (x1 : Int64) (x2 : Int32) (x3 : Int32) (x4 : Int32) (x5 : Int32) : entryFrame m #[(.int x0), (.long x1), (.int x2), (.int x3), (.int x4), (.int x5)] maxLocals = mkF m 0 #[.val (.int x0), .val (.long x1), .second, .val (.int x2), .val (.int x3), .val (.int x4), .val (.int x5), .unset, .unset, .unset, .unset, .unset, .unset] [] := by first | (simp [entryFrame, mkF, argsToLocals, Value.category, maxLocals]; done) | rfl
def Q_rm0 (Z : State) (p1 : Int32) (q2 : Int64) (p4 p5 p6 p7 : Int32) (h0 : Heap) (n0 : Nat) (v : Option Value) (h : Heap) (L : List Loc) : Prop := v = some (.int (1 : Int32)) ∧ Fr n0 L
set_option maxRecDepth 65536 in
set_option maxHeartbeats 40000000 in
theorem rm0 (l : Launch) (Z : State) (a0 : Array Value) (hw : ∀ d ∈ tables_1, d.before a0 Z = true) (ws : List Jvm.Cond) (p1 : Int32) (q2 : Int64) (p4 p5 p6 p7 : Int32) (h0 : Heap) (n0 : Nat) (Z0 : n0 ≤ h0.size) (G1 : Int32) (O2 : Sta Z Z.heap "java/lang/String" "COMPACT_STRINGS" "Z" (.int G1)) (P5 : ¬ (G1 = (0 : Int32))) (X00 : Old Z n0 h0) :
    MetFree l x (head1 (Jvm.Cond.code x code maxLocals ret :: ws) room_1) (fun a U => a = #[(.int p1), (.long q2), (.int p4), (.int p5), (.int p6), (.int p7)] ∧ Z.Warmed39 U.vm ∧ U.heap = h0) (fun _ _ _ _ _ => True) (fun _ U o U' => ∃ v L, o = .returned v ∧ (Q_rm0 Z p1 q2 p4 p5 p6 p7 h0 n0) v U'.heap L ∧ FrameEnd U o U' L room_1.cells room_1.slots) := by
  refine MetFree.of_bodySF (plainFor_of_name pn_534734b) hisR ?_
  intro p e s m args below meth c s₁ Bd hml0 hP hK
  obtain ⟨rfl, hZ, hh⟩ := hP
  have hx := Bd.exec
  have hby := Bd.bytes
  have hml : c.maxLocals = 13 := hml0
  have hown : s.vm.findClass "com/example/tagwire/tagwire/protocols/mti/InventoryResponseIntactPinLaw" = some m.cls := findClass_of_methodNamed Bd.named
  have hnm := (name_of_methodNamed Bd.named Bd.method).1
  have X0 : Stand p l e room_1 s m #[(.int p1), (.long q2), (.int p4), (.int p5), (.int p6), (.int p7)] below meth c s₁ [] 0 0 := Stand.of_body Bd
  have e0 : s₁.heap = h0 := by rw [← hh, Bd.state]; rfl
  have N0 := Fr.nil n0
  have K0 : Keep h0 h0 [] := Keep.refl h0 []
  show Go p e below (s₁.setTop (entryFrame m #[(.int p1), (.long q2), (.int p4), (.int p5), (.int p6), (.int p7)] maxLocals)) (EndN s (Q_rm0 Z p1 q2 p4 p5 p6 p7 h0 n0) room_1.cells room_1.slots)
  refine Go.top (ef_0 m p1 q2 p4 p5 p6 p7) ?_
  refine Go.st (T' := s₁.setTop (mkF m 2 #[.val (.int p1), .val (.long q2), .second, .val (.int p4), .val (.int p5), .val (.int p6), .val (.int p7), .unset, .unset, .unset, .unset, .unset, .unset] [(.int p7)])) (fun t k => XS.iload X0.here hx rfl (hb hby at_0) rfl k) ?_
  refine Go.st (T' := s₁.setTop (mkF m 3 #[.val (.int p1), .val (.long q2), .second, .val (.int p4), .val (.int p5), .val (.int p6), .val (.int p7), .unset, .unset, .unset, .unset, .unset, .unset] [(.int (1 : Int32)), (.int p7)])) (fun t k => XS.iconst X0.here hx rfl (hb hby at_2) k) ?_
  refine Go.st (T' := s₁.setTop (mkF m 4 #[.val (.int p1), .val (.long q2), .second, .val (.int p4), .val (.int p5), .val (.int p6), .val (.int p7), .unset, .unset, .unset, .unset, .unset, .unset] [(.int (p7 &&& (1 : Int32)))])) (fun t k => XS.iand X0.here hx rfl (hb hby at_3) rfl k) ?_
  suffices Jt7 : ∀ t7 : Int32, (t7 = 0 ∨ t7 = 1) → Go p e below (s₁.setTop (mkF m 12 #[.val (.int p1), .val (.long q2), .second, .val (.int p4), .val (.int p5), .val (.int p6), .val (.int p7), .unset, .unset, .unset, .unset, .unset, .unset] [(.int t7)])) (EndN s (Q_rm0 Z p1 q2 p4 p5 p6 p7 h0 n0) room_1.cells room_1.slots) by
    by_cases hct7 : (p7 &&& (1 : Int32)) = (0 : Int32)
    ·
      refine Go.st (T' := s₁.setTop (mkF m 11 #[.val (.int p1), .val (.long q2), .second, .val (.int p4), .val (.int p5), .val (.int p6), .val (.int p7), .unset, .unset, .unset, .unset, .unset, .unset] [])) (fun t k => XS.ifYes X0.here hx rfl (pc0 := 4) (pc' := 11) rfl (hb hby at_4) rfl ((if0 _ _).trans (teq hct7).1) (by decide) (by decide) k) ?_
      refine Go.st (T' := s₁.setTop (mkF m 12 #[.val (.int p1), .val (.long q2), .second, .val (.int p4), .val (.int p5), .val (.int p6), .val (.int p7), .unset, .unset, .unset, .unset, .unset, .unset] [(.int (0 : Int32))])) (fun t k => XS.iconst X0.here hx rfl (hb hby at_11) k) ?_
      exact Jt7 _ (by decide)
    ·
      refine Go.st (T' := s₁.setTop (mkF m 7 #[.val (.int p1), .val (.long q2), .second, .val (.int p4), .val (.int p5), .val (.int p6), .val (.int p7), .unset, .unset, .unset, .unset, .unset, .unset] [])) (fun t k => XS.ifNo X0.here hx rfl (hb hby at_4) rfl ((if0 _ _).trans (feq hct7).1) k) ?_
      refine Go.st (T' := s₁.setTop (mkF m 8 #[.val (.int p1), .val (.long q2), .second, .val (.int p4), .val (.int p5), .val (.int p6), .val (.int p7), .unset, .unset, .unset, .unset, .unset, .unset] [(.int (1 : Int32))])) (fun t k => XS.iconst X0.here hx rfl (hb hby at_7) k) ?_
      refine Go.st (T' := s₁.setTop (mkF m 12 #[.val (.int p1), .val (.long q2), .second, .val (.int p4), .val (.int p5), .val (.int p6), .val (.int p7), .unset, .unset, .unset, .unset, .unset, .unset] [(.int (1 : Int32))])) (fun t k => XS.goto X0.here hx rfl (pc0 := 8) (pc' := 12) rfl (hb hby at_8) (by decide) (by decide) k) ?_
      exact Jt7 _ (by decide)
  intro t7 h_t7
  refine Go.st (T' := s₁.setTop (mkF m 14 #[.val (.int p1), .val (.long q2), .second, .val (.int p4), .val (.int p5), .val (.int p6), .val (.int p7), .val (.int t7), .unset, .unset, .unset, .unset, .unset] [])) (fun t k => XS.istore X0.here hx rfl (hb hby at_12) rfl (l' := #[.val (.int p1), .val (.long q2), .second, .val (.int p4), .val (.int p5), .val (.int p6), .val (.int p7), .val (.int t7), .unset, .unset, .unset, .unset, .unset]) rfl k) ?_
  refine Go.st (T' := s₁.setTop (mkF m 16 #[.val (.int p1), .val (.long q2), .second, .val (.int p4), .val (.int p5), .val (.int p6), .val (.int p7), .val (.int t7), .unset, .unset, .unset, .unset, .unset] [(.int p7)])) (fun t k => XS.iload X0.here hx rfl (hb hby at_14) rfl k) ?_
  refine Go.st (T' := s₁.setTop (mkF m 17 #[.val (.int p1), .val (.long q2), .second, .val (.int p4), .val (.int p5), .val (.int p6), .val (.int p7), .val (.int t7), .unset, .unset, .unset, .unset, .unset] [(.int (2 : Int32)), (.int p7)])) (fun t k => XS.iconst X0.here hx rfl (hb hby at_16) k) ?_
  refine Go.st (T' := s₁.setTop (mkF m 18 #[.val (.int p1), .val (.long q2), .second, .val (.int p4), .val (.int p5), .val (.int p6), .val (.int p7), .val (.int t7), .unset, .unset, .unset, .unset, .unset] [(.int (p7 &&& (2 : Int32)))])) (fun t k => XS.iand X0.here hx rfl (hb hby at_17) rfl k) ?_
  suffices Jt8 : ∀ t8 : Int32, (t8 = 0 ∨ t8 = 1) → Go p e below (s₁.setTop (mkF m 26 #[.val (.int p1), .val (.long q2), .second, .val (.int p4), .val (.int p5), .val (.int p6), .val (.int p7), .val (.int t7), .unset, .unset, .unset, .unset, .unset] [(.int t8)])) (EndN s (Q_rm0 Z p1 q2 p4 p5 p6 p7 h0 n0) room_1.cells room_1.slots) by
    by_cases hct8 : (p7 &&& (2 : Int32)) = (0 : Int32)
    ·
      refine Go.st (T' := s₁.setTop (mkF m 25 #[.val (.int p1), .val (.long q2), .second, .val (.int p4), .val (.int p5), .val (.int p6), .val (.int p7), .val (.int t7), .unset, .unset, .unset, .unset, .unset] [])) (fun t k => XS.ifYes X0.here hx rfl (pc0 := 18) (pc' := 25) rfl (hb hby at_18) rfl ((if0 _ _).trans (teq hct8).1) (by decide) (by decide) k) ?_
      refine Go.st (T' := s₁.setTop (mkF m 26 #[.val (.int p1), .val (.long q2), .second, .val (.int p4), .val (.int p5), .val (.int p6), .val (.int p7), .val (.int t7), .unset, .unset, .unset, .unset, .unset] [(.int (0 : Int32))])) (fun t k => XS.iconst X0.here hx rfl (hb hby at_25) k) ?_
      exact Jt8 _ (by decide)
    ·
      refine Go.st (T' := s₁.setTop (mkF m 21 #[.val (.int p1), .val (.long q2), .second, .val (.int p4), .val (.int p5), .val (.int p6), .val (.int p7), .val (.int t7), .unset, .unset, .unset, .unset, .unset] [])) (fun t k => XS.ifNo X0.here hx rfl (hb hby at_18) rfl ((if0 _ _).trans (feq hct8).1) k) ?_
      refine Go.st (T' := s₁.setTop (mkF m 22 #[.val (.int p1), .val (.long q2), .second, .val (.int p4), .val (.int p5), .val (.int p6), .val (.int p7), .val (.int t7), .unset, .unset, .unset, .unset, .unset] [(.int (1 : Int32))])) (fun t k => XS.iconst X0.here hx rfl (hb hby at_21) k) ?_
      refine Go.st (T' := s₁.setTop (mkF m 26 #[.val (.int p1), .val (.long q2), .second, .val (.int p4), .val (.int p5), .val (.int p6), .val (.int p7), .val (.int t7), .unset, .unset, .unset, .unset, .unset] [(.int (1 : Int32))])) (fun t k => XS.goto X0.here hx rfl (pc0 := 22) (pc' := 26) rfl (hb hby at_22) (by decide) (by decide) k) ?_
      exact Jt8 _ (by decide)
  intro t8 h_t8
  refine Go.st (T' := s₁.setTop (mkF m 28 #[.val (.int p1), .val (.long q2), .second, .val (.int p4), .val (.int p5), .val (.int p6), .val (.int p7), .val (.int t7), .val (.int t8), .unset, .unset, .unset, .unset] [])) (fun t k => XS.istore X0.here hx rfl (hb hby at_26) rfl (l' := #[.val (.int p1), .val (.long q2), .second, .val (.int p4), .val (.int p5), .val (.int p6), .val (.int p7), .val (.int t7), .val (.int t8), .unset, .unset, .unset, .unset]) rfl k) ?_
  refine Go.st (T' := s₁.setTop (mkF m 29 #[.val (.int p1), .val (.long q2), .second, .val (.int p4), .val (.int p5), .val (.int p6), .val (.int p7), .val (.int t7), .val (.int t8), .unset, .unset, .unset, .unset] [(.int (2 : Int32))])) (fun t k => XS.iconst X0.here hx rfl (hb hby at_28) k) ?_
  obtain ⟨T30, h30, k30, X30, e30, E30, A30, st30⟩ := newP X0 hx hZ (hw _ (List.mem_of_getElem? (i := 0) rfl)) e0 (g := (mkF m 29 #[.val (.int p1), .val (.long q2), .second, .val (.int p4), .val (.int p5), .val (.int p6), .val (.int p7), .val (.int t7), .val (.int t8), .unset, .unset, .unset, .unset] [(.int (2 : Int32))])) rfl (hb hby at_29) rfl (by decide) (cap := 2) (by decide) (by decide) (by decide) (by decide)
  obtain ⟨b30, g30⟩ : ∃ z, z = h0.size := ⟨_, rfl⟩
  rw [← g30] at A30 st30
  have g_b30 : n0 ≤ b30 := Nat.le_trans (Nat.le_trans Z0 K0.1) (Nat.le_of_eq g30.symm)
  have sz_b30 : h0.size ≤ b30 := Nat.le_trans K0.1 (Nat.le_of_eq g30.symm)
  have K30 : Keep h0 h30 [] := K0.ext E30
  have V30 : Arv Z h30 b30 k30 .char (2 : Int32) [(.int (0 : Int32)), (.int (0 : Int32))] (.int (0 : Int32)) := (Arv.new A30 (by decide)).pad (pad_rep [] (.int (0 : Int32)) 2)
  refine Go.st (T' := T30.setTop (mkF m 31 #[.val (.int p1), .val (.long q2), .second, .val (.int p4), .val (.int p5), .val (.int p6), .val (.int p7), .val (.int t7), .val (.int t8), .unset, .unset, .unset, .unset] [(.ref b30)])) (fun t k => st30 t k) ?_
  refine Go.st (T' := T30.setTop (mkF m 33 #[.val (.int p1), .val (.long q2), .second, .val (.int p4), .val (.int p5), .val (.int p6), .val (.int p7), .val (.int t7), .val (.int t8), .val (.ref b30), .unset, .unset, .unset] [])) (fun t k => XS.astore X30.here hx rfl (hb hby at_31) rfl rfl (l' := #[.val (.int p1), .val (.long q2), .second, .val (.int p4), .val (.int p5), .val (.int p6), .val (.int p7), .val (.int t7), .val (.int t8), .val (.ref b30), .unset, .unset, .unset]) rfl k) ?_
  refine Go.st (T' := T30.setTop (mkF m 35 #[.val (.int p1), .val (.long q2), .second, .val (.int p4), .val (.int p5), .val (.int p6), .val (.int p7), .val (.int t7), .val (.int t8), .val (.ref b30), .unset, .unset, .unset] [(.ref b30)])) (fun t k => XS.aload X30.here hx rfl (hb hby at_33) rfl rfl k) ?_
  refine Go.st (T' := T30.setTop (mkF m 36 #[.val (.int p1), .val (.long q2), .second, .val (.int p4), .val (.int p5), .val (.int p6), .val (.int p7), .val (.int t7), .val (.int t8), .val (.ref b30), .unset, .unset, .unset] [(.int (0 : Int32)), (.ref b30)])) (fun t k => XS.iconst X30.here hx rfl (hb hby at_35) k) ?_
  refine Go.st (T' := T30.setTop (mkF m 38 #[.val (.int p1), .val (.long q2), .second, .val (.int p4), .val (.int p5), .val (.int p6), .val (.int p7), .val (.int t7), .val (.int t8), .val (.ref b30), .unset, .unset, .unset] [(.int p7), (.int (0 : Int32)), (.ref b30)])) (fun t k => XS.iload X30.here hx rfl (hb hby at_36) rfl k) ?_
  refine Go.st (T' := T30.setTop (mkF m 40 #[.val (.int p1), .val (.long q2), .second, .val (.int p4), .val (.int p5), .val (.int p6), .val (.int p7), .val (.int t7), .val (.int t8), .val (.ref b30), .unset, .unset, .unset] [(.int (8 : Int32)), (.int p7), (.int (0 : Int32)), (.ref b30)])) (fun t k => XS.bipush X30.here hx rfl (hb hby at_38) k) ?_
  refine Go.st (T' := T30.setTop (mkF m 41 #[.val (.int p1), .val (.long q2), .second, .val (.int p4), .val (.int p5), .val (.int p6), .val (.int p7), .val (.int t7), .val (.int t8), .val (.ref b30), .unset, .unset, .unset] [(.int ((p7.toUInt32 >>> ((8 : Int32) &&& 31).toUInt32).toInt32)), (.int (0 : Int32)), (.ref b30)])) (fun t k => XS.iushr X30.here hx rfl (hb hby at_40) rfl k) ?_
  refine Go.st (T' := T30.setTop (mkF m 44 #[.val (.int p1), .val (.long q2), .second, .val (.int p4), .val (.int p5), .val (.int p6), .val (.int p7), .val (.int t7), .val (.int t8), .val (.ref b30), .unset, .unset, .unset] [(.int (255 : Int32)), (.int ((p7.toUInt32 >>> ((8 : Int32) &&& 31).toUInt32).toInt32)), (.int (0 : Int32)), (.ref b30)])) (fun t k => XS.sipush X30.here hx rfl (hb hby at_41) k) ?_
  refine Go.st (T' := T30.setTop (mkF m 45 #[.val (.int p1), .val (.long q2), .second, .val (.int p4), .val (.int p5), .val (.int p6), .val (.int p7), .val (.int t7), .val (.int t8), .val (.ref b30), .unset, .unset, .unset] [(.int (((p7.toUInt32 >>> ((8 : Int32) &&& 31).toUInt32).toInt32) &&& (255 : Int32))), (.int (0 : Int32)), (.ref b30)])) (fun t k => XS.iand X30.here hx rfl (hb hby at_44) rfl k) ?_
  refine Go.st (T' := T30.setTop (mkF m 46 #[.val (.int p1), .val (.long q2), .second, .val (.int p4), .val (.int p5), .val (.int p6), .val (.int p7), .val (.int t7), .val (.int t8), .val (.ref b30), .unset, .unset, .unset] [(.int ((((p7.toUInt32 >>> ((8 : Int32) &&& 31).toUInt32).toInt32) &&& (255 : Int32)).toUInt32.toUInt16.toUInt32.toInt32)), (.int (0 : Int32)), (.ref b30)])) (fun t k => XS.i2c X30.here hx rfl (hb hby at_45) rfl k) ?_
  obtain ⟨cl31, Ar31, q31, S31, M31, H31, G31⟩ := id V30
  obtain ⟨T31, h31, X31, e31, W31, st31⟩ := stC X30 hx hZ e30 Ar31 (j := (0 : Int32)) (inb_of S31 ⟨by decide, by decide⟩) (g := (mkF m 46 #[.val (.int p1), .val (.long q2), .second, .val (.int p4), .val (.int p5), .val (.int p6), .val (.int p7), .val (.int t7), .val (.int t8), .val (.ref b30), .unset, .unset, .unset] [(.int ((((p7.toUInt32 >>> ((8 : Int32) &&& 31).toUInt32).toInt32) &&& (255 : Int32)).toUInt32.toUInt16.toUInt32.toInt32)), (.int (0 : Int32)), (.ref b30)])) rfl rfl (hb hby at_46)
  have V31 : Arv Z h31 b30 k30 .char (2 : Int32) [(.int (nar .char ((((p7.toUInt32 >>> ((8 : Int32) &&& 31).toUInt32).toInt32) &&& (255 : Int32)).toUInt32.toUInt16.toUInt32.toInt32))), (.int (0 : Int32))] (.int (0 : Int32)) := Arv.set Ar31 q31 S31 M31 H31 G31 (fits_nar_char _) W31 0 rfl (Nat.le_of_ble_eq_true rfl)
  have K31 : Keep h0 h31 [] := K30.wr W31 (Or.inr sz_b30)
  have N31 := Fr.snoc X31 N0 g_b30
  refine Go.st (T' := T31.setTop (mkF m 47 #[.val (.int p1), .val (.long q2), .second, .val (.int p4), .val (.int p5), .val (.int p6), .val (.int p7), .val (.int t7), .val (.int t8), .val (.ref b30), .unset, .unset, .unset] [])) (fun t k => st31 t k) ?_
  refine Go.st (T' := T31.setTop (mkF m 49 #[.val (.int p1), .val (.long q2), .second, .val (.int p4), .val (.int p5), .val (.int p6), .val (.int p7), .val (.int t7), .val (.int t8), .val (.ref b30), .unset, .unset, .unset] [(.ref b30)])) (fun t k => XS.aload X31.here hx rfl (hb hby at_47) rfl rfl k) ?_
  refine Go.st (T' := T31.setTop (mkF m 50 #[.val (.int p1), .val (.long q2), .second, .val (.int p4), .val (.int p5), .val (.int p6), .val (.int p7), .val (.int t7), .val (.int t8), .val (.ref b30), .unset, .unset, .unset] [(.int (1 : Int32)), (.ref b30)])) (fun t k => XS.iconst X31.here hx rfl (hb hby at_49) k) ?_
  refine Go.st (T' := T31.setTop (mkF m 52 #[.val (.int p1), .val (.long q2), .second, .val (.int p4), .val (.int p5), .val (.int p6), .val (.int p7), .val (.int t7), .val (.int t8), .val (.ref b30), .unset, .unset, .unset] [(.int p7), (.int (1 : Int32)), (.ref b30)])) (fun t k => XS.iload X31.here hx rfl (hb hby at_50) rfl k) ?_
  refine Go.st (T' := T31.setTop (mkF m 54 #[.val (.int p1), .val (.long q2), .second, .val (.int p4), .val (.int p5), .val (.int p6), .val (.int p7), .val (.int t7), .val (.int t8), .val (.ref b30), .unset, .unset, .unset] [(.int (16 : Int32)), (.int p7), (.int (1 : Int32)), (.ref b30)])) (fun t k => XS.bipush X31.here hx rfl (hb hby at_52) k) ?_
  refine Go.st (T' := T31.setTop (mkF m 55 #[.val (.int p1), .val (.long q2), .second, .val (.int p4), .val (.int p5), .val (.int p6), .val (.int p7), .val (.int t7), .val (.int t8), .val (.ref b30), .unset, .unset, .unset] [(.int ((p7.toUInt32 >>> ((16 : Int32) &&& 31).toUInt32).toInt32)), (.int (1 : Int32)), (.ref b30)])) (fun t k => XS.iushr X31.here hx rfl (hb hby at_54) rfl k) ?_
  refine Go.st (T' := T31.setTop (mkF m 58 #[.val (.int p1), .val (.long q2), .second, .val (.int p4), .val (.int p5), .val (.int p6), .val (.int p7), .val (.int t7), .val (.int t8), .val (.ref b30), .unset, .unset, .unset] [(.int (255 : Int32)), (.int ((p7.toUInt32 >>> ((16 : Int32) &&& 31).toUInt32).toInt32)), (.int (1 : Int32)), (.ref b30)])) (fun t k => XS.sipush X31.here hx rfl (hb hby at_55) k) ?_
  refine Go.st (T' := T31.setTop (mkF m 59 #[.val (.int p1), .val (.long q2), .second, .val (.int p4), .val (.int p5), .val (.int p6), .val (.int p7), .val (.int t7), .val (.int t8), .val (.ref b30), .unset, .unset, .unset] [(.int (((p7.toUInt32 >>> ((16 : Int32) &&& 31).toUInt32).toInt32) &&& (255 : Int32))), (.int (1 : Int32)), (.ref b30)])) (fun t k => XS.iand X31.here hx rfl (hb hby at_58) rfl k) ?_
  refine Go.st (T' := T31.setTop (mkF m 60 #[.val (.int p1), .val (.long q2), .second, .val (.int p4), .val (.int p5), .val (.int p6), .val (.int p7), .val (.int t7), .val (.int t8), .val (.ref b30), .unset, .unset, .unset] [(.int ((((p7.toUInt32 >>> ((16 : Int32) &&& 31).toUInt32).toInt32) &&& (255 : Int32)).toUInt32.toUInt16.toUInt32.toInt32)), (.int (1 : Int32)), (.ref b30)])) (fun t k => XS.i2c X31.here hx rfl (hb hby at_59) rfl k) ?_
  obtain ⟨cl32, Ar32, q32, S32, M32, H32, G32⟩ := id V31
  obtain ⟨T32, h32, X32, e32, W32, st32⟩ := stC X31 hx hZ e31 Ar32 (j := (1 : Int32)) (inb_of S32 ⟨by decide, by decide⟩) (g := (mkF m 60 #[.val (.int p1), .val (.long q2), .second, .val (.int p4), .val (.int p5), .val (.int p6), .val (.int p7), .val (.int t7), .val (.int t8), .val (.ref b30), .unset, .unset, .unset] [(.int ((((p7.toUInt32 >>> ((16 : Int32) &&& 31).toUInt32).toInt32) &&& (255 : Int32)).toUInt32.toUInt16.toUInt32.toInt32)), (.int (1 : Int32)), (.ref b30)])) rfl rfl (hb hby at_60)
  have V32 : Arv Z h32 b30 k30 .char (2 : Int32) [(.int (nar .char ((((p7.toUInt32 >>> ((8 : Int32) &&& 31).toUInt32).toInt32) &&& (255 : Int32)).toUInt32.toUInt16.toUInt32.toInt32))), (.int (nar .char ((((p7.toUInt32 >>> ((16 : Int32) &&& 31).toUInt32).toInt32) &&& (255 : Int32)).toUInt32.toUInt16.toUInt32.toInt32)))] (.int (0 : Int32)) := Arv.set Ar32 q32 S32 M32 H32 G32 (fits_nar_char _) W32 1 rfl (Nat.le_of_ble_eq_true rfl)
  have K32 : Keep h0 h32 [] := K31.wr W32 (Or.inr sz_b30)
  have N32 := Fr.snoc X32 N31 g_b30
  refine Go.st (T' := T32.setTop (mkF m 61 #[.val (.int p1), .val (.long q2), .second, .val (.int p4), .val (.int p5), .val (.int p6), .val (.int p7), .val (.int t7), .val (.int t8), .val (.ref b30), .unset, .unset, .unset] [])) (fun t k => st32 t k) ?_
  obtain ⟨T33, h33, X33, e33, E33, A33, D33, -, st33⟩ := newO X32 hx hZ hown (hw _ (List.mem_of_getElem? (i := 1) rfl)) (hw _ (List.mem_of_getElem? (i := 2) rfl)) (hw _ (List.mem_of_getElem? (i := 3) rfl)) e32 (g := (mkF m 61 #[.val (.int p1), .val (.long q2), .second, .val (.int p4), .val (.int p5), .val (.int p6), .val (.int p7), .val (.int t7), .val (.int t8), .val (.ref b30), .unset, .unset, .unset] [])) rfl (hb hby at_61) (by decide) (by decide)
  obtain ⟨b33, g33⟩ : ∃ z, z = h32.size := ⟨_, rfl⟩
  rw [← g33] at A33 D33 st33
  have g_b33 : n0 ≤ b33 := Nat.le_trans (Nat.le_trans Z0 K32.1) (Nat.le_of_eq g33.symm)
  have sz_b33 : h0.size ≤ b33 := Nat.le_trans K32.1 (Nat.le_of_eq g33.symm)
  have ne34 : b30 ≠ b33 := Nat.ne_of_lt (Nat.lt_of_lt_of_le V32.lt (Nat.le_of_eq g33.symm))
  have K33 : Keep h0 h33 [] := K32.ext E33
  have Fn33_coder : Fld Z h33 b33 "java/lang/String" "coder" "B" (.int (0 : Int32)) := D33 (Or.inr (hw _ (List.mem_of_getElem? (i := 27) rfl))) (ty := .byte) (by decide)
  have Fn33_value : Fld Z h33 b33 "java/lang/String" "value" "[B" .null := D33 (Or.inr (hw _ (List.mem_of_getElem? (i := 29) rfl))) (ty := (.array .byte)) (by decide)
  refine Go.st (T' := T33.setTop (mkF m 64 #[.val (.int p1), .val (.long q2), .second, .val (.int p4), .val (.int p5), .val (.int p6), .val (.int p7), .val (.int t7), .val (.int t8), .val (.ref b30), .unset, .unset, .unset] [(.ref b33)])) (fun t k => st33 t k) ?_
  refine Go.st (T' := T33.setTop (mkF m 65 #[.val (.int p1), .val (.long q2), .second, .val (.int p4), .val (.int p5), .val (.int p6), .val (.int p7), .val (.int t7), .val (.int t8), .val (.ref b30), .unset, .unset, .unset] [(.ref b33), (.ref b33)])) (fun t k => XS.dup X33.here hx rfl (hb hby at_64) rfl rfl k) ?_
  refine Go.st (T' := T33.setTop (mkF m 67 #[.val (.int p1), .val (.long q2), .second, .val (.int p4), .val (.int p5), .val (.int p6), .val (.int p7), .val (.int t7), .val (.int t8), .val (.ref b30), .unset, .unset, .unset] [(.ref b30), (.ref b33), (.ref b33)])) (fun t k => XS.aload X33.here hx rfl (hb hby at_65) rfl rfl k) ?_
  have hws : ∀ d ∈ StrChars.Road.words, d.before a0 Z = true := fun d hd => hw d ((by decide +kernel : ∀ d ∈ StrChars.Road.words, d ∈ tables_1) d hd)
  have hp : ∀ c ∈ ([nar .char (((p7.toUInt32 >>> ((8 : Int32) &&& 31).toUInt32).toInt32 &&& (255 : Int32)).toUInt32.toUInt16.toUInt32.toInt32), nar .char (((p7.toUInt32 >>> ((16 : Int32) &&& 31).toUInt32).toInt32 &&& (255 : Int32)).toUInt32.toUInt16.toUInt32.toInt32)] : List Int32), ¬ c < 0 ∧ ¬ (255 : Int32) < c := by
    intro c hc
    simp only [List.mem_cons, List.not_mem_nil, or_false] at hc
    rcases hc with rfl | rfl
    · exact own_and255 _
    · exact own_and255 _
  have f35 : Arv Z h33 b30 k30 .char (2 : Int32) [(.int (nar .char ((((p7.toUInt32 >>> ((8 : Int32) &&& 31).toUInt32).toInt32) &&& (255 : Int32)).toUInt32.toUInt16.toUInt32.toInt32))), (.int (nar .char ((((p7.toUInt32 >>> ((16 : Int32) &&& 31).toUInt32).toInt32) &&& (255 : Int32)).toUInt32.toUInt16.toUInt32.toInt32)))] (.int (0 : Int32)) := (V32.ext E33)
  obtain ⟨vr36, _, ⟨T36, L36, k36, n36⟩, -, X36, ⟨Lc36, hQ36, l36, y36, z36⟩, st36⟩ := X33.specialBack hx (y := (⟨"java/lang/String", "<init>", "([C)V"⟩ : MethodName)) rfl hown (mvT hZ (hw _ (List.mem_of_getElem? (i := 4) rfl))) (mvT hZ (hw _ (List.mem_of_getElem? (i := 5) rfl))) (mvT hZ (hw _ (List.mem_of_getElem? (i := 6) rfl))) (by decide) (StrChars.Road.backV (W := 1) hZ hws (kI := 4) (hw _ (List.mem_of_getElem? (i := 2) rfl)) (cs := ([nar .char (((p7.toUInt32 >>> ((8 : Int32) &&& 31).toUInt32).toInt32 &&& (255 : Int32)).toUInt32.toUInt16.toUInt32.toInt32), nar .char (((p7.toUInt32 >>> ((16 : Int32) &&& 31).toUInt32).toInt32 &&& (255 : Int32)).toUInt32.toUInt16.toUInt32.toInt32)] : List Int32)) (bs := (([nar .char (((p7.toUInt32 >>> ((8 : Int32) &&& 31).toUInt32).toInt32 &&& (255 : Int32)).toUInt32.toUInt16.toUInt32.toInt32), nar .char (((p7.toUInt32 >>> ((16 : Int32) &&& 31).toUInt32).toInt32 &&& (255 : Int32)).toUInt32.toUInt16.toUInt32.toInt32)] : List Int32)).map (fun c => c.toInt8.toInt32)) (n := 2) g_b33 (Nat.le_trans Z0 K33.1) A33 Fn33_value Fn33_coder f35 (O2.ext (X00.keep K33 all0).2) P5 rfl rfl (by decide) (by decide) hp rfl (by decide) (by decide)) (g := (mkF m 67 #[.val (.int p1), .val (.long q2), .second, .val (.int p4), .val (.int p5), .val (.int p6), .val (.int p7), .val (.int t7), .val (.int t8), .val (.ref b30), .unset, .unset, .unset] [(.ref b30), (.ref b33), (.ref b33)])) rfl (by rw [hml]; rfl) (Steps.refl _) (a := b33) (argsL := [(.ref b30)]) (rest := [(.ref b33)]) (lenOf pd_a67b36d rfl) rfl (by show 2 * 0 + _ ≤ _; exact Nat.le_of_eq rfl) (hb hby at_67) (fun _ _ => ⟨rfl, e33, (by decide : 2 + 1 ≤ _), (by decide : 6 + 2 ≤ _)⟩)
  dsimp only [Pt.U, Pt.locs, Pt.cells, Pt.slots] at X36 l36 y36 z36 st36 hQ36
  subst l36 y36 z36
  obtain ⟨rfl, Nq36, Kq36, Eq36, Cq36, bt36, kt36, ut36, vt36, wt36, Vq36, Bq36⟩ := hQ36
  have KK37 : Keep h0 T36.heap [] := K33.trans Kq36 (allS (Or.inr sz_b33) all0)
  have NN38 := Fr.app N32 Nq36
  refine Go.st (T' := T36.setTop (mkF m 70 #[.val (.int p1), .val (.long q2), .second, .val (.int p4), .val (.int p5), .val (.int p6), .val (.int p7), .val (.int t7), .val (.int t8), .val (.ref b30), .unset, .unset, .unset] [(.ref b33)])) (fun t k => st36.trans k) ?_
  refine Go.st (T' := T36.setTop (mkF m 72 #[.val (.int p1), .val (.long q2), .second, .val (.int p4), .val (.int p5), .val (.int p6), .val (.int p7), .val (.int t7), .val (.int t8), .val (.ref b30), .val (.ref b33), .unset, .unset] [])) (fun t k => XS.astore X36.here hx rfl (hb hby at_70) rfl rfl (l' := #[.val (.int p1), .val (.long q2), .second, .val (.int p4), .val (.int p5), .val (.int p6), .val (.int p7), .val (.int t7), .val (.int t8), .val (.ref b30), .val (.ref b33), .unset, .unset]) rfl k) ?_
  obtain ⟨T39, h39, X39, e39, E39, A39, D39, -, st39⟩ := newO X36 hx hZ hown (hw _ (List.mem_of_getElem? (i := 30) rfl)) (hw _ (List.mem_of_getElem? (i := 31) rfl)) (hw _ (List.mem_of_getElem? (i := 32) rfl)) rfl (g := (mkF m 72 #[.val (.int p1), .val (.long q2), .second, .val (.int p4), .val (.int p5), .val (.int p6), .val (.int p7), .val (.int t7), .val (.int t8), .val (.ref b30), .val (.ref b33), .unset, .unset] [])) rfl (hb hby at_72) (by decide) (by decide)
  obtain ⟨b39, g39⟩ : ∃ z, z = T36.heap.size := ⟨_, rfl⟩
  rw [← g39] at A39 D39 st39
  have g_b39 : n0 ≤ b39 := Nat.le_trans (Nat.le_trans Z0 KK37.1) (Nat.le_of_eq g39.symm)
  have sz_b39 : h0.size ≤ b39 := Nat.le_trans KK37.1 (Nat.le_of_eq g39.symm)
  have f40 : Arv Z T36.heap b30 k30 .char (2 : Int32) [(.int (nar .char ((((p7.toUInt32 >>> ((8 : Int32) &&& 31).toUInt32).toInt32) &&& (255 : Int32)).toUInt32.toUInt16.toUInt32.toInt32))), (.int (nar .char ((((p7.toUInt32 >>> ((16 : Int32) &&& 31).toUInt32).toInt32) &&& (255 : Int32)).toUInt32.toUInt16.toUInt32.toInt32)))] (.int (0 : Int32)) := (f35.keep Kq36 (ninS ne34 nin0))
  have ne41 : b30 ≠ b39 := Nat.ne_of_lt (Nat.lt_of_lt_of_le f40.lt (Nat.le_of_eq g39.symm))
  have ne42 : b33 ≠ b39 := Nat.ne_of_lt (Nat.lt_of_lt_of_le Eq36.lt (Nat.le_of_eq g39.symm))
  have K39 : Keep h0 h39 [] := KK37.ext E39
  have Fn39_sequence : Fld Z h39 b39 "com/example/tagwire/tagwire/protocols/mti/MtiPacket$InventoryResponse" "sequence" "I" (.int (0 : Int32)) := D39 (Or.inr (hw _ (List.mem_of_getElem? (i := 43) rfl))) (ty := .int) (by decide)
  have Fn39_milliseconds : Fld Z h39 b39 "com/example/tagwire/tagwire/protocols/mti/MtiPacket$InventoryResponse" "milliseconds" "J" (.long (0 : Int64)) := D39 (Or.inr (hw _ (List.mem_of_getElem? (i := 45) rfl))) (ty := .long) (by decide)
  have Fn39_antenna : Fld Z h39 b39 "com/example/tagwire/tagwire/protocols/mti/MtiPacket$InventoryResponse" "antenna" "I" (.int (0 : Int32)) := D39 (Or.inr (hw _ (List.mem_of_getElem? (i := 47) rfl))) (ty := .int) (by decide)
  have Fn39_rssiTenths : Fld Z h39 b39 "com/example/tagwire/tagwire/protocols/mti/MtiPacket$InventoryResponse" "rssiTenths" "I" (.int (0 : Int32)) := D39 (Or.inr (hw _ (List.mem_of_getElem? (i := 49) rfl))) (ty := .int) (by decide)
  have Fn39_pc : Fld Z h39 b39 "com/example/tagwire/tagwire/protocols/mti/MtiPacket$InventoryResponse" "pc" "I" (.int (0 : Int32)) := D39 (Or.inr (hw _ (List.mem_of_getElem? (i := 51) rfl))) (ty := .int) (by decide)
  have Fn39_epc : Fld Z h39 b39 "com/example/tagwire/tagwire/protocols/mti/MtiPacket$InventoryResponse" "epc" "Ljava/lang/String;" .null := D39 (Or.inr (hw _ (List.mem_of_getElem? (i := 53) rfl))) (ty := (.object "java/lang/String")) (by decide)
  have Fn39_tagCrcOk : Fld Z h39 b39 "com/example/tagwire/tagwire/protocols/mti/MtiPacket$InventoryResponse" "tagCrcOk" "Z" (.int (0 : Int32)) := D39 (Or.inr (hw _ (List.mem_of_getElem? (i := 55) rfl))) (ty := .boolean) (by decide)
  have Fn39_crcOk : Fld Z h39 b39 "com/example/tagwire/tagwire/protocols/mti/MtiPacket$InventoryResponse" "crcOk" "Z" (.int (0 : Int32)) := D39 (Or.inr (hw _ (List.mem_of_getElem? (i := 57) rfl))) (ty := .boolean) (by decide)
  refine Go.st (T' := T39.setTop (mkF m 75 #[.val (.int p1), .val (.long q2), .second, .val (.int p4), .val (.int p5), .val (.int p6), .val (.int p7), .val (.int t7), .val (.int t8), .val (.ref b30), .val (.ref b33), .unset, .unset] [(.ref b39)])) (fun t k => st39 t k) ?_
  refine Go.st (T' := T39.setTop (mkF m 76 #[.val (.int p1), .val (.long q2), .second, .val (.int p4), .val (.int p5), .val (.int p6), .val (.int p7), .val (.int t7), .val (.int t8), .val (.ref b30), .val (.ref b33), .unset, .unset] [(.ref b39), (.ref b39)])) (fun t k => XS.dup X39.here hx rfl (hb hby at_75) rfl rfl k) ?_
  refine Go.st (T' := T39.setTop (mkF m 77 #[.val (.int p1), .val (.long q2), .second, .val (.int p4), .val (.int p5), .val (.int p6), .val (.int p7), .val (.int t7), .val (.int t8), .val (.ref b30), .val (.ref b33), .unset, .unset] [(.int p1), (.ref b39), (.ref b39)])) (fun t k => XS.iloadN X39.here hx rfl (hb hby at_76) rfl k) ?_
  refine Go.st (T' := T39.setTop (mkF m 78 #[.val (.int p1), .val (.long q2), .second, .val (.int p4), .val (.int p5), .val (.int p6), .val (.int p7), .val (.int t7), .val (.int t8), .val (.ref b30), .val (.ref b33), .unset, .unset] [(.long q2), (.int p1), (.ref b39), (.ref b39)])) (fun t k => XS.lloadN X39.here hx rfl (hb hby at_77) rfl k) ?_
  refine Go.st (T' := T39.setTop (mkF m 79 #[.val (.int p1), .val (.long q2), .second, .val (.int p4), .val (.int p5), .val (.int p6), .val (.int p7), .val (.int t7), .val (.int t8), .val (.ref b30), .val (.ref b33), .unset, .unset] [(.int p4), (.long q2), (.int p1), (.ref b39), (.ref b39)])) (fun t k => XS.iloadN X39.here hx rfl (hb hby at_78) rfl k) ?_
  refine Go.st (T' := T39.setTop (mkF m 81 #[.val (.int p1), .val (.long q2), .second, .val (.int p4), .val (.int p5), .val (.int p6), .val (.int p7), .val (.int t7), .val (.int t8), .val (.ref b30), .val (.ref b33), .unset, .unset] [(.int p5), (.int p4), (.long q2), (.int p1), (.ref b39), (.ref b39)])) (fun t k => XS.iload X39.here hx rfl (hb hby at_79) rfl k) ?_
  refine Go.st (T' := T39.setTop (mkF m 83 #[.val (.int p1), .val (.long q2), .second, .val (.int p4), .val (.int p5), .val (.int p6), .val (.int p7), .val (.int t7), .val (.int t8), .val (.ref b30), .val (.ref b33), .unset, .unset] [(.int p6), (.int p5), (.int p4), (.long q2), (.int p1), (.ref b39), (.ref b39)])) (fun t k => XS.iload X39.here hx rfl (hb hby at_81) rfl k) ?_
  refine Go.st (T' := T39.setTop (mkF m 85 #[.val (.int p1), .val (.long q2), .second, .val (.int p4), .val (.int p5), .val (.int p6), .val (.int p7), .val (.int t7), .val (.int t8), .val (.ref b30), .val (.ref b33), .unset, .unset] [(.ref b33), (.int p6), (.int p5), (.int p4), (.long q2), (.int p1), (.ref b39), (.ref b39)])) (fun t k => XS.aload X39.here hx rfl (hb hby at_83) rfl rfl k) ?_
  refine Go.st (T' := T39.setTop (mkF m 87 #[.val (.int p1), .val (.long q2), .second, .val (.int p4), .val (.int p5), .val (.int p6), .val (.int p7), .val (.int t7), .val (.int t8), .val (.ref b30), .val (.ref b33), .unset, .unset] [(.int t7), (.ref b33), (.int p6), (.int p5), (.int p4), (.long q2), (.int p1), (.ref b39), (.ref b39)])) (fun t k => XS.iload X39.here hx rfl (hb hby at_85) rfl k) ?_
  refine Go.st (T' := T39.setTop (mkF m 89 #[.val (.int p1), .val (.long q2), .second, .val (.int p4), .val (.int p5), .val (.int p6), .val (.int p7), .val (.int t7), .val (.int t8), .val (.ref b30), .val (.ref b33), .unset, .unset] [(.int t8), (.int t7), (.ref b33), (.int p6), (.int p5), (.int p4), (.long q2), (.int p1), (.ref b39), (.ref b39)])) (fun t k => XS.iload X39.here hx rfl (hb hby at_87) rfl k) ?_
  obtain ⟨vr43, _, ⟨T43, L43, k43, n43⟩, -, X43, ⟨Lc43, hQ43, l43, y43, z43⟩, st43⟩ := X39.specialBack hx (y := (⟨"com/example/tagwire/tagwire/protocols/mti/MtiPacket$InventoryResponse", "<init>", "(IJIIILjava/lang/String;ZZ)V"⟩ : MethodName)) rfl hown (mvT hZ (hw _ (List.mem_of_getElem? (i := 33) rfl))) (mvT hZ (hw _ (List.mem_of_getElem? (i := 34) rfl))) (mvT hZ (hw _ (List.mem_of_getElem? (i := 35) rfl))) (by decide) (backOf (W := 1) (rm7 l Z a0 hw b39 p1 q2 p4 p5 p6 b33 t7 t8 h39 n0 (Nat.le_trans Z0 K39.1) A39 g_b39 Fn39_sequence Fn39_milliseconds Fn39_antenna Fn39_rssiTenths Fn39_pc Fn39_epc Fn39_tagCrcOk Fn39_crcOk) hZ (hw _ (List.mem_of_getElem? (i := 35) rfl)) (hw _ (List.mem_of_getElem? (i := 32) rfl)) (by decide) (by decide)) (g := (mkF m 89 #[.val (.int p1), .val (.long q2), .second, .val (.int p4), .val (.int p5), .val (.int p6), .val (.int p7), .val (.int t7), .val (.int t8), .val (.ref b30), .val (.ref b33), .unset, .unset] [(.int t8), (.int t7), (.ref b33), (.int p6), (.int p5), (.int p4), (.long q2), (.int p1), (.ref b39), (.ref b39)])) rfl (by rw [hml]; rfl) (Steps.refl _) (a := b39) (argsL := [(.int p1), (.long q2), (.int p4), (.int p5), (.int p6), (.ref b33), (.int t7), (.int t8)]) (rest := [(.ref b39)]) (lenOf pd_5461af1 rfl) rfl (by show 2 * 0 + _ ≤ _; exact Nat.le_of_eq rfl) (hb hby at_89) (fun _ _ => ⟨rfl, e39, (by decide : 4 + 0 ≤ _), (by decide : 16 + 0 ≤ _)⟩)
  dsimp only [Pt.U, Pt.locs, Pt.cells, Pt.slots] at X43 l43 y43 z43 st43 hQ43
  subst l43 y43 z43
  obtain ⟨rfl, Nq43, Kq43, Eq43, Ft43, Fc43⟩ := hQ43
  have KK44 : Keep h0 T43.heap [] := K39.trans Kq43 (allS (Or.inr sz_b39) all0)
  have NN45 := Fr.app NN38 Nq43
  refine Go.st (T' := T43.setTop (mkF m 92 #[.val (.int p1), .val (.long q2), .second, .val (.int p4), .val (.int p5), .val (.int p6), .val (.int p7), .val (.int t7), .val (.int t8), .val (.ref b30), .val (.ref b33), .unset, .unset] [(.ref b39)])) (fun t k => st43.trans k) ?_
  refine Go.st (T' := T43.setTop (mkF m 94 #[.val (.int p1), .val (.long q2), .second, .val (.int p4), .val (.int p5), .val (.int p6), .val (.int p7), .val (.int t7), .val (.int t8), .val (.ref b30), .val (.ref b33), .val (.ref b39), .unset] [])) (fun t k => XS.astore X43.here hx rfl (hb hby at_92) rfl rfl (l' := #[.val (.int p1), .val (.long q2), .second, .val (.int p4), .val (.int p5), .val (.int p6), .val (.int p7), .val (.int t7), .val (.int t8), .val (.ref b30), .val (.ref b33), .val (.ref b39), .unset]) rfl k) ?_
  refine Go.st (T' := T43.setTop (mkF m 96 #[.val (.int p1), .val (.long q2), .second, .val (.int p4), .val (.int p5), .val (.int p6), .val (.int p7), .val (.int t7), .val (.int t8), .val (.ref b30), .val (.ref b33), .val (.ref b39), .unset] [(.int t7)])) (fun t k => XS.iload X43.here hx rfl (hb hby at_94) rfl k) ?_
  rcases h_t7 with rfl | rfl <;> rcases h_t8 with rfl | rfl
  ·
    refine Go.st (T' := T43.setTop (mkF m 116 #[.val (.int p1), .val (.long q2), .second, .val (.int p4), .val (.int p5), .val (.int p6), .val (.int p7), .val (.int (0 : Int32)), .val (.int (0 : Int32)), .val (.ref b30), .val (.ref b33), .val (.ref b39), .unset] [])) (fun t k => XS.ifYes X43.here hx rfl (pc0 := 96) (pc' := 116) rfl (hb hby at_96) rfl ((if0 _ _).trans (teq (by decide)).1) (by decide) (by decide) k) ?_
    refine Go.st (T' := T43.setTop (mkF m 117 #[.val (.int p1), .val (.long q2), .second, .val (.int p4), .val (.int p5), .val (.int p6), .val (.int p7), .val (.int (0 : Int32)), .val (.int (0 : Int32)), .val (.ref b30), .val (.ref b33), .val (.ref b39), .unset] [(.int (0 : Int32))])) (fun t k => XS.iconst X43.here hx rfl (hb hby at_116) k) ?_
    refine Go.st (T' := T43.setTop (mkF m 119 #[.val (.int p1), .val (.long q2), .second, .val (.int p4), .val (.int p5), .val (.int p6), .val (.int p7), .val (.int (0 : Int32)), .val (.int (0 : Int32)), .val (.ref b30), .val (.ref b33), .val (.ref b39), .val (.int (0 : Int32))] [])) (fun t k => XS.istore X43.here hx rfl (hb hby at_117) rfl (l' := #[.val (.int p1), .val (.long q2), .second, .val (.int p4), .val (.int p5), .val (.int p6), .val (.int p7), .val (.int (0 : Int32)), .val (.int (0 : Int32)), .val (.ref b30), .val (.ref b33), .val (.ref b39), .val (.int (0 : Int32))]) rfl k) ?_
    refine Go.st (T' := T43.setTop (mkF m 121 #[.val (.int p1), .val (.long q2), .second, .val (.int p4), .val (.int p5), .val (.int p6), .val (.int p7), .val (.int (0 : Int32)), .val (.int (0 : Int32)), .val (.ref b30), .val (.ref b33), .val (.ref b39), .val (.int (0 : Int32))] [(.ref b39)])) (fun t k => XS.aload X43.here hx rfl (hb hby at_119) rfl rfl k) ?_
    obtain ⟨cq46, kq46, q46a, q46b, q46c⟩ := isOf hZ rfl Eq43
    obtain ⟨vr46, _, ⟨T46, L46, k46, n46⟩, -, X46, ⟨Lc46, hQ46, l46, y46, z46⟩, st46⟩ := X43.virtualBack hx (y := (⟨"com/example/tagwire/tagwire/protocols/mti/MtiPacket$InventoryResponse", "intact", "()Z"⟩ : MethodName)) (z := (⟨"com/example/tagwire/tagwire/protocols/mti/MtiPacket$InventoryResponse", "intact", "()Z"⟩ : MethodName)) hown (mvT hZ (hw _ (List.mem_of_getElem? (i := 58) rfl))) (mvT hZ (hw _ (List.mem_of_getElem? (i := 59) rfl))) (notFace_of_selects (args := #[]) (mvT hZ (hw _ (List.mem_of_getElem? (i := 61) rfl)))) (mvT hZ (hw _ (List.mem_of_getElem? (i := 61) rfl))) (mvT hZ (hw _ (List.mem_of_getElem? (i := 60) rfl))) (by decide) (backOf (W := 0) (rm9 l Z a0 hw b39 (nar .boolean (0 : Int32)) (nar .boolean (0 : Int32)) T43.heap n0 (Nat.le_trans Z0 KK44.1) Ft43 Fc43) hZ (hw _ (List.mem_of_getElem? (i := 62) rfl)) (hw _ (List.mem_of_getElem? (i := 32) rfl)) (by decide) (by decide)) q46a q46c (g := (mkF m 121 #[.val (.int p1), .val (.long q2), .second, .val (.int p4), .val (.int p5), .val (.int p6), .val (.int p7), .val (.int (0 : Int32)), .val (.int (0 : Int32)), .val (.ref b30), .val (.ref b33), .val (.ref b39), .val (.int (0 : Int32))] [(.ref b39)])) rfl (by rw [hml]; rfl) (Steps.refl _) (argsL := []) (rest := []) (lenOf pd_a8ebd rfl) rfl (by show 2 * 0 + _ ≤ _; exact Nat.le_of_eq rfl) (hb hby at_121) (fun _ _ => ⟨rfl, rfl, (by decide : 4 + 0 ≤ _), (by decide : 16 + 0 ≤ _)⟩)
    dsimp only [Pt.U, Pt.locs, Pt.cells, Pt.slots] at X46 l46 y46 z46 st46 hQ46
    subst l46 y46 z46
    obtain ⟨rfl, Nq46, eq46⟩ := hQ46
    have NN47 := Fr.app NN45 Nq46
    refine Go.st (T' := T46.setTop (mkF m 124 #[.val (.int p1), .val (.long q2), .second, .val (.int p4), .val (.int p5), .val (.int p6), .val (.int p7), .val (.int (0 : Int32)), .val (.int (0 : Int32)), .val (.ref b30), .val (.ref b33), .val (.ref b39), .val (.int (0 : Int32))] [(.int (nar .boolean (own_and (nar .boolean (0 : Int32)) (nar .boolean (0 : Int32)))))])) (fun t k => st46.trans k) ?_
    refine Go.st (T' := T46.setTop (mkF m 126 #[.val (.int p1), .val (.long q2), .second, .val (.int p4), .val (.int p5), .val (.int p6), .val (.int p7), .val (.int (0 : Int32)), .val (.int (0 : Int32)), .val (.ref b30), .val (.ref b33), .val (.ref b39), .val (.int (0 : Int32))] [(.int (0 : Int32)), (.int (nar .boolean (own_and (nar .boolean (0 : Int32)) (nar .boolean (0 : Int32)))))])) (fun t k => XS.iload X46.here hx rfl (hb hby at_124) rfl k) ?_
    refine Go.st (T' := T46.setTop (mkF m 129 #[.val (.int p1), .val (.long q2), .second, .val (.int p4), .val (.int p5), .val (.int p6), .val (.int p7), .val (.int (0 : Int32)), .val (.int (0 : Int32)), .val (.ref b30), .val (.ref b33), .val (.ref b39), .val (.int (0 : Int32))] [])) (fun t k => XS.icmpNo X46.here hx rfl (hb hby at_126) rfl (teq (by decide)).2 k) ?_
    refine Go.st (T' := T46.setTop (mkF m 130 #[.val (.int p1), .val (.long q2), .second, .val (.int p4), .val (.int p5), .val (.int p6), .val (.int p7), .val (.int (0 : Int32)), .val (.int (0 : Int32)), .val (.ref b30), .val (.ref b33), .val (.ref b39), .val (.int (0 : Int32))] [(.int (1 : Int32))])) (fun t k => XS.iconst X46.here hx rfl (hb hby at_129) k) ?_
    refine Go.st (T' := T46.setTop (mkF m 134 #[.val (.int p1), .val (.long q2), .second, .val (.int p4), .val (.int p5), .val (.int p6), .val (.int p7), .val (.int (0 : Int32)), .val (.int (0 : Int32)), .val (.ref b30), .val (.ref b33), .val (.ref b39), .val (.int (0 : Int32))] [(.int (1 : Int32))])) (fun t k => XS.goto X46.here hx rfl (pc0 := 130) (pc' := 134) rfl (hb hby at_130) (by decide) (by decide) k) ?_
    exact Go.done X46 Bd.notSynchronized (v := some (.int (nar .boolean (1 : Int32)))) (fun h => by rw [Bd.returns] at h; cases h) (fun fs hr => retN X46 hx (t := .boolean) Bd.returns (by simp) (hb hby at_134) hr) (by rw [eq46]; exact ⟨rfl, NN47⟩) (by decide) (by decide)
  ·
    refine Go.st (T' := T43.setTop (mkF m 116 #[.val (.int p1), .val (.long q2), .second, .val (.int p4), .val (.int p5), .val (.int p6), .val (.int p7), .val (.int (0 : Int32)), .val (.int (1 : Int32)), .val (.ref b30), .val (.ref b33), .val (.ref b39), .unset] [])) (fun t k => XS.ifYes X43.here hx rfl (pc0 := 96) (pc' := 116) rfl (hb hby at_96) rfl ((if0 _ _).trans (teq (by decide)).1) (by decide) (by decide) k) ?_
    refine Go.st (T' := T43.setTop (mkF m 117 #[.val (.int p1), .val (.long q2), .second, .val (.int p4), .val (.int p5), .val (.int p6), .val (.int p7), .val (.int (0 : Int32)), .val (.int (1 : Int32)), .val (.ref b30), .val (.ref b33), .val (.ref b39), .unset] [(.int (0 : Int32))])) (fun t k => XS.iconst X43.here hx rfl (hb hby at_116) k) ?_
    refine Go.st (T' := T43.setTop (mkF m 119 #[.val (.int p1), .val (.long q2), .second, .val (.int p4), .val (.int p5), .val (.int p6), .val (.int p7), .val (.int (0 : Int32)), .val (.int (1 : Int32)), .val (.ref b30), .val (.ref b33), .val (.ref b39), .val (.int (0 : Int32))] [])) (fun t k => XS.istore X43.here hx rfl (hb hby at_117) rfl (l' := #[.val (.int p1), .val (.long q2), .second, .val (.int p4), .val (.int p5), .val (.int p6), .val (.int p7), .val (.int (0 : Int32)), .val (.int (1 : Int32)), .val (.ref b30), .val (.ref b33), .val (.ref b39), .val (.int (0 : Int32))]) rfl k) ?_
    refine Go.st (T' := T43.setTop (mkF m 121 #[.val (.int p1), .val (.long q2), .second, .val (.int p4), .val (.int p5), .val (.int p6), .val (.int p7), .val (.int (0 : Int32)), .val (.int (1 : Int32)), .val (.ref b30), .val (.ref b33), .val (.ref b39), .val (.int (0 : Int32))] [(.ref b39)])) (fun t k => XS.aload X43.here hx rfl (hb hby at_119) rfl rfl k) ?_
    obtain ⟨cq48, kq48, q48a, q48b, q48c⟩ := isOf hZ rfl Eq43
    obtain ⟨vr48, _, ⟨T48, L48, k48, n48⟩, -, X48, ⟨Lc48, hQ48, l48, y48, z48⟩, st48⟩ := X43.virtualBack hx (y := (⟨"com/example/tagwire/tagwire/protocols/mti/MtiPacket$InventoryResponse", "intact", "()Z"⟩ : MethodName)) (z := (⟨"com/example/tagwire/tagwire/protocols/mti/MtiPacket$InventoryResponse", "intact", "()Z"⟩ : MethodName)) hown (mvT hZ (hw _ (List.mem_of_getElem? (i := 58) rfl))) (mvT hZ (hw _ (List.mem_of_getElem? (i := 59) rfl))) (notFace_of_selects (args := #[]) (mvT hZ (hw _ (List.mem_of_getElem? (i := 61) rfl)))) (mvT hZ (hw _ (List.mem_of_getElem? (i := 61) rfl))) (mvT hZ (hw _ (List.mem_of_getElem? (i := 60) rfl))) (by decide) (backOf (W := 0) (rm9 l Z a0 hw b39 (nar .boolean (0 : Int32)) (nar .boolean (1 : Int32)) T43.heap n0 (Nat.le_trans Z0 KK44.1) Ft43 Fc43) hZ (hw _ (List.mem_of_getElem? (i := 62) rfl)) (hw _ (List.mem_of_getElem? (i := 32) rfl)) (by decide) (by decide)) q48a q48c (g := (mkF m 121 #[.val (.int p1), .val (.long q2), .second, .val (.int p4), .val (.int p5), .val (.int p6), .val (.int p7), .val (.int (0 : Int32)), .val (.int (1 : Int32)), .val (.ref b30), .val (.ref b33), .val (.ref b39), .val (.int (0 : Int32))] [(.ref b39)])) rfl (by rw [hml]; rfl) (Steps.refl _) (argsL := []) (rest := []) (lenOf pd_a8ebd rfl) rfl (by show 2 * 0 + _ ≤ _; exact Nat.le_of_eq rfl) (hb hby at_121) (fun _ _ => ⟨rfl, rfl, (by decide : 4 + 0 ≤ _), (by decide : 16 + 0 ≤ _)⟩)
    dsimp only [Pt.U, Pt.locs, Pt.cells, Pt.slots] at X48 l48 y48 z48 st48 hQ48
    subst l48 y48 z48
    obtain ⟨rfl, Nq48, eq48⟩ := hQ48
    have NN49 := Fr.app NN45 Nq48
    refine Go.st (T' := T48.setTop (mkF m 124 #[.val (.int p1), .val (.long q2), .second, .val (.int p4), .val (.int p5), .val (.int p6), .val (.int p7), .val (.int (0 : Int32)), .val (.int (1 : Int32)), .val (.ref b30), .val (.ref b33), .val (.ref b39), .val (.int (0 : Int32))] [(.int (nar .boolean (own_and (nar .boolean (0 : Int32)) (nar .boolean (1 : Int32)))))])) (fun t k => st48.trans k) ?_
    refine Go.st (T' := T48.setTop (mkF m 126 #[.val (.int p1), .val (.long q2), .second, .val (.int p4), .val (.int p5), .val (.int p6), .val (.int p7), .val (.int (0 : Int32)), .val (.int (1 : Int32)), .val (.ref b30), .val (.ref b33), .val (.ref b39), .val (.int (0 : Int32))] [(.int (0 : Int32)), (.int (nar .boolean (own_and (nar .boolean (0 : Int32)) (nar .boolean (1 : Int32)))))])) (fun t k => XS.iload X48.here hx rfl (hb hby at_124) rfl k) ?_
    refine Go.st (T' := T48.setTop (mkF m 129 #[.val (.int p1), .val (.long q2), .second, .val (.int p4), .val (.int p5), .val (.int p6), .val (.int p7), .val (.int (0 : Int32)), .val (.int (1 : Int32)), .val (.ref b30), .val (.ref b33), .val (.ref b39), .val (.int (0 : Int32))] [])) (fun t k => XS.icmpNo X48.here hx rfl (hb hby at_126) rfl (teq (by decide)).2 k) ?_
    refine Go.st (T' := T48.setTop (mkF m 130 #[.val (.int p1), .val (.long q2), .second, .val (.int p4), .val (.int p5), .val (.int p6), .val (.int p7), .val (.int (0 : Int32)), .val (.int (1 : Int32)), .val (.ref b30), .val (.ref b33), .val (.ref b39), .val (.int (0 : Int32))] [(.int (1 : Int32))])) (fun t k => XS.iconst X48.here hx rfl (hb hby at_129) k) ?_
    refine Go.st (T' := T48.setTop (mkF m 134 #[.val (.int p1), .val (.long q2), .second, .val (.int p4), .val (.int p5), .val (.int p6), .val (.int p7), .val (.int (0 : Int32)), .val (.int (1 : Int32)), .val (.ref b30), .val (.ref b33), .val (.ref b39), .val (.int (0 : Int32))] [(.int (1 : Int32))])) (fun t k => XS.goto X48.here hx rfl (pc0 := 130) (pc' := 134) rfl (hb hby at_130) (by decide) (by decide) k) ?_
    exact Go.done X48 Bd.notSynchronized (v := some (.int (nar .boolean (1 : Int32)))) (fun h => by rw [Bd.returns] at h; cases h) (fun fs hr => retN X48 hx (t := .boolean) Bd.returns (by simp) (hb hby at_134) hr) (by rw [eq48]; exact ⟨rfl, NN49⟩) (by decide) (by decide)
  ·
    refine Go.st (T' := T43.setTop (mkF m 99 #[.val (.int p1), .val (.long q2), .second, .val (.int p4), .val (.int p5), .val (.int p6), .val (.int p7), .val (.int (1 : Int32)), .val (.int (0 : Int32)), .val (.ref b30), .val (.ref b33), .val (.ref b39), .unset] [])) (fun t k => XS.ifNo X43.here hx rfl (hb hby at_96) rfl ((if0 _ _).trans (feq (by decide)).1) k) ?_
    refine Go.st (T' := T43.setTop (mkF m 101 #[.val (.int p1), .val (.long q2), .second, .val (.int p4), .val (.int p5), .val (.int p6), .val (.int p7), .val (.int (1 : Int32)), .val (.int (0 : Int32)), .val (.ref b30), .val (.ref b33), .val (.ref b39), .unset] [(.int (0 : Int32))])) (fun t k => XS.iload X43.here hx rfl (hb hby at_99) rfl k) ?_
    refine Go.st (T' := T43.setTop (mkF m 110 #[.val (.int p1), .val (.long q2), .second, .val (.int p4), .val (.int p5), .val (.int p6), .val (.int p7), .val (.int (1 : Int32)), .val (.int (0 : Int32)), .val (.ref b30), .val (.ref b33), .val (.ref b39), .unset] [])) (fun t k => XS.ifYes X43.here hx rfl (pc0 := 101) (pc' := 110) rfl (hb hby at_101) rfl ((if0 _ _).trans (teq (by decide)).1) (by decide) (by decide) k) ?_
    refine Go.st (T' := T43.setTop (mkF m 111 #[.val (.int p1), .val (.long q2), .second, .val (.int p4), .val (.int p5), .val (.int p6), .val (.int p7), .val (.int (1 : Int32)), .val (.int (0 : Int32)), .val (.ref b30), .val (.ref b33), .val (.ref b39), .unset] [(.int (0 : Int32))])) (fun t k => XS.iconst X43.here hx rfl (hb hby at_110) k) ?_
    refine Go.st (T' := T43.setTop (mkF m 113 #[.val (.int p1), .val (.long q2), .second, .val (.int p4), .val (.int p5), .val (.int p6), .val (.int p7), .val (.int (1 : Int32)), .val (.int (0 : Int32)), .val (.ref b30), .val (.ref b33), .val (.ref b39), .val (.int (0 : Int32))] [])) (fun t k => XS.istore X43.here hx rfl (hb hby at_111) rfl (l' := #[.val (.int p1), .val (.long q2), .second, .val (.int p4), .val (.int p5), .val (.int p6), .val (.int p7), .val (.int (1 : Int32)), .val (.int (0 : Int32)), .val (.ref b30), .val (.ref b33), .val (.ref b39), .val (.int (0 : Int32))]) rfl k) ?_
    refine Go.st (T' := T43.setTop (mkF m 119 #[.val (.int p1), .val (.long q2), .second, .val (.int p4), .val (.int p5), .val (.int p6), .val (.int p7), .val (.int (1 : Int32)), .val (.int (0 : Int32)), .val (.ref b30), .val (.ref b33), .val (.ref b39), .val (.int (0 : Int32))] [])) (fun t k => XS.goto X43.here hx rfl (pc0 := 113) (pc' := 119) rfl (hb hby at_113) (by decide) (by decide) k) ?_
    refine Go.st (T' := T43.setTop (mkF m 121 #[.val (.int p1), .val (.long q2), .second, .val (.int p4), .val (.int p5), .val (.int p6), .val (.int p7), .val (.int (1 : Int32)), .val (.int (0 : Int32)), .val (.ref b30), .val (.ref b33), .val (.ref b39), .val (.int (0 : Int32))] [(.ref b39)])) (fun t k => XS.aload X43.here hx rfl (hb hby at_119) rfl rfl k) ?_
    obtain ⟨cq50, kq50, q50a, q50b, q50c⟩ := isOf hZ rfl Eq43
    obtain ⟨vr50, _, ⟨T50, L50, k50, n50⟩, -, X50, ⟨Lc50, hQ50, l50, y50, z50⟩, st50⟩ := X43.virtualBack hx (y := (⟨"com/example/tagwire/tagwire/protocols/mti/MtiPacket$InventoryResponse", "intact", "()Z"⟩ : MethodName)) (z := (⟨"com/example/tagwire/tagwire/protocols/mti/MtiPacket$InventoryResponse", "intact", "()Z"⟩ : MethodName)) hown (mvT hZ (hw _ (List.mem_of_getElem? (i := 58) rfl))) (mvT hZ (hw _ (List.mem_of_getElem? (i := 59) rfl))) (notFace_of_selects (args := #[]) (mvT hZ (hw _ (List.mem_of_getElem? (i := 61) rfl)))) (mvT hZ (hw _ (List.mem_of_getElem? (i := 61) rfl))) (mvT hZ (hw _ (List.mem_of_getElem? (i := 60) rfl))) (by decide) (backOf (W := 0) (rm9 l Z a0 hw b39 (nar .boolean (1 : Int32)) (nar .boolean (0 : Int32)) T43.heap n0 (Nat.le_trans Z0 KK44.1) Ft43 Fc43) hZ (hw _ (List.mem_of_getElem? (i := 62) rfl)) (hw _ (List.mem_of_getElem? (i := 32) rfl)) (by decide) (by decide)) q50a q50c (g := (mkF m 121 #[.val (.int p1), .val (.long q2), .second, .val (.int p4), .val (.int p5), .val (.int p6), .val (.int p7), .val (.int (1 : Int32)), .val (.int (0 : Int32)), .val (.ref b30), .val (.ref b33), .val (.ref b39), .val (.int (0 : Int32))] [(.ref b39)])) rfl (by rw [hml]; rfl) (Steps.refl _) (argsL := []) (rest := []) (lenOf pd_a8ebd rfl) rfl (by show 2 * 0 + _ ≤ _; exact Nat.le_of_eq rfl) (hb hby at_121) (fun _ _ => ⟨rfl, rfl, (by decide : 4 + 0 ≤ _), (by decide : 16 + 0 ≤ _)⟩)
    dsimp only [Pt.U, Pt.locs, Pt.cells, Pt.slots] at X50 l50 y50 z50 st50 hQ50
    subst l50 y50 z50
    obtain ⟨rfl, Nq50, eq50⟩ := hQ50
    have NN51 := Fr.app NN45 Nq50
    refine Go.st (T' := T50.setTop (mkF m 124 #[.val (.int p1), .val (.long q2), .second, .val (.int p4), .val (.int p5), .val (.int p6), .val (.int p7), .val (.int (1 : Int32)), .val (.int (0 : Int32)), .val (.ref b30), .val (.ref b33), .val (.ref b39), .val (.int (0 : Int32))] [(.int (nar .boolean (own_and (nar .boolean (1 : Int32)) (nar .boolean (0 : Int32)))))])) (fun t k => st50.trans k) ?_
    refine Go.st (T' := T50.setTop (mkF m 126 #[.val (.int p1), .val (.long q2), .second, .val (.int p4), .val (.int p5), .val (.int p6), .val (.int p7), .val (.int (1 : Int32)), .val (.int (0 : Int32)), .val (.ref b30), .val (.ref b33), .val (.ref b39), .val (.int (0 : Int32))] [(.int (0 : Int32)), (.int (nar .boolean (own_and (nar .boolean (1 : Int32)) (nar .boolean (0 : Int32)))))])) (fun t k => XS.iload X50.here hx rfl (hb hby at_124) rfl k) ?_
    refine Go.st (T' := T50.setTop (mkF m 129 #[.val (.int p1), .val (.long q2), .second, .val (.int p4), .val (.int p5), .val (.int p6), .val (.int p7), .val (.int (1 : Int32)), .val (.int (0 : Int32)), .val (.ref b30), .val (.ref b33), .val (.ref b39), .val (.int (0 : Int32))] [])) (fun t k => XS.icmpNo X50.here hx rfl (hb hby at_126) rfl (teq (by decide)).2 k) ?_
    refine Go.st (T' := T50.setTop (mkF m 130 #[.val (.int p1), .val (.long q2), .second, .val (.int p4), .val (.int p5), .val (.int p6), .val (.int p7), .val (.int (1 : Int32)), .val (.int (0 : Int32)), .val (.ref b30), .val (.ref b33), .val (.ref b39), .val (.int (0 : Int32))] [(.int (1 : Int32))])) (fun t k => XS.iconst X50.here hx rfl (hb hby at_129) k) ?_
    refine Go.st (T' := T50.setTop (mkF m 134 #[.val (.int p1), .val (.long q2), .second, .val (.int p4), .val (.int p5), .val (.int p6), .val (.int p7), .val (.int (1 : Int32)), .val (.int (0 : Int32)), .val (.ref b30), .val (.ref b33), .val (.ref b39), .val (.int (0 : Int32))] [(.int (1 : Int32))])) (fun t k => XS.goto X50.here hx rfl (pc0 := 130) (pc' := 134) rfl (hb hby at_130) (by decide) (by decide) k) ?_
    exact Go.done X50 Bd.notSynchronized (v := some (.int (nar .boolean (1 : Int32)))) (fun h => by rw [Bd.returns] at h; cases h) (fun fs hr => retN X50 hx (t := .boolean) Bd.returns (by simp) (hb hby at_134) hr) (by rw [eq50]; exact ⟨rfl, NN51⟩) (by decide) (by decide)
  ·
    refine Go.st (T' := T43.setTop (mkF m 99 #[.val (.int p1), .val (.long q2), .second, .val (.int p4), .val (.int p5), .val (.int p6), .val (.int p7), .val (.int (1 : Int32)), .val (.int (1 : Int32)), .val (.ref b30), .val (.ref b33), .val (.ref b39), .unset] [])) (fun t k => XS.ifNo X43.here hx rfl (hb hby at_96) rfl ((if0 _ _).trans (feq (by decide)).1) k) ?_
    refine Go.st (T' := T43.setTop (mkF m 101 #[.val (.int p1), .val (.long q2), .second, .val (.int p4), .val (.int p5), .val (.int p6), .val (.int p7), .val (.int (1 : Int32)), .val (.int (1 : Int32)), .val (.ref b30), .val (.ref b33), .val (.ref b39), .unset] [(.int (1 : Int32))])) (fun t k => XS.iload X43.here hx rfl (hb hby at_99) rfl k) ?_
    refine Go.st (T' := T43.setTop (mkF m 104 #[.val (.int p1), .val (.long q2), .second, .val (.int p4), .val (.int p5), .val (.int p6), .val (.int p7), .val (.int (1 : Int32)), .val (.int (1 : Int32)), .val (.ref b30), .val (.ref b33), .val (.ref b39), .unset] [])) (fun t k => XS.ifNo X43.here hx rfl (hb hby at_101) rfl ((if0 _ _).trans (feq (by decide)).1) k) ?_
    refine Go.st (T' := T43.setTop (mkF m 105 #[.val (.int p1), .val (.long q2), .second, .val (.int p4), .val (.int p5), .val (.int p6), .val (.int p7), .val (.int (1 : Int32)), .val (.int (1 : Int32)), .val (.ref b30), .val (.ref b33), .val (.ref b39), .unset] [(.int (1 : Int32))])) (fun t k => XS.iconst X43.here hx rfl (hb hby at_104) k) ?_
    refine Go.st (T' := T43.setTop (mkF m 107 #[.val (.int p1), .val (.long q2), .second, .val (.int p4), .val (.int p5), .val (.int p6), .val (.int p7), .val (.int (1 : Int32)), .val (.int (1 : Int32)), .val (.ref b30), .val (.ref b33), .val (.ref b39), .val (.int (1 : Int32))] [])) (fun t k => XS.istore X43.here hx rfl (hb hby at_105) rfl (l' := #[.val (.int p1), .val (.long q2), .second, .val (.int p4), .val (.int p5), .val (.int p6), .val (.int p7), .val (.int (1 : Int32)), .val (.int (1 : Int32)), .val (.ref b30), .val (.ref b33), .val (.ref b39), .val (.int (1 : Int32))]) rfl k) ?_
    refine Go.st (T' := T43.setTop (mkF m 119 #[.val (.int p1), .val (.long q2), .second, .val (.int p4), .val (.int p5), .val (.int p6), .val (.int p7), .val (.int (1 : Int32)), .val (.int (1 : Int32)), .val (.ref b30), .val (.ref b33), .val (.ref b39), .val (.int (1 : Int32))] [])) (fun t k => XS.goto X43.here hx rfl (pc0 := 107) (pc' := 119) rfl (hb hby at_107) (by decide) (by decide) k) ?_
    refine Go.st (T' := T43.setTop (mkF m 121 #[.val (.int p1), .val (.long q2), .second, .val (.int p4), .val (.int p5), .val (.int p6), .val (.int p7), .val (.int (1 : Int32)), .val (.int (1 : Int32)), .val (.ref b30), .val (.ref b33), .val (.ref b39), .val (.int (1 : Int32))] [(.ref b39)])) (fun t k => XS.aload X43.here hx rfl (hb hby at_119) rfl rfl k) ?_
    obtain ⟨cq52, kq52, q52a, q52b, q52c⟩ := isOf hZ rfl Eq43
    obtain ⟨vr52, _, ⟨T52, L52, k52, n52⟩, -, X52, ⟨Lc52, hQ52, l52, y52, z52⟩, st52⟩ := X43.virtualBack hx (y := (⟨"com/example/tagwire/tagwire/protocols/mti/MtiPacket$InventoryResponse", "intact", "()Z"⟩ : MethodName)) (z := (⟨"com/example/tagwire/tagwire/protocols/mti/MtiPacket$InventoryResponse", "intact", "()Z"⟩ : MethodName)) hown (mvT hZ (hw _ (List.mem_of_getElem? (i := 58) rfl))) (mvT hZ (hw _ (List.mem_of_getElem? (i := 59) rfl))) (notFace_of_selects (args := #[]) (mvT hZ (hw _ (List.mem_of_getElem? (i := 61) rfl)))) (mvT hZ (hw _ (List.mem_of_getElem? (i := 61) rfl))) (mvT hZ (hw _ (List.mem_of_getElem? (i := 60) rfl))) (by decide) (backOf (W := 0) (rm9 l Z a0 hw b39 (nar .boolean (1 : Int32)) (nar .boolean (1 : Int32)) T43.heap n0 (Nat.le_trans Z0 KK44.1) Ft43 Fc43) hZ (hw _ (List.mem_of_getElem? (i := 62) rfl)) (hw _ (List.mem_of_getElem? (i := 32) rfl)) (by decide) (by decide)) q52a q52c (g := (mkF m 121 #[.val (.int p1), .val (.long q2), .second, .val (.int p4), .val (.int p5), .val (.int p6), .val (.int p7), .val (.int (1 : Int32)), .val (.int (1 : Int32)), .val (.ref b30), .val (.ref b33), .val (.ref b39), .val (.int (1 : Int32))] [(.ref b39)])) rfl (by rw [hml]; rfl) (Steps.refl _) (argsL := []) (rest := []) (lenOf pd_a8ebd rfl) rfl (by show 2 * 0 + _ ≤ _; exact Nat.le_of_eq rfl) (hb hby at_121) (fun _ _ => ⟨rfl, rfl, (by decide : 4 + 0 ≤ _), (by decide : 16 + 0 ≤ _)⟩)
    dsimp only [Pt.U, Pt.locs, Pt.cells, Pt.slots] at X52 l52 y52 z52 st52 hQ52
    subst l52 y52 z52
    obtain ⟨rfl, Nq52, eq52⟩ := hQ52
    have NN53 := Fr.app NN45 Nq52
    refine Go.st (T' := T52.setTop (mkF m 124 #[.val (.int p1), .val (.long q2), .second, .val (.int p4), .val (.int p5), .val (.int p6), .val (.int p7), .val (.int (1 : Int32)), .val (.int (1 : Int32)), .val (.ref b30), .val (.ref b33), .val (.ref b39), .val (.int (1 : Int32))] [(.int (nar .boolean (own_and (nar .boolean (1 : Int32)) (nar .boolean (1 : Int32)))))])) (fun t k => st52.trans k) ?_
    refine Go.st (T' := T52.setTop (mkF m 126 #[.val (.int p1), .val (.long q2), .second, .val (.int p4), .val (.int p5), .val (.int p6), .val (.int p7), .val (.int (1 : Int32)), .val (.int (1 : Int32)), .val (.ref b30), .val (.ref b33), .val (.ref b39), .val (.int (1 : Int32))] [(.int (1 : Int32)), (.int (nar .boolean (own_and (nar .boolean (1 : Int32)) (nar .boolean (1 : Int32)))))])) (fun t k => XS.iload X52.here hx rfl (hb hby at_124) rfl k) ?_
    refine Go.st (T' := T52.setTop (mkF m 129 #[.val (.int p1), .val (.long q2), .second, .val (.int p4), .val (.int p5), .val (.int p6), .val (.int p7), .val (.int (1 : Int32)), .val (.int (1 : Int32)), .val (.ref b30), .val (.ref b33), .val (.ref b39), .val (.int (1 : Int32))] [])) (fun t k => XS.icmpNo X52.here hx rfl (hb hby at_126) rfl (teq (by decide)).2 k) ?_
    refine Go.st (T' := T52.setTop (mkF m 130 #[.val (.int p1), .val (.long q2), .second, .val (.int p4), .val (.int p5), .val (.int p6), .val (.int p7), .val (.int (1 : Int32)), .val (.int (1 : Int32)), .val (.ref b30), .val (.ref b33), .val (.ref b39), .val (.int (1 : Int32))] [(.int (1 : Int32))])) (fun t k => XS.iconst X52.here hx rfl (hb hby at_129) k) ?_
    refine Go.st (T' := T52.setTop (mkF m 134 #[.val (.int p1), .val (.long q2), .second, .val (.int p4), .val (.int p5), .val (.int p6), .val (.int p7), .val (.int (1 : Int32)), .val (.int (1 : Int32)), .val (.ref b30), .val (.ref b33), .val (.ref b39), .val (.int (1 : Int32))] [(.int (1 : Int32))])) (fun t k => XS.goto X52.here hx rfl (pc0 := 130) (pc' := 134) rfl (hb hby at_130) (by decide) (by decide) k) ?_
    exact Go.done X52 Bd.notSynchronized (v := some (.int (nar .boolean (1 : Int32)))) (fun h => by rw [Bd.returns] at h; cases h) (fun fs hr => retN X52 hx (t := .boolean) Bd.returns (by simp) (hb hby at_134) hr) (by rw [eq52]; exact ⟨rfl, NN53⟩) (by decide) (by decide)
set_option maxRecDepth 65536 in
set_option maxHeartbeats 40000000 in
theorem comes_1 {Post : Tables → Env → Array Value → State → Outcome → State → Prop} (hpost : ∀ tb e args s v u, (limb_1_1.after args s (.returned v) u = true ∧ limb_1_2.after args s (.returned v) u = true ∧ True) → FrameEnd s (.returned v) u (Jvm.fieldLocs frame_1_writes args s ++ Jvm.arrayLocs frame_1_arrays args s ++ Jvm.staticLocs frame_1_statics s) 16 128 → Post tb e args s (.returned v) u) :
    ArmFor flags0 classFile x code maxLocals ret World_1 tables_1 room_1 Calls_1 rest_1 Pre_1 Post := by
  intro l hfl _ _ p e ha hc hk s m args below hf hA hF happ hP
  obtain ⟨hcalls, hrest, hpre⟩ := hP
  obtain ⟨-, -, -, hnamed, -, -, -, hat⟩ := (Spec.applies_iff hf).mp happ
  obtain ⟨hg, hn⟩ := and_e (Cond.before_iff.mp (show (Jvm.Cond.and given_1 narrow_1).before args s = true from hpre))
  obtain ⟨gc, gr0⟩ := and_e hg
  obtain ⟨ga0, gr1⟩ := and_e gr0
  obtain ⟨ga1, gr2⟩ := and_e gr1
  obtain ⟨ga2, gr3⟩ := and_e gr2
  obtain ⟨ga3, gr4⟩ := and_e gr3
  obtain ⟨ga4, gr5⟩ := and_e gr4
  obtain ⟨w0, w1, w2, w3, w4, w5, rfl⟩ : ∃ w0 w1 w2 w3 w4 w5 : Value, args = #[w0, w1, w2, w3, w4, w5] := by
    have hs : args.size = 6 := by simpa [Cond.value, given_1] using gc
    obtain ⟨L⟩ := args
    match L, hs with
    | [w0, w1, w2, w3, w4, w5], _ => exact ⟨w0, w1, w2, w3, w4, w5, rfl⟩
  have hw := fun d (hd : d ∈ tables_1) => atoms_spec (ws := Jvm.Cond.code x code maxLocals ret :: tables_1) hat d (List.mem_cons_of_mem _ hd)
  have hfit : Fit s := fun {y c} hc i hi => by
    obtain ⟨ha, rfl⟩ := Array.getElem?_eq_some_iff.mp hc
    have q := List.all_eq_true.mp ((Array.all_eq_true_iff_forall_mem.mp hF) _ (Array.getElem_mem ha)) i (List.mem_range.mpr hi)
    simpa [Array.getElem?_eq_getElem hi] using q
  obtain ⟨i0, ei0⟩ := is_v ga0
  obtain rfl : w0 = (.int i0) := Option.some.inj ei0
  obtain ⟨i1, ei1⟩ := isL_v ga1
  obtain rfl : w1 = (.long i1) := Option.some.inj ei1
  obtain ⟨i2, ei2⟩ := is_v ga2
  obtain rfl : w2 = (.int i2) := Option.some.inj ei2
  obtain ⟨i3, ei3⟩ := is_v ga3
  obtain rfl : w3 = (.int i3) := Option.some.inj ei3
  obtain ⟨i4, ei4⟩ := is_v ga4
  obtain rfl : w4 = (.int i4) := Option.some.inj ei4
  obtain ⟨i5, ei5⟩ := is_v gr5
  obtain rfl : w5 = (.int i5) := Option.some.inj ei5
  obtain ⟨hsets, hown0⟩ := atoms_of _ (rest_1_c_eq ▸ (show rest_1_c.before _ s = true from hrest))
  have n5 := not_v (Cond.before_iff.mp (hsets _ (List.mem_of_getElem? (i := 2) rfl)))
  obtain ⟨iC, eC⟩ := is_v (Cond.before_iff.mp (hsets _ (List.mem_of_getElem? (i := 1) rfl)))
  have SC : Sta s s.heap "java/lang/String" "COMPACT_STRINGS" "Z" (.int iC) := Sta.start eC (Or.inl (hsets _ (List.mem_of_getElem? (i := 0) rfl)))
  have cC : ¬ (iC = (0 : Int32)) := gotF (Cond.eq_ints eC (Term.int_eval (0))) n5
  obtain ⟨n, o, h1, h2, h3, _, L, rfl, ⟨rfl, N⟩, hq⟩ := rm0 l s _ hw tables_1 i0 i1 i2 i3 i4 i5 s.heap s.heap.size (Nat.le_refl _) iC SC cC (Old.start s) p e ha hc hk s m _ below hf ((Spec.applies_iff_loose hf).mp happ).1 ⟨rfl, State.Warmed39.refl s, rfl⟩ trivial
  refine ⟨n, _, h1, h2, h3, hpost _ _ _ _ _ _ ⟨Cond.after_iff.mpr rfl, Cond.after_iff.mpr (eq_i res_at (Term.int_eval (1)) rfl), trivial⟩ ⟨hq.1, hq.2.1, (hq.2.2.sift fun y hy => Or.inr (N y hy)).mono (by decide) (by decide)⟩⟩
theorem main_1_1 : Claimed_1_1 := comes_1 fun _ _ _ _ _ _ h hF => ⟨h.1, hF⟩
theorem main_1_2 : Claimed_1_2 := comes_1 fun _ _ _ _ _ _ h hF => ⟨h.2.1, hF⟩
end Jvm.Pilot.@@N@@
namespace Jvm.Pilot.@@N@@
open Jvm Jvm.ClassFile Sem Op Lib Jvm.Free Jvm.Stand Jvm.Pilot.@@N@@.Jvm.D
/-! MADE BY PROGRAM (witnessworld.py) out of the Statement's table words and the real class files: 23 classes; the members and pool entries that the words name. The judged class is class 1, her method 1. -/
namespace start1
open Jvm.ClassFile
def u (s : String) : CpInfo := .utf8 (stringToUtf16 s)
/-- a pool by its gaps: so many unusable entries, then the entry; so many at the end -/
def gap : Nat → List CpInfo → List CpInfo
  | 0, r => r
  | n + 1, r => .unusable :: gap n r
def poolList (es : List (Nat × CpInfo)) (last : Nat) : List CpInfo := es.foldr (fun e r => gap e.1 (e.2 :: r)) (gap last [])
def pool (es : List (Nat × CpInfo)) (last : Nat) : Array CpInfo := ⟨poolList es last⟩
def fileOf (pool : Array CpInfo) (this : Nat) (attrs : Array Attribute := #[]) (ms : Array MethodInfo := #[]) (fl : Nat := 33) (sup : Nat := 0) (ifs : Array Nat := #[]) (fds : Array FieldInfo := #[]) : ClassFile where
  minorVersion := 0
  majorVersion := 65
  constantPool := pool
  accessFlags := fl
  thisClass := this
  superClass := sup
  interfaces := ifs
  fields := fds
  methods := ms
  attributes := attrs
def plain (name : String) (sup : Option ClassId) : Class where
  name := name
  kind := .ordinary
  loader := none
  accessFlags := 33
  super := sup
  interfaces := #[]
  cf := none
  fields := #[]
  methods := #[]
  instanceTypes := #[]
  staticTypes := #[]
  resolved := #[]
  callSites := []
  init := .initialized
  statics := none
  mirror := none

def pool0 : Array CpInfo := pool [(5, u "<init>"), (0, u "()V"), (1, .class_ 10), (1, u "java/lang/Object")] 113

def k0c0 : Code := { maxStack := 0, maxLocals := 1, code := object_method_1_code, exceptionTable := #[], attributes := #[] }
def k0m0 : Method := { name := "<init>", desc := "()V", sig := { parameters := [], returnType := none }, accessFlags := 1, code := some k0c0 }
/-- java/lang/Object -/
def k0 : Class := { plain "java/lang/Object" none with
  accessFlags := 33
  interfaces := #[]
  cf := some (fileOf pool0 8 #[] #[{ accessFlags := 1, nameIndex := 5, descriptorIndex := 6, attributes := #[] }] 33 0 #[] #[])
  fields := #[]
  methods := #[k0m0]
  instanceTypes := #[]
  staticTypes := #[]
  resolved := Array.replicate 124 none
  statics := none }

def pool1 : Array CpInfo := pool [(2, .class_ 4), (1, u "java/lang/Object"), (0, u "<init>"), (0, u "()V"), (0, .class_ 8), (0, u "java/lang/String"), (0, .methodref 7 10), (0, .nameAndType 5 11), (0, u "([C)V"), (0, .class_ 13), (0, u "com/example/tagwire/tagwire/protocols/mti/MtiPacket$InventoryResponse"), (0, .methodref 12 15), (0, .nameAndType 5 16), (0, u "(IJIIILjava/lang/String;ZZ)V"), (0, .methodref 12 18), (0, .nameAndType 19 20), (0, u "intact"), (0, u "()Z"), (0, .class_ 22), (0, u "com/example/tagwire/tagwire/protocols/mti/InventoryResponseIntactPinLaw"), (2, u "law"), (0, u "(IJIIII)Z")] 9

def k1m0 : Method := { name := "<init>", desc := "()V", sig := { parameters := [], returnType := none }, accessFlags := 2, code := none }
def k1c1 : Code := { maxStack := 11, maxLocals := 13, code := code, exceptionTable := #[], attributes := #[] }
def k1m1 : Method := { name := "law", desc := "(IJIIII)Z", sig := { parameters := [.int, .long, .int, .int, .int, .int], returnType := some .boolean }, accessFlags := 9, code := some k1c1 }
/-- com/example/tagwire/tagwire/protocols/mti/InventoryResponseIntactPinLaw -/
def k1 : Class := { plain "com/example/tagwire/tagwire/protocols/mti/InventoryResponseIntactPinLaw" (some 0) with
  accessFlags := 49
  interfaces := #[]
  cf := some (fileOf pool1 21 #[] #[{ accessFlags := 2, nameIndex := 5, descriptorIndex := 6, attributes := #[] }, { accessFlags := 9, nameIndex := 25, descriptorIndex := 26, attributes := #[] }] 49 2 #[] #[])
  fields := #[]
  methods := #[k1m0, k1m1]
  instanceTypes := #[]
  staticTypes := #[]
  resolved := Array.replicate 36 none
  statics := none }

def pool2 : Array CpInfo := pool [(1, .class_ 2), (0, u "java/io/Serializable"), (0, .class_ 4), (0, u "java/lang/Object")] 2

/-- java/io/Serializable -/
def k2 : Class := { plain "java/io/Serializable" (some 0) with
  accessFlags := 1537
  interfaces := #[]
  cf := some (fileOf pool2 1 #[] #[] 1537 3 #[] #[])
  fields := #[]
  methods := #[]
  instanceTypes := #[]
  staticTypes := #[]
  resolved := Array.replicate 7 none
  statics := none }

def pool3 : Array CpInfo := pool [(1, .class_ 2), (0, u "java/lang/Comparable"), (0, .class_ 4), (0, u "java/lang/Object")] 7

/-- java/lang/Comparable -/
def k3 : Class := { plain "java/lang/Comparable" (some 0) with
  accessFlags := 1537
  interfaces := #[]
  cf := some (fileOf pool3 1 #[] #[] 1537 3 #[] #[])
  fields := #[]
  methods := #[]
  instanceTypes := #[]
  staticTypes := #[]
  resolved := Array.replicate 12 none
  statics := none }

def pool4 : Array CpInfo := pool [(2, .class_ 4), (1, u "java/lang/CharSequence"), (42, .class_ 48), (0, u "java/lang/CharSequence$1CodePointIterator"), (10, .class_ 60), (0, u "java/lang/CharSequence$1CharIterator"), (5, .class_ 67), (0, u "java/lang/Object")] 63

/-- java/lang/CharSequence -/
def k4 : Class := { plain "java/lang/CharSequence" (some 0) with
  accessFlags := 1537
  interfaces := #[]
  cf := some (fileOf pool4 2 #[.nestMembers #[47, 59]] #[] 1537 66 #[] #[])
  fields := #[]
  methods := #[]
  instanceTypes := #[]
  staticTypes := #[]
  resolved := Array.replicate 131 none
  statics := none }

def pool5 : Array CpInfo := pool [(1, .class_ 2), (0, u "java/lang/constant/Constable"), (0, .class_ 4), (0, u "java/lang/Object")] 6

/-- java/lang/constant/Constable -/
def k5 : Class := { plain "java/lang/constant/Constable" (some 0) with
  accessFlags := 1537
  interfaces := #[]
  cf := some (fileOf pool5 1 #[] #[] 1537 3 #[] #[])
  fields := #[]
  methods := #[]
  instanceTypes := #[]
  staticTypes := #[]
  resolved := Array.replicate 11 none
  statics := none }

def pool6 : Array CpInfo := pool [(1, .class_ 2), (0, u "java/lang/constant/ConstantDesc"), (0, .class_ 4), (0, u "java/lang/Object")] 32

/-- java/lang/constant/ConstantDesc -/
def k6 : Class := { plain "java/lang/constant/ConstantDesc" (some 0) with
  accessFlags := 1537
  interfaces := #[]
  cf := some (fileOf pool6 1 #[] #[] 1537 3 #[] #[])
  fields := #[]
  methods := #[]
  instanceTypes := #[]
  staticTypes := #[]
  resolved := Array.replicate 37 none
  statics := none }

def pool7 : Array CpInfo := pool [(1, .methodref 2 3), (0, .class_ 4), (0, .nameAndType 5 6), (0, u "java/lang/Object"), (0, u "<init>"), (0, u "()V"), (2, .fieldref 10 11), (0, .class_ 12), (0, .nameAndType 13 14), (0, u "java/lang/String"), (0, u "value"), (0, u "[B"), (0, .fieldref 10 16), (0, .nameAndType 17 18), (0, u "coder"), (0, u "B"), (2, u "hash"), (0, u "I"), (2, u "hashIsZero"), (0, u "Z"), (0, .methodref 10 28), (0, .nameAndType 5 29), (0, u "([CIILjava/lang/Void;)V"), (8, .fieldref 10 39), (0, .nameAndType 40 26), (0, u "COMPACT_STRINGS"), (1, .class_ 44), (1, u "java/lang/StringUTF16"), (0, u "compress"), (1, .methodref 42 48), (0, .nameAndType 49 50), (0, u "coderFromArrayLen"), (0, u "([BI)B"), (126, .methodref 42 178), (0, .nameAndType 45 179), (0, u "([CII)[B"), (395, .class_ 576), (0, u "java/lang/CharSequence"), (22, u "CASE_INSENSITIVE_ORDER"), (0, u "Ljava/util/Comparator;"), (409, u "([C)V"), (90, u "serialPersistentFields"), (0, u "[Ljava/io/ObjectStreamField;"), (0, .class_ 1104), (0, u "java/lang/String$CaseInsensitiveComparator"), (1, .class_ 1107), (0, u "java/io/Serializable"), (0, .class_ 1109), (0, u "java/lang/Comparable"), (0, .class_ 1111), (0, u "java/lang/constant/Constable"), (0, .class_ 1113), (0, u "java/lang/constant/ConstantDesc"), (2, u "serialVersionUID"), (0, u "J"), (3, u "REPL"), (0, u "C"), (2, u "LATIN1"), (1, u "UTF16")] 323

def k7m0 : Method := { name := "<init>", desc := "()V", sig := { parameters := [], returnType := none }, accessFlags := 1, code := none }
def k7c1 : Code := { maxStack := 5, maxLocals := 2, code := jdk_42_method_3_code, exceptionTable := #[], attributes := #[] }
def k7m1 : Method := { name := "<init>", desc := "([C)V", sig := { parameters := [(.array .char)], returnType := none }, accessFlags := 1, code := some k7c1 }
def k7c2 : Code := { maxStack := 4, maxLocals := 6, code := jdk_42_method_149_code, exceptionTable := #[], attributes := #[] }
def k7m2 : Method := { name := "<init>", desc := "([CIILjava/lang/Void;)V", sig := { parameters := [(.array .char), .int, .int, (.object "java/lang/Void")], returnType := none }, accessFlags := 2, code := some k7c2 }
/-- java/lang/String -/
def k7 : Class := { plain "java/lang/String" (some 0) with
  accessFlags := 49
  interfaces := #[2, 3, 4, 5, 6]
  cf := some (fileOf pool7 10 #[.nestMembers #[1103]] #[{ accessFlags := 1, nameIndex := 5, descriptorIndex := 6, attributes := #[] }, { accessFlags := 1, nameIndex := 5, descriptorIndex := 1010, attributes := #[] }, { accessFlags := 2, nameIndex := 5, descriptorIndex := 29, attributes := #[] }] 49 2 #[1106, 1108, 575, 1110, 1112] #[{ accessFlags := 18, nameIndex := 13, descriptorIndex := 14, attributes := #[] }, { accessFlags := 18, nameIndex := 17, descriptorIndex := 18, attributes := #[] }, { accessFlags := 2, nameIndex := 21, descriptorIndex := 22, attributes := #[] }, { accessFlags := 2, nameIndex := 25, descriptorIndex := 26, attributes := #[] }, { accessFlags := 26, nameIndex := 1116, descriptorIndex := 1117, attributes := #[] }, { accessFlags := 24, nameIndex := 40, descriptorIndex := 26, attributes := #[] }, { accessFlags := 26, nameIndex := 1101, descriptorIndex := 1102, attributes := #[] }, { accessFlags := 26, nameIndex := 1121, descriptorIndex := 1122, attributes := #[] }, { accessFlags := 25, nameIndex := 599, descriptorIndex := 600, attributes := #[] }, { accessFlags := 24, nameIndex := 1125, descriptorIndex := 18, attributes := #[] }, { accessFlags := 24, nameIndex := 1127, descriptorIndex := 18, attributes := #[] }])
  fields := #[{ name := "value", type := (.array .byte), accessFlags := 18, slot := 0, constantValue := 0 }, { name := "coder", type := .byte, accessFlags := 18, slot := 1, constantValue := 0 }, { name := "hash", type := .int, accessFlags := 2, slot := 2, constantValue := 0 }, { name := "hashIsZero", type := .boolean, accessFlags := 2, slot := 3, constantValue := 0 }, { name := "serialVersionUID", type := .long, accessFlags := 26, slot := 0, constantValue := 0 }, { name := "COMPACT_STRINGS", type := .boolean, accessFlags := 24, slot := 1, constantValue := 0 }, { name := "serialPersistentFields", type := (.array (.object "java/io/ObjectStreamField")), accessFlags := 26, slot := 2, constantValue := 0 }, { name := "REPL", type := .char, accessFlags := 26, slot := 3, constantValue := 0 }, { name := "CASE_INSENSITIVE_ORDER", type := (.object "java/util/Comparator"), accessFlags := 25, slot := 4, constantValue := 0 }, { name := "LATIN1", type := .byte, accessFlags := 24, slot := 5, constantValue := 0 }, { name := "UTF16", type := .byte, accessFlags := 24, slot := 6, constantValue := 0 }]
  methods := #[k7m0, k7m1, k7m2]
  instanceTypes := #[(.array .byte), .byte, .int, .boolean]
  staticTypes := #[.long, .boolean, (.array (.object "java/io/ObjectStreamField")), .char, (.object "java/util/Comparator"), .byte, .byte]
  resolved := Array.replicate 1451 none
  statics := some 0 }

def pool8 : Array CpInfo := pool [(6, .class_ 8), (1, u "java/lang/Object"), (0, u "<init>"), (0, u "()V"), (1, .class_ 14), (1, u "java/lang/StringUTF16"), (31, u "$assertionsDisabled"), (0, u "Z"), (13, u "HI_BYTE_SHIFT"), (0, u "I"), (2, u "LO_BYTE_SHIFT"), (49, .methodref 12 116), (0, .nameAndType 117 118), (0, u "compress"), (0, u "([CI[BII)I"), (3, u "([CII)[B"), (138, u "coderFromArrayLen"), (0, u "([BI)B"), (106, .class_ 371), (1, u "java/lang/StringUTF16$LinesSpliterator"), (58, u "MAX_LENGTH"), (196, .class_ 628), (0, u "java/lang/StringUTF16$CodePointsSpliterator"), (0, .class_ 630), (0, u "java/lang/StringUTF16$CharsSpliterator")] 4

def k8m0 : Method := { name := "<init>", desc := "()V", sig := { parameters := [], returnType := none }, accessFlags := 0, code := none }
def k8c1 : Code := { maxStack := 2, maxLocals := 2, code := jdk_52_method_15_code, exceptionTable := #[], attributes := #[] }
def k8m1 : Method := { name := "coderFromArrayLen", desc := "([BI)B", sig := { parameters := [(.array .byte), .int], returnType := some .byte }, accessFlags := 8, code := some k8c1 }
def k8c2 : Code := { maxStack := 5, maxLocals := 6, code := jdk_52_method_16_code, exceptionTable := #[], attributes := #[] }
def k8m2 : Method := { name := "compress", desc := "([CII)[B", sig := { parameters := [(.array .char), .int, .int], returnType := some (.array .byte) }, accessFlags := 9, code := some k8c2 }
def k8c3 : Code := { maxStack := 3, maxLocals := 7, code := jdk_52_method_21_code, exceptionTable := #[], attributes := #[] }
def k8m3 : Method := { name := "compress", desc := "([CI[BII)I", sig := { parameters := [(.array .char), .int, (.array .byte), .int, .int], returnType := some .int }, accessFlags := 9, code := some k8c3 }
/-- java/lang/StringUTF16 -/
def k8 : Class := { plain "java/lang/StringUTF16" (some 0) with
  accessFlags := 48
  interfaces := #[]
  cf := some (fileOf pool8 12 #[.nestMembers #[627, 629, 369]] #[{ accessFlags := 0, nameIndex := 9, descriptorIndex := 10, attributes := #[] }, { accessFlags := 8, nameIndex := 261, descriptorIndex := 262, attributes := #[] }, { accessFlags := 9, nameIndex := 117, descriptorIndex := 122, attributes := #[] }, { accessFlags := 9, nameIndex := 117, descriptorIndex := 118, attributes := #[] }] 48 6 #[] #[{ accessFlags := 26, nameIndex := 61, descriptorIndex := 62, attributes := #[] }, { accessFlags := 26, nameIndex := 65, descriptorIndex := 62, attributes := #[] }, { accessFlags := 24, nameIndex := 430, descriptorIndex := 62, attributes := #[] }, { accessFlags := 4120, nameIndex := 46, descriptorIndex := 47, attributes := #[] }])
  fields := #[{ name := "HI_BYTE_SHIFT", type := .int, accessFlags := 26, slot := 0, constantValue := 0 }, { name := "LO_BYTE_SHIFT", type := .int, accessFlags := 26, slot := 1, constantValue := 0 }, { name := "MAX_LENGTH", type := .int, accessFlags := 24, slot := 2, constantValue := 0 }, { name := "$assertionsDisabled", type := .boolean, accessFlags := 4120, slot := 3, constantValue := 0 }]
  methods := #[k8m0, k8m1, k8m2, k8m3]
  instanceTypes := #[]
  staticTypes := #[.int, .int, .int, .boolean]
  resolved := Array.replicate 635 none
  statics := none }

def pool9 : Array CpInfo := pool [(1, .methodref 2 3), (0, .class_ 4), (0, .nameAndType 5 6), (0, u "java/lang/Object"), (0, u "<init>"), (0, u "()V"), (0, .class_ 8), (0, u "java/lang/Record")] 13

def k9c0 : Code := { maxStack := 1, maxLocals := 1, code := jdk_30_method_1_code, exceptionTable := #[], attributes := #[] }
def k9m0 : Method := { name := "<init>", desc := "()V", sig := { parameters := [], returnType := none }, accessFlags := 4, code := some k9c0 }
/-- java/lang/Record -/
def k9 : Class := { plain "java/lang/Record" (some 0) with
  accessFlags := 1057
  interfaces := #[]
  cf := some (fileOf pool9 7 #[] #[{ accessFlags := 4, nameIndex := 5, descriptorIndex := 6, attributes := #[] }] 1057 2 #[] #[])
  fields := #[]
  methods := #[k9m0]
  instanceTypes := #[]
  staticTypes := #[]
  resolved := Array.replicate 22 none
  statics := none }

def pool10 : Array CpInfo := pool [(13, .class_ 14), (0, u "com/example/tagwire/tagwire/core/DecodedFrame"), (0, .class_ 16), (0, u "java/lang/Object")] 12

/-- com/example/tagwire/tagwire/core/DecodedFrame -/
def k10 : Class := { plain "com/example/tagwire/tagwire/core/DecodedFrame" (some 0) with
  accessFlags := 1537
  interfaces := #[]
  cf := some (fileOf pool10 13 #[] #[] 1537 15 #[] #[])
  fields := #[]
  methods := #[]
  instanceTypes := #[]
  staticTypes := #[]
  resolved := Array.replicate 29 none
  statics := none }

def pool11 : Array CpInfo := pool [(8, .class_ 10), (1, u "com/example/tagwire/tagwire/protocols/mti/MtiPacket"), (14, .class_ 26), (0, u "java/lang/Object"), (0, .class_ 28), (0, u "com/example/tagwire/tagwire/core/DecodedFrame"), (11, .class_ 41), (0, u "com/example/tagwire/tagwire/protocols/mti/MtiPacket$TagAccess"), (0, .class_ 43), (0, u "com/example/tagwire/tagwire/protocols/mti/MtiPacket$InventoryResponse"), (0, .class_ 45), (0, u "com/example/tagwire/tagwire/protocols/mti/MtiPacket$CommandEnd"), (0, .class_ 47), (0, u "com/example/tagwire/tagwire/protocols/mti/MtiPacket$CommandBegin"), (0, .class_ 49), (0, u "com/example/tagwire/tagwire/protocols/mti/MtiPacket$Response"), (0, .class_ 51), (0, u "com/example/tagwire/tagwire/protocols/mti/MtiPacket$Command")] 8

/-- com/example/tagwire/tagwire/protocols/mti/MtiPacket -/
def k11 : Class := { plain "com/example/tagwire/tagwire/protocols/mti/MtiPacket" (some 0) with
  accessFlags := 1537
  interfaces := #[10]
  cf := some (fileOf pool11 8 #[.nestMembers #[40, 42, 44, 46, 48, 50]] #[] 1537 25 #[27] #[])
  fields := #[]
  methods := #[]
  instanceTypes := #[]
  staticTypes := #[]
  resolved := Array.replicate 60 none
  statics := none }

def pool12 : Array CpInfo := pool [(1, .methodref 2 3), (0, .class_ 4), (0, .nameAndType 5 6), (0, u "java/lang/Record"), (0, u "<init>"), (0, u "()V"), (0, .fieldref 8 9), (0, .class_ 10), (0, .nameAndType 11 12), (0, u "com/example/tagwire/tagwire/protocols/mti/MtiPacket$InventoryResponse"), (0, u "sequence"), (0, u "I"), (0, .fieldref 8 14), (0, .nameAndType 15 16), (0, u "milliseconds"), (0, u "J"), (0, .fieldref 8 18), (0, .nameAndType 19 12), (0, u "antenna"), (0, .fieldref 8 21), (0, .nameAndType 22 12), (0, u "rssiTenths"), (0, .fieldref 8 24), (0, .nameAndType 25 12), (0, u "pc"), (0, .fieldref 8 27), (0, .nameAndType 28 29), (0, u "epc"), (0, u "Ljava/lang/String;"), (0, .fieldref 8 31), (0, .nameAndType 32 33), (0, u "tagCrcOk"), (0, u "Z"), (0, .fieldref 8 35), (0, .nameAndType 36 33), (0, u "crcOk"), (56, .class_ 95), (1, u "com/example/tagwire/tagwire/protocols/mti/MtiPacket"), (14, u "COUNTER_MASK"), (1, u "(IJIIILjava/lang/String;ZZ)V"), (3, u "intact"), (0, u "()Z")] 41

def k12c0 : Code := { maxStack := 3, maxLocals := 10, code := prog_87_method_1_code, exceptionTable := #[], attributes := #[] }
def k12m0 : Method := { name := "<init>", desc := "(IJIIILjava/lang/String;ZZ)V", sig := { parameters := [.int, .long, .int, .int, .int, (.object "java/lang/String"), .boolean, .boolean], returnType := none }, accessFlags := 1, code := some k12c0 }
def k12c1 : Code := { maxStack := 1, maxLocals := 1, code := prog_87_method_2_code, exceptionTable := #[], attributes := #[] }
def k12m1 : Method := { name := "intact", desc := "()Z", sig := { parameters := [], returnType := some .boolean }, accessFlags := 1, code := some k12c1 }
/-- com/example/tagwire/tagwire/protocols/mti/MtiPacket$InventoryResponse -/
def k12 : Class := { plain "com/example/tagwire/tagwire/protocols/mti/MtiPacket$InventoryResponse" (some 9) with
  accessFlags := 49
  interfaces := #[11]
  cf := some (fileOf pool12 8 #[.nestHost 93] #[{ accessFlags := 1, nameIndex := 5, descriptorIndex := 112, attributes := #[] }, { accessFlags := 1, nameIndex := 116, descriptorIndex := 117, attributes := #[] }] 49 2 #[93] #[{ accessFlags := 18, nameIndex := 11, descriptorIndex := 12, attributes := #[] }, { accessFlags := 18, nameIndex := 15, descriptorIndex := 16, attributes := #[] }, { accessFlags := 18, nameIndex := 19, descriptorIndex := 12, attributes := #[] }, { accessFlags := 18, nameIndex := 22, descriptorIndex := 12, attributes := #[] }, { accessFlags := 18, nameIndex := 25, descriptorIndex := 12, attributes := #[] }, { accessFlags := 18, nameIndex := 28, descriptorIndex := 29, attributes := #[] }, { accessFlags := 18, nameIndex := 32, descriptorIndex := 33, attributes := #[] }, { accessFlags := 18, nameIndex := 36, descriptorIndex := 33, attributes := #[] }, { accessFlags := 26, nameIndex := 110, descriptorIndex := 16, attributes := #[] }])
  fields := #[{ name := "sequence", type := .int, accessFlags := 18, slot := 0, constantValue := 0 }, { name := "milliseconds", type := .long, accessFlags := 18, slot := 1, constantValue := 0 }, { name := "antenna", type := .int, accessFlags := 18, slot := 2, constantValue := 0 }, { name := "rssiTenths", type := .int, accessFlags := 18, slot := 3, constantValue := 0 }, { name := "pc", type := .int, accessFlags := 18, slot := 4, constantValue := 0 }, { name := "epc", type := (.object "java/lang/String"), accessFlags := 18, slot := 5, constantValue := 0 }, { name := "tagCrcOk", type := .boolean, accessFlags := 18, slot := 6, constantValue := 0 }, { name := "crcOk", type := .boolean, accessFlags := 18, slot := 7, constantValue := 0 }, { name := "COUNTER_MASK", type := .long, accessFlags := 26, slot := 0, constantValue := 0 }]
  methods := #[k12m0, k12m1]
  instanceTypes := #[.int, .long, .int, .int, .int, (.object "java/lang/String"), .boolean, .boolean]
  staticTypes := #[.long]
  resolved := Array.replicate 159 none
  statics := none }

def pool13 : Array CpInfo := pool [(4, .class_ 6), (1, u "java/lang/Object"), (0, u "<init>"), (0, u "()V"), (5, .class_ 16), (1, u "java/lang/StringLatin1"), (104, u "$assertionsDisabled"), (0, u "Z"), (98, .class_ 223), (1, u "java/lang/StringLatin1$LinesSpliterator"), (166, .class_ 391), (0, u "java/lang/StringLatin1$CharsSpliterator")] 3

def k13m0 : Method := { name := "<init>", desc := "()V", sig := { parameters := [], returnType := none }, accessFlags := 0, code := none }
/-- java/lang/StringLatin1 -/
def k13 : Class := { plain "java/lang/StringLatin1" (some 0) with
  accessFlags := 48
  interfaces := #[]
  cf := some (fileOf pool13 14 #[.nestMembers #[390, 221]] #[{ accessFlags := 0, nameIndex := 7, descriptorIndex := 8, attributes := #[] }] 48 4 #[] #[{ accessFlags := 4120, nameIndex := 121, descriptorIndex := 122, attributes := #[] }])
  fields := #[{ name := "$assertionsDisabled", type := .boolean, accessFlags := 4120, slot := 0, constantValue := 0 }]
  methods := #[k13m0]
  instanceTypes := #[]
  staticTypes := #[.boolean]
  resolved := Array.replicate 395 none
  statics := none }

def pool14 : Array CpInfo := pool [(2, .class_ 4), (1, u "java/lang/Object"), (0, u "<init>"), (0, u "()V"), (17, .class_ 26), (1, u "jdk/internal/util/Preconditions"), (28, .class_ 56), (0, u "jdk/internal/util/Preconditions$4"), (57, .class_ 115), (0, u "jdk/internal/util/Preconditions$1"), (7, u "SIOOBE_FORMATTER"), (0, u "Ljava/util/function/BiFunction;"), (0, .class_ 126), (0, u "jdk/internal/util/Preconditions$2"), (3, u "AIOOBE_FORMATTER"), (0, .class_ 132), (0, u "jdk/internal/util/Preconditions$3"), (3, u "IOOBE_FORMATTER")] 57

def k14m0 : Method := { name := "<init>", desc := "()V", sig := { parameters := [], returnType := none }, accessFlags := 1, code := none }
/-- jdk/internal/util/Preconditions -/
def k14 : Class := { plain "jdk/internal/util/Preconditions" (some 0) with
  accessFlags := 33
  interfaces := #[]
  cf := some (fileOf pool14 24 #[.nestMembers #[55, 131, 125, 114]] #[{ accessFlags := 1, nameIndex := 5, descriptorIndex := 6, attributes := #[] }] 33 2 #[] #[{ accessFlags := 25, nameIndex := 123, descriptorIndex := 124, attributes := #[] }, { accessFlags := 25, nameIndex := 130, descriptorIndex := 124, attributes := #[] }, { accessFlags := 25, nameIndex := 136, descriptorIndex := 124, attributes := #[] }])
  fields := #[{ name := "SIOOBE_FORMATTER", type := (.object "java/util/function/BiFunction"), accessFlags := 25, slot := 0, constantValue := 0 }, { name := "AIOOBE_FORMATTER", type := (.object "java/util/function/BiFunction"), accessFlags := 25, slot := 1, constantValue := 0 }, { name := "IOOBE_FORMATTER", type := (.object "java/util/function/BiFunction"), accessFlags := 25, slot := 2, constantValue := 0 }]
  methods := #[k14m0]
  instanceTypes := #[]
  staticTypes := #[(.object "java/util/function/BiFunction"), (.object "java/util/function/BiFunction"), (.object "java/util/function/BiFunction")]
  resolved := Array.replicate 194 none
  statics := some 1 }

def pool15 : Array CpInfo := pool [(9, u "<init>"), (6, .class_ 18), (1, u "java/lang/Object"), (0, u "()V"), (1, .class_ 23), (1, u "jdk/internal/util/ArraysSupport"), (0, u "LOG2_ARRAY_LONG_INDEX_SCALE"), (0, u "I"), (2, u "U"), (0, u "Ljdk/internal/misc/Unsafe;"), (8, u "BIG_ENDIAN"), (0, u "Z"), (8, u "LOG2_BYTE_BIT_SIZE"), (4, u "LOG2_ARRAY_INT_INDEX_SCALE"), (54, u "JLA"), (0, u "Ljdk/internal/access/JavaLangAccess;"), (11, u "LOG2_ARRAY_BOOLEAN_INDEX_SCALE"), (9, u "LOG2_ARRAY_BYTE_INDEX_SCALE"), (5, u "LOG2_ARRAY_CHAR_INDEX_SCALE"), (5, u "LOG2_ARRAY_SHORT_INDEX_SCALE"), (18, u "LOG2_ARRAY_FLOAT_INDEX_SCALE"), (24, u "LOG2_ARRAY_DOUBLE_INDEX_SCALE"), (89, u "T_BOOLEAN"), (2, u "T_CHAR"), (1, u "T_FLOAT"), (1, u "T_DOUBLE"), (1, u "T_BYTE"), (1, u "T_SHORT"), (1, u "T_INT"), (1, u "T_LONG"), (1, u "SOFT_MAX_ARRAY_LENGTH")] 83

def k15m0 : Method := { name := "<init>", desc := "()V", sig := { parameters := [], returnType := none }, accessFlags := 2, code := none }
/-- jdk/internal/util/ArraysSupport -/
def k15 : Class := { plain "jdk/internal/util/ArraysSupport" (some 0) with
  accessFlags := 33
  interfaces := #[]
  cf := some (fileOf pool15 21 #[] #[{ accessFlags := 2, nameIndex := 9, descriptorIndex := 19, attributes := #[] }] 33 16 #[] #[{ accessFlags := 24, nameIndex := 28, descriptorIndex := 29, attributes := #[] }, { accessFlags := 26, nameIndex := 38, descriptorIndex := 39, attributes := #[] }, { accessFlags := 25, nameIndex := 121, descriptorIndex := 25, attributes := #[] }, { accessFlags := 25, nameIndex := 131, descriptorIndex := 25, attributes := #[] }, { accessFlags := 25, nameIndex := 137, descriptorIndex := 25, attributes := #[] }, { accessFlags := 25, nameIndex := 143, descriptorIndex := 25, attributes := #[] }, { accessFlags := 25, nameIndex := 53, descriptorIndex := 25, attributes := #[] }, { accessFlags := 25, nameIndex := 24, descriptorIndex := 25, attributes := #[] }, { accessFlags := 25, nameIndex := 162, descriptorIndex := 25, attributes := #[] }, { accessFlags := 25, nameIndex := 187, descriptorIndex := 25, attributes := #[] }, { accessFlags := 26, nameIndex := 48, descriptorIndex := 25, attributes := #[] }, { accessFlags := 25, nameIndex := 277, descriptorIndex := 25, attributes := #[] }, { accessFlags := 25, nameIndex := 280, descriptorIndex := 25, attributes := #[] }, { accessFlags := 25, nameIndex := 282, descriptorIndex := 25, attributes := #[] }, { accessFlags := 25, nameIndex := 284, descriptorIndex := 25, attributes := #[] }, { accessFlags := 25, nameIndex := 286, descriptorIndex := 25, attributes := #[] }, { accessFlags := 25, nameIndex := 288, descriptorIndex := 25, attributes := #[] }, { accessFlags := 25, nameIndex := 290, descriptorIndex := 25, attributes := #[] }, { accessFlags := 25, nameIndex := 292, descriptorIndex := 25, attributes := #[] }, { accessFlags := 26, nameIndex := 108, descriptorIndex := 109, attributes := #[] }, { accessFlags := 25, nameIndex := 294, descriptorIndex := 25, attributes := #[] }])
  fields := #[{ name := "U", type := (.object "jdk/internal/misc/Unsafe"), accessFlags := 24, slot := 0, constantValue := 0 }, { name := "BIG_ENDIAN", type := .boolean, accessFlags := 26, slot := 1, constantValue := 0 }, { name := "LOG2_ARRAY_BOOLEAN_INDEX_SCALE", type := .int, accessFlags := 25, slot := 2, constantValue := 0 }, { name := "LOG2_ARRAY_BYTE_INDEX_SCALE", type := .int, accessFlags := 25, slot := 3, constantValue := 0 }, { name := "LOG2_ARRAY_CHAR_INDEX_SCALE", type := .int, accessFlags := 25, slot := 4, constantValue := 0 }, { name := "LOG2_ARRAY_SHORT_INDEX_SCALE", type := .int, accessFlags := 25, slot := 5, constantValue := 0 }, { name := "LOG2_ARRAY_INT_INDEX_SCALE", type := .int, accessFlags := 25, slot := 6, constantValue := 0 }, { name := "LOG2_ARRAY_LONG_INDEX_SCALE", type := .int, accessFlags := 25, slot := 7, constantValue := 0 }, { name := "LOG2_ARRAY_FLOAT_INDEX_SCALE", type := .int, accessFlags := 25, slot := 8, constantValue := 0 }, { name := "LOG2_ARRAY_DOUBLE_INDEX_SCALE", type := .int, accessFlags := 25, slot := 9, constantValue := 0 }, { name := "LOG2_BYTE_BIT_SIZE", type := .int, accessFlags := 26, slot := 10, constantValue := 0 }, { name := "T_BOOLEAN", type := .int, accessFlags := 25, slot := 11, constantValue := 0 }, { name := "T_CHAR", type := .int, accessFlags := 25, slot := 12, constantValue := 0 }, { name := "T_FLOAT", type := .int, accessFlags := 25, slot := 13, constantValue := 0 }, { name := "T_DOUBLE", type := .int, accessFlags := 25, slot := 14, constantValue := 0 }, { name := "T_BYTE", type := .int, accessFlags := 25, slot := 15, constantValue := 0 }, { name := "T_SHORT", type := .int, accessFlags := 25, slot := 16, constantValue := 0 }, { name := "T_INT", type := .int, accessFlags := 25, slot := 17, constantValue := 0 }, { name := "T_LONG", type := .int, accessFlags := 25, slot := 18, constantValue := 0 }, { name := "JLA", type := (.object "jdk/internal/access/JavaLangAccess"), accessFlags := 26, slot := 19, constantValue := 0 }, { name := "SOFT_MAX_ARRAY_LENGTH", type := .int, accessFlags := 25, slot := 20, constantValue := 0 }]
  methods := #[k15m0]
  instanceTypes := #[]
  staticTypes := #[(.object "jdk/internal/misc/Unsafe"), .boolean, .int, .int, .int, .int, .int, .int, .int, .int, .int, .int, .int, .int, .int, .int, .int, .int, .int, (.object "jdk/internal/access/JavaLangAccess"), .int]
  resolved := Array.replicate 378 none
  statics := none }

def pool16 : Array CpInfo := pool [(1, u "java/lang/Cloneable"), (0, .class_ 1), (0, u "java/lang/Object"), (0, .class_ 3)] 3

/-- java/lang/Cloneable -/
def k16 : Class := { plain "java/lang/Cloneable" (some 0) with
  accessFlags := 1537
  interfaces := #[]
  cf := some (fileOf pool16 2 #[] #[] 1537 4 #[] #[])
  fields := #[]
  methods := #[]
  instanceTypes := #[]
  staticTypes := #[]
  resolved := Array.replicate 8 none
  statics := none }

/-- the primitive byte -/
def k17 : Class := { plain "byte" none with kind := .primitive 'B', accessFlags := 0x411 }
/-- [B -/
def k18 : Class := { plain "[B" (some 0) with kind := .array 17 .byte, interfaces := #[16, 2], accessFlags := 1041 }

/-- the primitive char -/
def k19 : Class := { plain "char" none with kind := .primitive 'C', accessFlags := 0x411 }
/-- [C -/
def k20 : Class := { plain "[C" (some 0) with kind := .array 19 .char, interfaces := #[16, 2], accessFlags := 1041 }

/-- the primitive int -/
def k21 : Class := { plain "int" none with kind := .primitive 'I', accessFlags := 0x411 }
/-- [I -/
def k22 : Class := { plain "[I" (some 0) with kind := .array 21 .int, interfaces := #[16, 2], accessFlags := 1041 }

def heap : Heap := #[{ cls := 7, slots := #[.long 0, .int 1, .null, .int 0, .null, .int 0, .int 0], vm := .statics 7 },
  { cls := 14, slots := #[.null, .null, .null], vm := .statics 14 }]
def classes : Array Class := #[k0, k1, k2, k3, k4, k5, k6, k7, k8, k9, k10, k11, k12, k13, k14, k15, k16, k17, k18, k19, k20, k21, k22]
def interned : List (Array UInt16 × Addr) := []
def slotsUsed : Nat := 10
def theMethod : MethodId := ⟨1, 1⟩
def args0 : Array Value := #[.int 5, .long 6, .int 7, .int 8, .int 9, .int 10]
def aboutOver (below : List Frame) : State where
  vm := { classes := classes, interned := interned.toArray }
  heap := heap
  slotsUsed := slotsUsed
  threads := #[{ frames := .invoking theMethod args0 :: below }]
def below0 : List Frame := [.native { method := ⟨0, 0⟩, args := #[] }]
def about1 : State := aboutOver below0
def p0 : Program := .bare "" "" ""
def e0 : Env := launch0.env 0 0 0
theorem w_frames : about1.frames = Frame.invoking theMethod args0 :: below0 := rfl
set_option maxRecDepth 65536 in
theorem w_args : argsFit about1.vm theMethod args0 = true := by decide +kernel
set_option maxRecDepth 65536 in
theorem w_heap : heapFits about1 = true := by decide +kernel
set_option maxRecDepth 65536 in
theorem w_runnable : about1.curStatus? = some .runnable := by decide +kernel
set_option maxRecDepth 65536 in
theorem w_alone : about1.alone = true := by decide +kernel
set_option maxRecDepth 65536 in
theorem w_named : about1.methodNamed? x = some theMethod := by decide +kernel
set_option maxRecDepth 65536 in
theorem w_hears : about1.hears theMethod below0 = true := by decide +kernel
set_option maxRecDepth 65536 in
theorem w_ripe : about1.ripe theMethod args0 below0 = true := by decide +kernel
theorem w_running : about1.status = .running := rfl
set_option maxRecDepth 65536 in
theorem w_room : about1.hasRoom e0.platform room_1 = true :=
  launch0.hasRoom_least _ room_1 (by decide +kernel) (by decide +kernel) (by decide +kernel) (by decide +kernel) (by decide +kernel) (by decide +kernel)
theorem allAtoms_all (ts : List Jvm.Cond) (a : Array Jvm.Value) (st : Jvm.State) : (allAtoms ts).before a st = ts.all (fun c => c.before a st) := by
  induction ts with
  | nil => rfl
  | cons c t ih =>
    show (Jvm.Cond.and c (allAtoms t)).before a st = _
    rw [Jvm.Cond.before_and, ih, List.all_cons]
def words1 : List Jvm.Cond := Jvm.Cond.code x code maxLocals ret :: tables_1
/-- a 'code' word, met by the world's own term for the bytes: nothing is compared byte by byte -/
theorem code_word {y : MethodName} {bytes : ByteArray} {mx : Nat} {rt : Option FieldType} {a : Array Value} {s : State} {m : MethodId} {meth : Method} {c : Code} (h1 : s.methodNamed? y = some m) (h2 : s.vm.method? m = some meth) (h3 : meth.code = some c) (h4 : c.code = bytes)
    (h5 : (c.maxLocals == mx && c.exceptionTable.isEmpty && decide (c.maxStack ≤ mostOperands) && decide (meth.sig.returnType = rt) && !meth.locks && decide (parseMethodDescriptor y.desc = some meth.sig)) = true) : (Jvm.Cond.code y bytes mx rt).before a s = true := by
  simp only [Bool.and_eq_true, beq_iff_eq, Bool.not_eq_true', decide_eq_true_eq] at h5
  obtain ⟨⟨⟨⟨⟨g1, g2⟩, g3⟩, g4⟩, g5⟩, g6⟩ := h5
  simp [Cond.before, Cond.holds, Cond.value, h1, h2, h3, h4, g1, g2, g3, g4, g5, g6]
def isCode : Jvm.Cond → Bool
  | .code _ _ _ _ => true
  | _ => false
theorem all_split {L : List Jvm.Cond} {P : Jvm.Cond → Bool} (h1 : L.all (fun c => isCode c || P c) = true) (h2 : ∀ c ∈ L.filter isCode, P c = true) : L.all P = true := by
  refine List.all_eq_true.mpr fun c hc => ?_
  have h := List.all_eq_true.mp h1 c hc
  rcases Bool.eq_false_or_eq_true (isCode c) with hi | hi
  · exact h2 c (List.mem_filter.mpr ⟨hc, hi⟩)
  · simpa [hi] using h
set_option maxRecDepth 65536 in
theorem w_c0 : (Jvm.Cond.code x code maxLocals ret).before args0 about1 = true := code_word (m := ⟨1, 1⟩) (meth := k1m1) (c := k1c1) (by decide +kernel) rfl rfl rfl (by decide +kernel)
set_option maxRecDepth 65536 in
theorem w_c1 : (Jvm.Cond.code ({ cls := "java/lang/String", name := "<init>", desc := "([C)V" } : Jvm.MethodName) jdk_42_method_3_code (2 : Nat) (Option.none : Option Jvm.ClassFile.FieldType)).before args0 about1 = true := code_word (m := ⟨7, 1⟩) (meth := k7m1) (c := k7c1) (by decide +kernel) rfl rfl rfl (by decide +kernel)
set_option maxRecDepth 65536 in
theorem w_c2 : (Jvm.Cond.code ({ cls := "java/lang/String", name := "<init>", desc := "([CIILjava/lang/Void;)V" } : Jvm.MethodName) jdk_42_method_149_code (6 : Nat) (Option.none : Option Jvm.ClassFile.FieldType)).before args0 about1 = true := code_word (m := ⟨7, 2⟩) (meth := k7m2) (c := k7c2) (by decide +kernel) rfl rfl rfl (by decide +kernel)
set_option maxRecDepth 65536 in
theorem w_c3 : (Jvm.Cond.code ({ cls := "java/lang/Object", name := "<init>", desc := "()V" } : Jvm.MethodName) object_method_1_code (1 : Nat) (Option.none : Option Jvm.ClassFile.FieldType)).before args0 about1 = true := code_word (m := ⟨0, 0⟩) (meth := k0m0) (c := k0c0) (by decide +kernel) rfl rfl rfl (by decide +kernel)
set_option maxRecDepth 65536 in
theorem w_c4 : (Jvm.Cond.code ({ cls := "java/lang/StringUTF16", name := "compress", desc := "([CII)[B" } : Jvm.MethodName) jdk_52_method_16_code (6 : Nat) (Option.some (Jvm.ClassFile.FieldType.array Jvm.ClassFile.FieldType.byte))).before args0 about1 = true := code_word (m := ⟨8, 2⟩) (meth := k8m2) (c := k8c2) (by decide +kernel) rfl rfl rfl (by decide +kernel)
set_option maxRecDepth 65536 in
theorem w_c5 : (Jvm.Cond.code ({ cls := "java/lang/StringUTF16", name := "compress", desc := "([CI[BII)I" } : Jvm.MethodName) jdk_52_method_21_code (7 : Nat) (Option.some Jvm.ClassFile.FieldType.int)).before args0 about1 = true := code_word (m := ⟨8, 3⟩) (meth := k8m3) (c := k8c3) (by decide +kernel) rfl rfl rfl (by decide +kernel)
set_option maxRecDepth 65536 in
theorem w_c6 : (Jvm.Cond.code ({ cls := "java/lang/StringUTF16", name := "coderFromArrayLen", desc := "([BI)B" } : Jvm.MethodName) jdk_52_method_15_code (2 : Nat) (Option.some Jvm.ClassFile.FieldType.byte)).before args0 about1 = true := code_word (m := ⟨8, 1⟩) (meth := k8m1) (c := k8c1) (by decide +kernel) rfl rfl rfl (by decide +kernel)
set_option maxRecDepth 65536 in
theorem w_c7 : (Jvm.Cond.code ({ cls := "com/example/tagwire/tagwire/protocols/mti/MtiPacket$InventoryResponse", name := "<init>", desc := "(IJIIILjava/lang/String;ZZ)V" } : Jvm.MethodName) prog_87_method_1_code (10 : Nat) (Option.none : Option Jvm.ClassFile.FieldType)).before args0 about1 = true := code_word (m := ⟨12, 0⟩) (meth := k12m0) (c := k12c0) (by decide +kernel) rfl rfl rfl (by decide +kernel)
set_option maxRecDepth 65536 in
theorem w_c8 : (Jvm.Cond.code ({ cls := "java/lang/Record", name := "<init>", desc := "()V" } : Jvm.MethodName) jdk_30_method_1_code (1 : Nat) (Option.none : Option Jvm.ClassFile.FieldType)).before args0 about1 = true := code_word (m := ⟨9, 0⟩) (meth := k9m0) (c := k9c0) (by decide +kernel) rfl rfl rfl (by decide +kernel)
set_option maxRecDepth 65536 in
theorem w_c9 : (Jvm.Cond.code ({ cls := "com/example/tagwire/tagwire/protocols/mti/MtiPacket$InventoryResponse", name := "intact", desc := "()Z" } : Jvm.MethodName) prog_87_method_2_code (1 : Nat) (Option.some Jvm.ClassFile.FieldType.boolean)).before args0 about1 = true := code_word (m := ⟨12, 1⟩) (meth := k12m1) (c := k12c1) (by decide +kernel) rfl rfl rfl (by decide +kernel)
def codes1 : List Jvm.Cond := [Jvm.Cond.code x code maxLocals ret, Jvm.Cond.code ({ cls := "java/lang/String", name := "<init>", desc := "([C)V" } : Jvm.MethodName) jdk_42_method_3_code (2 : Nat) (Option.none : Option Jvm.ClassFile.FieldType), Jvm.Cond.code ({ cls := "java/lang/String", name := "<init>", desc := "([CIILjava/lang/Void;)V" } : Jvm.MethodName) jdk_42_method_149_code (6 : Nat) (Option.none : Option Jvm.ClassFile.FieldType), Jvm.Cond.code ({ cls := "java/lang/Object", name := "<init>", desc := "()V" } : Jvm.MethodName) object_method_1_code (1 : Nat) (Option.none : Option Jvm.ClassFile.FieldType), Jvm.Cond.code ({ cls := "java/lang/StringUTF16", name := "compress", desc := "([CII)[B" } : Jvm.MethodName) jdk_52_method_16_code (6 : Nat) (Option.some (Jvm.ClassFile.FieldType.array Jvm.ClassFile.FieldType.byte)), Jvm.Cond.code ({ cls := "java/lang/StringUTF16", name := "compress", desc := "([CI[BII)I" } : Jvm.MethodName) jdk_52_method_21_code (7 : Nat) (Option.some Jvm.ClassFile.FieldType.int), Jvm.Cond.code ({ cls := "java/lang/StringUTF16", name := "coderFromArrayLen", desc := "([BI)B" } : Jvm.MethodName) jdk_52_method_15_code (2 : Nat) (Option.some Jvm.ClassFile.FieldType.byte), Jvm.Cond.code ({ cls := "com/example/tagwire/tagwire/protocols/mti/MtiPacket$InventoryResponse", name := "<init>", desc := "(IJIIILjava/lang/String;ZZ)V" } : Jvm.MethodName) prog_87_method_1_code (10 : Nat) (Option.none : Option Jvm.ClassFile.FieldType), Jvm.Cond.code ({ cls := "java/lang/Record", name := "<init>", desc := "()V" } : Jvm.MethodName) jdk_30_method_1_code (1 : Nat) (Option.none : Option Jvm.ClassFile.FieldType), Jvm.Cond.code ({ cls := "com/example/tagwire/tagwire/protocols/mti/MtiPacket$InventoryResponse", name := "intact", desc := "()Z" } : Jvm.MethodName) prog_87_method_2_code (1 : Nat) (Option.some Jvm.ClassFile.FieldType.boolean)]
set_option maxRecDepth 65536 in
theorem codes_eq : words1.filter isCode = codes1 := rfl
theorem w_codes : ∀ c ∈ words1.filter isCode, c.before args0 about1 = true := by
  rw [codes_eq]
  intro c hc
  simp only [codes1, List.mem_cons, List.not_mem_nil, or_false] at hc
  rcases hc with rfl | rfl | rfl | rfl | rfl | rfl | rfl | rfl | rfl | rfl
  · exact w_c0
  · exact w_c1
  · exact w_c2
  · exact w_c3
  · exact w_c4
  · exact w_c5
  · exact w_c6
  · exact w_c7
  · exact w_c8
  · exact w_c9
set_option maxRecDepth 65536 in
theorem w_t1 : (words1.take 24).all (fun c => isCode c || c.before args0 about1) = true := by decide +kernel
set_option maxRecDepth 65536 in
theorem w_t2 : ((words1.drop 24).take 24).all (fun c => isCode c || c.before args0 about1) = true := by decide +kernel
set_option maxRecDepth 65536 in
theorem w_t3 : ((words1.drop 24).drop 24).all (fun c => isCode c || c.before args0 about1) = true := by decide +kernel
theorem w_tables : (allAtoms (Jvm.Cond.code x code maxLocals ret :: tables_1)).before args0 about1 = true := by
  rw [allAtoms_all]
  show words1.all (fun c => c.before args0 about1) = true
  refine all_split ?_ w_codes
  rw [← List.take_append_drop 24 words1, List.all_append, w_t1, ← List.take_append_drop 24 (words1.drop 24), List.all_append, w_t2, w_t3]
  rfl
set_option maxRecDepth 65536 in
theorem w_rest : rest_1_c.before args0 about1 = true := by decide +kernel
set_option maxRecDepth 65536 in
theorem w_case : (Jvm.Cond.and given_1 narrow_1).before args0 about1 = true := by decide +kernel
theorem w_applies : (headSpec (Jvm.Cond.code x code maxLocals ret :: tables_1) room_1).applies x e0.platform about1 = true :=
  (Spec.applies_iff w_frames).mpr ⟨w_running, w_runnable, w_alone, w_named, w_hears, w_ripe, w_room, w_tables⟩
theorem atStart : AtStart classFile x code maxLocals ret World_1 tables_1 room_1 Calls_1 rest_1 Pre_1 launch0 p0 e0 about1 theMethod args0 below0 :=
  ⟨lists_1, trivial, launch0.admits_env _ _ _, launch0.least_env, fairChoices_fair.cas, fairChoices_fair.clock, w_frames, w_args, w_heap, w_applies, trivial, w_rest, w_case⟩
end start1
theorem witness_1 : WitnessClaimed_1 := ⟨start1.p0, start1.e0, start1.about1, start1.theMethod, start1.args0, start1.below0, start1.atStart⟩
end Jvm.Pilot.@@N@@
