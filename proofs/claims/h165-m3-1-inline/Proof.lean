import JvmDerived
import JvmDerived.Pilot.@@N@@Statement
import JvmDerived.Pilot.@@N@@Code
set_option linter.unusedVariables false
set_option linter.unusedSimpArgs false
namespace Jvm.RoadKit
open Sem ClassFile Op Lib Jvm.Stand Jvm.Free Jvm.LawKit
section New
variable {p : Program} {l : Launch} {e : Env} {R : Room} {s : State} {m : MethodId} {args : Array Value} {below : List Frame} {meth : Method} {c : Code} {T : State} {locs : List Loc} {cells slots : Nat}
theorem retI (X : Stand p l e R s m args below meth c T locs cells slots) (hx : p.tables.exec = Jvm.exec) {pc : Nat} {Ls : Array Slot} {z : Int32} {rest : List Value} (hret : meth.sig.returnType = some .int) (hd : decode c.code pc = .ok (.ireturn, 1)) {fs : List Frame}
    (hl : ∀ (f : JFrame) (acts : List Action), f.method = m → f.locked = none → f.entered = [] → (doReturn e (T.setTop f) acts (some (.int z))).1 = T.setFrames fs) : Steps p.tables e below (T.setTop (mkF m pc Ls (.int z :: rest))) (T.setFrames fs) := by
  have hm' : T.vm.method? m = some meth := X.method'
  have hn : narrow .int (.int z) = .int z := rfl
  show Steps p.tables e below (T.setTop { method := m, pc := pc, locals := Ls, stack := _ :: rest, locked := none }) _
  jvm_step X.here [X.here.top, hx, hd, hm', hret, hn]
  first | (intro acts; rw [hl _ acts rfl rfl rfl]) | rw [hl _ _ rfl rfl rfl]
  exact Steps.refl _
end New
end Jvm.RoadKit
namespace Jvm.RoadKit
open Sem ClassFile Op Lib Bundle Jvm.Stand Jvm.Free Jvm.LawKit Jvm.Free.SB Jvm.Free.SBG
section Goes
variable {p : Program} {l : Launch} {e : Env} {R : Room} {s : State} {m : MethodId} {args : Array Value} {below : List Frame} {meth : Method} {c : Code} {T T' : State} {locs : List Loc} {cells slots k n : Nat} {F : Outcome → State → Prop} {Q : Option Value → Heap → List Loc → Prop}
/-- from T the run comes to an end of which F holds -/
def Go (p : Program) (e : Env) (below : List Frame) (T : State) (F : Outcome → State → Prop) : Prop := ∃ s₂ o, Steps p.tables e below T s₂ ∧ s₂.status = .running ∧ Ended s₂ below o ∧ F o s₂
theorem Go.st (k : ∀ t, Steps p.tables e below T' t → Steps p.tables e below T t) (G : Go p e below T' F) : Go p e below T F := by
  obtain ⟨s2, o, h, r⟩ := G
  exact ⟨s2, o, k _ h, r⟩
theorem Go.top {g g' : JFrame} (q : g = g') (G : Go p e below (T.setTop g') F) : Go p e below (T.setTop g) F := q ▸ G
/-- the end of a body that interns nothing -/
abbrev EndN (s : State) (Q : Option Value → Heap → List Loc → Prop) (cells slots : Nat) : Outcome → State → Prop := fun o U' => ∃ v L, o = .returned v ∧ Q v U'.heap L ∧ FrameEnd s o U' L cells slots
/-- the end of a body that may intern -/
abbrev EndW (s : State) (Q : Option Value → Heap → List Loc → Prop) (cells slots : Nat) : Outcome → State → Prop := fun o U' => ∃ v L, o = .returned v ∧ Q v U'.heap L ∧ ReturnedEndW s o U' L cells slots
theorem Go.done (X : Stand p l e R s m args below meth c T locs k n) (hlocks : meth.locks = false) {v : Option Value} (hv : meth.sig.returnType = none → v = none) {f : JFrame}
    (st : ∀ fs, (∀ (f : JFrame) (acts : List Action), f.method = m → f.locked = none → f.entered = [] → (doReturn e (T.setTop f) acts v).1 = T.setFrames fs) → Steps p.tables e below (T.setTop f) (T.setFrames fs))
    (hQ : Q v T.heap locs) (hk : k ≤ cells) (hn : n ≤ slots) : Go p e below (T.setTop f) (EndN s Q cells slots) := by
  obtain ⟨fs, hr, hrun, hended, hW, hsame⟩ := X.leave (v := v) hv hlocks
  exact ⟨_, _, st fs hr, hrun, hended, v, locs, rfl, hQ, ⟨_, rfl⟩, hW, hsame.mono hk hn⟩
theorem Go.doneW {vm₁ : Vm} (X : Stand p l e R (s.setVm vm₁) m args below meth c T locs k n) {N : Nat} (hS : s.Since vm₁ N) (hN : N ≤ T.heap.size) (hlocks : meth.locks = false) {v : Option Value} (hv : meth.sig.returnType = none → v = none) {f : JFrame}
    (st : ∀ fs, (∀ (f : JFrame) (acts : List Action), f.method = m → f.locked = none → f.entered = [] → (doReturn e (T.setTop f) acts v).1 = T.setFrames fs) → Steps p.tables e below (T.setTop f) (T.setFrames fs))
    (hQ : Q v T.heap locs) (hk : k ≤ cells) (hn : n ≤ slots) : Go p e below (T.setTop f) (EndW s Q cells slots) := by
  obtain ⟨fs, hr, hrun, hended, h1, h2, h3, h4⟩ := X.leaveW hS hN (v := v) hv hlocks
  exact ⟨_, _, st fs hr, hrun, hended, v, locs, rfl, hQ, h1, h2, h3, h4.mono hk hn⟩
/-- the end of a body that may intern, and that keeps what is booked of EL -/
abbrev EndH (Z : State) (EL : List (String × Nat)) (s : State) (Q : Option Value → Heap → List Loc → Prop) (cells slots : Nat) : Outcome → State → Prop := fun o U' => ∃ v L, o = .returned v ∧ Q v U'.heap L ∧ CHr Z EL s.vm s.heap U'.vm U'.heap ∧ ReturnedEndW s o U' L cells slots
theorem Go.doneH {Z : State} {a0 : Array Value} {EL : List (String × Nat)} {vm₁ : Vm} {h0 h : Heap} (X : Stand p l e R (s.setVm vm₁) m args below meth c T locs k n) {N : Nat} (hS : s.Since vm₁ N) (hN : N ≤ T.heap.size) (hlocks : meth.locks = false) {v : Option Value} (hv : meth.sig.returnType = none → v = none) {f : JFrame}
    (st : ∀ fs, (∀ (f : JFrame) (acts : List Action), f.method = m → f.locked = none → f.entered = [] → (doReturn e (T.setTop f) acts v).1 = T.setFrames fs) → Steps p.tables e below (T.setTop f) (T.setFrames fs))
    (hQ : Q v T.heap locs) (hk : k ≤ cells) (hn : n ≤ slots) (hZ : Z.Warmed39 vm₁) (hEL : EW Z a0 EL) (hh : s.heap = h0) (eT : T.heap = h) (hC : CHr Z EL s.vm h0 vm₁ h) : Go p e below (T.setTop f) (EndH Z EL s Q cells slots) := by
  subst hh eT
  obtain ⟨fs, hr, hrun, hended, h1, h2, h3, h4⟩ := X.leaveW hS hN (v := v) hv hlocks
  exact ⟨_, _, st fs hr, hrun, hended, v, locs, rfl, hQ, show CHr Z EL s.vm s.heap T.vm T.heap from hC.trans (CHv.at X hZ hEL hC.1), h1, h2, h3, h4.mono hk hn⟩
/-- a String whose value is still null is none that is booked -/
theorem own_safe {Z : State} {EL : List (String × Nat)} {vm : Vm} {h : Heap} {x : Addr} (hal : Z.vm.Alike vm) (E : Exa Z h x "java/lang/String") (F : Fld Z h x "java/lang/String" "value" "[B" .null) : Safe Z EL vm h x := fun B => by
  obtain ⟨p, -, u, a, -, q, -, S, hy⟩ := B
  obtain ⟨cell, cf, k, i, f, f1, f2, -, -, -, -, f7⟩ := F
  obtain ⟨cS, ⟨⟨s1, -, -, ⟨cv, kv, iv, s4, -⟩, -, s6, -, s8, -, s10, -⟩, -, -⟩, -, hB, -⟩ := S
  rcases hy with rfl | rfl
  · cases (show h[q.sa]? = some q.sC from s1).symm.trans f1
    obtain ⟨kv', z4⟩ := ff_back (U := Wst Z vm h) hal s4
    cases f2.symm.trans z4
    rw [s8] at f7
    cases f7
  · obtain ⟨cell', k', e1, e2, e3, -⟩ := E
    cases (show h[q.sd]? = some q.SA from s10).symm.trans e1
    have hB' : Z.vm.findClass "[B" = some q.SA.cls := by rw [← hal.findClass]; exact hB
    exact ids_ne hB' e2 (by decide) rfl
theorem retJ (X : Stand p l e R s m args below meth c T locs cells slots) (hx : p.tables.exec = Jvm.exec) {pc : Nat} {Ls : Array Slot} {z : Int64} {rest : List Value} (hret : meth.sig.returnType = some .long) (hd : decode c.code pc = .ok (.lreturn, 1)) {fs : List Frame}
    (hl : ∀ (f : JFrame) (acts : List Action), f.method = m → f.locked = none → f.entered = [] → (doReturn e (T.setTop f) acts (some (.long z))).1 = T.setFrames fs) : Steps p.tables e below (T.setTop (mkF m pc Ls (.long z :: rest))) (T.setFrames fs) :=
  retOut X hx hret rfl (Or.inr (Or.inl ⟨rfl, rfl, z, rfl⟩)) hd hl
theorem retA (X : Stand p l e R s m args below meth c T locs cells slots) (hx : p.tables.exec = Jvm.exec) {pc : Nat} {Ls : Array Slot} {w : Value} {t : FieldType} {rest : List Value} (hret : meth.sig.returnType = some t) (hn : narrow t w = w) (ht : t.isReference = true) (hw : w.isRef = true) (hd : decode c.code pc = .ok (.areturn, 1)) {fs : List Frame}
    (hl : ∀ (f : JFrame) (acts : List Action), f.method = m → f.locked = none → f.entered = [] → (doReturn e (T.setTop f) acts (some w)).1 = T.setFrames fs) : Steps p.tables e below (T.setTop (mkF m pc Ls (w :: rest))) (T.setFrames fs) :=
  retOut X hx hret hn (Or.inr (Or.inr (Or.inr (Or.inr ⟨rfl, ht, hw⟩)))) hd hl
end Goes
end Jvm.RoadKit
/- laws to paste: Road.backV, Road.lenW, Road.chN, Road.codOf (cut by pick.py; bodies as the Statement names them) -/
namespace Jvm.Pilot.@@N@@
namespace StrChars
open Jvm Sem ClassFile Op Lib Jvm.Stand Jvm.Free.XT Jvm.Free.ALB Jvm.Free.JM Jvm.Free
open Jvm.Lib.Cold (StaticIs)
/-- a char array whose places are chars -/
def Ch (a : Addr) (A : Cell) (U : State) : Prop := Arr .char a A U ∧ Typed .char A
theorem Ch.mv {a : Addr} {A : Cell} {U U' : State} (h : Ch a A U) (hal : U.vm.Alike U'.vm) (hh : U'.heap = U.heap) : Ch a A U' := ⟨h.1.mv hal hh, h.2⟩
theorem Ch.keep {a : Addr} {A : Cell} {U U' : State} (h : Ch a A U) (hal : U.vm.Alike U'.vm) (hk : U'.heap[a]? = some A) : Ch a A U' := ⟨h.1.keep hal hk, h.2⟩
/-- what place i of a char[]'s cell holds -/
def cv (A : Cell) (i : Nat) : Int32 := match A.slots[i]? with | some (.int x) => x | _ => 0
theorem Ch.get {a : Addr} {A : Cell} {U : State} (h : Ch a A U) {i : Nat} (hi : i < A.slots.size) : A.slots[i]? = some (.int (cv A i)) := by
  have e := Array.getElem?_eq_getElem hi
  have f := h.2 i _ e
  unfold cv; rw [e]
  generalize A.slots[i] = v at f
  cases v <;> simp [fits] at f ⊢
/-- the byte that i2b leaves of a char -/
def lo8 (x : Int32) : Int32 := x.toInt8.toInt32
theorem fits_lo8 (y : Int32) : fits .byte (.int (lo8 y)) = true := by
  have h1 := y.toInt8.le_toInt
  have h2 := y.toInt8.toInt_lt
  simp only [lo8, fits, Bool.and_eq_true, decide_eq_true_eq, Int32.le_iff_toInt_le, Int8.toInt_toInt32, show (-128 : Int32).toInt = -128 from by decide, show (127 : Int32).toInt = 127 from by decide]
  omega
/-- A' is A but that each place j of lo .. hi - 1 holds f j -/
def Laid (A A' : Cell) (lo hi : Nat) (f : Nat → Value) : Prop := A'.cls = A.cls ∧ A'.vm = A.vm ∧ A'.slots.size = A.slots.size ∧ ∀ i, A'.slots[i]? = if lo ≤ i ∧ i < hi then some (f i) else A.slots[i]?
theorem Laid.zero (A : Cell) (lo : Nat) (f : Nat → Value) : Laid A A lo (lo + 0) f := ⟨rfl, rfl, rfl, fun i => by rw [if_neg (by omega)]⟩
theorem Laid.step {A Ak : Cell} {lo k : Nat} {f : Nat → Value} {v : Value} (h : Laid A Ak lo k f) (hlo : lo ≤ k) (hk : k < Ak.slots.size) (hv : v = f k) : Laid A (Ak.setSlot k v) lo (k + 1) f := by
  refine ⟨h.1, h.2.1, by simpa [Cell.setSlot] using h.2.2.1, fun i => ?_⟩
  by_cases e : k = i
  · subst e; rw [Cell.slots_setSlot_self v hk, if_pos (by omega), hv]
  · rw [Cell.slots_setSlot_ne v e, h.2.2.2 i]
    by_cases q : lo ≤ i ∧ i < k
    · rw [if_pos q, if_pos (by omega)]
    · rw [if_neg q, if_neg (by omega)]
def U16 : String := "java/lang/StringUTF16"
namespace Cmp5
def yN : MethodName := ⟨"java/lang/StringUTF16", "compress", "([CI[BII)I"⟩
abbrev yB : ByteArray := jdk_52_method_21_code
theorem d0 : decode yB 0 = .ok (.iconst 0, 1) := by decide +kernel
theorem d1 : decode yB 1 = .ok (.istore 5, 2) := by decide +kernel
theorem d3 : decode yB 3 = .ok (.iload 5, 2) := by decide +kernel
theorem d5 : decode yB 5 = .ok (.iload 4, 2) := by decide +kernel
theorem d7 : decode yB 7 = .ok (.if_icmp (.ge) 37, 3) := by decide +kernel
theorem d10 : decode yB 10 = .ok (.aload_n 0, 1) := by decide +kernel
theorem d11 : decode yB 11 = .ok (.iload_n 1, 1) := by decide +kernel
theorem d12 : decode yB 12 = .ok (.caload, 1) := by decide +kernel
theorem d13 : decode yB 13 = .ok (.istore 6, 2) := by decide +kernel
theorem d15 : decode yB 15 = .ok (.iload 6, 2) := by decide +kernel
theorem d17 : decode yB 17 = .ok (.sipush 255, 3) := by decide +kernel
theorem d20 : decode yB 20 = .ok (.if_icmp (.le) 6, 3) := by decide +kernel
theorem d26 : decode yB 26 = .ok (.aload_n 2, 1) := by decide +kernel
theorem d27 : decode yB 27 = .ok (.iload_n 3, 1) := by decide +kernel
theorem d28 : decode yB 28 = .ok (.iload 6, 2) := by decide +kernel
theorem d30 : decode yB 30 = .ok (.i2b, 1) := by decide +kernel
theorem d31 : decode yB 31 = .ok (.bastore, 1) := by decide +kernel
theorem d32 : decode yB 32 = .ok (.iinc 1 1, 3) := by decide +kernel
theorem d35 : decode yB 35 = .ok (.iinc 3 1, 3) := by decide +kernel
theorem d38 : decode yB 38 = .ok (.iinc 5 1, 3) := by decide +kernel
theorem d41 : decode yB 41 = .ok (.goto (-38), 3) := by decide +kernel
theorem d44 : decode yB 44 = .ok (.iload 4, 2) := by decide +kernel
theorem d46 : decode yB 46 = .ok (.ireturn, 1) := by decide +kernel
def site : List Cond := []
def tab : Cond := tabOf yN yB 7 (some .int) site
def P (b : Addr) (A : Cell) (d : Addr) (B : Cell) (o q len : Nat) (args : Array Value) (s : State) : Prop := args = #[.ref b, .int (Int32.ofNat o), .ref d, .int (Int32.ofNat q), .int (Int32.ofNat len)] ∧ Ch b A s ∧ Arr .byte d B s ∧ b ≠ d ∧ o + len ≤ A.slots.size ∧ q + len ≤ B.slots.size ∧ ∀ i, i < len → ¬ 255 < cv A (o + i)
def E (b : Addr) (A : Cell) (d : Addr) (B : Cell) (o q len : Nat) (r : Option Value) (s u : State) : Prop := r = some (.int (Int32.ofNat len)) ∧ ∃ B', Put d B' s u ∧ Laid B B' q (q + len) (fun j => Value.int (lo8 (cv A (o + (j - q)))))
/-- no char of the range above 255: len; the places written hold each char's low byte -/
theorem law (l : Launch) (b : Addr) (A : Cell) (d : Addr) (B : Cell) (o q len : Nat) : Law l yN 5 5 0 0 yB 7 (some .int) site (P b A d B o q len) (E b A d B o q len) (copyLocs d q len) 0 0 := by
  refine Law.of_walk (plainFor_of_name (by decide +kernel)) (by decide +kernel) (by decide +kernel) (by decide) (fun _ _ h => by rw [h.1]; rfl) (fun _ U U' hal hh h => ⟨h.1, h.2.1.mv hal hh, h.2.2.1.mv hal hh, h.2.2.2⟩) (fun r U U' V V' h1 hal h2 h => ⟨h.1, h.2.elim fun B' q => ⟨B', q.1.mv h1 h2, q.2⟩⟩) ?_
  intro p e s m args below meth c s₁ X0 hexec hbytes hml hret hlk hnm hown hh0 W hP
  obtain ⟨rfl, hA, hB, hne, l1, l2, hp⟩ := hP
  have c1 : Steps p.tables e below (s₁.setTop (entryFrame m #[.ref b, .int (Int32.ofNat o), .ref d, .int (Int32.ofNat q), .int (Int32.ofNat len)] 7)) (s₁.setTop (mkF m 0 #[.val (.ref b), .val (.int (Int32.ofNat o)), .val (.ref d), .val (.int (Int32.ofNat q)), .val (.int (Int32.ofNat len)), .unset, .unset] [])) := entry rfl
  have hA0 := hA.1.mv X0.warmed.alike hh0
  have hB0 := hB.mv X0.warmed.alike hh0
  have a31 := hA.1.2.2.2
  have c2 : Steps p.tables e below (s₁.setTop (entryFrame m #[.ref b, .int (Int32.ofNat o), .ref d, .int (Int32.ofNat q), .int (Int32.ofNat len)] 7)) (s₁.setTop (mkF m 3 #[.val (.ref b), .val (.int (Int32.ofNat o)), .val (.ref d), .val (.int (Int32.ofNat q)), .val (.int (Int32.ofNat len)), .val (.int 0), .unset] [])) := c1.trans (by
    refine iconstV X0.here hexec rfl 0 (hb hbytes d0) (by decide) ?_
    refine XS.istore X0.here hexec rfl (hb hbytes d1) rfl rfl ?_
    exact Steps.refl _)
  have loop : ∀ (r i : Nat), i + r = len → ∀ (z : Slot), (z = .unset ∨ ∃ w, z = .val w ∧ w.category = 1) → ∀ (Tl : State) (Bk : Cell), Stand p l e { frames := 0, locals := 0, cells := 0, slots := 0 } s m #[.ref b, .int (Int32.ofNat o), .ref d, .int (Int32.ofNat q), .int (Int32.ofNat len)] below meth c Tl ([] ++ copyLocs d q i) 0 0 → Put d Bk s₁ Tl → Laid B Bk q (q + i) (fun j => Value.int (lo8 (cv A (o + (j - q))))) →
      Steps p.tables e below (s₁.setTop (entryFrame m #[.ref b, .int (Int32.ofNat o), .ref d, .int (Int32.ofNat q), .int (Int32.ofNat len)] 7)) (Tl.setTop (mkF m 3 #[.val (.ref b), .val (.int (Int32.ofNat (o + i))), .val (.ref d), .val (.int (Int32.ofNat (q + i))), .val (.int (Int32.ofNat len)), .val (.int (Int32.ofNat i)), z] [])) → ∃ (T' : State) (B' : Cell) (z' : Slot), Stand p l e { frames := 0, locals := 0, cells := 0, slots := 0 } s m #[.ref b, .int (Int32.ofNat o), .ref d, .int (Int32.ofNat q), .int (Int32.ofNat len)] below meth c T' ([] ++ copyLocs d q len) 0 0 ∧ Put d B' s₁ T' ∧ Laid B B' q (q + len) (fun j => Value.int (lo8 (cv A (o + (j - q))))) ∧
      Steps p.tables e below (s₁.setTop (entryFrame m #[.ref b, .int (Int32.ofNat o), .ref d, .int (Int32.ofNat q), .int (Int32.ofNat len)] 7)) (T'.setTop (mkF m 3 #[.val (.ref b), .val (.int (Int32.ofNat (o + len))), .val (.ref d), .val (.int (Int32.ofNat (q + len))), .val (.int (Int32.ofNat len)), .val (.int (Int32.ofNat len)), z'] [])) := by
    intro r
    induction r with
    | zero =>
      intro i hi z hz Tl Bk Xl pl fl cl
      have hil : i = len := by omega
      rw [hil] at Xl fl cl
      exact ⟨Tl, Bk, z, Xl, pl, fl, cl⟩
    | succ r ih =>
      intro i hi z hz Tl Bk Xl pl fl cl
      have all := X0.warmed.alike.symm.trans Xl.warmed.alike
      have hAl := hA0.keep all (pl.other hne hA0.1)
      have hBk := hB0.like all pl.1 fl.1 fl.2.1 fl.2.2.1
      have hlt : q + i < Bk.slots.size := by rw [fl.2.2.1]; omega
      have c3 : Steps p.tables e below (s₁.setTop (entryFrame m #[.ref b, .int (Int32.ofNat o), .ref d, .int (Int32.ofNat q), .int (Int32.ofNat len)] 7)) (Tl.setTop (mkF m 12 #[.val (.ref b), .val (.int (Int32.ofNat (o + i))), .val (.ref d), .val (.int (Int32.ofNat (q + i))), .val (.int (Int32.ofNat len)), .val (.int (Int32.ofNat i)), z] [.int (Int32.ofNat (o + i)), .ref b])) := cl.trans (by
        refine XS.iload Xl.here hexec rfl (hb hbytes d3) rfl ?_
        refine XS.iload Xl.here hexec rfl (hb hbytes d5) rfl ?_
        refine XS.icmpNo Xl.here hexec rfl (hb hbytes d7) rfl (ii_ge_f (lt32 (by omega) (by omega))) ?_
        refine XS.aloadN Xl.here hexec rfl (hb hbytes d10) rfl rfl ?_
        refine XS.iloadN Xl.here hexec rfl (hb hbytes d11) rfl ?_
        exact Steps.refl _)
      have c4 : Steps p.tables e below (s₁.setTop (entryFrame m #[.ref b, .int (Int32.ofNat o), .ref d, .int (Int32.ofNat q), .int (Int32.ofNat len)] 7)) (Tl.setTop (mkF m 13 #[.val (.ref b), .val (.int (Int32.ofNat (o + i))), .val (.ref d), .val (.int (Int32.ofNat (q + i))), .val (.int (Int32.ofNat len)), .val (.int (Int32.ofNat i)), z] [.int (cv A (o + i))])) := c3.trans (by
        refine Xl.aget hexec hAl rfl (hA.get (i := o + i) (by omega)) rfl rfl (hb hbytes d12) ?_
        exact Steps.refl _)
      have c5 : Steps p.tables e below (s₁.setTop (entryFrame m #[.ref b, .int (Int32.ofNat o), .ref d, .int (Int32.ofNat q), .int (Int32.ofNat len)] 7)) (Tl.setTop (mkF m 15 #[.val (.ref b), .val (.int (Int32.ofNat (o + i))), .val (.ref d), .val (.int (Int32.ofNat (q + i))), .val (.int (Int32.ofNat len)), .val (.int (Int32.ofNat i)), .val (.int (cv A (o + i)))] [])) := c4.trans (by
        refine XS.istoreS Xl.here hexec rfl (hb hbytes d13) rfl rfl hz ?_
        exact Steps.refl _)
      have c6 : Steps p.tables e below (s₁.setTop (entryFrame m #[.ref b, .int (Int32.ofNat o), .ref d, .int (Int32.ofNat q), .int (Int32.ofNat len)] 7)) (Tl.setTop (mkF m 31 #[.val (.ref b), .val (.int (Int32.ofNat (o + i))), .val (.ref d), .val (.int (Int32.ofNat (q + i))), .val (.int (Int32.ofNat len)), .val (.int (Int32.ofNat i)), .val (.int (cv A (o + i)))] [.int (lo8 (cv A (o + i))), .int (Int32.ofNat (q + i)), .ref d])) := c5.trans (by
        refine XS.iload Xl.here hexec rfl (hb hbytes d15) rfl ?_
        refine sipushV Xl.here hexec rfl 255 (hb hbytes d17) (by decide) ?_
        refine XS.icmpYes Xl.here hexec rfl (pc0 := 20) rfl (hb hbytes d20) rfl (ii_le_t (hp i (by omega))) (by decide) rfl ?_
        refine XS.aloadN Xl.here hexec rfl (hb hbytes d26) rfl rfl ?_
        refine XS.iloadN Xl.here hexec rfl (hb hbytes d27) rfl ?_
        refine XS.iload Xl.here hexec rfl (hb hbytes d28) rfl ?_
        refine i2b Xl.here hexec rfl (hb hbytes d30) rfl ?_
        exact Steps.refl _)
      obtain ⟨T7, X7, p7, st7⟩ := Xl.aput hexec hBk rfl hlt rfl (fits_lo8 (cv A (o + i))) (g := (mkF m 31 #[.val (.ref b), .val (.int (Int32.ofNat (o + i))), .val (.ref d), .val (.int (Int32.ofNat (q + i))), .val (.int (Int32.ofNat len)), .val (.int (Int32.ofNat i)), .val (.int (cv A (o + i)))] [.int (lo8 (cv A (o + i))), .int (Int32.ofNat (q + i)), .ref d])) rfl (rest := []) rfl (hb hbytes d31)
      have c8 : Steps p.tables e below (s₁.setTop (entryFrame m #[.ref b, .int (Int32.ofNat o), .ref d, .int (Int32.ofNat q), .int (Int32.ofNat len)] 7)) (T7.setTop (mkF m 32 #[.val (.ref b), .val (.int (Int32.ofNat (o + i))), .val (.ref d), .val (.int (Int32.ofNat (q + i))), .val (.int (Int32.ofNat len)), .val (.int (Int32.ofNat i)), .val (.int (cv A (o + i)))] [])) := c6.trans (st7 _ (Steps.refl _))
      have c9 : Steps p.tables e below (s₁.setTop (entryFrame m #[.ref b, .int (Int32.ofNat o), .ref d, .int (Int32.ofNat q), .int (Int32.ofNat len)] 7)) (T7.setTop (mkF m 3 #[.val (.ref b), .val (.int (Int32.ofNat (o + i) + 1)), .val (.ref d), .val (.int (Int32.ofNat (q + i) + 1)), .val (.int (Int32.ofNat len)), .val (.int (Int32.ofNat i + 1)), .val (.int (cv A (o + i)))] [])) := c8.trans (by
        refine iincV X7.here hexec rfl 1 (hb hbytes d32) (by decide) rfl rfl ?_
        refine iincV X7.here hexec rfl 1 (hb hbytes d35) (by decide) rfl rfl ?_
        refine iincV X7.here hexec rfl 1 (hb hbytes d38) (by decide) rfl rfl ?_
        refine XS.goto X7.here hexec rfl (pc0 := 41) rfl (hb hbytes d41) (by decide) rfl ?_
        exact Steps.refl _)
      have c10 : Steps p.tables e below (s₁.setTop (entryFrame m #[.ref b, .int (Int32.ofNat o), .ref d, .int (Int32.ofNat q), .int (Int32.ofNat len)] 7)) (T7.setTop (mkF m 3 #[.val (.ref b), .val (.int (Int32.ofNat (o + (i + 1)))), .val (.ref d), .val (.int (Int32.ofNat (q + (i + 1)))), .val (.int (Int32.ofNat len)), .val (.int (Int32.ofNat (i + 1))), .val (.int (cv A (o + i)))] [])) := by
        have := c9
        rw [succ32, succ32, succ32] at this
        exact this
      exact ih (i + 1) (by omega) _ (Or.inr ⟨_, rfl, rfl⟩) T7 _ (by rw [copyLocs_step, ← List.append_assoc]; exact X7) (pl.trans p7) (fl.step (by omega) hlt (by simp)) c10
  obtain ⟨T9, B9, z9, X9, p9, f9, g9⟩ := loop len 0 (by omega) .unset (Or.inl rfl) s₁ B (by simpa [copyLocs] using X0) ⟨hB0.1, fun _ _ => rfl, rfl⟩ (Laid.zero _ _ _) c2
  have c11 : Steps p.tables e below (s₁.setTop (entryFrame m #[.ref b, .int (Int32.ofNat o), .ref d, .int (Int32.ofNat q), .int (Int32.ofNat len)] 7)) (T9.setTop (mkF m 46 #[.val (.ref b), .val (.int (Int32.ofNat (o + len))), .val (.ref d), .val (.int (Int32.ofNat (q + len))), .val (.int (Int32.ofNat len)), .val (.int (Int32.ofNat len)), z9] [.int (Int32.ofNat len)])) := g9.trans (by
    refine XS.iload X9.here hexec rfl (hb hbytes d3) rfl ?_
    refine XS.iload X9.here hexec rfl (hb hbytes d5) rfl ?_
    refine XS.icmpYes X9.here hexec rfl (pc0 := 7) rfl (hb hbytes d7) rfl (ii_ge_t (nlt32 (by omega) (Nat.le_refl _))) (by decide) rfl ?_
    refine XS.iload X9.here hexec rfl (hb hbytes d44) rfl ?_
    exact Steps.refl _)
  exact ⟨T9, some (.int (Int32.ofNat len)), _, _, _, X9, by simp, rfl, rfl, (fun h => by cases h), ⟨rfl, B9, p9.from hh0, f9⟩, fun fs hl => c11.trans (X9.ireturnOut hexec hret rfl (Or.inl rfl) (hb hbytes d46) hl)⟩
end Cmp5
namespace Cmp3
def yN : MethodName := ⟨"java/lang/StringUTF16", "compress", "([CII)[B"⟩
abbrev yB : ByteArray := jdk_52_method_16_code
theorem d0 : decode yB 0 = .ok (.iload_n 2, 1) := by decide +kernel
theorem d1 : decode yB 1 = .ok (.newarray .byte, 2) := by decide +kernel
theorem d3 : decode yB 3 = .ok (.astore_n 3, 1) := by decide +kernel
theorem d4 : decode yB 4 = .ok (.aload_n 0, 1) := by decide +kernel
theorem d5 : decode yB 5 = .ok (.iload_n 1, 1) := by decide +kernel
theorem d6 : decode yB 6 = .ok (.aload_n 3, 1) := by decide +kernel
theorem d7 : decode yB 7 = .ok (.iconst 0, 1) := by decide +kernel
theorem d8 : decode yB 8 = .ok (.iload_n 2, 1) := by decide +kernel
theorem d9 : decode yB 9 = .ok (.invokestatic 115, 3) := by decide +kernel
theorem d12 : decode yB 12 = .ok (.istore 4, 2) := by decide +kernel
theorem d14 : decode yB 14 = .ok (.iload 4, 2) := by decide +kernel
theorem d16 : decode yB 16 = .ok (.iload_n 2, 1) := by decide +kernel
theorem d17 : decode yB 17 = .ok (.if_icmp (.eq) 40, 3) := by decide +kernel
theorem d57 : decode yB 57 = .ok (.aload_n 3, 1) := by decide +kernel
theorem d58 : decode yB 58 = .ok (.areturn, 1) := by decide +kernel
def site : List Cond := [.arrayClass .byte, Cmp5.tab] ++ staticW U16 115 Cmp5.yN
def tab : Cond := tabOf yN yB 6 (some (.array .byte)) site
def P (b : Addr) (A : Cell) (o len : Nat) (args : Array Value) (s : State) : Prop := args = #[.ref b, .int (Int32.ofNat o), .int (Int32.ofNat len)] ∧ Ch b A s ∧ o + len ≤ A.slots.size ∧ len ≤ 536870912 ∧ ∀ i, i < len → ¬ 255 < cv A (o + i)
def E (b : Addr) (A : Cell) (o len : Nat) (r : Option Value) (s u : State) : Prop := NewArr .byte "[B" len (fun j => .int (lo8 (cv A (o + j)))) r s u ∧ u.heap.size = s.heap.size + 1
/-- no char of the range above 255: a new byte[] of their low bytes -/
theorem law (l : Launch) (b : Addr) (A : Cell) (o len : Nat) : Law l yN 3 3 1 18 yB 6 (some (.array .byte)) site (P b A o len) (E b A o len) [] 1 len := by
  refine Law.of_walk (plainFor_of_name (by decide +kernel)) (by decide +kernel) (by decide +kernel) (by decide) (fun _ _ h => by rw [h.1]; rfl) (fun _ U U' hal hh h => ⟨h.1, h.2.1.mv hal hh, h.2.2⟩) (fun r U U' V V' h1 hal h2 h => ⟨NewArr.mv r U U' V V' h1 hal h2 h.1, by rw [h1, h2]; exact h.2⟩) ?_
  intro p e s m args below meth c s₁ X0 hexec hbytes hml hret hlk hnm hown hh0 W hP
  obtain ⟨rfl, hA, l1, l2, hp⟩ := hP
  have a31 := hA.1.2.2.2
  have c1 : Steps p.tables e below (s₁.setTop (entryFrame m #[.ref b, .int (Int32.ofNat o), .int (Int32.ofNat len)] 6)) (s₁.setTop (mkF m 0 #[.val (.ref b), .val (.int (Int32.ofNat o)), .val (.int (Int32.ofNat len)), .unset, .unset, .unset] [])) := entry rfl
  have c2 : Steps p.tables e below (s₁.setTop (entryFrame m #[.ref b, .int (Int32.ofNat o), .int (Int32.ofNat len)] 6)) (s₁.setTop (mkF m 1 #[.val (.ref b), .val (.int (Int32.ofNat o)), .val (.int (Int32.ofNat len)), .unset, .unset, .unset] [.int (Int32.ofNat len)])) := c1.trans (by
    refine XS.iloadN X0.here hexec rfl (hb hbytes d0) rfl ?_
    exact Steps.refl _)
  obtain ⟨T3, B3, X3, ba3, bs3, bv3, bh3, bf3, st3⟩ := X0.anew hexec (atype := .byte) (wk W (.arrayClass .byte)) rfl (by show len * 1 ≤ _; omega) (by omega) (g := (mkF m 1 #[.val (.ref b), .val (.int (Int32.ofNat o)), .val (.int (Int32.ofNat len)), .unset, .unset, .unset] [.int (Int32.ofNat len)])) rfl (hb hbytes d1) (rest := []) rfl (Nat.le_refl _) (by show 0 + len ≤ len; omega)
  rw [hh0] at ba3 st3
  have kp3 : XT.Kept s T3 := (XT.Kept.of_eq hh0).push bh3
  have hA3 := hA.keep X3.warmed.alike (kp3 _ _ hA.1.1)
  have hne : b ≠ s.heap.size := hA.1.ne
  have c4 : Steps p.tables e below (s₁.setTop (entryFrame m #[.ref b, .int (Int32.ofNat o), .int (Int32.ofNat len)] 6)) (T3.setTop (mkF m 3 #[.val (.ref b), .val (.int (Int32.ofNat o)), .val (.int (Int32.ofNat len)), .unset, .unset, .unset] [.ref s.heap.size])) := c2.trans (st3 _ (Steps.refl _))
  have c5 : Steps p.tables e below (s₁.setTop (entryFrame m #[.ref b, .int (Int32.ofNat o), .int (Int32.ofNat len)] 6)) (T3.setTop (mkF m 9 #[.val (.ref b), .val (.int (Int32.ofNat o)), .val (.int (Int32.ofNat len)), .val (.ref s.heap.size), .unset, .unset] [.int (Int32.ofNat len), .int 0, .ref s.heap.size, .int (Int32.ofNat o), .ref b])) := c4.trans (by
    refine XS.astoreN X3.here hexec rfl (hb hbytes d3) rfl rfl rfl ?_
    refine XS.aloadN X3.here hexec rfl (hb hbytes d4) rfl rfl ?_
    refine XS.iloadN X3.here hexec rfl (hb hbytes d5) rfl ?_
    refine XS.aloadN X3.here hexec rfl (hb hbytes d6) rfl rfl ?_
    refine iconstV X3.here hexec rfl 0 (hb hbytes d7) (by decide) ?_
    refine XS.iloadN X3.here hexec rfl (hb hbytes d8) rfl ?_
    exact Steps.refl _)
  obtain ⟨v6, T6, X6, E6, g6⟩ := X3.callS hexec (Cmp5.law l b A s.heap.size B3 o 0 len) hown (wks W (staticW U16 115 Cmp5.yN)) (wk W Cmp5.tab) (W := 0) (Nat.le_of_ble_eq_true rfl) (Nat.le_of_ble_eq_true rfl) (Nat.le_refl _) (by show 0 + len + 0 ≤ len; omega) (g := (mkF m 9 #[.val (.ref b), .val (.int (Int32.ofNat o)), .val (.int (Int32.ofNat len)), .val (.ref s.heap.size), .unset, .unset] [.int (Int32.ofNat len), .int (Int32.ofNat 0), .ref s.heap.size, .int (Int32.ofNat o), .ref b])) rfl (by rw [hml]; rfl) c5 (argsL := [.ref b, .int (Int32.ofNat o), .ref s.heap.size, .int (Int32.ofNat 0), .int (Int32.ofNat len)]) (rest := []) rfl rfl (by show 2 * 0 + 0 ≤ _; decide) (hb hbytes d9) (⟨rfl, hA3, ba3, hne, l1, by rw [bs3]; simp, hp⟩)
  obtain ⟨rfl, B6, p6, f6⟩ := E6
  have c7 : Steps p.tables e below (s₁.setTop (entryFrame m #[.ref b, .int (Int32.ofNat o), .int (Int32.ofNat len)] 6)) (T6.setTop (mkF m 12 #[.val (.ref b), .val (.int (Int32.ofNat o)), .val (.int (Int32.ofNat len)), .val (.ref s.heap.size), .unset, .unset] [.int (Int32.ofNat len)])) := g6
  have c8 : Steps p.tables e below (s₁.setTop (entryFrame m #[.ref b, .int (Int32.ofNat o), .int (Int32.ofNat len)] 6)) (T6.setTop (mkF m 58 #[.val (.ref b), .val (.int (Int32.ofNat o)), .val (.int (Int32.ofNat len)), .val (.ref s.heap.size), .val (.int (Int32.ofNat len)), .unset] [.ref s.heap.size])) := c7.trans (by
    refine XS.istore X6.here hexec rfl (hb hbytes d12) rfl rfl ?_
    refine XS.iload X6.here hexec rfl (hb hbytes d14) rfl ?_
    refine XS.iloadN X6.here hexec rfl (hb hbytes d16) rfl ?_
    refine XS.icmpYes X6.here hexec rfl (pc0 := 17) rfl (hb hbytes d17) rfl (ii_eq_t rfl) (by decide) rfl ?_
    refine XS.aloadN X6.here hexec rfl (hb hbytes d57) rfl rfl ?_
    exact Steps.refl _)
  have X8 := X6.wide (L' := []) (cells' := 1) (slots' := len) (fun x hx hlt => by
    simp only [List.nil_append, copyLocs, List.mem_map, List.mem_range] at hx
    obtain ⟨i, -, rfl⟩ := hx
    exact absurd hlt (Nat.lt_irrefl _)) (Nat.le_refl _) (by omega)
  exact ⟨T6, some (.ref s.heap.size), _, _, _, X8, rfl, rfl, rfl, (fun h => by cases h), ⟨⟨rfl, B6, ba3.like (X3.warmed.alike.symm.trans X6.warmed.alike) p6.1 f6.1 f6.2.1 f6.2.2.1, f6.2.1.trans bv3, by rw [X6.warmed.alike.findClass, f6.1]; exact bf3, by rw [f6.2.2.1, bs3]; simp, fun j hj => by rw [f6.2.2.2 j, if_pos (by omega)]; rfl, kp3.put p6 (Nat.le_refl _)⟩, by rw [p6.2.2, bh3, hh0]; simp⟩, fun fs hl => c8.trans (X8.areturnOut hexec rfl hret rfl (hb hbytes d58) hl)⟩
end Cmp3
namespace CodL
def yN : MethodName := ⟨"java/lang/StringUTF16", "coderFromArrayLen", "([BI)B"⟩
abbrev yB : ByteArray := jdk_52_method_15_code
theorem d0 : decode yB 0 = .ok (.iload_n 1, 1) := by decide +kernel
theorem d1 : decode yB 1 = .ok (.aload_n 0, 1) := by decide +kernel
theorem d2 : decode yB 2 = .ok (.arraylength, 1) := by decide +kernel
theorem d3 : decode yB 3 = .ok (.isub, 1) := by decide +kernel
theorem d4 : decode yB 4 = .ok (.bipush 31, 2) := by decide +kernel
theorem d6 : decode yB 6 = .ok (.iushr, 1) := by decide +kernel
theorem d7 : decode yB 7 = .ok (.i2b, 1) := by decide +kernel
theorem d8 : decode yB 8 = .ok (.ireturn, 1) := by decide +kernel
def site : List Cond := []
def tab : Cond := tabOf yN yB 2 (some .byte) site
def P (d : Addr) (B : Cell) (args : Array Value) (s : State) : Prop := args = #[.ref d, .int (Int32.ofNat B.slots.size)] ∧ Arr .byte d B s
def E (r : Option Value) (s u : State) : Prop := XT.PureE (some (.int 0)) r s u
/-- an array as long as the number of chars: LATIN1 -/
theorem law (l : Launch) (d : Addr) (B : Cell) : Law l yN 2 2 0 0 yB 2 (some .byte) site (P d B) E [] 0 0 := by
  refine Law.of_walk (plainFor_of_name (by decide +kernel)) (by decide +kernel) (by decide +kernel) (by decide) (fun _ _ h => by rw [h.1]; rfl) (fun _ U U' hal hh h => ⟨h.1, h.2.mv hal hh⟩) (fun r U U' V V' h1 hal h2 h => XT.PureE.mv r U U' V V' h1 hal h2 h) ?_
  intro p e s m args below meth c s₁ X0 hexec hbytes hml hret hlk hnm hown hh0 W hP
  obtain ⟨rfl, hB⟩ := hP
  have hB0 := hB.mv X0.warmed.alike hh0
  have c1 : Steps p.tables e below (s₁.setTop (entryFrame m #[.ref d, .int (Int32.ofNat B.slots.size)] 2)) (s₁.setTop (mkF m 0 #[.val (.ref d), .val (.int (Int32.ofNat B.slots.size))] [])) := entry rfl
  have c2 : Steps p.tables e below (s₁.setTop (entryFrame m #[.ref d, .int (Int32.ofNat B.slots.size)] 2)) (s₁.setTop (mkF m 2 #[.val (.ref d), .val (.int (Int32.ofNat B.slots.size))] [.ref d, .int (Int32.ofNat B.slots.size)])) := c1.trans (by
    refine XS.iloadN X0.here hexec rfl (hb hbytes d0) rfl ?_
    refine XS.aloadN X0.here hexec rfl (hb hbytes d1) rfl rfl ?_
    exact Steps.refl _)
  have c3 : Steps p.tables e below (s₁.setTop (entryFrame m #[.ref d, .int (Int32.ofNat B.slots.size)] 2)) (s₁.setTop (mkF m 8 #[.val (.ref d), .val (.int (Int32.ofNat B.slots.size))] [.int (lo8 (ushr (Int32.ofNat B.slots.size - Int32.ofNat B.slots.size) 31))])) := c2.trans (by
    refine X0.alen hexec hB0 rfl rfl (hb hbytes d2) ?_
    refine XS.isub X0.here hexec rfl (hb hbytes d3) rfl ?_
    refine bipushV X0.here hexec rfl 31 (hb hbytes d4) (by decide) ?_
    refine iushr X0.here hexec rfl (hb hbytes d6) rfl ?_
    refine i2b X0.here hexec rfl (hb hbytes d7) rfl ?_
    exact Steps.refl _)
  have e0 : lo8 (ushr (Int32.ofNat B.slots.size - Int32.ofNat B.slots.size) 31) = 0 := by rw [Int32.sub_self]; decide
  rw [e0] at c3
  exact ⟨s₁, some (.int 0), _, _, _, X0, rfl, rfl, rfl, (fun h => by cases h), ⟨rfl, hh0⟩, fun fs hl => c3.trans (X0.ireturnOut hexec hret rfl (Or.inr (Or.inr (Or.inl rfl))) (hb hbytes d8) hl)⟩
end CodL
/-- the String at a is Latin-1 over a new byte[] (the heap's one new cell): the low bytes of the len chars of A from o on; every cell but a is kept -/
def Got (a : Addr) (D : Cell) (fV fC : Field) (A : Cell) (o len : Nat) (r : Option Value) (s u : State) : Prop := r = none ∧ ∃ D' V : Cell, Blank "java/lang/String" a D' u ∧ Same D D' [fV.slot, fC.slot] ∧ D'.slots[fV.slot]? = some (.ref s.heap.size) ∧ D'.slots[fC.slot]? = some (.int 0) ∧ Arr .byte s.heap.size V u ∧ V.vm = .none ∧ u.vm.findClass "[B" = some V.cls ∧ V.slots.size = len ∧ (∀ j, j < len → V.slots[j]? = some (.int (lo8 (cv A (o + j))))) ∧ (∀ (y : Addr) (c : Cell), y ≠ a → s.heap[y]? = some c → u.heap[y]? = some c) ∧ u.heap.size = s.heap.size + 1
theorem Got.mv {a : Addr} {D A : Cell} {fV fC : Field} {o len : Nat} : ∀ r (U U' V V' : State), U'.heap = U.heap → V.vm.Alike V'.vm → V'.heap = V.heap → Got a D fV fC A o len r U V → Got a D fV fC A o len r U' V' :=
  fun r U U' V V' h1 hal h2 ⟨e0, D', X, a1, a2, a3, a4, a5, a6, a7, a8, a9, a10, a11⟩ => ⟨e0, D', X, a1.mv hal h2, a2, by rw [h1]; exact a3, a4, by rw [h1]; exact a5.mv hal h2, a6, by rw [hal.findClass]; exact a7, a8, a9, by rw [h1, h2]; exact a10, by rw [h1, h2]; exact a11⟩
namespace New4
def yN : MethodName := ⟨"java/lang/String", "<init>", "([CIILjava/lang/Void;)V"⟩
abbrev yB : ByteArray := jdk_42_method_149_code
theorem d0 : decode yB 0 = .ok (.aload_n 0, 1) := by decide +kernel
theorem d1 : decode yB 1 = .ok (.invokespecial 1, 3) := by decide +kernel
theorem d4 : decode yB 4 = .ok (.iload_n 3, 1) := by decide +kernel
theorem d5 : decode yB 5 = .ok (.ifCond (.ne) 22, 3) := by decide +kernel
theorem d27 : decode yB 27 = .ok (.getstatic 38, 3) := by decide +kernel
theorem d30 : decode yB 30 = .ok (.ifCond (.eq) 28, 3) := by decide +kernel
theorem d33 : decode yB 33 = .ok (.aload_n 1, 1) := by decide +kernel
theorem d34 : decode yB 34 = .ok (.iload_n 2, 1) := by decide +kernel
theorem d35 : decode yB 35 = .ok (.iload_n 3, 1) := by decide +kernel
theorem d36 : decode yB 36 = .ok (.invokestatic 177, 3) := by decide +kernel
theorem d39 : decode yB 39 = .ok (.astore 5, 2) := by decide +kernel
theorem d41 : decode yB 41 = .ok (.aload_n 0, 1) := by decide +kernel
theorem d42 : decode yB 42 = .ok (.aload 5, 2) := by decide +kernel
theorem d44 : decode yB 44 = .ok (.iload_n 3, 1) := by decide +kernel
theorem d45 : decode yB 45 = .ok (.invokestatic 47, 3) := by decide +kernel
theorem d48 : decode yB 48 = .ok (.putfield 15, 3) := by decide +kernel
theorem d51 : decode yB 51 = .ok (.aload_n 0, 1) := by decide +kernel
theorem d52 : decode yB 52 = .ok (.aload 5, 2) := by decide +kernel
theorem d54 : decode yB 54 = .ok (.putfield 9, 3) := by decide +kernel
theorem d57 : decode yB 57 = .ok (.return_, 1) := by decide +kernel
def site : List Cond := [.fieldLink "java/lang/String" 38 "java/lang/String" "COMPACT_STRINGS" "Z", Cmp3.tab, CodL.tab, .laysFinal "java/lang/String" "java/lang/String" "value" "[B", .fieldLink "java/lang/String" 9 "java/lang/String" "value" "[B", .laysFinal "java/lang/String" "java/lang/String" "coder" "B", .fieldLink "java/lang/String" 15 "java/lang/String" "coder" "B"] ++ objW "java/lang/String" 1 ++ staticW "java/lang/String" 177 Cmp3.yN ++ staticW "java/lang/String" 47 CodL.yN
def tab : Cond := tabOf yN yB 6 none site
def P (a : Addr) (D : Cell) (fV fC : Field) (b : Addr) (A : Cell) (z : Int32) (o len : Nat) (args : Array Value) (s : State) : Prop := args = #[.ref a, .ref b, .int (Int32.ofNat o), .int (Int32.ofNat len), .null] ∧ Blank "java/lang/String" a D s ∧ Found "java/lang/String" "value" "[B" fV s ∧ Found "java/lang/String" "coder" "B" fC s ∧ Ch b A s ∧ StaticIs s "java/lang/String" "COMPACT_STRINGS" "Z" (.int z) ∧ ¬ z = 0 ∧ 0 < len ∧ o + len ≤ A.slots.size ∧ len ≤ 536870912 ∧ ∀ i, i < len → ¬ 255 < cv A (o + i)
def E (a : Addr) (D : Cell) (fV fC : Field) (A : Cell) (o len : Nat) (r : Option Value) (s u : State) : Prop := Got a D fV fC A o len r s u
/-- len > 0, no char of the range above 255: a Latin-1 String of their low bytes -/
theorem law (l : Launch) (a : Addr) (D : Cell) (fV fC : Field) (b : Addr) (A : Cell) (z : Int32) (o len : Nat) : Law l yN 5 4 2 35 yB 6 none site (P a D fV fC b A z o len) (E a D fV fC A o len) [⟨a, fC.slot⟩, ⟨a, fV.slot⟩] 1 len := by
  refine Law.of_walk (plainFor_of_name (by decide +kernel)) (by decide +kernel) (by decide +kernel) (by decide) (fun _ _ h => by rw [h.1]; rfl) (fun _ U U' hal hh h => ⟨h.1, h.2.1.mv hal hh, h.2.2.1.al hal, h.2.2.2.1.al hal, h.2.2.2.2.1.mv hal hh, h.2.2.2.2.2.1.there hal hh, h.2.2.2.2.2.2⟩) (fun r U U' V V' h1 hal h2 h => Got.mv r U U' V V' h1 hal h2 h) ?_
  intro p e s m args below meth c s₁ X0 hexec hbytes hml hret hlk hnm hown hh0 W hP
  obtain ⟨rfl, hB, f1, f2, hA, s1, hz, l0, l1, l2, hp⟩ := hP
  have a31 := hA.1.2.2.2
  have c1 : Steps p.tables e below (s₁.setTop (entryFrame m #[.ref a, .ref b, .int (Int32.ofNat o), .int (Int32.ofNat len), .null] 6)) (s₁.setTop (mkF m 0 #[.val (.ref a), .val (.ref b), .val (.int (Int32.ofNat o)), .val (.int (Int32.ofNat len)), .val .null, .unset] [])) := entry rfl
  have c2 : Steps p.tables e below (s₁.setTop (entryFrame m #[.ref a, .ref b, .int (Int32.ofNat o), .int (Int32.ofNat len), .null] 6)) (s₁.setTop (mkF m 1 #[.val (.ref a), .val (.ref b), .val (.int (Int32.ofNat o)), .val (.int (Int32.ofNat len)), .val .null, .unset] [.ref a])) := c1.trans (by
    refine XS.aloadN X0.here hexec rfl (hb hbytes d0) rfl rfl ?_
    exact Steps.refl _)
  obtain ⟨T3, X3, q3, st3⟩ := X0.oinit hexec hown (wks W (objW "java/lang/String" 1)) (g := (mkF m 1 #[.val (.ref a), .val (.ref b), .val (.int (Int32.ofNat o)), .val (.int (Int32.ofNat len)), .val .null, .unset] [.ref a])) rfl (by rw [hml]; rfl) (rest := []) rfl (hb hbytes d1) (W := 0) (by show 2 * 0 + 0 ≤ _; decide) (Nat.le_of_ble_eq_true rfl) (Nat.le_of_ble_eq_true rfl)
  have hh3 := q3.trans hh0
  have c4 : Steps p.tables e below (s₁.setTop (entryFrame m #[.ref a, .ref b, .int (Int32.ofNat o), .int (Int32.ofNat len), .null] 6)) (T3.setTop (mkF m 27 #[.val (.ref a), .val (.ref b), .val (.int (Int32.ofNat o)), .val (.int (Int32.ofNat len)), .val .null, .unset] [])) := (c2.trans (st3 _ (Steps.refl _))).trans (by
    refine XS.iloadN X3.here hexec rfl (hb hbytes d4) rfl ?_
    refine XS.ifYes X3.here hexec rfl (pc0 := 5) rfl (hb hbytes d5) rfl (i0_ne_t (nz32 (by omega) l0)) (by decide) rfl ?_
    exact Steps.refl _)
  obtain ⟨T5, X5, q5, st5⟩ := X3.sget hexec hown (wk W (.fieldLink "java/lang/String" 38 "java/lang/String" "COMPACT_STRINGS" "Z")) s1 (fun _ _ h => by rw [hh3]; exact h) (g := (mkF m 27 #[.val (.ref a), .val (.ref b), .val (.int (Int32.ofNat o)), .val (.int (Int32.ofNat len)), .val .null, .unset] [])) rfl (hb hbytes d27)
  have hh5 := q5.trans hh3
  have c6 : Steps p.tables e below (s₁.setTop (entryFrame m #[.ref a, .ref b, .int (Int32.ofNat o), .int (Int32.ofNat len), .null] 6)) (T5.setTop (mkF m 30 #[.val (.ref a), .val (.ref b), .val (.int (Int32.ofNat o)), .val (.int (Int32.ofNat len)), .val .null, .unset] [.int z])) := c4.trans (st5 _ (Steps.refl _))
  have c7 : Steps p.tables e below (s₁.setTop (entryFrame m #[.ref a, .ref b, .int (Int32.ofNat o), .int (Int32.ofNat len), .null] 6)) (T5.setTop (mkF m 36 #[.val (.ref a), .val (.ref b), .val (.int (Int32.ofNat o)), .val (.int (Int32.ofNat len)), .val .null, .unset] [.int (Int32.ofNat len), .int (Int32.ofNat o), .ref b])) := c6.trans (by
    refine XS.ifNo X5.here hexec rfl (hb hbytes d30) rfl (i0_eq_f hz) ?_
    refine XS.aloadN X5.here hexec rfl (hb hbytes d33) rfl rfl ?_
    refine XS.iloadN X5.here hexec rfl (hb hbytes d34) rfl ?_
    refine XS.iloadN X5.here hexec rfl (hb hbytes d35) rfl ?_
    exact Steps.refl _)
  obtain ⟨v8, T8, X8, E8, g8⟩ := X5.callS hexec (Cmp3.law l b A o len) hown (wks W (staticW "java/lang/String" 177 Cmp3.yN)) (wk W Cmp3.tab) (W := 0) (Nat.le_of_ble_eq_true rfl) (Nat.le_of_ble_eq_true rfl) (Nat.le_refl _) (by show 0 + len ≤ len; omega) (g := (mkF m 36 #[.val (.ref a), .val (.ref b), .val (.int (Int32.ofNat o)), .val (.int (Int32.ofNat len)), .val .null, .unset] [.int (Int32.ofNat len), .int (Int32.ofNat o), .ref b])) rfl (by rw [hml]; rfl) c7 (argsL := [.ref b, .int (Int32.ofNat o), .int (Int32.ofNat len)]) (rest := []) rfl rfl (by show 2 * 0 + 0 ≤ _; decide) (hb hbytes d36) (⟨rfl, hA.mv X5.warmed.alike hh5, l1, l2, hp⟩)
  obtain ⟨e8, z8⟩ := E8
  obtain ⟨rfl, N, n1, n2, n3, n4, n5, n6⟩ := NewArr.mv _ T5 s _ _ hh5.symm (Vm.Alike.refl _) rfl e8
  rw [hh5] at z8
  have hB1 := hB.keep X8.warmed.alike (n6 _ _ hB.1)
  have hne : s.heap.size ≠ a := (Nat.ne_of_lt (Array.getElem?_eq_some_iff.mp hB.1).1).symm
  have c9 : Steps p.tables e below (s₁.setTop (entryFrame m #[.ref a, .ref b, .int (Int32.ofNat o), .int (Int32.ofNat len), .null] 6)) (T8.setTop (mkF m 39 #[.val (.ref a), .val (.ref b), .val (.int (Int32.ofNat o)), .val (.int (Int32.ofNat len)), .val .null, .unset] [.ref s.heap.size])) := g8
  have c10 : Steps p.tables e below (s₁.setTop (entryFrame m #[.ref a, .ref b, .int (Int32.ofNat o), .int (Int32.ofNat len), .null] 6)) (T8.setTop (mkF m 45 #[.val (.ref a), .val (.ref b), .val (.int (Int32.ofNat o)), .val (.int (Int32.ofNat len)), .val .null, .val (.ref s.heap.size)] [.int (Int32.ofNat N.slots.size), .ref s.heap.size, .ref a])) := by
    have hc : Steps p.tables e below (s₁.setTop (entryFrame m #[.ref a, .ref b, .int (Int32.ofNat o), .int (Int32.ofNat len), .null] 6)) (T8.setTop (mkF m 45 #[.val (.ref a), .val (.ref b), .val (.int (Int32.ofNat o)), .val (.int (Int32.ofNat len)), .val .null, .val (.ref s.heap.size)] [.int (Int32.ofNat len), .ref s.heap.size, .ref a])) := c9.trans (by
      refine XS.astore X8.here hexec rfl (hb hbytes d39) rfl rfl rfl ?_
      refine XS.aloadN X8.here hexec rfl (hb hbytes d41) rfl rfl ?_
      refine XS.aload X8.here hexec rfl (hb hbytes d42) rfl rfl ?_
      refine XS.iloadN X8.here hexec rfl (hb hbytes d44) rfl ?_
      exact Steps.refl _)
    rw [n4]; exact hc
  obtain ⟨v11, T11, X11, E11, g11⟩ := X8.callS hexec (CodL.law l s.heap.size N) hown (wks W (staticW "java/lang/String" 47 CodL.yN)) (wk W CodL.tab) (W := 1) (Nat.le_of_ble_eq_true rfl) (Nat.le_of_ble_eq_true rfl) (Nat.le_refl _) (by show 0 + len + 0 ≤ len; omega) (g := (mkF m 45 #[.val (.ref a), .val (.ref b), .val (.int (Int32.ofNat o)), .val (.int (Int32.ofNat len)), .val .null, .val (.ref s.heap.size)] [.int (Int32.ofNat N.slots.size), .ref s.heap.size, .ref a])) rfl (by rw [hml]; rfl) c10 (argsL := [.ref s.heap.size, .int (Int32.ofNat N.slots.size)]) (rest := [.ref a]) rfl rfl (by show 2 * 0 + (1 + 0) ≤ _; decide) (hb hbytes d45) (⟨rfl, n1⟩)
  obtain ⟨rfl, q11⟩ := E11
  have hB11 := hB1.mv (X8.warmed.alike.symm.trans X11.warmed.alike) q11
  have c12 : Steps p.tables e below (s₁.setTop (entryFrame m #[.ref a, .ref b, .int (Int32.ofNat o), .int (Int32.ofNat len), .null] 6)) (T11.setTop (mkF m 48 #[.val (.ref a), .val (.ref b), .val (.int (Int32.ofNat o)), .val (.int (Int32.ofNat len)), .val .null, .val (.ref s.heap.size)] [.int 0, .ref a])) := g11
  obtain ⟨T13, X13, p13, bl13, sl13, st13⟩ := X11.finit hexec hown (wk W (.fieldLink "java/lang/String" 15 "java/lang/String" "coder" "B")) (Or.inr ⟨_, (wk W (.laysFinal "java/lang/String" "java/lang/String" "coder" "B"))⟩) (Or.inl ⟨rfl, hnm⟩) f2 (Or.inl rfl) hB11 (t := .byte) (by decide +kernel) rfl (g := (mkF m 48 #[.val (.ref a), .val (.ref b), .val (.int (Int32.ofNat o)), .val (.int (Int32.ofNat len)), .val .null, .val (.ref s.heap.size)] [.int 0, .ref a])) rfl (rest := []) rfl (hb hbytes d48)
  have c14 : Steps p.tables e below (s₁.setTop (entryFrame m #[.ref a, .ref b, .int (Int32.ofNat o), .int (Int32.ofNat len), .null] 6)) (T13.setTop (mkF m 54 #[.val (.ref a), .val (.ref b), .val (.int (Int32.ofNat o)), .val (.int (Int32.ofNat len)), .val .null, .val (.ref s.heap.size)] [.ref s.heap.size, .ref a])) := (c12.trans (st13 _ (Steps.refl _))).trans (by
    refine XS.aloadN X13.here hexec rfl (hb hbytes d51) rfl rfl ?_
    refine XS.aload X13.here hexec rfl (hb hbytes d52) rfl rfl ?_
    exact Steps.refl _)
  obtain ⟨T15, X15, p15, bl15, sl15, st15⟩ := X13.finit hexec hown (wk W (.fieldLink "java/lang/String" 9 "java/lang/String" "value" "[B")) (Or.inr ⟨_, (wk W (.laysFinal "java/lang/String" "java/lang/String" "value" "[B"))⟩) (Or.inl ⟨rfl, hnm⟩) f1 (Or.inl rfl) bl13 (t := (.array .byte)) (by decide +kernel) rfl (g := (mkF m 54 #[.val (.ref a), .val (.ref b), .val (.int (Int32.ofNat o)), .val (.int (Int32.ofNat len)), .val .null, .val (.ref s.heap.size)] [.ref s.heap.size, .ref a])) rfl (rest := []) rfl (hb hbytes d54)
  have c16 : Steps p.tables e below (s₁.setTop (entryFrame m #[.ref a, .ref b, .int (Int32.ofNat o), .int (Int32.ofNat len), .null] 6)) (T15.setTop (mkF m 57 #[.val (.ref a), .val (.ref b), .val (.int (Int32.ofNat o)), .val (.int (Int32.ofNat len)), .val .null, .val (.ref s.heap.size)] [])) := c14.trans (st15 _ (Steps.refl _))
  have ap := apart (Or.inr ⟨_, (wk W (.laysFinal "java/lang/String" "java/lang/String" "value" "[B"))⟩) (Or.inr ⟨_, (wk W (.laysFinal "java/lang/String" "java/lang/String" "coder" "B"))⟩) f1 f2 (t₁ := .array .byte) (t₂ := .byte) (by decide +kernel) (by decide +kernel) (by decide)
  have al := X8.warmed.alike.symm.trans X15.warmed.alike
  have n7 : T11.heap[s.heap.size]? = some N := by rw [q11]; exact n1.1
  exact ⟨T15, none, _, _, _, X15, by simp, rfl, by omega, (fun _ => rfl), ⟨rfl, _, N, bl15, ((Same.refl D _).set _ (by simp)).set _ (by simp), sl15, (Cell.slots_setSlot_ne _ ap).trans sl13, n1.keep al (p15.other hne (p13.other hne n7)), n2, by rw [al.findClass]; exact n3, n4, n5, fun y c h1 h2 => p15.other h1 (p13.other h1 (by rw [q11]; exact n6 y c h2)), by rw [p15.2.2, p13.2.2, q11]; exact z8⟩, fun fs hl => c16.trans (X15.returnOut hexec hret (hb hbytes d57) hl)⟩
end New4
namespace New1
def yN : MethodName := ⟨"java/lang/String", "<init>", "([C)V"⟩
abbrev yB : ByteArray := jdk_42_method_3_code
theorem d0 : decode yB 0 = .ok (.aload_n 0, 1) := by decide +kernel
theorem d1 : decode yB 1 = .ok (.aload_n 1, 1) := by decide +kernel
theorem d2 : decode yB 2 = .ok (.iconst 0, 1) := by decide +kernel
theorem d3 : decode yB 3 = .ok (.aload_n 1, 1) := by decide +kernel
theorem d4 : decode yB 4 = .ok (.arraylength, 1) := by decide +kernel
theorem d5 : decode yB 5 = .ok (.aconst_null, 1) := by decide +kernel
theorem d6 : decode yB 6 = .ok (.invokespecial 27, 3) := by decide +kernel
theorem d9 : decode yB 9 = .ok (.return_, 1) := by decide +kernel
def site : List Cond := [New4.tab] ++ initW "java/lang/String" 27 New4.yN
def tab : Cond := tabOf yN yB 2 none site
def P (a : Addr) (D : Cell) (fV fC : Field) (b : Addr) (A : Cell) (z : Int32) (args : Array Value) (s : State) : Prop := args = #[.ref a, .ref b] ∧ Blank "java/lang/String" a D s ∧ Found "java/lang/String" "value" "[B" fV s ∧ Found "java/lang/String" "coder" "B" fC s ∧ Ch b A s ∧ StaticIs s "java/lang/String" "COMPACT_STRINGS" "Z" (.int z) ∧ ¬ z = 0 ∧ 0 < A.slots.size ∧ A.slots.size ≤ 536870912 ∧ ∀ i, i < A.slots.size → ¬ 255 < cv A i
def E (a : Addr) (D : Cell) (fV fC : Field) (A : Cell) (r : Option Value) (s u : State) : Prop := Got a D fV fC A 0 A.slots.size r s u
/-- new String(chars), not empty, no char above 255: a Latin-1 String of their low bytes -/
theorem law (l : Launch) (a : Addr) (D : Cell) (fV fC : Field) (b : Addr) (A : Cell) (z : Int32) : Law l yN 2 1 3 52 yB 2 none site (P a D fV fC b A z) (E a D fV fC A) [⟨a, fC.slot⟩, ⟨a, fV.slot⟩] 1 A.slots.size := by
  refine Law.of_walk (plainFor_of_name (by decide +kernel)) (by decide +kernel) (by decide +kernel) (by decide) (fun _ _ h => by rw [h.1]; rfl) (fun _ U U' hal hh h => ⟨h.1, h.2.1.mv hal hh, h.2.2.1.al hal, h.2.2.2.1.al hal, h.2.2.2.2.1.mv hal hh, h.2.2.2.2.2.1.there hal hh, h.2.2.2.2.2.2⟩) (fun r U U' V V' h1 hal h2 h => Got.mv r U U' V V' h1 hal h2 h) ?_
  intro p e s m args below meth c s₁ X0 hexec hbytes hml hret hlk hnm hown hh0 W hP
  obtain ⟨rfl, hB, f1, f2, hA, s1, hz, l0, l2, hp⟩ := hP
  have c1 : Steps p.tables e below (s₁.setTop (entryFrame m #[.ref a, .ref b] 2)) (s₁.setTop (mkF m 0 #[.val (.ref a), .val (.ref b)] [])) := entry rfl
  have c2 : Steps p.tables e below (s₁.setTop (entryFrame m #[.ref a, .ref b] 2)) (s₁.setTop (mkF m 6 #[.val (.ref a), .val (.ref b)] [.null, .int (Int32.ofNat A.slots.size), .int 0, .ref b, .ref a])) := c1.trans (by
    refine XS.aloadN X0.here hexec rfl (hb hbytes d0) rfl rfl ?_
    refine XS.aloadN X0.here hexec rfl (hb hbytes d1) rfl rfl ?_
    refine iconstV X0.here hexec rfl 0 (hb hbytes d2) (by decide) ?_
    refine XS.aloadN X0.here hexec rfl (hb hbytes d3) rfl rfl ?_
    refine X0.alen hexec (hA.1.mv X0.warmed.alike hh0) rfl rfl (hb hbytes d4) ?_
    refine XS.aconstNull X0.here hexec rfl (hb hbytes d5) ?_
    exact Steps.refl _)
  obtain ⟨v3, T3, X3, E3, g3⟩ := X0.callN hexec (New4.law l a D fV fC b A z 0 A.slots.size) rfl hown (wks W (initW "java/lang/String" 27 New4.yN)) (W New4.tab (by simp only [site, List.mem_cons, List.mem_append, true_or, or_true])) (W := 0) (Nat.le_of_ble_eq_true rfl) (Nat.le_of_ble_eq_true rfl) (Nat.le_refl _) (by show 0 + A.slots.size ≤ A.slots.size; omega) (g := (mkF m 6 #[.val (.ref a), .val (.ref b)] [.null, .int (Int32.ofNat A.slots.size), .int (Int32.ofNat 0), .ref b, .ref a])) rfl (by rw [hml]; rfl) c2 (argsL := [.ref b, .int (Int32.ofNat 0), .int (Int32.ofNat A.slots.size), .null]) (rest := []) rfl rfl (by show 2 * 0 + 0 ≤ _; decide) (hb hbytes d6) (⟨rfl, hB.mv X0.warmed.alike hh0, f1.al X0.warmed.alike, f2.al X0.warmed.alike, hA.mv X0.warmed.alike hh0, s1.there X0.warmed.alike hh0, hz, l0, by omega, l2, fun i hi => by rw [Nat.zero_add]; exact hp i hi⟩)
  have e0 := Got.mv _ s₁ s _ _ hh0.symm (Vm.Alike.refl _) rfl E3
  obtain rfl := e0.1
  have c4 : Steps p.tables e below (s₁.setTop (entryFrame m #[.ref a, .ref b] 2)) (T3.setTop (mkF m 9 #[.val (.ref a), .val (.ref b)] [])) := g3
  exact ⟨T3, none, _, _, _, X3, by simp, rfl, by omega, (fun _ => rfl), e0, fun fs hl => c4.trans (X3.returnOut hexec hret (hb hbytes d9) hl)⟩
theorem pays {l : Launch} {R : Room} {p : Program} {e : Env} {below : List Frame} {s : State} {sargs : Array Value} {len W : Nat} (a : Addr) (D : Cell) (fV fC : Field) (b : Addr) (A : Cell) (z : Int32) (htab : tab.before sargs s = true) (hfr : 4 ≤ R.frames) (hlo : W + 65 ≤ R.locals) :
    Back l R p e below s sargs yN len W (fun A₁ a₁ => A₁.cells + 1 ≤ R.cells ∧ A₁.slots + A.slots.size ≤ R.slots ∧ P a D fV fC b A z a₁ A₁.U) (fun A₁ _ v₁ B₁ => E a D fV fC A v₁ A₁.U B₁.U ∧ B₁.locs = A₁.locs ++ [⟨a, fC.slot⟩, ⟨a, fV.slot⟩] ∧ B₁.cells = A₁.cells + 1 ∧ B₁.slots = A₁.slots + A.slots.size) :=
  (law l a D fV fC b A z).pays htab hfr (by omega)
end New1
/-- the byte, read back as charAt reads it, is the char -/
theorem lo8_mask {x : Int32} (h0 : ¬ x < 0) (h1 : ¬ 255 < x) : lo8 x &&& 255 = x := by
  have t : ∀ k : Fin 256, lo8 (Int32.ofNat k.val) &&& 255 = Int32.ofNat k.val := by decide +kernel
  rw [Int32.lt_iff_toInt_lt] at h0 h1
  have e0 : (0 : Int32).toInt = 0 := rfl
  have e1 : (255 : Int32).toInt = 255 := rfl
  obtain ⟨k, hk⟩ : ∃ k : Nat, x.toInt = k := ⟨x.toInt.toNat, by omega⟩
  have hx : x = Int32.ofNat k := Int32.toInt_inj.mp (by rw [hk, Int32.toInt_ofNat_small (by omega)])
  rw [hx]
  exact t ⟨k, by omega⟩
end StrChars
namespace StrChars.Road
open Jvm Sem ClassFile Op Lib Jvm.Stand Jvm.Free Jvm.Free.XT
open Jvm.Lib.Cold (StaticIs)
abbrev ST : String := "java/lang/String"
/-- every table word that New1's law asks, flat -/
abbrev words : List Jvm.Cond := [.code New1.yN New1.yB 2 none, .initialized ST, .methodLink ST 27 New4.yN, .instanceMethod New4.yN,
  .code New4.yN New4.yB 6 none, .fieldLink ST 38 ST "COMPACT_STRINGS" "Z", .laysFinal ST ST "value" "[B", .fieldLink ST 9 ST "value" "[B", .laysFinal ST ST "coder" "B", .fieldLink ST 15 ST "coder" "B",
  .methodLink ST 1 Lib.objectInit, .instanceMethod Lib.objectInit, .code Lib.objectInit ⟨#[0xb1]⟩ 1 none, .methodLink ST 177 Cmp3.yN, .static Cmp3.yN, .methodLink ST 47 CodL.yN, .static CodL.yN,
  .code Cmp3.yN Cmp3.yB 6 (some (.array .byte)), .initialized U16, .arrayClass .byte, .methodLink U16 115 Cmp5.yN, .static Cmp5.yN, .code Cmp5.yN Cmp5.yB 7 (some .int), .code CodL.yN CodL.yB 2 (some .byte)]
theorem tab_of {a : Array Value} {s : State} (h : ∀ w ∈ words, w.before a s = true) : New1.tab.before a s = true := by
  have h5 : Cmp5.tab.before a s = true := unparts (wk h (.code Cmp5.yN Cmp5.yB 7 (some .int))) (wks h (.initialized Cmp5.yN.cls :: Cmp5.site))
  have hc : CodL.tab.before a s = true := unparts (wk h (.code CodL.yN CodL.yB 2 (some .byte))) (wks h (.initialized CodL.yN.cls :: CodL.site))
  have q5 : ∀ w ∈ Cmp5.tab :: words, w.before a s = true := fun w hw => (List.mem_cons.mp hw).elim (fun e => e ▸ h5) (h w)
  have h3 : Cmp3.tab.before a s = true := unparts (wk q5 (.code Cmp3.yN Cmp3.yB 6 (some (.array .byte)))) (wks q5 (.initialized Cmp3.yN.cls :: Cmp3.site))
  have q3 : ∀ w ∈ Cmp3.tab :: CodL.tab :: words, w.before a s = true := fun w hw => (List.mem_cons.mp hw).elim (fun e => e ▸ h3) fun hw => (List.mem_cons.mp hw).elim (fun e => e ▸ hc) (h w)
  have h4 : New4.tab.before a s = true := unparts (wk q3 (.code New4.yN New4.yB 6 none)) (wks q3 (.initialized New4.yN.cls :: New4.site))
  have q4 : ∀ w ∈ New4.tab :: words, w.before a s = true := fun w hw => (List.mem_cons.mp hw).elim (fun e => e ▸ h4) (h w)
  exact unparts (wk q4 (.code New1.yN New1.yB 2 none)) (wks q4 (.initialized New1.yN.cls :: New1.site))
/-- the words ride from the start Z to the walk's own state -/
theorem moved {Z s : State} {a0 args : Array Value} (hZ : Z.Warmed39 s.vm) (hw : ∀ d ∈ words, d.before a0 Z = true) : ∀ d ∈ words, d.before args s = true := fun d hd => by
  have q := hw d hd
  have t : ∀ d ∈ words, d = .arrayClass .byte ∨ (d.onTables && d.keepsFace) = true := by decide +kernel
  rcases t d hd with rfl | t
  · exact RoadKit.mvA hZ q
  · exact RoadKit.mv hZ q t
/-- WHAT COMES BACK, over the tables of the start Z: h the heap at the call, h' behind it -/
def Q (Z : State) (x : Addr) (A : Cell) (h : Heap) (v : Option Value) (h' : Heap) (L : List Loc) : Prop := v = none ∧ (∀ y ∈ L, y.base = x) ∧ RoadKit.Keep h h' [x] ∧ h'.size = h.size + 1 ∧ RoadKit.Exa Z h' x ST ∧ RoadKit.Fld Z h' x ST "value" "[B" (.ref h.size) ∧ RoadKit.Fld Z h' x ST "coder" "B" (.int 0) ∧
  (∃ V : Cell, RoadKit.Arr Z h' h.size V .byte ∧ V.vm = .none ∧ Z.vm.findClass "[B" = some V.cls ∧ V.slots.size = A.slots.size ∧ ∀ j, j < A.slots.size → V.slots[j]? = some (.int (lo8 (cv A j)))) ∧
  ∀ (O n d : String) (w : Value), RoadKit.Fld Z h x O n d w → RoadKit.slotOf Z O n d ≠ RoadKit.slotOf Z ST "value" "[B" → RoadKit.slotOf Z O n d ≠ RoadKit.slotOf Z ST "coder" "B" → RoadKit.Fld Z h' x O n d w
/-- **new String(chars) AT A CALL, IN THE ROAD'S FORM**: for specialBack behind newO: x the fresh String, b the char[] with the cell A -/
theorem back {p : Program} {l : Launch} {e : Env} {R : Room} {s : State} {args : Array Value} {below : List Frame} {len W : Nat} {Z : State} {a0 : Array Value} {h : Heap} (hZ : Z.Warmed39 s.vm) (hw : ∀ d ∈ words, d.before a0 Z = true) {kI : Nat} (wi : (Jvm.Cond.instantiable ST kI).before a0 Z = true)
    {x b : Addr} {A : Cell} {z : Int32} {v0 c0 : Value} (E : RoadKit.Exa Z h x ST) (V : RoadKit.Fld Z h x ST "value" "[B" v0) (C : RoadKit.Fld Z h x ST "coder" "B" c0) (K : RoadKit.Arr Z h b A .char) (hty : Typed .char A) (S : RoadKit.Sta Z h ST "COMPACT_STRINGS" "Z" (.int z)) (hz : ¬ z = 0)
    (l0 : 0 < A.slots.size) (l2 : A.slots.size ≤ 536870912) (hp : ∀ i, i < A.slots.size → ¬ 255 < cv A i) (hfr : 4 ≤ R.frames) (hlo : W + 65 ≤ R.locals) :
    Back l R p e below s args New1.yN len W (fun P a => a = #[.ref x, .ref b] ∧ P.U.heap = h ∧ P.cells + 1 ≤ R.cells ∧ P.slots + A.slots.size ≤ R.slots)
      (fun P _ v B => ∃ L, Q Z x A h v B.U.heap L ∧ B.locs = P.locs ++ L ∧ B.cells = P.cells + 1 ∧ B.slots = P.slots + A.slots.size) := by
  intro m meth c P g ig mk a X hg hsize hdg hW hn hp'
  obtain ⟨rfl, rfl, r1, r2⟩ := hp'
  have al : Z.vm.Alike P.U.vm := hZ.alike.trans X.warmed.alike
  obtain ⟨D, cfV, kV, iV, fV, hD, gV, stV, knV, obV, asV, slV⟩ := id V
  obtain ⟨D', cfC, kC, iC, fC, hD', gC, stC, -, -, asC, slC⟩ := id C
  cases hD.symm.trans hD'
  obtain ⟨D2, kD, e1, e2, e3, e4, e5⟩ := id E
  cases hD.symm.trans e1
  obtain ⟨c2, k2, i1, i2, i3, -⟩ := Cond.instantiable_spec wi
  cases e2.symm.trans i1
  cases e3.symm.trans i2
  obtain ⟨kU, u1, u2⟩ := al.2.2 _ _ e3
  have hB : Blank ST x D P.U := ⟨hD, ⟨knV, fun q hq => by rw [hq] at obV; cases obV⟩, by rw [al.findClass]; exact e2, kU, u1, by rw [u2]; exact i3, by rw [u2]; exact e5 i3⟩
  have F1 : Found ST "value" "[B" fV P.U := ⟨SBG.found_only al ⟨cfV, kV, iV, gV⟩, stV⟩
  have F2 : Found ST "coder" "B" fC P.U := ⟨SBG.found_only al ⟨cfC, kC, iC, gC⟩, stC⟩
  have hA : Ch b A P.U := ⟨⟨K.1, State.isArrayOf_alike al K.2.1, K.2.2, by omega⟩, hty⟩
  have hS : StaticIs P.U ST "COMPACT_STRINGS" "Z" (.int z) := by
    obtain ⟨cfS, iS, kS, fS, st, cS, t1, t2, t3, t4, t5, t6, t7⟩ := S
    exact StaticIs.there (s := { Z with heap := P.U.heap }) ⟨cfS, iS, kS, fS, st, cS, t1, t2, t3, t4, t5, (fun q => by rw [q] at t6; cases t6), t7⟩ al rfl
  obtain ⟨v, B, X', ⟨⟨hv, E', V', q1, q2, q3, q4, q5, q6, q7, q8, q9, q10, q11⟩, hl, hc, hs⟩, st⟩ := New1.pays x D fV fC b A z (tab_of (moved hZ hw)) hfr hlo m meth c P g ig mk _ X hg hsize hdg hW hn ⟨r1, r2, rfl, hB, F1, F2, hA, hS, hz, l0, l2, hp⟩
  have al' : Z.vm.Alike B.U.vm := hZ.alike.trans X'.warmed.alike
  have hsz : E'.slots.size = D.slots.size := by
    obtain ⟨-, -, -, kB, w1, w2, w3⟩ := q1
    obtain ⟨kB', y1, y2⟩ := al'.2.2 _ _ e3
    rw [q2.2.1] at w1
    cases w1.symm.trans y1
    rw [w3, e5 i3, y2]
  refine ⟨v, B, X', ⟨_, ⟨hv, ?_, ⟨by omega, fun y cy hy hn' => q10 y cy (by simpa using hn') hy, fun y cy hy => ?_⟩, q11, ⟨E', _, q1.1, by rw [q2.2.1]; exact e2, by rw [q2.2.1]; exact e3, by rw [q2.1]; exact obV, fun _ => by rw [hsz]; exact e5 i3⟩,
    ⟨E', cfV, kV, iV, fV, q1.1, gV, stV, by rw [q2.1]; exact knV, by rw [q2.1]; exact obV, by rw [q2.2.1]; exact asV, q3⟩, ⟨E', cfC, kC, iC, fC, q1.1, gC, stC, by rw [q2.1]; exact knV, by rw [q2.1]; exact obV, by rw [q2.2.1]; exact asC, q4⟩,
    ⟨V', ⟨q5.1, State.isArrayOf_alike al'.symm q5.2.1, q5.2.2.1⟩, q6, by rw [← al'.findClass]; exact q7, q8, fun j hj => by have := q9 j hj; rwa [Nat.zero_add] at this⟩, fun O n d w F n1 n2 => ?_⟩, hl, hc, hs⟩, st⟩
  · intro y hy
    simp only [List.mem_cons, List.not_mem_nil, or_false] at hy
    rcases hy with rfl | rfl <;> rfl
  · by_cases q : y = x
    · subst q
      cases hD.symm.trans hy
      exact ⟨E', q1.1, q2.2.1, q2.1, hsz⟩
    · exact ⟨cy, q10 y cy q hy, rfl, rfl, rfl⟩
  · obtain ⟨D3, cf, k, i, f, g1, g2, g3, g4, g5, g6, g7⟩ := F
    cases hD.symm.trans g1
    simp only [RoadKit.slotOf, g2, gV, gC, Option.map_some, Option.getD_some] at n1 n2
    exact ⟨E', cf, k, i, f, q1.1, g2, g3, by rw [q2.1]; exact g4, by rw [q2.1]; exact g5, by rw [q2.2.1]; exact g6, by rw [q2.2.2 f.slot (by simp [n1, n2])]; exact g7⟩
end StrChars.Road
namespace StrChars.Road
open Jvm Sem ClassFile Op Lib Jvm.Stand Jvm.Free Jvm.Free.XT
/-- WHAT COMES BACK, the byte[] as a list of values -/
def QA (Z : State) (x : Addr) (zn : Int32) (cs : List Int32) (h : Heap) (v : Option Value) (h' : Heap) (L : List Loc) : Prop := v = none ∧ (∀ y ∈ L, y.base = x) ∧ RoadKit.Keep h h' [x] ∧ h'.size = h.size + 1 ∧ RoadKit.Exa Z h' x ST ∧ RoadKit.Fld Z h' x ST "value" "[B" (.ref h.size) ∧ RoadKit.Fld Z h' x ST "coder" "B" (.int 0) ∧
  (∃ kb, Z.vm.findClass "[B" = some kb ∧ RoadKit.Arv Z h' h.size kb .byte zn (cs.map fun c => .int (lo8 c)) (.int 0)) ∧
  ∀ (O n d : String) (w : Value), RoadKit.Fld Z h x O n d w → RoadKit.slotOf Z O n d ≠ RoadKit.slotOf Z ST "value" "[B" → RoadKit.slotOf Z O n d ≠ RoadKit.slotOf Z ST "coder" "B" → RoadKit.Fld Z h' x O n d w
/-- **new String(chars) AT A CALL, THE ARRAYS AS LISTS**: the char[] at b holds cs, not empty, no char above 255 -/
theorem backArv {p : Program} {l : Launch} {e : Env} {R : Room} {s : State} {args : Array Value} {below : List Frame} {len W : Nat} {Z : State} {a0 : Array Value} {h : Heap} (hZ : Z.Warmed39 s.vm) (hw : ∀ d ∈ words, d.before a0 Z = true) {kI : Nat} (wi : (Jvm.Cond.instantiable ST kI).before a0 Z = true)
    {x b : Addr} {k : ClassId} {zn z : Int32} {cs : List Int32} {dv v0 c0 : Value} (E : RoadKit.Exa Z h x ST) (V : RoadKit.Fld Z h x ST "value" "[B" v0) (C : RoadKit.Fld Z h x ST "coder" "B" c0) (K : RoadKit.Arv Z h b k .char zn (cs.map Value.int) dv) (S : RoadKit.Sta Z h ST "COMPACT_STRINGS" "Z" (.int z)) (hz : ¬ z = 0)
    (hlen : zn.toNatClampNeg = cs.length) (h0 : 0 < cs.length) (hbig : cs.length ≤ 536870912) (hall : ∀ c ∈ cs, ¬ 255 < c) (hfr : 4 ≤ R.frames) (hlo : W + 65 ≤ R.locals) :
    Back l R p e below s args New1.yN len W (fun P a => a = #[.ref x, .ref b] ∧ P.U.heap = h ∧ P.cells + 1 ≤ R.cells ∧ P.slots + cs.length ≤ R.slots)
      (fun P _ v B => ∃ L, QA Z x zn cs h v B.U.heap L ∧ B.locs = P.locs ++ L ∧ B.cells = P.cells + 1 ∧ B.slots = P.slots + cs.length) := by
  obtain ⟨A, K1, K2, K3, K4, K5, K6⟩ := K
  have e : A.slots.size = cs.length := K3.trans hlen
  have hat : ∀ (i : Nat) (hi : i < cs.length), A.slots[i]? = some (.int cs[i]) := fun i hi => by rw [K5 i (by omega)]; simp [List.getD_eq_getElem?_getD, hi]
  have hcv : ∀ (i : Nat) (hi : i < cs.length), cv A i = cs[i] := fun i hi => by unfold cv; rw [hat i hi]
  have hty : Typed .char A := fun i v hv => by
    have hi : i < A.slots.size := (Array.getElem?_eq_some_iff.mp hv).1
    have q := K5 i hi
    rw [hv] at q
    rw [Option.some.inj q]
    exact K6 i hi
  refine Back.mono (back hZ hw wi E V C K1 hty S hz (by omega) (by omega) (fun i hi => by rw [hcv i (by omega)]; exact hall _ (List.getElem_mem _)) hfr hlo) (fun P a hp => ⟨hp.1, hp.2.1, hp.2.2.1, by rw [e]; exact hp.2.2.2⟩) (fun P a v B hp hq => ?_)
  obtain ⟨L, ⟨q1, q2, q3, q4, q5, q6, q7, ⟨V', v1, v2, v3, v4, v5⟩, q9⟩, hl, hc, hs⟩ := hq
  refine ⟨L, ⟨q1, q2, q3, q4, q5, q6, q7, ⟨V'.cls, v3, V', v1, rfl, by rw [v4, e, hlen], K4, fun i hi => ?_, fun i hi => ?_⟩, q9⟩, hl, hc, by rw [hs, e]⟩
  · have hi' : i < cs.length := by omega
    rw [v5 i (by omega), hcv i hi']; simp [List.getD_eq_getElem?_getD, hi']
  · have hi' : i < cs.length := by omega
    simp only [List.getD_eq_getElem?_getD, List.getElem?_map, List.getElem?_eq_getElem hi', Option.map_some, Option.getD_some]
    exact fits_lo8 _
end StrChars.Road
namespace StrChars.Road
open Jvm Sem ClassFile Op Lib Jvm.Stand Jvm.Free Jvm.Free.XT
/-- WHAT COMES BACK, in the writer's own shape -/
def QV (Z : State) (x : Addr) (N : Int32) (bs : List Int32) (h : Heap) (n0 : Nat) (v : Option Value) (h' : Heap) (L : List Loc) : Prop := v = none ∧ RoadKit.Fr n0 L ∧ RoadKit.Keep h h' [x] ∧ RoadKit.Exa Z h' x ST ∧ RoadKit.Fld Z h' x ST "coder" "B" (.int 0) ∧
  ∃ (t : Addr) (kb : ClassId), n0 ≤ t ∧ h.size ≤ t ∧ ¬ t = x ∧ RoadKit.Fld Z h' x ST "value" "[B" (.ref t) ∧ RoadKit.Arv Z h' t kb .byte N (bs.map Value.int) (.int 0)
/-- **new String(chars) AT A CALL, FOR THE WRITER**: a char[] of n known ints, each 0 to 255 -/
theorem backV {p : Program} {l : Launch} {e : Env} {R : Room} {s : State} {args : Array Value} {below : List Frame} {len W : Nat} {Z : State} {a0 : Array Value} {h : Heap} (hZ : Z.Warmed39 s.vm) (hw : ∀ d ∈ words, d.before a0 Z = true) {kI : Nat} (wi : (Jvm.Cond.instantiable ST kI).before a0 Z = true)
    {x b : Addr} {kC : ClassId} {cs bs : List Int32} {d v0 c0 : Value} {z N : Int32} {n n0 : Nat} (hx0 : n0 ≤ x) (hh0 : n0 ≤ h.size) (E : RoadKit.Exa Z h x ST) (V : RoadKit.Fld Z h x ST "value" "[B" v0) (C : RoadKit.Fld Z h x ST "coder" "B" c0) (K : RoadKit.Arv Z h b kC .char N (cs.map Value.int) d) (S : RoadKit.Sta Z h ST "COMPACT_STRINGS" "Z" (.int z)) (hz : ¬ z = 0)
    (hn : cs.length = n) (hN : N = Int32.ofNat n) (l0 : 0 < n) (l2 : n ≤ 4000) (hp : ∀ c ∈ cs, ¬ c < 0 ∧ ¬ (255 : Int32) < c) (hb : bs = cs.map (fun c => c.toInt8.toInt32)) (hfr : 4 ≤ R.frames) (hlo : W + 65 ≤ R.locals) :
    Back l R p e below s args (⟨"java/lang/String", "<init>", "([C)V"⟩ : MethodName) len W (fun P a => a = #[.ref x, .ref b] ∧ P.U.heap = h ∧ P.cells + 1 ≤ R.cells ∧ P.slots + n ≤ R.slots)
      (fun P _ v B => ∃ L, QV Z x N bs h n0 v B.U.heap L ∧ B.locs = P.locs ++ L ∧ B.cells = P.cells + 1 ∧ B.slots = P.slots + n) := by
  subst hn hN hb
  refine Back.mono (backArv hZ hw wi E V C K S hz (n32 (by omega)) l0 (by omega) (fun c hc => (hp c hc).2) hfr hlo) (fun P a hp => hp) (fun P a v B hp hq => ?_)
  obtain ⟨L, ⟨q1, q2, q3, q4, q5, q6, q7, ⟨kb, v1, v2⟩, q9⟩, hl, hc, hs⟩ := hq
  exact ⟨L, ⟨q1, fun y hy => by rw [q2 y hy]; exact hx0, q3, q5, q7, h.size, kb, hh0, Nat.le_refl _, Nat.ne_of_gt E.lt, q6, by rw [List.map_map]; exact v2⟩, hl, hc, hs⟩
end StrChars.Road
namespace StrChars
open Jvm Sem ClassFile Op Lib Jvm.Stand Jvm.Free.XT Jvm.Free.ALB Jvm.Free.JM Jvm.Free
open Jvm.Lib.Cold (StaticIs)
def hi8 (x : Int32) : Int32 := lo8 (x >>> ((8 : Int32) &&& 31))
/-- what StringUTF16.getChar makes of two bytes -/
def pairCh (u v : Int32) : Int32 := (((u &&& 255) <<< ((0 : Int32) &&& 31)) ||| ((v &&& 255) <<< ((8 : Int32) &&& 31))).toUInt32.toUInt16.toUInt32.toInt32
theorem shr0 (c : Int32) : c >>> ((0 : Int32) &&& 31) = c := by
  have e : ((0 : Int32) &&& 31) = 0 := by decide
  rw [e]
  apply Int32.toBitVec_inj.mp
  rw [Int32.toBitVec_shiftRight]
  have e1 : ((0 : Int32).toBitVec.smod 32) = 0#32 := by decide
  rw [e1, BitVec.sshiftRight_eq']
  exact BitVec.sshiftRight_zero
theorem lo8_and (x : Int32) : (lo8 x &&& 255).toBitVec.toNat = x.toBitVec.toNat % 256 := by
  have h : (lo8 x).toBitVec = (x.toBitVec.signExtend 8).signExtend 32 := by rw [lo8, Int8.toBitVec_toInt32, Int32.toBitVec_toInt8]
  rw [Int32.toBitVec_and, BitVec.toNat_and, h]
  have e : ((x.toBitVec.signExtend 8).signExtend 32).toNat % 256 = x.toBitVec.toNat % 256 := by
    rw [BitVec.toNat_signExtend]
    have hlt := x.toBitVec.isLt
    simp only [BitVec.toNat_setWidth, BitVec.toNat_signExtend]
    split <;> split <;> omega
  rw [← e]
  exact Nat.and_two_pow_sub_one_eq_mod _ 8
theorem pair_says {c : Int32} (h0 : ¬ c < 0) (h1 : ¬ 65535 < c) : pairCh (lo8 c) (hi8 c) = c := by
  rw [Int32.lt_iff_toInt_lt] at h0 h1
  have e0 : (0 : Int32).toInt = 0 := rfl
  have e1 : (65535 : Int32).toInt = 65535 := rfl
  have hc : c.toInt = c.toBitVec.toNat := by
    have := c.toBitVec.isLt
    have e : c.toInt = c.toBitVec.toInt := rfl
    rw [e] at h0 h1
    rw [e]
    rw [BitVec.toInt_eq_toNat_cond] at h0 h1 ⊢
    split at h0 <;> split <;> omega
  have hn : c.toBitVec.toNat < 65536 := by omega
  have a1 := lo8_and c
  have a2 : (hi8 c &&& 255).toBitVec.toNat = c.toBitVec.toNat / 256 := by
    rw [hi8, lo8_and]
    have e : ((8 : Int32) &&& 31) = 8 := by decide
    rw [e, Int32.toBitVec_shiftRight]
    have e2 : ((8 : Int32).toBitVec.smod 32) = 8#32 := by decide
    rw [e2, BitVec.sshiftRight_eq', BitVec.toNat_sshiftRight_of_msb_false (by rw [BitVec.msb_eq_false_iff_two_mul_lt]; omega)]
    show c.toBitVec.toNat >>> 8 % 256 = _
    rw [Nat.shiftRight_eq_div_pow]
    omega
  unfold pairCh
  apply Int32.toBitVec_inj.mp
  apply BitVec.eq_of_toNat_eq
  have f0 : ((0 : Int32) &&& 31) = 0 := by decide
  have f8 : ((8 : Int32) &&& 31) = 8 := by decide
  rw [f0, f8]
  have g : (((lo8 c &&& 255) <<< (0 : Int32)) ||| ((hi8 c &&& 255) <<< (8 : Int32))).toBitVec.toNat = c.toBitVec.toNat := by
    rw [Int32.toBitVec_or, Int32.toBitVec_shiftLeft, Int32.toBitVec_shiftLeft]
    have s0 : ((0 : Int32).toBitVec.smod 32) = 0#32 := by decide
    have s8 : ((8 : Int32).toBitVec.smod 32) = 8#32 := by decide
    rw [s0, s8, BitVec.toNat_or]
    simp only [BitVec.shiftLeft_eq', BitVec.toNat_shiftLeft, a1, a2]
    show (c.toBitVec.toNat % 256) <<< 0 % 2 ^ 32 ||| (c.toBitVec.toNat / 256) <<< 8 % 2 ^ 32 = _
    rw [Nat.shiftLeft_zero, Nat.mod_eq_of_lt (show c.toBitVec.toNat % 256 < 2 ^ 32 by omega), Nat.mod_eq_of_lt (show (c.toBitVec.toNat / 256) <<< 8 < 2 ^ 32 by rw [Nat.shiftLeft_eq]; omega), Nat.or_comm, ← Nat.shiftLeft_add_eq_or_of_lt (by omega), Nat.shiftLeft_eq]
    omega
  show BitVec.toNat (((((lo8 c &&& 255) <<< (0 : Int32)) ||| ((hi8 c &&& 255) <<< (8 : Int32))).toBitVec.setWidth 16).setWidth 32) = _
  rw [BitVec.toNat_setWidth, BitVec.toNat_setWidth, g]
  omega
end StrChars
namespace StrChars
open Jvm Sem ClassFile Op Lib Jvm.Stand Jvm.Free.XT Jvm.Free.ALB Jvm.Free.JM Jvm.Free
open Jvm.Lib.Cold (StaticIs)
theorem shr1 {n : Nat} (h : 2 * n < 2 ^ 31) : Int32.ofNat (2 * n) >>> ((1 : Int32) &&& 31) = Int32.ofNat n := by
  have e : ((1 : Int32) &&& 31) = 1 := by decide
  rw [e]
  apply Int32.toBitVec_inj.mp
  rw [Int32.toBitVec_shiftRight]
  have e1 : ((1 : Int32).toBitVec.smod 32) = 1#32 := by decide
  have hm : (BitVec.ofNat 32 (2 * n)).toNat = 2 * n := by rw [BitVec.toNat_ofNat, Nat.mod_eq_of_lt (by omega)]
  rw [e1, BitVec.sshiftRight_eq']
  apply BitVec.eq_of_toNat_eq
  show ((BitVec.ofNat 32 (2 * n)).sshiftRight 1).toNat = (BitVec.ofNat 32 n).toNat
  rw [BitVec.toNat_sshiftRight_of_msb_false (by rw [BitVec.msb_eq_false_iff_two_mul_lt, hm]; omega), hm, BitVec.toNat_ofNat, Nat.shiftRight_eq_div_pow]
  omega
/-- charAt's cast of a byte read back -/
def chr8 (u : Int32) : Int32 := (u &&& 255).toUInt32.toUInt16.toUInt32.toInt32
theorem chr8_lo8 {c : Int32} (h0 : ¬ c < 0) (h1 : ¬ 255 < c) : chr8 (lo8 c) = c := by
  have t : ∀ k : Fin 256, (Int32.ofNat k.val).toUInt32.toUInt16.toUInt32.toInt32 = Int32.ofNat k.val := by decide +kernel
  unfold chr8
  rw [lo8_mask h0 h1]
  rw [Int32.lt_iff_toInt_lt] at h0 h1
  have e0 : (0 : Int32).toInt = 0 := rfl
  have e1 : (255 : Int32).toInt = 255 := rfl
  obtain ⟨k, hk⟩ : ∃ k : Nat, c.toInt = k := ⟨c.toInt.toNat, by omega⟩
  have hx : c = Int32.ofNat k := Int32.toInt_inj.mp (by rw [hk, Int32.toInt_ofNat_small (by omega)])
  rw [hx]
  exact t ⟨k, by omega⟩
theorem narrow_ch {c : Int32} (h0 : ¬ c < 0) (h1 : ¬ 65535 < c) : narrow .char (.int c) = .int c := by
  have q : narrow .char (.int (pairCh (lo8 c) (hi8 c))) = .int (pairCh (lo8 c) (hi8 c)) := narrow_c _
  rwa [pair_says h0 h1] at q
/-- the array's cell V codes the n chars f 0 .. f (n - 1) by the coder cd, as the JDK does: coder 1 just where some char is above 255 -/
def Cod (cd : Int32) (n : Nat) (f : Nat → Int32) (V : Cell) : Prop := (cd = 0 ∧ V.slots.size = n ∧ ∀ j, j < n → V.slots[j]? = some (.int (lo8 (f j))) ∧ ¬ 255 < f j) ∨ (cd = 1 ∧ V.slots.size = 2 * n ∧ (∀ j, j < n → V.slots[2 * j]? = some (.int (lo8 (f j))) ∧ V.slots[2 * j + 1]? = some (.int (hi8 (f j)))) ∧ ∃ j, j < n ∧ 255 < f j)
theorem Cod.cd {cd : Int32} {n : Nat} {f : Nat → Int32} {V : Cell} (h : Cod cd n f V) : cd = 0 ∨ cd = 1 := h.imp (fun q => q.1) fun q => q.1
theorem Cod.len {cd : Int32} {n : Nat} {f : Nat → Int32} {V : Cell} (h : Cod cd n f V) (hs : V.slots.size < 2 ^ 31) : Int32.ofNat V.slots.size >>> (cd &&& 31) = Int32.ofNat n := by
  rcases h with ⟨rfl, h, -⟩ | ⟨rfl, h, -⟩
  · rw [shr0, h]
  · rw [h, shr1 (by omega)]
/-- **x is a String of the n chars f 0 .. f (n - 1)**, Latin-1 or UTF-16; its array at t has the cell V -/
def Txt (x t : Addr) (V : Cell) (cd : Int32) (n : Nat) (f : Nat → Int32) (U : State) : Prop := Exact "java/lang/String" x U ∧ Has x "java/lang/String" "value" "[B" (.ref t) U ∧ Has x "java/lang/String" "coder" "B" (.int cd) U ∧ XT.Arr .byte t V U ∧ Cod cd n f V ∧ ∀ j, j < n → ¬ f j < 0 ∧ ¬ 65535 < f j
theorem Txt.mv {x t : Addr} {V : Cell} {cd : Int32} {n : Nat} {f : Nat → Int32} {U U' : State} (h : Txt x t V cd n f U) (hal : U.vm.Alike U'.vm) (hh : U'.heap = U.heap) : Txt x t V cd n f U' := ⟨h.1.mv hal hh, h.2.1.mv hal hh, h.2.2.1.mv hal hh, h.2.2.2.1.mv hal hh, h.2.2.2.2⟩
namespace Cdr
def yN : MethodName := ⟨"java/lang/String", "coder", "()B"⟩
abbrev yB : ByteArray := jdk_42_method_152_code
theorem d0 : decode yB 0 = .ok (.getstatic 38, 3) := by decide +kernel
theorem d3 : decode yB 3 = .ok (.ifCond (.eq) 10, 3) := by decide +kernel
theorem d6 : decode yB 6 = .ok (.aload_n 0, 1) := by decide +kernel
theorem d7 : decode yB 7 = .ok (.getfield 15, 3) := by decide +kernel
theorem d10 : decode yB 10 = .ok (.goto 4, 3) := by decide +kernel
theorem d14 : decode yB 14 = .ok (.ireturn, 1) := by decide +kernel
def site : List Cond := [.fieldLink "java/lang/String" 38 "java/lang/String" "COMPACT_STRINGS" "Z", .fieldLink "java/lang/String" 15 "java/lang/String" "coder" "B"]
def tab : Cond := tabOf yN yB 1 (some .byte) site
def P (x : Addr) (cd z : Int32) (args : Array Value) (s : State) : Prop := args = #[.ref x] ∧ Has x "java/lang/String" "coder" "B" (.int cd) s ∧ (cd = 0 ∨ cd = 1) ∧ StaticIs s "java/lang/String" "COMPACT_STRINGS" "Z" (.int z) ∧ ¬ z = 0
def E (cd : Int32) (r : Option Value) (s u : State) : Prop := XT.PureE (some (.int cd)) r s u
theorem law (l : Launch) (x : Addr) (cd z : Int32) : Law l yN 1 0 0 0 yB 1 (some .byte) site (P x cd z) (E cd) [] 0 0 := by
  refine Law.of_walk (plainFor_of_name (by decide +kernel)) (by decide +kernel) (by decide +kernel) (by decide) (fun _ _ h => by rw [h.1]; rfl) (fun _ U U' hal hh h => ⟨h.1, h.2.1.mv hal hh, h.2.2.1, h.2.2.2.1.there hal hh, h.2.2.2.2⟩) (fun r U U' V V' h1 hal h2 h => XT.PureE.mv r U U' V V' h1 hal h2 h) ?_
  intro p e s m args below meth c s₁ X0 hexec hbytes hml hret hlk hnm hown hh0 W hP
  obtain ⟨rfl, hx, hc, s1, hz⟩ := hP
  have c1 : Steps p.tables e below (s₁.setTop (entryFrame m #[.ref x] 1)) (s₁.setTop (mkF m 0 #[.val (.ref x)] [])) := entry rfl
  obtain ⟨T2, X2, q2, st2⟩ := X0.sget hexec hown (wk W (.fieldLink "java/lang/String" 38 "java/lang/String" "COMPACT_STRINGS" "Z")) s1 (fun _ _ h => by rw [hh0]; exact h) (g := (mkF m 0 #[.val (.ref x)] [])) rfl (hb hbytes d0)
  have hh2 := q2.trans hh0
  have c3 : Steps p.tables e below (s₁.setTop (entryFrame m #[.ref x] 1)) (T2.setTop (mkF m 7 #[.val (.ref x)] [.ref x])) := (c1.trans (st2 _ (Steps.refl _))).trans (by
    refine XS.ifNo X2.here hexec rfl (hb hbytes d3) rfl (i0_eq_f hz) ?_
    refine XS.aloadN X2.here hexec rfl (hb hbytes d6) rfl rfl ?_
    exact Steps.refl _)
  obtain ⟨T4, X4, q4, st4⟩ := X2.hget hexec hown (wk W (.fieldLink "java/lang/String" 15 "java/lang/String" "coder" "B")) (hx.mv X2.warmed.alike hh2) (g := (mkF m 7 #[.val (.ref x)] [.ref x])) rfl (rest := []) rfl (hb hbytes d7)
  have c5 : Steps p.tables e below (s₁.setTop (entryFrame m #[.ref x] 1)) (T4.setTop (mkF m 14 #[.val (.ref x)] [.int cd])) := (c3.trans (st4 _ (Steps.refl _))).trans (by
    refine XS.goto X4.here hexec rfl (pc0 := 10) rfl (hb hbytes d10) (by decide) rfl ?_
    exact Steps.refl _)
  exact ⟨T4, some (.int cd), _, _, _, X4, rfl, rfl, rfl, (fun h => by cases h), ⟨rfl, q4.trans hh2⟩, fun fs hl => c5.trans (X4.ireturnOut hexec hret (by rcases hc with rfl | rfl <;> rfl) (Or.inr (Or.inr (Or.inl rfl))) (hb hbytes d14) hl)⟩
end Cdr
namespace Len
def yN : MethodName := ⟨"java/lang/String", "length", "()I"⟩
abbrev yB : ByteArray := jdk_42_method_54_code
theorem d0 : decode yB 0 = .ok (.aload_n 0, 1) := by decide +kernel
theorem d1 : decode yB 1 = .ok (.getfield 9, 3) := by decide +kernel
theorem d4 : decode yB 4 = .ok (.arraylength, 1) := by decide +kernel
theorem d5 : decode yB 5 = .ok (.aload_n 0, 1) := by decide +kernel
theorem d6 : decode yB 6 = .ok (.invokevirtual 335, 3) := by decide +kernel
theorem d9 : decode yB 9 = .ok (.ishr, 1) := by decide +kernel
theorem d10 : decode yB 10 = .ok (.ireturn, 1) := by decide +kernel
def site : List Cond := [.fieldLink "java/lang/String" 9 "java/lang/String" "value" "[B", Cdr.tab] ++ virtW "java/lang/String" 335 "java/lang/String" Cdr.yN Cdr.yN
def tab : Cond := tabOf yN yB 1 (some .int) site
def P (x t : Addr) (V : Cell) (cd : Int32) (n : Nat) (f : Nat → Int32) (z : Int32) (args : Array Value) (s : State) : Prop := args = #[.ref x] ∧ Txt x t V cd n f s ∧ StaticIs s "java/lang/String" "COMPACT_STRINGS" "Z" (.int z) ∧ ¬ z = 0
def E (n : Nat) (r : Option Value) (s u : State) : Prop := XT.PureE (some (.int (Int32.ofNat n))) r s u
/-- length() of a String of n chars, in either coding -/
theorem law (l : Launch) (x t : Addr) (V : Cell) (cd : Int32) (n : Nat) (f : Nat → Int32) (z : Int32) : Law l yN 1 0 1 13 yB 1 (some .int) site (P x t V cd n f z) (E n) [] 0 0 := by
  refine Law.of_walk (plainFor_of_name (by decide +kernel)) (by decide +kernel) (by decide +kernel) (by decide) (fun _ _ h => by rw [h.1]; rfl) (fun _ U U' hal hh h => ⟨h.1, h.2.1.mv hal hh, h.2.2.1.there hal hh, h.2.2.2⟩) (fun r U U' V V' h1 hal h2 h => XT.PureE.mv r U U' V V' h1 hal h2 h) ?_
  intro p e s m args below meth c s₁ X0 hexec hbytes hml hret hlk hnm hown hh0 W hP
  obtain ⟨rfl, hx, s1, hz⟩ := hP
  have v31 := hx.2.2.2.1.2.2.2
  have c1 : Steps p.tables e below (s₁.setTop (entryFrame m #[.ref x] 1)) (s₁.setTop (mkF m 1 #[.val (.ref x)] [.ref x])) := Steps.trans (entry rfl) (by
    show Steps p.tables e below (s₁.setTop (mkF m 0 #[.val (.ref x)] [])) _
    refine XS.aloadN X0.here hexec rfl (hb hbytes d0) rfl rfl ?_
    exact Steps.refl _)
  obtain ⟨T2, X2, q2, st2⟩ := X0.hget hexec hown (wk W (.fieldLink "java/lang/String" 9 "java/lang/String" "value" "[B")) (hx.mv X0.warmed.alike hh0).2.1 (g := (mkF m 1 #[.val (.ref x)] [.ref x])) rfl (rest := []) rfl (hb hbytes d1)
  have hh2 := q2.trans hh0
  have hx2 := hx.mv X2.warmed.alike hh2
  have c3 : Steps p.tables e below (s₁.setTop (entryFrame m #[.ref x] 1)) (T2.setTop (mkF m 6 #[.val (.ref x)] [.ref x, .int (Int32.ofNat V.slots.size)])) := (c1.trans (st2 _ (Steps.refl _))).trans (by
    refine X2.alen hexec hx2.2.2.2.1 rfl rfl (hb hbytes d4) ?_
    refine XS.aloadN X2.here hexec rfl (hb hbytes d5) rfl rfl ?_
    exact Steps.refl _)
  obtain ⟨v4, T4, X4, E4, g4⟩ := X2.callV hexec (Cdr.law l x cd z) hown (wks W (virtW "java/lang/String" 335 "java/lang/String" Cdr.yN Cdr.yN)) rfl (by decide) (wk W Cdr.tab) (W := 1) (Nat.le_of_ble_eq_true rfl) (Nat.le_of_ble_eq_true rfl) (Nat.le_refl _) (Nat.le_refl _) (hx2.1.fc X2.warmed.alike) hx2.1.is (g := (mkF m 6 #[.val (.ref x)] [.ref x, .int (Int32.ofNat V.slots.size)])) rfl (by rw [hml]; rfl) c3 (argsL := []) (rest := [.int (Int32.ofNat V.slots.size)]) rfl rfl (by show 2 * 0 + (1 + 0) ≤ _; decide) (hb hbytes d6) (⟨rfl, hx2.2.2.1, hx.2.2.2.2.1.cd, s1.there X2.warmed.alike hh2, hz⟩)
  obtain ⟨rfl, q4⟩ := E4
  have c5 : Steps p.tables e below (s₁.setTop (entryFrame m #[.ref x] 1)) (T4.setTop (mkF m 10 #[.val (.ref x)] [.int (Int32.ofNat V.slots.size >>> (cd &&& 31))])) := Steps.trans g4 (by
    refine ishr X4.here hexec rfl (hb hbytes d9) rfl ?_
    exact Steps.refl _)
  rw [hx.2.2.2.2.1.len v31] at c5
  exact ⟨T4, some (.int (Int32.ofNat n)), _, _, _, X4, rfl, rfl, rfl, (fun h => by cases h), ⟨rfl, q4.trans hh2⟩, fun fs hl => c5.trans (X4.ireturnOut hexec hret rfl (Or.inl rfl) (hb hbytes d10) hl)⟩
theorem pays {l : Launch} {R : Room} {p : Program} {e : Env} {below : List Frame} {s : State} {sargs : Array Value} {len W : Nat} (x t : Addr) (V : Cell) (cd : Int32) (n : Nat) (f : Nat → Int32) (z : Int32) (htab : tab.before sargs s = true) (hfr : 2 ≤ R.frames) (hlo : W + 25 ≤ R.locals) :
    Back l R p e below s sargs yN len W (fun A₁ a₁ => A₁.cells + 0 ≤ R.cells ∧ A₁.slots + 0 ≤ R.slots ∧ P x t V cd n f z a₁ A₁.U) (fun A₁ _ v₁ B₁ => E n v₁ A₁.U B₁.U ∧ B₁.locs = A₁.locs ++ [] ∧ B₁.cells = A₁.cells + 0 ∧ B₁.slots = A₁.slots + 0) :=
  (law l x t V cd n f z).pays htab hfr (by omega)
end Len
namespace IsL
def yN : MethodName := ⟨"java/lang/String", "isLatin1", "()Z"⟩
abbrev yB : ByteArray := jdk_42_method_154_code
theorem d0 : decode yB 0 = .ok (.getstatic 38, 3) := by decide +kernel
theorem d3 : decode yB 3 = .ok (.ifCond (.eq) 14, 3) := by decide +kernel
theorem d6 : decode yB 6 = .ok (.aload_n 0, 1) := by decide +kernel
theorem d7 : decode yB 7 = .ok (.getfield 15, 3) := by decide +kernel
theorem d10 : decode yB 10 = .ok (.ifCond (.ne) 7, 3) := by decide +kernel
theorem d13 : decode yB 13 = .ok (.iconst 1, 1) := by decide +kernel
theorem d14 : decode yB 14 = .ok (.goto 4, 3) := by decide +kernel
theorem d17 : decode yB 17 = .ok (.iconst 0, 1) := by decide +kernel
theorem d18 : decode yB 18 = .ok (.ireturn, 1) := by decide +kernel
def site : List Cond := [.fieldLink "java/lang/String" 38 "java/lang/String" "COMPACT_STRINGS" "Z", .fieldLink "java/lang/String" 15 "java/lang/String" "coder" "B"]
def tab : Cond := tabOf yN yB 1 (some .boolean) site
def P (x : Addr) (cd z : Int32) (args : Array Value) (s : State) : Prop := args = #[.ref x] ∧ Has x "java/lang/String" "coder" "B" (.int cd) s ∧ (cd = 0 ∨ cd = 1) ∧ StaticIs s "java/lang/String" "COMPACT_STRINGS" "Z" (.int z) ∧ ¬ z = 0
def E (cd : Int32) (r : Option Value) (s u : State) : Prop := XT.PureE (some (.int (1 - cd))) r s u
theorem law (l : Launch) (x : Addr) (cd z : Int32) : Law l yN 1 0 0 0 yB 1 (some .boolean) site (P x cd z) (E cd) [] 0 0 := by
  refine Law.of_walk (plainFor_of_name (by decide +kernel)) (by decide +kernel) (by decide +kernel) (by decide) (fun _ _ h => by rw [h.1]; rfl) (fun _ U U' hal hh h => ⟨h.1, h.2.1.mv hal hh, h.2.2.1, h.2.2.2.1.there hal hh, h.2.2.2.2⟩) (fun r U U' V V' h1 hal h2 h => XT.PureE.mv r U U' V V' h1 hal h2 h) ?_
  intro p e s m args below meth c s₁ X0 hexec hbytes hml hret hlk hnm hown hh0 W hP
  obtain ⟨rfl, hx, hc, s1, hz⟩ := hP
  have c1 : Steps p.tables e below (s₁.setTop (entryFrame m #[.ref x] 1)) (s₁.setTop (mkF m 0 #[.val (.ref x)] [])) := entry rfl
  obtain ⟨T2, X2, q2, st2⟩ := X0.sget hexec hown (wk W (.fieldLink "java/lang/String" 38 "java/lang/String" "COMPACT_STRINGS" "Z")) s1 (fun _ _ h => by rw [hh0]; exact h) (g := (mkF m 0 #[.val (.ref x)] [])) rfl (hb hbytes d0)
  have hh2 := q2.trans hh0
  have c3 : Steps p.tables e below (s₁.setTop (entryFrame m #[.ref x] 1)) (T2.setTop (mkF m 7 #[.val (.ref x)] [.ref x])) := (c1.trans (st2 _ (Steps.refl _))).trans (by
    refine XS.ifNo X2.here hexec rfl (hb hbytes d3) rfl (i0_eq_f hz) ?_
    refine XS.aloadN X2.here hexec rfl (hb hbytes d6) rfl rfl ?_
    exact Steps.refl _)
  obtain ⟨T4, X4, q4, st4⟩ := X2.hget hexec hown (wk W (.fieldLink "java/lang/String" 15 "java/lang/String" "coder" "B")) (hx.mv X2.warmed.alike hh2) (g := (mkF m 7 #[.val (.ref x)] [.ref x])) rfl (rest := []) rfl (hb hbytes d7)
  have c5 : Steps p.tables e below (s₁.setTop (entryFrame m #[.ref x] 1)) (T4.setTop (mkF m 10 #[.val (.ref x)] [.int cd])) := c3.trans (st4 _ (Steps.refl _))
  have c6 : Steps p.tables e below (s₁.setTop (entryFrame m #[.ref x] 1)) (T4.setTop (mkF m 18 #[.val (.ref x)] [.int (1 - cd)])) := by
    rcases hc with rfl | rfl
    · exact c5.trans (by
        refine XS.ifNo X4.here hexec rfl (hb hbytes d10) rfl (i0_ne_f rfl) ?_
        refine iconstV X4.here hexec rfl 1 (hb hbytes d13) (by decide) ?_
        refine XS.goto X4.here hexec rfl (pc0 := 14) rfl (hb hbytes d14) (by decide) rfl ?_
        exact Steps.refl _)
    · exact c5.trans (by
        refine XS.ifYes X4.here hexec rfl (pc0 := 10) rfl (hb hbytes d10) rfl (i0_ne_t (by decide)) (by decide) rfl ?_
        refine iconstV X4.here hexec rfl 0 (hb hbytes d17) (by decide) ?_
        exact Steps.refl _)
  exact ⟨T4, some (.int (1 - cd)), _, _, _, X4, rfl, rfl, rfl, (fun h => by cases h), ⟨rfl, q4.trans hh2⟩, fun fs hl => c6.trans (X4.ireturnOut hexec hret (by rcases hc with rfl | rfl <;> rfl) (Or.inr (Or.inl rfl)) (hb hbytes d18) hl)⟩
end IsL
namespace LChA
def yN : MethodName := ⟨"java/lang/StringLatin1", "charAt", "([BI)C"⟩
abbrev yB : ByteArray := jdk_43_method_2_code
theorem d0 : decode yB 0 = .ok (.iload_n 1, 1) := by decide +kernel
theorem d1 : decode yB 1 = .ok (.aload_n 0, 1) := by decide +kernel
theorem d2 : decode yB 2 = .ok (.arraylength, 1) := by decide +kernel
theorem d3 : decode yB 3 = .ok (.invokestatic 9, 3) := by decide +kernel
theorem d6 : decode yB 6 = .ok (.aload_n 0, 1) := by decide +kernel
theorem d7 : decode yB 7 = .ok (.iload_n 1, 1) := by decide +kernel
theorem d8 : decode yB 8 = .ok (.baload, 1) := by decide +kernel
theorem d9 : decode yB 9 = .ok (.sipush 255, 3) := by decide +kernel
theorem d12 : decode yB 12 = .ok (.iand, 1) := by decide +kernel
theorem d13 : decode yB 13 = .ok (.i2c, 1) := by decide +kernel
theorem d14 : decode yB 14 = .ok (.ireturn, 1) := by decide +kernel
def site : List Cond := [JO.Str_checkIndex.tab] ++ staticW "java/lang/StringLatin1" 9 JO.Str_checkIndex.yN
def tab : Cond := tabOf yN yB 2 (some .char) site
def P (t : Addr) (V : Cell) (i : Nat) (u : Int32) (fm : Value) (args : Array Value) (s : State) : Prop := args = #[.ref t, .int (Int32.ofNat i)] ∧ XT.Arr .byte t V s ∧ V.slots[i]? = some (.int u) ∧ (StaticIs s "jdk/internal/util/Preconditions" "SIOOBE_FORMATTER" "Ljava/util/function/BiFunction;" fm ∧ fm.isRef = true)
def E (u : Int32) (r : Option Value) (s w : State) : Prop := XT.PureE (some (.int (chr8 u))) r s w
theorem law (l : Launch) (t : Addr) (V : Cell) (i : Nat) (u : Int32) (fm : Value) : Law l yN 2 2 2 27 yB 2 (some .char) site (P t V i u fm) (E u) [] 0 0 := by
  refine Law.of_walk (plainFor_of_name (by decide +kernel)) (by decide +kernel) (by decide +kernel) (by decide) (fun _ _ h => by rw [h.1]; rfl) (fun _ U U' hal hh h => ⟨h.1, h.2.1.mv hal hh, h.2.2.1, h.2.2.2.1.there hal hh, h.2.2.2.2⟩) (fun r U U' V V' h1 hal h2 h => XT.PureE.mv r U U' V V' h1 hal h2 h) ?_
  intro p e s m args below meth c s₁ X0 hexec hbytes hml hret hlk hnm hown hh0 W hP
  obtain ⟨rfl, hV, hu, s1, rf⟩ := hP
  have v31 := hV.2.2.2
  have hi : i < V.slots.size := (Array.getElem?_eq_some_iff.mp hu).1
  have c1 : Steps p.tables e below (s₁.setTop (entryFrame m #[.ref t, .int (Int32.ofNat i)] 2)) (s₁.setTop (mkF m 0 #[.val (.ref t), .val (.int (Int32.ofNat i))] [])) := entry rfl
  have c2 : Steps p.tables e below (s₁.setTop (entryFrame m #[.ref t, .int (Int32.ofNat i)] 2)) (s₁.setTop (mkF m 3 #[.val (.ref t), .val (.int (Int32.ofNat i))] [.int (Int32.ofNat V.slots.size), .int (Int32.ofNat i)])) := c1.trans (by
    refine XS.iloadN X0.here hexec rfl (hb hbytes d0) rfl ?_
    refine XS.aloadN X0.here hexec rfl (hb hbytes d1) rfl rfl ?_
    refine X0.alen hexec (hV.mv X0.warmed.alike hh0) rfl rfl (hb hbytes d2) ?_
    exact Steps.refl _)
  obtain ⟨v3, T3, X3, E3, g3⟩ := X0.callS hexec (JO.Str_checkIndex.law l (Int32.ofNat i) (Int32.ofNat V.slots.size) fm) hown (wks W (staticW "java/lang/StringLatin1" 9 JO.Str_checkIndex.yN)) (wk W JO.Str_checkIndex.tab) (W := 0) (Nat.le_of_ble_eq_true rfl) (Nat.le_of_ble_eq_true rfl) (Nat.le_refl _) (Nat.le_refl _) (g := (mkF m 3 #[.val (.ref t), .val (.int (Int32.ofNat i))] [.int (Int32.ofNat V.slots.size), .int (Int32.ofNat i)])) rfl (by rw [hml]; rfl) c2 (argsL := [.int (Int32.ofNat i), .int (Int32.ofNat V.slots.size)]) (rest := []) rfl rfl (by show 2 * 0 + 0 ≤ _; decide) (hb hbytes d3) (⟨rfl, rf, s1.there X0.warmed.alike hh0, Int32.ofNat_not_neg (by omega), lt32 v31 hi⟩)
  obtain ⟨rfl, q3⟩ := E3
  have hh3 := q3.trans hh0
  have c4 : Steps p.tables e below (s₁.setTop (entryFrame m #[.ref t, .int (Int32.ofNat i)] 2)) (T3.setTop (mkF m 14 #[.val (.ref t), .val (.int (Int32.ofNat i))] [.int (chr8 u)])) := Steps.trans g3 (by
    refine XS.aloadN X3.here hexec rfl (hb hbytes d6) rfl rfl ?_
    refine XS.iloadN X3.here hexec rfl (hb hbytes d7) rfl ?_
    refine X3.aget hexec (hV.mv X3.warmed.alike hh3) rfl hu rfl rfl (hb hbytes d8) ?_
    refine sipushV X3.here hexec rfl 255 (hb hbytes d9) (by decide) ?_
    refine XS.iand X3.here hexec rfl (hb hbytes d12) rfl ?_
    refine i2c X3.here hexec rfl (hb hbytes d13) rfl ?_
    exact Steps.refl _)
  exact ⟨T3, some (.int (chr8 u)), _, _, _, X3, rfl, rfl, rfl, (fun h => by cases h), ⟨rfl, hh3⟩, fun fs hl => c4.trans (X3.ireturnOut hexec hret (narrow_c _) (Or.inr (Or.inr (Or.inr (Or.inl rfl)))) (hb hbytes d14) hl)⟩
end LChA
end StrChars
namespace StrChars.Road
open Jvm Sem ClassFile Op Lib Jvm.Stand Jvm.Free Jvm.Free.XT
open Jvm.Lib.Cold (StaticIs)
theorem consq {a : Array Value} {s : State} {c : Jvm.Cond} {L : List Jvm.Cond} (h0 : c.before a s = true) (h : ∀ w ∈ L, w.before a s = true) : ∀ w ∈ c :: L, w.before a s = true := fun w hw => (List.mem_cons.mp hw).elim (fun e => e ▸ h0) (h w)
/-- the words of String.length(), either coding -/
abbrev wordsLen : List Jvm.Cond := [.code Len.yN Len.yB 1 (some .int), .initialized ST, .fieldLink ST 9 ST "value" "[B", .fieldLink ST 38 ST "COMPACT_STRINGS" "Z", .fieldLink ST 15 ST "coder" "B", .code Cdr.yN Cdr.yB 1 (some .byte), .methodLink ST 335 Cdr.yN, .declares Cdr.yN, .selects ST Cdr.yN Cdr.yN, .instanceMethod Cdr.yN]
theorem tabLen_of {a : Array Value} {s : State} (h : ∀ w ∈ wordsLen, w.before a s = true) : Len.tab.before a s = true := by
  have hc : Cdr.tab.before a s = true := unparts (wk h (.code Cdr.yN Cdr.yB 1 (some .byte))) (wks h (.initialized Cdr.yN.cls :: Cdr.site))
  have q := consq hc h
  exact unparts (wk q (.code Len.yN Len.yB 1 (some .int))) (wks q (.initialized Len.yN.cls :: Len.site))
theorem movedLen {Z s : State} {a0 args : Array Value} (hZ : Z.Warmed39 s.vm) (hw : ∀ d ∈ wordsLen, d.before a0 Z = true) : ∀ d ∈ wordsLen, d.before args s = true := fun d hd => by
  have q := hw d hd
  have t : ∀ d ∈ wordsLen, d = .arrayClass .byte ∨ (d.onTables && d.keepsFace) = true := by decide +kernel
  rcases t d hd with rfl | t
  · exact RoadKit.mvA hZ q
  · exact RoadKit.mv hZ q t
/-- the bytes of the chars cs, low before high -/
def wideBytes : List Int32 → List Value
  | [] => []
  | c :: cs => .int (lo8 c) :: .int (hi8 c) :: wideBytes cs
theorem wide_lo (d : Value) : ∀ (cs : List Int32) (j : Nat), j < cs.length → (wideBytes cs).getD (2 * j) d = .int (lo8 (cs.getD j 0))
  | [], j, h => absurd h (Nat.not_lt_zero j)
  | c :: cs, 0, _ => rfl
  | c :: cs, j + 1, h => by
    have q := wide_lo d cs j (by simpa using h)
    rw [show 2 * (j + 1) = 2 * j + 1 + 1 from by omega]
    simpa [wideBytes] using q
theorem wide_hi (d : Value) : ∀ (cs : List Int32) (j : Nat), j < cs.length → (wideBytes cs).getD (2 * j + 1) d = .int (hi8 (cs.getD j 0))
  | [], j, h => absurd h (Nat.not_lt_zero j)
  | c :: cs, 0, _ => rfl
  | c :: cs, j + 1, h => by
    have q := wide_hi d cs j (by simpa using h)
    rw [show 2 * (j + 1) + 1 = 2 * j + 1 + 1 + 1 from by omega]
    simpa [wideBytes] using q
theorem low_at (d : Value) (cs : List Int32) (j : Nat) (h : j < cs.length) : (cs.map fun c => Value.int (lo8 c)).getD j d = .int (lo8 (cs.getD j 0)) := by
  simp [List.getD_eq_getElem?_getD, h]
/-- an array of N2 bytes vs codes the chars cs by the coder cd -/
def CodA (cs : List Int32) (cd N2 : Int32) (vs : List Value) : Prop := (cd = 0 ∧ N2 = Int32.ofNat cs.length ∧ vs = (cs.map fun c => Value.int (lo8 c)) ∧ ∀ c ∈ cs, ¬ 255 < c) ∨ (cd = 1 ∧ N2 = Int32.ofNat (2 * cs.length) ∧ vs = wideBytes cs ∧ ∃ c ∈ cs, 255 < c)
theorem CodA.cod {cs : List Int32} {cd N2 : Int32} {vs : List Value} {V : Cell} (h : CodA cs cd N2 vs) (hn : 2 * cs.length < 2 ^ 31) (hs : V.slots.size = N2.toNatClampNeg) (hv : RoadKit.Has V vs (.int 0)) : Cod cd cs.length (fun j => cs.getD j 0) V := by
  rcases h with ⟨rfl, rfl, rfl, h⟩ | ⟨rfl, rfl, rfl, c, hc, hw⟩
  · rw [n32 (by omega)] at hs
    exact Or.inl ⟨rfl, hs, fun j hj => ⟨by rw [hv j (by omega), low_at _ _ _ hj], by
      have e : cs.getD j 0 = cs[j] := by simp [List.getD_eq_getElem?_getD, hj]
      show ¬ 255 < cs.getD j 0
      rw [e]; exact h _ (List.getElem_mem _)⟩⟩
  · rw [n32 (by omega)] at hs
    obtain ⟨j, hj, rfl⟩ := List.getElem_of_mem hc
    exact Or.inr ⟨rfl, hs, fun j hj => ⟨by rw [hv _ (by omega), wide_lo _ _ _ hj], by rw [hv _ (by omega), wide_hi _ _ _ hj]⟩, j, hj, by
      have e : cs.getD j 0 = cs[j] := by simp [List.getD_eq_getElem?_getD, hj]
      show 255 < cs.getD j 0
      rw [e]; exact hw⟩
/-- an object of exactly java/lang/String, its two fields found: as the laws ask it -/
theorem strObj {Z U : State} {a0 : Array Value} {kI : Nat} (wi : (Jvm.Cond.instantiable ST kI).before a0 Z = true) (al : Z.vm.Alike U.vm) {x : Addr} {v0 c0 : Value} (E : RoadKit.Exa Z U.heap x ST) (V : RoadKit.Fld Z U.heap x ST "value" "[B" v0) (C : RoadKit.Fld Z U.heap x ST "coder" "B" c0) :
    ∃ (D : Cell) (fV fC : Field), Blank ST x D U ∧ Found ST "value" "[B" fV U ∧ Found ST "coder" "B" fC U ∧ D.slots[fV.slot]? = some v0 ∧ D.slots[fC.slot]? = some c0 ∧ RoadKit.slotOf Z ST "value" "[B" = fV.slot ∧ RoadKit.slotOf Z ST "coder" "B" = fC.slot := by
  obtain ⟨D, cfV, kV, iV, fV, hD, gV, stV, knV, obV, asV, slV⟩ := V
  obtain ⟨D', cfC, kC, iC, fC, hD', gC, stC, -, -, asC, slC⟩ := C
  cases hD.symm.trans hD'
  obtain ⟨D2, kD, e1, e2, e3, e4, e5⟩ := E
  cases hD.symm.trans e1
  obtain ⟨c2, k2, i1, i2, i3, -⟩ := Cond.instantiable_spec wi
  cases e2.symm.trans i1
  cases e3.symm.trans i2
  obtain ⟨kU, u1, u2⟩ := al.2.2 _ _ e3
  exact ⟨D, fV, fC, ⟨hD, ⟨knV, fun q hq => by rw [hq] at obV; cases obV⟩, by rw [al.findClass]; exact e2, kU, u1, by rw [u2]; exact i3, by rw [u2]; exact e5 i3⟩, ⟨SBG.found_only al ⟨cfV, kV, iV, gV⟩, stV⟩, ⟨SBG.found_only al ⟨cfC, kC, iC, gC⟩, stC⟩, slV, slC, by simp [RoadKit.slotOf, gV], by simp [RoadKit.slotOf, gC]⟩
theorem sta_is {Z U : State} (al : Z.vm.Alike U.vm) {C n d : String} {v : Value} (S : RoadKit.Sta Z U.heap C n d v) : StaticIs U C n d v := by
  obtain ⟨cfS, iS, kS, fS, st, cS, t1, t2, t3, t4, t5, t6, t7⟩ := S
  exact StaticIs.there (s := { Z with heap := U.heap }) ⟨cfS, iS, kS, fS, st, cS, t1, t2, t3, t4, t5, (fun q => by rw [q] at t6; cases t6), t7⟩ al rfl
/-- **length() OF SUCH A STRING** -/
theorem lenW {p : Program} {l : Launch} {e : Env} {R : Room} {s : State} {args : Array Value} {below : List Frame} {len W : Nat} {Z : State} {a0 : Array Value} {h : Heap} (hZ : Z.Warmed39 s.vm) (hw : ∀ d ∈ wordsLen, d.before a0 Z = true) {kI : Nat} (wi : (Jvm.Cond.instantiable ST kI).before a0 Z = true)
    {x t : Addr} {kb : ClassId} {cs : List Int32} {cd N2 z : Int32} {vs : List Value} (E : RoadKit.Exa Z h x ST) (V : RoadKit.Fld Z h x ST "value" "[B" (.ref t)) (C : RoadKit.Fld Z h x ST "coder" "B" (.int cd)) (K : RoadKit.Arv Z h t kb .byte N2 vs (.int 0)) (hc : CodA cs cd N2 vs) (hb : ∀ c ∈ cs, ¬ c < 0 ∧ ¬ (65535 : Int32) < c)
    (S : RoadKit.Sta Z h ST "COMPACT_STRINGS" "Z" (.int z)) (hz : ¬ z = 0) (l2 : cs.length ≤ 4000) (hfr : 2 ≤ R.frames) (hlo : W + 25 ≤ R.locals) :
    Back l R p e below s args (⟨"java/lang/String", "length", "()I"⟩ : MethodName) len W (fun P a => a = #[.ref x] ∧ P.U.heap = h ∧ P.cells + 0 ≤ R.cells ∧ P.slots + 0 ≤ R.slots)
      (fun P _ v B => ∃ L, (v = some (.int (Int32.ofNat cs.length)) ∧ L = [] ∧ B.U.heap = h) ∧ B.locs = P.locs ++ L ∧ B.cells = P.cells + 0 ∧ B.slots = P.slots + 0) := by
  obtain ⟨A, K1, K2, K3, K4, K5, K6⟩ := K
  have hcod := hc.cod (by omega) K3 K5
  intro m meth c P g ig mk a X hg hsize hdg hW hn hp'
  obtain ⟨rfl, rfl, r1, r2⟩ := hp'
  have al : Z.vm.Alike P.U.vm := hZ.alike.trans X.warmed.alike
  obtain ⟨D, fV, fC, hB, F1, F2, g1, g2, -, -⟩ := strObj wi al E V C
  have hx : Txt x t A cd cs.length (fun j => cs.getD j 0) P.U := ⟨⟨_, hB.2.2.1, D, hB.1, rfl, by cases q : D.vm <;> first | rfl | exact absurd q (hB.2.1.2 _)⟩, Has.of hB F1 g1, Has.of hB F2 g2, ⟨K1.1, State.isArrayOf_alike al K1.2.1, K1.2.2, by rcases hcod with ⟨-, q, -⟩ | ⟨-, q, -⟩ <;> omega⟩, hcod, fun j hj => by
    have e : cs.getD j 0 = cs[j] := by simp [List.getD_eq_getElem?_getD, hj]
    show ¬ cs.getD j 0 < 0 ∧ ¬ 65535 < cs.getD j 0
    rw [e]; exact hb _ (List.getElem_mem _)⟩
  obtain ⟨v, B, X', ⟨⟨hv, hh⟩, hl, hk, hs⟩, st⟩ := Len.pays x t A cd cs.length (fun j => cs.getD j 0) z (tabLen_of (movedLen hZ hw)) hfr hlo m meth c P g ig mk _ X hg hsize hdg hW hn ⟨r1, r2, rfl, hx, sta_is al S, hz⟩
  exact ⟨v, B, X', ⟨[], ⟨hv, rfl, hh⟩, hl, hk, hs⟩, st⟩
end StrChars.Road
namespace StrChars.Road
open Jvm Sem ClassFile Op Lib Jvm.Stand Jvm.Free Jvm.Free.XT
open Jvm.Lib.Cold (StaticIs)
/-- the road's facts of a String, as the laws ask it -/
theorem txt_of {Z U : State} {a0 : Array Value} {kI : Nat} (wi : (Jvm.Cond.instantiable ST kI).before a0 Z = true) (al : Z.vm.Alike U.vm) {x t : Addr} {kb : ClassId} {cs : List Int32} {cd N2 : Int32} {vs : List Value} (E : RoadKit.Exa Z U.heap x ST) (V : RoadKit.Fld Z U.heap x ST "value" "[B" (.ref t)) (C : RoadKit.Fld Z U.heap x ST "coder" "B" (.int cd)) (K : RoadKit.Arv Z U.heap t kb .byte N2 vs (.int 0)) (hc : CodA cs cd N2 vs) (hb : ∀ c ∈ cs, ¬ c < 0 ∧ ¬ (65535 : Int32) < c) (l2 : cs.length ≤ 4000) :
    ∃ A, Txt x t A cd cs.length (fun j => cs.getD j 0) U := by
  obtain ⟨A, K1, K2, K3, K4, K5, K6⟩ := K
  have hcod := hc.cod (by omega) K3 K5
  obtain ⟨D, fV, fC, hB, F1, F2, g1, g2, -, -⟩ := strObj wi al E V C
  exact ⟨A, ⟨_, hB.2.2.1, D, hB.1, rfl, by cases q : D.vm <;> first | rfl | exact absurd q (hB.2.1.2 _)⟩, Has.of hB F1 g1, Has.of hB F2 g2, ⟨K1.1, State.isArrayOf_alike al K1.2.1, K1.2.2, by rcases hcod with ⟨-, q, -⟩ | ⟨-, q, -⟩ <;> omega⟩, hcod, fun j hj => by
    have e : cs.getD j 0 = cs[j] := by simp [List.getD_eq_getElem?_getD, hj]
    show ¬ cs.getD j 0 < 0 ∧ ¬ 65535 < cs.getD j 0
    rw [e]; exact hb _ (List.getElem_mem _)⟩
end StrChars.Road
namespace StrChars
open Jvm Sem ClassFile Op Lib Jvm.Stand Jvm.Free.XT Jvm.Free.ALB Jvm.Free.JM Jvm.Free
open Jvm.Lib.Cold (StaticIs)
namespace ChN
def yN : MethodName := ⟨"java/lang/String", "charAt", "(I)C"⟩
abbrev yB : ByteArray := jdk_42_method_56_code
theorem d0 : decode yB 0 = .ok (.aload_n 0, 1) := by decide +kernel
theorem d1 : decode yB 1 = .ok (.invokevirtual 492, 3) := by decide +kernel
theorem d4 : decode yB 4 = .ok (.ifCond (.eq) 12, 3) := by decide +kernel
theorem d7 : decode yB 7 = .ok (.aload_n 0, 1) := by decide +kernel
theorem d8 : decode yB 8 = .ok (.getfield 9, 3) := by decide +kernel
theorem d11 : decode yB 11 = .ok (.iload_n 1, 1) := by decide +kernel
theorem d12 : decode yB 12 = .ok (.invokestatic 495, 3) := by decide +kernel
theorem d15 : decode yB 15 = .ok (.ireturn, 1) := by decide +kernel
def site : List Cond := [.fieldLink "java/lang/String" 9 "java/lang/String" "value" "[B", IsL.tab, LChA.tab] ++ virtW "java/lang/String" 492 "java/lang/String" IsL.yN IsL.yN ++ staticW "java/lang/String" 495 LChA.yN
def tab : Cond := tabOf yN yB 2 (some .char) site
def P (x t : Addr) (V : Cell) (n : Nat) (f : Nat → Int32) (z : Int32) (fm : Value) (i : Nat) (args : Array Value) (s : State) : Prop := args = #[.ref x, .int (Int32.ofNat i)] ∧ Txt x t V 0 n f s ∧ i < n ∧ StaticIs s "java/lang/String" "COMPACT_STRINGS" "Z" (.int z) ∧ ¬ z = 0 ∧ StaticIs s "jdk/internal/util/Preconditions" "SIOOBE_FORMATTER" "Ljava/util/function/BiFunction;" fm ∧ fm.isRef = true
def E (f : Nat → Int32) (i : Nat) (r : Option Value) (s u : State) : Prop := XT.PureE (some (.int (f i))) r s u
/-- charAt(i) of a Latin-1 String of n chars, i < n: f i -/
theorem law (l : Launch) (x t : Addr) (V : Cell) (n : Nat) (f : Nat → Int32) (z : Int32) (fm : Value) (i : Nat) : Law l yN 2 1 3 40 yB 2 (some .char) site (P x t V n f z fm i) (E f i) [] 0 0 := by
  refine Law.of_walk (plainFor_of_name (by decide +kernel)) (by decide +kernel) (by decide +kernel) (by decide) (fun _ _ h => by rw [h.1]; rfl) (fun _ U U' hal hh h => ⟨h.1, h.2.1.mv hal hh, h.2.2.1, h.2.2.2.1.there hal hh, h.2.2.2.2.1, h.2.2.2.2.2.1.there hal hh, h.2.2.2.2.2.2⟩) (fun r U U' V V' h1 hal h2 h => XT.PureE.mv r U U' V V' h1 hal h2 h) ?_
  intro p e s m args below meth c s₁ X0 hexec hbytes hml hret hlk hnm hown hh0 W hP
  obtain ⟨rfl, hx, hi, s1, hz, s3, rf⟩ := hP
  have v31 := hx.2.2.2.1.2.2.2
  have hr := hx.2.2.2.2.2 i hi
  have hx0 := hx.mv X0.warmed.alike hh0
  have c1 : Steps p.tables e below (s₁.setTop (entryFrame m #[.ref x, .int (Int32.ofNat i)] 2)) (s₁.setTop (mkF m 1 #[.val (.ref x), .val (.int (Int32.ofNat i))] [.ref x])) := Steps.trans (entry rfl) (by
    show Steps p.tables e below (s₁.setTop (mkF m 0 #[.val (.ref x), .val (.int (Int32.ofNat i))] [])) _
    refine XS.aloadN X0.here hexec rfl (hb hbytes d0) rfl rfl ?_
    exact Steps.refl _)
  obtain ⟨v2, T2, X2, E2, g2⟩ := X0.callV hexec (IsL.law l x 0 z) hown (wks W (virtW "java/lang/String" 492 "java/lang/String" IsL.yN IsL.yN)) rfl (by decide) (wk W IsL.tab) (W := 0) (Nat.le_of_ble_eq_true rfl) (Nat.le_of_ble_eq_true rfl) (Nat.le_refl _) (Nat.le_refl _) (hx0.1.fc X0.warmed.alike) hx0.1.is (g := (mkF m 1 #[.val (.ref x), .val (.int (Int32.ofNat i))] [.ref x])) rfl (by rw [hml]; rfl) c1 (argsL := []) (rest := []) rfl rfl (by show 2 * 0 + 0 ≤ _; decide) (hb hbytes d1) (⟨rfl, hx0.2.2.1, hx.2.2.2.2.1.cd, s1.there X0.warmed.alike hh0, hz⟩)
  obtain ⟨rfl, q2⟩ := E2
  have hh2 := q2.trans hh0
  have hx2 := hx.mv X2.warmed.alike hh2
  obtain ⟨-, k1, k2⟩ | ⟨k0, -⟩ := hx.2.2.2.2.1
  · have c3 : Steps p.tables e below (s₁.setTop (entryFrame m #[.ref x, .int (Int32.ofNat i)] 2)) (T2.setTop (mkF m 8 #[.val (.ref x), .val (.int (Int32.ofNat i))] [.ref x])) := Steps.trans g2 (by
      refine XS.ifNo X2.here hexec rfl (hb hbytes d4) rfl (i0_eq_f (by decide)) ?_
      refine XS.aloadN X2.here hexec rfl (hb hbytes d7) rfl rfl ?_
      exact Steps.refl _)
    obtain ⟨T4, X4, q4, st4⟩ := X2.hget hexec hown (wk W (.fieldLink "java/lang/String" 9 "java/lang/String" "value" "[B")) hx2.2.1 (g := (mkF m 8 #[.val (.ref x), .val (.int (Int32.ofNat i))] [.ref x])) rfl (rest := []) rfl (hb hbytes d8)
    have hh4 := q4.trans hh2
    have c5 : Steps p.tables e below (s₁.setTop (entryFrame m #[.ref x, .int (Int32.ofNat i)] 2)) (T4.setTop (mkF m 12 #[.val (.ref x), .val (.int (Int32.ofNat i))] [.int (Int32.ofNat i), .ref t])) := (c3.trans (st4 _ (Steps.refl _))).trans (by
      refine XS.iloadN X4.here hexec rfl (hb hbytes d11) rfl ?_
      exact Steps.refl _)
    obtain ⟨v6, T6, X6, E6, g6⟩ := X4.callS hexec (LChA.law l t V i (lo8 (f i)) fm) hown (wks W (staticW "java/lang/String" 495 LChA.yN)) (wk W LChA.tab) (W := 0) (Nat.le_of_ble_eq_true rfl) (Nat.le_of_ble_eq_true rfl) (Nat.le_refl _) (Nat.le_refl _) (g := (mkF m 12 #[.val (.ref x), .val (.int (Int32.ofNat i))] [.int (Int32.ofNat i), .ref t])) rfl (by rw [hml]; rfl) c5 (argsL := [.ref t, .int (Int32.ofNat i)]) (rest := []) rfl rfl (by show 2 * 0 + 0 ≤ _; decide) (hb hbytes d12) (⟨rfl, hx.2.2.2.1.mv X4.warmed.alike hh4, (k2 i hi).1, s3.there X4.warmed.alike hh4, rf⟩)
    obtain ⟨rfl, q6⟩ := E6
    rw [chr8_lo8 hr.1 (k2 i hi).2] at g6
    exact ⟨T6, some (.int (f i)), _, _, _, X6, rfl, rfl, rfl, (fun h => by cases h), ⟨rfl, q6.trans hh4⟩, fun fs hl => Steps.trans g6 (X6.ireturnOut hexec hret (narrow_ch hr.1 hr.2) (Or.inr (Or.inr (Or.inr (Or.inl rfl)))) (hb hbytes d15) hl)⟩
  · exact absurd k0 (by decide)
theorem pays {l : Launch} {R : Room} {p : Program} {e : Env} {below : List Frame} {s : State} {sargs : Array Value} {len W : Nat} (x t : Addr) (V : Cell) (n : Nat) (f : Nat → Int32) (z : Int32) (fm : Value) (i : Nat) (htab : tab.before sargs s = true) (hfr : 4 ≤ R.frames) (hlo : W + 53 ≤ R.locals) :
    Back l R p e below s sargs yN len W (fun A₁ a₁ => A₁.cells + 0 ≤ R.cells ∧ A₁.slots + 0 ≤ R.slots ∧ P x t V n f z fm i a₁ A₁.U) (fun A₁ _ v₁ B₁ => E f i v₁ A₁.U B₁.U ∧ B₁.locs = A₁.locs ++ [] ∧ B₁.cells = A₁.cells + 0 ∧ B₁.slots = A₁.slots + 0) :=
  (law l x t V n f z fm i).pays htab hfr (by omega)
end ChN
end StrChars
namespace StrChars.Road
open Jvm Sem ClassFile Op Lib Jvm.Stand Jvm.Free Jvm.Free.XT
open Jvm.Lib.Cold (StaticIs)
/-- the words of String.charAt(int), the Latin-1 road alone -/
abbrev wordsChN : List Jvm.Cond := [.code ChN.yN ChN.yB 2 (some .char), .initialized ST, .fieldLink ST 9 ST "value" "[B", .fieldLink ST 38 ST "COMPACT_STRINGS" "Z", .fieldLink ST 15 ST "coder" "B", .code IsL.yN IsL.yB 1 (some .boolean), .methodLink ST 492 IsL.yN, .declares IsL.yN, .selects ST IsL.yN IsL.yN, .instanceMethod IsL.yN,
  .methodLink ST 495 LChA.yN, .static LChA.yN, .code LChA.yN LChA.yB 2 (some .char), .initialized "java/lang/StringLatin1", .methodLink "java/lang/StringLatin1" 9 JO.Str_checkIndex.yN, .static JO.Str_checkIndex.yN, .code JO.Str_checkIndex.yN JO.Str_checkIndex.yB 2 none,
  .fieldLink ST 1053 "jdk/internal/util/Preconditions" "SIOOBE_FORMATTER" "Ljava/util/function/BiFunction;", .methodLink ST 1059 JC.PreCheck.yN, .static JC.PreCheck.yN, .code JC.PreCheck.yN JC.PreCheck.yB 3 (some .int), .initialized "jdk/internal/util/Preconditions"]
theorem tabChN_of {a : Array Value} {s : State} (h : ∀ w ∈ wordsChN, w.before a s = true) : ChN.tab.before a s = true := by
  have hp : JC.PreCheck.tab.before a s = true := unparts (wk h (.code JC.PreCheck.yN JC.PreCheck.yB 3 (some .int))) (wks h (.initialized JC.PreCheck.yN.cls :: JC.PreCheck.site))
  have qk := consq hp h
  have hk : JO.Str_checkIndex.tab.before a s = true := unparts (wk qk (.code JO.Str_checkIndex.yN JO.Str_checkIndex.yB 2 none)) (wks qk (.initialized JO.Str_checkIndex.yN.cls :: JO.Str_checkIndex.site))
  have ql := consq hk h
  have hl : LChA.tab.before a s = true := unparts (wk ql (.code LChA.yN LChA.yB 2 (some .char))) (wks ql (.initialized LChA.yN.cls :: LChA.site))
  have hi : IsL.tab.before a s = true := unparts (wk h (.code IsL.yN IsL.yB 1 (some .boolean))) (wks h (.initialized IsL.yN.cls :: IsL.site))
  have q := consq hi (consq hl h)
  exact unparts (wk q (.code ChN.yN ChN.yB 2 (some .char))) (wks q (.initialized ChN.yN.cls :: ChN.site))
theorem movedChN {Z s : State} {a0 args : Array Value} (hZ : Z.Warmed39 s.vm) (hw : ∀ d ∈ wordsChN, d.before a0 Z = true) : ∀ d ∈ wordsChN, d.before args s = true := fun d hd => by
  have t : ∀ d ∈ wordsChN, (d.onTables && d.keepsFace) = true := by decide +kernel
  exact RoadKit.mv hZ (hw d hd) (t d hd)
/-- **charAt(i) OF A LATIN-1 STRING**, i < n: the char -/
theorem chN {p : Program} {l : Launch} {e : Env} {R : Room} {s : State} {args : Array Value} {below : List Frame} {len W : Nat} {Z : State} {a0 : Array Value} {h : Heap} (hZ : Z.Warmed39 s.vm) (hw : ∀ d ∈ wordsChN, d.before a0 Z = true) {kI : Nat} (wi : (Jvm.Cond.instantiable ST kI).before a0 Z = true)
    {x t : Addr} {kb : ClassId} {cs : List Int32} {N2 z : Int32} {vs : List Value} {fm : Value} {i : Nat} {j : Int32} (E : RoadKit.Exa Z h x ST) (V : RoadKit.Fld Z h x ST "value" "[B" (.ref t)) (C : RoadKit.Fld Z h x ST "coder" "B" (.int 0)) (K : RoadKit.Arv Z h t kb .byte N2 vs (.int 0)) (hc : CodA cs 0 N2 vs) (hb : ∀ c ∈ cs, ¬ c < 0 ∧ ¬ (65535 : Int32) < c)
    (S : RoadKit.Sta Z h ST "COMPACT_STRINGS" "Z" (.int z)) (hz : ¬ z = 0) (F : RoadKit.Sta Z h "jdk/internal/util/Preconditions" "SIOOBE_FORMATTER" "Ljava/util/function/BiFunction;" fm) (rf : fm.isRef = true) (l2 : cs.length ≤ 4000) (hi : i < cs.length) (hj : j = Int32.ofNat i) (hfr : 4 ≤ R.frames) (hlo : W + 53 ≤ R.locals) :
    Back l R p e below s args (⟨"java/lang/String", "charAt", "(I)C"⟩ : MethodName) len W (fun P a => a = #[.ref x, .int j] ∧ P.U.heap = h ∧ P.cells + 0 ≤ R.cells ∧ P.slots + 0 ≤ R.slots)
      (fun P _ v B => ∃ L, (v = some (.int (cs.getD i 0)) ∧ L = [] ∧ B.U.heap = h) ∧ B.locs = P.locs ++ L ∧ B.cells = P.cells + 0 ∧ B.slots = P.slots + 0) := by
  subst hj
  intro m meth c P g ig mk a X hg hsize hdg hW hn hp'
  obtain ⟨rfl, rfl, r1, r2⟩ := hp'
  have al : Z.vm.Alike P.U.vm := hZ.alike.trans X.warmed.alike
  obtain ⟨A, hx⟩ := txt_of wi al E V C K hc hb l2
  obtain ⟨v, B, X', ⟨⟨hv, hh⟩, hl, hk, hs⟩, st⟩ := ChN.pays x t A cs.length (fun j => cs.getD j 0) z fm i (tabChN_of (movedChN hZ hw)) hfr hlo m meth c P g ig mk _ X hg hsize hdg hW hn ⟨r1, r2, rfl, hx, hi, sta_is al S, hz, sta_is al F, rf⟩
  exact ⟨v, B, X', ⟨[], ⟨hv, rfl, hh⟩, hl, hk, hs⟩, st⟩
/-- what backV says of its String, as the contracts of this text ask it: cs's low bytes, coder 0 -/
theorem codOf {cs : List Int32} {n : Nat} (hn : cs.length = n) (hb : ∀ c ∈ cs, ¬ 255 < c) : CodA cs 0 (Int32.ofNat n) ((cs.map lo8).map Value.int) := Or.inl ⟨rfl, by rw [hn], by simp [List.map_map, Function.comp_def], hb⟩
end StrChars.Road
end Jvm.Pilot.@@N@@
namespace Jvm.Pilot.@@N@@
open Jvm Jvm.ClassFile Sem Op Lib Jvm.Free Jvm.Stand Jvm.LawKit Jvm.RoadKit Bundle Jvm.Pilot.@@N@@.Jvm.D
abbrev EL : List (String × Nat) := consts_1
theorem own_and255 (x : Int32) : ¬ nar .char ((x &&& (255 : Int32)).toUInt32.toUInt16.toUInt32.toInt32) < 0 ∧ ¬ (255 : Int32) < nar .char ((x &&& (255 : Int32)).toUInt32.toUInt16.toUInt32.toInt32) := by
  have t : ∀ k : Fin 256, ¬ nar .char ((Int32.ofNat k.val).toUInt32.toUInt16.toUInt32.toInt32) < 0 ∧ ¬ (255 : Int32) < nar .char ((Int32.ofNat k.val).toUInt32.toUInt16.toUInt32.toInt32) := by decide +kernel
  have h : (x &&& 255).toBitVec.toNat < 256 := by
    simp only [Int32.toBitVec_and, BitVec.toNat_and]
    exact Nat.lt_succ_of_le Nat.and_le_right
  have e : (x &&& 255) = Int32.ofNat (x &&& 255).toBitVec.toNat := by
    apply Int32.toBitVec_inj.mp
    show _ = BitVec.ofNat 32 _
    rw [BitVec.ofNat_toNat]; simp
  rw [e]
  exact t ⟨_, h⟩
theorem own_up (cs : List Int32) (h : ∀ c ∈ cs, ¬ c < 0 ∧ ¬ (255 : Int32) < c) : ∀ c ∈ cs, ¬ c < 0 ∧ ¬ (65535 : Int32) < c := fun c hc => ⟨(h c hc).1, fun q => (h c hc).2 (by rw [Int32.lt_iff_toInt_lt] at q ⊢; have e1 : (65535 : Int32).toInt = 65535 := rfl; have e2 : (255 : Int32).toInt = 255 := rfl; omega)⟩
def own_C (c : Int32) : Prop := (¬ c < 0 ∧ ¬ (255 : Int32) < c) ∧ nar .char c = c
instance (c : Int32) : Decidable (own_C c) := inferInstanceAs (Decidable ((¬ c < 0 ∧ ¬ (255 : Int32) < c) ∧ nar .char c = c))
theorem own_C_of (x : Int32) : own_C ((x &&& (255 : Int32)).toUInt32.toUInt16.toUInt32.toInt32) := by
  have t : ∀ k : Fin 256, (¬ (Int32.ofNat k.val).toUInt32.toUInt16.toUInt32.toInt32 < 0 ∧ ¬ (255 : Int32) < (Int32.ofNat k.val).toUInt32.toUInt16.toUInt32.toInt32) ∧ nar .char ((Int32.ofNat k.val).toUInt32.toUInt16.toUInt32.toInt32) = (Int32.ofNat k.val).toUInt32.toUInt16.toUInt32.toInt32 := by decide +kernel
  have h : (x &&& 255).toBitVec.toNat < 256 := by
    simp only [Int32.toBitVec_and, BitVec.toNat_and]
    exact Nat.lt_succ_of_le Nat.and_le_right
  have e : (x &&& 255) = Int32.ofNat (x &&& 255).toBitVec.toNat := by
    apply Int32.toBitVec_inj.mp
    show _ = BitVec.ofNat 32 _
    rw [BitVec.ofNat_toNat]; simp
  rw [e]
  exact t ⟨_, h⟩
abbrev own_U : List Int32 := [(59 : Int32), (32 : Int32), (117 : Int32), (115 : Int32), (97 : Int32), (103 : Int32), (101 : Int32), (58 : Int32), (32 : Int32)]
theorem own_upU : ∀ x ∈ own_U, ¬ x < 0 ∧ ¬ (255 : Int32) < x := by decide
theorem own_decl {a0 : Array Value} {Z : State} {y : MethodName} {b : ByteArray} {ml : Nat} {r : Option FieldType} (w1 : (Jvm.Cond.instanceMethod y).before a0 Z = true) (w2 : (Jvm.Cond.code y b ml r).before a0 Z = true) : (Jvm.Cond.declares y).before a0 Z = true := by
  obtain ⟨mk, methM, hnamed, hmethM, hst, -⟩ := Cond.instanceMethod_spec w1
  obtain ⟨m2, cM, q1, -, -, -, -, -, -, hsig⟩ := Cond.code_spec hnamed w2
  cases hmethM.symm.trans q1
  simp [Cond.before, Cond.holds, Cond.value, hnamed, hmethM, hst, hsig]
theorem own_sel {a0 : Array Value} {Z : State} {C : String} {y z : MethodName} (w1 : (Jvm.Cond.instanceMethod y).before a0 Z = true) (w2 : (Jvm.Cond.selects C z z).before a0 Z = true) (he : y.cls = z.cls) (hy : y.cls ≠ "java/lang/invoke/MethodHandle" ∧ y.cls ≠ "java/lang/invoke/VarHandle") : (Jvm.Cond.sameMethod y.cls y.cls y.name y.desc).before a0 Z = true := by
  obtain ⟨mk, methM, hnamed, hmethM, -, -⟩ := Cond.instanceMethod_spec w1
  obtain ⟨c2, r2, m2, q1, q2, q3, q4, kP, hkP, hkPi⟩ := Cond.selects_spec w2
  have e1 := findClass_of_methodNamed hnamed
  have e2 := findClass_of_methodNamed q3
  rw [he, e2] at e1
  have e3 : m2.cls = mk.cls := Option.some.inj e1
  have hf := State.methodFound?_of_named hnamed hy
  have hc := findClass_of_methodNamed hnamed
  rw [e3] at hkP
  have hn' : Z.methodNamed? ⟨y.cls, y.name, y.desc⟩ = some mk := hnamed
  simp [Cond.before, Cond.holds, Cond.value, hc, hf, hn', hkP, hkPi]
theorem own_nf {a0 : Array Value} {s : State} {C : String} {y z : MethodName} (w2 : (Jvm.Cond.selects C z z).before a0 s = true) (he : y.cls = z.cls) : NotFace s y := fun r0 h0 => by
  obtain ⟨c2, r2, m2, q1, q2, q3, q4, kP, hkP, hkPi⟩ := Cond.selects_spec w2
  have e1 := findClass_of_methodNamed h0
  have e2 := findClass_of_methodNamed q3
  rw [he, e2] at e1
  exact ⟨kP, by rw [← Option.some.inj e1]; exact hkP, hkPi⟩
def own_mk (n a b : Int32) : List Int32 := if n = 0 then [] else if n = 1 then [a] else [a, b]
theorem own_mkl (n a b : Int32) : (own_mk n a b).length ≤ 2 := by
  unfold own_mk
  split
  · exact Nat.le_of_ble_eq_true rfl
  · split <;> exact Nat.le_of_ble_eq_true rfl
theorem own_all {n a b : Int32} (ha : own_C a) (hb : own_C b) : ∀ x ∈ own_mk n a b, ¬ x < 0 ∧ ¬ (255 : Int32) < x := by
  intro x hx
  unfold own_mk at hx
  split at hx
  · cases hx
  · split at hx
    · simp only [List.mem_cons, List.not_mem_nil, or_false] at hx; rw [hx]; exact ha.1
    · simp only [List.mem_cons, List.not_mem_nil, or_false] at hx
      rcases hx with rfl | rfl
      · exact ha.1
      · exact hb.1
/-- a builder's array of 16 that holds cs -/
def own_buf (cs : List Int32) : List Value := ((cs.map (fun c => c.toInt8.toInt32)).map Value.int) ++ List.replicate (16 - cs.length) (.int (0 : Int32))
theorem own_bufl (cs : List Int32) (h : cs.length ≤ 16) : (own_buf cs).length = 16 := by simp [own_buf]; omega
theorem own_bufa (cs ds : List Int32) (h : cs.length + ds.length ≤ 16) : (own_buf cs).take cs.length ++ ((ds.map (fun c => c.toInt8.toInt32)).map Value.int) ++ (own_buf cs).drop (cs.length + ds.length) = own_buf (cs ++ ds) := by
  unfold own_buf
  rw [List.take_append_of_le_length (by simp), List.take_of_length_le (by simp), List.drop_append]
  simp only [List.map_append, List.length_map, List.append_assoc, List.length_append]
  congr 1
  congr 1
  rw [List.drop_of_length_le (by simp), List.nil_append, List.drop_replicate]
  congr 1
  omega
theorem own_i {w : Nat} (h : w < 2147483648) : (Int32.ofNat w).toInt = w := by
  rw [Int32.toInt_ofNat_of_lt (by omega)]
theorem own_clamp {w : Nat} (h : w < 2147483648) : (Int32.ofNat w).toNatClampNeg = w := by simp only [Int32.toNatClampNeg]; rw [own_i h]; rfl
theorem own_nn {w : Nat} (h : w < 2147483648) : ¬ Int32.ofNat w < 0 := by rw [Int32.lt_iff_toInt_lt, own_i h]; show ¬ (w : Int) < 0; omega
theorem own_add {a b : Nat} (h : a + b < 2147483648) : Int32.ofNat a + Int32.ofNat b = Int32.ofNat (a + b) := by
  apply Int32.toInt_inj.mp
  have q := c_iadd (Int32.ofNat a) (Int32.ofNat b)
  have r := rng32 (Int32.ofNat a + Int32.ofNat b)
  rw [own_i (by omega), own_i (by omega)] at q
  rw [own_i h]; omega
theorem own_cap {m : Nat} (h : m ≤ 16) : ¬ (0 : Int32) < Int32.ofNat m - ((16 : Int32) >>> ((0 : Int32) &&& 31)) := by
  have t : ∀ k : Fin 17, ¬ (0 : Int32) < Int32.ofNat k.val - ((16 : Int32) >>> ((0 : Int32) &&& 31)) := by decide +kernel
  exact t ⟨m, by omega⟩
theorem own_shl {m : Nat} (h : m ≤ 16) : (Int32.ofNat m) <<< ((0 : Int32) &&& 31) = Int32.ofNat m := by
  have t : ∀ k : Fin 17, (Int32.ofNat k.val) <<< ((0 : Int32) &&& 31) = Int32.ofNat k.val := by decide +kernel
  exact t ⟨m, by omega⟩
theorem own_range (ds : List Int32) (d : Value) : ((ds.map (fun c => c.toInt8.toInt32)).map Value.int) = (List.range ds.length).map fun i => ((ds.map (fun c => c.toInt8.toInt32)).map Value.int).getD (0 + i) d := by
  apply List.ext_getElem?
  intro i
  simp only [List.getElem?_map, List.getElem?_range, Nat.zero_add]
  by_cases h : i < ds.length
  · simp [h, List.getD_eq_getElem?_getD]
  · simp [h]
theorem own_range2 (cs : List Int32) (d : Value) : ((cs.map (fun c => c.toInt8.toInt32)).map Value.int) = (List.range cs.length).map fun i => (own_buf cs).getD (0 + i) d := by
  apply List.ext_getElem?
  intro i
  simp only [List.getElem?_map, List.getElem?_range, Nat.zero_add]
  by_cases h : i < cs.length
  · simp [h, own_buf, List.getD_eq_getElem?_getD, List.getElem?_append_left]
  · simp [h]
theorem own_nb (x : Int32) : nar .byte (x.toInt8.toInt32) = x.toInt8.toInt32 := by
  show x.toInt8.toInt32.toInt8.toInt32 = _
  rw [Int8.toInt8_toInt32]
theorem own_sub0 {m : Nat} (h : m ≤ 16) : Int32.ofNat m - (0 : Int32) = Int32.ofNat m := by
  have t : ∀ k : Fin 17, Int32.ofNat k.val - (0 : Int32) = Int32.ofNat k.val := by decide +kernel
  exact t ⟨m, by omega⟩
theorem own_lt16 {m : Nat} (h : m ≤ 13) : Int32.ofNat m < (16 : Int32) - (0 : Int32) := by
  have t : ∀ k : Fin 14, Int32.ofNat k.val < (16 : Int32) - (0 : Int32) := by decide +kernel
  exact t ⟨m, by omega⟩
theorem own_ne16 {m : Nat} (h : m ≤ 13) : ¬ Int32.ofNat m = (16 : Int32) := by
  have t : ∀ k : Fin 14, ¬ Int32.ofNat k.val = (16 : Int32) := by decide +kernel
  exact t ⟨m, by omega⟩
theorem own_addn {a : Nat} {k : Int32} {b : Nat} (hk : k = Int32.ofNat b) (h : a + b < 2147483648) : Int32.ofNat a + k = Int32.ofNat (a + b) := by rw [hk]; exact own_add h
theorem own_tk {s : State} (h : tablesKnown s = true) : s.vm.MethodsKnown := fun m x hx => by
  have hx' : (s.vm.classes[m.cls]?).bind (·.methods[m.idx]?) = some x := hx
  cases hc : s.vm.classes[m.cls]? with
  | none => rw [hc] at hx'; cases hx'
  | some k =>
    rw [hc] at hx'
    refine ⟨k, hc, fun cf hcf => ?_⟩
    obtain ⟨hb, e⟩ := Array.getElem?_eq_some_iff.mp hc
    have q := (Array.all_eq_true_iff_forall_mem.mp h) k (e ▸ Array.getElem_mem hb)
    simp only [hcf, beq_iff_eq] at q
    have hi := (Array.getElem?_eq_some_iff.mp (show k.methods[m.idx]? = some x from hx')).1
    rw [Array.getElem?_eq_getElem (by omega)]; rfl
theorem own_fk {s : State} {m : MethodId} {args : Array Value} {below : List Frame} (h : framesKnown s = true) (hf : s.frames = .invoking m args :: below) : s.vm.FramesKnown below := fun y hy m' hm' => by
  have q := List.all_eq_true.mp h y (by rw [hf]; exact List.mem_cons_of_mem _ hy)
  have key : methodKnown s.vm m' = true := by
    cases y <;> simp [frameMethod?] at hm' <;> (subst hm'; exact q)
  unfold methodKnown at key
  cases hc : s.vm.classes[m'.cls]? with
  | none => rw [hc] at key; cases key
  | some k =>
    rw [hc] at key
    refine ⟨k, hc, fun cf hcf => ?_⟩
    simp only [hcf] at key; exact key
theorem own_g0 (a b c : List Int32) : ∀ i, i < a.length → (a ++ b ++ c).getD (0 + i) 0 = a.getD i 0 := fun i hi => by
  rw [Nat.zero_add, List.getD_eq_getElem?_getD, List.getD_eq_getElem?_getD, List.append_assoc, List.getElem?_append_left hi]
theorem own_g1 (a b c : List Int32) : ∀ i, i < b.length → (a ++ b ++ c).getD (a.length + i) 0 = b.getD i 0 := fun i hi => by
  rw [List.getD_eq_getElem?_getD, List.getD_eq_getElem?_getD, List.append_assoc, List.getElem?_append_right (by omega), show a.length + i - a.length = i by omega, List.getElem?_append_left hi]
theorem own_g2 (a b c : List Int32) : ∀ i, i < c.length → (a ++ b ++ c).getD (a.length + b.length + i) 0 = c.getD i 0 := fun i hi => by
  rw [List.getD_eq_getElem?_getD, List.getD_eq_getElem?_getD, List.getElem?_append_right (by rw [List.length_append]; omega), List.length_append, show a.length + b.length + i - (a.length + b.length) = i by omega]
theorem d3_0 : decode jdk_42_method_149_code 0 = .ok (.aload_n 0, 1) := by decide +kernel
theorem d3_1 : decode jdk_42_method_149_code 1 = .ok (.invokespecial 1, 3) := by decide +kernel
theorem d3_4 : decode jdk_42_method_149_code 4 = .ok (.iload_n 3, 1) := by decide +kernel
theorem d3_5 : decode jdk_42_method_149_code 5 = .ok (.ifCond .ne 22, 3) := by decide +kernel
theorem d3_8 : decode jdk_42_method_149_code 8 = .ok (.aload_n 0, 1) := by decide +kernel
theorem d3_9 : decode jdk_42_method_149_code 9 = .ok (.ldc 7, 2) := by decide +kernel
theorem d3_11 : decode jdk_42_method_149_code 11 = .ok (.getfield 9, 3) := by decide +kernel
theorem d3_14 : decode jdk_42_method_149_code 14 = .ok (.putfield 9, 3) := by decide +kernel
theorem d3_17 : decode jdk_42_method_149_code 17 = .ok (.aload_n 0, 1) := by decide +kernel
theorem d3_18 : decode jdk_42_method_149_code 18 = .ok (.ldc 7, 2) := by decide +kernel
theorem d3_20 : decode jdk_42_method_149_code 20 = .ok (.getfield 15, 3) := by decide +kernel
theorem d3_23 : decode jdk_42_method_149_code 23 = .ok (.putfield 15, 3) := by decide +kernel
theorem d3_26 : decode jdk_42_method_149_code 26 = .ok (.return_, 1) := by decide +kernel
theorem pn_397d88e : plainName "java/lang/String" = true := by first | (simp [plainName, overriddenIn]; done) | decide +kernel
theorem ef_3 (m : MethodId) (x0 : Addr) (x1 : Addr) (x2 : Int32) (x3 : Int32) : entryFrame m #[(.ref x0), (.ref x1), (.int x2), (.int x3), .null] 6 = mkF m 0 #[.val (.ref x0), .val (.ref x1), .val (.int x2), .val (.int x3), .val .null, .unset] [] := by first | (simp [entryFrame, mkF, argsToLocals, Value.category]; done) | rfl
def Q_rmSE4 (Z : State) (x b : Addr) (h0 : Heap) (n0 : Nat) (v : Option Value) (h : Heap) (L : List Loc) : Prop := v = none ∧ Fr n0 L ∧ Keep h0 h [x] ∧ Exa Z h x "java/lang/String" ∧ Fld Z h x "java/lang/String" "coder" "B" (.int (0 : Int32)) ∧ ∃ (t : Addr) (kb : ClassId), ¬ t = x ∧ Fld Z h x "java/lang/String" "value" "[B" (.ref t) ∧ Arv Z h t kb .byte (0 : Int32) [] (.int (0 : Int32))
set_option maxRecDepth 65536 in
set_option maxHeartbeats 40000000 in
theorem rmSE4 (l : Launch) (Z : State) (a0 : Array Value) (hw : ∀ d ∈ tables_1, d.before a0 Z = true) (x b : Addr) (h0 : Heap) (n0 : Nat) (Z0 : n0 ≤ h0.size) (E1 : Exa Z h0 x "java/lang/String") (g_x : n0 ≤ x) (Fv : Fld Z h0 x "java/lang/String" "value" "[B" .null) (Fc : Fld Z h0 x "java/lang/String" "coder" "B" (.int (0 : Int32))) (hEL : EW Z a0 EL) (wS : ∀ a ∈ Bundle.stringAtoms, a.before a0 Z = true) :
    MetFree l (⟨"java/lang/String", "<init>", "([CIILjava/lang/Void;)V"⟩ : MethodName) (head1 [Jvm.Cond.code (⟨"java/lang/String", "<init>", "([CIILjava/lang/Void;)V"⟩ : MethodName) jdk_42_method_149_code 6 none] ({ frames := 1, cells := 2, slots := 4, locals := 15 } : Room)) (fun a U => a = #[(.ref x), (.ref b), (.int (0 : Int32)), (.int (0 : Int32)), .null] ∧ Z.Warmed39 U.vm ∧ U.heap = h0 ∧ CHv Z EL U.vm h0) (fun _ _ _ _ _ => True) (fun _ U o U' => ∃ v L, o = .returned v ∧ (Q_rmSE4 Z x b h0 n0) v U'.heap L ∧ CHr Z EL U.vm U.heap U'.vm U'.heap ∧ ReturnedEndW U o U' L ({ frames := 1, cells := 2, slots := 4, locals := 15 } : Room).cells ({ frames := 1, cells := 2, slots := 4, locals := 15 } : Room).slots) := by
  refine MetFree.of_bodySF (plainFor_of_name pn_397d88e) hisR ?_
  intro p e s m args below meth c s₁ Bd hml0 hP hK
  obtain ⟨rfl, hZ, hh, hCH⟩ := hP
  have hx := Bd.exec
  have hby := Bd.bytes
  have hml : c.maxLocals = 6 := hml0
  have hown : s.vm.findClass "java/lang/String" = some m.cls := findClass_of_methodNamed Bd.named
  have hnm := (name_of_methodNamed Bd.named Bd.method).1
  have X0 : Stand p l e ({ frames := 1, cells := 2, slots := 4, locals := 15 } : Room) s m #[(.ref x), (.ref b), (.int (0 : Int32)), (.int (0 : Int32)), .null] below meth c s₁ [] 0 0 := Stand.of_body Bd
  have e0 : s₁.heap = h0 := by rw [← hh, Bd.state]; rfl
  have N0 := Fr.nil n0
  have K0 : Keep h0 h0 [x] := Keep.refl h0 [x]
  have X0h : Stand p l e ({ frames := 1, cells := 2, slots := 4, locals := 15 } : Room) (s.setVm s.vm) m #[(.ref x), (.ref b), (.int (0 : Int32)), (.int (0 : Int32)), .null] below meth c s₁ [] 0 0 := X0
  have hZh : Z.Warmed39 (s.setVm s.vm).vm := hZ
  have hownh : (s.setVm s.vm).vm.findClass "java/lang/String" = some m.cls := hown
  have hS0 : s.Since s.vm 0 := (State.WarmedH.refl s).since 0
  have C0 : CHr Z EL s.vm h0 s.vm h0 := CHr.refl hCH
  show Go p e below (s₁.setTop (entryFrame m #[(.ref x), (.ref b), (.int (0 : Int32)), (.int (0 : Int32)), .null] 6)) (EndH Z EL s (Q_rmSE4 Z x b h0 n0) ({ frames := 1, cells := 2, slots := 4, locals := 15 } : Room).cells ({ frames := 1, cells := 2, slots := 4, locals := 15 } : Room).slots)
  refine Go.top (ef_3 m x b (0 : Int32) (0 : Int32)) ?_
  refine Go.st (T' := s₁.setTop (mkF m 1 #[.val (.ref x), .val (.ref b), .val (.int (0 : Int32)), .val (.int (0 : Int32)), .val .null, .unset] [(.ref x)])) (fun zt zk => XS.aloadN X0h.here hx rfl (hb hby d3_0) rfl rfl zk) ?_
  obtain ⟨T1, X1, e1, st1⟩ := initO X0h hx hZh hownh (hw _ (List.mem_of_getElem? (i := 15) rfl)) (hw _ (List.mem_of_getElem? (i := 16) rfl)) (hw _ (List.mem_of_getElem? (i := 17) rfl)) e0 (g := (mkF m 1 #[.val (.ref x), .val (.ref b), .val (.int (0 : Int32)), .val (.int (0 : Int32)), .val .null, .unset] [(.ref x)])) rfl (by rw [hml]; rfl) rfl (hb hby d3_1) (by decide) (W := 0) (by show 2 * 0 + _ ≤ _; exact Nat.le_of_eq rfl) (by decide)
  refine Go.st (T' := T1.setTop (mkF m 4 #[.val (.ref x), .val (.ref b), .val (.int (0 : Int32)), .val (.int (0 : Int32)), .val .null, .unset] [])) (fun zt zk => st1 zt zk) ?_
  refine Go.st (T' := T1.setTop (mkF m 5 #[.val (.ref x), .val (.ref b), .val (.int (0 : Int32)), .val (.int (0 : Int32)), .val .null, .unset] [(.int (0 : Int32))])) (fun zt zk => XS.iloadN X1.here hx rfl (hb hby d3_4) rfl zk) ?_
  refine Go.st (T' := T1.setTop (mkF m 8 #[.val (.ref x), .val (.ref b), .val (.int (0 : Int32)), .val (.int (0 : Int32)), .val .null, .unset] [])) (fun zt zk => XS.ifNo X1.here hx rfl (hb hby d3_5) rfl ((if0 _ _).trans (teq rfl).2) zk) ?_
  have SX0 : Safe Z EL s.vm h0 x := own_safe hZ.alike E1 Fv
  refine Go.st (T' := T1.setTop (mkF m 9 #[.val (.ref x), .val (.ref b), .val (.int (0 : Int32)), .val (.int (0 : Int32)), .val .null, .unset] [(.ref x)])) (fun zt zk => XS.aloadN X1.here hx rfl (hb hby d3_8) rfl rfl zk) ?_
  obtain ⟨a2, T2, h2, kS2, b2, kb2, X2, e2, E2, hS2, hk2, hZ2, ho2, EA2, CA2, VA2, BA2, lta2, ltb2, CC2, LA2, SF2, st2⟩ := ldcCH (s := s) (vm0 := s.vm) (EL := EL) X1 hx hZh hownh (hw _ (List.mem_of_getElem? (i := 34) rfl)) wS e1 hS0 (Nat.zero_le _) hEL (List.mem_of_getElem? (i := 2) rfl) C0.1 (vs := []) (z := (0 : Int32)) ⟨by decide, rfl⟩ (by decide) (by decide) (g := (mkF m 9 #[.val (.ref x), .val (.ref b), .val (.int (0 : Int32)), .val (.int (0 : Int32)), .val .null, .unset] [(.ref x)])) rfl (hb hby d3_9) (n := 0) (by decide) (by decide) (by decide) (by decide)
  have K2 : Keep h0 h2 [x] := K0.ext E2
  have C3 : CHr Z EL s.vm h0 T2.vm h2 := C0.trans CC2
  refine Go.st (T' := T2.setTop (mkF m 11 #[.val (.ref x), .val (.ref b), .val (.int (0 : Int32)), .val (.int (0 : Int32)), .val .null, .unset] [(.ref a2), (.ref x)])) (fun zt zk => st2 zt zk) ?_
  have SX1 : Safe Z EL T2.vm h2 x := CC2.safe E1.lt SX0
  obtain ⟨nxa, nxb⟩ := SF2 x SX1
  obtain ⟨T4, X4, e4, st4⟩ := getF X2 hx hZ2 ho2 (host := "") (Or.inl (hw _ (List.mem_of_getElem? (i := 32) rfl))) Via.refl e2 VA2 (g := (mkF m 11 #[.val (.ref x), .val (.ref b), .val (.int (0 : Int32)), .val (.int (0 : Int32)), .val .null, .unset] [(.ref a2), (.ref x)])) rfl rfl (hb hby d3_11)
  refine Go.st (T' := T4.setTop (mkF m 14 #[.val (.ref x), .val (.ref b), .val (.int (0 : Int32)), .val (.int (0 : Int32)), .val .null, .unset] [(.ref b2), (.ref x)])) (fun zt zk => st4 zt zk) ?_
  have f5 : Fld Z h2 x "java/lang/String" "value" "[B" .null := (Fv.ext E2)
  have f6 : Exa Z h2 x "java/lang/String" := (E1.ext E2)
  obtain ⟨T7, h7, X7, e7, W7, st7⟩ := putF X4 hx hZ2 ho2 (host := "") (Or.inl (hw _ (List.mem_of_getElem? (i := 32) rfl))) Via.refl e4 f5 f6 (Or.inr ⟨(hw _ (List.mem_of_getElem? (i := 33) rfl)), rfl, hnm⟩) (hw _ (List.mem_of_getElem? (i := 5) rfl)) (ty := (.array .byte)) (by decide) rfl rfl (g := (mkF m 14 #[.val (.ref x), .val (.ref b), .val (.int (0 : Int32)), .val (.int (0 : Int32)), .val .null, .unset] [(.ref b2), (.ref x)])) rfl rfl (hb hby d3_14)
  have C8 : CHr Z EL s.vm h0 T2.vm h7 := C3.trans (CHr.wr W7 SX1 C3.1)
  have Fw7 : Fld Z h7 x "java/lang/String" "value" "[B" (.ref b2) := f5.same W7
  have K7 : Keep h0 h7 [x] := K2.wr W7 (Or.inl (List.mem_of_getElem? (i := 0) rfl))
  have N7 := Fr.snoc X7 N0 g_x
  refine Go.st (T' := T7.setTop (mkF m 17 #[.val (.ref x), .val (.ref b), .val (.int (0 : Int32)), .val (.int (0 : Int32)), .val .null, .unset] [])) (fun zt zk => st7 zt zk) ?_
  have SX2 : Safe Z EL T2.vm h7 x := Safe.wr W7 SX1 C3.1 SX1
  refine Go.st (T' := T7.setTop (mkF m 18 #[.val (.ref x), .val (.ref b), .val (.int (0 : Int32)), .val (.int (0 : Int32)), .val .null, .unset] [(.ref x)])) (fun zt zk => XS.aloadN X7.here hx rfl (hb hby d3_17) rfl rfl zk) ?_
  refine Go.st (T' := T7.setTop (mkF m 20 #[.val (.ref x), .val (.ref b), .val (.int (0 : Int32)), .val (.int (0 : Int32)), .val .null, .unset] [(.ref a2), (.ref x)])) (fun zt zk => ldcAgain (s := s) (vm0 := T2.vm) X7 hx hZ2 ho2 (hw _ (List.mem_of_getElem? (i := 34) rfl)) LA2 (g := (mkF m 18 #[.val (.ref x), .val (.ref b), .val (.int (0 : Int32)), .val (.int (0 : Int32)), .val .null, .unset] [(.ref x)])) rfl (hb hby d3_18) zt zk) ?_
  have f10 : Fld Z h7 a2 "java/lang/String" "coder" "B" (.int (0 : Int32)) := (CA2.other W7 (Or.inl (Ne.symm nxa)))
  obtain ⟨T11, X11, e11, st11⟩ := getF X7 hx hZ2 ho2 (host := "") (Or.inl (hw _ (List.mem_of_getElem? (i := 30) rfl))) Via.refl e7 f10 (g := (mkF m 20 #[.val (.ref x), .val (.ref b), .val (.int (0 : Int32)), .val (.int (0 : Int32)), .val .null, .unset] [(.ref a2), (.ref x)])) rfl rfl (hb hby d3_20)
  refine Go.st (T' := T11.setTop (mkF m 23 #[.val (.ref x), .val (.ref b), .val (.int (0 : Int32)), .val (.int (0 : Int32)), .val .null, .unset] [(.int (0 : Int32)), (.ref x)])) (fun zt zk => st11 zt zk) ?_
  have f12 : Fld Z h7 x "java/lang/String" "coder" "B" (.int (0 : Int32)) := ((Fc.ext E2).other W7 (Or.inr (slot_ne (Or.inr (hw _ (List.mem_of_getElem? (i := 31) rfl))) (Or.inr (hw _ (List.mem_of_getElem? (i := 33) rfl))) (by decide) (t := .byte) (t' := (.array .byte)) (by decide) (by decide))))
  have f13 : Exa Z h7 x "java/lang/String" := (f6.wr W7)
  obtain ⟨T14, h14, X14, e14, W14, st14⟩ := putFN X11 hx hZ2 ho2 (hw _ (List.mem_of_getElem? (i := 30) rfl)) Via.refl e11 f12 f13 (Or.inr ⟨(hw _ (List.mem_of_getElem? (i := 31) rfl)), rfl, hnm⟩) (hw _ (List.mem_of_getElem? (i := 5) rfl)) (ty := .byte) (v' := (.int (nar .byte (0 : Int32)))) (by decide) rfl (fits_nar_byte _) (g := (mkF m 23 #[.val (.ref x), .val (.ref b), .val (.int (0 : Int32)), .val (.int (0 : Int32)), .val .null, .unset] [(.int (0 : Int32)), (.ref x)])) rfl rfl (hb hby d3_23)
  have C15 : CHr Z EL s.vm h0 T2.vm h14 := C8.trans (CHr.wr W14 SX2 C8.1)
  have Fw14 : Fld Z h14 x "java/lang/String" "coder" "B" (.int (nar .byte (0 : Int32))) := f12.same W14
  have K14 : Keep h0 h14 [x] := K7.wr W14 (Or.inl (List.mem_of_getElem? (i := 0) rfl))
  have N14 := Fr.snoc X14 N7 g_x
  refine Go.st (T' := T14.setTop (mkF m 26 #[.val (.ref x), .val (.ref b), .val (.int (0 : Int32)), .val (.int (0 : Int32)), .val .null, .unset] [])) (fun zt zk => st14 zt zk) ?_
  have f16 : Exa Z h14 x "java/lang/String" := (f13.wr W14)
  have f17 : Fld Z h14 x "java/lang/String" "value" "[B" (.ref b2) := (Fw7.other W14 (Or.inr (slot_ne (Or.inr (hw _ (List.mem_of_getElem? (i := 33) rfl))) (Or.inr (hw _ (List.mem_of_getElem? (i := 31) rfl))) (by decide) (t := (.array .byte)) (t' := .byte) (by decide) (by decide))))
  have f18 : Arv Z h14 b2 kb2 .byte (0 : Int32) [] (.int (0 : Int32)) := ((BA2.other W7 (Ne.symm nxb)).other W14 (Ne.symm nxb))
  exact Go.doneH X14 hS2 (by rw [e14]; exact (Nat.le_trans hk2 (by have q := (Nat.le_trans (Nat.le_trans (Nat.le_refl h2.size) (Keep.of_wr W7).1) (Keep.of_wr W14).1); omega))) Bd.notSynchronized (v := none) (fun _ => rfl) (fun fs hr => X14.returnOut hx Bd.returns (hb hby d3_26) hr) (by rw [e14]; exact ⟨rfl, N14, K14, f16, Fw14, b2, kb2, Ne.symm nxb, f17, f18⟩) (by decide) (by decide) hZ2 hEL hh e14 C15
theorem d2_0 : decode jdk_42_method_3_code 0 = .ok (.aload_n 0, 1) := by decide +kernel
theorem d2_1 : decode jdk_42_method_3_code 1 = .ok (.aload_n 1, 1) := by decide +kernel
theorem d2_2 : decode jdk_42_method_3_code 2 = .ok (.iconst 0, 1) := by decide +kernel
theorem d2_3 : decode jdk_42_method_3_code 3 = .ok (.aload_n 1, 1) := by decide +kernel
theorem d2_4 : decode jdk_42_method_3_code 4 = .ok (.arraylength, 1) := by decide +kernel
theorem d2_5 : decode jdk_42_method_3_code 5 = .ok (.aconst_null, 1) := by decide +kernel
theorem d2_6 : decode jdk_42_method_3_code 6 = .ok (.invokespecial 27, 3) := by decide +kernel
theorem d2_9 : decode jdk_42_method_3_code 9 = .ok (.return_, 1) := by decide +kernel
theorem pd_f3a733a : parseMethodDescriptor "([CIILjava/lang/Void;)V" = some ⟨[(.array .char), .int, .int, (.object "java/lang/Void")], none⟩ := by decide +kernel
theorem ef_2 (m : MethodId) (x0 : Addr) (x1 : Addr) : entryFrame m #[(.ref x0), (.ref x1)] 2 = mkF m 0 #[.val (.ref x0), .val (.ref x1)] [] := by first | (simp [entryFrame, mkF, argsToLocals, Value.category]; done) | rfl
def Q_rmSE1 (Z : State) (x b : Addr) (kB : ClassId) (h0 : Heap) (n0 : Nat) (v : Option Value) (h : Heap) (L : List Loc) : Prop := v = none ∧ Fr n0 L ∧ Keep h0 h [x] ∧ Exa Z h x "java/lang/String" ∧ Fld Z h x "java/lang/String" "coder" "B" (.int (0 : Int32)) ∧ ∃ (t : Addr) (kb : ClassId), ¬ t = x ∧ Fld Z h x "java/lang/String" "value" "[B" (.ref t) ∧ Arv Z h t kb .byte (0 : Int32) [] (.int (0 : Int32))
set_option maxRecDepth 65536 in
set_option maxHeartbeats 40000000 in
theorem rmSE1 (l : Launch) (Z : State) (a0 : Array Value) (hw : ∀ d ∈ tables_1, d.before a0 Z = true) (x b : Addr) (kB : ClassId) (h0 : Heap) (n0 : Nat) (Z0 : n0 ≤ h0.size) (E1 : Exa Z h0 x "java/lang/String") (g_x : n0 ≤ x) (Fv : Fld Z h0 x "java/lang/String" "value" "[B" .null) (Fc : Fld Z h0 x "java/lang/String" "coder" "B" (.int (0 : Int32))) (hEL : EW Z a0 EL) (wS : ∀ a ∈ Bundle.stringAtoms, a.before a0 Z = true) (Vb : Arv Z h0 b kB .char (0 : Int32) [] (.int (0 : Int32))) :
    MetFree l (⟨"java/lang/String", "<init>", "([C)V"⟩ : MethodName) (head1 [Jvm.Cond.code (⟨"java/lang/String", "<init>", "([C)V"⟩ : MethodName) jdk_42_method_3_code 2 none] ({ frames := 2, cells := 2, slots := 4, locals := 32 } : Room)) (fun a U => a = #[(.ref x), (.ref b)] ∧ Z.Warmed39 U.vm ∧ U.heap = h0 ∧ CHv Z EL U.vm h0) (fun _ _ _ _ _ => True) (fun _ U o U' => ∃ v L, o = .returned v ∧ (Q_rmSE1 Z x b kB h0 n0) v U'.heap L ∧ CHr Z EL U.vm U.heap U'.vm U'.heap ∧ ReturnedEndW U o U' L ({ frames := 2, cells := 2, slots := 4, locals := 32 } : Room).cells ({ frames := 2, cells := 2, slots := 4, locals := 32 } : Room).slots) := by
  refine MetFree.of_bodySF (plainFor_of_name pn_397d88e) hisR ?_
  intro p e s m args below meth c s₁ Bd hml0 hP hK
  obtain ⟨rfl, hZ, hh, hCH⟩ := hP
  have hx := Bd.exec
  have hby := Bd.bytes
  have hml : c.maxLocals = 2 := hml0
  have hown : s.vm.findClass "java/lang/String" = some m.cls := findClass_of_methodNamed Bd.named
  have hnm := (name_of_methodNamed Bd.named Bd.method).1
  have X0 : Stand p l e ({ frames := 2, cells := 2, slots := 4, locals := 32 } : Room) s m #[(.ref x), (.ref b)] below meth c s₁ [] 0 0 := Stand.of_body Bd
  have e0 : s₁.heap = h0 := by rw [← hh, Bd.state]; rfl
  have N0 := Fr.nil n0
  have K0 : Keep h0 h0 [x] := Keep.refl h0 [x]
  have X0h : Stand p l e ({ frames := 2, cells := 2, slots := 4, locals := 32 } : Room) (s.setVm s.vm) m #[(.ref x), (.ref b)] below meth c s₁ [] 0 0 := X0
  have hZh : Z.Warmed39 (s.setVm s.vm).vm := hZ
  have hownh : (s.setVm s.vm).vm.findClass "java/lang/String" = some m.cls := hown
  have hS0 : s.Since s.vm 0 := (State.WarmedH.refl s).since 0
  have C0 : CHr Z EL s.vm h0 s.vm h0 := CHr.refl hCH
  show Go p e below (s₁.setTop (entryFrame m #[(.ref x), (.ref b)] 2)) (EndH Z EL s (Q_rmSE1 Z x b kB h0 n0) ({ frames := 2, cells := 2, slots := 4, locals := 32 } : Room).cells ({ frames := 2, cells := 2, slots := 4, locals := 32 } : Room).slots)
  refine Go.top (ef_2 m x b) ?_
  refine Go.st (T' := s₁.setTop (mkF m 1 #[.val (.ref x), .val (.ref b)] [(.ref x)])) (fun zt zk => XS.aloadN X0h.here hx rfl (hb hby d2_0) rfl rfl zk) ?_
  refine Go.st (T' := s₁.setTop (mkF m 2 #[.val (.ref x), .val (.ref b)] [(.ref b), (.ref x)])) (fun zt zk => XS.aloadN X0h.here hx rfl (hb hby d2_1) rfl rfl zk) ?_
  refine Go.st (T' := s₁.setTop (mkF m 3 #[.val (.ref x), .val (.ref b)] [(.int (0 : Int32)), (.ref b), (.ref x)])) (fun zt zk => XS.iconst X0h.here hx rfl (hb hby d2_2) zk) ?_
  refine Go.st (T' := s₁.setTop (mkF m 4 #[.val (.ref x), .val (.ref b)] [(.ref b), (.int (0 : Int32)), (.ref b), (.ref x)])) (fun zt zk => XS.aloadN X0h.here hx rfl (hb hby d2_3) rfl rfl zk) ?_
  obtain ⟨cl19, Ar19, -, S19, M19, -, -⟩ := id Vb
  refine Go.st (T' := s₁.setTop (mkF m 5 #[.val (.ref x), .val (.ref b)] [(.int (0 : Int32)), (.int (0 : Int32)), (.ref b), (.ref x)])) (fun zt zk => X0h.arraylength hx (by rw [e0]; exact Ar19.1) (State.isArrayOf_alike hZh.alike Ar19.2.1) (g := (mkF m 4 #[.val (.ref x), .val (.ref b)] [(.ref b), (.int (0 : Int32)), (.ref b), (.ref x)])) rfl rfl (hb hby d2_4) zt (by rw [len_of S19 M19]; exact zk)) ?_
  refine Go.st (T' := s₁.setTop (mkF m 6 #[.val (.ref x), .val (.ref b)] [.null, (.int (0 : Int32)), (.int (0 : Int32)), (.ref b), (.ref x)])) (fun zt zk => XS.aconstNull X0h.here hx rfl (hb hby d2_5) zk) ?_
  obtain ⟨vr20, _, ⟨T20, L20, k20, n20⟩, -, X20, hs20, hg20, ⟨Lc20, hQ20, l20, y20, z20⟩, st20⟩ := X0h.specialBackS hx (y := (⟨"java/lang/String", "<init>", "([CIILjava/lang/Void;)V"⟩ : MethodName)) rfl hownh (mvT hZh (hw _ (List.mem_of_getElem? (i := 11) rfl))) (mvT hZh (hw _ (List.mem_of_getElem? (i := 12) rfl))) (mvT hZh (hw _ (List.mem_of_getElem? (i := 14) rfl))) (by decide) (backOfSH (s := s) (vm0 := s.vm) (W := 0) (rmSE4 l Z a0 hw x b h0 n0 Z0 E1 g_x Fv Fc hEL wS) hZh (hw _ (List.mem_of_getElem? (i := 14) rfl)) (hw _ (List.mem_of_getElem? (i := 6) rfl)) (by decide) (by decide) hEL C0.1) (g := (mkF m 6 #[.val (.ref x), .val (.ref b)] [.null, (.int (0 : Int32)), (.int (0 : Int32)), (.ref b), (.ref x)])) rfl (by rw [hml]; rfl) (Steps.refl _) (a := x) (argsL := [(.ref b), (.int (0 : Int32)), (.int (0 : Int32)), .null]) (rest := []) (lenOf pd_f3a733a rfl) rfl (by show 2 * 0 + _ ≤ _; exact Nat.le_of_eq rfl) (hb hby d2_6) (fun _ _ => ⟨rfl, e0, (by decide : 0 + 2 ≤ _), (by decide : 0 + 4 ≤ _)⟩)
  dsimp only [Pt.U, Pt.locs, Pt.cells, Pt.slots] at X20 l20 y20 z20 st20 hQ20 hs20 hg20
  subst l20 y20
  obtain ⟨z20, CC20⟩ := z20
  subst z20
  obtain ⟨rfl, Nq20, Kq20, Rq20⟩ := hQ20
  obtain ⟨Xr20, hSr20, hZr20, hor20⟩ := rebS (s := s) (vm0 := s.vm) hS0 (by rw [e0]; exact (Nat.zero_le _)) X20 hs20 hg20 hZh hownh
  have C21 : CHr Z EL s.vm h0 T20.vm T20.heap := C0.trans CC20
  have KK22 : Keep h0 T20.heap [x] := K0.trans Kq20 (allS (Or.inl (List.mem_of_getElem? (i := 0) rfl)) all0)
  have NN23 := Fr.app N0 Nq20
  refine Go.st (T' := T20.setTop (mkF m 9 #[.val (.ref x), .val (.ref b)] [])) (fun zt zk => st20.trans zk) ?_
  exact Go.doneH Xr20 hSr20 (by rw [(rfl : T20.heap = T20.heap)]; exact (Nat.le_refl _)) Bd.notSynchronized (v := none) (fun _ => rfl) (fun fs hr => Xr20.returnOut hx Bd.returns (hb hby d2_9) hr) (by rw [(rfl : T20.heap = T20.heap)]; exact ⟨rfl, NN23, KK22, Rq20⟩) (by decide) (by decide) hZr20 hEL hh rfl C21
theorem d53_0 : decode jdk_43_method_3_code 0 = .ok (.iload_n 0, 1) := by decide +kernel
theorem d53_1 : decode jdk_43_method_3_code 1 = .ok (.sipush 255, 3) := by decide +kernel
theorem d53_4 : decode jdk_43_method_3_code 4 = .ok (.if_icmp .gt 7, 3) := by decide +kernel
theorem d53_7 : decode jdk_43_method_3_code 7 = .ok (.iconst 1, 1) := by decide +kernel
theorem d53_8 : decode jdk_43_method_3_code 8 = .ok (.goto 4, 3) := by decide +kernel
theorem d53_12 : decode jdk_43_method_3_code 12 = .ok (.ireturn, 1) := by decide +kernel
theorem pn_9a48540 : plainName "java/lang/StringLatin1" = true := by first | (simp [plainName, overriddenIn]; done) | decide +kernel
theorem ef_53 (m : MethodId) (x0 : Int32) : entryFrame m #[(.int x0)] 1 = mkF m 0 #[.val (.int x0)] [] := by first | (simp [entryFrame, mkF, argsToLocals, Value.category]; done) | rfl
def Q_rmCan (Z : State) (p1 : Int32) (h0 : Heap) (n0 : Nat) (v : Option Value) (h : Heap) (L : List Loc) : Prop := v = some (.int (1 : Int32)) ∧ Fr n0 L ∧ h = h0
set_option maxRecDepth 65536 in
set_option maxHeartbeats 40000000 in
theorem rmCan (l : Launch) (Z : State) (a0 : Array Value) (hw : ∀ d ∈ tables_1, d.before a0 Z = true) (p1 : Int32) (h0 : Heap) (n0 : Nat) (Z0 : n0 ≤ h0.size) (hc : ¬ (255 : Int32) < p1) :
    MetFree l (⟨"java/lang/StringLatin1", "canEncode", "(C)Z"⟩ : MethodName) (head1 [Jvm.Cond.code (⟨"java/lang/StringLatin1", "canEncode", "(C)Z"⟩ : MethodName) jdk_43_method_3_code 1 (some .boolean)] ({ frames := 0, cells := 0, slots := 0, locals := 0 } : Room)) (fun a U => a = #[(.int p1)] ∧ Z.Warmed39 U.vm ∧ U.heap = h0) (fun _ _ _ _ _ => True) (fun _ U o U' => ∃ v L, o = .returned v ∧ (Q_rmCan Z p1 h0 n0) v U'.heap L ∧ FrameEnd U o U' L ({ frames := 0, cells := 0, slots := 0, locals := 0 } : Room).cells ({ frames := 0, cells := 0, slots := 0, locals := 0 } : Room).slots) := by
  refine MetFree.of_bodySF (plainFor_of_name pn_9a48540) hisR ?_
  intro p e s m args below meth c s₁ Bd hml0 hP hK
  obtain ⟨rfl, hZ, hh⟩ := hP
  have hx := Bd.exec
  have hby := Bd.bytes
  have hml : c.maxLocals = 1 := hml0
  have hown : s.vm.findClass "java/lang/StringLatin1" = some m.cls := findClass_of_methodNamed Bd.named
  have hnm := (name_of_methodNamed Bd.named Bd.method).1
  have X0 : Stand p l e ({ frames := 0, cells := 0, slots := 0, locals := 0 } : Room) s m #[(.int p1)] below meth c s₁ [] 0 0 := Stand.of_body Bd
  have e0 : s₁.heap = h0 := by rw [← hh, Bd.state]; rfl
  have N0 := Fr.nil n0
  have K0 : Keep h0 h0 [] := Keep.refl h0 []
  show Go p e below (s₁.setTop (entryFrame m #[(.int p1)] 1)) (EndN s (Q_rmCan Z p1 h0 n0) ({ frames := 0, cells := 0, slots := 0, locals := 0 } : Room).cells ({ frames := 0, cells := 0, slots := 0, locals := 0 } : Room).slots)
  refine Go.top (ef_53 m p1) ?_
  refine Go.st (T' := s₁.setTop (mkF m 1 #[.val (.int p1)] [(.int p1)])) (fun zt zk => XS.iloadN X0.here hx rfl (hb hby d53_0) rfl zk) ?_
  refine Go.st (T' := s₁.setTop (mkF m 4 #[.val (.int p1)] [(.int (255 : Int32)), (.int p1)])) (fun zt zk => XS.sipush X0.here hx rfl (hb hby d53_1) zk) ?_
  refine Go.st (T' := s₁.setTop (mkF m 7 #[.val (.int p1)] [])) (fun zt zk => XS.icmpNo X0.here hx rfl (hb hby d53_4) rfl (flt hc).2.2.1 zk) ?_
  refine Go.st (T' := s₁.setTop (mkF m 8 #[.val (.int p1)] [(.int (1 : Int32))])) (fun zt zk => XS.iconst X0.here hx rfl (hb hby d53_7) zk) ?_
  refine Go.st (T' := s₁.setTop (mkF m 12 #[.val (.int p1)] [(.int (1 : Int32))])) (fun zt zk => XS.goto X0.here hx rfl (pc0 := 8) (pc' := 12) rfl (hb hby d53_8) (by decide) (by decide) zk) ?_
  exact Go.done X0 Bd.notSynchronized (v := some (.int (nar .boolean (1 : Int32)))) (fun h => by rw [Bd.returns] at h; cases h) (fun fs hr => retN X0 hx (t := .boolean) Bd.returns (by simp) (hb hby d53_12) hr) (by rw [e0]; exact ⟨rfl, N0, rfl⟩) (by decide) (by decide)
theorem d54_0 : decode jdk_43_method_46_code 0 = .ok (.iconst 1, 1) := by decide +kernel
theorem d54_1 : decode jdk_43_method_46_code 1 = .ok (.newarray .byte, 2) := by decide +kernel
theorem d54_3 : decode jdk_43_method_46_code 3 = .ok (.dup, 1) := by decide +kernel
theorem d54_4 : decode jdk_43_method_46_code 4 = .ok (.iconst 0, 1) := by decide +kernel
theorem d54_5 : decode jdk_43_method_46_code 5 = .ok (.iload_n 0, 1) := by decide +kernel
theorem d54_6 : decode jdk_43_method_46_code 6 = .ok (.i2b, 1) := by decide +kernel
theorem d54_7 : decode jdk_43_method_46_code 7 = .ok (.bastore, 1) := by decide +kernel
theorem d54_8 : decode jdk_43_method_46_code 8 = .ok (.areturn, 1) := by decide +kernel
theorem ef_54 (m : MethodId) (x0 : Int32) : entryFrame m #[(.int x0)] 1 = mkF m 0 #[.val (.int x0)] [] := by first | (simp [entryFrame, mkF, argsToLocals, Value.category]; done) | rfl
def Q_rmToB (Z : State) (p1 : Int32) (h0 : Heap) (n0 : Nat) (v : Option Value) (h : Heap) (L : List Loc) : Prop := Fr n0 L ∧ Keep h0 h [] ∧ ∃ (x : Addr) (k : ClassId), v = some (.ref x) ∧ h0.size ≤ x ∧ Arv Z h x k .byte (1 : Int32) [(.int (p1.toInt8.toInt32))] (.int (0 : Int32))
set_option maxRecDepth 65536 in
set_option maxHeartbeats 40000000 in
theorem rmToB (l : Launch) (Z : State) (a0 : Array Value) (hw : ∀ d ∈ tables_1, d.before a0 Z = true) (p1 : Int32) (h0 : Heap) (n0 : Nat) (Z0 : n0 ≤ h0.size)  :
    MetFree l (⟨"java/lang/StringLatin1", "toBytes", "(C)[B"⟩ : MethodName) (head1 [Jvm.Cond.code (⟨"java/lang/StringLatin1", "toBytes", "(C)[B"⟩ : MethodName) jdk_43_method_46_code 1 (some (.array .byte))] ({ frames := 0, cells := 1, slots := 1, locals := 0 } : Room)) (fun a U => a = #[(.int p1)] ∧ Z.Warmed39 U.vm ∧ U.heap = h0) (fun _ _ _ _ _ => True) (fun _ U o U' => ∃ v L, o = .returned v ∧ (Q_rmToB Z p1 h0 n0) v U'.heap L ∧ FrameEnd U o U' L ({ frames := 0, cells := 1, slots := 1, locals := 0 } : Room).cells ({ frames := 0, cells := 1, slots := 1, locals := 0 } : Room).slots) := by
  refine MetFree.of_bodySF (plainFor_of_name pn_9a48540) hisR ?_
  intro p e s m args below meth c s₁ Bd hml0 hP hK
  obtain ⟨rfl, hZ, hh⟩ := hP
  have hx := Bd.exec
  have hby := Bd.bytes
  have hml : c.maxLocals = 1 := hml0
  have hown : s.vm.findClass "java/lang/StringLatin1" = some m.cls := findClass_of_methodNamed Bd.named
  have hnm := (name_of_methodNamed Bd.named Bd.method).1
  have X0 : Stand p l e ({ frames := 0, cells := 1, slots := 1, locals := 0 } : Room) s m #[(.int p1)] below meth c s₁ [] 0 0 := Stand.of_body Bd
  have e0 : s₁.heap = h0 := by rw [← hh, Bd.state]; rfl
  have N0 := Fr.nil n0
  have K0 : Keep h0 h0 [] := Keep.refl h0 []
  show Go p e below (s₁.setTop (entryFrame m #[(.int p1)] 1)) (EndN s (Q_rmToB Z p1 h0 n0) ({ frames := 0, cells := 1, slots := 1, locals := 0 } : Room).cells ({ frames := 0, cells := 1, slots := 1, locals := 0 } : Room).slots)
  refine Go.top (ef_54 m p1) ?_
  refine Go.st (T' := s₁.setTop (mkF m 1 #[.val (.int p1)] [(.int (1 : Int32))])) (fun zt zk => XS.iconst X0.here hx rfl (hb hby d54_0) zk) ?_
  obtain ⟨T24, h24, k24, X24, e24, E24, A24, st24⟩ := newP X0 hx hZ (hw _ (List.mem_of_getElem? (i := 23) rfl)) e0 (g := (mkF m 1 #[.val (.int p1)] [(.int (1 : Int32))])) rfl (hb hby d54_1) rfl (by decide) (cap := 1) (by decide) (by decide) (by decide) (by decide)
  obtain ⟨b24, g24⟩ : ∃ z, z = h0.size := ⟨_, rfl⟩
  rw [← g24] at A24 st24
  have g_b24 : n0 ≤ b24 := Nat.le_trans (Nat.le_trans Z0 K0.1) (Nat.le_of_eq g24.symm)
  have sz_b24 : h0.size ≤ b24 := Nat.le_trans K0.1 (Nat.le_of_eq g24.symm)
  have K24 : Keep h0 h24 [] := K0.ext E24
  have V24 : Arv Z h24 b24 k24 .byte (1 : Int32) [(.int (0 : Int32))] (.int (0 : Int32)) := (Arv.new A24 (by decide)).pad (pad_rep [] (.int (0 : Int32)) 1)
  refine Go.st (T' := T24.setTop (mkF m 3 #[.val (.int p1)] [(.ref b24)])) (fun zt zk => st24 zt zk) ?_
  refine Go.st (T' := T24.setTop (mkF m 4 #[.val (.int p1)] [(.ref b24), (.ref b24)])) (fun zt zk => XS.dup X24.here hx rfl (hb hby d54_3) rfl rfl zk) ?_
  refine Go.st (T' := T24.setTop (mkF m 5 #[.val (.int p1)] [(.int (0 : Int32)), (.ref b24), (.ref b24)])) (fun zt zk => XS.iconst X24.here hx rfl (hb hby d54_4) zk) ?_
  refine Go.st (T' := T24.setTop (mkF m 6 #[.val (.int p1)] [(.int p1), (.int (0 : Int32)), (.ref b24), (.ref b24)])) (fun zt zk => XS.iloadN X24.here hx rfl (hb hby d54_5) rfl zk) ?_
  refine Go.st (T' := T24.setTop (mkF m 7 #[.val (.int p1)] [(.int (p1.toInt8.toInt32)), (.int (0 : Int32)), (.ref b24), (.ref b24)])) (fun zt zk => XS.i2b X24.here hx rfl (hb hby d54_6) rfl zk) ?_
  obtain ⟨cl25, Ar25, q25, S25, M25, H25, G25⟩ := id V24
  obtain ⟨T25, h25, X25, e25, W25, st25⟩ := stB X24 hx hZ e24 Ar25 (j := (0 : Int32)) (inb_of S25 ⟨by decide, by decide⟩) (g := (mkF m 7 #[.val (.int p1)] [(.int (p1.toInt8.toInt32)), (.int (0 : Int32)), (.ref b24), (.ref b24)])) rfl rfl (hb hby d54_7)
  have V25 : Arv Z h25 b24 k24 .byte (1 : Int32) [(.int (nar .byte (p1.toInt8.toInt32)))] (.int (0 : Int32)) := Arv.set Ar25 q25 S25 M25 H25 G25 (fits_nar_byte _) W25 0 rfl (Nat.le_of_ble_eq_true rfl)
  have K25 : Keep h0 h25 [] := K24.wr W25 (Or.inr sz_b24)
  have N25 := Fr.snoc X25 N0 g_b24
  refine Go.st (T' := T25.setTop (mkF m 8 #[.val (.int p1)] [(.ref b24)])) (fun zt zk => st25 zt zk) ?_
  exact Go.done X25 Bd.notSynchronized (v := some (.ref b24)) (fun h => by rw [Bd.returns] at h; cases h) (fun fs hr => retA X25 hx Bd.returns rfl rfl rfl (hb hby d54_8) hr) (by rw [e25]; exact ⟨N25, K25, b24, k24, rfl, sz_b24, by have q := V25; rw [own_nb] at q; exact q⟩) (by decide) (by decide)
theorem d55_0 : decode jdk_42_method_151_code 0 = .ok (.aload_n 0, 1) := by decide +kernel
theorem d55_1 : decode jdk_42_method_151_code 1 = .ok (.invokespecial 1, 3) := by decide +kernel
theorem d55_4 : decode jdk_42_method_151_code 4 = .ok (.aload_n 0, 1) := by decide +kernel
theorem d55_5 : decode jdk_42_method_151_code 5 = .ok (.aload_n 1, 1) := by decide +kernel
theorem d55_6 : decode jdk_42_method_151_code 6 = .ok (.putfield 9, 3) := by decide +kernel
theorem d55_9 : decode jdk_42_method_151_code 9 = .ok (.aload_n 0, 1) := by decide +kernel
theorem d55_10 : decode jdk_42_method_151_code 10 = .ok (.iload_n 2, 1) := by decide +kernel
theorem d55_11 : decode jdk_42_method_151_code 11 = .ok (.putfield 15, 3) := by decide +kernel
theorem d55_14 : decode jdk_42_method_151_code 14 = .ok (.return_, 1) := by decide +kernel
theorem ef_55 (m : MethodId) (x0 : Addr) (x1 : Addr) (x2 : Int32) : entryFrame m #[(.ref x0), (.ref x1), (.int x2)] 3 = mkF m 0 #[.val (.ref x0), .val (.ref x1), .val (.int x2)] [] := by first | (simp [entryFrame, mkF, argsToLocals, Value.category]; done) | rfl
def Q_rmBB (Z : State) (x b : Addr) (h0 : Heap) (n0 : Nat) (v : Option Value) (h : Heap) (L : List Loc) : Prop := v = none ∧ Fr n0 L ∧ Keep h0 h [x] ∧ Exa Z h x "java/lang/String" ∧ Fld Z h x "java/lang/String" "coder" "B" (.int (0 : Int32)) ∧ Fld Z h x "java/lang/String" "value" "[B" (.ref b)
set_option maxRecDepth 65536 in
set_option maxHeartbeats 40000000 in
theorem rmBB (l : Launch) (Z : State) (a0 : Array Value) (hw : ∀ d ∈ tables_1, d.before a0 Z = true) (x b : Addr) (h0 : Heap) (n0 : Nat) (Z0 : n0 ≤ h0.size) (E1 : Exa Z h0 x "java/lang/String") (g_x : n0 ≤ x) (Fv : Fld Z h0 x "java/lang/String" "value" "[B" .null) (Fc : Fld Z h0 x "java/lang/String" "coder" "B" (.int (0 : Int32))) :
    MetFree l (⟨"java/lang/String", "<init>", "([BB)V"⟩ : MethodName) (head1 [Jvm.Cond.code (⟨"java/lang/String", "<init>", "([BB)V"⟩ : MethodName) jdk_42_method_151_code 3 none] ({ frames := 1, cells := 0, slots := 0, locals := 12 } : Room)) (fun a U => a = #[(.ref x), (.ref b), (.int (0 : Int32))] ∧ Z.Warmed39 U.vm ∧ U.heap = h0) (fun _ _ _ _ _ => True) (fun _ U o U' => ∃ v L, o = .returned v ∧ (Q_rmBB Z x b h0 n0) v U'.heap L ∧ FrameEnd U o U' L ({ frames := 1, cells := 0, slots := 0, locals := 12 } : Room).cells ({ frames := 1, cells := 0, slots := 0, locals := 12 } : Room).slots) := by
  refine MetFree.of_bodySF (plainFor_of_name pn_397d88e) hisR ?_
  intro p e s m args below meth c s₁ Bd hml0 hP hK
  obtain ⟨rfl, hZ, hh⟩ := hP
  have hx := Bd.exec
  have hby := Bd.bytes
  have hml : c.maxLocals = 3 := hml0
  have hown : s.vm.findClass "java/lang/String" = some m.cls := findClass_of_methodNamed Bd.named
  have hnm := (name_of_methodNamed Bd.named Bd.method).1
  have X0 : Stand p l e ({ frames := 1, cells := 0, slots := 0, locals := 12 } : Room) s m #[(.ref x), (.ref b), (.int (0 : Int32))] below meth c s₁ [] 0 0 := Stand.of_body Bd
  have e0 : s₁.heap = h0 := by rw [← hh, Bd.state]; rfl
  have N0 := Fr.nil n0
  have K0 : Keep h0 h0 [x] := Keep.refl h0 [x]
  show Go p e below (s₁.setTop (entryFrame m #[(.ref x), (.ref b), (.int (0 : Int32))] 3)) (EndN s (Q_rmBB Z x b h0 n0) ({ frames := 1, cells := 0, slots := 0, locals := 12 } : Room).cells ({ frames := 1, cells := 0, slots := 0, locals := 12 } : Room).slots)
  refine Go.top (ef_55 m x b (0 : Int32)) ?_
  refine Go.st (T' := s₁.setTop (mkF m 1 #[.val (.ref x), .val (.ref b), .val (.int (0 : Int32))] [(.ref x)])) (fun zt zk => XS.aloadN X0.here hx rfl (hb hby d55_0) rfl rfl zk) ?_
  obtain ⟨T26, X26, e26, st26⟩ := initO X0 hx hZ hown (hw _ (List.mem_of_getElem? (i := 15) rfl)) (hw _ (List.mem_of_getElem? (i := 16) rfl)) (hw _ (List.mem_of_getElem? (i := 17) rfl)) e0 (g := (mkF m 1 #[.val (.ref x), .val (.ref b), .val (.int (0 : Int32))] [(.ref x)])) rfl (by rw [hml]; rfl) rfl (hb hby d55_1) (by decide) (W := 0) (by show 2 * 0 + _ ≤ _; exact Nat.le_of_eq rfl) (by decide)
  refine Go.st (T' := T26.setTop (mkF m 4 #[.val (.ref x), .val (.ref b), .val (.int (0 : Int32))] [])) (fun zt zk => st26 zt zk) ?_
  refine Go.st (T' := T26.setTop (mkF m 5 #[.val (.ref x), .val (.ref b), .val (.int (0 : Int32))] [(.ref x)])) (fun zt zk => XS.aloadN X26.here hx rfl (hb hby d55_4) rfl rfl zk) ?_
  refine Go.st (T' := T26.setTop (mkF m 6 #[.val (.ref x), .val (.ref b), .val (.int (0 : Int32))] [(.ref b), (.ref x)])) (fun zt zk => XS.aloadN X26.here hx rfl (hb hby d55_5) rfl rfl zk) ?_
  obtain ⟨T27, h27, X27, e27, W27, st27⟩ := putF X26 hx hZ hown (host := "") (Or.inl (hw _ (List.mem_of_getElem? (i := 32) rfl))) Via.refl e26 Fv E1 (Or.inr ⟨(hw _ (List.mem_of_getElem? (i := 33) rfl)), rfl, hnm⟩) (hw _ (List.mem_of_getElem? (i := 5) rfl)) (ty := (.array .byte)) (by decide) rfl rfl (g := (mkF m 6 #[.val (.ref x), .val (.ref b), .val (.int (0 : Int32))] [(.ref b), (.ref x)])) rfl rfl (hb hby d55_6)
  have Fw27 : Fld Z h27 x "java/lang/String" "value" "[B" (.ref b) := Fv.same W27
  have K27 : Keep h0 h27 [x] := K0.wr W27 (Or.inl (List.mem_of_getElem? (i := 0) rfl))
  have N27 := Fr.snoc X27 N0 g_x
  refine Go.st (T' := T27.setTop (mkF m 9 #[.val (.ref x), .val (.ref b), .val (.int (0 : Int32))] [])) (fun zt zk => st27 zt zk) ?_
  refine Go.st (T' := T27.setTop (mkF m 10 #[.val (.ref x), .val (.ref b), .val (.int (0 : Int32))] [(.ref x)])) (fun zt zk => XS.aloadN X27.here hx rfl (hb hby d55_9) rfl rfl zk) ?_
  refine Go.st (T' := T27.setTop (mkF m 11 #[.val (.ref x), .val (.ref b), .val (.int (0 : Int32))] [(.int (0 : Int32)), (.ref x)])) (fun zt zk => XS.iloadN X27.here hx rfl (hb hby d55_10) rfl zk) ?_
  have f28 : Fld Z h27 x "java/lang/String" "coder" "B" (.int (0 : Int32)) := (Fc.other W27 (Or.inr (slot_ne (Or.inr (hw _ (List.mem_of_getElem? (i := 31) rfl))) (Or.inr (hw _ (List.mem_of_getElem? (i := 33) rfl))) (by decide) (t := .byte) (t' := (.array .byte)) (by decide) (by decide))))
  have f29 : Exa Z h27 x "java/lang/String" := (E1.wr W27)
  obtain ⟨T30, h30, X30, e30, W30, st30⟩ := putFN X27 hx hZ hown (hw _ (List.mem_of_getElem? (i := 30) rfl)) Via.refl e27 f28 f29 (Or.inr ⟨(hw _ (List.mem_of_getElem? (i := 31) rfl)), rfl, hnm⟩) (hw _ (List.mem_of_getElem? (i := 5) rfl)) (ty := .byte) (v' := (.int (nar .byte (0 : Int32)))) (by decide) rfl (fits_nar_byte _) (g := (mkF m 11 #[.val (.ref x), .val (.ref b), .val (.int (0 : Int32))] [(.int (0 : Int32)), (.ref x)])) rfl rfl (hb hby d55_11)
  have Fw30 : Fld Z h30 x "java/lang/String" "coder" "B" (.int (nar .byte (0 : Int32))) := f28.same W30
  have K30 : Keep h0 h30 [x] := K27.wr W30 (Or.inl (List.mem_of_getElem? (i := 0) rfl))
  have N30 := Fr.snoc X30 N27 g_x
  refine Go.st (T' := T30.setTop (mkF m 14 #[.val (.ref x), .val (.ref b), .val (.int (0 : Int32))] [])) (fun zt zk => st30 zt zk) ?_
  have f31 : Exa Z h30 x "java/lang/String" := (f29.wr W30)
  have f32 : Fld Z h30 x "java/lang/String" "value" "[B" (.ref b) := (Fw27.other W30 (Or.inr (slot_ne (Or.inr (hw _ (List.mem_of_getElem? (i := 33) rfl))) (Or.inr (hw _ (List.mem_of_getElem? (i := 31) rfl))) (by decide) (t := (.array .byte)) (t' := .byte) (by decide) (by decide))))
  exact Go.done X30 Bd.notSynchronized (v := none) (fun _ => rfl) (fun fs hr => X30.returnOut hx Bd.returns (hb hby d55_14) hr) (by rw [e30]; exact ⟨rfl, N30, K30, f31, Fw30, f32⟩) (by decide) (by decide)
theorem d52_0 : decode jdk_42_method_139_code 0 = .ok (.getstatic 38, 3) := by decide +kernel
theorem d52_3 : decode jdk_42_method_139_code 3 = .ok (.ifCond .eq 23, 3) := by decide +kernel
theorem d52_6 : decode jdk_42_method_139_code 6 = .ok (.iload_n 0, 1) := by decide +kernel
theorem d52_7 : decode jdk_42_method_139_code 7 = .ok (.invokestatic 1015, 3) := by decide +kernel
theorem d52_10 : decode jdk_42_method_139_code 10 = .ok (.ifCond .eq 16, 3) := by decide +kernel
theorem d52_13 : decode jdk_42_method_139_code 13 = .ok (.new 10, 3) := by decide +kernel
theorem d52_16 : decode jdk_42_method_139_code 16 = .ok (.dup, 1) := by decide +kernel
theorem d52_17 : decode jdk_42_method_139_code 17 = .ok (.iload_n 0, 1) := by decide +kernel
theorem d52_18 : decode jdk_42_method_139_code 18 = .ok (.invokestatic 1018, 3) := by decide +kernel
theorem d52_21 : decode jdk_42_method_139_code 21 = .ok (.iconst 0, 1) := by decide +kernel
theorem d52_22 : decode jdk_42_method_139_code 22 = .ok (.invokespecial 209, 3) := by decide +kernel
theorem d52_25 : decode jdk_42_method_139_code 25 = .ok (.areturn, 1) := by decide +kernel
theorem pd_56dc0e8 : parseMethodDescriptor "(C)Z" = some ⟨[.char], some .boolean⟩ := by decide +kernel
theorem pd_729b77d : parseMethodDescriptor "(C)[B" = some ⟨[.char], some (.array .byte)⟩ := by decide +kernel
theorem pd_2f4f85c : parseMethodDescriptor "([BB)V" = some ⟨[(.array .byte), .byte], none⟩ := by decide +kernel
theorem ef_52 (m : MethodId) (x0 : Int32) : entryFrame m #[(.int x0)] 1 = mkF m 0 #[.val (.int x0)] [] := by first | (simp [entryFrame, mkF, argsToLocals, Value.category]; done) | rfl
def Q_rmVal (Z : State) (p1 : Int32) (h0 : Heap) (n0 : Nat) (v : Option Value) (h : Heap) (L : List Loc) : Prop := Fr n0 L ∧ Keep h0 h [] ∧ ∃ (x t : Addr) (kb : ClassId), v = some (.ref x) ∧ Exa Z h x "java/lang/String" ∧ Fld Z h x "java/lang/String" "coder" "B" (.int (0 : Int32)) ∧ Fld Z h x "java/lang/String" "value" "[B" (.ref t) ∧ Arv Z h t kb .byte (Int32.ofNat ([p1]).length) ((([p1]).map (fun c => c.toInt8.toInt32)).map Value.int) (.int (0 : Int32))
set_option maxRecDepth 65536 in
set_option maxHeartbeats 40000000 in
theorem rmVal (l : Launch) (Z : State) (a0 : Array Value) (hw : ∀ d ∈ tables_1, d.before a0 Z = true) (p1 : Int32) (h0 : Heap) (n0 : Nat) (Z0 : n0 ≤ h0.size) (G1 : Int32) (O2 : Sta Z Z.heap "java/lang/String" "COMPACT_STRINGS" "Z" (.int G1)) (P5 : ¬ (G1 = (0 : Int32))) (X00 : Old Z n0 h0) (hc : ¬ (255 : Int32) < p1) :
    MetFree l (⟨"java/lang/String", "valueOf", "(C)Ljava/lang/String;"⟩ : MethodName) (head1 [Jvm.Cond.code (⟨"java/lang/String", "valueOf", "(C)Ljava/lang/String;"⟩ : MethodName) jdk_42_method_139_code 1 (some (.object "java/lang/String"))] ({ frames := 2, cells := 2, slots := 5, locals := 27 } : Room)) (fun a U => a = #[(.int p1)] ∧ Z.Warmed39 U.vm ∧ U.heap = h0) (fun _ _ _ _ _ => True) (fun _ U o U' => ∃ v L, o = .returned v ∧ (Q_rmVal Z p1 h0 n0) v U'.heap L ∧ FrameEnd U o U' L ({ frames := 2, cells := 2, slots := 5, locals := 27 } : Room).cells ({ frames := 2, cells := 2, slots := 5, locals := 27 } : Room).slots) := by
  refine MetFree.of_bodySF (plainFor_of_name pn_397d88e) hisR ?_
  intro p e s m args below meth c s₁ Bd hml0 hP hK
  obtain ⟨rfl, hZ, hh⟩ := hP
  have hx := Bd.exec
  have hby := Bd.bytes
  have hml : c.maxLocals = 1 := hml0
  have hown : s.vm.findClass "java/lang/String" = some m.cls := findClass_of_methodNamed Bd.named
  have hnm := (name_of_methodNamed Bd.named Bd.method).1
  have X0 : Stand p l e ({ frames := 2, cells := 2, slots := 5, locals := 27 } : Room) s m #[(.int p1)] below meth c s₁ [] 0 0 := Stand.of_body Bd
  have e0 : s₁.heap = h0 := by rw [← hh, Bd.state]; rfl
  have N0 := Fr.nil n0
  have K0 : Keep h0 h0 [] := Keep.refl h0 []
  show Go p e below (s₁.setTop (entryFrame m #[(.int p1)] 1)) (EndN s (Q_rmVal Z p1 h0 n0) ({ frames := 2, cells := 2, slots := 5, locals := 27 } : Room).cells ({ frames := 2, cells := 2, slots := 5, locals := 27 } : Room).slots)
  refine Go.top (ef_52 m p1) ?_
  obtain ⟨T33, X33, e33, st33⟩ := getS (host := "") X0 hx hZ hown (hw _ (List.mem_of_getElem? (i := 18) rfl)) Via.refl e0 (O2.ext (X00.keep K0 all0).2) (g := (mkF m 0 #[.val (.int p1)] [])) rfl (hb hby d52_0)
  refine Go.st (T' := T33.setTop (mkF m 3 #[.val (.int p1)] [(.int G1)])) (fun zt zk => st33 zt zk) ?_
  refine Go.st (T' := T33.setTop (mkF m 6 #[.val (.int p1)] [])) (fun zt zk => XS.ifNo X33.here hx rfl (hb hby d52_3) rfl ((if0 _ _).trans (feq P5).1) zk) ?_
  refine Go.st (T' := T33.setTop (mkF m 7 #[.val (.int p1)] [(.int p1)])) (fun zt zk => XS.iloadN X33.here hx rfl (hb hby d52_6) rfl zk) ?_
  obtain ⟨vr34, _, ⟨T34, L34, k34, n34⟩, -, X34, ⟨Lc34, hQ34, l34, y34, z34⟩, st34⟩ := Jvm.LawKit.callS X33 hx (y := (⟨"java/lang/StringLatin1", "canEncode", "(C)Z"⟩ : MethodName)) hown (mvT hZ (hw _ (List.mem_of_getElem? (i := 346) rfl))) (mvT hZ (hw _ (List.mem_of_getElem? (i := 347) rfl))) (mvT hZ (hw _ (List.mem_of_getElem? (i := 329) rfl))) (mvT hZ (hw _ (List.mem_of_getElem? (i := 348) rfl))) (by decide) (backOf (W := 0) (rmCan l Z a0 hw p1 h0 n0 Z0 hc) hZ (hw _ (List.mem_of_getElem? (i := 348) rfl)) (hw _ (List.mem_of_getElem? (i := 329) rfl)) (by decide) (by decide)) (g := (mkF m 7 #[.val (.int p1)] [(.int p1)])) rfl (by rw [hml]; rfl) (argsL := [(.int p1)]) (rest := []) (lenOf pd_56dc0e8 rfl) rfl (by show 2 * 0 + _ ≤ _; exact Nat.le_of_eq rfl) (hb hby d52_7) (fun _ _ => ⟨rfl, e33, (by decide : 0 + 0 ≤ _), (by decide : 0 + 0 ≤ _)⟩)
  dsimp only [Pt.U, Pt.locs, Pt.cells, Pt.slots] at X34 l34 y34 z34 st34 hQ34
  subst l34 y34 z34
  obtain ⟨rfl, Nq34, eq34⟩ := hQ34
  have NN35 := Fr.app N0 Nq34
  refine Go.st (T' := T34.setTop (mkF m 10 #[.val (.int p1)] [(.int (1 : Int32))])) (fun zt zk => st34 zt zk) ?_
  refine Go.st (T' := T34.setTop (mkF m 13 #[.val (.int p1)] [])) (fun zt zk => XS.ifNo X34.here hx rfl (hb hby d52_10) rfl ((if0 _ _).trans (feq (by decide)).1) zk) ?_
  obtain ⟨T36, h36, X36, e36, E36, A36, D36, U36, st36⟩ := newO X34 hx hZ hown (hw _ (List.mem_of_getElem? (i := 349) rfl)) (hw _ (List.mem_of_getElem? (i := 5) rfl)) (hw _ (List.mem_of_getElem? (i := 6) rfl)) eq34 (g := (mkF m 13 #[.val (.int p1)] [])) rfl (hb hby d52_13) (by decide) (by decide)
  obtain ⟨b36, g36⟩ : ∃ z, z = h0.size := ⟨_, rfl⟩
  rw [← g36] at A36 D36 U36 st36
  have g_b36 : n0 ≤ b36 := Nat.le_trans (Nat.le_trans Z0 K0.1) (Nat.le_of_eq g36.symm)
  have sz_b36 : h0.size ≤ b36 := Nat.le_trans K0.1 (Nat.le_of_eq g36.symm)
  have K36 : Keep h0 h36 [] := K0.ext E36
  have Fn36_coder : Fld Z h36 b36 "java/lang/String" "coder" "B" (.int (0 : Int32)) := D36 (Or.inr (hw _ (List.mem_of_getElem? (i := 31) rfl))) (ty := .byte) (by decide)
  have Fn36_value : Fld Z h36 b36 "java/lang/String" "value" "[B" .null := D36 (Or.inr (hw _ (List.mem_of_getElem? (i := 33) rfl))) (ty := (.array .byte)) (by decide)
  refine Go.st (T' := T36.setTop (mkF m 16 #[.val (.int p1)] [(.ref b36)])) (fun zt zk => st36 zt zk) ?_
  refine Go.st (T' := T36.setTop (mkF m 17 #[.val (.int p1)] [(.ref b36), (.ref b36)])) (fun zt zk => XS.dup X36.here hx rfl (hb hby d52_16) rfl rfl zk) ?_
  refine Go.st (T' := T36.setTop (mkF m 18 #[.val (.int p1)] [(.int p1), (.ref b36), (.ref b36)])) (fun zt zk => XS.iloadN X36.here hx rfl (hb hby d52_17) rfl zk) ?_
  obtain ⟨vr37, _, ⟨T37, L37, k37, n37⟩, -, X37, ⟨Lc37, hQ37, l37, y37, z37⟩, st37⟩ := Jvm.LawKit.callS X36 hx (y := (⟨"java/lang/StringLatin1", "toBytes", "(C)[B"⟩ : MethodName)) hown (mvT hZ (hw _ (List.mem_of_getElem? (i := 350) rfl))) (mvT hZ (hw _ (List.mem_of_getElem? (i := 351) rfl))) (mvT hZ (hw _ (List.mem_of_getElem? (i := 329) rfl))) (mvT hZ (hw _ (List.mem_of_getElem? (i := 352) rfl))) (by decide) (backOf (W := 2) (rmToB l Z a0 hw p1 h36 n0 (Nat.le_trans Z0 K36.1)) hZ (hw _ (List.mem_of_getElem? (i := 352) rfl)) (hw _ (List.mem_of_getElem? (i := 329) rfl)) (by decide) (by decide)) (g := (mkF m 18 #[.val (.int p1)] [(.int p1), (.ref b36), (.ref b36)])) rfl (by rw [hml]; rfl) (argsL := [(.int p1)]) (rest := [(.ref b36), (.ref b36)]) (lenOf pd_729b77d rfl) rfl (by show 2 * 0 + _ ≤ _; exact Nat.le_of_eq rfl) (hb hby d52_18) (fun _ _ => ⟨rfl, e36, (by decide : 1 + 1 ≤ _), (by decide : 4 + 1 ≤ _)⟩)
  dsimp only [Pt.U, Pt.locs, Pt.cells, Pt.slots] at X37 l37 y37 z37 st37 hQ37
  subst l37 y37 z37
  obtain ⟨Nq37, Kq37, y37, ky37, rfl, sz_y37, Vy37⟩ := hQ37
  have neb36_37 : b36 ≠ y37 := Nat.ne_of_lt (Nat.lt_of_lt_of_le A36.lt sz_y37)
  have KK38 : Keep h0 T37.heap [] := K36.trans Kq37 all0
  have NN39 := Fr.app NN35 Nq37
  refine Go.st (T' := T37.setTop (mkF m 21 #[.val (.int p1)] [(.ref y37), (.ref b36), (.ref b36)])) (fun zt zk => st37 zt zk) ?_
  refine Go.st (T' := T37.setTop (mkF m 22 #[.val (.int p1)] [(.int (0 : Int32)), (.ref y37), (.ref b36), (.ref b36)])) (fun zt zk => XS.iconst X37.here hx rfl (hb hby d52_21) zk) ?_
  have f40 : Exa Z T37.heap b36 "java/lang/String" := (A36.keep Kq37)
  have f41 : Fld Z T37.heap b36 "java/lang/String" "value" "[B" .null := (Fn36_value.keep Kq37 nin0)
  have f42 : Fld Z T37.heap b36 "java/lang/String" "coder" "B" (.int (0 : Int32)) := (Fn36_coder.keep Kq37 nin0)
  obtain ⟨vr43, _, ⟨T43, L43, k43, n43⟩, -, X43, ⟨Lc43, hQ43, l43, y43, z43⟩, st43⟩ := X37.specialBack hx (y := (⟨"java/lang/String", "<init>", "([BB)V"⟩ : MethodName)) rfl hown (mvT hZ (hw _ (List.mem_of_getElem? (i := 353) rfl))) (mvT hZ (hw _ (List.mem_of_getElem? (i := 354) rfl))) (mvT hZ (hw _ (List.mem_of_getElem? (i := 355) rfl))) (by decide) (backOf (W := 1) (rmBB l Z a0 hw b36 y37 T37.heap n0 (Nat.le_trans Z0 KK38.1) f40 g_b36 f41 f42) hZ (hw _ (List.mem_of_getElem? (i := 355) rfl)) (hw _ (List.mem_of_getElem? (i := 6) rfl)) (by decide) (by decide)) (g := (mkF m 22 #[.val (.int p1)] [(.int (0 : Int32)), (.ref y37), (.ref b36), (.ref b36)])) rfl (by rw [hml]; rfl) (Steps.refl _) (a := b36) (argsL := [(.ref y37), (.int (0 : Int32))]) (rest := [(.ref b36)]) (lenOf pd_2f4f85c rfl) rfl (by show 2 * 0 + _ ≤ _; exact Nat.le_of_eq rfl) (hb hby d52_22) (fun _ _ => ⟨rfl, rfl, (by decide : 2 + 0 ≤ _), (by decide : 5 + 0 ≤ _)⟩)
  dsimp only [Pt.U, Pt.locs, Pt.cells, Pt.slots] at X43 l43 y43 z43 st43 hQ43
  subst l43 y43 z43
  obtain ⟨rfl, Nq43, Kq43, Eq43, Cq43, Vq43⟩ := hQ43
  have KK44 : Keep h0 T43.heap [] := KK38.trans Kq43 (allS (Or.inr sz_b36) all0)
  have NN45 := Fr.app NN39 Nq43
  refine Go.st (T' := T43.setTop (mkF m 25 #[.val (.int p1)] [(.ref b36)])) (fun zt zk => st43.trans zk) ?_
  have f46 : Arv Z T43.heap y37 ky37 .byte (1 : Int32) [(.int (p1.toInt8.toInt32))] (.int (0 : Int32)) := (Vy37.keep Kq43 (ninS (Ne.symm neb36_37) nin0))
  exact Go.done X43 Bd.notSynchronized (v := some (.ref b36)) (fun h => by rw [Bd.returns] at h; cases h) (fun fs hr => retA X43 hx Bd.returns rfl rfl rfl (hb hby d52_25) hr) (by rw [(rfl : T43.heap = T43.heap)]; exact ⟨NN45, KK44, b36, y37, _, rfl, Eq43, Cq43, Vq43, f46⟩) (by decide) (by decide)
theorem d1_0 : decode method_3_code 0 = .ok (.iload_n 0, 1) := by decide +kernel
theorem d1_1 : decode method_3_code 1 = .ok (.ifCond .ne 14, 3) := by decide +kernel
theorem d1_4 : decode method_3_code 4 = .ok (.new 32, 3) := by decide +kernel
theorem d1_7 : decode method_3_code 7 = .ok (.dup, 1) := by decide +kernel
theorem d1_8 : decode method_3_code 8 = .ok (.iconst 0, 1) := by decide +kernel
theorem d1_9 : decode method_3_code 9 = .ok (.newarray .char, 2) := by decide +kernel
theorem d1_11 : decode method_3_code 11 = .ok (.invokespecial 45, 3) := by decide +kernel
theorem d1_14 : decode method_3_code 14 = .ok (.areturn, 1) := by decide +kernel
theorem d1_15 : decode method_3_code 15 = .ok (.iload_n 0, 1) := by decide +kernel
theorem d1_16 : decode method_3_code 16 = .ok (.iconst 1, 1) := by decide +kernel
theorem d1_17 : decode method_3_code 17 = .ok (.if_icmp .ne 8, 3) := by decide +kernel
theorem d1_20 : decode method_3_code 20 = .ok (.iload_n 1, 1) := by decide +kernel
theorem d1_21 : decode method_3_code 21 = .ok (.invokestatic 48, 3) := by decide +kernel
theorem d1_24 : decode method_3_code 24 = .ok (.areturn, 1) := by decide +kernel
theorem d1_25 : decode method_3_code 25 = .ok (.new 32, 3) := by decide +kernel
theorem d1_28 : decode method_3_code 28 = .ok (.dup, 1) := by decide +kernel
theorem d1_29 : decode method_3_code 29 = .ok (.iconst 2, 1) := by decide +kernel
theorem d1_30 : decode method_3_code 30 = .ok (.newarray .char, 2) := by decide +kernel
theorem d1_32 : decode method_3_code 32 = .ok (.dup, 1) := by decide +kernel
theorem d1_33 : decode method_3_code 33 = .ok (.iconst 0, 1) := by decide +kernel
theorem d1_34 : decode method_3_code 34 = .ok (.iload_n 1, 1) := by decide +kernel
theorem d1_35 : decode method_3_code 35 = .ok (.castore, 1) := by decide +kernel
theorem d1_36 : decode method_3_code 36 = .ok (.dup, 1) := by decide +kernel
theorem d1_37 : decode method_3_code 37 = .ok (.iconst 1, 1) := by decide +kernel
theorem d1_38 : decode method_3_code 38 = .ok (.iload_n 2, 1) := by decide +kernel
theorem d1_39 : decode method_3_code 39 = .ok (.castore, 1) := by decide +kernel
theorem d1_40 : decode method_3_code 40 = .ok (.invokespecial 45, 3) := by decide +kernel
theorem d1_43 : decode method_3_code 43 = .ok (.areturn, 1) := by decide +kernel
theorem pn_3d5c09a : plainName "com/example/uakari/uakari/CommandLineErrorPinLaw" = true := by first | (simp [plainName, overriddenIn]; done) | decide +kernel
theorem pd_a67b36d : parseMethodDescriptor "([C)V" = some ⟨[(.array .char)], none⟩ := by decide +kernel
theorem pd_b5a46ce : parseMethodDescriptor "(C)Ljava/lang/String;" = some ⟨[.char], some (.object "java/lang/String")⟩ := by decide +kernel
theorem ef_1 (m : MethodId) (x0 : Int32) (x1 : Int32) (x2 : Int32) : entryFrame m #[(.int x0), (.int x1), (.int x2)] 3 = mkF m 0 #[.val (.int x0), .val (.int x1), .val (.int x2)] [] := by first | (simp [entryFrame, mkF, argsToLocals, Value.category]; done) | rfl
def Q_rmMk (Z : State) (pn pa pb : Int32) (h0 : Heap) (n0 : Nat) (v : Option Value) (h : Heap) (L : List Loc) : Prop := Fr n0 L ∧ Keep h0 h [] ∧ ∃ (x t : Addr) (kb : ClassId), v = some (.ref x) ∧ Exa Z h x "java/lang/String" ∧ Fld Z h x "java/lang/String" "coder" "B" (.int (0 : Int32)) ∧ Fld Z h x "java/lang/String" "value" "[B" (.ref t) ∧ Arv Z h t kb .byte (Int32.ofNat (own_mk pn pa pb).length) (((own_mk pn pa pb).map (fun c => c.toInt8.toInt32)).map Value.int) (.int (0 : Int32))
set_option maxRecDepth 65536 in
set_option maxHeartbeats 40000000 in
theorem rmMk (l : Launch) (Z : State) (a0 : Array Value) (hw : ∀ d ∈ tables_1, d.before a0 Z = true) (pn pa pb : Int32) (h0 : Heap) (n0 : Nat) (Z0 : n0 ≤ h0.size) (G1 : Int32) (O2 : Sta Z Z.heap "java/lang/String" "COMPACT_STRINGS" "Z" (.int G1)) (P5 : ¬ (G1 = (0 : Int32))) (X00 : Old Z n0 h0) (hA : own_C pa) (hB : own_C pb) (hEL : EW Z a0 EL) (wS : ∀ a ∈ Bundle.stringAtoms, a.before a0 Z = true) :
    MetFree l (⟨"com/example/uakari/uakari/CommandLineErrorPinLaw", "mk", "(ICC)Ljava/lang/String;"⟩ : MethodName) (head1 [Jvm.Cond.code (⟨"com/example/uakari/uakari/CommandLineErrorPinLaw", "mk", "(ICC)Ljava/lang/String;"⟩ : MethodName) method_3_code 3 (some (.object "java/lang/String"))] ({ frames := 4, cells := 4, slots := 8, locals := 66 } : Room)) (fun a U => a = #[(.int pn), (.int pa), (.int pb)] ∧ Z.Warmed39 U.vm ∧ U.heap = h0 ∧ CHv Z EL U.vm h0) (fun _ _ _ _ _ => True) (fun _ U o U' => ∃ v L, o = .returned v ∧ (Q_rmMk Z pn pa pb h0 n0) v U'.heap L ∧ CHr Z EL U.vm U.heap U'.vm U'.heap ∧ ReturnedEndW U o U' L ({ frames := 4, cells := 4, slots := 8, locals := 66 } : Room).cells ({ frames := 4, cells := 4, slots := 8, locals := 66 } : Room).slots) := by
  refine MetFree.of_bodySF (plainFor_of_name pn_3d5c09a) hisR ?_
  intro p e s m args below meth c s₁ Bd hml0 hP hK
  obtain ⟨rfl, hZ, hh, hCH⟩ := hP
  have hx := Bd.exec
  have hby := Bd.bytes
  have hml : c.maxLocals = 3 := hml0
  have hown : s.vm.findClass "com/example/uakari/uakari/CommandLineErrorPinLaw" = some m.cls := findClass_of_methodNamed Bd.named
  have hnm := (name_of_methodNamed Bd.named Bd.method).1
  have X0 : Stand p l e ({ frames := 4, cells := 4, slots := 8, locals := 66 } : Room) s m #[(.int pn), (.int pa), (.int pb)] below meth c s₁ [] 0 0 := Stand.of_body Bd
  have e0 : s₁.heap = h0 := by rw [← hh, Bd.state]; rfl
  have N0 := Fr.nil n0
  have K0 : Keep h0 h0 [] := Keep.refl h0 []
  have X0h : Stand p l e ({ frames := 4, cells := 4, slots := 8, locals := 66 } : Room) (s.setVm s.vm) m #[(.int pn), (.int pa), (.int pb)] below meth c s₁ [] 0 0 := X0
  have hZh : Z.Warmed39 (s.setVm s.vm).vm := hZ
  have hownh : (s.setVm s.vm).vm.findClass "com/example/uakari/uakari/CommandLineErrorPinLaw" = some m.cls := hown
  have hS0 : s.Since s.vm 0 := (State.WarmedH.refl s).since 0
  have C0 : CHr Z EL s.vm h0 s.vm h0 := CHr.refl hCH
  show Go p e below (s₁.setTop (entryFrame m #[(.int pn), (.int pa), (.int pb)] 3)) (EndH Z EL s (Q_rmMk Z pn pa pb h0 n0) ({ frames := 4, cells := 4, slots := 8, locals := 66 } : Room).cells ({ frames := 4, cells := 4, slots := 8, locals := 66 } : Room).slots)
  refine Go.top (ef_1 m pn pa pb) ?_
  have hws : ∀ d ∈ StrChars.Road.words, d.before a0 Z = true := fun d hd => hw d ((by decide +kernel : ∀ d ∈ StrChars.Road.words, d ∈ tables_1) d hd)
  refine Go.st (T' := s₁.setTop (mkF m 1 #[.val (.int pn), .val (.int pa), .val (.int pb)] [(.int pn)])) (fun zt zk => XS.iloadN X0h.here hx rfl (hb hby d1_0) rfl zk) ?_
  by_cases hz0 : pn = (0 : Int32)
  ·
    refine Go.st (T' := s₁.setTop (mkF m 4 #[.val (.int pn), .val (.int pa), .val (.int pb)] [])) (fun zt zk => XS.ifNo X0h.here hx rfl (hb hby d1_1) rfl ((if0 _ _).trans (teq hz0).2) zk) ?_
    obtain ⟨T47, h47, X47, e47, E47, A47, D47, U47, st47⟩ := newO X0h hx hZh hownh (hw _ (List.mem_of_getElem? (i := 4) rfl)) (hw _ (List.mem_of_getElem? (i := 5) rfl)) (hw _ (List.mem_of_getElem? (i := 6) rfl)) e0 (g := (mkF m 4 #[.val (.int pn), .val (.int pa), .val (.int pb)] [])) rfl (hb hby d1_4) (by decide) (by decide)
    obtain ⟨b47, g47⟩ : ∃ z, z = h0.size := ⟨_, rfl⟩
    rw [← g47] at A47 D47 U47 st47
    have g_b47 : n0 ≤ b47 := Nat.le_trans (Nat.le_trans Z0 K0.1) (Nat.le_of_eq g47.symm)
    have sz_b47 : h0.size ≤ b47 := Nat.le_trans K0.1 (Nat.le_of_eq g47.symm)
    have C48 : CHr Z EL s.vm h0 s.vm h47 := C0.trans (CHr.ext E47 C0.1)
    have K47 : Keep h0 h47 [] := K0.ext E47
    have Fn47_coder : Fld Z h47 b47 "java/lang/String" "coder" "B" (.int (0 : Int32)) := D47 (Or.inr (hw _ (List.mem_of_getElem? (i := 31) rfl))) (ty := .byte) (by decide)
    have Fn47_value : Fld Z h47 b47 "java/lang/String" "value" "[B" .null := D47 (Or.inr (hw _ (List.mem_of_getElem? (i := 33) rfl))) (ty := (.array .byte)) (by decide)
    refine Go.st (T' := T47.setTop (mkF m 7 #[.val (.int pn), .val (.int pa), .val (.int pb)] [(.ref b47)])) (fun zt zk => st47 zt zk) ?_
    refine Go.st (T' := T47.setTop (mkF m 8 #[.val (.int pn), .val (.int pa), .val (.int pb)] [(.ref b47), (.ref b47)])) (fun zt zk => XS.dup X47.here hx rfl (hb hby d1_7) rfl rfl zk) ?_
    refine Go.st (T' := T47.setTop (mkF m 9 #[.val (.int pn), .val (.int pa), .val (.int pb)] [(.int (0 : Int32)), (.ref b47), (.ref b47)])) (fun zt zk => XS.iconst X47.here hx rfl (hb hby d1_8) zk) ?_
    obtain ⟨T49, h49, k49, X49, e49, E49, A49, st49⟩ := newP X47 hx hZh (hw _ (List.mem_of_getElem? (i := 7) rfl)) e47 (g := (mkF m 9 #[.val (.int pn), .val (.int pa), .val (.int pb)] [(.int (0 : Int32)), (.ref b47), (.ref b47)])) rfl (hb hby d1_9) rfl (by decide) (cap := 0) (by decide) (by decide) (by decide) (by decide)
    obtain ⟨b49, g49⟩ : ∃ z, z = h47.size := ⟨_, rfl⟩
    rw [← g49] at A49 st49
    have g_b49 : n0 ≤ b49 := Nat.le_trans (Nat.le_trans Z0 K47.1) (Nat.le_of_eq g49.symm)
    have sz_b49 : h0.size ≤ b49 := Nat.le_trans K47.1 (Nat.le_of_eq g49.symm)
    have ne50 : b47 ≠ b49 := Nat.ne_of_lt (Nat.lt_of_lt_of_le A47.lt (Nat.le_of_eq g49.symm))
    have C51 : CHr Z EL s.vm h0 s.vm h49 := C48.trans (CHr.ext E49 C48.1)
    have K49 : Keep h0 h49 [] := K47.ext E49
    have V49 : Arv Z h49 b49 k49 .char (0 : Int32) [] (.int (0 : Int32)) := (Arv.new A49 (by decide)).pad (pad_rep [] (.int (0 : Int32)) 0)
    refine Go.st (T' := T49.setTop (mkF m 11 #[.val (.int pn), .val (.int pa), .val (.int pb)] [(.ref b49), (.ref b47), (.ref b47)])) (fun zt zk => st49 zt zk) ?_
    have f52 : Exa Z h49 b47 "java/lang/String" := (A47.ext E49)
    have f53 : Fld Z h49 b47 "java/lang/String" "value" "[B" .null := (Fn47_value.ext E49)
    have f54 : Fld Z h49 b47 "java/lang/String" "coder" "B" (.int (0 : Int32)) := (Fn47_coder.ext E49)
    obtain ⟨vr55, _, ⟨T55, L55, k55, n55⟩, -, X55, hs55, hg55, ⟨Lc55, hQ55, l55, y55, z55⟩, st55⟩ := X49.specialBackS hx (y := (⟨"java/lang/String", "<init>", "([C)V"⟩ : MethodName)) rfl hownh (mvT hZh (hw _ (List.mem_of_getElem? (i := 8) rfl))) (mvT hZh (hw _ (List.mem_of_getElem? (i := 9) rfl))) (mvT hZh (hw _ (List.mem_of_getElem? (i := 10) rfl))) (by decide) (backOfSH (s := s) (vm0 := s.vm) (W := 1) (rmSE1 l Z a0 hw b47 b49 k49 h49 n0 (Nat.le_trans Z0 K49.1) f52 g_b47 f53 f54 hEL wS V49) hZh (hw _ (List.mem_of_getElem? (i := 10) rfl)) (hw _ (List.mem_of_getElem? (i := 6) rfl)) (by decide) (by decide) hEL C51.1) (g := (mkF m 11 #[.val (.int pn), .val (.int pa), .val (.int pb)] [(.ref b49), (.ref b47), (.ref b47)])) rfl (by rw [hml]; rfl) (Steps.refl _) (a := b47) (argsL := [(.ref b49)]) (rest := [(.ref b47)]) (lenOf pd_a67b36d rfl) rfl (by show 2 * 0 + _ ≤ _; exact Nat.le_of_eq rfl) (hb hby d1_11) (fun _ _ => ⟨rfl, e49, (by decide : 2 + 2 ≤ _), (by decide : 4 + 4 ≤ _)⟩)
    dsimp only [Pt.U, Pt.locs, Pt.cells, Pt.slots] at X55 l55 y55 z55 st55 hQ55 hs55 hg55
    subst l55 y55
    obtain ⟨z55, CC55⟩ := z55
    subst z55
    obtain ⟨rfl, Nq55, Kq55, Eq55, Cq55, t55, kb55, nt55, Vq55, Bq55⟩ := hQ55
    obtain ⟨Xr55, hSr55, hZr55, hor55⟩ := rebS (s := s) (vm0 := s.vm) hS0 (by rw [e49]; exact (Nat.zero_le _)) X55 hs55 hg55 hZh hownh
    have C56 : CHr Z EL s.vm h0 T55.vm T55.heap := C51.trans CC55
    have KK57 : Keep h0 T55.heap [] := K49.trans Kq55 (allS (Or.inr sz_b47) all0)
    have NN58 := Fr.app N0 Nq55
    refine Go.st (T' := T55.setTop (mkF m 14 #[.val (.int pn), .val (.int pa), .val (.int pb)] [(.ref b47)])) (fun zt zk => st55.trans zk) ?_
    have es : own_mk pn pa pb = [] := by simp [own_mk, hz0]
    exact Go.doneH Xr55 hSr55 (by rw [(rfl : T55.heap = T55.heap)]; exact (Nat.le_refl _)) Bd.notSynchronized (v := some (.ref b47)) (fun h => by rw [Bd.returns] at h; cases h) (fun fs hr => retA Xr55 hx Bd.returns rfl rfl rfl (hb hby d1_14) hr) (by rw [(rfl : T55.heap = T55.heap)]; exact ⟨NN58, KK57, b47, t55, kb55, rfl, Eq55, Cq55, Vq55, by rw [es]; exact Bq55⟩) (by decide) (by decide) hZr55 hEL hh rfl C56
  ·
    refine Go.st (T' := s₁.setTop (mkF m 15 #[.val (.int pn), .val (.int pa), .val (.int pb)] [])) (fun zt zk => XS.ifYes X0h.here hx rfl (pc0 := 1) (pc' := 15) rfl (hb hby d1_1) rfl ((if0 _ _).trans (feq hz0).2) (by decide) (by decide) zk) ?_
    refine Go.st (T' := s₁.setTop (mkF m 16 #[.val (.int pn), .val (.int pa), .val (.int pb)] [(.int pn)])) (fun zt zk => XS.iloadN X0h.here hx rfl (hb hby d1_15) rfl zk) ?_
    refine Go.st (T' := s₁.setTop (mkF m 17 #[.val (.int pn), .val (.int pa), .val (.int pb)] [(.int (1 : Int32)), (.int pn)])) (fun zt zk => XS.iconst X0h.here hx rfl (hb hby d1_16) zk) ?_
    by_cases hz1 : pn = (1 : Int32)
    ·
      refine Go.st (T' := s₁.setTop (mkF m 20 #[.val (.int pn), .val (.int pa), .val (.int pb)] [])) (fun zt zk => XS.icmpNo X0h.here hx rfl (hb hby d1_17) rfl (teq hz1).2 zk) ?_
      refine Go.st (T' := s₁.setTop (mkF m 21 #[.val (.int pn), .val (.int pa), .val (.int pb)] [(.int pa)])) (fun zt zk => XS.iloadN X0h.here hx rfl (hb hby d1_20) rfl zk) ?_
      obtain ⟨vr59, _, ⟨T59, L59, k59, n59⟩, -, X59, ⟨Lc59, hQ59, l59, y59, z59⟩, st59⟩ := Jvm.LawKit.callS X0h hx (y := (⟨"java/lang/String", "valueOf", "(C)Ljava/lang/String;"⟩ : MethodName)) hownh (mvT hZh (hw _ (List.mem_of_getElem? (i := 343) rfl))) (mvT hZh (hw _ (List.mem_of_getElem? (i := 344) rfl))) (mvT hZh (hw _ (List.mem_of_getElem? (i := 6) rfl))) (mvT hZh (hw _ (List.mem_of_getElem? (i := 345) rfl))) (by decide) (backOf (W := 0) (rmVal l Z a0 hw pa h0 n0 (Nat.le_trans Z0 K0.1) G1 O2 P5 (X00.keep K0 all0) hA.1.2) hZh (hw _ (List.mem_of_getElem? (i := 345) rfl)) (hw _ (List.mem_of_getElem? (i := 6) rfl)) (by decide) (by decide)) (g := (mkF m 21 #[.val (.int pn), .val (.int pa), .val (.int pb)] [(.int pa)])) rfl (by rw [hml]; rfl) (argsL := [(.int pa)]) (rest := []) (lenOf pd_b5a46ce rfl) rfl (by show 2 * 0 + _ ≤ _; exact Nat.le_of_eq rfl) (hb hby d1_21) (fun _ _ => ⟨rfl, e0, (by decide : 0 + 2 ≤ _), (by decide : 0 + 5 ≤ _)⟩)
      dsimp only [Pt.U, Pt.locs, Pt.cells, Pt.slots] at X59 l59 y59 z59 st59 hQ59
      subst l59 y59 z59
      obtain ⟨Nq59, Kq59, x59, t59, kb59, rfl, Eq59, Cq59, Vq59, Bq59⟩ := hQ59
      have C60 : CHr Z EL s.vm h0 s.vm T59.heap := C0.trans (CHr.keep Kq59 all0 C0.1)
      have KK61 : Keep h0 T59.heap [] := K0.trans Kq59 all0
      have NN62 := Fr.app N0 Nq59
      refine Go.st (T' := T59.setTop (mkF m 24 #[.val (.int pn), .val (.int pa), .val (.int pb)] [(.ref x59)])) (fun zt zk => st59 zt zk) ?_
      have es : own_mk pn pa pb = [pa] := by simp [own_mk, hz0, hz1]
      exact Go.doneH X59 hS0 (by rw [(rfl : T59.heap = T59.heap)]; exact (Nat.zero_le _)) Bd.notSynchronized (v := some (.ref x59)) (fun h => by rw [Bd.returns] at h; cases h) (fun fs hr => retA X59 hx Bd.returns rfl rfl rfl (hb hby d1_24) hr) (by rw [(rfl : T59.heap = T59.heap)]; exact ⟨NN62, KK61, x59, t59, kb59, rfl, Eq59, Cq59, Vq59, by rw [es]; exact Bq59⟩) (by decide) (by decide) hZh hEL hh rfl C60
    ·
      refine Go.st (T' := s₁.setTop (mkF m 25 #[.val (.int pn), .val (.int pa), .val (.int pb)] [])) (fun zt zk => XS.icmpYes X0h.here hx rfl (pc0 := 17) (pc' := 25) rfl (hb hby d1_17) rfl (feq hz1).2 (by decide) (by decide) zk) ?_
      obtain ⟨T63, h63, X63, e63, E63, A63, D63, U63, st63⟩ := newO X0h hx hZh hownh (hw _ (List.mem_of_getElem? (i := 4) rfl)) (hw _ (List.mem_of_getElem? (i := 5) rfl)) (hw _ (List.mem_of_getElem? (i := 6) rfl)) e0 (g := (mkF m 25 #[.val (.int pn), .val (.int pa), .val (.int pb)] [])) rfl (hb hby d1_25) (by decide) (by decide)
      obtain ⟨b63, g63⟩ : ∃ z, z = h0.size := ⟨_, rfl⟩
      rw [← g63] at A63 D63 U63 st63
      have g_b63 : n0 ≤ b63 := Nat.le_trans (Nat.le_trans Z0 K0.1) (Nat.le_of_eq g63.symm)
      have sz_b63 : h0.size ≤ b63 := Nat.le_trans K0.1 (Nat.le_of_eq g63.symm)
      have C64 : CHr Z EL s.vm h0 s.vm h63 := C0.trans (CHr.ext E63 C0.1)
      have K63 : Keep h0 h63 [] := K0.ext E63
      have Fn63_coder : Fld Z h63 b63 "java/lang/String" "coder" "B" (.int (0 : Int32)) := D63 (Or.inr (hw _ (List.mem_of_getElem? (i := 31) rfl))) (ty := .byte) (by decide)
      have Fn63_value : Fld Z h63 b63 "java/lang/String" "value" "[B" .null := D63 (Or.inr (hw _ (List.mem_of_getElem? (i := 33) rfl))) (ty := (.array .byte)) (by decide)
      refine Go.st (T' := T63.setTop (mkF m 28 #[.val (.int pn), .val (.int pa), .val (.int pb)] [(.ref b63)])) (fun zt zk => st63 zt zk) ?_
      refine Go.st (T' := T63.setTop (mkF m 29 #[.val (.int pn), .val (.int pa), .val (.int pb)] [(.ref b63), (.ref b63)])) (fun zt zk => XS.dup X63.here hx rfl (hb hby d1_28) rfl rfl zk) ?_
      refine Go.st (T' := T63.setTop (mkF m 30 #[.val (.int pn), .val (.int pa), .val (.int pb)] [(.int (2 : Int32)), (.ref b63), (.ref b63)])) (fun zt zk => XS.iconst X63.here hx rfl (hb hby d1_29) zk) ?_
      obtain ⟨T65, h65, k65, X65, e65, E65, A65, st65⟩ := newP X63 hx hZh (hw _ (List.mem_of_getElem? (i := 7) rfl)) e63 (g := (mkF m 30 #[.val (.int pn), .val (.int pa), .val (.int pb)] [(.int (2 : Int32)), (.ref b63), (.ref b63)])) rfl (hb hby d1_30) rfl (by decide) (cap := 2) (by decide) (by decide) (by decide) (by decide)
      obtain ⟨b65, g65⟩ : ∃ z, z = h63.size := ⟨_, rfl⟩
      rw [← g65] at A65 st65
      have g_b65 : n0 ≤ b65 := Nat.le_trans (Nat.le_trans Z0 K63.1) (Nat.le_of_eq g65.symm)
      have sz_b65 : h0.size ≤ b65 := Nat.le_trans K63.1 (Nat.le_of_eq g65.symm)
      have ne66 : b63 ≠ b65 := Nat.ne_of_lt (Nat.lt_of_lt_of_le A63.lt (Nat.le_of_eq g65.symm))
      have C67 : CHr Z EL s.vm h0 s.vm h65 := C64.trans (CHr.ext E65 C64.1)
      have K65 : Keep h0 h65 [] := K63.ext E65
      have V65 : Arv Z h65 b65 k65 .char (2 : Int32) [(.int (0 : Int32)), (.int (0 : Int32))] (.int (0 : Int32)) := (Arv.new A65 (by decide)).pad (pad_rep [] (.int (0 : Int32)) 2)
      refine Go.st (T' := T65.setTop (mkF m 32 #[.val (.int pn), .val (.int pa), .val (.int pb)] [(.ref b65), (.ref b63), (.ref b63)])) (fun zt zk => st65 zt zk) ?_
      refine Go.st (T' := T65.setTop (mkF m 33 #[.val (.int pn), .val (.int pa), .val (.int pb)] [(.ref b65), (.ref b65), (.ref b63), (.ref b63)])) (fun zt zk => XS.dup X65.here hx rfl (hb hby d1_32) rfl rfl zk) ?_
      refine Go.st (T' := T65.setTop (mkF m 34 #[.val (.int pn), .val (.int pa), .val (.int pb)] [(.int (0 : Int32)), (.ref b65), (.ref b65), (.ref b63), (.ref b63)])) (fun zt zk => XS.iconst X65.here hx rfl (hb hby d1_33) zk) ?_
      refine Go.st (T' := T65.setTop (mkF m 35 #[.val (.int pn), .val (.int pa), .val (.int pb)] [(.int pa), (.int (0 : Int32)), (.ref b65), (.ref b65), (.ref b63), (.ref b63)])) (fun zt zk => XS.iloadN X65.here hx rfl (hb hby d1_34) rfl zk) ?_
      obtain ⟨cl68, Ar68, q68, S68, M68, H68, G68⟩ := id V65
      obtain ⟨T68, h68, X68, e68, W68, st68⟩ := stC X65 hx hZh e65 Ar68 (j := (0 : Int32)) (inb_of S68 ⟨by decide, by decide⟩) (g := (mkF m 35 #[.val (.int pn), .val (.int pa), .val (.int pb)] [(.int pa), (.int (0 : Int32)), (.ref b65), (.ref b65), (.ref b63), (.ref b63)])) rfl rfl (hb hby d1_35)
      have C69 : CHr Z EL s.vm h0 s.vm h68 := C67.trans (CHr.wr W68 (by obtain ⟨_, A_, _⟩ := id V65; exact Safe.arr hZh.alike A_ (by decide)) C67.1)
      have V68 : Arv Z h68 b65 k65 .char (2 : Int32) [(.int (nar .char pa)), (.int (0 : Int32))] (.int (0 : Int32)) := Arv.set Ar68 q68 S68 M68 H68 G68 (fits_nar_char _) W68 0 rfl (Nat.le_of_ble_eq_true rfl)
      have K68 : Keep h0 h68 [] := K65.wr W68 (Or.inr sz_b65)
      have N68 := Fr.snoc X68 N0 g_b65
      refine Go.st (T' := T68.setTop (mkF m 36 #[.val (.int pn), .val (.int pa), .val (.int pb)] [(.ref b65), (.ref b63), (.ref b63)])) (fun zt zk => st68 zt zk) ?_
      refine Go.st (T' := T68.setTop (mkF m 37 #[.val (.int pn), .val (.int pa), .val (.int pb)] [(.ref b65), (.ref b65), (.ref b63), (.ref b63)])) (fun zt zk => XS.dup X68.here hx rfl (hb hby d1_36) rfl rfl zk) ?_
      refine Go.st (T' := T68.setTop (mkF m 38 #[.val (.int pn), .val (.int pa), .val (.int pb)] [(.int (1 : Int32)), (.ref b65), (.ref b65), (.ref b63), (.ref b63)])) (fun zt zk => XS.iconst X68.here hx rfl (hb hby d1_37) zk) ?_
      refine Go.st (T' := T68.setTop (mkF m 39 #[.val (.int pn), .val (.int pa), .val (.int pb)] [(.int pb), (.int (1 : Int32)), (.ref b65), (.ref b65), (.ref b63), (.ref b63)])) (fun zt zk => XS.iloadN X68.here hx rfl (hb hby d1_38) rfl zk) ?_
      obtain ⟨cl70, Ar70, q70, S70, M70, H70, G70⟩ := id V68
      obtain ⟨T70, h70, X70, e70, W70, st70⟩ := stC X68 hx hZh e68 Ar70 (j := (1 : Int32)) (inb_of S70 ⟨by decide, by decide⟩) (g := (mkF m 39 #[.val (.int pn), .val (.int pa), .val (.int pb)] [(.int pb), (.int (1 : Int32)), (.ref b65), (.ref b65), (.ref b63), (.ref b63)])) rfl rfl (hb hby d1_39)
      have C71 : CHr Z EL s.vm h0 s.vm h70 := C69.trans (CHr.wr W70 (by obtain ⟨_, A_, _⟩ := id V68; exact Safe.arr hZh.alike A_ (by decide)) C69.1)
      have V70 : Arv Z h70 b65 k65 .char (2 : Int32) [(.int (nar .char pa)), (.int (nar .char pb))] (.int (0 : Int32)) := Arv.set Ar70 q70 S70 M70 H70 G70 (fits_nar_char _) W70 1 rfl (Nat.le_of_ble_eq_true rfl)
      have K70 : Keep h0 h70 [] := K68.wr W70 (Or.inr sz_b65)
      have N70 := Fr.snoc X70 N68 g_b65
      refine Go.st (T' := T70.setTop (mkF m 40 #[.val (.int pn), .val (.int pa), .val (.int pb)] [(.ref b65), (.ref b63), (.ref b63)])) (fun zt zk => st70 zt zk) ?_
      have hp : ∀ c ∈ ([nar .char pa, nar .char pb] : List Int32), ¬ c < 0 ∧ ¬ (255 : Int32) < c := by
        intro c hc
        rw [hA.2, hB.2] at hc
        exact own_all (n := (2 : Int32)) hA hB c hc
      have f72 : Exa Z h70 b63 "java/lang/String" := (((A63.ext E65).wr W68).wr W70)
      have f73 : Fld Z h70 b63 "java/lang/String" "value" "[B" .null := (((Fn63_value.ext E65).other W68 (Or.inl ne66)).other W70 (Or.inl ne66))
      have f74 : Fld Z h70 b63 "java/lang/String" "coder" "B" (.int (0 : Int32)) := (((Fn63_coder.ext E65).other W68 (Or.inl ne66)).other W70 (Or.inl ne66))
      obtain ⟨vr75, _, ⟨T75, L75, k75, n75⟩, -, X75, ⟨Lc75, hQ75, l75, y75, z75⟩, st75⟩ := X70.specialBack hx (y := (⟨"java/lang/String", "<init>", "([C)V"⟩ : MethodName)) rfl hownh (mvT hZh (hw _ (List.mem_of_getElem? (i := 8) rfl))) (mvT hZh (hw _ (List.mem_of_getElem? (i := 9) rfl))) (mvT hZh (hw _ (List.mem_of_getElem? (i := 10) rfl))) (by decide) (StrChars.Road.backV (W := 1) hZh hws (kI := 4) (hw _ (List.mem_of_getElem? (i := 5) rfl)) (cs := ([nar .char pa, nar .char pb] : List Int32)) (bs := (([nar .char pa, nar .char pb] : List Int32)).map (fun c => c.toInt8.toInt32)) (n := 2) g_b63 (Nat.le_trans Z0 K70.1) f72 f73 f74 V70 (O2.ext (X00.keep K70 all0).2) P5 rfl rfl (by decide) (by decide) hp rfl (by decide) (by decide)) (g := (mkF m 40 #[.val (.int pn), .val (.int pa), .val (.int pb)] [(.ref b65), (.ref b63), (.ref b63)])) rfl (by rw [hml]; rfl) (Steps.refl _) (a := b63) (argsL := [(.ref b65)]) (rest := [(.ref b63)]) (lenOf pd_a67b36d rfl) rfl (by show 2 * 0 + _ ≤ _; exact Nat.le_of_eq rfl) (hb hby d1_40) (fun _ _ => ⟨rfl, e70, (by decide : 2 + 1 ≤ _), (by decide : 6 + 2 ≤ _)⟩)
      dsimp only [Pt.U, Pt.locs, Pt.cells, Pt.slots] at X75 l75 y75 z75 st75 hQ75
      subst l75 y75 z75
      obtain ⟨rfl, Nq75, Kq75, Eq75, Cq75, t75, kb75, ut75, vt75, wt75, Vq75, Bq75⟩ := hQ75
      have C76 : CHr Z EL s.vm h0 s.vm T75.heap := C71.trans (CHr.keep Kq75 (allS (own_safe hZh.alike f72 f73) all0) C71.1)
      have KK77 : Keep h0 T75.heap [] := K70.trans Kq75 (allS (Or.inr sz_b63) all0)
      have NN78 := Fr.app N70 Nq75
      refine Go.st (T' := T75.setTop (mkF m 43 #[.val (.int pn), .val (.int pa), .val (.int pb)] [(.ref b63)])) (fun zt zk => st75.trans zk) ?_
      have es : own_mk pn pa pb = [pa, pb] := by simp [own_mk, hz0, hz1]
      rw [hA.2, hB.2] at Bq75
      exact Go.doneH X75 hS0 (by rw [(rfl : T75.heap = T75.heap)]; exact (Nat.zero_le _)) Bd.notSynchronized (v := some (.ref b63)) (fun h => by rw [Bd.returns] at h; cases h) (fun fs hr => retA X75 hx Bd.returns rfl rfl rfl (hb hby d1_43) hr) (by rw [(rfl : T75.heap = T75.heap)]; exact ⟨NN78, KK77, b63, t75, kb75, rfl, Eq75, Cq75, Vq75, by rw [es]; exact Bq75⟩) (by decide) (by decide) hZh hEL hh rfl C76
theorem d10_0 : decode jdk_22_method_1_code 0 = .ok (.aload_n 0, 1) := by decide +kernel
theorem d10_1 : decode jdk_22_method_1_code 1 = .ok (.invokespecial 1, 3) := by decide +kernel
theorem d10_4 : decode jdk_22_method_1_code 4 = .ok (.return_, 1) := by decide +kernel
theorem pn_51327b4 : plainName "java/util/AbstractCollection" = true := by first | (simp [plainName, overriddenIn]; done) | decide +kernel
theorem ef_10 (m : MethodId) (x0 : Addr) : entryFrame m #[(.ref x0)] 1 = mkF m 0 #[.val (.ref x0)] [] := by first | (simp [entryFrame, mkF, argsToLocals, Value.category]; done) | rfl
def Q_rmAC (Z : State) (a1 : Addr) (h0 : Heap) (n0 : Nat) (v : Option Value) (h : Heap) (L : List Loc) : Prop := v = none ∧ Fr n0 L ∧ h = h0
set_option maxRecDepth 65536 in
set_option maxHeartbeats 40000000 in
theorem rmAC (l : Launch) (Z : State) (a0 : Array Value) (hw : ∀ d ∈ tables_1, d.before a0 Z = true) (a1 : Addr) (h0 : Heap) (n0 : Nat) (Z0 : n0 ≤ h0.size)  :
    MetFree l (⟨"java/util/AbstractCollection", "<init>", "()V"⟩ : MethodName) (head1 [Jvm.Cond.code (⟨"java/util/AbstractCollection", "<init>", "()V"⟩ : MethodName) jdk_22_method_1_code 1 none] ({ frames := 1, cells := 0, slots := 0, locals := 12 } : Room)) (fun a U => a = #[(.ref a1)] ∧ Z.Warmed39 U.vm ∧ U.heap = h0) (fun _ _ _ _ _ => True) (fun _ U o U' => ∃ v L, o = .returned v ∧ (Q_rmAC Z a1 h0 n0) v U'.heap L ∧ FrameEnd U o U' L ({ frames := 1, cells := 0, slots := 0, locals := 12 } : Room).cells ({ frames := 1, cells := 0, slots := 0, locals := 12 } : Room).slots) := by
  refine MetFree.of_bodySF (plainFor_of_name pn_51327b4) hisR ?_
  intro p e s m args below meth c s₁ Bd hml0 hP hK
  obtain ⟨rfl, hZ, hh⟩ := hP
  have hx := Bd.exec
  have hby := Bd.bytes
  have hml : c.maxLocals = 1 := hml0
  have hown : s.vm.findClass "java/util/AbstractCollection" = some m.cls := findClass_of_methodNamed Bd.named
  have hnm := (name_of_methodNamed Bd.named Bd.method).1
  have X0 : Stand p l e ({ frames := 1, cells := 0, slots := 0, locals := 12 } : Room) s m #[(.ref a1)] below meth c s₁ [] 0 0 := Stand.of_body Bd
  have e0 : s₁.heap = h0 := by rw [← hh, Bd.state]; rfl
  have N0 := Fr.nil n0
  have K0 : Keep h0 h0 [] := Keep.refl h0 []
  show Go p e below (s₁.setTop (entryFrame m #[(.ref a1)] 1)) (EndN s (Q_rmAC Z a1 h0 n0) ({ frames := 1, cells := 0, slots := 0, locals := 12 } : Room).cells ({ frames := 1, cells := 0, slots := 0, locals := 12 } : Room).slots)
  refine Go.top (ef_10 m a1) ?_
  refine Go.st (T' := s₁.setTop (mkF m 1 #[.val (.ref a1)] [(.ref a1)])) (fun zt zk => XS.aloadN X0.here hx rfl (hb hby d10_0) rfl rfl zk) ?_
  obtain ⟨T79, X79, e79, st79⟩ := initO X0 hx hZ hown (hw _ (List.mem_of_getElem? (i := 58) rfl)) (hw _ (List.mem_of_getElem? (i := 16) rfl)) (hw _ (List.mem_of_getElem? (i := 17) rfl)) e0 (g := (mkF m 1 #[.val (.ref a1)] [(.ref a1)])) rfl (by rw [hml]; rfl) rfl (hb hby d10_1) (by decide) (W := 0) (by show 2 * 0 + _ ≤ _; exact Nat.le_of_eq rfl) (by decide)
  refine Go.st (T' := T79.setTop (mkF m 4 #[.val (.ref a1)] [])) (fun zt zk => st79 zt zk) ?_
  exact Go.done X79 Bd.notSynchronized (v := none) (fun _ => rfl) (fun fs hr => X79.returnOut hx Bd.returns (hb hby d10_4) hr) (by rw [e79]; exact ⟨rfl, N0, rfl⟩) (by decide) (by decide)
theorem d14_0 : decode jdk_71_method_1_code 0 = .ok (.aload_n 0, 1) := by decide +kernel
theorem d14_1 : decode jdk_71_method_1_code 1 = .ok (.invokespecial 1, 3) := by decide +kernel
theorem d14_4 : decode jdk_71_method_1_code 4 = .ok (.return_, 1) := by decide +kernel
theorem pn_605753c : plainName "java/util/AbstractMap" = true := by first | (simp [plainName, overriddenIn]; done) | decide +kernel
theorem ef_14 (m : MethodId) (x0 : Addr) : entryFrame m #[(.ref x0)] 1 = mkF m 0 #[.val (.ref x0)] [] := by first | (simp [entryFrame, mkF, argsToLocals, Value.category]; done) | rfl
def Q_rmAM (Z : State) (a1 : Addr) (h0 : Heap) (n0 : Nat) (v : Option Value) (h : Heap) (L : List Loc) : Prop := v = none ∧ Fr n0 L ∧ h = h0
set_option maxRecDepth 65536 in
set_option maxHeartbeats 40000000 in
theorem rmAM (l : Launch) (Z : State) (a0 : Array Value) (hw : ∀ d ∈ tables_1, d.before a0 Z = true) (a1 : Addr) (h0 : Heap) (n0 : Nat) (Z0 : n0 ≤ h0.size)  :
    MetFree l (⟨"java/util/AbstractMap", "<init>", "()V"⟩ : MethodName) (head1 [Jvm.Cond.code (⟨"java/util/AbstractMap", "<init>", "()V"⟩ : MethodName) jdk_71_method_1_code 1 none] ({ frames := 1, cells := 0, slots := 0, locals := 12 } : Room)) (fun a U => a = #[(.ref a1)] ∧ Z.Warmed39 U.vm ∧ U.heap = h0) (fun _ _ _ _ _ => True) (fun _ U o U' => ∃ v L, o = .returned v ∧ (Q_rmAM Z a1 h0 n0) v U'.heap L ∧ FrameEnd U o U' L ({ frames := 1, cells := 0, slots := 0, locals := 12 } : Room).cells ({ frames := 1, cells := 0, slots := 0, locals := 12 } : Room).slots) := by
  refine MetFree.of_bodySF (plainFor_of_name pn_605753c) hisR ?_
  intro p e s m args below meth c s₁ Bd hml0 hP hK
  obtain ⟨rfl, hZ, hh⟩ := hP
  have hx := Bd.exec
  have hby := Bd.bytes
  have hml : c.maxLocals = 1 := hml0
  have hown : s.vm.findClass "java/util/AbstractMap" = some m.cls := findClass_of_methodNamed Bd.named
  have hnm := (name_of_methodNamed Bd.named Bd.method).1
  have X0 : Stand p l e ({ frames := 1, cells := 0, slots := 0, locals := 12 } : Room) s m #[(.ref a1)] below meth c s₁ [] 0 0 := Stand.of_body Bd
  have e0 : s₁.heap = h0 := by rw [← hh, Bd.state]; rfl
  have N0 := Fr.nil n0
  have K0 : Keep h0 h0 [] := Keep.refl h0 []
  show Go p e below (s₁.setTop (entryFrame m #[(.ref a1)] 1)) (EndN s (Q_rmAM Z a1 h0 n0) ({ frames := 1, cells := 0, slots := 0, locals := 12 } : Room).cells ({ frames := 1, cells := 0, slots := 0, locals := 12 } : Room).slots)
  refine Go.top (ef_14 m a1) ?_
  refine Go.st (T' := s₁.setTop (mkF m 1 #[.val (.ref a1)] [(.ref a1)])) (fun zt zk => XS.aloadN X0.here hx rfl (hb hby d14_0) rfl rfl zk) ?_
  obtain ⟨T80, X80, e80, st80⟩ := initO X0 hx hZ hown (hw _ (List.mem_of_getElem? (i := 86) rfl)) (hw _ (List.mem_of_getElem? (i := 16) rfl)) (hw _ (List.mem_of_getElem? (i := 17) rfl)) e0 (g := (mkF m 1 #[.val (.ref a1)] [(.ref a1)])) rfl (by rw [hml]; rfl) rfl (hb hby d14_1) (by decide) (W := 0) (by show 2 * 0 + _ ≤ _; exact Nat.le_of_eq rfl) (by decide)
  refine Go.st (T' := T80.setTop (mkF m 4 #[.val (.ref a1)] [])) (fun zt zk => st80 zt zk) ?_
  exact Go.done X80 Bd.notSynchronized (v := none) (fun _ => rfl) (fun fs hr => X80.returnOut hx Bd.returns (hb hby d14_4) hr) (by rw [e80]; exact ⟨rfl, N0, rfl⟩) (by decide) (by decide)
theorem d16_0 : decode jdk_91_method_1_code 0 = .ok (.aload_n 0, 1) := by decide +kernel
theorem d16_1 : decode jdk_91_method_1_code 1 = .ok (.invokespecial 1, 3) := by decide +kernel
theorem d16_4 : decode jdk_91_method_1_code 4 = .ok (.return_, 1) := by decide +kernel
theorem pn_6070982 : plainName "java/util/AbstractSet" = true := by first | (simp [plainName, overriddenIn]; done) | decide +kernel
theorem pd_a8eb9 : parseMethodDescriptor "()V" = some ⟨[], none⟩ := by decide +kernel
theorem ef_16 (m : MethodId) (x0 : Addr) : entryFrame m #[(.ref x0)] 1 = mkF m 0 #[.val (.ref x0)] [] := by first | (simp [entryFrame, mkF, argsToLocals, Value.category]; done) | rfl
def Q_rmASet (Z : State) (a1 : Addr) (h0 : Heap) (n0 : Nat) (v : Option Value) (h : Heap) (L : List Loc) : Prop := v = none ∧ Fr n0 L ∧ h = h0
set_option maxRecDepth 65536 in
set_option maxHeartbeats 40000000 in
theorem rmASet (l : Launch) (Z : State) (a0 : Array Value) (hw : ∀ d ∈ tables_1, d.before a0 Z = true) (a1 : Addr) (h0 : Heap) (n0 : Nat) (Z0 : n0 ≤ h0.size)  :
    MetFree l (⟨"java/util/AbstractSet", "<init>", "()V"⟩ : MethodName) (head1 [Jvm.Cond.code (⟨"java/util/AbstractSet", "<init>", "()V"⟩ : MethodName) jdk_91_method_1_code 1 none] ({ frames := 2, cells := 0, slots := 0, locals := 24 } : Room)) (fun a U => a = #[(.ref a1)] ∧ Z.Warmed39 U.vm ∧ U.heap = h0) (fun _ _ _ _ _ => True) (fun _ U o U' => ∃ v L, o = .returned v ∧ (Q_rmASet Z a1 h0 n0) v U'.heap L ∧ FrameEnd U o U' L ({ frames := 2, cells := 0, slots := 0, locals := 24 } : Room).cells ({ frames := 2, cells := 0, slots := 0, locals := 24 } : Room).slots) := by
  refine MetFree.of_bodySF (plainFor_of_name pn_6070982) hisR ?_
  intro p e s m args below meth c s₁ Bd hml0 hP hK
  obtain ⟨rfl, hZ, hh⟩ := hP
  have hx := Bd.exec
  have hby := Bd.bytes
  have hml : c.maxLocals = 1 := hml0
  have hown : s.vm.findClass "java/util/AbstractSet" = some m.cls := findClass_of_methodNamed Bd.named
  have hnm := (name_of_methodNamed Bd.named Bd.method).1
  have X0 : Stand p l e ({ frames := 2, cells := 0, slots := 0, locals := 24 } : Room) s m #[(.ref a1)] below meth c s₁ [] 0 0 := Stand.of_body Bd
  have e0 : s₁.heap = h0 := by rw [← hh, Bd.state]; rfl
  have N0 := Fr.nil n0
  have K0 : Keep h0 h0 [] := Keep.refl h0 []
  show Go p e below (s₁.setTop (entryFrame m #[(.ref a1)] 1)) (EndN s (Q_rmASet Z a1 h0 n0) ({ frames := 2, cells := 0, slots := 0, locals := 24 } : Room).cells ({ frames := 2, cells := 0, slots := 0, locals := 24 } : Room).slots)
  refine Go.top (ef_16 m a1) ?_
  refine Go.st (T' := s₁.setTop (mkF m 1 #[.val (.ref a1)] [(.ref a1)])) (fun zt zk => XS.aloadN X0.here hx rfl (hb hby d16_0) rfl rfl zk) ?_
  obtain ⟨vr81, _, ⟨T81, L81, k81, n81⟩, -, X81, ⟨Lc81, hQ81, l81, y81, z81⟩, st81⟩ := X0.specialBack hx (y := (⟨"java/util/AbstractCollection", "<init>", "()V"⟩ : MethodName)) rfl hown (mvT hZ (hw _ (List.mem_of_getElem? (i := 108) rfl))) (mvT hZ (hw _ (List.mem_of_getElem? (i := 53) rfl))) (mvT hZ (hw _ (List.mem_of_getElem? (i := 57) rfl))) (by decide) (backOf (W := 0) (rmAC l Z a0 hw a1 h0 n0 Z0) hZ (hw _ (List.mem_of_getElem? (i := 57) rfl)) (hw _ (List.mem_of_getElem? (i := 56) rfl)) (by decide) (by decide)) (g := (mkF m 1 #[.val (.ref a1)] [(.ref a1)])) rfl (by rw [hml]; rfl) (Steps.refl _) (a := a1) (argsL := []) (rest := []) (lenOf pd_a8eb9 rfl) rfl (by show 2 * 0 + _ ≤ _; exact Nat.le_of_eq rfl) (hb hby d16_1) (fun _ _ => ⟨rfl, e0, (by decide : 0 + 0 ≤ _), (by decide : 0 + 0 ≤ _)⟩)
  dsimp only [Pt.U, Pt.locs, Pt.cells, Pt.slots] at X81 l81 y81 z81 st81 hQ81
  subst l81 y81 z81
  obtain ⟨rfl, Nq81, eq81⟩ := hQ81
  have NN82 := Fr.app N0 Nq81
  refine Go.st (T' := T81.setTop (mkF m 4 #[.val (.ref a1)] [])) (fun zt zk => st81.trans zk) ?_
  exact Go.done X81 Bd.notSynchronized (v := none) (fun _ => rfl) (fun fs hr => X81.returnOut hx Bd.returns (hb hby d16_4) hr) (by rw [eq81]; exact ⟨rfl, NN82, rfl⟩) (by decide) (by decide)
theorem d9_0 : decode jdk_39_method_1_code 0 = .ok (.aload_n 0, 1) := by decide +kernel
theorem d9_1 : decode jdk_39_method_1_code 1 = .ok (.invokespecial 1, 3) := by decide +kernel
theorem d9_4 : decode jdk_39_method_1_code 4 = .ok (.aload_n 0, 1) := by decide +kernel
theorem d9_5 : decode jdk_39_method_1_code 5 = .ok (.iconst 0, 1) := by decide +kernel
theorem d9_6 : decode jdk_39_method_1_code 6 = .ok (.putfield 7, 3) := by decide +kernel
theorem d9_9 : decode jdk_39_method_1_code 9 = .ok (.return_, 1) := by decide +kernel
theorem pn_4aaca81 : plainName "java/util/AbstractList" = true := by first | (simp [plainName, overriddenIn]; done) | decide +kernel
theorem ef_9 (m : MethodId) (x0 : Addr) : entryFrame m #[(.ref x0)] 1 = mkF m 0 #[.val (.ref x0)] [] := by first | (simp [entryFrame, mkF, argsToLocals, Value.category]; done) | rfl
def Q_rmAL0 (Z : State) (a1 : Addr)  (h0 : Heap) (n0 : Nat) (v : Option Value) (h : Heap) (L : List Loc) : Prop := v = none ∧ Fr n0 L ∧ Keep h0 h [a1] ∧ Exa Z h a1 "java/util/ArrayList" ∧ Fld Z h a1 "java/util/ArrayList" "elementData" "[Ljava/lang/Object;" .null ∧ Fld Z h a1 "java/util/ArrayList" "size" "I" (.int (0 : Int32))
set_option maxRecDepth 65536 in
set_option maxHeartbeats 40000000 in
theorem rmAL0 (l : Launch) (Z : State) (a0 : Array Value) (hw : ∀ d ∈ tables_1, d.before a0 Z = true) (a1 : Addr)  (h0 : Heap) (n0 : Nat) (Z0 : n0 ≤ h0.size) (E1 : Exa Z h0 a1 "java/util/ArrayList") (g_a1 : n0 ≤ a1) (F_modCount : Fld Z h0 a1 "java/util/AbstractList" "modCount" "I" (.int (0 : Int32))) (F_elementData : Fld Z h0 a1 "java/util/ArrayList" "elementData" "[Ljava/lang/Object;" .null) (F_size : Fld Z h0 a1 "java/util/ArrayList" "size" "I" (.int (0 : Int32)))  :
    MetFree l (⟨"java/util/AbstractList", "<init>", "()V"⟩ : MethodName) (head1 [Jvm.Cond.code (⟨"java/util/AbstractList", "<init>", "()V"⟩ : MethodName) jdk_39_method_1_code 1 none] ({ frames := 2, cells := 0, slots := 0, locals := 24 } : Room)) (fun a U => a = #[(.ref a1)] ∧ Z.Warmed39 U.vm ∧ U.heap = h0) (fun _ _ _ _ _ => True) (fun _ U o U' => ∃ v L, o = .returned v ∧ (Q_rmAL0 Z a1 h0 n0) v U'.heap L ∧ FrameEnd U o U' L ({ frames := 2, cells := 0, slots := 0, locals := 24 } : Room).cells ({ frames := 2, cells := 0, slots := 0, locals := 24 } : Room).slots) := by
  refine MetFree.of_bodySF (plainFor_of_name pn_4aaca81) hisR ?_
  intro p e s m args below meth c s₁ Bd hml0 hP hK
  obtain ⟨rfl, hZ, hh⟩ := hP
  have hx := Bd.exec
  have hby := Bd.bytes
  have hml : c.maxLocals = 1 := hml0
  have hown : s.vm.findClass "java/util/AbstractList" = some m.cls := findClass_of_methodNamed Bd.named
  have hnm := (name_of_methodNamed Bd.named Bd.method).1
  have X0 : Stand p l e ({ frames := 2, cells := 0, slots := 0, locals := 24 } : Room) s m #[(.ref a1)] below meth c s₁ [] 0 0 := Stand.of_body Bd
  have e0 : s₁.heap = h0 := by rw [← hh, Bd.state]; rfl
  have N0 := Fr.nil n0
  have K0 : Keep h0 h0 [a1] := Keep.refl h0 [a1]
  show Go p e below (s₁.setTop (entryFrame m #[(.ref a1)] 1)) (EndN s (Q_rmAL0 Z a1 h0 n0) ({ frames := 2, cells := 0, slots := 0, locals := 24 } : Room).cells ({ frames := 2, cells := 0, slots := 0, locals := 24 } : Room).slots)
  refine Go.top (ef_9 m a1) ?_
  refine Go.st (T' := s₁.setTop (mkF m 1 #[.val (.ref a1)] [(.ref a1)])) (fun zt zk => XS.aloadN X0.here hx rfl (hb hby d9_0) rfl rfl zk) ?_
  obtain ⟨vr83, _, ⟨T83, L83, k83, n83⟩, -, X83, ⟨Lc83, hQ83, l83, y83, z83⟩, st83⟩ := X0.specialBack hx (y := (⟨"java/util/AbstractCollection", "<init>", "()V"⟩ : MethodName)) rfl hown (mvT hZ (hw _ (List.mem_of_getElem? (i := 52) rfl))) (mvT hZ (hw _ (List.mem_of_getElem? (i := 53) rfl))) (mvT hZ (hw _ (List.mem_of_getElem? (i := 57) rfl))) (by decide) (backOf (W := 0) (rmAC l Z a0 hw a1 h0 n0 (Nat.le_trans Z0 K0.1)) hZ (hw _ (List.mem_of_getElem? (i := 57) rfl)) (hw _ (List.mem_of_getElem? (i := 56) rfl)) (by decide) (by decide)) (g := (mkF m 1 #[.val (.ref a1)] [(.ref a1)])) rfl (by rw [hml]; rfl) (Steps.refl _) (a := a1) (argsL := []) (rest := []) (lenOf pd_a8eb9 rfl) rfl (by show 2 * 0 + _ ≤ _; exact Nat.le_of_eq rfl) (hb hby d9_1) (fun _ _ => ⟨rfl, e0, (by decide : 0 + 0 ≤ _), (by decide : 0 + 0 ≤ _)⟩)
  dsimp only [Pt.U, Pt.locs, Pt.cells, Pt.slots] at X83 l83 y83 z83 st83 hQ83
  subst l83 y83 z83
  obtain ⟨rfl, Nq83, eq83⟩ := hQ83
  have NN84 := Fr.app N0 Nq83
  refine Go.st (T' := T83.setTop (mkF m 4 #[.val (.ref a1)] [])) (fun zt zk => st83.trans zk) ?_
  refine Go.st (T' := T83.setTop (mkF m 5 #[.val (.ref a1)] [(.ref a1)])) (fun zt zk => XS.aloadN X83.here hx rfl (hb hby d9_4) rfl rfl zk) ?_
  refine Go.st (T' := T83.setTop (mkF m 6 #[.val (.ref a1)] [(.int (0 : Int32)), (.ref a1)])) (fun zt zk => XS.iconst X83.here hx rfl (hb hby d9_5) zk) ?_
  obtain ⟨T85, h85, X85, e85, W85, st85⟩ := putF X83 hx hZ hown (host := "") (Or.inl (hw _ (List.mem_of_getElem? (i := 59) rfl))) Via.refl eq83 F_modCount E1 (Or.inl (hw _ (List.mem_of_getElem? (i := 60) rfl))) (hw _ (List.mem_of_getElem? (i := 41) rfl)) (ty := .int) (by decide) rfl rfl (g := (mkF m 6 #[.val (.ref a1)] [(.int (0 : Int32)), (.ref a1)])) rfl rfl (hb hby d9_6)
  have Fw85 : Fld Z h85 a1 "java/util/AbstractList" "modCount" "I" (.int (0 : Int32)) := F_modCount.same W85
  have K85 : Keep h0 h85 [a1] := K0.wr W85 (Or.inl (List.mem_of_getElem? (i := 0) rfl))
  have N85 := Fr.snoc X85 NN84 g_a1
  refine Go.st (T' := T85.setTop (mkF m 9 #[.val (.ref a1)] [])) (fun zt zk => st85 zt zk) ?_
  have f86 : Exa Z h85 a1 "java/util/ArrayList" := (E1.wr W85)
  have f87 : Fld Z h85 a1 "java/util/ArrayList" "elementData" "[Ljava/lang/Object;" .null := (F_elementData.other W85 (Or.inr (slot_ne (Or.inl (hw _ (List.mem_of_getElem? (i := 63) rfl))) (Or.inl (hw _ (List.mem_of_getElem? (i := 60) rfl))) (by decide) (t := (.array (.object "java/lang/Object"))) (t' := .int) (by decide) (by decide))))
  have f88 : Fld Z h85 a1 "java/util/ArrayList" "size" "I" (.int (0 : Int32)) := (F_size.other W85 (Or.inr (slot_ne (Or.inl (hw _ (List.mem_of_getElem? (i := 136) rfl))) (Or.inl (hw _ (List.mem_of_getElem? (i := 60) rfl))) (by decide) (t := .int) (t' := .int) (by decide) (by decide))))
  exact Go.done X85 Bd.notSynchronized (v := none) (fun _ => rfl) (fun fs hr => X85.returnOut hx Bd.returns (hb hby d9_9) hr) (by rw [e85]; exact ⟨rfl, N85, K85, f86, f87, f88⟩) (by decide) (by decide)
theorem d8_0 : decode jdk_38_method_2_code 0 = .ok (.aload_n 0, 1) := by decide +kernel
theorem d8_1 : decode jdk_38_method_2_code 1 = .ok (.invokespecial 1, 3) := by decide +kernel
theorem d8_4 : decode jdk_38_method_2_code 4 = .ok (.aload_n 0, 1) := by decide +kernel
theorem d8_5 : decode jdk_38_method_2_code 5 = .ok (.getstatic 39, 3) := by decide +kernel
theorem d8_8 : decode jdk_38_method_2_code 8 = .ok (.putfield 9, 3) := by decide +kernel
theorem d8_11 : decode jdk_38_method_2_code 11 = .ok (.return_, 1) := by decide +kernel
theorem pn_c56ca98 : plainName "java/util/ArrayList" = true := by first | (simp [plainName, overriddenIn]; done) | decide +kernel
theorem ef_8 (m : MethodId) (x0 : Addr) : entryFrame m #[(.ref x0)] 1 = mkF m 0 #[.val (.ref x0)] [] := by first | (simp [entryFrame, mkF, argsToLocals, Value.category]; done) | rfl
def Q_rmAL (Z : State) (a1 : Addr) (de : Addr) (h0 : Heap) (n0 : Nat) (v : Option Value) (h : Heap) (L : List Loc) : Prop := v = none ∧ Fr n0 L ∧ Keep h0 h [a1] ∧ Exa Z h a1 "java/util/ArrayList" ∧ Fld Z h a1 "java/util/ArrayList" "size" "I" (.int (0 : Int32))
set_option maxRecDepth 65536 in
set_option maxHeartbeats 40000000 in
theorem rmAL (l : Launch) (Z : State) (a0 : Array Value) (hw : ∀ d ∈ tables_1, d.before a0 Z = true) (a1 : Addr) (de : Addr) (h0 : Heap) (n0 : Nat) (Z0 : n0 ≤ h0.size) (E1 : Exa Z h0 a1 "java/util/ArrayList") (g_a1 : n0 ≤ a1) (F_modCount : Fld Z h0 a1 "java/util/AbstractList" "modCount" "I" (.int (0 : Int32))) (F_elementData : Fld Z h0 a1 "java/util/ArrayList" "elementData" "[Ljava/lang/Object;" .null) (F_size : Fld Z h0 a1 "java/util/ArrayList" "size" "I" (.int (0 : Int32))) (Sd : Sta Z Z.heap "java/util/ArrayList" "DEFAULTCAPACITY_EMPTY_ELEMENTDATA" "[Ljava/lang/Object;" (.ref de)) (X00 : Old Z n0 h0) :
    MetFree l (⟨"java/util/ArrayList", "<init>", "()V"⟩ : MethodName) (head1 [Jvm.Cond.code (⟨"java/util/ArrayList", "<init>", "()V"⟩ : MethodName) jdk_38_method_2_code 1 none] ({ frames := 3, cells := 0, slots := 0, locals := 36 } : Room)) (fun a U => a = #[(.ref a1)] ∧ Z.Warmed39 U.vm ∧ U.heap = h0) (fun _ _ _ _ _ => True) (fun _ U o U' => ∃ v L, o = .returned v ∧ (Q_rmAL Z a1 de h0 n0) v U'.heap L ∧ FrameEnd U o U' L ({ frames := 3, cells := 0, slots := 0, locals := 36 } : Room).cells ({ frames := 3, cells := 0, slots := 0, locals := 36 } : Room).slots) := by
  refine MetFree.of_bodySF (plainFor_of_name pn_c56ca98) hisR ?_
  intro p e s m args below meth c s₁ Bd hml0 hP hK
  obtain ⟨rfl, hZ, hh⟩ := hP
  have hx := Bd.exec
  have hby := Bd.bytes
  have hml : c.maxLocals = 1 := hml0
  have hown : s.vm.findClass "java/util/ArrayList" = some m.cls := findClass_of_methodNamed Bd.named
  have hnm := (name_of_methodNamed Bd.named Bd.method).1
  have X0 : Stand p l e ({ frames := 3, cells := 0, slots := 0, locals := 36 } : Room) s m #[(.ref a1)] below meth c s₁ [] 0 0 := Stand.of_body Bd
  have e0 : s₁.heap = h0 := by rw [← hh, Bd.state]; rfl
  have N0 := Fr.nil n0
  have K0 : Keep h0 h0 [a1] := Keep.refl h0 [a1]
  show Go p e below (s₁.setTop (entryFrame m #[(.ref a1)] 1)) (EndN s (Q_rmAL Z a1 de h0 n0) ({ frames := 3, cells := 0, slots := 0, locals := 36 } : Room).cells ({ frames := 3, cells := 0, slots := 0, locals := 36 } : Room).slots)
  refine Go.top (ef_8 m a1) ?_
  refine Go.st (T' := s₁.setTop (mkF m 1 #[.val (.ref a1)] [(.ref a1)])) (fun zt zk => XS.aloadN X0.here hx rfl (hb hby d8_0) rfl rfl zk) ?_
  obtain ⟨vr89, _, ⟨T89, L89, k89, n89⟩, -, X89, ⟨Lc89, hQ89, l89, y89, z89⟩, st89⟩ := X0.specialBack hx (y := (⟨"java/util/AbstractList", "<init>", "()V"⟩ : MethodName)) rfl hown (mvT hZ (hw _ (List.mem_of_getElem? (i := 46) rfl))) (mvT hZ (hw _ (List.mem_of_getElem? (i := 47) rfl))) (mvT hZ (hw _ (List.mem_of_getElem? (i := 51) rfl))) (by decide) (backOf (W := 0) (rmAL0 l Z a0 hw a1 h0 n0 (Nat.le_trans Z0 K0.1) E1 g_a1 F_modCount F_elementData F_size) hZ (hw _ (List.mem_of_getElem? (i := 51) rfl)) (hw _ (List.mem_of_getElem? (i := 50) rfl)) (by decide) (by decide)) (g := (mkF m 1 #[.val (.ref a1)] [(.ref a1)])) rfl (by rw [hml]; rfl) (Steps.refl _) (a := a1) (argsL := []) (rest := []) (lenOf pd_a8eb9 rfl) rfl (by show 2 * 0 + _ ≤ _; exact Nat.le_of_eq rfl) (hb hby d8_1) (fun _ _ => ⟨rfl, e0, (by decide : 0 + 0 ≤ _), (by decide : 0 + 0 ≤ _)⟩)
  dsimp only [Pt.U, Pt.locs, Pt.cells, Pt.slots] at X89 l89 y89 z89 st89 hQ89
  subst l89 y89 z89
  obtain ⟨rfl, Nq89, Kq89, Eq89, Fk_elementData_89, Fk_size_89⟩ := hQ89
  have KK90 : Keep h0 T89.heap [a1] := K0.trans Kq89 (allS (Or.inl (List.mem_of_getElem? (i := 0) rfl)) all0)
  have NN91 := Fr.app N0 Nq89
  refine Go.st (T' := T89.setTop (mkF m 4 #[.val (.ref a1)] [])) (fun zt zk => st89.trans zk) ?_
  refine Go.st (T' := T89.setTop (mkF m 5 #[.val (.ref a1)] [(.ref a1)])) (fun zt zk => XS.aloadN X89.here hx rfl (hb hby d8_4) rfl rfl zk) ?_
  obtain ⟨T92, X92, e92, st92⟩ := getS (host := "") X89 hx hZ hown (hw _ (List.mem_of_getElem? (i := 61) rfl)) Via.refl rfl (Sd.ext (X00.keep KK90 (allS g_a1 all0)).2) (g := (mkF m 5 #[.val (.ref a1)] [(.ref a1)])) rfl (hb hby d8_5)
  refine Go.st (T' := T92.setTop (mkF m 8 #[.val (.ref a1)] [(.ref de), (.ref a1)])) (fun zt zk => st92 zt zk) ?_
  obtain ⟨T93, h93, X93, e93, W93, st93⟩ := putF X92 hx hZ hown (host := "") (Or.inl (hw _ (List.mem_of_getElem? (i := 62) rfl))) Via.refl e92 Fk_elementData_89 Eq89 (Or.inl (hw _ (List.mem_of_getElem? (i := 63) rfl))) (hw _ (List.mem_of_getElem? (i := 41) rfl)) (ty := (.array (.object "java/lang/Object"))) (by decide) rfl rfl (g := (mkF m 8 #[.val (.ref a1)] [(.ref de), (.ref a1)])) rfl rfl (hb hby d8_8)
  have Fw93 : Fld Z h93 a1 "java/util/ArrayList" "elementData" "[Ljava/lang/Object;" (.ref de) := Fk_elementData_89.same W93
  have K93 : Keep h0 h93 [a1] := KK90.wr W93 (Or.inl (List.mem_of_getElem? (i := 0) rfl))
  have N93 := Fr.snoc X93 NN91 g_a1
  refine Go.st (T' := T93.setTop (mkF m 11 #[.val (.ref a1)] [])) (fun zt zk => st93 zt zk) ?_
  have f94 : Exa Z h93 a1 "java/util/ArrayList" := (Eq89.wr W93)
  have f95 : Fld Z h93 a1 "java/util/ArrayList" "size" "I" (.int (0 : Int32)) := (Fk_size_89.other W93 (Or.inr (slot_ne (Or.inl (hw _ (List.mem_of_getElem? (i := 136) rfl))) (Or.inl (hw _ (List.mem_of_getElem? (i := 63) rfl))) (by decide) (t := .int) (t' := (.array (.object "java/lang/Object"))) (by decide) (by decide))))
  exact Go.done X93 Bd.notSynchronized (v := none) (fun _ => rfl) (fun fs hr => X93.returnOut hx Bd.returns (hb hby d8_11) hr) (by rw [e93]; exact ⟨rfl, N93, K93, f94, f95⟩) (by decide) (by decide)
theorem d13_0 : decode jdk_69_method_7_code 0 = .ok (.aload_n 0, 1) := by decide +kernel
theorem d13_1 : decode jdk_69_method_7_code 1 = .ok (.invokespecial 43, 3) := by decide +kernel
theorem d13_4 : decode jdk_69_method_7_code 4 = .ok (.aload_n 0, 1) := by decide +kernel
theorem d13_5 : decode jdk_69_method_7_code 5 = .ok (.ldc 92, 2) := by decide +kernel
theorem d13_7 : decode jdk_69_method_7_code 7 = .ok (.putfield 81, 3) := by decide +kernel
theorem d13_10 : decode jdk_69_method_7_code 10 = .ok (.return_, 1) := by decide +kernel
theorem pn_a9da568 : plainName "java/util/HashMap" = true := by first | (simp [plainName, overriddenIn]; done) | decide +kernel
theorem ef_13 (m : MethodId) (x0 : Addr) : entryFrame m #[(.ref x0)] 1 = mkF m 0 #[.val (.ref x0)] [] := by first | (simp [entryFrame, mkF, argsToLocals, Value.category]; done) | rfl
def Q_rmHMl (Z : State) (a1 : Addr)  (h0 : Heap) (n0 : Nat) (v : Option Value) (h : Heap) (L : List Loc) : Prop := v = none ∧ Fr n0 L ∧ Keep h0 h [a1] ∧ Exa Z h a1 "java/util/LinkedHashMap" ∧ Fld Z h a1 "java/util/LinkedHashMap" "putMode" "I" (.int (0 : Int32)) ∧ Fld Z h a1 "java/util/LinkedHashMap" "accessOrder" "Z" (.int (0 : Int32))
set_option maxRecDepth 65536 in
set_option maxHeartbeats 40000000 in
theorem rmHMl (l : Launch) (Z : State) (a0 : Array Value) (hw : ∀ d ∈ tables_1, d.before a0 Z = true) (a1 : Addr)  (h0 : Heap) (n0 : Nat) (Z0 : n0 ≤ h0.size) (E1 : Exa Z h0 a1 "java/util/LinkedHashMap") (g_a1 : n0 ≤ a1) (F_loadFactor : Fld Z h0 a1 "java/util/HashMap" "loadFactor" "F" (.float (0 : UInt32))) (F_putMode : Fld Z h0 a1 "java/util/LinkedHashMap" "putMode" "I" (.int (0 : Int32))) (F_accessOrder : Fld Z h0 a1 "java/util/LinkedHashMap" "accessOrder" "Z" (.int (0 : Int32)))  :
    MetFree l (⟨"java/util/HashMap", "<init>", "()V"⟩ : MethodName) (head1 [Jvm.Cond.code (⟨"java/util/HashMap", "<init>", "()V"⟩ : MethodName) jdk_69_method_7_code 1 none] ({ frames := 2, cells := 0, slots := 0, locals := 24 } : Room)) (fun a U => a = #[(.ref a1)] ∧ Z.Warmed39 U.vm ∧ U.heap = h0) (fun _ _ _ _ _ => True) (fun _ U o U' => ∃ v L, o = .returned v ∧ (Q_rmHMl Z a1 h0 n0) v U'.heap L ∧ FrameEnd U o U' L ({ frames := 2, cells := 0, slots := 0, locals := 24 } : Room).cells ({ frames := 2, cells := 0, slots := 0, locals := 24 } : Room).slots) := by
  refine MetFree.of_bodySF (plainFor_of_name pn_a9da568) hisR ?_
  intro p e s m args below meth c s₁ Bd hml0 hP hK
  obtain ⟨rfl, hZ, hh⟩ := hP
  have hx := Bd.exec
  have hby := Bd.bytes
  have hml : c.maxLocals = 1 := hml0
  have hown : s.vm.findClass "java/util/HashMap" = some m.cls := findClass_of_methodNamed Bd.named
  have hnm := (name_of_methodNamed Bd.named Bd.method).1
  have X0 : Stand p l e ({ frames := 2, cells := 0, slots := 0, locals := 24 } : Room) s m #[(.ref a1)] below meth c s₁ [] 0 0 := Stand.of_body Bd
  have e0 : s₁.heap = h0 := by rw [← hh, Bd.state]; rfl
  have N0 := Fr.nil n0
  have K0 : Keep h0 h0 [a1] := Keep.refl h0 [a1]
  show Go p e below (s₁.setTop (entryFrame m #[(.ref a1)] 1)) (EndN s (Q_rmHMl Z a1 h0 n0) ({ frames := 2, cells := 0, slots := 0, locals := 24 } : Room).cells ({ frames := 2, cells := 0, slots := 0, locals := 24 } : Room).slots)
  refine Go.top (ef_13 m a1) ?_
  refine Go.st (T' := s₁.setTop (mkF m 1 #[.val (.ref a1)] [(.ref a1)])) (fun zt zk => XS.aloadN X0.here hx rfl (hb hby d13_0) rfl rfl zk) ?_
  obtain ⟨vr96, _, ⟨T96, L96, k96, n96⟩, -, X96, ⟨Lc96, hQ96, l96, y96, z96⟩, st96⟩ := X0.specialBack hx (y := (⟨"java/util/AbstractMap", "<init>", "()V"⟩ : MethodName)) rfl hown (mvT hZ (hw _ (List.mem_of_getElem? (i := 80) rfl))) (mvT hZ (hw _ (List.mem_of_getElem? (i := 81) rfl))) (mvT hZ (hw _ (List.mem_of_getElem? (i := 85) rfl))) (by decide) (backOf (W := 0) (rmAM l Z a0 hw a1 h0 n0 (Nat.le_trans Z0 K0.1)) hZ (hw _ (List.mem_of_getElem? (i := 85) rfl)) (hw _ (List.mem_of_getElem? (i := 84) rfl)) (by decide) (by decide)) (g := (mkF m 1 #[.val (.ref a1)] [(.ref a1)])) rfl (by rw [hml]; rfl) (Steps.refl _) (a := a1) (argsL := []) (rest := []) (lenOf pd_a8eb9 rfl) rfl (by show 2 * 0 + _ ≤ _; exact Nat.le_of_eq rfl) (hb hby d13_1) (fun _ _ => ⟨rfl, e0, (by decide : 0 + 0 ≤ _), (by decide : 0 + 0 ≤ _)⟩)
  dsimp only [Pt.U, Pt.locs, Pt.cells, Pt.slots] at X96 l96 y96 z96 st96 hQ96
  subst l96 y96 z96
  obtain ⟨rfl, Nq96, eq96⟩ := hQ96
  have NN97 := Fr.app N0 Nq96
  refine Go.st (T' := T96.setTop (mkF m 4 #[.val (.ref a1)] [])) (fun zt zk => st96.trans zk) ?_
  refine Go.st (T' := T96.setTop (mkF m 5 #[.val (.ref a1)] [(.ref a1)])) (fun zt zk => XS.aloadN X96.here hx rfl (hb hby d13_4) rfl rfl zk) ?_
  refine Go.st (T' := T96.setTop (mkF m 7 #[.val (.ref a1)] [(.float (1061158912 : UInt32)), (.ref a1)])) (fun zt zk => X96.ldcFloatC hx hown (mvT hZ (hw _ (List.mem_of_getElem? (i := 87) rfl))) (g := (mkF m 5 #[.val (.ref a1)] [(.ref a1)])) rfl (hb hby d13_5) zt zk) ?_
  obtain ⟨T98, h98, X98, e98, W98, st98⟩ := putF X96 hx hZ hown (host := "") (Or.inl (hw _ (List.mem_of_getElem? (i := 88) rfl))) Via.refl eq96 F_loadFactor E1 (Or.inr ⟨(hw _ (List.mem_of_getElem? (i := 89) rfl)), rfl, hnm⟩) (hw _ (List.mem_of_getElem? (i := 69) rfl)) (ty := .float) (by decide) rfl rfl (g := (mkF m 7 #[.val (.ref a1)] [(.float (1061158912 : UInt32)), (.ref a1)])) rfl rfl (hb hby d13_7)
  have Fw98 : Fld Z h98 a1 "java/util/HashMap" "loadFactor" "F" (.float (1061158912 : UInt32)) := F_loadFactor.same W98
  have K98 : Keep h0 h98 [a1] := K0.wr W98 (Or.inl (List.mem_of_getElem? (i := 0) rfl))
  have N98 := Fr.snoc X98 NN97 g_a1
  refine Go.st (T' := T98.setTop (mkF m 10 #[.val (.ref a1)] [])) (fun zt zk => st98 zt zk) ?_
  have f99 : Exa Z h98 a1 "java/util/LinkedHashMap" := (E1.wr W98)
  have f100 : Fld Z h98 a1 "java/util/LinkedHashMap" "putMode" "I" (.int (0 : Int32)) := (F_putMode.other W98 (Or.inr (slot_ne (Or.inl (hw _ (List.mem_of_getElem? (i := 91) rfl))) (Or.inr (hw _ (List.mem_of_getElem? (i := 89) rfl))) (by decide) (t := .int) (t' := .float) (by decide) (by decide))))
  have f101 : Fld Z h98 a1 "java/util/LinkedHashMap" "accessOrder" "Z" (.int (0 : Int32)) := (F_accessOrder.other W98 (Or.inr (slot_ne (Or.inr (hw _ (List.mem_of_getElem? (i := 93) rfl))) (Or.inr (hw _ (List.mem_of_getElem? (i := 89) rfl))) (by decide) (t := .boolean) (t' := .float) (by decide) (by decide))))
  exact Go.done X98 Bd.notSynchronized (v := none) (fun _ => rfl) (fun fs hr => X98.returnOut hx Bd.returns (hb hby d13_10) hr) (by rw [e98]; exact ⟨rfl, N98, K98, f99, f100, f101⟩) (by decide) (by decide)
def Q_rmHM (Z : State) (a1 : Addr)  (h0 : Heap) (n0 : Nat) (v : Option Value) (h : Heap) (L : List Loc) : Prop := v = none ∧ Fr n0 L ∧ Keep h0 h [a1] ∧ Exa Z h a1 "java/util/HashMap"
set_option maxRecDepth 65536 in
set_option maxHeartbeats 40000000 in
theorem rmHM (l : Launch) (Z : State) (a0 : Array Value) (hw : ∀ d ∈ tables_1, d.before a0 Z = true) (a1 : Addr)  (h0 : Heap) (n0 : Nat) (Z0 : n0 ≤ h0.size) (E1 : Exa Z h0 a1 "java/util/HashMap") (g_a1 : n0 ≤ a1) (F_loadFactor : Fld Z h0 a1 "java/util/HashMap" "loadFactor" "F" (.float (0 : UInt32)))  :
    MetFree l (⟨"java/util/HashMap", "<init>", "()V"⟩ : MethodName) (head1 [Jvm.Cond.code (⟨"java/util/HashMap", "<init>", "()V"⟩ : MethodName) jdk_69_method_7_code 1 none] ({ frames := 2, cells := 0, slots := 0, locals := 24 } : Room)) (fun a U => a = #[(.ref a1)] ∧ Z.Warmed39 U.vm ∧ U.heap = h0) (fun _ _ _ _ _ => True) (fun _ U o U' => ∃ v L, o = .returned v ∧ (Q_rmHM Z a1 h0 n0) v U'.heap L ∧ FrameEnd U o U' L ({ frames := 2, cells := 0, slots := 0, locals := 24 } : Room).cells ({ frames := 2, cells := 0, slots := 0, locals := 24 } : Room).slots) := by
  refine MetFree.of_bodySF (plainFor_of_name pn_a9da568) hisR ?_
  intro p e s m args below meth c s₁ Bd hml0 hP hK
  obtain ⟨rfl, hZ, hh⟩ := hP
  have hx := Bd.exec
  have hby := Bd.bytes
  have hml : c.maxLocals = 1 := hml0
  have hown : s.vm.findClass "java/util/HashMap" = some m.cls := findClass_of_methodNamed Bd.named
  have hnm := (name_of_methodNamed Bd.named Bd.method).1
  have X0 : Stand p l e ({ frames := 2, cells := 0, slots := 0, locals := 24 } : Room) s m #[(.ref a1)] below meth c s₁ [] 0 0 := Stand.of_body Bd
  have e0 : s₁.heap = h0 := by rw [← hh, Bd.state]; rfl
  have N0 := Fr.nil n0
  have K0 : Keep h0 h0 [a1] := Keep.refl h0 [a1]
  show Go p e below (s₁.setTop (entryFrame m #[(.ref a1)] 1)) (EndN s (Q_rmHM Z a1 h0 n0) ({ frames := 2, cells := 0, slots := 0, locals := 24 } : Room).cells ({ frames := 2, cells := 0, slots := 0, locals := 24 } : Room).slots)
  refine Go.top (ef_13 m a1) ?_
  refine Go.st (T' := s₁.setTop (mkF m 1 #[.val (.ref a1)] [(.ref a1)])) (fun zt zk => XS.aloadN X0.here hx rfl (hb hby d13_0) rfl rfl zk) ?_
  obtain ⟨vr102, _, ⟨T102, L102, k102, n102⟩, -, X102, ⟨Lc102, hQ102, l102, y102, z102⟩, st102⟩ := X0.specialBack hx (y := (⟨"java/util/AbstractMap", "<init>", "()V"⟩ : MethodName)) rfl hown (mvT hZ (hw _ (List.mem_of_getElem? (i := 80) rfl))) (mvT hZ (hw _ (List.mem_of_getElem? (i := 81) rfl))) (mvT hZ (hw _ (List.mem_of_getElem? (i := 85) rfl))) (by decide) (backOf (W := 0) (rmAM l Z a0 hw a1 h0 n0 (Nat.le_trans Z0 K0.1)) hZ (hw _ (List.mem_of_getElem? (i := 85) rfl)) (hw _ (List.mem_of_getElem? (i := 84) rfl)) (by decide) (by decide)) (g := (mkF m 1 #[.val (.ref a1)] [(.ref a1)])) rfl (by rw [hml]; rfl) (Steps.refl _) (a := a1) (argsL := []) (rest := []) (lenOf pd_a8eb9 rfl) rfl (by show 2 * 0 + _ ≤ _; exact Nat.le_of_eq rfl) (hb hby d13_1) (fun _ _ => ⟨rfl, e0, (by decide : 0 + 0 ≤ _), (by decide : 0 + 0 ≤ _)⟩)
  dsimp only [Pt.U, Pt.locs, Pt.cells, Pt.slots] at X102 l102 y102 z102 st102 hQ102
  subst l102 y102 z102
  obtain ⟨rfl, Nq102, eq102⟩ := hQ102
  have NN103 := Fr.app N0 Nq102
  refine Go.st (T' := T102.setTop (mkF m 4 #[.val (.ref a1)] [])) (fun zt zk => st102.trans zk) ?_
  refine Go.st (T' := T102.setTop (mkF m 5 #[.val (.ref a1)] [(.ref a1)])) (fun zt zk => XS.aloadN X102.here hx rfl (hb hby d13_4) rfl rfl zk) ?_
  refine Go.st (T' := T102.setTop (mkF m 7 #[.val (.ref a1)] [(.float (1061158912 : UInt32)), (.ref a1)])) (fun zt zk => X102.ldcFloatC hx hown (mvT hZ (hw _ (List.mem_of_getElem? (i := 87) rfl))) (g := (mkF m 5 #[.val (.ref a1)] [(.ref a1)])) rfl (hb hby d13_5) zt zk) ?_
  obtain ⟨T104, h104, X104, e104, W104, st104⟩ := putF X102 hx hZ hown (host := "") (Or.inl (hw _ (List.mem_of_getElem? (i := 88) rfl))) Via.refl eq102 F_loadFactor E1 (Or.inr ⟨(hw _ (List.mem_of_getElem? (i := 115) rfl)), rfl, hnm⟩) (hw _ (List.mem_of_getElem? (i := 111) rfl)) (ty := .float) (by decide) rfl rfl (g := (mkF m 7 #[.val (.ref a1)] [(.float (1061158912 : UInt32)), (.ref a1)])) rfl rfl (hb hby d13_7)
  have Fw104 : Fld Z h104 a1 "java/util/HashMap" "loadFactor" "F" (.float (1061158912 : UInt32)) := F_loadFactor.same W104
  have K104 : Keep h0 h104 [a1] := K0.wr W104 (Or.inl (List.mem_of_getElem? (i := 0) rfl))
  have N104 := Fr.snoc X104 NN103 g_a1
  refine Go.st (T' := T104.setTop (mkF m 10 #[.val (.ref a1)] [])) (fun zt zk => st104 zt zk) ?_
  have f105 : Exa Z h104 a1 "java/util/HashMap" := (E1.wr W104)
  exact Go.done X104 Bd.notSynchronized (v := none) (fun _ => rfl) (fun fs hr => X104.returnOut hx Bd.returns (hb hby d13_10) hr) (by rw [e104]; exact ⟨rfl, N104, K104, f105⟩) (by decide) (by decide)
theorem d12_0 : decode jdk_94_method_16_code 0 = .ok (.aload_n 0, 1) := by decide +kernel
theorem d12_1 : decode jdk_94_method_16_code 1 = .ok (.invokespecial 87, 3) := by decide +kernel
theorem d12_4 : decode jdk_94_method_16_code 4 = .ok (.aload_n 0, 1) := by decide +kernel
theorem d12_5 : decode jdk_94_method_16_code 5 = .ok (.iconst 0, 1) := by decide +kernel
theorem d12_6 : decode jdk_94_method_16_code 6 = .ok (.putfield 1, 3) := by decide +kernel
theorem d12_9 : decode jdk_94_method_16_code 9 = .ok (.aload_n 0, 1) := by decide +kernel
theorem d12_10 : decode jdk_94_method_16_code 10 = .ok (.iconst 0, 1) := by decide +kernel
theorem d12_11 : decode jdk_94_method_16_code 11 = .ok (.putfield 64, 3) := by decide +kernel
theorem d12_14 : decode jdk_94_method_16_code 14 = .ok (.return_, 1) := by decide +kernel
theorem pn_79fed22 : plainName "java/util/LinkedHashMap" = true := by first | (simp [plainName, overriddenIn]; done) | decide +kernel
theorem ef_12 (m : MethodId) (x0 : Addr) : entryFrame m #[(.ref x0)] 1 = mkF m 0 #[.val (.ref x0)] [] := by first | (simp [entryFrame, mkF, argsToLocals, Value.category]; done) | rfl
def Q_rmLH (Z : State) (a1 : Addr)  (h0 : Heap) (n0 : Nat) (v : Option Value) (h : Heap) (L : List Loc) : Prop := v = none ∧ Fr n0 L ∧ Keep h0 h [a1] ∧ Exa Z h a1 "java/util/LinkedHashMap"
set_option maxRecDepth 65536 in
set_option maxHeartbeats 40000000 in
theorem rmLH (l : Launch) (Z : State) (a0 : Array Value) (hw : ∀ d ∈ tables_1, d.before a0 Z = true) (a1 : Addr)  (h0 : Heap) (n0 : Nat) (Z0 : n0 ≤ h0.size) (E1 : Exa Z h0 a1 "java/util/LinkedHashMap") (g_a1 : n0 ≤ a1) (F_loadFactor : Fld Z h0 a1 "java/util/HashMap" "loadFactor" "F" (.float (0 : UInt32))) (F_putMode : Fld Z h0 a1 "java/util/LinkedHashMap" "putMode" "I" (.int (0 : Int32))) (F_accessOrder : Fld Z h0 a1 "java/util/LinkedHashMap" "accessOrder" "Z" (.int (0 : Int32)))  :
    MetFree l (⟨"java/util/LinkedHashMap", "<init>", "()V"⟩ : MethodName) (head1 [Jvm.Cond.code (⟨"java/util/LinkedHashMap", "<init>", "()V"⟩ : MethodName) jdk_94_method_16_code 1 none] ({ frames := 3, cells := 0, slots := 0, locals := 36 } : Room)) (fun a U => a = #[(.ref a1)] ∧ Z.Warmed39 U.vm ∧ U.heap = h0) (fun _ _ _ _ _ => True) (fun _ U o U' => ∃ v L, o = .returned v ∧ (Q_rmLH Z a1 h0 n0) v U'.heap L ∧ FrameEnd U o U' L ({ frames := 3, cells := 0, slots := 0, locals := 36 } : Room).cells ({ frames := 3, cells := 0, slots := 0, locals := 36 } : Room).slots) := by
  refine MetFree.of_bodySF (plainFor_of_name pn_79fed22) hisR ?_
  intro p e s m args below meth c s₁ Bd hml0 hP hK
  obtain ⟨rfl, hZ, hh⟩ := hP
  have hx := Bd.exec
  have hby := Bd.bytes
  have hml : c.maxLocals = 1 := hml0
  have hown : s.vm.findClass "java/util/LinkedHashMap" = some m.cls := findClass_of_methodNamed Bd.named
  have hnm := (name_of_methodNamed Bd.named Bd.method).1
  have X0 : Stand p l e ({ frames := 3, cells := 0, slots := 0, locals := 36 } : Room) s m #[(.ref a1)] below meth c s₁ [] 0 0 := Stand.of_body Bd
  have e0 : s₁.heap = h0 := by rw [← hh, Bd.state]; rfl
  have N0 := Fr.nil n0
  have K0 : Keep h0 h0 [a1] := Keep.refl h0 [a1]
  show Go p e below (s₁.setTop (entryFrame m #[(.ref a1)] 1)) (EndN s (Q_rmLH Z a1 h0 n0) ({ frames := 3, cells := 0, slots := 0, locals := 36 } : Room).cells ({ frames := 3, cells := 0, slots := 0, locals := 36 } : Room).slots)
  refine Go.top (ef_12 m a1) ?_
  refine Go.st (T' := s₁.setTop (mkF m 1 #[.val (.ref a1)] [(.ref a1)])) (fun zt zk => XS.aloadN X0.here hx rfl (hb hby d12_0) rfl rfl zk) ?_
  obtain ⟨vr106, _, ⟨T106, L106, k106, n106⟩, -, X106, ⟨Lc106, hQ106, l106, y106, z106⟩, st106⟩ := X0.specialBack hx (y := (⟨"java/util/HashMap", "<init>", "()V"⟩ : MethodName)) rfl hown (mvT hZ (hw _ (List.mem_of_getElem? (i := 74) rfl))) (mvT hZ (hw _ (List.mem_of_getElem? (i := 75) rfl))) (mvT hZ (hw _ (List.mem_of_getElem? (i := 79) rfl))) (by decide) (backOf (W := 0) (rmHMl l Z a0 hw a1 h0 n0 (Nat.le_trans Z0 K0.1) E1 g_a1 F_loadFactor F_putMode F_accessOrder) hZ (hw _ (List.mem_of_getElem? (i := 79) rfl)) (hw _ (List.mem_of_getElem? (i := 78) rfl)) (by decide) (by decide)) (g := (mkF m 1 #[.val (.ref a1)] [(.ref a1)])) rfl (by rw [hml]; rfl) (Steps.refl _) (a := a1) (argsL := []) (rest := []) (lenOf pd_a8eb9 rfl) rfl (by show 2 * 0 + _ ≤ _; exact Nat.le_of_eq rfl) (hb hby d12_1) (fun _ _ => ⟨rfl, e0, (by decide : 0 + 0 ≤ _), (by decide : 0 + 0 ≤ _)⟩)
  dsimp only [Pt.U, Pt.locs, Pt.cells, Pt.slots] at X106 l106 y106 z106 st106 hQ106
  subst l106 y106 z106
  obtain ⟨rfl, Nq106, Kq106, Eq106, Fk_putMode_106, Fk_accessOrder_106⟩ := hQ106
  have KK107 : Keep h0 T106.heap [a1] := K0.trans Kq106 (allS (Or.inl (List.mem_of_getElem? (i := 0) rfl)) all0)
  have NN108 := Fr.app N0 Nq106
  refine Go.st (T' := T106.setTop (mkF m 4 #[.val (.ref a1)] [])) (fun zt zk => st106.trans zk) ?_
  refine Go.st (T' := T106.setTop (mkF m 5 #[.val (.ref a1)] [(.ref a1)])) (fun zt zk => XS.aloadN X106.here hx rfl (hb hby d12_4) rfl rfl zk) ?_
  refine Go.st (T' := T106.setTop (mkF m 6 #[.val (.ref a1)] [(.int (0 : Int32)), (.ref a1)])) (fun zt zk => XS.iconst X106.here hx rfl (hb hby d12_5) zk) ?_
  obtain ⟨T109, h109, X109, e109, W109, st109⟩ := putF X106 hx hZ hown (host := "") (Or.inl (hw _ (List.mem_of_getElem? (i := 90) rfl))) Via.refl rfl Fk_putMode_106 Eq106 (Or.inl (hw _ (List.mem_of_getElem? (i := 91) rfl))) (hw _ (List.mem_of_getElem? (i := 69) rfl)) (ty := .int) (by decide) rfl rfl (g := (mkF m 6 #[.val (.ref a1)] [(.int (0 : Int32)), (.ref a1)])) rfl rfl (hb hby d12_6)
  have Fw109 : Fld Z h109 a1 "java/util/LinkedHashMap" "putMode" "I" (.int (0 : Int32)) := Fk_putMode_106.same W109
  have K109 : Keep h0 h109 [a1] := KK107.wr W109 (Or.inl (List.mem_of_getElem? (i := 0) rfl))
  have N109 := Fr.snoc X109 NN108 g_a1
  refine Go.st (T' := T109.setTop (mkF m 9 #[.val (.ref a1)] [])) (fun zt zk => st109 zt zk) ?_
  refine Go.st (T' := T109.setTop (mkF m 10 #[.val (.ref a1)] [(.ref a1)])) (fun zt zk => XS.aloadN X109.here hx rfl (hb hby d12_9) rfl rfl zk) ?_
  refine Go.st (T' := T109.setTop (mkF m 11 #[.val (.ref a1)] [(.int (0 : Int32)), (.ref a1)])) (fun zt zk => XS.iconst X109.here hx rfl (hb hby d12_10) zk) ?_
  have f110 : Fld Z h109 a1 "java/util/LinkedHashMap" "accessOrder" "Z" (.int (0 : Int32)) := (Fk_accessOrder_106.other W109 (Or.inr (slot_ne (Or.inr (hw _ (List.mem_of_getElem? (i := 93) rfl))) (Or.inl (hw _ (List.mem_of_getElem? (i := 91) rfl))) (by decide) (t := .boolean) (t' := .int) (by decide) (by decide))))
  have f111 : Exa Z h109 a1 "java/util/LinkedHashMap" := (Eq106.wr W109)
  obtain ⟨T112, h112, X112, e112, W112, st112⟩ := putFN X109 hx hZ hown (hw _ (List.mem_of_getElem? (i := 92) rfl)) Via.refl e109 f110 f111 (Or.inr ⟨(hw _ (List.mem_of_getElem? (i := 93) rfl)), rfl, hnm⟩) (hw _ (List.mem_of_getElem? (i := 69) rfl)) (ty := .boolean) (v' := (.int (nar .boolean (0 : Int32)))) (by decide) rfl (fits_nar_bool _) (g := (mkF m 11 #[.val (.ref a1)] [(.int (0 : Int32)), (.ref a1)])) rfl rfl (hb hby d12_11)
  have Fw112 : Fld Z h112 a1 "java/util/LinkedHashMap" "accessOrder" "Z" (.int (nar .boolean (0 : Int32))) := f110.same W112
  have K112 : Keep h0 h112 [a1] := K109.wr W112 (Or.inl (List.mem_of_getElem? (i := 0) rfl))
  have N112 := Fr.snoc X112 N109 g_a1
  refine Go.st (T' := T112.setTop (mkF m 14 #[.val (.ref a1)] [])) (fun zt zk => st112 zt zk) ?_
  have f113 : Exa Z h112 a1 "java/util/LinkedHashMap" := (f111.wr W112)
  exact Go.done X112 Bd.notSynchronized (v := none) (fun _ => rfl) (fun fs hr => X112.returnOut hx Bd.returns (hb hby d12_14) hr) (by rw [e112]; exact ⟨rfl, N112, K112, f113⟩) (by decide) (by decide)
theorem d15_0 : decode jdk_93_method_1_code 0 = .ok (.aload_n 0, 1) := by decide +kernel
theorem d15_1 : decode jdk_93_method_1_code 1 = .ok (.invokespecial 1, 3) := by decide +kernel
theorem d15_4 : decode jdk_93_method_1_code 4 = .ok (.aload_n 0, 1) := by decide +kernel
theorem d15_5 : decode jdk_93_method_1_code 5 = .ok (.new 7, 3) := by decide +kernel
theorem d15_8 : decode jdk_93_method_1_code 8 = .ok (.dup, 1) := by decide +kernel
theorem d15_9 : decode jdk_93_method_1_code 9 = .ok (.invokespecial 9, 3) := by decide +kernel
theorem d15_12 : decode jdk_93_method_1_code 12 = .ok (.putfield 10, 3) := by decide +kernel
theorem d15_15 : decode jdk_93_method_1_code 15 = .ok (.return_, 1) := by decide +kernel
theorem pn_a9f39ae : plainName "java/util/HashSet" = true := by first | (simp [plainName, overriddenIn]; done) | decide +kernel
theorem ef_15 (m : MethodId) (x0 : Addr) : entryFrame m #[(.ref x0)] 1 = mkF m 0 #[.val (.ref x0)] [] := by first | (simp [entryFrame, mkF, argsToLocals, Value.category]; done) | rfl
def Q_rmHS (Z : State) (a1 : Addr)  (h0 : Heap) (n0 : Nat) (v : Option Value) (h : Heap) (L : List Loc) : Prop := v = none ∧ Fr n0 L ∧ Keep h0 h [a1] ∧ Exa Z h a1 "java/util/HashSet"
set_option maxRecDepth 65536 in
set_option maxHeartbeats 40000000 in
theorem rmHS (l : Launch) (Z : State) (a0 : Array Value) (hw : ∀ d ∈ tables_1, d.before a0 Z = true) (a1 : Addr)  (h0 : Heap) (n0 : Nat) (Z0 : n0 ≤ h0.size) (E1 : Exa Z h0 a1 "java/util/HashSet") (g_a1 : n0 ≤ a1) (F_map : Fld Z h0 a1 "java/util/HashSet" "map" "Ljava/util/HashMap;" .null)  :
    MetFree l (⟨"java/util/HashSet", "<init>", "()V"⟩ : MethodName) (head1 [Jvm.Cond.code (⟨"java/util/HashSet", "<init>", "()V"⟩ : MethodName) jdk_93_method_1_code 1 none] ({ frames := 3, cells := 1, slots := 8, locals := 38 } : Room)) (fun a U => a = #[(.ref a1)] ∧ Z.Warmed39 U.vm ∧ U.heap = h0) (fun _ _ _ _ _ => True) (fun _ U o U' => ∃ v L, o = .returned v ∧ (Q_rmHS Z a1 h0 n0) v U'.heap L ∧ FrameEnd U o U' L ({ frames := 3, cells := 1, slots := 8, locals := 38 } : Room).cells ({ frames := 3, cells := 1, slots := 8, locals := 38 } : Room).slots) := by
  refine MetFree.of_bodySF (plainFor_of_name pn_a9f39ae) hisR ?_
  intro p e s m args below meth c s₁ Bd hml0 hP hK
  obtain ⟨rfl, hZ, hh⟩ := hP
  have hx := Bd.exec
  have hby := Bd.bytes
  have hml : c.maxLocals = 1 := hml0
  have hown : s.vm.findClass "java/util/HashSet" = some m.cls := findClass_of_methodNamed Bd.named
  have hnm := (name_of_methodNamed Bd.named Bd.method).1
  have X0 : Stand p l e ({ frames := 3, cells := 1, slots := 8, locals := 38 } : Room) s m #[(.ref a1)] below meth c s₁ [] 0 0 := Stand.of_body Bd
  have e0 : s₁.heap = h0 := by rw [← hh, Bd.state]; rfl
  have N0 := Fr.nil n0
  have K0 : Keep h0 h0 [a1] := Keep.refl h0 [a1]
  show Go p e below (s₁.setTop (entryFrame m #[(.ref a1)] 1)) (EndN s (Q_rmHS Z a1 h0 n0) ({ frames := 3, cells := 1, slots := 8, locals := 38 } : Room).cells ({ frames := 3, cells := 1, slots := 8, locals := 38 } : Room).slots)
  refine Go.top (ef_15 m a1) ?_
  refine Go.st (T' := s₁.setTop (mkF m 1 #[.val (.ref a1)] [(.ref a1)])) (fun zt zk => XS.aloadN X0.here hx rfl (hb hby d15_0) rfl rfl zk) ?_
  obtain ⟨vr114, _, ⟨T114, L114, k114, n114⟩, -, X114, ⟨Lc114, hQ114, l114, y114, z114⟩, st114⟩ := X0.specialBack hx (y := (⟨"java/util/AbstractSet", "<init>", "()V"⟩ : MethodName)) rfl hown (mvT hZ (hw _ (List.mem_of_getElem? (i := 102) rfl))) (mvT hZ (hw _ (List.mem_of_getElem? (i := 103) rfl))) (mvT hZ (hw _ (List.mem_of_getElem? (i := 107) rfl))) (by decide) (backOf (W := 0) (rmASet l Z a0 hw a1 h0 n0 (Nat.le_trans Z0 K0.1)) hZ (hw _ (List.mem_of_getElem? (i := 107) rfl)) (hw _ (List.mem_of_getElem? (i := 106) rfl)) (by decide) (by decide)) (g := (mkF m 1 #[.val (.ref a1)] [(.ref a1)])) rfl (by rw [hml]; rfl) (Steps.refl _) (a := a1) (argsL := []) (rest := []) (lenOf pd_a8eb9 rfl) rfl (by show 2 * 0 + _ ≤ _; exact Nat.le_of_eq rfl) (hb hby d15_1) (fun _ _ => ⟨rfl, e0, (by decide : 0 + 0 ≤ _), (by decide : 0 + 0 ≤ _)⟩)
  dsimp only [Pt.U, Pt.locs, Pt.cells, Pt.slots] at X114 l114 y114 z114 st114 hQ114
  subst l114 y114 z114
  obtain ⟨rfl, Nq114, eq114⟩ := hQ114
  have NN115 := Fr.app N0 Nq114
  refine Go.st (T' := T114.setTop (mkF m 4 #[.val (.ref a1)] [])) (fun zt zk => st114.trans zk) ?_
  refine Go.st (T' := T114.setTop (mkF m 5 #[.val (.ref a1)] [(.ref a1)])) (fun zt zk => XS.aloadN X114.here hx rfl (hb hby d15_4) rfl rfl zk) ?_
  obtain ⟨T116, h116, X116, e116, E116, A116, D116, U116, st116⟩ := newO X114 hx hZ hown (hw _ (List.mem_of_getElem? (i := 110) rfl)) (hw _ (List.mem_of_getElem? (i := 111) rfl)) (hw _ (List.mem_of_getElem? (i := 78) rfl)) eq114 (g := (mkF m 5 #[.val (.ref a1)] [(.ref a1)])) rfl (hb hby d15_5) (by decide) (by decide)
  obtain ⟨b116, g116⟩ : ∃ z, z = h0.size := ⟨_, rfl⟩
  rw [← g116] at A116 D116 U116 st116
  have g_b116 : n0 ≤ b116 := Nat.le_trans (Nat.le_trans Z0 K0.1) (Nat.le_of_eq g116.symm)
  have sz_b116 : h0.size ≤ b116 := Nat.le_trans K0.1 (Nat.le_of_eq g116.symm)
  have ne117 : a1 ≠ b116 := Nat.ne_of_lt (Nat.lt_of_lt_of_le E1.lt (Nat.le_of_eq g116.symm))
  have K116 : Keep h0 h116 [a1] := K0.ext E116
  have Fn116_loadFactor : Fld Z h116 b116 "java/util/HashMap" "loadFactor" "F" (.float (0 : UInt32)) := D116 (Or.inr (hw _ (List.mem_of_getElem? (i := 115) rfl))) (ty := .float) (by decide)
  refine Go.st (T' := T116.setTop (mkF m 8 #[.val (.ref a1)] [(.ref b116), (.ref a1)])) (fun zt zk => st116 zt zk) ?_
  refine Go.st (T' := T116.setTop (mkF m 9 #[.val (.ref a1)] [(.ref b116), (.ref b116), (.ref a1)])) (fun zt zk => XS.dup X116.here hx rfl (hb hby d15_8) rfl rfl zk) ?_
  obtain ⟨vr118, _, ⟨T118, L118, k118, n118⟩, -, X118, ⟨Lc118, hQ118, l118, y118, z118⟩, st118⟩ := X116.specialBack hx (y := (⟨"java/util/HashMap", "<init>", "()V"⟩ : MethodName)) rfl hown (mvT hZ (hw _ (List.mem_of_getElem? (i := 112) rfl))) (mvT hZ (hw _ (List.mem_of_getElem? (i := 75) rfl))) (mvT hZ (hw _ (List.mem_of_getElem? (i := 79) rfl))) (by decide) (backOf (W := 2) (rmHM l Z a0 hw b116 h116 n0 (Nat.le_trans Z0 K116.1) A116 g_b116 Fn116_loadFactor) hZ (hw _ (List.mem_of_getElem? (i := 79) rfl)) (hw _ (List.mem_of_getElem? (i := 78) rfl)) (by decide) (by decide)) (g := (mkF m 9 #[.val (.ref a1)] [(.ref b116), (.ref b116), (.ref a1)])) rfl (by rw [hml]; rfl) (Steps.refl _) (a := b116) (argsL := []) (rest := [(.ref b116), (.ref a1)]) (lenOf pd_a8eb9 rfl) rfl (by show 2 * 0 + _ ≤ _; exact Nat.le_of_eq rfl) (hb hby d15_9) (fun _ _ => ⟨rfl, e116, (by decide : 1 + 0 ≤ _), (by decide : 8 + 0 ≤ _)⟩)
  dsimp only [Pt.U, Pt.locs, Pt.cells, Pt.slots] at X118 l118 y118 z118 st118 hQ118
  subst l118 y118 z118
  obtain ⟨rfl, Nq118, Kq118, Eq118⟩ := hQ118
  have KK119 : Keep h0 T118.heap [a1] := K116.trans Kq118 (allS (Or.inr sz_b116) all0)
  have NN120 := Fr.app NN115 Nq118
  refine Go.st (T' := T118.setTop (mkF m 12 #[.val (.ref a1)] [(.ref b116), (.ref a1)])) (fun zt zk => st118.trans zk) ?_
  have f121 : Fld Z T118.heap a1 "java/util/HashSet" "map" "Ljava/util/HashMap;" .null := ((F_map.ext E116).keep Kq118 (ninS ne117 nin0))
  have f122 : Exa Z T118.heap a1 "java/util/HashSet" := ((E1.ext E116).keep Kq118)
  obtain ⟨T123, h123, X123, e123, W123, st123⟩ := putF X118 hx hZ hown (host := "") (Or.inl (hw _ (List.mem_of_getElem? (i := 116) rfl))) Via.refl rfl f121 f122 (Or.inl (hw _ (List.mem_of_getElem? (i := 117) rfl))) (hw _ (List.mem_of_getElem? (i := 97) rfl)) (ty := (.object "java/util/HashMap")) (by decide) rfl rfl (g := (mkF m 12 #[.val (.ref a1)] [(.ref b116), (.ref a1)])) rfl rfl (hb hby d15_12)
  have Fw123 : Fld Z h123 a1 "java/util/HashSet" "map" "Ljava/util/HashMap;" (.ref b116) := f121.same W123
  have K123 : Keep h0 h123 [a1] := KK119.wr W123 (Or.inl (List.mem_of_getElem? (i := 0) rfl))
  have N123 := Fr.snoc X123 NN120 g_a1
  refine Go.st (T' := T123.setTop (mkF m 15 #[.val (.ref a1)] [])) (fun zt zk => st123 zt zk) ?_
  have f124 : Exa Z h123 a1 "java/util/HashSet" := (f122.wr W123)
  exact Go.done X123 Bd.notSynchronized (v := none) (fun _ => rfl) (fun fs hr => X123.returnOut hx Bd.returns (hb hby d15_15) hr) (by rw [e123]; exact ⟨rfl, N123, K123, f124⟩) (by decide) (by decide)
theorem d17_0 : decode jdk_38_method_8_code 0 = .ok (.aload_n 0, 1) := by decide +kernel
theorem d17_1 : decode jdk_38_method_8_code 1 = .ok (.getfield 48, 3) := by decide +kernel
theorem d17_4 : decode jdk_38_method_8_code 4 = .ok (.ireturn, 1) := by decide +kernel
theorem ef_17 (m : MethodId) (x0 : Addr) : entryFrame m #[(.ref x0)] 1 = mkF m 0 #[.val (.ref x0)] [] := by first | (simp [entryFrame, mkF, argsToLocals, Value.category]; done) | rfl
def Q_rmSize (Z : State) (a1 : Addr) (ps : Int32) (h0 : Heap) (n0 : Nat) (v : Option Value) (h : Heap) (L : List Loc) : Prop := v = some (.int ps) ∧ Fr n0 L ∧ h = h0
set_option maxRecDepth 65536 in
set_option maxHeartbeats 40000000 in
theorem rmSize (l : Launch) (Z : State) (a0 : Array Value) (hw : ∀ d ∈ tables_1, d.before a0 Z = true) (a1 : Addr) (ps : Int32) (h0 : Heap) (n0 : Nat) (Z0 : n0 ≤ h0.size) (Fs : Fld Z h0 a1 "java/util/ArrayList" "size" "I" (.int ps)) :
    MetFree l (⟨"java/util/ArrayList", "size", "()I"⟩ : MethodName) (head1 [Jvm.Cond.code (⟨"java/util/ArrayList", "size", "()I"⟩ : MethodName) jdk_38_method_8_code 1 (some .int)] ({ frames := 0, cells := 0, slots := 0, locals := 0 } : Room)) (fun a U => a = #[(.ref a1)] ∧ Z.Warmed39 U.vm ∧ U.heap = h0) (fun _ _ _ _ _ => True) (fun _ U o U' => ∃ v L, o = .returned v ∧ (Q_rmSize Z a1 ps h0 n0) v U'.heap L ∧ FrameEnd U o U' L ({ frames := 0, cells := 0, slots := 0, locals := 0 } : Room).cells ({ frames := 0, cells := 0, slots := 0, locals := 0 } : Room).slots) := by
  refine MetFree.of_bodySF (plainFor_of_name pn_c56ca98) hisR ?_
  intro p e s m args below meth c s₁ Bd hml0 hP hK
  obtain ⟨rfl, hZ, hh⟩ := hP
  have hx := Bd.exec
  have hby := Bd.bytes
  have hml : c.maxLocals = 1 := hml0
  have hown : s.vm.findClass "java/util/ArrayList" = some m.cls := findClass_of_methodNamed Bd.named
  have hnm := (name_of_methodNamed Bd.named Bd.method).1
  have X0 : Stand p l e ({ frames := 0, cells := 0, slots := 0, locals := 0 } : Room) s m #[(.ref a1)] below meth c s₁ [] 0 0 := Stand.of_body Bd
  have e0 : s₁.heap = h0 := by rw [← hh, Bd.state]; rfl
  have N0 := Fr.nil n0
  have K0 : Keep h0 h0 [] := Keep.refl h0 []
  show Go p e below (s₁.setTop (entryFrame m #[(.ref a1)] 1)) (EndN s (Q_rmSize Z a1 ps h0 n0) ({ frames := 0, cells := 0, slots := 0, locals := 0 } : Room).cells ({ frames := 0, cells := 0, slots := 0, locals := 0 } : Room).slots)
  refine Go.top (ef_17 m a1) ?_
  refine Go.st (T' := s₁.setTop (mkF m 1 #[.val (.ref a1)] [(.ref a1)])) (fun zt zk => XS.aloadN X0.here hx rfl (hb hby d17_0) rfl rfl zk) ?_
  obtain ⟨T125, X125, e125, st125⟩ := getF X0 hx hZ hown (host := "") (Or.inl (hw _ (List.mem_of_getElem? (i := 135) rfl))) Via.refl e0 Fs (g := (mkF m 1 #[.val (.ref a1)] [(.ref a1)])) rfl rfl (hb hby d17_1)
  refine Go.st (T' := T125.setTop (mkF m 4 #[.val (.ref a1)] [(.int ps)])) (fun zt zk => st125 zt zk) ?_
  exact Go.done X125 Bd.notSynchronized (v := some (.int ps)) (fun h => by rw [Bd.returns] at h; cases h) (fun fs hr => retI X125 hx Bd.returns (hb hby d17_4) hr) (by rw [e125]; exact ⟨rfl, N0, rfl⟩) (by decide) (by decide)
theorem d11_0 : decode prog_1_method_1_code 0 = .ok (.aload_n 0, 1) := by decide +kernel
theorem d11_1 : decode prog_1_method_1_code 1 = .ok (.invokespecial 1, 3) := by decide +kernel
theorem d11_4 : decode prog_1_method_1_code 4 = .ok (.aload_n 0, 1) := by decide +kernel
theorem d11_5 : decode prog_1_method_1_code 5 = .ok (.new 7, 3) := by decide +kernel
theorem d11_8 : decode prog_1_method_1_code 8 = .ok (.dup, 1) := by decide +kernel
theorem d11_9 : decode prog_1_method_1_code 9 = .ok (.invokespecial 9, 3) := by decide +kernel
theorem d11_12 : decode prog_1_method_1_code 12 = .ok (.putfield 10, 3) := by decide +kernel
theorem d11_15 : decode prog_1_method_1_code 15 = .ok (.aload_n 0, 1) := by decide +kernel
theorem d11_16 : decode prog_1_method_1_code 16 = .ok (.new 16, 3) := by decide +kernel
theorem d11_19 : decode prog_1_method_1_code 19 = .ok (.dup, 1) := by decide +kernel
theorem d11_20 : decode prog_1_method_1_code 20 = .ok (.invokespecial 18, 3) := by decide +kernel
theorem d11_23 : decode prog_1_method_1_code 23 = .ok (.putfield 19, 3) := by decide +kernel
theorem d11_26 : decode prog_1_method_1_code 26 = .ok (.aload_n 0, 1) := by decide +kernel
theorem d11_27 : decode prog_1_method_1_code 27 = .ok (.new 23, 3) := by decide +kernel
theorem d11_30 : decode prog_1_method_1_code 30 = .ok (.dup, 1) := by decide +kernel
theorem d11_31 : decode prog_1_method_1_code 31 = .ok (.invokespecial 25, 3) := by decide +kernel
theorem d11_34 : decode prog_1_method_1_code 34 = .ok (.putfield 26, 3) := by decide +kernel
theorem d11_37 : decode prog_1_method_1_code 37 = .ok (.aload_n 0, 1) := by decide +kernel
theorem d11_38 : decode prog_1_method_1_code 38 = .ok (.aload 5, 2) := by decide +kernel
theorem d11_40 : decode prog_1_method_1_code 40 = .ok (.putfield 30, 3) := by decide +kernel
theorem d11_43 : decode prog_1_method_1_code 43 = .ok (.iconst 0, 1) := by decide +kernel
theorem d11_44 : decode prog_1_method_1_code 44 = .ok (.istore 6, 2) := by decide +kernel
theorem d11_46 : decode prog_1_method_1_code 46 = .ok (.iload 6, 2) := by decide +kernel
theorem d11_48 : decode prog_1_method_1_code 48 = .ok (.aload_n 1, 1) := by decide +kernel
theorem d11_49 : decode prog_1_method_1_code 49 = .ok (.invokeinterface 34 1, 5) := by decide +kernel
theorem d11_54 : decode prog_1_method_1_code 54 = .ok (.if_icmp .ge 235, 3) := by decide +kernel
theorem d11_289 : decode prog_1_method_1_code 289 = .ok (.return_, 1) := by decide +kernel
theorem pn_129eb5c : plainName "com/example/uakari/uakari/CommandLine" = true := by first | (simp [plainName, overriddenIn]; done) | decide +kernel
theorem pd_a8eac : parseMethodDescriptor "()I" = some ⟨[], some .int⟩ := by decide +kernel
theorem ef_11 (m : MethodId) (x0 : Addr) (x1 : Addr) (x5 : Addr) : entryFrame m #[(.ref x0), (.ref x1), .null, .null, .null, (.ref x5)] 8 = mkF m 0 #[.val (.ref x0), .val (.ref x1), .val .null, .val .null, .val .null, .val (.ref x5), .unset, .unset] [] := by first | (simp [entryFrame, mkF, argsToLocals, Value.category]; done) | rfl
def Q_rmCL (Z : State) (a1 a2 a6 : Addr) (h0 : Heap) (n0 : Nat) (v : Option Value) (h : Heap) (L : List Loc) : Prop := v = none ∧ Fr n0 L ∧ Keep h0 h [a1] ∧ Exa Z h a1 "com/example/uakari/uakari/CommandLine" ∧ Fld Z h a1 "com/example/uakari/uakari/CommandLine" "usage" "Ljava/lang/String;" (.ref a6)
set_option maxRecDepth 65536 in
set_option maxHeartbeats 40000000 in
theorem rmCL (l : Launch) (Z : State) (a0 : Array Value) (hw : ∀ d ∈ tables_1, d.before a0 Z = true) (a1 a2 a6 : Addr) (h0 : Heap) (n0 : Nat) (Z0 : n0 ≤ h0.size) (E1 : Exa Z h0 a1 "com/example/uakari/uakari/CommandLine") (g_a1 : n0 ≤ a1) (F_values : Fld Z h0 a1 "com/example/uakari/uakari/CommandLine" "values" "Ljava/util/Map;" .null) (F_given : Fld Z h0 a1 "com/example/uakari/uakari/CommandLine" "given" "Ljava/util/Set;" .null) (F_operands : Fld Z h0 a1 "com/example/uakari/uakari/CommandLine" "operands" "Ljava/util/List;" .null) (F_usage : Fld Z h0 a1 "com/example/uakari/uakari/CommandLine" "usage" "Ljava/lang/String;" .null) (Ea : Exa Z h0 a2 "java/util/ArrayList") (Fa : Fld Z h0 a2 "java/util/ArrayList" "size" "I" (.int (0 : Int32))) (n12 : a2 ≠ a1) (de : Addr) (Sd : Sta Z Z.heap "java/util/ArrayList" "DEFAULTCAPACITY_EMPTY_ELEMENTDATA" "[Ljava/lang/Object;" (.ref de)) (X00 : Old Z n0 h0) :
    MetFree l (⟨"com/example/uakari/uakari/CommandLine", "<init>", "(Ljava/util/List;Ljava/util/Set;Ljava/util/Set;Ljava/util/Set;Ljava/lang/String;)V"⟩ : MethodName) (head1 [Jvm.Cond.code (⟨"com/example/uakari/uakari/CommandLine", "<init>", "(Ljava/util/List;Ljava/util/Set;Ljava/util/Set;Ljava/util/Set;Ljava/lang/String;)V"⟩ : MethodName) prog_1_method_1_code 8 none] ({ frames := 4, cells := 4, slots := 24, locals := 52 } : Room)) (fun a U => a = #[(.ref a1), (.ref a2), .null, .null, .null, (.ref a6)] ∧ Z.Warmed39 U.vm ∧ U.heap = h0) (fun _ _ _ _ _ => True) (fun _ U o U' => ∃ v L, o = .returned v ∧ (Q_rmCL Z a1 a2 a6 h0 n0) v U'.heap L ∧ FrameEnd U o U' L ({ frames := 4, cells := 4, slots := 24, locals := 52 } : Room).cells ({ frames := 4, cells := 4, slots := 24, locals := 52 } : Room).slots) := by
  refine MetFree.of_bodySF (plainFor_of_name pn_129eb5c) hisR ?_
  intro p e s m args below meth c s₁ Bd hml0 hP hK
  obtain ⟨rfl, hZ, hh⟩ := hP
  have hx := Bd.exec
  have hby := Bd.bytes
  have hml : c.maxLocals = 8 := hml0
  have hown : s.vm.findClass "com/example/uakari/uakari/CommandLine" = some m.cls := findClass_of_methodNamed Bd.named
  have hnm := (name_of_methodNamed Bd.named Bd.method).1
  have X0 : Stand p l e ({ frames := 4, cells := 4, slots := 24, locals := 52 } : Room) s m #[(.ref a1), (.ref a2), .null, .null, .null, (.ref a6)] below meth c s₁ [] 0 0 := Stand.of_body Bd
  have e0 : s₁.heap = h0 := by rw [← hh, Bd.state]; rfl
  have N0 := Fr.nil n0
  have K0 : Keep h0 h0 [a1] := Keep.refl h0 [a1]
  show Go p e below (s₁.setTop (entryFrame m #[(.ref a1), (.ref a2), .null, .null, .null, (.ref a6)] 8)) (EndN s (Q_rmCL Z a1 a2 a6 h0 n0) ({ frames := 4, cells := 4, slots := 24, locals := 52 } : Room).cells ({ frames := 4, cells := 4, slots := 24, locals := 52 } : Room).slots)
  refine Go.top (ef_11 m a1 a2 a6) ?_
  refine Go.st (T' := s₁.setTop (mkF m 1 #[.val (.ref a1), .val (.ref a2), .val .null, .val .null, .val .null, .val (.ref a6), .unset, .unset] [(.ref a1)])) (fun zt zk => XS.aloadN X0.here hx rfl (hb hby d11_0) rfl rfl zk) ?_
  obtain ⟨T126, X126, e126, st126⟩ := initO X0 hx hZ hown (hw _ (List.mem_of_getElem? (i := 67) rfl)) (hw _ (List.mem_of_getElem? (i := 16) rfl)) (hw _ (List.mem_of_getElem? (i := 17) rfl)) e0 (g := (mkF m 1 #[.val (.ref a1), .val (.ref a2), .val .null, .val .null, .val .null, .val (.ref a6), .unset, .unset] [(.ref a1)])) rfl (by rw [hml]; rfl) rfl (hb hby d11_1) (by decide) (W := 0) (by show 2 * 0 + _ ≤ _; exact Nat.le_of_eq rfl) (by decide)
  refine Go.st (T' := T126.setTop (mkF m 4 #[.val (.ref a1), .val (.ref a2), .val .null, .val .null, .val .null, .val (.ref a6), .unset, .unset] [])) (fun zt zk => st126 zt zk) ?_
  refine Go.st (T' := T126.setTop (mkF m 5 #[.val (.ref a1), .val (.ref a2), .val .null, .val .null, .val .null, .val (.ref a6), .unset, .unset] [(.ref a1)])) (fun zt zk => XS.aloadN X126.here hx rfl (hb hby d11_4) rfl rfl zk) ?_
  obtain ⟨T127, h127, X127, e127, E127, A127, D127, U127, st127⟩ := newO X126 hx hZ hown (hw _ (List.mem_of_getElem? (i := 68) rfl)) (hw _ (List.mem_of_getElem? (i := 69) rfl)) (hw _ (List.mem_of_getElem? (i := 70) rfl)) e126 (g := (mkF m 5 #[.val (.ref a1), .val (.ref a2), .val .null, .val .null, .val .null, .val (.ref a6), .unset, .unset] [(.ref a1)])) rfl (hb hby d11_5) (by decide) (by decide)
  obtain ⟨b127, g127⟩ : ∃ z, z = h0.size := ⟨_, rfl⟩
  rw [← g127] at A127 D127 U127 st127
  have g_b127 : n0 ≤ b127 := Nat.le_trans (Nat.le_trans Z0 K0.1) (Nat.le_of_eq g127.symm)
  have sz_b127 : h0.size ≤ b127 := Nat.le_trans K0.1 (Nat.le_of_eq g127.symm)
  have ne128 : a1 ≠ b127 := Nat.ne_of_lt (Nat.lt_of_lt_of_le E1.lt (Nat.le_of_eq g127.symm))
  have ne129 : a2 ≠ b127 := Nat.ne_of_lt (Nat.lt_of_lt_of_le Ea.lt (Nat.le_of_eq g127.symm))
  have K127 : Keep h0 h127 [a1] := K0.ext E127
  have Fn127_loadFactor : Fld Z h127 b127 "java/util/HashMap" "loadFactor" "F" (.float (0 : UInt32)) := D127 (Or.inr (hw _ (List.mem_of_getElem? (i := 89) rfl))) (ty := .float) (by decide)
  have Fn127_putMode : Fld Z h127 b127 "java/util/LinkedHashMap" "putMode" "I" (.int (0 : Int32)) := D127 (Or.inl (hw _ (List.mem_of_getElem? (i := 91) rfl))) (ty := .int) (by decide)
  have Fn127_accessOrder : Fld Z h127 b127 "java/util/LinkedHashMap" "accessOrder" "Z" (.int (0 : Int32)) := D127 (Or.inr (hw _ (List.mem_of_getElem? (i := 93) rfl))) (ty := .boolean) (by decide)
  refine Go.st (T' := T127.setTop (mkF m 8 #[.val (.ref a1), .val (.ref a2), .val .null, .val .null, .val .null, .val (.ref a6), .unset, .unset] [(.ref b127), (.ref a1)])) (fun zt zk => st127 zt zk) ?_
  refine Go.st (T' := T127.setTop (mkF m 9 #[.val (.ref a1), .val (.ref a2), .val .null, .val .null, .val .null, .val (.ref a6), .unset, .unset] [(.ref b127), (.ref b127), (.ref a1)])) (fun zt zk => XS.dup X127.here hx rfl (hb hby d11_8) rfl rfl zk) ?_
  obtain ⟨vr130, _, ⟨T130, L130, k130, n130⟩, -, X130, ⟨Lc130, hQ130, l130, y130, z130⟩, st130⟩ := X127.specialBack hx (y := (⟨"java/util/LinkedHashMap", "<init>", "()V"⟩ : MethodName)) rfl hown (mvT hZ (hw _ (List.mem_of_getElem? (i := 71) rfl))) (mvT hZ (hw _ (List.mem_of_getElem? (i := 72) rfl))) (mvT hZ (hw _ (List.mem_of_getElem? (i := 73) rfl))) (by decide) (backOf (W := 2) (rmLH l Z a0 hw b127 h127 n0 (Nat.le_trans Z0 K127.1) A127 g_b127 Fn127_loadFactor Fn127_putMode Fn127_accessOrder) hZ (hw _ (List.mem_of_getElem? (i := 73) rfl)) (hw _ (List.mem_of_getElem? (i := 70) rfl)) (by decide) (by decide)) (g := (mkF m 9 #[.val (.ref a1), .val (.ref a2), .val .null, .val .null, .val .null, .val (.ref a6), .unset, .unset] [(.ref b127), (.ref b127), (.ref a1)])) rfl (by rw [hml]; rfl) (Steps.refl _) (a := b127) (argsL := []) (rest := [(.ref b127), (.ref a1)]) (lenOf pd_a8eb9 rfl) rfl (by show 2 * 0 + _ ≤ _; exact Nat.le_of_eq rfl) (hb hby d11_9) (fun _ _ => ⟨rfl, e127, (by decide : 1 + 0 ≤ _), (by decide : 12 + 0 ≤ _)⟩)
  dsimp only [Pt.U, Pt.locs, Pt.cells, Pt.slots] at X130 l130 y130 z130 st130 hQ130
  subst l130 y130 z130
  obtain ⟨rfl, Nq130, Kq130, Eq130⟩ := hQ130
  have KK131 : Keep h0 T130.heap [a1] := K127.trans Kq130 (allS (Or.inr sz_b127) all0)
  have NN132 := Fr.app N0 Nq130
  refine Go.st (T' := T130.setTop (mkF m 12 #[.val (.ref a1), .val (.ref a2), .val .null, .val .null, .val .null, .val (.ref a6), .unset, .unset] [(.ref b127), (.ref a1)])) (fun zt zk => st130.trans zk) ?_
  have f133 : Fld Z T130.heap a1 "com/example/uakari/uakari/CommandLine" "values" "Ljava/util/Map;" .null := ((F_values.ext E127).keep Kq130 (ninS ne128 nin0))
  have f134 : Exa Z T130.heap a1 "com/example/uakari/uakari/CommandLine" := ((E1.ext E127).keep Kq130)
  obtain ⟨T135, h135, X135, e135, W135, st135⟩ := putF X130 hx hZ hown (host := "") (Or.inl (hw _ (List.mem_of_getElem? (i := 94) rfl))) Via.refl rfl f133 f134 (Or.inr ⟨(hw _ (List.mem_of_getElem? (i := 95) rfl)), rfl, hnm⟩) (hw _ (List.mem_of_getElem? (i := 38) rfl)) (ty := (.object "java/util/Map")) (by decide) rfl rfl (g := (mkF m 12 #[.val (.ref a1), .val (.ref a2), .val .null, .val .null, .val .null, .val (.ref a6), .unset, .unset] [(.ref b127), (.ref a1)])) rfl rfl (hb hby d11_12)
  have Fw135 : Fld Z h135 a1 "com/example/uakari/uakari/CommandLine" "values" "Ljava/util/Map;" (.ref b127) := f133.same W135
  have K135 : Keep h0 h135 [a1] := KK131.wr W135 (Or.inl (List.mem_of_getElem? (i := 0) rfl))
  have N135 := Fr.snoc X135 NN132 g_a1
  refine Go.st (T' := T135.setTop (mkF m 15 #[.val (.ref a1), .val (.ref a2), .val .null, .val .null, .val .null, .val (.ref a6), .unset, .unset] [])) (fun zt zk => st135 zt zk) ?_
  refine Go.st (T' := T135.setTop (mkF m 16 #[.val (.ref a1), .val (.ref a2), .val .null, .val .null, .val .null, .val (.ref a6), .unset, .unset] [(.ref a1)])) (fun zt zk => XS.aloadN X135.here hx rfl (hb hby d11_15) rfl rfl zk) ?_
  obtain ⟨T136, h136, X136, e136, E136, A136, D136, U136, st136⟩ := newO X135 hx hZ hown (hw _ (List.mem_of_getElem? (i := 96) rfl)) (hw _ (List.mem_of_getElem? (i := 97) rfl)) (hw _ (List.mem_of_getElem? (i := 98) rfl)) e135 (g := (mkF m 16 #[.val (.ref a1), .val (.ref a2), .val .null, .val .null, .val .null, .val (.ref a6), .unset, .unset] [(.ref a1)])) rfl (hb hby d11_16) (by decide) (by decide)
  obtain ⟨b136, g136⟩ : ∃ z, z = h135.size := ⟨_, rfl⟩
  rw [← g136] at A136 D136 U136 st136
  have g_b136 : n0 ≤ b136 := Nat.le_trans (Nat.le_trans Z0 K135.1) (Nat.le_of_eq g136.symm)
  have sz_b136 : h0.size ≤ b136 := Nat.le_trans K135.1 (Nat.le_of_eq g136.symm)
  have f137 : Exa Z h135 a1 "com/example/uakari/uakari/CommandLine" := (f134.wr W135)
  have ne138 : a1 ≠ b136 := Nat.ne_of_lt (Nat.lt_of_lt_of_le f137.lt (Nat.le_of_eq g136.symm))
  have f139 : Exa Z h135 a2 "java/util/ArrayList" := (((Ea.ext E127).keep Kq130).wr W135)
  have ne140 : a2 ≠ b136 := Nat.ne_of_lt (Nat.lt_of_lt_of_le f139.lt (Nat.le_of_eq g136.symm))
  have f141 : Exa Z h135 b127 "java/util/LinkedHashMap" := (Eq130.wr W135)
  have ne142 : b127 ≠ b136 := Nat.ne_of_lt (Nat.lt_of_lt_of_le f141.lt (Nat.le_of_eq g136.symm))
  have K136 : Keep h0 h136 [a1] := K135.ext E136
  have Fn136_map : Fld Z h136 b136 "java/util/HashSet" "map" "Ljava/util/HashMap;" .null := D136 (Or.inl (hw _ (List.mem_of_getElem? (i := 117) rfl))) (ty := (.object "java/util/HashMap")) (by decide)
  refine Go.st (T' := T136.setTop (mkF m 19 #[.val (.ref a1), .val (.ref a2), .val .null, .val .null, .val .null, .val (.ref a6), .unset, .unset] [(.ref b136), (.ref a1)])) (fun zt zk => st136 zt zk) ?_
  refine Go.st (T' := T136.setTop (mkF m 20 #[.val (.ref a1), .val (.ref a2), .val .null, .val .null, .val .null, .val (.ref a6), .unset, .unset] [(.ref b136), (.ref b136), (.ref a1)])) (fun zt zk => XS.dup X136.here hx rfl (hb hby d11_19) rfl rfl zk) ?_
  obtain ⟨vr143, _, ⟨T143, L143, k143, n143⟩, -, X143, ⟨Lc143, hQ143, l143, y143, z143⟩, st143⟩ := X136.specialBack hx (y := (⟨"java/util/HashSet", "<init>", "()V"⟩ : MethodName)) rfl hown (mvT hZ (hw _ (List.mem_of_getElem? (i := 99) rfl))) (mvT hZ (hw _ (List.mem_of_getElem? (i := 100) rfl))) (mvT hZ (hw _ (List.mem_of_getElem? (i := 101) rfl))) (by decide) (backOf (W := 2) (rmHS l Z a0 hw b136 h136 n0 (Nat.le_trans Z0 K136.1) A136 g_b136 Fn136_map) hZ (hw _ (List.mem_of_getElem? (i := 101) rfl)) (hw _ (List.mem_of_getElem? (i := 98) rfl)) (by decide) (by decide)) (g := (mkF m 20 #[.val (.ref a1), .val (.ref a2), .val .null, .val .null, .val .null, .val (.ref a6), .unset, .unset] [(.ref b136), (.ref b136), (.ref a1)])) rfl (by rw [hml]; rfl) (Steps.refl _) (a := b136) (argsL := []) (rest := [(.ref b136), (.ref a1)]) (lenOf pd_a8eb9 rfl) rfl (by show 2 * 0 + _ ≤ _; exact Nat.le_of_eq rfl) (hb hby d11_20) (fun _ _ => ⟨rfl, e136, (by decide : 2 + 1 ≤ _), (by decide : 13 + 8 ≤ _)⟩)
  dsimp only [Pt.U, Pt.locs, Pt.cells, Pt.slots] at X143 l143 y143 z143 st143 hQ143
  subst l143 y143 z143
  obtain ⟨rfl, Nq143, Kq143, Eq143⟩ := hQ143
  have KK144 : Keep h0 T143.heap [a1] := K136.trans Kq143 (allS (Or.inr sz_b136) all0)
  have NN145 := Fr.app N135 Nq143
  refine Go.st (T' := T143.setTop (mkF m 23 #[.val (.ref a1), .val (.ref a2), .val .null, .val .null, .val .null, .val (.ref a6), .unset, .unset] [(.ref b136), (.ref a1)])) (fun zt zk => st143.trans zk) ?_
  have f146 : Fld Z T143.heap a1 "com/example/uakari/uakari/CommandLine" "given" "Ljava/util/Set;" .null := (((((F_given.ext E127).keep Kq130 (ninS ne128 nin0)).other W135 (Or.inr (slot_ne (Or.inr (hw _ (List.mem_of_getElem? (i := 119) rfl))) (Or.inr (hw _ (List.mem_of_getElem? (i := 95) rfl))) (by decide) (t := (.object "java/util/Set")) (t' := (.object "java/util/Map")) (by decide) (by decide)))).ext E136).keep Kq143 (ninS ne138 nin0))
  have f147 : Exa Z T143.heap a1 "com/example/uakari/uakari/CommandLine" := ((f137.ext E136).keep Kq143)
  obtain ⟨T148, h148, X148, e148, W148, st148⟩ := putF X143 hx hZ hown (host := "") (Or.inl (hw _ (List.mem_of_getElem? (i := 118) rfl))) Via.refl rfl f146 f147 (Or.inr ⟨(hw _ (List.mem_of_getElem? (i := 119) rfl)), rfl, hnm⟩) (hw _ (List.mem_of_getElem? (i := 38) rfl)) (ty := (.object "java/util/Set")) (by decide) rfl rfl (g := (mkF m 23 #[.val (.ref a1), .val (.ref a2), .val .null, .val .null, .val .null, .val (.ref a6), .unset, .unset] [(.ref b136), (.ref a1)])) rfl rfl (hb hby d11_23)
  have Fw148 : Fld Z h148 a1 "com/example/uakari/uakari/CommandLine" "given" "Ljava/util/Set;" (.ref b136) := f146.same W148
  have K148 : Keep h0 h148 [a1] := KK144.wr W148 (Or.inl (List.mem_of_getElem? (i := 0) rfl))
  have N148 := Fr.snoc X148 NN145 g_a1
  refine Go.st (T' := T148.setTop (mkF m 26 #[.val (.ref a1), .val (.ref a2), .val .null, .val .null, .val .null, .val (.ref a6), .unset, .unset] [])) (fun zt zk => st148 zt zk) ?_
  refine Go.st (T' := T148.setTop (mkF m 27 #[.val (.ref a1), .val (.ref a2), .val .null, .val .null, .val .null, .val (.ref a6), .unset, .unset] [(.ref a1)])) (fun zt zk => XS.aloadN X148.here hx rfl (hb hby d11_26) rfl rfl zk) ?_
  obtain ⟨T149, h149, X149, e149, E149, A149, D149, U149, st149⟩ := newO X148 hx hZ hown (hw _ (List.mem_of_getElem? (i := 120) rfl)) (hw _ (List.mem_of_getElem? (i := 41) rfl)) (hw _ (List.mem_of_getElem? (i := 42) rfl)) e148 (g := (mkF m 27 #[.val (.ref a1), .val (.ref a2), .val .null, .val .null, .val .null, .val (.ref a6), .unset, .unset] [(.ref a1)])) rfl (hb hby d11_27) (by decide) (by decide)
  obtain ⟨b149, g149⟩ : ∃ z, z = h148.size := ⟨_, rfl⟩
  rw [← g149] at A149 D149 U149 st149
  have g_b149 : n0 ≤ b149 := Nat.le_trans (Nat.le_trans Z0 K148.1) (Nat.le_of_eq g149.symm)
  have sz_b149 : h0.size ≤ b149 := Nat.le_trans K148.1 (Nat.le_of_eq g149.symm)
  have f150 : Exa Z h148 a1 "com/example/uakari/uakari/CommandLine" := (f147.wr W148)
  have ne151 : a1 ≠ b149 := Nat.ne_of_lt (Nat.lt_of_lt_of_le f150.lt (Nat.le_of_eq g149.symm))
  have f152 : Exa Z h148 a2 "java/util/ArrayList" := (((f139.ext E136).keep Kq143).wr W148)
  have ne153 : a2 ≠ b149 := Nat.ne_of_lt (Nat.lt_of_lt_of_le f152.lt (Nat.le_of_eq g149.symm))
  have f154 : Exa Z h148 b127 "java/util/LinkedHashMap" := (((f141.ext E136).keep Kq143).wr W148)
  have ne155 : b127 ≠ b149 := Nat.ne_of_lt (Nat.lt_of_lt_of_le f154.lt (Nat.le_of_eq g149.symm))
  have f156 : Exa Z h148 b136 "java/util/HashSet" := (Eq143.wr W148)
  have ne157 : b136 ≠ b149 := Nat.ne_of_lt (Nat.lt_of_lt_of_le f156.lt (Nat.le_of_eq g149.symm))
  have K149 : Keep h0 h149 [a1] := K148.ext E149
  have Fn149_modCount : Fld Z h149 b149 "java/util/AbstractList" "modCount" "I" (.int (0 : Int32)) := D149 (Or.inl (hw _ (List.mem_of_getElem? (i := 60) rfl))) (ty := .int) (by decide)
  have Fn149_elementData : Fld Z h149 b149 "java/util/ArrayList" "elementData" "[Ljava/lang/Object;" .null := D149 (Or.inl (hw _ (List.mem_of_getElem? (i := 63) rfl))) (ty := (.array (.object "java/lang/Object"))) (by decide)
  have Fn149_size : Fld Z h149 b149 "java/util/ArrayList" "size" "I" (.int (0 : Int32)) := D149 (Or.inl (hw _ (List.mem_of_getElem? (i := 136) rfl))) (ty := .int) (by decide)
  refine Go.st (T' := T149.setTop (mkF m 30 #[.val (.ref a1), .val (.ref a2), .val .null, .val .null, .val .null, .val (.ref a6), .unset, .unset] [(.ref b149), (.ref a1)])) (fun zt zk => st149 zt zk) ?_
  refine Go.st (T' := T149.setTop (mkF m 31 #[.val (.ref a1), .val (.ref a2), .val .null, .val .null, .val .null, .val (.ref a6), .unset, .unset] [(.ref b149), (.ref b149), (.ref a1)])) (fun zt zk => XS.dup X149.here hx rfl (hb hby d11_30) rfl rfl zk) ?_
  obtain ⟨vr158, _, ⟨T158, L158, k158, n158⟩, -, X158, ⟨Lc158, hQ158, l158, y158, z158⟩, st158⟩ := X149.specialBack hx (y := (⟨"java/util/ArrayList", "<init>", "()V"⟩ : MethodName)) rfl hown (mvT hZ (hw _ (List.mem_of_getElem? (i := 121) rfl))) (mvT hZ (hw _ (List.mem_of_getElem? (i := 44) rfl))) (mvT hZ (hw _ (List.mem_of_getElem? (i := 45) rfl))) (by decide) (backOf (W := 2) (rmAL l Z a0 hw b149 de h149 n0 (Nat.le_trans Z0 K149.1) A149 g_b149 Fn149_modCount Fn149_elementData Fn149_size Sd (X00.keep K149 (allS g_a1 all0))) hZ (hw _ (List.mem_of_getElem? (i := 45) rfl)) (hw _ (List.mem_of_getElem? (i := 42) rfl)) (by decide) (by decide)) (g := (mkF m 31 #[.val (.ref a1), .val (.ref a2), .val .null, .val .null, .val .null, .val (.ref a6), .unset, .unset] [(.ref b149), (.ref b149), (.ref a1)])) rfl (by rw [hml]; rfl) (Steps.refl _) (a := b149) (argsL := []) (rest := [(.ref b149), (.ref a1)]) (lenOf pd_a8eb9 rfl) rfl (by show 2 * 0 + _ ≤ _; exact Nat.le_of_eq rfl) (hb hby d11_31) (fun _ _ => ⟨rfl, e149, (by decide : 4 + 0 ≤ _), (by decide : 24 + 0 ≤ _)⟩)
  dsimp only [Pt.U, Pt.locs, Pt.cells, Pt.slots] at X158 l158 y158 z158 st158 hQ158
  subst l158 y158 z158
  obtain ⟨rfl, Nq158, Kq158, Eq158, Fk0_158⟩ := hQ158
  have KK159 : Keep h0 T158.heap [a1] := K149.trans Kq158 (allS (Or.inr sz_b149) all0)
  have NN160 := Fr.app N148 Nq158
  refine Go.st (T' := T158.setTop (mkF m 34 #[.val (.ref a1), .val (.ref a2), .val .null, .val .null, .val .null, .val (.ref a6), .unset, .unset] [(.ref b149), (.ref a1)])) (fun zt zk => st158.trans zk) ?_
  have f161 : Fld Z T158.heap a1 "com/example/uakari/uakari/CommandLine" "operands" "Ljava/util/List;" .null := ((((((((F_operands.ext E127).keep Kq130 (ninS ne128 nin0)).other W135 (Or.inr (slot_ne (Or.inr (hw _ (List.mem_of_getElem? (i := 123) rfl))) (Or.inr (hw _ (List.mem_of_getElem? (i := 95) rfl))) (by decide) (t := (.object "java/util/List")) (t' := (.object "java/util/Map")) (by decide) (by decide)))).ext E136).keep Kq143 (ninS ne138 nin0)).other W148 (Or.inr (slot_ne (Or.inr (hw _ (List.mem_of_getElem? (i := 123) rfl))) (Or.inr (hw _ (List.mem_of_getElem? (i := 119) rfl))) (by decide) (t := (.object "java/util/List")) (t' := (.object "java/util/Set")) (by decide) (by decide)))).ext E149).keep Kq158 (ninS ne151 nin0))
  have f162 : Exa Z T158.heap a1 "com/example/uakari/uakari/CommandLine" := ((f150.ext E149).keep Kq158)
  obtain ⟨T163, h163, X163, e163, W163, st163⟩ := putF X158 hx hZ hown (host := "") (Or.inl (hw _ (List.mem_of_getElem? (i := 122) rfl))) Via.refl rfl f161 f162 (Or.inr ⟨(hw _ (List.mem_of_getElem? (i := 123) rfl)), rfl, hnm⟩) (hw _ (List.mem_of_getElem? (i := 38) rfl)) (ty := (.object "java/util/List")) (by decide) rfl rfl (g := (mkF m 34 #[.val (.ref a1), .val (.ref a2), .val .null, .val .null, .val .null, .val (.ref a6), .unset, .unset] [(.ref b149), (.ref a1)])) rfl rfl (hb hby d11_34)
  have Fw163 : Fld Z h163 a1 "com/example/uakari/uakari/CommandLine" "operands" "Ljava/util/List;" (.ref b149) := f161.same W163
  have K163 : Keep h0 h163 [a1] := KK159.wr W163 (Or.inl (List.mem_of_getElem? (i := 0) rfl))
  have N163 := Fr.snoc X163 NN160 g_a1
  refine Go.st (T' := T163.setTop (mkF m 37 #[.val (.ref a1), .val (.ref a2), .val .null, .val .null, .val .null, .val (.ref a6), .unset, .unset] [])) (fun zt zk => st163 zt zk) ?_
  refine Go.st (T' := T163.setTop (mkF m 38 #[.val (.ref a1), .val (.ref a2), .val .null, .val .null, .val .null, .val (.ref a6), .unset, .unset] [(.ref a1)])) (fun zt zk => XS.aloadN X163.here hx rfl (hb hby d11_37) rfl rfl zk) ?_
  refine Go.st (T' := T163.setTop (mkF m 40 #[.val (.ref a1), .val (.ref a2), .val .null, .val .null, .val .null, .val (.ref a6), .unset, .unset] [(.ref a6), (.ref a1)])) (fun zt zk => XS.aload X163.here hx rfl (hb hby d11_38) rfl rfl zk) ?_
  have f164 : Fld Z h163 a1 "com/example/uakari/uakari/CommandLine" "usage" "Ljava/lang/String;" .null := (((((((((F_usage.ext E127).keep Kq130 (ninS ne128 nin0)).other W135 (Or.inr (slot_ne (Or.inr (hw _ (List.mem_of_getElem? (i := 125) rfl))) (Or.inr (hw _ (List.mem_of_getElem? (i := 95) rfl))) (by decide) (t := (.object "java/lang/String")) (t' := (.object "java/util/Map")) (by decide) (by decide)))).ext E136).keep Kq143 (ninS ne138 nin0)).other W148 (Or.inr (slot_ne (Or.inr (hw _ (List.mem_of_getElem? (i := 125) rfl))) (Or.inr (hw _ (List.mem_of_getElem? (i := 119) rfl))) (by decide) (t := (.object "java/lang/String")) (t' := (.object "java/util/Set")) (by decide) (by decide)))).ext E149).keep Kq158 (ninS ne151 nin0)).other W163 (Or.inr (slot_ne (Or.inr (hw _ (List.mem_of_getElem? (i := 125) rfl))) (Or.inr (hw _ (List.mem_of_getElem? (i := 123) rfl))) (by decide) (t := (.object "java/lang/String")) (t' := (.object "java/util/List")) (by decide) (by decide))))
  have f165 : Exa Z h163 a1 "com/example/uakari/uakari/CommandLine" := (f162.wr W163)
  obtain ⟨T166, h166, X166, e166, W166, st166⟩ := putF X163 hx hZ hown (host := "") (Or.inl (hw _ (List.mem_of_getElem? (i := 124) rfl))) Via.refl e163 f164 f165 (Or.inr ⟨(hw _ (List.mem_of_getElem? (i := 125) rfl)), rfl, hnm⟩) (hw _ (List.mem_of_getElem? (i := 38) rfl)) (ty := (.object "java/lang/String")) (by decide) rfl rfl (g := (mkF m 40 #[.val (.ref a1), .val (.ref a2), .val .null, .val .null, .val .null, .val (.ref a6), .unset, .unset] [(.ref a6), (.ref a1)])) rfl rfl (hb hby d11_40)
  have Fw166 : Fld Z h166 a1 "com/example/uakari/uakari/CommandLine" "usage" "Ljava/lang/String;" (.ref a6) := f164.same W166
  have K166 : Keep h0 h166 [a1] := K163.wr W166 (Or.inl (List.mem_of_getElem? (i := 0) rfl))
  have N166 := Fr.snoc X166 N163 g_a1
  refine Go.st (T' := T166.setTop (mkF m 43 #[.val (.ref a1), .val (.ref a2), .val .null, .val .null, .val .null, .val (.ref a6), .unset, .unset] [])) (fun zt zk => st166 zt zk) ?_
  refine Go.st (T' := T166.setTop (mkF m 44 #[.val (.ref a1), .val (.ref a2), .val .null, .val .null, .val .null, .val (.ref a6), .unset, .unset] [(.int (0 : Int32))])) (fun zt zk => XS.iconst X166.here hx rfl (hb hby d11_43) zk) ?_
  refine Go.st (T' := T166.setTop (mkF m 46 #[.val (.ref a1), .val (.ref a2), .val .null, .val .null, .val .null, .val (.ref a6), .val (.int (0 : Int32)), .unset] [])) (fun zt zk => XS.istore X166.here hx rfl (hb hby d11_44) rfl (l' := #[.val (.ref a1), .val (.ref a2), .val .null, .val .null, .val .null, .val (.ref a6), .val (.int (0 : Int32)), .unset]) rfl zk) ?_
  refine Go.st (T' := T166.setTop (mkF m 48 #[.val (.ref a1), .val (.ref a2), .val .null, .val .null, .val .null, .val (.ref a6), .val (.int (0 : Int32)), .unset] [(.int (0 : Int32))])) (fun zt zk => XS.iload X166.here hx rfl (hb hby d11_46) rfl zk) ?_
  refine Go.st (T' := T166.setTop (mkF m 49 #[.val (.ref a1), .val (.ref a2), .val .null, .val .null, .val .null, .val (.ref a6), .val (.int (0 : Int32)), .unset] [(.ref a2), (.int (0 : Int32))])) (fun zt zk => XS.aloadN X166.here hx rfl (hb hby d11_48) rfl rfl zk) ?_
  have f168 : Fld Z h166 a2 "java/util/ArrayList" "size" "I" (.int (0 : Int32)) := ((((((((((Fa.ext E127).keep Kq130 (ninS ne129 nin0)).other W135 (Or.inl n12)).ext E136).keep Kq143 (ninS ne140 nin0)).other W148 (Or.inl n12)).ext E149).keep Kq158 (ninS ne153 nin0)).other W163 (Or.inl n12)).other W166 (Or.inl n12))
  have f169 : Exa Z h166 a2 "java/util/ArrayList" := ((((f152.ext E149).keep Kq158).wr W163).wr W166)
  obtain ⟨cq167, kq167, q167a, q167b, q167c⟩ := isOf hZ e166 f169
  obtain ⟨vr167, _, ⟨T167, L167, k167, n167⟩, -, X167, ⟨Lc167, hQ167, l167, y167, z167⟩, st167⟩ := X166.interfaceBack hx (xi := (⟨"java/util/List", "size", "()I"⟩ : MethodName)) (y := (⟨"java/util/ArrayList", "size", "()I"⟩ : MethodName)) hown (mvT hZ (hw _ (List.mem_of_getElem? (i := 126) rfl))) (mvT hZ (hw _ (List.mem_of_getElem? (i := 127) rfl))) (mvT hZ (hw _ (List.mem_of_getElem? (i := 128) rfl))) (mvT hZ (hw _ (List.mem_of_getElem? (i := 129) rfl))) (mvT hZ (hw _ (List.mem_of_getElem? (i := 130) rfl))) (mvT hZ (hw _ (List.mem_of_getElem? (i := 131) rfl))) (mvT hZ (hw _ (List.mem_of_getElem? (i := 132) rfl))) (mvT hZ (hw _ (List.mem_of_getElem? (i := 133) rfl))) (by decide) (backOf (W := 1) (rmSize l Z a0 hw a2 (0 : Int32) h166 n0 (Nat.le_trans Z0 K166.1) f168) hZ (hw _ (List.mem_of_getElem? (i := 134) rfl)) (hw _ (List.mem_of_getElem? (i := 42) rfl)) (by decide) (by decide)) q167a q167b q167c (g := (mkF m 49 #[.val (.ref a1), .val (.ref a2), .val .null, .val .null, .val .null, .val (.ref a6), .val (.int (0 : Int32)), .unset] [(.ref a2), (.int (0 : Int32))])) rfl (by rw [hml]; rfl) (Steps.refl _) (argsL := []) (rest := [(.int (0 : Int32))]) (lenOf pd_a8eac rfl) rfl (by show 2 * 0 + _ ≤ _; exact Nat.le_of_eq rfl) (hb hby d11_49) (fun _ _ => ⟨rfl, e166, (by decide : 4 + 0 ≤ _), (by decide : 24 + 0 ≤ _)⟩)
  dsimp only [Pt.U, Pt.locs, Pt.cells, Pt.slots] at X167 l167 y167 z167 st167 hQ167
  subst l167 y167 z167
  obtain ⟨rfl, Nq167, eq167⟩ := hQ167
  have NN170 := Fr.app N166 Nq167
  refine Go.st (T' := T167.setTop (mkF m 54 #[.val (.ref a1), .val (.ref a2), .val .null, .val .null, .val .null, .val (.ref a6), .val (.int (0 : Int32)), .unset] [(.int (0 : Int32)), (.int (0 : Int32))])) (fun zt zk => st167.trans zk) ?_
  refine Go.st (T' := T167.setTop (mkF m 289 #[.val (.ref a1), .val (.ref a2), .val .null, .val .null, .val .null, .val (.ref a6), .val (.int (0 : Int32)), .unset] [])) (fun zt zk => XS.icmpYes X167.here hx rfl (pc0 := 54) (pc' := 289) rfl (hb hby d11_54) rfl (flt (by decide)).2.1 (by decide) (by decide) zk) ?_
  have f171 : Exa Z h166 a1 "com/example/uakari/uakari/CommandLine" := (f165.wr W166)
  exact Go.done X167 Bd.notSynchronized (v := none) (fun _ => rfl) (fun fs hr => X167.returnOut hx Bd.returns (hb hby d11_289) hr) (by rw [eq167]; exact ⟨rfl, NN170, K166, f171, Fw166⟩) (by decide) (by decide)
theorem d25_0 : decode jdk_42_method_152_code 0 = .ok (.getstatic 38, 3) := by decide +kernel
theorem d25_3 : decode jdk_42_method_152_code 3 = .ok (.ifCond .eq 10, 3) := by decide +kernel
theorem d25_6 : decode jdk_42_method_152_code 6 = .ok (.aload_n 0, 1) := by decide +kernel
theorem d25_7 : decode jdk_42_method_152_code 7 = .ok (.getfield 15, 3) := by decide +kernel
theorem d25_10 : decode jdk_42_method_152_code 10 = .ok (.goto 4, 3) := by decide +kernel
theorem d25_14 : decode jdk_42_method_152_code 14 = .ok (.ireturn, 1) := by decide +kernel
theorem ef_25 (m : MethodId) (x0 : Addr) : entryFrame m #[(.ref x0)] 1 = mkF m 0 #[.val (.ref x0)] [] := by first | (simp [entryFrame, mkF, argsToLocals, Value.category]; done) | rfl
def Q_rmCod (Z : State) (a1 : Addr) (h0 : Heap) (n0 : Nat) (v : Option Value) (h : Heap) (L : List Loc) : Prop := v = some (.int (0 : Int32)) ∧ Fr n0 L ∧ h = h0
set_option maxRecDepth 65536 in
set_option maxHeartbeats 40000000 in
theorem rmCod (l : Launch) (Z : State) (a0 : Array Value) (hw : ∀ d ∈ tables_1, d.before a0 Z = true) (a1 : Addr) (h0 : Heap) (n0 : Nat) (Z0 : n0 ≤ h0.size) (G1 : Int32) (O2 : Sta Z Z.heap "java/lang/String" "COMPACT_STRINGS" "Z" (.int G1)) (P5 : ¬ (G1 = (0 : Int32))) (X00 : Old Z n0 h0) (Fc : Fld Z h0 a1 "java/lang/String" "coder" "B" (.int (0 : Int32))) :
    MetFree l (⟨"java/lang/String", "coder", "()B"⟩ : MethodName) (head1 [Jvm.Cond.code (⟨"java/lang/String", "coder", "()B"⟩ : MethodName) jdk_42_method_152_code 1 (some .byte)] ({ frames := 0, cells := 0, slots := 0, locals := 0 } : Room)) (fun a U => a = #[(.ref a1)] ∧ Z.Warmed39 U.vm ∧ U.heap = h0) (fun _ _ _ _ _ => True) (fun _ U o U' => ∃ v L, o = .returned v ∧ (Q_rmCod Z a1 h0 n0) v U'.heap L ∧ FrameEnd U o U' L ({ frames := 0, cells := 0, slots := 0, locals := 0 } : Room).cells ({ frames := 0, cells := 0, slots := 0, locals := 0 } : Room).slots) := by
  refine MetFree.of_bodySF (plainFor_of_name pn_397d88e) hisR ?_
  intro p e s m args below meth c s₁ Bd hml0 hP hK
  obtain ⟨rfl, hZ, hh⟩ := hP
  have hx := Bd.exec
  have hby := Bd.bytes
  have hml : c.maxLocals = 1 := hml0
  have hown : s.vm.findClass "java/lang/String" = some m.cls := findClass_of_methodNamed Bd.named
  have hnm := (name_of_methodNamed Bd.named Bd.method).1
  have X0 : Stand p l e ({ frames := 0, cells := 0, slots := 0, locals := 0 } : Room) s m #[(.ref a1)] below meth c s₁ [] 0 0 := Stand.of_body Bd
  have e0 : s₁.heap = h0 := by rw [← hh, Bd.state]; rfl
  have N0 := Fr.nil n0
  have K0 : Keep h0 h0 [] := Keep.refl h0 []
  show Go p e below (s₁.setTop (entryFrame m #[(.ref a1)] 1)) (EndN s (Q_rmCod Z a1 h0 n0) ({ frames := 0, cells := 0, slots := 0, locals := 0 } : Room).cells ({ frames := 0, cells := 0, slots := 0, locals := 0 } : Room).slots)
  refine Go.top (ef_25 m a1) ?_
  obtain ⟨T172, X172, e172, st172⟩ := getS (host := "") X0 hx hZ hown (hw _ (List.mem_of_getElem? (i := 18) rfl)) Via.refl e0 (O2.ext (X00.keep K0 all0).2) (g := (mkF m 0 #[.val (.ref a1)] [])) rfl (hb hby d25_0)
  refine Go.st (T' := T172.setTop (mkF m 3 #[.val (.ref a1)] [(.int G1)])) (fun zt zk => st172 zt zk) ?_
  refine Go.st (T' := T172.setTop (mkF m 6 #[.val (.ref a1)] [])) (fun zt zk => XS.ifNo X172.here hx rfl (hb hby d25_3) rfl ((if0 _ _).trans (feq P5).1) zk) ?_
  refine Go.st (T' := T172.setTop (mkF m 7 #[.val (.ref a1)] [(.ref a1)])) (fun zt zk => XS.aloadN X172.here hx rfl (hb hby d25_6) rfl rfl zk) ?_
  obtain ⟨T173, X173, e173, st173⟩ := getF X172 hx hZ hown (host := "") (Or.inl (hw _ (List.mem_of_getElem? (i := 30) rfl))) Via.refl e172 Fc (g := (mkF m 7 #[.val (.ref a1)] [(.ref a1)])) rfl rfl (hb hby d25_7)
  refine Go.st (T' := T173.setTop (mkF m 10 #[.val (.ref a1)] [(.int (0 : Int32))])) (fun zt zk => st173 zt zk) ?_
  refine Go.st (T' := T173.setTop (mkF m 14 #[.val (.ref a1)] [(.int (0 : Int32))])) (fun zt zk => XS.goto X173.here hx rfl (pc0 := 10) (pc' := 14) rfl (hb hby d25_10) (by decide) (by decide) zk) ?_
  exact Go.done X173 Bd.notSynchronized (v := some (.int (nar .byte (0 : Int32)))) (fun h => by rw [Bd.returns] at h; cases h) (fun fs hr => retN X173 hx (t := .byte) Bd.returns (by simp) (hb hby d25_14) hr) (by rw [e173]; exact ⟨rfl, N0, rfl⟩) (by decide) (by decide)
theorem d21_0 : decode jdk_68_method_2_code 0 = .ok (.aload_n 0, 1) := by decide +kernel
theorem d21_1 : decode jdk_68_method_2_code 1 = .ok (.invokespecial 3, 3) := by decide +kernel
theorem d21_4 : decode jdk_68_method_2_code 4 = .ok (.getstatic 18, 3) := by decide +kernel
theorem d21_7 : decode jdk_68_method_2_code 7 = .ok (.ifCond .eq 18, 3) := by decide +kernel
theorem d21_10 : decode jdk_68_method_2_code 10 = .ok (.aload_n 0, 1) := by decide +kernel
theorem d21_11 : decode jdk_68_method_2_code 11 = .ok (.iload_n 1, 1) := by decide +kernel
theorem d21_12 : decode jdk_68_method_2_code 12 = .ok (.newarray .byte, 2) := by decide +kernel
theorem d21_14 : decode jdk_68_method_2_code 14 = .ok (.putfield 15, 3) := by decide +kernel
theorem d21_17 : decode jdk_68_method_2_code 17 = .ok (.aload_n 0, 1) := by decide +kernel
theorem d21_18 : decode jdk_68_method_2_code 18 = .ok (.iconst 0, 1) := by decide +kernel
theorem d21_19 : decode jdk_68_method_2_code 19 = .ok (.putfield 22, 3) := by decide +kernel
theorem d21_22 : decode jdk_68_method_2_code 22 = .ok (.goto 16, 3) := by decide +kernel
theorem d21_38 : decode jdk_68_method_2_code 38 = .ok (.return_, 1) := by decide +kernel
theorem pn_f7a11f1 : plainName "java/lang/AbstractStringBuilder" = true := by first | (simp [plainName, overriddenIn]; done) | decide +kernel
theorem ef_21 (m : MethodId) (x0 : Addr) (x1 : Int32) : entryFrame m #[(.ref x0), (.int x1)] 2 = mkF m 0 #[.val (.ref x0), .val (.int x1)] [] := by first | (simp [entryFrame, mkF, argsToLocals, Value.category]; done) | rfl
def Q_rmASi (Z : State) (b : Addr) (h0 : Heap) (n0 : Nat) (v : Option Value) (h : Heap) (L : List Loc) : Prop := v = none ∧ Fr n0 L ∧ Keep h0 h [b] ∧ Exa Z h b "java/lang/StringBuilder" ∧ ∃ (va : Addr) (kv : ClassId), h0.size ≤ va ∧ Fld Z h b "java/lang/AbstractStringBuilder" "value" "[B" (.ref va) ∧ Fld Z h b "java/lang/AbstractStringBuilder" "coder" "B" (.int (0 : Int32)) ∧ Fld Z h b "java/lang/AbstractStringBuilder" "count" "I" (.int (0 : Int32)) ∧ Arv Z h va kv .byte (16 : Int32) (own_buf []) (.int (0 : Int32))
set_option maxRecDepth 65536 in
set_option maxHeartbeats 40000000 in
theorem rmASi (l : Launch) (Z : State) (a0 : Array Value) (hw : ∀ d ∈ tables_1, d.before a0 Z = true) (b : Addr) (h0 : Heap) (n0 : Nat) (Z0 : n0 ≤ h0.size) (G1 : Int32) (O2 : Sta Z Z.heap "java/lang/String" "COMPACT_STRINGS" "Z" (.int G1)) (P5 : ¬ (G1 = (0 : Int32))) (X00 : Old Z n0 h0) (Es : Exa Z h0 b "java/lang/StringBuilder") (g_b : n0 ≤ b) (Fsv : Fld Z h0 b "java/lang/AbstractStringBuilder" "value" "[B" .null) (Fsc : Fld Z h0 b "java/lang/AbstractStringBuilder" "coder" "B" (.int (0 : Int32))) (Fsn : Fld Z h0 b "java/lang/AbstractStringBuilder" "count" "I" (.int (0 : Int32))) :
    MetFree l (⟨"java/lang/AbstractStringBuilder", "<init>", "(I)V"⟩ : MethodName) (head1 [Jvm.Cond.code (⟨"java/lang/AbstractStringBuilder", "<init>", "(I)V"⟩ : MethodName) jdk_68_method_2_code 2 none] ({ frames := 1, cells := 1, slots := 16, locals := 12 } : Room)) (fun a U => a = #[(.ref b), (.int (16 : Int32))] ∧ Z.Warmed39 U.vm ∧ U.heap = h0) (fun _ _ _ _ _ => True) (fun _ U o U' => ∃ v L, o = .returned v ∧ (Q_rmASi Z b h0 n0) v U'.heap L ∧ FrameEnd U o U' L ({ frames := 1, cells := 1, slots := 16, locals := 12 } : Room).cells ({ frames := 1, cells := 1, slots := 16, locals := 12 } : Room).slots) := by
  refine MetFree.of_bodySF (plainFor_of_name pn_f7a11f1) hisR ?_
  intro p e s m args below meth c s₁ Bd hml0 hP hK
  obtain ⟨rfl, hZ, hh⟩ := hP
  have hx := Bd.exec
  have hby := Bd.bytes
  have hml : c.maxLocals = 2 := hml0
  have hown : s.vm.findClass "java/lang/AbstractStringBuilder" = some m.cls := findClass_of_methodNamed Bd.named
  have hnm := (name_of_methodNamed Bd.named Bd.method).1
  have X0 : Stand p l e ({ frames := 1, cells := 1, slots := 16, locals := 12 } : Room) s m #[(.ref b), (.int (16 : Int32))] below meth c s₁ [] 0 0 := Stand.of_body Bd
  have e0 : s₁.heap = h0 := by rw [← hh, Bd.state]; rfl
  have N0 := Fr.nil n0
  have K0 : Keep h0 h0 [b] := Keep.refl h0 [b]
  show Go p e below (s₁.setTop (entryFrame m #[(.ref b), (.int (16 : Int32))] 2)) (EndN s (Q_rmASi Z b h0 n0) ({ frames := 1, cells := 1, slots := 16, locals := 12 } : Room).cells ({ frames := 1, cells := 1, slots := 16, locals := 12 } : Room).slots)
  refine Go.top (ef_21 m b (16 : Int32)) ?_
  have own_KX : ∀ x ∈ [b], n0 ≤ x := allS g_b all0
  refine Go.st (T' := s₁.setTop (mkF m 1 #[.val (.ref b), .val (.int (16 : Int32))] [(.ref b)])) (fun zt zk => XS.aloadN X0.here hx rfl (hb hby d21_0) rfl rfl zk) ?_
  obtain ⟨T174, X174, e174, st174⟩ := initO X0 hx hZ hown (hw _ (List.mem_of_getElem? (i := 160) rfl)) (hw _ (List.mem_of_getElem? (i := 16) rfl)) (hw _ (List.mem_of_getElem? (i := 17) rfl)) e0 (g := (mkF m 1 #[.val (.ref b), .val (.int (16 : Int32))] [(.ref b)])) rfl (by rw [hml]; rfl) rfl (hb hby d21_1) (by decide) (W := 0) (by show 2 * 0 + _ ≤ _; exact Nat.le_of_eq rfl) (by decide)
  refine Go.st (T' := T174.setTop (mkF m 4 #[.val (.ref b), .val (.int (16 : Int32))] [])) (fun zt zk => st174 zt zk) ?_
  obtain ⟨T175, X175, e175, st175⟩ := getS (host := "") X174 hx hZ hown (hw _ (List.mem_of_getElem? (i := 161) rfl)) Via.refl e174 (O2.ext (X00.keep K0 own_KX).2) (g := (mkF m 4 #[.val (.ref b), .val (.int (16 : Int32))] [])) rfl (hb hby d21_4)
  refine Go.st (T' := T175.setTop (mkF m 7 #[.val (.ref b), .val (.int (16 : Int32))] [(.int G1)])) (fun zt zk => st175 zt zk) ?_
  refine Go.st (T' := T175.setTop (mkF m 10 #[.val (.ref b), .val (.int (16 : Int32))] [])) (fun zt zk => XS.ifNo X175.here hx rfl (hb hby d21_7) rfl ((if0 _ _).trans (feq P5).1) zk) ?_
  refine Go.st (T' := T175.setTop (mkF m 11 #[.val (.ref b), .val (.int (16 : Int32))] [(.ref b)])) (fun zt zk => XS.aloadN X175.here hx rfl (hb hby d21_10) rfl rfl zk) ?_
  refine Go.st (T' := T175.setTop (mkF m 12 #[.val (.ref b), .val (.int (16 : Int32))] [(.int (16 : Int32)), (.ref b)])) (fun zt zk => XS.iloadN X175.here hx rfl (hb hby d21_11) rfl zk) ?_
  obtain ⟨T176, h176, k176, X176, e176, E176, A176, st176⟩ := newP X175 hx hZ (hw _ (List.mem_of_getElem? (i := 23) rfl)) e175 (g := (mkF m 12 #[.val (.ref b), .val (.int (16 : Int32))] [(.int (16 : Int32)), (.ref b)])) rfl (hb hby d21_12) rfl (by decide) (cap := 16) (by decide) (by decide) (by decide) (by decide)
  obtain ⟨b176, g176⟩ : ∃ z, z = h0.size := ⟨_, rfl⟩
  rw [← g176] at A176 st176
  have g_b176 : n0 ≤ b176 := Nat.le_trans (Nat.le_trans Z0 K0.1) (Nat.le_of_eq g176.symm)
  have sz_b176 : h0.size ≤ b176 := Nat.le_trans K0.1 (Nat.le_of_eq g176.symm)
  have ne177 : b ≠ b176 := Nat.ne_of_lt (Nat.lt_of_lt_of_le Es.lt (Nat.le_of_eq g176.symm))
  have K176 : Keep h0 h176 [b] := K0.ext E176
  have V176 : Arv Z h176 b176 k176 .byte (16 : Int32) [(.int (0 : Int32)), (.int (0 : Int32)), (.int (0 : Int32)), (.int (0 : Int32)), (.int (0 : Int32)), (.int (0 : Int32)), (.int (0 : Int32)), (.int (0 : Int32)), (.int (0 : Int32)), (.int (0 : Int32)), (.int (0 : Int32)), (.int (0 : Int32)), (.int (0 : Int32)), (.int (0 : Int32)), (.int (0 : Int32)), (.int (0 : Int32))] (.int (0 : Int32)) := (Arv.new A176 (by decide)).pad (pad_rep [] (.int (0 : Int32)) 16)
  refine Go.st (T' := T176.setTop (mkF m 14 #[.val (.ref b), .val (.int (16 : Int32))] [(.ref b176), (.ref b)])) (fun zt zk => st176 zt zk) ?_
  have f178 : Fld Z h176 b "java/lang/AbstractStringBuilder" "value" "[B" .null := (Fsv.ext E176)
  have f179 : Exa Z h176 b "java/lang/StringBuilder" := (Es.ext E176)
  obtain ⟨T180, h180, X180, e180, W180, st180⟩ := putF X176 hx hZ hown (host := "") (Or.inl (hw _ (List.mem_of_getElem? (i := 162) rfl))) Via.refl e176 f178 f179 (Or.inl (hw _ (List.mem_of_getElem? (i := 163) rfl))) (hw _ (List.mem_of_getElem? (i := 149) rfl)) (ty := (.array .byte)) (by decide) rfl rfl (g := (mkF m 14 #[.val (.ref b), .val (.int (16 : Int32))] [(.ref b176), (.ref b)])) rfl rfl (hb hby d21_14)
  have Fw180 : Fld Z h180 b "java/lang/AbstractStringBuilder" "value" "[B" (.ref b176) := f178.same W180
  have K180 : Keep h0 h180 [b] := K176.wr W180 (Or.inl (List.mem_of_getElem? (i := 0) rfl))
  have N180 := Fr.snoc X180 N0 g_b
  refine Go.st (T' := T180.setTop (mkF m 17 #[.val (.ref b), .val (.int (16 : Int32))] [])) (fun zt zk => st180 zt zk) ?_
  refine Go.st (T' := T180.setTop (mkF m 18 #[.val (.ref b), .val (.int (16 : Int32))] [(.ref b)])) (fun zt zk => XS.aloadN X180.here hx rfl (hb hby d21_17) rfl rfl zk) ?_
  refine Go.st (T' := T180.setTop (mkF m 19 #[.val (.ref b), .val (.int (16 : Int32))] [(.int (0 : Int32)), (.ref b)])) (fun zt zk => XS.iconst X180.here hx rfl (hb hby d21_18) zk) ?_
  have f181 : Fld Z h180 b "java/lang/AbstractStringBuilder" "coder" "B" (.int (0 : Int32)) := ((Fsc.ext E176).other W180 (Or.inr (slot_ne (Or.inl (hw _ (List.mem_of_getElem? (i := 165) rfl))) (Or.inl (hw _ (List.mem_of_getElem? (i := 163) rfl))) (by decide) (t := .byte) (t' := (.array .byte)) (by decide) (by decide))))
  have f182 : Exa Z h180 b "java/lang/StringBuilder" := (f179.wr W180)
  obtain ⟨T183, h183, X183, e183, W183, st183⟩ := putFN X180 hx hZ hown (hw _ (List.mem_of_getElem? (i := 164) rfl)) Via.refl e180 f181 f182 (Or.inl (hw _ (List.mem_of_getElem? (i := 165) rfl))) (hw _ (List.mem_of_getElem? (i := 149) rfl)) (ty := .byte) (v' := (.int (nar .byte (0 : Int32)))) (by decide) rfl (fits_nar_byte _) (g := (mkF m 19 #[.val (.ref b), .val (.int (16 : Int32))] [(.int (0 : Int32)), (.ref b)])) rfl rfl (hb hby d21_19)
  have Fw183 : Fld Z h183 b "java/lang/AbstractStringBuilder" "coder" "B" (.int (nar .byte (0 : Int32))) := f181.same W183
  have K183 : Keep h0 h183 [b] := K180.wr W183 (Or.inl (List.mem_of_getElem? (i := 0) rfl))
  have N183 := Fr.snoc X183 N180 g_b
  refine Go.st (T' := T183.setTop (mkF m 22 #[.val (.ref b), .val (.int (16 : Int32))] [])) (fun zt zk => st183 zt zk) ?_
  refine Go.st (T' := T183.setTop (mkF m 38 #[.val (.ref b), .val (.int (16 : Int32))] [])) (fun zt zk => XS.goto X183.here hx rfl (pc0 := 22) (pc' := 38) rfl (hb hby d21_22) (by decide) (by decide) zk) ?_
  have f184 : Exa Z h183 b "java/lang/StringBuilder" := (f182.wr W183)
  have f185 : Fld Z h183 b "java/lang/AbstractStringBuilder" "value" "[B" (.ref b176) := (Fw180.other W183 (Or.inr (slot_ne (Or.inl (hw _ (List.mem_of_getElem? (i := 163) rfl))) (Or.inl (hw _ (List.mem_of_getElem? (i := 165) rfl))) (by decide) (t := (.array .byte)) (t' := .byte) (by decide) (by decide))))
  have f186 : Fld Z h183 b "java/lang/AbstractStringBuilder" "count" "I" (.int (0 : Int32)) := (((Fsn.ext E176).other W180 (Or.inr (slot_ne (Or.inl (hw _ (List.mem_of_getElem? (i := 187) rfl))) (Or.inl (hw _ (List.mem_of_getElem? (i := 163) rfl))) (by decide) (t := .int) (t' := (.array .byte)) (by decide) (by decide)))).other W183 (Or.inr (slot_ne (Or.inl (hw _ (List.mem_of_getElem? (i := 187) rfl))) (Or.inl (hw _ (List.mem_of_getElem? (i := 165) rfl))) (by decide) (t := .int) (t' := .byte) (by decide) (by decide))))
  have f187 : Arv Z h183 b176 k176 .byte (16 : Int32) [(.int (0 : Int32)), (.int (0 : Int32)), (.int (0 : Int32)), (.int (0 : Int32)), (.int (0 : Int32)), (.int (0 : Int32)), (.int (0 : Int32)), (.int (0 : Int32)), (.int (0 : Int32)), (.int (0 : Int32)), (.int (0 : Int32)), (.int (0 : Int32)), (.int (0 : Int32)), (.int (0 : Int32)), (.int (0 : Int32)), (.int (0 : Int32))] (.int (0 : Int32)) := ((V176.other W180 (Ne.symm ne177)).other W183 (Ne.symm ne177))
  exact Go.done X183 Bd.notSynchronized (v := none) (fun _ => rfl) (fun fs hr => X183.returnOut hx Bd.returns (hb hby d21_38) hr) (by rw [e183]; exact ⟨rfl, N183, K183, f184, b176, k176, sz_b176, f185, Fw183, f186, f187⟩) (by decide) (by decide)
theorem d20_0 : decode jdk_67_method_1_code 0 = .ok (.aload_n 0, 1) := by decide +kernel
theorem d20_1 : decode jdk_67_method_1_code 1 = .ok (.bipush 16, 2) := by decide +kernel
theorem d20_3 : decode jdk_67_method_1_code 3 = .ok (.invokespecial 1, 3) := by decide +kernel
theorem d20_6 : decode jdk_67_method_1_code 6 = .ok (.return_, 1) := by decide +kernel
theorem pn_5d98e9f : plainName "java/lang/StringBuilder" = true := by first | (simp [plainName, overriddenIn]; done) | decide +kernel
theorem pd_56f531a : parseMethodDescriptor "(I)V" = some ⟨[.int], none⟩ := by decide +kernel
theorem ef_20 (m : MethodId) (x0 : Addr) : entryFrame m #[(.ref x0)] 1 = mkF m 0 #[.val (.ref x0)] [] := by first | (simp [entryFrame, mkF, argsToLocals, Value.category]; done) | rfl
def Q_rmSBi (Z : State) (b : Addr) (h0 : Heap) (n0 : Nat) (v : Option Value) (h : Heap) (L : List Loc) : Prop := v = none ∧ Fr n0 L ∧ Keep h0 h [b] ∧ Exa Z h b "java/lang/StringBuilder" ∧ ∃ (va : Addr) (kv : ClassId), h0.size ≤ va ∧ Fld Z h b "java/lang/AbstractStringBuilder" "value" "[B" (.ref va) ∧ Fld Z h b "java/lang/AbstractStringBuilder" "coder" "B" (.int (0 : Int32)) ∧ Fld Z h b "java/lang/AbstractStringBuilder" "count" "I" (.int (0 : Int32)) ∧ Arv Z h va kv .byte (16 : Int32) (own_buf []) (.int (0 : Int32))
set_option maxRecDepth 65536 in
set_option maxHeartbeats 40000000 in
theorem rmSBi (l : Launch) (Z : State) (a0 : Array Value) (hw : ∀ d ∈ tables_1, d.before a0 Z = true) (b : Addr) (h0 : Heap) (n0 : Nat) (Z0 : n0 ≤ h0.size) (G1 : Int32) (O2 : Sta Z Z.heap "java/lang/String" "COMPACT_STRINGS" "Z" (.int G1)) (P5 : ¬ (G1 = (0 : Int32))) (X00 : Old Z n0 h0) (Es : Exa Z h0 b "java/lang/StringBuilder") (g_b : n0 ≤ b) (Fsv : Fld Z h0 b "java/lang/AbstractStringBuilder" "value" "[B" .null) (Fsc : Fld Z h0 b "java/lang/AbstractStringBuilder" "coder" "B" (.int (0 : Int32))) (Fsn : Fld Z h0 b "java/lang/AbstractStringBuilder" "count" "I" (.int (0 : Int32))) :
    MetFree l (⟨"java/lang/StringBuilder", "<init>", "()V"⟩ : MethodName) (head1 [Jvm.Cond.code (⟨"java/lang/StringBuilder", "<init>", "()V"⟩ : MethodName) jdk_67_method_1_code 1 none] ({ frames := 2, cells := 1, slots := 16, locals := 25 } : Room)) (fun a U => a = #[(.ref b)] ∧ Z.Warmed39 U.vm ∧ U.heap = h0) (fun _ _ _ _ _ => True) (fun _ U o U' => ∃ v L, o = .returned v ∧ (Q_rmSBi Z b h0 n0) v U'.heap L ∧ FrameEnd U o U' L ({ frames := 2, cells := 1, slots := 16, locals := 25 } : Room).cells ({ frames := 2, cells := 1, slots := 16, locals := 25 } : Room).slots) := by
  refine MetFree.of_bodySF (plainFor_of_name pn_5d98e9f) hisR ?_
  intro p e s m args below meth c s₁ Bd hml0 hP hK
  obtain ⟨rfl, hZ, hh⟩ := hP
  have hx := Bd.exec
  have hby := Bd.bytes
  have hml : c.maxLocals = 1 := hml0
  have hown : s.vm.findClass "java/lang/StringBuilder" = some m.cls := findClass_of_methodNamed Bd.named
  have hnm := (name_of_methodNamed Bd.named Bd.method).1
  have X0 : Stand p l e ({ frames := 2, cells := 1, slots := 16, locals := 25 } : Room) s m #[(.ref b)] below meth c s₁ [] 0 0 := Stand.of_body Bd
  have e0 : s₁.heap = h0 := by rw [← hh, Bd.state]; rfl
  have N0 := Fr.nil n0
  have K0 : Keep h0 h0 [b] := Keep.refl h0 [b]
  show Go p e below (s₁.setTop (entryFrame m #[(.ref b)] 1)) (EndN s (Q_rmSBi Z b h0 n0) ({ frames := 2, cells := 1, slots := 16, locals := 25 } : Room).cells ({ frames := 2, cells := 1, slots := 16, locals := 25 } : Room).slots)
  refine Go.top (ef_20 m b) ?_
  refine Go.st (T' := s₁.setTop (mkF m 1 #[.val (.ref b)] [(.ref b)])) (fun zt zk => XS.aloadN X0.here hx rfl (hb hby d20_0) rfl rfl zk) ?_
  refine Go.st (T' := s₁.setTop (mkF m 3 #[.val (.ref b)] [(.int (16 : Int32)), (.ref b)])) (fun zt zk => XS.bipush X0.here hx rfl (hb hby d20_1) zk) ?_
  obtain ⟨vr188, _, ⟨T188, L188, k188, n188⟩, -, X188, ⟨Lc188, hQ188, l188, y188, z188⟩, st188⟩ := X0.specialBack hx (y := (⟨"java/lang/AbstractStringBuilder", "<init>", "(I)V"⟩ : MethodName)) rfl hown (mvT hZ (hw _ (List.mem_of_getElem? (i := 154) rfl))) (mvT hZ (hw _ (List.mem_of_getElem? (i := 155) rfl))) (mvT hZ (hw _ (List.mem_of_getElem? (i := 159) rfl))) (by decide) (backOf (W := 0) (rmASi l Z a0 hw b h0 n0 Z0 G1 O2 P5 X00 Es g_b Fsv Fsc Fsn) hZ (hw _ (List.mem_of_getElem? (i := 159) rfl)) (hw _ (List.mem_of_getElem? (i := 158) rfl)) (by decide) (by decide)) (g := (mkF m 3 #[.val (.ref b)] [(.int (16 : Int32)), (.ref b)])) rfl (by rw [hml]; rfl) (Steps.refl _) (a := b) (argsL := [(.int (16 : Int32))]) (rest := []) (lenOf pd_56f531a rfl) rfl (by show 2 * 0 + _ ≤ _; exact Nat.le_of_eq rfl) (hb hby d20_3) (fun _ _ => ⟨rfl, e0, (by decide : 0 + 1 ≤ _), (by decide : 0 + 16 ≤ _)⟩)
  dsimp only [Pt.U, Pt.locs, Pt.cells, Pt.slots] at X188 l188 y188 z188 st188 hQ188
  subst l188 y188 z188
  obtain ⟨rfl, Nq188, Kq188, Rq188⟩ := hQ188
  have KK189 : Keep h0 T188.heap [b] := K0.trans Kq188 (allS (Or.inl (List.mem_of_getElem? (i := 0) rfl)) all0)
  have NN190 := Fr.app N0 Nq188
  refine Go.st (T' := T188.setTop (mkF m 6 #[.val (.ref b)] [])) (fun zt zk => st188.trans zk) ?_
  exact Go.done X188 Bd.notSynchronized (v := none) (fun _ => rfl) (fun fs hr => X188.returnOut hx Bd.returns (hb hby d20_6) hr) (by rw [(rfl : T188.heap = T188.heap)]; exact ⟨rfl, NN190, KK189, Rq188⟩) (by decide) (by decide)
theorem d26_0 : decode jdk_68_method_9_code 0 = .ok (.aload_n 0, 1) := by decide +kernel
theorem d26_1 : decode jdk_68_method_9_code 1 = .ok (.getfield 15, 3) := by decide +kernel
theorem d26_4 : decode jdk_68_method_9_code 4 = .ok (.arraylength, 1) := by decide +kernel
theorem d26_5 : decode jdk_68_method_9_code 5 = .ok (.aload_n 0, 1) := by decide +kernel
theorem d26_6 : decode jdk_68_method_9_code 6 = .ok (.getfield 22, 3) := by decide +kernel
theorem d26_9 : decode jdk_68_method_9_code 9 = .ok (.ishr, 1) := by decide +kernel
theorem d26_10 : decode jdk_68_method_9_code 10 = .ok (.istore_n 2, 1) := by decide +kernel
theorem d26_11 : decode jdk_68_method_9_code 11 = .ok (.iload_n 1, 1) := by decide +kernel
theorem d26_12 : decode jdk_68_method_9_code 12 = .ok (.iload_n 2, 1) := by decide +kernel
theorem d26_13 : decode jdk_68_method_9_code 13 = .ok (.isub, 1) := by decide +kernel
theorem d26_14 : decode jdk_68_method_9_code 14 = .ok (.ifCond .le 24, 3) := by decide +kernel
theorem d26_38 : decode jdk_68_method_9_code 38 = .ok (.return_, 1) := by decide +kernel
theorem ef_26 (m : MethodId) (x0 : Addr) (x1 : Int32) : entryFrame m #[(.ref x0), (.int x1)] 3 = mkF m 0 #[.val (.ref x0), .val (.int x1), .unset] [] := by first | (simp [entryFrame, mkF, argsToLocals, Value.category]; done) | rfl
def Q_rmEns (Z : State) (b vb : Addr) (kv : ClassId) (cs : List Int32) (nm : Nat) (h0 : Heap) (n0 : Nat) (v : Option Value) (h : Heap) (L : List Loc) : Prop := v = none ∧ Fr n0 L ∧ h = h0
set_option maxRecDepth 65536 in
set_option maxHeartbeats 40000000 in
theorem rmEns (l : Launch) (Z : State) (a0 : Array Value) (hw : ∀ d ∈ tables_1, d.before a0 Z = true) (b vb : Addr) (kv : ClassId) (cs : List Int32) (nm : Nat) (h0 : Heap) (n0 : Nat) (Z0 : n0 ≤ h0.size) (Es : Exa Z h0 b "java/lang/StringBuilder") (Fsv : Fld Z h0 b "java/lang/AbstractStringBuilder" "value" "[B" (.ref vb)) (Fsc : Fld Z h0 b "java/lang/AbstractStringBuilder" "coder" "B" (.int (0 : Int32))) (Fsn : Fld Z h0 b "java/lang/AbstractStringBuilder" "count" "I" (.int (Int32.ofNat (cs).length))) (Vs : Arv Z h0 vb kv .byte (16 : Int32) (own_buf cs) (.int (0 : Int32))) (hm : nm ≤ 16) :
    MetFree l (⟨"java/lang/AbstractStringBuilder", "ensureCapacityInternal", "(I)V"⟩ : MethodName) (head1 [Jvm.Cond.code (⟨"java/lang/AbstractStringBuilder", "ensureCapacityInternal", "(I)V"⟩ : MethodName) jdk_68_method_9_code 3 none] ({ frames := 0, cells := 0, slots := 0, locals := 0 } : Room)) (fun a U => a = #[(.ref b), (.int (Int32.ofNat nm))] ∧ Z.Warmed39 U.vm ∧ U.heap = h0) (fun _ _ _ _ _ => True) (fun _ U o U' => ∃ v L, o = .returned v ∧ (Q_rmEns Z b vb kv cs nm h0 n0) v U'.heap L ∧ FrameEnd U o U' L ({ frames := 0, cells := 0, slots := 0, locals := 0 } : Room).cells ({ frames := 0, cells := 0, slots := 0, locals := 0 } : Room).slots) := by
  refine MetFree.of_bodySF (plainFor_of_name pn_f7a11f1) hisR ?_
  intro p e s m args below meth c s₁ Bd hml0 hP hK
  obtain ⟨rfl, hZ, hh⟩ := hP
  have hx := Bd.exec
  have hby := Bd.bytes
  have hml : c.maxLocals = 3 := hml0
  have hown : s.vm.findClass "java/lang/AbstractStringBuilder" = some m.cls := findClass_of_methodNamed Bd.named
  have hnm := (name_of_methodNamed Bd.named Bd.method).1
  have X0 : Stand p l e ({ frames := 0, cells := 0, slots := 0, locals := 0 } : Room) s m #[(.ref b), (.int (Int32.ofNat nm))] below meth c s₁ [] 0 0 := Stand.of_body Bd
  have e0 : s₁.heap = h0 := by rw [← hh, Bd.state]; rfl
  have N0 := Fr.nil n0
  have K0 : Keep h0 h0 [] := Keep.refl h0 []
  show Go p e below (s₁.setTop (entryFrame m #[(.ref b), (.int (Int32.ofNat nm))] 3)) (EndN s (Q_rmEns Z b vb kv cs nm h0 n0) ({ frames := 0, cells := 0, slots := 0, locals := 0 } : Room).cells ({ frames := 0, cells := 0, slots := 0, locals := 0 } : Room).slots)
  refine Go.top (ef_26 m b (Int32.ofNat nm)) ?_
  refine Go.st (T' := s₁.setTop (mkF m 1 #[.val (.ref b), .val (.int (Int32.ofNat nm)), .unset] [(.ref b)])) (fun zt zk => XS.aloadN X0.here hx rfl (hb hby d26_0) rfl rfl zk) ?_
  obtain ⟨T191, X191, e191, st191⟩ := getF X0 hx hZ hown (host := "") (Or.inl (hw _ (List.mem_of_getElem? (i := 162) rfl))) Via.refl e0 Fsv (g := (mkF m 1 #[.val (.ref b), .val (.int (Int32.ofNat nm)), .unset] [(.ref b)])) rfl rfl (hb hby d26_1)
  refine Go.st (T' := T191.setTop (mkF m 4 #[.val (.ref b), .val (.int (Int32.ofNat nm)), .unset] [(.ref vb)])) (fun zt zk => st191 zt zk) ?_
  obtain ⟨cl192, Ar192, -, S192, M192, -, -⟩ := id Vs
  refine Go.st (T' := T191.setTop (mkF m 5 #[.val (.ref b), .val (.int (Int32.ofNat nm)), .unset] [(.int (16 : Int32))])) (fun zt zk => X191.arraylength hx (by rw [e191]; exact Ar192.1) (State.isArrayOf_alike hZ.alike Ar192.2.1) (g := (mkF m 4 #[.val (.ref b), .val (.int (Int32.ofNat nm)), .unset] [(.ref vb)])) rfl rfl (hb hby d26_4) zt (by rw [len_of S192 M192]; exact zk)) ?_
  refine Go.st (T' := T191.setTop (mkF m 6 #[.val (.ref b), .val (.int (Int32.ofNat nm)), .unset] [(.ref b), (.int (16 : Int32))])) (fun zt zk => XS.aloadN X191.here hx rfl (hb hby d26_5) rfl rfl zk) ?_
  obtain ⟨T193, X193, e193, st193⟩ := getF X191 hx hZ hown (host := "") (Or.inl (hw _ (List.mem_of_getElem? (i := 164) rfl))) Via.refl e191 Fsc (g := (mkF m 6 #[.val (.ref b), .val (.int (Int32.ofNat nm)), .unset] [(.ref b), (.int (16 : Int32))])) rfl rfl (hb hby d26_6)
  refine Go.st (T' := T193.setTop (mkF m 9 #[.val (.ref b), .val (.int (Int32.ofNat nm)), .unset] [(.int (0 : Int32)), (.int (16 : Int32))])) (fun zt zk => st193 zt zk) ?_
  refine Go.st (T' := T193.setTop (mkF m 10 #[.val (.ref b), .val (.int (Int32.ofNat nm)), .unset] [(.int ((16 : Int32) >>> ((0 : Int32) &&& 31)))])) (fun zt zk => XS.ishr X193.here hx rfl (hb hby d26_9) rfl zk) ?_
  refine Go.st (T' := T193.setTop (mkF m 11 #[.val (.ref b), .val (.int (Int32.ofNat nm)), .val (.int ((16 : Int32) >>> ((0 : Int32) &&& 31)))] [])) (fun zt zk => XS.istoreN X193.here hx rfl (hb hby d26_10) rfl (l' := #[.val (.ref b), .val (.int (Int32.ofNat nm)), .val (.int ((16 : Int32) >>> ((0 : Int32) &&& 31)))]) rfl zk) ?_
  refine Go.st (T' := T193.setTop (mkF m 12 #[.val (.ref b), .val (.int (Int32.ofNat nm)), .val (.int ((16 : Int32) >>> ((0 : Int32) &&& 31)))] [(.int (Int32.ofNat nm))])) (fun zt zk => XS.iloadN X193.here hx rfl (hb hby d26_11) rfl zk) ?_
  refine Go.st (T' := T193.setTop (mkF m 13 #[.val (.ref b), .val (.int (Int32.ofNat nm)), .val (.int ((16 : Int32) >>> ((0 : Int32) &&& 31)))] [(.int ((16 : Int32) >>> ((0 : Int32) &&& 31))), (.int (Int32.ofNat nm))])) (fun zt zk => XS.iloadN X193.here hx rfl (hb hby d26_12) rfl zk) ?_
  refine Go.st (T' := T193.setTop (mkF m 14 #[.val (.ref b), .val (.int (Int32.ofNat nm)), .val (.int ((16 : Int32) >>> ((0 : Int32) &&& 31)))] [(.int ((Int32.ofNat nm) - ((16 : Int32) >>> ((0 : Int32) &&& 31))))])) (fun zt zk => XS.isub X193.here hx rfl (hb hby d26_13) rfl zk) ?_
  refine Go.st (T' := T193.setTop (mkF m 38 #[.val (.ref b), .val (.int (Int32.ofNat nm)), .val (.int ((16 : Int32) >>> ((0 : Int32) &&& 31)))] [])) (fun zt zk => XS.ifYes X193.here hx rfl (pc0 := 14) (pc' := 38) rfl (hb hby d26_14) rfl ((if0 _ _).trans (flt (own_cap hm)).2.2.2) (by decide) (by decide) zk) ?_
  exact Go.done X193 Bd.notSynchronized (v := none) (fun _ => rfl) (fun fs hr => X193.returnOut hx Bd.returns (hb hby d26_38) hr) (by rw [e193]; exact ⟨rfl, N0, rfl⟩) (by decide) (by decide)
theorem d28_0 : decode jdk_68_method_71_code 0 = .ok (.getstatic 18, 3) := by decide +kernel
theorem d28_3 : decode jdk_68_method_71_code 3 = .ok (.ifCond .eq 18, 3) := by decide +kernel
theorem d28_6 : decode jdk_68_method_71_code 6 = .ok (.aload_n 0, 1) := by decide +kernel
theorem d28_7 : decode jdk_68_method_71_code 7 = .ok (.getfield 22, 3) := by decide +kernel
theorem d28_10 : decode jdk_68_method_71_code 10 = .ok (.aload_n 1, 1) := by decide +kernel
theorem d28_11 : decode jdk_68_method_71_code 11 = .ok (.invokevirtual 40, 3) := by decide +kernel
theorem d28_14 : decode jdk_68_method_71_code 14 = .ok (.if_icmp .eq 7, 3) := by decide +kernel
theorem d28_21 : decode jdk_68_method_71_code 21 = .ok (.return_, 1) := by decide +kernel
theorem pd_a8ea5 : parseMethodDescriptor "()B" = some ⟨[], some .byte⟩ := by decide +kernel
theorem ef_28 (m : MethodId) (x0 : Addr) (x1 : Addr) : entryFrame m #[(.ref x0), (.ref x1)] 2 = mkF m 0 #[.val (.ref x0), .val (.ref x1)] [] := by first | (simp [entryFrame, mkF, argsToLocals, Value.category]; done) | rfl
def Q_rmInf (Z : State) (b x : Addr) (h0 : Heap) (n0 : Nat) (v : Option Value) (h : Heap) (L : List Loc) : Prop := v = none ∧ Fr n0 L ∧ h = h0
set_option maxRecDepth 65536 in
set_option maxHeartbeats 40000000 in
theorem rmInf (l : Launch) (Z : State) (a0 : Array Value) (hw : ∀ d ∈ tables_1, d.before a0 Z = true) (b x : Addr) (h0 : Heap) (n0 : Nat) (Z0 : n0 ≤ h0.size) (G1 : Int32) (O2 : Sta Z Z.heap "java/lang/String" "COMPACT_STRINGS" "Z" (.int G1)) (P5 : ¬ (G1 = (0 : Int32))) (X00 : Old Z n0 h0) (Fsc : Fld Z h0 b "java/lang/AbstractStringBuilder" "coder" "B" (.int (0 : Int32))) (Ex : Exa Z h0 x "java/lang/String") (Cx : Fld Z h0 x "java/lang/String" "coder" "B" (.int (0 : Int32))) :
    MetFree l (⟨"java/lang/AbstractStringBuilder", "inflateIfNeededFor", "(Ljava/lang/String;)V"⟩ : MethodName) (head1 [Jvm.Cond.code (⟨"java/lang/AbstractStringBuilder", "inflateIfNeededFor", "(Ljava/lang/String;)V"⟩ : MethodName) jdk_68_method_71_code 2 none] ({ frames := 1, cells := 0, slots := 0, locals := 13 } : Room)) (fun a U => a = #[(.ref b), (.ref x)] ∧ Z.Warmed39 U.vm ∧ U.heap = h0) (fun _ _ _ _ _ => True) (fun _ U o U' => ∃ v L, o = .returned v ∧ (Q_rmInf Z b x h0 n0) v U'.heap L ∧ FrameEnd U o U' L ({ frames := 1, cells := 0, slots := 0, locals := 13 } : Room).cells ({ frames := 1, cells := 0, slots := 0, locals := 13 } : Room).slots) := by
  refine MetFree.of_bodySF (plainFor_of_name pn_f7a11f1) hisR ?_
  intro p e s m args below meth c s₁ Bd hml0 hP hK
  obtain ⟨rfl, hZ, hh⟩ := hP
  have hx := Bd.exec
  have hby := Bd.bytes
  have hml : c.maxLocals = 2 := hml0
  have hown : s.vm.findClass "java/lang/AbstractStringBuilder" = some m.cls := findClass_of_methodNamed Bd.named
  have hnm := (name_of_methodNamed Bd.named Bd.method).1
  have X0 : Stand p l e ({ frames := 1, cells := 0, slots := 0, locals := 13 } : Room) s m #[(.ref b), (.ref x)] below meth c s₁ [] 0 0 := Stand.of_body Bd
  have e0 : s₁.heap = h0 := by rw [← hh, Bd.state]; rfl
  have N0 := Fr.nil n0
  have K0 : Keep h0 h0 [] := Keep.refl h0 []
  show Go p e below (s₁.setTop (entryFrame m #[(.ref b), (.ref x)] 2)) (EndN s (Q_rmInf Z b x h0 n0) ({ frames := 1, cells := 0, slots := 0, locals := 13 } : Room).cells ({ frames := 1, cells := 0, slots := 0, locals := 13 } : Room).slots)
  refine Go.top (ef_28 m b x) ?_
  obtain ⟨T194, X194, e194, st194⟩ := getS (host := "") X0 hx hZ hown (hw _ (List.mem_of_getElem? (i := 161) rfl)) Via.refl e0 (O2.ext (X00.keep K0 all0).2) (g := (mkF m 0 #[.val (.ref b), .val (.ref x)] [])) rfl (hb hby d28_0)
  refine Go.st (T' := T194.setTop (mkF m 3 #[.val (.ref b), .val (.ref x)] [(.int G1)])) (fun zt zk => st194 zt zk) ?_
  refine Go.st (T' := T194.setTop (mkF m 6 #[.val (.ref b), .val (.ref x)] [])) (fun zt zk => XS.ifNo X194.here hx rfl (hb hby d28_3) rfl ((if0 _ _).trans (feq P5).1) zk) ?_
  refine Go.st (T' := T194.setTop (mkF m 7 #[.val (.ref b), .val (.ref x)] [(.ref b)])) (fun zt zk => XS.aloadN X194.here hx rfl (hb hby d28_6) rfl rfl zk) ?_
  obtain ⟨T195, X195, e195, st195⟩ := getF X194 hx hZ hown (host := "") (Or.inl (hw _ (List.mem_of_getElem? (i := 164) rfl))) Via.refl e194 Fsc (g := (mkF m 7 #[.val (.ref b), .val (.ref x)] [(.ref b)])) rfl rfl (hb hby d28_7)
  refine Go.st (T' := T195.setTop (mkF m 10 #[.val (.ref b), .val (.ref x)] [(.int (0 : Int32))])) (fun zt zk => st195 zt zk) ?_
  refine Go.st (T' := T195.setTop (mkF m 11 #[.val (.ref b), .val (.ref x)] [(.ref x), (.int (0 : Int32))])) (fun zt zk => XS.aloadN X195.here hx rfl (hb hby d28_10) rfl rfl zk) ?_
  obtain ⟨cq196, kq196, q196a, q196b, q196c⟩ := isOf hZ e195 Ex
  obtain ⟨vr196, _, ⟨T196, L196, k196, n196⟩, -, X196, ⟨Lc196, hQ196, l196, y196, z196⟩, st196⟩ := X195.virtualBack hx (y := (⟨"java/lang/String", "coder", "()B"⟩ : MethodName)) (z := (⟨"java/lang/String", "coder", "()B"⟩ : MethodName)) hown (mvT hZ (hw _ (List.mem_of_getElem? (i := 203) rfl))) (mvT hZ (hw _ (List.mem_of_getElem? (i := 182) rfl))) (notFace_of_selects (args := #[]) (mvT hZ (hw _ (List.mem_of_getElem? (i := 184) rfl)))) (mvT hZ (hw _ (List.mem_of_getElem? (i := 184) rfl))) (mvT hZ (hw _ (List.mem_of_getElem? (i := 183) rfl))) (by decide) (backOf (W := 1) (rmCod l Z a0 hw x h0 n0 Z0 G1 O2 P5 X00 Cx) hZ (hw _ (List.mem_of_getElem? (i := 185) rfl)) (hw _ (List.mem_of_getElem? (i := 6) rfl)) (by decide) (by decide)) q196a q196c (g := (mkF m 11 #[.val (.ref b), .val (.ref x)] [(.ref x), (.int (0 : Int32))])) rfl (by rw [hml]; rfl) (Steps.refl _) (argsL := []) (rest := [(.int (0 : Int32))]) (lenOf pd_a8ea5 rfl) rfl (by show 2 * 0 + _ ≤ _; exact Nat.le_of_eq rfl) (hb hby d28_11) (fun _ _ => ⟨rfl, e195, (by decide : 0 + 0 ≤ _), (by decide : 0 + 0 ≤ _)⟩)
  dsimp only [Pt.U, Pt.locs, Pt.cells, Pt.slots] at X196 l196 y196 z196 st196 hQ196
  subst l196 y196 z196
  obtain ⟨rfl, Nq196, eq196⟩ := hQ196
  have NN197 := Fr.app N0 Nq196
  refine Go.st (T' := T196.setTop (mkF m 14 #[.val (.ref b), .val (.ref x)] [(.int (0 : Int32)), (.int (0 : Int32))])) (fun zt zk => st196.trans zk) ?_
  refine Go.st (T' := T196.setTop (mkF m 21 #[.val (.ref b), .val (.ref x)] [])) (fun zt zk => XS.icmpYes X196.here hx rfl (pc0 := 14) (pc' := 21) rfl (hb hby d28_14) rfl (teq (by decide)).1 (by decide) (by decide) zk) ?_
  exact Go.done X196 Bd.notSynchronized (v := none) (fun _ => rfl) (fun fs hr => X196.returnOut hx Bd.returns (hb hby d28_21) hr) (by rw [eq196]; exact ⟨rfl, NN197, rfl⟩) (by decide) (by decide)
theorem d29_0 : decode jdk_42_method_147_code 0 = .ok (.aload_n 0, 1) := by decide +kernel
theorem d29_1 : decode jdk_42_method_147_code 1 = .ok (.invokevirtual 335, 3) := by decide +kernel
theorem d29_4 : decode jdk_42_method_147_code 4 = .ok (.iload_n 3, 1) := by decide +kernel
theorem d29_5 : decode jdk_42_method_147_code 5 = .ok (.if_icmp .ne 23, 3) := by decide +kernel
theorem d29_8 : decode jdk_42_method_147_code 8 = .ok (.aload_n 0, 1) := by decide +kernel
theorem d29_9 : decode jdk_42_method_147_code 9 = .ok (.getfield 9, 3) := by decide +kernel
theorem d29_12 : decode jdk_42_method_147_code 12 = .ok (.iconst 0, 1) := by decide +kernel
theorem d29_13 : decode jdk_42_method_147_code 13 = .ok (.aload_n 1, 1) := by decide +kernel
theorem d29_14 : decode jdk_42_method_147_code 14 = .ok (.iload_n 2, 1) := by decide +kernel
theorem d29_15 : decode jdk_42_method_147_code 15 = .ok (.iload_n 3, 1) := by decide +kernel
theorem d29_16 : decode jdk_42_method_147_code 16 = .ok (.ishl, 1) := by decide +kernel
theorem d29_17 : decode jdk_42_method_147_code 17 = .ok (.aload_n 0, 1) := by decide +kernel
theorem d29_18 : decode jdk_42_method_147_code 18 = .ok (.getfield 9, 3) := by decide +kernel
theorem d29_21 : decode jdk_42_method_147_code 21 = .ok (.arraylength, 1) := by decide +kernel
theorem d29_22 : decode jdk_42_method_147_code 22 = .ok (.invokestatic 212, 3) := by decide +kernel
theorem d29_25 : decode jdk_42_method_147_code 25 = .ok (.goto 18, 3) := by decide +kernel
theorem d29_43 : decode jdk_42_method_147_code 43 = .ok (.return_, 1) := by decide +kernel
theorem ef_29 (m : MethodId) (x0 : Addr) (x1 : Addr) (x2 : Int32) (x3 : Int32) : entryFrame m #[(.ref x0), (.ref x1), (.int x2), (.int x3)] 4 = mkF m 0 #[.val (.ref x0), .val (.ref x1), .val (.int x2), .val (.int x3)] [] := by first | (simp [entryFrame, mkF, argsToLocals, Value.category]; done) | rfl
def Q_rmGB (Z : State) (x t vb : Addr) (kt kv : ClassId) (cs ds : List Int32) (h0 : Heap) (n0 : Nat) (v : Option Value) (h : Heap) (L : List Loc) : Prop := v = none ∧ Fr n0 L ∧ Keep h0 h [vb] ∧ Arv Z h vb kv .byte (16 : Int32) (own_buf (cs ++ ds)) (.int (0 : Int32))
set_option maxRecDepth 65536 in
set_option maxHeartbeats 40000000 in
theorem rmGB (l : Launch) (Z : State) (a0 : Array Value) (hw : ∀ d ∈ tables_1, d.before a0 Z = true) (x t vb : Addr) (kt kv : ClassId) (cs ds : List Int32) (h0 : Heap) (n0 : Nat) (Z0 : n0 ≤ h0.size) (G1 : Int32) (O2 : Sta Z Z.heap "java/lang/String" "COMPACT_STRINGS" "Z" (.int G1)) (P5 : ¬ (G1 = (0 : Int32))) (X00 : Old Z n0 h0) (Ex : Exa Z h0 x "java/lang/String") (Vx : Fld Z h0 x "java/lang/String" "value" "[B" (.ref t)) (Cx : Fld Z h0 x "java/lang/String" "coder" "B" (.int (0 : Int32))) (Bx : Arv Z h0 t kt .byte (Int32.ofNat (ds).length) (((ds).map (fun c => c.toInt8.toInt32)).map Value.int) (.int (0 : Int32))) (hpx : ∀ c ∈ ds, ¬ c < 0 ∧ ¬ (255 : Int32) < c) (Vs : Arv Z h0 vb kv .byte (16 : Int32) (own_buf cs) (.int (0 : Int32))) (g_vb : n0 ≤ vb) (hlen : cs.length + ds.length ≤ 16) :
    MetFree l (⟨"java/lang/String", "getBytes", "([BIB)V"⟩ : MethodName) (head1 [Jvm.Cond.code (⟨"java/lang/String", "getBytes", "([BIB)V"⟩ : MethodName) jdk_42_method_147_code 4 none] ({ frames := 1, cells := 0, slots := 0, locals := 18 } : Room)) (fun a U => a = #[(.ref x), (.ref vb), (.int (Int32.ofNat (cs).length)), (.int (0 : Int32))] ∧ Z.Warmed39 U.vm ∧ U.heap = h0) (fun _ _ _ _ _ => True) (fun _ U o U' => ∃ v L, o = .returned v ∧ (Q_rmGB Z x t vb kt kv cs ds h0 n0) v U'.heap L ∧ FrameEnd U o U' L ({ frames := 1, cells := 0, slots := 0, locals := 18 } : Room).cells ({ frames := 1, cells := 0, slots := 0, locals := 18 } : Room).slots) := by
  refine MetFree.of_bodySF (plainFor_of_name pn_397d88e) hisR ?_
  intro p e s m args below meth c s₁ Bd hml0 hP hK
  obtain ⟨rfl, hZ, hh⟩ := hP
  have hx := Bd.exec
  have hby := Bd.bytes
  have hml : c.maxLocals = 4 := hml0
  have hown : s.vm.findClass "java/lang/String" = some m.cls := findClass_of_methodNamed Bd.named
  have hnm := (name_of_methodNamed Bd.named Bd.method).1
  have X0 : Stand p l e ({ frames := 1, cells := 0, slots := 0, locals := 18 } : Room) s m #[(.ref x), (.ref vb), (.int (Int32.ofNat (cs).length)), (.int (0 : Int32))] below meth c s₁ [] 0 0 := Stand.of_body Bd
  have e0 : s₁.heap = h0 := by rw [← hh, Bd.state]; rfl
  have N0 := Fr.nil n0
  have K0 : Keep h0 h0 [vb] := Keep.refl h0 [vb]
  show Go p e below (s₁.setTop (entryFrame m #[(.ref x), (.ref vb), (.int (Int32.ofNat (cs).length)), (.int (0 : Int32))] 4)) (EndN s (Q_rmGB Z x t vb kt kv cs ds h0 n0) ({ frames := 1, cells := 0, slots := 0, locals := 18 } : Room).cells ({ frames := 1, cells := 0, slots := 0, locals := 18 } : Room).slots)
  refine Go.top (ef_29 m x vb (Int32.ofNat (cs).length) (0 : Int32)) ?_
  have own_KX : ∀ x ∈ [vb], n0 ≤ x := allS g_vb all0
  refine Go.st (T' := s₁.setTop (mkF m 1 #[.val (.ref x), .val (.ref vb), .val (.int (Int32.ofNat (cs).length)), .val (.int (0 : Int32))] [(.ref x)])) (fun zt zk => XS.aloadN X0.here hx rfl (hb hby d29_0) rfl rfl zk) ?_
  obtain ⟨cq198, kq198, q198a, q198b, q198c⟩ := isOf hZ e0 Ex
  obtain ⟨vr198, _, ⟨T198, L198, k198, n198⟩, -, X198, ⟨Lc198, hQ198, l198, y198, z198⟩, st198⟩ := X0.virtualBack hx (y := (⟨"java/lang/String", "coder", "()B"⟩ : MethodName)) (z := (⟨"java/lang/String", "coder", "()B"⟩ : MethodName)) hown (mvT hZ (hw _ (List.mem_of_getElem? (i := 181) rfl))) (mvT hZ (hw _ (List.mem_of_getElem? (i := 182) rfl))) (notFace_of_selects (args := #[]) (mvT hZ (hw _ (List.mem_of_getElem? (i := 184) rfl)))) (mvT hZ (hw _ (List.mem_of_getElem? (i := 184) rfl))) (mvT hZ (hw _ (List.mem_of_getElem? (i := 183) rfl))) (by decide) (backOf (W := 0) (rmCod l Z a0 hw x h0 n0 Z0 G1 O2 P5 X00 Cx) hZ (hw _ (List.mem_of_getElem? (i := 185) rfl)) (hw _ (List.mem_of_getElem? (i := 6) rfl)) (by decide) (by decide)) q198a q198c (g := (mkF m 1 #[.val (.ref x), .val (.ref vb), .val (.int (Int32.ofNat (cs).length)), .val (.int (0 : Int32))] [(.ref x)])) rfl (by rw [hml]; rfl) (Steps.refl _) (argsL := []) (rest := []) (lenOf pd_a8ea5 rfl) rfl (by show 2 * 0 + _ ≤ _; exact Nat.le_of_eq rfl) (hb hby d29_1) (fun _ _ => ⟨rfl, e0, (by decide : 0 + 0 ≤ _), (by decide : 0 + 0 ≤ _)⟩)
  dsimp only [Pt.U, Pt.locs, Pt.cells, Pt.slots] at X198 l198 y198 z198 st198 hQ198
  subst l198 y198 z198
  obtain ⟨rfl, Nq198, eq198⟩ := hQ198
  have NN199 := Fr.app N0 Nq198
  refine Go.st (T' := T198.setTop (mkF m 4 #[.val (.ref x), .val (.ref vb), .val (.int (Int32.ofNat (cs).length)), .val (.int (0 : Int32))] [(.int (0 : Int32))])) (fun zt zk => st198.trans zk) ?_
  refine Go.st (T' := T198.setTop (mkF m 5 #[.val (.ref x), .val (.ref vb), .val (.int (Int32.ofNat (cs).length)), .val (.int (0 : Int32))] [(.int (0 : Int32)), (.int (0 : Int32))])) (fun zt zk => XS.iloadN X198.here hx rfl (hb hby d29_4) rfl zk) ?_
  refine Go.st (T' := T198.setTop (mkF m 8 #[.val (.ref x), .val (.ref vb), .val (.int (Int32.ofNat (cs).length)), .val (.int (0 : Int32))] [])) (fun zt zk => XS.icmpNo X198.here hx rfl (hb hby d29_5) rfl (teq (by decide)).2 zk) ?_
  refine Go.st (T' := T198.setTop (mkF m 9 #[.val (.ref x), .val (.ref vb), .val (.int (Int32.ofNat (cs).length)), .val (.int (0 : Int32))] [(.ref x)])) (fun zt zk => XS.aloadN X198.here hx rfl (hb hby d29_8) rfl rfl zk) ?_
  obtain ⟨T200, X200, e200, st200⟩ := getF X198 hx hZ hown (host := "") (Or.inl (hw _ (List.mem_of_getElem? (i := 32) rfl))) Via.refl eq198 Vx (g := (mkF m 9 #[.val (.ref x), .val (.ref vb), .val (.int (Int32.ofNat (cs).length)), .val (.int (0 : Int32))] [(.ref x)])) rfl rfl (hb hby d29_9)
  refine Go.st (T' := T200.setTop (mkF m 12 #[.val (.ref x), .val (.ref vb), .val (.int (Int32.ofNat (cs).length)), .val (.int (0 : Int32))] [(.ref t)])) (fun zt zk => st200 zt zk) ?_
  refine Go.st (T' := T200.setTop (mkF m 13 #[.val (.ref x), .val (.ref vb), .val (.int (Int32.ofNat (cs).length)), .val (.int (0 : Int32))] [(.int (0 : Int32)), (.ref t)])) (fun zt zk => XS.iconst X200.here hx rfl (hb hby d29_12) zk) ?_
  refine Go.st (T' := T200.setTop (mkF m 14 #[.val (.ref x), .val (.ref vb), .val (.int (Int32.ofNat (cs).length)), .val (.int (0 : Int32))] [(.ref vb), (.int (0 : Int32)), (.ref t)])) (fun zt zk => XS.aloadN X200.here hx rfl (hb hby d29_13) rfl rfl zk) ?_
  refine Go.st (T' := T200.setTop (mkF m 15 #[.val (.ref x), .val (.ref vb), .val (.int (Int32.ofNat (cs).length)), .val (.int (0 : Int32))] [(.int (Int32.ofNat (cs).length)), (.ref vb), (.int (0 : Int32)), (.ref t)])) (fun zt zk => XS.iloadN X200.here hx rfl (hb hby d29_14) rfl zk) ?_
  refine Go.st (T' := T200.setTop (mkF m 16 #[.val (.ref x), .val (.ref vb), .val (.int (Int32.ofNat (cs).length)), .val (.int (0 : Int32))] [(.int (0 : Int32)), (.int (Int32.ofNat (cs).length)), (.ref vb), (.int (0 : Int32)), (.ref t)])) (fun zt zk => XS.iloadN X200.here hx rfl (hb hby d29_15) rfl zk) ?_
  refine Go.st (T' := T200.setTop (mkF m 17 #[.val (.ref x), .val (.ref vb), .val (.int (Int32.ofNat (cs).length)), .val (.int (0 : Int32))] [(.int ((Int32.ofNat (cs).length) <<< ((0 : Int32) &&& 31))), (.ref vb), (.int (0 : Int32)), (.ref t)])) (fun zt zk => XS.ishl X200.here hx rfl (hb hby d29_16) rfl zk) ?_
  rw [own_shl (by omega)]
  refine Go.st (T' := T200.setTop (mkF m 18 #[.val (.ref x), .val (.ref vb), .val (.int (Int32.ofNat (cs).length)), .val (.int (0 : Int32))] [(.ref x), (.int (Int32.ofNat (cs).length)), (.ref vb), (.int (0 : Int32)), (.ref t)])) (fun zt zk => XS.aloadN X200.here hx rfl (hb hby d29_17) rfl rfl zk) ?_
  obtain ⟨T201, X201, e201, st201⟩ := getF X200 hx hZ hown (host := "") (Or.inl (hw _ (List.mem_of_getElem? (i := 32) rfl))) Via.refl e200 Vx (g := (mkF m 18 #[.val (.ref x), .val (.ref vb), .val (.int (Int32.ofNat (cs).length)), .val (.int (0 : Int32))] [(.ref x), (.int (Int32.ofNat (cs).length)), (.ref vb), (.int (0 : Int32)), (.ref t)])) rfl rfl (hb hby d29_18)
  refine Go.st (T' := T201.setTop (mkF m 21 #[.val (.ref x), .val (.ref vb), .val (.int (Int32.ofNat (cs).length)), .val (.int (0 : Int32))] [(.ref t), (.int (Int32.ofNat (cs).length)), (.ref vb), (.int (0 : Int32)), (.ref t)])) (fun zt zk => st201 zt zk) ?_
  obtain ⟨cl202, Ar202, -, S202, M202, -, -⟩ := id Bx
  refine Go.st (T' := T201.setTop (mkF m 22 #[.val (.ref x), .val (.ref vb), .val (.int (Int32.ofNat (cs).length)), .val (.int (0 : Int32))] [(.int (Int32.ofNat (ds).length)), (.int (Int32.ofNat (cs).length)), (.ref vb), (.int (0 : Int32)), (.ref t)])) (fun zt zk => X201.arraylength hx (by rw [e201]; exact Ar202.1) (State.isArrayOf_alike hZ.alike Ar202.2.1) (g := (mkF m 21 #[.val (.ref x), .val (.ref vb), .val (.int (Int32.ofNat (cs).length)), .val (.int (0 : Int32))] [(.ref t), (.int (Int32.ofNat (cs).length)), (.ref vb), (.int (0 : Int32)), (.ref t)])) rfl rfl (hb hby d29_21) zt (by rw [len_of S202 M202]; exact zk)) ?_
  obtain ⟨T203, h203, L203, X203, e203, N203, Kc203, V203, st203⟩ := cpA X201 hx hZ hown (hw _ (List.mem_of_getElem? (i := 209) rfl)) (hw _ (List.mem_of_getElem? (i := 212) rfl)) (hw _ (List.mem_of_getElem? (i := 210) rfl)) (hw _ (List.mem_of_getElem? (i := 211) rfl)) e201 Bx Vs (us := ((ds.map (fun c => c.toInt8.toInt32)).map Value.int)) (Or.inl ⟨rfl, rfl⟩) (by decide) (own_nn (by omega)) (own_nn (by omega)) (by rw [own_clamp (by omega)]; show 0 + _ ≤ _; omega) (by rw [own_clamp (by omega), own_clamp (by omega)]; exact hlen) (by rw [own_clamp (by omega)]; exact own_range ds _) (by rw [own_clamp (by omega), own_clamp (by omega), own_bufl _ (by omega)]; exact hlen) NN199 g_vb (g := (mkF m 22 #[.val (.ref x), .val (.ref vb), .val (.int (Int32.ofNat (cs).length)), .val (.int (0 : Int32))] [(.int (Int32.ofNat (ds).length)), (.int (Int32.ofNat (cs).length)), (.ref vb), (.int (0 : Int32)), (.ref t)])) rfl (by rw [hml]; rfl) rfl (hb hby d29_22) (by decide) (W := 0) (by show 2 * 0 + _ ≤ _; exact Nat.le_of_eq rfl) (by decide)
  have KK204 : Keep h0 h203 [vb] := K0.trans Kc203 (allS (Or.inl (List.mem_of_getElem? (i := 0) rfl)) all0)
  refine Go.st (T' := T203.setTop (mkF m 25 #[.val (.ref x), .val (.ref vb), .val (.int (Int32.ofNat (cs).length)), .val (.int (0 : Int32))] [])) (fun zt zk => st203 zt zk) ?_
  rw [own_clamp (by omega), own_clamp (by omega), own_bufa _ _ hlen] at V203
  refine Go.st (T' := T203.setTop (mkF m 43 #[.val (.ref x), .val (.ref vb), .val (.int (Int32.ofNat (cs).length)), .val (.int (0 : Int32))] [])) (fun zt zk => XS.goto X203.here hx rfl (pc0 := 25) (pc' := 43) rfl (hb hby d29_25) (by decide) (by decide) zk) ?_
  exact Go.done X203 Bd.notSynchronized (v := none) (fun _ => rfl) (fun fs hr => X203.returnOut hx Bd.returns (hb hby d29_43) hr) (by rw [e203]; exact ⟨rfl, N203, KK204, V203⟩) (by decide) (by decide)
theorem d27_0 : decode jdk_68_method_73_code 0 = .ok (.aload_n 0, 1) := by decide +kernel
theorem d27_1 : decode jdk_68_method_73_code 1 = .ok (.aload_n 2, 1) := by decide +kernel
theorem d27_2 : decode jdk_68_method_73_code 2 = .ok (.invokevirtual 397, 3) := by decide +kernel
theorem d27_5 : decode jdk_68_method_73_code 5 = .ok (.aload_n 2, 1) := by decide +kernel
theorem d27_6 : decode jdk_68_method_73_code 6 = .ok (.aload_n 0, 1) := by decide +kernel
theorem d27_7 : decode jdk_68_method_73_code 7 = .ok (.getfield 15, 3) := by decide +kernel
theorem d27_10 : decode jdk_68_method_73_code 10 = .ok (.iload_n 1, 1) := by decide +kernel
theorem d27_11 : decode jdk_68_method_73_code 11 = .ok (.aload_n 0, 1) := by decide +kernel
theorem d27_12 : decode jdk_68_method_73_code 12 = .ok (.getfield 22, 3) := by decide +kernel
theorem d27_15 : decode jdk_68_method_73_code 15 = .ok (.invokevirtual 399, 3) := by decide +kernel
theorem d27_18 : decode jdk_68_method_73_code 18 = .ok (.return_, 1) := by decide +kernel
theorem pd_66cbc1e : parseMethodDescriptor "(Ljava/lang/String;)V" = some ⟨[(.object "java/lang/String")], none⟩ := by decide +kernel
theorem pd_451ab81 : parseMethodDescriptor "([BIB)V" = some ⟨[(.array .byte), .int, .byte], none⟩ := by decide +kernel
theorem ef_27 (m : MethodId) (x0 : Addr) (x1 : Int32) (x2 : Addr) : entryFrame m #[(.ref x0), (.int x1), (.ref x2)] 3 = mkF m 0 #[.val (.ref x0), .val (.int x1), .val (.ref x2)] [] := by first | (simp [entryFrame, mkF, argsToLocals, Value.category]; done) | rfl
def Q_rmPut (Z : State) (b x t vb : Addr) (kt kv : ClassId) (cs ds : List Int32) (h0 : Heap) (n0 : Nat) (v : Option Value) (h : Heap) (L : List Loc) : Prop := v = none ∧ Fr n0 L ∧ Keep h0 h [vb] ∧ Arv Z h vb kv .byte (16 : Int32) (own_buf (cs ++ ds)) (.int (0 : Int32))
set_option maxRecDepth 65536 in
set_option maxHeartbeats 40000000 in
theorem rmPut (l : Launch) (Z : State) (a0 : Array Value) (hw : ∀ d ∈ tables_1, d.before a0 Z = true) (b x t vb : Addr) (kt kv : ClassId) (cs ds : List Int32) (h0 : Heap) (n0 : Nat) (Z0 : n0 ≤ h0.size) (G1 : Int32) (O2 : Sta Z Z.heap "java/lang/String" "COMPACT_STRINGS" "Z" (.int G1)) (P5 : ¬ (G1 = (0 : Int32))) (X00 : Old Z n0 h0) (Es : Exa Z h0 b "java/lang/StringBuilder") (Fsv : Fld Z h0 b "java/lang/AbstractStringBuilder" "value" "[B" (.ref vb)) (Fsc : Fld Z h0 b "java/lang/AbstractStringBuilder" "coder" "B" (.int (0 : Int32))) (Fsn : Fld Z h0 b "java/lang/AbstractStringBuilder" "count" "I" (.int (Int32.ofNat (cs).length))) (Vs : Arv Z h0 vb kv .byte (16 : Int32) (own_buf cs) (.int (0 : Int32))) (Ex : Exa Z h0 x "java/lang/String") (Vx : Fld Z h0 x "java/lang/String" "value" "[B" (.ref t)) (Cx : Fld Z h0 x "java/lang/String" "coder" "B" (.int (0 : Int32))) (Bx : Arv Z h0 t kt .byte (Int32.ofNat (ds).length) (((ds).map (fun c => c.toInt8.toInt32)).map Value.int) (.int (0 : Int32))) (hpx : ∀ c ∈ ds, ¬ c < 0 ∧ ¬ (255 : Int32) < c) (g_vb : n0 ≤ vb) (hlen : cs.length + ds.length ≤ 16) :
    MetFree l (⟨"java/lang/AbstractStringBuilder", "putStringAt", "(ILjava/lang/String;)V"⟩ : MethodName) (head1 [Jvm.Cond.code (⟨"java/lang/AbstractStringBuilder", "putStringAt", "(ILjava/lang/String;)V"⟩ : MethodName) jdk_68_method_73_code 3 none] ({ frames := 2, cells := 0, slots := 0, locals := 33 } : Room)) (fun a U => a = #[(.ref b), (.int (Int32.ofNat (cs).length)), (.ref x)] ∧ Z.Warmed39 U.vm ∧ U.heap = h0) (fun _ _ _ _ _ => True) (fun _ U o U' => ∃ v L, o = .returned v ∧ (Q_rmPut Z b x t vb kt kv cs ds h0 n0) v U'.heap L ∧ FrameEnd U o U' L ({ frames := 2, cells := 0, slots := 0, locals := 33 } : Room).cells ({ frames := 2, cells := 0, slots := 0, locals := 33 } : Room).slots) := by
  refine MetFree.of_bodySF (plainFor_of_name pn_f7a11f1) hisR ?_
  intro p e s m args below meth c s₁ Bd hml0 hP hK
  obtain ⟨rfl, hZ, hh⟩ := hP
  have hx := Bd.exec
  have hby := Bd.bytes
  have hml : c.maxLocals = 3 := hml0
  have hown : s.vm.findClass "java/lang/AbstractStringBuilder" = some m.cls := findClass_of_methodNamed Bd.named
  have hnm := (name_of_methodNamed Bd.named Bd.method).1
  have X0 : Stand p l e ({ frames := 2, cells := 0, slots := 0, locals := 33 } : Room) s m #[(.ref b), (.int (Int32.ofNat (cs).length)), (.ref x)] below meth c s₁ [] 0 0 := Stand.of_body Bd
  have e0 : s₁.heap = h0 := by rw [← hh, Bd.state]; rfl
  have N0 := Fr.nil n0
  have K0 : Keep h0 h0 [vb] := Keep.refl h0 [vb]
  show Go p e below (s₁.setTop (entryFrame m #[(.ref b), (.int (Int32.ofNat (cs).length)), (.ref x)] 3)) (EndN s (Q_rmPut Z b x t vb kt kv cs ds h0 n0) ({ frames := 2, cells := 0, slots := 0, locals := 33 } : Room).cells ({ frames := 2, cells := 0, slots := 0, locals := 33 } : Room).slots)
  refine Go.top (ef_27 m b (Int32.ofNat (cs).length) x) ?_
  refine Go.st (T' := s₁.setTop (mkF m 1 #[.val (.ref b), .val (.int (Int32.ofNat (cs).length)), .val (.ref x)] [(.ref b)])) (fun zt zk => XS.aloadN X0.here hx rfl (hb hby d27_0) rfl rfl zk) ?_
  refine Go.st (T' := s₁.setTop (mkF m 2 #[.val (.ref b), .val (.int (Int32.ofNat (cs).length)), .val (.ref x)] [(.ref x), (.ref b)])) (fun zt zk => XS.aloadN X0.here hx rfl (hb hby d27_1) rfl rfl zk) ?_
  obtain ⟨cq205, kq205, q205a, q205b, q205c⟩ := isOf hZ e0 Es
  obtain ⟨vr205, _, ⟨T205, L205, k205, n205⟩, -, X205, ⟨Lc205, hQ205, l205, y205, z205⟩, st205⟩ := X0.virtualBack hx (y := (⟨"java/lang/AbstractStringBuilder", "inflateIfNeededFor", "(Ljava/lang/String;)V"⟩ : MethodName)) (z := (⟨"java/lang/AbstractStringBuilder", "inflateIfNeededFor", "(Ljava/lang/String;)V"⟩ : MethodName)) hown (mvT hZ (hw _ (List.mem_of_getElem? (i := 198) rfl))) (mvT hZ (own_decl (hw _ (List.mem_of_getElem? (i := 199) rfl)) (hw _ (List.mem_of_getElem? (i := 202) rfl)))) (notFace_of_selects (args := #[]) (mvT hZ (hw _ (List.mem_of_getElem? (i := 201) rfl)))) (mvT hZ (hw _ (List.mem_of_getElem? (i := 201) rfl))) (mvT hZ (hw _ (List.mem_of_getElem? (i := 199) rfl))) (by decide) (backOf (W := 0) (rmInf l Z a0 hw b x h0 n0 Z0 G1 O2 P5 X00 Fsc Ex Cx) hZ (hw _ (List.mem_of_getElem? (i := 202) rfl)) (hw _ (List.mem_of_getElem? (i := 158) rfl)) (by decide) (by decide)) q205a q205c (g := (mkF m 2 #[.val (.ref b), .val (.int (Int32.ofNat (cs).length)), .val (.ref x)] [(.ref x), (.ref b)])) rfl (by rw [hml]; rfl) (Steps.refl _) (argsL := [(.ref x)]) (rest := []) (lenOf pd_66cbc1e rfl) rfl (by show 2 * 0 + _ ≤ _; exact Nat.le_of_eq rfl) (hb hby d27_2) (fun _ _ => ⟨rfl, e0, (by decide : 0 + 0 ≤ _), (by decide : 0 + 0 ≤ _)⟩)
  dsimp only [Pt.U, Pt.locs, Pt.cells, Pt.slots] at X205 l205 y205 z205 st205 hQ205
  subst l205 y205 z205
  obtain ⟨rfl, Nq205, eq205⟩ := hQ205
  have NN206 := Fr.app N0 Nq205
  refine Go.st (T' := T205.setTop (mkF m 5 #[.val (.ref b), .val (.int (Int32.ofNat (cs).length)), .val (.ref x)] [])) (fun zt zk => st205.trans zk) ?_
  refine Go.st (T' := T205.setTop (mkF m 6 #[.val (.ref b), .val (.int (Int32.ofNat (cs).length)), .val (.ref x)] [(.ref x)])) (fun zt zk => XS.aloadN X205.here hx rfl (hb hby d27_5) rfl rfl zk) ?_
  refine Go.st (T' := T205.setTop (mkF m 7 #[.val (.ref b), .val (.int (Int32.ofNat (cs).length)), .val (.ref x)] [(.ref b), (.ref x)])) (fun zt zk => XS.aloadN X205.here hx rfl (hb hby d27_6) rfl rfl zk) ?_
  obtain ⟨T207, X207, e207, st207⟩ := getF X205 hx hZ hown (host := "") (Or.inl (hw _ (List.mem_of_getElem? (i := 162) rfl))) Via.refl eq205 Fsv (g := (mkF m 7 #[.val (.ref b), .val (.int (Int32.ofNat (cs).length)), .val (.ref x)] [(.ref b), (.ref x)])) rfl rfl (hb hby d27_7)
  refine Go.st (T' := T207.setTop (mkF m 10 #[.val (.ref b), .val (.int (Int32.ofNat (cs).length)), .val (.ref x)] [(.ref vb), (.ref x)])) (fun zt zk => st207 zt zk) ?_
  refine Go.st (T' := T207.setTop (mkF m 11 #[.val (.ref b), .val (.int (Int32.ofNat (cs).length)), .val (.ref x)] [(.int (Int32.ofNat (cs).length)), (.ref vb), (.ref x)])) (fun zt zk => XS.iloadN X207.here hx rfl (hb hby d27_10) rfl zk) ?_
  refine Go.st (T' := T207.setTop (mkF m 12 #[.val (.ref b), .val (.int (Int32.ofNat (cs).length)), .val (.ref x)] [(.ref b), (.int (Int32.ofNat (cs).length)), (.ref vb), (.ref x)])) (fun zt zk => XS.aloadN X207.here hx rfl (hb hby d27_11) rfl rfl zk) ?_
  obtain ⟨T208, X208, e208, st208⟩ := getF X207 hx hZ hown (host := "") (Or.inl (hw _ (List.mem_of_getElem? (i := 164) rfl))) Via.refl e207 Fsc (g := (mkF m 12 #[.val (.ref b), .val (.int (Int32.ofNat (cs).length)), .val (.ref x)] [(.ref b), (.int (Int32.ofNat (cs).length)), (.ref vb), (.ref x)])) rfl rfl (hb hby d27_12)
  refine Go.st (T' := T208.setTop (mkF m 15 #[.val (.ref b), .val (.int (Int32.ofNat (cs).length)), .val (.ref x)] [(.int (0 : Int32)), (.int (Int32.ofNat (cs).length)), (.ref vb), (.ref x)])) (fun zt zk => st208 zt zk) ?_
  obtain ⟨cq209, kq209, q209a, q209b, q209c⟩ := isOf hZ e208 Ex
  obtain ⟨vr209, _, ⟨T209, L209, k209, n209⟩, -, X209, ⟨Lc209, hQ209, l209, y209, z209⟩, st209⟩ := X208.virtualBack hx (y := (⟨"java/lang/String", "getBytes", "([BIB)V"⟩ : MethodName)) (z := (⟨"java/lang/String", "getBytes", "([BIB)V"⟩ : MethodName)) hown (mvT hZ (hw _ (List.mem_of_getElem? (i := 204) rfl))) (mvT hZ (hw _ (List.mem_of_getElem? (i := 205) rfl))) (notFace_of_selects (args := #[]) (mvT hZ (hw _ (List.mem_of_getElem? (i := 207) rfl)))) (mvT hZ (hw _ (List.mem_of_getElem? (i := 207) rfl))) (mvT hZ (hw _ (List.mem_of_getElem? (i := 206) rfl))) (by decide) (backOf (W := 0) (rmGB l Z a0 hw x t vb kt kv cs ds h0 n0 (Nat.le_trans Z0 K0.1) G1 O2 P5 X00 Ex Vx Cx Bx hpx Vs g_vb hlen) hZ (hw _ (List.mem_of_getElem? (i := 208) rfl)) (hw _ (List.mem_of_getElem? (i := 6) rfl)) (by decide) (by decide)) q209a q209c (g := (mkF m 15 #[.val (.ref b), .val (.int (Int32.ofNat (cs).length)), .val (.ref x)] [(.int (0 : Int32)), (.int (Int32.ofNat (cs).length)), (.ref vb), (.ref x)])) rfl (by rw [hml]; rfl) (Steps.refl _) (argsL := [(.ref vb), (.int (Int32.ofNat (cs).length)), (.int (0 : Int32))]) (rest := []) (lenOf pd_451ab81 rfl) rfl (by show 2 * 0 + _ ≤ _; exact Nat.le_of_eq rfl) (hb hby d27_15) (fun _ _ => ⟨rfl, e208, (by decide : 0 + 0 ≤ _), (by decide : 0 + 0 ≤ _)⟩)
  dsimp only [Pt.U, Pt.locs, Pt.cells, Pt.slots] at X209 l209 y209 z209 st209 hQ209
  subst l209 y209 z209
  obtain ⟨rfl, Nq209, Kq209, Vq209⟩ := hQ209
  have KK210 : Keep h0 T209.heap [vb] := K0.trans Kq209 (allS (Or.inl (List.mem_of_getElem? (i := 0) rfl)) all0)
  have NN211 := Fr.app NN206 Nq209
  refine Go.st (T' := T209.setTop (mkF m 18 #[.val (.ref b), .val (.int (Int32.ofNat (cs).length)), .val (.ref x)] [])) (fun zt zk => st209.trans zk) ?_
  exact Go.done X209 Bd.notSynchronized (v := none) (fun _ => rfl) (fun fs hr => X209.returnOut hx Bd.returns (hb hby d27_18) hr) (by rw [(rfl : T209.heap = T209.heap)]; exact ⟨rfl, NN211, KK210, Vq209⟩) (by decide) (by decide)
theorem d23_0 : decode jdk_68_method_22_code 0 = .ok (.aload_n 1, 1) := by decide +kernel
theorem d23_1 : decode jdk_68_method_22_code 1 = .ok (.ifnonnull 8, 3) := by decide +kernel
theorem d23_9 : decode jdk_68_method_22_code 9 = .ok (.aload_n 1, 1) := by decide +kernel
theorem d23_10 : decode jdk_68_method_22_code 10 = .ok (.invokevirtual 32, 3) := by decide +kernel
theorem d23_13 : decode jdk_68_method_22_code 13 = .ok (.istore_n 2, 1) := by decide +kernel
theorem d23_14 : decode jdk_68_method_22_code 14 = .ok (.aload_n 0, 1) := by decide +kernel
theorem d23_15 : decode jdk_68_method_22_code 15 = .ok (.aload_n 0, 1) := by decide +kernel
theorem d23_16 : decode jdk_68_method_22_code 16 = .ok (.getfield 79, 3) := by decide +kernel
theorem d23_19 : decode jdk_68_method_22_code 19 = .ok (.iload_n 2, 1) := by decide +kernel
theorem d23_20 : decode jdk_68_method_22_code 20 = .ok (.iadd, 1) := by decide +kernel
theorem d23_21 : decode jdk_68_method_22_code 21 = .ok (.invokevirtual 100, 3) := by decide +kernel
theorem d23_24 : decode jdk_68_method_22_code 24 = .ok (.aload_n 0, 1) := by decide +kernel
theorem d23_25 : decode jdk_68_method_22_code 25 = .ok (.aload_n 0, 1) := by decide +kernel
theorem d23_26 : decode jdk_68_method_22_code 26 = .ok (.getfield 79, 3) := by decide +kernel
theorem d23_29 : decode jdk_68_method_22_code 29 = .ok (.aload_n 1, 1) := by decide +kernel
theorem d23_30 : decode jdk_68_method_22_code 30 = .ok (.invokevirtual 208, 3) := by decide +kernel
theorem d23_33 : decode jdk_68_method_22_code 33 = .ok (.aload_n 0, 1) := by decide +kernel
theorem d23_34 : decode jdk_68_method_22_code 34 = .ok (.dup, 1) := by decide +kernel
theorem d23_35 : decode jdk_68_method_22_code 35 = .ok (.getfield 79, 3) := by decide +kernel
theorem d23_38 : decode jdk_68_method_22_code 38 = .ok (.iload_n 2, 1) := by decide +kernel
theorem d23_39 : decode jdk_68_method_22_code 39 = .ok (.iadd, 1) := by decide +kernel
theorem d23_40 : decode jdk_68_method_22_code 40 = .ok (.putfield 79, 3) := by decide +kernel
theorem d23_43 : decode jdk_68_method_22_code 43 = .ok (.aload_n 0, 1) := by decide +kernel
theorem d23_44 : decode jdk_68_method_22_code 44 = .ok (.areturn, 1) := by decide +kernel
theorem pd_21cfc18 : parseMethodDescriptor "(ILjava/lang/String;)V" = some ⟨[.int, (.object "java/lang/String")], none⟩ := by decide +kernel
theorem ef_23 (m : MethodId) (x0 : Addr) (x1 : Addr) : entryFrame m #[(.ref x0), (.ref x1)] 3 = mkF m 0 #[.val (.ref x0), .val (.ref x1), .unset] [] := by first | (simp [entryFrame, mkF, argsToLocals, Value.category]; done) | rfl
def Q_rmASa (Z : State) (b x t vb : Addr) (kt kv : ClassId) (cs ds : List Int32) (h0 : Heap) (n0 : Nat) (v : Option Value) (h : Heap) (L : List Loc) : Prop := v = some (.ref b) ∧ Fr n0 L ∧ Keep h0 h [b, vb] ∧ Exa Z h b "java/lang/StringBuilder" ∧ Fld Z h b "java/lang/AbstractStringBuilder" "value" "[B" (.ref vb) ∧ Fld Z h b "java/lang/AbstractStringBuilder" "coder" "B" (.int (0 : Int32)) ∧ Fld Z h b "java/lang/AbstractStringBuilder" "count" "I" (.int (Int32.ofNat (cs ++ ds).length)) ∧ Arv Z h vb kv .byte (16 : Int32) (own_buf (cs ++ ds)) (.int (0 : Int32))
set_option maxRecDepth 65536 in
set_option maxHeartbeats 40000000 in
theorem rmASa (l : Launch) (Z : State) (a0 : Array Value) (hw : ∀ d ∈ tables_1, d.before a0 Z = true) (b x t vb : Addr) (kt kv : ClassId) (cs ds : List Int32) (h0 : Heap) (n0 : Nat) (Z0 : n0 ≤ h0.size) (G1 : Int32) (O2 : Sta Z Z.heap "java/lang/String" "COMPACT_STRINGS" "Z" (.int G1)) (P5 : ¬ (G1 = (0 : Int32))) (X00 : Old Z n0 h0) (Es : Exa Z h0 b "java/lang/StringBuilder") (Fsv : Fld Z h0 b "java/lang/AbstractStringBuilder" "value" "[B" (.ref vb)) (Fsc : Fld Z h0 b "java/lang/AbstractStringBuilder" "coder" "B" (.int (0 : Int32))) (Fsn : Fld Z h0 b "java/lang/AbstractStringBuilder" "count" "I" (.int (Int32.ofNat (cs).length))) (Vs : Arv Z h0 vb kv .byte (16 : Int32) (own_buf cs) (.int (0 : Int32))) (Ex : Exa Z h0 x "java/lang/String") (Vx : Fld Z h0 x "java/lang/String" "value" "[B" (.ref t)) (Cx : Fld Z h0 x "java/lang/String" "coder" "B" (.int (0 : Int32))) (Bx : Arv Z h0 t kt .byte (Int32.ofNat (ds).length) (((ds).map (fun c => c.toInt8.toInt32)).map Value.int) (.int (0 : Int32))) (hpx : ∀ c ∈ ds, ¬ c < 0 ∧ ¬ (255 : Int32) < c) (g_vb : n0 ≤ vb) (hlen : cs.length + ds.length ≤ 16) (g_b : n0 ≤ b) (nbv : b ≠ vb) :
    MetFree l (⟨"java/lang/AbstractStringBuilder", "append", "(Ljava/lang/String;)Ljava/lang/AbstractStringBuilder;"⟩ : MethodName) (head1 [Jvm.Cond.code (⟨"java/lang/AbstractStringBuilder", "append", "(Ljava/lang/String;)Ljava/lang/AbstractStringBuilder;"⟩ : MethodName) jdk_68_method_22_code 3 (some (.object "java/lang/AbstractStringBuilder"))] ({ frames := 3, cells := 0, slots := 0, locals := 47 } : Room)) (fun a U => a = #[(.ref b), (.ref x)] ∧ Z.Warmed39 U.vm ∧ U.heap = h0) (fun _ _ _ _ _ => True) (fun _ U o U' => ∃ v L, o = .returned v ∧ (Q_rmASa Z b x t vb kt kv cs ds h0 n0) v U'.heap L ∧ FrameEnd U o U' L ({ frames := 3, cells := 0, slots := 0, locals := 47 } : Room).cells ({ frames := 3, cells := 0, slots := 0, locals := 47 } : Room).slots) := by
  refine MetFree.of_bodySF (plainFor_of_name pn_f7a11f1) hisR ?_
  intro p e s m args below meth c s₁ Bd hml0 hP hK
  obtain ⟨rfl, hZ, hh⟩ := hP
  have hx := Bd.exec
  have hby := Bd.bytes
  have hml : c.maxLocals = 3 := hml0
  have hown : s.vm.findClass "java/lang/AbstractStringBuilder" = some m.cls := findClass_of_methodNamed Bd.named
  have hnm := (name_of_methodNamed Bd.named Bd.method).1
  have X0 : Stand p l e ({ frames := 3, cells := 0, slots := 0, locals := 47 } : Room) s m #[(.ref b), (.ref x)] below meth c s₁ [] 0 0 := Stand.of_body Bd
  have e0 : s₁.heap = h0 := by rw [← hh, Bd.state]; rfl
  have N0 := Fr.nil n0
  have K0 : Keep h0 h0 [b, vb] := Keep.refl h0 [b, vb]
  show Go p e below (s₁.setTop (entryFrame m #[(.ref b), (.ref x)] 3)) (EndN s (Q_rmASa Z b x t vb kt kv cs ds h0 n0) ({ frames := 3, cells := 0, slots := 0, locals := 47 } : Room).cells ({ frames := 3, cells := 0, slots := 0, locals := 47 } : Room).slots)
  refine Go.top (ef_23 m b x) ?_
  have hln : ∀ d ∈ StrChars.Road.wordsLen, d.before a0 Z = true := fun d hd => hw d ((by decide +kernel : ∀ d ∈ StrChars.Road.wordsLen, d ∈ tables_1) d hd)
  have hcd : StrChars.Road.CodA ds 0 (Int32.ofNat (ds).length) (((ds).map (fun c => c.toInt8.toInt32)).map Value.int) := StrChars.Road.codOf (n := (ds).length) rfl (fun x hx => (hpx x hx).2)
  refine Go.st (T' := s₁.setTop (mkF m 1 #[.val (.ref b), .val (.ref x), .unset] [(.ref x)])) (fun zt zk => XS.aloadN X0.here hx rfl (hb hby d23_0) rfl rfl zk) ?_
  refine Go.st (T' := s₁.setTop (mkF m 9 #[.val (.ref b), .val (.ref x), .unset] [])) (fun zt zk => XS.ifnonnullYes X0.here hx rfl (pc0 := 1) (pc' := 9) rfl (hb hby d23_1) rfl (by decide) (by decide) zk) ?_
  refine Go.st (T' := s₁.setTop (mkF m 10 #[.val (.ref b), .val (.ref x), .unset] [(.ref x)])) (fun zt zk => XS.aloadN X0.here hx rfl (hb hby d23_9) rfl rfl zk) ?_
  obtain ⟨cq212, kq212, q212a, q212b, q212c⟩ := isOf hZ e0 Ex
  obtain ⟨vr212, _, ⟨T212, L212, k212, n212⟩, -, X212, ⟨Lc212, hQ212, l212, y212, z212⟩, st212⟩ := X0.virtualBack hx (y := (⟨"java/lang/String", "length", "()I"⟩ : MethodName)) (z := (⟨"java/lang/String", "length", "()I"⟩ : MethodName)) hown (mvT hZ (hw _ (List.mem_of_getElem? (i := 176) rfl))) (mvT hZ (hw _ (List.mem_of_getElem? (i := 177) rfl))) (notFace_of_selects (args := #[]) (mvT hZ (hw _ (List.mem_of_getElem? (i := 179) rfl)))) (mvT hZ (hw _ (List.mem_of_getElem? (i := 179) rfl))) (mvT hZ (hw _ (List.mem_of_getElem? (i := 178) rfl))) (by decide) (StrChars.Road.lenW (W := 0) hZ hln (kI := 4) (hw _ (List.mem_of_getElem? (i := 5) rfl)) Ex Vx Cx Bx hcd (own_up _ hpx) (O2.ext X00.2) P5 (by omega) (by decide) (by decide)) q212a q212c (g := (mkF m 10 #[.val (.ref b), .val (.ref x), .unset] [(.ref x)])) rfl (by rw [hml]; rfl) (Steps.refl _) (argsL := []) (rest := []) (lenOf pd_a8eac rfl) rfl (by show 2 * 0 + _ ≤ _; exact Nat.le_of_eq rfl) (hb hby d23_10) (fun _ _ => ⟨rfl, e0, (by decide : 0 + 0 ≤ _), (by decide : 0 + 0 ≤ _)⟩)
  dsimp only [Pt.U, Pt.locs, Pt.cells, Pt.slots] at X212 l212 y212 z212 st212 hQ212
  subst l212 y212 z212
  obtain ⟨rfl, rfl, eq212⟩ := hQ212
  have Nq212 : Fr n0 ([] : List Loc) := Fr.nil n0
  have NN213 := Fr.app N0 Nq212
  refine Go.st (T' := T212.setTop (mkF m 13 #[.val (.ref b), .val (.ref x), .unset] [(.int (Int32.ofNat (ds).length))])) (fun zt zk => st212.trans zk) ?_
  refine Go.st (T' := T212.setTop (mkF m 14 #[.val (.ref b), .val (.ref x), .val (.int (Int32.ofNat (ds).length))] [])) (fun zt zk => XS.istoreN X212.here hx rfl (hb hby d23_13) rfl (l' := #[.val (.ref b), .val (.ref x), .val (.int (Int32.ofNat (ds).length))]) rfl zk) ?_
  refine Go.st (T' := T212.setTop (mkF m 15 #[.val (.ref b), .val (.ref x), .val (.int (Int32.ofNat (ds).length))] [(.ref b)])) (fun zt zk => XS.aloadN X212.here hx rfl (hb hby d23_14) rfl rfl zk) ?_
  refine Go.st (T' := T212.setTop (mkF m 16 #[.val (.ref b), .val (.ref x), .val (.int (Int32.ofNat (ds).length))] [(.ref b), (.ref b)])) (fun zt zk => XS.aloadN X212.here hx rfl (hb hby d23_15) rfl rfl zk) ?_
  obtain ⟨T214, X214, e214, st214⟩ := getF X212 hx hZ hown (host := "") (Or.inl (hw _ (List.mem_of_getElem? (i := 186) rfl))) Via.refl eq212 Fsn (g := (mkF m 16 #[.val (.ref b), .val (.ref x), .val (.int (Int32.ofNat (ds).length))] [(.ref b), (.ref b)])) rfl rfl (hb hby d23_16)
  refine Go.st (T' := T214.setTop (mkF m 19 #[.val (.ref b), .val (.ref x), .val (.int (Int32.ofNat (ds).length))] [(.int (Int32.ofNat (cs).length)), (.ref b)])) (fun zt zk => st214 zt zk) ?_
  refine Go.st (T' := T214.setTop (mkF m 20 #[.val (.ref b), .val (.ref x), .val (.int (Int32.ofNat (ds).length))] [(.int (Int32.ofNat (ds).length)), (.int (Int32.ofNat (cs).length)), (.ref b)])) (fun zt zk => XS.iloadN X214.here hx rfl (hb hby d23_19) rfl zk) ?_
  refine Go.st (T' := T214.setTop (mkF m 21 #[.val (.ref b), .val (.ref x), .val (.int (Int32.ofNat (ds).length))] [(.int ((Int32.ofNat (cs).length) + (Int32.ofNat (ds).length))), (.ref b)])) (fun zt zk => XS.iadd X214.here hx rfl (hb hby d23_20) rfl zk) ?_
  rw [own_add (by omega)]
  obtain ⟨cq215, kq215, q215a, q215b, q215c⟩ := isOf hZ e214 Es
  obtain ⟨vr215, _, ⟨T215, L215, k215, n215⟩, -, X215, ⟨Lc215, hQ215, l215, y215, z215⟩, st215⟩ := X214.virtualBack hx (y := (⟨"java/lang/AbstractStringBuilder", "ensureCapacityInternal", "(I)V"⟩ : MethodName)) (z := (⟨"java/lang/AbstractStringBuilder", "ensureCapacityInternal", "(I)V"⟩ : MethodName)) hown (mvT hZ (hw _ (List.mem_of_getElem? (i := 188) rfl))) (mvT hZ (own_decl (hw _ (List.mem_of_getElem? (i := 189) rfl)) (hw _ (List.mem_of_getElem? (i := 192) rfl)))) (notFace_of_selects (args := #[]) (mvT hZ (hw _ (List.mem_of_getElem? (i := 191) rfl)))) (mvT hZ (hw _ (List.mem_of_getElem? (i := 191) rfl))) (mvT hZ (hw _ (List.mem_of_getElem? (i := 189) rfl))) (by decide) (backOf (W := 0) (rmEns l Z a0 hw b vb kv cs ((cs).length + (ds).length) h0 n0 Z0 Es Fsv Fsc Fsn Vs hlen) hZ (hw _ (List.mem_of_getElem? (i := 192) rfl)) (hw _ (List.mem_of_getElem? (i := 158) rfl)) (by decide) (by decide)) q215a q215c (g := (mkF m 21 #[.val (.ref b), .val (.ref x), .val (.int (Int32.ofNat (ds).length))] [(.int (Int32.ofNat ((cs).length + (ds).length))), (.ref b)])) rfl (by rw [hml]; rfl) (Steps.refl _) (argsL := [(.int (Int32.ofNat ((cs).length + (ds).length)))]) (rest := []) (lenOf pd_56f531a rfl) rfl (by show 2 * 0 + _ ≤ _; exact Nat.le_of_eq rfl) (hb hby d23_21) (fun _ _ => ⟨rfl, e214, (by decide : 0 + 0 ≤ _), (by decide : 0 + 0 ≤ _)⟩)
  dsimp only [Pt.U, Pt.locs, Pt.cells, Pt.slots] at X215 l215 y215 z215 st215 hQ215
  subst l215 y215 z215
  obtain ⟨rfl, Nq215, eq215⟩ := hQ215
  have NN216 := Fr.app NN213 Nq215
  refine Go.st (T' := T215.setTop (mkF m 24 #[.val (.ref b), .val (.ref x), .val (.int (Int32.ofNat (ds).length))] [])) (fun zt zk => st215.trans zk) ?_
  refine Go.st (T' := T215.setTop (mkF m 25 #[.val (.ref b), .val (.ref x), .val (.int (Int32.ofNat (ds).length))] [(.ref b)])) (fun zt zk => XS.aloadN X215.here hx rfl (hb hby d23_24) rfl rfl zk) ?_
  refine Go.st (T' := T215.setTop (mkF m 26 #[.val (.ref b), .val (.ref x), .val (.int (Int32.ofNat (ds).length))] [(.ref b), (.ref b)])) (fun zt zk => XS.aloadN X215.here hx rfl (hb hby d23_25) rfl rfl zk) ?_
  obtain ⟨T217, X217, e217, st217⟩ := getF X215 hx hZ hown (host := "") (Or.inl (hw _ (List.mem_of_getElem? (i := 186) rfl))) Via.refl eq215 Fsn (g := (mkF m 26 #[.val (.ref b), .val (.ref x), .val (.int (Int32.ofNat (ds).length))] [(.ref b), (.ref b)])) rfl rfl (hb hby d23_26)
  refine Go.st (T' := T217.setTop (mkF m 29 #[.val (.ref b), .val (.ref x), .val (.int (Int32.ofNat (ds).length))] [(.int (Int32.ofNat (cs).length)), (.ref b)])) (fun zt zk => st217 zt zk) ?_
  refine Go.st (T' := T217.setTop (mkF m 30 #[.val (.ref b), .val (.ref x), .val (.int (Int32.ofNat (ds).length))] [(.ref x), (.int (Int32.ofNat (cs).length)), (.ref b)])) (fun zt zk => XS.aloadN X217.here hx rfl (hb hby d23_29) rfl rfl zk) ?_
  obtain ⟨cq218, kq218, q218a, q218b, q218c⟩ := isOf hZ e217 Es
  obtain ⟨vr218, _, ⟨T218, L218, k218, n218⟩, -, X218, ⟨Lc218, hQ218, l218, y218, z218⟩, st218⟩ := X217.virtualBack hx (y := (⟨"java/lang/AbstractStringBuilder", "putStringAt", "(ILjava/lang/String;)V"⟩ : MethodName)) (z := (⟨"java/lang/AbstractStringBuilder", "putStringAt", "(ILjava/lang/String;)V"⟩ : MethodName)) hown (mvT hZ (hw _ (List.mem_of_getElem? (i := 193) rfl))) (mvT hZ (own_decl (hw _ (List.mem_of_getElem? (i := 194) rfl)) (hw _ (List.mem_of_getElem? (i := 197) rfl)))) (notFace_of_selects (args := #[]) (mvT hZ (hw _ (List.mem_of_getElem? (i := 196) rfl)))) (mvT hZ (hw _ (List.mem_of_getElem? (i := 196) rfl))) (mvT hZ (hw _ (List.mem_of_getElem? (i := 194) rfl))) (by decide) (backOf (W := 0) (rmPut l Z a0 hw b x t vb kt kv cs ds h0 n0 Z0 G1 O2 P5 X00 Es Fsv Fsc Fsn Vs Ex Vx Cx Bx hpx g_vb hlen) hZ (hw _ (List.mem_of_getElem? (i := 197) rfl)) (hw _ (List.mem_of_getElem? (i := 158) rfl)) (by decide) (by decide)) q218a q218c (g := (mkF m 30 #[.val (.ref b), .val (.ref x), .val (.int (Int32.ofNat (ds).length))] [(.ref x), (.int (Int32.ofNat (cs).length)), (.ref b)])) rfl (by rw [hml]; rfl) (Steps.refl _) (argsL := [(.int (Int32.ofNat (cs).length)), (.ref x)]) (rest := []) (lenOf pd_21cfc18 rfl) rfl (by show 2 * 0 + _ ≤ _; exact Nat.le_of_eq rfl) (hb hby d23_30) (fun _ _ => ⟨rfl, e217, (by decide : 0 + 0 ≤ _), (by decide : 0 + 0 ≤ _)⟩)
  dsimp only [Pt.U, Pt.locs, Pt.cells, Pt.slots] at X218 l218 y218 z218 st218 hQ218
  subst l218 y218 z218
  obtain ⟨rfl, Nq218, Kq218, Vq218⟩ := hQ218
  have KK219 : Keep h0 T218.heap [b, vb] := K0.trans Kq218 (allS (Or.inl (List.mem_of_getElem? (i := 1) rfl)) all0)
  have NN220 := Fr.app NN216 Nq218
  refine Go.st (T' := T218.setTop (mkF m 33 #[.val (.ref b), .val (.ref x), .val (.int (Int32.ofNat (ds).length))] [])) (fun zt zk => st218.trans zk) ?_
  refine Go.st (T' := T218.setTop (mkF m 34 #[.val (.ref b), .val (.ref x), .val (.int (Int32.ofNat (ds).length))] [(.ref b)])) (fun zt zk => XS.aloadN X218.here hx rfl (hb hby d23_33) rfl rfl zk) ?_
  refine Go.st (T' := T218.setTop (mkF m 35 #[.val (.ref b), .val (.ref x), .val (.int (Int32.ofNat (ds).length))] [(.ref b), (.ref b)])) (fun zt zk => XS.dup X218.here hx rfl (hb hby d23_34) rfl rfl zk) ?_
  have f221 : Fld Z T218.heap b "java/lang/AbstractStringBuilder" "count" "I" (.int (Int32.ofNat (cs).length)) := (Fsn.keep Kq218 (ninS nbv nin0))
  obtain ⟨T222, X222, e222, st222⟩ := getF X218 hx hZ hown (host := "") (Or.inl (hw _ (List.mem_of_getElem? (i := 186) rfl))) Via.refl rfl f221 (g := (mkF m 35 #[.val (.ref b), .val (.ref x), .val (.int (Int32.ofNat (ds).length))] [(.ref b), (.ref b)])) rfl rfl (hb hby d23_35)
  refine Go.st (T' := T222.setTop (mkF m 38 #[.val (.ref b), .val (.ref x), .val (.int (Int32.ofNat (ds).length))] [(.int (Int32.ofNat (cs).length)), (.ref b)])) (fun zt zk => st222 zt zk) ?_
  refine Go.st (T' := T222.setTop (mkF m 39 #[.val (.ref b), .val (.ref x), .val (.int (Int32.ofNat (ds).length))] [(.int (Int32.ofNat (ds).length)), (.int (Int32.ofNat (cs).length)), (.ref b)])) (fun zt zk => XS.iloadN X222.here hx rfl (hb hby d23_38) rfl zk) ?_
  refine Go.st (T' := T222.setTop (mkF m 40 #[.val (.ref b), .val (.ref x), .val (.int (Int32.ofNat (ds).length))] [(.int ((Int32.ofNat (cs).length) + (Int32.ofNat (ds).length))), (.ref b)])) (fun zt zk => XS.iadd X222.here hx rfl (hb hby d23_39) rfl zk) ?_
  rw [own_add (by omega), ← List.length_append]
  have f223 : Exa Z T218.heap b "java/lang/StringBuilder" := (Es.keep Kq218)
  obtain ⟨T224, h224, X224, e224, W224, st224⟩ := putF X222 hx hZ hown (host := "") (Or.inl (hw _ (List.mem_of_getElem? (i := 186) rfl))) Via.refl e222 f221 f223 (Or.inl (hw _ (List.mem_of_getElem? (i := 187) rfl))) (hw _ (List.mem_of_getElem? (i := 149) rfl)) (ty := .int) (by decide) rfl rfl (g := (mkF m 40 #[.val (.ref b), .val (.ref x), .val (.int (Int32.ofNat (ds).length))] [(.int (Int32.ofNat (cs ++ ds).length)), (.ref b)])) rfl rfl (hb hby d23_40)
  have Fw224 : Fld Z h224 b "java/lang/AbstractStringBuilder" "count" "I" (.int (Int32.ofNat (cs ++ ds).length)) := f221.same W224
  have K224 : Keep h0 h224 [b, vb] := KK219.wr W224 (Or.inl (List.mem_of_getElem? (i := 0) rfl))
  have N224 := Fr.snoc X224 NN220 g_b
  refine Go.st (T' := T224.setTop (mkF m 43 #[.val (.ref b), .val (.ref x), .val (.int (Int32.ofNat (ds).length))] [])) (fun zt zk => st224 zt zk) ?_
  refine Go.st (T' := T224.setTop (mkF m 44 #[.val (.ref b), .val (.ref x), .val (.int (Int32.ofNat (ds).length))] [(.ref b)])) (fun zt zk => XS.aloadN X224.here hx rfl (hb hby d23_43) rfl rfl zk) ?_
  have f225 : Exa Z h224 b "java/lang/StringBuilder" := (f223.wr W224)
  have f226 : Fld Z h224 b "java/lang/AbstractStringBuilder" "value" "[B" (.ref vb) := ((Fsv.keep Kq218 (ninS nbv nin0)).other W224 (Or.inr (slot_ne (Or.inl (hw _ (List.mem_of_getElem? (i := 163) rfl))) (Or.inl (hw _ (List.mem_of_getElem? (i := 187) rfl))) (by decide) (t := (.array .byte)) (t' := .int) (by decide) (by decide))))
  have f227 : Fld Z h224 b "java/lang/AbstractStringBuilder" "coder" "B" (.int (0 : Int32)) := ((Fsc.keep Kq218 (ninS nbv nin0)).other W224 (Or.inr (slot_ne (Or.inl (hw _ (List.mem_of_getElem? (i := 165) rfl))) (Or.inl (hw _ (List.mem_of_getElem? (i := 187) rfl))) (by decide) (t := .byte) (t' := .int) (by decide) (by decide))))
  have f228 : Arv Z h224 vb kv .byte (16 : Int32) (own_buf (cs ++ ds)) (.int (0 : Int32)) := (Vq218.other W224 (Ne.symm nbv))
  exact Go.done X224 Bd.notSynchronized (v := some (.ref b)) (fun h => by rw [Bd.returns] at h; cases h) (fun fs hr => retA X224 hx Bd.returns rfl rfl rfl (hb hby d23_44) hr) (by rw [e224]; exact ⟨rfl, N224, K224, f225, f226, f227, Fw224, f228⟩) (by decide) (by decide)
theorem d22_0 : decode jdk_67_method_7_code 0 = .ok (.aload_n 0, 1) := by decide +kernel
theorem d22_1 : decode jdk_67_method_7_code 1 = .ok (.aload_n 1, 1) := by decide +kernel
theorem d22_2 : decode jdk_67_method_7_code 2 = .ok (.invokespecial 29, 3) := by decide +kernel
theorem d22_5 : decode jdk_67_method_7_code 5 = .ok (.pop, 1) := by decide +kernel
theorem d22_6 : decode jdk_67_method_7_code 6 = .ok (.aload_n 0, 1) := by decide +kernel
theorem d22_7 : decode jdk_67_method_7_code 7 = .ok (.areturn, 1) := by decide +kernel
theorem pd_41d2840 : parseMethodDescriptor "(Ljava/lang/String;)Ljava/lang/AbstractStringBuilder;" = some ⟨[(.object "java/lang/String")], some (.object "java/lang/AbstractStringBuilder")⟩ := by decide +kernel
theorem ef_22 (m : MethodId) (x0 : Addr) (x1 : Addr) : entryFrame m #[(.ref x0), (.ref x1)] 2 = mkF m 0 #[.val (.ref x0), .val (.ref x1)] [] := by first | (simp [entryFrame, mkF, argsToLocals, Value.category]; done) | rfl
def Q_rmApp (Z : State) (b x t vb : Addr) (kt kv : ClassId) (cs ds : List Int32) (h0 : Heap) (n0 : Nat) (v : Option Value) (h : Heap) (L : List Loc) : Prop := v = some (.ref b) ∧ Fr n0 L ∧ Keep h0 h [b, vb] ∧ Exa Z h b "java/lang/StringBuilder" ∧ Fld Z h b "java/lang/AbstractStringBuilder" "value" "[B" (.ref vb) ∧ Fld Z h b "java/lang/AbstractStringBuilder" "coder" "B" (.int (0 : Int32)) ∧ Fld Z h b "java/lang/AbstractStringBuilder" "count" "I" (.int (Int32.ofNat (cs ++ ds).length)) ∧ Arv Z h vb kv .byte (16 : Int32) (own_buf (cs ++ ds)) (.int (0 : Int32))
set_option maxRecDepth 65536 in
set_option maxHeartbeats 40000000 in
theorem rmApp (l : Launch) (Z : State) (a0 : Array Value) (hw : ∀ d ∈ tables_1, d.before a0 Z = true) (b x t vb : Addr) (kt kv : ClassId) (cs ds : List Int32) (h0 : Heap) (n0 : Nat) (Z0 : n0 ≤ h0.size) (G1 : Int32) (O2 : Sta Z Z.heap "java/lang/String" "COMPACT_STRINGS" "Z" (.int G1)) (P5 : ¬ (G1 = (0 : Int32))) (X00 : Old Z n0 h0) (Es : Exa Z h0 b "java/lang/StringBuilder") (Fsv : Fld Z h0 b "java/lang/AbstractStringBuilder" "value" "[B" (.ref vb)) (Fsc : Fld Z h0 b "java/lang/AbstractStringBuilder" "coder" "B" (.int (0 : Int32))) (Fsn : Fld Z h0 b "java/lang/AbstractStringBuilder" "count" "I" (.int (Int32.ofNat (cs).length))) (Vs : Arv Z h0 vb kv .byte (16 : Int32) (own_buf cs) (.int (0 : Int32))) (Ex : Exa Z h0 x "java/lang/String") (Vx : Fld Z h0 x "java/lang/String" "value" "[B" (.ref t)) (Cx : Fld Z h0 x "java/lang/String" "coder" "B" (.int (0 : Int32))) (Bx : Arv Z h0 t kt .byte (Int32.ofNat (ds).length) (((ds).map (fun c => c.toInt8.toInt32)).map Value.int) (.int (0 : Int32))) (hpx : ∀ c ∈ ds, ¬ c < 0 ∧ ¬ (255 : Int32) < c) (g_vb : n0 ≤ vb) (hlen : cs.length + ds.length ≤ 16) (g_b : n0 ≤ b) (nbv : b ≠ vb) :
    MetFree l (⟨"java/lang/StringBuilder", "append", "(Ljava/lang/String;)Ljava/lang/StringBuilder;"⟩ : MethodName) (head1 [Jvm.Cond.code (⟨"java/lang/StringBuilder", "append", "(Ljava/lang/String;)Ljava/lang/StringBuilder;"⟩ : MethodName) jdk_67_method_7_code 2 (some (.object "java/lang/StringBuilder"))] ({ frames := 4, cells := 0, slots := 0, locals := 61 } : Room)) (fun a U => a = #[(.ref b), (.ref x)] ∧ Z.Warmed39 U.vm ∧ U.heap = h0) (fun _ _ _ _ _ => True) (fun _ U o U' => ∃ v L, o = .returned v ∧ (Q_rmApp Z b x t vb kt kv cs ds h0 n0) v U'.heap L ∧ FrameEnd U o U' L ({ frames := 4, cells := 0, slots := 0, locals := 61 } : Room).cells ({ frames := 4, cells := 0, slots := 0, locals := 61 } : Room).slots) := by
  refine MetFree.of_bodySF (plainFor_of_name pn_5d98e9f) hisR ?_
  intro p e s m args below meth c s₁ Bd hml0 hP hK
  obtain ⟨rfl, hZ, hh⟩ := hP
  have hx := Bd.exec
  have hby := Bd.bytes
  have hml : c.maxLocals = 2 := hml0
  have hown : s.vm.findClass "java/lang/StringBuilder" = some m.cls := findClass_of_methodNamed Bd.named
  have hnm := (name_of_methodNamed Bd.named Bd.method).1
  have X0 : Stand p l e ({ frames := 4, cells := 0, slots := 0, locals := 61 } : Room) s m #[(.ref b), (.ref x)] below meth c s₁ [] 0 0 := Stand.of_body Bd
  have e0 : s₁.heap = h0 := by rw [← hh, Bd.state]; rfl
  have N0 := Fr.nil n0
  have K0 : Keep h0 h0 [b, vb] := Keep.refl h0 [b, vb]
  show Go p e below (s₁.setTop (entryFrame m #[(.ref b), (.ref x)] 2)) (EndN s (Q_rmApp Z b x t vb kt kv cs ds h0 n0) ({ frames := 4, cells := 0, slots := 0, locals := 61 } : Room).cells ({ frames := 4, cells := 0, slots := 0, locals := 61 } : Room).slots)
  refine Go.top (ef_22 m b x) ?_
  refine Go.st (T' := s₁.setTop (mkF m 1 #[.val (.ref b), .val (.ref x)] [(.ref b)])) (fun zt zk => XS.aloadN X0.here hx rfl (hb hby d22_0) rfl rfl zk) ?_
  refine Go.st (T' := s₁.setTop (mkF m 2 #[.val (.ref b), .val (.ref x)] [(.ref x), (.ref b)])) (fun zt zk => XS.aloadN X0.here hx rfl (hb hby d22_1) rfl rfl zk) ?_
  obtain ⟨vr229, _, ⟨T229, L229, k229, n229⟩, -, X229, ⟨Lc229, hQ229, l229, y229, z229⟩, st229⟩ := superBack X0 hx hZ (y := (⟨"java/lang/AbstractStringBuilder", "append", "(Ljava/lang/String;)Ljava/lang/AbstractStringBuilder;"⟩ : MethodName)) hown (hw _ (List.mem_of_getElem? (i := 171) rfl)) (own_sel (hw _ (List.mem_of_getElem? (i := 172) rfl)) (hw _ (List.mem_of_getElem? (i := 229) rfl)) rfl (by decide)) (hw _ (List.mem_of_getElem? (i := 172) rfl)) (hw _ (List.mem_of_getElem? (i := 173) rfl)) (by decide) (backOf (W := 0) (rmASa l Z a0 hw b x t vb kt kv cs ds h0 n0 Z0 G1 O2 P5 X00 Es Fsv Fsc Fsn Vs Ex Vx Cx Bx hpx g_vb hlen g_b nbv) hZ (hw _ (List.mem_of_getElem? (i := 175) rfl)) (hw _ (List.mem_of_getElem? (i := 158) rfl)) (by decide) (by decide)) e0 (Ins.self Es) (g := (mkF m 2 #[.val (.ref b), .val (.ref x)] [(.ref x), (.ref b)])) rfl (by rw [hml]; rfl) (hw _ (List.mem_of_getElem? (i := 175) rfl)) (argsL := [(.ref x)]) (rest := []) (lenOf pd_41d2840 rfl) rfl (by show 2 * 0 + _ ≤ _; exact Nat.le_of_eq rfl) (hb hby d22_2) (fun _ _ => ⟨rfl, e0, (by decide : 0 + 0 ≤ _), (by decide : 0 + 0 ≤ _)⟩)
  dsimp only [Pt.U, Pt.locs, Pt.cells, Pt.slots] at X229 l229 y229 z229 st229 hQ229
  subst l229 y229 z229
  obtain ⟨rfl, Nq229, Kq229, Rq229⟩ := hQ229
  have KK230 : Keep h0 T229.heap [b, vb] := K0.trans Kq229 (allS (Or.inl (List.mem_of_getElem? (i := 0) rfl)) (allS (Or.inl (List.mem_of_getElem? (i := 1) rfl)) all0))
  have NN231 := Fr.app N0 Nq229
  refine Go.st (T' := T229.setTop (mkF m 5 #[.val (.ref b), .val (.ref x)] [(.ref b)])) (fun zt zk => st229.trans zk) ?_
  refine Go.st (T' := T229.setTop (mkF m 6 #[.val (.ref b), .val (.ref x)] [])) (fun zt zk => XS.pop X229.here hx rfl (hb hby d22_5) rfl rfl zk) ?_
  refine Go.st (T' := T229.setTop (mkF m 7 #[.val (.ref b), .val (.ref x)] [(.ref b)])) (fun zt zk => XS.aloadN X229.here hx rfl (hb hby d22_6) rfl rfl zk) ?_
  exact Go.done X229 Bd.notSynchronized (v := some (.ref b)) (fun h => by rw [Bd.returns] at h; cases h) (fun fs hr => retA X229 hx Bd.returns rfl rfl rfl (hb hby d22_7) hr) (by rw [(rfl : T229.heap = T229.heap)]; exact ⟨rfl, NN231, KK230, Rq229⟩) (by decide) (by decide)
theorem d33_0 : decode jdk_68_method_64_code 0 = .ok (.aload_n 0, 1) := by decide +kernel
theorem d33_1 : decode jdk_68_method_64_code 1 = .ok (.getfield 15, 3) := by decide +kernel
theorem d33_4 : decode jdk_68_method_64_code 4 = .ok (.areturn, 1) := by decide +kernel
theorem ef_33 (m : MethodId) (x0 : Addr) : entryFrame m #[(.ref x0)] 1 = mkF m 0 #[.val (.ref x0)] [] := by first | (simp [entryFrame, mkF, argsToLocals, Value.category]; done) | rfl
def Q_rmGV (Z : State) (b : Addr) (vb : Addr) (h0 : Heap) (n0 : Nat) (v : Option Value) (h : Heap) (L : List Loc) : Prop := v = some (.ref vb) ∧ Fr n0 L ∧ h = h0
set_option maxRecDepth 65536 in
set_option maxHeartbeats 40000000 in
theorem rmGV (l : Launch) (Z : State) (a0 : Array Value) (hw : ∀ d ∈ tables_1, d.before a0 Z = true) (b : Addr) (vb : Addr) (h0 : Heap) (n0 : Nat) (Z0 : n0 ≤ h0.size) (F1 : Fld Z h0 b "java/lang/AbstractStringBuilder" "value" "[B" (.ref vb)) :
    MetFree l (⟨"java/lang/AbstractStringBuilder", "getValue", "()[B"⟩ : MethodName) (head1 [Jvm.Cond.code (⟨"java/lang/AbstractStringBuilder", "getValue", "()[B"⟩ : MethodName) jdk_68_method_64_code 1 (some (.array .byte))] ({ frames := 0, cells := 0, slots := 0, locals := 0 } : Room)) (fun a U => a = #[(.ref b)] ∧ Z.Warmed39 U.vm ∧ U.heap = h0) (fun _ _ _ _ _ => True) (fun _ U o U' => ∃ v L, o = .returned v ∧ (Q_rmGV Z b vb h0 n0) v U'.heap L ∧ FrameEnd U o U' L ({ frames := 0, cells := 0, slots := 0, locals := 0 } : Room).cells ({ frames := 0, cells := 0, slots := 0, locals := 0 } : Room).slots) := by
  refine MetFree.of_bodySF (plainFor_of_name pn_f7a11f1) hisR ?_
  intro p e s m args below meth c s₁ Bd hml0 hP hK
  obtain ⟨rfl, hZ, hh⟩ := hP
  have hx := Bd.exec
  have hby := Bd.bytes
  have hml : c.maxLocals = 1 := hml0
  have hown : s.vm.findClass "java/lang/AbstractStringBuilder" = some m.cls := findClass_of_methodNamed Bd.named
  have hnm := (name_of_methodNamed Bd.named Bd.method).1
  have X0 : Stand p l e ({ frames := 0, cells := 0, slots := 0, locals := 0 } : Room) s m #[(.ref b)] below meth c s₁ [] 0 0 := Stand.of_body Bd
  have e0 : s₁.heap = h0 := by rw [← hh, Bd.state]; rfl
  have N0 := Fr.nil n0
  have K0 : Keep h0 h0 [] := Keep.refl h0 []
  show Go p e below (s₁.setTop (entryFrame m #[(.ref b)] 1)) (EndN s (Q_rmGV Z b vb h0 n0) ({ frames := 0, cells := 0, slots := 0, locals := 0 } : Room).cells ({ frames := 0, cells := 0, slots := 0, locals := 0 } : Room).slots)
  refine Go.top (ef_33 m b) ?_
  refine Go.st (T' := s₁.setTop (mkF m 1 #[.val (.ref b)] [(.ref b)])) (fun zt zk => XS.aloadN X0.here hx rfl (hb hby d33_0) rfl rfl zk) ?_
  obtain ⟨T232, X232, e232, st232⟩ := getF X0 hx hZ hown (host := "") (Or.inl (hw _ (List.mem_of_getElem? (i := 162) rfl))) Via.refl e0 F1 (g := (mkF m 1 #[.val (.ref b)] [(.ref b)])) rfl rfl (hb hby d33_1)
  refine Go.st (T' := T232.setTop (mkF m 4 #[.val (.ref b)] [(.ref vb)])) (fun zt zk => st232 zt zk) ?_
  exact Go.done X232 Bd.notSynchronized (v := some (.ref vb)) (fun h => by rw [Bd.returns] at h; cases h) (fun fs hr => retA X232 hx Bd.returns rfl rfl rfl (hb hby d33_4) hr) (by rw [e232]; exact ⟨rfl, N0, rfl⟩) (by decide) (by decide)
theorem d35_0 : decode jdk_68_method_6_code 0 = .ok (.aload_n 0, 1) := by decide +kernel
theorem d35_1 : decode jdk_68_method_6_code 1 = .ok (.getfield 79, 3) := by decide +kernel
theorem d35_4 : decode jdk_68_method_6_code 4 = .ok (.ireturn, 1) := by decide +kernel
theorem ef_35 (m : MethodId) (x0 : Addr) : entryFrame m #[(.ref x0)] 1 = mkF m 0 #[.val (.ref x0)] [] := by first | (simp [entryFrame, mkF, argsToLocals, Value.category]; done) | rfl
def Q_rmLn (Z : State) (b : Addr) (pn : Int32) (h0 : Heap) (n0 : Nat) (v : Option Value) (h : Heap) (L : List Loc) : Prop := v = some (.int pn) ∧ Fr n0 L ∧ h = h0
set_option maxRecDepth 65536 in
set_option maxHeartbeats 40000000 in
theorem rmLn (l : Launch) (Z : State) (a0 : Array Value) (hw : ∀ d ∈ tables_1, d.before a0 Z = true) (b : Addr) (pn : Int32) (h0 : Heap) (n0 : Nat) (Z0 : n0 ≤ h0.size) (F1 : Fld Z h0 b "java/lang/AbstractStringBuilder" "count" "I" (.int pn)) :
    MetFree l (⟨"java/lang/AbstractStringBuilder", "length", "()I"⟩ : MethodName) (head1 [Jvm.Cond.code (⟨"java/lang/AbstractStringBuilder", "length", "()I"⟩ : MethodName) jdk_68_method_6_code 1 (some .int)] ({ frames := 0, cells := 0, slots := 0, locals := 0 } : Room)) (fun a U => a = #[(.ref b)] ∧ Z.Warmed39 U.vm ∧ U.heap = h0) (fun _ _ _ _ _ => True) (fun _ U o U' => ∃ v L, o = .returned v ∧ (Q_rmLn Z b pn h0 n0) v U'.heap L ∧ FrameEnd U o U' L ({ frames := 0, cells := 0, slots := 0, locals := 0 } : Room).cells ({ frames := 0, cells := 0, slots := 0, locals := 0 } : Room).slots) := by
  refine MetFree.of_bodySF (plainFor_of_name pn_f7a11f1) hisR ?_
  intro p e s m args below meth c s₁ Bd hml0 hP hK
  obtain ⟨rfl, hZ, hh⟩ := hP
  have hx := Bd.exec
  have hby := Bd.bytes
  have hml : c.maxLocals = 1 := hml0
  have hown : s.vm.findClass "java/lang/AbstractStringBuilder" = some m.cls := findClass_of_methodNamed Bd.named
  have hnm := (name_of_methodNamed Bd.named Bd.method).1
  have X0 : Stand p l e ({ frames := 0, cells := 0, slots := 0, locals := 0 } : Room) s m #[(.ref b)] below meth c s₁ [] 0 0 := Stand.of_body Bd
  have e0 : s₁.heap = h0 := by rw [← hh, Bd.state]; rfl
  have N0 := Fr.nil n0
  have K0 : Keep h0 h0 [] := Keep.refl h0 []
  show Go p e below (s₁.setTop (entryFrame m #[(.ref b)] 1)) (EndN s (Q_rmLn Z b pn h0 n0) ({ frames := 0, cells := 0, slots := 0, locals := 0 } : Room).cells ({ frames := 0, cells := 0, slots := 0, locals := 0 } : Room).slots)
  refine Go.top (ef_35 m b) ?_
  refine Go.st (T' := s₁.setTop (mkF m 1 #[.val (.ref b)] [(.ref b)])) (fun zt zk => XS.aloadN X0.here hx rfl (hb hby d35_0) rfl rfl zk) ?_
  obtain ⟨T233, X233, e233, st233⟩ := getF X0 hx hZ hown (host := "") (Or.inl (hw _ (List.mem_of_getElem? (i := 186) rfl))) Via.refl e0 F1 (g := (mkF m 1 #[.val (.ref b)] [(.ref b)])) rfl rfl (hb hby d35_1)
  refine Go.st (T' := T233.setTop (mkF m 4 #[.val (.ref b)] [(.int pn)])) (fun zt zk => st233 zt zk) ?_
  exact Go.done X233 Bd.notSynchronized (v := some (.int pn)) (fun h => by rw [Bd.returns] at h; cases h) (fun fs hr => retI X233 hx Bd.returns (hb hby d35_4) hr) (by rw [e233]; exact ⟨rfl, N0, rfl⟩) (by decide) (by decide)
theorem d34_0 : decode jdk_67_method_93_code 0 = .ok (.aload_n 0, 1) := by decide +kernel
theorem d34_1 : decode jdk_67_method_93_code 1 = .ok (.invokespecial 343, 3) := by decide +kernel
theorem d34_4 : decode jdk_67_method_93_code 4 = .ok (.ireturn, 1) := by decide +kernel
theorem ef_34 (m : MethodId) (x0 : Addr) : entryFrame m #[(.ref x0)] 1 = mkF m 0 #[.val (.ref x0)] [] := by first | (simp [entryFrame, mkF, argsToLocals, Value.category]; done) | rfl
def Q_rmSL (Z : State) (b : Addr) (pn : Int32) (h0 : Heap) (n0 : Nat) (v : Option Value) (h : Heap) (L : List Loc) : Prop := v = some (.int pn) ∧ Fr n0 L ∧ h = h0
set_option maxRecDepth 65536 in
set_option maxHeartbeats 40000000 in
theorem rmSL (l : Launch) (Z : State) (a0 : Array Value) (hw : ∀ d ∈ tables_1, d.before a0 Z = true) (b : Addr) (pn : Int32) (h0 : Heap) (n0 : Nat) (Z0 : n0 ≤ h0.size) (Es : Exa Z h0 b "java/lang/StringBuilder") (F1 : Fld Z h0 b "java/lang/AbstractStringBuilder" "count" "I" (.int pn)) :
    MetFree l (⟨"java/lang/StringBuilder", "length", "()I"⟩ : MethodName) (head1 [Jvm.Cond.code (⟨"java/lang/StringBuilder", "length", "()I"⟩ : MethodName) jdk_67_method_93_code 1 (some .int)] ({ frames := 1, cells := 0, slots := 0, locals := 12 } : Room)) (fun a U => a = #[(.ref b)] ∧ Z.Warmed39 U.vm ∧ U.heap = h0) (fun _ _ _ _ _ => True) (fun _ U o U' => ∃ v L, o = .returned v ∧ (Q_rmSL Z b pn h0 n0) v U'.heap L ∧ FrameEnd U o U' L ({ frames := 1, cells := 0, slots := 0, locals := 12 } : Room).cells ({ frames := 1, cells := 0, slots := 0, locals := 12 } : Room).slots) := by
  refine MetFree.of_bodySF (plainFor_of_name pn_5d98e9f) hisR ?_
  intro p e s m args below meth c s₁ Bd hml0 hP hK
  obtain ⟨rfl, hZ, hh⟩ := hP
  have hx := Bd.exec
  have hby := Bd.bytes
  have hml : c.maxLocals = 1 := hml0
  have hown : s.vm.findClass "java/lang/StringBuilder" = some m.cls := findClass_of_methodNamed Bd.named
  have hnm := (name_of_methodNamed Bd.named Bd.method).1
  have X0 : Stand p l e ({ frames := 1, cells := 0, slots := 0, locals := 12 } : Room) s m #[(.ref b)] below meth c s₁ [] 0 0 := Stand.of_body Bd
  have e0 : s₁.heap = h0 := by rw [← hh, Bd.state]; rfl
  have N0 := Fr.nil n0
  have K0 : Keep h0 h0 [] := Keep.refl h0 []
  show Go p e below (s₁.setTop (entryFrame m #[(.ref b)] 1)) (EndN s (Q_rmSL Z b pn h0 n0) ({ frames := 1, cells := 0, slots := 0, locals := 12 } : Room).cells ({ frames := 1, cells := 0, slots := 0, locals := 12 } : Room).slots)
  refine Go.top (ef_34 m b) ?_
  refine Go.st (T' := s₁.setTop (mkF m 1 #[.val (.ref b)] [(.ref b)])) (fun zt zk => XS.aloadN X0.here hx rfl (hb hby d34_0) rfl rfl zk) ?_
  obtain ⟨vr234, _, ⟨T234, L234, k234, n234⟩, -, X234, ⟨Lc234, hQ234, l234, y234, z234⟩, st234⟩ := superBack X0 hx hZ (y := (⟨"java/lang/AbstractStringBuilder", "length", "()I"⟩ : MethodName)) hown (hw _ (List.mem_of_getElem? (i := 237) rfl)) (own_sel (hw _ (List.mem_of_getElem? (i := 233) rfl)) (hw _ (List.mem_of_getElem? (i := 229) rfl)) rfl (by decide)) (hw _ (List.mem_of_getElem? (i := 233) rfl)) (hw _ (List.mem_of_getElem? (i := 173) rfl)) (by decide) (backOf (W := 0) (rmLn l Z a0 hw b pn h0 n0 Z0 F1) hZ (hw _ (List.mem_of_getElem? (i := 238) rfl)) (hw _ (List.mem_of_getElem? (i := 158) rfl)) (by decide) (by decide)) e0 (Ins.self Es) (g := (mkF m 1 #[.val (.ref b)] [(.ref b)])) rfl (by rw [hml]; rfl) (hw _ (List.mem_of_getElem? (i := 238) rfl)) (argsL := []) (rest := []) (lenOf pd_a8eac rfl) rfl (by show 2 * 0 + _ ≤ _; exact Nat.le_of_eq rfl) (hb hby d34_1) (fun _ _ => ⟨rfl, e0, (by decide : 0 + 0 ≤ _), (by decide : 0 + 0 ≤ _)⟩)
  dsimp only [Pt.U, Pt.locs, Pt.cells, Pt.slots] at X234 l234 y234 z234 st234 hQ234
  subst l234 y234 z234
  obtain ⟨rfl, Nq234, eq234⟩ := hQ234
  have NN235 := Fr.app N0 Nq234
  refine Go.st (T' := T234.setTop (mkF m 4 #[.val (.ref b)] [(.int pn)])) (fun zt zk => st234.trans zk) ?_
  exact Go.done X234 Bd.notSynchronized (v := some (.int pn)) (fun h => by rw [Bd.returns] at h; cases h) (fun fs hr => retI X234 hx Bd.returns (hb hby d34_4) hr) (by rw [eq234]; exact ⟨rfl, NN235, rfl⟩) (by decide) (by decide)
theorem d36_0 : decode jdk_68_method_68_code 0 = .ok (.getstatic 18, 3) := by decide +kernel
theorem d36_3 : decode jdk_68_method_68_code 3 = .ok (.ifCond .eq 14, 3) := by decide +kernel
theorem d36_6 : decode jdk_68_method_68_code 6 = .ok (.aload_n 0, 1) := by decide +kernel
theorem d36_7 : decode jdk_68_method_68_code 7 = .ok (.getfield 22, 3) := by decide +kernel
theorem d36_10 : decode jdk_68_method_68_code 10 = .ok (.ifCond .ne 7, 3) := by decide +kernel
theorem d36_13 : decode jdk_68_method_68_code 13 = .ok (.iconst 1, 1) := by decide +kernel
theorem d36_14 : decode jdk_68_method_68_code 14 = .ok (.goto 4, 3) := by decide +kernel
theorem d36_18 : decode jdk_68_method_68_code 18 = .ok (.ireturn, 1) := by decide +kernel
theorem ef_36 (m : MethodId) (x0 : Addr) : entryFrame m #[(.ref x0)] 1 = mkF m 0 #[.val (.ref x0)] [] := by first | (simp [entryFrame, mkF, argsToLocals, Value.category]; done) | rfl
def Q_rmIL (Z : State) (b : Addr) (h0 : Heap) (n0 : Nat) (v : Option Value) (h : Heap) (L : List Loc) : Prop := v = some (.int (1 : Int32)) ∧ Fr n0 L ∧ h = h0
set_option maxRecDepth 65536 in
set_option maxHeartbeats 40000000 in
theorem rmIL (l : Launch) (Z : State) (a0 : Array Value) (hw : ∀ d ∈ tables_1, d.before a0 Z = true) (b : Addr) (h0 : Heap) (n0 : Nat) (Z0 : n0 ≤ h0.size) (G1 : Int32) (O2 : Sta Z Z.heap "java/lang/String" "COMPACT_STRINGS" "Z" (.int G1)) (P5 : ¬ (G1 = (0 : Int32))) (X00 : Old Z n0 h0) (F1 : Fld Z h0 b "java/lang/AbstractStringBuilder" "coder" "B" (.int (0 : Int32))) :
    MetFree l (⟨"java/lang/AbstractStringBuilder", "isLatin1", "()Z"⟩ : MethodName) (head1 [Jvm.Cond.code (⟨"java/lang/AbstractStringBuilder", "isLatin1", "()Z"⟩ : MethodName) jdk_68_method_68_code 1 (some .boolean)] ({ frames := 0, cells := 0, slots := 0, locals := 0 } : Room)) (fun a U => a = #[(.ref b)] ∧ Z.Warmed39 U.vm ∧ U.heap = h0) (fun _ _ _ _ _ => True) (fun _ U o U' => ∃ v L, o = .returned v ∧ (Q_rmIL Z b h0 n0) v U'.heap L ∧ FrameEnd U o U' L ({ frames := 0, cells := 0, slots := 0, locals := 0 } : Room).cells ({ frames := 0, cells := 0, slots := 0, locals := 0 } : Room).slots) := by
  refine MetFree.of_bodySF (plainFor_of_name pn_f7a11f1) hisR ?_
  intro p e s m args below meth c s₁ Bd hml0 hP hK
  obtain ⟨rfl, hZ, hh⟩ := hP
  have hx := Bd.exec
  have hby := Bd.bytes
  have hml : c.maxLocals = 1 := hml0
  have hown : s.vm.findClass "java/lang/AbstractStringBuilder" = some m.cls := findClass_of_methodNamed Bd.named
  have hnm := (name_of_methodNamed Bd.named Bd.method).1
  have X0 : Stand p l e ({ frames := 0, cells := 0, slots := 0, locals := 0 } : Room) s m #[(.ref b)] below meth c s₁ [] 0 0 := Stand.of_body Bd
  have e0 : s₁.heap = h0 := by rw [← hh, Bd.state]; rfl
  have N0 := Fr.nil n0
  have K0 : Keep h0 h0 [] := Keep.refl h0 []
  show Go p e below (s₁.setTop (entryFrame m #[(.ref b)] 1)) (EndN s (Q_rmIL Z b h0 n0) ({ frames := 0, cells := 0, slots := 0, locals := 0 } : Room).cells ({ frames := 0, cells := 0, slots := 0, locals := 0 } : Room).slots)
  refine Go.top (ef_36 m b) ?_
  obtain ⟨T236, X236, e236, st236⟩ := getS (host := "") X0 hx hZ hown (hw _ (List.mem_of_getElem? (i := 161) rfl)) Via.refl e0 (O2.ext (X00.keep K0 all0).2) (g := (mkF m 0 #[.val (.ref b)] [])) rfl (hb hby d36_0)
  refine Go.st (T' := T236.setTop (mkF m 3 #[.val (.ref b)] [(.int G1)])) (fun zt zk => st236 zt zk) ?_
  refine Go.st (T' := T236.setTop (mkF m 6 #[.val (.ref b)] [])) (fun zt zk => XS.ifNo X236.here hx rfl (hb hby d36_3) rfl ((if0 _ _).trans (feq P5).1) zk) ?_
  refine Go.st (T' := T236.setTop (mkF m 7 #[.val (.ref b)] [(.ref b)])) (fun zt zk => XS.aloadN X236.here hx rfl (hb hby d36_6) rfl rfl zk) ?_
  obtain ⟨T237, X237, e237, st237⟩ := getF X236 hx hZ hown (host := "") (Or.inl (hw _ (List.mem_of_getElem? (i := 164) rfl))) Via.refl e236 F1 (g := (mkF m 7 #[.val (.ref b)] [(.ref b)])) rfl rfl (hb hby d36_7)
  refine Go.st (T' := T237.setTop (mkF m 10 #[.val (.ref b)] [(.int (0 : Int32))])) (fun zt zk => st237 zt zk) ?_
  refine Go.st (T' := T237.setTop (mkF m 13 #[.val (.ref b)] [])) (fun zt zk => XS.ifNo X237.here hx rfl (hb hby d36_10) rfl ((if0 _ _).trans (teq (by decide)).2) zk) ?_
  refine Go.st (T' := T237.setTop (mkF m 14 #[.val (.ref b)] [(.int (1 : Int32))])) (fun zt zk => XS.iconst X237.here hx rfl (hb hby d36_13) zk) ?_
  refine Go.st (T' := T237.setTop (mkF m 18 #[.val (.ref b)] [(.int (1 : Int32))])) (fun zt zk => XS.goto X237.here hx rfl (pc0 := 14) (pc' := 18) rfl (hb hby d36_14) (by decide) (by decide) zk) ?_
  exact Go.done X237 Bd.notSynchronized (v := some (.int (nar .boolean (1 : Int32)))) (fun h => by rw [Bd.returns] at h; cases h) (fun fs hr => retN X237 hx (t := .boolean) Bd.returns (by simp) (hb hby d36_18) hr) (by rw [e237]; exact ⟨rfl, N0, rfl⟩) (by decide) (by decide)
theorem d39_0 : decode jdk_65_method_131_code 0 = .ok (.iload_n 1, 1) := by decide +kernel
theorem d39_1 : decode jdk_65_method_131_code 1 = .ok (.iload_n 0, 1) := by decide +kernel
theorem d39_2 : decode jdk_65_method_131_code 2 = .ok (.if_icmp .ge 35, 3) := by decide +kernel
theorem d39_37 : decode jdk_65_method_131_code 37 = .ok (.return_, 1) := by decide +kernel
theorem pn_f3ac3a5 : plainName "java/util/Arrays" = true := by first | (simp [plainName, overriddenIn]; done) | decide +kernel
theorem ef_39 (m : MethodId) (x0 : Int32) (x1 : Int32) : entryFrame m #[(.int x0), (.int x1)] 2 = mkF m 0 #[.val (.int x0), .val (.int x1)] [] := by first | (simp [entryFrame, mkF, argsToLocals, Value.category]; done) | rfl
def Q_rmCk (Z : State) (nm : Nat) (h0 : Heap) (n0 : Nat) (v : Option Value) (h : Heap) (L : List Loc) : Prop := v = none ∧ Fr n0 L ∧ h = h0
set_option maxRecDepth 65536 in
set_option maxHeartbeats 40000000 in
theorem rmCk (l : Launch) (Z : State) (a0 : Array Value) (hw : ∀ d ∈ tables_1, d.before a0 Z = true) (nm : Nat) (h0 : Heap) (n0 : Nat) (Z0 : n0 ≤ h0.size) (hm : nm ≤ 16) :
    MetFree l (⟨"java/util/Arrays", "checkLength", "(II)V"⟩ : MethodName) (head1 [Jvm.Cond.code (⟨"java/util/Arrays", "checkLength", "(II)V"⟩ : MethodName) jdk_65_method_131_code 2 none] ({ frames := 0, cells := 0, slots := 0, locals := 0 } : Room)) (fun a U => a = #[(.int (0 : Int32)), (.int (Int32.ofNat nm))] ∧ Z.Warmed39 U.vm ∧ U.heap = h0) (fun _ _ _ _ _ => True) (fun _ U o U' => ∃ v L, o = .returned v ∧ (Q_rmCk Z nm h0 n0) v U'.heap L ∧ FrameEnd U o U' L ({ frames := 0, cells := 0, slots := 0, locals := 0 } : Room).cells ({ frames := 0, cells := 0, slots := 0, locals := 0 } : Room).slots) := by
  refine MetFree.of_bodySF (plainFor_of_name pn_f3ac3a5) hisR ?_
  intro p e s m args below meth c s₁ Bd hml0 hP hK
  obtain ⟨rfl, hZ, hh⟩ := hP
  have hx := Bd.exec
  have hby := Bd.bytes
  have hml : c.maxLocals = 2 := hml0
  have hown : s.vm.findClass "java/util/Arrays" = some m.cls := findClass_of_methodNamed Bd.named
  have hnm := (name_of_methodNamed Bd.named Bd.method).1
  have X0 : Stand p l e ({ frames := 0, cells := 0, slots := 0, locals := 0 } : Room) s m #[(.int (0 : Int32)), (.int (Int32.ofNat nm))] below meth c s₁ [] 0 0 := Stand.of_body Bd
  have e0 : s₁.heap = h0 := by rw [← hh, Bd.state]; rfl
  have N0 := Fr.nil n0
  have K0 : Keep h0 h0 [] := Keep.refl h0 []
  show Go p e below (s₁.setTop (entryFrame m #[(.int (0 : Int32)), (.int (Int32.ofNat nm))] 2)) (EndN s (Q_rmCk Z nm h0 n0) ({ frames := 0, cells := 0, slots := 0, locals := 0 } : Room).cells ({ frames := 0, cells := 0, slots := 0, locals := 0 } : Room).slots)
  refine Go.top (ef_39 m (0 : Int32) (Int32.ofNat nm)) ?_
  refine Go.st (T' := s₁.setTop (mkF m 1 #[.val (.int (0 : Int32)), .val (.int (Int32.ofNat nm))] [(.int (Int32.ofNat nm))])) (fun zt zk => XS.iloadN X0.here hx rfl (hb hby d39_0) rfl zk) ?_
  refine Go.st (T' := s₁.setTop (mkF m 2 #[.val (.int (0 : Int32)), .val (.int (Int32.ofNat nm))] [(.int (0 : Int32)), (.int (Int32.ofNat nm))])) (fun zt zk => XS.iloadN X0.here hx rfl (hb hby d39_1) rfl zk) ?_
  refine Go.st (T' := s₁.setTop (mkF m 37 #[.val (.int (0 : Int32)), .val (.int (Int32.ofNat nm))] [])) (fun zt zk => XS.icmpYes X0.here hx rfl (pc0 := 2) (pc' := 37) rfl (hb hby d39_2) rfl (flt (own_nn (by omega))).2.1 (by decide) (by decide) zk) ?_
  exact Go.done X0 Bd.notSynchronized (v := none) (fun _ => rfl) (fun fs hr => X0.returnOut hx Bd.returns (hb hby d39_37) hr) (by rw [e0]; exact ⟨rfl, N0, rfl⟩) (by decide) (by decide)
theorem d40_0 : decode jdk_29_method_69_code 0 = .ok (.iload_n 0, 1) := by decide +kernel
theorem d40_1 : decode jdk_29_method_69_code 1 = .ok (.iload_n 1, 1) := by decide +kernel
theorem d40_2 : decode jdk_29_method_69_code 2 = .ok (.if_icmp .gt 7, 3) := by decide +kernel
theorem d40_9 : decode jdk_29_method_69_code 9 = .ok (.iload_n 1, 1) := by decide +kernel
theorem d40_10 : decode jdk_29_method_69_code 10 = .ok (.ireturn, 1) := by decide +kernel
theorem pf_40 : plainFor (⟨"java/lang/Math", "min", "(II)I"⟩ : MethodName) = true := by decide +kernel
theorem ef_40 (m : MethodId) (x0 : Int32) (x1 : Int32) : entryFrame m #[(.int x0), (.int x1)] 2 = mkF m 0 #[.val (.int x0), .val (.int x1)] [] := by first | (simp [entryFrame, mkF, argsToLocals, Value.category]; done) | rfl
def Q_rmMin (Z : State) (p1 p2 : Int32) (h0 : Heap) (n0 : Nat) (v : Option Value) (h : Heap) (L : List Loc) : Prop := v = some (.int p2) ∧ Fr n0 L ∧ h = h0
set_option maxRecDepth 65536 in
set_option maxHeartbeats 40000000 in
theorem rmMin (l : Launch) (Z : State) (a0 : Array Value) (hw : ∀ d ∈ tables_1, d.before a0 Z = true) (p1 p2 : Int32) (h0 : Heap) (n0 : Nat) (Z0 : n0 ≤ h0.size) (hm : p2 < p1) :
    MetFree l (⟨"java/lang/Math", "min", "(II)I"⟩ : MethodName) (head1 [Jvm.Cond.code (⟨"java/lang/Math", "min", "(II)I"⟩ : MethodName) jdk_29_method_69_code 2 (some .int)] ({ frames := 0, cells := 0, slots := 0, locals := 0 } : Room)) (fun a U => a = #[(.int p1), (.int p2)] ∧ Z.Warmed39 U.vm ∧ U.heap = h0) (fun _ _ _ _ _ => True) (fun _ U o U' => ∃ v L, o = .returned v ∧ (Q_rmMin Z p1 p2 h0 n0) v U'.heap L ∧ FrameEnd U o U' L ({ frames := 0, cells := 0, slots := 0, locals := 0 } : Room).cells ({ frames := 0, cells := 0, slots := 0, locals := 0 } : Room).slots) := by
  refine MetFree.of_bodySF pf_40 hisR ?_
  intro p e s m args below meth c s₁ Bd hml0 hP hK
  obtain ⟨rfl, hZ, hh⟩ := hP
  have hx := Bd.exec
  have hby := Bd.bytes
  have hml : c.maxLocals = 2 := hml0
  have hown : s.vm.findClass "java/lang/Math" = some m.cls := findClass_of_methodNamed Bd.named
  have hnm := (name_of_methodNamed Bd.named Bd.method).1
  have X0 : Stand p l e ({ frames := 0, cells := 0, slots := 0, locals := 0 } : Room) s m #[(.int p1), (.int p2)] below meth c s₁ [] 0 0 := Stand.of_body Bd
  have e0 : s₁.heap = h0 := by rw [← hh, Bd.state]; rfl
  have N0 := Fr.nil n0
  have K0 : Keep h0 h0 [] := Keep.refl h0 []
  show Go p e below (s₁.setTop (entryFrame m #[(.int p1), (.int p2)] 2)) (EndN s (Q_rmMin Z p1 p2 h0 n0) ({ frames := 0, cells := 0, slots := 0, locals := 0 } : Room).cells ({ frames := 0, cells := 0, slots := 0, locals := 0 } : Room).slots)
  refine Go.top (ef_40 m p1 p2) ?_
  refine Go.st (T' := s₁.setTop (mkF m 1 #[.val (.int p1), .val (.int p2)] [(.int p1)])) (fun zt zk => XS.iloadN X0.here hx rfl (hb hby d40_0) rfl zk) ?_
  refine Go.st (T' := s₁.setTop (mkF m 2 #[.val (.int p1), .val (.int p2)] [(.int p2), (.int p1)])) (fun zt zk => XS.iloadN X0.here hx rfl (hb hby d40_1) rfl zk) ?_
  refine Go.st (T' := s₁.setTop (mkF m 9 #[.val (.int p1), .val (.int p2)] [])) (fun zt zk => XS.icmpYes X0.here hx rfl (pc0 := 2) (pc' := 9) rfl (hb hby d40_2) rfl (tlt hm).2.2.1 (by decide) (by decide) zk) ?_
  refine Go.st (T' := s₁.setTop (mkF m 10 #[.val (.int p1), .val (.int p2)] [(.int p2)])) (fun zt zk => XS.iloadN X0.here hx rfl (hb hby d40_9) rfl zk) ?_
  exact Go.done X0 Bd.notSynchronized (v := some (.int p2)) (fun h => by rw [Bd.returns] at h; cases h) (fun fs hr => retI X0 hx Bd.returns (hb hby d40_10) hr) (by rw [e0]; exact ⟨rfl, N0, rfl⟩) (by decide) (by decide)
theorem d38_0 : decode jdk_65_method_133_code 0 = .ok (.iload_n 1, 1) := by decide +kernel
theorem d38_1 : decode jdk_65_method_133_code 1 = .ok (.iload_n 2, 1) := by decide +kernel
theorem d38_2 : decode jdk_65_method_133_code 2 = .ok (.invokestatic 343, 3) := by decide +kernel
theorem d38_5 : decode jdk_65_method_133_code 5 = .ok (.iload_n 2, 1) := by decide +kernel
theorem d38_6 : decode jdk_65_method_133_code 6 = .ok (.iload_n 1, 1) := by decide +kernel
theorem d38_7 : decode jdk_65_method_133_code 7 = .ok (.isub, 1) := by decide +kernel
theorem d38_8 : decode jdk_65_method_133_code 8 = .ok (.istore_n 3, 1) := by decide +kernel
theorem d38_9 : decode jdk_65_method_133_code 9 = .ok (.iload_n 3, 1) := by decide +kernel
theorem d38_10 : decode jdk_65_method_133_code 10 = .ok (.newarray .byte, 2) := by decide +kernel
theorem d38_12 : decode jdk_65_method_133_code 12 = .ok (.astore 4, 2) := by decide +kernel
theorem d38_14 : decode jdk_65_method_133_code 14 = .ok (.aload_n 0, 1) := by decide +kernel
theorem d38_15 : decode jdk_65_method_133_code 15 = .ok (.iload_n 1, 1) := by decide +kernel
theorem d38_16 : decode jdk_65_method_133_code 16 = .ok (.aload 4, 2) := by decide +kernel
theorem d38_18 : decode jdk_65_method_133_code 18 = .ok (.iconst 0, 1) := by decide +kernel
theorem d38_19 : decode jdk_65_method_133_code 19 = .ok (.aload_n 0, 1) := by decide +kernel
theorem d38_20 : decode jdk_65_method_133_code 20 = .ok (.arraylength, 1) := by decide +kernel
theorem d38_21 : decode jdk_65_method_133_code 21 = .ok (.iload_n 1, 1) := by decide +kernel
theorem d38_22 : decode jdk_65_method_133_code 22 = .ok (.isub, 1) := by decide +kernel
theorem d38_23 : decode jdk_65_method_133_code 23 = .ok (.iload_n 3, 1) := by decide +kernel
theorem d38_24 : decode jdk_65_method_133_code 24 = .ok (.invokestatic 304, 3) := by decide +kernel
theorem d38_27 : decode jdk_65_method_133_code 27 = .ok (.invokestatic 150, 3) := by decide +kernel
theorem d38_30 : decode jdk_65_method_133_code 30 = .ok (.aload 4, 2) := by decide +kernel
theorem d38_32 : decode jdk_65_method_133_code 32 = .ok (.areturn, 1) := by decide +kernel
theorem pd_7ffd0bd : parseMethodDescriptor "(II)V" = some ⟨[.int, .int], none⟩ := by decide +kernel
theorem pd_7ffd0b0 : parseMethodDescriptor "(II)I" = some ⟨[.int, .int], some .int⟩ := by decide +kernel
theorem ef_38 (m : MethodId) (x0 : Addr) (x1 : Int32) (x2 : Int32) : entryFrame m #[(.ref x0), (.int x1), (.int x2)] 5 = mkF m 0 #[.val (.ref x0), .val (.int x1), .val (.int x2), .unset, .unset] [] := by first | (simp [entryFrame, mkF, argsToLocals, Value.category]; done) | rfl
def Q_rmCRB (Z : State) (vb : Addr) (kv : ClassId) (cs : List Int32) (h0 : Heap) (n0 : Nat) (v : Option Value) (h : Heap) (L : List Loc) : Prop := Fr n0 L ∧ Keep h0 h [] ∧ ∃ (x : Addr) (k : ClassId), v = some (.ref x) ∧ h0.size ≤ x ∧ Arv Z h x k .byte (Int32.ofNat (cs).length) (((cs).map (fun c => c.toInt8.toInt32)).map Value.int) (.int (0 : Int32))
set_option maxRecDepth 65536 in
set_option maxHeartbeats 40000000 in
theorem rmCRB (l : Launch) (Z : State) (a0 : Array Value) (hw : ∀ d ∈ tables_1, d.before a0 Z = true) (vb : Addr) (kv : ClassId) (cs : List Int32) (h0 : Heap) (n0 : Nat) (Z0 : n0 ≤ h0.size) (Vs : Arv Z h0 vb kv .byte (16 : Int32) (own_buf cs) (.int (0 : Int32))) (hl : cs.length ≤ 13) :
    MetFree l (⟨"java/util/Arrays", "copyOfRangeByte", "([BII)[B"⟩ : MethodName) (head1 [Jvm.Cond.code (⟨"java/util/Arrays", "copyOfRangeByte", "([BII)[B"⟩ : MethodName) jdk_65_method_133_code 5 (some (.array .byte))] ({ frames := 1, cells := 1, slots := 13, locals := 18 } : Room)) (fun a U => a = #[(.ref vb), (.int (0 : Int32)), (.int (Int32.ofNat (cs).length))] ∧ Z.Warmed39 U.vm ∧ U.heap = h0) (fun _ _ _ _ _ => True) (fun _ U o U' => ∃ v L, o = .returned v ∧ (Q_rmCRB Z vb kv cs h0 n0) v U'.heap L ∧ FrameEnd U o U' L ({ frames := 1, cells := 1, slots := 13, locals := 18 } : Room).cells ({ frames := 1, cells := 1, slots := 13, locals := 18 } : Room).slots) := by
  refine MetFree.of_bodySF (plainFor_of_name pn_f3ac3a5) hisR ?_
  intro p e s m args below meth c s₁ Bd hml0 hP hK
  obtain ⟨rfl, hZ, hh⟩ := hP
  have hx := Bd.exec
  have hby := Bd.bytes
  have hml : c.maxLocals = 5 := hml0
  have hown : s.vm.findClass "java/util/Arrays" = some m.cls := findClass_of_methodNamed Bd.named
  have hnm := (name_of_methodNamed Bd.named Bd.method).1
  have X0 : Stand p l e ({ frames := 1, cells := 1, slots := 13, locals := 18 } : Room) s m #[(.ref vb), (.int (0 : Int32)), (.int (Int32.ofNat (cs).length))] below meth c s₁ [] 0 0 := Stand.of_body Bd
  have e0 : s₁.heap = h0 := by rw [← hh, Bd.state]; rfl
  have N0 := Fr.nil n0
  have K0 : Keep h0 h0 [] := Keep.refl h0 []
  show Go p e below (s₁.setTop (entryFrame m #[(.ref vb), (.int (0 : Int32)), (.int (Int32.ofNat (cs).length))] 5)) (EndN s (Q_rmCRB Z vb kv cs h0 n0) ({ frames := 1, cells := 1, slots := 13, locals := 18 } : Room).cells ({ frames := 1, cells := 1, slots := 13, locals := 18 } : Room).slots)
  refine Go.top (ef_38 m vb (0 : Int32) (Int32.ofNat (cs).length)) ?_
  refine Go.st (T' := s₁.setTop (mkF m 1 #[.val (.ref vb), .val (.int (0 : Int32)), .val (.int (Int32.ofNat (cs).length)), .unset, .unset] [(.int (0 : Int32))])) (fun zt zk => XS.iloadN X0.here hx rfl (hb hby d38_0) rfl zk) ?_
  refine Go.st (T' := s₁.setTop (mkF m 2 #[.val (.ref vb), .val (.int (0 : Int32)), .val (.int (Int32.ofNat (cs).length)), .unset, .unset] [(.int (Int32.ofNat (cs).length)), (.int (0 : Int32))])) (fun zt zk => XS.iloadN X0.here hx rfl (hb hby d38_1) rfl zk) ?_
  obtain ⟨vr238, _, ⟨T238, L238, k238, n238⟩, -, X238, ⟨Lc238, hQ238, l238, y238, z238⟩, st238⟩ := Jvm.LawKit.callS X0 hx (y := (⟨"java/util/Arrays", "checkLength", "(II)V"⟩ : MethodName)) hown (mvT hZ (hw _ (List.mem_of_getElem? (i := 251) rfl))) (mvT hZ (hw _ (List.mem_of_getElem? (i := 252) rfl))) (mvT hZ (hw _ (List.mem_of_getElem? (i := 246) rfl))) (mvT hZ (hw _ (List.mem_of_getElem? (i := 253) rfl))) (by decide) (backOf (W := 0) (rmCk l Z a0 hw (cs).length h0 n0 Z0 (by omega)) hZ (hw _ (List.mem_of_getElem? (i := 253) rfl)) (hw _ (List.mem_of_getElem? (i := 246) rfl)) (by decide) (by decide)) (g := (mkF m 2 #[.val (.ref vb), .val (.int (0 : Int32)), .val (.int (Int32.ofNat (cs).length)), .unset, .unset] [(.int (Int32.ofNat (cs).length)), (.int (0 : Int32))])) rfl (by rw [hml]; rfl) (argsL := [(.int (0 : Int32)), (.int (Int32.ofNat (cs).length))]) (rest := []) (lenOf pd_7ffd0bd rfl) rfl (by show 2 * 0 + _ ≤ _; exact Nat.le_of_eq rfl) (hb hby d38_2) (fun _ _ => ⟨rfl, e0, (by decide : 0 + 0 ≤ _), (by decide : 0 + 0 ≤ _)⟩)
  dsimp only [Pt.U, Pt.locs, Pt.cells, Pt.slots] at X238 l238 y238 z238 st238 hQ238
  subst l238 y238 z238
  obtain ⟨rfl, Nq238, eq238⟩ := hQ238
  have NN239 := Fr.app N0 Nq238
  refine Go.st (T' := T238.setTop (mkF m 5 #[.val (.ref vb), .val (.int (0 : Int32)), .val (.int (Int32.ofNat (cs).length)), .unset, .unset] [])) (fun zt zk => st238 zt zk) ?_
  refine Go.st (T' := T238.setTop (mkF m 6 #[.val (.ref vb), .val (.int (0 : Int32)), .val (.int (Int32.ofNat (cs).length)), .unset, .unset] [(.int (Int32.ofNat (cs).length))])) (fun zt zk => XS.iloadN X238.here hx rfl (hb hby d38_5) rfl zk) ?_
  refine Go.st (T' := T238.setTop (mkF m 7 #[.val (.ref vb), .val (.int (0 : Int32)), .val (.int (Int32.ofNat (cs).length)), .unset, .unset] [(.int (0 : Int32)), (.int (Int32.ofNat (cs).length))])) (fun zt zk => XS.iloadN X238.here hx rfl (hb hby d38_6) rfl zk) ?_
  refine Go.st (T' := T238.setTop (mkF m 8 #[.val (.ref vb), .val (.int (0 : Int32)), .val (.int (Int32.ofNat (cs).length)), .unset, .unset] [(.int ((Int32.ofNat (cs).length) - (0 : Int32)))])) (fun zt zk => XS.isub X238.here hx rfl (hb hby d38_7) rfl zk) ?_
  rw [own_sub0 (by omega)]
  refine Go.st (T' := T238.setTop (mkF m 9 #[.val (.ref vb), .val (.int (0 : Int32)), .val (.int (Int32.ofNat (cs).length)), .val (.int (Int32.ofNat (cs).length)), .unset] [])) (fun zt zk => XS.istoreN X238.here hx rfl (hb hby d38_8) rfl (l' := #[.val (.ref vb), .val (.int (0 : Int32)), .val (.int (Int32.ofNat (cs).length)), .val (.int (Int32.ofNat (cs).length)), .unset]) rfl zk) ?_
  refine Go.st (T' := T238.setTop (mkF m 10 #[.val (.ref vb), .val (.int (0 : Int32)), .val (.int (Int32.ofNat (cs).length)), .val (.int (Int32.ofNat (cs).length)), .unset] [(.int (Int32.ofNat (cs).length))])) (fun zt zk => XS.iloadN X238.here hx rfl (hb hby d38_9) rfl zk) ?_
  obtain ⟨T240, h240, k240, X240, e240, E240, A240, st240⟩ := newP X238 hx hZ (hw _ (List.mem_of_getElem? (i := 23) rfl)) eq238 (g := (mkF m 10 #[.val (.ref vb), .val (.int (0 : Int32)), .val (.int (Int32.ofNat (cs).length)), .val (.int (Int32.ofNat (cs).length)), .unset] [(.int (Int32.ofNat (cs).length))])) rfl (hb hby d38_10) rfl (own_nn (by omega)) (cap := 13) (by rw [own_clamp (by omega)]; exact hl) (by decide) (by decide) (by decide)
  obtain ⟨b240, g240⟩ : ∃ z, z = h0.size := ⟨_, rfl⟩
  rw [← g240] at A240 st240
  have g_b240 : n0 ≤ b240 := Nat.le_trans (Nat.le_trans Z0 K0.1) (Nat.le_of_eq g240.symm)
  have sz_b240 : h0.size ≤ b240 := Nat.le_trans K0.1 (Nat.le_of_eq g240.symm)
  have ne241 : vb ≠ b240 := Nat.ne_of_lt (Nat.lt_of_lt_of_le Vs.lt (Nat.le_of_eq g240.symm))
  have K240 : Keep h0 h240 [] := K0.ext E240
  have V240 : Arv Z h240 b240 k240 .byte (Int32.ofNat (cs).length) (List.replicate (cs).length (.int (0 : Int32))) (.int (0 : Int32)) := (Arv.new A240 (own_nn (by omega))).pad (pad_rep [] (.int (0 : Int32)) (cs).length)
  refine Go.st (T' := T240.setTop (mkF m 12 #[.val (.ref vb), .val (.int (0 : Int32)), .val (.int (Int32.ofNat (cs).length)), .val (.int (Int32.ofNat (cs).length)), .unset] [(.ref b240)])) (fun zt zk => st240 zt zk) ?_
  refine Go.st (T' := T240.setTop (mkF m 14 #[.val (.ref vb), .val (.int (0 : Int32)), .val (.int (Int32.ofNat (cs).length)), .val (.int (Int32.ofNat (cs).length)), .val (.ref b240)] [])) (fun zt zk => XS.astore X240.here hx rfl (hb hby d38_12) rfl rfl (l' := #[.val (.ref vb), .val (.int (0 : Int32)), .val (.int (Int32.ofNat (cs).length)), .val (.int (Int32.ofNat (cs).length)), .val (.ref b240)]) rfl zk) ?_
  refine Go.st (T' := T240.setTop (mkF m 15 #[.val (.ref vb), .val (.int (0 : Int32)), .val (.int (Int32.ofNat (cs).length)), .val (.int (Int32.ofNat (cs).length)), .val (.ref b240)] [(.ref vb)])) (fun zt zk => XS.aloadN X240.here hx rfl (hb hby d38_14) rfl rfl zk) ?_
  refine Go.st (T' := T240.setTop (mkF m 16 #[.val (.ref vb), .val (.int (0 : Int32)), .val (.int (Int32.ofNat (cs).length)), .val (.int (Int32.ofNat (cs).length)), .val (.ref b240)] [(.int (0 : Int32)), (.ref vb)])) (fun zt zk => XS.iloadN X240.here hx rfl (hb hby d38_15) rfl zk) ?_
  refine Go.st (T' := T240.setTop (mkF m 18 #[.val (.ref vb), .val (.int (0 : Int32)), .val (.int (Int32.ofNat (cs).length)), .val (.int (Int32.ofNat (cs).length)), .val (.ref b240)] [(.ref b240), (.int (0 : Int32)), (.ref vb)])) (fun zt zk => XS.aload X240.here hx rfl (hb hby d38_16) rfl rfl zk) ?_
  refine Go.st (T' := T240.setTop (mkF m 19 #[.val (.ref vb), .val (.int (0 : Int32)), .val (.int (Int32.ofNat (cs).length)), .val (.int (Int32.ofNat (cs).length)), .val (.ref b240)] [(.int (0 : Int32)), (.ref b240), (.int (0 : Int32)), (.ref vb)])) (fun zt zk => XS.iconst X240.here hx rfl (hb hby d38_18) zk) ?_
  refine Go.st (T' := T240.setTop (mkF m 20 #[.val (.ref vb), .val (.int (0 : Int32)), .val (.int (Int32.ofNat (cs).length)), .val (.int (Int32.ofNat (cs).length)), .val (.ref b240)] [(.ref vb), (.int (0 : Int32)), (.ref b240), (.int (0 : Int32)), (.ref vb)])) (fun zt zk => XS.aloadN X240.here hx rfl (hb hby d38_19) rfl rfl zk) ?_
  have f242 : Arv Z h240 vb kv .byte (16 : Int32) (own_buf cs) (.int (0 : Int32)) := (Vs.ext E240)
  obtain ⟨cl243, Ar243, -, S243, M243, -, -⟩ := id f242
  refine Go.st (T' := T240.setTop (mkF m 21 #[.val (.ref vb), .val (.int (0 : Int32)), .val (.int (Int32.ofNat (cs).length)), .val (.int (Int32.ofNat (cs).length)), .val (.ref b240)] [(.int (16 : Int32)), (.int (0 : Int32)), (.ref b240), (.int (0 : Int32)), (.ref vb)])) (fun zt zk => X240.arraylength hx (by rw [e240]; exact Ar243.1) (State.isArrayOf_alike hZ.alike Ar243.2.1) (g := (mkF m 20 #[.val (.ref vb), .val (.int (0 : Int32)), .val (.int (Int32.ofNat (cs).length)), .val (.int (Int32.ofNat (cs).length)), .val (.ref b240)] [(.ref vb), (.int (0 : Int32)), (.ref b240), (.int (0 : Int32)), (.ref vb)])) rfl rfl (hb hby d38_20) zt (by rw [len_of S243 M243]; exact zk)) ?_
  refine Go.st (T' := T240.setTop (mkF m 22 #[.val (.ref vb), .val (.int (0 : Int32)), .val (.int (Int32.ofNat (cs).length)), .val (.int (Int32.ofNat (cs).length)), .val (.ref b240)] [(.int (0 : Int32)), (.int (16 : Int32)), (.int (0 : Int32)), (.ref b240), (.int (0 : Int32)), (.ref vb)])) (fun zt zk => XS.iloadN X240.here hx rfl (hb hby d38_21) rfl zk) ?_
  refine Go.st (T' := T240.setTop (mkF m 23 #[.val (.ref vb), .val (.int (0 : Int32)), .val (.int (Int32.ofNat (cs).length)), .val (.int (Int32.ofNat (cs).length)), .val (.ref b240)] [(.int ((16 : Int32) - (0 : Int32))), (.int (0 : Int32)), (.ref b240), (.int (0 : Int32)), (.ref vb)])) (fun zt zk => XS.isub X240.here hx rfl (hb hby d38_22) rfl zk) ?_
  refine Go.st (T' := T240.setTop (mkF m 24 #[.val (.ref vb), .val (.int (0 : Int32)), .val (.int (Int32.ofNat (cs).length)), .val (.int (Int32.ofNat (cs).length)), .val (.ref b240)] [(.int (Int32.ofNat (cs).length)), (.int ((16 : Int32) - (0 : Int32))), (.int (0 : Int32)), (.ref b240), (.int (0 : Int32)), (.ref vb)])) (fun zt zk => XS.iloadN X240.here hx rfl (hb hby d38_23) rfl zk) ?_
  obtain ⟨vr244, _, ⟨T244, L244, k244, n244⟩, -, X244, ⟨Lc244, hQ244, l244, y244, z244⟩, st244⟩ := Jvm.LawKit.callS X240 hx (y := (⟨"java/lang/Math", "min", "(II)I"⟩ : MethodName)) hown (mvT hZ (hw _ (List.mem_of_getElem? (i := 254) rfl))) (mvT hZ (hw _ (List.mem_of_getElem? (i := 255) rfl))) (mvT hZ (hw _ (List.mem_of_getElem? (i := 256) rfl))) (mvT hZ (hw _ (List.mem_of_getElem? (i := 257) rfl))) (by decide) (backOf (W := 4) (rmMin l Z a0 hw ((16 : Int32) - (0 : Int32)) (Int32.ofNat (cs).length) h240 n0 (Nat.le_trans Z0 K240.1) (own_lt16 hl)) hZ (hw _ (List.mem_of_getElem? (i := 257) rfl)) (hw _ (List.mem_of_getElem? (i := 256) rfl)) (by decide) (by decide)) (g := (mkF m 24 #[.val (.ref vb), .val (.int (0 : Int32)), .val (.int (Int32.ofNat (cs).length)), .val (.int (Int32.ofNat (cs).length)), .val (.ref b240)] [(.int (Int32.ofNat (cs).length)), (.int ((16 : Int32) - (0 : Int32))), (.int (0 : Int32)), (.ref b240), (.int (0 : Int32)), (.ref vb)])) rfl (by rw [hml]; rfl) (argsL := [(.int ((16 : Int32) - (0 : Int32))), (.int (Int32.ofNat (cs).length))]) (rest := [(.int (0 : Int32)), (.ref b240), (.int (0 : Int32)), (.ref vb)]) (lenOf pd_7ffd0b0 rfl) rfl (by show 2 * 0 + _ ≤ _; exact Nat.le_of_eq rfl) (hb hby d38_24) (fun _ _ => ⟨rfl, e240, (by decide : 1 + 0 ≤ _), (by decide : 13 + 0 ≤ _)⟩)
  dsimp only [Pt.U, Pt.locs, Pt.cells, Pt.slots] at X244 l244 y244 z244 st244 hQ244
  subst l244 y244 z244
  obtain ⟨rfl, Nq244, eq244⟩ := hQ244
  have NN245 := Fr.app NN239 Nq244
  refine Go.st (T' := T244.setTop (mkF m 27 #[.val (.ref vb), .val (.int (0 : Int32)), .val (.int (Int32.ofNat (cs).length)), .val (.int (Int32.ofNat (cs).length)), .val (.ref b240)] [(.int (Int32.ofNat (cs).length)), (.int (0 : Int32)), (.ref b240), (.int (0 : Int32)), (.ref vb)])) (fun zt zk => st244 zt zk) ?_
  obtain ⟨T246, h246, L246, X246, e246, N246, Kc246, V246, st246⟩ := cpA X244 hx hZ hown (hw _ (List.mem_of_getElem? (i := 258) rfl)) (hw _ (List.mem_of_getElem? (i := 212) rfl)) (hw _ (List.mem_of_getElem? (i := 210) rfl)) (hw _ (List.mem_of_getElem? (i := 211) rfl)) eq244 f242 V240 (us := ((cs.map (fun c => c.toInt8.toInt32)).map Value.int)) (Or.inl ⟨rfl, rfl⟩) (by decide) (by decide) (own_nn (by omega)) (by rw [own_clamp (by omega)]; show 0 + _ ≤ 16; omega) (by rw [own_clamp (by omega)]; show 0 + _ ≤ _; omega) (by rw [own_clamp (by omega)]; exact own_range2 cs _) (by rw [own_clamp (by omega), List.length_replicate]; show 0 + _ ≤ _; omega) NN245 g_b240 (g := (mkF m 27 #[.val (.ref vb), .val (.int (0 : Int32)), .val (.int (Int32.ofNat (cs).length)), .val (.int (Int32.ofNat (cs).length)), .val (.ref b240)] [(.int (Int32.ofNat (cs).length)), (.int (0 : Int32)), (.ref b240), (.int (0 : Int32)), (.ref vb)])) rfl (by rw [hml]; rfl) rfl (hb hby d38_27) (by decide) (W := 0) (by show 2 * 0 + _ ≤ _; exact Nat.le_of_eq rfl) (by decide)
  have KK247 : Keep h0 h246 [] := K240.trans Kc246 (allS (Or.inr sz_b240) all0)
  refine Go.st (T' := T246.setTop (mkF m 30 #[.val (.ref vb), .val (.int (0 : Int32)), .val (.int (Int32.ofNat (cs).length)), .val (.int (Int32.ofNat (cs).length)), .val (.ref b240)] [])) (fun zt zk => st246 zt zk) ?_
  have VF : Arv Z h246 b240 k240 .byte (Int32.ofNat (cs).length) (((cs).map (fun c => c.toInt8.toInt32)).map Value.int) (.int (0 : Int32)) := by
    have q := V246
    rw [own_clamp (by omega), show (0 : Int32).toNatClampNeg = 0 from rfl, List.take_zero, List.nil_append, Nat.zero_add, List.drop_of_length_le (by simp), List.append_nil] at q
    exact q
  refine Go.st (T' := T246.setTop (mkF m 32 #[.val (.ref vb), .val (.int (0 : Int32)), .val (.int (Int32.ofNat (cs).length)), .val (.int (Int32.ofNat (cs).length)), .val (.ref b240)] [(.ref b240)])) (fun zt zk => XS.aload X246.here hx rfl (hb hby d38_30) rfl rfl zk) ?_
  exact Go.done X246 Bd.notSynchronized (v := some (.ref b240)) (fun h => by rw [Bd.returns] at h; cases h) (fun fs hr => retA X246 hx Bd.returns rfl rfl rfl (hb hby d38_32) hr) (by rw [e246]; exact ⟨N246, KK247, b240, k240, rfl, sz_b240, VF⟩) (by decide) (by decide)
theorem d37_0 : decode jdk_65_method_132_code 0 = .ok (.iload_n 1, 1) := by decide +kernel
theorem d37_1 : decode jdk_65_method_132_code 1 = .ok (.ifCond .ne 9, 3) := by decide +kernel
theorem d37_4 : decode jdk_65_method_132_code 4 = .ok (.iload_n 2, 1) := by decide +kernel
theorem d37_5 : decode jdk_65_method_132_code 5 = .ok (.aload_n 0, 1) := by decide +kernel
theorem d37_6 : decode jdk_65_method_132_code 6 = .ok (.arraylength, 1) := by decide +kernel
theorem d37_7 : decode jdk_65_method_132_code 7 = .ok (.if_icmp .eq 10, 3) := by decide +kernel
theorem d37_10 : decode jdk_65_method_132_code 10 = .ok (.aload_n 0, 1) := by decide +kernel
theorem d37_11 : decode jdk_65_method_132_code 11 = .ok (.iload_n 1, 1) := by decide +kernel
theorem d37_12 : decode jdk_65_method_132_code 12 = .ok (.iload_n 2, 1) := by decide +kernel
theorem d37_13 : decode jdk_65_method_132_code 13 = .ok (.invokestatic 339, 3) := by decide +kernel
theorem d37_16 : decode jdk_65_method_132_code 16 = .ok (.areturn, 1) := by decide +kernel
theorem pd_6bae511 : parseMethodDescriptor "([BII)[B" = some ⟨[(.array .byte), .int, .int], some (.array .byte)⟩ := by decide +kernel
theorem ef_37 (m : MethodId) (x0 : Addr) (x1 : Int32) (x2 : Int32) : entryFrame m #[(.ref x0), (.int x1), (.int x2)] 3 = mkF m 0 #[.val (.ref x0), .val (.int x1), .val (.int x2)] [] := by first | (simp [entryFrame, mkF, argsToLocals, Value.category]; done) | rfl
def Q_rmCR (Z : State) (vb : Addr) (kv : ClassId) (cs : List Int32) (h0 : Heap) (n0 : Nat) (v : Option Value) (h : Heap) (L : List Loc) : Prop := Fr n0 L ∧ Keep h0 h [] ∧ ∃ (x : Addr) (k : ClassId), v = some (.ref x) ∧ h0.size ≤ x ∧ Arv Z h x k .byte (Int32.ofNat (cs).length) (((cs).map (fun c => c.toInt8.toInt32)).map Value.int) (.int (0 : Int32))
set_option maxRecDepth 65536 in
set_option maxHeartbeats 40000000 in
theorem rmCR (l : Launch) (Z : State) (a0 : Array Value) (hw : ∀ d ∈ tables_1, d.before a0 Z = true) (vb : Addr) (kv : ClassId) (cs : List Int32) (h0 : Heap) (n0 : Nat) (Z0 : n0 ≤ h0.size) (Vs : Arv Z h0 vb kv .byte (16 : Int32) (own_buf cs) (.int (0 : Int32))) (hl : cs.length ≤ 13) :
    MetFree l (⟨"java/util/Arrays", "copyOfRange", "([BII)[B"⟩ : MethodName) (head1 [Jvm.Cond.code (⟨"java/util/Arrays", "copyOfRange", "([BII)[B"⟩ : MethodName) jdk_65_method_132_code 3 (some (.array .byte))] ({ frames := 2, cells := 1, slots := 13, locals := 34 } : Room)) (fun a U => a = #[(.ref vb), (.int (0 : Int32)), (.int (Int32.ofNat (cs).length))] ∧ Z.Warmed39 U.vm ∧ U.heap = h0) (fun _ _ _ _ _ => True) (fun _ U o U' => ∃ v L, o = .returned v ∧ (Q_rmCR Z vb kv cs h0 n0) v U'.heap L ∧ FrameEnd U o U' L ({ frames := 2, cells := 1, slots := 13, locals := 34 } : Room).cells ({ frames := 2, cells := 1, slots := 13, locals := 34 } : Room).slots) := by
  refine MetFree.of_bodySF (plainFor_of_name pn_f3ac3a5) hisR ?_
  intro p e s m args below meth c s₁ Bd hml0 hP hK
  obtain ⟨rfl, hZ, hh⟩ := hP
  have hx := Bd.exec
  have hby := Bd.bytes
  have hml : c.maxLocals = 3 := hml0
  have hown : s.vm.findClass "java/util/Arrays" = some m.cls := findClass_of_methodNamed Bd.named
  have hnm := (name_of_methodNamed Bd.named Bd.method).1
  have X0 : Stand p l e ({ frames := 2, cells := 1, slots := 13, locals := 34 } : Room) s m #[(.ref vb), (.int (0 : Int32)), (.int (Int32.ofNat (cs).length))] below meth c s₁ [] 0 0 := Stand.of_body Bd
  have e0 : s₁.heap = h0 := by rw [← hh, Bd.state]; rfl
  have N0 := Fr.nil n0
  have K0 : Keep h0 h0 [] := Keep.refl h0 []
  show Go p e below (s₁.setTop (entryFrame m #[(.ref vb), (.int (0 : Int32)), (.int (Int32.ofNat (cs).length))] 3)) (EndN s (Q_rmCR Z vb kv cs h0 n0) ({ frames := 2, cells := 1, slots := 13, locals := 34 } : Room).cells ({ frames := 2, cells := 1, slots := 13, locals := 34 } : Room).slots)
  refine Go.top (ef_37 m vb (0 : Int32) (Int32.ofNat (cs).length)) ?_
  refine Go.st (T' := s₁.setTop (mkF m 1 #[.val (.ref vb), .val (.int (0 : Int32)), .val (.int (Int32.ofNat (cs).length))] [(.int (0 : Int32))])) (fun zt zk => XS.iloadN X0.here hx rfl (hb hby d37_0) rfl zk) ?_
  refine Go.st (T' := s₁.setTop (mkF m 4 #[.val (.ref vb), .val (.int (0 : Int32)), .val (.int (Int32.ofNat (cs).length))] [])) (fun zt zk => XS.ifNo X0.here hx rfl (hb hby d37_1) rfl ((if0 _ _).trans (teq (by decide)).2) zk) ?_
  refine Go.st (T' := s₁.setTop (mkF m 5 #[.val (.ref vb), .val (.int (0 : Int32)), .val (.int (Int32.ofNat (cs).length))] [(.int (Int32.ofNat (cs).length))])) (fun zt zk => XS.iloadN X0.here hx rfl (hb hby d37_4) rfl zk) ?_
  refine Go.st (T' := s₁.setTop (mkF m 6 #[.val (.ref vb), .val (.int (0 : Int32)), .val (.int (Int32.ofNat (cs).length))] [(.ref vb), (.int (Int32.ofNat (cs).length))])) (fun zt zk => XS.aloadN X0.here hx rfl (hb hby d37_5) rfl rfl zk) ?_
  obtain ⟨cl248, Ar248, -, S248, M248, -, -⟩ := id Vs
  refine Go.st (T' := s₁.setTop (mkF m 7 #[.val (.ref vb), .val (.int (0 : Int32)), .val (.int (Int32.ofNat (cs).length))] [(.int (16 : Int32)), (.int (Int32.ofNat (cs).length))])) (fun zt zk => X0.arraylength hx (by rw [e0]; exact Ar248.1) (State.isArrayOf_alike hZ.alike Ar248.2.1) (g := (mkF m 6 #[.val (.ref vb), .val (.int (0 : Int32)), .val (.int (Int32.ofNat (cs).length))] [(.ref vb), (.int (Int32.ofNat (cs).length))])) rfl rfl (hb hby d37_6) zt (by rw [len_of S248 M248]; exact zk)) ?_
  refine Go.st (T' := s₁.setTop (mkF m 10 #[.val (.ref vb), .val (.int (0 : Int32)), .val (.int (Int32.ofNat (cs).length))] [])) (fun zt zk => XS.icmpNo X0.here hx rfl (hb hby d37_7) rfl (feq (own_ne16 hl)).1 zk) ?_
  refine Go.st (T' := s₁.setTop (mkF m 11 #[.val (.ref vb), .val (.int (0 : Int32)), .val (.int (Int32.ofNat (cs).length))] [(.ref vb)])) (fun zt zk => XS.aloadN X0.here hx rfl (hb hby d37_10) rfl rfl zk) ?_
  refine Go.st (T' := s₁.setTop (mkF m 12 #[.val (.ref vb), .val (.int (0 : Int32)), .val (.int (Int32.ofNat (cs).length))] [(.int (0 : Int32)), (.ref vb)])) (fun zt zk => XS.iloadN X0.here hx rfl (hb hby d37_11) rfl zk) ?_
  refine Go.st (T' := s₁.setTop (mkF m 13 #[.val (.ref vb), .val (.int (0 : Int32)), .val (.int (Int32.ofNat (cs).length))] [(.int (Int32.ofNat (cs).length)), (.int (0 : Int32)), (.ref vb)])) (fun zt zk => XS.iloadN X0.here hx rfl (hb hby d37_12) rfl zk) ?_
  obtain ⟨vr249, _, ⟨T249, L249, k249, n249⟩, -, X249, ⟨Lc249, hQ249, l249, y249, z249⟩, st249⟩ := Jvm.LawKit.callS X0 hx (y := (⟨"java/util/Arrays", "copyOfRangeByte", "([BII)[B"⟩ : MethodName)) hown (mvT hZ (hw _ (List.mem_of_getElem? (i := 248) rfl))) (mvT hZ (hw _ (List.mem_of_getElem? (i := 249) rfl))) (mvT hZ (hw _ (List.mem_of_getElem? (i := 246) rfl))) (mvT hZ (hw _ (List.mem_of_getElem? (i := 250) rfl))) (by decide) (backOf (W := 0) (rmCRB l Z a0 hw vb kv cs h0 n0 Z0 Vs hl) hZ (hw _ (List.mem_of_getElem? (i := 250) rfl)) (hw _ (List.mem_of_getElem? (i := 246) rfl)) (by decide) (by decide)) (g := (mkF m 13 #[.val (.ref vb), .val (.int (0 : Int32)), .val (.int (Int32.ofNat (cs).length))] [(.int (Int32.ofNat (cs).length)), (.int (0 : Int32)), (.ref vb)])) rfl (by rw [hml]; rfl) (argsL := [(.ref vb), (.int (0 : Int32)), (.int (Int32.ofNat (cs).length))]) (rest := []) (lenOf pd_6bae511 rfl) rfl (by show 2 * 0 + _ ≤ _; exact Nat.le_of_eq rfl) (hb hby d37_13) (fun _ _ => ⟨rfl, e0, (by decide : 0 + 1 ≤ _), (by decide : 0 + 13 ≤ _)⟩)
  dsimp only [Pt.U, Pt.locs, Pt.cells, Pt.slots] at X249 l249 y249 z249 st249 hQ249
  subst l249 y249 z249
  obtain ⟨Nq249, Kq249, x249, k249_, rfl, Rq249⟩ := hQ249
  have KK250 : Keep h0 T249.heap [] := K0.trans Kq249 all0
  have NN251 := Fr.app N0 Nq249
  refine Go.st (T' := T249.setTop (mkF m 16 #[.val (.ref vb), .val (.int (0 : Int32)), .val (.int (Int32.ofNat (cs).length))] [(.ref x249)])) (fun zt zk => st249 zt zk) ?_
  exact Go.done X249 Bd.notSynchronized (v := some (.ref x249)) (fun h => by rw [Bd.returns] at h; cases h) (fun fs hr => retA X249 hx Bd.returns rfl rfl rfl (hb hby d37_16) hr) (by rw [(rfl : T249.heap = T249.heap)]; exact ⟨NN251, KK250, x249, k249_, rfl, Rq249⟩) (by decide) (by decide)
theorem d32_0 : decode jdk_42_method_150_code 0 = .ok (.aload_n 0, 1) := by decide +kernel
theorem d32_1 : decode jdk_42_method_150_code 1 = .ok (.invokespecial 1, 3) := by decide +kernel
theorem d32_4 : decode jdk_42_method_150_code 4 = .ok (.aload_n 1, 1) := by decide +kernel
theorem d32_5 : decode jdk_42_method_150_code 5 = .ok (.invokevirtual 552, 3) := by decide +kernel
theorem d32_8 : decode jdk_42_method_150_code 8 = .ok (.astore_n 3, 1) := by decide +kernel
theorem d32_9 : decode jdk_42_method_150_code 9 = .ok (.aload_n 1, 1) := by decide +kernel
theorem d32_10 : decode jdk_42_method_150_code 10 = .ok (.invokevirtual 549, 3) := by decide +kernel
theorem d32_13 : decode jdk_42_method_150_code 13 = .ok (.istore 4, 2) := by decide +kernel
theorem d32_15 : decode jdk_42_method_150_code 15 = .ok (.aload_n 1, 1) := by decide +kernel
theorem d32_16 : decode jdk_42_method_150_code 16 = .ok (.invokevirtual 1047, 3) := by decide +kernel
theorem d32_19 : decode jdk_42_method_150_code 19 = .ok (.ifCond .eq 22, 3) := by decide +kernel
theorem d32_22 : decode jdk_42_method_150_code 22 = .ok (.aload_n 0, 1) := by decide +kernel
theorem d32_23 : decode jdk_42_method_150_code 23 = .ok (.iconst 0, 1) := by decide +kernel
theorem d32_24 : decode jdk_42_method_150_code 24 = .ok (.putfield 15, 3) := by decide +kernel
theorem d32_27 : decode jdk_42_method_150_code 27 = .ok (.aload_n 0, 1) := by decide +kernel
theorem d32_28 : decode jdk_42_method_150_code 28 = .ok (.aload_n 3, 1) := by decide +kernel
theorem d32_29 : decode jdk_42_method_150_code 29 = .ok (.iconst 0, 1) := by decide +kernel
theorem d32_30 : decode jdk_42_method_150_code 30 = .ok (.iload 4, 2) := by decide +kernel
theorem d32_32 : decode jdk_42_method_150_code 32 = .ok (.invokestatic 54, 3) := by decide +kernel
theorem d32_35 : decode jdk_42_method_150_code 35 = .ok (.putfield 9, 3) := by decide +kernel
theorem d32_38 : decode jdk_42_method_150_code 38 = .ok (.goto 59, 3) := by decide +kernel
theorem d32_97 : decode jdk_42_method_150_code 97 = .ok (.return_, 1) := by decide +kernel
theorem pd_5670b7c : parseMethodDescriptor "()[B" = some ⟨[], some (.array .byte)⟩ := by decide +kernel
theorem pd_a8ebd : parseMethodDescriptor "()Z" = some ⟨[], some .boolean⟩ := by decide +kernel
theorem ef_32 (m : MethodId) (x0 : Addr) (x1 : Addr) : entryFrame m #[(.ref x0), (.ref x1), .null] 5 = mkF m 0 #[.val (.ref x0), .val (.ref x1), .val .null, .unset, .unset] [] := by first | (simp [entryFrame, mkF, argsToLocals, Value.category]; done) | rfl
def Q_rmXA (Z : State) (x b vb : Addr) (kv : ClassId) (cs : List Int32) (h0 : Heap) (n0 : Nat) (v : Option Value) (h : Heap) (L : List Loc) : Prop := v = none ∧ Fr n0 L ∧ Keep h0 h [x] ∧ Exa Z h x "java/lang/String" ∧ Fld Z h x "java/lang/String" "coder" "B" (.int (0 : Int32)) ∧ ∃ (t : Addr) (kt : ClassId), Fld Z h x "java/lang/String" "value" "[B" (.ref t) ∧ Arv Z h t kt .byte (Int32.ofNat (cs).length) (((cs).map (fun c => c.toInt8.toInt32)).map Value.int) (.int (0 : Int32))
set_option maxRecDepth 65536 in
set_option maxHeartbeats 40000000 in
theorem rmXA (l : Launch) (Z : State) (a0 : Array Value) (hw : ∀ d ∈ tables_1, d.before a0 Z = true) (x b vb : Addr) (kv : ClassId) (cs : List Int32) (h0 : Heap) (n0 : Nat) (Z0 : n0 ≤ h0.size) (G1 : Int32) (O2 : Sta Z Z.heap "java/lang/String" "COMPACT_STRINGS" "Z" (.int G1)) (P5 : ¬ (G1 = (0 : Int32))) (X00 : Old Z n0 h0) (E1 : Exa Z h0 x "java/lang/String") (g_x : n0 ≤ x) (Fv : Fld Z h0 x "java/lang/String" "value" "[B" .null) (Fc : Fld Z h0 x "java/lang/String" "coder" "B" (.int (0 : Int32))) (Es : Exa Z h0 b "java/lang/StringBuilder") (Fsv : Fld Z h0 b "java/lang/AbstractStringBuilder" "value" "[B" (.ref vb)) (Fsc : Fld Z h0 b "java/lang/AbstractStringBuilder" "coder" "B" (.int (0 : Int32))) (Fsn : Fld Z h0 b "java/lang/AbstractStringBuilder" "count" "I" (.int (Int32.ofNat (cs).length))) (Vs : Arv Z h0 vb kv .byte (16 : Int32) (own_buf cs) (.int (0 : Int32))) (hl : cs.length ≤ 13) (nbx : b ≠ x) (nvx : vb ≠ x) :
    MetFree l (⟨"java/lang/String", "<init>", "(Ljava/lang/AbstractStringBuilder;Ljava/lang/Void;)V"⟩ : MethodName) (head1 [Jvm.Cond.code (⟨"java/lang/String", "<init>", "(Ljava/lang/AbstractStringBuilder;Ljava/lang/Void;)V"⟩ : MethodName) jdk_42_method_150_code 5 none] ({ frames := 3, cells := 1, slots := 13, locals := 49 } : Room)) (fun a U => a = #[(.ref x), (.ref b), .null] ∧ Z.Warmed39 U.vm ∧ U.heap = h0) (fun _ _ _ _ _ => True) (fun _ U o U' => ∃ v L, o = .returned v ∧ (Q_rmXA Z x b vb kv cs h0 n0) v U'.heap L ∧ FrameEnd U o U' L ({ frames := 3, cells := 1, slots := 13, locals := 49 } : Room).cells ({ frames := 3, cells := 1, slots := 13, locals := 49 } : Room).slots) := by
  refine MetFree.of_bodySF (plainFor_of_name pn_397d88e) hisR ?_
  intro p e s m args below meth c s₁ Bd hml0 hP hK
  obtain ⟨rfl, hZ, hh⟩ := hP
  have hx := Bd.exec
  have hby := Bd.bytes
  have hml : c.maxLocals = 5 := hml0
  have hown : s.vm.findClass "java/lang/String" = some m.cls := findClass_of_methodNamed Bd.named
  have hnm := (name_of_methodNamed Bd.named Bd.method).1
  have X0 : Stand p l e ({ frames := 3, cells := 1, slots := 13, locals := 49 } : Room) s m #[(.ref x), (.ref b), .null] below meth c s₁ [] 0 0 := Stand.of_body Bd
  have e0 : s₁.heap = h0 := by rw [← hh, Bd.state]; rfl
  have N0 := Fr.nil n0
  have K0 : Keep h0 h0 [x] := Keep.refl h0 [x]
  show Go p e below (s₁.setTop (entryFrame m #[(.ref x), (.ref b), .null] 5)) (EndN s (Q_rmXA Z x b vb kv cs h0 n0) ({ frames := 3, cells := 1, slots := 13, locals := 49 } : Room).cells ({ frames := 3, cells := 1, slots := 13, locals := 49 } : Room).slots)
  refine Go.top (ef_32 m x b) ?_
  refine Go.st (T' := s₁.setTop (mkF m 1 #[.val (.ref x), .val (.ref b), .val .null, .unset, .unset] [(.ref x)])) (fun zt zk => XS.aloadN X0.here hx rfl (hb hby d32_0) rfl rfl zk) ?_
  obtain ⟨T252, X252, e252, st252⟩ := initO X0 hx hZ hown (hw _ (List.mem_of_getElem? (i := 15) rfl)) (hw _ (List.mem_of_getElem? (i := 16) rfl)) (hw _ (List.mem_of_getElem? (i := 17) rfl)) e0 (g := (mkF m 1 #[.val (.ref x), .val (.ref b), .val .null, .unset, .unset] [(.ref x)])) rfl (by rw [hml]; rfl) rfl (hb hby d32_1) (by decide) (W := 0) (by show 2 * 0 + _ ≤ _; exact Nat.le_of_eq rfl) (by decide)
  refine Go.st (T' := T252.setTop (mkF m 4 #[.val (.ref x), .val (.ref b), .val .null, .unset, .unset] [])) (fun zt zk => st252 zt zk) ?_
  refine Go.st (T' := T252.setTop (mkF m 5 #[.val (.ref x), .val (.ref b), .val .null, .unset, .unset] [(.ref b)])) (fun zt zk => XS.aloadN X252.here hx rfl (hb hby d32_4) rfl rfl zk) ?_
  obtain ⟨cq253, kq253, q253a, q253b, q253c⟩ := isOf hZ e252 Es
  obtain ⟨vr253, _, ⟨T253, L253, k253, n253⟩, -, X253, ⟨Lc253, hQ253, l253, y253, z253⟩, st253⟩ := X252.virtualBack hx (y := (⟨"java/lang/AbstractStringBuilder", "getValue", "()[B"⟩ : MethodName)) (z := (⟨"java/lang/AbstractStringBuilder", "getValue", "()[B"⟩ : MethodName)) hown (mvT hZ (hw _ (List.mem_of_getElem? (i := 226) rfl))) (mvT hZ (hw _ (List.mem_of_getElem? (i := 227) rfl))) (notFace_of_selects (args := #[]) (mvT hZ (hw _ (List.mem_of_getElem? (i := 229) rfl)))) (mvT hZ (hw _ (List.mem_of_getElem? (i := 229) rfl))) (mvT hZ (hw _ (List.mem_of_getElem? (i := 228) rfl))) (by decide) (backOf (W := 0) (rmGV l Z a0 hw b vb h0 n0 Z0 Fsv) hZ (hw _ (List.mem_of_getElem? (i := 230) rfl)) (hw _ (List.mem_of_getElem? (i := 158) rfl)) (by decide) (by decide)) q253a q253c (g := (mkF m 5 #[.val (.ref x), .val (.ref b), .val .null, .unset, .unset] [(.ref b)])) rfl (by rw [hml]; rfl) (Steps.refl _) (argsL := []) (rest := []) (lenOf pd_5670b7c rfl) rfl (by show 2 * 0 + _ ≤ _; exact Nat.le_of_eq rfl) (hb hby d32_5) (fun _ _ => ⟨rfl, e252, (by decide : 0 + 0 ≤ _), (by decide : 0 + 0 ≤ _)⟩)
  dsimp only [Pt.U, Pt.locs, Pt.cells, Pt.slots] at X253 l253 y253 z253 st253 hQ253
  subst l253 y253 z253
  obtain ⟨rfl, Nq253, eq253⟩ := hQ253
  have NN254 := Fr.app N0 Nq253
  refine Go.st (T' := T253.setTop (mkF m 8 #[.val (.ref x), .val (.ref b), .val .null, .unset, .unset] [(.ref vb)])) (fun zt zk => st253.trans zk) ?_
  refine Go.st (T' := T253.setTop (mkF m 9 #[.val (.ref x), .val (.ref b), .val .null, .val (.ref vb), .unset] [])) (fun zt zk => XS.astoreN X253.here hx rfl (hb hby d32_8) rfl rfl (l' := #[.val (.ref x), .val (.ref b), .val .null, .val (.ref vb), .unset]) rfl zk) ?_
  refine Go.st (T' := T253.setTop (mkF m 10 #[.val (.ref x), .val (.ref b), .val .null, .val (.ref vb), .unset] [(.ref b)])) (fun zt zk => XS.aloadN X253.here hx rfl (hb hby d32_9) rfl rfl zk) ?_
  obtain ⟨cq255, kq255, q255a, q255b, q255c⟩ := isOf hZ eq253 Es
  obtain ⟨vr255, _, ⟨T255, L255, k255, n255⟩, -, X255, ⟨Lc255, hQ255, l255, y255, z255⟩, st255⟩ := X253.virtualBack hx (y := (⟨"java/lang/AbstractStringBuilder", "length", "()I"⟩ : MethodName)) (z := (⟨"java/lang/StringBuilder", "length", "()I"⟩ : MethodName)) hown (mvT hZ (hw _ (List.mem_of_getElem? (i := 231) rfl))) (mvT hZ (hw _ (List.mem_of_getElem? (i := 232) rfl))) (own_nf (a0 := #[]) (mvT hZ (hw _ (List.mem_of_getElem? (i := 229) rfl))) rfl) (mvT hZ (hw _ (List.mem_of_getElem? (i := 234) rfl))) (mvT hZ (hw _ (List.mem_of_getElem? (i := 235) rfl))) (by decide) (backOf (W := 0) (rmSL l Z a0 hw b (Int32.ofNat (cs).length) h0 n0 Z0 Es Fsn) hZ (hw _ (List.mem_of_getElem? (i := 236) rfl)) (hw _ (List.mem_of_getElem? (i := 150) rfl)) (by decide) (by decide)) q255a q255c (g := (mkF m 10 #[.val (.ref x), .val (.ref b), .val .null, .val (.ref vb), .unset] [(.ref b)])) rfl (by rw [hml]; rfl) (Steps.refl _) (argsL := []) (rest := []) (lenOf pd_a8eac rfl) rfl (by show 2 * 0 + _ ≤ _; exact Nat.le_of_eq rfl) (hb hby d32_10) (fun _ _ => ⟨rfl, eq253, (by decide : 0 + 0 ≤ _), (by decide : 0 + 0 ≤ _)⟩)
  dsimp only [Pt.U, Pt.locs, Pt.cells, Pt.slots] at X255 l255 y255 z255 st255 hQ255
  subst l255 y255 z255
  obtain ⟨rfl, Nq255, eq255⟩ := hQ255
  have NN256 := Fr.app NN254 Nq255
  refine Go.st (T' := T255.setTop (mkF m 13 #[.val (.ref x), .val (.ref b), .val .null, .val (.ref vb), .unset] [(.int (Int32.ofNat (cs).length))])) (fun zt zk => st255.trans zk) ?_
  refine Go.st (T' := T255.setTop (mkF m 15 #[.val (.ref x), .val (.ref b), .val .null, .val (.ref vb), .val (.int (Int32.ofNat (cs).length))] [])) (fun zt zk => XS.istore X255.here hx rfl (hb hby d32_13) rfl (l' := #[.val (.ref x), .val (.ref b), .val .null, .val (.ref vb), .val (.int (Int32.ofNat (cs).length))]) rfl zk) ?_
  refine Go.st (T' := T255.setTop (mkF m 16 #[.val (.ref x), .val (.ref b), .val .null, .val (.ref vb), .val (.int (Int32.ofNat (cs).length))] [(.ref b)])) (fun zt zk => XS.aloadN X255.here hx rfl (hb hby d32_15) rfl rfl zk) ?_
  obtain ⟨cq257, kq257, q257a, q257b, q257c⟩ := isOf hZ eq255 Es
  obtain ⟨vr257, _, ⟨T257, L257, k257, n257⟩, -, X257, ⟨Lc257, hQ257, l257, y257, z257⟩, st257⟩ := X255.virtualBack hx (y := (⟨"java/lang/AbstractStringBuilder", "isLatin1", "()Z"⟩ : MethodName)) (z := (⟨"java/lang/AbstractStringBuilder", "isLatin1", "()Z"⟩ : MethodName)) hown (mvT hZ (hw _ (List.mem_of_getElem? (i := 239) rfl))) (mvT hZ (hw _ (List.mem_of_getElem? (i := 240) rfl))) (notFace_of_selects (args := #[]) (mvT hZ (hw _ (List.mem_of_getElem? (i := 242) rfl)))) (mvT hZ (hw _ (List.mem_of_getElem? (i := 242) rfl))) (mvT hZ (hw _ (List.mem_of_getElem? (i := 241) rfl))) (by decide) (backOf (W := 0) (rmIL l Z a0 hw b h0 n0 Z0 G1 O2 P5 X00 Fsc) hZ (hw _ (List.mem_of_getElem? (i := 243) rfl)) (hw _ (List.mem_of_getElem? (i := 158) rfl)) (by decide) (by decide)) q257a q257c (g := (mkF m 16 #[.val (.ref x), .val (.ref b), .val .null, .val (.ref vb), .val (.int (Int32.ofNat (cs).length))] [(.ref b)])) rfl (by rw [hml]; rfl) (Steps.refl _) (argsL := []) (rest := []) (lenOf pd_a8ebd rfl) rfl (by show 2 * 0 + _ ≤ _; exact Nat.le_of_eq rfl) (hb hby d32_16) (fun _ _ => ⟨rfl, eq255, (by decide : 0 + 0 ≤ _), (by decide : 0 + 0 ≤ _)⟩)
  dsimp only [Pt.U, Pt.locs, Pt.cells, Pt.slots] at X257 l257 y257 z257 st257 hQ257
  subst l257 y257 z257
  obtain ⟨rfl, Nq257, eq257⟩ := hQ257
  have NN258 := Fr.app NN256 Nq257
  refine Go.st (T' := T257.setTop (mkF m 19 #[.val (.ref x), .val (.ref b), .val .null, .val (.ref vb), .val (.int (Int32.ofNat (cs).length))] [(.int (1 : Int32))])) (fun zt zk => st257.trans zk) ?_
  refine Go.st (T' := T257.setTop (mkF m 22 #[.val (.ref x), .val (.ref b), .val .null, .val (.ref vb), .val (.int (Int32.ofNat (cs).length))] [])) (fun zt zk => XS.ifNo X257.here hx rfl (hb hby d32_19) rfl ((if0 _ _).trans (feq (by decide)).1) zk) ?_
  refine Go.st (T' := T257.setTop (mkF m 23 #[.val (.ref x), .val (.ref b), .val .null, .val (.ref vb), .val (.int (Int32.ofNat (cs).length))] [(.ref x)])) (fun zt zk => XS.aloadN X257.here hx rfl (hb hby d32_22) rfl rfl zk) ?_
  refine Go.st (T' := T257.setTop (mkF m 24 #[.val (.ref x), .val (.ref b), .val .null, .val (.ref vb), .val (.int (Int32.ofNat (cs).length))] [(.int (0 : Int32)), (.ref x)])) (fun zt zk => XS.iconst X257.here hx rfl (hb hby d32_23) zk) ?_
  obtain ⟨T259, h259, X259, e259, W259, st259⟩ := putFN X257 hx hZ hown (hw _ (List.mem_of_getElem? (i := 30) rfl)) Via.refl eq257 Fc E1 (Or.inr ⟨(hw _ (List.mem_of_getElem? (i := 31) rfl)), rfl, hnm⟩) (hw _ (List.mem_of_getElem? (i := 5) rfl)) (ty := .byte) (v' := (.int (nar .byte (0 : Int32)))) (by decide) rfl (fits_nar_byte _) (g := (mkF m 24 #[.val (.ref x), .val (.ref b), .val .null, .val (.ref vb), .val (.int (Int32.ofNat (cs).length))] [(.int (0 : Int32)), (.ref x)])) rfl rfl (hb hby d32_24)
  have Fw259 : Fld Z h259 x "java/lang/String" "coder" "B" (.int (nar .byte (0 : Int32))) := Fc.same W259
  have K259 : Keep h0 h259 [x] := K0.wr W259 (Or.inl (List.mem_of_getElem? (i := 0) rfl))
  have N259 := Fr.snoc X259 NN258 g_x
  refine Go.st (T' := T259.setTop (mkF m 27 #[.val (.ref x), .val (.ref b), .val .null, .val (.ref vb), .val (.int (Int32.ofNat (cs).length))] [])) (fun zt zk => st259 zt zk) ?_
  refine Go.st (T' := T259.setTop (mkF m 28 #[.val (.ref x), .val (.ref b), .val .null, .val (.ref vb), .val (.int (Int32.ofNat (cs).length))] [(.ref x)])) (fun zt zk => XS.aloadN X259.here hx rfl (hb hby d32_27) rfl rfl zk) ?_
  refine Go.st (T' := T259.setTop (mkF m 29 #[.val (.ref x), .val (.ref b), .val .null, .val (.ref vb), .val (.int (Int32.ofNat (cs).length))] [(.ref vb), (.ref x)])) (fun zt zk => XS.aloadN X259.here hx rfl (hb hby d32_28) rfl rfl zk) ?_
  refine Go.st (T' := T259.setTop (mkF m 30 #[.val (.ref x), .val (.ref b), .val .null, .val (.ref vb), .val (.int (Int32.ofNat (cs).length))] [(.int (0 : Int32)), (.ref vb), (.ref x)])) (fun zt zk => XS.iconst X259.here hx rfl (hb hby d32_29) zk) ?_
  refine Go.st (T' := T259.setTop (mkF m 32 #[.val (.ref x), .val (.ref b), .val .null, .val (.ref vb), .val (.int (Int32.ofNat (cs).length))] [(.int (Int32.ofNat (cs).length)), (.int (0 : Int32)), (.ref vb), (.ref x)])) (fun zt zk => XS.iload X259.here hx rfl (hb hby d32_30) rfl zk) ?_
  have f260 : Exa Z h259 x "java/lang/String" := (E1.wr W259)
  have f262 : Arv Z h259 vb kv .byte (16 : Int32) (own_buf cs) (.int (0 : Int32)) := (Vs.other W259 nvx)
  obtain ⟨vr261, _, ⟨T261, L261, k261, n261⟩, -, X261, ⟨Lc261, hQ261, l261, y261, z261⟩, st261⟩ := Jvm.LawKit.callS X259 hx (y := (⟨"java/util/Arrays", "copyOfRange", "([BII)[B"⟩ : MethodName)) hown (mvT hZ (hw _ (List.mem_of_getElem? (i := 244) rfl))) (mvT hZ (hw _ (List.mem_of_getElem? (i := 245) rfl))) (mvT hZ (hw _ (List.mem_of_getElem? (i := 246) rfl))) (mvT hZ (hw _ (List.mem_of_getElem? (i := 247) rfl))) (by decide) (backOf (W := 1) (rmCR l Z a0 hw vb kv cs h259 n0 (Nat.le_trans Z0 K259.1) f262 hl) hZ (hw _ (List.mem_of_getElem? (i := 247) rfl)) (hw _ (List.mem_of_getElem? (i := 246) rfl)) (by decide) (by decide)) (g := (mkF m 32 #[.val (.ref x), .val (.ref b), .val .null, .val (.ref vb), .val (.int (Int32.ofNat (cs).length))] [(.int (Int32.ofNat (cs).length)), (.int (0 : Int32)), (.ref vb), (.ref x)])) rfl (by rw [hml]; rfl) (argsL := [(.ref vb), (.int (0 : Int32)), (.int (Int32.ofNat (cs).length))]) (rest := [(.ref x)]) (lenOf pd_6bae511 rfl) rfl (by show 2 * 0 + _ ≤ _; exact Nat.le_of_eq rfl) (hb hby d32_32) (fun _ _ => ⟨rfl, e259, (by decide : 0 + 1 ≤ _), (by decide : 0 + 13 ≤ _)⟩)
  dsimp only [Pt.U, Pt.locs, Pt.cells, Pt.slots] at X261 l261 y261 z261 st261 hQ261
  subst l261 y261 z261
  obtain ⟨Nq261, Kq261, y261, ky261, rfl, sz_y261, Vy261⟩ := hQ261
  have nxy : x ≠ y261 := Nat.ne_of_lt (Nat.lt_of_lt_of_le f260.lt sz_y261)
  have KK263 : Keep h0 T261.heap [x] := K259.trans Kq261 all0
  have NN264 := Fr.app N259 Nq261
  refine Go.st (T' := T261.setTop (mkF m 35 #[.val (.ref x), .val (.ref b), .val .null, .val (.ref vb), .val (.int (Int32.ofNat (cs).length))] [(.ref y261), (.ref x)])) (fun zt zk => st261 zt zk) ?_
  have f265 : Fld Z T261.heap x "java/lang/String" "value" "[B" .null := ((Fv.other W259 (Or.inr (slot_ne (Or.inr (hw _ (List.mem_of_getElem? (i := 33) rfl))) (Or.inr (hw _ (List.mem_of_getElem? (i := 31) rfl))) (by decide) (t := (.array .byte)) (t' := .byte) (by decide) (by decide)))).keep Kq261 nin0)
  have f266 : Exa Z T261.heap x "java/lang/String" := (f260.keep Kq261)
  obtain ⟨T267, h267, X267, e267, W267, st267⟩ := putF X261 hx hZ hown (host := "") (Or.inl (hw _ (List.mem_of_getElem? (i := 32) rfl))) Via.refl rfl f265 f266 (Or.inr ⟨(hw _ (List.mem_of_getElem? (i := 33) rfl)), rfl, hnm⟩) (hw _ (List.mem_of_getElem? (i := 5) rfl)) (ty := (.array .byte)) (by decide) rfl rfl (g := (mkF m 35 #[.val (.ref x), .val (.ref b), .val .null, .val (.ref vb), .val (.int (Int32.ofNat (cs).length))] [(.ref y261), (.ref x)])) rfl rfl (hb hby d32_35)
  have Fw267 : Fld Z h267 x "java/lang/String" "value" "[B" (.ref y261) := f265.same W267
  have K267 : Keep h0 h267 [x] := KK263.wr W267 (Or.inl (List.mem_of_getElem? (i := 0) rfl))
  have N267 := Fr.snoc X267 NN264 g_x
  refine Go.st (T' := T267.setTop (mkF m 38 #[.val (.ref x), .val (.ref b), .val .null, .val (.ref vb), .val (.int (Int32.ofNat (cs).length))] [])) (fun zt zk => st267 zt zk) ?_
  refine Go.st (T' := T267.setTop (mkF m 97 #[.val (.ref x), .val (.ref b), .val .null, .val (.ref vb), .val (.int (Int32.ofNat (cs).length))] [])) (fun zt zk => XS.goto X267.here hx rfl (pc0 := 38) (pc' := 97) rfl (hb hby d32_38) (by decide) (by decide) zk) ?_
  have f268 : Exa Z h267 x "java/lang/String" := (f266.wr W267)
  have f269 : Fld Z h267 x "java/lang/String" "coder" "B" (.int (nar .byte (0 : Int32))) := ((Fw259.keep Kq261 nin0).other W267 (Or.inr (slot_ne (Or.inr (hw _ (List.mem_of_getElem? (i := 31) rfl))) (Or.inr (hw _ (List.mem_of_getElem? (i := 33) rfl))) (by decide) (t := .byte) (t' := (.array .byte)) (by decide) (by decide))))
  have f270 : Arv Z h267 y261 ky261 .byte (Int32.ofNat (cs).length) (((cs).map (fun c => c.toInt8.toInt32)).map Value.int) (.int (0 : Int32)) := (Vy261.other W267 (Ne.symm nxy))
  exact Go.done X267 Bd.notSynchronized (v := none) (fun _ => rfl) (fun fs hr => X267.returnOut hx Bd.returns (hb hby d32_97) hr) (by rw [e267]; exact ⟨rfl, N267, K267, f268, f269, y261, ky261, Fw267, f270⟩) (by decide) (by decide)
theorem d31_0 : decode jdk_42_method_53_code 0 = .ok (.aload_n 0, 1) := by decide +kernel
theorem d31_1 : decode jdk_42_method_53_code 1 = .ok (.aload_n 1, 1) := by decide +kernel
theorem d31_2 : decode jdk_42_method_53_code 2 = .ok (.aconst_null, 1) := by decide +kernel
theorem d31_3 : decode jdk_42_method_53_code 3 = .ok (.invokespecial 489, 3) := by decide +kernel
theorem d31_6 : decode jdk_42_method_53_code 6 = .ok (.return_, 1) := by decide +kernel
theorem pd_3d836d8 : parseMethodDescriptor "(Ljava/lang/AbstractStringBuilder;Ljava/lang/Void;)V" = some ⟨[(.object "java/lang/AbstractStringBuilder"), (.object "java/lang/Void")], none⟩ := by decide +kernel
theorem ef_31 (m : MethodId) (x0 : Addr) (x1 : Addr) : entryFrame m #[(.ref x0), (.ref x1)] 2 = mkF m 0 #[.val (.ref x0), .val (.ref x1)] [] := by first | (simp [entryFrame, mkF, argsToLocals, Value.category]; done) | rfl
def Q_rmXS (Z : State) (x b vb : Addr) (kv : ClassId) (cs : List Int32) (h0 : Heap) (n0 : Nat) (v : Option Value) (h : Heap) (L : List Loc) : Prop := v = none ∧ Fr n0 L ∧ Keep h0 h [x] ∧ Exa Z h x "java/lang/String" ∧ Fld Z h x "java/lang/String" "coder" "B" (.int (0 : Int32)) ∧ ∃ (t : Addr) (kt : ClassId), Fld Z h x "java/lang/String" "value" "[B" (.ref t) ∧ Arv Z h t kt .byte (Int32.ofNat (cs).length) (((cs).map (fun c => c.toInt8.toInt32)).map Value.int) (.int (0 : Int32))
set_option maxRecDepth 65536 in
set_option maxHeartbeats 40000000 in
theorem rmXS (l : Launch) (Z : State) (a0 : Array Value) (hw : ∀ d ∈ tables_1, d.before a0 Z = true) (x b vb : Addr) (kv : ClassId) (cs : List Int32) (h0 : Heap) (n0 : Nat) (Z0 : n0 ≤ h0.size) (G1 : Int32) (O2 : Sta Z Z.heap "java/lang/String" "COMPACT_STRINGS" "Z" (.int G1)) (P5 : ¬ (G1 = (0 : Int32))) (X00 : Old Z n0 h0) (E1 : Exa Z h0 x "java/lang/String") (g_x : n0 ≤ x) (Fv : Fld Z h0 x "java/lang/String" "value" "[B" .null) (Fc : Fld Z h0 x "java/lang/String" "coder" "B" (.int (0 : Int32))) (Es : Exa Z h0 b "java/lang/StringBuilder") (Fsv : Fld Z h0 b "java/lang/AbstractStringBuilder" "value" "[B" (.ref vb)) (Fsc : Fld Z h0 b "java/lang/AbstractStringBuilder" "coder" "B" (.int (0 : Int32))) (Fsn : Fld Z h0 b "java/lang/AbstractStringBuilder" "count" "I" (.int (Int32.ofNat (cs).length))) (Vs : Arv Z h0 vb kv .byte (16 : Int32) (own_buf cs) (.int (0 : Int32))) (hl : cs.length ≤ 13) (nbx : b ≠ x) (nvx : vb ≠ x) :
    MetFree l (⟨"java/lang/String", "<init>", "(Ljava/lang/StringBuilder;)V"⟩ : MethodName) (head1 [Jvm.Cond.code (⟨"java/lang/String", "<init>", "(Ljava/lang/StringBuilder;)V"⟩ : MethodName) jdk_42_method_53_code 2 none] ({ frames := 4, cells := 1, slots := 13, locals := 65 } : Room)) (fun a U => a = #[(.ref x), (.ref b)] ∧ Z.Warmed39 U.vm ∧ U.heap = h0) (fun _ _ _ _ _ => True) (fun _ U o U' => ∃ v L, o = .returned v ∧ (Q_rmXS Z x b vb kv cs h0 n0) v U'.heap L ∧ FrameEnd U o U' L ({ frames := 4, cells := 1, slots := 13, locals := 65 } : Room).cells ({ frames := 4, cells := 1, slots := 13, locals := 65 } : Room).slots) := by
  refine MetFree.of_bodySF (plainFor_of_name pn_397d88e) hisR ?_
  intro p e s m args below meth c s₁ Bd hml0 hP hK
  obtain ⟨rfl, hZ, hh⟩ := hP
  have hx := Bd.exec
  have hby := Bd.bytes
  have hml : c.maxLocals = 2 := hml0
  have hown : s.vm.findClass "java/lang/String" = some m.cls := findClass_of_methodNamed Bd.named
  have hnm := (name_of_methodNamed Bd.named Bd.method).1
  have X0 : Stand p l e ({ frames := 4, cells := 1, slots := 13, locals := 65 } : Room) s m #[(.ref x), (.ref b)] below meth c s₁ [] 0 0 := Stand.of_body Bd
  have e0 : s₁.heap = h0 := by rw [← hh, Bd.state]; rfl
  have N0 := Fr.nil n0
  have K0 : Keep h0 h0 [x] := Keep.refl h0 [x]
  show Go p e below (s₁.setTop (entryFrame m #[(.ref x), (.ref b)] 2)) (EndN s (Q_rmXS Z x b vb kv cs h0 n0) ({ frames := 4, cells := 1, slots := 13, locals := 65 } : Room).cells ({ frames := 4, cells := 1, slots := 13, locals := 65 } : Room).slots)
  refine Go.top (ef_31 m x b) ?_
  refine Go.st (T' := s₁.setTop (mkF m 1 #[.val (.ref x), .val (.ref b)] [(.ref x)])) (fun zt zk => XS.aloadN X0.here hx rfl (hb hby d31_0) rfl rfl zk) ?_
  refine Go.st (T' := s₁.setTop (mkF m 2 #[.val (.ref x), .val (.ref b)] [(.ref b), (.ref x)])) (fun zt zk => XS.aloadN X0.here hx rfl (hb hby d31_1) rfl rfl zk) ?_
  refine Go.st (T' := s₁.setTop (mkF m 3 #[.val (.ref x), .val (.ref b)] [.null, (.ref b), (.ref x)])) (fun zt zk => XS.aconstNull X0.here hx rfl (hb hby d31_2) zk) ?_
  obtain ⟨vr271, _, ⟨T271, L271, k271, n271⟩, -, X271, ⟨Lc271, hQ271, l271, y271, z271⟩, st271⟩ := X0.specialBack hx (y := (⟨"java/lang/String", "<init>", "(Ljava/lang/AbstractStringBuilder;Ljava/lang/Void;)V"⟩ : MethodName)) rfl hown (mvT hZ (hw _ (List.mem_of_getElem? (i := 223) rfl))) (mvT hZ (hw _ (List.mem_of_getElem? (i := 224) rfl))) (mvT hZ (hw _ (List.mem_of_getElem? (i := 225) rfl))) (by decide) (backOf (W := 0) (rmXA l Z a0 hw x b vb kv cs h0 n0 Z0 G1 O2 P5 X00 E1 g_x Fv Fc Es Fsv Fsc Fsn Vs hl nbx nvx) hZ (hw _ (List.mem_of_getElem? (i := 225) rfl)) (hw _ (List.mem_of_getElem? (i := 6) rfl)) (by decide) (by decide)) (g := (mkF m 3 #[.val (.ref x), .val (.ref b)] [.null, (.ref b), (.ref x)])) rfl (by rw [hml]; rfl) (Steps.refl _) (a := x) (argsL := [(.ref b), .null]) (rest := []) (lenOf pd_3d836d8 rfl) rfl (by show 2 * 0 + _ ≤ _; exact Nat.le_of_eq rfl) (hb hby d31_3) (fun _ _ => ⟨rfl, e0, (by decide : 0 + 1 ≤ _), (by decide : 0 + 13 ≤ _)⟩)
  dsimp only [Pt.U, Pt.locs, Pt.cells, Pt.slots] at X271 l271 y271 z271 st271 hQ271
  subst l271 y271 z271
  obtain ⟨rfl, Nq271, Kq271, Rq271⟩ := hQ271
  have KK272 : Keep h0 T271.heap [x] := K0.trans Kq271 (allS (Or.inl (List.mem_of_getElem? (i := 0) rfl)) all0)
  have NN273 := Fr.app N0 Nq271
  refine Go.st (T' := T271.setTop (mkF m 6 #[.val (.ref x), .val (.ref b)] [])) (fun zt zk => st271.trans zk) ?_
  exact Go.done X271 Bd.notSynchronized (v := none) (fun _ => rfl) (fun fs hr => X271.returnOut hx Bd.returns (hb hby d31_6) hr) (by rw [(rfl : T271.heap = T271.heap)]; exact ⟨rfl, NN273, KK272, Rq271⟩) (by decide) (by decide)
theorem d30_0 : decode jdk_67_method_42_code 0 = .ok (.new 18, 3) := by decide +kernel
theorem d30_3 : decode jdk_67_method_42_code 3 = .ok (.dup, 1) := by decide +kernel
theorem d30_4 : decode jdk_67_method_42_code 4 = .ok (.aload_n 0, 1) := by decide +kernel
theorem d30_5 : decode jdk_67_method_42_code 5 = .ok (.invokespecial 137, 3) := by decide +kernel
theorem d30_8 : decode jdk_67_method_42_code 8 = .ok (.areturn, 1) := by decide +kernel
theorem pd_6aefbf6 : parseMethodDescriptor "(Ljava/lang/StringBuilder;)V" = some ⟨[(.object "java/lang/StringBuilder")], none⟩ := by decide +kernel
theorem ef_30 (m : MethodId) (x0 : Addr) : entryFrame m #[(.ref x0)] 1 = mkF m 0 #[.val (.ref x0)] [] := by first | (simp [entryFrame, mkF, argsToLocals, Value.category]; done) | rfl
def Q_rmTS (Z : State) (b vb : Addr) (kv : ClassId) (cs : List Int32) (h0 : Heap) (n0 : Nat) (v : Option Value) (h : Heap) (L : List Loc) : Prop := Fr n0 L ∧ Keep h0 h [] ∧ ∃ (x t : Addr) (kb : ClassId), v = some (.ref x) ∧ Exa Z h x "java/lang/String" ∧ Fld Z h x "java/lang/String" "coder" "B" (.int (0 : Int32)) ∧ Fld Z h x "java/lang/String" "value" "[B" (.ref t) ∧ Arv Z h t kb .byte (Int32.ofNat (cs).length) (((cs).map (fun c => c.toInt8.toInt32)).map Value.int) (.int (0 : Int32))
set_option maxRecDepth 65536 in
set_option maxHeartbeats 40000000 in
theorem rmTS (l : Launch) (Z : State) (a0 : Array Value) (hw : ∀ d ∈ tables_1, d.before a0 Z = true) (b vb : Addr) (kv : ClassId) (cs : List Int32) (h0 : Heap) (n0 : Nat) (Z0 : n0 ≤ h0.size) (G1 : Int32) (O2 : Sta Z Z.heap "java/lang/String" "COMPACT_STRINGS" "Z" (.int G1)) (P5 : ¬ (G1 = (0 : Int32))) (X00 : Old Z n0 h0) (Es : Exa Z h0 b "java/lang/StringBuilder") (Fsv : Fld Z h0 b "java/lang/AbstractStringBuilder" "value" "[B" (.ref vb)) (Fsc : Fld Z h0 b "java/lang/AbstractStringBuilder" "coder" "B" (.int (0 : Int32))) (Fsn : Fld Z h0 b "java/lang/AbstractStringBuilder" "count" "I" (.int (Int32.ofNat (cs).length))) (Vs : Arv Z h0 vb kv .byte (16 : Int32) (own_buf cs) (.int (0 : Int32))) (hl : cs.length ≤ 13) :
    MetFree l (⟨"java/lang/StringBuilder", "toString", "()Ljava/lang/String;"⟩ : MethodName) (head1 [Jvm.Cond.code (⟨"java/lang/StringBuilder", "toString", "()Ljava/lang/String;"⟩ : MethodName) jdk_67_method_42_code 1 (some (.object "java/lang/String"))] ({ frames := 5, cells := 2, slots := 17, locals := 79 } : Room)) (fun a U => a = #[(.ref b)] ∧ Z.Warmed39 U.vm ∧ U.heap = h0) (fun _ _ _ _ _ => True) (fun _ U o U' => ∃ v L, o = .returned v ∧ (Q_rmTS Z b vb kv cs h0 n0) v U'.heap L ∧ FrameEnd U o U' L ({ frames := 5, cells := 2, slots := 17, locals := 79 } : Room).cells ({ frames := 5, cells := 2, slots := 17, locals := 79 } : Room).slots) := by
  refine MetFree.of_bodySF (plainFor_of_name pn_5d98e9f) hisR ?_
  intro p e s m args below meth c s₁ Bd hml0 hP hK
  obtain ⟨rfl, hZ, hh⟩ := hP
  have hx := Bd.exec
  have hby := Bd.bytes
  have hml : c.maxLocals = 1 := hml0
  have hown : s.vm.findClass "java/lang/StringBuilder" = some m.cls := findClass_of_methodNamed Bd.named
  have hnm := (name_of_methodNamed Bd.named Bd.method).1
  have X0 : Stand p l e ({ frames := 5, cells := 2, slots := 17, locals := 79 } : Room) s m #[(.ref b)] below meth c s₁ [] 0 0 := Stand.of_body Bd
  have e0 : s₁.heap = h0 := by rw [← hh, Bd.state]; rfl
  have N0 := Fr.nil n0
  have K0 : Keep h0 h0 [] := Keep.refl h0 []
  show Go p e below (s₁.setTop (entryFrame m #[(.ref b)] 1)) (EndN s (Q_rmTS Z b vb kv cs h0 n0) ({ frames := 5, cells := 2, slots := 17, locals := 79 } : Room).cells ({ frames := 5, cells := 2, slots := 17, locals := 79 } : Room).slots)
  refine Go.top (ef_30 m b) ?_
  obtain ⟨T274, h274, X274, e274, E274, A274, D274, U274, st274⟩ := newO X0 hx hZ hown (hw _ (List.mem_of_getElem? (i := 219) rfl)) (hw _ (List.mem_of_getElem? (i := 5) rfl)) (hw _ (List.mem_of_getElem? (i := 6) rfl)) e0 (g := (mkF m 0 #[.val (.ref b)] [])) rfl (hb hby d30_0) (by decide) (by decide)
  obtain ⟨b274, g274⟩ : ∃ z, z = h0.size := ⟨_, rfl⟩
  rw [← g274] at A274 D274 U274 st274
  have g_b274 : n0 ≤ b274 := Nat.le_trans (Nat.le_trans Z0 K0.1) (Nat.le_of_eq g274.symm)
  have sz_b274 : h0.size ≤ b274 := Nat.le_trans K0.1 (Nat.le_of_eq g274.symm)
  have ne275 : b ≠ b274 := Nat.ne_of_lt (Nat.lt_of_lt_of_le Es.lt (Nat.le_of_eq g274.symm))
  have ne276 : vb ≠ b274 := Nat.ne_of_lt (Nat.lt_of_lt_of_le Vs.lt (Nat.le_of_eq g274.symm))
  have K274 : Keep h0 h274 [] := K0.ext E274
  have Fn274_coder : Fld Z h274 b274 "java/lang/String" "coder" "B" (.int (0 : Int32)) := D274 (Or.inr (hw _ (List.mem_of_getElem? (i := 31) rfl))) (ty := .byte) (by decide)
  have Fn274_value : Fld Z h274 b274 "java/lang/String" "value" "[B" .null := D274 (Or.inr (hw _ (List.mem_of_getElem? (i := 33) rfl))) (ty := (.array .byte)) (by decide)
  refine Go.st (T' := T274.setTop (mkF m 3 #[.val (.ref b)] [(.ref b274)])) (fun zt zk => st274 zt zk) ?_
  refine Go.st (T' := T274.setTop (mkF m 4 #[.val (.ref b)] [(.ref b274), (.ref b274)])) (fun zt zk => XS.dup X274.here hx rfl (hb hby d30_3) rfl rfl zk) ?_
  refine Go.st (T' := T274.setTop (mkF m 5 #[.val (.ref b)] [(.ref b), (.ref b274), (.ref b274)])) (fun zt zk => XS.aloadN X274.here hx rfl (hb hby d30_4) rfl rfl zk) ?_
  have f277 : Exa Z h274 b "java/lang/StringBuilder" := (Es.ext E274)
  have f278 : Fld Z h274 b "java/lang/AbstractStringBuilder" "value" "[B" (.ref vb) := (Fsv.ext E274)
  have f279 : Fld Z h274 b "java/lang/AbstractStringBuilder" "coder" "B" (.int (0 : Int32)) := (Fsc.ext E274)
  have f280 : Fld Z h274 b "java/lang/AbstractStringBuilder" "count" "I" (.int (Int32.ofNat (cs).length)) := (Fsn.ext E274)
  have f281 : Arv Z h274 vb kv .byte (16 : Int32) (own_buf cs) (.int (0 : Int32)) := (Vs.ext E274)
  obtain ⟨vr282, _, ⟨T282, L282, k282, n282⟩, -, X282, ⟨Lc282, hQ282, l282, y282, z282⟩, st282⟩ := X274.specialBack hx (y := (⟨"java/lang/String", "<init>", "(Ljava/lang/StringBuilder;)V"⟩ : MethodName)) rfl hown (mvT hZ (hw _ (List.mem_of_getElem? (i := 220) rfl))) (mvT hZ (hw _ (List.mem_of_getElem? (i := 221) rfl))) (mvT hZ (hw _ (List.mem_of_getElem? (i := 222) rfl))) (by decide) (backOf (W := 1) (rmXS l Z a0 hw b274 b vb kv cs h274 n0 (Nat.le_trans Z0 K274.1) G1 O2 P5 (X00.keep K274 all0) A274 g_b274 Fn274_value Fn274_coder f277 f278 f279 f280 f281 hl ne275 ne276) hZ (hw _ (List.mem_of_getElem? (i := 222) rfl)) (hw _ (List.mem_of_getElem? (i := 6) rfl)) (by decide) (by decide)) (g := (mkF m 5 #[.val (.ref b)] [(.ref b), (.ref b274), (.ref b274)])) rfl (by rw [hml]; rfl) (Steps.refl _) (a := b274) (argsL := [(.ref b)]) (rest := [(.ref b274)]) (lenOf pd_6aefbf6 rfl) rfl (by show 2 * 0 + _ ≤ _; exact Nat.le_of_eq rfl) (hb hby d30_5) (fun _ _ => ⟨rfl, e274, (by decide : 1 + 1 ≤ _), (by decide : 4 + 13 ≤ _)⟩)
  dsimp only [Pt.U, Pt.locs, Pt.cells, Pt.slots] at X282 l282 y282 z282 st282 hQ282
  subst l282 y282 z282
  obtain ⟨rfl, Nq282, Kq282, Eq282, Cq282, t282, kt282, Vq282, Bq282⟩ := hQ282
  have KK283 : Keep h0 T282.heap [] := K274.trans Kq282 (allS (Or.inr sz_b274) all0)
  have NN284 := Fr.app N0 Nq282
  refine Go.st (T' := T282.setTop (mkF m 8 #[.val (.ref b)] [(.ref b274)])) (fun zt zk => st282.trans zk) ?_
  exact Go.done X282 Bd.notSynchronized (v := some (.ref b274)) (fun h => by rw [Bd.returns] at h; cases h) (fun fs hr => retA X282 hx Bd.returns rfl rfl rfl (hb hby d30_8) hr) (by rw [(rfl : T282.heap = T282.heap)]; exact ⟨NN284, KK283, b274, t282, kt282, rfl, Eq282, Cq282, Vq282, Bq282⟩) (by decide) (by decide)
theorem d45_0 : decode method_4_code 0 = .ok (.iconst 1, 1) := by decide +kernel
theorem d45_1 : decode method_4_code 1 = .ok (.istore_n 3, 1) := by decide +kernel
theorem d45_2 : decode method_4_code 2 = .ok (.aload_n 2, 1) := by decide +kernel
theorem d45_3 : decode method_4_code 3 = .ok (.invokevirtual 31, 3) := by decide +kernel
theorem d45_6 : decode method_4_code 6 = .ok (.iconst 1, 1) := by decide +kernel
theorem d45_7 : decode method_4_code 7 = .ok (.if_icmp .lt 26, 3) := by decide +kernel
theorem d45_10 : decode method_4_code 10 = .ok (.iload_n 3, 1) := by decide +kernel
theorem d45_11 : decode method_4_code 11 = .ok (.ifCond .eq 20, 3) := by decide +kernel
theorem d45_14 : decode method_4_code 14 = .ok (.aload_n 0, 1) := by decide +kernel
theorem d45_15 : decode method_4_code 15 = .ok (.iload_n 1, 1) := by decide +kernel
theorem d45_16 : decode method_4_code 16 = .ok (.invokevirtual 52, 3) := by decide +kernel
theorem d45_19 : decode method_4_code 19 = .ok (.aload_n 2, 1) := by decide +kernel
theorem d45_20 : decode method_4_code 20 = .ok (.iconst 0, 1) := by decide +kernel
theorem d45_21 : decode method_4_code 21 = .ok (.invokevirtual 52, 3) := by decide +kernel
theorem d45_24 : decode method_4_code 24 = .ok (.if_icmp .ne 7, 3) := by decide +kernel
theorem d45_27 : decode method_4_code 27 = .ok (.iconst 1, 1) := by decide +kernel
theorem d45_28 : decode method_4_code 28 = .ok (.goto 4, 3) := by decide +kernel
theorem d45_32 : decode method_4_code 32 = .ok (.istore_n 3, 1) := by decide +kernel
theorem d45_33 : decode method_4_code 33 = .ok (.aload_n 2, 1) := by decide +kernel
theorem d45_34 : decode method_4_code 34 = .ok (.invokevirtual 31, 3) := by decide +kernel
theorem d45_37 : decode method_4_code 37 = .ok (.iconst 2, 1) := by decide +kernel
theorem d45_38 : decode method_4_code 38 = .ok (.if_icmp .lt 28, 3) := by decide +kernel
theorem d45_41 : decode method_4_code 41 = .ok (.iload_n 3, 1) := by decide +kernel
theorem d45_42 : decode method_4_code 42 = .ok (.ifCond .eq 22, 3) := by decide +kernel
theorem d45_45 : decode method_4_code 45 = .ok (.aload_n 0, 1) := by decide +kernel
theorem d45_46 : decode method_4_code 46 = .ok (.iload_n 1, 1) := by decide +kernel
theorem d45_47 : decode method_4_code 47 = .ok (.iconst 1, 1) := by decide +kernel
theorem d45_48 : decode method_4_code 48 = .ok (.iadd, 1) := by decide +kernel
theorem d45_49 : decode method_4_code 49 = .ok (.invokevirtual 52, 3) := by decide +kernel
theorem d45_52 : decode method_4_code 52 = .ok (.aload_n 2, 1) := by decide +kernel
theorem d45_53 : decode method_4_code 53 = .ok (.iconst 1, 1) := by decide +kernel
theorem d45_54 : decode method_4_code 54 = .ok (.invokevirtual 52, 3) := by decide +kernel
theorem d45_57 : decode method_4_code 57 = .ok (.if_icmp .ne 7, 3) := by decide +kernel
theorem d45_60 : decode method_4_code 60 = .ok (.iconst 1, 1) := by decide +kernel
theorem d45_61 : decode method_4_code 61 = .ok (.goto 4, 3) := by decide +kernel
theorem d45_65 : decode method_4_code 65 = .ok (.istore_n 3, 1) := by decide +kernel
theorem d45_66 : decode method_4_code 66 = .ok (.iload_n 3, 1) := by decide +kernel
theorem d45_67 : decode method_4_code 67 = .ok (.ireturn, 1) := by decide +kernel
theorem pd_56f5307 : parseMethodDescriptor "(I)C" = some ⟨[.int], some .char⟩ := by decide +kernel
theorem ef_45 (m : MethodId) (x0 : Addr) (x1 : Int32) (x2 : Addr) : entryFrame m #[(.ref x0), (.int x1), (.ref x2)] 4 = mkF m 0 #[.val (.ref x0), .val (.int x1), .val (.ref x2), .unset] [] := by first | (simp [entryFrame, mkF, argsToLocals, Value.category]; done) | rfl
def Q_rmSame (Z : State) (xm tm xs ts : Addr) (km ks : ClassId) (ms ss : List Int32) (no : Nat) (h0 : Heap) (n0 : Nat) (v : Option Value) (h : Heap) (L : List Loc) : Prop := v = some (.int (1 : Int32)) ∧ Fr n0 L ∧ h = h0
set_option maxRecDepth 65536 in
set_option maxHeartbeats 40000000 in
theorem rmSame (l : Launch) (Z : State) (a0 : Array Value) (hw : ∀ d ∈ tables_1, d.before a0 Z = true) (xm tm xs ts : Addr) (km ks : ClassId) (ms ss : List Int32) (no : Nat) (h0 : Heap) (n0 : Nat) (Z0 : n0 ≤ h0.size) (G1 : Int32) (O2 : Sta Z Z.heap "java/lang/String" "COMPACT_STRINGS" "Z" (.int G1)) (P5 : ¬ (G1 = (0 : Int32))) (X00 : Old Z n0 h0) (G3 : Value) (O4 : Sta Z Z.heap "jdk/internal/util/Preconditions" "SIOOBE_FORMATTER" "Ljava/util/function/BiFunction;" G3) (rG3 : G3.isRef = true) (Em : Exa Z h0 xm "java/lang/String") (Vm : Fld Z h0 xm "java/lang/String" "value" "[B" (.ref tm)) (Cm : Fld Z h0 xm "java/lang/String" "coder" "B" (.int (0 : Int32))) (Bm : Arv Z h0 tm km .byte (Int32.ofNat (ms).length) (((ms).map (fun c => c.toInt8.toInt32)).map Value.int) (.int (0 : Int32))) (hpm : ∀ c ∈ ms, ¬ c < 0 ∧ ¬ (255 : Int32) < c) (Es : Exa Z h0 xs "java/lang/String") (Vs : Fld Z h0 xs "java/lang/String" "value" "[B" (.ref ts)) (Cs : Fld Z h0 xs "java/lang/String" "coder" "B" (.int (0 : Int32))) (Bs : Arv Z h0 ts ks .byte (Int32.ofNat (ss).length) (((ss).map (fun c => c.toInt8.toInt32)).map Value.int) (.int (0 : Int32))) (hps : ∀ c ∈ ss, ¬ c < 0 ∧ ¬ (255 : Int32) < c) (hl : ss.length = 0 ∨ ss.length = 1 ∨ ss.length = 2) (hoff : no + ss.length ≤ ms.length) (hm4 : ms.length ≤ 4000) (hsub : ∀ i, i < ss.length → ms.getD (no + i) 0 = ss.getD i 0) :
    MetFree l (⟨"com/example/uakari/uakari/CommandLineErrorPinLaw", "same", "(Ljava/lang/String;ILjava/lang/String;)Z"⟩ : MethodName) (head1 [Jvm.Cond.code (⟨"com/example/uakari/uakari/CommandLineErrorPinLaw", "same", "(Ljava/lang/String;ILjava/lang/String;)Z"⟩ : MethodName) method_4_code 4 (some .boolean)] ({ frames := 4, cells := 0, slots := 0, locals := 54 } : Room)) (fun a U => a = #[(.ref xm), (.int (Int32.ofNat no)), (.ref xs)] ∧ Z.Warmed39 U.vm ∧ U.heap = h0) (fun _ _ _ _ _ => True) (fun _ U o U' => ∃ v L, o = .returned v ∧ (Q_rmSame Z xm tm xs ts km ks ms ss no h0 n0) v U'.heap L ∧ FrameEnd U o U' L ({ frames := 4, cells := 0, slots := 0, locals := 54 } : Room).cells ({ frames := 4, cells := 0, slots := 0, locals := 54 } : Room).slots) := by
  refine MetFree.of_bodySF (plainFor_of_name pn_3d5c09a) hisR ?_
  intro p e s m args below meth c s₁ Bd hml0 hP hK
  obtain ⟨rfl, hZ, hh⟩ := hP
  have hx := Bd.exec
  have hby := Bd.bytes
  have hml : c.maxLocals = 4 := hml0
  have hown : s.vm.findClass "com/example/uakari/uakari/CommandLineErrorPinLaw" = some m.cls := findClass_of_methodNamed Bd.named
  have hnm := (name_of_methodNamed Bd.named Bd.method).1
  have X0 : Stand p l e ({ frames := 4, cells := 0, slots := 0, locals := 54 } : Room) s m #[(.ref xm), (.int (Int32.ofNat no)), (.ref xs)] below meth c s₁ [] 0 0 := Stand.of_body Bd
  have e0 : s₁.heap = h0 := by rw [← hh, Bd.state]; rfl
  have N0 := Fr.nil n0
  have K0 : Keep h0 h0 [] := Keep.refl h0 []
  show Go p e below (s₁.setTop (entryFrame m #[(.ref xm), (.int (Int32.ofNat no)), (.ref xs)] 4)) (EndN s (Q_rmSame Z xm tm xs ts km ks ms ss no h0 n0) ({ frames := 4, cells := 0, slots := 0, locals := 54 } : Room).cells ({ frames := 4, cells := 0, slots := 0, locals := 54 } : Room).slots)
  refine Go.top (ef_45 m xm (Int32.ofNat no) xs) ?_
  have hch : ∀ d ∈ StrChars.Road.wordsChN, d.before a0 Z = true := fun d hd => hw d ((by decide +kernel : ∀ d ∈ StrChars.Road.wordsChN, d ∈ tables_1) d hd)
  have hln : ∀ d ∈ StrChars.Road.wordsLen, d.before a0 Z = true := fun d hd => hw d ((by decide +kernel : ∀ d ∈ StrChars.Road.wordsLen, d ∈ tables_1) d hd)
  have hcdm : StrChars.Road.CodA ms 0 (Int32.ofNat (ms).length) (((ms).map (fun c => c.toInt8.toInt32)).map Value.int) := StrChars.Road.codOf (n := (ms).length) rfl (fun x hx => (hpm x hx).2)
  have hcds : StrChars.Road.CodA ss 0 (Int32.ofNat (ss).length) (((ss).map (fun c => c.toInt8.toInt32)).map Value.int) := StrChars.Road.codOf (n := (ss).length) rfl (fun x hx => (hps x hx).2)
  rcases hl with hk | hk | hk
  ·
    refine Go.st (T' := s₁.setTop (mkF m 1 #[.val (.ref xm), .val (.int (Int32.ofNat no)), .val (.ref xs), .unset] [(.int (1 : Int32))])) (fun zt zk => XS.iconst X0.here hx rfl (hb hby d45_0) zk) ?_
    refine Go.st (T' := s₁.setTop (mkF m 2 #[.val (.ref xm), .val (.int (Int32.ofNat no)), .val (.ref xs), .val (.int (1 : Int32))] [])) (fun zt zk => XS.istoreN X0.here hx rfl (hb hby d45_1) rfl (l' := #[.val (.ref xm), .val (.int (Int32.ofNat no)), .val (.ref xs), .val (.int (1 : Int32))]) rfl zk) ?_
    refine Go.st (T' := s₁.setTop (mkF m 3 #[.val (.ref xm), .val (.int (Int32.ofNat no)), .val (.ref xs), .val (.int (1 : Int32))] [(.ref xs)])) (fun zt zk => XS.aloadN X0.here hx rfl (hb hby d45_2) rfl rfl zk) ?_
    obtain ⟨cq285, kq285, q285a, q285b, q285c⟩ := isOf hZ e0 Es
    obtain ⟨vr285, _, ⟨T285, L285, k285, n285⟩, -, X285, ⟨Lc285, hQ285, l285, y285, z285⟩, st285⟩ := X0.virtualBack hx (y := (⟨"java/lang/String", "length", "()I"⟩ : MethodName)) (z := (⟨"java/lang/String", "length", "()I"⟩ : MethodName)) hown (mvT hZ (hw _ (List.mem_of_getElem? (i := 313) rfl))) (mvT hZ (hw _ (List.mem_of_getElem? (i := 177) rfl))) (notFace_of_selects (args := #[]) (mvT hZ (hw _ (List.mem_of_getElem? (i := 179) rfl)))) (mvT hZ (hw _ (List.mem_of_getElem? (i := 179) rfl))) (mvT hZ (hw _ (List.mem_of_getElem? (i := 178) rfl))) (by decide) (StrChars.Road.lenW (W := 0) hZ hln (kI := 4) (hw _ (List.mem_of_getElem? (i := 5) rfl)) Es Vs Cs Bs hcds (own_up _ hps) (O2.ext (X00.keep K0 all0).2) P5 (by omega) (by decide) (by decide)) q285a q285c (g := (mkF m 3 #[.val (.ref xm), .val (.int (Int32.ofNat no)), .val (.ref xs), .val (.int (1 : Int32))] [(.ref xs)])) rfl (by rw [hml]; rfl) (Steps.refl _) (argsL := []) (rest := []) (lenOf pd_a8eac rfl) rfl (by show 2 * 0 + _ ≤ _; exact Nat.le_of_eq rfl) (hb hby d45_3) (fun _ _ => ⟨rfl, e0, (by decide : 0 + 0 ≤ _), (by decide : 0 + 0 ≤ _)⟩)
    dsimp only [Pt.U, Pt.locs, Pt.cells, Pt.slots] at X285 l285 y285 z285 st285 hQ285
    subst l285 y285 z285
    obtain ⟨rfl, rfl, eq285⟩ := hQ285
    have Nq285 : Fr n0 ([] : List Loc) := Fr.nil n0
    have NN286 := Fr.app N0 Nq285
    refine Go.st (T' := T285.setTop (mkF m 6 #[.val (.ref xm), .val (.int (Int32.ofNat no)), .val (.ref xs), .val (.int (1 : Int32))] [(.int (Int32.ofNat (ss).length))])) (fun zt zk => st285.trans zk) ?_
    refine Go.st (T' := T285.setTop (mkF m 7 #[.val (.ref xm), .val (.int (Int32.ofNat no)), .val (.ref xs), .val (.int (1 : Int32))] [(.int (1 : Int32)), (.int (Int32.ofNat (ss).length))])) (fun zt zk => XS.iconst X285.here hx rfl (hb hby d45_6) zk) ?_
    refine Go.st (T' := T285.setTop (mkF m 33 #[.val (.ref xm), .val (.int (Int32.ofNat no)), .val (.ref xs), .val (.int (1 : Int32))] [])) (fun zt zk => XS.icmpYes X285.here hx rfl (pc0 := 7) (pc' := 33) rfl (hb hby d45_7) rfl (tlt (by rw [hk]; decide)).1 (by decide) (by decide) zk) ?_
    refine Go.st (T' := T285.setTop (mkF m 34 #[.val (.ref xm), .val (.int (Int32.ofNat no)), .val (.ref xs), .val (.int (1 : Int32))] [(.ref xs)])) (fun zt zk => XS.aloadN X285.here hx rfl (hb hby d45_33) rfl rfl zk) ?_
    obtain ⟨cq287, kq287, q287a, q287b, q287c⟩ := isOf hZ eq285 Es
    obtain ⟨vr287, _, ⟨T287, L287, k287, n287⟩, -, X287, ⟨Lc287, hQ287, l287, y287, z287⟩, st287⟩ := X285.virtualBack hx (y := (⟨"java/lang/String", "length", "()I"⟩ : MethodName)) (z := (⟨"java/lang/String", "length", "()I"⟩ : MethodName)) hown (mvT hZ (hw _ (List.mem_of_getElem? (i := 313) rfl))) (mvT hZ (hw _ (List.mem_of_getElem? (i := 177) rfl))) (notFace_of_selects (args := #[]) (mvT hZ (hw _ (List.mem_of_getElem? (i := 179) rfl)))) (mvT hZ (hw _ (List.mem_of_getElem? (i := 179) rfl))) (mvT hZ (hw _ (List.mem_of_getElem? (i := 178) rfl))) (by decide) (StrChars.Road.lenW (W := 0) hZ hln (kI := 4) (hw _ (List.mem_of_getElem? (i := 5) rfl)) Es Vs Cs Bs hcds (own_up _ hps) (O2.ext (X00.keep K0 all0).2) P5 (by omega) (by decide) (by decide)) q287a q287c (g := (mkF m 34 #[.val (.ref xm), .val (.int (Int32.ofNat no)), .val (.ref xs), .val (.int (1 : Int32))] [(.ref xs)])) rfl (by rw [hml]; rfl) (Steps.refl _) (argsL := []) (rest := []) (lenOf pd_a8eac rfl) rfl (by show 2 * 0 + _ ≤ _; exact Nat.le_of_eq rfl) (hb hby d45_34) (fun _ _ => ⟨rfl, eq285, (by decide : 0 + 0 ≤ _), (by decide : 0 + 0 ≤ _)⟩)
    dsimp only [Pt.U, Pt.locs, Pt.cells, Pt.slots] at X287 l287 y287 z287 st287 hQ287
    subst l287 y287 z287
    obtain ⟨rfl, rfl, eq287⟩ := hQ287
    have Nq287 : Fr n0 ([] : List Loc) := Fr.nil n0
    have NN288 := Fr.app NN286 Nq287
    refine Go.st (T' := T287.setTop (mkF m 37 #[.val (.ref xm), .val (.int (Int32.ofNat no)), .val (.ref xs), .val (.int (1 : Int32))] [(.int (Int32.ofNat (ss).length))])) (fun zt zk => st287.trans zk) ?_
    refine Go.st (T' := T287.setTop (mkF m 38 #[.val (.ref xm), .val (.int (Int32.ofNat no)), .val (.ref xs), .val (.int (1 : Int32))] [(.int (2 : Int32)), (.int (Int32.ofNat (ss).length))])) (fun zt zk => XS.iconst X287.here hx rfl (hb hby d45_37) zk) ?_
    refine Go.st (T' := T287.setTop (mkF m 66 #[.val (.ref xm), .val (.int (Int32.ofNat no)), .val (.ref xs), .val (.int (1 : Int32))] [])) (fun zt zk => XS.icmpYes X287.here hx rfl (pc0 := 38) (pc' := 66) rfl (hb hby d45_38) rfl (tlt (by rw [hk]; decide)).1 (by decide) (by decide) zk) ?_
    refine Go.st (T' := T287.setTop (mkF m 67 #[.val (.ref xm), .val (.int (Int32.ofNat no)), .val (.ref xs), .val (.int (1 : Int32))] [(.int (1 : Int32))])) (fun zt zk => XS.iloadN X287.here hx rfl (hb hby d45_66) rfl zk) ?_
    exact Go.done X287 Bd.notSynchronized (v := some (.int (nar .boolean (1 : Int32)))) (fun h => by rw [Bd.returns] at h; cases h) (fun fs hr => retN X287 hx (t := .boolean) Bd.returns (by simp) (hb hby d45_67) hr) (by rw [eq287]; exact ⟨rfl, NN288, rfl⟩) (by decide) (by decide)
  ·
    refine Go.st (T' := s₁.setTop (mkF m 1 #[.val (.ref xm), .val (.int (Int32.ofNat no)), .val (.ref xs), .unset] [(.int (1 : Int32))])) (fun zt zk => XS.iconst X0.here hx rfl (hb hby d45_0) zk) ?_
    refine Go.st (T' := s₁.setTop (mkF m 2 #[.val (.ref xm), .val (.int (Int32.ofNat no)), .val (.ref xs), .val (.int (1 : Int32))] [])) (fun zt zk => XS.istoreN X0.here hx rfl (hb hby d45_1) rfl (l' := #[.val (.ref xm), .val (.int (Int32.ofNat no)), .val (.ref xs), .val (.int (1 : Int32))]) rfl zk) ?_
    refine Go.st (T' := s₁.setTop (mkF m 3 #[.val (.ref xm), .val (.int (Int32.ofNat no)), .val (.ref xs), .val (.int (1 : Int32))] [(.ref xs)])) (fun zt zk => XS.aloadN X0.here hx rfl (hb hby d45_2) rfl rfl zk) ?_
    obtain ⟨cq289, kq289, q289a, q289b, q289c⟩ := isOf hZ e0 Es
    obtain ⟨vr289, _, ⟨T289, L289, k289, n289⟩, -, X289, ⟨Lc289, hQ289, l289, y289, z289⟩, st289⟩ := X0.virtualBack hx (y := (⟨"java/lang/String", "length", "()I"⟩ : MethodName)) (z := (⟨"java/lang/String", "length", "()I"⟩ : MethodName)) hown (mvT hZ (hw _ (List.mem_of_getElem? (i := 313) rfl))) (mvT hZ (hw _ (List.mem_of_getElem? (i := 177) rfl))) (notFace_of_selects (args := #[]) (mvT hZ (hw _ (List.mem_of_getElem? (i := 179) rfl)))) (mvT hZ (hw _ (List.mem_of_getElem? (i := 179) rfl))) (mvT hZ (hw _ (List.mem_of_getElem? (i := 178) rfl))) (by decide) (StrChars.Road.lenW (W := 0) hZ hln (kI := 4) (hw _ (List.mem_of_getElem? (i := 5) rfl)) Es Vs Cs Bs hcds (own_up _ hps) (O2.ext (X00.keep K0 all0).2) P5 (by omega) (by decide) (by decide)) q289a q289c (g := (mkF m 3 #[.val (.ref xm), .val (.int (Int32.ofNat no)), .val (.ref xs), .val (.int (1 : Int32))] [(.ref xs)])) rfl (by rw [hml]; rfl) (Steps.refl _) (argsL := []) (rest := []) (lenOf pd_a8eac rfl) rfl (by show 2 * 0 + _ ≤ _; exact Nat.le_of_eq rfl) (hb hby d45_3) (fun _ _ => ⟨rfl, e0, (by decide : 0 + 0 ≤ _), (by decide : 0 + 0 ≤ _)⟩)
    dsimp only [Pt.U, Pt.locs, Pt.cells, Pt.slots] at X289 l289 y289 z289 st289 hQ289
    subst l289 y289 z289
    obtain ⟨rfl, rfl, eq289⟩ := hQ289
    have Nq289 : Fr n0 ([] : List Loc) := Fr.nil n0
    have NN290 := Fr.app N0 Nq289
    refine Go.st (T' := T289.setTop (mkF m 6 #[.val (.ref xm), .val (.int (Int32.ofNat no)), .val (.ref xs), .val (.int (1 : Int32))] [(.int (Int32.ofNat (ss).length))])) (fun zt zk => st289.trans zk) ?_
    refine Go.st (T' := T289.setTop (mkF m 7 #[.val (.ref xm), .val (.int (Int32.ofNat no)), .val (.ref xs), .val (.int (1 : Int32))] [(.int (1 : Int32)), (.int (Int32.ofNat (ss).length))])) (fun zt zk => XS.iconst X289.here hx rfl (hb hby d45_6) zk) ?_
    refine Go.st (T' := T289.setTop (mkF m 10 #[.val (.ref xm), .val (.int (Int32.ofNat no)), .val (.ref xs), .val (.int (1 : Int32))] [])) (fun zt zk => XS.icmpNo X289.here hx rfl (hb hby d45_7) rfl (flt (by rw [hk]; decide)).1 zk) ?_
    refine Go.st (T' := T289.setTop (mkF m 11 #[.val (.ref xm), .val (.int (Int32.ofNat no)), .val (.ref xs), .val (.int (1 : Int32))] [(.int (1 : Int32))])) (fun zt zk => XS.iloadN X289.here hx rfl (hb hby d45_10) rfl zk) ?_
    refine Go.st (T' := T289.setTop (mkF m 14 #[.val (.ref xm), .val (.int (Int32.ofNat no)), .val (.ref xs), .val (.int (1 : Int32))] [])) (fun zt zk => XS.ifNo X289.here hx rfl (hb hby d45_11) rfl ((if0 _ _).trans (feq (by decide)).1) zk) ?_
    refine Go.st (T' := T289.setTop (mkF m 15 #[.val (.ref xm), .val (.int (Int32.ofNat no)), .val (.ref xs), .val (.int (1 : Int32))] [(.ref xm)])) (fun zt zk => XS.aloadN X289.here hx rfl (hb hby d45_14) rfl rfl zk) ?_
    refine Go.st (T' := T289.setTop (mkF m 16 #[.val (.ref xm), .val (.int (Int32.ofNat no)), .val (.ref xs), .val (.int (1 : Int32))] [(.int (Int32.ofNat no)), (.ref xm)])) (fun zt zk => XS.iloadN X289.here hx rfl (hb hby d45_15) rfl zk) ?_
    obtain ⟨cq291, kq291, q291a, q291b, q291c⟩ := isOf hZ eq289 Em
    obtain ⟨vr291, _, ⟨T291, L291, k291, n291⟩, -, X291, ⟨Lc291, hQ291, l291, y291, z291⟩, st291⟩ := X289.virtualBack hx (y := (⟨"java/lang/String", "charAt", "(I)C"⟩ : MethodName)) (z := (⟨"java/lang/String", "charAt", "(I)C"⟩ : MethodName)) hown (mvT hZ (hw _ (List.mem_of_getElem? (i := 317) rfl))) (mvT hZ (hw _ (List.mem_of_getElem? (i := 318) rfl))) (notFace_of_selects (args := #[]) (mvT hZ (hw _ (List.mem_of_getElem? (i := 320) rfl)))) (mvT hZ (hw _ (List.mem_of_getElem? (i := 320) rfl))) (mvT hZ (hw _ (List.mem_of_getElem? (i := 319) rfl))) (by decide) (StrChars.Road.chN (W := 0) hZ hch (kI := 4) (hw _ (List.mem_of_getElem? (i := 5) rfl)) Em Vm Cm Bm hcdm (own_up _ hpm) (O2.ext (X00.keep K0 all0).2) P5 (O4.ext (X00.keep K0 all0).2) rG3 hm4 (i := no) (by omega) (j := (Int32.ofNat no)) rfl (by decide) (by decide)) q291a q291c (g := (mkF m 16 #[.val (.ref xm), .val (.int (Int32.ofNat no)), .val (.ref xs), .val (.int (1 : Int32))] [(.int (Int32.ofNat no)), (.ref xm)])) rfl (by rw [hml]; rfl) (Steps.refl _) (argsL := [(.int (Int32.ofNat no))]) (rest := []) (lenOf pd_56f5307 rfl) rfl (by show 2 * 0 + _ ≤ _; exact Nat.le_of_eq rfl) (hb hby d45_16) (fun _ _ => ⟨rfl, eq289, (by decide : 0 + 0 ≤ _), (by decide : 0 + 0 ≤ _)⟩)
    dsimp only [Pt.U, Pt.locs, Pt.cells, Pt.slots] at X291 l291 y291 z291 st291 hQ291
    subst l291 y291 z291
    obtain ⟨rfl, rfl, eq291⟩ := hQ291
    have Nq291 : Fr n0 ([] : List Loc) := Fr.nil n0
    have NN292 := Fr.app NN290 Nq291
    refine Go.st (T' := T291.setTop (mkF m 19 #[.val (.ref xm), .val (.int (Int32.ofNat no)), .val (.ref xs), .val (.int (1 : Int32))] [(.int ((ms).getD no 0))])) (fun zt zk => st291.trans zk) ?_
    refine Go.st (T' := T291.setTop (mkF m 20 #[.val (.ref xm), .val (.int (Int32.ofNat no)), .val (.ref xs), .val (.int (1 : Int32))] [(.ref xs), (.int ((ms).getD no 0))])) (fun zt zk => XS.aloadN X291.here hx rfl (hb hby d45_19) rfl rfl zk) ?_
    refine Go.st (T' := T291.setTop (mkF m 21 #[.val (.ref xm), .val (.int (Int32.ofNat no)), .val (.ref xs), .val (.int (1 : Int32))] [(.int (0 : Int32)), (.ref xs), (.int ((ms).getD no 0))])) (fun zt zk => XS.iconst X291.here hx rfl (hb hby d45_20) zk) ?_
    obtain ⟨cq293, kq293, q293a, q293b, q293c⟩ := isOf hZ eq291 Es
    obtain ⟨vr293, _, ⟨T293, L293, k293, n293⟩, -, X293, ⟨Lc293, hQ293, l293, y293, z293⟩, st293⟩ := X291.virtualBack hx (y := (⟨"java/lang/String", "charAt", "(I)C"⟩ : MethodName)) (z := (⟨"java/lang/String", "charAt", "(I)C"⟩ : MethodName)) hown (mvT hZ (hw _ (List.mem_of_getElem? (i := 317) rfl))) (mvT hZ (hw _ (List.mem_of_getElem? (i := 318) rfl))) (notFace_of_selects (args := #[]) (mvT hZ (hw _ (List.mem_of_getElem? (i := 320) rfl)))) (mvT hZ (hw _ (List.mem_of_getElem? (i := 320) rfl))) (mvT hZ (hw _ (List.mem_of_getElem? (i := 319) rfl))) (by decide) (StrChars.Road.chN (W := 1) hZ hch (kI := 4) (hw _ (List.mem_of_getElem? (i := 5) rfl)) Es Vs Cs Bs hcds (own_up _ hps) (O2.ext (X00.keep K0 all0).2) P5 (O4.ext (X00.keep K0 all0).2) rG3 (by omega) (i := 0) (by omega) (j := (0 : Int32)) rfl (by decide) (by decide)) q293a q293c (g := (mkF m 21 #[.val (.ref xm), .val (.int (Int32.ofNat no)), .val (.ref xs), .val (.int (1 : Int32))] [(.int (0 : Int32)), (.ref xs), (.int ((ms).getD no 0))])) rfl (by rw [hml]; rfl) (Steps.refl _) (argsL := [(.int (0 : Int32))]) (rest := [(.int ((ms).getD no 0))]) (lenOf pd_56f5307 rfl) rfl (by show 2 * 0 + _ ≤ _; exact Nat.le_of_eq rfl) (hb hby d45_21) (fun _ _ => ⟨rfl, eq291, (by decide : 0 + 0 ≤ _), (by decide : 0 + 0 ≤ _)⟩)
    dsimp only [Pt.U, Pt.locs, Pt.cells, Pt.slots] at X293 l293 y293 z293 st293 hQ293
    subst l293 y293 z293
    obtain ⟨rfl, rfl, eq293⟩ := hQ293
    have Nq293 : Fr n0 ([] : List Loc) := Fr.nil n0
    have NN294 := Fr.app NN292 Nq293
    refine Go.st (T' := T293.setTop (mkF m 24 #[.val (.ref xm), .val (.int (Int32.ofNat no)), .val (.ref xs), .val (.int (1 : Int32))] [(.int ((ss).getD 0 0)), (.int ((ms).getD no 0))])) (fun zt zk => st293.trans zk) ?_
    refine Go.st (T' := T293.setTop (mkF m 27 #[.val (.ref xm), .val (.int (Int32.ofNat no)), .val (.ref xs), .val (.int (1 : Int32))] [])) (fun zt zk => XS.icmpNo X293.here hx rfl (hb hby d45_24) rfl (teq (hsub 0 (by omega))).2 zk) ?_
    refine Go.st (T' := T293.setTop (mkF m 28 #[.val (.ref xm), .val (.int (Int32.ofNat no)), .val (.ref xs), .val (.int (1 : Int32))] [(.int (1 : Int32))])) (fun zt zk => XS.iconst X293.here hx rfl (hb hby d45_27) zk) ?_
    refine Go.st (T' := T293.setTop (mkF m 32 #[.val (.ref xm), .val (.int (Int32.ofNat no)), .val (.ref xs), .val (.int (1 : Int32))] [(.int (1 : Int32))])) (fun zt zk => XS.goto X293.here hx rfl (pc0 := 28) (pc' := 32) rfl (hb hby d45_28) (by decide) (by decide) zk) ?_
    refine Go.st (T' := T293.setTop (mkF m 33 #[.val (.ref xm), .val (.int (Int32.ofNat no)), .val (.ref xs), .val (.int (1 : Int32))] [])) (fun zt zk => XS.istoreN X293.here hx rfl (hb hby d45_32) rfl (l' := #[.val (.ref xm), .val (.int (Int32.ofNat no)), .val (.ref xs), .val (.int (1 : Int32))]) rfl zk) ?_
    refine Go.st (T' := T293.setTop (mkF m 34 #[.val (.ref xm), .val (.int (Int32.ofNat no)), .val (.ref xs), .val (.int (1 : Int32))] [(.ref xs)])) (fun zt zk => XS.aloadN X293.here hx rfl (hb hby d45_33) rfl rfl zk) ?_
    obtain ⟨cq295, kq295, q295a, q295b, q295c⟩ := isOf hZ eq293 Es
    obtain ⟨vr295, _, ⟨T295, L295, k295, n295⟩, -, X295, ⟨Lc295, hQ295, l295, y295, z295⟩, st295⟩ := X293.virtualBack hx (y := (⟨"java/lang/String", "length", "()I"⟩ : MethodName)) (z := (⟨"java/lang/String", "length", "()I"⟩ : MethodName)) hown (mvT hZ (hw _ (List.mem_of_getElem? (i := 313) rfl))) (mvT hZ (hw _ (List.mem_of_getElem? (i := 177) rfl))) (notFace_of_selects (args := #[]) (mvT hZ (hw _ (List.mem_of_getElem? (i := 179) rfl)))) (mvT hZ (hw _ (List.mem_of_getElem? (i := 179) rfl))) (mvT hZ (hw _ (List.mem_of_getElem? (i := 178) rfl))) (by decide) (StrChars.Road.lenW (W := 0) hZ hln (kI := 4) (hw _ (List.mem_of_getElem? (i := 5) rfl)) Es Vs Cs Bs hcds (own_up _ hps) (O2.ext (X00.keep K0 all0).2) P5 (by omega) (by decide) (by decide)) q295a q295c (g := (mkF m 34 #[.val (.ref xm), .val (.int (Int32.ofNat no)), .val (.ref xs), .val (.int (1 : Int32))] [(.ref xs)])) rfl (by rw [hml]; rfl) (Steps.refl _) (argsL := []) (rest := []) (lenOf pd_a8eac rfl) rfl (by show 2 * 0 + _ ≤ _; exact Nat.le_of_eq rfl) (hb hby d45_34) (fun _ _ => ⟨rfl, eq293, (by decide : 0 + 0 ≤ _), (by decide : 0 + 0 ≤ _)⟩)
    dsimp only [Pt.U, Pt.locs, Pt.cells, Pt.slots] at X295 l295 y295 z295 st295 hQ295
    subst l295 y295 z295
    obtain ⟨rfl, rfl, eq295⟩ := hQ295
    have Nq295 : Fr n0 ([] : List Loc) := Fr.nil n0
    have NN296 := Fr.app NN294 Nq295
    refine Go.st (T' := T295.setTop (mkF m 37 #[.val (.ref xm), .val (.int (Int32.ofNat no)), .val (.ref xs), .val (.int (1 : Int32))] [(.int (Int32.ofNat (ss).length))])) (fun zt zk => st295.trans zk) ?_
    refine Go.st (T' := T295.setTop (mkF m 38 #[.val (.ref xm), .val (.int (Int32.ofNat no)), .val (.ref xs), .val (.int (1 : Int32))] [(.int (2 : Int32)), (.int (Int32.ofNat (ss).length))])) (fun zt zk => XS.iconst X295.here hx rfl (hb hby d45_37) zk) ?_
    refine Go.st (T' := T295.setTop (mkF m 66 #[.val (.ref xm), .val (.int (Int32.ofNat no)), .val (.ref xs), .val (.int (1 : Int32))] [])) (fun zt zk => XS.icmpYes X295.here hx rfl (pc0 := 38) (pc' := 66) rfl (hb hby d45_38) rfl (tlt (by rw [hk]; decide)).1 (by decide) (by decide) zk) ?_
    refine Go.st (T' := T295.setTop (mkF m 67 #[.val (.ref xm), .val (.int (Int32.ofNat no)), .val (.ref xs), .val (.int (1 : Int32))] [(.int (1 : Int32))])) (fun zt zk => XS.iloadN X295.here hx rfl (hb hby d45_66) rfl zk) ?_
    exact Go.done X295 Bd.notSynchronized (v := some (.int (nar .boolean (1 : Int32)))) (fun h => by rw [Bd.returns] at h; cases h) (fun fs hr => retN X295 hx (t := .boolean) Bd.returns (by simp) (hb hby d45_67) hr) (by rw [eq295]; exact ⟨rfl, NN296, rfl⟩) (by decide) (by decide)
  ·
    refine Go.st (T' := s₁.setTop (mkF m 1 #[.val (.ref xm), .val (.int (Int32.ofNat no)), .val (.ref xs), .unset] [(.int (1 : Int32))])) (fun zt zk => XS.iconst X0.here hx rfl (hb hby d45_0) zk) ?_
    refine Go.st (T' := s₁.setTop (mkF m 2 #[.val (.ref xm), .val (.int (Int32.ofNat no)), .val (.ref xs), .val (.int (1 : Int32))] [])) (fun zt zk => XS.istoreN X0.here hx rfl (hb hby d45_1) rfl (l' := #[.val (.ref xm), .val (.int (Int32.ofNat no)), .val (.ref xs), .val (.int (1 : Int32))]) rfl zk) ?_
    refine Go.st (T' := s₁.setTop (mkF m 3 #[.val (.ref xm), .val (.int (Int32.ofNat no)), .val (.ref xs), .val (.int (1 : Int32))] [(.ref xs)])) (fun zt zk => XS.aloadN X0.here hx rfl (hb hby d45_2) rfl rfl zk) ?_
    obtain ⟨cq297, kq297, q297a, q297b, q297c⟩ := isOf hZ e0 Es
    obtain ⟨vr297, _, ⟨T297, L297, k297, n297⟩, -, X297, ⟨Lc297, hQ297, l297, y297, z297⟩, st297⟩ := X0.virtualBack hx (y := (⟨"java/lang/String", "length", "()I"⟩ : MethodName)) (z := (⟨"java/lang/String", "length", "()I"⟩ : MethodName)) hown (mvT hZ (hw _ (List.mem_of_getElem? (i := 313) rfl))) (mvT hZ (hw _ (List.mem_of_getElem? (i := 177) rfl))) (notFace_of_selects (args := #[]) (mvT hZ (hw _ (List.mem_of_getElem? (i := 179) rfl)))) (mvT hZ (hw _ (List.mem_of_getElem? (i := 179) rfl))) (mvT hZ (hw _ (List.mem_of_getElem? (i := 178) rfl))) (by decide) (StrChars.Road.lenW (W := 0) hZ hln (kI := 4) (hw _ (List.mem_of_getElem? (i := 5) rfl)) Es Vs Cs Bs hcds (own_up _ hps) (O2.ext (X00.keep K0 all0).2) P5 (by omega) (by decide) (by decide)) q297a q297c (g := (mkF m 3 #[.val (.ref xm), .val (.int (Int32.ofNat no)), .val (.ref xs), .val (.int (1 : Int32))] [(.ref xs)])) rfl (by rw [hml]; rfl) (Steps.refl _) (argsL := []) (rest := []) (lenOf pd_a8eac rfl) rfl (by show 2 * 0 + _ ≤ _; exact Nat.le_of_eq rfl) (hb hby d45_3) (fun _ _ => ⟨rfl, e0, (by decide : 0 + 0 ≤ _), (by decide : 0 + 0 ≤ _)⟩)
    dsimp only [Pt.U, Pt.locs, Pt.cells, Pt.slots] at X297 l297 y297 z297 st297 hQ297
    subst l297 y297 z297
    obtain ⟨rfl, rfl, eq297⟩ := hQ297
    have Nq297 : Fr n0 ([] : List Loc) := Fr.nil n0
    have NN298 := Fr.app N0 Nq297
    refine Go.st (T' := T297.setTop (mkF m 6 #[.val (.ref xm), .val (.int (Int32.ofNat no)), .val (.ref xs), .val (.int (1 : Int32))] [(.int (Int32.ofNat (ss).length))])) (fun zt zk => st297.trans zk) ?_
    refine Go.st (T' := T297.setTop (mkF m 7 #[.val (.ref xm), .val (.int (Int32.ofNat no)), .val (.ref xs), .val (.int (1 : Int32))] [(.int (1 : Int32)), (.int (Int32.ofNat (ss).length))])) (fun zt zk => XS.iconst X297.here hx rfl (hb hby d45_6) zk) ?_
    refine Go.st (T' := T297.setTop (mkF m 10 #[.val (.ref xm), .val (.int (Int32.ofNat no)), .val (.ref xs), .val (.int (1 : Int32))] [])) (fun zt zk => XS.icmpNo X297.here hx rfl (hb hby d45_7) rfl (flt (by rw [hk]; decide)).1 zk) ?_
    refine Go.st (T' := T297.setTop (mkF m 11 #[.val (.ref xm), .val (.int (Int32.ofNat no)), .val (.ref xs), .val (.int (1 : Int32))] [(.int (1 : Int32))])) (fun zt zk => XS.iloadN X297.here hx rfl (hb hby d45_10) rfl zk) ?_
    refine Go.st (T' := T297.setTop (mkF m 14 #[.val (.ref xm), .val (.int (Int32.ofNat no)), .val (.ref xs), .val (.int (1 : Int32))] [])) (fun zt zk => XS.ifNo X297.here hx rfl (hb hby d45_11) rfl ((if0 _ _).trans (feq (by decide)).1) zk) ?_
    refine Go.st (T' := T297.setTop (mkF m 15 #[.val (.ref xm), .val (.int (Int32.ofNat no)), .val (.ref xs), .val (.int (1 : Int32))] [(.ref xm)])) (fun zt zk => XS.aloadN X297.here hx rfl (hb hby d45_14) rfl rfl zk) ?_
    refine Go.st (T' := T297.setTop (mkF m 16 #[.val (.ref xm), .val (.int (Int32.ofNat no)), .val (.ref xs), .val (.int (1 : Int32))] [(.int (Int32.ofNat no)), (.ref xm)])) (fun zt zk => XS.iloadN X297.here hx rfl (hb hby d45_15) rfl zk) ?_
    obtain ⟨LX299, XX299, NX299⟩ : ∃ LX, Stand p l e ({ frames := 4, cells := 0, slots := 0, locals := 54 } : Room) s m #[(.ref xm), (.int (Int32.ofNat no)), (.ref xs)] below meth c T297 LX 0 0 ∧ Fr n0 LX := ⟨_, X297, NN298⟩
    obtain ⟨cq300, kq300, q300a, q300b, q300c⟩ := isOf hZ eq297 Em
    obtain ⟨vr300, _, ⟨T300, L300, k300, n300⟩, -, X300, ⟨Lc300, hQ300, l300, y300, z300⟩, st300⟩ := XX299.virtualBack hx (y := (⟨"java/lang/String", "charAt", "(I)C"⟩ : MethodName)) (z := (⟨"java/lang/String", "charAt", "(I)C"⟩ : MethodName)) hown (mvT hZ (hw _ (List.mem_of_getElem? (i := 317) rfl))) (mvT hZ (hw _ (List.mem_of_getElem? (i := 318) rfl))) (notFace_of_selects (args := #[]) (mvT hZ (hw _ (List.mem_of_getElem? (i := 320) rfl)))) (mvT hZ (hw _ (List.mem_of_getElem? (i := 320) rfl))) (mvT hZ (hw _ (List.mem_of_getElem? (i := 319) rfl))) (by decide) (StrChars.Road.chN (W := 0) hZ hch (kI := 4) (hw _ (List.mem_of_getElem? (i := 5) rfl)) Em Vm Cm Bm hcdm (own_up _ hpm) (O2.ext (X00.keep K0 all0).2) P5 (O4.ext (X00.keep K0 all0).2) rG3 hm4 (i := no) (by omega) (j := (Int32.ofNat no)) rfl (by decide) (by decide)) q300a q300c (g := (mkF m 16 #[.val (.ref xm), .val (.int (Int32.ofNat no)), .val (.ref xs), .val (.int (1 : Int32))] [(.int (Int32.ofNat no)), (.ref xm)])) rfl (by rw [hml]; rfl) (Steps.refl _) (argsL := [(.int (Int32.ofNat no))]) (rest := []) (lenOf pd_56f5307 rfl) rfl (by show 2 * 0 + _ ≤ _; exact Nat.le_of_eq rfl) (hb hby d45_16) (fun _ _ => ⟨rfl, eq297, (by decide : 0 + 0 ≤ _), (by decide : 0 + 0 ≤ _)⟩)
    dsimp only [Pt.U, Pt.locs, Pt.cells, Pt.slots] at X300 l300 y300 z300 st300 hQ300
    subst l300 y300 z300
    obtain ⟨rfl, rfl, eq300⟩ := hQ300
    have Nq300 : Fr n0 ([] : List Loc) := Fr.nil n0
    have NN301 := Fr.app NX299 Nq300
    refine Go.st (T' := T300.setTop (mkF m 19 #[.val (.ref xm), .val (.int (Int32.ofNat no)), .val (.ref xs), .val (.int (1 : Int32))] [(.int ((ms).getD no 0))])) (fun zt zk => st300.trans zk) ?_
    refine Go.st (T' := T300.setTop (mkF m 20 #[.val (.ref xm), .val (.int (Int32.ofNat no)), .val (.ref xs), .val (.int (1 : Int32))] [(.ref xs), (.int ((ms).getD no 0))])) (fun zt zk => XS.aloadN X300.here hx rfl (hb hby d45_19) rfl rfl zk) ?_
    refine Go.st (T' := T300.setTop (mkF m 21 #[.val (.ref xm), .val (.int (Int32.ofNat no)), .val (.ref xs), .val (.int (1 : Int32))] [(.int (0 : Int32)), (.ref xs), (.int ((ms).getD no 0))])) (fun zt zk => XS.iconst X300.here hx rfl (hb hby d45_20) zk) ?_
    obtain ⟨cq302, kq302, q302a, q302b, q302c⟩ := isOf hZ eq300 Es
    obtain ⟨vr302, _, ⟨T302, L302, k302, n302⟩, -, X302, ⟨Lc302, hQ302, l302, y302, z302⟩, st302⟩ := X300.virtualBack hx (y := (⟨"java/lang/String", "charAt", "(I)C"⟩ : MethodName)) (z := (⟨"java/lang/String", "charAt", "(I)C"⟩ : MethodName)) hown (mvT hZ (hw _ (List.mem_of_getElem? (i := 317) rfl))) (mvT hZ (hw _ (List.mem_of_getElem? (i := 318) rfl))) (notFace_of_selects (args := #[]) (mvT hZ (hw _ (List.mem_of_getElem? (i := 320) rfl)))) (mvT hZ (hw _ (List.mem_of_getElem? (i := 320) rfl))) (mvT hZ (hw _ (List.mem_of_getElem? (i := 319) rfl))) (by decide) (StrChars.Road.chN (W := 1) hZ hch (kI := 4) (hw _ (List.mem_of_getElem? (i := 5) rfl)) Es Vs Cs Bs hcds (own_up _ hps) (O2.ext (X00.keep K0 all0).2) P5 (O4.ext (X00.keep K0 all0).2) rG3 (by omega) (i := 0) (by omega) (j := (0 : Int32)) rfl (by decide) (by decide)) q302a q302c (g := (mkF m 21 #[.val (.ref xm), .val (.int (Int32.ofNat no)), .val (.ref xs), .val (.int (1 : Int32))] [(.int (0 : Int32)), (.ref xs), (.int ((ms).getD no 0))])) rfl (by rw [hml]; rfl) (Steps.refl _) (argsL := [(.int (0 : Int32))]) (rest := [(.int ((ms).getD no 0))]) (lenOf pd_56f5307 rfl) rfl (by show 2 * 0 + _ ≤ _; exact Nat.le_of_eq rfl) (hb hby d45_21) (fun _ _ => ⟨rfl, eq300, (by decide : 0 + 0 ≤ _), (by decide : 0 + 0 ≤ _)⟩)
    dsimp only [Pt.U, Pt.locs, Pt.cells, Pt.slots] at X302 l302 y302 z302 st302 hQ302
    subst l302 y302 z302
    obtain ⟨rfl, rfl, eq302⟩ := hQ302
    have Nq302 : Fr n0 ([] : List Loc) := Fr.nil n0
    have NN303 := Fr.app NN301 Nq302
    refine Go.st (T' := T302.setTop (mkF m 24 #[.val (.ref xm), .val (.int (Int32.ofNat no)), .val (.ref xs), .val (.int (1 : Int32))] [(.int ((ss).getD 0 0)), (.int ((ms).getD no 0))])) (fun zt zk => st302.trans zk) ?_
    refine Go.st (T' := T302.setTop (mkF m 27 #[.val (.ref xm), .val (.int (Int32.ofNat no)), .val (.ref xs), .val (.int (1 : Int32))] [])) (fun zt zk => XS.icmpNo X302.here hx rfl (hb hby d45_24) rfl (teq (hsub 0 (by omega))).2 zk) ?_
    refine Go.st (T' := T302.setTop (mkF m 28 #[.val (.ref xm), .val (.int (Int32.ofNat no)), .val (.ref xs), .val (.int (1 : Int32))] [(.int (1 : Int32))])) (fun zt zk => XS.iconst X302.here hx rfl (hb hby d45_27) zk) ?_
    refine Go.st (T' := T302.setTop (mkF m 32 #[.val (.ref xm), .val (.int (Int32.ofNat no)), .val (.ref xs), .val (.int (1 : Int32))] [(.int (1 : Int32))])) (fun zt zk => XS.goto X302.here hx rfl (pc0 := 28) (pc' := 32) rfl (hb hby d45_28) (by decide) (by decide) zk) ?_
    refine Go.st (T' := T302.setTop (mkF m 33 #[.val (.ref xm), .val (.int (Int32.ofNat no)), .val (.ref xs), .val (.int (1 : Int32))] [])) (fun zt zk => XS.istoreN X302.here hx rfl (hb hby d45_32) rfl (l' := #[.val (.ref xm), .val (.int (Int32.ofNat no)), .val (.ref xs), .val (.int (1 : Int32))]) rfl zk) ?_
    refine Go.st (T' := T302.setTop (mkF m 34 #[.val (.ref xm), .val (.int (Int32.ofNat no)), .val (.ref xs), .val (.int (1 : Int32))] [(.ref xs)])) (fun zt zk => XS.aloadN X302.here hx rfl (hb hby d45_33) rfl rfl zk) ?_
    obtain ⟨cq304, kq304, q304a, q304b, q304c⟩ := isOf hZ eq302 Es
    obtain ⟨vr304, _, ⟨T304, L304, k304, n304⟩, -, X304, ⟨Lc304, hQ304, l304, y304, z304⟩, st304⟩ := X302.virtualBack hx (y := (⟨"java/lang/String", "length", "()I"⟩ : MethodName)) (z := (⟨"java/lang/String", "length", "()I"⟩ : MethodName)) hown (mvT hZ (hw _ (List.mem_of_getElem? (i := 313) rfl))) (mvT hZ (hw _ (List.mem_of_getElem? (i := 177) rfl))) (notFace_of_selects (args := #[]) (mvT hZ (hw _ (List.mem_of_getElem? (i := 179) rfl)))) (mvT hZ (hw _ (List.mem_of_getElem? (i := 179) rfl))) (mvT hZ (hw _ (List.mem_of_getElem? (i := 178) rfl))) (by decide) (StrChars.Road.lenW (W := 0) hZ hln (kI := 4) (hw _ (List.mem_of_getElem? (i := 5) rfl)) Es Vs Cs Bs hcds (own_up _ hps) (O2.ext (X00.keep K0 all0).2) P5 (by omega) (by decide) (by decide)) q304a q304c (g := (mkF m 34 #[.val (.ref xm), .val (.int (Int32.ofNat no)), .val (.ref xs), .val (.int (1 : Int32))] [(.ref xs)])) rfl (by rw [hml]; rfl) (Steps.refl _) (argsL := []) (rest := []) (lenOf pd_a8eac rfl) rfl (by show 2 * 0 + _ ≤ _; exact Nat.le_of_eq rfl) (hb hby d45_34) (fun _ _ => ⟨rfl, eq302, (by decide : 0 + 0 ≤ _), (by decide : 0 + 0 ≤ _)⟩)
    dsimp only [Pt.U, Pt.locs, Pt.cells, Pt.slots] at X304 l304 y304 z304 st304 hQ304
    subst l304 y304 z304
    obtain ⟨rfl, rfl, eq304⟩ := hQ304
    have Nq304 : Fr n0 ([] : List Loc) := Fr.nil n0
    have NN305 := Fr.app NN303 Nq304
    refine Go.st (T' := T304.setTop (mkF m 37 #[.val (.ref xm), .val (.int (Int32.ofNat no)), .val (.ref xs), .val (.int (1 : Int32))] [(.int (Int32.ofNat (ss).length))])) (fun zt zk => st304.trans zk) ?_
    refine Go.st (T' := T304.setTop (mkF m 38 #[.val (.ref xm), .val (.int (Int32.ofNat no)), .val (.ref xs), .val (.int (1 : Int32))] [(.int (2 : Int32)), (.int (Int32.ofNat (ss).length))])) (fun zt zk => XS.iconst X304.here hx rfl (hb hby d45_37) zk) ?_
    refine Go.st (T' := T304.setTop (mkF m 41 #[.val (.ref xm), .val (.int (Int32.ofNat no)), .val (.ref xs), .val (.int (1 : Int32))] [])) (fun zt zk => XS.icmpNo X304.here hx rfl (hb hby d45_38) rfl (flt (by rw [hk]; decide)).1 zk) ?_
    refine Go.st (T' := T304.setTop (mkF m 42 #[.val (.ref xm), .val (.int (Int32.ofNat no)), .val (.ref xs), .val (.int (1 : Int32))] [(.int (1 : Int32))])) (fun zt zk => XS.iloadN X304.here hx rfl (hb hby d45_41) rfl zk) ?_
    refine Go.st (T' := T304.setTop (mkF m 45 #[.val (.ref xm), .val (.int (Int32.ofNat no)), .val (.ref xs), .val (.int (1 : Int32))] [])) (fun zt zk => XS.ifNo X304.here hx rfl (hb hby d45_42) rfl ((if0 _ _).trans (feq (by decide)).1) zk) ?_
    refine Go.st (T' := T304.setTop (mkF m 46 #[.val (.ref xm), .val (.int (Int32.ofNat no)), .val (.ref xs), .val (.int (1 : Int32))] [(.ref xm)])) (fun zt zk => XS.aloadN X304.here hx rfl (hb hby d45_45) rfl rfl zk) ?_
    refine Go.st (T' := T304.setTop (mkF m 47 #[.val (.ref xm), .val (.int (Int32.ofNat no)), .val (.ref xs), .val (.int (1 : Int32))] [(.int (Int32.ofNat no)), (.ref xm)])) (fun zt zk => XS.iloadN X304.here hx rfl (hb hby d45_46) rfl zk) ?_
    refine Go.st (T' := T304.setTop (mkF m 48 #[.val (.ref xm), .val (.int (Int32.ofNat no)), .val (.ref xs), .val (.int (1 : Int32))] [(.int (1 : Int32)), (.int (Int32.ofNat no)), (.ref xm)])) (fun zt zk => XS.iconst X304.here hx rfl (hb hby d45_47) zk) ?_
    refine Go.st (T' := T304.setTop (mkF m 49 #[.val (.ref xm), .val (.int (Int32.ofNat no)), .val (.ref xs), .val (.int (1 : Int32))] [(.int ((Int32.ofNat no) + (1 : Int32))), (.ref xm)])) (fun zt zk => XS.iadd X304.here hx rfl (hb hby d45_48) rfl zk) ?_
    obtain ⟨cq306, kq306, q306a, q306b, q306c⟩ := isOf hZ eq304 Em
    obtain ⟨vr306, _, ⟨T306, L306, k306, n306⟩, -, X306, ⟨Lc306, hQ306, l306, y306, z306⟩, st306⟩ := X304.virtualBack hx (y := (⟨"java/lang/String", "charAt", "(I)C"⟩ : MethodName)) (z := (⟨"java/lang/String", "charAt", "(I)C"⟩ : MethodName)) hown (mvT hZ (hw _ (List.mem_of_getElem? (i := 317) rfl))) (mvT hZ (hw _ (List.mem_of_getElem? (i := 318) rfl))) (notFace_of_selects (args := #[]) (mvT hZ (hw _ (List.mem_of_getElem? (i := 320) rfl)))) (mvT hZ (hw _ (List.mem_of_getElem? (i := 320) rfl))) (mvT hZ (hw _ (List.mem_of_getElem? (i := 319) rfl))) (by decide) (StrChars.Road.chN (W := 0) hZ hch (kI := 4) (hw _ (List.mem_of_getElem? (i := 5) rfl)) Em Vm Cm Bm hcdm (own_up _ hpm) (O2.ext (X00.keep K0 all0).2) P5 (O4.ext (X00.keep K0 all0).2) rG3 hm4 (i := (no + 1)) (by omega) (j := ((Int32.ofNat no) + (1 : Int32))) (own_addn rfl (by omega)) (by decide) (by decide)) q306a q306c (g := (mkF m 49 #[.val (.ref xm), .val (.int (Int32.ofNat no)), .val (.ref xs), .val (.int (1 : Int32))] [(.int ((Int32.ofNat no) + (1 : Int32))), (.ref xm)])) rfl (by rw [hml]; rfl) (Steps.refl _) (argsL := [(.int ((Int32.ofNat no) + (1 : Int32)))]) (rest := []) (lenOf pd_56f5307 rfl) rfl (by show 2 * 0 + _ ≤ _; exact Nat.le_of_eq rfl) (hb hby d45_49) (fun _ _ => ⟨rfl, eq304, (by decide : 0 + 0 ≤ _), (by decide : 0 + 0 ≤ _)⟩)
    dsimp only [Pt.U, Pt.locs, Pt.cells, Pt.slots] at X306 l306 y306 z306 st306 hQ306
    subst l306 y306 z306
    obtain ⟨rfl, rfl, eq306⟩ := hQ306
    have Nq306 : Fr n0 ([] : List Loc) := Fr.nil n0
    have NN307 := Fr.app NN305 Nq306
    refine Go.st (T' := T306.setTop (mkF m 52 #[.val (.ref xm), .val (.int (Int32.ofNat no)), .val (.ref xs), .val (.int (1 : Int32))] [(.int ((ms).getD (no + 1) 0))])) (fun zt zk => st306.trans zk) ?_
    refine Go.st (T' := T306.setTop (mkF m 53 #[.val (.ref xm), .val (.int (Int32.ofNat no)), .val (.ref xs), .val (.int (1 : Int32))] [(.ref xs), (.int ((ms).getD (no + 1) 0))])) (fun zt zk => XS.aloadN X306.here hx rfl (hb hby d45_52) rfl rfl zk) ?_
    refine Go.st (T' := T306.setTop (mkF m 54 #[.val (.ref xm), .val (.int (Int32.ofNat no)), .val (.ref xs), .val (.int (1 : Int32))] [(.int (1 : Int32)), (.ref xs), (.int ((ms).getD (no + 1) 0))])) (fun zt zk => XS.iconst X306.here hx rfl (hb hby d45_53) zk) ?_
    obtain ⟨cq308, kq308, q308a, q308b, q308c⟩ := isOf hZ eq306 Es
    obtain ⟨vr308, _, ⟨T308, L308, k308, n308⟩, -, X308, ⟨Lc308, hQ308, l308, y308, z308⟩, st308⟩ := X306.virtualBack hx (y := (⟨"java/lang/String", "charAt", "(I)C"⟩ : MethodName)) (z := (⟨"java/lang/String", "charAt", "(I)C"⟩ : MethodName)) hown (mvT hZ (hw _ (List.mem_of_getElem? (i := 317) rfl))) (mvT hZ (hw _ (List.mem_of_getElem? (i := 318) rfl))) (notFace_of_selects (args := #[]) (mvT hZ (hw _ (List.mem_of_getElem? (i := 320) rfl)))) (mvT hZ (hw _ (List.mem_of_getElem? (i := 320) rfl))) (mvT hZ (hw _ (List.mem_of_getElem? (i := 319) rfl))) (by decide) (StrChars.Road.chN (W := 1) hZ hch (kI := 4) (hw _ (List.mem_of_getElem? (i := 5) rfl)) Es Vs Cs Bs hcds (own_up _ hps) (O2.ext (X00.keep K0 all0).2) P5 (O4.ext (X00.keep K0 all0).2) rG3 (by omega) (i := 1) (by omega) (j := (1 : Int32)) rfl (by decide) (by decide)) q308a q308c (g := (mkF m 54 #[.val (.ref xm), .val (.int (Int32.ofNat no)), .val (.ref xs), .val (.int (1 : Int32))] [(.int (1 : Int32)), (.ref xs), (.int ((ms).getD (no + 1) 0))])) rfl (by rw [hml]; rfl) (Steps.refl _) (argsL := [(.int (1 : Int32))]) (rest := [(.int ((ms).getD (no + 1) 0))]) (lenOf pd_56f5307 rfl) rfl (by show 2 * 0 + _ ≤ _; exact Nat.le_of_eq rfl) (hb hby d45_54) (fun _ _ => ⟨rfl, eq306, (by decide : 0 + 0 ≤ _), (by decide : 0 + 0 ≤ _)⟩)
    dsimp only [Pt.U, Pt.locs, Pt.cells, Pt.slots] at X308 l308 y308 z308 st308 hQ308
    subst l308 y308 z308
    obtain ⟨rfl, rfl, eq308⟩ := hQ308
    have Nq308 : Fr n0 ([] : List Loc) := Fr.nil n0
    have NN309 := Fr.app NN307 Nq308
    refine Go.st (T' := T308.setTop (mkF m 57 #[.val (.ref xm), .val (.int (Int32.ofNat no)), .val (.ref xs), .val (.int (1 : Int32))] [(.int ((ss).getD 1 0)), (.int ((ms).getD (no + 1) 0))])) (fun zt zk => st308.trans zk) ?_
    refine Go.st (T' := T308.setTop (mkF m 60 #[.val (.ref xm), .val (.int (Int32.ofNat no)), .val (.ref xs), .val (.int (1 : Int32))] [])) (fun zt zk => XS.icmpNo X308.here hx rfl (hb hby d45_57) rfl (teq (hsub 1 (by omega))).2 zk) ?_
    refine Go.st (T' := T308.setTop (mkF m 61 #[.val (.ref xm), .val (.int (Int32.ofNat no)), .val (.ref xs), .val (.int (1 : Int32))] [(.int (1 : Int32))])) (fun zt zk => XS.iconst X308.here hx rfl (hb hby d45_60) zk) ?_
    refine Go.st (T' := T308.setTop (mkF m 65 #[.val (.ref xm), .val (.int (Int32.ofNat no)), .val (.ref xs), .val (.int (1 : Int32))] [(.int (1 : Int32))])) (fun zt zk => XS.goto X308.here hx rfl (pc0 := 61) (pc' := 65) rfl (hb hby d45_61) (by decide) (by decide) zk) ?_
    refine Go.st (T' := T308.setTop (mkF m 66 #[.val (.ref xm), .val (.int (Int32.ofNat no)), .val (.ref xs), .val (.int (1 : Int32))] [])) (fun zt zk => XS.istoreN X308.here hx rfl (hb hby d45_65) rfl (l' := #[.val (.ref xm), .val (.int (Int32.ofNat no)), .val (.ref xs), .val (.int (1 : Int32))]) rfl zk) ?_
    refine Go.st (T' := T308.setTop (mkF m 67 #[.val (.ref xm), .val (.int (Int32.ofNat no)), .val (.ref xs), .val (.int (1 : Int32))] [(.int (1 : Int32))])) (fun zt zk => XS.iloadN X308.here hx rfl (hb hby d45_66) rfl zk) ?_
    exact Go.done X308 Bd.notSynchronized (v := some (.int (nar .boolean (1 : Int32)))) (fun h => by rw [Bd.returns] at h; cases h) (fun fs hr => retN X308 hx (t := .boolean) Bd.returns (by simp) (hb hby d45_67) hr) (by rw [eq308]; exact ⟨rfl, NN309, rfl⟩) (by decide) (by decide)
theorem d51_0 : decode method_5_code 0 = .ok (.ldc 56, 2) := by decide +kernel
theorem d51_2 : decode method_5_code 2 = .ok (.astore_n 2, 1) := by decide +kernel
theorem d51_3 : decode method_5_code 3 = .ok (.aload_n 0, 1) := by decide +kernel
theorem d51_4 : decode method_5_code 4 = .ok (.iload_n 1, 1) := by decide +kernel
theorem d51_5 : decode method_5_code 5 = .ok (.invokevirtual 52, 3) := by decide +kernel
theorem d51_8 : decode method_5_code 8 = .ok (.aload_n 2, 1) := by decide +kernel
theorem d51_9 : decode method_5_code 9 = .ok (.iconst 0, 1) := by decide +kernel
theorem d51_10 : decode method_5_code 10 = .ok (.invokevirtual 52, 3) := by decide +kernel
theorem d51_13 : decode method_5_code 13 = .ok (.if_icmp .ne 133, 3) := by decide +kernel
theorem d51_16 : decode method_5_code 16 = .ok (.aload_n 0, 1) := by decide +kernel
theorem d51_17 : decode method_5_code 17 = .ok (.iload_n 1, 1) := by decide +kernel
theorem d51_18 : decode method_5_code 18 = .ok (.iconst 1, 1) := by decide +kernel
theorem d51_19 : decode method_5_code 19 = .ok (.iadd, 1) := by decide +kernel
theorem d51_20 : decode method_5_code 20 = .ok (.invokevirtual 52, 3) := by decide +kernel
theorem d51_23 : decode method_5_code 23 = .ok (.aload_n 2, 1) := by decide +kernel
theorem d51_24 : decode method_5_code 24 = .ok (.iconst 1, 1) := by decide +kernel
theorem d51_25 : decode method_5_code 25 = .ok (.invokevirtual 52, 3) := by decide +kernel
theorem d51_28 : decode method_5_code 28 = .ok (.if_icmp .ne 118, 3) := by decide +kernel
theorem d51_31 : decode method_5_code 31 = .ok (.aload_n 0, 1) := by decide +kernel
theorem d51_32 : decode method_5_code 32 = .ok (.iload_n 1, 1) := by decide +kernel
theorem d51_33 : decode method_5_code 33 = .ok (.iconst 2, 1) := by decide +kernel
theorem d51_34 : decode method_5_code 34 = .ok (.iadd, 1) := by decide +kernel
theorem d51_35 : decode method_5_code 35 = .ok (.invokevirtual 52, 3) := by decide +kernel
theorem d51_38 : decode method_5_code 38 = .ok (.aload_n 2, 1) := by decide +kernel
theorem d51_39 : decode method_5_code 39 = .ok (.iconst 2, 1) := by decide +kernel
theorem d51_40 : decode method_5_code 40 = .ok (.invokevirtual 52, 3) := by decide +kernel
theorem d51_43 : decode method_5_code 43 = .ok (.if_icmp .ne 103, 3) := by decide +kernel
theorem d51_46 : decode method_5_code 46 = .ok (.aload_n 0, 1) := by decide +kernel
theorem d51_47 : decode method_5_code 47 = .ok (.iload_n 1, 1) := by decide +kernel
theorem d51_48 : decode method_5_code 48 = .ok (.iconst 3, 1) := by decide +kernel
theorem d51_49 : decode method_5_code 49 = .ok (.iadd, 1) := by decide +kernel
theorem d51_50 : decode method_5_code 50 = .ok (.invokevirtual 52, 3) := by decide +kernel
theorem d51_53 : decode method_5_code 53 = .ok (.aload_n 2, 1) := by decide +kernel
theorem d51_54 : decode method_5_code 54 = .ok (.iconst 3, 1) := by decide +kernel
theorem d51_55 : decode method_5_code 55 = .ok (.invokevirtual 52, 3) := by decide +kernel
theorem d51_58 : decode method_5_code 58 = .ok (.if_icmp .ne 88, 3) := by decide +kernel
theorem d51_61 : decode method_5_code 61 = .ok (.aload_n 0, 1) := by decide +kernel
theorem d51_62 : decode method_5_code 62 = .ok (.iload_n 1, 1) := by decide +kernel
theorem d51_63 : decode method_5_code 63 = .ok (.iconst 4, 1) := by decide +kernel
theorem d51_64 : decode method_5_code 64 = .ok (.iadd, 1) := by decide +kernel
theorem d51_65 : decode method_5_code 65 = .ok (.invokevirtual 52, 3) := by decide +kernel
theorem d51_68 : decode method_5_code 68 = .ok (.aload_n 2, 1) := by decide +kernel
theorem d51_69 : decode method_5_code 69 = .ok (.iconst 4, 1) := by decide +kernel
theorem d51_70 : decode method_5_code 70 = .ok (.invokevirtual 52, 3) := by decide +kernel
theorem d51_73 : decode method_5_code 73 = .ok (.if_icmp .ne 73, 3) := by decide +kernel
theorem d51_76 : decode method_5_code 76 = .ok (.aload_n 0, 1) := by decide +kernel
theorem d51_77 : decode method_5_code 77 = .ok (.iload_n 1, 1) := by decide +kernel
theorem d51_78 : decode method_5_code 78 = .ok (.iconst 5, 1) := by decide +kernel
theorem d51_79 : decode method_5_code 79 = .ok (.iadd, 1) := by decide +kernel
theorem d51_80 : decode method_5_code 80 = .ok (.invokevirtual 52, 3) := by decide +kernel
theorem d51_83 : decode method_5_code 83 = .ok (.aload_n 2, 1) := by decide +kernel
theorem d51_84 : decode method_5_code 84 = .ok (.iconst 5, 1) := by decide +kernel
theorem d51_85 : decode method_5_code 85 = .ok (.invokevirtual 52, 3) := by decide +kernel
theorem d51_88 : decode method_5_code 88 = .ok (.if_icmp .ne 58, 3) := by decide +kernel
theorem d51_91 : decode method_5_code 91 = .ok (.aload_n 0, 1) := by decide +kernel
theorem d51_92 : decode method_5_code 92 = .ok (.iload_n 1, 1) := by decide +kernel
theorem d51_93 : decode method_5_code 93 = .ok (.bipush 6, 2) := by decide +kernel
theorem d51_95 : decode method_5_code 95 = .ok (.iadd, 1) := by decide +kernel
theorem d51_96 : decode method_5_code 96 = .ok (.invokevirtual 52, 3) := by decide +kernel
theorem d51_99 : decode method_5_code 99 = .ok (.aload_n 2, 1) := by decide +kernel
theorem d51_100 : decode method_5_code 100 = .ok (.bipush 6, 2) := by decide +kernel
theorem d51_102 : decode method_5_code 102 = .ok (.invokevirtual 52, 3) := by decide +kernel
theorem d51_105 : decode method_5_code 105 = .ok (.if_icmp .ne 41, 3) := by decide +kernel
theorem d51_108 : decode method_5_code 108 = .ok (.aload_n 0, 1) := by decide +kernel
theorem d51_109 : decode method_5_code 109 = .ok (.iload_n 1, 1) := by decide +kernel
theorem d51_110 : decode method_5_code 110 = .ok (.bipush 7, 2) := by decide +kernel
theorem d51_112 : decode method_5_code 112 = .ok (.iadd, 1) := by decide +kernel
theorem d51_113 : decode method_5_code 113 = .ok (.invokevirtual 52, 3) := by decide +kernel
theorem d51_116 : decode method_5_code 116 = .ok (.aload_n 2, 1) := by decide +kernel
theorem d51_117 : decode method_5_code 117 = .ok (.bipush 7, 2) := by decide +kernel
theorem d51_119 : decode method_5_code 119 = .ok (.invokevirtual 52, 3) := by decide +kernel
theorem d51_122 : decode method_5_code 122 = .ok (.if_icmp .ne 24, 3) := by decide +kernel
theorem d51_125 : decode method_5_code 125 = .ok (.aload_n 0, 1) := by decide +kernel
theorem d51_126 : decode method_5_code 126 = .ok (.iload_n 1, 1) := by decide +kernel
theorem d51_127 : decode method_5_code 127 = .ok (.bipush 8, 2) := by decide +kernel
theorem d51_129 : decode method_5_code 129 = .ok (.iadd, 1) := by decide +kernel
theorem d51_130 : decode method_5_code 130 = .ok (.invokevirtual 52, 3) := by decide +kernel
theorem d51_133 : decode method_5_code 133 = .ok (.aload_n 2, 1) := by decide +kernel
theorem d51_134 : decode method_5_code 134 = .ok (.bipush 8, 2) := by decide +kernel
theorem d51_136 : decode method_5_code 136 = .ok (.invokevirtual 52, 3) := by decide +kernel
theorem d51_139 : decode method_5_code 139 = .ok (.if_icmp .ne 7, 3) := by decide +kernel
theorem d51_142 : decode method_5_code 142 = .ok (.iconst 1, 1) := by decide +kernel
theorem d51_143 : decode method_5_code 143 = .ok (.goto 4, 3) := by decide +kernel
theorem d51_147 : decode method_5_code 147 = .ok (.ireturn, 1) := by decide +kernel
theorem ef_51 (m : MethodId) (x0 : Addr) (x1 : Int32) : entryFrame m #[(.ref x0), (.int x1)] 3 = mkF m 0 #[.val (.ref x0), .val (.int x1), .unset] [] := by first | (simp [entryFrame, mkF, argsToLocals, Value.category]; done) | rfl
def Q_rmSep (Z : State) (xm tm : Addr) (km : ClassId) (ms : List Int32) (no : Nat) (h0 : Heap) (n0 : Nat) (v : Option Value) (h : Heap) (L : List Loc) : Prop := v = some (.int (1 : Int32)) ∧ Fr n0 L ∧ Keep h0 h []
set_option maxRecDepth 65536 in
set_option maxHeartbeats 40000000 in
theorem rmSep (l : Launch) (Z : State) (a0 : Array Value) (hw : ∀ d ∈ tables_1, d.before a0 Z = true) (xm tm : Addr) (km : ClassId) (ms : List Int32) (no : Nat) (h0 : Heap) (n0 : Nat) (Z0 : n0 ≤ h0.size) (G1 : Int32) (O2 : Sta Z Z.heap "java/lang/String" "COMPACT_STRINGS" "Z" (.int G1)) (P5 : ¬ (G1 = (0 : Int32))) (X00 : Old Z n0 h0) (G3 : Value) (O4 : Sta Z Z.heap "jdk/internal/util/Preconditions" "SIOOBE_FORMATTER" "Ljava/util/function/BiFunction;" G3) (rG3 : G3.isRef = true) (Em : Exa Z h0 xm "java/lang/String") (Vm : Fld Z h0 xm "java/lang/String" "value" "[B" (.ref tm)) (Cm : Fld Z h0 xm "java/lang/String" "coder" "B" (.int (0 : Int32))) (Bm : Arv Z h0 tm km .byte (Int32.ofNat (ms).length) (((ms).map (fun c => c.toInt8.toInt32)).map Value.int) (.int (0 : Int32))) (hpm : ∀ c ∈ ms, ¬ c < 0 ∧ ¬ (255 : Int32) < c) (hoff : no + 9 ≤ ms.length) (hm4 : ms.length ≤ 4000) (hsub : ∀ i, i < 9 → ms.getD (no + i) 0 = own_U.getD i 0) (hEL : EW Z a0 EL) (wS : ∀ a ∈ Bundle.stringAtoms, a.before a0 Z = true) :
    MetFree l (⟨"com/example/uakari/uakari/CommandLineErrorPinLaw", "sep", "(Ljava/lang/String;I)Z"⟩ : MethodName) (head1 [Jvm.Cond.code (⟨"com/example/uakari/uakari/CommandLineErrorPinLaw", "sep", "(Ljava/lang/String;I)Z"⟩ : MethodName) method_5_code 3 (some .boolean)] ({ frames := 4, cells := 2, slots := 40, locals := 54 } : Room)) (fun a U => a = #[(.ref xm), (.int (Int32.ofNat no))] ∧ Z.Warmed39 U.vm ∧ U.heap = h0 ∧ CHv Z EL U.vm h0) (fun _ _ _ _ _ => True) (fun _ U o U' => ∃ v L, o = .returned v ∧ (Q_rmSep Z xm tm km ms no h0 n0) v U'.heap L ∧ CHr Z EL U.vm U.heap U'.vm U'.heap ∧ ReturnedEndW U o U' L ({ frames := 4, cells := 2, slots := 40, locals := 54 } : Room).cells ({ frames := 4, cells := 2, slots := 40, locals := 54 } : Room).slots) := by
  refine MetFree.of_bodySF (plainFor_of_name pn_3d5c09a) hisR ?_
  intro p e s m args below meth c s₁ Bd hml0 hP hK
  obtain ⟨rfl, hZ, hh, hCH⟩ := hP
  have hx := Bd.exec
  have hby := Bd.bytes
  have hml : c.maxLocals = 3 := hml0
  have hown : s.vm.findClass "com/example/uakari/uakari/CommandLineErrorPinLaw" = some m.cls := findClass_of_methodNamed Bd.named
  have hnm := (name_of_methodNamed Bd.named Bd.method).1
  have X0 : Stand p l e ({ frames := 4, cells := 2, slots := 40, locals := 54 } : Room) s m #[(.ref xm), (.int (Int32.ofNat no))] below meth c s₁ [] 0 0 := Stand.of_body Bd
  have e0 : s₁.heap = h0 := by rw [← hh, Bd.state]; rfl
  have N0 := Fr.nil n0
  have K0 : Keep h0 h0 [] := Keep.refl h0 []
  have X0h : Stand p l e ({ frames := 4, cells := 2, slots := 40, locals := 54 } : Room) (s.setVm s.vm) m #[(.ref xm), (.int (Int32.ofNat no))] below meth c s₁ [] 0 0 := X0
  have hZh : Z.Warmed39 (s.setVm s.vm).vm := hZ
  have hownh : (s.setVm s.vm).vm.findClass "com/example/uakari/uakari/CommandLineErrorPinLaw" = some m.cls := hown
  have hS0 : s.Since s.vm 0 := (State.WarmedH.refl s).since 0
  have C0 : CHr Z EL s.vm h0 s.vm h0 := CHr.refl hCH
  show Go p e below (s₁.setTop (entryFrame m #[(.ref xm), (.int (Int32.ofNat no))] 3)) (EndH Z EL s (Q_rmSep Z xm tm km ms no h0 n0) ({ frames := 4, cells := 2, slots := 40, locals := 54 } : Room).cells ({ frames := 4, cells := 2, slots := 40, locals := 54 } : Room).slots)
  refine Go.top (ef_51 m xm (Int32.ofNat no)) ?_
  have hch : ∀ d ∈ StrChars.Road.wordsChN, d.before a0 Z = true := fun d hd => hw d ((by decide +kernel : ∀ d ∈ StrChars.Road.wordsChN, d ∈ tables_1) d hd)
  have hcdm : StrChars.Road.CodA ms 0 (Int32.ofNat (ms).length) (((ms).map (fun c => c.toInt8.toInt32)).map Value.int) := StrChars.Road.codOf (n := (ms).length) rfl (fun x hx => (hpm x hx).2)
  obtain ⟨a310, T310, h310, kS310, b310, kb310, X310, e310, E310, hS310, hk310, hZ310, ho310, EA310, CA310, VA310, BA310, lta310, ltb310, CC310, LA310, SF310, st310⟩ := ldcCH (s := s) (vm0 := s.vm) (EL := EL) X0h hx hZh hownh (hw _ (List.mem_of_getElem? (i := 342) rfl)) wS e0 hS0 (Nat.zero_le _) hEL (List.mem_of_getElem? (i := 0) rfl) C0.1 (vs := [(.int (59 : Int32)), (.int (32 : Int32)), (.int (117 : Int32)), (.int (115 : Int32)), (.int (97 : Int32)), (.int (103 : Int32)), (.int (101 : Int32)), (.int (58 : Int32)), (.int (32 : Int32))]) (z := (9 : Int32)) ⟨by decide, rfl⟩ (by decide) (by decide) (g := (mkF m 0 #[.val (.ref xm), .val (.int (Int32.ofNat no)), .unset] [])) rfl (hb hby d51_0) (n := 36) (by decide) (by decide) (by decide) (by decide)
  have K310 : Keep h0 h310 [] := K0.ext E310
  have C311 : CHr Z EL s.vm h0 T310.vm h310 := C0.trans CC310
  refine Go.st (T' := T310.setTop (mkF m 2 #[.val (.ref xm), .val (.int (Int32.ofNat no)), .unset] [(.ref a310)])) (fun zt zk => st310 zt zk) ?_
  have hpU := own_upU
  have hcdU : StrChars.Road.CodA own_U 0 (Int32.ofNat (own_U).length) (((own_U).map (fun c => c.toInt8.toInt32)).map Value.int) := StrChars.Road.codOf (n := (own_U).length) rfl (fun x hx => (hpU x hx).2)
  refine Go.st (T' := T310.setTop (mkF m 3 #[.val (.ref xm), .val (.int (Int32.ofNat no)), .val (.ref a310)] [])) (fun zt zk => XS.astoreN X310.here hx rfl (hb hby d51_2) rfl rfl (l' := #[.val (.ref xm), .val (.int (Int32.ofNat no)), .val (.ref a310)]) rfl zk) ?_
  refine Go.st (T' := T310.setTop (mkF m 4 #[.val (.ref xm), .val (.int (Int32.ofNat no)), .val (.ref a310)] [(.ref xm)])) (fun zt zk => XS.aloadN X310.here hx rfl (hb hby d51_3) rfl rfl zk) ?_
  refine Go.st (T' := T310.setTop (mkF m 5 #[.val (.ref xm), .val (.int (Int32.ofNat no)), .val (.ref a310)] [(.int (Int32.ofNat no)), (.ref xm)])) (fun zt zk => XS.iloadN X310.here hx rfl (hb hby d51_4) rfl zk) ?_
  have f312 : Exa Z h310 xm "java/lang/String" := (Em.ext E310)
  have f313 : Fld Z h310 xm "java/lang/String" "value" "[B" (.ref tm) := (Vm.ext E310)
  have f314 : Fld Z h310 xm "java/lang/String" "coder" "B" (.int (0 : Int32)) := (Cm.ext E310)
  have f315 : Arv Z h310 tm km .byte (Int32.ofNat (ms).length) (((ms).map (fun c => c.toInt8.toInt32)).map Value.int) (.int (0 : Int32)) := (Bm.ext E310)
  obtain ⟨cq316, kq316, q316a, q316b, q316c⟩ := isOf hZ310 e310 f312
  obtain ⟨vr316, _, ⟨T316, L316, k316, n316⟩, -, X316, ⟨Lc316, hQ316, l316, y316, z316⟩, st316⟩ := X310.virtualBack hx (y := (⟨"java/lang/String", "charAt", "(I)C"⟩ : MethodName)) (z := (⟨"java/lang/String", "charAt", "(I)C"⟩ : MethodName)) ho310 (mvT hZ310 (hw _ (List.mem_of_getElem? (i := 317) rfl))) (mvT hZ310 (hw _ (List.mem_of_getElem? (i := 318) rfl))) (notFace_of_selects (args := #[]) (mvT hZ310 (hw _ (List.mem_of_getElem? (i := 320) rfl)))) (mvT hZ310 (hw _ (List.mem_of_getElem? (i := 320) rfl))) (mvT hZ310 (hw _ (List.mem_of_getElem? (i := 319) rfl))) (by decide) (StrChars.Road.chN (W := 0) hZ310 hch (kI := 4) (hw _ (List.mem_of_getElem? (i := 5) rfl)) f312 f313 f314 f315 hcdm (own_up _ hpm) (O2.ext (X00.keep K310 all0).2) P5 (O4.ext (X00.keep K310 all0).2) rG3 hm4 (i := no) (by omega) (j := (Int32.ofNat no)) rfl (by decide) (by decide)) q316a q316c (g := (mkF m 5 #[.val (.ref xm), .val (.int (Int32.ofNat no)), .val (.ref a310)] [(.int (Int32.ofNat no)), (.ref xm)])) rfl (by rw [hml]; rfl) (Steps.refl _) (argsL := [(.int (Int32.ofNat no))]) (rest := []) (lenOf pd_56f5307 rfl) rfl (by show 2 * 0 + _ ≤ _; exact Nat.le_of_eq rfl) (hb hby d51_5) (fun _ _ => ⟨rfl, e310, (by decide : 2 + 0 ≤ _), (by decide : 40 + 0 ≤ _)⟩)
  dsimp only [Pt.U, Pt.locs, Pt.cells, Pt.slots] at X316 l316 y316 z316 st316 hQ316
  subst l316 y316 z316
  obtain ⟨rfl, rfl, eq316⟩ := hQ316
  have Nq316 : Fr n0 ([] : List Loc) := Fr.nil n0
  have NN317 := Fr.app N0 Nq316
  refine Go.st (T' := T316.setTop (mkF m 8 #[.val (.ref xm), .val (.int (Int32.ofNat no)), .val (.ref a310)] [(.int ((ms).getD no 0))])) (fun zt zk => st316.trans zk) ?_
  refine Go.st (T' := T316.setTop (mkF m 9 #[.val (.ref xm), .val (.int (Int32.ofNat no)), .val (.ref a310)] [(.ref a310), (.int ((ms).getD no 0))])) (fun zt zk => XS.aloadN X316.here hx rfl (hb hby d51_8) rfl rfl zk) ?_
  refine Go.st (T' := T316.setTop (mkF m 10 #[.val (.ref xm), .val (.int (Int32.ofNat no)), .val (.ref a310)] [(.int (0 : Int32)), (.ref a310), (.int ((ms).getD no 0))])) (fun zt zk => XS.iconst X316.here hx rfl (hb hby d51_9) zk) ?_
  obtain ⟨cq318, kq318, q318a, q318b, q318c⟩ := isOf hZ310 eq316 EA310
  obtain ⟨vr318, _, ⟨T318, L318, k318, n318⟩, -, X318, ⟨Lc318, hQ318, l318, y318, z318⟩, st318⟩ := X316.virtualBack hx (y := (⟨"java/lang/String", "charAt", "(I)C"⟩ : MethodName)) (z := (⟨"java/lang/String", "charAt", "(I)C"⟩ : MethodName)) ho310 (mvT hZ310 (hw _ (List.mem_of_getElem? (i := 317) rfl))) (mvT hZ310 (hw _ (List.mem_of_getElem? (i := 318) rfl))) (notFace_of_selects (args := #[]) (mvT hZ310 (hw _ (List.mem_of_getElem? (i := 320) rfl)))) (mvT hZ310 (hw _ (List.mem_of_getElem? (i := 320) rfl))) (mvT hZ310 (hw _ (List.mem_of_getElem? (i := 319) rfl))) (by decide) (StrChars.Road.chN (W := 1) hZ310 hch (kI := 4) (hw _ (List.mem_of_getElem? (i := 5) rfl)) EA310 VA310 CA310 BA310 hcdU (own_up _ hpU) (O2.ext (X00.keep K310 all0).2) P5 (O4.ext (X00.keep K310 all0).2) rG3 (by decide) (i := 0) (by decide) (j := (0 : Int32)) rfl (by decide) (by decide)) q318a q318c (g := (mkF m 10 #[.val (.ref xm), .val (.int (Int32.ofNat no)), .val (.ref a310)] [(.int (0 : Int32)), (.ref a310), (.int ((ms).getD no 0))])) rfl (by rw [hml]; rfl) (Steps.refl _) (argsL := [(.int (0 : Int32))]) (rest := [(.int ((ms).getD no 0))]) (lenOf pd_56f5307 rfl) rfl (by show 2 * 0 + _ ≤ _; exact Nat.le_of_eq rfl) (hb hby d51_10) (fun _ _ => ⟨rfl, eq316, (by decide : 2 + 0 ≤ _), (by decide : 40 + 0 ≤ _)⟩)
  dsimp only [Pt.U, Pt.locs, Pt.cells, Pt.slots] at X318 l318 y318 z318 st318 hQ318
  subst l318 y318 z318
  obtain ⟨rfl, rfl, eq318⟩ := hQ318
  have Nq318 : Fr n0 ([] : List Loc) := Fr.nil n0
  have NN319 := Fr.app NN317 Nq318
  refine Go.st (T' := T318.setTop (mkF m 13 #[.val (.ref xm), .val (.int (Int32.ofNat no)), .val (.ref a310)] [(.int ((own_U).getD 0 0)), (.int ((ms).getD no 0))])) (fun zt zk => st318.trans zk) ?_
  refine Go.st (T' := T318.setTop (mkF m 16 #[.val (.ref xm), .val (.int (Int32.ofNat no)), .val (.ref a310)] [])) (fun zt zk => XS.icmpNo X318.here hx rfl (hb hby d51_13) rfl (teq (hsub 0 (by decide))).2 zk) ?_
  refine Go.st (T' := T318.setTop (mkF m 17 #[.val (.ref xm), .val (.int (Int32.ofNat no)), .val (.ref a310)] [(.ref xm)])) (fun zt zk => XS.aloadN X318.here hx rfl (hb hby d51_16) rfl rfl zk) ?_
  refine Go.st (T' := T318.setTop (mkF m 18 #[.val (.ref xm), .val (.int (Int32.ofNat no)), .val (.ref a310)] [(.int (Int32.ofNat no)), (.ref xm)])) (fun zt zk => XS.iloadN X318.here hx rfl (hb hby d51_17) rfl zk) ?_
  refine Go.st (T' := T318.setTop (mkF m 19 #[.val (.ref xm), .val (.int (Int32.ofNat no)), .val (.ref a310)] [(.int (1 : Int32)), (.int (Int32.ofNat no)), (.ref xm)])) (fun zt zk => XS.iconst X318.here hx rfl (hb hby d51_18) zk) ?_
  refine Go.st (T' := T318.setTop (mkF m 20 #[.val (.ref xm), .val (.int (Int32.ofNat no)), .val (.ref a310)] [(.int ((Int32.ofNat no) + (1 : Int32))), (.ref xm)])) (fun zt zk => XS.iadd X318.here hx rfl (hb hby d51_19) rfl zk) ?_
  obtain ⟨cq320, kq320, q320a, q320b, q320c⟩ := isOf hZ310 eq318 f312
  obtain ⟨vr320, _, ⟨T320, L320, k320, n320⟩, -, X320, ⟨Lc320, hQ320, l320, y320, z320⟩, st320⟩ := X318.virtualBack hx (y := (⟨"java/lang/String", "charAt", "(I)C"⟩ : MethodName)) (z := (⟨"java/lang/String", "charAt", "(I)C"⟩ : MethodName)) ho310 (mvT hZ310 (hw _ (List.mem_of_getElem? (i := 317) rfl))) (mvT hZ310 (hw _ (List.mem_of_getElem? (i := 318) rfl))) (notFace_of_selects (args := #[]) (mvT hZ310 (hw _ (List.mem_of_getElem? (i := 320) rfl)))) (mvT hZ310 (hw _ (List.mem_of_getElem? (i := 320) rfl))) (mvT hZ310 (hw _ (List.mem_of_getElem? (i := 319) rfl))) (by decide) (StrChars.Road.chN (W := 0) hZ310 hch (kI := 4) (hw _ (List.mem_of_getElem? (i := 5) rfl)) f312 f313 f314 f315 hcdm (own_up _ hpm) (O2.ext (X00.keep K310 all0).2) P5 (O4.ext (X00.keep K310 all0).2) rG3 hm4 (i := (no + 1)) (by omega) (j := ((Int32.ofNat no) + (1 : Int32))) (own_addn rfl (by omega)) (by decide) (by decide)) q320a q320c (g := (mkF m 20 #[.val (.ref xm), .val (.int (Int32.ofNat no)), .val (.ref a310)] [(.int ((Int32.ofNat no) + (1 : Int32))), (.ref xm)])) rfl (by rw [hml]; rfl) (Steps.refl _) (argsL := [(.int ((Int32.ofNat no) + (1 : Int32)))]) (rest := []) (lenOf pd_56f5307 rfl) rfl (by show 2 * 0 + _ ≤ _; exact Nat.le_of_eq rfl) (hb hby d51_20) (fun _ _ => ⟨rfl, eq318, (by decide : 2 + 0 ≤ _), (by decide : 40 + 0 ≤ _)⟩)
  dsimp only [Pt.U, Pt.locs, Pt.cells, Pt.slots] at X320 l320 y320 z320 st320 hQ320
  subst l320 y320 z320
  obtain ⟨rfl, rfl, eq320⟩ := hQ320
  have Nq320 : Fr n0 ([] : List Loc) := Fr.nil n0
  have NN321 := Fr.app NN319 Nq320
  refine Go.st (T' := T320.setTop (mkF m 23 #[.val (.ref xm), .val (.int (Int32.ofNat no)), .val (.ref a310)] [(.int ((ms).getD (no + 1) 0))])) (fun zt zk => st320.trans zk) ?_
  refine Go.st (T' := T320.setTop (mkF m 24 #[.val (.ref xm), .val (.int (Int32.ofNat no)), .val (.ref a310)] [(.ref a310), (.int ((ms).getD (no + 1) 0))])) (fun zt zk => XS.aloadN X320.here hx rfl (hb hby d51_23) rfl rfl zk) ?_
  refine Go.st (T' := T320.setTop (mkF m 25 #[.val (.ref xm), .val (.int (Int32.ofNat no)), .val (.ref a310)] [(.int (1 : Int32)), (.ref a310), (.int ((ms).getD (no + 1) 0))])) (fun zt zk => XS.iconst X320.here hx rfl (hb hby d51_24) zk) ?_
  obtain ⟨cq322, kq322, q322a, q322b, q322c⟩ := isOf hZ310 eq320 EA310
  obtain ⟨vr322, _, ⟨T322, L322, k322, n322⟩, -, X322, ⟨Lc322, hQ322, l322, y322, z322⟩, st322⟩ := X320.virtualBack hx (y := (⟨"java/lang/String", "charAt", "(I)C"⟩ : MethodName)) (z := (⟨"java/lang/String", "charAt", "(I)C"⟩ : MethodName)) ho310 (mvT hZ310 (hw _ (List.mem_of_getElem? (i := 317) rfl))) (mvT hZ310 (hw _ (List.mem_of_getElem? (i := 318) rfl))) (notFace_of_selects (args := #[]) (mvT hZ310 (hw _ (List.mem_of_getElem? (i := 320) rfl)))) (mvT hZ310 (hw _ (List.mem_of_getElem? (i := 320) rfl))) (mvT hZ310 (hw _ (List.mem_of_getElem? (i := 319) rfl))) (by decide) (StrChars.Road.chN (W := 1) hZ310 hch (kI := 4) (hw _ (List.mem_of_getElem? (i := 5) rfl)) EA310 VA310 CA310 BA310 hcdU (own_up _ hpU) (O2.ext (X00.keep K310 all0).2) P5 (O4.ext (X00.keep K310 all0).2) rG3 (by decide) (i := 1) (by decide) (j := (1 : Int32)) rfl (by decide) (by decide)) q322a q322c (g := (mkF m 25 #[.val (.ref xm), .val (.int (Int32.ofNat no)), .val (.ref a310)] [(.int (1 : Int32)), (.ref a310), (.int ((ms).getD (no + 1) 0))])) rfl (by rw [hml]; rfl) (Steps.refl _) (argsL := [(.int (1 : Int32))]) (rest := [(.int ((ms).getD (no + 1) 0))]) (lenOf pd_56f5307 rfl) rfl (by show 2 * 0 + _ ≤ _; exact Nat.le_of_eq rfl) (hb hby d51_25) (fun _ _ => ⟨rfl, eq320, (by decide : 2 + 0 ≤ _), (by decide : 40 + 0 ≤ _)⟩)
  dsimp only [Pt.U, Pt.locs, Pt.cells, Pt.slots] at X322 l322 y322 z322 st322 hQ322
  subst l322 y322 z322
  obtain ⟨rfl, rfl, eq322⟩ := hQ322
  have Nq322 : Fr n0 ([] : List Loc) := Fr.nil n0
  have NN323 := Fr.app NN321 Nq322
  refine Go.st (T' := T322.setTop (mkF m 28 #[.val (.ref xm), .val (.int (Int32.ofNat no)), .val (.ref a310)] [(.int ((own_U).getD 1 0)), (.int ((ms).getD (no + 1) 0))])) (fun zt zk => st322.trans zk) ?_
  refine Go.st (T' := T322.setTop (mkF m 31 #[.val (.ref xm), .val (.int (Int32.ofNat no)), .val (.ref a310)] [])) (fun zt zk => XS.icmpNo X322.here hx rfl (hb hby d51_28) rfl (teq (hsub 1 (by decide))).2 zk) ?_
  refine Go.st (T' := T322.setTop (mkF m 32 #[.val (.ref xm), .val (.int (Int32.ofNat no)), .val (.ref a310)] [(.ref xm)])) (fun zt zk => XS.aloadN X322.here hx rfl (hb hby d51_31) rfl rfl zk) ?_
  refine Go.st (T' := T322.setTop (mkF m 33 #[.val (.ref xm), .val (.int (Int32.ofNat no)), .val (.ref a310)] [(.int (Int32.ofNat no)), (.ref xm)])) (fun zt zk => XS.iloadN X322.here hx rfl (hb hby d51_32) rfl zk) ?_
  refine Go.st (T' := T322.setTop (mkF m 34 #[.val (.ref xm), .val (.int (Int32.ofNat no)), .val (.ref a310)] [(.int (2 : Int32)), (.int (Int32.ofNat no)), (.ref xm)])) (fun zt zk => XS.iconst X322.here hx rfl (hb hby d51_33) zk) ?_
  refine Go.st (T' := T322.setTop (mkF m 35 #[.val (.ref xm), .val (.int (Int32.ofNat no)), .val (.ref a310)] [(.int ((Int32.ofNat no) + (2 : Int32))), (.ref xm)])) (fun zt zk => XS.iadd X322.here hx rfl (hb hby d51_34) rfl zk) ?_
  obtain ⟨cq324, kq324, q324a, q324b, q324c⟩ := isOf hZ310 eq322 f312
  obtain ⟨vr324, _, ⟨T324, L324, k324, n324⟩, -, X324, ⟨Lc324, hQ324, l324, y324, z324⟩, st324⟩ := X322.virtualBack hx (y := (⟨"java/lang/String", "charAt", "(I)C"⟩ : MethodName)) (z := (⟨"java/lang/String", "charAt", "(I)C"⟩ : MethodName)) ho310 (mvT hZ310 (hw _ (List.mem_of_getElem? (i := 317) rfl))) (mvT hZ310 (hw _ (List.mem_of_getElem? (i := 318) rfl))) (notFace_of_selects (args := #[]) (mvT hZ310 (hw _ (List.mem_of_getElem? (i := 320) rfl)))) (mvT hZ310 (hw _ (List.mem_of_getElem? (i := 320) rfl))) (mvT hZ310 (hw _ (List.mem_of_getElem? (i := 319) rfl))) (by decide) (StrChars.Road.chN (W := 0) hZ310 hch (kI := 4) (hw _ (List.mem_of_getElem? (i := 5) rfl)) f312 f313 f314 f315 hcdm (own_up _ hpm) (O2.ext (X00.keep K310 all0).2) P5 (O4.ext (X00.keep K310 all0).2) rG3 hm4 (i := (no + 2)) (by omega) (j := ((Int32.ofNat no) + (2 : Int32))) (own_addn rfl (by omega)) (by decide) (by decide)) q324a q324c (g := (mkF m 35 #[.val (.ref xm), .val (.int (Int32.ofNat no)), .val (.ref a310)] [(.int ((Int32.ofNat no) + (2 : Int32))), (.ref xm)])) rfl (by rw [hml]; rfl) (Steps.refl _) (argsL := [(.int ((Int32.ofNat no) + (2 : Int32)))]) (rest := []) (lenOf pd_56f5307 rfl) rfl (by show 2 * 0 + _ ≤ _; exact Nat.le_of_eq rfl) (hb hby d51_35) (fun _ _ => ⟨rfl, eq322, (by decide : 2 + 0 ≤ _), (by decide : 40 + 0 ≤ _)⟩)
  dsimp only [Pt.U, Pt.locs, Pt.cells, Pt.slots] at X324 l324 y324 z324 st324 hQ324
  subst l324 y324 z324
  obtain ⟨rfl, rfl, eq324⟩ := hQ324
  have Nq324 : Fr n0 ([] : List Loc) := Fr.nil n0
  have NN325 := Fr.app NN323 Nq324
  refine Go.st (T' := T324.setTop (mkF m 38 #[.val (.ref xm), .val (.int (Int32.ofNat no)), .val (.ref a310)] [(.int ((ms).getD (no + 2) 0))])) (fun zt zk => st324.trans zk) ?_
  refine Go.st (T' := T324.setTop (mkF m 39 #[.val (.ref xm), .val (.int (Int32.ofNat no)), .val (.ref a310)] [(.ref a310), (.int ((ms).getD (no + 2) 0))])) (fun zt zk => XS.aloadN X324.here hx rfl (hb hby d51_38) rfl rfl zk) ?_
  refine Go.st (T' := T324.setTop (mkF m 40 #[.val (.ref xm), .val (.int (Int32.ofNat no)), .val (.ref a310)] [(.int (2 : Int32)), (.ref a310), (.int ((ms).getD (no + 2) 0))])) (fun zt zk => XS.iconst X324.here hx rfl (hb hby d51_39) zk) ?_
  obtain ⟨cq326, kq326, q326a, q326b, q326c⟩ := isOf hZ310 eq324 EA310
  obtain ⟨vr326, _, ⟨T326, L326, k326, n326⟩, -, X326, ⟨Lc326, hQ326, l326, y326, z326⟩, st326⟩ := X324.virtualBack hx (y := (⟨"java/lang/String", "charAt", "(I)C"⟩ : MethodName)) (z := (⟨"java/lang/String", "charAt", "(I)C"⟩ : MethodName)) ho310 (mvT hZ310 (hw _ (List.mem_of_getElem? (i := 317) rfl))) (mvT hZ310 (hw _ (List.mem_of_getElem? (i := 318) rfl))) (notFace_of_selects (args := #[]) (mvT hZ310 (hw _ (List.mem_of_getElem? (i := 320) rfl)))) (mvT hZ310 (hw _ (List.mem_of_getElem? (i := 320) rfl))) (mvT hZ310 (hw _ (List.mem_of_getElem? (i := 319) rfl))) (by decide) (StrChars.Road.chN (W := 1) hZ310 hch (kI := 4) (hw _ (List.mem_of_getElem? (i := 5) rfl)) EA310 VA310 CA310 BA310 hcdU (own_up _ hpU) (O2.ext (X00.keep K310 all0).2) P5 (O4.ext (X00.keep K310 all0).2) rG3 (by decide) (i := 2) (by decide) (j := (2 : Int32)) rfl (by decide) (by decide)) q326a q326c (g := (mkF m 40 #[.val (.ref xm), .val (.int (Int32.ofNat no)), .val (.ref a310)] [(.int (2 : Int32)), (.ref a310), (.int ((ms).getD (no + 2) 0))])) rfl (by rw [hml]; rfl) (Steps.refl _) (argsL := [(.int (2 : Int32))]) (rest := [(.int ((ms).getD (no + 2) 0))]) (lenOf pd_56f5307 rfl) rfl (by show 2 * 0 + _ ≤ _; exact Nat.le_of_eq rfl) (hb hby d51_40) (fun _ _ => ⟨rfl, eq324, (by decide : 2 + 0 ≤ _), (by decide : 40 + 0 ≤ _)⟩)
  dsimp only [Pt.U, Pt.locs, Pt.cells, Pt.slots] at X326 l326 y326 z326 st326 hQ326
  subst l326 y326 z326
  obtain ⟨rfl, rfl, eq326⟩ := hQ326
  have Nq326 : Fr n0 ([] : List Loc) := Fr.nil n0
  have NN327 := Fr.app NN325 Nq326
  refine Go.st (T' := T326.setTop (mkF m 43 #[.val (.ref xm), .val (.int (Int32.ofNat no)), .val (.ref a310)] [(.int ((own_U).getD 2 0)), (.int ((ms).getD (no + 2) 0))])) (fun zt zk => st326.trans zk) ?_
  refine Go.st (T' := T326.setTop (mkF m 46 #[.val (.ref xm), .val (.int (Int32.ofNat no)), .val (.ref a310)] [])) (fun zt zk => XS.icmpNo X326.here hx rfl (hb hby d51_43) rfl (teq (hsub 2 (by decide))).2 zk) ?_
  refine Go.st (T' := T326.setTop (mkF m 47 #[.val (.ref xm), .val (.int (Int32.ofNat no)), .val (.ref a310)] [(.ref xm)])) (fun zt zk => XS.aloadN X326.here hx rfl (hb hby d51_46) rfl rfl zk) ?_
  refine Go.st (T' := T326.setTop (mkF m 48 #[.val (.ref xm), .val (.int (Int32.ofNat no)), .val (.ref a310)] [(.int (Int32.ofNat no)), (.ref xm)])) (fun zt zk => XS.iloadN X326.here hx rfl (hb hby d51_47) rfl zk) ?_
  refine Go.st (T' := T326.setTop (mkF m 49 #[.val (.ref xm), .val (.int (Int32.ofNat no)), .val (.ref a310)] [(.int (3 : Int32)), (.int (Int32.ofNat no)), (.ref xm)])) (fun zt zk => XS.iconst X326.here hx rfl (hb hby d51_48) zk) ?_
  refine Go.st (T' := T326.setTop (mkF m 50 #[.val (.ref xm), .val (.int (Int32.ofNat no)), .val (.ref a310)] [(.int ((Int32.ofNat no) + (3 : Int32))), (.ref xm)])) (fun zt zk => XS.iadd X326.here hx rfl (hb hby d51_49) rfl zk) ?_
  obtain ⟨cq328, kq328, q328a, q328b, q328c⟩ := isOf hZ310 eq326 f312
  obtain ⟨vr328, _, ⟨T328, L328, k328, n328⟩, -, X328, ⟨Lc328, hQ328, l328, y328, z328⟩, st328⟩ := X326.virtualBack hx (y := (⟨"java/lang/String", "charAt", "(I)C"⟩ : MethodName)) (z := (⟨"java/lang/String", "charAt", "(I)C"⟩ : MethodName)) ho310 (mvT hZ310 (hw _ (List.mem_of_getElem? (i := 317) rfl))) (mvT hZ310 (hw _ (List.mem_of_getElem? (i := 318) rfl))) (notFace_of_selects (args := #[]) (mvT hZ310 (hw _ (List.mem_of_getElem? (i := 320) rfl)))) (mvT hZ310 (hw _ (List.mem_of_getElem? (i := 320) rfl))) (mvT hZ310 (hw _ (List.mem_of_getElem? (i := 319) rfl))) (by decide) (StrChars.Road.chN (W := 0) hZ310 hch (kI := 4) (hw _ (List.mem_of_getElem? (i := 5) rfl)) f312 f313 f314 f315 hcdm (own_up _ hpm) (O2.ext (X00.keep K310 all0).2) P5 (O4.ext (X00.keep K310 all0).2) rG3 hm4 (i := (no + 3)) (by omega) (j := ((Int32.ofNat no) + (3 : Int32))) (own_addn rfl (by omega)) (by decide) (by decide)) q328a q328c (g := (mkF m 50 #[.val (.ref xm), .val (.int (Int32.ofNat no)), .val (.ref a310)] [(.int ((Int32.ofNat no) + (3 : Int32))), (.ref xm)])) rfl (by rw [hml]; rfl) (Steps.refl _) (argsL := [(.int ((Int32.ofNat no) + (3 : Int32)))]) (rest := []) (lenOf pd_56f5307 rfl) rfl (by show 2 * 0 + _ ≤ _; exact Nat.le_of_eq rfl) (hb hby d51_50) (fun _ _ => ⟨rfl, eq326, (by decide : 2 + 0 ≤ _), (by decide : 40 + 0 ≤ _)⟩)
  dsimp only [Pt.U, Pt.locs, Pt.cells, Pt.slots] at X328 l328 y328 z328 st328 hQ328
  subst l328 y328 z328
  obtain ⟨rfl, rfl, eq328⟩ := hQ328
  have Nq328 : Fr n0 ([] : List Loc) := Fr.nil n0
  have NN329 := Fr.app NN327 Nq328
  refine Go.st (T' := T328.setTop (mkF m 53 #[.val (.ref xm), .val (.int (Int32.ofNat no)), .val (.ref a310)] [(.int ((ms).getD (no + 3) 0))])) (fun zt zk => st328.trans zk) ?_
  refine Go.st (T' := T328.setTop (mkF m 54 #[.val (.ref xm), .val (.int (Int32.ofNat no)), .val (.ref a310)] [(.ref a310), (.int ((ms).getD (no + 3) 0))])) (fun zt zk => XS.aloadN X328.here hx rfl (hb hby d51_53) rfl rfl zk) ?_
  refine Go.st (T' := T328.setTop (mkF m 55 #[.val (.ref xm), .val (.int (Int32.ofNat no)), .val (.ref a310)] [(.int (3 : Int32)), (.ref a310), (.int ((ms).getD (no + 3) 0))])) (fun zt zk => XS.iconst X328.here hx rfl (hb hby d51_54) zk) ?_
  obtain ⟨LX330, XX330, NX330⟩ : ∃ LX, Stand p l e ({ frames := 4, cells := 2, slots := 40, locals := 54 } : Room) (s.setVm T310.vm) m #[(.ref xm), (.int (Int32.ofNat no))] below meth c T328 LX 2 40 ∧ Fr n0 LX := ⟨_, X328, NN329⟩
  obtain ⟨cq331, kq331, q331a, q331b, q331c⟩ := isOf hZ310 eq328 EA310
  obtain ⟨vr331, _, ⟨T331, L331, k331, n331⟩, -, X331, ⟨Lc331, hQ331, l331, y331, z331⟩, st331⟩ := XX330.virtualBack hx (y := (⟨"java/lang/String", "charAt", "(I)C"⟩ : MethodName)) (z := (⟨"java/lang/String", "charAt", "(I)C"⟩ : MethodName)) ho310 (mvT hZ310 (hw _ (List.mem_of_getElem? (i := 317) rfl))) (mvT hZ310 (hw _ (List.mem_of_getElem? (i := 318) rfl))) (notFace_of_selects (args := #[]) (mvT hZ310 (hw _ (List.mem_of_getElem? (i := 320) rfl)))) (mvT hZ310 (hw _ (List.mem_of_getElem? (i := 320) rfl))) (mvT hZ310 (hw _ (List.mem_of_getElem? (i := 319) rfl))) (by decide) (StrChars.Road.chN (W := 1) hZ310 hch (kI := 4) (hw _ (List.mem_of_getElem? (i := 5) rfl)) EA310 VA310 CA310 BA310 hcdU (own_up _ hpU) (O2.ext (X00.keep K310 all0).2) P5 (O4.ext (X00.keep K310 all0).2) rG3 (by decide) (i := 3) (by decide) (j := (3 : Int32)) rfl (by decide) (by decide)) q331a q331c (g := (mkF m 55 #[.val (.ref xm), .val (.int (Int32.ofNat no)), .val (.ref a310)] [(.int (3 : Int32)), (.ref a310), (.int ((ms).getD (no + 3) 0))])) rfl (by rw [hml]; rfl) (Steps.refl _) (argsL := [(.int (3 : Int32))]) (rest := [(.int ((ms).getD (no + 3) 0))]) (lenOf pd_56f5307 rfl) rfl (by show 2 * 0 + _ ≤ _; exact Nat.le_of_eq rfl) (hb hby d51_55) (fun _ _ => ⟨rfl, eq328, (by decide : 2 + 0 ≤ _), (by decide : 40 + 0 ≤ _)⟩)
  dsimp only [Pt.U, Pt.locs, Pt.cells, Pt.slots] at X331 l331 y331 z331 st331 hQ331
  subst l331 y331 z331
  obtain ⟨rfl, rfl, eq331⟩ := hQ331
  have Nq331 : Fr n0 ([] : List Loc) := Fr.nil n0
  have NN332 := Fr.app NX330 Nq331
  refine Go.st (T' := T331.setTop (mkF m 58 #[.val (.ref xm), .val (.int (Int32.ofNat no)), .val (.ref a310)] [(.int ((own_U).getD 3 0)), (.int ((ms).getD (no + 3) 0))])) (fun zt zk => st331.trans zk) ?_
  refine Go.st (T' := T331.setTop (mkF m 61 #[.val (.ref xm), .val (.int (Int32.ofNat no)), .val (.ref a310)] [])) (fun zt zk => XS.icmpNo X331.here hx rfl (hb hby d51_58) rfl (teq (hsub 3 (by decide))).2 zk) ?_
  refine Go.st (T' := T331.setTop (mkF m 62 #[.val (.ref xm), .val (.int (Int32.ofNat no)), .val (.ref a310)] [(.ref xm)])) (fun zt zk => XS.aloadN X331.here hx rfl (hb hby d51_61) rfl rfl zk) ?_
  refine Go.st (T' := T331.setTop (mkF m 63 #[.val (.ref xm), .val (.int (Int32.ofNat no)), .val (.ref a310)] [(.int (Int32.ofNat no)), (.ref xm)])) (fun zt zk => XS.iloadN X331.here hx rfl (hb hby d51_62) rfl zk) ?_
  refine Go.st (T' := T331.setTop (mkF m 64 #[.val (.ref xm), .val (.int (Int32.ofNat no)), .val (.ref a310)] [(.int (4 : Int32)), (.int (Int32.ofNat no)), (.ref xm)])) (fun zt zk => XS.iconst X331.here hx rfl (hb hby d51_63) zk) ?_
  refine Go.st (T' := T331.setTop (mkF m 65 #[.val (.ref xm), .val (.int (Int32.ofNat no)), .val (.ref a310)] [(.int ((Int32.ofNat no) + (4 : Int32))), (.ref xm)])) (fun zt zk => XS.iadd X331.here hx rfl (hb hby d51_64) rfl zk) ?_
  obtain ⟨cq333, kq333, q333a, q333b, q333c⟩ := isOf hZ310 eq331 f312
  obtain ⟨vr333, _, ⟨T333, L333, k333, n333⟩, -, X333, ⟨Lc333, hQ333, l333, y333, z333⟩, st333⟩ := X331.virtualBack hx (y := (⟨"java/lang/String", "charAt", "(I)C"⟩ : MethodName)) (z := (⟨"java/lang/String", "charAt", "(I)C"⟩ : MethodName)) ho310 (mvT hZ310 (hw _ (List.mem_of_getElem? (i := 317) rfl))) (mvT hZ310 (hw _ (List.mem_of_getElem? (i := 318) rfl))) (notFace_of_selects (args := #[]) (mvT hZ310 (hw _ (List.mem_of_getElem? (i := 320) rfl)))) (mvT hZ310 (hw _ (List.mem_of_getElem? (i := 320) rfl))) (mvT hZ310 (hw _ (List.mem_of_getElem? (i := 319) rfl))) (by decide) (StrChars.Road.chN (W := 0) hZ310 hch (kI := 4) (hw _ (List.mem_of_getElem? (i := 5) rfl)) f312 f313 f314 f315 hcdm (own_up _ hpm) (O2.ext (X00.keep K310 all0).2) P5 (O4.ext (X00.keep K310 all0).2) rG3 hm4 (i := (no + 4)) (by omega) (j := ((Int32.ofNat no) + (4 : Int32))) (own_addn rfl (by omega)) (by decide) (by decide)) q333a q333c (g := (mkF m 65 #[.val (.ref xm), .val (.int (Int32.ofNat no)), .val (.ref a310)] [(.int ((Int32.ofNat no) + (4 : Int32))), (.ref xm)])) rfl (by rw [hml]; rfl) (Steps.refl _) (argsL := [(.int ((Int32.ofNat no) + (4 : Int32)))]) (rest := []) (lenOf pd_56f5307 rfl) rfl (by show 2 * 0 + _ ≤ _; exact Nat.le_of_eq rfl) (hb hby d51_65) (fun _ _ => ⟨rfl, eq331, (by decide : 2 + 0 ≤ _), (by decide : 40 + 0 ≤ _)⟩)
  dsimp only [Pt.U, Pt.locs, Pt.cells, Pt.slots] at X333 l333 y333 z333 st333 hQ333
  subst l333 y333 z333
  obtain ⟨rfl, rfl, eq333⟩ := hQ333
  have Nq333 : Fr n0 ([] : List Loc) := Fr.nil n0
  have NN334 := Fr.app NN332 Nq333
  refine Go.st (T' := T333.setTop (mkF m 68 #[.val (.ref xm), .val (.int (Int32.ofNat no)), .val (.ref a310)] [(.int ((ms).getD (no + 4) 0))])) (fun zt zk => st333.trans zk) ?_
  refine Go.st (T' := T333.setTop (mkF m 69 #[.val (.ref xm), .val (.int (Int32.ofNat no)), .val (.ref a310)] [(.ref a310), (.int ((ms).getD (no + 4) 0))])) (fun zt zk => XS.aloadN X333.here hx rfl (hb hby d51_68) rfl rfl zk) ?_
  refine Go.st (T' := T333.setTop (mkF m 70 #[.val (.ref xm), .val (.int (Int32.ofNat no)), .val (.ref a310)] [(.int (4 : Int32)), (.ref a310), (.int ((ms).getD (no + 4) 0))])) (fun zt zk => XS.iconst X333.here hx rfl (hb hby d51_69) zk) ?_
  obtain ⟨cq335, kq335, q335a, q335b, q335c⟩ := isOf hZ310 eq333 EA310
  obtain ⟨vr335, _, ⟨T335, L335, k335, n335⟩, -, X335, ⟨Lc335, hQ335, l335, y335, z335⟩, st335⟩ := X333.virtualBack hx (y := (⟨"java/lang/String", "charAt", "(I)C"⟩ : MethodName)) (z := (⟨"java/lang/String", "charAt", "(I)C"⟩ : MethodName)) ho310 (mvT hZ310 (hw _ (List.mem_of_getElem? (i := 317) rfl))) (mvT hZ310 (hw _ (List.mem_of_getElem? (i := 318) rfl))) (notFace_of_selects (args := #[]) (mvT hZ310 (hw _ (List.mem_of_getElem? (i := 320) rfl)))) (mvT hZ310 (hw _ (List.mem_of_getElem? (i := 320) rfl))) (mvT hZ310 (hw _ (List.mem_of_getElem? (i := 319) rfl))) (by decide) (StrChars.Road.chN (W := 1) hZ310 hch (kI := 4) (hw _ (List.mem_of_getElem? (i := 5) rfl)) EA310 VA310 CA310 BA310 hcdU (own_up _ hpU) (O2.ext (X00.keep K310 all0).2) P5 (O4.ext (X00.keep K310 all0).2) rG3 (by decide) (i := 4) (by decide) (j := (4 : Int32)) rfl (by decide) (by decide)) q335a q335c (g := (mkF m 70 #[.val (.ref xm), .val (.int (Int32.ofNat no)), .val (.ref a310)] [(.int (4 : Int32)), (.ref a310), (.int ((ms).getD (no + 4) 0))])) rfl (by rw [hml]; rfl) (Steps.refl _) (argsL := [(.int (4 : Int32))]) (rest := [(.int ((ms).getD (no + 4) 0))]) (lenOf pd_56f5307 rfl) rfl (by show 2 * 0 + _ ≤ _; exact Nat.le_of_eq rfl) (hb hby d51_70) (fun _ _ => ⟨rfl, eq333, (by decide : 2 + 0 ≤ _), (by decide : 40 + 0 ≤ _)⟩)
  dsimp only [Pt.U, Pt.locs, Pt.cells, Pt.slots] at X335 l335 y335 z335 st335 hQ335
  subst l335 y335 z335
  obtain ⟨rfl, rfl, eq335⟩ := hQ335
  have Nq335 : Fr n0 ([] : List Loc) := Fr.nil n0
  have NN336 := Fr.app NN334 Nq335
  refine Go.st (T' := T335.setTop (mkF m 73 #[.val (.ref xm), .val (.int (Int32.ofNat no)), .val (.ref a310)] [(.int ((own_U).getD 4 0)), (.int ((ms).getD (no + 4) 0))])) (fun zt zk => st335.trans zk) ?_
  refine Go.st (T' := T335.setTop (mkF m 76 #[.val (.ref xm), .val (.int (Int32.ofNat no)), .val (.ref a310)] [])) (fun zt zk => XS.icmpNo X335.here hx rfl (hb hby d51_73) rfl (teq (hsub 4 (by decide))).2 zk) ?_
  refine Go.st (T' := T335.setTop (mkF m 77 #[.val (.ref xm), .val (.int (Int32.ofNat no)), .val (.ref a310)] [(.ref xm)])) (fun zt zk => XS.aloadN X335.here hx rfl (hb hby d51_76) rfl rfl zk) ?_
  refine Go.st (T' := T335.setTop (mkF m 78 #[.val (.ref xm), .val (.int (Int32.ofNat no)), .val (.ref a310)] [(.int (Int32.ofNat no)), (.ref xm)])) (fun zt zk => XS.iloadN X335.here hx rfl (hb hby d51_77) rfl zk) ?_
  refine Go.st (T' := T335.setTop (mkF m 79 #[.val (.ref xm), .val (.int (Int32.ofNat no)), .val (.ref a310)] [(.int (5 : Int32)), (.int (Int32.ofNat no)), (.ref xm)])) (fun zt zk => XS.iconst X335.here hx rfl (hb hby d51_78) zk) ?_
  refine Go.st (T' := T335.setTop (mkF m 80 #[.val (.ref xm), .val (.int (Int32.ofNat no)), .val (.ref a310)] [(.int ((Int32.ofNat no) + (5 : Int32))), (.ref xm)])) (fun zt zk => XS.iadd X335.here hx rfl (hb hby d51_79) rfl zk) ?_
  obtain ⟨cq337, kq337, q337a, q337b, q337c⟩ := isOf hZ310 eq335 f312
  obtain ⟨vr337, _, ⟨T337, L337, k337, n337⟩, -, X337, ⟨Lc337, hQ337, l337, y337, z337⟩, st337⟩ := X335.virtualBack hx (y := (⟨"java/lang/String", "charAt", "(I)C"⟩ : MethodName)) (z := (⟨"java/lang/String", "charAt", "(I)C"⟩ : MethodName)) ho310 (mvT hZ310 (hw _ (List.mem_of_getElem? (i := 317) rfl))) (mvT hZ310 (hw _ (List.mem_of_getElem? (i := 318) rfl))) (notFace_of_selects (args := #[]) (mvT hZ310 (hw _ (List.mem_of_getElem? (i := 320) rfl)))) (mvT hZ310 (hw _ (List.mem_of_getElem? (i := 320) rfl))) (mvT hZ310 (hw _ (List.mem_of_getElem? (i := 319) rfl))) (by decide) (StrChars.Road.chN (W := 0) hZ310 hch (kI := 4) (hw _ (List.mem_of_getElem? (i := 5) rfl)) f312 f313 f314 f315 hcdm (own_up _ hpm) (O2.ext (X00.keep K310 all0).2) P5 (O4.ext (X00.keep K310 all0).2) rG3 hm4 (i := (no + 5)) (by omega) (j := ((Int32.ofNat no) + (5 : Int32))) (own_addn rfl (by omega)) (by decide) (by decide)) q337a q337c (g := (mkF m 80 #[.val (.ref xm), .val (.int (Int32.ofNat no)), .val (.ref a310)] [(.int ((Int32.ofNat no) + (5 : Int32))), (.ref xm)])) rfl (by rw [hml]; rfl) (Steps.refl _) (argsL := [(.int ((Int32.ofNat no) + (5 : Int32)))]) (rest := []) (lenOf pd_56f5307 rfl) rfl (by show 2 * 0 + _ ≤ _; exact Nat.le_of_eq rfl) (hb hby d51_80) (fun _ _ => ⟨rfl, eq335, (by decide : 2 + 0 ≤ _), (by decide : 40 + 0 ≤ _)⟩)
  dsimp only [Pt.U, Pt.locs, Pt.cells, Pt.slots] at X337 l337 y337 z337 st337 hQ337
  subst l337 y337 z337
  obtain ⟨rfl, rfl, eq337⟩ := hQ337
  have Nq337 : Fr n0 ([] : List Loc) := Fr.nil n0
  have NN338 := Fr.app NN336 Nq337
  refine Go.st (T' := T337.setTop (mkF m 83 #[.val (.ref xm), .val (.int (Int32.ofNat no)), .val (.ref a310)] [(.int ((ms).getD (no + 5) 0))])) (fun zt zk => st337.trans zk) ?_
  refine Go.st (T' := T337.setTop (mkF m 84 #[.val (.ref xm), .val (.int (Int32.ofNat no)), .val (.ref a310)] [(.ref a310), (.int ((ms).getD (no + 5) 0))])) (fun zt zk => XS.aloadN X337.here hx rfl (hb hby d51_83) rfl rfl zk) ?_
  refine Go.st (T' := T337.setTop (mkF m 85 #[.val (.ref xm), .val (.int (Int32.ofNat no)), .val (.ref a310)] [(.int (5 : Int32)), (.ref a310), (.int ((ms).getD (no + 5) 0))])) (fun zt zk => XS.iconst X337.here hx rfl (hb hby d51_84) zk) ?_
  obtain ⟨cq339, kq339, q339a, q339b, q339c⟩ := isOf hZ310 eq337 EA310
  obtain ⟨vr339, _, ⟨T339, L339, k339, n339⟩, -, X339, ⟨Lc339, hQ339, l339, y339, z339⟩, st339⟩ := X337.virtualBack hx (y := (⟨"java/lang/String", "charAt", "(I)C"⟩ : MethodName)) (z := (⟨"java/lang/String", "charAt", "(I)C"⟩ : MethodName)) ho310 (mvT hZ310 (hw _ (List.mem_of_getElem? (i := 317) rfl))) (mvT hZ310 (hw _ (List.mem_of_getElem? (i := 318) rfl))) (notFace_of_selects (args := #[]) (mvT hZ310 (hw _ (List.mem_of_getElem? (i := 320) rfl)))) (mvT hZ310 (hw _ (List.mem_of_getElem? (i := 320) rfl))) (mvT hZ310 (hw _ (List.mem_of_getElem? (i := 319) rfl))) (by decide) (StrChars.Road.chN (W := 1) hZ310 hch (kI := 4) (hw _ (List.mem_of_getElem? (i := 5) rfl)) EA310 VA310 CA310 BA310 hcdU (own_up _ hpU) (O2.ext (X00.keep K310 all0).2) P5 (O4.ext (X00.keep K310 all0).2) rG3 (by decide) (i := 5) (by decide) (j := (5 : Int32)) rfl (by decide) (by decide)) q339a q339c (g := (mkF m 85 #[.val (.ref xm), .val (.int (Int32.ofNat no)), .val (.ref a310)] [(.int (5 : Int32)), (.ref a310), (.int ((ms).getD (no + 5) 0))])) rfl (by rw [hml]; rfl) (Steps.refl _) (argsL := [(.int (5 : Int32))]) (rest := [(.int ((ms).getD (no + 5) 0))]) (lenOf pd_56f5307 rfl) rfl (by show 2 * 0 + _ ≤ _; exact Nat.le_of_eq rfl) (hb hby d51_85) (fun _ _ => ⟨rfl, eq337, (by decide : 2 + 0 ≤ _), (by decide : 40 + 0 ≤ _)⟩)
  dsimp only [Pt.U, Pt.locs, Pt.cells, Pt.slots] at X339 l339 y339 z339 st339 hQ339
  subst l339 y339 z339
  obtain ⟨rfl, rfl, eq339⟩ := hQ339
  have Nq339 : Fr n0 ([] : List Loc) := Fr.nil n0
  have NN340 := Fr.app NN338 Nq339
  refine Go.st (T' := T339.setTop (mkF m 88 #[.val (.ref xm), .val (.int (Int32.ofNat no)), .val (.ref a310)] [(.int ((own_U).getD 5 0)), (.int ((ms).getD (no + 5) 0))])) (fun zt zk => st339.trans zk) ?_
  refine Go.st (T' := T339.setTop (mkF m 91 #[.val (.ref xm), .val (.int (Int32.ofNat no)), .val (.ref a310)] [])) (fun zt zk => XS.icmpNo X339.here hx rfl (hb hby d51_88) rfl (teq (hsub 5 (by decide))).2 zk) ?_
  refine Go.st (T' := T339.setTop (mkF m 92 #[.val (.ref xm), .val (.int (Int32.ofNat no)), .val (.ref a310)] [(.ref xm)])) (fun zt zk => XS.aloadN X339.here hx rfl (hb hby d51_91) rfl rfl zk) ?_
  refine Go.st (T' := T339.setTop (mkF m 93 #[.val (.ref xm), .val (.int (Int32.ofNat no)), .val (.ref a310)] [(.int (Int32.ofNat no)), (.ref xm)])) (fun zt zk => XS.iloadN X339.here hx rfl (hb hby d51_92) rfl zk) ?_
  refine Go.st (T' := T339.setTop (mkF m 95 #[.val (.ref xm), .val (.int (Int32.ofNat no)), .val (.ref a310)] [(.int (6 : Int32)), (.int (Int32.ofNat no)), (.ref xm)])) (fun zt zk => XS.bipush X339.here hx rfl (hb hby d51_93) zk) ?_
  refine Go.st (T' := T339.setTop (mkF m 96 #[.val (.ref xm), .val (.int (Int32.ofNat no)), .val (.ref a310)] [(.int ((Int32.ofNat no) + (6 : Int32))), (.ref xm)])) (fun zt zk => XS.iadd X339.here hx rfl (hb hby d51_95) rfl zk) ?_
  obtain ⟨cq341, kq341, q341a, q341b, q341c⟩ := isOf hZ310 eq339 f312
  obtain ⟨vr341, _, ⟨T341, L341, k341, n341⟩, -, X341, ⟨Lc341, hQ341, l341, y341, z341⟩, st341⟩ := X339.virtualBack hx (y := (⟨"java/lang/String", "charAt", "(I)C"⟩ : MethodName)) (z := (⟨"java/lang/String", "charAt", "(I)C"⟩ : MethodName)) ho310 (mvT hZ310 (hw _ (List.mem_of_getElem? (i := 317) rfl))) (mvT hZ310 (hw _ (List.mem_of_getElem? (i := 318) rfl))) (notFace_of_selects (args := #[]) (mvT hZ310 (hw _ (List.mem_of_getElem? (i := 320) rfl)))) (mvT hZ310 (hw _ (List.mem_of_getElem? (i := 320) rfl))) (mvT hZ310 (hw _ (List.mem_of_getElem? (i := 319) rfl))) (by decide) (StrChars.Road.chN (W := 0) hZ310 hch (kI := 4) (hw _ (List.mem_of_getElem? (i := 5) rfl)) f312 f313 f314 f315 hcdm (own_up _ hpm) (O2.ext (X00.keep K310 all0).2) P5 (O4.ext (X00.keep K310 all0).2) rG3 hm4 (i := (no + 6)) (by omega) (j := ((Int32.ofNat no) + (6 : Int32))) (own_addn rfl (by omega)) (by decide) (by decide)) q341a q341c (g := (mkF m 96 #[.val (.ref xm), .val (.int (Int32.ofNat no)), .val (.ref a310)] [(.int ((Int32.ofNat no) + (6 : Int32))), (.ref xm)])) rfl (by rw [hml]; rfl) (Steps.refl _) (argsL := [(.int ((Int32.ofNat no) + (6 : Int32)))]) (rest := []) (lenOf pd_56f5307 rfl) rfl (by show 2 * 0 + _ ≤ _; exact Nat.le_of_eq rfl) (hb hby d51_96) (fun _ _ => ⟨rfl, eq339, (by decide : 2 + 0 ≤ _), (by decide : 40 + 0 ≤ _)⟩)
  dsimp only [Pt.U, Pt.locs, Pt.cells, Pt.slots] at X341 l341 y341 z341 st341 hQ341
  subst l341 y341 z341
  obtain ⟨rfl, rfl, eq341⟩ := hQ341
  have Nq341 : Fr n0 ([] : List Loc) := Fr.nil n0
  have NN342 := Fr.app NN340 Nq341
  refine Go.st (T' := T341.setTop (mkF m 99 #[.val (.ref xm), .val (.int (Int32.ofNat no)), .val (.ref a310)] [(.int ((ms).getD (no + 6) 0))])) (fun zt zk => st341.trans zk) ?_
  refine Go.st (T' := T341.setTop (mkF m 100 #[.val (.ref xm), .val (.int (Int32.ofNat no)), .val (.ref a310)] [(.ref a310), (.int ((ms).getD (no + 6) 0))])) (fun zt zk => XS.aloadN X341.here hx rfl (hb hby d51_99) rfl rfl zk) ?_
  refine Go.st (T' := T341.setTop (mkF m 102 #[.val (.ref xm), .val (.int (Int32.ofNat no)), .val (.ref a310)] [(.int (6 : Int32)), (.ref a310), (.int ((ms).getD (no + 6) 0))])) (fun zt zk => XS.bipush X341.here hx rfl (hb hby d51_100) zk) ?_
  obtain ⟨cq343, kq343, q343a, q343b, q343c⟩ := isOf hZ310 eq341 EA310
  obtain ⟨vr343, _, ⟨T343, L343, k343, n343⟩, -, X343, ⟨Lc343, hQ343, l343, y343, z343⟩, st343⟩ := X341.virtualBack hx (y := (⟨"java/lang/String", "charAt", "(I)C"⟩ : MethodName)) (z := (⟨"java/lang/String", "charAt", "(I)C"⟩ : MethodName)) ho310 (mvT hZ310 (hw _ (List.mem_of_getElem? (i := 317) rfl))) (mvT hZ310 (hw _ (List.mem_of_getElem? (i := 318) rfl))) (notFace_of_selects (args := #[]) (mvT hZ310 (hw _ (List.mem_of_getElem? (i := 320) rfl)))) (mvT hZ310 (hw _ (List.mem_of_getElem? (i := 320) rfl))) (mvT hZ310 (hw _ (List.mem_of_getElem? (i := 319) rfl))) (by decide) (StrChars.Road.chN (W := 1) hZ310 hch (kI := 4) (hw _ (List.mem_of_getElem? (i := 5) rfl)) EA310 VA310 CA310 BA310 hcdU (own_up _ hpU) (O2.ext (X00.keep K310 all0).2) P5 (O4.ext (X00.keep K310 all0).2) rG3 (by decide) (i := 6) (by decide) (j := (6 : Int32)) rfl (by decide) (by decide)) q343a q343c (g := (mkF m 102 #[.val (.ref xm), .val (.int (Int32.ofNat no)), .val (.ref a310)] [(.int (6 : Int32)), (.ref a310), (.int ((ms).getD (no + 6) 0))])) rfl (by rw [hml]; rfl) (Steps.refl _) (argsL := [(.int (6 : Int32))]) (rest := [(.int ((ms).getD (no + 6) 0))]) (lenOf pd_56f5307 rfl) rfl (by show 2 * 0 + _ ≤ _; exact Nat.le_of_eq rfl) (hb hby d51_102) (fun _ _ => ⟨rfl, eq341, (by decide : 2 + 0 ≤ _), (by decide : 40 + 0 ≤ _)⟩)
  dsimp only [Pt.U, Pt.locs, Pt.cells, Pt.slots] at X343 l343 y343 z343 st343 hQ343
  subst l343 y343 z343
  obtain ⟨rfl, rfl, eq343⟩ := hQ343
  have Nq343 : Fr n0 ([] : List Loc) := Fr.nil n0
  have NN344 := Fr.app NN342 Nq343
  refine Go.st (T' := T343.setTop (mkF m 105 #[.val (.ref xm), .val (.int (Int32.ofNat no)), .val (.ref a310)] [(.int ((own_U).getD 6 0)), (.int ((ms).getD (no + 6) 0))])) (fun zt zk => st343.trans zk) ?_
  refine Go.st (T' := T343.setTop (mkF m 108 #[.val (.ref xm), .val (.int (Int32.ofNat no)), .val (.ref a310)] [])) (fun zt zk => XS.icmpNo X343.here hx rfl (hb hby d51_105) rfl (teq (hsub 6 (by decide))).2 zk) ?_
  refine Go.st (T' := T343.setTop (mkF m 109 #[.val (.ref xm), .val (.int (Int32.ofNat no)), .val (.ref a310)] [(.ref xm)])) (fun zt zk => XS.aloadN X343.here hx rfl (hb hby d51_108) rfl rfl zk) ?_
  refine Go.st (T' := T343.setTop (mkF m 110 #[.val (.ref xm), .val (.int (Int32.ofNat no)), .val (.ref a310)] [(.int (Int32.ofNat no)), (.ref xm)])) (fun zt zk => XS.iloadN X343.here hx rfl (hb hby d51_109) rfl zk) ?_
  refine Go.st (T' := T343.setTop (mkF m 112 #[.val (.ref xm), .val (.int (Int32.ofNat no)), .val (.ref a310)] [(.int (7 : Int32)), (.int (Int32.ofNat no)), (.ref xm)])) (fun zt zk => XS.bipush X343.here hx rfl (hb hby d51_110) zk) ?_
  refine Go.st (T' := T343.setTop (mkF m 113 #[.val (.ref xm), .val (.int (Int32.ofNat no)), .val (.ref a310)] [(.int ((Int32.ofNat no) + (7 : Int32))), (.ref xm)])) (fun zt zk => XS.iadd X343.here hx rfl (hb hby d51_112) rfl zk) ?_
  obtain ⟨LX345, XX345, NX345⟩ : ∃ LX, Stand p l e ({ frames := 4, cells := 2, slots := 40, locals := 54 } : Room) (s.setVm T310.vm) m #[(.ref xm), (.int (Int32.ofNat no))] below meth c T343 LX 2 40 ∧ Fr n0 LX := ⟨_, X343, NN344⟩
  obtain ⟨cq346, kq346, q346a, q346b, q346c⟩ := isOf hZ310 eq343 f312
  obtain ⟨vr346, _, ⟨T346, L346, k346, n346⟩, -, X346, ⟨Lc346, hQ346, l346, y346, z346⟩, st346⟩ := XX345.virtualBack hx (y := (⟨"java/lang/String", "charAt", "(I)C"⟩ : MethodName)) (z := (⟨"java/lang/String", "charAt", "(I)C"⟩ : MethodName)) ho310 (mvT hZ310 (hw _ (List.mem_of_getElem? (i := 317) rfl))) (mvT hZ310 (hw _ (List.mem_of_getElem? (i := 318) rfl))) (notFace_of_selects (args := #[]) (mvT hZ310 (hw _ (List.mem_of_getElem? (i := 320) rfl)))) (mvT hZ310 (hw _ (List.mem_of_getElem? (i := 320) rfl))) (mvT hZ310 (hw _ (List.mem_of_getElem? (i := 319) rfl))) (by decide) (StrChars.Road.chN (W := 0) hZ310 hch (kI := 4) (hw _ (List.mem_of_getElem? (i := 5) rfl)) f312 f313 f314 f315 hcdm (own_up _ hpm) (O2.ext (X00.keep K310 all0).2) P5 (O4.ext (X00.keep K310 all0).2) rG3 hm4 (i := (no + 7)) (by omega) (j := ((Int32.ofNat no) + (7 : Int32))) (own_addn rfl (by omega)) (by decide) (by decide)) q346a q346c (g := (mkF m 113 #[.val (.ref xm), .val (.int (Int32.ofNat no)), .val (.ref a310)] [(.int ((Int32.ofNat no) + (7 : Int32))), (.ref xm)])) rfl (by rw [hml]; rfl) (Steps.refl _) (argsL := [(.int ((Int32.ofNat no) + (7 : Int32)))]) (rest := []) (lenOf pd_56f5307 rfl) rfl (by show 2 * 0 + _ ≤ _; exact Nat.le_of_eq rfl) (hb hby d51_113) (fun _ _ => ⟨rfl, eq343, (by decide : 2 + 0 ≤ _), (by decide : 40 + 0 ≤ _)⟩)
  dsimp only [Pt.U, Pt.locs, Pt.cells, Pt.slots] at X346 l346 y346 z346 st346 hQ346
  subst l346 y346 z346
  obtain ⟨rfl, rfl, eq346⟩ := hQ346
  have Nq346 : Fr n0 ([] : List Loc) := Fr.nil n0
  have NN347 := Fr.app NX345 Nq346
  refine Go.st (T' := T346.setTop (mkF m 116 #[.val (.ref xm), .val (.int (Int32.ofNat no)), .val (.ref a310)] [(.int ((ms).getD (no + 7) 0))])) (fun zt zk => st346.trans zk) ?_
  refine Go.st (T' := T346.setTop (mkF m 117 #[.val (.ref xm), .val (.int (Int32.ofNat no)), .val (.ref a310)] [(.ref a310), (.int ((ms).getD (no + 7) 0))])) (fun zt zk => XS.aloadN X346.here hx rfl (hb hby d51_116) rfl rfl zk) ?_
  refine Go.st (T' := T346.setTop (mkF m 119 #[.val (.ref xm), .val (.int (Int32.ofNat no)), .val (.ref a310)] [(.int (7 : Int32)), (.ref a310), (.int ((ms).getD (no + 7) 0))])) (fun zt zk => XS.bipush X346.here hx rfl (hb hby d51_117) zk) ?_
  obtain ⟨cq348, kq348, q348a, q348b, q348c⟩ := isOf hZ310 eq346 EA310
  obtain ⟨vr348, _, ⟨T348, L348, k348, n348⟩, -, X348, ⟨Lc348, hQ348, l348, y348, z348⟩, st348⟩ := X346.virtualBack hx (y := (⟨"java/lang/String", "charAt", "(I)C"⟩ : MethodName)) (z := (⟨"java/lang/String", "charAt", "(I)C"⟩ : MethodName)) ho310 (mvT hZ310 (hw _ (List.mem_of_getElem? (i := 317) rfl))) (mvT hZ310 (hw _ (List.mem_of_getElem? (i := 318) rfl))) (notFace_of_selects (args := #[]) (mvT hZ310 (hw _ (List.mem_of_getElem? (i := 320) rfl)))) (mvT hZ310 (hw _ (List.mem_of_getElem? (i := 320) rfl))) (mvT hZ310 (hw _ (List.mem_of_getElem? (i := 319) rfl))) (by decide) (StrChars.Road.chN (W := 1) hZ310 hch (kI := 4) (hw _ (List.mem_of_getElem? (i := 5) rfl)) EA310 VA310 CA310 BA310 hcdU (own_up _ hpU) (O2.ext (X00.keep K310 all0).2) P5 (O4.ext (X00.keep K310 all0).2) rG3 (by decide) (i := 7) (by decide) (j := (7 : Int32)) rfl (by decide) (by decide)) q348a q348c (g := (mkF m 119 #[.val (.ref xm), .val (.int (Int32.ofNat no)), .val (.ref a310)] [(.int (7 : Int32)), (.ref a310), (.int ((ms).getD (no + 7) 0))])) rfl (by rw [hml]; rfl) (Steps.refl _) (argsL := [(.int (7 : Int32))]) (rest := [(.int ((ms).getD (no + 7) 0))]) (lenOf pd_56f5307 rfl) rfl (by show 2 * 0 + _ ≤ _; exact Nat.le_of_eq rfl) (hb hby d51_119) (fun _ _ => ⟨rfl, eq346, (by decide : 2 + 0 ≤ _), (by decide : 40 + 0 ≤ _)⟩)
  dsimp only [Pt.U, Pt.locs, Pt.cells, Pt.slots] at X348 l348 y348 z348 st348 hQ348
  subst l348 y348 z348
  obtain ⟨rfl, rfl, eq348⟩ := hQ348
  have Nq348 : Fr n0 ([] : List Loc) := Fr.nil n0
  have NN349 := Fr.app NN347 Nq348
  refine Go.st (T' := T348.setTop (mkF m 122 #[.val (.ref xm), .val (.int (Int32.ofNat no)), .val (.ref a310)] [(.int ((own_U).getD 7 0)), (.int ((ms).getD (no + 7) 0))])) (fun zt zk => st348.trans zk) ?_
  refine Go.st (T' := T348.setTop (mkF m 125 #[.val (.ref xm), .val (.int (Int32.ofNat no)), .val (.ref a310)] [])) (fun zt zk => XS.icmpNo X348.here hx rfl (hb hby d51_122) rfl (teq (hsub 7 (by decide))).2 zk) ?_
  refine Go.st (T' := T348.setTop (mkF m 126 #[.val (.ref xm), .val (.int (Int32.ofNat no)), .val (.ref a310)] [(.ref xm)])) (fun zt zk => XS.aloadN X348.here hx rfl (hb hby d51_125) rfl rfl zk) ?_
  refine Go.st (T' := T348.setTop (mkF m 127 #[.val (.ref xm), .val (.int (Int32.ofNat no)), .val (.ref a310)] [(.int (Int32.ofNat no)), (.ref xm)])) (fun zt zk => XS.iloadN X348.here hx rfl (hb hby d51_126) rfl zk) ?_
  refine Go.st (T' := T348.setTop (mkF m 129 #[.val (.ref xm), .val (.int (Int32.ofNat no)), .val (.ref a310)] [(.int (8 : Int32)), (.int (Int32.ofNat no)), (.ref xm)])) (fun zt zk => XS.bipush X348.here hx rfl (hb hby d51_127) zk) ?_
  refine Go.st (T' := T348.setTop (mkF m 130 #[.val (.ref xm), .val (.int (Int32.ofNat no)), .val (.ref a310)] [(.int ((Int32.ofNat no) + (8 : Int32))), (.ref xm)])) (fun zt zk => XS.iadd X348.here hx rfl (hb hby d51_129) rfl zk) ?_
  obtain ⟨cq350, kq350, q350a, q350b, q350c⟩ := isOf hZ310 eq348 f312
  obtain ⟨vr350, _, ⟨T350, L350, k350, n350⟩, -, X350, ⟨Lc350, hQ350, l350, y350, z350⟩, st350⟩ := X348.virtualBack hx (y := (⟨"java/lang/String", "charAt", "(I)C"⟩ : MethodName)) (z := (⟨"java/lang/String", "charAt", "(I)C"⟩ : MethodName)) ho310 (mvT hZ310 (hw _ (List.mem_of_getElem? (i := 317) rfl))) (mvT hZ310 (hw _ (List.mem_of_getElem? (i := 318) rfl))) (notFace_of_selects (args := #[]) (mvT hZ310 (hw _ (List.mem_of_getElem? (i := 320) rfl)))) (mvT hZ310 (hw _ (List.mem_of_getElem? (i := 320) rfl))) (mvT hZ310 (hw _ (List.mem_of_getElem? (i := 319) rfl))) (by decide) (StrChars.Road.chN (W := 0) hZ310 hch (kI := 4) (hw _ (List.mem_of_getElem? (i := 5) rfl)) f312 f313 f314 f315 hcdm (own_up _ hpm) (O2.ext (X00.keep K310 all0).2) P5 (O4.ext (X00.keep K310 all0).2) rG3 hm4 (i := (no + 8)) (by omega) (j := ((Int32.ofNat no) + (8 : Int32))) (own_addn rfl (by omega)) (by decide) (by decide)) q350a q350c (g := (mkF m 130 #[.val (.ref xm), .val (.int (Int32.ofNat no)), .val (.ref a310)] [(.int ((Int32.ofNat no) + (8 : Int32))), (.ref xm)])) rfl (by rw [hml]; rfl) (Steps.refl _) (argsL := [(.int ((Int32.ofNat no) + (8 : Int32)))]) (rest := []) (lenOf pd_56f5307 rfl) rfl (by show 2 * 0 + _ ≤ _; exact Nat.le_of_eq rfl) (hb hby d51_130) (fun _ _ => ⟨rfl, eq348, (by decide : 2 + 0 ≤ _), (by decide : 40 + 0 ≤ _)⟩)
  dsimp only [Pt.U, Pt.locs, Pt.cells, Pt.slots] at X350 l350 y350 z350 st350 hQ350
  subst l350 y350 z350
  obtain ⟨rfl, rfl, eq350⟩ := hQ350
  have Nq350 : Fr n0 ([] : List Loc) := Fr.nil n0
  have NN351 := Fr.app NN349 Nq350
  refine Go.st (T' := T350.setTop (mkF m 133 #[.val (.ref xm), .val (.int (Int32.ofNat no)), .val (.ref a310)] [(.int ((ms).getD (no + 8) 0))])) (fun zt zk => st350.trans zk) ?_
  refine Go.st (T' := T350.setTop (mkF m 134 #[.val (.ref xm), .val (.int (Int32.ofNat no)), .val (.ref a310)] [(.ref a310), (.int ((ms).getD (no + 8) 0))])) (fun zt zk => XS.aloadN X350.here hx rfl (hb hby d51_133) rfl rfl zk) ?_
  refine Go.st (T' := T350.setTop (mkF m 136 #[.val (.ref xm), .val (.int (Int32.ofNat no)), .val (.ref a310)] [(.int (8 : Int32)), (.ref a310), (.int ((ms).getD (no + 8) 0))])) (fun zt zk => XS.bipush X350.here hx rfl (hb hby d51_134) zk) ?_
  obtain ⟨cq352, kq352, q352a, q352b, q352c⟩ := isOf hZ310 eq350 EA310
  obtain ⟨vr352, _, ⟨T352, L352, k352, n352⟩, -, X352, ⟨Lc352, hQ352, l352, y352, z352⟩, st352⟩ := X350.virtualBack hx (y := (⟨"java/lang/String", "charAt", "(I)C"⟩ : MethodName)) (z := (⟨"java/lang/String", "charAt", "(I)C"⟩ : MethodName)) ho310 (mvT hZ310 (hw _ (List.mem_of_getElem? (i := 317) rfl))) (mvT hZ310 (hw _ (List.mem_of_getElem? (i := 318) rfl))) (notFace_of_selects (args := #[]) (mvT hZ310 (hw _ (List.mem_of_getElem? (i := 320) rfl)))) (mvT hZ310 (hw _ (List.mem_of_getElem? (i := 320) rfl))) (mvT hZ310 (hw _ (List.mem_of_getElem? (i := 319) rfl))) (by decide) (StrChars.Road.chN (W := 1) hZ310 hch (kI := 4) (hw _ (List.mem_of_getElem? (i := 5) rfl)) EA310 VA310 CA310 BA310 hcdU (own_up _ hpU) (O2.ext (X00.keep K310 all0).2) P5 (O4.ext (X00.keep K310 all0).2) rG3 (by decide) (i := 8) (by decide) (j := (8 : Int32)) rfl (by decide) (by decide)) q352a q352c (g := (mkF m 136 #[.val (.ref xm), .val (.int (Int32.ofNat no)), .val (.ref a310)] [(.int (8 : Int32)), (.ref a310), (.int ((ms).getD (no + 8) 0))])) rfl (by rw [hml]; rfl) (Steps.refl _) (argsL := [(.int (8 : Int32))]) (rest := [(.int ((ms).getD (no + 8) 0))]) (lenOf pd_56f5307 rfl) rfl (by show 2 * 0 + _ ≤ _; exact Nat.le_of_eq rfl) (hb hby d51_136) (fun _ _ => ⟨rfl, eq350, (by decide : 2 + 0 ≤ _), (by decide : 40 + 0 ≤ _)⟩)
  dsimp only [Pt.U, Pt.locs, Pt.cells, Pt.slots] at X352 l352 y352 z352 st352 hQ352
  subst l352 y352 z352
  obtain ⟨rfl, rfl, eq352⟩ := hQ352
  have Nq352 : Fr n0 ([] : List Loc) := Fr.nil n0
  have NN353 := Fr.app NN351 Nq352
  refine Go.st (T' := T352.setTop (mkF m 139 #[.val (.ref xm), .val (.int (Int32.ofNat no)), .val (.ref a310)] [(.int ((own_U).getD 8 0)), (.int ((ms).getD (no + 8) 0))])) (fun zt zk => st352.trans zk) ?_
  refine Go.st (T' := T352.setTop (mkF m 142 #[.val (.ref xm), .val (.int (Int32.ofNat no)), .val (.ref a310)] [])) (fun zt zk => XS.icmpNo X352.here hx rfl (hb hby d51_139) rfl (teq (hsub 8 (by decide))).2 zk) ?_
  refine Go.st (T' := T352.setTop (mkF m 143 #[.val (.ref xm), .val (.int (Int32.ofNat no)), .val (.ref a310)] [(.int (1 : Int32))])) (fun zt zk => XS.iconst X352.here hx rfl (hb hby d51_142) zk) ?_
  refine Go.st (T' := T352.setTop (mkF m 147 #[.val (.ref xm), .val (.int (Int32.ofNat no)), .val (.ref a310)] [(.int (1 : Int32))])) (fun zt zk => XS.goto X352.here hx rfl (pc0 := 143) (pc' := 147) rfl (hb hby d51_143) (by decide) (by decide) zk) ?_
  exact Go.doneH X352 hS310 (by rw [eq352]; exact hk310) Bd.notSynchronized (v := some (.int (nar .boolean (1 : Int32)))) (fun h => by rw [Bd.returns] at h; cases h) (fun fs hr => retN X352 hx (t := .boolean) Bd.returns (by simp) (hb hby d51_147) hr) (by rw [eq352]; exact ⟨rfl, NN353, K310⟩) (by decide) (by decide) hZ310 hEL hh eq352 C311
theorem d44_0 : decode jdk_78_method_6_code 0 = .ok (.aload_n 0, 1) := by decide +kernel
theorem d44_1 : decode jdk_78_method_6_code 1 = .ok (.getfield 31, 3) := by decide +kernel
theorem d44_4 : decode jdk_78_method_6_code 4 = .ok (.areturn, 1) := by decide +kernel
theorem pn_ea01eec : plainName "java/lang/Throwable" = true := by first | (simp [plainName, overriddenIn]; done) | decide +kernel
theorem ef_44 (m : MethodId) (x0 : Addr) : entryFrame m #[(.ref x0)] 1 = mkF m 0 #[.val (.ref x0)] [] := by first | (simp [entryFrame, mkF, argsToLocals, Value.category]; done) | rfl
def Q_rmGM (Z : State) (a1 xm : Addr) (h0 : Heap) (n0 : Nat) (v : Option Value) (h : Heap) (L : List Loc) : Prop := v = some (.ref xm) ∧ Fr n0 L ∧ h = h0
set_option maxRecDepth 65536 in
set_option maxHeartbeats 40000000 in
theorem rmGM (l : Launch) (Z : State) (a0 : Array Value) (hw : ∀ d ∈ tables_1, d.before a0 Z = true) (a1 xm : Addr) (h0 : Heap) (n0 : Nat) (Z0 : n0 ≤ h0.size) (Fm : Fld Z h0 a1 "java/lang/Throwable" "detailMessage" "Ljava/lang/String;" (.ref xm)) :
    MetFree l (⟨"java/lang/Throwable", "getMessage", "()Ljava/lang/String;"⟩ : MethodName) (head1 [Jvm.Cond.code (⟨"java/lang/Throwable", "getMessage", "()Ljava/lang/String;"⟩ : MethodName) jdk_78_method_6_code 1 (some (.object "java/lang/String"))] ({ frames := 0, cells := 0, slots := 0, locals := 0 } : Room)) (fun a U => a = #[(.ref a1)] ∧ Z.Warmed39 U.vm ∧ U.heap = h0) (fun _ _ _ _ _ => True) (fun _ U o U' => ∃ v L, o = .returned v ∧ (Q_rmGM Z a1 xm h0 n0) v U'.heap L ∧ FrameEnd U o U' L ({ frames := 0, cells := 0, slots := 0, locals := 0 } : Room).cells ({ frames := 0, cells := 0, slots := 0, locals := 0 } : Room).slots) := by
  refine MetFree.of_bodySF (plainFor_of_name pn_ea01eec) hisR ?_
  intro p e s m args below meth c s₁ Bd hml0 hP hK
  obtain ⟨rfl, hZ, hh⟩ := hP
  have hx := Bd.exec
  have hby := Bd.bytes
  have hml : c.maxLocals = 1 := hml0
  have hown : s.vm.findClass "java/lang/Throwable" = some m.cls := findClass_of_methodNamed Bd.named
  have hnm := (name_of_methodNamed Bd.named Bd.method).1
  have X0 : Stand p l e ({ frames := 0, cells := 0, slots := 0, locals := 0 } : Room) s m #[(.ref a1)] below meth c s₁ [] 0 0 := Stand.of_body Bd
  have e0 : s₁.heap = h0 := by rw [← hh, Bd.state]; rfl
  have N0 := Fr.nil n0
  have K0 : Keep h0 h0 [] := Keep.refl h0 []
  show Go p e below (s₁.setTop (entryFrame m #[(.ref a1)] 1)) (EndN s (Q_rmGM Z a1 xm h0 n0) ({ frames := 0, cells := 0, slots := 0, locals := 0 } : Room).cells ({ frames := 0, cells := 0, slots := 0, locals := 0 } : Room).slots)
  refine Go.top (ef_44 m a1) ?_
  refine Go.st (T' := s₁.setTop (mkF m 1 #[.val (.ref a1)] [(.ref a1)])) (fun zt zk => XS.aloadN X0.here hx rfl (hb hby d44_0) rfl rfl zk) ?_
  obtain ⟨T354, X354, e354, st354⟩ := getF X0 hx hZ hown (host := "") (Or.inl (hw _ (List.mem_of_getElem? (i := 306) rfl))) Via.refl e0 Fm (g := (mkF m 1 #[.val (.ref a1)] [(.ref a1)])) rfl rfl (hb hby d44_1)
  refine Go.st (T' := T354.setTop (mkF m 4 #[.val (.ref a1)] [(.ref xm)])) (fun zt zk => st354 zt zk) ?_
  exact Go.done X354 Bd.notSynchronized (v := some (.ref xm)) (fun h => by rw [Bd.returns] at h; cases h) (fun fs hr => retA X354 hx Bd.returns rfl rfl rfl (hb hby d44_4) hr) (by rw [e354]; exact ⟨rfl, N0, rfl⟩) (by decide) (by decide)
/-- what the road of the exception's constructor asks of the tables, as far as the sheet says it (one word less than the library's own list: that Throwable itself lays 'suppressedExceptions') -/
def own_exw : List Jvm.Cond := (Jvm.Free.Exc.excAtoms "com/example/uakari/uakari/UsageException").filter fun d => decide (d ≠ .lays tN tN "suppressedExceptions" listD)
theorem own_exin : ∀ d ∈ own_exw, d ∈ tables_1 := by decide +kernel
theorem own_exok : own_exw.all xOk = true := by decide +kernel
section OwnThr
open Jvm.Free.Exc LibCode.Throwable
variable {args : Array Value} {s : State} {pl : Platform}
theorem own_in {d : Jvm.Cond} (h : decide (d ∈ own_exw) = true) : d ∈ own_exw := of_decide_eq_true h
/-- the parts of Throwable's class that the filling in of a stack trace leans on -/
theorem own_thr (howns : pl.frameOwnsMonitors = true) (hfin : pl.finalization = false) (hpl : pl.magicAccessors = ({} : Platform).magicAccessors) (W : ∀ d ∈ own_exw, d.before args s = true) :
    ∃ T : ThrowableC, T.Links pl s ∧ s.vm.findClass tN = some T.cT ∧ s.methodNamed? tFill = some T.fill ∧ s.methodNamed? tFill0 = some T.fill0 ∧
      s.fieldFound? tN "stackTrace" steD = some (T.cT, T.kT, T.i17, T.fStack) ∧ T.fStack.name = "stackTrace" ∧ T.fStack.type = .array (.object "java/lang/StackTraceElement") ∧
      s.fieldFound? tN "UNASSIGNED_STACK" steD = some (T.cT, T.kT, T.i13, T.fUnassigned) := by
  have w : ∀ d : Jvm.Cond, decide (d ∈ own_exw) = true → d.holds args s none s [] = true := fun d hd => W d (own_in hd)
  obtain ⟨⟨ct, j0⟩, g0, n0, m0, nat0, cod0, lck0, sg0⟩ := Cond.native_spec (w (.native tFill0) (by decide +kernel))
  have hc : s.vm.findClass tN = some ct := findClass_of_methodNamed n0
  obtain ⟨kt, hk, knm⟩ := Vm.findClass_spec hc
  obtain ⟨_, k1, _, _, hk1, _, _, _, _, hni⟩ := Cond.superclass_spec hc (w (.superclass tN "java/lang/Object") (by decide +kernel))
  obtain rfl : kt = k1 := Option.some.inj (hk.symm.trans hk1)
  obtain ⟨jF, gF, nF, mF, aF, sF, bF, -, -⟩ := Cond.ownMethod (x := tFill) hc hk (w (.instanceMethod tFill) (by decide +kernel))
  obtain ⟨gF', cF, mF', codF, byF, mlF, rtF, lkF, -, sgF⟩ := Cond.codeSync_spec nF (w (.codeSync tFill Fill.code 1 (some (.object tN))) (by decide +kernel))
  obtain rfl : gF = gF' := Option.some.inj (mF.symm.trans mF')
  obtain ⟨j0', g0', n0', m0', a0', s0', b0', nm0, ds0⟩ := Cond.ownMethod (x := tFill0) hc hk (w (.instanceMethod tFill0) (by decide +kernel))
  obtain rfl : j0 = j0' := by have q := Option.some.inj (n0.symm.trans n0'); simpa using q
  obtain rfl : g0 = g0' := Option.some.inj (m0.symm.trans m0')
  obtain ⟨jO, gO, nO, mO, sO, bO⟩ := Cond.instanceMethod_spec (w (.instanceMethod oInit) (by decide +kernel))
  obtain ⟨gO', cO, mO', codO, byO, mlO, -, lkO, -, sgO⟩ := Cond.code_spec nO (w (.code oInit ⟨#[0xb1]⟩ 1 none) (by decide +kernel))
  obtain rfl : gO = gO' := Option.some.inj (mO.symm.trans mO')
  obtain ⟨kO, hkO, knO⟩ := Vm.findClass_spec (findClass_of_methodNamed nO)
  obtain ⟨nmO, dsO⟩ := name_of_methodNamed nO mO
  obtain ⟨p1, q1, cf, l1, r1, hcf, e1⟩ := Cond.linkedMethod hc hk nO (w (.methodLink tN 1 oInit) (by decide +kernel)) pl hpl
  obtain ⟨p27, q27, cf2, l27, r27, hcf2, e27⟩ := Cond.linkedMethod hc hk nF (w (.methodLink tN 27 tFill) (by decide +kernel)) pl hpl
  obtain rfl : cf = cf2 := Option.some.inj (hcf.symm.trans hcf2)
  obtain ⟨p202, q202, cf3, l202, r202, hcf3, e202⟩ := Cond.linkedMethod hc hk n0 (w (.methodLink tN 202 tFill0) (by decide +kernel)) pl hpl
  obtain rfl : cf = cf3 := Option.some.inj (hcf.symm.trans hcf3)
  obtain ⟨p7, i7, f7, u7, v7, t7, st7, fi7, -, -, ff7⟩ := Cond.ownField (t := .object tN) hc hk (by decide +kernel) (w (.fieldLink tN 7 tN "cause" thD) (by decide +kernel)) (w (.lays tN tN "cause" thD) (by decide +kernel)) pl hpl
  obtain ⟨p17, i17, f17, u17, v17, t17, st17, fi17, nm17, ty17, ff17⟩ := Cond.ownField (t := .array (.object "java/lang/StackTraceElement")) hc hk (by decide +kernel) (w (.fieldLink tN 17 tN "stackTrace" steD) (by decide +kernel)) (w (.lays tN tN "stackTrace" steD) (by decide +kernel)) pl hpl
  obtain ⟨p24, i24, f24, u24, v24, t24, st24, fi24, nm24, -, ff24⟩ := Cond.ownField (t := .object "java/util/List") hc hk (by decide +kernel) (w (.fieldLink tN 24 tN "suppressedExceptions" listD) (by decide +kernel)) (w (.lays "com/example/uakari/uakari/UsageException" tN "suppressedExceptions" listD) (by decide +kernel)) pl hpl
  obtain ⟨p13, i13, f13, sta, cst, u13, v13, t13, st13, -, -, hsta, hcst, hist, -, -, ff13⟩ := Cond.ownStatic (t := .array (.object "java/lang/StackTraceElement")) hc hk (by decide +kernel) (w (.fieldLink tN 13 tN "UNASSIGNED_STACK" steD) (by decide +kernel)) (w (.laysStatic tN "UNASSIGNED_STACK" steD) (by decide +kernel)) pl hpl
  obtain ⟨p20, i20, f20, _, _, u20, v20, t20, st20, -, -, -, -, -, -, -, -⟩ := Cond.ownStatic (t := .object "java/util/List") hc hk (by decide +kernel) (w (.fieldLink tN 20 tN "SUPPRESSED_SENTINEL" listD) (by decide +kernel)) (w (.laysStatic tN "SUPPRESSED_SENTINEL" listD) (by decide +kernel)) pl hpl
  obtain ⟨_, _, cM, kM, iM, fM, _, _, ffM, stM, fiM, _⟩ := Cond.lays_spec (w (.lays tN tN "detailMessage" msgD) (by decide +kernel))
  obtain ⟨cx, kx, _, _, _, _, hcx, hkx, -⟩ := Cond.lays_spec (w (.lays "com/example/uakari/uakari/UsageException" tN "stackTrace" steD) (by decide +kernel))
  obtain ⟨-, d1, hd1, hn1⟩ := Cond.laysAt hcx hkx ff17 (w (.lays "com/example/uakari/uakari/UsageException" tN "stackTrace" steD) (by decide +kernel))
  obtain ⟨-, d2, hd2, hn2⟩ := Cond.laysAt hcx hkx ff24 (w (.lays "com/example/uakari/uakari/UsageException" tN "suppressedExceptions" listD) (by decide +kernel))
  have apart : f17.slot ≠ f24.slot := Cond.laysApart hd1 hd2 hn1 hn2 (by rw [nm17, nm24]; decide)
  have parF : gF.sig.parameters = [] := by
    have q : (parseMethodDescriptor tFill.desc).map (·.parameters) = some [] := by decide +kernel
    rw [sgF] at q; simpa using q
  have par0 : g0.sig.parameters = [.int] := by
    have q : (parseMethodDescriptor tFill0.desc).map (·.parameters) = some [.int] := by decide +kernel
    rw [sg0] at q; simpa using q
  have parO : gO.sig.parameters.length = 0 := by
    have q : (parseMethodDescriptor oInit.desc).map (·.parameters.length) = some 0 := by decide +kernel
    rw [sgO] at q; simpa using q
  refine ⟨{ cT := ct, kT := kt, cO := ct, aS := sta, fillIdx := jF, fill0Idx := j0, initSIdx := jF, obj := jO, kObj := kO, methFill := gF, methFill0 := g0, methInitS := gF, methObj := gO, codeFill := cF, codeInitS := cF, codeObj := cO, fBack := f7, fDepth := f7, fStack := f17, fCause := f7, fSupp := f24, fMsg := fM, fUnassigned := f13, fSentinel := f20, cfT := cf, ci1 := p1, n1 := q1, ci27 := p27, n27 := q27, ci202 := p202, n202 := q202, ci7 := p7, i7 := i7, ci13 := p13, i13 := i13, ci17 := p17, i17 := i17, ci20 := p20, i20 := i20, ci24 := p24, i24 := i24 }, ?_, hc, nF, n0, ff17, nm17, ty17, ff13⟩
  constructor
  case owns => exact howns
  case noFinalization => exact hfin
  case cls => exact hk
  case name => exact knm
  case boot => exact Vm.findClass_boot hc hk
  case notInterface => exact hni
  case initialized => exact Cond.initialized_spec hc hk (w (.initialized tN) (by decide +kernel))
  case objFound => show lookupSpecial s.vm jO.cls "<init>" gO.desc = .method jO; rw [dsO]; exact lookupSpecial_of_named nO mO sO
  case objName => exact nmO
  all_goals assumption
end OwnThr
section OwnFill
open Jvm.Free.Exc LibCode.Throwable
variable {p : Program} {l : Launch} {e : Env} {R : Room} {s : State} {m : MethodId} {args : Array Value} {below : List Frame} {meth : Method} {c : Code} {T : State} {locs : List Loc} {cells slots : Nat} {Z : State} {a0 : Array Value} {h h0 : Heap}
theorem own_takes {cell C : Cell} {kX : Class} {f : Field} {v : Value} (hk : s.vm.classes[cell.cls]? = some kX) (hord : kX.kind = .ordinary) (hsz : cell.slots.size = kX.instanceTypes.size) (hvm : cell.vm = .none) (h1 : kX.instanceTypes[f.slot]? = some f.type) (h2 : fits f.type v = true) : Jvm.Takes s cell f v := by
  obtain ⟨q1, q2⟩ := Takes.of_laid (v := v) hk hord h1 h2
  exact ⟨by rw [hsz]; simpa using q1, by rw [hvm]; exact q2⟩
theorem own_keep {a : Addr} (X : Stand p l e R s m args below meth c T locs cells slots) (hs : s.heap = h0) (hL : ∀ y ∈ locs, y.base = a) : Keep h0 T.heap [a] := by
  subst hs
  obtain ⟨-, h1, -, -, -, h6⟩ := X.same
  refine ⟨h1, fun x cl q ne => ?_, fun x cl q => ?_⟩
  · obtain ⟨c', q1, q2, -, q4⟩ := h6 x cl q
    have hsl : c'.slots = cl.slots := Array.ext_getElem? fun i => q4 i fun hm => ne (List.mem_singleton.mpr (hL _ hm))
    rw [show T.heap[x]? = some c' from q1, q2, hsl]
  · obtain ⟨c', q1, q2, q3, -⟩ := h6 x cl q
    exact ⟨c', q1, by rw [q2], by rw [q2], q3⟩
/-- fillInStackTrace() on an exception whose constructor is under way -/
theorem own_fill (X : Stand p l e R s m args below meth c T locs cells slots) (hx : p.tables.exec = Jvm.exec) (hl : l.stackTraces = true) (hZ : Z.Warmed39 s.vm) (hown : s.vm.findClass tN = some m.cls) (hw : ∀ d ∈ tables_1, d.before a0 Z = true)
    (hT0 : ThS Z s.heap) (hTK : s.vm.MethodsKnown) (hBelow : s.vm.FramesKnown below) (eT : T.heap = h) (hs0 : s.heap = h0) {a : Addr} (hL : ∀ y ∈ locs, y.base = a)
    (E : Exa Z h a "com/example/uakari/uakari/UsageException") (N : Unt h a) (B : Fld Z h a tN "backtrace" obD .null) (M : Fld Z h a tN "detailMessage" msgD .null) {u : Value} (hu : u.isRef = true) (S : Fld Z h a tN "stackTrace" steD u) (U : Sta Z h tN "UNASSIGNED_STACK" steD u)
    {g : JFrame} (hg : g.method = m) (hsize : g.locals.size = c.maxLocals) (hs : g.stack = [.ref a]) (hmr : g.monitorRoom = 0) (hd : decode c.code g.pc = .ok (.invokevirtual 27, 3)) (hf : 3 ≤ R.frames) (hlo : 42 ≤ R.locals) (hc : cells + 1 ≤ R.cells) (hsl : slots + 2752 ≤ R.slots) :
    ∃ (T' : State) (h' : Heap) (L : List Loc), Stand p l e R s m args below meth c T' L (cells + 1) (slots + 2752) ∧ T'.heap = h' ∧ (∀ y ∈ L, y.base = a) ∧ Keep h0 h' [a] ∧ Exa Z h' a "com/example/uakari/uakari/UsageException" ∧ Fld Z h' a tN "detailMessage" msgD .null ∧
      ∀ target, Steps p.tables e below (T'.setTop { g with pc := g.pc + 3, stack := [.ref a] }) target → Steps p.tables e below (T.setTop g) target := by
  have W : ∀ d ∈ own_exw, d.before args s = true := fun d hd => mvX hT0 hZ (List.all_eq_true.mp own_exok d hd) (hw d (own_exin d hd))
  have w : ∀ d : Jvm.Cond, decide (d ∈ own_exw) = true → d.holds args s none s [] = true := fun d hd => W d (own_in hd)
  have htr : e.platform.stackTraces = true := by rw [X.admits.platform]; exact hl
  have hpl : e.platform.magicAccessors = ({} : Platform).magicAccessors := by rw [X.admits.platform]
  obtain ⟨TT, L, fT, nF, nF0, ffS, nmS, tyS, ffU⟩ := own_thr (args := args) (s := s) (pl := e.platform) (by rw [X.admits.platform]) (by rw [X.admits.platform]) hpl W
  obtain ⟨cell, kc, c1, c2, c3, -, c5⟩ := E
  obtain ⟨cl2, u1, hvm, hmon⟩ := N
  cases c1.symm.trans u1
  have hfound : s.vm.findClass "com/example/uakari/uakari/UsageException" = some cell.cls := by rw [hZ.alike.findClass]; exact c2
  obtain ⟨_, kX, i1, hk, hord, -⟩ := Cond.instantiable_spec (mv hZ (hw _ (List.mem_of_getElem? (i := 143) rfl)) : (Jvm.Cond.instantiable "com/example/uakari/uakari/UsageException" 6).before args s = true)
  cases hfound.symm.trans i1
  obtain ⟨k', z1, z2⟩ := hZ.alike.2.2 _ _ c3
  have hkk : k' = kX := Option.some.inj (z1.symm.trans hk)
  have hsz : cell.slots.size = kX.instanceTypes.size := by
    rw [← hkk, z2]; exact c5 (by have q := hord; rw [← hkk, z2] at q; exact q)
  obtain ⟨c4, cfB, kfB, iB, fB, b1, b2, b3, -, -, -, b7⟩ := B
  cases c1.symm.trans b1
  obtain ⟨kB, ffB, -⟩ := State.fieldFound?_setVm (s := Z) hZ.alike b2
  obtain ⟨c6, cfM, kfM, iM, fM, m1, m2, m3, m4, m5, m6, m7⟩ := M
  cases c1.symm.trans m1
  obtain ⟨kM, ffM, -⟩ := State.fieldFound?_setVm (s := Z) hZ.alike m2
  obtain ⟨c7, cfS, kfS, iS, fS, s1, s2, s3, -, -, -, s7⟩ := S
  cases c1.symm.trans s1
  obtain ⟨kS, ffS', -⟩ := State.fieldFound?_setVm (s := Z) hZ.alike s2
  have ffS2 : s.fieldFound? tN "stackTrace" steD = some (cfS, kS, iS, fS) := ffS'
  cases ffS2.symm.trans ffS
  obtain ⟨cfU, iU, kU, fU, st, cS, v1, v2, v3, v4, v5, v6, v7⟩ := U
  obtain ⟨kU', ffU', eU⟩ := State.fieldFound?_setVm (s := Z) hZ.alike v1
  have ffU2 : s.fieldFound? tN "UNASSIGNED_STACK" steD = some (cfU, kU', iU, fU) := ffU'
  cases ffU2.symm.trans ffU
  have hst : st = TT.aS := by
    have q : TT.kT.statics = some st := by rw [eU]; exact v4
    exact Option.some.inj (q.symm.trans L.statics)
  subst hst
  have hneS : TT.aS ≠ a := fun q => by rw [q, c1] at v5; rw [← Option.some.inj v5, hvm] at v6; cases v6
  have hsel0 : selectMethod e.platform s.vm cell.cls TT.fill0 = .method TT.fill0 := by
    obtain ⟨x1, x2, x3, q1, q2, q3, q4, -⟩ := Cond.selects_spec (w (.selects "com/example/uakari/uakari/UsageException" tFill0 tFill0) (by decide +kernel))
    cases Option.some.inj (q1.symm.trans hfound)
    cases Option.some.inj (q2.symm.trans (State.methodFound?_of_named nF0 (by decide)))
    cases Option.some.inj (q3.symm.trans nF0)
    rw [Launch.admits_selectMethod X.admits]; exact q4
  obtain ⟨p198, i198, fB', y1, y2, y3, y4, -, y5, y6, y7⟩ := Cond.ownField (t := .object "java/lang/Object") fT L.cls (by decide +kernel) (w (.fieldLink tN 198 tN "backtrace" obD) (by decide +kernel)) (w (.lays tN tN "backtrace" obD) (by decide +kernel)) e.platform hpl
  have ffB2 : s.fieldFound? tN "backtrace" obD = some (cfB, kB, iB, fB) := ffB
  cases ffB2.symm.trans y7
  obtain ⟨_, _, cD, kD, iD, fD, -, -, ffD, stD, -⟩ := Cond.lays_spec (w (.lays "com/example/uakari/uakari/UsageException" tN "depth" "I") (by decide +kernel))
  cases Option.some.inj ((Cond.lays_declared (w (.lays "com/example/uakari/uakari/UsageException" tN "depth" "I") (by decide +kernel)) ffD).symm.trans fT)
  obtain ⟨hkD, hatD⟩ := State.fieldFound?_spec ffD
  cases Option.some.inj (hkD.symm.trans L.cls)
  obtain ⟨nmD, tyD⟩ := State.fieldFound?_type ffD (t := .int) (by decide +kernel)
  have hfb := Cond.soleField_find fT L.cls (w (.soleField tN "backtrace") (by decide +kernel)) y3 y5 y4
  have hfd := Cond.soleField_find fT L.cls (w (.soleField tN "depth") (by decide +kernel)) hatD nmD stD
  obtain ⟨comp, cO, kO, -, -, hkO, hkindO, hO⟩ := Cond.arrayOver_spec (W (.arrayOver (.object "java/lang/Object")) (own_in (by decide +kernel)))
  have ffM2 : s.fieldFound? tN "detailMessage" msgD = some (cfM, kM, iM, fM) := ffM
  have nmM : fM.name = "detailMessage" := (State.fieldFound?_type ffM2 (t := .object "java/lang/String") (by decide +kernel)).1
  obtain ⟨laS, dS, hdS, hnS⟩ := Cond.laysAt hfound hk ffS (w (.lays "com/example/uakari/uakari/UsageException" tN "stackTrace" steD) (by decide +kernel))
  obtain ⟨laB, dB, hdB, hnB⟩ := Cond.laysAt hfound hk y7 (w (.lays "com/example/uakari/uakari/UsageException" tN "backtrace" obD) (by decide +kernel))
  obtain ⟨laD, dD, hdD, hnD⟩ := Cond.laysAt hfound hk ffD (w (.lays "com/example/uakari/uakari/UsageException" tN "depth" "I") (by decide +kernel))
  obtain ⟨laM, dM, hdM, hnM⟩ := Cond.laysAt hfound hk ffM2 (w (.lays "com/example/uakari/uakari/UsageException" tN "detailMessage" msgD) (by decide +kernel))
  have mS := Cond.laysApart hdM hdS hnM hnS (by rw [nmM, nmS]; decide)
  have mB := Cond.laysApart hdM hdB hnM hnB (by rw [nmM, y5]; decide)
  have mD := Cond.laysApart hdM hdD hnM hnD (by rw [nmM, nmD]; decide)
  have fitS : fits TT.fStack.type u = true := by rw [tyS]; exact fits_refV_array _ ⟨u, hu⟩
  have hSE := W (.selects "com/example/uakari/uakari/UsageException" tFill tFill) (own_in (by decide +kernel))
  have hcT : T.heap[a]? = some cell := by rw [eT]; exact c1
  have hcS : T.heap[TT.aS]? = some cS := by rw [eT]; exact v5
  obtain ⟨v', vm', ⟨T', L', k', n'⟩, -, X', ⟨hv, C, nn, hn, hC, hCc, hCv, hCs, hCo, hL', hk', hn'⟩, st⟩ := X.virtualBack hx (own := tN) (C := "com/example/uakari/uakari/UsageException") (index := 27) (y := tFill) (z := tFill) hown (W (.methodLink tN 27 tFill) (own_in (by decide +kernel))) (W (.declares tFill) (own_in (by decide +kernel))) (notFace_of_selects hSE) hSE (W (.instanceMethod tFill) (own_in (by decide +kernel))) (by decide)
    (fillPaysAny (l := l) (W := 0) hx htr TT L nF (u0 := ⟨u, hu⟩) (self := a) (cell := cell) (cellS := cS) (fun _ => by rw [hvm]; simp) (by rw [hvm]; simp) (by rw [hmon]) (by rw [hmon]) s7 hsel0 hneS (fun q => by rw [q] at v6; cases v6) v7 (own_takes (C := cell) hk hord hsz hvm laS fitS)
      ⟨{ ci198 := p198, i198 := _, fBack := _ }, ⟨y1, y2, y3, y4⟩, b7⟩ hTK hBelow fT hO hkO hkindO hfb hfd (fun x => own_takes (C := cell) hk hord hsz hvm laB (by rw [y6]; rfl)) (fun x => own_takes (C := cell) hk hord hsz hvm laD (by rw [tyD]; rfl)) (by omega) (by omega))
    (b := a) (cB := cell.cls) hfound ⟨cell, hcT, rfl, by rw [hvm]; rfl⟩ (g := g) hg hsize (Steps.refl _) (argsL := []) (rest := [])
    (fun sig q => by rw [show parseMethodDescriptor tFill.desc = some ⟨[], some (.object tN)⟩ from by decide +kernel] at q; rw [← Option.some.inj q]; rfl) hs (by rw [hmr]; show 2 * 0 + 0 ≤ 0; decide) hd
    (fun vmx hWx => ⟨rfl, hc, hsl, hcT, hcS⟩)
  dsimp only [Pt.U, Pt.locs, Pt.cells, Pt.slots] at X' hC hL' hk' hn' st
  subst hv hL' hk' hn'
  have hLL : ∀ y ∈ locs ++ [⟨a, fB.slot⟩, ⟨a, fD.slot⟩, ⟨a, TT.fStack.slot⟩], y.base = a := fun y hy => by
    rcases List.mem_append.mp hy with q | q
    · exact hL y q
    · simp only [List.mem_cons, List.not_mem_nil, or_false] at q
      rcases q with rfl | rfl | rfl <;> rfl
  refine ⟨T', T'.heap, _, X'.more (Nat.le_refl _) (by omega), rfl, hLL, own_keep X' hs0 hLL, ?_, ?_, fun target q => st.trans q⟩
  · exact ⟨C, kc, hC, by rw [hCc]; exact c2, by rw [hCc]; exact c3, by rw [hCv, hvm]; rfl, fun q => by rw [hCs]; exact c5 q⟩
  · exact ⟨C, cfM, kfM, iM, fM, hC, m2, m3, by rw [hCv]; exact m4, by rw [hCv]; exact m5, by rw [hCc]; exact m6, by rw [hCo _ mB mD mS]; exact m7⟩
end OwnFill
theorem d42_0 : decode jdk_78_method_2_code 0 = .ok (.aload_n 0, 1) := by decide +kernel
theorem d42_1 : decode jdk_78_method_2_code 1 = .ok (.invokespecial 1, 3) := by decide +kernel
theorem d42_4 : decode jdk_78_method_2_code 4 = .ok (.aload_n 0, 1) := by decide +kernel
theorem d42_5 : decode jdk_78_method_2_code 5 = .ok (.aload_n 0, 1) := by decide +kernel
theorem d42_6 : decode jdk_78_method_2_code 6 = .ok (.putfield 7, 3) := by decide +kernel
theorem d42_9 : decode jdk_78_method_2_code 9 = .ok (.aload_n 0, 1) := by decide +kernel
theorem d42_10 : decode jdk_78_method_2_code 10 = .ok (.getstatic 13, 3) := by decide +kernel
theorem d42_13 : decode jdk_78_method_2_code 13 = .ok (.putfield 17, 3) := by decide +kernel
theorem d42_16 : decode jdk_78_method_2_code 16 = .ok (.aload_n 0, 1) := by decide +kernel
theorem d42_17 : decode jdk_78_method_2_code 17 = .ok (.getstatic 20, 3) := by decide +kernel
theorem d42_20 : decode jdk_78_method_2_code 20 = .ok (.putfield 24, 3) := by decide +kernel
theorem d42_23 : decode jdk_78_method_2_code 23 = .ok (.aload_n 0, 1) := by decide +kernel
theorem d42_24 : decode jdk_78_method_2_code 24 = .ok (.invokevirtual 27, 3) := by decide +kernel
theorem d42_27 : decode jdk_78_method_2_code 27 = .ok (.pop, 1) := by decide +kernel
theorem d42_28 : decode jdk_78_method_2_code 28 = .ok (.aload_n 0, 1) := by decide +kernel
theorem d42_29 : decode jdk_78_method_2_code 29 = .ok (.aload_n 1, 1) := by decide +kernel
theorem d42_30 : decode jdk_78_method_2_code 30 = .ok (.putfield 31, 3) := by decide +kernel
theorem d42_33 : decode jdk_78_method_2_code 33 = .ok (.return_, 1) := by decide +kernel
theorem ef_42 (m : MethodId) (x0 : Addr) (x1 : Addr) : entryFrame m #[(.ref x0), (.ref x1)] 2 = mkF m 0 #[.val (.ref x0), .val (.ref x1)] [] := by first | (simp [entryFrame, mkF, argsToLocals, Value.category]; done) | rfl
def Q_rmTh (Z : State) (a1 xm : Addr) (h0 : Heap) (n0 : Nat) (v : Option Value) (h : Heap) (L : List Loc) : Prop := v = none ∧ Fr n0 L ∧ Keep h0 h [a1] ∧ Exa Z h a1 "com/example/uakari/uakari/UsageException" ∧ Fld Z h a1 "java/lang/Throwable" "detailMessage" "Ljava/lang/String;" (.ref xm)
set_option maxRecDepth 65536 in
set_option maxHeartbeats 40000000 in
theorem rmTh (l : Launch) (Z : State) (a0 : Array Value) (hw : ∀ d ∈ tables_1, d.before a0 Z = true) (a1 xm : Addr) (h0 : Heap) (n0 : Nat) (Z0 : n0 ≤ h0.size) (X00 : Old Z n0 h0) (E1 : Exa Z h0 a1 "com/example/uakari/uakari/UsageException") (g_a1 : n0 ≤ a1) (Un : Unt h0 a1) (F_cause : Fld Z h0 a1 "java/lang/Throwable" "cause" "Ljava/lang/Throwable;" .null) (F_stackTrace : Fld Z h0 a1 "java/lang/Throwable" "stackTrace" "[Ljava/lang/StackTraceElement;" .null) (F_suppressedExceptions : Fld Z h0 a1 "java/lang/Throwable" "suppressedExceptions" "Ljava/util/List;" .null) (F_backtrace : Fld Z h0 a1 "java/lang/Throwable" "backtrace" "Ljava/lang/Object;" .null) (F_detailMessage : Fld Z h0 a1 "java/lang/Throwable" "detailMessage" "Ljava/lang/String;" .null) (hls : l.stackTraces = true) (GU : Value) (SU : Sta Z Z.heap "java/lang/Throwable" "UNASSIGNED_STACK" "[Ljava/lang/StackTraceElement;" GU) (rGU : GU.isRef = true) (GP : Value) (SP : Sta Z Z.heap "java/lang/Throwable" "SUPPRESSED_SENTINEL" "Ljava/util/List;" GP) (rGP : GP.isRef = true) :
    MetFree l (⟨"java/lang/Throwable", "<init>", "(Ljava/lang/String;)V"⟩ : MethodName) (head1 [Jvm.Cond.code (⟨"java/lang/Throwable", "<init>", "(Ljava/lang/String;)V"⟩ : MethodName) jdk_78_method_2_code 2 none] ({ frames := 3, cells := 1, slots := 2752, locals := 42 } : Room)) (fun a U => a = #[(.ref a1), (.ref xm)] ∧ Z.Warmed39 U.vm ∧ U.heap = h0) (fun _ _ bl s _ => s.vm.MethodsKnown ∧ s.vm.FramesKnown bl) (fun _ U o U' => ∃ v L, o = .returned v ∧ (Q_rmTh Z a1 xm h0 n0) v U'.heap L ∧ FrameEnd U o U' L ({ frames := 3, cells := 1, slots := 2752, locals := 42 } : Room).cells ({ frames := 3, cells := 1, slots := 2752, locals := 42 } : Room).slots) := by
  refine MetFree.of_bodySF (plainFor_of_name pn_ea01eec) hisR ?_
  intro p e s m args below meth c s₁ Bd hml0 hP hK
  obtain ⟨rfl, hZ, hh⟩ := hP
  have hx := Bd.exec
  have hby := Bd.bytes
  obtain ⟨hTK, hBelow⟩ := hK
  have hml : c.maxLocals = 2 := hml0
  have hown : s.vm.findClass "java/lang/Throwable" = some m.cls := findClass_of_methodNamed Bd.named
  have hnm := (name_of_methodNamed Bd.named Bd.method).1
  have X0 : Stand p l e ({ frames := 3, cells := 1, slots := 2752, locals := 42 } : Room) s m #[(.ref a1), (.ref xm)] below meth c s₁ [] 0 0 := Stand.of_body Bd
  have e0 : s₁.heap = h0 := by rw [← hh, Bd.state]; rfl
  have N0 := Fr.nil n0
  have K0 : Keep h0 h0 [a1] := Keep.refl h0 [a1]
  show Go p e below (s₁.setTop (entryFrame m #[(.ref a1), (.ref xm)] 2)) (EndN s (Q_rmTh Z a1 xm h0 n0) ({ frames := 3, cells := 1, slots := 2752, locals := 42 } : Room).cells ({ frames := 3, cells := 1, slots := 2752, locals := 42 } : Room).slots)
  refine Go.top (ef_42 m a1 xm) ?_
  refine Go.st (T' := s₁.setTop (mkF m 1 #[.val (.ref a1), .val (.ref xm)] [(.ref a1)])) (fun zt zk => XS.aloadN X0.here hx rfl (hb hby d42_0) rfl rfl zk) ?_
  obtain ⟨T355, X355, e355, st355⟩ := initO X0 hx hZ hown (hw _ (List.mem_of_getElem? (i := 270) rfl)) (hw _ (List.mem_of_getElem? (i := 16) rfl)) (hw _ (List.mem_of_getElem? (i := 17) rfl)) e0 (g := (mkF m 1 #[.val (.ref a1), .val (.ref xm)] [(.ref a1)])) rfl (by rw [hml]; rfl) rfl (hb hby d42_1) (by decide) (W := 0) (by show 2 * 0 + _ ≤ _; exact Nat.le_of_eq rfl) (by decide)
  refine Go.st (T' := T355.setTop (mkF m 4 #[.val (.ref a1), .val (.ref xm)] [])) (fun zt zk => st355 zt zk) ?_
  refine Go.st (T' := T355.setTop (mkF m 5 #[.val (.ref a1), .val (.ref xm)] [(.ref a1)])) (fun zt zk => XS.aloadN X355.here hx rfl (hb hby d42_4) rfl rfl zk) ?_
  refine Go.st (T' := T355.setTop (mkF m 6 #[.val (.ref a1), .val (.ref xm)] [(.ref a1), (.ref a1)])) (fun zt zk => XS.aloadN X355.here hx rfl (hb hby d42_5) rfl rfl zk) ?_
  obtain ⟨T356, h356, X356, e356, W356, st356⟩ := putF X355 hx hZ hown (host := "") (Or.inl (hw _ (List.mem_of_getElem? (i := 271) rfl))) Via.refl e355 F_cause E1 (Or.inl (hw _ (List.mem_of_getElem? (i := 272) rfl))) (hw _ (List.mem_of_getElem? (i := 143) rfl)) (ty := (.object "java/lang/Throwable")) (by decide) rfl rfl (g := (mkF m 6 #[.val (.ref a1), .val (.ref xm)] [(.ref a1), (.ref a1)])) rfl rfl (hb hby d42_6)
  have Fw356 : Fld Z h356 a1 "java/lang/Throwable" "cause" "Ljava/lang/Throwable;" (.ref a1) := F_cause.same W356
  have K356 : Keep h0 h356 [a1] := K0.wr W356 (Or.inl (List.mem_of_getElem? (i := 0) rfl))
  have N356 := Fr.snoc X356 N0 g_a1
  refine Go.st (T' := T356.setTop (mkF m 9 #[.val (.ref a1), .val (.ref xm)] [])) (fun zt zk => st356 zt zk) ?_
  refine Go.st (T' := T356.setTop (mkF m 10 #[.val (.ref a1), .val (.ref xm)] [(.ref a1)])) (fun zt zk => XS.aloadN X356.here hx rfl (hb hby d42_9) rfl rfl zk) ?_
  obtain ⟨T357, X357, e357, st357⟩ := getS (host := "") X356 hx hZ hown (hw _ (List.mem_of_getElem? (i := 273) rfl)) Via.refl e356 (SU.ext (X00.keep K356 (allS g_a1 all0)).2) (g := (mkF m 10 #[.val (.ref a1), .val (.ref xm)] [(.ref a1)])) rfl (hb hby d42_10)
  refine Go.st (T' := T357.setTop (mkF m 13 #[.val (.ref a1), .val (.ref xm)] [GU, (.ref a1)])) (fun zt zk => st357 zt zk) ?_
  have f358 : Fld Z h356 a1 "java/lang/Throwable" "stackTrace" "[Ljava/lang/StackTraceElement;" .null := (F_stackTrace.other W356 (Or.inr (slot_ne (Or.inl (hw _ (List.mem_of_getElem? (i := 275) rfl))) (Or.inl (hw _ (List.mem_of_getElem? (i := 272) rfl))) (by decide) (t := (.array (.object "java/lang/StackTraceElement"))) (t' := (.object "java/lang/Throwable")) (by decide) (by decide))))
  have f359 : Exa Z h356 a1 "com/example/uakari/uakari/UsageException" := (E1.wr W356)
  obtain ⟨T360, h360, X360, e360, W360, st360⟩ := putF X357 hx hZ hown (host := "") (Or.inl (hw _ (List.mem_of_getElem? (i := 274) rfl))) Via.refl e357 f358 f359 (Or.inl (hw _ (List.mem_of_getElem? (i := 275) rfl))) (hw _ (List.mem_of_getElem? (i := 143) rfl)) (ty := (.array (.object "java/lang/StackTraceElement"))) (by decide) (narrow_refV _ ⟨GU, rGU⟩) (fits_refV_array _ ⟨GU, rGU⟩) (g := (mkF m 13 #[.val (.ref a1), .val (.ref xm)] [GU, (.ref a1)])) rfl rfl (hb hby d42_13)
  have Fw360 : Fld Z h360 a1 "java/lang/Throwable" "stackTrace" "[Ljava/lang/StackTraceElement;" GU := f358.same W360
  have K360 : Keep h0 h360 [a1] := K356.wr W360 (Or.inl (List.mem_of_getElem? (i := 0) rfl))
  have N360 := Fr.snoc X360 N356 g_a1
  refine Go.st (T' := T360.setTop (mkF m 16 #[.val (.ref a1), .val (.ref xm)] [])) (fun zt zk => st360 zt zk) ?_
  refine Go.st (T' := T360.setTop (mkF m 17 #[.val (.ref a1), .val (.ref xm)] [(.ref a1)])) (fun zt zk => XS.aloadN X360.here hx rfl (hb hby d42_16) rfl rfl zk) ?_
  obtain ⟨T361, X361, e361, st361⟩ := getS (host := "") X360 hx hZ hown (hw _ (List.mem_of_getElem? (i := 276) rfl)) Via.refl e360 (SP.ext (X00.keep K360 (allS g_a1 all0)).2) (g := (mkF m 17 #[.val (.ref a1), .val (.ref xm)] [(.ref a1)])) rfl (hb hby d42_17)
  refine Go.st (T' := T361.setTop (mkF m 20 #[.val (.ref a1), .val (.ref xm)] [GP, (.ref a1)])) (fun zt zk => st361 zt zk) ?_
  have f362 : Fld Z h360 a1 "java/lang/Throwable" "suppressedExceptions" "Ljava/util/List;" .null := ((F_suppressedExceptions.other W356 (Or.inr (slot_ne (Or.inl (hw _ (List.mem_of_getElem? (i := 278) rfl))) (Or.inl (hw _ (List.mem_of_getElem? (i := 272) rfl))) (by decide) (t := (.object "java/util/List")) (t' := (.object "java/lang/Throwable")) (by decide) (by decide)))).other W360 (Or.inr (slot_ne (Or.inl (hw _ (List.mem_of_getElem? (i := 278) rfl))) (Or.inl (hw _ (List.mem_of_getElem? (i := 275) rfl))) (by decide) (t := (.object "java/util/List")) (t' := (.array (.object "java/lang/StackTraceElement"))) (by decide) (by decide))))
  have f363 : Exa Z h360 a1 "com/example/uakari/uakari/UsageException" := (f359.wr W360)
  obtain ⟨T364, h364, X364, e364, W364, st364⟩ := putF X361 hx hZ hown (host := "") (Or.inl (hw _ (List.mem_of_getElem? (i := 277) rfl))) Via.refl e361 f362 f363 (Or.inl (hw _ (List.mem_of_getElem? (i := 278) rfl))) (hw _ (List.mem_of_getElem? (i := 143) rfl)) (ty := (.object "java/util/List")) (by decide) (narrow_refV _ ⟨GP, rGP⟩) (fits_refV_object _ ⟨GP, rGP⟩) (g := (mkF m 20 #[.val (.ref a1), .val (.ref xm)] [GP, (.ref a1)])) rfl rfl (hb hby d42_20)
  have Fw364 : Fld Z h364 a1 "java/lang/Throwable" "suppressedExceptions" "Ljava/util/List;" GP := f362.same W364
  have K364 : Keep h0 h364 [a1] := K360.wr W364 (Or.inl (List.mem_of_getElem? (i := 0) rfl))
  have N364 := Fr.snoc X364 N360 g_a1
  refine Go.st (T' := T364.setTop (mkF m 23 #[.val (.ref a1), .val (.ref xm)] [])) (fun zt zk => st364 zt zk) ?_
  refine Go.st (T' := T364.setTop (mkF m 24 #[.val (.ref a1), .val (.ref xm)] [(.ref a1)])) (fun zt zk => XS.aloadN X364.here hx rfl (hb hby d42_23) rfl rfl zk) ?_
  have hT0 : ThS Z s.heap := by rw [hh]; exact ThS.ext X00.2 ThS.start
  have f366 : Exa Z h364 a1 "com/example/uakari/uakari/UsageException" := (f363.wr W364)
  have f367 : Unt h364 a1 := (((Un.wr W356).wr W360).wr W364)
  have f368 : Fld Z h364 a1 "java/lang/Throwable" "backtrace" "Ljava/lang/Object;" .null := (((F_backtrace.other W356 (Or.inr (slot_ne (Or.inl (hw _ (List.mem_of_getElem? (i := 303) rfl))) (Or.inl (hw _ (List.mem_of_getElem? (i := 272) rfl))) (by decide) (t := (.object "java/lang/Object")) (t' := (.object "java/lang/Throwable")) (by decide) (by decide)))).other W360 (Or.inr (slot_ne (Or.inl (hw _ (List.mem_of_getElem? (i := 303) rfl))) (Or.inl (hw _ (List.mem_of_getElem? (i := 275) rfl))) (by decide) (t := (.object "java/lang/Object")) (t' := (.array (.object "java/lang/StackTraceElement"))) (by decide) (by decide)))).other W364 (Or.inr (slot_ne (Or.inl (hw _ (List.mem_of_getElem? (i := 303) rfl))) (Or.inl (hw _ (List.mem_of_getElem? (i := 278) rfl))) (by decide) (t := (.object "java/lang/Object")) (t' := (.object "java/util/List")) (by decide) (by decide))))
  have f369 : Fld Z h364 a1 "java/lang/Throwable" "detailMessage" "Ljava/lang/String;" .null := (((F_detailMessage.other W356 (Or.inr (slot_ne (Or.inl (hw _ (List.mem_of_getElem? (i := 302) rfl))) (Or.inl (hw _ (List.mem_of_getElem? (i := 272) rfl))) (by decide) (t := (.object "java/lang/String")) (t' := (.object "java/lang/Throwable")) (by decide) (by decide)))).other W360 (Or.inr (slot_ne (Or.inl (hw _ (List.mem_of_getElem? (i := 302) rfl))) (Or.inl (hw _ (List.mem_of_getElem? (i := 275) rfl))) (by decide) (t := (.object "java/lang/String")) (t' := (.array (.object "java/lang/StackTraceElement"))) (by decide) (by decide)))).other W364 (Or.inr (slot_ne (Or.inl (hw _ (List.mem_of_getElem? (i := 302) rfl))) (Or.inl (hw _ (List.mem_of_getElem? (i := 278) rfl))) (by decide) (t := (.object "java/lang/String")) (t' := (.object "java/util/List")) (by decide) (by decide))))
  have f370 : Fld Z h364 a1 "java/lang/Throwable" "stackTrace" "[Ljava/lang/StackTraceElement;" GU := (Fw360.other W364 (Or.inr (slot_ne (Or.inl (hw _ (List.mem_of_getElem? (i := 275) rfl))) (Or.inl (hw _ (List.mem_of_getElem? (i := 278) rfl))) (by decide) (t := (.array (.object "java/lang/StackTraceElement"))) (t' := (.object "java/util/List")) (by decide) (by decide))))
  obtain ⟨T365, h365, L365, X365, e365, LL365, Kf365, Ef365, Df365, st365⟩ := own_fill X364 hx hls hZ hown hw hT0 hTK hBelow e364 hh (a := a1) (fun y hy => by simp only [List.nil_append, List.append_assoc, List.mem_append, List.mem_cons, List.not_mem_nil, or_false] at hy; rcases hy with rfl | rfl | rfl <;> rfl) f366 f367 f368 f369 rGU f370 (SU.ext (X00.keep K364 (allS g_a1 all0)).2) (g := (mkF m 24 #[.val (.ref a1), .val (.ref xm)] [(.ref a1)])) rfl (by rw [hml]; rfl) rfl rfl (hb hby d42_24) (by decide) (by decide) (by decide) (by decide)
  have Nf365 : Fr n0 L365 := fun y hy => by rw [LL365 y hy]; exact g_a1
  refine Go.st (T' := T365.setTop (mkF m 27 #[.val (.ref a1), .val (.ref xm)] [(.ref a1)])) (fun zt zk => st365 zt zk) ?_
  refine Go.st (T' := T365.setTop (mkF m 28 #[.val (.ref a1), .val (.ref xm)] [])) (fun zt zk => XS.pop X365.here hx rfl (hb hby d42_27) rfl rfl zk) ?_
  refine Go.st (T' := T365.setTop (mkF m 29 #[.val (.ref a1), .val (.ref xm)] [(.ref a1)])) (fun zt zk => XS.aloadN X365.here hx rfl (hb hby d42_28) rfl rfl zk) ?_
  refine Go.st (T' := T365.setTop (mkF m 30 #[.val (.ref a1), .val (.ref xm)] [(.ref xm), (.ref a1)])) (fun zt zk => XS.aloadN X365.here hx rfl (hb hby d42_29) rfl rfl zk) ?_
  obtain ⟨T371, h371, X371, e371, W371, st371⟩ := putF X365 hx hZ hown (host := "") (Or.inl (hw _ (List.mem_of_getElem? (i := 306) rfl))) Via.refl e365 Df365 Ef365 (Or.inl (hw _ (List.mem_of_getElem? (i := 302) rfl))) (hw _ (List.mem_of_getElem? (i := 143) rfl)) (ty := (.object "java/lang/String")) (by decide) rfl rfl (g := (mkF m 30 #[.val (.ref a1), .val (.ref xm)] [(.ref xm), (.ref a1)])) rfl rfl (hb hby d42_30)
  have Fw371 : Fld Z h371 a1 "java/lang/Throwable" "detailMessage" "Ljava/lang/String;" (.ref xm) := Df365.same W371
  have K371 : Keep h0 h371 [a1] := Kf365.wr W371 (Or.inl (List.mem_of_getElem? (i := 0) rfl))
  have N371 := Fr.snoc X371 Nf365 g_a1
  refine Go.st (T' := T371.setTop (mkF m 33 #[.val (.ref a1), .val (.ref xm)] [])) (fun zt zk => st371 zt zk) ?_
  have f372 : Exa Z h371 a1 "com/example/uakari/uakari/UsageException" := (Ef365.wr W371)
  exact Go.done X371 Bd.notSynchronized (v := none) (fun _ => rfl) (fun fs hr => X371.returnOut hx Bd.returns (hb hby d42_33) hr) (by rw [e371]; exact ⟨rfl, N371, K371, f372, Fw371⟩) (by decide) (by decide)
theorem d41_0 : decode jdk_59_method_2_code 0 = .ok (.aload_n 0, 1) := by decide +kernel
theorem d41_1 : decode jdk_59_method_2_code 1 = .ok (.aload_n 1, 1) := by decide +kernel
theorem d41_2 : decode jdk_59_method_2_code 2 = .ok (.invokespecial 7, 3) := by decide +kernel
theorem d41_5 : decode jdk_59_method_2_code 5 = .ok (.return_, 1) := by decide +kernel
theorem pn_b049412 : plainName "java/lang/Exception" = true := by first | (simp [plainName, overriddenIn]; done) | decide +kernel
theorem ef_41 (m : MethodId) (x0 : Addr) (x1 : Addr) : entryFrame m #[(.ref x0), (.ref x1)] 2 = mkF m 0 #[.val (.ref x0), .val (.ref x1)] [] := by first | (simp [entryFrame, mkF, argsToLocals, Value.category]; done) | rfl
def Q_rmEx (Z : State) (a1 xm : Addr) (h0 : Heap) (n0 : Nat) (v : Option Value) (h : Heap) (L : List Loc) : Prop := v = none ∧ Fr n0 L ∧ Keep h0 h [a1] ∧ Exa Z h a1 "com/example/uakari/uakari/UsageException" ∧ Fld Z h a1 "java/lang/Throwable" "detailMessage" "Ljava/lang/String;" (.ref xm)
set_option maxRecDepth 65536 in
set_option maxHeartbeats 40000000 in
theorem rmEx (l : Launch) (Z : State) (a0 : Array Value) (hw : ∀ d ∈ tables_1, d.before a0 Z = true) (a1 xm : Addr) (h0 : Heap) (n0 : Nat) (Z0 : n0 ≤ h0.size) (X00 : Old Z n0 h0) (E1 : Exa Z h0 a1 "com/example/uakari/uakari/UsageException") (g_a1 : n0 ≤ a1) (Un : Unt h0 a1) (F_cause : Fld Z h0 a1 "java/lang/Throwable" "cause" "Ljava/lang/Throwable;" .null) (F_stackTrace : Fld Z h0 a1 "java/lang/Throwable" "stackTrace" "[Ljava/lang/StackTraceElement;" .null) (F_suppressedExceptions : Fld Z h0 a1 "java/lang/Throwable" "suppressedExceptions" "Ljava/util/List;" .null) (F_backtrace : Fld Z h0 a1 "java/lang/Throwable" "backtrace" "Ljava/lang/Object;" .null) (F_detailMessage : Fld Z h0 a1 "java/lang/Throwable" "detailMessage" "Ljava/lang/String;" .null) (hls : l.stackTraces = true) (GU : Value) (SU : Sta Z Z.heap "java/lang/Throwable" "UNASSIGNED_STACK" "[Ljava/lang/StackTraceElement;" GU) (rGU : GU.isRef = true) (GP : Value) (SP : Sta Z Z.heap "java/lang/Throwable" "SUPPRESSED_SENTINEL" "Ljava/util/List;" GP) (rGP : GP.isRef = true) :
    MetFree l (⟨"java/lang/Exception", "<init>", "(Ljava/lang/String;)V"⟩ : MethodName) (head1 [Jvm.Cond.code (⟨"java/lang/Exception", "<init>", "(Ljava/lang/String;)V"⟩ : MethodName) jdk_59_method_2_code 2 none] ({ frames := 4, cells := 1, slots := 2752, locals := 55 } : Room)) (fun a U => a = #[(.ref a1), (.ref xm)] ∧ Z.Warmed39 U.vm ∧ U.heap = h0) (fun _ _ bl s _ => s.vm.MethodsKnown ∧ s.vm.FramesKnown bl) (fun _ U o U' => ∃ v L, o = .returned v ∧ (Q_rmEx Z a1 xm h0 n0) v U'.heap L ∧ FrameEnd U o U' L ({ frames := 4, cells := 1, slots := 2752, locals := 55 } : Room).cells ({ frames := 4, cells := 1, slots := 2752, locals := 55 } : Room).slots) := by
  refine MetFree.of_bodySF (plainFor_of_name pn_b049412) hisR ?_
  intro p e s m args below meth c s₁ Bd hml0 hP hK
  obtain ⟨rfl, hZ, hh⟩ := hP
  have hx := Bd.exec
  have hby := Bd.bytes
  obtain ⟨hTK, hBelow⟩ := hK
  have hml : c.maxLocals = 2 := hml0
  have hown : s.vm.findClass "java/lang/Exception" = some m.cls := findClass_of_methodNamed Bd.named
  have hnm := (name_of_methodNamed Bd.named Bd.method).1
  have X0 : Stand p l e ({ frames := 4, cells := 1, slots := 2752, locals := 55 } : Room) s m #[(.ref a1), (.ref xm)] below meth c s₁ [] 0 0 := Stand.of_body Bd
  have e0 : s₁.heap = h0 := by rw [← hh, Bd.state]; rfl
  have N0 := Fr.nil n0
  have K0 : Keep h0 h0 [a1] := Keep.refl h0 [a1]
  show Go p e below (s₁.setTop (entryFrame m #[(.ref a1), (.ref xm)] 2)) (EndN s (Q_rmEx Z a1 xm h0 n0) ({ frames := 4, cells := 1, slots := 2752, locals := 55 } : Room).cells ({ frames := 4, cells := 1, slots := 2752, locals := 55 } : Room).slots)
  refine Go.top (ef_41 m a1 xm) ?_
  refine Go.st (T' := s₁.setTop (mkF m 1 #[.val (.ref a1), .val (.ref xm)] [(.ref a1)])) (fun zt zk => XS.aloadN X0.here hx rfl (hb hby d41_0) rfl rfl zk) ?_
  refine Go.st (T' := s₁.setTop (mkF m 2 #[.val (.ref a1), .val (.ref xm)] [(.ref xm), (.ref a1)])) (fun zt zk => XS.aloadN X0.here hx rfl (hb hby d41_1) rfl rfl zk) ?_
  obtain ⟨vr373, _, ⟨T373, L373, k373, n373⟩, -, X373, ⟨Lc373, hQ373, l373, y373, z373⟩, st373⟩ := X0.specialBack hx (y := (⟨"java/lang/Throwable", "<init>", "(Ljava/lang/String;)V"⟩ : MethodName)) rfl hown (mvT hZ (hw _ (List.mem_of_getElem? (i := 264) rfl))) (mvT hZ (hw _ (List.mem_of_getElem? (i := 265) rfl))) (mvT hZ (hw _ (List.mem_of_getElem? (i := 269) rfl))) (by decide) (backOfKL (W := 0) (rmTh l Z a0 hw a1 xm h0 n0 Z0 X00 E1 g_a1 Un F_cause F_stackTrace F_suppressedExceptions F_backtrace F_detailMessage hls GU SU rGU GP SP rGP) hZ (hw _ (List.mem_of_getElem? (i := 269) rfl)) (hw _ (List.mem_of_getElem? (i := 268) rfl)) (by decide) (by decide) hTK hBelow) (g := (mkF m 2 #[.val (.ref a1), .val (.ref xm)] [(.ref xm), (.ref a1)])) rfl (by rw [hml]; rfl) (Steps.refl _) (a := a1) (argsL := [(.ref xm)]) (rest := []) (lenOf pd_66cbc1e rfl) rfl (by show 2 * 0 + _ ≤ _; exact Nat.le_of_eq rfl) (hb hby d41_2) (fun _ _ => ⟨rfl, e0, (by decide : 0 + 1 ≤ _), (by decide : 0 + 2752 ≤ _)⟩)
  dsimp only [Pt.U, Pt.locs, Pt.cells, Pt.slots] at X373 l373 y373 z373 st373 hQ373
  subst l373 y373 z373
  obtain ⟨rfl, Nq373, Kq373, Rq373⟩ := hQ373
  have KK374 : Keep h0 T373.heap [a1] := K0.trans Kq373 (allS (Or.inl (List.mem_of_getElem? (i := 0) rfl)) all0)
  have NN375 := Fr.app N0 Nq373
  refine Go.st (T' := T373.setTop (mkF m 5 #[.val (.ref a1), .val (.ref xm)] [])) (fun zt zk => st373.trans zk) ?_
  exact Go.done X373 Bd.notSynchronized (v := none) (fun _ => rfl) (fun fs hr => X373.returnOut hx Bd.returns (hb hby d41_5) hr) (by rw [(rfl : T373.heap = T373.heap)]; exact ⟨rfl, NN375, KK374, Rq373⟩) (by decide) (by decide)
theorem d19_0 : decode prog_3_method_1_code 0 = .ok (.aload_n 0, 1) := by decide +kernel
theorem d19_1 : decode prog_3_method_1_code 1 = .ok (.new 1, 3) := by decide +kernel
theorem d19_4 : decode prog_3_method_1_code 4 = .ok (.dup, 1) := by decide +kernel
theorem d19_5 : decode prog_3_method_1_code 5 = .ok (.invokespecial 3, 3) := by decide +kernel
theorem d19_8 : decode prog_3_method_1_code 8 = .ok (.aload_n 1, 1) := by decide +kernel
theorem d19_9 : decode prog_3_method_1_code 9 = .ok (.invokevirtual 7, 3) := by decide +kernel
theorem d19_12 : decode prog_3_method_1_code 12 = .ok (.ldc 11, 2) := by decide +kernel
theorem d19_14 : decode prog_3_method_1_code 14 = .ok (.invokevirtual 7, 3) := by decide +kernel
theorem d19_17 : decode prog_3_method_1_code 17 = .ok (.aload_n 2, 1) := by decide +kernel
theorem d19_18 : decode prog_3_method_1_code 18 = .ok (.invokevirtual 7, 3) := by decide +kernel
theorem d19_21 : decode prog_3_method_1_code 21 = .ok (.invokevirtual 13, 3) := by decide +kernel
theorem d19_24 : decode prog_3_method_1_code 24 = .ok (.invokespecial 17, 3) := by decide +kernel
theorem d19_27 : decode prog_3_method_1_code 27 = .ok (.return_, 1) := by decide +kernel
theorem pn_fe45852 : plainName "com/example/uakari/uakari/UsageException" = true := by first | (simp [plainName, overriddenIn]; done) | decide +kernel
theorem pd_b26cbb4 : parseMethodDescriptor "(Ljava/lang/String;)Ljava/lang/StringBuilder;" = some ⟨[(.object "java/lang/String")], some (.object "java/lang/StringBuilder")⟩ := by decide +kernel
theorem pd_f95a757 : parseMethodDescriptor "()Ljava/lang/String;" = some ⟨[], some (.object "java/lang/String")⟩ := by decide +kernel
theorem ef_19 (m : MethodId) (x0 : Addr) (x1 : Addr) (x2 : Addr) : entryFrame m #[(.ref x0), (.ref x1), (.ref x2)] 3 = mkF m 0 #[.val (.ref x0), .val (.ref x1), .val (.ref x2)] [] := by first | (simp [entryFrame, mkF, argsToLocals, Value.category]; done) | rfl
def Q_rmUE (Z : State) (a1 xp tp xu tu : Addr) (kp ku : ClassId) (ss us : List Int32) (h0 : Heap) (n0 : Nat) (v : Option Value) (h : Heap) (L : List Loc) : Prop := v = none ∧ Fr n0 L ∧ Keep h0 h [a1] ∧ Exa Z h a1 "com/example/uakari/uakari/UsageException" ∧ ∃ (xm tm : Addr) (km : ClassId), Fld Z h a1 "java/lang/Throwable" "detailMessage" "Ljava/lang/String;" (.ref xm) ∧ Exa Z h xm "java/lang/String" ∧ Fld Z h xm "java/lang/String" "coder" "B" (.int (0 : Int32)) ∧ Fld Z h xm "java/lang/String" "value" "[B" (.ref tm) ∧ Arv Z h tm km .byte (Int32.ofNat (ss ++ own_U ++ us).length) (((ss ++ own_U ++ us).map (fun c => c.toInt8.toInt32)).map Value.int) (.int (0 : Int32))
set_option maxRecDepth 65536 in
set_option maxHeartbeats 40000000 in
theorem rmUE (l : Launch) (Z : State) (a0 : Array Value) (hw : ∀ d ∈ tables_1, d.before a0 Z = true) (a1 xp tp xu tu : Addr) (kp ku : ClassId) (ss us : List Int32) (h0 : Heap) (n0 : Nat) (Z0 : n0 ≤ h0.size) (G1 : Int32) (O2 : Sta Z Z.heap "java/lang/String" "COMPACT_STRINGS" "Z" (.int G1)) (P5 : ¬ (G1 = (0 : Int32))) (X00 : Old Z n0 h0) (E1 : Exa Z h0 a1 "com/example/uakari/uakari/UsageException") (g_a1 : n0 ≤ a1) (Un : Unt h0 a1) (F_cause : Fld Z h0 a1 "java/lang/Throwable" "cause" "Ljava/lang/Throwable;" .null) (F_stackTrace : Fld Z h0 a1 "java/lang/Throwable" "stackTrace" "[Ljava/lang/StackTraceElement;" .null) (F_suppressedExceptions : Fld Z h0 a1 "java/lang/Throwable" "suppressedExceptions" "Ljava/util/List;" .null) (F_backtrace : Fld Z h0 a1 "java/lang/Throwable" "backtrace" "Ljava/lang/Object;" .null) (F_detailMessage : Fld Z h0 a1 "java/lang/Throwable" "detailMessage" "Ljava/lang/String;" .null) (Ep : Exa Z h0 xp "java/lang/String") (Vp : Fld Z h0 xp "java/lang/String" "value" "[B" (.ref tp)) (Cp : Fld Z h0 xp "java/lang/String" "coder" "B" (.int (0 : Int32))) (Bp : Arv Z h0 tp kp .byte (Int32.ofNat (ss).length) (((ss).map (fun c => c.toInt8.toInt32)).map Value.int) (.int (0 : Int32))) (hpp : ∀ c ∈ ss, ¬ c < 0 ∧ ¬ (255 : Int32) < c) (Eu : Exa Z h0 xu "java/lang/String") (Vu : Fld Z h0 xu "java/lang/String" "value" "[B" (.ref tu)) (Cu : Fld Z h0 xu "java/lang/String" "coder" "B" (.int (0 : Int32))) (Bu : Arv Z h0 tu ku .byte (Int32.ofNat (us).length) (((us).map (fun c => c.toInt8.toInt32)).map Value.int) (.int (0 : Int32))) (hpu : ∀ c ∈ us, ¬ c < 0 ∧ ¬ (255 : Int32) < c) (hlp : ss.length ≤ 2) (hlu : us.length ≤ 2) (na : a1 ≠ xp ∧ a1 ≠ tp ∧ a1 ≠ xu ∧ a1 ≠ tu) (hEL : EW Z a0 EL) (wS : ∀ a ∈ Bundle.stringAtoms, a.before a0 Z = true) (hls : l.stackTraces = true) (GU : Value) (SU : Sta Z Z.heap "java/lang/Throwable" "UNASSIGNED_STACK" "[Ljava/lang/StackTraceElement;" GU) (rGU : GU.isRef = true) (GP : Value) (SP : Sta Z Z.heap "java/lang/Throwable" "SUPPRESSED_SENTINEL" "Ljava/util/List;" GP) (rGP : GP.isRef = true) :
    MetFree l (⟨"com/example/uakari/uakari/UsageException", "<init>", "(Ljava/lang/String;Ljava/lang/String;)V"⟩ : MethodName) (head1 [Jvm.Cond.code (⟨"com/example/uakari/uakari/UsageException", "<init>", "(Ljava/lang/String;Ljava/lang/String;)V"⟩ : MethodName) prog_3_method_1_code 3 none] ({ frames := 6, cells := 7, slots := 2829, locals := 92 } : Room)) (fun a U => a = #[(.ref a1), (.ref xp), (.ref xu)] ∧ Z.Warmed39 U.vm ∧ U.heap = h0 ∧ CHv Z EL U.vm h0) (fun _ _ bl s _ => s.vm.MethodsKnown ∧ s.vm.FramesKnown bl) (fun _ U o U' => ∃ v L, o = .returned v ∧ (Q_rmUE Z a1 xp tp xu tu kp ku ss us h0 n0) v U'.heap L ∧ CHr Z EL U.vm U.heap U'.vm U'.heap ∧ ReturnedEndW U o U' L ({ frames := 6, cells := 7, slots := 2829, locals := 92 } : Room).cells ({ frames := 6, cells := 7, slots := 2829, locals := 92 } : Room).slots) := by
  refine MetFree.of_bodySF (plainFor_of_name pn_fe45852) hisR ?_
  intro p e s m args below meth c s₁ Bd hml0 hP hK
  obtain ⟨rfl, hZ, hh, hCH⟩ := hP
  have hx := Bd.exec
  have hby := Bd.bytes
  obtain ⟨hTK, hBelow⟩ := hK
  have hml : c.maxLocals = 3 := hml0
  have hown : s.vm.findClass "com/example/uakari/uakari/UsageException" = some m.cls := findClass_of_methodNamed Bd.named
  have hnm := (name_of_methodNamed Bd.named Bd.method).1
  have X0 : Stand p l e ({ frames := 6, cells := 7, slots := 2829, locals := 92 } : Room) s m #[(.ref a1), (.ref xp), (.ref xu)] below meth c s₁ [] 0 0 := Stand.of_body Bd
  have e0 : s₁.heap = h0 := by rw [← hh, Bd.state]; rfl
  have N0 := Fr.nil n0
  have K0 : Keep h0 h0 [a1] := Keep.refl h0 [a1]
  have X0h : Stand p l e ({ frames := 6, cells := 7, slots := 2829, locals := 92 } : Room) (s.setVm s.vm) m #[(.ref a1), (.ref xp), (.ref xu)] below meth c s₁ [] 0 0 := X0
  have hZh : Z.Warmed39 (s.setVm s.vm).vm := hZ
  have hownh : (s.setVm s.vm).vm.findClass "com/example/uakari/uakari/UsageException" = some m.cls := hown
  have hS0 : s.Since s.vm 0 := (State.WarmedH.refl s).since 0
  have C0 : CHr Z EL s.vm h0 s.vm h0 := CHr.refl hCH
  show Go p e below (s₁.setTop (entryFrame m #[(.ref a1), (.ref xp), (.ref xu)] 3)) (EndH Z EL s (Q_rmUE Z a1 xp tp xu tu kp ku ss us h0 n0) ({ frames := 6, cells := 7, slots := 2829, locals := 92 } : Room).cells ({ frames := 6, cells := 7, slots := 2829, locals := 92 } : Room).slots)
  refine Go.top (ef_19 m a1 xp xu) ?_
  refine Go.st (T' := s₁.setTop (mkF m 1 #[.val (.ref a1), .val (.ref xp), .val (.ref xu)] [(.ref a1)])) (fun zt zk => XS.aloadN X0h.here hx rfl (hb hby d19_0) rfl rfl zk) ?_
  obtain ⟨T376, h376, X376, e376, E376, A376, D376, U376, st376⟩ := newO X0h hx hZh hownh (hw _ (List.mem_of_getElem? (i := 148) rfl)) (hw _ (List.mem_of_getElem? (i := 149) rfl)) (hw _ (List.mem_of_getElem? (i := 150) rfl)) e0 (g := (mkF m 1 #[.val (.ref a1), .val (.ref xp), .val (.ref xu)] [(.ref a1)])) rfl (hb hby d19_1) (by decide) (by decide)
  obtain ⟨b376, g376⟩ : ∃ z, z = h0.size := ⟨_, rfl⟩
  rw [← g376] at A376 D376 U376 st376
  have g_b376 : n0 ≤ b376 := Nat.le_trans (Nat.le_trans Z0 K0.1) (Nat.le_of_eq g376.symm)
  have sz_b376 : h0.size ≤ b376 := Nat.le_trans K0.1 (Nat.le_of_eq g376.symm)
  have ne377 : a1 ≠ b376 := Nat.ne_of_lt (Nat.lt_of_lt_of_le E1.lt (Nat.le_of_eq g376.symm))
  have ne378 : xp ≠ b376 := Nat.ne_of_lt (Nat.lt_of_lt_of_le Ep.lt (Nat.le_of_eq g376.symm))
  have ne379 : tp ≠ b376 := Nat.ne_of_lt (Nat.lt_of_lt_of_le Bp.lt (Nat.le_of_eq g376.symm))
  have ne380 : xu ≠ b376 := Nat.ne_of_lt (Nat.lt_of_lt_of_le Eu.lt (Nat.le_of_eq g376.symm))
  have ne381 : tu ≠ b376 := Nat.ne_of_lt (Nat.lt_of_lt_of_le Bu.lt (Nat.le_of_eq g376.symm))
  have C382 : CHr Z EL s.vm h0 s.vm h376 := C0.trans (CHr.ext E376 C0.1)
  have K376 : Keep h0 h376 [a1] := K0.ext E376
  have Fn376_value : Fld Z h376 b376 "java/lang/AbstractStringBuilder" "value" "[B" .null := D376 (Or.inl (hw _ (List.mem_of_getElem? (i := 163) rfl))) (ty := (.array .byte)) (by decide)
  have Fn376_coder : Fld Z h376 b376 "java/lang/AbstractStringBuilder" "coder" "B" (.int (0 : Int32)) := D376 (Or.inl (hw _ (List.mem_of_getElem? (i := 165) rfl))) (ty := .byte) (by decide)
  have Fn376_count : Fld Z h376 b376 "java/lang/AbstractStringBuilder" "count" "I" (.int (0 : Int32)) := D376 (Or.inl (hw _ (List.mem_of_getElem? (i := 187) rfl))) (ty := .int) (by decide)
  refine Go.st (T' := T376.setTop (mkF m 4 #[.val (.ref a1), .val (.ref xp), .val (.ref xu)] [(.ref b376), (.ref a1)])) (fun zt zk => st376 zt zk) ?_
  refine Go.st (T' := T376.setTop (mkF m 5 #[.val (.ref a1), .val (.ref xp), .val (.ref xu)] [(.ref b376), (.ref b376), (.ref a1)])) (fun zt zk => XS.dup X376.here hx rfl (hb hby d19_4) rfl rfl zk) ?_
  have f383 : Exa Z h376 a1 "com/example/uakari/uakari/UsageException" := (E1.ext E376)
  have f384 : Exa Z h376 xp "java/lang/String" := (Ep.ext E376)
  have f385 : Arv Z h376 tp kp .byte (Int32.ofNat (ss).length) (((ss).map (fun c => c.toInt8.toInt32)).map Value.int) (.int (0 : Int32)) := (Bp.ext E376)
  have f386 : Exa Z h376 xu "java/lang/String" := (Eu.ext E376)
  have f387 : Arv Z h376 tu ku .byte (Int32.ofNat (us).length) (((us).map (fun c => c.toInt8.toInt32)).map Value.int) (.int (0 : Int32)) := (Bu.ext E376)
  obtain ⟨vr388, _, ⟨T388, L388, k388, n388⟩, -, X388, ⟨Lc388, hQ388, l388, y388, z388⟩, st388⟩ := X376.specialBack hx (y := (⟨"java/lang/StringBuilder", "<init>", "()V"⟩ : MethodName)) rfl hownh (mvT hZh (hw _ (List.mem_of_getElem? (i := 151) rfl))) (mvT hZh (hw _ (List.mem_of_getElem? (i := 152) rfl))) (mvT hZh (hw _ (List.mem_of_getElem? (i := 153) rfl))) (by decide) (backOf (W := 2) (rmSBi l Z a0 hw b376 h376 n0 (Nat.le_trans Z0 K376.1) G1 O2 P5 (X00.keep K376 (allS g_a1 all0)) A376 g_b376 Fn376_value Fn376_coder Fn376_count) hZh (hw _ (List.mem_of_getElem? (i := 153) rfl)) (hw _ (List.mem_of_getElem? (i := 150) rfl)) (by decide) (by decide)) (g := (mkF m 5 #[.val (.ref a1), .val (.ref xp), .val (.ref xu)] [(.ref b376), (.ref b376), (.ref a1)])) rfl (by rw [hml]; rfl) (Steps.refl _) (a := b376) (argsL := []) (rest := [(.ref b376), (.ref a1)]) (lenOf pd_a8eb9 rfl) rfl (by show 2 * 0 + _ ≤ _; exact Nat.le_of_eq rfl) (hb hby d19_5) (fun _ _ => ⟨rfl, e376, (by decide : 1 + 1 ≤ _), (by decide : 4 + 16 ≤ _)⟩)
  dsimp only [Pt.U, Pt.locs, Pt.cells, Pt.slots] at X388 l388 y388 z388 st388 hQ388
  subst l388 y388 z388
  obtain ⟨rfl, Nq388, Kq388, Eq388, va388, kv388, szv388, Fv388, Fc388, Fn388, Bv388⟩ := hQ388
  have g_va388 : n0 ≤ va388 := Nat.le_trans (Nat.le_trans Z0 K376.1) szv388
  have sz_va388 : h0.size ≤ va388 := Nat.le_trans K376.1 szv388
  have ne_a1_va388 : a1 ≠ va388 := Nat.ne_of_lt (Nat.lt_of_lt_of_le f383.lt szv388)
  have ne_xp_va388 : xp ≠ va388 := Nat.ne_of_lt (Nat.lt_of_lt_of_le f384.lt szv388)
  have ne_tp_va388 : tp ≠ va388 := Nat.ne_of_lt (Nat.lt_of_lt_of_le f385.lt szv388)
  have ne_xu_va388 : xu ≠ va388 := Nat.ne_of_lt (Nat.lt_of_lt_of_le f386.lt szv388)
  have ne_tu_va388 : tu ≠ va388 := Nat.ne_of_lt (Nat.lt_of_lt_of_le f387.lt szv388)
  have ne_b376_va388 : b376 ≠ va388 := Nat.ne_of_lt (Nat.lt_of_lt_of_le A376.lt szv388)
  have C389 : CHr Z EL s.vm h0 s.vm T388.heap := C382.trans (CHr.keep Kq388 (allS (Safe.exa hZh.alike A376 (by decide) (by decide)) all0) C382.1)
  have KK390 : Keep h0 T388.heap [a1] := K376.trans Kq388 (allS (Or.inr sz_b376) all0)
  have NN391 := Fr.app N0 Nq388
  have SV388 : Safe Z EL s.vm T388.heap va388 := Safe.keep Kq388 (allS (Safe.exa hZh.alike A376 (by decide) (by decide)) all0) C382.1 (Safe.new szv388)
  refine Go.st (T' := T388.setTop (mkF m 8 #[.val (.ref a1), .val (.ref xp), .val (.ref xu)] [(.ref b376), (.ref a1)])) (fun zt zk => st388.trans zk) ?_
  refine Go.st (T' := T388.setTop (mkF m 9 #[.val (.ref a1), .val (.ref xp), .val (.ref xu)] [(.ref xp), (.ref b376), (.ref a1)])) (fun zt zk => XS.aloadN X388.here hx rfl (hb hby d19_8) rfl rfl zk) ?_
  have f392 : Exa Z T388.heap xp "java/lang/String" := (f384.keep Kq388)
  have f393 : Fld Z T388.heap xp "java/lang/String" "value" "[B" (.ref tp) := ((Vp.ext E376).keep Kq388 (ninS ne378 nin0))
  have f394 : Fld Z T388.heap xp "java/lang/String" "coder" "B" (.int (0 : Int32)) := ((Cp.ext E376).keep Kq388 (ninS ne378 nin0))
  have f395 : Arv Z T388.heap tp kp .byte (Int32.ofNat (ss).length) (((ss).map (fun c => c.toInt8.toInt32)).map Value.int) (.int (0 : Int32)) := (f385.keep Kq388 (ninS ne379 nin0))
  obtain ⟨cq396, kq396, q396a, q396b, q396c⟩ := isOf hZh rfl Eq388
  obtain ⟨vr396, _, ⟨T396, L396, k396, n396⟩, -, X396, ⟨Lc396, hQ396, l396, y396, z396⟩, st396⟩ := X388.virtualBack hx (y := (⟨"java/lang/StringBuilder", "append", "(Ljava/lang/String;)Ljava/lang/StringBuilder;"⟩ : MethodName)) (z := (⟨"java/lang/StringBuilder", "append", "(Ljava/lang/String;)Ljava/lang/StringBuilder;"⟩ : MethodName)) hownh (mvT hZh (hw _ (List.mem_of_getElem? (i := 166) rfl))) (mvT hZh (hw _ (List.mem_of_getElem? (i := 167) rfl))) (notFace_of_selects (args := #[]) (mvT hZh (hw _ (List.mem_of_getElem? (i := 169) rfl)))) (mvT hZh (hw _ (List.mem_of_getElem? (i := 169) rfl))) (mvT hZh (hw _ (List.mem_of_getElem? (i := 168) rfl))) (by decide) (backOf (W := 1) (rmApp l Z a0 hw b376 xp tp va388 kp kv388 ([] : List Int32) ss T388.heap n0 (Nat.le_trans Z0 KK390.1) G1 O2 P5 (X00.keep KK390 (allS g_a1 all0)) Eq388 Fv388 Fc388 Fn388 Bv388 f392 f393 f394 f395 hpp g_va388 (by simp only [List.length_append, List.length_nil]; first | omega | (show _ + 9 ≤ 16; omega) | (show _ + 9 + _ ≤ 16; omega)) g_b376 ne_b376_va388) hZh (hw _ (List.mem_of_getElem? (i := 170) rfl)) (hw _ (List.mem_of_getElem? (i := 150) rfl)) (by decide) (by decide)) q396a q396c (g := (mkF m 9 #[.val (.ref a1), .val (.ref xp), .val (.ref xu)] [(.ref xp), (.ref b376), (.ref a1)])) rfl (by rw [hml]; rfl) (Steps.refl _) (argsL := [(.ref xp)]) (rest := [(.ref a1)]) (lenOf pd_b26cbb4 rfl) rfl (by show 2 * 0 + _ ≤ _; exact Nat.le_of_eq rfl) (hb hby d19_9) (fun _ _ => ⟨rfl, rfl, (by decide : 2 + 0 ≤ _), (by decide : 20 + 0 ≤ _)⟩)
  dsimp only [Pt.U, Pt.locs, Pt.cells, Pt.slots] at X396 l396 y396 z396 st396 hQ396
  subst l396 y396 z396
  obtain ⟨rfl, Nq396, Kq396, Eq396, Fv396, Fc396, Fn396, Bv396⟩ := hQ396
  have C397 : CHr Z EL s.vm h0 s.vm T396.heap := C389.trans (CHr.keep Kq396 (allS (Safe.exa hZh.alike Eq388 (by decide) (by decide)) (allS SV388 all0)) C389.1)
  have KK398 : Keep h0 T396.heap [a1] := KK390.trans Kq396 (allS (Or.inr sz_b376) (allS (Or.inr sz_va388) all0))
  have NN399 := Fr.app NN391 Nq396
  have SV396 : Safe Z EL s.vm T396.heap va388 := Safe.keep Kq396 (allS (Safe.exa hZh.alike Eq388 (by decide) (by decide)) (allS SV388 all0)) C389.1 SV388
  refine Go.st (T' := T396.setTop (mkF m 12 #[.val (.ref a1), .val (.ref xp), .val (.ref xu)] [(.ref b376), (.ref a1)])) (fun zt zk => st396.trans zk) ?_
  obtain ⟨a400, T400, h400, kS400, b400, kb400, X400, e400, E400, hS400, hk400, hZ400, ho400, EA400, CA400, VA400, BA400, lta400, ltb400, CC400, LA400, SF400, st400⟩ := ldcCH (s := s) (vm0 := s.vm) (EL := EL) X396 hx hZh hownh (hw _ (List.mem_of_getElem? (i := 213) rfl)) wS rfl hS0 (Nat.zero_le _) hEL (List.mem_of_getElem? (i := 1) rfl) C397.1 (vs := [(.int (59 : Int32)), (.int (32 : Int32)), (.int (117 : Int32)), (.int (115 : Int32)), (.int (97 : Int32)), (.int (103 : Int32)), (.int (101 : Int32)), (.int (58 : Int32)), (.int (32 : Int32))]) (z := (9 : Int32)) ⟨by decide, rfl⟩ (by decide) (by decide) (g := (mkF m 12 #[.val (.ref a1), .val (.ref xp), .val (.ref xu)] [(.ref b376), (.ref a1)])) rfl (hb hby d19_12) (n := 36) (by decide) (by decide) (by decide) (by decide)
  have K400 : Keep h0 h400 [a1] := KK398.ext E400
  have C401 : CHr Z EL s.vm h0 T400.vm h400 := C397.trans CC400
  refine Go.st (T' := T400.setTop (mkF m 14 #[.val (.ref a1), .val (.ref xp), .val (.ref xu)] [(.ref a400), (.ref b376), (.ref a1)])) (fun zt zk => st400 zt zk) ?_
  have SV400 : Safe Z EL T400.vm h400 va388 := CC400.safe Bv396.lt SV396
  obtain ⟨nva, nvb⟩ := SF400 va388 SV400
  have f402 : Exa Z h400 b376 "java/lang/StringBuilder" := (Eq396.ext E400)
  have SB400 : Safe Z EL T400.vm h400 b376 := (Safe.exa hZ400.alike f402 (by decide) (by decide))
  obtain ⟨nba, nbb⟩ := SF400 b376 SB400
  have f403 : Fld Z h400 b376 "java/lang/AbstractStringBuilder" "value" "[B" (.ref va388) := (Fv396.ext E400)
  have f404 : Fld Z h400 b376 "java/lang/AbstractStringBuilder" "coder" "B" (.int (0 : Int32)) := (Fc396.ext E400)
  have f405 : Fld Z h400 b376 "java/lang/AbstractStringBuilder" "count" "I" (.int (Int32.ofNat (([] : List Int32) ++ ss).length)) := (Fn396.ext E400)
  have f406 : Arv Z h400 va388 kv388 .byte (16 : Int32) (own_buf (([] : List Int32) ++ ss)) (.int (0 : Int32)) := (Bv396.ext E400)
  obtain ⟨cq407, kq407, q407a, q407b, q407c⟩ := isOf hZ400 e400 f402
  obtain ⟨vr407, _, ⟨T407, L407, k407, n407⟩, -, X407, ⟨Lc407, hQ407, l407, y407, z407⟩, st407⟩ := X400.virtualBack hx (y := (⟨"java/lang/StringBuilder", "append", "(Ljava/lang/String;)Ljava/lang/StringBuilder;"⟩ : MethodName)) (z := (⟨"java/lang/StringBuilder", "append", "(Ljava/lang/String;)Ljava/lang/StringBuilder;"⟩ : MethodName)) ho400 (mvT hZ400 (hw _ (List.mem_of_getElem? (i := 166) rfl))) (mvT hZ400 (hw _ (List.mem_of_getElem? (i := 167) rfl))) (notFace_of_selects (args := #[]) (mvT hZ400 (hw _ (List.mem_of_getElem? (i := 169) rfl)))) (mvT hZ400 (hw _ (List.mem_of_getElem? (i := 169) rfl))) (mvT hZ400 (hw _ (List.mem_of_getElem? (i := 168) rfl))) (by decide) (backOf (W := 1) (rmApp l Z a0 hw b376 a400 b400 va388 kb400 kv388 (([] : List Int32) ++ ss) own_U h400 n0 (Nat.le_trans Z0 K400.1) G1 O2 P5 (X00.keep K400 (allS g_a1 all0)) f402 f403 f404 f405 f406 EA400 VA400 CA400 BA400 own_upU g_va388 (by simp only [List.length_append, List.length_nil]; first | omega | (show _ + 9 ≤ 16; omega) | (show _ + 9 + _ ≤ 16; omega)) g_b376 ne_b376_va388) hZ400 (hw _ (List.mem_of_getElem? (i := 170) rfl)) (hw _ (List.mem_of_getElem? (i := 150) rfl)) (by decide) (by decide)) q407a q407c (g := (mkF m 14 #[.val (.ref a1), .val (.ref xp), .val (.ref xu)] [(.ref a400), (.ref b376), (.ref a1)])) rfl (by rw [hml]; rfl) (Steps.refl _) (argsL := [(.ref a400)]) (rest := [(.ref a1)]) (lenOf pd_b26cbb4 rfl) rfl (by show 2 * 0 + _ ≤ _; exact Nat.le_of_eq rfl) (hb hby d19_14) (fun _ _ => ⟨rfl, e400, (by decide : 4 + 0 ≤ _), (by decide : 60 + 0 ≤ _)⟩)
  dsimp only [Pt.U, Pt.locs, Pt.cells, Pt.slots] at X407 l407 y407 z407 st407 hQ407
  subst l407 y407 z407
  obtain ⟨rfl, Nq407, Kq407, Eq407, Fv407, Fc407, Fn407, Bv407⟩ := hQ407
  have C408 : CHr Z EL s.vm h0 T400.vm T407.heap := C401.trans (CHr.keep Kq407 (allS (Safe.exa hZ400.alike f402 (by decide) (by decide)) (allS SV400 all0)) C401.1)
  have KK409 : Keep h0 T407.heap [a1] := K400.trans Kq407 (allS (Or.inr sz_b376) (allS (Or.inr sz_va388) all0))
  have NN410 := Fr.app NN399 Nq407
  have SV407 : Safe Z EL T400.vm T407.heap va388 := Safe.keep Kq407 (allS (Safe.exa hZ400.alike f402 (by decide) (by decide)) (allS SV400 all0)) C401.1 SV400
  refine Go.st (T' := T407.setTop (mkF m 17 #[.val (.ref a1), .val (.ref xp), .val (.ref xu)] [(.ref b376), (.ref a1)])) (fun zt zk => st407.trans zk) ?_
  refine Go.st (T' := T407.setTop (mkF m 18 #[.val (.ref a1), .val (.ref xp), .val (.ref xu)] [(.ref xu), (.ref b376), (.ref a1)])) (fun zt zk => XS.aloadN X407.here hx rfl (hb hby d19_17) rfl rfl zk) ?_
  have f411 : Exa Z T407.heap xu "java/lang/String" := ((((f386.keep Kq388).keep Kq396).ext E400).keep Kq407)
  have f412 : Fld Z T407.heap xu "java/lang/String" "value" "[B" (.ref tu) := (((((Vu.ext E376).keep Kq388 (ninS ne380 nin0)).keep Kq396 (ninS ne380 (ninS ne_xu_va388 nin0))).ext E400).keep Kq407 (ninS ne380 (ninS ne_xu_va388 nin0)))
  have f413 : Fld Z T407.heap xu "java/lang/String" "coder" "B" (.int (0 : Int32)) := (((((Cu.ext E376).keep Kq388 (ninS ne380 nin0)).keep Kq396 (ninS ne380 (ninS ne_xu_va388 nin0))).ext E400).keep Kq407 (ninS ne380 (ninS ne_xu_va388 nin0)))
  have f414 : Arv Z T407.heap tu ku .byte (Int32.ofNat (us).length) (((us).map (fun c => c.toInt8.toInt32)).map Value.int) (.int (0 : Int32)) := ((((f387.keep Kq388 (ninS ne381 nin0)).keep Kq396 (ninS ne381 (ninS ne_tu_va388 nin0))).ext E400).keep Kq407 (ninS ne381 (ninS ne_tu_va388 nin0)))
  obtain ⟨cq415, kq415, q415a, q415b, q415c⟩ := isOf hZ400 rfl Eq407
  obtain ⟨vr415, _, ⟨T415, L415, k415, n415⟩, -, X415, ⟨Lc415, hQ415, l415, y415, z415⟩, st415⟩ := X407.virtualBack hx (y := (⟨"java/lang/StringBuilder", "append", "(Ljava/lang/String;)Ljava/lang/StringBuilder;"⟩ : MethodName)) (z := (⟨"java/lang/StringBuilder", "append", "(Ljava/lang/String;)Ljava/lang/StringBuilder;"⟩ : MethodName)) ho400 (mvT hZ400 (hw _ (List.mem_of_getElem? (i := 166) rfl))) (mvT hZ400 (hw _ (List.mem_of_getElem? (i := 167) rfl))) (notFace_of_selects (args := #[]) (mvT hZ400 (hw _ (List.mem_of_getElem? (i := 169) rfl)))) (mvT hZ400 (hw _ (List.mem_of_getElem? (i := 169) rfl))) (mvT hZ400 (hw _ (List.mem_of_getElem? (i := 168) rfl))) (by decide) (backOf (W := 1) (rmApp l Z a0 hw b376 xu tu va388 ku kv388 ((([] : List Int32) ++ ss) ++ own_U) us T407.heap n0 (Nat.le_trans Z0 KK409.1) G1 O2 P5 (X00.keep KK409 (allS g_a1 all0)) Eq407 Fv407 Fc407 Fn407 Bv407 f411 f412 f413 f414 hpu g_va388 (by simp only [List.length_append, List.length_nil]; first | omega | (show _ + 9 ≤ 16; omega) | (show _ + 9 + _ ≤ 16; omega)) g_b376 ne_b376_va388) hZ400 (hw _ (List.mem_of_getElem? (i := 170) rfl)) (hw _ (List.mem_of_getElem? (i := 150) rfl)) (by decide) (by decide)) q415a q415c (g := (mkF m 18 #[.val (.ref a1), .val (.ref xp), .val (.ref xu)] [(.ref xu), (.ref b376), (.ref a1)])) rfl (by rw [hml]; rfl) (Steps.refl _) (argsL := [(.ref xu)]) (rest := [(.ref a1)]) (lenOf pd_b26cbb4 rfl) rfl (by show 2 * 0 + _ ≤ _; exact Nat.le_of_eq rfl) (hb hby d19_18) (fun _ _ => ⟨rfl, rfl, (by decide : 4 + 0 ≤ _), (by decide : 60 + 0 ≤ _)⟩)
  dsimp only [Pt.U, Pt.locs, Pt.cells, Pt.slots] at X415 l415 y415 z415 st415 hQ415
  subst l415 y415 z415
  obtain ⟨rfl, Nq415, Kq415, Eq415, Fv415, Fc415, Fn415, Bv415⟩ := hQ415
  have C416 : CHr Z EL s.vm h0 T400.vm T415.heap := C408.trans (CHr.keep Kq415 (allS (Safe.exa hZ400.alike Eq407 (by decide) (by decide)) (allS SV407 all0)) C408.1)
  have KK417 : Keep h0 T415.heap [a1] := KK409.trans Kq415 (allS (Or.inr sz_b376) (allS (Or.inr sz_va388) all0))
  have NN418 := Fr.app NN410 Nq415
  have SV415 : Safe Z EL T400.vm T415.heap va388 := Safe.keep Kq415 (allS (Safe.exa hZ400.alike Eq407 (by decide) (by decide)) (allS SV407 all0)) C408.1 SV407
  refine Go.st (T' := T415.setTop (mkF m 21 #[.val (.ref a1), .val (.ref xp), .val (.ref xu)] [(.ref b376), (.ref a1)])) (fun zt zk => st415.trans zk) ?_
  have f419 : Exa Z T415.heap a1 "com/example/uakari/uakari/UsageException" := (((((f383.keep Kq388).keep Kq396).ext E400).keep Kq407).keep Kq415)
  obtain ⟨cq420, kq420, q420a, q420b, q420c⟩ := isOf hZ400 rfl Eq415
  obtain ⟨vr420, _, ⟨T420, L420, k420, n420⟩, -, X420, ⟨Lc420, hQ420, l420, y420, z420⟩, st420⟩ := X415.virtualBack hx (y := (⟨"java/lang/StringBuilder", "toString", "()Ljava/lang/String;"⟩ : MethodName)) (z := (⟨"java/lang/StringBuilder", "toString", "()Ljava/lang/String;"⟩ : MethodName)) ho400 (mvT hZ400 (hw _ (List.mem_of_getElem? (i := 214) rfl))) (mvT hZ400 (hw _ (List.mem_of_getElem? (i := 215) rfl))) (notFace_of_selects (args := #[]) (mvT hZ400 (hw _ (List.mem_of_getElem? (i := 217) rfl)))) (mvT hZ400 (hw _ (List.mem_of_getElem? (i := 217) rfl))) (mvT hZ400 (hw _ (List.mem_of_getElem? (i := 216) rfl))) (by decide) (backOf (W := 1) (rmTS l Z a0 hw b376 va388 kv388 (((([] : List Int32) ++ ss) ++ own_U) ++ us) T415.heap n0 (Nat.le_trans Z0 KK417.1) G1 O2 P5 (X00.keep KK417 (allS g_a1 all0)) Eq415 Fv415 Fc415 Fn415 Bv415 (by simp only [List.length_append, List.length_nil]; show _ + 9 + _ ≤ 13; omega)) hZ400 (hw _ (List.mem_of_getElem? (i := 218) rfl)) (hw _ (List.mem_of_getElem? (i := 150) rfl)) (by decide) (by decide)) q420a q420c (g := (mkF m 21 #[.val (.ref a1), .val (.ref xp), .val (.ref xu)] [(.ref b376), (.ref a1)])) rfl (by rw [hml]; rfl) (Steps.refl _) (argsL := []) (rest := [(.ref a1)]) (lenOf pd_f95a757 rfl) rfl (by show 2 * 0 + _ ≤ _; exact Nat.le_of_eq rfl) (hb hby d19_21) (fun _ _ => ⟨rfl, rfl, (by decide : 4 + 2 ≤ _), (by decide : 60 + 17 ≤ _)⟩)
  dsimp only [Pt.U, Pt.locs, Pt.cells, Pt.slots] at X420 l420 y420 z420 st420 hQ420
  subst l420 y420 z420
  obtain ⟨Nq420, Kq420, Rq420⟩ := hQ420
  obtain ⟨xm, tm, km, hv420, Em, Cm, Vxm, Bm⟩ := Rq420
  subst hv420
  have C421 : CHr Z EL s.vm h0 T400.vm T420.heap := C416.trans (CHr.keep Kq420 all0 C416.1)
  have KK422 : Keep h0 T420.heap [a1] := KK417.trans Kq420 all0
  have NN423 := Fr.app NN418 Nq420
  refine Go.st (T' := T420.setTop (mkF m 24 #[.val (.ref a1), .val (.ref xp), .val (.ref xu)] [(.ref xm), (.ref a1)])) (fun zt zk => st420.trans zk) ?_
  have f424 : Exa Z T420.heap a1 "com/example/uakari/uakari/UsageException" := (f419.keep Kq420)
  have nam : a1 ≠ xm := ne_exa f424 Em (by decide)
  have nat : a1 ≠ tm := Exa.neArv f424 Bm (hw _ (List.mem_of_getElem? (i := 143) rfl))
  have f425 : Unt T420.heap a1 := (Unt.keep Kq420 nin0 (Unt.keep Kq415 (ninS ne377 (ninS ne_a1_va388 nin0)) (Unt.keep Kq407 (ninS ne377 (ninS ne_a1_va388 nin0)) ((Unt.keep Kq396 (ninS ne377 (ninS ne_a1_va388 nin0)) (Unt.keep Kq388 (ninS ne377 nin0) (Un.ext E376))).ext E400))))
  have f426 : Fld Z T420.heap a1 "java/lang/Throwable" "cause" "Ljava/lang/Throwable;" .null := (((((((F_cause.ext E376).keep Kq388 (ninS ne377 nin0)).keep Kq396 (ninS ne377 (ninS ne_a1_va388 nin0))).ext E400).keep Kq407 (ninS ne377 (ninS ne_a1_va388 nin0))).keep Kq415 (ninS ne377 (ninS ne_a1_va388 nin0))).keep Kq420 nin0)
  have f427 : Fld Z T420.heap a1 "java/lang/Throwable" "stackTrace" "[Ljava/lang/StackTraceElement;" .null := (((((((F_stackTrace.ext E376).keep Kq388 (ninS ne377 nin0)).keep Kq396 (ninS ne377 (ninS ne_a1_va388 nin0))).ext E400).keep Kq407 (ninS ne377 (ninS ne_a1_va388 nin0))).keep Kq415 (ninS ne377 (ninS ne_a1_va388 nin0))).keep Kq420 nin0)
  have f428 : Fld Z T420.heap a1 "java/lang/Throwable" "suppressedExceptions" "Ljava/util/List;" .null := (((((((F_suppressedExceptions.ext E376).keep Kq388 (ninS ne377 nin0)).keep Kq396 (ninS ne377 (ninS ne_a1_va388 nin0))).ext E400).keep Kq407 (ninS ne377 (ninS ne_a1_va388 nin0))).keep Kq415 (ninS ne377 (ninS ne_a1_va388 nin0))).keep Kq420 nin0)
  have f429 : Fld Z T420.heap a1 "java/lang/Throwable" "backtrace" "Ljava/lang/Object;" .null := (((((((F_backtrace.ext E376).keep Kq388 (ninS ne377 nin0)).keep Kq396 (ninS ne377 (ninS ne_a1_va388 nin0))).ext E400).keep Kq407 (ninS ne377 (ninS ne_a1_va388 nin0))).keep Kq415 (ninS ne377 (ninS ne_a1_va388 nin0))).keep Kq420 nin0)
  have f430 : Fld Z T420.heap a1 "java/lang/Throwable" "detailMessage" "Ljava/lang/String;" .null := (((((((F_detailMessage.ext E376).keep Kq388 (ninS ne377 nin0)).keep Kq396 (ninS ne377 (ninS ne_a1_va388 nin0))).ext E400).keep Kq407 (ninS ne377 (ninS ne_a1_va388 nin0))).keep Kq415 (ninS ne377 (ninS ne_a1_va388 nin0))).keep Kq420 nin0)
  obtain ⟨vr431, _, ⟨T431, L431, k431, n431⟩, -, X431, ⟨Lc431, hQ431, l431, y431, z431⟩, st431⟩ := X420.specialBack hx (y := (⟨"java/lang/Exception", "<init>", "(Ljava/lang/String;)V"⟩ : MethodName)) rfl ho400 (mvT hZ400 (hw _ (List.mem_of_getElem? (i := 259) rfl))) (mvT hZ400 (hw _ (List.mem_of_getElem? (i := 260) rfl))) (mvT hZ400 (hw _ (List.mem_of_getElem? (i := 263) rfl))) (by decide) (backOfKL (W := 0) (rmEx l Z a0 hw a1 xm T420.heap n0 (Nat.le_trans Z0 KK422.1) (X00.keep KK422 (allS g_a1 all0)) f424 g_a1 f425 f426 f427 f428 f429 f430 hls GU SU rGU GP SP rGP) hZ400 (hw _ (List.mem_of_getElem? (i := 263) rfl)) (hw _ (List.mem_of_getElem? (i := 262) rfl)) (by decide) (by decide) (Vm.MethodsKnown.alikeC hS400.1.alike hTK) (Vm.FramesKnown.alikeC hS400.1.alike hBelow)) (g := (mkF m 24 #[.val (.ref a1), .val (.ref xp), .val (.ref xu)] [(.ref xm), (.ref a1)])) rfl (by rw [hml]; rfl) (Steps.refl _) (a := a1) (argsL := [(.ref xm)]) (rest := []) (lenOf pd_66cbc1e rfl) rfl (by show 2 * 0 + _ ≤ _; exact Nat.le_of_eq rfl) (hb hby d19_24) (fun _ _ => ⟨rfl, rfl, (by decide : 6 + 1 ≤ _), (by decide : 77 + 2752 ≤ _)⟩)
  dsimp only [Pt.U, Pt.locs, Pt.cells, Pt.slots] at X431 l431 y431 z431 st431 hQ431
  subst l431 y431 z431
  obtain ⟨rfl, Nq431, Kq431, Ee431, Dm431⟩ := hQ431
  have C432 : CHr Z EL s.vm h0 T400.vm T431.heap := C421.trans (CHr.keep Kq431 (allS (Safe.exa hZ400.alike f424 (by decide) (by decide)) all0) C421.1)
  have KK433 : Keep h0 T431.heap [a1] := KK422.trans Kq431 (allS (Or.inl (List.mem_of_getElem? (i := 0) rfl)) all0)
  have NN434 := Fr.app NN423 Nq431
  refine Go.st (T' := T431.setTop (mkF m 27 #[.val (.ref a1), .val (.ref xp), .val (.ref xu)] [])) (fun zt zk => st431.trans zk) ?_
  have f435 : Exa Z T431.heap xm "java/lang/String" := (Em.keep Kq431)
  have f436 : Fld Z T431.heap xm "java/lang/String" "coder" "B" (.int (0 : Int32)) := (Cm.keep Kq431 (ninS (Ne.symm nam) nin0))
  have f437 : Fld Z T431.heap xm "java/lang/String" "value" "[B" (.ref tm) := (Vxm.keep Kq431 (ninS (Ne.symm nam) nin0))
  have f438 : Arv Z T431.heap tm km .byte (Int32.ofNat (((([] : List Int32) ++ ss) ++ own_U) ++ us).length) (((((([] : List Int32) ++ ss) ++ own_U) ++ us).map (fun c => c.toInt8.toInt32)).map Value.int) (.int (0 : Int32)) := (Bm.keep Kq431 (ninS (Ne.symm nat) nin0))
  exact Go.doneH X431 hS400 (by rw [(rfl : T431.heap = T431.heap)]; exact (Nat.le_trans hk400 (by have q := (Nat.le_trans (Nat.le_trans (Nat.le_trans (Nat.le_trans (Nat.le_refl h400.size) Kq407.1) Kq415.1) Kq420.1) Kq431.1); omega))) Bd.notSynchronized (v := none) (fun _ => rfl) (fun fs hr => X431.returnOut hx Bd.returns (hb hby d19_27) hr) (by rw [(rfl : T431.heap = T431.heap)]; exact ⟨rfl, NN434, KK433, Ee431, xm, tm, km, Dm431, f435, f436, f437, by simpa only [List.nil_append] using f438⟩) (by decide) (by decide) hZ400 hEL hh rfl C432
theorem d18_0 : decode prog_1_method_3_code 0 = .ok (.new 99, 3) := by decide +kernel
theorem d18_3 : decode prog_1_method_3_code 3 = .ok (.dup, 1) := by decide +kernel
theorem d18_4 : decode prog_1_method_3_code 4 = .ok (.aload_n 1, 1) := by decide +kernel
theorem d18_5 : decode prog_1_method_3_code 5 = .ok (.aload_n 0, 1) := by decide +kernel
theorem d18_6 : decode prog_1_method_3_code 6 = .ok (.getfield 30, 3) := by decide +kernel
theorem d18_9 : decode prog_1_method_3_code 9 = .ok (.invokespecial 101, 3) := by decide +kernel
theorem d18_12 : decode prog_1_method_3_code 12 = .ok (.areturn, 1) := by decide +kernel
theorem pd_e442dcf : parseMethodDescriptor "(Ljava/lang/String;Ljava/lang/String;)V" = some ⟨[(.object "java/lang/String"), (.object "java/lang/String")], none⟩ := by decide +kernel
theorem ef_18 (m : MethodId) (x0 : Addr) (x1 : Addr) : entryFrame m #[(.ref x0), (.ref x1)] 2 = mkF m 0 #[.val (.ref x0), .val (.ref x1)] [] := by first | (simp [entryFrame, mkF, argsToLocals, Value.category]; done) | rfl
def Q_rmErr (Z : State) (a1 xp tp xu tu : Addr) (kp ku : ClassId) (ss us : List Int32) (h0 : Heap) (n0 : Nat) (v : Option Value) (h : Heap) (L : List Loc) : Prop := Fr n0 L ∧ Keep h0 h [] ∧ ∃ ex : Addr, v = some (.ref ex) ∧ Exa Z h ex "com/example/uakari/uakari/UsageException" ∧ ∃ (xm tm : Addr) (km : ClassId), Fld Z h ex "java/lang/Throwable" "detailMessage" "Ljava/lang/String;" (.ref xm) ∧ Exa Z h xm "java/lang/String" ∧ Fld Z h xm "java/lang/String" "coder" "B" (.int (0 : Int32)) ∧ Fld Z h xm "java/lang/String" "value" "[B" (.ref tm) ∧ Arv Z h tm km .byte (Int32.ofNat (ss ++ own_U ++ us).length) (((ss ++ own_U ++ us).map (fun c => c.toInt8.toInt32)).map Value.int) (.int (0 : Int32))
set_option maxRecDepth 65536 in
set_option maxHeartbeats 40000000 in
theorem rmErr (l : Launch) (Z : State) (a0 : Array Value) (hw : ∀ d ∈ tables_1, d.before a0 Z = true) (a1 xp tp xu tu : Addr) (kp ku : ClassId) (ss us : List Int32) (h0 : Heap) (n0 : Nat) (Z0 : n0 ≤ h0.size) (G1 : Int32) (O2 : Sta Z Z.heap "java/lang/String" "COMPACT_STRINGS" "Z" (.int G1)) (P5 : ¬ (G1 = (0 : Int32))) (X00 : Old Z n0 h0) (Fu : Fld Z h0 a1 "com/example/uakari/uakari/CommandLine" "usage" "Ljava/lang/String;" (.ref xu)) (Ep : Exa Z h0 xp "java/lang/String") (Vp : Fld Z h0 xp "java/lang/String" "value" "[B" (.ref tp)) (Cp : Fld Z h0 xp "java/lang/String" "coder" "B" (.int (0 : Int32))) (Bp : Arv Z h0 tp kp .byte (Int32.ofNat (ss).length) (((ss).map (fun c => c.toInt8.toInt32)).map Value.int) (.int (0 : Int32))) (hpp : ∀ c ∈ ss, ¬ c < 0 ∧ ¬ (255 : Int32) < c) (Eu : Exa Z h0 xu "java/lang/String") (Vu : Fld Z h0 xu "java/lang/String" "value" "[B" (.ref tu)) (Cu : Fld Z h0 xu "java/lang/String" "coder" "B" (.int (0 : Int32))) (Bu : Arv Z h0 tu ku .byte (Int32.ofNat (us).length) (((us).map (fun c => c.toInt8.toInt32)).map Value.int) (.int (0 : Int32))) (hpu : ∀ c ∈ us, ¬ c < 0 ∧ ¬ (255 : Int32) < c) (hlp : ss.length ≤ 2) (hlu : us.length ≤ 2) (hEL : EW Z a0 EL) (wS : ∀ a ∈ Bundle.stringAtoms, a.before a0 Z = true) (hls : l.stackTraces = true) (GU : Value) (SU : Sta Z Z.heap "java/lang/Throwable" "UNASSIGNED_STACK" "[Ljava/lang/StackTraceElement;" GU) (rGU : GU.isRef = true) (GP : Value) (SP : Sta Z Z.heap "java/lang/Throwable" "SUPPRESSED_SENTINEL" "Ljava/util/List;" GP) (rGP : GP.isRef = true) :
    MetFree l (⟨"com/example/uakari/uakari/CommandLine", "error", "(Ljava/lang/String;)Lcom/example/uakari/uakari/UsageException;"⟩ : MethodName) (head1 [Jvm.Cond.code (⟨"com/example/uakari/uakari/CommandLine", "error", "(Ljava/lang/String;)Lcom/example/uakari/uakari/UsageException;"⟩ : MethodName) prog_1_method_3_code 2 (some (.object "com/example/uakari/uakari/UsageException"))] ({ frames := 7, cells := 8, slots := 2835, locals := 107 } : Room)) (fun a U => a = #[(.ref a1), (.ref xp)] ∧ Z.Warmed39 U.vm ∧ U.heap = h0 ∧ CHv Z EL U.vm h0) (fun _ _ bl s _ => s.vm.MethodsKnown ∧ s.vm.FramesKnown bl) (fun _ U o U' => ∃ v L, o = .returned v ∧ (Q_rmErr Z a1 xp tp xu tu kp ku ss us h0 n0) v U'.heap L ∧ CHr Z EL U.vm U.heap U'.vm U'.heap ∧ ReturnedEndW U o U' L ({ frames := 7, cells := 8, slots := 2835, locals := 107 } : Room).cells ({ frames := 7, cells := 8, slots := 2835, locals := 107 } : Room).slots) := by
  refine MetFree.of_bodySF (plainFor_of_name pn_129eb5c) hisR ?_
  intro p e s m args below meth c s₁ Bd hml0 hP hK
  obtain ⟨rfl, hZ, hh, hCH⟩ := hP
  have hx := Bd.exec
  have hby := Bd.bytes
  obtain ⟨hTK, hBelow⟩ := hK
  have hml : c.maxLocals = 2 := hml0
  have hown : s.vm.findClass "com/example/uakari/uakari/CommandLine" = some m.cls := findClass_of_methodNamed Bd.named
  have hnm := (name_of_methodNamed Bd.named Bd.method).1
  have X0 : Stand p l e ({ frames := 7, cells := 8, slots := 2835, locals := 107 } : Room) s m #[(.ref a1), (.ref xp)] below meth c s₁ [] 0 0 := Stand.of_body Bd
  have e0 : s₁.heap = h0 := by rw [← hh, Bd.state]; rfl
  have N0 := Fr.nil n0
  have K0 : Keep h0 h0 [] := Keep.refl h0 []
  have X0h : Stand p l e ({ frames := 7, cells := 8, slots := 2835, locals := 107 } : Room) (s.setVm s.vm) m #[(.ref a1), (.ref xp)] below meth c s₁ [] 0 0 := X0
  have hZh : Z.Warmed39 (s.setVm s.vm).vm := hZ
  have hownh : (s.setVm s.vm).vm.findClass "com/example/uakari/uakari/CommandLine" = some m.cls := hown
  have hS0 : s.Since s.vm 0 := (State.WarmedH.refl s).since 0
  have C0 : CHr Z EL s.vm h0 s.vm h0 := CHr.refl hCH
  show Go p e below (s₁.setTop (entryFrame m #[(.ref a1), (.ref xp)] 2)) (EndH Z EL s (Q_rmErr Z a1 xp tp xu tu kp ku ss us h0 n0) ({ frames := 7, cells := 8, slots := 2835, locals := 107 } : Room).cells ({ frames := 7, cells := 8, slots := 2835, locals := 107 } : Room).slots)
  refine Go.top (ef_18 m a1 xp) ?_
  obtain ⟨T439, h439, X439, e439, E439, A439, D439, U439, st439⟩ := newO X0h hx hZh hownh (hw _ (List.mem_of_getElem? (i := 142) rfl)) (hw _ (List.mem_of_getElem? (i := 143) rfl)) (hw _ (List.mem_of_getElem? (i := 144) rfl)) e0 (g := (mkF m 0 #[.val (.ref a1), .val (.ref xp)] [])) rfl (hb hby d18_0) (by decide) (by decide)
  obtain ⟨b439, g439⟩ : ∃ z, z = h0.size := ⟨_, rfl⟩
  rw [← g439] at A439 D439 U439 st439
  have g_b439 : n0 ≤ b439 := Nat.le_trans (Nat.le_trans Z0 K0.1) (Nat.le_of_eq g439.symm)
  have sz_b439 : h0.size ≤ b439 := Nat.le_trans K0.1 (Nat.le_of_eq g439.symm)
  have ne440 : a1 ≠ b439 := Nat.ne_of_lt (Nat.lt_of_lt_of_le Fu.lt (Nat.le_of_eq g439.symm))
  have ne441 : xp ≠ b439 := Nat.ne_of_lt (Nat.lt_of_lt_of_le Ep.lt (Nat.le_of_eq g439.symm))
  have ne442 : tp ≠ b439 := Nat.ne_of_lt (Nat.lt_of_lt_of_le Bp.lt (Nat.le_of_eq g439.symm))
  have ne443 : xu ≠ b439 := Nat.ne_of_lt (Nat.lt_of_lt_of_le Eu.lt (Nat.le_of_eq g439.symm))
  have ne444 : tu ≠ b439 := Nat.ne_of_lt (Nat.lt_of_lt_of_le Bu.lt (Nat.le_of_eq g439.symm))
  have C445 : CHr Z EL s.vm h0 s.vm h439 := C0.trans (CHr.ext E439 C0.1)
  have K439 : Keep h0 h439 [] := K0.ext E439
  have Fn439_cause : Fld Z h439 b439 "java/lang/Throwable" "cause" "Ljava/lang/Throwable;" .null := D439 (Or.inl (hw _ (List.mem_of_getElem? (i := 272) rfl))) (ty := (.object "java/lang/Throwable")) (by decide)
  have Fn439_stackTrace : Fld Z h439 b439 "java/lang/Throwable" "stackTrace" "[Ljava/lang/StackTraceElement;" .null := D439 (Or.inl (hw _ (List.mem_of_getElem? (i := 275) rfl))) (ty := (.array (.object "java/lang/StackTraceElement"))) (by decide)
  have Fn439_suppressedExceptions : Fld Z h439 b439 "java/lang/Throwable" "suppressedExceptions" "Ljava/util/List;" .null := D439 (Or.inl (hw _ (List.mem_of_getElem? (i := 278) rfl))) (ty := (.object "java/util/List")) (by decide)
  have Fn439_detailMessage : Fld Z h439 b439 "java/lang/Throwable" "detailMessage" "Ljava/lang/String;" .null := D439 (Or.inl (hw _ (List.mem_of_getElem? (i := 302) rfl))) (ty := (.object "java/lang/String")) (by decide)
  have Fn439_backtrace : Fld Z h439 b439 "java/lang/Throwable" "backtrace" "Ljava/lang/Object;" .null := D439 (Or.inl (hw _ (List.mem_of_getElem? (i := 303) rfl))) (ty := (.object "java/lang/Object")) (by decide)
  have Fn439_depth : Fld Z h439 b439 "java/lang/Throwable" "depth" "I" (.int (0 : Int32)) := D439 (Or.inl (hw _ (List.mem_of_getElem? (i := 304) rfl))) (ty := .int) (by decide)
  refine Go.st (T' := T439.setTop (mkF m 3 #[.val (.ref a1), .val (.ref xp)] [(.ref b439)])) (fun zt zk => st439 zt zk) ?_
  refine Go.st (T' := T439.setTop (mkF m 4 #[.val (.ref a1), .val (.ref xp)] [(.ref b439), (.ref b439)])) (fun zt zk => XS.dup X439.here hx rfl (hb hby d18_3) rfl rfl zk) ?_
  refine Go.st (T' := T439.setTop (mkF m 5 #[.val (.ref a1), .val (.ref xp)] [(.ref xp), (.ref b439), (.ref b439)])) (fun zt zk => XS.aloadN X439.here hx rfl (hb hby d18_4) rfl rfl zk) ?_
  refine Go.st (T' := T439.setTop (mkF m 6 #[.val (.ref a1), .val (.ref xp)] [(.ref a1), (.ref xp), (.ref b439), (.ref b439)])) (fun zt zk => XS.aloadN X439.here hx rfl (hb hby d18_5) rfl rfl zk) ?_
  have f446 : Fld Z h439 a1 "com/example/uakari/uakari/CommandLine" "usage" "Ljava/lang/String;" (.ref xu) := (Fu.ext E439)
  obtain ⟨T447, X447, e447, st447⟩ := getF X439 hx hZh hownh (host := "") (Or.inl (hw _ (List.mem_of_getElem? (i := 124) rfl))) Via.refl e439 f446 (g := (mkF m 6 #[.val (.ref a1), .val (.ref xp)] [(.ref a1), (.ref xp), (.ref b439), (.ref b439)])) rfl rfl (hb hby d18_6)
  refine Go.st (T' := T447.setTop (mkF m 9 #[.val (.ref a1), .val (.ref xp)] [(.ref xu), (.ref xp), (.ref b439), (.ref b439)])) (fun zt zk => st447 zt zk) ?_
  have f448 : Exa Z h439 xp "java/lang/String" := (Ep.ext E439)
  have f449 : Fld Z h439 xp "java/lang/String" "value" "[B" (.ref tp) := (Vp.ext E439)
  have f450 : Fld Z h439 xp "java/lang/String" "coder" "B" (.int (0 : Int32)) := (Cp.ext E439)
  have f451 : Arv Z h439 tp kp .byte (Int32.ofNat (ss).length) (((ss).map (fun c => c.toInt8.toInt32)).map Value.int) (.int (0 : Int32)) := (Bp.ext E439)
  have f452 : Exa Z h439 xu "java/lang/String" := (Eu.ext E439)
  have f453 : Fld Z h439 xu "java/lang/String" "value" "[B" (.ref tu) := (Vu.ext E439)
  have f454 : Fld Z h439 xu "java/lang/String" "coder" "B" (.int (0 : Int32)) := (Cu.ext E439)
  have f455 : Arv Z h439 tu ku .byte (Int32.ofNat (us).length) (((us).map (fun c => c.toInt8.toInt32)).map Value.int) (.int (0 : Int32)) := (Bu.ext E439)
  obtain ⟨vr456, _, ⟨T456, L456, k456, n456⟩, -, X456, hs456, hg456, ⟨Lc456, hQ456, l456, y456, z456⟩, st456⟩ := X447.specialBackS hx (y := (⟨"com/example/uakari/uakari/UsageException", "<init>", "(Ljava/lang/String;Ljava/lang/String;)V"⟩ : MethodName)) rfl hownh (mvT hZh (hw _ (List.mem_of_getElem? (i := 145) rfl))) (mvT hZh (hw _ (List.mem_of_getElem? (i := 146) rfl))) (mvT hZh (hw _ (List.mem_of_getElem? (i := 147) rfl))) (by decide) (backOfSKH (s := s) (vm0 := s.vm) (W := 1) (rmUE l Z a0 hw b439 xp tp xu tu kp ku ss us h439 n0 (Nat.le_trans Z0 K439.1) G1 O2 P5 (X00.keep K439 all0) A439 g_b439 U439 Fn439_cause Fn439_stackTrace Fn439_suppressedExceptions Fn439_backtrace Fn439_detailMessage f448 f449 f450 f451 hpp f452 f453 f454 f455 hpu hlp hlu ⟨(Ne.symm ne441), (Ne.symm ne442), (Ne.symm ne443), (Ne.symm ne444)⟩ hEL wS hls GU SU rGU GP SP rGP) hZh (hw _ (List.mem_of_getElem? (i := 147) rfl)) (hw _ (List.mem_of_getElem? (i := 144) rfl)) (by decide) (by decide) hEL C445.1 (Vm.MethodsKnown.alikeC hS0.1.alike hTK) (Vm.FramesKnown.alikeC hS0.1.alike hBelow)) (g := (mkF m 9 #[.val (.ref a1), .val (.ref xp)] [(.ref xu), (.ref xp), (.ref b439), (.ref b439)])) rfl (by rw [hml]; rfl) (Steps.refl _) (a := b439) (argsL := [(.ref xp), (.ref xu)]) (rest := [(.ref b439)]) (lenOf pd_e442dcf rfl) rfl (by show 2 * 0 + _ ≤ _; exact Nat.le_of_eq rfl) (hb hby d18_9) (fun _ _ => ⟨rfl, e447, (by decide : 1 + 7 ≤ _), (by decide : 6 + 2829 ≤ _)⟩)
  dsimp only [Pt.U, Pt.locs, Pt.cells, Pt.slots] at X456 l456 y456 z456 st456 hQ456 hs456 hg456
  subst l456 y456
  obtain ⟨z456, CC456⟩ := z456
  subst z456
  obtain ⟨rfl, Nq456, Kq456, Eq456, Rq456⟩ := hQ456
  obtain ⟨Xr456, hSr456, hZr456, hor456⟩ := rebS (s := s) (vm0 := s.vm) hS0 (by rw [e447]; exact (Nat.zero_le _)) X456 hs456 hg456 hZh hownh
  have C457 : CHr Z EL s.vm h0 T456.vm T456.heap := C445.trans CC456
  have KK458 : Keep h0 T456.heap [] := K439.trans Kq456 (allS (Or.inr sz_b439) all0)
  have NN459 := Fr.app N0 Nq456
  refine Go.st (T' := T456.setTop (mkF m 12 #[.val (.ref a1), .val (.ref xp)] [(.ref b439)])) (fun zt zk => st456.trans zk) ?_
  exact Go.doneH Xr456 hSr456 (by rw [(rfl : T456.heap = T456.heap)]; exact (Nat.le_refl _)) Bd.notSynchronized (v := some (.ref b439)) (fun h => by rw [Bd.returns] at h; cases h) (fun fs hr => retA Xr456 hx Bd.returns rfl rfl rfl (hb hby d18_12) hr) (by rw [(rfl : T456.heap = T456.heap)]; exact ⟨NN459, KK458, b439, rfl, Eq456, Rq456⟩) (by decide) (by decide) hZr456 hEL hh rfl C457
theorem pd_c289da3 : parseMethodDescriptor "(ICC)Ljava/lang/String;" = some ⟨[.int, .char, .char], some (.object "java/lang/String")⟩ := by decide +kernel
theorem pd_4bfe6ae : parseMethodDescriptor "(Ljava/util/List;Ljava/util/Set;Ljava/util/Set;Ljava/util/Set;Ljava/lang/String;)V" = some ⟨[(.object "java/util/List"), (.object "java/util/Set"), (.object "java/util/Set"), (.object "java/util/Set"), (.object "java/lang/String")], none⟩ := by decide +kernel
theorem pd_6660a02 : parseMethodDescriptor "(Ljava/lang/String;)Lcom/example/uakari/uakari/UsageException;" = some ⟨[(.object "java/lang/String")], some (.object "com/example/uakari/uakari/UsageException")⟩ := by decide +kernel
theorem pd_55c29fb : parseMethodDescriptor "(Ljava/lang/String;ILjava/lang/String;)Z" = some ⟨[(.object "java/lang/String"), .int, (.object "java/lang/String")], some .boolean⟩ := by decide +kernel
theorem pd_9ac8dfc : parseMethodDescriptor "(Ljava/lang/String;I)Z" = some ⟨[(.object "java/lang/String"), .int], some .boolean⟩ := by decide +kernel
theorem ef_0 (m : MethodId) (x0 : Int32) (x1 : Int32) (x2 : Int32) : entryFrame m #[(.int x0), (.int x1), (.int x2)] maxLocals = mkF m 0 #[.val (.int x0), .val (.int x1), .val (.int x2), .unset, .unset, .unset, .unset, .unset, .unset, .unset] [] := by first | (simp [entryFrame, mkF, argsToLocals, Value.category, maxLocals]; done) | rfl
def Q_rm0 (Z : State) (p1 p2 p3 : Int32) (h0 : Heap) (n0 : Nat) (v : Option Value) (h : Heap) (L : List Loc) : Prop := v = some (.int (1 : Int32)) ∧ Fr n0 L
set_option maxRecDepth 65536 in
set_option maxHeartbeats 40000000 in
theorem rm0 (l : Launch) (Z : State) (a0 : Array Value) (hw : ∀ d ∈ tables_1, d.before a0 Z = true) (ws : List Jvm.Cond) (p1 p2 p3 : Int32) (h0 : Heap) (n0 : Nat) (Z0 : n0 ≤ h0.size) (G1 : Int32) (O2 : Sta Z Z.heap "java/lang/String" "COMPACT_STRINGS" "Z" (.int G1)) (P5 : ¬ (G1 = (0 : Int32))) (X00 : Old Z n0 h0) (G3 : Value) (O4 : Sta Z Z.heap "jdk/internal/util/Preconditions" "SIOOBE_FORMATTER" "Ljava/util/function/BiFunction;" G3) (rG3 : G3.isRef = true) (de : Addr) (Sd : Sta Z Z.heap "java/util/ArrayList" "DEFAULTCAPACITY_EMPTY_ELEMENTDATA" "[Ljava/lang/Object;" (.ref de)) (hEL : EW Z a0 EL) (wS : ∀ a ∈ Bundle.stringAtoms, a.before a0 Z = true) (hls : l.stackTraces = true) (GU : Value) (SU : Sta Z Z.heap "java/lang/Throwable" "UNASSIGNED_STACK" "[Ljava/lang/StackTraceElement;" GU) (rGU : GU.isRef = true) (GP : Value) (SP : Sta Z Z.heap "java/lang/Throwable" "SUPPRESSED_SENTINEL" "Ljava/util/List;" GP) (rGP : GP.isRef = true) :
    MetFree l x (head1 (Jvm.Cond.code x code maxLocals ret :: ws) room_1) (fun a U => a = #[(.int p1), (.int p2), (.int p3)] ∧ Z.Warmed39 U.vm ∧ U.heap = h0 ∧ CHv Z EL U.vm h0) (fun _ _ bl s _ => s.vm.MethodsKnown ∧ s.vm.FramesKnown bl) (fun _ U o U' => ∃ v L, o = .returned v ∧ (Q_rm0 Z p1 p2 p3 h0 n0) v U'.heap L ∧ CHr Z EL U.vm U.heap U'.vm U'.heap ∧ ReturnedEndW U o U' L room_1.cells room_1.slots) := by
  refine MetFree.of_bodySF (plainFor_of_name pn_3d5c09a) hisR ?_
  intro p e s m args below meth c s₁ Bd hml0 hP hK
  obtain ⟨rfl, hZ, hh, hCH⟩ := hP
  have hx := Bd.exec
  have hby := Bd.bytes
  obtain ⟨hTK, hBelow⟩ := hK
  have hml : c.maxLocals = 10 := hml0
  have hown : s.vm.findClass "com/example/uakari/uakari/CommandLineErrorPinLaw" = some m.cls := findClass_of_methodNamed Bd.named
  have hnm := (name_of_methodNamed Bd.named Bd.method).1
  have X0 : Stand p l e room_1 s m #[(.int p1), (.int p2), (.int p3)] below meth c s₁ [] 0 0 := Stand.of_body Bd
  have e0 : s₁.heap = h0 := by rw [← hh, Bd.state]; rfl
  have N0 := Fr.nil n0
  have K0 : Keep h0 h0 [] := Keep.refl h0 []
  have X0h : Stand p l e room_1 (s.setVm s.vm) m #[(.int p1), (.int p2), (.int p3)] below meth c s₁ [] 0 0 := X0
  have hZh : Z.Warmed39 (s.setVm s.vm).vm := hZ
  have hownh : (s.setVm s.vm).vm.findClass "com/example/uakari/uakari/CommandLineErrorPinLaw" = some m.cls := hown
  have hS0 : s.Since s.vm 0 := (State.WarmedH.refl s).since 0
  have C0 : CHr Z EL s.vm h0 s.vm h0 := CHr.refl hCH
  show Go p e below (s₁.setTop (entryFrame m #[(.int p1), (.int p2), (.int p3)] maxLocals)) (EndH Z EL s (Q_rm0 Z p1 p2 p3 h0 n0) room_1.cells room_1.slots)
  refine Go.top (ef_0 m p1 p2 p3) ?_
  have hch : ∀ d ∈ StrChars.Road.wordsChN, d.before a0 Z = true := fun d hd => hw d ((by decide +kernel : ∀ d ∈ StrChars.Road.wordsChN, d ∈ tables_1) d hd)
  have hln : ∀ d ∈ StrChars.Road.wordsLen, d.before a0 Z = true := fun d hd => hw d ((by decide +kernel : ∀ d ∈ StrChars.Road.wordsLen, d ∈ tables_1) d hd)
  refine Go.st (T' := s₁.setTop (mkF m 1 #[.val (.int p1), .val (.int p2), .val (.int p3), .unset, .unset, .unset, .unset, .unset, .unset, .unset] [(.int p3)])) (fun zt zk => XS.iloadN X0h.here hx rfl (hb hby at_0) rfl zk) ?_
  refine Go.st (T' := s₁.setTop (mkF m 2 #[.val (.int p1), .val (.int p2), .val (.int p3), .unset, .unset, .unset, .unset, .unset, .unset, .unset] [(.int (3 : Int32)), (.int p3)])) (fun zt zk => XS.iconst X0h.here hx rfl (hb hby at_1) zk) ?_
  refine Go.st (T' := s₁.setTop (mkF m 3 #[.val (.int p1), .val (.int p2), .val (.int p3), .unset, .unset, .unset, .unset, .unset, .unset, .unset] [(.int (p3 &&& (3 : Int32)))])) (fun zt zk => XS.iand X0h.here hx rfl (hb hby at_2) rfl zk) ?_
  refine Go.st (T' := s₁.setTop (mkF m 4 #[.val (.int p1), .val (.int p2), .val (.int p3), .unset, .unset, .unset, .unset, .unset, .unset, .unset] [(.int (3 : Int32)), (.int (p3 &&& (3 : Int32)))])) (fun zt zk => XS.iconst X0h.here hx rfl (hb hby at_3) zk) ?_
  refine Go.st (T' := s₁.setTop (mkF m 5 #[.val (.int p1), .val (.int p2), .val (.int p3), .unset, .unset, .unset, .unset, .unset, .unset, .unset] [(.int ((p3 &&& (3 : Int32)) - ((p3 &&& (3 : Int32)) / (3 : Int32)) * (3 : Int32)))])) (fun zt zk => XS.irem X0h.here hx rfl (hb hby at_4) rfl (by decide) zk) ?_
  refine Go.st (T' := s₁.setTop (mkF m 6 #[.val (.int p1), .val (.int p2), .val (.int p3), .unset, .unset, .unset, .unset, .unset, .unset, .unset] [(.int p1), (.int ((p3 &&& (3 : Int32)) - ((p3 &&& (3 : Int32)) / (3 : Int32)) * (3 : Int32)))])) (fun zt zk => XS.iloadN X0h.here hx rfl (hb hby at_5) rfl zk) ?_
  refine Go.st (T' := s₁.setTop (mkF m 9 #[.val (.int p1), .val (.int p2), .val (.int p3), .unset, .unset, .unset, .unset, .unset, .unset, .unset] [(.int (255 : Int32)), (.int p1), (.int ((p3 &&& (3 : Int32)) - ((p3 &&& (3 : Int32)) / (3 : Int32)) * (3 : Int32)))])) (fun zt zk => XS.sipush X0h.here hx rfl (hb hby at_6) zk) ?_
  refine Go.st (T' := s₁.setTop (mkF m 10 #[.val (.int p1), .val (.int p2), .val (.int p3), .unset, .unset, .unset, .unset, .unset, .unset, .unset] [(.int (p1 &&& (255 : Int32))), (.int ((p3 &&& (3 : Int32)) - ((p3 &&& (3 : Int32)) / (3 : Int32)) * (3 : Int32)))])) (fun zt zk => XS.iand X0h.here hx rfl (hb hby at_9) rfl zk) ?_
  refine Go.st (T' := s₁.setTop (mkF m 11 #[.val (.int p1), .val (.int p2), .val (.int p3), .unset, .unset, .unset, .unset, .unset, .unset, .unset] [(.int ((p1 &&& (255 : Int32)).toUInt32.toUInt16.toUInt32.toInt32)), (.int ((p3 &&& (3 : Int32)) - ((p3 &&& (3 : Int32)) / (3 : Int32)) * (3 : Int32)))])) (fun zt zk => XS.i2c X0h.here hx rfl (hb hby at_10) rfl zk) ?_
  refine Go.st (T' := s₁.setTop (mkF m 12 #[.val (.int p1), .val (.int p2), .val (.int p3), .unset, .unset, .unset, .unset, .unset, .unset, .unset] [(.int p1), (.int ((p1 &&& (255 : Int32)).toUInt32.toUInt16.toUInt32.toInt32)), (.int ((p3 &&& (3 : Int32)) - ((p3 &&& (3 : Int32)) / (3 : Int32)) * (3 : Int32)))])) (fun zt zk => XS.iloadN X0h.here hx rfl (hb hby at_11) rfl zk) ?_
  refine Go.st (T' := s₁.setTop (mkF m 14 #[.val (.int p1), .val (.int p2), .val (.int p3), .unset, .unset, .unset, .unset, .unset, .unset, .unset] [(.int (8 : Int32)), (.int p1), (.int ((p1 &&& (255 : Int32)).toUInt32.toUInt16.toUInt32.toInt32)), (.int ((p3 &&& (3 : Int32)) - ((p3 &&& (3 : Int32)) / (3 : Int32)) * (3 : Int32)))])) (fun zt zk => XS.bipush X0h.here hx rfl (hb hby at_12) zk) ?_
  refine Go.st (T' := s₁.setTop (mkF m 15 #[.val (.int p1), .val (.int p2), .val (.int p3), .unset, .unset, .unset, .unset, .unset, .unset, .unset] [(.int ((p1.toUInt32 >>> ((8 : Int32) &&& 31).toUInt32).toInt32)), (.int ((p1 &&& (255 : Int32)).toUInt32.toUInt16.toUInt32.toInt32)), (.int ((p3 &&& (3 : Int32)) - ((p3 &&& (3 : Int32)) / (3 : Int32)) * (3 : Int32)))])) (fun zt zk => XS.iushr X0h.here hx rfl (hb hby at_14) rfl zk) ?_
  refine Go.st (T' := s₁.setTop (mkF m 18 #[.val (.int p1), .val (.int p2), .val (.int p3), .unset, .unset, .unset, .unset, .unset, .unset, .unset] [(.int (255 : Int32)), (.int ((p1.toUInt32 >>> ((8 : Int32) &&& 31).toUInt32).toInt32)), (.int ((p1 &&& (255 : Int32)).toUInt32.toUInt16.toUInt32.toInt32)), (.int ((p3 &&& (3 : Int32)) - ((p3 &&& (3 : Int32)) / (3 : Int32)) * (3 : Int32)))])) (fun zt zk => XS.sipush X0h.here hx rfl (hb hby at_15) zk) ?_
  refine Go.st (T' := s₁.setTop (mkF m 19 #[.val (.int p1), .val (.int p2), .val (.int p3), .unset, .unset, .unset, .unset, .unset, .unset, .unset] [(.int (((p1.toUInt32 >>> ((8 : Int32) &&& 31).toUInt32).toInt32) &&& (255 : Int32))), (.int ((p1 &&& (255 : Int32)).toUInt32.toUInt16.toUInt32.toInt32)), (.int ((p3 &&& (3 : Int32)) - ((p3 &&& (3 : Int32)) / (3 : Int32)) * (3 : Int32)))])) (fun zt zk => XS.iand X0h.here hx rfl (hb hby at_18) rfl zk) ?_
  refine Go.st (T' := s₁.setTop (mkF m 20 #[.val (.int p1), .val (.int p2), .val (.int p3), .unset, .unset, .unset, .unset, .unset, .unset, .unset] [(.int ((((p1.toUInt32 >>> ((8 : Int32) &&& 31).toUInt32).toInt32) &&& (255 : Int32)).toUInt32.toUInt16.toUInt32.toInt32)), (.int ((p1 &&& (255 : Int32)).toUInt32.toUInt16.toUInt32.toInt32)), (.int ((p3 &&& (3 : Int32)) - ((p3 &&& (3 : Int32)) / (3 : Int32)) * (3 : Int32)))])) (fun zt zk => XS.i2c X0h.here hx rfl (hb hby at_19) rfl zk) ?_
  obtain ⟨vb1, hvb1⟩ : ∃ z, z = ((((p1.toUInt32 >>> ((8 : Int32) &&& 31).toUInt32).toInt32) &&& (255 : Int32)).toUInt32.toUInt16.toUInt32.toInt32) := ⟨_, rfl⟩
  rw [← hvb1]
  have Hvb1 : own_C vb1 := by rw [hvb1]; exact own_C_of _
  obtain ⟨va1, hva1⟩ : ∃ z, z = ((p1 &&& (255 : Int32)).toUInt32.toUInt16.toUInt32.toInt32) := ⟨_, rfl⟩
  rw [← hva1]
  have Hva1 : own_C va1 := by rw [hva1]; exact own_C_of _
  obtain ⟨vn1, hvn1⟩ : ∃ z, z = ((p3 &&& (3 : Int32)) - ((p3 &&& (3 : Int32)) / (3 : Int32)) * (3 : Int32)) := ⟨_, rfl⟩
  rw [← hvn1]
  obtain ⟨vr460, _, ⟨T460, L460, k460, n460⟩, -, X460, hs460, hg460, ⟨Lc460, hQ460, l460, y460, z460⟩, st460⟩ := callSS X0h hx (y := (⟨"com/example/uakari/uakari/CommandLineErrorPinLaw", "mk", "(ICC)Ljava/lang/String;"⟩ : MethodName)) hownh (mvT hZh (hw _ (List.mem_of_getElem? (i := 0) rfl))) (mvT hZh (hw _ (List.mem_of_getElem? (i := 1) rfl))) (mvT hZh (hw _ (List.mem_of_getElem? (i := 2) rfl))) (mvT hZh (hw _ (List.mem_of_getElem? (i := 3) rfl))) (by decide) (backOfSH (s := s) (vm0 := s.vm) (W := 0) (rmMk l Z a0 hw vn1 va1 vb1 h0 n0 (Nat.le_trans Z0 K0.1) G1 O2 P5 (X00.keep K0 all0) Hva1 Hvb1 hEL wS) hZh (hw _ (List.mem_of_getElem? (i := 3) rfl)) (hw _ (List.mem_of_getElem? (i := 2) rfl)) (by decide) (by decide) hEL C0.1) (g := (mkF m 20 #[.val (.int p1), .val (.int p2), .val (.int p3), .unset, .unset, .unset, .unset, .unset, .unset, .unset] [(.int vb1), (.int va1), (.int vn1)])) rfl (by rw [hml]; rfl) (argsL := [(.int vn1), (.int va1), (.int vb1)]) (rest := []) (lenOf pd_c289da3 rfl) rfl (by show 2 * 0 + _ ≤ _; exact Nat.le_of_eq rfl) (hb hby at_20) (fun _ _ => ⟨rfl, e0, (by decide : 0 + 4 ≤ _), (by decide : 0 + 8 ≤ _)⟩)
  dsimp only [Pt.U, Pt.locs, Pt.cells, Pt.slots] at X460 l460 y460 z460 st460 hQ460 hs460 hg460
  subst l460 y460
  obtain ⟨z460, CC460⟩ := z460
  subst z460
  obtain ⟨Nq460, Kq460, x460, t460, kb460, rfl, Eq460, Cq460, Vq460, Bq460⟩ := hQ460
  obtain ⟨Xr460, hSr460, hZr460, hor460⟩ := rebS (s := s) (vm0 := s.vm) hS0 (by rw [e0]; exact (Nat.zero_le _)) X460 hs460 hg460 hZh hownh
  have C461 : CHr Z EL s.vm h0 T460.vm T460.heap := C0.trans CC460
  have KK462 : Keep h0 T460.heap [] := K0.trans Kq460 all0
  have NN463 := Fr.app N0 Nq460
  refine Go.st (T' := T460.setTop (mkF m 23 #[.val (.int p1), .val (.int p2), .val (.int p3), .unset, .unset, .unset, .unset, .unset, .unset, .unset] [(.ref x460)])) (fun zt zk => st460.trans zk) ?_
  obtain ⟨cs1, hcs1⟩ : ∃ z, z = (own_mk vn1 va1 vb1) := ⟨_, rfl⟩
  have hl1 : cs1.length ≤ 2 := by rw [hcs1]; exact own_mkl _ _ _
  have hp1 : ∀ c ∈ cs1, ¬ c < 0 ∧ ¬ (255 : Int32) < c := by rw [hcs1]; exact own_all Hva1 Hvb1
  rw [← hcs1] at Bq460
  have hcd1 : StrChars.Road.CodA cs1 0 (Int32.ofNat (cs1).length) (((cs1).map (fun c => c.toInt8.toInt32)).map Value.int) := StrChars.Road.codOf (n := (cs1).length) rfl (fun x hx => (hp1 x hx).2)
  refine Go.st (T' := T460.setTop (mkF m 24 #[.val (.int p1), .val (.int p2), .val (.int p3), .val (.ref x460), .unset, .unset, .unset, .unset, .unset, .unset] [])) (fun zt zk => XS.astoreN Xr460.here hx rfl (hb hby at_23) rfl rfl (l' := #[.val (.int p1), .val (.int p2), .val (.int p3), .val (.ref x460), .unset, .unset, .unset, .unset, .unset, .unset]) rfl zk) ?_
  refine Go.st (T' := T460.setTop (mkF m 25 #[.val (.int p1), .val (.int p2), .val (.int p3), .val (.ref x460), .unset, .unset, .unset, .unset, .unset, .unset] [(.int p3)])) (fun zt zk => XS.iloadN Xr460.here hx rfl (hb hby at_24) rfl zk) ?_
  refine Go.st (T' := T460.setTop (mkF m 26 #[.val (.int p1), .val (.int p2), .val (.int p3), .val (.ref x460), .unset, .unset, .unset, .unset, .unset, .unset] [(.int (2 : Int32)), (.int p3)])) (fun zt zk => XS.iconst Xr460.here hx rfl (hb hby at_25) zk) ?_
  refine Go.st (T' := T460.setTop (mkF m 27 #[.val (.int p1), .val (.int p2), .val (.int p3), .val (.ref x460), .unset, .unset, .unset, .unset, .unset, .unset] [(.int ((p3.toUInt32 >>> ((2 : Int32) &&& 31).toUInt32).toInt32))])) (fun zt zk => XS.iushr Xr460.here hx rfl (hb hby at_26) rfl zk) ?_
  refine Go.st (T' := T460.setTop (mkF m 28 #[.val (.int p1), .val (.int p2), .val (.int p3), .val (.ref x460), .unset, .unset, .unset, .unset, .unset, .unset] [(.int (3 : Int32)), (.int ((p3.toUInt32 >>> ((2 : Int32) &&& 31).toUInt32).toInt32))])) (fun zt zk => XS.iconst Xr460.here hx rfl (hb hby at_27) zk) ?_
  refine Go.st (T' := T460.setTop (mkF m 29 #[.val (.int p1), .val (.int p2), .val (.int p3), .val (.ref x460), .unset, .unset, .unset, .unset, .unset, .unset] [(.int (((p3.toUInt32 >>> ((2 : Int32) &&& 31).toUInt32).toInt32) &&& (3 : Int32)))])) (fun zt zk => XS.iand Xr460.here hx rfl (hb hby at_28) rfl zk) ?_
  refine Go.st (T' := T460.setTop (mkF m 30 #[.val (.int p1), .val (.int p2), .val (.int p3), .val (.ref x460), .unset, .unset, .unset, .unset, .unset, .unset] [(.int (3 : Int32)), (.int (((p3.toUInt32 >>> ((2 : Int32) &&& 31).toUInt32).toInt32) &&& (3 : Int32)))])) (fun zt zk => XS.iconst Xr460.here hx rfl (hb hby at_29) zk) ?_
  refine Go.st (T' := T460.setTop (mkF m 31 #[.val (.int p1), .val (.int p2), .val (.int p3), .val (.ref x460), .unset, .unset, .unset, .unset, .unset, .unset] [(.int ((((p3.toUInt32 >>> ((2 : Int32) &&& 31).toUInt32).toInt32) &&& (3 : Int32)) - ((((p3.toUInt32 >>> ((2 : Int32) &&& 31).toUInt32).toInt32) &&& (3 : Int32)) / (3 : Int32)) * (3 : Int32)))])) (fun zt zk => XS.irem Xr460.here hx rfl (hb hby at_30) rfl (by decide) zk) ?_
  refine Go.st (T' := T460.setTop (mkF m 32 #[.val (.int p1), .val (.int p2), .val (.int p3), .val (.ref x460), .unset, .unset, .unset, .unset, .unset, .unset] [(.int p2), (.int ((((p3.toUInt32 >>> ((2 : Int32) &&& 31).toUInt32).toInt32) &&& (3 : Int32)) - ((((p3.toUInt32 >>> ((2 : Int32) &&& 31).toUInt32).toInt32) &&& (3 : Int32)) / (3 : Int32)) * (3 : Int32)))])) (fun zt zk => XS.iloadN Xr460.here hx rfl (hb hby at_31) rfl zk) ?_
  refine Go.st (T' := T460.setTop (mkF m 35 #[.val (.int p1), .val (.int p2), .val (.int p3), .val (.ref x460), .unset, .unset, .unset, .unset, .unset, .unset] [(.int (255 : Int32)), (.int p2), (.int ((((p3.toUInt32 >>> ((2 : Int32) &&& 31).toUInt32).toInt32) &&& (3 : Int32)) - ((((p3.toUInt32 >>> ((2 : Int32) &&& 31).toUInt32).toInt32) &&& (3 : Int32)) / (3 : Int32)) * (3 : Int32)))])) (fun zt zk => XS.sipush Xr460.here hx rfl (hb hby at_32) zk) ?_
  refine Go.st (T' := T460.setTop (mkF m 36 #[.val (.int p1), .val (.int p2), .val (.int p3), .val (.ref x460), .unset, .unset, .unset, .unset, .unset, .unset] [(.int (p2 &&& (255 : Int32))), (.int ((((p3.toUInt32 >>> ((2 : Int32) &&& 31).toUInt32).toInt32) &&& (3 : Int32)) - ((((p3.toUInt32 >>> ((2 : Int32) &&& 31).toUInt32).toInt32) &&& (3 : Int32)) / (3 : Int32)) * (3 : Int32)))])) (fun zt zk => XS.iand Xr460.here hx rfl (hb hby at_35) rfl zk) ?_
  refine Go.st (T' := T460.setTop (mkF m 37 #[.val (.int p1), .val (.int p2), .val (.int p3), .val (.ref x460), .unset, .unset, .unset, .unset, .unset, .unset] [(.int ((p2 &&& (255 : Int32)).toUInt32.toUInt16.toUInt32.toInt32)), (.int ((((p3.toUInt32 >>> ((2 : Int32) &&& 31).toUInt32).toInt32) &&& (3 : Int32)) - ((((p3.toUInt32 >>> ((2 : Int32) &&& 31).toUInt32).toInt32) &&& (3 : Int32)) / (3 : Int32)) * (3 : Int32)))])) (fun zt zk => XS.i2c Xr460.here hx rfl (hb hby at_36) rfl zk) ?_
  refine Go.st (T' := T460.setTop (mkF m 38 #[.val (.int p1), .val (.int p2), .val (.int p3), .val (.ref x460), .unset, .unset, .unset, .unset, .unset, .unset] [(.int p2), (.int ((p2 &&& (255 : Int32)).toUInt32.toUInt16.toUInt32.toInt32)), (.int ((((p3.toUInt32 >>> ((2 : Int32) &&& 31).toUInt32).toInt32) &&& (3 : Int32)) - ((((p3.toUInt32 >>> ((2 : Int32) &&& 31).toUInt32).toInt32) &&& (3 : Int32)) / (3 : Int32)) * (3 : Int32)))])) (fun zt zk => XS.iloadN Xr460.here hx rfl (hb hby at_37) rfl zk) ?_
  refine Go.st (T' := T460.setTop (mkF m 40 #[.val (.int p1), .val (.int p2), .val (.int p3), .val (.ref x460), .unset, .unset, .unset, .unset, .unset, .unset] [(.int (8 : Int32)), (.int p2), (.int ((p2 &&& (255 : Int32)).toUInt32.toUInt16.toUInt32.toInt32)), (.int ((((p3.toUInt32 >>> ((2 : Int32) &&& 31).toUInt32).toInt32) &&& (3 : Int32)) - ((((p3.toUInt32 >>> ((2 : Int32) &&& 31).toUInt32).toInt32) &&& (3 : Int32)) / (3 : Int32)) * (3 : Int32)))])) (fun zt zk => XS.bipush Xr460.here hx rfl (hb hby at_38) zk) ?_
  refine Go.st (T' := T460.setTop (mkF m 41 #[.val (.int p1), .val (.int p2), .val (.int p3), .val (.ref x460), .unset, .unset, .unset, .unset, .unset, .unset] [(.int ((p2.toUInt32 >>> ((8 : Int32) &&& 31).toUInt32).toInt32)), (.int ((p2 &&& (255 : Int32)).toUInt32.toUInt16.toUInt32.toInt32)), (.int ((((p3.toUInt32 >>> ((2 : Int32) &&& 31).toUInt32).toInt32) &&& (3 : Int32)) - ((((p3.toUInt32 >>> ((2 : Int32) &&& 31).toUInt32).toInt32) &&& (3 : Int32)) / (3 : Int32)) * (3 : Int32)))])) (fun zt zk => XS.iushr Xr460.here hx rfl (hb hby at_40) rfl zk) ?_
  refine Go.st (T' := T460.setTop (mkF m 44 #[.val (.int p1), .val (.int p2), .val (.int p3), .val (.ref x460), .unset, .unset, .unset, .unset, .unset, .unset] [(.int (255 : Int32)), (.int ((p2.toUInt32 >>> ((8 : Int32) &&& 31).toUInt32).toInt32)), (.int ((p2 &&& (255 : Int32)).toUInt32.toUInt16.toUInt32.toInt32)), (.int ((((p3.toUInt32 >>> ((2 : Int32) &&& 31).toUInt32).toInt32) &&& (3 : Int32)) - ((((p3.toUInt32 >>> ((2 : Int32) &&& 31).toUInt32).toInt32) &&& (3 : Int32)) / (3 : Int32)) * (3 : Int32)))])) (fun zt zk => XS.sipush Xr460.here hx rfl (hb hby at_41) zk) ?_
  refine Go.st (T' := T460.setTop (mkF m 45 #[.val (.int p1), .val (.int p2), .val (.int p3), .val (.ref x460), .unset, .unset, .unset, .unset, .unset, .unset] [(.int (((p2.toUInt32 >>> ((8 : Int32) &&& 31).toUInt32).toInt32) &&& (255 : Int32))), (.int ((p2 &&& (255 : Int32)).toUInt32.toUInt16.toUInt32.toInt32)), (.int ((((p3.toUInt32 >>> ((2 : Int32) &&& 31).toUInt32).toInt32) &&& (3 : Int32)) - ((((p3.toUInt32 >>> ((2 : Int32) &&& 31).toUInt32).toInt32) &&& (3 : Int32)) / (3 : Int32)) * (3 : Int32)))])) (fun zt zk => XS.iand Xr460.here hx rfl (hb hby at_44) rfl zk) ?_
  refine Go.st (T' := T460.setTop (mkF m 46 #[.val (.int p1), .val (.int p2), .val (.int p3), .val (.ref x460), .unset, .unset, .unset, .unset, .unset, .unset] [(.int ((((p2.toUInt32 >>> ((8 : Int32) &&& 31).toUInt32).toInt32) &&& (255 : Int32)).toUInt32.toUInt16.toUInt32.toInt32)), (.int ((p2 &&& (255 : Int32)).toUInt32.toUInt16.toUInt32.toInt32)), (.int ((((p3.toUInt32 >>> ((2 : Int32) &&& 31).toUInt32).toInt32) &&& (3 : Int32)) - ((((p3.toUInt32 >>> ((2 : Int32) &&& 31).toUInt32).toInt32) &&& (3 : Int32)) / (3 : Int32)) * (3 : Int32)))])) (fun zt zk => XS.i2c Xr460.here hx rfl (hb hby at_45) rfl zk) ?_
  obtain ⟨vb2, hvb2⟩ : ∃ z, z = ((((p2.toUInt32 >>> ((8 : Int32) &&& 31).toUInt32).toInt32) &&& (255 : Int32)).toUInt32.toUInt16.toUInt32.toInt32) := ⟨_, rfl⟩
  rw [← hvb2]
  have Hvb2 : own_C vb2 := by rw [hvb2]; exact own_C_of _
  obtain ⟨va2, hva2⟩ : ∃ z, z = ((p2 &&& (255 : Int32)).toUInt32.toUInt16.toUInt32.toInt32) := ⟨_, rfl⟩
  rw [← hva2]
  have Hva2 : own_C va2 := by rw [hva2]; exact own_C_of _
  obtain ⟨vn2, hvn2⟩ : ∃ z, z = ((((p3.toUInt32 >>> ((2 : Int32) &&& 31).toUInt32).toInt32) &&& (3 : Int32)) - ((((p3.toUInt32 >>> ((2 : Int32) &&& 31).toUInt32).toInt32) &&& (3 : Int32)) / (3 : Int32)) * (3 : Int32)) := ⟨_, rfl⟩
  rw [← hvn2]
  obtain ⟨vr464, _, ⟨T464, L464, k464, n464⟩, -, X464, hs464, hg464, ⟨Lc464, hQ464, l464, y464, z464⟩, st464⟩ := callSS Xr460 hx (y := (⟨"com/example/uakari/uakari/CommandLineErrorPinLaw", "mk", "(ICC)Ljava/lang/String;"⟩ : MethodName)) hor460 (mvT hZr460 (hw _ (List.mem_of_getElem? (i := 0) rfl))) (mvT hZr460 (hw _ (List.mem_of_getElem? (i := 1) rfl))) (mvT hZr460 (hw _ (List.mem_of_getElem? (i := 2) rfl))) (mvT hZr460 (hw _ (List.mem_of_getElem? (i := 3) rfl))) (by decide) (backOfSH (s := s) (vm0 := T460.vm) (W := 0) (rmMk l Z a0 hw vn2 va2 vb2 T460.heap n0 (Nat.le_trans Z0 KK462.1) G1 O2 P5 (X00.keep KK462 all0) Hva2 Hvb2 hEL wS) hZr460 (hw _ (List.mem_of_getElem? (i := 3) rfl)) (hw _ (List.mem_of_getElem? (i := 2) rfl)) (by decide) (by decide) hEL C461.1) (g := (mkF m 46 #[.val (.int p1), .val (.int p2), .val (.int p3), .val (.ref x460), .unset, .unset, .unset, .unset, .unset, .unset] [(.int vb2), (.int va2), (.int vn2)])) rfl (by rw [hml]; rfl) (argsL := [(.int vn2), (.int va2), (.int vb2)]) (rest := []) (lenOf pd_c289da3 rfl) rfl (by show 2 * 0 + _ ≤ _; exact Nat.le_of_eq rfl) (hb hby at_46) (fun _ _ => ⟨rfl, rfl, (by decide : 4 + 4 ≤ _), (by decide : 8 + 8 ≤ _)⟩)
  dsimp only [Pt.U, Pt.locs, Pt.cells, Pt.slots] at X464 l464 y464 z464 st464 hQ464 hs464 hg464
  subst l464 y464
  obtain ⟨z464, CC464⟩ := z464
  subst z464
  obtain ⟨Nq464, Kq464, x464, t464, kb464, rfl, Eq464, Cq464, Vq464, Bq464⟩ := hQ464
  obtain ⟨Xr464, hSr464, hZr464, hor464⟩ := rebS (s := s) (vm0 := T460.vm) hSr460 (by rw [(rfl : T460.heap = T460.heap)]; exact (Nat.le_refl _)) X464 hs464 hg464 hZr460 hor460
  have C465 : CHr Z EL s.vm h0 T464.vm T464.heap := C461.trans CC464
  have KK466 : Keep h0 T464.heap [] := KK462.trans Kq464 all0
  have NN467 := Fr.app NN463 Nq464
  refine Go.st (T' := T464.setTop (mkF m 49 #[.val (.int p1), .val (.int p2), .val (.int p3), .val (.ref x460), .unset, .unset, .unset, .unset, .unset, .unset] [(.ref x464)])) (fun zt zk => st464.trans zk) ?_
  obtain ⟨cs2, hcs2⟩ : ∃ z, z = (own_mk vn2 va2 vb2) := ⟨_, rfl⟩
  have hl2 : cs2.length ≤ 2 := by rw [hcs2]; exact own_mkl _ _ _
  have hp2 : ∀ c ∈ cs2, ¬ c < 0 ∧ ¬ (255 : Int32) < c := by rw [hcs2]; exact own_all Hva2 Hvb2
  rw [← hcs2] at Bq464
  have hcd2 : StrChars.Road.CodA cs2 0 (Int32.ofNat (cs2).length) (((cs2).map (fun c => c.toInt8.toInt32)).map Value.int) := StrChars.Road.codOf (n := (cs2).length) rfl (fun x hx => (hp2 x hx).2)
  refine Go.st (T' := T464.setTop (mkF m 51 #[.val (.int p1), .val (.int p2), .val (.int p3), .val (.ref x460), .val (.ref x464), .unset, .unset, .unset, .unset, .unset] [])) (fun zt zk => XS.astore Xr464.here hx rfl (hb hby at_49) rfl rfl (l' := #[.val (.int p1), .val (.int p2), .val (.int p3), .val (.ref x460), .val (.ref x464), .unset, .unset, .unset, .unset, .unset]) rfl zk) ?_
  obtain ⟨T468, h468, X468, e468, E468, A468, D468, U468, st468⟩ := newO Xr464 hx hZr464 hor464 (hw _ (List.mem_of_getElem? (i := 37) rfl)) (hw _ (List.mem_of_getElem? (i := 38) rfl)) (hw _ (List.mem_of_getElem? (i := 39) rfl)) rfl (g := (mkF m 51 #[.val (.int p1), .val (.int p2), .val (.int p3), .val (.ref x460), .val (.ref x464), .unset, .unset, .unset, .unset, .unset] [])) rfl (hb hby at_51) (by decide) (by decide)
  obtain ⟨b468, g468⟩ : ∃ z, z = T464.heap.size := ⟨_, rfl⟩
  rw [← g468] at A468 D468 U468 st468
  have g_b468 : n0 ≤ b468 := Nat.le_trans (Nat.le_trans Z0 KK466.1) (Nat.le_of_eq g468.symm)
  have sz_b468 : h0.size ≤ b468 := Nat.le_trans KK466.1 (Nat.le_of_eq g468.symm)
  have f469 : Exa Z T464.heap x460 "java/lang/String" := (Eq460.keep Kq464)
  have ne470 : x460 ≠ b468 := Nat.ne_of_lt (Nat.lt_of_lt_of_le f469.lt (Nat.le_of_eq g468.symm))
  have f471 : Arv Z T464.heap t460 kb460 .byte (Int32.ofNat (cs1).length) (((cs1).map (fun c => c.toInt8.toInt32)).map Value.int) (.int (0 : Int32)) := (Bq460.keep Kq464 nin0)
  have ne472 : t460 ≠ b468 := Nat.ne_of_lt (Nat.lt_of_lt_of_le f471.lt (Nat.le_of_eq g468.symm))
  have ne473 : x464 ≠ b468 := Nat.ne_of_lt (Nat.lt_of_lt_of_le Eq464.lt (Nat.le_of_eq g468.symm))
  have ne474 : t464 ≠ b468 := Nat.ne_of_lt (Nat.lt_of_lt_of_le Bq464.lt (Nat.le_of_eq g468.symm))
  have C475 : CHr Z EL s.vm h0 T464.vm h468 := C465.trans (CHr.ext E468 C465.1)
  have K468 : Keep h0 h468 [] := KK466.ext E468
  have Fn468_values : Fld Z h468 b468 "com/example/uakari/uakari/CommandLine" "values" "Ljava/util/Map;" .null := D468 (Or.inr (hw _ (List.mem_of_getElem? (i := 95) rfl))) (ty := (.object "java/util/Map")) (by decide)
  have Fn468_given : Fld Z h468 b468 "com/example/uakari/uakari/CommandLine" "given" "Ljava/util/Set;" .null := D468 (Or.inr (hw _ (List.mem_of_getElem? (i := 119) rfl))) (ty := (.object "java/util/Set")) (by decide)
  have Fn468_operands : Fld Z h468 b468 "com/example/uakari/uakari/CommandLine" "operands" "Ljava/util/List;" .null := D468 (Or.inr (hw _ (List.mem_of_getElem? (i := 123) rfl))) (ty := (.object "java/util/List")) (by decide)
  have Fn468_usage : Fld Z h468 b468 "com/example/uakari/uakari/CommandLine" "usage" "Ljava/lang/String;" .null := D468 (Or.inr (hw _ (List.mem_of_getElem? (i := 125) rfl))) (ty := (.object "java/lang/String")) (by decide)
  refine Go.st (T' := T468.setTop (mkF m 54 #[.val (.int p1), .val (.int p2), .val (.int p3), .val (.ref x460), .val (.ref x464), .unset, .unset, .unset, .unset, .unset] [(.ref b468)])) (fun zt zk => st468 zt zk) ?_
  refine Go.st (T' := T468.setTop (mkF m 55 #[.val (.int p1), .val (.int p2), .val (.int p3), .val (.ref x460), .val (.ref x464), .unset, .unset, .unset, .unset, .unset] [(.ref b468), (.ref b468)])) (fun zt zk => XS.dup X468.here hx rfl (hb hby at_54) rfl rfl zk) ?_
  obtain ⟨T476, h476, X476, e476, E476, A476, D476, U476, st476⟩ := newO X468 hx hZr464 hor464 (hw _ (List.mem_of_getElem? (i := 40) rfl)) (hw _ (List.mem_of_getElem? (i := 41) rfl)) (hw _ (List.mem_of_getElem? (i := 42) rfl)) e468 (g := (mkF m 55 #[.val (.int p1), .val (.int p2), .val (.int p3), .val (.ref x460), .val (.ref x464), .unset, .unset, .unset, .unset, .unset] [(.ref b468), (.ref b468)])) rfl (hb hby at_55) (by decide) (by decide)
  obtain ⟨b476, g476⟩ : ∃ z, z = h468.size := ⟨_, rfl⟩
  rw [← g476] at A476 D476 U476 st476
  have g_b476 : n0 ≤ b476 := Nat.le_trans (Nat.le_trans Z0 K468.1) (Nat.le_of_eq g476.symm)
  have sz_b476 : h0.size ≤ b476 := Nat.le_trans K468.1 (Nat.le_of_eq g476.symm)
  have f477 : Exa Z h468 x460 "java/lang/String" := (f469.ext E468)
  have ne478 : x460 ≠ b476 := Nat.ne_of_lt (Nat.lt_of_lt_of_le f477.lt (Nat.le_of_eq g476.symm))
  have f479 : Arv Z h468 t460 kb460 .byte (Int32.ofNat (cs1).length) (((cs1).map (fun c => c.toInt8.toInt32)).map Value.int) (.int (0 : Int32)) := (f471.ext E468)
  have ne480 : t460 ≠ b476 := Nat.ne_of_lt (Nat.lt_of_lt_of_le f479.lt (Nat.le_of_eq g476.symm))
  have f481 : Exa Z h468 x464 "java/lang/String" := (Eq464.ext E468)
  have ne482 : x464 ≠ b476 := Nat.ne_of_lt (Nat.lt_of_lt_of_le f481.lt (Nat.le_of_eq g476.symm))
  have f483 : Arv Z h468 t464 kb464 .byte (Int32.ofNat (cs2).length) (((cs2).map (fun c => c.toInt8.toInt32)).map Value.int) (.int (0 : Int32)) := (Bq464.ext E468)
  have ne484 : t464 ≠ b476 := Nat.ne_of_lt (Nat.lt_of_lt_of_le f483.lt (Nat.le_of_eq g476.symm))
  have ne485 : b468 ≠ b476 := Nat.ne_of_lt (Nat.lt_of_lt_of_le A468.lt (Nat.le_of_eq g476.symm))
  have C486 : CHr Z EL s.vm h0 T464.vm h476 := C475.trans (CHr.ext E476 C475.1)
  have K476 : Keep h0 h476 [] := K468.ext E476
  have Fn476_modCount : Fld Z h476 b476 "java/util/AbstractList" "modCount" "I" (.int (0 : Int32)) := D476 (Or.inl (hw _ (List.mem_of_getElem? (i := 60) rfl))) (ty := .int) (by decide)
  have Fn476_elementData : Fld Z h476 b476 "java/util/ArrayList" "elementData" "[Ljava/lang/Object;" .null := D476 (Or.inl (hw _ (List.mem_of_getElem? (i := 63) rfl))) (ty := (.array (.object "java/lang/Object"))) (by decide)
  have Fn476_size : Fld Z h476 b476 "java/util/ArrayList" "size" "I" (.int (0 : Int32)) := D476 (Or.inl (hw _ (List.mem_of_getElem? (i := 136) rfl))) (ty := .int) (by decide)
  refine Go.st (T' := T476.setTop (mkF m 58 #[.val (.int p1), .val (.int p2), .val (.int p3), .val (.ref x460), .val (.ref x464), .unset, .unset, .unset, .unset, .unset] [(.ref b476), (.ref b468), (.ref b468)])) (fun zt zk => st476 zt zk) ?_
  refine Go.st (T' := T476.setTop (mkF m 59 #[.val (.int p1), .val (.int p2), .val (.int p3), .val (.ref x460), .val (.ref x464), .unset, .unset, .unset, .unset, .unset] [(.ref b476), (.ref b476), (.ref b468), (.ref b468)])) (fun zt zk => XS.dup X476.here hx rfl (hb hby at_58) rfl rfl zk) ?_
  obtain ⟨vr487, _, ⟨T487, L487, k487, n487⟩, -, X487, ⟨Lc487, hQ487, l487, y487, z487⟩, st487⟩ := X476.specialBack hx (y := (⟨"java/util/ArrayList", "<init>", "()V"⟩ : MethodName)) rfl hor464 (mvT hZr464 (hw _ (List.mem_of_getElem? (i := 43) rfl))) (mvT hZr464 (hw _ (List.mem_of_getElem? (i := 44) rfl))) (mvT hZr464 (hw _ (List.mem_of_getElem? (i := 45) rfl))) (by decide) (backOf (W := 3) (rmAL l Z a0 hw b476 de h476 n0 (Nat.le_trans Z0 K476.1) A476 g_b476 Fn476_modCount Fn476_elementData Fn476_size Sd (X00.keep K476 all0)) hZr464 (hw _ (List.mem_of_getElem? (i := 45) rfl)) (hw _ (List.mem_of_getElem? (i := 42) rfl)) (by decide) (by decide)) (g := (mkF m 59 #[.val (.int p1), .val (.int p2), .val (.int p3), .val (.ref x460), .val (.ref x464), .unset, .unset, .unset, .unset, .unset] [(.ref b476), (.ref b476), (.ref b468), (.ref b468)])) rfl (by rw [hml]; rfl) (Steps.refl _) (a := b476) (argsL := []) (rest := [(.ref b476), (.ref b468), (.ref b468)]) (lenOf pd_a8eb9 rfl) rfl (by show 2 * 0 + _ ≤ _; exact Nat.le_of_eq rfl) (hb hby at_59) (fun _ _ => ⟨rfl, e476, (by decide : 10 + 0 ≤ _), (by decide : 23 + 0 ≤ _)⟩)
  dsimp only [Pt.U, Pt.locs, Pt.cells, Pt.slots] at X487 l487 y487 z487 st487 hQ487
  subst l487 y487 z487
  obtain ⟨rfl, Nq487, Kq487, Eq487, Fs487⟩ := hQ487
  have C488 : CHr Z EL s.vm h0 T464.vm T487.heap := C486.trans (CHr.keep Kq487 (allS (Safe.exa hZr464.alike A476 (by decide) (by decide)) all0) C486.1)
  have KK489 : Keep h0 T487.heap [] := K476.trans Kq487 (allS (Or.inr sz_b476) all0)
  have NN490 := Fr.app NN467 Nq487
  refine Go.st (T' := T487.setTop (mkF m 62 #[.val (.int p1), .val (.int p2), .val (.int p3), .val (.ref x460), .val (.ref x464), .unset, .unset, .unset, .unset, .unset] [(.ref b476), (.ref b468), (.ref b468)])) (fun zt zk => st487.trans zk) ?_
  refine Go.st (T' := T487.setTop (mkF m 63 #[.val (.int p1), .val (.int p2), .val (.int p3), .val (.ref x460), .val (.ref x464), .unset, .unset, .unset, .unset, .unset] [.null, (.ref b476), (.ref b468), (.ref b468)])) (fun zt zk => XS.aconstNull X487.here hx rfl (hb hby at_62) zk) ?_
  refine Go.st (T' := T487.setTop (mkF m 64 #[.val (.int p1), .val (.int p2), .val (.int p3), .val (.ref x460), .val (.ref x464), .unset, .unset, .unset, .unset, .unset] [.null, .null, (.ref b476), (.ref b468), (.ref b468)])) (fun zt zk => XS.aconstNull X487.here hx rfl (hb hby at_63) zk) ?_
  refine Go.st (T' := T487.setTop (mkF m 65 #[.val (.int p1), .val (.int p2), .val (.int p3), .val (.ref x460), .val (.ref x464), .unset, .unset, .unset, .unset, .unset] [.null, .null, .null, (.ref b476), (.ref b468), (.ref b468)])) (fun zt zk => XS.aconstNull X487.here hx rfl (hb hby at_64) zk) ?_
  refine Go.st (T' := T487.setTop (mkF m 67 #[.val (.int p1), .val (.int p2), .val (.int p3), .val (.ref x460), .val (.ref x464), .unset, .unset, .unset, .unset, .unset] [(.ref x464), .null, .null, .null, (.ref b476), (.ref b468), (.ref b468)])) (fun zt zk => XS.aload X487.here hx rfl (hb hby at_65) rfl rfl zk) ?_
  have f491 : Exa Z T487.heap b468 "com/example/uakari/uakari/CommandLine" := ((A468.ext E476).keep Kq487)
  have f492 : Fld Z T487.heap b468 "com/example/uakari/uakari/CommandLine" "values" "Ljava/util/Map;" .null := ((Fn468_values.ext E476).keep Kq487 (ninS ne485 nin0))
  have f493 : Fld Z T487.heap b468 "com/example/uakari/uakari/CommandLine" "given" "Ljava/util/Set;" .null := ((Fn468_given.ext E476).keep Kq487 (ninS ne485 nin0))
  have f494 : Fld Z T487.heap b468 "com/example/uakari/uakari/CommandLine" "operands" "Ljava/util/List;" .null := ((Fn468_operands.ext E476).keep Kq487 (ninS ne485 nin0))
  have f495 : Fld Z T487.heap b468 "com/example/uakari/uakari/CommandLine" "usage" "Ljava/lang/String;" .null := ((Fn468_usage.ext E476).keep Kq487 (ninS ne485 nin0))
  obtain ⟨vr496, _, ⟨T496, L496, k496, n496⟩, -, X496, ⟨Lc496, hQ496, l496, y496, z496⟩, st496⟩ := X487.specialBack hx (y := (⟨"com/example/uakari/uakari/CommandLine", "<init>", "(Ljava/util/List;Ljava/util/Set;Ljava/util/Set;Ljava/util/Set;Ljava/lang/String;)V"⟩ : MethodName)) rfl hor464 (mvT hZr464 (hw _ (List.mem_of_getElem? (i := 64) rfl))) (mvT hZr464 (hw _ (List.mem_of_getElem? (i := 65) rfl))) (mvT hZr464 (hw _ (List.mem_of_getElem? (i := 66) rfl))) (by decide) (backOf (W := 1) (rmCL l Z a0 hw b468 b476 x464 T487.heap n0 (Nat.le_trans Z0 KK489.1) f491 g_b468 f492 f493 f494 f495 Eq487 Fs487 (Ne.symm ne485) de Sd (X00.keep KK489 all0)) hZr464 (hw _ (List.mem_of_getElem? (i := 66) rfl)) (hw _ (List.mem_of_getElem? (i := 39) rfl)) (by decide) (by decide)) (g := (mkF m 67 #[.val (.int p1), .val (.int p2), .val (.int p3), .val (.ref x460), .val (.ref x464), .unset, .unset, .unset, .unset, .unset] [(.ref x464), .null, .null, .null, (.ref b476), (.ref b468), (.ref b468)])) rfl (by rw [hml]; rfl) (Steps.refl _) (a := b468) (argsL := [(.ref b476), .null, .null, .null, (.ref x464)]) (rest := [(.ref b468)]) (lenOf pd_4bfe6ae rfl) rfl (by show 2 * 0 + _ ≤ _; exact Nat.le_of_eq rfl) (hb hby at_67) (fun _ _ => ⟨rfl, rfl, (by decide : 10 + 4 ≤ _), (by decide : 23 + 24 ≤ _)⟩)
  dsimp only [Pt.U, Pt.locs, Pt.cells, Pt.slots] at X496 l496 y496 z496 st496 hQ496
  subst l496 y496 z496
  obtain ⟨rfl, Nq496, Kq496, Eq496, Fu496⟩ := hQ496
  have C497 : CHr Z EL s.vm h0 T464.vm T496.heap := C488.trans (CHr.keep Kq496 (allS (Safe.exa hZr464.alike f491 (by decide) (by decide)) all0) C488.1)
  have KK498 : Keep h0 T496.heap [] := KK489.trans Kq496 (allS (Or.inr sz_b468) all0)
  have NN499 := Fr.app NN490 Nq496
  refine Go.st (T' := T496.setTop (mkF m 70 #[.val (.int p1), .val (.int p2), .val (.int p3), .val (.ref x460), .val (.ref x464), .unset, .unset, .unset, .unset, .unset] [(.ref b468)])) (fun zt zk => st496.trans zk) ?_
  refine Go.st (T' := T496.setTop (mkF m 72 #[.val (.int p1), .val (.int p2), .val (.int p3), .val (.ref x460), .val (.ref x464), .val (.ref b468), .unset, .unset, .unset, .unset] [])) (fun zt zk => XS.astore X496.here hx rfl (hb hby at_70) rfl rfl (l' := #[.val (.int p1), .val (.int p2), .val (.int p3), .val (.ref x460), .val (.ref x464), .val (.ref b468), .unset, .unset, .unset, .unset]) rfl zk) ?_
  refine Go.st (T' := T496.setTop (mkF m 74 #[.val (.int p1), .val (.int p2), .val (.int p3), .val (.ref x460), .val (.ref x464), .val (.ref b468), .unset, .unset, .unset, .unset] [(.ref b468)])) (fun zt zk => XS.aload X496.here hx rfl (hb hby at_72) rfl rfl zk) ?_
  refine Go.st (T' := T496.setTop (mkF m 75 #[.val (.int p1), .val (.int p2), .val (.int p3), .val (.ref x460), .val (.ref x464), .val (.ref b468), .unset, .unset, .unset, .unset] [(.ref x460), (.ref b468)])) (fun zt zk => XS.aloadN X496.here hx rfl (hb hby at_74) rfl rfl zk) ?_
  have f500 : Exa Z T496.heap x460 "java/lang/String" := (((f477.ext E476).keep Kq487).keep Kq496)
  have f501 : Fld Z T496.heap x460 "java/lang/String" "value" "[B" (.ref t460) := (((((Vq460.keep Kq464 nin0).ext E468).ext E476).keep Kq487 (ninS ne478 nin0)).keep Kq496 (ninS ne470 nin0))
  have f502 : Fld Z T496.heap x460 "java/lang/String" "coder" "B" (.int (0 : Int32)) := (((((Cq460.keep Kq464 nin0).ext E468).ext E476).keep Kq487 (ninS ne478 nin0)).keep Kq496 (ninS ne470 nin0))
  have f503 : Arv Z T496.heap t460 kb460 .byte (Int32.ofNat (cs1).length) (((cs1).map (fun c => c.toInt8.toInt32)).map Value.int) (.int (0 : Int32)) := (((f479.ext E476).keep Kq487 (ninS ne480 nin0)).keep Kq496 (ninS ne472 nin0))
  have f504 : Exa Z T496.heap x464 "java/lang/String" := (((f481.ext E476).keep Kq487).keep Kq496)
  have f505 : Fld Z T496.heap x464 "java/lang/String" "value" "[B" (.ref t464) := ((((Vq464.ext E468).ext E476).keep Kq487 (ninS ne482 nin0)).keep Kq496 (ninS ne473 nin0))
  have f506 : Fld Z T496.heap x464 "java/lang/String" "coder" "B" (.int (0 : Int32)) := ((((Cq464.ext E468).ext E476).keep Kq487 (ninS ne482 nin0)).keep Kq496 (ninS ne473 nin0))
  have f507 : Arv Z T496.heap t464 kb464 .byte (Int32.ofNat (cs2).length) (((cs2).map (fun c => c.toInt8.toInt32)).map Value.int) (.int (0 : Int32)) := (((f483.ext E476).keep Kq487 (ninS ne484 nin0)).keep Kq496 (ninS ne474 nin0))
  obtain ⟨cq508, kq508, q508a, q508b, q508c⟩ := isOf hZr464 rfl Eq496
  obtain ⟨vr508, _, ⟨T508, L508, k508, n508⟩, -, X508, hs508, hg508, ⟨Lc508, hQ508, l508, y508, z508⟩, st508⟩ := X496.virtualBackS hx (y := (⟨"com/example/uakari/uakari/CommandLine", "error", "(Ljava/lang/String;)Lcom/example/uakari/uakari/UsageException;"⟩ : MethodName)) (z := (⟨"com/example/uakari/uakari/CommandLine", "error", "(Ljava/lang/String;)Lcom/example/uakari/uakari/UsageException;"⟩ : MethodName)) hor464 (mvT hZr464 (hw _ (List.mem_of_getElem? (i := 137) rfl))) (mvT hZr464 (hw _ (List.mem_of_getElem? (i := 138) rfl))) (notFace_of_selects (args := #[]) (mvT hZr464 (hw _ (List.mem_of_getElem? (i := 140) rfl)))) (mvT hZr464 (hw _ (List.mem_of_getElem? (i := 140) rfl))) (mvT hZr464 (hw _ (List.mem_of_getElem? (i := 139) rfl))) (by decide) (backOfSKH (s := s) (vm0 := T464.vm) (W := 0) (rmErr l Z a0 hw b468 x460 t460 x464 t464 kb460 kb464 cs1 cs2 T496.heap n0 (Nat.le_trans Z0 KK498.1) G1 O2 P5 (X00.keep KK498 all0) Fu496 f500 f501 f502 f503 hp1 f504 f505 f506 f507 hp2 hl1 hl2 hEL wS hls GU SU rGU GP SP rGP) hZr464 (hw _ (List.mem_of_getElem? (i := 141) rfl)) (hw _ (List.mem_of_getElem? (i := 39) rfl)) (by decide) (by decide) hEL C497.1 (Vm.MethodsKnown.alikeC hSr464.1.alike hTK) (Vm.FramesKnown.alikeC hSr464.1.alike hBelow)) q508a q508c (g := (mkF m 75 #[.val (.int p1), .val (.int p2), .val (.int p3), .val (.ref x460), .val (.ref x464), .val (.ref b468), .unset, .unset, .unset, .unset] [(.ref x460), (.ref b468)])) rfl (by rw [hml]; rfl) (Steps.refl _) (argsL := [(.ref x460)]) (rest := []) (lenOf pd_6660a02 rfl) rfl (by show 2 * 0 + _ ≤ _; exact Nat.le_of_eq rfl) (hb hby at_75) (fun _ _ => ⟨rfl, rfl, (by decide : 14 + 8 ≤ _), (by decide : 47 + 2835 ≤ _)⟩)
  dsimp only [Pt.U, Pt.locs, Pt.cells, Pt.slots] at X508 l508 y508 z508 st508 hQ508 hs508 hg508
  subst l508 y508
  obtain ⟨z508, CC508⟩ := z508
  subst z508
  obtain ⟨Nq508, Kq508, ex508, rfl, Eq508, xm508, tm508, km508, Dm508, Em508, Cm508, Vm508, Bm508⟩ := hQ508
  obtain ⟨Xr508, hSr508, hZr508, hor508⟩ := rebS (s := s) (vm0 := T464.vm) hSr464 (by rw [(rfl : T496.heap = T496.heap)]; exact (Nat.le_trans (Nat.le_trans (Nat.le_trans (Nat.le_trans (Nat.le_refl T464.heap.size) E468.1) E476.1) Kq487.1) Kq496.1)) X508 hs508 hg508 hZr464 hor464
  have C509 : CHr Z EL s.vm h0 T508.vm T508.heap := C497.trans CC508
  have KK510 : Keep h0 T508.heap [] := KK498.trans Kq508 all0
  have NN511 := Fr.app NN499 Nq508
  obtain ⟨ms, hms⟩ : ∃ z, z = (cs1 ++ own_U ++ cs2) := ⟨_, rfl⟩
  rw [← hms] at Bm508
  have hlm : ms.length = cs1.length + 9 + cs2.length := by rw [hms, List.length_append, List.length_append]; rfl
  have hpm : ∀ c ∈ ms, ¬ c < 0 ∧ ¬ (255 : Int32) < c := by
    rw [hms]
    intro c hc
    rcases List.mem_append.mp hc with hc | hc
    · rcases List.mem_append.mp hc with hc | hc
      · exact hp1 c hc
      · exact own_upU c hc
    · exact hp2 c hc
  have hcdm : StrChars.Road.CodA ms 0 (Int32.ofNat (ms).length) (((ms).map (fun c => c.toInt8.toInt32)).map Value.int) := StrChars.Road.codOf (n := (ms).length) rfl (fun x hx => (hpm x hx).2)
  refine Go.st (T' := T508.setTop (mkF m 78 #[.val (.int p1), .val (.int p2), .val (.int p3), .val (.ref x460), .val (.ref x464), .val (.ref b468), .unset, .unset, .unset, .unset] [(.ref ex508)])) (fun zt zk => st508.trans zk) ?_
  refine Go.st (T' := T508.setTop (mkF m 80 #[.val (.int p1), .val (.int p2), .val (.int p3), .val (.ref x460), .val (.ref x464), .val (.ref b468), .val (.ref ex508), .unset, .unset, .unset] [])) (fun zt zk => XS.astore Xr508.here hx rfl (hb hby at_78) rfl rfl (l' := #[.val (.int p1), .val (.int p2), .val (.int p3), .val (.ref x460), .val (.ref x464), .val (.ref b468), .val (.ref ex508), .unset, .unset, .unset]) rfl zk) ?_
  refine Go.st (T' := T508.setTop (mkF m 82 #[.val (.int p1), .val (.int p2), .val (.int p3), .val (.ref x460), .val (.ref x464), .val (.ref b468), .val (.ref ex508), .unset, .unset, .unset] [(.ref ex508)])) (fun zt zk => XS.aload Xr508.here hx rfl (hb hby at_80) rfl rfl zk) ?_
  refine Go.st (T' := T508.setTop (mkF m 87 #[.val (.int p1), .val (.int p2), .val (.int p3), .val (.ref x460), .val (.ref x464), .val (.ref b468), .val (.ref ex508), .unset, .unset, .unset] [])) (fun zt zk => XS.ifnonnullYes Xr508.here hx rfl (pc0 := 82) (pc' := 87) rfl (hb hby at_82) rfl (by decide) (by decide) zk) ?_
  refine Go.st (T' := T508.setTop (mkF m 89 #[.val (.int p1), .val (.int p2), .val (.int p3), .val (.ref x460), .val (.ref x464), .val (.ref b468), .val (.ref ex508), .unset, .unset, .unset] [(.ref ex508)])) (fun zt zk => XS.aload Xr508.here hx rfl (hb hby at_87) rfl rfl zk) ?_
  obtain ⟨cq512, kq512, q512a, q512b, q512c⟩ := isOf hZr508 rfl Eq508
  obtain ⟨vr512, _, ⟨T512, L512, k512, n512⟩, -, X512, ⟨Lc512, hQ512, l512, y512, z512⟩, st512⟩ := Xr508.virtualBackUp hx (x := (⟨"com/example/uakari/uakari/UsageException", "getMessage", "()Ljava/lang/String;"⟩ : MethodName)) (y := (⟨"java/lang/Throwable", "getMessage", "()Ljava/lang/String;"⟩ : MethodName)) (owner := "java/lang/Throwable") hor508 (mvT hZr508 (hw _ (List.mem_of_getElem? (i := 307) rfl))) (mvT hZr508 (hw _ (List.mem_of_getElem? (i := 308) rfl))) (mvT hZr508 (hw _ (List.mem_of_getElem? (i := 309) rfl))) (by decide) (mvT hZr508 (hw _ (List.mem_of_getElem? (i := 311) rfl))) (mvT hZr508 (hw _ (List.mem_of_getElem? (i := 310) rfl))) (backOf (W := 0) (rmGM l Z a0 hw ex508 xm508 T508.heap n0 (Nat.le_trans Z0 KK510.1) Dm508) hZr508 (hw _ (List.mem_of_getElem? (i := 312) rfl)) (hw _ (List.mem_of_getElem? (i := 268) rfl)) (by decide) (by decide)) q512a q512c (g := (mkF m 89 #[.val (.int p1), .val (.int p2), .val (.int p3), .val (.ref x460), .val (.ref x464), .val (.ref b468), .val (.ref ex508), .unset, .unset, .unset] [(.ref ex508)])) rfl (by rw [hml]; rfl) (Steps.refl _) (argsL := []) (rest := []) (lenOf pd_f95a757 rfl) rfl (by show 2 * 0 + _ ≤ _; exact Nat.le_of_eq rfl) (hb hby at_89) (fun _ _ => ⟨rfl, rfl, (by decide : 22 + 0 ≤ _), (by decide : 2882 + 0 ≤ _)⟩)
  dsimp only [Pt.U, Pt.locs, Pt.cells, Pt.slots] at X512 l512 y512 z512 st512 hQ512
  subst l512 y512 z512
  obtain ⟨rfl, Nq512, eq512⟩ := hQ512
  have NN513 := Fr.app NN511 Nq512
  refine Go.st (T' := T512.setTop (mkF m 92 #[.val (.int p1), .val (.int p2), .val (.int p3), .val (.ref x460), .val (.ref x464), .val (.ref b468), .val (.ref ex508), .unset, .unset, .unset] [(.ref xm508)])) (fun zt zk => st512.trans zk) ?_
  refine Go.st (T' := T512.setTop (mkF m 94 #[.val (.int p1), .val (.int p2), .val (.int p3), .val (.ref x460), .val (.ref x464), .val (.ref b468), .val (.ref ex508), .val (.ref xm508), .unset, .unset] [])) (fun zt zk => XS.astore X512.here hx rfl (hb hby at_92) rfl rfl (l' := #[.val (.int p1), .val (.int p2), .val (.int p3), .val (.ref x460), .val (.ref x464), .val (.ref b468), .val (.ref ex508), .val (.ref xm508), .unset, .unset]) rfl zk) ?_
  refine Go.st (T' := T512.setTop (mkF m 96 #[.val (.int p1), .val (.int p2), .val (.int p3), .val (.ref x460), .val (.ref x464), .val (.ref b468), .val (.ref ex508), .val (.ref xm508), .unset, .unset] [(.ref xm508)])) (fun zt zk => XS.aload X512.here hx rfl (hb hby at_94) rfl rfl zk) ?_
  refine Go.st (T' := T512.setTop (mkF m 101 #[.val (.int p1), .val (.int p2), .val (.int p3), .val (.ref x460), .val (.ref x464), .val (.ref b468), .val (.ref ex508), .val (.ref xm508), .unset, .unset] [])) (fun zt zk => XS.ifnonnullYes X512.here hx rfl (pc0 := 96) (pc' := 101) rfl (hb hby at_96) rfl (by decide) (by decide) zk) ?_
  refine Go.st (T' := T512.setTop (mkF m 102 #[.val (.int p1), .val (.int p2), .val (.int p3), .val (.ref x460), .val (.ref x464), .val (.ref b468), .val (.ref ex508), .val (.ref xm508), .unset, .unset] [(.ref x460)])) (fun zt zk => XS.aloadN X512.here hx rfl (hb hby at_101) rfl rfl zk) ?_
  have f514 : Exa Z T508.heap x460 "java/lang/String" := (f500.keep Kq508)
  have f515 : Fld Z T508.heap x460 "java/lang/String" "value" "[B" (.ref t460) := (f501.keep Kq508 nin0)
  have f516 : Fld Z T508.heap x460 "java/lang/String" "coder" "B" (.int (0 : Int32)) := (f502.keep Kq508 nin0)
  have f517 : Arv Z T508.heap t460 kb460 .byte (Int32.ofNat (cs1).length) (((cs1).map (fun c => c.toInt8.toInt32)).map Value.int) (.int (0 : Int32)) := (f503.keep Kq508 nin0)
  obtain ⟨cq518, kq518, q518a, q518b, q518c⟩ := isOf hZr508 eq512 f514
  obtain ⟨vr518, _, ⟨T518, L518, k518, n518⟩, -, X518, ⟨Lc518, hQ518, l518, y518, z518⟩, st518⟩ := X512.virtualBack hx (y := (⟨"java/lang/String", "length", "()I"⟩ : MethodName)) (z := (⟨"java/lang/String", "length", "()I"⟩ : MethodName)) hor508 (mvT hZr508 (hw _ (List.mem_of_getElem? (i := 313) rfl))) (mvT hZr508 (hw _ (List.mem_of_getElem? (i := 177) rfl))) (notFace_of_selects (args := #[]) (mvT hZr508 (hw _ (List.mem_of_getElem? (i := 179) rfl)))) (mvT hZr508 (hw _ (List.mem_of_getElem? (i := 179) rfl))) (mvT hZr508 (hw _ (List.mem_of_getElem? (i := 178) rfl))) (by decide) (StrChars.Road.lenW (W := 0) hZr508 hln (kI := 4) (hw _ (List.mem_of_getElem? (i := 5) rfl)) f514 f515 f516 f517 hcd1 (own_up _ hp1) (O2.ext (X00.keep KK510 all0).2) P5 (by omega) (by decide) (by decide)) q518a q518c (g := (mkF m 102 #[.val (.int p1), .val (.int p2), .val (.int p3), .val (.ref x460), .val (.ref x464), .val (.ref b468), .val (.ref ex508), .val (.ref xm508), .unset, .unset] [(.ref x460)])) rfl (by rw [hml]; rfl) (Steps.refl _) (argsL := []) (rest := []) (lenOf pd_a8eac rfl) rfl (by show 2 * 0 + _ ≤ _; exact Nat.le_of_eq rfl) (hb hby at_102) (fun _ _ => ⟨rfl, eq512, (by decide : 22 + 0 ≤ _), (by decide : 2882 + 0 ≤ _)⟩)
  dsimp only [Pt.U, Pt.locs, Pt.cells, Pt.slots] at X518 l518 y518 z518 st518 hQ518
  subst l518 y518 z518
  obtain ⟨rfl, rfl, eq518⟩ := hQ518
  have Nq518 : Fr n0 ([] : List Loc) := Fr.nil n0
  have NN519 := Fr.app NN513 Nq518
  refine Go.st (T' := T518.setTop (mkF m 105 #[.val (.int p1), .val (.int p2), .val (.int p3), .val (.ref x460), .val (.ref x464), .val (.ref b468), .val (.ref ex508), .val (.ref xm508), .unset, .unset] [(.int (Int32.ofNat (cs1).length))])) (fun zt zk => st518.trans zk) ?_
  refine Go.st (T' := T518.setTop (mkF m 107 #[.val (.int p1), .val (.int p2), .val (.int p3), .val (.ref x460), .val (.ref x464), .val (.ref b468), .val (.ref ex508), .val (.ref xm508), .val (.int (Int32.ofNat (cs1).length)), .unset] [])) (fun zt zk => XS.istore X518.here hx rfl (hb hby at_105) rfl (l' := #[.val (.int p1), .val (.int p2), .val (.int p3), .val (.ref x460), .val (.ref x464), .val (.ref b468), .val (.ref ex508), .val (.ref xm508), .val (.int (Int32.ofNat (cs1).length)), .unset]) rfl zk) ?_
  refine Go.st (T' := T518.setTop (mkF m 109 #[.val (.int p1), .val (.int p2), .val (.int p3), .val (.ref x460), .val (.ref x464), .val (.ref b468), .val (.ref ex508), .val (.ref xm508), .val (.int (Int32.ofNat (cs1).length)), .unset] [(.ref x464)])) (fun zt zk => XS.aload X518.here hx rfl (hb hby at_107) rfl rfl zk) ?_
  have f520 : Exa Z T508.heap x464 "java/lang/String" := (f504.keep Kq508)
  have f521 : Fld Z T508.heap x464 "java/lang/String" "value" "[B" (.ref t464) := (f505.keep Kq508 nin0)
  have f522 : Fld Z T508.heap x464 "java/lang/String" "coder" "B" (.int (0 : Int32)) := (f506.keep Kq508 nin0)
  have f523 : Arv Z T508.heap t464 kb464 .byte (Int32.ofNat (cs2).length) (((cs2).map (fun c => c.toInt8.toInt32)).map Value.int) (.int (0 : Int32)) := (f507.keep Kq508 nin0)
  obtain ⟨LX524, XX524, NX524⟩ : ∃ LX, Stand p l e room_1 (s.setVm T508.vm) m #[(.int p1), (.int p2), (.int p3)] below meth c T518 LX 22 2882 ∧ Fr n0 LX := ⟨_, X518, NN519⟩
  obtain ⟨cq525, kq525, q525a, q525b, q525c⟩ := isOf hZr508 eq518 f520
  obtain ⟨vr525, _, ⟨T525, L525, k525, n525⟩, -, X525, ⟨Lc525, hQ525, l525, y525, z525⟩, st525⟩ := XX524.virtualBack hx (y := (⟨"java/lang/String", "length", "()I"⟩ : MethodName)) (z := (⟨"java/lang/String", "length", "()I"⟩ : MethodName)) hor508 (mvT hZr508 (hw _ (List.mem_of_getElem? (i := 313) rfl))) (mvT hZr508 (hw _ (List.mem_of_getElem? (i := 177) rfl))) (notFace_of_selects (args := #[]) (mvT hZr508 (hw _ (List.mem_of_getElem? (i := 179) rfl)))) (mvT hZr508 (hw _ (List.mem_of_getElem? (i := 179) rfl))) (mvT hZr508 (hw _ (List.mem_of_getElem? (i := 178) rfl))) (by decide) (StrChars.Road.lenW (W := 0) hZr508 hln (kI := 4) (hw _ (List.mem_of_getElem? (i := 5) rfl)) f520 f521 f522 f523 hcd2 (own_up _ hp2) (O2.ext (X00.keep KK510 all0).2) P5 (by omega) (by decide) (by decide)) q525a q525c (g := (mkF m 109 #[.val (.int p1), .val (.int p2), .val (.int p3), .val (.ref x460), .val (.ref x464), .val (.ref b468), .val (.ref ex508), .val (.ref xm508), .val (.int (Int32.ofNat (cs1).length)), .unset] [(.ref x464)])) rfl (by rw [hml]; rfl) (Steps.refl _) (argsL := []) (rest := []) (lenOf pd_a8eac rfl) rfl (by show 2 * 0 + _ ≤ _; exact Nat.le_of_eq rfl) (hb hby at_109) (fun _ _ => ⟨rfl, eq518, (by decide : 22 + 0 ≤ _), (by decide : 2882 + 0 ≤ _)⟩)
  dsimp only [Pt.U, Pt.locs, Pt.cells, Pt.slots] at X525 l525 y525 z525 st525 hQ525
  subst l525 y525 z525
  obtain ⟨rfl, rfl, eq525⟩ := hQ525
  have Nq525 : Fr n0 ([] : List Loc) := Fr.nil n0
  have NN526 := Fr.app NX524 Nq525
  refine Go.st (T' := T525.setTop (mkF m 112 #[.val (.int p1), .val (.int p2), .val (.int p3), .val (.ref x460), .val (.ref x464), .val (.ref b468), .val (.ref ex508), .val (.ref xm508), .val (.int (Int32.ofNat (cs1).length)), .unset] [(.int (Int32.ofNat (cs2).length))])) (fun zt zk => st525.trans zk) ?_
  refine Go.st (T' := T525.setTop (mkF m 114 #[.val (.int p1), .val (.int p2), .val (.int p3), .val (.ref x460), .val (.ref x464), .val (.ref b468), .val (.ref ex508), .val (.ref xm508), .val (.int (Int32.ofNat (cs1).length)), .val (.int (Int32.ofNat (cs2).length))] [])) (fun zt zk => XS.istore X525.here hx rfl (hb hby at_112) rfl (l' := #[.val (.int p1), .val (.int p2), .val (.int p3), .val (.ref x460), .val (.ref x464), .val (.ref b468), .val (.ref ex508), .val (.ref xm508), .val (.int (Int32.ofNat (cs1).length)), .val (.int (Int32.ofNat (cs2).length))]) rfl zk) ?_
  refine Go.st (T' := T525.setTop (mkF m 116 #[.val (.int p1), .val (.int p2), .val (.int p3), .val (.ref x460), .val (.ref x464), .val (.ref b468), .val (.ref ex508), .val (.ref xm508), .val (.int (Int32.ofNat (cs1).length)), .val (.int (Int32.ofNat (cs2).length))] [(.ref xm508)])) (fun zt zk => XS.aload X525.here hx rfl (hb hby at_114) rfl rfl zk) ?_
  obtain ⟨cq527, kq527, q527a, q527b, q527c⟩ := isOf hZr508 eq525 Em508
  obtain ⟨vr527, _, ⟨T527, L527, k527, n527⟩, -, X527, ⟨Lc527, hQ527, l527, y527, z527⟩, st527⟩ := X525.virtualBack hx (y := (⟨"java/lang/String", "length", "()I"⟩ : MethodName)) (z := (⟨"java/lang/String", "length", "()I"⟩ : MethodName)) hor508 (mvT hZr508 (hw _ (List.mem_of_getElem? (i := 313) rfl))) (mvT hZr508 (hw _ (List.mem_of_getElem? (i := 177) rfl))) (notFace_of_selects (args := #[]) (mvT hZr508 (hw _ (List.mem_of_getElem? (i := 179) rfl)))) (mvT hZr508 (hw _ (List.mem_of_getElem? (i := 179) rfl))) (mvT hZr508 (hw _ (List.mem_of_getElem? (i := 178) rfl))) (by decide) (StrChars.Road.lenW (W := 0) hZr508 hln (kI := 4) (hw _ (List.mem_of_getElem? (i := 5) rfl)) Em508 Vm508 Cm508 Bm508 hcdm (own_up _ hpm) (O2.ext (X00.keep KK510 all0).2) P5 (by omega) (by decide) (by decide)) q527a q527c (g := (mkF m 116 #[.val (.int p1), .val (.int p2), .val (.int p3), .val (.ref x460), .val (.ref x464), .val (.ref b468), .val (.ref ex508), .val (.ref xm508), .val (.int (Int32.ofNat (cs1).length)), .val (.int (Int32.ofNat (cs2).length))] [(.ref xm508)])) rfl (by rw [hml]; rfl) (Steps.refl _) (argsL := []) (rest := []) (lenOf pd_a8eac rfl) rfl (by show 2 * 0 + _ ≤ _; exact Nat.le_of_eq rfl) (hb hby at_116) (fun _ _ => ⟨rfl, eq525, (by decide : 22 + 0 ≤ _), (by decide : 2882 + 0 ≤ _)⟩)
  dsimp only [Pt.U, Pt.locs, Pt.cells, Pt.slots] at X527 l527 y527 z527 st527 hQ527
  subst l527 y527 z527
  obtain ⟨rfl, rfl, eq527⟩ := hQ527
  have Nq527 : Fr n0 ([] : List Loc) := Fr.nil n0
  have NN528 := Fr.app NN526 Nq527
  refine Go.st (T' := T527.setTop (mkF m 119 #[.val (.int p1), .val (.int p2), .val (.int p3), .val (.ref x460), .val (.ref x464), .val (.ref b468), .val (.ref ex508), .val (.ref xm508), .val (.int (Int32.ofNat (cs1).length)), .val (.int (Int32.ofNat (cs2).length))] [(.int (Int32.ofNat (ms).length))])) (fun zt zk => st527.trans zk) ?_
  refine Go.st (T' := T527.setTop (mkF m 121 #[.val (.int p1), .val (.int p2), .val (.int p3), .val (.ref x460), .val (.ref x464), .val (.ref b468), .val (.ref ex508), .val (.ref xm508), .val (.int (Int32.ofNat (cs1).length)), .val (.int (Int32.ofNat (cs2).length))] [(.int (Int32.ofNat (cs1).length)), (.int (Int32.ofNat (ms).length))])) (fun zt zk => XS.iload X527.here hx rfl (hb hby at_119) rfl zk) ?_
  refine Go.st (T' := T527.setTop (mkF m 123 #[.val (.int p1), .val (.int p2), .val (.int p3), .val (.ref x460), .val (.ref x464), .val (.ref b468), .val (.ref ex508), .val (.ref xm508), .val (.int (Int32.ofNat (cs1).length)), .val (.int (Int32.ofNat (cs2).length))] [(.int (9 : Int32)), (.int (Int32.ofNat (cs1).length)), (.int (Int32.ofNat (ms).length))])) (fun zt zk => XS.bipush X527.here hx rfl (hb hby at_121) zk) ?_
  refine Go.st (T' := T527.setTop (mkF m 124 #[.val (.int p1), .val (.int p2), .val (.int p3), .val (.ref x460), .val (.ref x464), .val (.ref b468), .val (.ref ex508), .val (.ref xm508), .val (.int (Int32.ofNat (cs1).length)), .val (.int (Int32.ofNat (cs2).length))] [(.int ((Int32.ofNat (cs1).length) + (9 : Int32))), (.int (Int32.ofNat (ms).length))])) (fun zt zk => XS.iadd X527.here hx rfl (hb hby at_123) rfl zk) ?_
  refine Go.st (T' := T527.setTop (mkF m 126 #[.val (.int p1), .val (.int p2), .val (.int p3), .val (.ref x460), .val (.ref x464), .val (.ref b468), .val (.ref ex508), .val (.ref xm508), .val (.int (Int32.ofNat (cs1).length)), .val (.int (Int32.ofNat (cs2).length))] [(.int (Int32.ofNat (cs2).length)), (.int ((Int32.ofNat (cs1).length) + (9 : Int32))), (.int (Int32.ofNat (ms).length))])) (fun zt zk => XS.iload X527.here hx rfl (hb hby at_124) rfl zk) ?_
  refine Go.st (T' := T527.setTop (mkF m 127 #[.val (.int p1), .val (.int p2), .val (.int p3), .val (.ref x460), .val (.ref x464), .val (.ref b468), .val (.ref ex508), .val (.ref xm508), .val (.int (Int32.ofNat (cs1).length)), .val (.int (Int32.ofNat (cs2).length))] [(.int (((Int32.ofNat (cs1).length) + (9 : Int32)) + (Int32.ofNat (cs2).length))), (.int (Int32.ofNat (ms).length))])) (fun zt zk => XS.iadd X527.here hx rfl (hb hby at_126) rfl zk) ?_
  have hsum : Int32.ofNat (ms).length = Int32.ofNat (cs1).length + (9 : Int32) + Int32.ofNat (cs2).length := by
    rw [own_addn (k := (9 : Int32)) (b := 9) rfl (by omega), own_add (by omega), hlm]
  refine Go.st (T' := T527.setTop (mkF m 132 #[.val (.int p1), .val (.int p2), .val (.int p3), .val (.ref x460), .val (.ref x464), .val (.ref b468), .val (.ref ex508), .val (.ref xm508), .val (.int (Int32.ofNat (cs1).length)), .val (.int (Int32.ofNat (cs2).length))] [])) (fun zt zk => XS.icmpYes X527.here hx rfl (pc0 := 127) (pc' := 132) rfl (hb hby at_127) rfl (teq hsum).1 (by decide) (by decide) zk) ?_
  refine Go.st (T' := T527.setTop (mkF m 134 #[.val (.int p1), .val (.int p2), .val (.int p3), .val (.ref x460), .val (.ref x464), .val (.ref b468), .val (.ref ex508), .val (.ref xm508), .val (.int (Int32.ofNat (cs1).length)), .val (.int (Int32.ofNat (cs2).length))] [(.ref xm508)])) (fun zt zk => XS.aload X527.here hx rfl (hb hby at_132) rfl rfl zk) ?_
  refine Go.st (T' := T527.setTop (mkF m 135 #[.val (.int p1), .val (.int p2), .val (.int p3), .val (.ref x460), .val (.ref x464), .val (.ref b468), .val (.ref ex508), .val (.ref xm508), .val (.int (Int32.ofNat (cs1).length)), .val (.int (Int32.ofNat (cs2).length))] [(.int (0 : Int32)), (.ref xm508)])) (fun zt zk => XS.iconst X527.here hx rfl (hb hby at_134) zk) ?_
  refine Go.st (T' := T527.setTop (mkF m 136 #[.val (.int p1), .val (.int p2), .val (.int p3), .val (.ref x460), .val (.ref x464), .val (.ref b468), .val (.ref ex508), .val (.ref xm508), .val (.int (Int32.ofNat (cs1).length)), .val (.int (Int32.ofNat (cs2).length))] [(.ref x460), (.int (0 : Int32)), (.ref xm508)])) (fun zt zk => XS.aloadN X527.here hx rfl (hb hby at_135) rfl rfl zk) ?_
  show Go p e below (T527.setTop (mkF m 136 #[.val (.int p1), .val (.int p2), .val (.int p3), .val (.ref x460), .val (.ref x464), .val (.ref b468), .val (.ref ex508), .val (.ref xm508), .val (.int (Int32.ofNat (cs1).length)), .val (.int (Int32.ofNat (cs2).length))] [(.ref x460), (.int (Int32.ofNat 0)), (.ref xm508)])) (EndH Z EL s (Q_rm0 Z p1 p2 p3 h0 n0) room_1.cells room_1.slots)
  obtain ⟨vr529, _, ⟨T529, L529, k529, n529⟩, -, X529, ⟨Lc529, hQ529, l529, y529, z529⟩, st529⟩ := Jvm.LawKit.callS X527 hx (y := (⟨"com/example/uakari/uakari/CommandLineErrorPinLaw", "same", "(Ljava/lang/String;ILjava/lang/String;)Z"⟩ : MethodName)) hor508 (mvT hZr508 (hw _ (List.mem_of_getElem? (i := 314) rfl))) (mvT hZr508 (hw _ (List.mem_of_getElem? (i := 315) rfl))) (mvT hZr508 (hw _ (List.mem_of_getElem? (i := 2) rfl))) (mvT hZr508 (hw _ (List.mem_of_getElem? (i := 316) rfl))) (by decide) (backOf (W := 0) (rmSame l Z a0 hw xm508 tm508 x460 t460 km508 kb460 ms cs1 0 T508.heap n0 (Nat.le_trans Z0 KK510.1) G1 O2 P5 (X00.keep KK510 all0) G3 O4 rG3 Em508 Vm508 Cm508 Bm508 hpm f514 f515 f516 f517 hp1 (by omega) (by omega) (by omega) (by rw [hms]; exact own_g0 _ _ _)) hZr508 (hw _ (List.mem_of_getElem? (i := 316) rfl)) (hw _ (List.mem_of_getElem? (i := 2) rfl)) (by decide) (by decide)) (g := (mkF m 136 #[.val (.int p1), .val (.int p2), .val (.int p3), .val (.ref x460), .val (.ref x464), .val (.ref b468), .val (.ref ex508), .val (.ref xm508), .val (.int (Int32.ofNat (cs1).length)), .val (.int (Int32.ofNat (cs2).length))] [(.ref x460), (.int (Int32.ofNat 0)), (.ref xm508)])) rfl (by rw [hml]; rfl) (argsL := [(.ref xm508), (.int (Int32.ofNat 0)), (.ref x460)]) (rest := []) (lenOf pd_55c29fb rfl) rfl (by show 2 * 0 + _ ≤ _; exact Nat.le_of_eq rfl) (hb hby at_136) (fun _ _ => ⟨rfl, eq527, (by decide : 22 + 0 ≤ _), (by decide : 2882 + 0 ≤ _)⟩)
  dsimp only [Pt.U, Pt.locs, Pt.cells, Pt.slots] at X529 l529 y529 z529 st529 hQ529
  subst l529 y529 z529
  obtain ⟨rfl, Nq529, eq529⟩ := hQ529
  have NN530 := Fr.app NN528 Nq529
  refine Go.st (T' := T529.setTop (mkF m 139 #[.val (.int p1), .val (.int p2), .val (.int p3), .val (.ref x460), .val (.ref x464), .val (.ref b468), .val (.ref ex508), .val (.ref xm508), .val (.int (Int32.ofNat (cs1).length)), .val (.int (Int32.ofNat (cs2).length))] [(.int (1 : Int32))])) (fun zt zk => st529 zt zk) ?_
  refine Go.st (T' := T529.setTop (mkF m 142 #[.val (.int p1), .val (.int p2), .val (.int p3), .val (.ref x460), .val (.ref x464), .val (.ref b468), .val (.ref ex508), .val (.ref xm508), .val (.int (Int32.ofNat (cs1).length)), .val (.int (Int32.ofNat (cs2).length))] [])) (fun zt zk => XS.ifNo X529.here hx rfl (hb hby at_139) rfl ((if0 _ _).trans (feq (by decide)).1) zk) ?_
  refine Go.st (T' := T529.setTop (mkF m 144 #[.val (.int p1), .val (.int p2), .val (.int p3), .val (.ref x460), .val (.ref x464), .val (.ref b468), .val (.ref ex508), .val (.ref xm508), .val (.int (Int32.ofNat (cs1).length)), .val (.int (Int32.ofNat (cs2).length))] [(.ref xm508)])) (fun zt zk => XS.aload X529.here hx rfl (hb hby at_142) rfl rfl zk) ?_
  refine Go.st (T' := T529.setTop (mkF m 146 #[.val (.int p1), .val (.int p2), .val (.int p3), .val (.ref x460), .val (.ref x464), .val (.ref b468), .val (.ref ex508), .val (.ref xm508), .val (.int (Int32.ofNat (cs1).length)), .val (.int (Int32.ofNat (cs2).length))] [(.int (Int32.ofNat (cs1).length)), (.ref xm508)])) (fun zt zk => XS.iload X529.here hx rfl (hb hby at_144) rfl zk) ?_
  obtain ⟨vr531, _, ⟨T531, L531, k531, n531⟩, -, X531, hs531, hg531, ⟨Lc531, hQ531, l531, y531, z531⟩, st531⟩ := callSS X529 hx (y := (⟨"com/example/uakari/uakari/CommandLineErrorPinLaw", "sep", "(Ljava/lang/String;I)Z"⟩ : MethodName)) hor508 (mvT hZr508 (hw _ (List.mem_of_getElem? (i := 339) rfl))) (mvT hZr508 (hw _ (List.mem_of_getElem? (i := 340) rfl))) (mvT hZr508 (hw _ (List.mem_of_getElem? (i := 2) rfl))) (mvT hZr508 (hw _ (List.mem_of_getElem? (i := 341) rfl))) (by decide) (backOfSH (s := s) (vm0 := T508.vm) (W := 0) (rmSep l Z a0 hw xm508 tm508 km508 ms (cs1).length T508.heap n0 (Nat.le_trans Z0 KK510.1) G1 O2 P5 (X00.keep KK510 all0) G3 O4 rG3 Em508 Vm508 Cm508 Bm508 hpm (by omega) (by omega) (by rw [hms]; exact fun i hi => own_g1 cs1 own_U cs2 i hi) hEL wS) hZr508 (hw _ (List.mem_of_getElem? (i := 341) rfl)) (hw _ (List.mem_of_getElem? (i := 2) rfl)) (by decide) (by decide) hEL C509.1) (g := (mkF m 146 #[.val (.int p1), .val (.int p2), .val (.int p3), .val (.ref x460), .val (.ref x464), .val (.ref b468), .val (.ref ex508), .val (.ref xm508), .val (.int (Int32.ofNat (cs1).length)), .val (.int (Int32.ofNat (cs2).length))] [(.int (Int32.ofNat (cs1).length)), (.ref xm508)])) rfl (by rw [hml]; rfl) (argsL := [(.ref xm508), (.int (Int32.ofNat (cs1).length))]) (rest := []) (lenOf pd_9ac8dfc rfl) rfl (by show 2 * 0 + _ ≤ _; exact Nat.le_of_eq rfl) (hb hby at_146) (fun _ _ => ⟨rfl, eq529, (by decide : 22 + 2 ≤ _), (by decide : 2882 + 40 ≤ _)⟩)
  dsimp only [Pt.U, Pt.locs, Pt.cells, Pt.slots] at X531 l531 y531 z531 st531 hQ531 hs531 hg531
  subst l531 y531
  obtain ⟨z531, CC531⟩ := z531
  subst z531
  obtain ⟨rfl, Nq531, Kq531⟩ := hQ531
  obtain ⟨Xr531, hSr531, hZr531, hor531⟩ := rebS (s := s) (vm0 := T508.vm) hSr508 (by rw [eq529]; exact (Nat.le_refl _)) X531 hs531 hg531 hZr508 hor508
  have C532 : CHr Z EL s.vm h0 T531.vm T531.heap := C509.trans CC531
  have KK533 : Keep h0 T531.heap [] := KK510.trans Kq531 all0
  have NN534 := Fr.app NN530 Nq531
  refine Go.st (T' := T531.setTop (mkF m 149 #[.val (.int p1), .val (.int p2), .val (.int p3), .val (.ref x460), .val (.ref x464), .val (.ref b468), .val (.ref ex508), .val (.ref xm508), .val (.int (Int32.ofNat (cs1).length)), .val (.int (Int32.ofNat (cs2).length))] [(.int (1 : Int32))])) (fun zt zk => st531.trans zk) ?_
  refine Go.st (T' := T531.setTop (mkF m 152 #[.val (.int p1), .val (.int p2), .val (.int p3), .val (.ref x460), .val (.ref x464), .val (.ref b468), .val (.ref ex508), .val (.ref xm508), .val (.int (Int32.ofNat (cs1).length)), .val (.int (Int32.ofNat (cs2).length))] [])) (fun zt zk => XS.ifNo Xr531.here hx rfl (hb hby at_149) rfl ((if0 _ _).trans (feq (by decide)).1) zk) ?_
  refine Go.st (T' := T531.setTop (mkF m 154 #[.val (.int p1), .val (.int p2), .val (.int p3), .val (.ref x460), .val (.ref x464), .val (.ref b468), .val (.ref ex508), .val (.ref xm508), .val (.int (Int32.ofNat (cs1).length)), .val (.int (Int32.ofNat (cs2).length))] [(.ref xm508)])) (fun zt zk => XS.aload Xr531.here hx rfl (hb hby at_152) rfl rfl zk) ?_
  refine Go.st (T' := T531.setTop (mkF m 156 #[.val (.int p1), .val (.int p2), .val (.int p3), .val (.ref x460), .val (.ref x464), .val (.ref b468), .val (.ref ex508), .val (.ref xm508), .val (.int (Int32.ofNat (cs1).length)), .val (.int (Int32.ofNat (cs2).length))] [(.int (Int32.ofNat (cs1).length)), (.ref xm508)])) (fun zt zk => XS.iload Xr531.here hx rfl (hb hby at_154) rfl zk) ?_
  refine Go.st (T' := T531.setTop (mkF m 158 #[.val (.int p1), .val (.int p2), .val (.int p3), .val (.ref x460), .val (.ref x464), .val (.ref b468), .val (.ref ex508), .val (.ref xm508), .val (.int (Int32.ofNat (cs1).length)), .val (.int (Int32.ofNat (cs2).length))] [(.int (9 : Int32)), (.int (Int32.ofNat (cs1).length)), (.ref xm508)])) (fun zt zk => XS.bipush Xr531.here hx rfl (hb hby at_156) zk) ?_
  refine Go.st (T' := T531.setTop (mkF m 159 #[.val (.int p1), .val (.int p2), .val (.int p3), .val (.ref x460), .val (.ref x464), .val (.ref b468), .val (.ref ex508), .val (.ref xm508), .val (.int (Int32.ofNat (cs1).length)), .val (.int (Int32.ofNat (cs2).length))] [(.int ((Int32.ofNat (cs1).length) + (9 : Int32))), (.ref xm508)])) (fun zt zk => XS.iadd Xr531.here hx rfl (hb hby at_158) rfl zk) ?_
  refine Go.st (T' := T531.setTop (mkF m 161 #[.val (.int p1), .val (.int p2), .val (.int p3), .val (.ref x460), .val (.ref x464), .val (.ref b468), .val (.ref ex508), .val (.ref xm508), .val (.int (Int32.ofNat (cs1).length)), .val (.int (Int32.ofNat (cs2).length))] [(.ref x464), (.int ((Int32.ofNat (cs1).length) + (9 : Int32))), (.ref xm508)])) (fun zt zk => XS.aload Xr531.here hx rfl (hb hby at_159) rfl rfl zk) ?_
  rw [own_addn (k := (9 : Int32)) (b := 9) rfl (by omega)]
  have f535 : Exa Z T531.heap xm508 "java/lang/String" := (Em508.keep Kq531)
  have f536 : Fld Z T531.heap xm508 "java/lang/String" "value" "[B" (.ref tm508) := (Vm508.keep Kq531 nin0)
  have f537 : Fld Z T531.heap xm508 "java/lang/String" "coder" "B" (.int (0 : Int32)) := (Cm508.keep Kq531 nin0)
  have f538 : Arv Z T531.heap tm508 km508 .byte (Int32.ofNat (ms).length) (((ms).map (fun c => c.toInt8.toInt32)).map Value.int) (.int (0 : Int32)) := (Bm508.keep Kq531 nin0)
  have f539 : Exa Z T531.heap x464 "java/lang/String" := (f520.keep Kq531)
  have f540 : Fld Z T531.heap x464 "java/lang/String" "value" "[B" (.ref t464) := (f521.keep Kq531 nin0)
  have f541 : Fld Z T531.heap x464 "java/lang/String" "coder" "B" (.int (0 : Int32)) := (f522.keep Kq531 nin0)
  have f542 : Arv Z T531.heap t464 kb464 .byte (Int32.ofNat (cs2).length) (((cs2).map (fun c => c.toInt8.toInt32)).map Value.int) (.int (0 : Int32)) := (f523.keep Kq531 nin0)
  obtain ⟨vr543, _, ⟨T543, L543, k543, n543⟩, -, X543, ⟨Lc543, hQ543, l543, y543, z543⟩, st543⟩ := Jvm.LawKit.callS Xr531 hx (y := (⟨"com/example/uakari/uakari/CommandLineErrorPinLaw", "same", "(Ljava/lang/String;ILjava/lang/String;)Z"⟩ : MethodName)) hor531 (mvT hZr531 (hw _ (List.mem_of_getElem? (i := 314) rfl))) (mvT hZr531 (hw _ (List.mem_of_getElem? (i := 315) rfl))) (mvT hZr531 (hw _ (List.mem_of_getElem? (i := 2) rfl))) (mvT hZr531 (hw _ (List.mem_of_getElem? (i := 316) rfl))) (by decide) (backOf (W := 0) (rmSame l Z a0 hw xm508 tm508 x464 t464 km508 kb464 ms cs2 ((cs1).length + 9) T531.heap n0 (Nat.le_trans Z0 KK533.1) G1 O2 P5 (X00.keep KK533 all0) G3 O4 rG3 f535 f536 f537 f538 hpm f539 f540 f541 f542 hp2 (by omega) (by omega) (by omega) (by rw [hms]; exact own_g2 cs1 own_U cs2)) hZr531 (hw _ (List.mem_of_getElem? (i := 316) rfl)) (hw _ (List.mem_of_getElem? (i := 2) rfl)) (by decide) (by decide)) (g := (mkF m 161 #[.val (.int p1), .val (.int p2), .val (.int p3), .val (.ref x460), .val (.ref x464), .val (.ref b468), .val (.ref ex508), .val (.ref xm508), .val (.int (Int32.ofNat (cs1).length)), .val (.int (Int32.ofNat (cs2).length))] [(.ref x464), (.int (Int32.ofNat ((cs1).length + 9))), (.ref xm508)])) rfl (by rw [hml]; rfl) (argsL := [(.ref xm508), (.int (Int32.ofNat ((cs1).length + 9))), (.ref x464)]) (rest := []) (lenOf pd_55c29fb rfl) rfl (by show 2 * 0 + _ ≤ _; exact Nat.le_of_eq rfl) (hb hby at_161) (fun _ _ => ⟨rfl, rfl, (by decide : 24 + 0 ≤ _), (by decide : 2922 + 0 ≤ _)⟩)
  dsimp only [Pt.U, Pt.locs, Pt.cells, Pt.slots] at X543 l543 y543 z543 st543 hQ543
  subst l543 y543 z543
  obtain ⟨rfl, Nq543, eq543⟩ := hQ543
  have NN544 := Fr.app NN534 Nq543
  refine Go.st (T' := T543.setTop (mkF m 164 #[.val (.int p1), .val (.int p2), .val (.int p3), .val (.ref x460), .val (.ref x464), .val (.ref b468), .val (.ref ex508), .val (.ref xm508), .val (.int (Int32.ofNat (cs1).length)), .val (.int (Int32.ofNat (cs2).length))] [(.int (1 : Int32))])) (fun zt zk => st543 zt zk) ?_
  refine Go.st (T' := T543.setTop (mkF m 167 #[.val (.int p1), .val (.int p2), .val (.int p3), .val (.ref x460), .val (.ref x464), .val (.ref b468), .val (.ref ex508), .val (.ref xm508), .val (.int (Int32.ofNat (cs1).length)), .val (.int (Int32.ofNat (cs2).length))] [])) (fun zt zk => XS.ifNo X543.here hx rfl (hb hby at_164) rfl ((if0 _ _).trans (feq (by decide)).1) zk) ?_
  refine Go.st (T' := T543.setTop (mkF m 168 #[.val (.int p1), .val (.int p2), .val (.int p3), .val (.ref x460), .val (.ref x464), .val (.ref b468), .val (.ref ex508), .val (.ref xm508), .val (.int (Int32.ofNat (cs1).length)), .val (.int (Int32.ofNat (cs2).length))] [(.int (1 : Int32))])) (fun zt zk => XS.iconst X543.here hx rfl (hb hby at_167) zk) ?_
  refine Go.st (T' := T543.setTop (mkF m 172 #[.val (.int p1), .val (.int p2), .val (.int p3), .val (.ref x460), .val (.ref x464), .val (.ref b468), .val (.ref ex508), .val (.ref xm508), .val (.int (Int32.ofNat (cs1).length)), .val (.int (Int32.ofNat (cs2).length))] [(.int (1 : Int32))])) (fun zt zk => XS.goto X543.here hx rfl (pc0 := 168) (pc' := 172) rfl (hb hby at_168) (by decide) (by decide) zk) ?_
  exact Go.doneH X543 hSr531 (by rw [eq543]; exact (Nat.le_refl _)) Bd.notSynchronized (v := some (.int (nar .boolean (1 : Int32)))) (fun h => by rw [Bd.returns] at h; cases h) (fun fs hr => retN X543 hx (t := .boolean) Bd.returns (by simp) (hb hby at_172) hr) (by rw [eq543]; exact ⟨rfl, NN544⟩) (by decide) (by decide) hZr531 hEL hh eq543 C532
set_option maxRecDepth 65536 in
set_option maxHeartbeats 40000000 in
theorem comes_1 {Post : Tables → Env → Array Value → State → Outcome → State → Prop} (hpost : ∀ tb e args s v u, (limb_1_1.after args s (.returned v) u = true ∧ limb_1_2.after args s (.returned v) u = true ∧ True) → ReturnedEndW s (.returned v) u (Jvm.fieldLocs frame_1_writes args s ++ Jvm.arrayLocs frame_1_arrays args s ++ Jvm.staticLocs frame_1_statics s) 56 8832 → Post tb e args s (.returned v) u) :
    ArmFor flags0 classFile x code maxLocals ret World_1 tables_1 room_1 Calls_1 rest_1 Pre_1 Post := by
  intro l hfl _ _ p e ha hc hk s m args below hf hA hF happ hP
  obtain ⟨hcalls, hrest, hpre⟩ := hP
  obtain ⟨-, -, -, hnamed, -, -, -, hat⟩ := (Spec.applies_iff hf).mp happ
  obtain ⟨hg, hn⟩ := and_e (Cond.before_iff.mp (show (Jvm.Cond.and given_1 narrow_1).before args s = true from hpre))
  obtain ⟨gc, gr0⟩ := and_e hg
  obtain ⟨ga0, gr1⟩ := and_e gr0
  obtain ⟨ga1, gr2⟩ := and_e gr1
  obtain ⟨w0, w1, w2, rfl⟩ : ∃ w0 w1 w2 : Value, args = #[w0, w1, w2] := by
    have hs : args.size = 3 := by simpa [Cond.value, given_1] using gc
    obtain ⟨L⟩ := args
    match L, hs with
    | [w0, w1, w2], _ => exact ⟨w0, w1, w2, rfl⟩
  have hw := fun d (hd : d ∈ tables_1) => atoms_spec (ws := Jvm.Cond.code x code maxLocals ret :: tables_1) hat d (List.mem_cons_of_mem _ hd)
  have hfit : Fit s := fun {y c} hc i hi => by
    obtain ⟨ha, rfl⟩ := Array.getElem?_eq_some_iff.mp hc
    have q := List.all_eq_true.mp ((Array.all_eq_true_iff_forall_mem.mp hF) _ (Array.getElem_mem ha)) i (List.mem_range.mpr hi)
    simpa [Array.getElem?_eq_getElem hi] using q
  obtain ⟨i0, ei0⟩ := is_v ga0
  obtain rfl : w0 = (.int i0) := Option.some.inj ei0
  obtain ⟨i1, ei1⟩ := is_v ga1
  obtain rfl : w1 = (.int i1) := Option.some.inj ei1
  obtain ⟨i2, ei2⟩ := is_v gr2
  obtain rfl : w2 = (.int i2) := Option.some.inj ei2
  obtain ⟨hsets, hown0⟩ := atoms_of _ (rest_1_c_eq ▸ (show rest_1_c.before _ s = true from hrest))
  have n5 := not_v (Cond.before_iff.mp (hsets _ (List.mem_of_getElem? (i := 2) rfl)))
  obtain ⟨iC, eC⟩ := is_v (Cond.before_iff.mp (hsets _ (List.mem_of_getElem? (i := 1) rfl)))
  have SC : Sta s s.heap "java/lang/String" "COMPACT_STRINGS" "Z" (.int iC) := Sta.start eC (Or.inl (hsets _ (List.mem_of_getElem? (i := 0) rfl)))
  have cC : ¬ (iC = (0 : Int32)) := gotF (Cond.eq_ints eC (Term.int_eval (0))) n5
  obtain ⟨vS, eS, rS⟩ := isR_v (Cond.before_iff.mp (hsets _ (List.mem_of_getElem? (i := 8) rfl)))
  have SS : Sta s s.heap "jdk/internal/util/Preconditions" "SIOOBE_FORMATTER" "Ljava/util/function/BiFunction;" vS := Sta.start eS (Or.inl (hsets _ (List.mem_of_getElem? (i := 7) rfl)))
  have wS : ∀ a ∈ Bundle.stringAtoms, a.before _ s = true := fun d hd => hw d ((by decide +kernel : ∀ d ∈ Bundle.stringAtoms, d ∈ tables_1) d hd)
  have hEL : EW s _ EL := (EW.cons (hw _ (List.mem_of_getElem? (i := 342) rfl)) (by decide) (EW.cons (hw _ (List.mem_of_getElem? (i := 213) rfl)) (by decide) (EW.cons (hw _ (List.mem_of_getElem? (i := 34) rfl)) (by decide) EW.nil)))
  have hcw : Jvm.Lit.compactW.before _ s = true := hsets _ (List.mem_of_getElem? (i := 2) rfl)
  have hCH : CHv s EL s.vm s.heap := CHv.start hEL hcalls.2.2.1 hcw (wS _ (by simp [Bundle.stringAtoms])) (wS _ (by simp [Bundle.stringAtoms, Bundle.sN]))
  have hls : l.stackTraces = true := by unfold Launch.stackTraces; rw [hfl]; decide
  obtain ⟨vU, eU, rU⟩ := isR_v (Cond.before_iff.mp (hsets _ (List.mem_of_getElem? (i := 25) rfl)))
  have SU : Sta s s.heap "java/lang/Throwable" "UNASSIGNED_STACK" "[Ljava/lang/StackTraceElement;" vU := Sta.start eU (Or.inl (hsets _ (List.mem_of_getElem? (i := 24) rfl)))
  obtain ⟨vP, eP, rP⟩ := isR_v (Cond.before_iff.mp (hsets _ (List.mem_of_getElem? (i := 30) rfl)))
  have SP : Sta s s.heap "java/lang/Throwable" "SUPPRESSED_SENTINEL" "Ljava/util/List;" vP := Sta.start eP (Or.inl (hsets _ (List.mem_of_getElem? (i := 29) rfl)))
  obtain ⟨de, ede⟩ := arr_v (Cond.before_iff.mp (hsets _ (List.mem_of_getElem? (i := 15) rfl)))
  have Sd : Sta s s.heap "java/util/ArrayList" "DEFAULTCAPACITY_EMPTY_ELEMENTDATA" "[Ljava/lang/Object;" (.ref de) := Sta.start ede (Or.inr ⟨(hw _ (List.mem_of_getElem? (i := 42) rfl)), hsets _ (List.mem_of_getElem? (i := 11) rfl)⟩)
  obtain ⟨n, o, h1, h2, h3, _, L, rfl, ⟨rfl, N⟩, -, hq⟩ := rm0 l s _ hw tables_1 i0 i1 i2 s.heap s.heap.size (Nat.le_refl _) iC SC cC (Old.start s) vS SS rS de Sd hEL wS hls vU SU rU vP SP rP p e ha hc hk s m _ below hf ((Spec.applies_iff_loose hf).mp happ).1 ⟨rfl, State.Warmed39.refl s, rfl, hCH⟩ ⟨own_tk hcalls.2.1, own_fk hcalls.1 hf⟩
  refine ⟨n, _, h1, h2, h3, hpost _ _ _ _ _ _ ⟨Cond.after_iff.mpr rfl, Cond.after_iff.mpr (eq_i res_at (Term.int_eval (1)) rfl), trivial⟩ ⟨hq.1, hq.2.1, hq.2.2.1, (hq.2.2.2.sift fun y hy => Or.inr (N y hy)).mono (by decide) (by decide)⟩⟩
theorem main_1_1 : Claimed_1_1 := comes_1 fun _ _ _ _ _ _ h hF => ⟨h.1, hF⟩
theorem main_1_2 : Claimed_1_2 := comes_1 fun _ _ _ _ _ _ h hF => ⟨h.2.1, hF⟩
end Jvm.Pilot.@@N@@
namespace Jvm.Pilot.@@N@@
open Jvm Jvm.ClassFile Sem Op Lib Jvm.Free Jvm.Stand Jvm.Pilot.@@N@@.Jvm.D
/-! MADE BY PROGRAM (witnessworld.py) out of the Statement's table words and the real class files: 51 classes; the members and pool entries that the words name. The judged class is class 1, her method 1. -/
namespace start1
open Jvm.ClassFile
def u (s : String) : CpInfo := .utf8 (stringToUtf16 s)
/-- a pool by its gaps: so many unusable entries, then the entry; so many at the end -/
def gap : Nat → List CpInfo → List CpInfo
  | 0, r => r
  | n + 1, r => .unusable :: gap n r
def poolList (es : List (Nat × CpInfo)) (last : Nat) : List CpInfo := es.foldr (fun e r => gap e.1 (e.2 :: r)) (gap last [])
def pool (es : List (Nat × CpInfo)) (last : Nat) : Array CpInfo := ⟨poolList es last⟩
def fileOf (pool : Array CpInfo) (this : Nat) (attrs : Array Attribute := #[]) (ms : Array MethodInfo := #[]) (fl : Nat := 33) (sup : Nat := 0) (ifs : Array Nat := #[]) (fds : Array FieldInfo := #[]) : ClassFile where
  minorVersion := 0
  majorVersion := 65
  constantPool := pool
  accessFlags := fl
  thisClass := this
  superClass := sup
  interfaces := ifs
  fields := fds
  methods := ms
  attributes := attrs
def plain (name : String) (sup : Option ClassId) : Class where
  name := name
  kind := .ordinary
  loader := none
  accessFlags := 33
  super := sup
  interfaces := #[]
  cf := none
  fields := #[]
  methods := #[]
  instanceTypes := #[]
  staticTypes := #[]
  resolved := #[]
  callSites := []
  init := .initialized
  statics := none
  mirror := none

def pool0 : Array CpInfo := pool [(5, u "<init>"), (0, u "()V"), (1, .class_ 10), (1, u "java/lang/Object")] 113

def k0c0 : Code := { maxStack := 0, maxLocals := 1, code := object_method_1_code, exceptionTable := #[], attributes := #[] }
def k0m0 : Method := { name := "<init>", desc := "()V", sig := { parameters := [], returnType := none }, accessFlags := 1, code := some k0c0 }
/-- java/lang/Object -/
def k0 : Class := { plain "java/lang/Object" none with
  accessFlags := 33
  interfaces := #[]
  cf := some (fileOf pool0 8 #[] #[{ accessFlags := 1, nameIndex := 5, descriptorIndex := 6, attributes := #[] }] 33 0 #[] #[])
  fields := #[]
  methods := #[k0m0]
  instanceTypes := #[]
  staticTypes := #[]
  resolved := Array.replicate 124 none
  statics := none }

def pool1 : Array CpInfo := pool [(2, .class_ 4), (0, .nameAndType 5 6), (0, u "java/lang/Object"), (0, u "<init>"), (0, u "()V"), (0, .methodref 8 9), (0, .class_ 10), (0, .nameAndType 11 12), (0, u "com/example/uakari/uakari/CommandLineErrorPinLaw"), (0, u "mk"), (0, u "(ICC)Ljava/lang/String;"), (0, .class_ 14), (0, u "com/example/uakari/uakari/CommandLine"), (0, .class_ 16), (0, u "java/util/ArrayList"), (0, .methodref 15 3), (0, .methodref 13 19), (0, .nameAndType 5 20), (0, u "(Ljava/util/List;Ljava/util/Set;Ljava/util/Set;Ljava/util/Set;Ljava/lang/String;)V"), (0, .methodref 13 22), (0, .nameAndType 23 24), (0, u "error"), (0, u "(Ljava/lang/String;)Lcom/example/uakari/uakari/UsageException;"), (0, .methodref 26 27), (0, .class_ 28), (0, .nameAndType 29 30), (0, u "com/example/uakari/uakari/UsageException"), (0, u "getMessage"), (0, u "()Ljava/lang/String;"), (0, .methodref 32 33), (0, .class_ 34), (0, .nameAndType 35 36), (0, u "java/lang/String"), (0, u "length"), (0, u "()I"), (0, .methodref 8 38), (0, .nameAndType 39 40), (0, u "same"), (0, u "(Ljava/lang/String;ILjava/lang/String;)Z"), (0, .methodref 8 42), (0, .nameAndType 43 44), (0, u "sep"), (0, u "(Ljava/lang/String;I)Z"), (0, .methodref 32 46), (0, .nameAndType 5 47), (0, u "([C)V"), (0, .methodref 32 49), (0, .nameAndType 50 51), (0, u "valueOf"), (0, u "(C)Ljava/lang/String;"), (0, .methodref 32 53), (0, .nameAndType 54 55), (0, u "charAt"), (0, u "(I)C"), (0, .string 57), (0, u "; usage: "), (2, u "law"), (0, u "(III)Z")] 6

def k1m0 : Method := { name := "<init>", desc := "()V", sig := { parameters := [], returnType := none }, accessFlags := 1, code := none }
def k1c1 : Code := { maxStack := 7, maxLocals := 10, code := code, exceptionTable := #[], attributes := #[] }
def k1m1 : Method := { name := "law", desc := "(III)Z", sig := { parameters := [.int, .int, .int], returnType := some .boolean }, accessFlags := 9, code := some k1c1 }
def k1c2 : Code := { maxStack := 6, maxLocals := 3, code := method_3_code, exceptionTable := #[], attributes := #[] }
def k1m2 : Method := { name := "mk", desc := "(ICC)Ljava/lang/String;", sig := { parameters := [.int, .char, .char], returnType := some (.object "java/lang/String") }, accessFlags := 10, code := some k1c2 }
def k1c3 : Code := { maxStack := 3, maxLocals := 4, code := method_4_code, exceptionTable := #[], attributes := #[] }
def k1m3 : Method := { name := "same", desc := "(Ljava/lang/String;ILjava/lang/String;)Z", sig := { parameters := [(.object "java/lang/String"), .int, (.object "java/lang/String")], returnType := some .boolean }, accessFlags := 10, code := some k1c3 }
def k1c4 : Code := { maxStack := 3, maxLocals := 3, code := method_5_code, exceptionTable := #[], attributes := #[] }
def k1m4 : Method := { name := "sep", desc := "(Ljava/lang/String;I)Z", sig := { parameters := [(.object "java/lang/String"), .int], returnType := some .boolean }, accessFlags := 10, code := some k1c4 }
/-- com/example/uakari/uakari/CommandLineErrorPinLaw -/
def k1 : Class := { plain "com/example/uakari/uakari/CommandLineErrorPinLaw" (some 0) with
  accessFlags := 49
  interfaces := #[]
  cf := some (fileOf pool1 8 #[] #[{ accessFlags := 1, nameIndex := 5, descriptorIndex := 6, attributes := #[] }, { accessFlags := 9, nameIndex := 60, descriptorIndex := 61, attributes := #[] }, { accessFlags := 10, nameIndex := 11, descriptorIndex := 12, attributes := #[] }, { accessFlags := 10, nameIndex := 39, descriptorIndex := 40, attributes := #[] }, { accessFlags := 10, nameIndex := 43, descriptorIndex := 44, attributes := #[] }] 49 2 #[] #[])
  fields := #[]
  methods := #[k1m0, k1m1, k1m2, k1m3, k1m4]
  instanceTypes := #[]
  staticTypes := #[]
  resolved := Array.replicate 68 none
  statics := none }

def pool2 : Array CpInfo := pool [(1, .class_ 2), (0, u "java/io/Serializable"), (0, .class_ 4), (0, u "java/lang/Object")] 2

/-- java/io/Serializable -/
def k2 : Class := { plain "java/io/Serializable" (some 0) with
  accessFlags := 1537
  interfaces := #[]
  cf := some (fileOf pool2 1 #[] #[] 1537 3 #[] #[])
  fields := #[]
  methods := #[]
  instanceTypes := #[]
  staticTypes := #[]
  resolved := Array.replicate 7 none
  statics := none }

def pool3 : Array CpInfo := pool [(1, .class_ 2), (0, u "java/lang/Comparable"), (0, .class_ 4), (0, u "java/lang/Object")] 7

/-- java/lang/Comparable -/
def k3 : Class := { plain "java/lang/Comparable" (some 0) with
  accessFlags := 1537
  interfaces := #[]
  cf := some (fileOf pool3 1 #[] #[] 1537 3 #[] #[])
  fields := #[]
  methods := #[]
  instanceTypes := #[]
  staticTypes := #[]
  resolved := Array.replicate 12 none
  statics := none }

def pool4 : Array CpInfo := pool [(2, .class_ 4), (1, u "java/lang/CharSequence"), (42, .class_ 48), (0, u "java/lang/CharSequence$1CodePointIterator"), (10, .class_ 60), (0, u "java/lang/CharSequence$1CharIterator"), (5, .class_ 67), (0, u "java/lang/Object")] 63

/-- java/lang/CharSequence -/
def k4 : Class := { plain "java/lang/CharSequence" (some 0) with
  accessFlags := 1537
  interfaces := #[]
  cf := some (fileOf pool4 2 #[.nestMembers #[47, 59]] #[] 1537 66 #[] #[])
  fields := #[]
  methods := #[]
  instanceTypes := #[]
  staticTypes := #[]
  resolved := Array.replicate 131 none
  statics := none }

def pool5 : Array CpInfo := pool [(1, .class_ 2), (0, u "java/lang/constant/Constable"), (0, .class_ 4), (0, u "java/lang/Object")] 6

/-- java/lang/constant/Constable -/
def k5 : Class := { plain "java/lang/constant/Constable" (some 0) with
  accessFlags := 1537
  interfaces := #[]
  cf := some (fileOf pool5 1 #[] #[] 1537 3 #[] #[])
  fields := #[]
  methods := #[]
  instanceTypes := #[]
  staticTypes := #[]
  resolved := Array.replicate 11 none
  statics := none }

def pool6 : Array CpInfo := pool [(1, .class_ 2), (0, u "java/lang/constant/ConstantDesc"), (0, .class_ 4), (0, u "java/lang/Object")] 32

/-- java/lang/constant/ConstantDesc -/
def k6 : Class := { plain "java/lang/constant/ConstantDesc" (some 0) with
  accessFlags := 1537
  interfaces := #[]
  cf := some (fileOf pool6 1 #[] #[] 1537 3 #[] #[])
  fields := #[]
  methods := #[]
  instanceTypes := #[]
  staticTypes := #[]
  resolved := Array.replicate 37 none
  statics := none }

def pool7 : Array CpInfo := pool [(1, .methodref 2 3), (0, .class_ 4), (0, .nameAndType 5 6), (0, u "java/lang/Object"), (0, u "<init>"), (0, u "()V"), (0, .string 8), (0, u ""), (0, .fieldref 10 11), (0, .class_ 12), (0, .nameAndType 13 14), (0, u "java/lang/String"), (0, u "value"), (0, u "[B"), (0, .fieldref 10 16), (0, .nameAndType 17 18), (0, u "coder"), (0, u "B"), (2, u "hash"), (0, u "I"), (2, u "hashIsZero"), (0, u "Z"), (0, .methodref 10 28), (0, .nameAndType 5 29), (0, u "([CIILjava/lang/Void;)V"), (8, .fieldref 10 39), (0, .nameAndType 40 26), (0, u "COMPACT_STRINGS"), (1, .class_ 44), (1, u "java/lang/StringUTF16"), (0, u "compress"), (1, .methodref 42 48), (0, .nameAndType 49 50), (0, u "coderFromArrayLen"), (0, u "([BI)B"), (2, u "toBytes"), (0, .methodref 55 56), (0, .class_ 57), (0, .nameAndType 58 59), (0, u "java/util/Arrays"), (0, u "copyOfRange"), (0, u "([BII)[B"), (47, .class_ 109), (1, u "java/lang/StringLatin1"), (32, u "()Z"), (34, .methodref 42 178), (0, .nameAndType 45 179), (0, u "([CII)[B"), (13, .class_ 195), (1, u "java/lang/System"), (13, .methodref 10 210), (0, .nameAndType 5 211), (0, u "([BB)V"), (0, .methodref 193 213), (0, .nameAndType 214 215), (0, u "arraycopy"), (0, u "(Ljava/lang/Object;ILjava/lang/Object;II)V"), (118, u "()I"), (0, .methodref 10 336), (0, .nameAndType 17 337), (0, u "()B"), (2, u "()[B"), (22, u "([BI)C"), (5, u "(C)Z"), (21, u "(II)V"), (35, u "(I)C"), (61, .methodref 10 490), (0, .nameAndType 5 491), (0, u "(Ljava/lang/AbstractStringBuilder;Ljava/lang/Void;)V"), (0, .methodref 10 493), (0, .nameAndType 494 142), (0, u "isLatin1"), (0, .methodref 107 496), (0, .nameAndType 497 363), (0, u "charAt"), (3, u "checkIndex"), (4, .nameAndType 507 334), (0, u "length"), (24, u "getBytes"), (16, .methodref 550 506), (0, .class_ 551), (0, u "java/lang/AbstractStringBuilder"), (0, .methodref 550 553), (0, .nameAndType 554 340), (0, u "getValue"), (20, .class_ 576), (0, u "java/lang/CharSequence"), (22, u "CASE_INSENSITIVE_ORDER"), (0, u "Ljava/util/Comparator;"), (181, u "valueOf"), (0, u "(C)Ljava/lang/String;"), (37, u "([BIB)V"), (188, u "([C)V"), (4, .methodref 107 1016), (0, .nameAndType 1017 369), (0, u "canEncode"), (0, .methodref 107 1019), (0, .nameAndType 53 1020), (0, u "(C)[B"), (26, .methodref 550 493), (5, .fieldref 1054 1055), (0, .class_ 1056), (0, .nameAndType 1057 1058), (0, u "jdk/internal/util/Preconditions"), (0, u "SIOOBE_FORMATTER"), (0, u "Ljava/util/function/BiFunction;"), (0, .methodref 1054 1060), (0, .nameAndType 501 1061), (0, u "(IILjava/util/function/BiFunction;)I"), (39, u "serialPersistentFields"), (0, u "[Ljava/io/ObjectStreamField;"), (0, .class_ 1104), (0, u "java/lang/String$CaseInsensitiveComparator"), (1, .class_ 1107), (0, u "java/io/Serializable"), (0, .class_ 1109), (0, u "java/lang/Comparable"), (0, .class_ 1111), (0, u "java/lang/constant/Constable"), (0, .class_ 1113), (0, u "java/lang/constant/ConstantDesc"), (2, u "serialVersionUID"), (0, u "J"), (3, u "REPL"), (0, u "C"), (2, u "LATIN1"), (1, u "UTF16"), (105, u "(Ljava/lang/StringBuilder;)V")] 217

def k7m0 : Method := { name := "<init>", desc := "()V", sig := { parameters := [], returnType := none }, accessFlags := 1, code := none }
def k7c1 : Code := { maxStack := 5, maxLocals := 2, code := jdk_42_method_3_code, exceptionTable := #[], attributes := #[] }
def k7m1 : Method := { name := "<init>", desc := "([C)V", sig := { parameters := [(.array .char)], returnType := none }, accessFlags := 1, code := some k7c1 }
def k7c2 : Code := { maxStack := 3, maxLocals := 2, code := jdk_42_method_53_code, exceptionTable := #[], attributes := #[] }
def k7m2 : Method := { name := "<init>", desc := "(Ljava/lang/StringBuilder;)V", sig := { parameters := [(.object "java/lang/StringBuilder")], returnType := none }, accessFlags := 1, code := some k7c2 }
def k7c3 : Code := { maxStack := 2, maxLocals := 1, code := jdk_42_method_54_code, exceptionTable := #[], attributes := #[] }
def k7m3 : Method := { name := "length", desc := "()I", sig := { parameters := [], returnType := some .int }, accessFlags := 1, code := some k7c3 }
def k7c4 : Code := { maxStack := 2, maxLocals := 2, code := jdk_42_method_56_code, exceptionTable := #[], attributes := #[] }
def k7m4 : Method := { name := "charAt", desc := "(I)C", sig := { parameters := [.int], returnType := some .char }, accessFlags := 1, code := some k7c4 }
def k7c5 : Code := { maxStack := 4, maxLocals := 1, code := jdk_42_method_139_code, exceptionTable := #[], attributes := #[] }
def k7m5 : Method := { name := "valueOf", desc := "(C)Ljava/lang/String;", sig := { parameters := [.char], returnType := some (.object "java/lang/String") }, accessFlags := 9, code := some k7c5 }
def k7c6 : Code := { maxStack := 5, maxLocals := 4, code := jdk_42_method_147_code, exceptionTable := #[], attributes := #[] }
def k7m6 : Method := { name := "getBytes", desc := "([BIB)V", sig := { parameters := [(.array .byte), .int, .byte], returnType := none }, accessFlags := 0, code := some k7c6 }
def k7c7 : Code := { maxStack := 4, maxLocals := 6, code := jdk_42_method_149_code, exceptionTable := #[], attributes := #[] }
def k7m7 : Method := { name := "<init>", desc := "([CIILjava/lang/Void;)V", sig := { parameters := [(.array .char), .int, .int, (.object "java/lang/Void")], returnType := none }, accessFlags := 2, code := some k7c7 }
def k7c8 : Code := { maxStack := 5, maxLocals := 5, code := jdk_42_method_150_code, exceptionTable := #[], attributes := #[] }
def k7m8 : Method := { name := "<init>", desc := "(Ljava/lang/AbstractStringBuilder;Ljava/lang/Void;)V", sig := { parameters := [(.object "java/lang/AbstractStringBuilder"), (.object "java/lang/Void")], returnType := none }, accessFlags := 0, code := some k7c8 }
def k7c9 : Code := { maxStack := 2, maxLocals := 3, code := jdk_42_method_151_code, exceptionTable := #[], attributes := #[] }
def k7m9 : Method := { name := "<init>", desc := "([BB)V", sig := { parameters := [(.array .byte), .byte], returnType := none }, accessFlags := 0, code := some k7c9 }
def k7c10 : Code := { maxStack := 1, maxLocals := 1, code := jdk_42_method_152_code, exceptionTable := #[], attributes := #[] }
def k7m10 : Method := { name := "coder", desc := "()B", sig := { parameters := [], returnType := some .byte }, accessFlags := 0, code := some k7c10 }
def k7c11 : Code := { maxStack := 1, maxLocals := 1, code := jdk_42_method_154_code, exceptionTable := #[], attributes := #[] }
def k7m11 : Method := { name := "isLatin1", desc := "()Z", sig := { parameters := [], returnType := some .boolean }, accessFlags := 0, code := some k7c11 }
def k7c12 : Code := { maxStack := 3, maxLocals := 2, code := jdk_42_method_155_code, exceptionTable := #[], attributes := #[] }
def k7m12 : Method := { name := "checkIndex", desc := "(II)V", sig := { parameters := [.int, .int], returnType := none }, accessFlags := 8, code := some k7c12 }
/-- java/lang/String -/
def k7 : Class := { plain "java/lang/String" (some 0) with
  accessFlags := 49
  interfaces := #[2, 3, 4, 5, 6]
  cf := some (fileOf pool7 10 #[.nestMembers #[1103]] #[{ accessFlags := 1, nameIndex := 5, descriptorIndex := 6, attributes := #[] }, { accessFlags := 1, nameIndex := 5, descriptorIndex := 1010, attributes := #[] }, { accessFlags := 1, nameIndex := 5, descriptorIndex := 1233, attributes := #[] }, { accessFlags := 1, nameIndex := 507, descriptorIndex := 334, attributes := #[] }, { accessFlags := 1, nameIndex := 497, descriptorIndex := 427, attributes := #[] }, { accessFlags := 9, nameIndex := 782, descriptorIndex := 783, attributes := #[] }, { accessFlags := 0, nameIndex := 532, descriptorIndex := 821, attributes := #[] }, { accessFlags := 2, nameIndex := 5, descriptorIndex := 29, attributes := #[] }, { accessFlags := 0, nameIndex := 5, descriptorIndex := 491, attributes := #[] }, { accessFlags := 0, nameIndex := 5, descriptorIndex := 211, attributes := #[] }, { accessFlags := 0, nameIndex := 17, descriptorIndex := 337, attributes := #[] }, { accessFlags := 0, nameIndex := 494, descriptorIndex := 142, attributes := #[] }, { accessFlags := 8, nameIndex := 501, descriptorIndex := 391, attributes := #[] }] 49 2 #[1106, 1108, 575, 1110, 1112] #[{ accessFlags := 18, nameIndex := 13, descriptorIndex := 14, attributes := #[] }, { accessFlags := 18, nameIndex := 17, descriptorIndex := 18, attributes := #[] }, { accessFlags := 2, nameIndex := 21, descriptorIndex := 22, attributes := #[] }, { accessFlags := 2, nameIndex := 25, descriptorIndex := 26, attributes := #[] }, { accessFlags := 26, nameIndex := 1116, descriptorIndex := 1117, attributes := #[] }, { accessFlags := 24, nameIndex := 40, descriptorIndex := 26, attributes := #[] }, { accessFlags := 26, nameIndex := 1101, descriptorIndex := 1102, attributes := #[] }, { accessFlags := 26, nameIndex := 1121, descriptorIndex := 1122, attributes := #[] }, { accessFlags := 25, nameIndex := 599, descriptorIndex := 600, attributes := #[] }, { accessFlags := 24, nameIndex := 1125, descriptorIndex := 18, attributes := #[] }, { accessFlags := 24, nameIndex := 1127, descriptorIndex := 18, attributes := #[] }])
  fields := #[{ name := "value", type := (.array .byte), accessFlags := 18, slot := 0, constantValue := 0 }, { name := "coder", type := .byte, accessFlags := 18, slot := 1, constantValue := 0 }, { name := "hash", type := .int, accessFlags := 2, slot := 2, constantValue := 0 }, { name := "hashIsZero", type := .boolean, accessFlags := 2, slot := 3, constantValue := 0 }, { name := "serialVersionUID", type := .long, accessFlags := 26, slot := 0, constantValue := 0 }, { name := "COMPACT_STRINGS", type := .boolean, accessFlags := 24, slot := 1, constantValue := 0 }, { name := "serialPersistentFields", type := (.array (.object "java/io/ObjectStreamField")), accessFlags := 26, slot := 2, constantValue := 0 }, { name := "REPL", type := .char, accessFlags := 26, slot := 3, constantValue := 0 }, { name := "CASE_INSENSITIVE_ORDER", type := (.object "java/util/Comparator"), accessFlags := 25, slot := 4, constantValue := 0 }, { name := "LATIN1", type := .byte, accessFlags := 24, slot := 5, constantValue := 0 }, { name := "UTF16", type := .byte, accessFlags := 24, slot := 6, constantValue := 0 }]
  methods := #[k7m0, k7m1, k7m2, k7m3, k7m4, k7m5, k7m6, k7m7, k7m8, k7m9, k7m10, k7m11, k7m12]
  instanceTypes := #[(.array .byte), .byte, .int, .boolean]
  staticTypes := #[.long, .boolean, (.array (.object "java/io/ObjectStreamField")), .char, (.object "java/util/Comparator"), .byte, .byte]
  resolved := Array.replicate 1451 none
  statics := some 0 }

def pool8 : Array CpInfo := pool [(6, .class_ 8), (1, u "java/lang/Object"), (0, u "<init>"), (0, u "()V"), (1, .class_ 14), (1, u "java/lang/StringUTF16"), (31, u "$assertionsDisabled"), (0, u "Z"), (13, u "HI_BYTE_SHIFT"), (0, u "I"), (2, u "LO_BYTE_SHIFT"), (49, .methodref 12 116), (0, .nameAndType 117 118), (0, u "compress"), (0, u "([CI[BII)I"), (3, u "([CII)[B"), (138, u "coderFromArrayLen"), (0, u "([BI)B"), (106, .class_ 371), (1, u "java/lang/StringUTF16$LinesSpliterator"), (58, u "MAX_LENGTH"), (196, .class_ 628), (0, u "java/lang/StringUTF16$CodePointsSpliterator"), (0, .class_ 630), (0, u "java/lang/StringUTF16$CharsSpliterator")] 4

def k8m0 : Method := { name := "<init>", desc := "()V", sig := { parameters := [], returnType := none }, accessFlags := 0, code := none }
def k8c1 : Code := { maxStack := 2, maxLocals := 2, code := jdk_52_method_15_code, exceptionTable := #[], attributes := #[] }
def k8m1 : Method := { name := "coderFromArrayLen", desc := "([BI)B", sig := { parameters := [(.array .byte), .int], returnType := some .byte }, accessFlags := 8, code := some k8c1 }
def k8c2 : Code := { maxStack := 5, maxLocals := 6, code := jdk_52_method_16_code, exceptionTable := #[], attributes := #[] }
def k8m2 : Method := { name := "compress", desc := "([CII)[B", sig := { parameters := [(.array .char), .int, .int], returnType := some (.array .byte) }, accessFlags := 9, code := some k8c2 }
def k8c3 : Code := { maxStack := 3, maxLocals := 7, code := jdk_52_method_21_code, exceptionTable := #[], attributes := #[] }
def k8m3 : Method := { name := "compress", desc := "([CI[BII)I", sig := { parameters := [(.array .char), .int, (.array .byte), .int, .int], returnType := some .int }, accessFlags := 9, code := some k8c3 }
/-- java/lang/StringUTF16 -/
def k8 : Class := { plain "java/lang/StringUTF16" (some 0) with
  accessFlags := 48
  interfaces := #[]
  cf := some (fileOf pool8 12 #[.nestMembers #[627, 629, 369]] #[{ accessFlags := 0, nameIndex := 9, descriptorIndex := 10, attributes := #[] }, { accessFlags := 8, nameIndex := 261, descriptorIndex := 262, attributes := #[] }, { accessFlags := 9, nameIndex := 117, descriptorIndex := 122, attributes := #[] }, { accessFlags := 9, nameIndex := 117, descriptorIndex := 118, attributes := #[] }] 48 6 #[] #[{ accessFlags := 26, nameIndex := 61, descriptorIndex := 62, attributes := #[] }, { accessFlags := 26, nameIndex := 65, descriptorIndex := 62, attributes := #[] }, { accessFlags := 24, nameIndex := 430, descriptorIndex := 62, attributes := #[] }, { accessFlags := 4120, nameIndex := 46, descriptorIndex := 47, attributes := #[] }])
  fields := #[{ name := "HI_BYTE_SHIFT", type := .int, accessFlags := 26, slot := 0, constantValue := 0 }, { name := "LO_BYTE_SHIFT", type := .int, accessFlags := 26, slot := 1, constantValue := 0 }, { name := "MAX_LENGTH", type := .int, accessFlags := 24, slot := 2, constantValue := 0 }, { name := "$assertionsDisabled", type := .boolean, accessFlags := 4120, slot := 3, constantValue := 0 }]
  methods := #[k8m0, k8m1, k8m2, k8m3]
  instanceTypes := #[]
  staticTypes := #[.int, .int, .int, .boolean]
  resolved := Array.replicate 635 none
  statics := none }

def pool9 : Array CpInfo := pool [(1, .methodref 2 3), (0, .class_ 4), (0, .nameAndType 5 6), (0, u "java/lang/Object"), (0, u "<init>"), (0, u "()V"), (0, .class_ 8), (0, u "java/util/LinkedHashMap"), (0, .methodref 7 3), (0, .fieldref 11 12), (0, .class_ 13), (0, .nameAndType 14 15), (0, u "com/example/uakari/uakari/CommandLine"), (0, u "values"), (0, u "Ljava/util/Map;"), (0, .class_ 17), (0, u "java/util/HashSet"), (0, .methodref 16 3), (0, .fieldref 11 20), (0, .nameAndType 21 22), (0, u "given"), (0, u "Ljava/util/Set;"), (0, .class_ 24), (0, u "java/util/ArrayList"), (0, .methodref 23 3), (0, .fieldref 11 27), (0, .nameAndType 28 29), (0, u "operands"), (0, u "Ljava/util/List;"), (0, .fieldref 11 31), (0, .nameAndType 32 33), (0, u "usage"), (0, u "Ljava/lang/String;"), (0, .interfaceMethodref 35 36), (0, .class_ 37), (0, .nameAndType 38 39), (0, u "java/util/List"), (0, u "size"), (0, u "()I"), (40, u "error"), (0, u "(Ljava/lang/String;)Lcom/example/uakari/uakari/UsageException;"), (17, .class_ 100), (0, u "com/example/uakari/uakari/UsageException"), (0, .methodref 99 102), (0, .nameAndType 5 103), (0, u "(Ljava/lang/String;Ljava/lang/String;)V"), (178, u "(Ljava/util/List;Ljava/util/Set;Ljava/util/Set;Ljava/util/Set;Ljava/lang/String;)V")] 76

def k9c0 : Code := { maxStack := 3, maxLocals := 8, code := prog_1_method_1_code, exceptionTable := #[], attributes := #[] }
def k9m0 : Method := { name := "<init>", desc := "(Ljava/util/List;Ljava/util/Set;Ljava/util/Set;Ljava/util/Set;Ljava/lang/String;)V", sig := { parameters := [(.object "java/util/List"), (.object "java/util/Set"), (.object "java/util/Set"), (.object "java/util/Set"), (.object "java/lang/String")], returnType := none }, accessFlags := 0, code := some k9c0 }
def k9c1 : Code := { maxStack := 4, maxLocals := 2, code := prog_1_method_3_code, exceptionTable := #[], attributes := #[] }
def k9m1 : Method := { name := "error", desc := "(Ljava/lang/String;)Lcom/example/uakari/uakari/UsageException;", sig := { parameters := [(.object "java/lang/String")], returnType := some (.object "com/example/uakari/uakari/UsageException") }, accessFlags := 0, code := some k9c1 }
/-- com/example/uakari/uakari/CommandLine -/
def k9 : Class := { plain "com/example/uakari/uakari/CommandLine" (some 0) with
  accessFlags := 48
  interfaces := #[]
  cf := some (fileOf pool9 11 #[] #[{ accessFlags := 0, nameIndex := 5, descriptorIndex := 282, attributes := #[] }, { accessFlags := 0, nameIndex := 80, descriptorIndex := 81, attributes := #[] }] 48 2 #[] #[{ accessFlags := 18, nameIndex := 32, descriptorIndex := 33, attributes := #[] }, { accessFlags := 18, nameIndex := 14, descriptorIndex := 15, attributes := #[] }, { accessFlags := 18, nameIndex := 21, descriptorIndex := 22, attributes := #[] }, { accessFlags := 18, nameIndex := 28, descriptorIndex := 29, attributes := #[] }])
  fields := #[{ name := "usage", type := (.object "java/lang/String"), accessFlags := 18, slot := 0, constantValue := 0 }, { name := "values", type := (.object "java/util/Map"), accessFlags := 18, slot := 1, constantValue := 0 }, { name := "given", type := (.object "java/util/Set"), accessFlags := 18, slot := 2, constantValue := 0 }, { name := "operands", type := (.object "java/util/List"), accessFlags := 18, slot := 3, constantValue := 0 }]
  methods := #[k9m0, k9m1]
  instanceTypes := #[(.object "java/lang/String"), (.object "java/util/Map"), (.object "java/util/Set"), (.object "java/util/List")]
  staticTypes := #[]
  resolved := Array.replicate 359 none
  statics := none }

def pool10 : Array CpInfo := pool [(8, .class_ 10), (1, u "java/lang/Iterable"), (24, .class_ 36), (0, u "java/lang/Object")] 25

/-- java/lang/Iterable -/
def k10 : Class := { plain "java/lang/Iterable" (some 0) with
  accessFlags := 1537
  interfaces := #[]
  cf := some (fileOf pool10 8 #[] #[] 1537 35 #[] #[])
  fields := #[]
  methods := #[]
  instanceTypes := #[]
  staticTypes := #[]
  resolved := Array.replicate 62 none
  statics := none }

def pool11 : Array CpInfo := pool [(10, .class_ 12), (1, u "java/util/Collection"), (47, .class_ 61), (0, u "java/lang/Object"), (0, .class_ 63), (0, u "java/lang/Iterable")] 51

/-- java/util/Collection -/
def k11 : Class := { plain "java/util/Collection" (some 0) with
  accessFlags := 1537
  interfaces := #[10]
  cf := some (fileOf pool11 10 #[] #[] 1537 60 #[62] #[])
  fields := #[]
  methods := #[]
  instanceTypes := #[]
  staticTypes := #[]
  resolved := Array.replicate 115 none
  statics := none }

def pool12 : Array CpInfo := pool [(1, .methodref 2 3), (0, .class_ 4), (0, .nameAndType 5 6), (0, u "java/lang/Object"), (0, u "<init>"), (0, u "()V"), (1, .class_ 10), (1, u "java/util/AbstractCollection"), (66, .class_ 78), (0, u "java/util/Collection")] 81

def k12c0 : Code := { maxStack := 1, maxLocals := 1, code := jdk_22_method_1_code, exceptionTable := #[], attributes := #[] }
def k12m0 : Method := { name := "<init>", desc := "()V", sig := { parameters := [], returnType := none }, accessFlags := 4, code := some k12c0 }
/-- java/util/AbstractCollection -/
def k12 : Class := { plain "java/util/AbstractCollection" (some 0) with
  accessFlags := 1057
  interfaces := #[11]
  cf := some (fileOf pool12 8 #[] #[{ accessFlags := 4, nameIndex := 5, descriptorIndex := 6, attributes := #[] }] 1057 2 #[77] #[])
  fields := #[]
  methods := #[k12m0]
  instanceTypes := #[]
  staticTypes := #[]
  resolved := Array.replicate 160 none
  statics := none }

def pool13 : Array CpInfo := pool [(8, .class_ 10), (1, u "java/util/SequencedCollection"), (15, .class_ 27), (0, u "java/lang/Object"), (0, .class_ 29), (0, u "java/util/Collection")] 27

/-- java/util/SequencedCollection -/
def k13 : Class := { plain "java/util/SequencedCollection" (some 0) with
  accessFlags := 1537
  interfaces := #[11]
  cf := some (fileOf pool13 8 #[] #[] 1537 26 #[28] #[])
  fields := #[]
  methods := #[]
  instanceTypes := #[]
  staticTypes := #[]
  resolved := Array.replicate 57 none
  statics := none }

def pool14 : Array CpInfo := pool [(8, .class_ 10), (1, u "java/util/List"), (68, u "size"), (0, u "()I"), (22, .class_ 104), (0, u "java/lang/Object"), (15, .class_ 121), (0, u "java/util/SequencedCollection")] 129

def k14m0 : Method := { name := "size", desc := "()I", sig := { parameters := [], returnType := some .int }, accessFlags := 1025, code := none }
/-- java/util/List -/
def k14 : Class := { plain "java/util/List" (some 0) with
  accessFlags := 1537
  interfaces := #[13]
  cf := some (fileOf pool14 8 #[] #[{ accessFlags := 1025, nameIndex := 79, descriptorIndex := 80, attributes := #[] }] 1537 103 #[120] #[])
  fields := #[]
  methods := #[k14m0]
  instanceTypes := #[]
  staticTypes := #[]
  resolved := Array.replicate 251 none
  statics := none }

def pool15 : Array CpInfo := pool [(1, .methodref 2 3), (0, .class_ 4), (0, .nameAndType 5 6), (0, u "java/util/AbstractCollection"), (0, u "<init>"), (0, u "()V"), (0, .fieldref 8 9), (0, .class_ 10), (0, .nameAndType 11 12), (0, u "java/util/AbstractList"), (0, u "modCount"), (0, u "I"), (64, .class_ 78), (0, u "java/util/AbstractList$Itr"), (3, .class_ 83), (0, u "java/util/AbstractList$ListItr"), (9, .class_ 94), (0, u "java/util/AbstractList$RandomAccessSubList"), (3, .class_ 99), (0, u "java/util/AbstractList$SubList"), (33, .class_ 134), (0, u "java/util/List"), (73, .class_ 209), (0, u "java/util/AbstractList$SubList$1"), (0, .class_ 211), (0, u "java/util/AbstractList$RandomAccessSpliterator")] 6

def k15c0 : Code := { maxStack := 2, maxLocals := 1, code := jdk_39_method_1_code, exceptionTable := #[], attributes := #[] }
def k15m0 : Method := { name := "<init>", desc := "()V", sig := { parameters := [], returnType := none }, accessFlags := 4, code := some k15c0 }
/-- java/util/AbstractList -/
def k15 : Class := { plain "java/util/AbstractList" (some 12) with
  accessFlags := 1057
  interfaces := #[14]
  cf := some (fileOf pool15 8 #[.nestMembers #[93, 98, 208, 210, 82, 77]] #[{ accessFlags := 4, nameIndex := 5, descriptorIndex := 6, attributes := #[] }] 1057 2 #[133] #[{ accessFlags := 132, nameIndex := 11, descriptorIndex := 12, attributes := #[] }])
  fields := #[{ name := "modCount", type := .int, accessFlags := 132, slot := 0, constantValue := 0 }]
  methods := #[k15m0]
  instanceTypes := #[.int]
  staticTypes := #[]
  resolved := Array.replicate 218 none
  statics := none }

def pool16 : Array CpInfo := pool [(1, .class_ 2), (0, u "java/util/RandomAccess"), (0, .class_ 4), (0, u "java/lang/Object")] 2

/-- java/util/RandomAccess -/
def k16 : Class := { plain "java/util/RandomAccess" (some 0) with
  accessFlags := 1537
  interfaces := #[]
  cf := some (fileOf pool16 1 #[] #[] 1537 3 #[] #[])
  fields := #[]
  methods := #[]
  instanceTypes := #[]
  staticTypes := #[]
  resolved := Array.replicate 7 none
  statics := none }

def pool17 : Array CpInfo := pool [(1, .class_ 2), (0, u "java/lang/Cloneable"), (0, .class_ 4), (0, u "java/lang/Object")] 2

/-- java/lang/Cloneable -/
def k17 : Class := { plain "java/lang/Cloneable" (some 0) with
  accessFlags := 1537
  interfaces := #[]
  cf := some (fileOf pool17 1 #[] #[] 1537 3 #[] #[])
  fields := #[]
  methods := #[]
  instanceTypes := #[]
  staticTypes := #[]
  resolved := Array.replicate 7 none
  statics := none }

def pool18 : Array CpInfo := pool [(1, .methodref 2 3), (0, .class_ 4), (0, .nameAndType 5 6), (0, u "java/util/AbstractList"), (0, u "<init>"), (0, u "()V"), (2, .fieldref 10 11), (0, .class_ 12), (0, .nameAndType 13 14), (0, u "java/util/ArrayList"), (0, u "elementData"), (0, u "[Ljava/lang/Object;"), (2, u "EMPTY_ELEMENTDATA"), (21, .fieldref 10 40), (0, .nameAndType 41 14), (0, u "DEFAULTCAPACITY_EMPTY_ELEMENTDATA"), (6, .fieldref 10 49), (0, .nameAndType 50 51), (0, u "size"), (0, u "I"), (96, .class_ 149), (0, u "java/util/List"), (36, u "()I"), (75, .class_ 263), (0, u "java/util/ArrayList$ListItr"), (3, .class_ 268), (0, u "java/util/ArrayList$Itr"), (7, .class_ 277), (0, u "java/util/ArrayList$SubList"), (12, .class_ 291), (0, u "java/util/ArrayList$ArrayListSpliterator"), (37, .class_ 330), (0, u "java/util/RandomAccess"), (0, .class_ 332), (0, u "java/lang/Cloneable"), (0, .class_ 334), (0, u "java/io/Serializable"), (0, u "serialVersionUID"), (0, u "J"), (3, u "DEFAULT_CAPACITY"), (159, .class_ 501), (0, u "java/util/ArrayList$SubList$2"), (0, .class_ 503), (0, u "java/util/ArrayList$SubList$1")] 5

def k18c0 : Code := { maxStack := 2, maxLocals := 1, code := jdk_38_method_2_code, exceptionTable := #[], attributes := #[] }
def k18m0 : Method := { name := "<init>", desc := "()V", sig := { parameters := [], returnType := none }, accessFlags := 1, code := some k18c0 }
def k18c1 : Code := { maxStack := 1, maxLocals := 1, code := jdk_38_method_8_code, exceptionTable := #[], attributes := #[] }
def k18m1 : Method := { name := "size", desc := "()I", sig := { parameters := [], returnType := some .int }, accessFlags := 1, code := some k18c1 }
/-- java/util/ArrayList -/
def k18 : Class := { plain "java/util/ArrayList" (some 15) with
  accessFlags := 33
  interfaces := #[14, 16, 17, 2]
  cf := some (fileOf pool18 10 #[.nestMembers #[290, 276, 500, 502, 262, 267]] #[{ accessFlags := 1, nameIndex := 5, descriptorIndex := 6, attributes := #[] }, { accessFlags := 1, nameIndex := 50, descriptorIndex := 186, attributes := #[] }] 33 2 #[148, 329, 331, 333] #[{ accessFlags := 26, nameIndex := 335, descriptorIndex := 336, attributes := #[] }, { accessFlags := 26, nameIndex := 340, descriptorIndex := 51, attributes := #[] }, { accessFlags := 26, nameIndex := 17, descriptorIndex := 14, attributes := #[] }, { accessFlags := 26, nameIndex := 41, descriptorIndex := 14, attributes := #[] }, { accessFlags := 128, nameIndex := 13, descriptorIndex := 14, attributes := #[] }, { accessFlags := 2, nameIndex := 50, descriptorIndex := 51, attributes := #[] }])
  fields := #[{ name := "serialVersionUID", type := .long, accessFlags := 26, slot := 0, constantValue := 0 }, { name := "DEFAULT_CAPACITY", type := .int, accessFlags := 26, slot := 1, constantValue := 0 }, { name := "EMPTY_ELEMENTDATA", type := (.array (.object "java/lang/Object")), accessFlags := 26, slot := 2, constantValue := 0 }, { name := "DEFAULTCAPACITY_EMPTY_ELEMENTDATA", type := (.array (.object "java/lang/Object")), accessFlags := 26, slot := 3, constantValue := 0 }, { name := "elementData", type := (.array (.object "java/lang/Object")), accessFlags := 128, slot := 1, constantValue := 0 }, { name := "size", type := .int, accessFlags := 2, slot := 2, constantValue := 0 }]
  methods := #[k18m0, k18m1]
  instanceTypes := #[.int, (.array (.object "java/lang/Object")), .int]
  staticTypes := #[.long, .int, (.array (.object "java/lang/Object")), (.array (.object "java/lang/Object"))]
  resolved := Array.replicate 509 none
  statics := some 1 }

def pool19 : Array CpInfo := pool [(2, .class_ 4), (1, u "java/util/Map"), (31, .class_ 37), (0, u "java/util/Map$Entry"), (55, .class_ 94), (0, u "java/lang/Object")] 168

/-- java/util/Map -/
def k19 : Class := { plain "java/util/Map" (some 0) with
  accessFlags := 1537
  interfaces := #[]
  cf := some (fileOf pool19 2 #[.nestMembers #[36]] #[] 1537 93 #[] #[])
  fields := #[]
  methods := #[]
  instanceTypes := #[]
  staticTypes := #[]
  resolved := Array.replicate 263 none
  statics := none }

def pool20 : Array CpInfo := pool [(1, .methodref 2 3), (0, .class_ 4), (0, .nameAndType 5 6), (0, u "java/lang/Object"), (0, u "<init>"), (0, u "()V"), (1, .class_ 10), (1, u "java/util/AbstractMap"), (42, .class_ 54), (0, u "java/util/Map"), (9, u "keySet"), (0, u "Ljava/util/Set;"), (0, .class_ 67), (0, u "java/util/AbstractMap$1"), (5, u "values"), (0, u "Ljava/util/Collection;"), (0, .class_ 76), (0, u "java/util/AbstractMap$2"), (104, .class_ 182), (0, u "java/util/AbstractMap$ViewCollection"), (0, .class_ 184), (0, u "java/util/AbstractMap$SimpleImmutableEntry"), (0, .class_ 186), (0, u "java/util/AbstractMap$SimpleEntry"), (0, .class_ 188), (0, u "java/util/AbstractMap$2$1"), (0, .class_ 190), (0, u "java/util/AbstractMap$1$1")] 5

def k20c0 : Code := { maxStack := 1, maxLocals := 1, code := jdk_71_method_1_code, exceptionTable := #[], attributes := #[] }
def k20m0 : Method := { name := "<init>", desc := "()V", sig := { parameters := [], returnType := none }, accessFlags := 4, code := some k20c0 }
/-- java/util/AbstractMap -/
def k20 : Class := { plain "java/util/AbstractMap" (some 0) with
  accessFlags := 1057
  interfaces := #[19]
  cf := some (fileOf pool20 8 #[.nestMembers #[181, 183, 185, 75, 187, 66, 189]] #[{ accessFlags := 4, nameIndex := 5, descriptorIndex := 6, attributes := #[] }] 1057 2 #[53] #[{ accessFlags := 128, nameIndex := 64, descriptorIndex := 65, attributes := #[] }, { accessFlags := 128, nameIndex := 73, descriptorIndex := 74, attributes := #[] }])
  fields := #[{ name := "keySet", type := (.object "java/util/Set"), accessFlags := 128, slot := 0, constantValue := 0 }, { name := "values", type := (.object "java/util/Collection"), accessFlags := 128, slot := 1, constantValue := 0 }]
  methods := #[k20m0]
  instanceTypes := #[(.object "java/util/Set"), (.object "java/util/Collection")]
  staticTypes := #[]
  resolved := Array.replicate 196 none
  statics := none }

def pool21 : Array CpInfo := pool [(40, .class_ 41), (0, u "java/util/HashMap"), (1, .methodref 44 45), (0, .class_ 46), (0, .nameAndType 47 48), (0, u "java/util/AbstractMap"), (0, u "<init>"), (0, u "()V"), (32, .fieldref 40 82), (0, .nameAndType 83 84), (0, u "loadFactor"), (0, u "F"), (5, u "threshold"), (0, u "I"), (0, .float 1061158912), (8, .class_ 103), (1, u "java/util/Map"), (0, u "size"), (2, u "table"), (0, u "[Ljava/util/HashMap$Node;"), (14, u "entrySet"), (39, .class_ 165), (1, u "java/util/HashMap$Node"), (14, .class_ 181), (0, u "java/util/HashMap$TreeNode"), (22, u "modCount"), (37, u "Ljava/util/Set;"), (0, .class_ 244), (0, u "java/util/HashMap$KeySet"), (18, .class_ 264), (0, u "java/util/HashMap$Values"), (3, .class_ 269), (0, u "java/util/HashMap$EntrySet"), (76, .class_ 348), (1, u "java/util/HashMap$UnsafeHolder"), (43, .class_ 393), (0, u "java/lang/Cloneable"), (0, .class_ 395), (0, u "java/io/Serializable"), (0, u "serialVersionUID"), (0, u "J"), (3, u "DEFAULT_INITIAL_CAPACITY"), (1, u "MAXIMUM_CAPACITY"), (0, u "DEFAULT_LOAD_FACTOR"), (0, u "TREEIFY_THRESHOLD"), (1, u "UNTREEIFY_THRESHOLD"), (1, u "MIN_TREEIFY_CAPACITY"), (186, .class_ 597), (0, u "java/util/HashMap$EntrySpliterator"), (0, .class_ 599), (0, u "java/util/HashMap$ValueSpliterator"), (0, .class_ 601), (0, u "java/util/HashMap$KeySpliterator"), (0, .class_ 603), (0, u "java/util/HashMap$HashMapSpliterator"), (0, .class_ 605), (0, u "java/util/HashMap$EntryIterator"), (0, .class_ 607), (0, u "java/util/HashMap$ValueIterator"), (0, .class_ 609), (0, u "java/util/HashMap$KeyIterator"), (0, .class_ 611), (0, u "java/util/HashMap$HashIterator")] 17

def k21c0 : Code := { maxStack := 2, maxLocals := 1, code := jdk_69_method_7_code, exceptionTable := #[], attributes := #[] }
def k21m0 : Method := { name := "<init>", desc := "()V", sig := { parameters := [], returnType := none }, accessFlags := 1, code := some k21c0 }
/-- java/util/HashMap -/
def k21 : Class := { plain "java/util/HashMap" (some 20) with
  accessFlags := 33
  interfaces := #[19, 17, 2]
  cf := some (fileOf pool21 40 #[.nestMembers #[180, 596, 598, 600, 602, 604, 606, 608, 610, 346, 268, 263, 243, 163]] #[{ accessFlags := 1, nameIndex := 47, descriptorIndex := 48, attributes := #[] }] 33 44 #[101, 392, 394] #[{ accessFlags := 26, nameIndex := 396, descriptorIndex := 397, attributes := #[] }, { accessFlags := 24, nameIndex := 401, descriptorIndex := 91, attributes := #[] }, { accessFlags := 24, nameIndex := 403, descriptorIndex := 91, attributes := #[] }, { accessFlags := 24, nameIndex := 404, descriptorIndex := 84, attributes := #[] }, { accessFlags := 24, nameIndex := 405, descriptorIndex := 91, attributes := #[] }, { accessFlags := 24, nameIndex := 407, descriptorIndex := 91, attributes := #[] }, { accessFlags := 24, nameIndex := 409, descriptorIndex := 91, attributes := #[] }, { accessFlags := 128, nameIndex := 107, descriptorIndex := 108, attributes := #[] }, { accessFlags := 128, nameIndex := 123, descriptorIndex := 242, attributes := #[] }, { accessFlags := 128, nameIndex := 104, descriptorIndex := 91, attributes := #[] }, { accessFlags := 128, nameIndex := 204, descriptorIndex := 91, attributes := #[] }, { accessFlags := 0, nameIndex := 90, descriptorIndex := 91, attributes := #[] }, { accessFlags := 16, nameIndex := 83, descriptorIndex := 84, attributes := #[] }])
  fields := #[{ name := "serialVersionUID", type := .long, accessFlags := 26, slot := 0, constantValue := 0 }, { name := "DEFAULT_INITIAL_CAPACITY", type := .int, accessFlags := 24, slot := 1, constantValue := 0 }, { name := "MAXIMUM_CAPACITY", type := .int, accessFlags := 24, slot := 2, constantValue := 0 }, { name := "DEFAULT_LOAD_FACTOR", type := .float, accessFlags := 24, slot := 3, constantValue := 0 }, { name := "TREEIFY_THRESHOLD", type := .int, accessFlags := 24, slot := 4, constantValue := 0 }, { name := "UNTREEIFY_THRESHOLD", type := .int, accessFlags := 24, slot := 5, constantValue := 0 }, { name := "MIN_TREEIFY_CAPACITY", type := .int, accessFlags := 24, slot := 6, constantValue := 0 }, { name := "table", type := (.array (.object "java/util/HashMap$Node")), accessFlags := 128, slot := 2, constantValue := 0 }, { name := "entrySet", type := (.object "java/util/Set"), accessFlags := 128, slot := 3, constantValue := 0 }, { name := "size", type := .int, accessFlags := 128, slot := 4, constantValue := 0 }, { name := "modCount", type := .int, accessFlags := 128, slot := 5, constantValue := 0 }, { name := "threshold", type := .int, accessFlags := 0, slot := 6, constantValue := 0 }, { name := "loadFactor", type := .float, accessFlags := 16, slot := 7, constantValue := 0 }]
  methods := #[k21m0]
  instanceTypes := #[(.object "java/util/Set"), (.object "java/util/Collection"), (.array (.object "java/util/HashMap$Node")), (.object "java/util/Set"), .int, .int, .int, .float]
  staticTypes := #[.long, .int, .int, .float, .int, .int, .int]
  resolved := Array.replicate 629 none
  statics := none }

def pool22 : Array CpInfo := pool [(2, .class_ 4), (1, u "java/util/SequencedMap"), (38, .class_ 44), (0, u "java/util/SequencedMap$1SeqKeySet"), (3, .class_ 49), (0, u "java/util/SequencedMap$1SeqValues"), (1, .class_ 52), (0, u "java/util/SequencedMap$1SeqEntrySet"), (1, .class_ 55), (0, u "java/lang/Object"), (0, .class_ 57), (0, u "java/util/Map")] 48

/-- java/util/SequencedMap -/
def k22 : Class := { plain "java/util/SequencedMap" (some 0) with
  accessFlags := 1537
  interfaces := #[19]
  cf := some (fileOf pool22 2 #[.nestMembers #[51, 48, 43]] #[] 1537 54 #[56] #[])
  fields := #[]
  methods := #[]
  instanceTypes := #[]
  staticTypes := #[]
  resolved := Array.replicate 106 none
  statics := none }

def pool23 : Array CpInfo := pool [(1, .fieldref 2 3), (0, .class_ 4), (0, .nameAndType 5 6), (0, u "java/util/LinkedHashMap"), (0, u "putMode"), (0, u "I"), (2, u "head"), (0, u "Ljava/util/LinkedHashMap$Entry;"), (2, u "tail"), (1, .class_ 17), (1, u "java/util/LinkedHashMap$Entry"), (5, .class_ 25), (1, u "java/util/HashMap"), (1, u "()V"), (2, u "<init>"), (33, .fieldref 2 65), (0, .nameAndType 66 67), (0, u "accessOrder"), (0, u "Z"), (19, .methodref 23 88), (0, .nameAndType 30 27), (32, .class_ 122), (0, u "java/util/LinkedHashMap$LinkedKeySet"), (20, .class_ 144), (0, u "java/util/LinkedHashMap$LinkedValues"), (9, .class_ 155), (0, u "java/util/LinkedHashMap$LinkedEntrySet"), (44, .class_ 201), (0, u "java/util/LinkedHashMap$ReversedLinkedHashMapView"), (3, .class_ 206), (0, u "java/util/SequencedMap"), (0, u "serialVersionUID"), (0, u "J"), (5, u "PUT_NORM"), (1, u "PUT_FIRST"), (1, u "PUT_LAST"), (143, .class_ 363), (0, u "java/util/LinkedHashMap$LinkedEntryIterator"), (0, .class_ 365), (0, u "java/util/LinkedHashMap$LinkedValueIterator"), (0, .class_ 367), (0, u "java/util/LinkedHashMap$LinkedKeyIterator"), (0, .class_ 369), (0, u "java/util/LinkedHashMap$LinkedHashIterator")] 16

def k23c0 : Code := { maxStack := 2, maxLocals := 1, code := jdk_94_method_16_code, exceptionTable := #[], attributes := #[] }
def k23m0 : Method := { name := "<init>", desc := "()V", sig := { parameters := [], returnType := none }, accessFlags := 1, code := some k23c0 }
/-- java/util/LinkedHashMap -/
def k23 : Class := { plain "java/util/LinkedHashMap" (some 21) with
  accessFlags := 33
  interfaces := #[22]
  cf := some (fileOf pool23 2 #[.nestMembers #[200, 362, 364, 366, 368, 154, 143, 121, 15]] #[{ accessFlags := 1, nameIndex := 30, descriptorIndex := 27, attributes := #[] }] 33 23 #[205] #[{ accessFlags := 26, nameIndex := 207, descriptorIndex := 208, attributes := #[] }, { accessFlags := 128, nameIndex := 9, descriptorIndex := 10, attributes := #[] }, { accessFlags := 128, nameIndex := 13, descriptorIndex := 10, attributes := #[] }, { accessFlags := 16, nameIndex := 66, descriptorIndex := 67, attributes := #[] }, { accessFlags := 24, nameIndex := 214, descriptorIndex := 6, attributes := #[] }, { accessFlags := 24, nameIndex := 216, descriptorIndex := 6, attributes := #[] }, { accessFlags := 24, nameIndex := 218, descriptorIndex := 6, attributes := #[] }, { accessFlags := 128, nameIndex := 5, descriptorIndex := 6, attributes := #[] }])
  fields := #[{ name := "serialVersionUID", type := .long, accessFlags := 26, slot := 0, constantValue := 0 }, { name := "head", type := (.object "java/util/LinkedHashMap$Entry"), accessFlags := 128, slot := 8, constantValue := 0 }, { name := "tail", type := (.object "java/util/LinkedHashMap$Entry"), accessFlags := 128, slot := 9, constantValue := 0 }, { name := "accessOrder", type := .boolean, accessFlags := 16, slot := 10, constantValue := 0 }, { name := "PUT_NORM", type := .int, accessFlags := 24, slot := 1, constantValue := 0 }, { name := "PUT_FIRST", type := .int, accessFlags := 24, slot := 2, constantValue := 0 }, { name := "PUT_LAST", type := .int, accessFlags := 24, slot := 3, constantValue := 0 }, { name := "putMode", type := .int, accessFlags := 128, slot := 11, constantValue := 0 }]
  methods := #[k23m0]
  instanceTypes := #[(.object "java/util/Set"), (.object "java/util/Collection"), (.array (.object "java/util/HashMap$Node")), (.object "java/util/Set"), .int, .int, .int, .float, (.object "java/util/LinkedHashMap$Entry"), (.object "java/util/LinkedHashMap$Entry"), .boolean, .int]
  staticTypes := #[.long, .int, .int, .int]
  resolved := Array.replicate 386 none
  statics := none }

def pool24 : Array CpInfo := pool [(26, .class_ 27), (0, u "java/lang/Object"), (5, .class_ 34), (0, u "java/util/Set"), (1, .class_ 38), (1, u "java/util/Collection")] 105

/-- java/util/Set -/
def k24 : Class := { plain "java/util/Set" (some 0) with
  accessFlags := 1537
  interfaces := #[11]
  cf := some (fileOf pool24 33 #[] #[] 1537 26 #[36] #[])
  fields := #[]
  methods := #[]
  instanceTypes := #[]
  staticTypes := #[]
  resolved := Array.replicate 144 none
  statics := none }

def pool25 : Array CpInfo := pool [(1, .methodref 2 3), (0, .class_ 4), (0, .nameAndType 5 6), (0, u "java/util/AbstractCollection"), (0, u "<init>"), (0, u "()V"), (0, .class_ 8), (0, u "java/util/Set"), (7, .class_ 17), (0, u "java/util/AbstractSet")] 78

def k25c0 : Code := { maxStack := 1, maxLocals := 1, code := jdk_91_method_1_code, exceptionTable := #[], attributes := #[] }
def k25m0 : Method := { name := "<init>", desc := "()V", sig := { parameters := [], returnType := none }, accessFlags := 4, code := some k25c0 }
/-- java/util/AbstractSet -/
def k25 : Class := { plain "java/util/AbstractSet" (some 12) with
  accessFlags := 1057
  interfaces := #[24]
  cf := some (fileOf pool25 16 #[] #[{ accessFlags := 4, nameIndex := 5, descriptorIndex := 6, attributes := #[] }] 1057 2 #[7] #[])
  fields := #[]
  methods := #[k25m0]
  instanceTypes := #[]
  staticTypes := #[]
  resolved := Array.replicate 96 none
  statics := none }

def pool26 : Array CpInfo := pool [(1, .methodref 2 3), (0, .class_ 4), (0, .nameAndType 5 6), (0, u "java/util/AbstractSet"), (0, u "<init>"), (0, u "()V"), (0, .class_ 8), (0, u "java/util/HashMap"), (0, .methodref 7 3), (0, .fieldref 11 12), (0, .class_ 13), (0, .nameAndType 14 15), (0, u "java/util/HashSet"), (0, u "map"), (0, u "Ljava/util/HashMap;"), (34, .class_ 52), (1, u "java/util/Set"), (13, u "PRESENT"), (0, u "Ljava/lang/Object;"), (158, .class_ 227), (0, u "java/lang/Cloneable"), (0, .class_ 229), (0, u "java/io/Serializable"), (0, u "serialVersionUID"), (0, u "J")] 71

def k26c0 : Code := { maxStack := 3, maxLocals := 1, code := jdk_93_method_1_code, exceptionTable := #[], attributes := #[] }
def k26m0 : Method := { name := "<init>", desc := "()V", sig := { parameters := [], returnType := none }, accessFlags := 1, code := some k26c0 }
/-- java/util/HashSet -/
def k26 : Class := { plain "java/util/HashSet" (some 25) with
  accessFlags := 33
  interfaces := #[24, 17, 2]
  cf := some (fileOf pool26 11 #[] #[{ accessFlags := 1, nameIndex := 5, descriptorIndex := 6, attributes := #[] }] 33 2 #[50, 226, 228] #[{ accessFlags := 24, nameIndex := 230, descriptorIndex := 231, attributes := #[] }, { accessFlags := 128, nameIndex := 14, descriptorIndex := 15, attributes := #[] }, { accessFlags := 24, nameIndex := 66, descriptorIndex := 67, attributes := #[] }])
  fields := #[{ name := "serialVersionUID", type := .long, accessFlags := 24, slot := 0, constantValue := 0 }, { name := "map", type := (.object "java/util/HashMap"), accessFlags := 128, slot := 0, constantValue := 0 }, { name := "PRESENT", type := (.object "java/lang/Object"), accessFlags := 24, slot := 1, constantValue := 0 }]
  methods := #[k26m0]
  instanceTypes := #[(.object "java/util/HashMap")]
  staticTypes := #[.long, (.object "java/lang/Object")]
  resolved := Array.replicate 303 none
  statics := none }

def pool27 : Array CpInfo := pool [(1, .methodref 2 3), (0, .class_ 4), (0, .nameAndType 5 6), (0, u "java/lang/Object"), (0, u "<init>"), (0, u "()V"), (0, .fieldref 8 9), (0, .class_ 10), (0, .nameAndType 11 12), (0, u "java/lang/Throwable"), (0, u "cause"), (0, u "Ljava/lang/Throwable;"), (0, .fieldref 8 14), (0, .nameAndType 15 16), (0, u "UNASSIGNED_STACK"), (0, u "[Ljava/lang/StackTraceElement;"), (0, .fieldref 8 18), (0, .nameAndType 19 16), (0, u "stackTrace"), (0, .fieldref 8 21), (0, .nameAndType 22 23), (0, u "SUPPRESSED_SENTINEL"), (0, u "Ljava/util/List;"), (0, .fieldref 8 25), (0, .nameAndType 26 23), (0, u "suppressedExceptions"), (0, .methodref 8 28), (0, .nameAndType 29 30), (0, u "fillInStackTrace"), (0, u "()Ljava/lang/Throwable;"), (0, .fieldref 8 32), (0, .nameAndType 33 34), (0, u "detailMessage"), (0, u "Ljava/lang/String;"), (3, u "()Ljava/lang/String;"), (2, u "getMessage"), (51, .class_ 94), (0, u "java/lang/Throwable$WrappedPrintStream"), (6, .class_ 103), (1, u "java/lang/Throwable$PrintStreamOrWriter"), (61, u "$assertionsDisabled"), (0, u "Z"), (26, .class_ 194), (0, u "java/lang/Throwable$WrappedPrintWriter"), (3, .fieldref 8 199), (0, .nameAndType 200 201), (0, u "backtrace"), (0, u "Ljava/lang/Object;"), (0, .methodref 8 203), (0, .nameAndType 29 204), (0, u "(I)Ljava/lang/Throwable;"), (6, u "depth"), (0, u "I"), (10, u "(Ljava/lang/String;)V"), (45, .class_ 271), (1, u "java/lang/Throwable$SentinelHolder"), (32, u "EMPTY_THROWABLE_ARRAY"), (0, u "[Ljava/lang/Throwable;"), (12, .class_ 319), (0, u "java/io/Serializable"), (0, u "serialVersionUID"), (0, u "J"), (5, u "NULL_CAUSE_MESSAGE"), (0, u "SELF_SUPPRESSION_MESSAGE"), (0, u "CAUSE_CAPTION"), (0, u "SUPPRESSED_CAPTION")] 73

def k27c0 : Code := { maxStack := 2, maxLocals := 1, code := jdk_78_method_1_code, exceptionTable := #[], attributes := #[] }
def k27m0 : Method := { name := "<init>", desc := "()V", sig := { parameters := [], returnType := none }, accessFlags := 1, code := some k27c0 }
def k27c1 : Code := { maxStack := 2, maxLocals := 2, code := jdk_78_method_2_code, exceptionTable := #[], attributes := #[] }
def k27m1 : Method := { name := "<init>", desc := "(Ljava/lang/String;)V", sig := { parameters := [(.object "java/lang/String")], returnType := none }, accessFlags := 1, code := some k27c1 }
def k27c2 : Code := { maxStack := 1, maxLocals := 1, code := jdk_78_method_6_code, exceptionTable := #[], attributes := #[] }
def k27m2 : Method := { name := "getMessage", desc := "()Ljava/lang/String;", sig := { parameters := [], returnType := some (.object "java/lang/String") }, accessFlags := 1, code := some k27c2 }
def k27c3 : Code := { maxStack := 2, maxLocals := 1, code := ⟨#[0x2a, 0xb4, 0x00, 0x11, 0xc7, 0x00, 0x0a, 0x2a, 0xb4, 0x00, 0xc6, 0xc6, 0x00, 0x10, 0x2a, 0x03, 0xb6, 0x00, 0xca, 0x57, 0x2a, 0xb2, 0x00, 0x0d, 0xb5, 0x00, 0x11, 0x2a, 0xb0]⟩, exceptionTable := #[], attributes := #[] }
def k27m3 : Method := { name := "fillInStackTrace", desc := "()Ljava/lang/Throwable;", sig := { parameters := [], returnType := some (.object "java/lang/Throwable") }, accessFlags := 33, code := some k27c3 }
def k27m4 : Method := { name := "fillInStackTrace", desc := "(I)Ljava/lang/Throwable;", sig := { parameters := [.int], returnType := some (.object "java/lang/Throwable") }, accessFlags := 258, code := none }
/-- java/lang/Throwable -/
def k27 : Class := { plain "java/lang/Throwable" (some 0) with
  accessFlags := 33
  interfaces := #[2]
  cf := some (fileOf pool27 8 #[.nestMembers #[193, 93, 101, 269]] #[{ accessFlags := 1, nameIndex := 5, descriptorIndex := 6, attributes := #[] }, { accessFlags := 1, nameIndex := 5, descriptorIndex := 223, attributes := #[] }, { accessFlags := 1, nameIndex := 41, descriptorIndex := 38, attributes := #[] }, { accessFlags := 33, nameIndex := 29, descriptorIndex := 30, attributes := #[] }, { accessFlags := 258, nameIndex := 29, descriptorIndex := 204, attributes := #[] }] 33 2 #[318] #[{ accessFlags := 26, nameIndex := 320, descriptorIndex := 321, attributes := #[] }, { accessFlags := 130, nameIndex := 200, descriptorIndex := 201, attributes := #[] }, { accessFlags := 2, nameIndex := 33, descriptorIndex := 34, attributes := #[] }, { accessFlags := 26, nameIndex := 15, descriptorIndex := 16, attributes := #[] }, { accessFlags := 2, nameIndex := 11, descriptorIndex := 12, attributes := #[] }, { accessFlags := 2, nameIndex := 19, descriptorIndex := 16, attributes := #[] }, { accessFlags := 130, nameIndex := 211, descriptorIndex := 212, attributes := #[] }, { accessFlags := 26, nameIndex := 22, descriptorIndex := 23, attributes := #[] }, { accessFlags := 2, nameIndex := 26, descriptorIndex := 23, attributes := #[] }, { accessFlags := 26, nameIndex := 327, descriptorIndex := 34, attributes := #[] }, { accessFlags := 26, nameIndex := 328, descriptorIndex := 34, attributes := #[] }, { accessFlags := 26, nameIndex := 329, descriptorIndex := 34, attributes := #[] }, { accessFlags := 26, nameIndex := 330, descriptorIndex := 34, attributes := #[] }, { accessFlags := 26, nameIndex := 304, descriptorIndex := 305, attributes := #[] }, { accessFlags := 4120, nameIndex := 165, descriptorIndex := 166, attributes := #[] }])
  fields := #[{ name := "serialVersionUID", type := .long, accessFlags := 26, slot := 0, constantValue := 0 }, { name := "backtrace", type := (.object "java/lang/Object"), accessFlags := 130, slot := 0, constantValue := 0 }, { name := "detailMessage", type := (.object "java/lang/String"), accessFlags := 2, slot := 1, constantValue := 0 }, { name := "UNASSIGNED_STACK", type := (.array (.object "java/lang/StackTraceElement")), accessFlags := 26, slot := 1, constantValue := 0 }, { name := "cause", type := (.object "java/lang/Throwable"), accessFlags := 2, slot := 2, constantValue := 0 }, { name := "stackTrace", type := (.array (.object "java/lang/StackTraceElement")), accessFlags := 2, slot := 3, constantValue := 0 }, { name := "depth", type := .int, accessFlags := 130, slot := 4, constantValue := 0 }, { name := "SUPPRESSED_SENTINEL", type := (.object "java/util/List"), accessFlags := 26, slot := 2, constantValue := 0 }, { name := "suppressedExceptions", type := (.object "java/util/List"), accessFlags := 2, slot := 5, constantValue := 0 }, { name := "NULL_CAUSE_MESSAGE", type := (.object "java/lang/String"), accessFlags := 26, slot := 3, constantValue := 0 }, { name := "SELF_SUPPRESSION_MESSAGE", type := (.object "java/lang/String"), accessFlags := 26, slot := 4, constantValue := 0 }, { name := "CAUSE_CAPTION", type := (.object "java/lang/String"), accessFlags := 26, slot := 5, constantValue := 0 }, { name := "SUPPRESSED_CAPTION", type := (.object "java/lang/String"), accessFlags := 26, slot := 6, constantValue := 0 }, { name := "EMPTY_THROWABLE_ARRAY", type := (.array (.object "java/lang/Throwable")), accessFlags := 26, slot := 7, constantValue := 0 }, { name := "$assertionsDisabled", type := .boolean, accessFlags := 4120, slot := 8, constantValue := 0 }]
  methods := #[k27m0, k27m1, k27m2, k27m3, k27m4]
  instanceTypes := #[(.object "java/lang/Object"), (.object "java/lang/String"), (.object "java/lang/Throwable"), (.array (.object "java/lang/StackTraceElement")), .int, (.object "java/util/List")]
  staticTypes := #[.long, (.array (.object "java/lang/StackTraceElement")), (.object "java/util/List"), (.object "java/lang/String"), (.object "java/lang/String"), (.object "java/lang/String"), (.object "java/lang/String"), (.array (.object "java/lang/Throwable")), .boolean]
  resolved := Array.replicate 404 none
  statics := some 2 }

def pool28 : Array CpInfo := pool [(2, .class_ 4), (1, u "java/lang/Throwable"), (0, u "<init>"), (0, u "()V"), (0, .methodref 2 8), (0, .nameAndType 5 9), (0, u "(Ljava/lang/String;)V"), (9, .class_ 20), (0, u "java/lang/Exception"), (0, u "serialVersionUID"), (0, u "J")] 17

def k28m0 : Method := { name := "<init>", desc := "()V", sig := { parameters := [], returnType := none }, accessFlags := 1, code := none }
def k28c1 : Code := { maxStack := 2, maxLocals := 2, code := jdk_59_method_2_code, exceptionTable := #[], attributes := #[] }
def k28m1 : Method := { name := "<init>", desc := "(Ljava/lang/String;)V", sig := { parameters := [(.object "java/lang/String")], returnType := none }, accessFlags := 1, code := some k28c1 }
/-- java/lang/Exception -/
def k28 : Class := { plain "java/lang/Exception" (some 27) with
  accessFlags := 33
  interfaces := #[]
  cf := some (fileOf pool28 19 #[] #[{ accessFlags := 1, nameIndex := 5, descriptorIndex := 6, attributes := #[] }, { accessFlags := 1, nameIndex := 5, descriptorIndex := 9, attributes := #[] }] 33 2 #[] #[{ accessFlags := 24, nameIndex := 21, descriptorIndex := 22, attributes := #[] }])
  fields := #[{ name := "serialVersionUID", type := .long, accessFlags := 24, slot := 0, constantValue := 0 }]
  methods := #[k28m0, k28m1]
  instanceTypes := #[(.object "java/lang/Object"), (.object "java/lang/String"), (.object "java/lang/Throwable"), (.array (.object "java/lang/StackTraceElement")), .int, (.object "java/util/List")]
  staticTypes := #[.long]
  resolved := Array.replicate 40 none
  statics := none }

def pool29 : Array CpInfo := pool [(1, .class_ 2), (0, u "java/lang/StringBuilder"), (0, .methodref 1 4), (0, .nameAndType 5 6), (0, u "<init>"), (0, u "()V"), (0, .methodref 1 8), (0, .nameAndType 9 10), (0, u "append"), (0, u "(Ljava/lang/String;)Ljava/lang/StringBuilder;"), (0, .string 12), (0, u "; usage: "), (0, .methodref 1 14), (0, .nameAndType 15 16), (0, u "toString"), (0, u "()Ljava/lang/String;"), (0, .methodref 18 19), (0, .class_ 20), (0, .nameAndType 5 21), (0, u "java/lang/Exception"), (0, u "(Ljava/lang/String;)V"), (0, .class_ 23), (0, u "com/example/uakari/uakari/UsageException"), (0, u "serialVersionUID"), (0, u "J"), (3, u "(Ljava/lang/String;Ljava/lang/String;)V")] 4

def k29c0 : Code := { maxStack := 3, maxLocals := 3, code := prog_3_method_1_code, exceptionTable := #[], attributes := #[] }
def k29m0 : Method := { name := "<init>", desc := "(Ljava/lang/String;Ljava/lang/String;)V", sig := { parameters := [(.object "java/lang/String"), (.object "java/lang/String")], returnType := none }, accessFlags := 0, code := some k29c0 }
/-- com/example/uakari/uakari/UsageException -/
def k29 : Class := { plain "com/example/uakari/uakari/UsageException" (some 28) with
  accessFlags := 48
  interfaces := #[]
  cf := some (fileOf pool29 22 #[] #[{ accessFlags := 0, nameIndex := 5, descriptorIndex := 29, attributes := #[] }] 48 18 #[] #[{ accessFlags := 26, nameIndex := 24, descriptorIndex := 25, attributes := #[] }])
  fields := #[{ name := "serialVersionUID", type := .long, accessFlags := 26, slot := 0, constantValue := 0 }]
  methods := #[k29m0]
  instanceTypes := #[(.object "java/lang/Object"), (.object "java/lang/String"), (.object "java/lang/Throwable"), (.array (.object "java/lang/StackTraceElement")), .int, (.object "java/util/List")]
  staticTypes := #[.long]
  resolved := Array.replicate 34 none
  statics := none }

def pool30 : Array CpInfo := pool [(1, .class_ 2), (0, u "java/lang/Appendable"), (0, .class_ 4), (0, u "java/lang/Object")] 9

/-- java/lang/Appendable -/
def k30 : Class := { plain "java/lang/Appendable" (some 0) with
  accessFlags := 1537
  interfaces := #[]
  cf := some (fileOf pool30 1 #[] #[] 1537 3 #[] #[])
  fields := #[]
  methods := #[]
  instanceTypes := #[]
  staticTypes := #[]
  resolved := Array.replicate 14 none
  statics := none }

def pool31 : Array CpInfo := pool [(1, .class_ 2), (0, u "java/lang/String"), (0, .methodref 4 5), (0, .class_ 6), (0, .nameAndType 7 8), (0, u "java/lang/Object"), (0, u "<init>"), (0, u "()V"), (1, .class_ 12), (1, u "java/lang/AbstractStringBuilder"), (0, u "EMPTYVALUE"), (0, u "[B"), (0, .fieldref 10 16), (0, .nameAndType 17 14), (0, u "value"), (0, .fieldref 1 19), (0, .nameAndType 20 21), (0, u "COMPACT_STRINGS"), (0, u "Z"), (0, .fieldref 10 23), (0, .nameAndType 24 25), (0, u "coder"), (0, u "B"), (6, .methodref 1 33), (0, .nameAndType 34 35), (0, u "length"), (0, u "()I"), (4, .methodref 1 41), (0, .nameAndType 24 42), (0, u "()B"), (2, u "append"), (0, u "(Ljava/lang/String;)Ljava/lang/AbstractStringBuilder;"), (1, .class_ 49), (0, u "java/lang/CharSequence"), (19, u "(Ljava/lang/String;)V"), (5, u "maybeLatin1"), (3, .fieldref 10 80), (0, .nameAndType 81 82), (0, u "count"), (0, u "I"), (2, u "isLatin1"), (0, u "()Z"), (13, .methodref 10 101), (0, .nameAndType 102 103), (0, u "ensureCapacityInternal"), (0, u "(I)V"), (104, .methodref 10 209), (0, .nameAndType 210 211), (0, u "putStringAt"), (0, u "(ILjava/lang/String;)V"), (5, u "inflateIfNeededFor"), (2, .nameAndType 221 222), (0, u "getBytes"), (0, u "([BIB)V"), (174, .methodref 10 398), (0, .nameAndType 217 69), (0, .methodref 1 220), (3, u "()[B"), (40, .class_ 445), (0, u "java/lang/Appendable"), (106, u "getValue")] 56

def k31m0 : Method := { name := "<init>", desc := "()V", sig := { parameters := [], returnType := none }, accessFlags := 0, code := none }
def k31c1 : Code := { maxStack := 2, maxLocals := 2, code := jdk_68_method_2_code, exceptionTable := #[], attributes := #[] }
def k31m1 : Method := { name := "<init>", desc := "(I)V", sig := { parameters := [.int], returnType := none }, accessFlags := 0, code := some k31c1 }
def k31c2 : Code := { maxStack := 1, maxLocals := 1, code := jdk_68_method_6_code, exceptionTable := #[], attributes := #[] }
def k31m2 : Method := { name := "length", desc := "()I", sig := { parameters := [], returnType := some .int }, accessFlags := 1, code := some k31c2 }
def k31c3 : Code := { maxStack := 4, maxLocals := 3, code := jdk_68_method_9_code, exceptionTable := #[], attributes := #[] }
def k31m3 : Method := { name := "ensureCapacityInternal", desc := "(I)V", sig := { parameters := [.int], returnType := none }, accessFlags := 2, code := some k31c3 }
def k31c4 : Code := { maxStack := 3, maxLocals := 3, code := jdk_68_method_22_code, exceptionTable := #[], attributes := #[] }
def k31m4 : Method := { name := "append", desc := "(Ljava/lang/String;)Ljava/lang/AbstractStringBuilder;", sig := { parameters := [(.object "java/lang/String")], returnType := some (.object "java/lang/AbstractStringBuilder") }, accessFlags := 1, code := some k31c4 }
def k31c5 : Code := { maxStack := 1, maxLocals := 1, code := jdk_68_method_64_code, exceptionTable := #[], attributes := #[] }
def k31m5 : Method := { name := "getValue", desc := "()[B", sig := { parameters := [], returnType := some (.array .byte) }, accessFlags := 16, code := some k31c5 }
def k31c6 : Code := { maxStack := 1, maxLocals := 1, code := jdk_68_method_68_code, exceptionTable := #[], attributes := #[] }
def k31m6 : Method := { name := "isLatin1", desc := "()Z", sig := { parameters := [], returnType := some .boolean }, accessFlags := 16, code := some k31c6 }
def k31c7 : Code := { maxStack := 2, maxLocals := 2, code := jdk_68_method_71_code, exceptionTable := #[], attributes := #[] }
def k31m7 : Method := { name := "inflateIfNeededFor", desc := "(Ljava/lang/String;)V", sig := { parameters := [(.object "java/lang/String")], returnType := none }, accessFlags := 2, code := some k31c7 }
def k31c8 : Code := { maxStack := 4, maxLocals := 3, code := jdk_68_method_73_code, exceptionTable := #[], attributes := #[] }
def k31m8 : Method := { name := "putStringAt", desc := "(ILjava/lang/String;)V", sig := { parameters := [.int, (.object "java/lang/String")], returnType := none }, accessFlags := 2, code := some k31c8 }
/-- java/lang/AbstractStringBuilder -/
def k31 : Class := { plain "java/lang/AbstractStringBuilder" (some 0) with
  accessFlags := 1056
  interfaces := #[30, 4]
  cf := some (fileOf pool31 10 #[] #[{ accessFlags := 0, nameIndex := 7, descriptorIndex := 8, attributes := #[] }, { accessFlags := 0, nameIndex := 7, descriptorIndex := 103, attributes := #[] }, { accessFlags := 1, nameIndex := 34, descriptorIndex := 35, attributes := #[] }, { accessFlags := 2, nameIndex := 102, descriptorIndex := 103, attributes := #[] }, { accessFlags := 1, nameIndex := 45, descriptorIndex := 46, attributes := #[] }, { accessFlags := 16, nameIndex := 552, descriptorIndex := 403, attributes := #[] }, { accessFlags := 16, nameIndex := 85, descriptorIndex := 86, attributes := #[] }, { accessFlags := 2, nameIndex := 217, descriptorIndex := 69, attributes := #[] }, { accessFlags := 2, nameIndex := 210, descriptorIndex := 211, attributes := #[] }] 1056 4 #[444, 48] #[{ accessFlags := 0, nameIndex := 17, descriptorIndex := 14, attributes := #[] }, { accessFlags := 0, nameIndex := 24, descriptorIndex := 25, attributes := #[] }, { accessFlags := 0, nameIndex := 75, descriptorIndex := 21, attributes := #[] }, { accessFlags := 0, nameIndex := 81, descriptorIndex := 82, attributes := #[] }, { accessFlags := 26, nameIndex := 13, descriptorIndex := 14, attributes := #[] }])
  fields := #[{ name := "value", type := (.array .byte), accessFlags := 0, slot := 0, constantValue := 0 }, { name := "coder", type := .byte, accessFlags := 0, slot := 1, constantValue := 0 }, { name := "maybeLatin1", type := .boolean, accessFlags := 0, slot := 2, constantValue := 0 }, { name := "count", type := .int, accessFlags := 0, slot := 3, constantValue := 0 }, { name := "EMPTYVALUE", type := (.array .byte), accessFlags := 26, slot := 0, constantValue := 0 }]
  methods := #[k31m0, k31m1, k31m2, k31m3, k31m4, k31m5, k31m6, k31m7, k31m8]
  instanceTypes := #[(.array .byte), .byte, .boolean, .int]
  staticTypes := #[(.array .byte)]
  resolved := Array.replicate 609 none
  statics := none }

def pool32 : Array CpInfo := pool [(1, .methodref 2 3), (0, .class_ 4), (0, .nameAndType 5 6), (0, u "java/lang/AbstractStringBuilder"), (0, u "<init>"), (0, u "(I)V"), (11, .class_ 20), (1, u "java/lang/String"), (3, .class_ 26), (1, u "java/lang/StringBuilder"), (0, u "append"), (0, u "(Ljava/lang/String;)Ljava/lang/StringBuilder;"), (0, .methodref 2 30), (0, .nameAndType 27 31), (0, u "(Ljava/lang/String;)Ljava/lang/AbstractStringBuilder;"), (105, .methodref 18 138), (0, .nameAndType 5 139), (0, u "(Ljava/lang/StringBuilder;)V"), (5, u "()V"), (10, u "()I"), (186, .methodref 2 344), (0, .nameAndType 345 156), (0, u "length"), (3, .class_ 350), (0, u "java/lang/Appendable"), (0, .class_ 352), (0, u "java/io/Serializable"), (0, .class_ 354), (0, u "java/lang/Comparable"), (0, .class_ 356), (0, u "java/lang/CharSequence"), (0, u "serialVersionUID"), (0, u "J"), (40, u "toString"), (0, u "()Ljava/lang/String;")] 21

def k32c0 : Code := { maxStack := 2, maxLocals := 1, code := jdk_67_method_1_code, exceptionTable := #[], attributes := #[] }
def k32m0 : Method := { name := "<init>", desc := "()V", sig := { parameters := [], returnType := none }, accessFlags := 1, code := some k32c0 }
def k32c1 : Code := { maxStack := 2, maxLocals := 2, code := jdk_67_method_7_code, exceptionTable := #[], attributes := #[] }
def k32m1 : Method := { name := "append", desc := "(Ljava/lang/String;)Ljava/lang/StringBuilder;", sig := { parameters := [(.object "java/lang/String")], returnType := some (.object "java/lang/StringBuilder") }, accessFlags := 1, code := some k32c1 }
def k32c2 : Code := { maxStack := 3, maxLocals := 1, code := jdk_67_method_42_code, exceptionTable := #[], attributes := #[] }
def k32m2 : Method := { name := "toString", desc := "()Ljava/lang/String;", sig := { parameters := [], returnType := some (.object "java/lang/String") }, accessFlags := 1, code := some k32c2 }
def k32c3 : Code := { maxStack := 1, maxLocals := 1, code := jdk_67_method_93_code, exceptionTable := #[], attributes := #[] }
def k32m3 : Method := { name := "length", desc := "()I", sig := { parameters := [], returnType := some .int }, accessFlags := 4161, code := some k32c3 }
/-- java/lang/StringBuilder -/
def k32 : Class := { plain "java/lang/StringBuilder" (some 31) with
  accessFlags := 49
  interfaces := #[30, 2, 3, 4]
  cf := some (fileOf pool32 24 #[] #[{ accessFlags := 1, nameIndex := 5, descriptorIndex := 145, attributes := #[] }, { accessFlags := 1, nameIndex := 27, descriptorIndex := 28, attributes := #[] }, { accessFlags := 1, nameIndex := 399, descriptorIndex := 400, attributes := #[] }, { accessFlags := 4161, nameIndex := 345, descriptorIndex := 156, attributes := #[] }] 49 2 #[349, 351, 353, 355] #[{ accessFlags := 24, nameIndex := 357, descriptorIndex := 358, attributes := #[] }])
  fields := #[{ name := "serialVersionUID", type := .long, accessFlags := 24, slot := 0, constantValue := 0 }]
  methods := #[k32m0, k32m1, k32m2, k32m3]
  instanceTypes := #[(.array .byte), .byte, .boolean, .int]
  staticTypes := #[.long]
  resolved := Array.replicate 422 none
  statics := none }

def pool33 : Array CpInfo := pool [(2, .class_ 4), (1, u "java/lang/Object"), (0, u "<init>"), (0, u "()V"), (1, .class_ 10), (1, u "java/lang/System"), (0, u "allowSecurityManager"), (0, u "I"), (16, u "cons"), (0, u "Ljava/io/Console;"), (77, .class_ 110), (1, u "java/lang/System$CallersHolder"), (43, u "initialErrStream"), (0, u "Ljava/io/PrintStream;"), (19, u "security"), (0, u "Ljava/lang/SecurityManager;"), (31, .class_ 209), (0, u "java/lang/System$1"), (7, u "props"), (0, u "Ljava/util/Properties;"), (2, u "lineSeparator"), (0, u "Ljava/lang/String;"), (96, .class_ 321), (1, u "java/lang/System$LoggerFinder"), (5, .class_ 328), (0, u "java/lang/System$Logger"), (67, u "err"), (2, u "out"), (91, u "notSupportedJnuEncoding"), (15, u "in"), (17, u "initialIn"), (0, u "Ljava/io/InputStream;"), (35, u "bootLayer"), (0, u "Ljava/lang/ModuleLayer;"), (99, .class_ 664), (0, u "java/lang/System$2"), (9, u "NEVER"), (2, u "MAYBE"), (49, u "arraycopy"), (0, u "(Ljava/lang/Object;ILjava/lang/Object;II)V"), (72, .class_ 802), (0, u "java/lang/System$Logger$Level")] 31

def k33m0 : Method := { name := "<init>", desc := "()V", sig := { parameters := [], returnType := none }, accessFlags := 2, code := none }
def k33m1 : Method := { name := "arraycopy", desc := "(Ljava/lang/Object;ILjava/lang/Object;II)V", sig := { parameters := [(.object "java/lang/Object"), .int, (.object "java/lang/Object"), .int, .int], returnType := none }, accessFlags := 265, code := none }
/-- java/lang/System -/
def k33 : Class := { plain "java/lang/System" (some 0) with
  accessFlags := 49
  interfaces := #[]
  cf := some (fileOf pool33 8 #[.nestMembers #[319, 327, 801, 108, 663, 208]] #[{ accessFlags := 2, nameIndex := 5, descriptorIndex := 6, attributes := #[] }, { accessFlags := 265, nameIndex := 727, descriptorIndex := 728, attributes := #[] }] 49 2 #[] #[{ accessFlags := 25, nameIndex := 507, descriptorIndex := 526, attributes := #[] }, { accessFlags := 25, nameIndex := 399, descriptorIndex := 155, attributes := #[] }, { accessFlags := 25, nameIndex := 396, descriptorIndex := 155, attributes := #[] }, { accessFlags := 10, nameIndex := 525, descriptorIndex := 526, attributes := #[] }, { accessFlags := 26, nameIndex := 674, descriptorIndex := 12, attributes := #[] }, { accessFlags := 26, nameIndex := 677, descriptorIndex := 12, attributes := #[] }, { accessFlags := 10, nameIndex := 11, descriptorIndex := 12, attributes := #[] }, { accessFlags := 74, nameIndex := 175, descriptorIndex := 176, attributes := #[] }, { accessFlags := 10, nameIndex := 491, descriptorIndex := 222, attributes := #[] }, { accessFlags := 74, nameIndex := 29, descriptorIndex := 30, attributes := #[] }, { accessFlags := 74, nameIndex := 154, descriptorIndex := 155, attributes := #[] }, { accessFlags := 10, nameIndex := 217, descriptorIndex := 218, attributes := #[] }, { accessFlags := 10, nameIndex := 221, descriptorIndex := 222, attributes := #[] }, { accessFlags := 8, nameIndex := 562, descriptorIndex := 563, attributes := #[] }])
  fields := #[{ name := "in", type := (.object "java/io/InputStream"), accessFlags := 25, slot := 0, constantValue := 0 }, { name := "out", type := (.object "java/io/PrintStream"), accessFlags := 25, slot := 1, constantValue := 0 }, { name := "err", type := (.object "java/io/PrintStream"), accessFlags := 25, slot := 2, constantValue := 0 }, { name := "initialIn", type := (.object "java/io/InputStream"), accessFlags := 10, slot := 3, constantValue := 0 }, { name := "NEVER", type := .int, accessFlags := 26, slot := 4, constantValue := 0 }, { name := "MAYBE", type := .int, accessFlags := 26, slot := 5, constantValue := 0 }, { name := "allowSecurityManager", type := .int, accessFlags := 10, slot := 6, constantValue := 0 }, { name := "security", type := (.object "java/lang/SecurityManager"), accessFlags := 74, slot := 7, constantValue := 0 }, { name := "notSupportedJnuEncoding", type := (.object "java/lang/String"), accessFlags := 10, slot := 8, constantValue := 0 }, { name := "cons", type := (.object "java/io/Console"), accessFlags := 74, slot := 9, constantValue := 0 }, { name := "initialErrStream", type := (.object "java/io/PrintStream"), accessFlags := 74, slot := 10, constantValue := 0 }, { name := "props", type := (.object "java/util/Properties"), accessFlags := 10, slot := 11, constantValue := 0 }, { name := "lineSeparator", type := (.object "java/lang/String"), accessFlags := 10, slot := 12, constantValue := 0 }, { name := "bootLayer", type := (.object "java/lang/ModuleLayer"), accessFlags := 8, slot := 13, constantValue := 0 }]
  methods := #[k33m0, k33m1]
  instanceTypes := #[]
  staticTypes := #[(.object "java/io/InputStream"), (.object "java/io/PrintStream"), (.object "java/io/PrintStream"), (.object "java/io/InputStream"), .int, .int, .int, (.object "java/lang/SecurityManager"), (.object "java/lang/String"), (.object "java/io/Console"), (.object "java/io/PrintStream"), (.object "java/util/Properties"), (.object "java/lang/String"), (.object "java/lang/ModuleLayer")]
  resolved := Array.replicate 834 none
  statics := none }

def pool34 : Array CpInfo := pool [(2, .class_ 4), (1, u "java/lang/Object"), (0, u "<init>"), (0, u "()V"), (7, .class_ 16), (1, u "java/util/Arrays"), (57, .class_ 76), (1, u "java/util/Arrays$NaturalOrder"), (36, .class_ 115), (1, u "java/util/Arrays$LegacyMergeSort"), (1, u "Z"), (21, u "copyOfRange"), (10, .methodref 151 152), (0, .class_ 153), (0, .nameAndType 154 155), (0, u "java/lang/System"), (0, u "arraycopy"), (0, u "(Ljava/lang/Object;ILjava/lang/Object;II)V"), (148, .methodref 305 306), (0, .class_ 307), (0, .nameAndType 308 309), (0, u "java/lang/Math"), (0, u "min"), (0, u "(II)I"), (29, .methodref 14 340), (0, .nameAndType 341 342), (0, u "copyOfRangeByte"), (0, u "([BII)[B"), (0, .methodref 14 344), (0, .nameAndType 345 346), (0, u "checkLength"), (0, u "(II)V"), (28, .class_ 376), (0, u "java/util/Arrays$ArrayList"), (68, u "$assertionsDisabled"), (269, u "MIN_ARRAY_SORT_GRAN"), (0, u "I"), (2, u "INSERTIONSORT_THRESHOLD"), (255, .class_ 976), (0, u "java/util/Arrays$ArrayItr")] 52

def k34m0 : Method := { name := "<init>", desc := "()V", sig := { parameters := [], returnType := none }, accessFlags := 2, code := none }
def k34c1 : Code := { maxStack := 4, maxLocals := 2, code := jdk_65_method_131_code, exceptionTable := #[], attributes := #[] }
def k34m1 : Method := { name := "checkLength", desc := "(II)V", sig := { parameters := [.int, .int], returnType := none }, accessFlags := 10, code := some k34c1 }
def k34c2 : Code := { maxStack := 3, maxLocals := 3, code := jdk_65_method_132_code, exceptionTable := #[], attributes := #[] }
def k34m2 : Method := { name := "copyOfRange", desc := "([BII)[B", sig := { parameters := [(.array .byte), .int, .int], returnType := some (.array .byte) }, accessFlags := 9, code := some k34c2 }
def k34c3 : Code := { maxStack := 6, maxLocals := 5, code := jdk_65_method_133_code, exceptionTable := #[], attributes := #[] }
def k34m3 : Method := { name := "copyOfRangeByte", desc := "([BII)[B", sig := { parameters := [(.array .byte), .int, .int], returnType := some (.array .byte) }, accessFlags := 10, code := some k34c3 }
/-- java/util/Arrays -/
def k34 : Class := { plain "java/util/Arrays" (some 0) with
  accessFlags := 49
  interfaces := #[]
  cf := some (fileOf pool34 14 #[.nestMembers #[975, 375, 113, 74]] #[{ accessFlags := 2, nameIndex := 5, descriptorIndex := 6, attributes := #[] }, { accessFlags := 10, nameIndex := 345, descriptorIndex := 346, attributes := #[] }, { accessFlags := 9, nameIndex := 139, descriptorIndex := 342, attributes := #[] }, { accessFlags := 10, nameIndex := 341, descriptorIndex := 342, attributes := #[] }] 49 2 #[] #[{ accessFlags := 26, nameIndex := 715, descriptorIndex := 716, attributes := #[] }, { accessFlags := 26, nameIndex := 719, descriptorIndex := 716, attributes := #[] }, { accessFlags := 4120, nameIndex := 445, descriptorIndex := 117, attributes := #[] }])
  fields := #[{ name := "MIN_ARRAY_SORT_GRAN", type := .int, accessFlags := 26, slot := 0, constantValue := 0 }, { name := "INSERTIONSORT_THRESHOLD", type := .int, accessFlags := 26, slot := 1, constantValue := 0 }, { name := "$assertionsDisabled", type := .boolean, accessFlags := 4120, slot := 2, constantValue := 0 }]
  methods := #[k34m0, k34m1, k34m2, k34m3]
  instanceTypes := #[]
  staticTypes := #[.int, .int, .boolean]
  resolved := Array.replicate 1029 none
  statics := none }

def pool35 : Array CpInfo := pool [(1, .class_ 2), (0, u "java/lang/Math"), (1, .class_ 6), (1, u "java/lang/Object"), (0, u "<init>"), (0, u "()V"), (89, .class_ 100), (1, u "java/lang/Math$RandomNumberGeneratorHolder"), (71, u "negativeZeroFloatBits"), (0, u "J"), (2, u "negativeZeroDoubleBits"), (24, u "min"), (43, u "$assertionsDisabled"), (0, u "Z"), (88, u "(II)I"), (2, u "twoToTheDoubleScaleDown"), (0, u "D"), (4, u "twoToTheDoubleScaleUp"), (9, u "E"), (3, u "PI"), (2, u "TAU"), (2, u "DEGREES_TO_RADIANS"), (0, u "RADIANS_TO_DEGREES")] 94

def k35m0 : Method := { name := "<init>", desc := "()V", sig := { parameters := [], returnType := none }, accessFlags := 2, code := none }
def k35c1 : Code := { maxStack := 2, maxLocals := 2, code := jdk_29_method_69_code, exceptionTable := #[], attributes := #[] }
def k35m1 : Method := { name := "min", desc := "(II)I", sig := { parameters := [.int, .int], returnType := some .int }, accessFlags := 9, code := some k35c1 }
/-- java/lang/Math -/
def k35 : Class := { plain "java/lang/Math" (some 0) with
  accessFlags := 49
  interfaces := #[]
  cf := some (fileOf pool35 1 #[.nestMembers #[98]] #[{ accessFlags := 2, nameIndex := 7, descriptorIndex := 8, attributes := #[] }, { accessFlags := 9, nameIndex := 201, descriptorIndex := 335, attributes := #[] }] 49 4 #[] #[{ accessFlags := 25, nameIndex := 354, descriptorIndex := 339, attributes := #[] }, { accessFlags := 25, nameIndex := 358, descriptorIndex := 339, attributes := #[] }, { accessFlags := 25, nameIndex := 361, descriptorIndex := 339, attributes := #[] }, { accessFlags := 26, nameIndex := 364, descriptorIndex := 339, attributes := #[] }, { accessFlags := 26, nameIndex := 365, descriptorIndex := 339, attributes := #[] }, { accessFlags := 26, nameIndex := 172, descriptorIndex := 173, attributes := #[] }, { accessFlags := 26, nameIndex := 176, descriptorIndex := 173, attributes := #[] }, { accessFlags := 8, nameIndex := 344, descriptorIndex := 339, attributes := #[] }, { accessFlags := 8, nameIndex := 338, descriptorIndex := 339, attributes := #[] }, { accessFlags := 4120, nameIndex := 245, descriptorIndex := 246, attributes := #[] }])
  fields := #[{ name := "E", type := .double, accessFlags := 25, slot := 0, constantValue := 0 }, { name := "PI", type := .double, accessFlags := 25, slot := 1, constantValue := 0 }, { name := "TAU", type := .double, accessFlags := 25, slot := 2, constantValue := 0 }, { name := "DEGREES_TO_RADIANS", type := .double, accessFlags := 26, slot := 3, constantValue := 0 }, { name := "RADIANS_TO_DEGREES", type := .double, accessFlags := 26, slot := 4, constantValue := 0 }, { name := "negativeZeroFloatBits", type := .long, accessFlags := 26, slot := 5, constantValue := 0 }, { name := "negativeZeroDoubleBits", type := .long, accessFlags := 26, slot := 6, constantValue := 0 }, { name := "twoToTheDoubleScaleUp", type := .double, accessFlags := 8, slot := 7, constantValue := 0 }, { name := "twoToTheDoubleScaleDown", type := .double, accessFlags := 8, slot := 8, constantValue := 0 }, { name := "$assertionsDisabled", type := .boolean, accessFlags := 4120, slot := 9, constantValue := 0 }]
  methods := #[k35m0, k35m1]
  instanceTypes := #[]
  staticTypes := #[.double, .double, .double, .double, .double, .long, .long, .double, .double, .boolean]
  resolved := Array.replicate 460 none
  statics := none }

def pool36 : Array CpInfo := pool [(1, .class_ 2), (0, u "java/lang/String"), (1, .class_ 6), (1, u "java/lang/Object"), (0, u "<init>"), (0, u "()V"), (0, .methodref 1 10), (0, .nameAndType 11 12), (0, u "checkIndex"), (0, u "(II)V"), (1, .class_ 16), (1, u "java/lang/StringLatin1"), (36, u "([BI)C"), (36, u "canEncode"), (14, u "(C)Z"), (15, u "$assertionsDisabled"), (0, u "Z"), (98, .class_ 223), (1, u "java/lang/StringLatin1$LinesSpliterator"), (28, u "charAt"), (127, u "toBytes"), (1, u "(C)[B"), (7, .class_ 391), (0, u "java/lang/StringLatin1$CharsSpliterator")] 3

def k36m0 : Method := { name := "<init>", desc := "()V", sig := { parameters := [], returnType := none }, accessFlags := 0, code := none }
def k36c1 : Code := { maxStack := 2, maxLocals := 2, code := jdk_43_method_2_code, exceptionTable := #[], attributes := #[] }
def k36m1 : Method := { name := "charAt", desc := "([BI)C", sig := { parameters := [(.array .byte), .int], returnType := some .char }, accessFlags := 9, code := some k36c1 }
def k36c2 : Code := { maxStack := 2, maxLocals := 1, code := jdk_43_method_3_code, exceptionTable := #[], attributes := #[] }
def k36m2 : Method := { name := "canEncode", desc := "(C)Z", sig := { parameters := [.char], returnType := some .boolean }, accessFlags := 9, code := some k36c2 }
def k36c3 : Code := { maxStack := 4, maxLocals := 1, code := jdk_43_method_46_code, exceptionTable := #[], attributes := #[] }
def k36m3 : Method := { name := "toBytes", desc := "(C)[B", sig := { parameters := [.char], returnType := some (.array .byte) }, accessFlags := 9, code := some k36c3 }
/-- java/lang/StringLatin1 -/
def k36 : Class := { plain "java/lang/StringLatin1" (some 0) with
  accessFlags := 48
  interfaces := #[]
  cf := some (fileOf pool36 14 #[.nestMembers #[390, 221]] #[{ accessFlags := 0, nameIndex := 7, descriptorIndex := 8, attributes := #[] }, { accessFlags := 9, nameIndex := 252, descriptorIndex := 53, attributes := #[] }, { accessFlags := 9, nameIndex := 90, descriptorIndex := 105, attributes := #[] }, { accessFlags := 9, nameIndex := 380, descriptorIndex := 382, attributes := #[] }] 48 4 #[] #[{ accessFlags := 4120, nameIndex := 121, descriptorIndex := 122, attributes := #[] }])
  fields := #[{ name := "$assertionsDisabled", type := .boolean, accessFlags := 4120, slot := 0, constantValue := 0 }]
  methods := #[k36m0, k36m1, k36m2, k36m3]
  instanceTypes := #[]
  staticTypes := #[.boolean]
  resolved := Array.replicate 395 none
  statics := none }

def pool37 : Array CpInfo := pool [(2, .class_ 4), (1, u "java/lang/Object"), (0, u "<init>"), (0, u "()V"), (17, .class_ 26), (1, u "jdk/internal/util/Preconditions"), (6, u "checkIndex"), (21, .class_ 56), (0, u "jdk/internal/util/Preconditions$4"), (57, .class_ 115), (0, u "jdk/internal/util/Preconditions$1"), (7, u "SIOOBE_FORMATTER"), (0, u "Ljava/util/function/BiFunction;"), (0, .class_ 126), (0, u "jdk/internal/util/Preconditions$2"), (3, u "AIOOBE_FORMATTER"), (0, .class_ 132), (0, u "jdk/internal/util/Preconditions$3"), (3, u "IOOBE_FORMATTER"), (41, u "(IILjava/util/function/BiFunction;)I")] 15

def k37m0 : Method := { name := "<init>", desc := "()V", sig := { parameters := [], returnType := none }, accessFlags := 1, code := none }
def k37c1 : Code := { maxStack := 3, maxLocals := 3, code := jdk_41_method_11_code, exceptionTable := #[], attributes := #[] }
def k37m1 : Method := { name := "checkIndex", desc := "(IILjava/util/function/BiFunction;)I", sig := { parameters := [.int, .int, (.object "java/util/function/BiFunction")], returnType := some .int }, accessFlags := 9, code := some k37c1 }
/-- jdk/internal/util/Preconditions -/
def k37 : Class := { plain "jdk/internal/util/Preconditions" (some 0) with
  accessFlags := 33
  interfaces := #[]
  cf := some (fileOf pool37 24 #[.nestMembers #[55, 131, 125, 114]] #[{ accessFlags := 1, nameIndex := 5, descriptorIndex := 6, attributes := #[] }, { accessFlags := 9, nameIndex := 33, descriptorIndex := 178, attributes := #[] }] 33 2 #[] #[{ accessFlags := 25, nameIndex := 123, descriptorIndex := 124, attributes := #[] }, { accessFlags := 25, nameIndex := 130, descriptorIndex := 124, attributes := #[] }, { accessFlags := 25, nameIndex := 136, descriptorIndex := 124, attributes := #[] }])
  fields := #[{ name := "SIOOBE_FORMATTER", type := (.object "java/util/function/BiFunction"), accessFlags := 25, slot := 0, constantValue := 0 }, { name := "AIOOBE_FORMATTER", type := (.object "java/util/function/BiFunction"), accessFlags := 25, slot := 1, constantValue := 0 }, { name := "IOOBE_FORMATTER", type := (.object "java/util/function/BiFunction"), accessFlags := 25, slot := 2, constantValue := 0 }]
  methods := #[k37m0, k37m1]
  instanceTypes := #[]
  staticTypes := #[(.object "java/util/function/BiFunction"), (.object "java/util/function/BiFunction"), (.object "java/util/function/BiFunction")]
  resolved := Array.replicate 194 none
  statics := some 3 }

def pool38 : Array CpInfo := pool [(9, u "<init>"), (6, .class_ 18), (1, u "java/lang/Object"), (0, u "()V"), (1, .class_ 23), (1, u "jdk/internal/util/ArraysSupport"), (0, u "LOG2_ARRAY_LONG_INDEX_SCALE"), (0, u "I"), (2, u "U"), (0, u "Ljdk/internal/misc/Unsafe;"), (8, u "BIG_ENDIAN"), (0, u "Z"), (8, u "LOG2_BYTE_BIT_SIZE"), (4, u "LOG2_ARRAY_INT_INDEX_SCALE"), (54, u "JLA"), (0, u "Ljdk/internal/access/JavaLangAccess;"), (11, u "LOG2_ARRAY_BOOLEAN_INDEX_SCALE"), (9, u "LOG2_ARRAY_BYTE_INDEX_SCALE"), (5, u "LOG2_ARRAY_CHAR_INDEX_SCALE"), (5, u "LOG2_ARRAY_SHORT_INDEX_SCALE"), (18, u "LOG2_ARRAY_FLOAT_INDEX_SCALE"), (24, u "LOG2_ARRAY_DOUBLE_INDEX_SCALE"), (89, u "T_BOOLEAN"), (2, u "T_CHAR"), (1, u "T_FLOAT"), (1, u "T_DOUBLE"), (1, u "T_BYTE"), (1, u "T_SHORT"), (1, u "T_INT"), (1, u "T_LONG"), (1, u "SOFT_MAX_ARRAY_LENGTH")] 83

def k38m0 : Method := { name := "<init>", desc := "()V", sig := { parameters := [], returnType := none }, accessFlags := 2, code := none }
/-- jdk/internal/util/ArraysSupport -/
def k38 : Class := { plain "jdk/internal/util/ArraysSupport" (some 0) with
  accessFlags := 33
  interfaces := #[]
  cf := some (fileOf pool38 21 #[] #[{ accessFlags := 2, nameIndex := 9, descriptorIndex := 19, attributes := #[] }] 33 16 #[] #[{ accessFlags := 24, nameIndex := 28, descriptorIndex := 29, attributes := #[] }, { accessFlags := 26, nameIndex := 38, descriptorIndex := 39, attributes := #[] }, { accessFlags := 25, nameIndex := 121, descriptorIndex := 25, attributes := #[] }, { accessFlags := 25, nameIndex := 131, descriptorIndex := 25, attributes := #[] }, { accessFlags := 25, nameIndex := 137, descriptorIndex := 25, attributes := #[] }, { accessFlags := 25, nameIndex := 143, descriptorIndex := 25, attributes := #[] }, { accessFlags := 25, nameIndex := 53, descriptorIndex := 25, attributes := #[] }, { accessFlags := 25, nameIndex := 24, descriptorIndex := 25, attributes := #[] }, { accessFlags := 25, nameIndex := 162, descriptorIndex := 25, attributes := #[] }, { accessFlags := 25, nameIndex := 187, descriptorIndex := 25, attributes := #[] }, { accessFlags := 26, nameIndex := 48, descriptorIndex := 25, attributes := #[] }, { accessFlags := 25, nameIndex := 277, descriptorIndex := 25, attributes := #[] }, { accessFlags := 25, nameIndex := 280, descriptorIndex := 25, attributes := #[] }, { accessFlags := 25, nameIndex := 282, descriptorIndex := 25, attributes := #[] }, { accessFlags := 25, nameIndex := 284, descriptorIndex := 25, attributes := #[] }, { accessFlags := 25, nameIndex := 286, descriptorIndex := 25, attributes := #[] }, { accessFlags := 25, nameIndex := 288, descriptorIndex := 25, attributes := #[] }, { accessFlags := 25, nameIndex := 290, descriptorIndex := 25, attributes := #[] }, { accessFlags := 25, nameIndex := 292, descriptorIndex := 25, attributes := #[] }, { accessFlags := 26, nameIndex := 108, descriptorIndex := 109, attributes := #[] }, { accessFlags := 25, nameIndex := 294, descriptorIndex := 25, attributes := #[] }])
  fields := #[{ name := "U", type := (.object "jdk/internal/misc/Unsafe"), accessFlags := 24, slot := 0, constantValue := 0 }, { name := "BIG_ENDIAN", type := .boolean, accessFlags := 26, slot := 1, constantValue := 0 }, { name := "LOG2_ARRAY_BOOLEAN_INDEX_SCALE", type := .int, accessFlags := 25, slot := 2, constantValue := 0 }, { name := "LOG2_ARRAY_BYTE_INDEX_SCALE", type := .int, accessFlags := 25, slot := 3, constantValue := 0 }, { name := "LOG2_ARRAY_CHAR_INDEX_SCALE", type := .int, accessFlags := 25, slot := 4, constantValue := 0 }, { name := "LOG2_ARRAY_SHORT_INDEX_SCALE", type := .int, accessFlags := 25, slot := 5, constantValue := 0 }, { name := "LOG2_ARRAY_INT_INDEX_SCALE", type := .int, accessFlags := 25, slot := 6, constantValue := 0 }, { name := "LOG2_ARRAY_LONG_INDEX_SCALE", type := .int, accessFlags := 25, slot := 7, constantValue := 0 }, { name := "LOG2_ARRAY_FLOAT_INDEX_SCALE", type := .int, accessFlags := 25, slot := 8, constantValue := 0 }, { name := "LOG2_ARRAY_DOUBLE_INDEX_SCALE", type := .int, accessFlags := 25, slot := 9, constantValue := 0 }, { name := "LOG2_BYTE_BIT_SIZE", type := .int, accessFlags := 26, slot := 10, constantValue := 0 }, { name := "T_BOOLEAN", type := .int, accessFlags := 25, slot := 11, constantValue := 0 }, { name := "T_CHAR", type := .int, accessFlags := 25, slot := 12, constantValue := 0 }, { name := "T_FLOAT", type := .int, accessFlags := 25, slot := 13, constantValue := 0 }, { name := "T_DOUBLE", type := .int, accessFlags := 25, slot := 14, constantValue := 0 }, { name := "T_BYTE", type := .int, accessFlags := 25, slot := 15, constantValue := 0 }, { name := "T_SHORT", type := .int, accessFlags := 25, slot := 16, constantValue := 0 }, { name := "T_INT", type := .int, accessFlags := 25, slot := 17, constantValue := 0 }, { name := "T_LONG", type := .int, accessFlags := 25, slot := 18, constantValue := 0 }, { name := "JLA", type := (.object "jdk/internal/access/JavaLangAccess"), accessFlags := 26, slot := 19, constantValue := 0 }, { name := "SOFT_MAX_ARRAY_LENGTH", type := .int, accessFlags := 25, slot := 20, constantValue := 0 }]
  methods := #[k38m0]
  instanceTypes := #[]
  staticTypes := #[(.object "jdk/internal/misc/Unsafe"), .boolean, .int, .int, .int, .int, .int, .int, .int, .int, .int, .int, .int, .int, .int, .int, .int, .int, .int, (.object "jdk/internal/access/JavaLangAccess"), .int]
  resolved := Array.replicate 378 none
  statics := none }

def pool39 : Array CpInfo := pool [(2, .class_ 4), (1, u "java/lang/Object"), (0, u "<init>"), (0, u "()V"), (12, .class_ 20), (0, u "java/util/Collections"), (63, u "r"), (0, u "Ljava/util/Random;"), (80, .class_ 167), (0, u "java/util/Collections$UnmodifiableCollection"), (6, .class_ 175), (0, u "java/util/Collections$UnmodifiableSequencedCollection"), (6, .class_ 183), (0, u "java/util/Collections$UnmodifiableSet"), (6, .class_ 191), (0, u "java/util/Collections$UnmodifiableSequencedSet"), (6, .class_ 199), (0, u "java/util/Collections$UnmodifiableSortedSet"), (6, .class_ 207), (0, u "java/util/Collections$UnmodifiableNavigableSet"), (4, .class_ 213), (0, u "java/util/Collections$UnmodifiableList"), (1, .class_ 216), (0, u "java/util/Collections$UnmodifiableRandomAccessList"), (6, .class_ 224), (0, u "java/util/Collections$UnmodifiableMap"), (6, .class_ 232), (0, u "java/util/Collections$UnmodifiableSequencedMap"), (4, .class_ 238), (0, u "java/util/Collections$UnmodifiableSortedMap"), (6, .class_ 246), (0, u "java/util/Collections$UnmodifiableNavigableMap"), (3, .class_ 251), (0, u "java/util/Collections$SynchronizedCollection"), (4, .class_ 257), (0, u "java/util/Collections$SynchronizedSet"), (4, .class_ 263), (0, u "java/util/Collections$SynchronizedSortedSet"), (1, .class_ 266), (0, u "java/util/Collections$SynchronizedNavigableSet"), (1, .class_ 269), (0, u "java/util/Collections$SynchronizedRandomAccessList"), (1, .class_ 272), (0, u "java/util/Collections$SynchronizedList"), (5, .class_ 279), (0, u "java/util/Collections$SynchronizedMap"), (1, .class_ 282), (0, u "java/util/Collections$SynchronizedSortedMap"), (1, .class_ 285), (0, u "java/util/Collections$SynchronizedNavigableMap"), (1, .class_ 288), (0, u "java/util/Collections$CheckedCollection"), (11, .class_ 301), (0, u "java/util/Collections$CheckedQueue"), (3, .class_ 306), (0, u "java/util/Collections$CheckedSet"), (3, .class_ 311), (0, u "java/util/Collections$CheckedSortedSet"), (3, .class_ 316), (0, u "java/util/Collections$CheckedNavigableSet"), (3, .class_ 321), (0, u "java/util/Collections$CheckedRandomAccessList"), (3, .class_ 326), (0, u "java/util/Collections$CheckedList"), (1, .class_ 329), (0, u "java/util/Collections$CheckedMap"), (3, .class_ 334), (0, u "java/util/Collections$CheckedSortedMap"), (3, .class_ 339), (0, u "java/util/Collections$CheckedNavigableMap"), (4, .class_ 346), (1, u "java/util/Collections$EmptyIterator"), (3, .class_ 352), (1, u "java/util/Collections$EmptyListIterator"), (2, .class_ 357), (1, u "java/util/Collections$EmptyEnumeration"), (4, u "EMPTY_SET"), (0, u "Ljava/util/Set;"), (6, u "EMPTY_LIST"), (0, u "Ljava/util/List;"), (2, u "EMPTY_MAP"), (0, u "Ljava/util/Map;"), (4, .class_ 381), (0, u "java/util/Collections$SingletonSet"), (2, .class_ 385), (0, u "java/util/Collections$1"), (1, .class_ 388), (0, u "java/util/Collections$2"), (1, .class_ 391), (0, u "java/util/Collections$SingletonList"), (1, .class_ 394), (0, u "java/util/Collections$SingletonMap"), (22, .class_ 418), (0, u "java/util/Collections$CopiesList"), (4, .class_ 425), (1, u "java/util/Collections$ReverseComparator"), (8, .class_ 435), (0, u "java/util/Collections$ReverseComparator2"), (6, .class_ 443), (0, u "java/util/Collections$3"), (25, .class_ 470), (0, u "java/util/Collections$SetFromMap"), (2, .class_ 474), (0, u "java/util/Collections$SequencedSetFromMap"), (3, .class_ 479), (0, u "java/util/Collections$AsLIFOQueue"), (11, .class_ 492), (0, u "java/util/Collections$EmptySet"), (1, .class_ 495), (0, u "java/util/Collections$EmptyList"), (1, .class_ 498), (0, u "java/util/Collections$EmptyMap"), (1, u "BINARYSEARCH_THRESHOLD"), (0, u "I"), (2, u "REVERSE_THRESHOLD"), (1, u "SHUFFLE_THRESHOLD"), (1, u "FILL_THRESHOLD"), (1, u "ROTATE_THRESHOLD"), (1, u "COPY_THRESHOLD"), (1, u "REPLACEALL_THRESHOLD"), (1, u "INDEXOFSUBLIST_THRESHOLD"), (333, .class_ 851), (0, u "java/util/Collections$CheckedMap$CheckedEntrySet"), (0, .class_ 853), (0, u "java/util/Collections$CheckedMap$CheckedEntrySet$CheckedEntry"), (0, .class_ 855), (0, u "java/util/Collections$CheckedMap$CheckedEntrySet$1"), (0, .class_ 857), (0, u "java/util/Collections$CheckedList$1"), (0, .class_ 859), (0, u "java/util/Collections$CheckedCollection$1"), (0, .class_ 861), (0, u "java/util/Collections$UnmodifiableNavigableMap$EmptyNavigableMap"), (0, .class_ 863), (0, u "java/util/Collections$UnmodifiableMap$UnmodifiableEntrySet"), (0, .class_ 865), (0, u "java/util/Collections$UnmodifiableMap$UnmodifiableEntrySet$UnmodifiableEntry"), (0, .class_ 867), (0, u "java/util/Collections$UnmodifiableMap$UnmodifiableEntrySet$UnmodifiableEntrySetSpliterator"), (0, .class_ 869), (0, u "java/util/Collections$UnmodifiableMap$UnmodifiableEntrySet$1"), (0, .class_ 871), (0, u "java/util/Collections$UnmodifiableList$1"), (0, .class_ 873), (0, u "java/util/Collections$UnmodifiableNavigableSet$EmptyNavigableSet"), (0, .class_ 875), (0, u "java/util/Collections$UnmodifiableCollection$1")] 57

def k39m0 : Method := { name := "<init>", desc := "()V", sig := { parameters := [], returnType := none }, accessFlags := 2, code := none }
/-- java/util/Collections -/
def k39 : Class := { plain "java/util/Collections" (some 0) with
  accessFlags := 33
  interfaces := #[]
  cf := some (fileOf pool39 19 #[.nestMembers #[478, 473, 469, 434, 423, 417, 393, 390, 380, 497, 494, 491, 355, 350, 344, 338, 333, 328, 850, 852, 854, 320, 325, 856, 315, 310, 305, 300, 287, 858, 284, 281, 278, 268, 271, 265, 262, 256, 250, 245, 860, 237, 231, 223, 862, 864, 866, 868, 215, 212, 870, 206, 872, 198, 190, 182, 174, 166, 874, 442, 387, 384]] #[{ accessFlags := 2, nameIndex := 5, descriptorIndex := 6, attributes := #[] }] 33 2 #[] #[{ accessFlags := 26, nameIndex := 500, descriptorIndex := 501, attributes := #[] }, { accessFlags := 26, nameIndex := 504, descriptorIndex := 501, attributes := #[] }, { accessFlags := 26, nameIndex := 506, descriptorIndex := 501, attributes := #[] }, { accessFlags := 26, nameIndex := 508, descriptorIndex := 501, attributes := #[] }, { accessFlags := 26, nameIndex := 510, descriptorIndex := 501, attributes := #[] }, { accessFlags := 26, nameIndex := 512, descriptorIndex := 501, attributes := #[] }, { accessFlags := 26, nameIndex := 514, descriptorIndex := 501, attributes := #[] }, { accessFlags := 26, nameIndex := 516, descriptorIndex := 501, attributes := #[] }, { accessFlags := 10, nameIndex := 84, descriptorIndex := 85, attributes := #[] }, { accessFlags := 25, nameIndex := 362, descriptorIndex := 363, attributes := #[] }, { accessFlags := 25, nameIndex := 370, descriptorIndex := 371, attributes := #[] }, { accessFlags := 25, nameIndex := 374, descriptorIndex := 375, attributes := #[] }])
  fields := #[{ name := "BINARYSEARCH_THRESHOLD", type := .int, accessFlags := 26, slot := 0, constantValue := 0 }, { name := "REVERSE_THRESHOLD", type := .int, accessFlags := 26, slot := 1, constantValue := 0 }, { name := "SHUFFLE_THRESHOLD", type := .int, accessFlags := 26, slot := 2, constantValue := 0 }, { name := "FILL_THRESHOLD", type := .int, accessFlags := 26, slot := 3, constantValue := 0 }, { name := "ROTATE_THRESHOLD", type := .int, accessFlags := 26, slot := 4, constantValue := 0 }, { name := "COPY_THRESHOLD", type := .int, accessFlags := 26, slot := 5, constantValue := 0 }, { name := "REPLACEALL_THRESHOLD", type := .int, accessFlags := 26, slot := 6, constantValue := 0 }, { name := "INDEXOFSUBLIST_THRESHOLD", type := .int, accessFlags := 26, slot := 7, constantValue := 0 }, { name := "r", type := (.object "java/util/Random"), accessFlags := 10, slot := 8, constantValue := 0 }, { name := "EMPTY_SET", type := (.object "java/util/Set"), accessFlags := 25, slot := 9, constantValue := 0 }, { name := "EMPTY_LIST", type := (.object "java/util/List"), accessFlags := 25, slot := 10, constantValue := 0 }, { name := "EMPTY_MAP", type := (.object "java/util/Map"), accessFlags := 25, slot := 11, constantValue := 0 }]
  methods := #[k39m0]
  instanceTypes := #[]
  staticTypes := #[.int, .int, .int, .int, .int, .int, .int, .int, (.object "java/util/Random"), (.object "java/util/Set"), (.object "java/util/List"), (.object "java/util/Map")]
  resolved := Array.replicate 933 none
  statics := some 4 }

def pool40 : Array CpInfo := pool [(2, .class_ 4), (1, u "java/util/AbstractList"), (0, u "<init>"), (0, u "()V"), (1, .class_ 10), (1, u "java/util/Collections"), (54, .class_ 66), (0, u "java/util/Collections$EmptyList"), (0, .class_ 68), (0, u "java/util/RandomAccess"), (0, .class_ 70), (0, u "java/io/Serializable"), (0, u "serialVersionUID"), (0, u "J")] 77

def k40m0 : Method := { name := "<init>", desc := "()V", sig := { parameters := [], returnType := none }, accessFlags := 2, code := none }
/-- java/util/Collections$EmptyList -/
def k40 : Class := { plain "java/util/Collections$EmptyList" (some 15) with
  accessFlags := 32
  interfaces := #[16, 2]
  cf := some (fileOf pool40 65 #[.nestHost 8] #[{ accessFlags := 2, nameIndex := 5, descriptorIndex := 6, attributes := #[] }] 32 2 #[67, 69] #[{ accessFlags := 26, nameIndex := 71, descriptorIndex := 72, attributes := #[] }])
  fields := #[{ name := "serialVersionUID", type := .long, accessFlags := 26, slot := 0, constantValue := 0 }]
  methods := #[k40m0]
  instanceTypes := #[.int]
  staticTypes := #[.long]
  resolved := Array.replicate 150 none
  statics := none }

def pool41 : Array CpInfo := pool [(2, .class_ 4), (1, u "java/lang/StackTraceElement"), (0, u "<init>"), (2, .class_ 10), (1, u "java/lang/Object"), (0, u "()V"), (2, u "format"), (0, u "B"), (2, u "classLoaderName"), (0, u "Ljava/lang/String;"), (2, u "moduleName"), (2, u "moduleVersion"), (12, u "declaringClass"), (4, u "methodName"), (2, u "fileName"), (2, u "lineNumber"), (0, u "I"), (65, u "declaringClassObject"), (0, u "Ljava/lang/Class;"), (33, .class_ 153), (1, u "java/lang/StackTraceElement$HashedModules"), (17, .class_ 172), (0, u "java/io/Serializable"), (0, u "NATIVE_METHOD"), (1, u "UNKNOWN_SOURCE"), (2, u "BUILTIN_CLASS_LOADER"), (1, u "JDK_NON_UPGRADEABLE_MODULE"), (1, u "serialVersionUID"), (0, u "J")] 51

def k41m0 : Method := { name := "<init>", desc := "()V", sig := { parameters := [], returnType := none }, accessFlags := 2, code := none }
/-- java/lang/StackTraceElement -/
def k41 : Class := { plain "java/lang/StackTraceElement" (some 0) with
  accessFlags := 49
  interfaces := #[2]
  cf := some (fileOf pool41 2 #[.nestMembers #[151]] #[{ accessFlags := 2, nameIndex := 5, descriptorIndex := 11, attributes := #[] }] 49 8 #[171] #[{ accessFlags := 26, nameIndex := 173, descriptorIndex := 19, attributes := #[] }, { accessFlags := 26, nameIndex := 175, descriptorIndex := 19, attributes := #[] }, { accessFlags := 130, nameIndex := 116, descriptorIndex := 117, attributes := #[] }, { accessFlags := 2, nameIndex := 18, descriptorIndex := 19, attributes := #[] }, { accessFlags := 2, nameIndex := 22, descriptorIndex := 19, attributes := #[] }, { accessFlags := 2, nameIndex := 25, descriptorIndex := 19, attributes := #[] }, { accessFlags := 2, nameIndex := 38, descriptorIndex := 19, attributes := #[] }, { accessFlags := 2, nameIndex := 43, descriptorIndex := 19, attributes := #[] }, { accessFlags := 2, nameIndex := 46, descriptorIndex := 19, attributes := #[] }, { accessFlags := 2, nameIndex := 49, descriptorIndex := 50, attributes := #[] }, { accessFlags := 2, nameIndex := 14, descriptorIndex := 15, attributes := #[] }, { accessFlags := 26, nameIndex := 178, descriptorIndex := 15, attributes := #[] }, { accessFlags := 26, nameIndex := 180, descriptorIndex := 15, attributes := #[] }, { accessFlags := 26, nameIndex := 182, descriptorIndex := 183, attributes := #[] }])
  fields := #[{ name := "NATIVE_METHOD", type := (.object "java/lang/String"), accessFlags := 26, slot := 0, constantValue := 0 }, { name := "UNKNOWN_SOURCE", type := (.object "java/lang/String"), accessFlags := 26, slot := 1, constantValue := 0 }, { name := "declaringClassObject", type := (.object "java/lang/Class"), accessFlags := 130, slot := 0, constantValue := 0 }, { name := "classLoaderName", type := (.object "java/lang/String"), accessFlags := 2, slot := 1, constantValue := 0 }, { name := "moduleName", type := (.object "java/lang/String"), accessFlags := 2, slot := 2, constantValue := 0 }, { name := "moduleVersion", type := (.object "java/lang/String"), accessFlags := 2, slot := 3, constantValue := 0 }, { name := "declaringClass", type := (.object "java/lang/String"), accessFlags := 2, slot := 4, constantValue := 0 }, { name := "methodName", type := (.object "java/lang/String"), accessFlags := 2, slot := 5, constantValue := 0 }, { name := "fileName", type := (.object "java/lang/String"), accessFlags := 2, slot := 6, constantValue := 0 }, { name := "lineNumber", type := .int, accessFlags := 2, slot := 7, constantValue := 0 }, { name := "format", type := .byte, accessFlags := 2, slot := 8, constantValue := 0 }, { name := "BUILTIN_CLASS_LOADER", type := .byte, accessFlags := 26, slot := 2, constantValue := 0 }, { name := "JDK_NON_UPGRADEABLE_MODULE", type := .byte, accessFlags := 26, slot := 3, constantValue := 0 }, { name := "serialVersionUID", type := .long, accessFlags := 26, slot := 4, constantValue := 0 }]
  methods := #[k41m0]
  instanceTypes := #[(.object "java/lang/Class"), (.object "java/lang/String"), (.object "java/lang/String"), (.object "java/lang/String"), (.object "java/lang/String"), (.object "java/lang/String"), (.object "java/lang/String"), .int, .byte]
  staticTypes := #[(.object "java/lang/String"), (.object "java/lang/String"), .byte, .byte, .long]
  resolved := Array.replicate 235 none
  statics := none }

/-- the primitive byte -/
def k42 : Class := { plain "byte" none with kind := .primitive 'B', accessFlags := 0x411 }
/-- [B -/
def k43 : Class := { plain "[B" (some 0) with kind := .array 42 .byte, interfaces := #[17, 2], accessFlags := 1041 }

/-- the primitive char -/
def k44 : Class := { plain "char" none with kind := .primitive 'C', accessFlags := 0x411 }
/-- [C -/
def k45 : Class := { plain "[C" (some 0) with kind := .array 44 .char, interfaces := #[17, 2], accessFlags := 1041 }

/-- the primitive int -/
def k46 : Class := { plain "int" none with kind := .primitive 'I', accessFlags := 0x411 }
/-- [I -/
def k47 : Class := { plain "[I" (some 0) with kind := .array 46 .int, interfaces := #[17, 2], accessFlags := 1041 }

/-- [Ljava/lang/Object; -/
def k48 : Class := { plain "[Ljava/lang/Object;" (some 0) with kind := .array 0 (.object "java/lang/Object"), interfaces := #[17, 2], accessFlags := 1041 }

/-- [Ljava/lang/StackTraceElement; -/
def k49 : Class := { plain "[Ljava/lang/StackTraceElement;" (some 0) with kind := .array 41 (.object "java/lang/StackTraceElement"), interfaces := #[17, 2], accessFlags := 1041 }

/-- [Ljava/lang/Throwable; -/
def k50 : Class := { plain "[Ljava/lang/Throwable;" (some 0) with kind := .array 27 (.object "java/lang/Throwable"), interfaces := #[17, 2], accessFlags := 1041 }

def heap : Heap := #[{ cls := 7, slots := #[.long 0, .int 1, .null, .int 0, .null, .int 0, .int 0], vm := .statics 7 },
  { cls := 18, slots := #[.long 0, .int 0, .ref 5, .ref 6], vm := .statics 18 },
  { cls := 27, slots := #[.long 0, .ref 7, .ref 8, .null, .null, .null, .null, .ref 9, .int 1], vm := .statics 27 },
  { cls := 37, slots := #[.null, .null, .null], vm := .statics 37 },
  { cls := 39, slots := #[.int 0, .int 0, .int 0, .int 0, .int 0, .int 0, .int 0, .int 0, .null, .null, .ref 8, .null], vm := .statics 39 },
  { cls := 48, slots := #[], vm := .none },
  { cls := 48, slots := #[], vm := .none },
  { cls := 49, slots := #[], vm := .none },
  { cls := 40, slots := #[.int 0], vm := .none },
  { cls := 50, slots := #[], vm := .none }]
def classes : Array Class := #[k0, k1, k2, k3, k4, k5, k6, k7, k8, k9, k10, k11, k12, k13, k14, k15, k16, k17, k18, k19, k20, k21, k22, k23, k24, k25, k26, k27, k28, k29, k30, k31, k32, k33, k34, k35, k36, k37, k38, k39, k40, k41, k42, k43, k44, k45, k46, k47, k48, k49, k50]
def interned : List (Array UInt16 × Addr) := []
def slotsUsed : Nat := 36
def theMethod : MethodId := ⟨1, 1⟩
def args0 : Array Value := #[.int 5, .int 6, .int 7]
def aboutOver (below : List Frame) : State where
  vm := { classes := classes, interned := interned.toArray }
  heap := heap
  slotsUsed := slotsUsed
  threads := #[{ frames := .invoking theMethod args0 :: below }]
def below0 : List Frame := [.native { method := ⟨0, 0⟩, args := #[] }]
def about1 : State := aboutOver below0
def p0 : Program := .bare "" "" ""
def e0 : Env := launch0.env 0 0 0
theorem w_frames : about1.frames = Frame.invoking theMethod args0 :: below0 := rfl
set_option maxRecDepth 65536 in
theorem w_args : argsFit about1.vm theMethod args0 = true := by decide +kernel
set_option maxRecDepth 65536 in
theorem w_heap : heapFits about1 = true := by decide +kernel
set_option maxRecDepth 65536 in
theorem w_runnable : about1.curStatus? = some .runnable := by decide +kernel
set_option maxRecDepth 65536 in
theorem w_alone : about1.alone = true := by decide +kernel
set_option maxRecDepth 65536 in
theorem w_named : about1.methodNamed? x = some theMethod := by decide +kernel
set_option maxRecDepth 65536 in
theorem w_hears : about1.hears theMethod below0 = true := by decide +kernel
set_option maxRecDepth 65536 in
theorem w_ripe : about1.ripe theMethod args0 below0 = true := by decide +kernel
theorem w_running : about1.status = .running := rfl
set_option maxRecDepth 65536 in
theorem w_room : about1.hasRoom e0.platform room_1 = true :=
  launch0.hasRoom_least _ room_1 (by decide +kernel) (by decide +kernel) (by decide +kernel) (by decide +kernel) (by decide +kernel) (by decide +kernel)
theorem allAtoms_all (ts : List Jvm.Cond) (a : Array Jvm.Value) (st : Jvm.State) : (allAtoms ts).before a st = ts.all (fun c => c.before a st) := by
  induction ts with
  | nil => rfl
  | cons c t ih =>
    show (Jvm.Cond.and c (allAtoms t)).before a st = _
    rw [Jvm.Cond.before_and, ih, List.all_cons]
def words1 : List Jvm.Cond := Jvm.Cond.code x code maxLocals ret :: tables_1
/-- a 'code' word, met by the world's own term for the bytes: nothing is compared byte by byte -/
theorem code_word {y : MethodName} {bytes : ByteArray} {mx : Nat} {rt : Option FieldType} {a : Array Value} {s : State} {m : MethodId} {meth : Method} {c : Code} (h1 : s.methodNamed? y = some m) (h2 : s.vm.method? m = some meth) (h3 : meth.code = some c) (h4 : c.code = bytes)
    (h5 : (c.maxLocals == mx && c.exceptionTable.isEmpty && decide (c.maxStack ≤ mostOperands) && decide (meth.sig.returnType = rt) && !meth.locks && decide (parseMethodDescriptor y.desc = some meth.sig)) = true) : (Jvm.Cond.code y bytes mx rt).before a s = true := by
  simp only [Bool.and_eq_true, beq_iff_eq, Bool.not_eq_true', decide_eq_true_eq] at h5
  obtain ⟨⟨⟨⟨⟨g1, g2⟩, g3⟩, g4⟩, g5⟩, g6⟩ := h5
  simp [Cond.before, Cond.holds, Cond.value, h1, h2, h3, h4, g1, g2, g3, g4, g5, g6]
def isCode : Jvm.Cond → Bool
  | .code _ _ _ _ => true
  | _ => false
theorem all_split {L : List Jvm.Cond} {P : Jvm.Cond → Bool} (h1 : L.all (fun c => isCode c || P c) = true) (h2 : ∀ c ∈ L.filter isCode, P c = true) : L.all P = true := by
  refine List.all_eq_true.mpr fun c hc => ?_
  have h := List.all_eq_true.mp h1 c hc
  rcases Bool.eq_false_or_eq_true (isCode c) with hi | hi
  · exact h2 c (List.mem_filter.mpr ⟨hc, hi⟩)
  · simpa [hi] using h
set_option maxRecDepth 65536 in
theorem w_c0 : (Jvm.Cond.code x code maxLocals ret).before args0 about1 = true := code_word (m := ⟨1, 1⟩) (meth := k1m1) (c := k1c1) (by decide +kernel) rfl rfl rfl (by decide +kernel)
set_option maxRecDepth 65536 in
theorem w_c1 : (Jvm.Cond.code ({ cls := "com/example/uakari/uakari/CommandLineErrorPinLaw", name := "mk", desc := "(ICC)Ljava/lang/String;" } : Jvm.MethodName) method_3_code (3 : Nat) (Option.some (Jvm.ClassFile.FieldType.object "java/lang/String"))).before args0 about1 = true := code_word (m := ⟨1, 2⟩) (meth := k1m2) (c := k1c2) (by decide +kernel) rfl rfl rfl (by decide +kernel)
set_option maxRecDepth 65536 in
theorem w_c2 : (Jvm.Cond.code ({ cls := "java/lang/String", name := "<init>", desc := "([C)V" } : Jvm.MethodName) jdk_42_method_3_code (2 : Nat) (Option.none : Option Jvm.ClassFile.FieldType)).before args0 about1 = true := code_word (m := ⟨7, 1⟩) (meth := k7m1) (c := k7c1) (by decide +kernel) rfl rfl rfl (by decide +kernel)
set_option maxRecDepth 65536 in
theorem w_c3 : (Jvm.Cond.code ({ cls := "java/lang/String", name := "<init>", desc := "([CIILjava/lang/Void;)V" } : Jvm.MethodName) jdk_42_method_149_code (6 : Nat) (Option.none : Option Jvm.ClassFile.FieldType)).before args0 about1 = true := code_word (m := ⟨7, 7⟩) (meth := k7m7) (c := k7c7) (by decide +kernel) rfl rfl rfl (by decide +kernel)
set_option maxRecDepth 65536 in
theorem w_c4 : (Jvm.Cond.code ({ cls := "java/lang/Object", name := "<init>", desc := "()V" } : Jvm.MethodName) object_method_1_code (1 : Nat) (Option.none : Option Jvm.ClassFile.FieldType)).before args0 about1 = true := code_word (m := ⟨0, 0⟩) (meth := k0m0) (c := k0c0) (by decide +kernel) rfl rfl rfl (by decide +kernel)
set_option maxRecDepth 65536 in
theorem w_c5 : (Jvm.Cond.code ({ cls := "java/lang/StringUTF16", name := "compress", desc := "([CII)[B" } : Jvm.MethodName) jdk_52_method_16_code (6 : Nat) (Option.some (Jvm.ClassFile.FieldType.array Jvm.ClassFile.FieldType.byte))).before args0 about1 = true := code_word (m := ⟨8, 2⟩) (meth := k8m2) (c := k8c2) (by decide +kernel) rfl rfl rfl (by decide +kernel)
set_option maxRecDepth 65536 in
theorem w_c6 : (Jvm.Cond.code ({ cls := "java/lang/StringUTF16", name := "compress", desc := "([CI[BII)I" } : Jvm.MethodName) jdk_52_method_21_code (7 : Nat) (Option.some Jvm.ClassFile.FieldType.int)).before args0 about1 = true := code_word (m := ⟨8, 3⟩) (meth := k8m3) (c := k8c3) (by decide +kernel) rfl rfl rfl (by decide +kernel)
set_option maxRecDepth 65536 in
theorem w_c7 : (Jvm.Cond.code ({ cls := "java/lang/StringUTF16", name := "coderFromArrayLen", desc := "([BI)B" } : Jvm.MethodName) jdk_52_method_15_code (2 : Nat) (Option.some Jvm.ClassFile.FieldType.byte)).before args0 about1 = true := code_word (m := ⟨8, 1⟩) (meth := k8m1) (c := k8c1) (by decide +kernel) rfl rfl rfl (by decide +kernel)
set_option maxRecDepth 65536 in
theorem w_c8 : (Jvm.Cond.code ({ cls := "java/util/ArrayList", name := "<init>", desc := "()V" } : Jvm.MethodName) jdk_38_method_2_code (1 : Nat) (Option.none : Option Jvm.ClassFile.FieldType)).before args0 about1 = true := code_word (m := ⟨18, 0⟩) (meth := k18m0) (c := k18c0) (by decide +kernel) rfl rfl rfl (by decide +kernel)
set_option maxRecDepth 65536 in
theorem w_c9 : (Jvm.Cond.code ({ cls := "java/util/AbstractList", name := "<init>", desc := "()V" } : Jvm.MethodName) jdk_39_method_1_code (1 : Nat) (Option.none : Option Jvm.ClassFile.FieldType)).before args0 about1 = true := code_word (m := ⟨15, 0⟩) (meth := k15m0) (c := k15c0) (by decide +kernel) rfl rfl rfl (by decide +kernel)
set_option maxRecDepth 65536 in
theorem w_c10 : (Jvm.Cond.code ({ cls := "java/util/AbstractCollection", name := "<init>", desc := "()V" } : Jvm.MethodName) jdk_22_method_1_code (1 : Nat) (Option.none : Option Jvm.ClassFile.FieldType)).before args0 about1 = true := code_word (m := ⟨12, 0⟩) (meth := k12m0) (c := k12c0) (by decide +kernel) rfl rfl rfl (by decide +kernel)
set_option maxRecDepth 65536 in
theorem w_c11 : (Jvm.Cond.code ({ cls := "com/example/uakari/uakari/CommandLine", name := "<init>", desc := "(Ljava/util/List;Ljava/util/Set;Ljava/util/Set;Ljava/util/Set;Ljava/lang/String;)V" } : Jvm.MethodName) prog_1_method_1_code (8 : Nat) (Option.none : Option Jvm.ClassFile.FieldType)).before args0 about1 = true := code_word (m := ⟨9, 0⟩) (meth := k9m0) (c := k9c0) (by decide +kernel) rfl rfl rfl (by decide +kernel)
set_option maxRecDepth 65536 in
theorem w_c12 : (Jvm.Cond.code ({ cls := "java/util/LinkedHashMap", name := "<init>", desc := "()V" } : Jvm.MethodName) jdk_94_method_16_code (1 : Nat) (Option.none : Option Jvm.ClassFile.FieldType)).before args0 about1 = true := code_word (m := ⟨23, 0⟩) (meth := k23m0) (c := k23c0) (by decide +kernel) rfl rfl rfl (by decide +kernel)
set_option maxRecDepth 65536 in
theorem w_c13 : (Jvm.Cond.code ({ cls := "java/util/HashMap", name := "<init>", desc := "()V" } : Jvm.MethodName) jdk_69_method_7_code (1 : Nat) (Option.none : Option Jvm.ClassFile.FieldType)).before args0 about1 = true := code_word (m := ⟨21, 0⟩) (meth := k21m0) (c := k21c0) (by decide +kernel) rfl rfl rfl (by decide +kernel)
set_option maxRecDepth 65536 in
theorem w_c14 : (Jvm.Cond.code ({ cls := "java/util/AbstractMap", name := "<init>", desc := "()V" } : Jvm.MethodName) jdk_71_method_1_code (1 : Nat) (Option.none : Option Jvm.ClassFile.FieldType)).before args0 about1 = true := code_word (m := ⟨20, 0⟩) (meth := k20m0) (c := k20c0) (by decide +kernel) rfl rfl rfl (by decide +kernel)
set_option maxRecDepth 65536 in
theorem w_c15 : (Jvm.Cond.code ({ cls := "java/util/HashSet", name := "<init>", desc := "()V" } : Jvm.MethodName) jdk_93_method_1_code (1 : Nat) (Option.none : Option Jvm.ClassFile.FieldType)).before args0 about1 = true := code_word (m := ⟨26, 0⟩) (meth := k26m0) (c := k26c0) (by decide +kernel) rfl rfl rfl (by decide +kernel)
set_option maxRecDepth 65536 in
theorem w_c16 : (Jvm.Cond.code ({ cls := "java/util/AbstractSet", name := "<init>", desc := "()V" } : Jvm.MethodName) jdk_91_method_1_code (1 : Nat) (Option.none : Option Jvm.ClassFile.FieldType)).before args0 about1 = true := code_word (m := ⟨25, 0⟩) (meth := k25m0) (c := k25c0) (by decide +kernel) rfl rfl rfl (by decide +kernel)
set_option maxRecDepth 65536 in
theorem w_c17 : (Jvm.Cond.code ({ cls := "java/util/ArrayList", name := "size", desc := "()I" } : Jvm.MethodName) jdk_38_method_8_code (1 : Nat) (Option.some Jvm.ClassFile.FieldType.int)).before args0 about1 = true := code_word (m := ⟨18, 1⟩) (meth := k18m1) (c := k18c1) (by decide +kernel) rfl rfl rfl (by decide +kernel)
set_option maxRecDepth 65536 in
theorem w_c18 : (Jvm.Cond.code ({ cls := "com/example/uakari/uakari/CommandLine", name := "error", desc := "(Ljava/lang/String;)Lcom/example/uakari/uakari/UsageException;" } : Jvm.MethodName) prog_1_method_3_code (2 : Nat) (Option.some (Jvm.ClassFile.FieldType.object "com/example/uakari/uakari/UsageException"))).before args0 about1 = true := code_word (m := ⟨9, 1⟩) (meth := k9m1) (c := k9c1) (by decide +kernel) rfl rfl rfl (by decide +kernel)
set_option maxRecDepth 65536 in
theorem w_c19 : (Jvm.Cond.code ({ cls := "com/example/uakari/uakari/UsageException", name := "<init>", desc := "(Ljava/lang/String;Ljava/lang/String;)V" } : Jvm.MethodName) prog_3_method_1_code (3 : Nat) (Option.none : Option Jvm.ClassFile.FieldType)).before args0 about1 = true := code_word (m := ⟨29, 0⟩) (meth := k29m0) (c := k29c0) (by decide +kernel) rfl rfl rfl (by decide +kernel)
set_option maxRecDepth 65536 in
theorem w_c20 : (Jvm.Cond.code ({ cls := "java/lang/StringBuilder", name := "<init>", desc := "()V" } : Jvm.MethodName) jdk_67_method_1_code (1 : Nat) (Option.none : Option Jvm.ClassFile.FieldType)).before args0 about1 = true := code_word (m := ⟨32, 0⟩) (meth := k32m0) (c := k32c0) (by decide +kernel) rfl rfl rfl (by decide +kernel)
set_option maxRecDepth 65536 in
theorem w_c21 : (Jvm.Cond.code ({ cls := "java/lang/AbstractStringBuilder", name := "<init>", desc := "(I)V" } : Jvm.MethodName) jdk_68_method_2_code (2 : Nat) (Option.none : Option Jvm.ClassFile.FieldType)).before args0 about1 = true := code_word (m := ⟨31, 1⟩) (meth := k31m1) (c := k31c1) (by decide +kernel) rfl rfl rfl (by decide +kernel)
set_option maxRecDepth 65536 in
theorem w_c22 : (Jvm.Cond.code ({ cls := "java/lang/StringBuilder", name := "append", desc := "(Ljava/lang/String;)Ljava/lang/StringBuilder;" } : Jvm.MethodName) jdk_67_method_7_code (2 : Nat) (Option.some (Jvm.ClassFile.FieldType.object "java/lang/StringBuilder"))).before args0 about1 = true := code_word (m := ⟨32, 1⟩) (meth := k32m1) (c := k32c1) (by decide +kernel) rfl rfl rfl (by decide +kernel)
set_option maxRecDepth 65536 in
theorem w_c23 : (Jvm.Cond.code ({ cls := "java/lang/AbstractStringBuilder", name := "append", desc := "(Ljava/lang/String;)Ljava/lang/AbstractStringBuilder;" } : Jvm.MethodName) jdk_68_method_22_code (3 : Nat) (Option.some (Jvm.ClassFile.FieldType.object "java/lang/AbstractStringBuilder"))).before args0 about1 = true := code_word (m := ⟨31, 4⟩) (meth := k31m4) (c := k31c4) (by decide +kernel) rfl rfl rfl (by decide +kernel)
set_option maxRecDepth 65536 in
theorem w_c24 : (Jvm.Cond.code ({ cls := "java/lang/String", name := "length", desc := "()I" } : Jvm.MethodName) jdk_42_method_54_code (1 : Nat) (Option.some Jvm.ClassFile.FieldType.int)).before args0 about1 = true := code_word (m := ⟨7, 3⟩) (meth := k7m3) (c := k7c3) (by decide +kernel) rfl rfl rfl (by decide +kernel)
set_option maxRecDepth 65536 in
theorem w_c25 : (Jvm.Cond.code ({ cls := "java/lang/String", name := "coder", desc := "()B" } : Jvm.MethodName) jdk_42_method_152_code (1 : Nat) (Option.some Jvm.ClassFile.FieldType.byte)).before args0 about1 = true := code_word (m := ⟨7, 10⟩) (meth := k7m10) (c := k7c10) (by decide +kernel) rfl rfl rfl (by decide +kernel)
set_option maxRecDepth 65536 in
theorem w_c26 : (Jvm.Cond.code ({ cls := "java/lang/AbstractStringBuilder", name := "ensureCapacityInternal", desc := "(I)V" } : Jvm.MethodName) jdk_68_method_9_code (3 : Nat) (Option.none : Option Jvm.ClassFile.FieldType)).before args0 about1 = true := code_word (m := ⟨31, 3⟩) (meth := k31m3) (c := k31c3) (by decide +kernel) rfl rfl rfl (by decide +kernel)
set_option maxRecDepth 65536 in
theorem w_c27 : (Jvm.Cond.code ({ cls := "java/lang/AbstractStringBuilder", name := "putStringAt", desc := "(ILjava/lang/String;)V" } : Jvm.MethodName) jdk_68_method_73_code (3 : Nat) (Option.none : Option Jvm.ClassFile.FieldType)).before args0 about1 = true := code_word (m := ⟨31, 8⟩) (meth := k31m8) (c := k31c8) (by decide +kernel) rfl rfl rfl (by decide +kernel)
set_option maxRecDepth 65536 in
theorem w_c28 : (Jvm.Cond.code ({ cls := "java/lang/AbstractStringBuilder", name := "inflateIfNeededFor", desc := "(Ljava/lang/String;)V" } : Jvm.MethodName) jdk_68_method_71_code (2 : Nat) (Option.none : Option Jvm.ClassFile.FieldType)).before args0 about1 = true := code_word (m := ⟨31, 7⟩) (meth := k31m7) (c := k31c7) (by decide +kernel) rfl rfl rfl (by decide +kernel)
set_option maxRecDepth 65536 in
theorem w_c29 : (Jvm.Cond.code ({ cls := "java/lang/String", name := "getBytes", desc := "([BIB)V" } : Jvm.MethodName) jdk_42_method_147_code (4 : Nat) (Option.none : Option Jvm.ClassFile.FieldType)).before args0 about1 = true := code_word (m := ⟨7, 6⟩) (meth := k7m6) (c := k7c6) (by decide +kernel) rfl rfl rfl (by decide +kernel)
set_option maxRecDepth 65536 in
theorem w_c30 : (Jvm.Cond.code ({ cls := "java/lang/StringBuilder", name := "toString", desc := "()Ljava/lang/String;" } : Jvm.MethodName) jdk_67_method_42_code (1 : Nat) (Option.some (Jvm.ClassFile.FieldType.object "java/lang/String"))).before args0 about1 = true := code_word (m := ⟨32, 2⟩) (meth := k32m2) (c := k32c2) (by decide +kernel) rfl rfl rfl (by decide +kernel)
set_option maxRecDepth 65536 in
theorem w_c31 : (Jvm.Cond.code ({ cls := "java/lang/String", name := "<init>", desc := "(Ljava/lang/StringBuilder;)V" } : Jvm.MethodName) jdk_42_method_53_code (2 : Nat) (Option.none : Option Jvm.ClassFile.FieldType)).before args0 about1 = true := code_word (m := ⟨7, 2⟩) (meth := k7m2) (c := k7c2) (by decide +kernel) rfl rfl rfl (by decide +kernel)
set_option maxRecDepth 65536 in
theorem w_c32 : (Jvm.Cond.code ({ cls := "java/lang/String", name := "<init>", desc := "(Ljava/lang/AbstractStringBuilder;Ljava/lang/Void;)V" } : Jvm.MethodName) jdk_42_method_150_code (5 : Nat) (Option.none : Option Jvm.ClassFile.FieldType)).before args0 about1 = true := code_word (m := ⟨7, 8⟩) (meth := k7m8) (c := k7c8) (by decide +kernel) rfl rfl rfl (by decide +kernel)
set_option maxRecDepth 65536 in
theorem w_c33 : (Jvm.Cond.code ({ cls := "java/lang/AbstractStringBuilder", name := "getValue", desc := "()[B" } : Jvm.MethodName) jdk_68_method_64_code (1 : Nat) (Option.some (Jvm.ClassFile.FieldType.array Jvm.ClassFile.FieldType.byte))).before args0 about1 = true := code_word (m := ⟨31, 5⟩) (meth := k31m5) (c := k31c5) (by decide +kernel) rfl rfl rfl (by decide +kernel)
set_option maxRecDepth 65536 in
theorem w_c34 : (Jvm.Cond.code ({ cls := "java/lang/StringBuilder", name := "length", desc := "()I" } : Jvm.MethodName) jdk_67_method_93_code (1 : Nat) (Option.some Jvm.ClassFile.FieldType.int)).before args0 about1 = true := code_word (m := ⟨32, 3⟩) (meth := k32m3) (c := k32c3) (by decide +kernel) rfl rfl rfl (by decide +kernel)
set_option maxRecDepth 65536 in
theorem w_c35 : (Jvm.Cond.code ({ cls := "java/lang/AbstractStringBuilder", name := "length", desc := "()I" } : Jvm.MethodName) jdk_68_method_6_code (1 : Nat) (Option.some Jvm.ClassFile.FieldType.int)).before args0 about1 = true := code_word (m := ⟨31, 2⟩) (meth := k31m2) (c := k31c2) (by decide +kernel) rfl rfl rfl (by decide +kernel)
set_option maxRecDepth 65536 in
theorem w_c36 : (Jvm.Cond.code ({ cls := "java/lang/AbstractStringBuilder", name := "isLatin1", desc := "()Z" } : Jvm.MethodName) jdk_68_method_68_code (1 : Nat) (Option.some Jvm.ClassFile.FieldType.boolean)).before args0 about1 = true := code_word (m := ⟨31, 6⟩) (meth := k31m6) (c := k31c6) (by decide +kernel) rfl rfl rfl (by decide +kernel)
set_option maxRecDepth 65536 in
theorem w_c37 : (Jvm.Cond.code ({ cls := "java/util/Arrays", name := "copyOfRange", desc := "([BII)[B" } : Jvm.MethodName) jdk_65_method_132_code (3 : Nat) (Option.some (Jvm.ClassFile.FieldType.array Jvm.ClassFile.FieldType.byte))).before args0 about1 = true := code_word (m := ⟨34, 2⟩) (meth := k34m2) (c := k34c2) (by decide +kernel) rfl rfl rfl (by decide +kernel)
set_option maxRecDepth 65536 in
theorem w_c38 : (Jvm.Cond.code ({ cls := "java/util/Arrays", name := "copyOfRangeByte", desc := "([BII)[B" } : Jvm.MethodName) jdk_65_method_133_code (5 : Nat) (Option.some (Jvm.ClassFile.FieldType.array Jvm.ClassFile.FieldType.byte))).before args0 about1 = true := code_word (m := ⟨34, 3⟩) (meth := k34m3) (c := k34c3) (by decide +kernel) rfl rfl rfl (by decide +kernel)
set_option maxRecDepth 65536 in
theorem w_c39 : (Jvm.Cond.code ({ cls := "java/util/Arrays", name := "checkLength", desc := "(II)V" } : Jvm.MethodName) jdk_65_method_131_code (2 : Nat) (Option.none : Option Jvm.ClassFile.FieldType)).before args0 about1 = true := code_word (m := ⟨34, 1⟩) (meth := k34m1) (c := k34c1) (by decide +kernel) rfl rfl rfl (by decide +kernel)
set_option maxRecDepth 65536 in
theorem w_c40 : (Jvm.Cond.code ({ cls := "java/lang/Math", name := "min", desc := "(II)I" } : Jvm.MethodName) jdk_29_method_69_code (2 : Nat) (Option.some Jvm.ClassFile.FieldType.int)).before args0 about1 = true := code_word (m := ⟨35, 1⟩) (meth := k35m1) (c := k35c1) (by decide +kernel) rfl rfl rfl (by decide +kernel)
set_option maxRecDepth 65536 in
theorem w_c41 : (Jvm.Cond.code ({ cls := "java/lang/Exception", name := "<init>", desc := "(Ljava/lang/String;)V" } : Jvm.MethodName) jdk_59_method_2_code (2 : Nat) (Option.none : Option Jvm.ClassFile.FieldType)).before args0 about1 = true := code_word (m := ⟨28, 1⟩) (meth := k28m1) (c := k28c1) (by decide +kernel) rfl rfl rfl (by decide +kernel)
set_option maxRecDepth 65536 in
theorem w_c42 : (Jvm.Cond.code ({ cls := "java/lang/Throwable", name := "<init>", desc := "(Ljava/lang/String;)V" } : Jvm.MethodName) jdk_78_method_2_code (2 : Nat) (Option.none : Option Jvm.ClassFile.FieldType)).before args0 about1 = true := code_word (m := ⟨27, 1⟩) (meth := k27m1) (c := k27c1) (by decide +kernel) rfl rfl rfl (by decide +kernel)
set_option maxRecDepth 65536 in
theorem w_c43 : (Jvm.Cond.code ({ cls := "java/lang/Throwable", name := "<init>", desc := "()V" } : Jvm.MethodName) jdk_78_method_1_code (1 : Nat) (Option.none : Option Jvm.ClassFile.FieldType)).before args0 about1 = true := code_word (m := ⟨27, 0⟩) (meth := k27m0) (c := k27c0) (by decide +kernel) rfl rfl rfl (by decide +kernel)
set_option maxRecDepth 65536 in
theorem w_c44 : (Jvm.Cond.code ({ cls := "java/lang/Throwable", name := "getMessage", desc := "()Ljava/lang/String;" } : Jvm.MethodName) jdk_78_method_6_code (1 : Nat) (Option.some (Jvm.ClassFile.FieldType.object "java/lang/String"))).before args0 about1 = true := code_word (m := ⟨27, 2⟩) (meth := k27m2) (c := k27c2) (by decide +kernel) rfl rfl rfl (by decide +kernel)
set_option maxRecDepth 65536 in
theorem w_c45 : (Jvm.Cond.code ({ cls := "com/example/uakari/uakari/CommandLineErrorPinLaw", name := "same", desc := "(Ljava/lang/String;ILjava/lang/String;)Z" } : Jvm.MethodName) method_4_code (4 : Nat) (Option.some Jvm.ClassFile.FieldType.boolean)).before args0 about1 = true := code_word (m := ⟨1, 3⟩) (meth := k1m3) (c := k1c3) (by decide +kernel) rfl rfl rfl (by decide +kernel)
set_option maxRecDepth 65536 in
theorem w_c46 : (Jvm.Cond.code ({ cls := "java/lang/String", name := "charAt", desc := "(I)C" } : Jvm.MethodName) jdk_42_method_56_code (2 : Nat) (Option.some Jvm.ClassFile.FieldType.char)).before args0 about1 = true := code_word (m := ⟨7, 4⟩) (meth := k7m4) (c := k7c4) (by decide +kernel) rfl rfl rfl (by decide +kernel)
set_option maxRecDepth 65536 in
theorem w_c47 : (Jvm.Cond.code ({ cls := "java/lang/String", name := "isLatin1", desc := "()Z" } : Jvm.MethodName) jdk_42_method_154_code (1 : Nat) (Option.some Jvm.ClassFile.FieldType.boolean)).before args0 about1 = true := code_word (m := ⟨7, 11⟩) (meth := k7m11) (c := k7c11) (by decide +kernel) rfl rfl rfl (by decide +kernel)
set_option maxRecDepth 65536 in
theorem w_c48 : (Jvm.Cond.code ({ cls := "java/lang/StringLatin1", name := "charAt", desc := "([BI)C" } : Jvm.MethodName) jdk_43_method_2_code (2 : Nat) (Option.some Jvm.ClassFile.FieldType.char)).before args0 about1 = true := code_word (m := ⟨36, 1⟩) (meth := k36m1) (c := k36c1) (by decide +kernel) rfl rfl rfl (by decide +kernel)
set_option maxRecDepth 65536 in
theorem w_c49 : (Jvm.Cond.code ({ cls := "java/lang/String", name := "checkIndex", desc := "(II)V" } : Jvm.MethodName) jdk_42_method_155_code (2 : Nat) (Option.none : Option Jvm.ClassFile.FieldType)).before args0 about1 = true := code_word (m := ⟨7, 12⟩) (meth := k7m12) (c := k7c12) (by decide +kernel) rfl rfl rfl (by decide +kernel)
set_option maxRecDepth 65536 in
theorem w_c50 : (Jvm.Cond.code ({ cls := "jdk/internal/util/Preconditions", name := "checkIndex", desc := "(IILjava/util/function/BiFunction;)I" } : Jvm.MethodName) jdk_41_method_11_code (3 : Nat) (Option.some Jvm.ClassFile.FieldType.int)).before args0 about1 = true := code_word (m := ⟨37, 1⟩) (meth := k37m1) (c := k37c1) (by decide +kernel) rfl rfl rfl (by decide +kernel)
set_option maxRecDepth 65536 in
theorem w_c51 : (Jvm.Cond.code ({ cls := "com/example/uakari/uakari/CommandLineErrorPinLaw", name := "sep", desc := "(Ljava/lang/String;I)Z" } : Jvm.MethodName) method_5_code (3 : Nat) (Option.some Jvm.ClassFile.FieldType.boolean)).before args0 about1 = true := code_word (m := ⟨1, 4⟩) (meth := k1m4) (c := k1c4) (by decide +kernel) rfl rfl rfl (by decide +kernel)
set_option maxRecDepth 65536 in
theorem w_c52 : (Jvm.Cond.code ({ cls := "java/lang/String", name := "valueOf", desc := "(C)Ljava/lang/String;" } : Jvm.MethodName) jdk_42_method_139_code (1 : Nat) (Option.some (Jvm.ClassFile.FieldType.object "java/lang/String"))).before args0 about1 = true := code_word (m := ⟨7, 5⟩) (meth := k7m5) (c := k7c5) (by decide +kernel) rfl rfl rfl (by decide +kernel)
set_option maxRecDepth 65536 in
theorem w_c53 : (Jvm.Cond.code ({ cls := "java/lang/StringLatin1", name := "canEncode", desc := "(C)Z" } : Jvm.MethodName) jdk_43_method_3_code (1 : Nat) (Option.some Jvm.ClassFile.FieldType.boolean)).before args0 about1 = true := code_word (m := ⟨36, 2⟩) (meth := k36m2) (c := k36c2) (by decide +kernel) rfl rfl rfl (by decide +kernel)
set_option maxRecDepth 65536 in
theorem w_c54 : (Jvm.Cond.code ({ cls := "java/lang/StringLatin1", name := "toBytes", desc := "(C)[B" } : Jvm.MethodName) jdk_43_method_46_code (1 : Nat) (Option.some (Jvm.ClassFile.FieldType.array Jvm.ClassFile.FieldType.byte))).before args0 about1 = true := code_word (m := ⟨36, 3⟩) (meth := k36m3) (c := k36c3) (by decide +kernel) rfl rfl rfl (by decide +kernel)
set_option maxRecDepth 65536 in
theorem w_c55 : (Jvm.Cond.code ({ cls := "java/lang/String", name := "<init>", desc := "([BB)V" } : Jvm.MethodName) jdk_42_method_151_code (3 : Nat) (Option.none : Option Jvm.ClassFile.FieldType)).before args0 about1 = true := code_word (m := ⟨7, 9⟩) (meth := k7m9) (c := k7c9) (by decide +kernel) rfl rfl rfl (by decide +kernel)
def codes1 : List Jvm.Cond := [Jvm.Cond.code x code maxLocals ret, Jvm.Cond.code ({ cls := "com/example/uakari/uakari/CommandLineErrorPinLaw", name := "mk", desc := "(ICC)Ljava/lang/String;" } : Jvm.MethodName) method_3_code (3 : Nat) (Option.some (Jvm.ClassFile.FieldType.object "java/lang/String")), Jvm.Cond.code ({ cls := "java/lang/String", name := "<init>", desc := "([C)V" } : Jvm.MethodName) jdk_42_method_3_code (2 : Nat) (Option.none : Option Jvm.ClassFile.FieldType), Jvm.Cond.code ({ cls := "java/lang/String", name := "<init>", desc := "([CIILjava/lang/Void;)V" } : Jvm.MethodName) jdk_42_method_149_code (6 : Nat) (Option.none : Option Jvm.ClassFile.FieldType), Jvm.Cond.code ({ cls := "java/lang/Object", name := "<init>", desc := "()V" } : Jvm.MethodName) object_method_1_code (1 : Nat) (Option.none : Option Jvm.ClassFile.FieldType), Jvm.Cond.code ({ cls := "java/lang/StringUTF16", name := "compress", desc := "([CII)[B" } : Jvm.MethodName) jdk_52_method_16_code (6 : Nat) (Option.some (Jvm.ClassFile.FieldType.array Jvm.ClassFile.FieldType.byte)), Jvm.Cond.code ({ cls := "java/lang/StringUTF16", name := "compress", desc := "([CI[BII)I" } : Jvm.MethodName) jdk_52_method_21_code (7 : Nat) (Option.some Jvm.ClassFile.FieldType.int), Jvm.Cond.code ({ cls := "java/lang/StringUTF16", name := "coderFromArrayLen", desc := "([BI)B" } : Jvm.MethodName) jdk_52_method_15_code (2 : Nat) (Option.some Jvm.ClassFile.FieldType.byte), Jvm.Cond.code ({ cls := "java/util/ArrayList", name := "<init>", desc := "()V" } : Jvm.MethodName) jdk_38_method_2_code (1 : Nat) (Option.none : Option Jvm.ClassFile.FieldType), Jvm.Cond.code ({ cls := "java/util/AbstractList", name := "<init>", desc := "()V" } : Jvm.MethodName) jdk_39_method_1_code (1 : Nat) (Option.none : Option Jvm.ClassFile.FieldType), Jvm.Cond.code ({ cls := "java/util/AbstractCollection", name := "<init>", desc := "()V" } : Jvm.MethodName) jdk_22_method_1_code (1 : Nat) (Option.none : Option Jvm.ClassFile.FieldType), Jvm.Cond.code ({ cls := "com/example/uakari/uakari/CommandLine", name := "<init>", desc := "(Ljava/util/List;Ljava/util/Set;Ljava/util/Set;Ljava/util/Set;Ljava/lang/String;)V" } : Jvm.MethodName) prog_1_method_1_code (8 : Nat) (Option.none : Option Jvm.ClassFile.FieldType), Jvm.Cond.code ({ cls := "java/util/LinkedHashMap", name := "<init>", desc := "()V" } : Jvm.MethodName) jdk_94_method_16_code (1 : Nat) (Option.none : Option Jvm.ClassFile.FieldType), Jvm.Cond.code ({ cls := "java/util/HashMap", name := "<init>", desc := "()V" } : Jvm.MethodName) jdk_69_method_7_code (1 : Nat) (Option.none : Option Jvm.ClassFile.FieldType), Jvm.Cond.code ({ cls := "java/util/AbstractMap", name := "<init>", desc := "()V" } : Jvm.MethodName) jdk_71_method_1_code (1 : Nat) (Option.none : Option Jvm.ClassFile.FieldType), Jvm.Cond.code ({ cls := "java/util/HashSet", name := "<init>", desc := "()V" } : Jvm.MethodName) jdk_93_method_1_code (1 : Nat) (Option.none : Option Jvm.ClassFile.FieldType), Jvm.Cond.code ({ cls := "java/util/AbstractSet", name := "<init>", desc := "()V" } : Jvm.MethodName) jdk_91_method_1_code (1 : Nat) (Option.none : Option Jvm.ClassFile.FieldType), Jvm.Cond.code ({ cls := "java/util/ArrayList", name := "size", desc := "()I" } : Jvm.MethodName) jdk_38_method_8_code (1 : Nat) (Option.some Jvm.ClassFile.FieldType.int), Jvm.Cond.code ({ cls := "com/example/uakari/uakari/CommandLine", name := "error", desc := "(Ljava/lang/String;)Lcom/example/uakari/uakari/UsageException;" } : Jvm.MethodName) prog_1_method_3_code (2 : Nat) (Option.some (Jvm.ClassFile.FieldType.object "com/example/uakari/uakari/UsageException")), Jvm.Cond.code ({ cls := "com/example/uakari/uakari/UsageException", name := "<init>", desc := "(Ljava/lang/String;Ljava/lang/String;)V" } : Jvm.MethodName) prog_3_method_1_code (3 : Nat) (Option.none : Option Jvm.ClassFile.FieldType), Jvm.Cond.code ({ cls := "java/lang/StringBuilder", name := "<init>", desc := "()V" } : Jvm.MethodName) jdk_67_method_1_code (1 : Nat) (Option.none : Option Jvm.ClassFile.FieldType), Jvm.Cond.code ({ cls := "java/lang/AbstractStringBuilder", name := "<init>", desc := "(I)V" } : Jvm.MethodName) jdk_68_method_2_code (2 : Nat) (Option.none : Option Jvm.ClassFile.FieldType), Jvm.Cond.code ({ cls := "java/lang/StringBuilder", name := "append", desc := "(Ljava/lang/String;)Ljava/lang/StringBuilder;" } : Jvm.MethodName) jdk_67_method_7_code (2 : Nat) (Option.some (Jvm.ClassFile.FieldType.object "java/lang/StringBuilder")), Jvm.Cond.code ({ cls := "java/lang/AbstractStringBuilder", name := "append", desc := "(Ljava/lang/String;)Ljava/lang/AbstractStringBuilder;" } : Jvm.MethodName) jdk_68_method_22_code (3 : Nat) (Option.some (Jvm.ClassFile.FieldType.object "java/lang/AbstractStringBuilder")), Jvm.Cond.code ({ cls := "java/lang/String", name := "length", desc := "()I" } : Jvm.MethodName) jdk_42_method_54_code (1 : Nat) (Option.some Jvm.ClassFile.FieldType.int), Jvm.Cond.code ({ cls := "java/lang/String", name := "coder", desc := "()B" } : Jvm.MethodName) jdk_42_method_152_code (1 : Nat) (Option.some Jvm.ClassFile.FieldType.byte), Jvm.Cond.code ({ cls := "java/lang/AbstractStringBuilder", name := "ensureCapacityInternal", desc := "(I)V" } : Jvm.MethodName) jdk_68_method_9_code (3 : Nat) (Option.none : Option Jvm.ClassFile.FieldType), Jvm.Cond.code ({ cls := "java/lang/AbstractStringBuilder", name := "putStringAt", desc := "(ILjava/lang/String;)V" } : Jvm.MethodName) jdk_68_method_73_code (3 : Nat) (Option.none : Option Jvm.ClassFile.FieldType), Jvm.Cond.code ({ cls := "java/lang/AbstractStringBuilder", name := "inflateIfNeededFor", desc := "(Ljava/lang/String;)V" } : Jvm.MethodName) jdk_68_method_71_code (2 : Nat) (Option.none : Option Jvm.ClassFile.FieldType), Jvm.Cond.code ({ cls := "java/lang/String", name := "getBytes", desc := "([BIB)V" } : Jvm.MethodName) jdk_42_method_147_code (4 : Nat) (Option.none : Option Jvm.ClassFile.FieldType), Jvm.Cond.code ({ cls := "java/lang/StringBuilder", name := "toString", desc := "()Ljava/lang/String;" } : Jvm.MethodName) jdk_67_method_42_code (1 : Nat) (Option.some (Jvm.ClassFile.FieldType.object "java/lang/String")), Jvm.Cond.code ({ cls := "java/lang/String", name := "<init>", desc := "(Ljava/lang/StringBuilder;)V" } : Jvm.MethodName) jdk_42_method_53_code (2 : Nat) (Option.none : Option Jvm.ClassFile.FieldType), Jvm.Cond.code ({ cls := "java/lang/String", name := "<init>", desc := "(Ljava/lang/AbstractStringBuilder;Ljava/lang/Void;)V" } : Jvm.MethodName) jdk_42_method_150_code (5 : Nat) (Option.none : Option Jvm.ClassFile.FieldType), Jvm.Cond.code ({ cls := "java/lang/AbstractStringBuilder", name := "getValue", desc := "()[B" } : Jvm.MethodName) jdk_68_method_64_code (1 : Nat) (Option.some (Jvm.ClassFile.FieldType.array Jvm.ClassFile.FieldType.byte)), Jvm.Cond.code ({ cls := "java/lang/StringBuilder", name := "length", desc := "()I" } : Jvm.MethodName) jdk_67_method_93_code (1 : Nat) (Option.some Jvm.ClassFile.FieldType.int), Jvm.Cond.code ({ cls := "java/lang/AbstractStringBuilder", name := "length", desc := "()I" } : Jvm.MethodName) jdk_68_method_6_code (1 : Nat) (Option.some Jvm.ClassFile.FieldType.int), Jvm.Cond.code ({ cls := "java/lang/AbstractStringBuilder", name := "isLatin1", desc := "()Z" } : Jvm.MethodName) jdk_68_method_68_code (1 : Nat) (Option.some Jvm.ClassFile.FieldType.boolean), Jvm.Cond.code ({ cls := "java/util/Arrays", name := "copyOfRange", desc := "([BII)[B" } : Jvm.MethodName) jdk_65_method_132_code (3 : Nat) (Option.some (Jvm.ClassFile.FieldType.array Jvm.ClassFile.FieldType.byte)), Jvm.Cond.code ({ cls := "java/util/Arrays", name := "copyOfRangeByte", desc := "([BII)[B" } : Jvm.MethodName) jdk_65_method_133_code (5 : Nat) (Option.some (Jvm.ClassFile.FieldType.array Jvm.ClassFile.FieldType.byte)), Jvm.Cond.code ({ cls := "java/util/Arrays", name := "checkLength", desc := "(II)V" } : Jvm.MethodName) jdk_65_method_131_code (2 : Nat) (Option.none : Option Jvm.ClassFile.FieldType), Jvm.Cond.code ({ cls := "java/lang/Math", name := "min", desc := "(II)I" } : Jvm.MethodName) jdk_29_method_69_code (2 : Nat) (Option.some Jvm.ClassFile.FieldType.int), Jvm.Cond.code ({ cls := "java/lang/Exception", name := "<init>", desc := "(Ljava/lang/String;)V" } : Jvm.MethodName) jdk_59_method_2_code (2 : Nat) (Option.none : Option Jvm.ClassFile.FieldType), Jvm.Cond.code ({ cls := "java/lang/Throwable", name := "<init>", desc := "(Ljava/lang/String;)V" } : Jvm.MethodName) jdk_78_method_2_code (2 : Nat) (Option.none : Option Jvm.ClassFile.FieldType), Jvm.Cond.code ({ cls := "java/lang/Throwable", name := "<init>", desc := "()V" } : Jvm.MethodName) jdk_78_method_1_code (1 : Nat) (Option.none : Option Jvm.ClassFile.FieldType), Jvm.Cond.code ({ cls := "java/lang/Throwable", name := "getMessage", desc := "()Ljava/lang/String;" } : Jvm.MethodName) jdk_78_method_6_code (1 : Nat) (Option.some (Jvm.ClassFile.FieldType.object "java/lang/String")), Jvm.Cond.code ({ cls := "com/example/uakari/uakari/CommandLineErrorPinLaw", name := "same", desc := "(Ljava/lang/String;ILjava/lang/String;)Z" } : Jvm.MethodName) method_4_code (4 : Nat) (Option.some Jvm.ClassFile.FieldType.boolean), Jvm.Cond.code ({ cls := "java/lang/String", name := "charAt", desc := "(I)C" } : Jvm.MethodName) jdk_42_method_56_code (2 : Nat) (Option.some Jvm.ClassFile.FieldType.char), Jvm.Cond.code ({ cls := "java/lang/String", name := "isLatin1", desc := "()Z" } : Jvm.MethodName) jdk_42_method_154_code (1 : Nat) (Option.some Jvm.ClassFile.FieldType.boolean), Jvm.Cond.code ({ cls := "java/lang/StringLatin1", name := "charAt", desc := "([BI)C" } : Jvm.MethodName) jdk_43_method_2_code (2 : Nat) (Option.some Jvm.ClassFile.FieldType.char), Jvm.Cond.code ({ cls := "java/lang/String", name := "checkIndex", desc := "(II)V" } : Jvm.MethodName) jdk_42_method_155_code (2 : Nat) (Option.none : Option Jvm.ClassFile.FieldType), Jvm.Cond.code ({ cls := "jdk/internal/util/Preconditions", name := "checkIndex", desc := "(IILjava/util/function/BiFunction;)I" } : Jvm.MethodName) jdk_41_method_11_code (3 : Nat) (Option.some Jvm.ClassFile.FieldType.int), Jvm.Cond.code ({ cls := "com/example/uakari/uakari/CommandLineErrorPinLaw", name := "sep", desc := "(Ljava/lang/String;I)Z" } : Jvm.MethodName) method_5_code (3 : Nat) (Option.some Jvm.ClassFile.FieldType.boolean), Jvm.Cond.code ({ cls := "java/lang/String", name := "valueOf", desc := "(C)Ljava/lang/String;" } : Jvm.MethodName) jdk_42_method_139_code (1 : Nat) (Option.some (Jvm.ClassFile.FieldType.object "java/lang/String")), Jvm.Cond.code ({ cls := "java/lang/StringLatin1", name := "canEncode", desc := "(C)Z" } : Jvm.MethodName) jdk_43_method_3_code (1 : Nat) (Option.some Jvm.ClassFile.FieldType.boolean), Jvm.Cond.code ({ cls := "java/lang/StringLatin1", name := "toBytes", desc := "(C)[B" } : Jvm.MethodName) jdk_43_method_46_code (1 : Nat) (Option.some (Jvm.ClassFile.FieldType.array Jvm.ClassFile.FieldType.byte)), Jvm.Cond.code ({ cls := "java/lang/String", name := "<init>", desc := "([BB)V" } : Jvm.MethodName) jdk_42_method_151_code (3 : Nat) (Option.none : Option Jvm.ClassFile.FieldType)]
set_option maxRecDepth 65536 in
theorem codes_eq : words1.filter isCode = codes1 := rfl
theorem w_codes : ∀ c ∈ words1.filter isCode, c.before args0 about1 = true := by
  rw [codes_eq]
  intro c hc
  simp only [codes1, List.mem_cons, List.not_mem_nil, or_false] at hc
  rcases hc with rfl | rfl | rfl | rfl | rfl | rfl | rfl | rfl | rfl | rfl | rfl | rfl | rfl | rfl | rfl | rfl | rfl | rfl | rfl | rfl | rfl | rfl | rfl | rfl | rfl | rfl | rfl | rfl | rfl | rfl | rfl | rfl | rfl | rfl | rfl | rfl | rfl | rfl | rfl | rfl | rfl | rfl | rfl | rfl | rfl | rfl | rfl | rfl | rfl | rfl | rfl | rfl | rfl | rfl | rfl | rfl
  · exact w_c0
  · exact w_c1
  · exact w_c2
  · exact w_c3
  · exact w_c4
  · exact w_c5
  · exact w_c6
  · exact w_c7
  · exact w_c8
  · exact w_c9
  · exact w_c10
  · exact w_c11
  · exact w_c12
  · exact w_c13
  · exact w_c14
  · exact w_c15
  · exact w_c16
  · exact w_c17
  · exact w_c18
  · exact w_c19
  · exact w_c20
  · exact w_c21
  · exact w_c22
  · exact w_c23
  · exact w_c24
  · exact w_c25
  · exact w_c26
  · exact w_c27
  · exact w_c28
  · exact w_c29
  · exact w_c30
  · exact w_c31
  · exact w_c32
  · exact w_c33
  · exact w_c34
  · exact w_c35
  · exact w_c36
  · exact w_c37
  · exact w_c38
  · exact w_c39
  · exact w_c40
  · exact w_c41
  · exact w_c42
  · exact w_c43
  · exact w_c44
  · exact w_c45
  · exact w_c46
  · exact w_c47
  · exact w_c48
  · exact w_c49
  · exact w_c50
  · exact w_c51
  · exact w_c52
  · exact w_c53
  · exact w_c54
  · exact w_c55
set_option maxRecDepth 65536 in
theorem w_t1 : (words1.take 24).all (fun c => isCode c || c.before args0 about1) = true := by decide +kernel
set_option maxRecDepth 65536 in
theorem w_t2 : ((words1.drop 24).take 24).all (fun c => isCode c || c.before args0 about1) = true := by decide +kernel
set_option maxRecDepth 65536 in
theorem w_t3 : (((words1.drop 24).drop 24).take 24).all (fun c => isCode c || c.before args0 about1) = true := by decide +kernel
set_option maxRecDepth 65536 in
theorem w_t4 : ((((words1.drop 24).drop 24).drop 24).take 24).all (fun c => isCode c || c.before args0 about1) = true := by decide +kernel
set_option maxRecDepth 65536 in
theorem w_t5 : (((((words1.drop 24).drop 24).drop 24).drop 24).take 24).all (fun c => isCode c || c.before args0 about1) = true := by decide +kernel
set_option maxRecDepth 65536 in
theorem w_t6 : ((((((words1.drop 24).drop 24).drop 24).drop 24).drop 24).take 24).all (fun c => isCode c || c.before args0 about1) = true := by decide +kernel
set_option maxRecDepth 65536 in
theorem w_t7 : (((((((words1.drop 24).drop 24).drop 24).drop 24).drop 24).drop 24).take 24).all (fun c => isCode c || c.before args0 about1) = true := by decide +kernel
set_option maxRecDepth 65536 in
theorem w_t8 : ((((((((words1.drop 24).drop 24).drop 24).drop 24).drop 24).drop 24).drop 24).take 24).all (fun c => isCode c || c.before args0 about1) = true := by decide +kernel
set_option maxRecDepth 65536 in
theorem w_t9 : (((((((((words1.drop 24).drop 24).drop 24).drop 24).drop 24).drop 24).drop 24).drop 24).take 24).all (fun c => isCode c || c.before args0 about1) = true := by decide +kernel
set_option maxRecDepth 65536 in
theorem w_t10 : ((((((((((words1.drop 24).drop 24).drop 24).drop 24).drop 24).drop 24).drop 24).drop 24).drop 24).take 24).all (fun c => isCode c || c.before args0 about1) = true := by decide +kernel
set_option maxRecDepth 65536 in
theorem w_t11 : (((((((((((words1.drop 24).drop 24).drop 24).drop 24).drop 24).drop 24).drop 24).drop 24).drop 24).drop 24).take 24).all (fun c => isCode c || c.before args0 about1) = true := by decide +kernel
set_option maxRecDepth 65536 in
theorem w_t12 : ((((((((((((words1.drop 24).drop 24).drop 24).drop 24).drop 24).drop 24).drop 24).drop 24).drop 24).drop 24).drop 24).take 24).all (fun c => isCode c || c.before args0 about1) = true := by decide +kernel
set_option maxRecDepth 65536 in
theorem w_t13 : (((((((((((((words1.drop 24).drop 24).drop 24).drop 24).drop 24).drop 24).drop 24).drop 24).drop 24).drop 24).drop 24).drop 24).take 24).all (fun c => isCode c || c.before args0 about1) = true := by decide +kernel
set_option maxRecDepth 65536 in
theorem w_t14 : ((((((((((((((words1.drop 24).drop 24).drop 24).drop 24).drop 24).drop 24).drop 24).drop 24).drop 24).drop 24).drop 24).drop 24).drop 24).take 24).all (fun c => isCode c || c.before args0 about1) = true := by decide +kernel
set_option maxRecDepth 65536 in
theorem w_t15 : ((((((((((((((words1.drop 24).drop 24).drop 24).drop 24).drop 24).drop 24).drop 24).drop 24).drop 24).drop 24).drop 24).drop 24).drop 24).drop 24).all (fun c => isCode c || c.before args0 about1) = true := by decide +kernel
theorem w_tables : (allAtoms (Jvm.Cond.code x code maxLocals ret :: tables_1)).before args0 about1 = true := by
  rw [allAtoms_all]
  show words1.all (fun c => c.before args0 about1) = true
  refine all_split ?_ w_codes
  rw [← List.take_append_drop 24 words1, List.all_append, w_t1, ← List.take_append_drop 24 (words1.drop 24), List.all_append, w_t2, ← List.take_append_drop 24 ((words1.drop 24).drop 24), List.all_append, w_t3, ← List.take_append_drop 24 (((words1.drop 24).drop 24).drop 24), List.all_append, w_t4, ← List.take_append_drop 24 ((((words1.drop 24).drop 24).drop 24).drop 24), List.all_append, w_t5, ← List.take_append_drop 24 (((((words1.drop 24).drop 24).drop 24).drop 24).drop 24), List.all_append, w_t6, ← List.take_append_drop 24 ((((((words1.drop 24).drop 24).drop 24).drop 24).drop 24).drop 24), List.all_append, w_t7, ← List.take_append_drop 24 (((((((words1.drop 24).drop 24).drop 24).drop 24).drop 24).drop 24).drop 24), List.all_append, w_t8, ← List.take_append_drop 24 ((((((((words1.drop 24).drop 24).drop 24).drop 24).drop 24).drop 24).drop 24).drop 24), List.all_append, w_t9, ← List.take_append_drop 24 (((((((((words1.drop 24).drop 24).drop 24).drop 24).drop 24).drop 24).drop 24).drop 24).drop 24), List.all_append, w_t10, ← List.take_append_drop 24 ((((((((((words1.drop 24).drop 24).drop 24).drop 24).drop 24).drop 24).drop 24).drop 24).drop 24).drop 24), List.all_append, w_t11, ← List.take_append_drop 24 (((((((((((words1.drop 24).drop 24).drop 24).drop 24).drop 24).drop 24).drop 24).drop 24).drop 24).drop 24).drop 24), List.all_append, w_t12, ← List.take_append_drop 24 ((((((((((((words1.drop 24).drop 24).drop 24).drop 24).drop 24).drop 24).drop 24).drop 24).drop 24).drop 24).drop 24).drop 24), List.all_append, w_t13, ← List.take_append_drop 24 (((((((((((((words1.drop 24).drop 24).drop 24).drop 24).drop 24).drop 24).drop 24).drop 24).drop 24).drop 24).drop 24).drop 24).drop 24), List.all_append, w_t14, w_t15]
  rfl
set_option maxRecDepth 65536 in
theorem w_rest : rest_1_c.before args0 about1 = true := by decide +kernel
set_option maxRecDepth 65536 in
theorem w_case : (Jvm.Cond.and given_1 narrow_1).before args0 about1 = true := by decide +kernel
set_option maxRecDepth 65536 in
theorem w_consts : constsHeld consts_1 about1 := Jvm.Lit.constsHeldB_iff.mp (by decide +kernel)
theorem w_applies : (headSpec (Jvm.Cond.code x code maxLocals ret :: tables_1) room_1).applies x e0.platform about1 = true :=
  (Spec.applies_iff w_frames).mpr ⟨w_running, w_runnable, w_alone, w_named, w_hears, w_ripe, w_room, w_tables⟩
theorem atStart : AtStart classFile x code maxLocals ret World_1 tables_1 room_1 Calls_1 rest_1 Pre_1 launch0 p0 e0 about1 theMethod args0 below0 :=
  ⟨lists_1, trivial, launch0.admits_env _ _ _, launch0.least_env, fairChoices_fair.cas, fairChoices_fair.clock, w_frames, w_args, w_heap, w_applies, ⟨(by decide +kernel : framesKnown about1 = true), ⟨(by decide +kernel : tablesKnown about1 = true), ⟨w_consts, trivial⟩⟩⟩, w_rest, w_case⟩
end start1
theorem witness_1 : WitnessClaimed_1 := ⟨start1.p0, start1.e0, start1.about1, start1.theMethod, start1.args0, start1.below0, start1.atStart⟩
end Jvm.Pilot.@@N@@
