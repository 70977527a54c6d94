import JvmDerived
import JvmDerived.Pilot.@@N@@Statement
import JvmDerived.Pilot.@@N@@Code
set_option linter.unusedVariables false
set_option linter.unusedSimpArgs false
namespace Jvm.RoadKit
open Sem ClassFile Op Lib Jvm.Stand Jvm.Free Jvm.LawKit
section New
variable {p : Program} {l : Launch} {e : Env} {R : Room} {s : State} {m : MethodId} {args : Array Value} {below : List Frame} {meth : Method} {c : Code} {T : State} {locs : List Loc} {cells slots : Nat}
theorem retI (X : Stand p l e R s m args below meth c T locs cells slots) (hx : p.tables.exec = Jvm.exec) {pc : Nat} {Ls : Array Slot} {z : Int32} {rest : List Value} (hret : meth.sig.returnType = some .int) (hd : decode c.code pc = .ok (.ireturn, 1)) {fs : List Frame}
    (hl : ∀ (f : JFrame) (acts : List Action), f.method = m → f.locked = none → f.entered = [] → (doReturn e (T.setTop f) acts (some (.int z))).1 = T.setFrames fs) : Steps p.tables e below (T.setTop (mkF m pc Ls (.int z :: rest))) (T.setFrames fs) := by
  have hm' : T.vm.method? m = some meth := X.method'
  have hn : narrow .int (.int z) = .int z := rfl
  show Steps p.tables e below (T.setTop { method := m, pc := pc, locals := Ls, stack := _ :: rest, locked := none }) _
  jvm_step X.here [X.here.top, hx, hd, hm', hret, hn]
  first | (intro acts; rw [hl _ acts rfl rfl rfl]) | rw [hl _ _ rfl rfl rfl]
  exact Steps.refl _
end New
end Jvm.RoadKit
namespace Jvm.RoadKit
open Sem ClassFile Op Lib Bundle Jvm.Stand Jvm.Free Jvm.LawKit Jvm.Free.SB Jvm.Free.SBG
section Goes
variable {p : Program} {l : Launch} {e : Env} {R : Room} {s : State} {m : MethodId} {args : Array Value} {below : List Frame} {meth : Method} {c : Code} {T T' : State} {locs : List Loc} {cells slots k n : Nat} {F : Outcome → State → Prop} {Q : Option Value → Heap → List Loc → Prop}
/-- from T the run comes to an end of which F holds -/
def Go (p : Program) (e : Env) (below : List Frame) (T : State) (F : Outcome → State → Prop) : Prop := ∃ s₂ o, Steps p.tables e below T s₂ ∧ s₂.status = .running ∧ Ended s₂ below o ∧ F o s₂
theorem Go.st (k : ∀ t, Steps p.tables e below T' t → Steps p.tables e below T t) (G : Go p e below T' F) : Go p e below T F := by
  obtain ⟨s2, o, h, r⟩ := G
  exact ⟨s2, o, k _ h, r⟩
theorem Go.top {g g' : JFrame} (q : g = g') (G : Go p e below (T.setTop g') F) : Go p e below (T.setTop g) F := q ▸ G
/-- the end of a body that interns nothing -/
abbrev EndN (s : State) (Q : Option Value → Heap → List Loc → Prop) (cells slots : Nat) : Outcome → State → Prop := fun o U' => ∃ v L, o = .returned v ∧ Q v U'.heap L ∧ FrameEnd s o U' L cells slots
/-- the end of a body that may intern -/
abbrev EndW (s : State) (Q : Option Value → Heap → List Loc → Prop) (cells slots : Nat) : Outcome → State → Prop := fun o U' => ∃ v L, o = .returned v ∧ Q v U'.heap L ∧ ReturnedEndW s o U' L cells slots
theorem Go.done (X : Stand p l e R s m args below meth c T locs k n) (hlocks : meth.locks = false) {v : Option Value} (hv : meth.sig.returnType = none → v = none) {f : JFrame}
    (st : ∀ fs, (∀ (f : JFrame) (acts : List Action), f.method = m → f.locked = none → f.entered = [] → (doReturn e (T.setTop f) acts v).1 = T.setFrames fs) → Steps p.tables e below (T.setTop f) (T.setFrames fs))
    (hQ : Q v T.heap locs) (hk : k ≤ cells) (hn : n ≤ slots) : Go p e below (T.setTop f) (EndN s Q cells slots) := by
  obtain ⟨fs, hr, hrun, hended, hW, hsame⟩ := X.leave (v := v) hv hlocks
  exact ⟨_, _, st fs hr, hrun, hended, v, locs, rfl, hQ, ⟨_, rfl⟩, hW, hsame.mono hk hn⟩
theorem Go.doneW {vm₁ : Vm} (X : Stand p l e R (s.setVm vm₁) m args below meth c T locs k n) {N : Nat} (hS : s.Since vm₁ N) (hN : N ≤ T.heap.size) (hlocks : meth.locks = false) {v : Option Value} (hv : meth.sig.returnType = none → v = none) {f : JFrame}
    (st : ∀ fs, (∀ (f : JFrame) (acts : List Action), f.method = m → f.locked = none → f.entered = [] → (doReturn e (T.setTop f) acts v).1 = T.setFrames fs) → Steps p.tables e below (T.setTop f) (T.setFrames fs))
    (hQ : Q v T.heap locs) (hk : k ≤ cells) (hn : n ≤ slots) : Go p e below (T.setTop f) (EndW s Q cells slots) := by
  obtain ⟨fs, hr, hrun, hended, h1, h2, h3, h4⟩ := X.leaveW hS hN (v := v) hv hlocks
  exact ⟨_, _, st fs hr, hrun, hended, v, locs, rfl, hQ, h1, h2, h3, h4.mono hk hn⟩
/-- the end of a body that may intern, and that keeps what is booked of EL -/
abbrev EndH (Z : State) (EL : List (String × Nat)) (s : State) (Q : Option Value → Heap → List Loc → Prop) (cells slots : Nat) : Outcome → State → Prop := fun o U' => ∃ v L, o = .returned v ∧ Q v U'.heap L ∧ CHr Z EL s.vm s.heap U'.vm U'.heap ∧ ReturnedEndW s o U' L cells slots
theorem Go.doneH {Z : State} {a0 : Array Value} {EL : List (String × Nat)} {vm₁ : Vm} {h0 h : Heap} (X : Stand p l e R (s.setVm vm₁) m args below meth c T locs k n) {N : Nat} (hS : s.Since vm₁ N) (hN : N ≤ T.heap.size) (hlocks : meth.locks = false) {v : Option Value} (hv : meth.sig.returnType = none → v = none) {f : JFrame}
    (st : ∀ fs, (∀ (f : JFrame) (acts : List Action), f.method = m → f.locked = none → f.entered = [] → (doReturn e (T.setTop f) acts v).1 = T.setFrames fs) → Steps p.tables e below (T.setTop f) (T.setFrames fs))
    (hQ : Q v T.heap locs) (hk : k ≤ cells) (hn : n ≤ slots) (hZ : Z.Warmed39 vm₁) (hEL : EW Z a0 EL) (hh : s.heap = h0) (eT : T.heap = h) (hC : CHr Z EL s.vm h0 vm₁ h) : Go p e below (T.setTop f) (EndH Z EL s Q cells slots) := by
  subst hh eT
  obtain ⟨fs, hr, hrun, hended, h1, h2, h3, h4⟩ := X.leaveW hS hN (v := v) hv hlocks
  exact ⟨_, _, st fs hr, hrun, hended, v, locs, rfl, hQ, show CHr Z EL s.vm s.heap T.vm T.heap from hC.trans (CHv.at X hZ hEL hC.1), h1, h2, h3, h4.mono hk hn⟩
/-- a String whose value is still null is none that is booked -/
theorem own_safe {Z : State} {EL : List (String × Nat)} {vm : Vm} {h : Heap} {x : Addr} (hal : Z.vm.Alike vm) (E : Exa Z h x "java/lang/String") (F : Fld Z h x "java/lang/String" "value" "[B" .null) : Safe Z EL vm h x := fun B => by
  obtain ⟨p, -, u, a, -, q, -, S, hy⟩ := B
  obtain ⟨cell, cf, k, i, f, f1, f2, -, -, -, -, f7⟩ := F
  obtain ⟨cS, ⟨⟨s1, -, -, ⟨cv, kv, iv, s4, -⟩, -, s6, -, s8, -, s10, -⟩, -, -⟩, -, hB, -⟩ := S
  rcases hy with rfl | rfl
  · cases (show h[q.sa]? = some q.sC from s1).symm.trans f1
    obtain ⟨kv', z4⟩ := ff_back (U := Wst Z vm h) hal s4
    cases f2.symm.trans z4
    rw [s8] at f7
    cases f7
  · obtain ⟨cell', k', e1, e2, e3, -⟩ := E
    cases (show h[q.sd]? = some q.SA from s10).symm.trans e1
    have hB' : Z.vm.findClass "[B" = some q.SA.cls := by rw [← hal.findClass]; exact hB
    exact ids_ne hB' e2 (by decide) rfl
theorem retJ (X : Stand p l e R s m args below meth c T locs cells slots) (hx : p.tables.exec = Jvm.exec) {pc : Nat} {Ls : Array Slot} {z : Int64} {rest : List Value} (hret : meth.sig.returnType = some .long) (hd : decode c.code pc = .ok (.lreturn, 1)) {fs : List Frame}
    (hl : ∀ (f : JFrame) (acts : List Action), f.method = m → f.locked = none → f.entered = [] → (doReturn e (T.setTop f) acts (some (.long z))).1 = T.setFrames fs) : Steps p.tables e below (T.setTop (mkF m pc Ls (.long z :: rest))) (T.setFrames fs) :=
  retOut X hx hret rfl (Or.inr (Or.inl ⟨rfl, rfl, z, rfl⟩)) hd hl
theorem retA (X : Stand p l e R s m args below meth c T locs cells slots) (hx : p.tables.exec = Jvm.exec) {pc : Nat} {Ls : Array Slot} {w : Value} {t : FieldType} {rest : List Value} (hret : meth.sig.returnType = some t) (hn : narrow t w = w) (ht : t.isReference = true) (hw : w.isRef = true) (hd : decode c.code pc = .ok (.areturn, 1)) {fs : List Frame}
    (hl : ∀ (f : JFrame) (acts : List Action), f.method = m → f.locked = none → f.entered = [] → (doReturn e (T.setTop f) acts (some w)).1 = T.setFrames fs) : Steps p.tables e below (T.setTop (mkF m pc Ls (w :: rest))) (T.setFrames fs) :=
  retOut X hx hret hn (Or.inr (Or.inr (Or.inr (Or.inr ⟨rfl, ht, hw⟩)))) hd hl
end Goes
end Jvm.RoadKit
/- laws to paste: Road.backV, Road.chN, Road.codOf (cut by pick.py; bodies as the Statement names them) -/
namespace Jvm.Pilot.@@N@@
namespace StrChars
open Jvm Sem ClassFile Op Lib Jvm.Stand Jvm.Free.XT Jvm.Free.ALB Jvm.Free.JM Jvm.Free
open Jvm.Lib.Cold (StaticIs)
/-- a char array whose places are chars -/
def Ch (a : Addr) (A : Cell) (U : State) : Prop := Arr .char a A U ∧ Typed .char A
theorem Ch.mv {a : Addr} {A : Cell} {U U' : State} (h : Ch a A U) (hal : U.vm.Alike U'.vm) (hh : U'.heap = U.heap) : Ch a A U' := ⟨h.1.mv hal hh, h.2⟩
theorem Ch.keep {a : Addr} {A : Cell} {U U' : State} (h : Ch a A U) (hal : U.vm.Alike U'.vm) (hk : U'.heap[a]? = some A) : Ch a A U' := ⟨h.1.keep hal hk, h.2⟩
/-- what place i of a char[]'s cell holds -/
def cv (A : Cell) (i : Nat) : Int32 := match A.slots[i]? with | some (.int x) => x | _ => 0
theorem Ch.get {a : Addr} {A : Cell} {U : State} (h : Ch a A U) {i : Nat} (hi : i < A.slots.size) : A.slots[i]? = some (.int (cv A i)) := by
  have e := Array.getElem?_eq_getElem hi
  have f := h.2 i _ e
  unfold cv; rw [e]
  generalize A.slots[i] = v at f
  cases v <;> simp [fits] at f ⊢
/-- the byte that i2b leaves of a char -/
def lo8 (x : Int32) : Int32 := x.toInt8.toInt32
theorem fits_lo8 (y : Int32) : fits .byte (.int (lo8 y)) = true := by
  have h1 := y.toInt8.le_toInt
  have h2 := y.toInt8.toInt_lt
  simp only [lo8, fits, Bool.and_eq_true, decide_eq_true_eq, Int32.le_iff_toInt_le, Int8.toInt_toInt32, show (-128 : Int32).toInt = -128 from by decide, show (127 : Int32).toInt = 127 from by decide]
  omega
/-- A' is A but that each place j of lo .. hi - 1 holds f j -/
def Laid (A A' : Cell) (lo hi : Nat) (f : Nat → Value) : Prop := A'.cls = A.cls ∧ A'.vm = A.vm ∧ A'.slots.size = A.slots.size ∧ ∀ i, A'.slots[i]? = if lo ≤ i ∧ i < hi then some (f i) else A.slots[i]?
theorem Laid.zero (A : Cell) (lo : Nat) (f : Nat → Value) : Laid A A lo (lo + 0) f := ⟨rfl, rfl, rfl, fun i => by rw [if_neg (by omega)]⟩
theorem Laid.step {A Ak : Cell} {lo k : Nat} {f : Nat → Value} {v : Value} (h : Laid A Ak lo k f) (hlo : lo ≤ k) (hk : k < Ak.slots.size) (hv : v = f k) : Laid A (Ak.setSlot k v) lo (k + 1) f := by
  refine ⟨h.1, h.2.1, by simpa [Cell.setSlot] using h.2.2.1, fun i => ?_⟩
  by_cases e : k = i
  · subst e; rw [Cell.slots_setSlot_self v hk, if_pos (by omega), hv]
  · rw [Cell.slots_setSlot_ne v e, h.2.2.2 i]
    by_cases q : lo ≤ i ∧ i < k
    · rw [if_pos q, if_pos (by omega)]
    · rw [if_neg q, if_neg (by omega)]
def U16 : String := "java/lang/StringUTF16"
namespace Cmp5
def yN : MethodName := ⟨"java/lang/StringUTF16", "compress", "([CI[BII)I"⟩
abbrev yB : ByteArray := jdk_52_method_21_code
theorem d0 : decode yB 0 = .ok (.iconst 0, 1) := by decide +kernel
theorem d1 : decode yB 1 = .ok (.istore 5, 2) := by decide +kernel
theorem d3 : decode yB 3 = .ok (.iload 5, 2) := by decide +kernel
theorem d5 : decode yB 5 = .ok (.iload 4, 2) := by decide +kernel
theorem d7 : decode yB 7 = .ok (.if_icmp (.ge) 37, 3) := by decide +kernel
theorem d10 : decode yB 10 = .ok (.aload_n 0, 1) := by decide +kernel
theorem d11 : decode yB 11 = .ok (.iload_n 1, 1) := by decide +kernel
theorem d12 : decode yB 12 = .ok (.caload, 1) := by decide +kernel
theorem d13 : decode yB 13 = .ok (.istore 6, 2) := by decide +kernel
theorem d15 : decode yB 15 = .ok (.iload 6, 2) := by decide +kernel
theorem d17 : decode yB 17 = .ok (.sipush 255, 3) := by decide +kernel
theorem d20 : decode yB 20 = .ok (.if_icmp (.le) 6, 3) := by decide +kernel
theorem d26 : decode yB 26 = .ok (.aload_n 2, 1) := by decide +kernel
theorem d27 : decode yB 27 = .ok (.iload_n 3, 1) := by decide +kernel
theorem d28 : decode yB 28 = .ok (.iload 6, 2) := by decide +kernel
theorem d30 : decode yB 30 = .ok (.i2b, 1) := by decide +kernel
theorem d31 : decode yB 31 = .ok (.bastore, 1) := by decide +kernel
theorem d32 : decode yB 32 = .ok (.iinc 1 1, 3) := by decide +kernel
theorem d35 : decode yB 35 = .ok (.iinc 3 1, 3) := by decide +kernel
theorem d38 : decode yB 38 = .ok (.iinc 5 1, 3) := by decide +kernel
theorem d41 : decode yB 41 = .ok (.goto (-38), 3) := by decide +kernel
theorem d44 : decode yB 44 = .ok (.iload 4, 2) := by decide +kernel
theorem d46 : decode yB 46 = .ok (.ireturn, 1) := by decide +kernel
def site : List Cond := []
def tab : Cond := tabOf yN yB 7 (some .int) site
def P (b : Addr) (A : Cell) (d : Addr) (B : Cell) (o q len : Nat) (args : Array Value) (s : State) : Prop := args = #[.ref b, .int (Int32.ofNat o), .ref d, .int (Int32.ofNat q), .int (Int32.ofNat len)] ∧ Ch b A s ∧ Arr .byte d B s ∧ b ≠ d ∧ o + len ≤ A.slots.size ∧ q + len ≤ B.slots.size ∧ ∀ i, i < len → ¬ 255 < cv A (o + i)
def E (b : Addr) (A : Cell) (d : Addr) (B : Cell) (o q len : Nat) (r : Option Value) (s u : State) : Prop := r = some (.int (Int32.ofNat len)) ∧ ∃ B', Put d B' s u ∧ Laid B B' q (q + len) (fun j => Value.int (lo8 (cv A (o + (j - q)))))
/-- no char of the range above 255: len; the places written hold each char's low byte -/
theorem law (l : Launch) (b : Addr) (A : Cell) (d : Addr) (B : Cell) (o q len : Nat) : Law l yN 5 5 0 0 yB 7 (some .int) site (P b A d B o q len) (E b A d B o q len) (copyLocs d q len) 0 0 := by
  refine Law.of_walk (plainFor_of_name (by decide +kernel)) (by decide +kernel) (by decide +kernel) (by decide) (fun _ _ h => by rw [h.1]; rfl) (fun _ U U' hal hh h => ⟨h.1, h.2.1.mv hal hh, h.2.2.1.mv hal hh, h.2.2.2⟩) (fun r U U' V V' h1 hal h2 h => ⟨h.1, h.2.elim fun B' q => ⟨B', q.1.mv h1 h2, q.2⟩⟩) ?_
  intro p e s m args below meth c s₁ X0 hexec hbytes hml hret hlk hnm hown hh0 W hP
  obtain ⟨rfl, hA, hB, hne, l1, l2, hp⟩ := hP
  have c1 : Steps p.tables e below (s₁.setTop (entryFrame m #[.ref b, .int (Int32.ofNat o), .ref d, .int (Int32.ofNat q), .int (Int32.ofNat len)] 7)) (s₁.setTop (mkF m 0 #[.val (.ref b), .val (.int (Int32.ofNat o)), .val (.ref d), .val (.int (Int32.ofNat q)), .val (.int (Int32.ofNat len)), .unset, .unset] [])) := entry rfl
  have hA0 := hA.1.mv X0.warmed.alike hh0
  have hB0 := hB.mv X0.warmed.alike hh0
  have a31 := hA.1.2.2.2
  have c2 : Steps p.tables e below (s₁.setTop (entryFrame m #[.ref b, .int (Int32.ofNat o), .ref d, .int (Int32.ofNat q), .int (Int32.ofNat len)] 7)) (s₁.setTop (mkF m 3 #[.val (.ref b), .val (.int (Int32.ofNat o)), .val (.ref d), .val (.int (Int32.ofNat q)), .val (.int (Int32.ofNat len)), .val (.int 0), .unset] [])) := c1.trans (by
    refine iconstV X0.here hexec rfl 0 (hb hbytes d0) (by decide) ?_
    refine XS.istore X0.here hexec rfl (hb hbytes d1) rfl rfl ?_
    exact Steps.refl _)
  have loop : ∀ (r i : Nat), i + r = len → ∀ (z : Slot), (z = .unset ∨ ∃ w, z = .val w ∧ w.category = 1) → ∀ (Tl : State) (Bk : Cell), Stand p l e { frames := 0, locals := 0, cells := 0, slots := 0 } s m #[.ref b, .int (Int32.ofNat o), .ref d, .int (Int32.ofNat q), .int (Int32.ofNat len)] below meth c Tl ([] ++ copyLocs d q i) 0 0 → Put d Bk s₁ Tl → Laid B Bk q (q + i) (fun j => Value.int (lo8 (cv A (o + (j - q))))) →
      Steps p.tables e below (s₁.setTop (entryFrame m #[.ref b, .int (Int32.ofNat o), .ref d, .int (Int32.ofNat q), .int (Int32.ofNat len)] 7)) (Tl.setTop (mkF m 3 #[.val (.ref b), .val (.int (Int32.ofNat (o + i))), .val (.ref d), .val (.int (Int32.ofNat (q + i))), .val (.int (Int32.ofNat len)), .val (.int (Int32.ofNat i)), z] [])) → ∃ (T' : State) (B' : Cell) (z' : Slot), Stand p l e { frames := 0, locals := 0, cells := 0, slots := 0 } s m #[.ref b, .int (Int32.ofNat o), .ref d, .int (Int32.ofNat q), .int (Int32.ofNat len)] below meth c T' ([] ++ copyLocs d q len) 0 0 ∧ Put d B' s₁ T' ∧ Laid B B' q (q + len) (fun j => Value.int (lo8 (cv A (o + (j - q))))) ∧
      Steps p.tables e below (s₁.setTop (entryFrame m #[.ref b, .int (Int32.ofNat o), .ref d, .int (Int32.ofNat q), .int (Int32.ofNat len)] 7)) (T'.setTop (mkF m 3 #[.val (.ref b), .val (.int (Int32.ofNat (o + len))), .val (.ref d), .val (.int (Int32.ofNat (q + len))), .val (.int (Int32.ofNat len)), .val (.int (Int32.ofNat len)), z'] [])) := by
    intro r
    induction r with
    | zero =>
      intro i hi z hz Tl Bk Xl pl fl cl
      have hil : i = len := by omega
      rw [hil] at Xl fl cl
      exact ⟨Tl, Bk, z, Xl, pl, fl, cl⟩
    | succ r ih =>
      intro i hi z hz Tl Bk Xl pl fl cl
      have all := X0.warmed.alike.symm.trans Xl.warmed.alike
      have hAl := hA0.keep all (pl.other hne hA0.1)
      have hBk := hB0.like all pl.1 fl.1 fl.2.1 fl.2.2.1
      have hlt : q + i < Bk.slots.size := by rw [fl.2.2.1]; omega
      have c3 : Steps p.tables e below (s₁.setTop (entryFrame m #[.ref b, .int (Int32.ofNat o), .ref d, .int (Int32.ofNat q), .int (Int32.ofNat len)] 7)) (Tl.setTop (mkF m 12 #[.val (.ref b), .val (.int (Int32.ofNat (o + i))), .val (.ref d), .val (.int (Int32.ofNat (q + i))), .val (.int (Int32.ofNat len)), .val (.int (Int32.ofNat i)), z] [.int (Int32.ofNat (o + i)), .ref b])) := cl.trans (by
        refine XS.iload Xl.here hexec rfl (hb hbytes d3) rfl ?_
        refine XS.iload Xl.here hexec rfl (hb hbytes d5) rfl ?_
        refine XS.icmpNo Xl.here hexec rfl (hb hbytes d7) rfl (ii_ge_f (lt32 (by omega) (by omega))) ?_
        refine XS.aloadN Xl.here hexec rfl (hb hbytes d10) rfl rfl ?_
        refine XS.iloadN Xl.here hexec rfl (hb hbytes d11) rfl ?_
        exact Steps.refl _)
      have c4 : Steps p.tables e below (s₁.setTop (entryFrame m #[.ref b, .int (Int32.ofNat o), .ref d, .int (Int32.ofNat q), .int (Int32.ofNat len)] 7)) (Tl.setTop (mkF m 13 #[.val (.ref b), .val (.int (Int32.ofNat (o + i))), .val (.ref d), .val (.int (Int32.ofNat (q + i))), .val (.int (Int32.ofNat len)), .val (.int (Int32.ofNat i)), z] [.int (cv A (o + i))])) := c3.trans (by
        refine Xl.aget hexec hAl rfl (hA.get (i := o + i) (by omega)) rfl rfl (hb hbytes d12) ?_
        exact Steps.refl _)
      have c5 : Steps p.tables e below (s₁.setTop (entryFrame m #[.ref b, .int (Int32.ofNat o), .ref d, .int (Int32.ofNat q), .int (Int32.ofNat len)] 7)) (Tl.setTop (mkF m 15 #[.val (.ref b), .val (.int (Int32.ofNat (o + i))), .val (.ref d), .val (.int (Int32.ofNat (q + i))), .val (.int (Int32.ofNat len)), .val (.int (Int32.ofNat i)), .val (.int (cv A (o + i)))] [])) := c4.trans (by
        refine XS.istoreS Xl.here hexec rfl (hb hbytes d13) rfl rfl hz ?_
        exact Steps.refl _)
      have c6 : Steps p.tables e below (s₁.setTop (entryFrame m #[.ref b, .int (Int32.ofNat o), .ref d, .int (Int32.ofNat q), .int (Int32.ofNat len)] 7)) (Tl.setTop (mkF m 31 #[.val (.ref b), .val (.int (Int32.ofNat (o + i))), .val (.ref d), .val (.int (Int32.ofNat (q + i))), .val (.int (Int32.ofNat len)), .val (.int (Int32.ofNat i)), .val (.int (cv A (o + i)))] [.int (lo8 (cv A (o + i))), .int (Int32.ofNat (q + i)), .ref d])) := c5.trans (by
        refine XS.iload Xl.here hexec rfl (hb hbytes d15) rfl ?_
        refine sipushV Xl.here hexec rfl 255 (hb hbytes d17) (by decide) ?_
        refine XS.icmpYes Xl.here hexec rfl (pc0 := 20) rfl (hb hbytes d20) rfl (ii_le_t (hp i (by omega))) (by decide) rfl ?_
        refine XS.aloadN Xl.here hexec rfl (hb hbytes d26) rfl rfl ?_
        refine XS.iloadN Xl.here hexec rfl (hb hbytes d27) rfl ?_
        refine XS.iload Xl.here hexec rfl (hb hbytes d28) rfl ?_
        refine i2b Xl.here hexec rfl (hb hbytes d30) rfl ?_
        exact Steps.refl _)
      obtain ⟨T7, X7, p7, st7⟩ := Xl.aput hexec hBk rfl hlt rfl (fits_lo8 (cv A (o + i))) (g := (mkF m 31 #[.val (.ref b), .val (.int (Int32.ofNat (o + i))), .val (.ref d), .val (.int (Int32.ofNat (q + i))), .val (.int (Int32.ofNat len)), .val (.int (Int32.ofNat i)), .val (.int (cv A (o + i)))] [.int (lo8 (cv A (o + i))), .int (Int32.ofNat (q + i)), .ref d])) rfl (rest := []) rfl (hb hbytes d31)
      have c8 : Steps p.tables e below (s₁.setTop (entryFrame m #[.ref b, .int (Int32.ofNat o), .ref d, .int (Int32.ofNat q), .int (Int32.ofNat len)] 7)) (T7.setTop (mkF m 32 #[.val (.ref b), .val (.int (Int32.ofNat (o + i))), .val (.ref d), .val (.int (Int32.ofNat (q + i))), .val (.int (Int32.ofNat len)), .val (.int (Int32.ofNat i)), .val (.int (cv A (o + i)))] [])) := c6.trans (st7 _ (Steps.refl _))
      have c9 : Steps p.tables e below (s₁.setTop (entryFrame m #[.ref b, .int (Int32.ofNat o), .ref d, .int (Int32.ofNat q), .int (Int32.ofNat len)] 7)) (T7.setTop (mkF m 3 #[.val (.ref b), .val (.int (Int32.ofNat (o + i) + 1)), .val (.ref d), .val (.int (Int32.ofNat (q + i) + 1)), .val (.int (Int32.ofNat len)), .val (.int (Int32.ofNat i + 1)), .val (.int (cv A (o + i)))] [])) := c8.trans (by
        refine iincV X7.here hexec rfl 1 (hb hbytes d32) (by decide) rfl rfl ?_
        refine iincV X7.here hexec rfl 1 (hb hbytes d35) (by decide) rfl rfl ?_
        refine iincV X7.here hexec rfl 1 (hb hbytes d38) (by decide) rfl rfl ?_
        refine XS.goto X7.here hexec rfl (pc0 := 41) rfl (hb hbytes d41) (by decide) rfl ?_
        exact Steps.refl _)
      have c10 : Steps p.tables e below (s₁.setTop (entryFrame m #[.ref b, .int (Int32.ofNat o), .ref d, .int (Int32.ofNat q), .int (Int32.ofNat len)] 7)) (T7.setTop (mkF m 3 #[.val (.ref b), .val (.int (Int32.ofNat (o + (i + 1)))), .val (.ref d), .val (.int (Int32.ofNat (q + (i + 1)))), .val (.int (Int32.ofNat len)), .val (.int (Int32.ofNat (i + 1))), .val (.int (cv A (o + i)))] [])) := by
        have := c9
        rw [succ32, succ32, succ32] at this
        exact this
      exact ih (i + 1) (by omega) _ (Or.inr ⟨_, rfl, rfl⟩) T7 _ (by rw [copyLocs_step, ← List.append_assoc]; exact X7) (pl.trans p7) (fl.step (by omega) hlt (by simp)) c10
  obtain ⟨T9, B9, z9, X9, p9, f9, g9⟩ := loop len 0 (by omega) .unset (Or.inl rfl) s₁ B (by simpa [copyLocs] using X0) ⟨hB0.1, fun _ _ => rfl, rfl⟩ (Laid.zero _ _ _) c2
  have c11 : Steps p.tables e below (s₁.setTop (entryFrame m #[.ref b, .int (Int32.ofNat o), .ref d, .int (Int32.ofNat q), .int (Int32.ofNat len)] 7)) (T9.setTop (mkF m 46 #[.val (.ref b), .val (.int (Int32.ofNat (o + len))), .val (.ref d), .val (.int (Int32.ofNat (q + len))), .val (.int (Int32.ofNat len)), .val (.int (Int32.ofNat len)), z9] [.int (Int32.ofNat len)])) := g9.trans (by
    refine XS.iload X9.here hexec rfl (hb hbytes d3) rfl ?_
    refine XS.iload X9.here hexec rfl (hb hbytes d5) rfl ?_
    refine XS.icmpYes X9.here hexec rfl (pc0 := 7) rfl (hb hbytes d7) rfl (ii_ge_t (nlt32 (by omega) (Nat.le_refl _))) (by decide) rfl ?_
    refine XS.iload X9.here hexec rfl (hb hbytes d44) rfl ?_
    exact Steps.refl _)
  exact ⟨T9, some (.int (Int32.ofNat len)), _, _, _, X9, by simp, rfl, rfl, (fun h => by cases h), ⟨rfl, B9, p9.from hh0, f9⟩, fun fs hl => c11.trans (X9.ireturnOut hexec hret rfl (Or.inl rfl) (hb hbytes d46) hl)⟩
end Cmp5
namespace Cmp3
def yN : MethodName := ⟨"java/lang/StringUTF16", "compress", "([CII)[B"⟩
abbrev yB : ByteArray := jdk_52_method_16_code
theorem d0 : decode yB 0 = .ok (.iload_n 2, 1) := by decide +kernel
theorem d1 : decode yB 1 = .ok (.newarray .byte, 2) := by decide +kernel
theorem d3 : decode yB 3 = .ok (.astore_n 3, 1) := by decide +kernel
theorem d4 : decode yB 4 = .ok (.aload_n 0, 1) := by decide +kernel
theorem d5 : decode yB 5 = .ok (.iload_n 1, 1) := by decide +kernel
theorem d6 : decode yB 6 = .ok (.aload_n 3, 1) := by decide +kernel
theorem d7 : decode yB 7 = .ok (.iconst 0, 1) := by decide +kernel
theorem d8 : decode yB 8 = .ok (.iload_n 2, 1) := by decide +kernel
theorem d9 : decode yB 9 = .ok (.invokestatic 115, 3) := by decide +kernel
theorem d12 : decode yB 12 = .ok (.istore 4, 2) := by decide +kernel
theorem d14 : decode yB 14 = .ok (.iload 4, 2) := by decide +kernel
theorem d16 : decode yB 16 = .ok (.iload_n 2, 1) := by decide +kernel
theorem d17 : decode yB 17 = .ok (.if_icmp (.eq) 40, 3) := by decide +kernel
theorem d57 : decode yB 57 = .ok (.aload_n 3, 1) := by decide +kernel
theorem d58 : decode yB 58 = .ok (.areturn, 1) := by decide +kernel
def site : List Cond := [.arrayClass .byte, Cmp5.tab] ++ staticW U16 115 Cmp5.yN
def tab : Cond := tabOf yN yB 6 (some (.array .byte)) site
def P (b : Addr) (A : Cell) (o len : Nat) (args : Array Value) (s : State) : Prop := args = #[.ref b, .int (Int32.ofNat o), .int (Int32.ofNat len)] ∧ Ch b A s ∧ o + len ≤ A.slots.size ∧ len ≤ 536870912 ∧ ∀ i, i < len → ¬ 255 < cv A (o + i)
def E (b : Addr) (A : Cell) (o len : Nat) (r : Option Value) (s u : State) : Prop := NewArr .byte "[B" len (fun j => .int (lo8 (cv A (o + j)))) r s u ∧ u.heap.size = s.heap.size + 1
/-- no char of the range above 255: a new byte[] of their low bytes -/
theorem law (l : Launch) (b : Addr) (A : Cell) (o len : Nat) : Law l yN 3 3 1 18 yB 6 (some (.array .byte)) site (P b A o len) (E b A o len) [] 1 len := by
  refine Law.of_walk (plainFor_of_name (by decide +kernel)) (by decide +kernel) (by decide +kernel) (by decide) (fun _ _ h => by rw [h.1]; rfl) (fun _ U U' hal hh h => ⟨h.1, h.2.1.mv hal hh, h.2.2⟩) (fun r U U' V V' h1 hal h2 h => ⟨NewArr.mv r U U' V V' h1 hal h2 h.1, by rw [h1, h2]; exact h.2⟩) ?_
  intro p e s m args below meth c s₁ X0 hexec hbytes hml hret hlk hnm hown hh0 W hP
  obtain ⟨rfl, hA, l1, l2, hp⟩ := hP
  have a31 := hA.1.2.2.2
  have c1 : Steps p.tables e below (s₁.setTop (entryFrame m #[.ref b, .int (Int32.ofNat o), .int (Int32.ofNat len)] 6)) (s₁.setTop (mkF m 0 #[.val (.ref b), .val (.int (Int32.ofNat o)), .val (.int (Int32.ofNat len)), .unset, .unset, .unset] [])) := entry rfl
  have c2 : Steps p.tables e below (s₁.setTop (entryFrame m #[.ref b, .int (Int32.ofNat o), .int (Int32.ofNat len)] 6)) (s₁.setTop (mkF m 1 #[.val (.ref b), .val (.int (Int32.ofNat o)), .val (.int (Int32.ofNat len)), .unset, .unset, .unset] [.int (Int32.ofNat len)])) := c1.trans (by
    refine XS.iloadN X0.here hexec rfl (hb hbytes d0) rfl ?_
    exact Steps.refl _)
  obtain ⟨T3, B3, X3, ba3, bs3, bv3, bh3, bf3, st3⟩ := X0.anew hexec (atype := .byte) (wk W (.arrayClass .byte)) rfl (by show len * 1 ≤ _; omega) (by omega) (g := (mkF m 1 #[.val (.ref b), .val (.int (Int32.ofNat o)), .val (.int (Int32.ofNat len)), .unset, .unset, .unset] [.int (Int32.ofNat len)])) rfl (hb hbytes d1) (rest := []) rfl (Nat.le_refl _) (by show 0 + len ≤ len; omega)
  rw [hh0] at ba3 st3
  have kp3 : XT.Kept s T3 := (XT.Kept.of_eq hh0).push bh3
  have hA3 := hA.keep X3.warmed.alike (kp3 _ _ hA.1.1)
  have hne : b ≠ s.heap.size := hA.1.ne
  have c4 : Steps p.tables e below (s₁.setTop (entryFrame m #[.ref b, .int (Int32.ofNat o), .int (Int32.ofNat len)] 6)) (T3.setTop (mkF m 3 #[.val (.ref b), .val (.int (Int32.ofNat o)), .val (.int (Int32.ofNat len)), .unset, .unset, .unset] [.ref s.heap.size])) := c2.trans (st3 _ (Steps.refl _))
  have c5 : Steps p.tables e below (s₁.setTop (entryFrame m #[.ref b, .int (Int32.ofNat o), .int (Int32.ofNat len)] 6)) (T3.setTop (mkF m 9 #[.val (.ref b), .val (.int (Int32.ofNat o)), .val (.int (Int32.ofNat len)), .val (.ref s.heap.size), .unset, .unset] [.int (Int32.ofNat len), .int 0, .ref s.heap.size, .int (Int32.ofNat o), .ref b])) := c4.trans (by
    refine XS.astoreN X3.here hexec rfl (hb hbytes d3) rfl rfl rfl ?_
    refine XS.aloadN X3.here hexec rfl (hb hbytes d4) rfl rfl ?_
    refine XS.iloadN X3.here hexec rfl (hb hbytes d5) rfl ?_
    refine XS.aloadN X3.here hexec rfl (hb hbytes d6) rfl rfl ?_
    refine iconstV X3.here hexec rfl 0 (hb hbytes d7) (by decide) ?_
    refine XS.iloadN X3.here hexec rfl (hb hbytes d8) rfl ?_
    exact Steps.refl _)
  obtain ⟨v6, T6, X6, E6, g6⟩ := X3.callS hexec (Cmp5.law l b A s.heap.size B3 o 0 len) hown (wks W (staticW U16 115 Cmp5.yN)) (wk W Cmp5.tab) (W := 0) (Nat.le_of_ble_eq_true rfl) (Nat.le_of_ble_eq_true rfl) (Nat.le_refl _) (by show 0 + len + 0 ≤ len; omega) (g := (mkF m 9 #[.val (.ref b), .val (.int (Int32.ofNat o)), .val (.int (Int32.ofNat len)), .val (.ref s.heap.size), .unset, .unset] [.int (Int32.ofNat len), .int (Int32.ofNat 0), .ref s.heap.size, .int (Int32.ofNat o), .ref b])) rfl (by rw [hml]; rfl) c5 (argsL := [.ref b, .int (Int32.ofNat o), .ref s.heap.size, .int (Int32.ofNat 0), .int (Int32.ofNat len)]) (rest := []) rfl rfl (by show 2 * 0 + 0 ≤ _; decide) (hb hbytes d9) (⟨rfl, hA3, ba3, hne, l1, by rw [bs3]; simp, hp⟩)
  obtain ⟨rfl, B6, p6, f6⟩ := E6
  have c7 : Steps p.tables e below (s₁.setTop (entryFrame m #[.ref b, .int (Int32.ofNat o), .int (Int32.ofNat len)] 6)) (T6.setTop (mkF m 12 #[.val (.ref b), .val (.int (Int32.ofNat o)), .val (.int (Int32.ofNat len)), .val (.ref s.heap.size), .unset, .unset] [.int (Int32.ofNat len)])) := g6
  have c8 : Steps p.tables e below (s₁.setTop (entryFrame m #[.ref b, .int (Int32.ofNat o), .int (Int32.ofNat len)] 6)) (T6.setTop (mkF m 58 #[.val (.ref b), .val (.int (Int32.ofNat o)), .val (.int (Int32.ofNat len)), .val (.ref s.heap.size), .val (.int (Int32.ofNat len)), .unset] [.ref s.heap.size])) := c7.trans (by
    refine XS.istore X6.here hexec rfl (hb hbytes d12) rfl rfl ?_
    refine XS.iload X6.here hexec rfl (hb hbytes d14) rfl ?_
    refine XS.iloadN X6.here hexec rfl (hb hbytes d16) rfl ?_
    refine XS.icmpYes X6.here hexec rfl (pc0 := 17) rfl (hb hbytes d17) rfl (ii_eq_t rfl) (by decide) rfl ?_
    refine XS.aloadN X6.here hexec rfl (hb hbytes d57) rfl rfl ?_
    exact Steps.refl _)
  have X8 := X6.wide (L' := []) (cells' := 1) (slots' := len) (fun x hx hlt => by
    simp only [List.nil_append, copyLocs, List.mem_map, List.mem_range] at hx
    obtain ⟨i, -, rfl⟩ := hx
    exact absurd hlt (Nat.lt_irrefl _)) (Nat.le_refl _) (by omega)
  exact ⟨T6, some (.ref s.heap.size), _, _, _, X8, rfl, rfl, rfl, (fun h => by cases h), ⟨⟨rfl, B6, ba3.like (X3.warmed.alike.symm.trans X6.warmed.alike) p6.1 f6.1 f6.2.1 f6.2.2.1, f6.2.1.trans bv3, by rw [X6.warmed.alike.findClass, f6.1]; exact bf3, by rw [f6.2.2.1, bs3]; simp, fun j hj => by rw [f6.2.2.2 j, if_pos (by omega)]; rfl, kp3.put p6 (Nat.le_refl _)⟩, by rw [p6.2.2, bh3, hh0]; simp⟩, fun fs hl => c8.trans (X8.areturnOut hexec rfl hret rfl (hb hbytes d58) hl)⟩
end Cmp3
namespace CodL
def yN : MethodName := ⟨"java/lang/StringUTF16", "coderFromArrayLen", "([BI)B"⟩
abbrev yB : ByteArray := jdk_52_method_15_code
theorem d0 : decode yB 0 = .ok (.iload_n 1, 1) := by decide +kernel
theorem d1 : decode yB 1 = .ok (.aload_n 0, 1) := by decide +kernel
theorem d2 : decode yB 2 = .ok (.arraylength, 1) := by decide +kernel
theorem d3 : decode yB 3 = .ok (.isub, 1) := by decide +kernel
theorem d4 : decode yB 4 = .ok (.bipush 31, 2) := by decide +kernel
theorem d6 : decode yB 6 = .ok (.iushr, 1) := by decide +kernel
theorem d7 : decode yB 7 = .ok (.i2b, 1) := by decide +kernel
theorem d8 : decode yB 8 = .ok (.ireturn, 1) := by decide +kernel
def site : List Cond := []
def tab : Cond := tabOf yN yB 2 (some .byte) site
def P (d : Addr) (B : Cell) (args : Array Value) (s : State) : Prop := args = #[.ref d, .int (Int32.ofNat B.slots.size)] ∧ Arr .byte d B s
def E (r : Option Value) (s u : State) : Prop := XT.PureE (some (.int 0)) r s u
/-- an array as long as the number of chars: LATIN1 -/
theorem law (l : Launch) (d : Addr) (B : Cell) : Law l yN 2 2 0 0 yB 2 (some .byte) site (P d B) E [] 0 0 := by
  refine Law.of_walk (plainFor_of_name (by decide +kernel)) (by decide +kernel) (by decide +kernel) (by decide) (fun _ _ h => by rw [h.1]; rfl) (fun _ U U' hal hh h => ⟨h.1, h.2.mv hal hh⟩) (fun r U U' V V' h1 hal h2 h => XT.PureE.mv r U U' V V' h1 hal h2 h) ?_
  intro p e s m args below meth c s₁ X0 hexec hbytes hml hret hlk hnm hown hh0 W hP
  obtain ⟨rfl, hB⟩ := hP
  have hB0 := hB.mv X0.warmed.alike hh0
  have c1 : Steps p.tables e below (s₁.setTop (entryFrame m #[.ref d, .int (Int32.ofNat B.slots.size)] 2)) (s₁.setTop (mkF m 0 #[.val (.ref d), .val (.int (Int32.ofNat B.slots.size))] [])) := entry rfl
  have c2 : Steps p.tables e below (s₁.setTop (entryFrame m #[.ref d, .int (Int32.ofNat B.slots.size)] 2)) (s₁.setTop (mkF m 2 #[.val (.ref d), .val (.int (Int32.ofNat B.slots.size))] [.ref d, .int (Int32.ofNat B.slots.size)])) := c1.trans (by
    refine XS.iloadN X0.here hexec rfl (hb hbytes d0) rfl ?_
    refine XS.aloadN X0.here hexec rfl (hb hbytes d1) rfl rfl ?_
    exact Steps.refl _)
  have c3 : Steps p.tables e below (s₁.setTop (entryFrame m #[.ref d, .int (Int32.ofNat B.slots.size)] 2)) (s₁.setTop (mkF m 8 #[.val (.ref d), .val (.int (Int32.ofNat B.slots.size))] [.int (lo8 (ushr (Int32.ofNat B.slots.size - Int32.ofNat B.slots.size) 31))])) := c2.trans (by
    refine X0.alen hexec hB0 rfl rfl (hb hbytes d2) ?_
    refine XS.isub X0.here hexec rfl (hb hbytes d3) rfl ?_
    refine bipushV X0.here hexec rfl 31 (hb hbytes d4) (by decide) ?_
    refine iushr X0.here hexec rfl (hb hbytes d6) rfl ?_
    refine i2b X0.here hexec rfl (hb hbytes d7) rfl ?_
    exact Steps.refl _)
  have e0 : lo8 (ushr (Int32.ofNat B.slots.size - Int32.ofNat B.slots.size) 31) = 0 := by rw [Int32.sub_self]; decide
  rw [e0] at c3
  exact ⟨s₁, some (.int 0), _, _, _, X0, rfl, rfl, rfl, (fun h => by cases h), ⟨rfl, hh0⟩, fun fs hl => c3.trans (X0.ireturnOut hexec hret rfl (Or.inr (Or.inr (Or.inl rfl))) (hb hbytes d8) hl)⟩
end CodL
/-- the String at a is Latin-1 over a new byte[] (the heap's one new cell): the low bytes of the len chars of A from o on; every cell but a is kept -/
def Got (a : Addr) (D : Cell) (fV fC : Field) (A : Cell) (o len : Nat) (r : Option Value) (s u : State) : Prop := r = none ∧ ∃ D' V : Cell, Blank "java/lang/String" a D' u ∧ Same D D' [fV.slot, fC.slot] ∧ D'.slots[fV.slot]? = some (.ref s.heap.size) ∧ D'.slots[fC.slot]? = some (.int 0) ∧ Arr .byte s.heap.size V u ∧ V.vm = .none ∧ u.vm.findClass "[B" = some V.cls ∧ V.slots.size = len ∧ (∀ j, j < len → V.slots[j]? = some (.int (lo8 (cv A (o + j))))) ∧ (∀ (y : Addr) (c : Cell), y ≠ a → s.heap[y]? = some c → u.heap[y]? = some c) ∧ u.heap.size = s.heap.size + 1
theorem Got.mv {a : Addr} {D A : Cell} {fV fC : Field} {o len : Nat} : ∀ r (U U' V V' : State), U'.heap = U.heap → V.vm.Alike V'.vm → V'.heap = V.heap → Got a D fV fC A o len r U V → Got a D fV fC A o len r U' V' :=
  fun r U U' V V' h1 hal h2 ⟨e0, D', X, a1, a2, a3, a4, a5, a6, a7, a8, a9, a10, a11⟩ => ⟨e0, D', X, a1.mv hal h2, a2, by rw [h1]; exact a3, a4, by rw [h1]; exact a5.mv hal h2, a6, by rw [hal.findClass]; exact a7, a8, a9, by rw [h1, h2]; exact a10, by rw [h1, h2]; exact a11⟩
namespace New4
def yN : MethodName := ⟨"java/lang/String", "<init>", "([CIILjava/lang/Void;)V"⟩
abbrev yB : ByteArray := jdk_42_method_149_code
theorem d0 : decode yB 0 = .ok (.aload_n 0, 1) := by decide +kernel
theorem d1 : decode yB 1 = .ok (.invokespecial 1, 3) := by decide +kernel
theorem d4 : decode yB 4 = .ok (.iload_n 3, 1) := by decide +kernel
theorem d5 : decode yB 5 = .ok (.ifCond (.ne) 22, 3) := by decide +kernel
theorem d27 : decode yB 27 = .ok (.getstatic 38, 3) := by decide +kernel
theorem d30 : decode yB 30 = .ok (.ifCond (.eq) 28, 3) := by decide +kernel
theorem d33 : decode yB 33 = .ok (.aload_n 1, 1) := by decide +kernel
theorem d34 : decode yB 34 = .ok (.iload_n 2, 1) := by decide +kernel
theorem d35 : decode yB 35 = .ok (.iload_n 3, 1) := by decide +kernel
theorem d36 : decode yB 36 = .ok (.invokestatic 177, 3) := by decide +kernel
theorem d39 : decode yB 39 = .ok (.astore 5, 2) := by decide +kernel
theorem d41 : decode yB 41 = .ok (.aload_n 0, 1) := by decide +kernel
theorem d42 : decode yB 42 = .ok (.aload 5, 2) := by decide +kernel
theorem d44 : decode yB 44 = .ok (.iload_n 3, 1) := by decide +kernel
theorem d45 : decode yB 45 = .ok (.invokestatic 47, 3) := by decide +kernel
theorem d48 : decode yB 48 = .ok (.putfield 15, 3) := by decide +kernel
theorem d51 : decode yB 51 = .ok (.aload_n 0, 1) := by decide +kernel
theorem d52 : decode yB 52 = .ok (.aload 5, 2) := by decide +kernel
theorem d54 : decode yB 54 = .ok (.putfield 9, 3) := by decide +kernel
theorem d57 : decode yB 57 = .ok (.return_, 1) := by decide +kernel
def site : List Cond := [.fieldLink "java/lang/String" 38 "java/lang/String" "COMPACT_STRINGS" "Z", Cmp3.tab, CodL.tab, .laysFinal "java/lang/String" "java/lang/String" "value" "[B", .fieldLink "java/lang/String" 9 "java/lang/String" "value" "[B", .laysFinal "java/lang/String" "java/lang/String" "coder" "B", .fieldLink "java/lang/String" 15 "java/lang/String" "coder" "B"] ++ objW "java/lang/String" 1 ++ staticW "java/lang/String" 177 Cmp3.yN ++ staticW "java/lang/String" 47 CodL.yN
def tab : Cond := tabOf yN yB 6 none site
def P (a : Addr) (D : Cell) (fV fC : Field) (b : Addr) (A : Cell) (z : Int32) (o len : Nat) (args : Array Value) (s : State) : Prop := args = #[.ref a, .ref b, .int (Int32.ofNat o), .int (Int32.ofNat len), .null] ∧ Blank "java/lang/String" a D s ∧ Found "java/lang/String" "value" "[B" fV s ∧ Found "java/lang/String" "coder" "B" fC s ∧ Ch b A s ∧ StaticIs s "java/lang/String" "COMPACT_STRINGS" "Z" (.int z) ∧ ¬ z = 0 ∧ 0 < len ∧ o + len ≤ A.slots.size ∧ len ≤ 536870912 ∧ ∀ i, i < len → ¬ 255 < cv A (o + i)
def E (a : Addr) (D : Cell) (fV fC : Field) (A : Cell) (o len : Nat) (r : Option Value) (s u : State) : Prop := Got a D fV fC A o len r s u
/-- len > 0, no char of the range above 255: a Latin-1 String of their low bytes -/
theorem law (l : Launch) (a : Addr) (D : Cell) (fV fC : Field) (b : Addr) (A : Cell) (z : Int32) (o len : Nat) : Law l yN 5 4 2 35 yB 6 none site (P a D fV fC b A z o len) (E a D fV fC A o len) [⟨a, fC.slot⟩, ⟨a, fV.slot⟩] 1 len := by
  refine Law.of_walk (plainFor_of_name (by decide +kernel)) (by decide +kernel) (by decide +kernel) (by decide) (fun _ _ h => by rw [h.1]; rfl) (fun _ U U' hal hh h => ⟨h.1, h.2.1.mv hal hh, h.2.2.1.al hal, h.2.2.2.1.al hal, h.2.2.2.2.1.mv hal hh, h.2.2.2.2.2.1.there hal hh, h.2.2.2.2.2.2⟩) (fun r U U' V V' h1 hal h2 h => Got.mv r U U' V V' h1 hal h2 h) ?_
  intro p e s m args below meth c s₁ X0 hexec hbytes hml hret hlk hnm hown hh0 W hP
  obtain ⟨rfl, hB, f1, f2, hA, s1, hz, l0, l1, l2, hp⟩ := hP
  have a31 := hA.1.2.2.2
  have c1 : Steps p.tables e below (s₁.setTop (entryFrame m #[.ref a, .ref b, .int (Int32.ofNat o), .int (Int32.ofNat len), .null] 6)) (s₁.setTop (mkF m 0 #[.val (.ref a), .val (.ref b), .val (.int (Int32.ofNat o)), .val (.int (Int32.ofNat len)), .val .null, .unset] [])) := entry rfl
  have c2 : Steps p.tables e below (s₁.setTop (entryFrame m #[.ref a, .ref b, .int (Int32.ofNat o), .int (Int32.ofNat len), .null] 6)) (s₁.setTop (mkF m 1 #[.val (.ref a), .val (.ref b), .val (.int (Int32.ofNat o)), .val (.int (Int32.ofNat len)), .val .null, .unset] [.ref a])) := c1.trans (by
    refine XS.aloadN X0.here hexec rfl (hb hbytes d0) rfl rfl ?_
    exact Steps.refl _)
  obtain ⟨T3, X3, q3, st3⟩ := X0.oinit hexec hown (wks W (objW "java/lang/String" 1)) (g := (mkF m 1 #[.val (.ref a), .val (.ref b), .val (.int (Int32.ofNat o)), .val (.int (Int32.ofNat len)), .val .null, .unset] [.ref a])) rfl (by rw [hml]; rfl) (rest := []) rfl (hb hbytes d1) (W := 0) (by show 2 * 0 + 0 ≤ _; decide) (Nat.le_of_ble_eq_true rfl) (Nat.le_of_ble_eq_true rfl)
  have hh3 := q3.trans hh0
  have c4 : Steps p.tables e below (s₁.setTop (entryFrame m #[.ref a, .ref b, .int (Int32.ofNat o), .int (Int32.ofNat len), .null] 6)) (T3.setTop (mkF m 27 #[.val (.ref a), .val (.ref b), .val (.int (Int32.ofNat o)), .val (.int (Int32.ofNat len)), .val .null, .unset] [])) := (c2.trans (st3 _ (Steps.refl _))).trans (by
    refine XS.iloadN X3.here hexec rfl (hb hbytes d4) rfl ?_
    refine XS.ifYes X3.here hexec rfl (pc0 := 5) rfl (hb hbytes d5) rfl (i0_ne_t (nz32 (by omega) l0)) (by decide) rfl ?_
    exact Steps.refl _)
  obtain ⟨T5, X5, q5, st5⟩ := X3.sget hexec hown (wk W (.fieldLink "java/lang/String" 38 "java/lang/String" "COMPACT_STRINGS" "Z")) s1 (fun _ _ h => by rw [hh3]; exact h) (g := (mkF m 27 #[.val (.ref a), .val (.ref b), .val (.int (Int32.ofNat o)), .val (.int (Int32.ofNat len)), .val .null, .unset] [])) rfl (hb hbytes d27)
  have hh5 := q5.trans hh3
  have c6 : Steps p.tables e below (s₁.setTop (entryFrame m #[.ref a, .ref b, .int (Int32.ofNat o), .int (Int32.ofNat len), .null] 6)) (T5.setTop (mkF m 30 #[.val (.ref a), .val (.ref b), .val (.int (Int32.ofNat o)), .val (.int (Int32.ofNat len)), .val .null, .unset] [.int z])) := c4.trans (st5 _ (Steps.refl _))
  have c7 : Steps p.tables e below (s₁.setTop (entryFrame m #[.ref a, .ref b, .int (Int32.ofNat o), .int (Int32.ofNat len), .null] 6)) (T5.setTop (mkF m 36 #[.val (.ref a), .val (.ref b), .val (.int (Int32.ofNat o)), .val (.int (Int32.ofNat len)), .val .null, .unset] [.int (Int32.ofNat len), .int (Int32.ofNat o), .ref b])) := c6.trans (by
    refine XS.ifNo X5.here hexec rfl (hb hbytes d30) rfl (i0_eq_f hz) ?_
    refine XS.aloadN X5.here hexec rfl (hb hbytes d33) rfl rfl ?_
    refine XS.iloadN X5.here hexec rfl (hb hbytes d34) rfl ?_
    refine XS.iloadN X5.here hexec rfl (hb hbytes d35) rfl ?_
    exact Steps.refl _)
  obtain ⟨v8, T8, X8, E8, g8⟩ := X5.callS hexec (Cmp3.law l b A o len) hown (wks W (staticW "java/lang/String" 177 Cmp3.yN)) (wk W Cmp3.tab) (W := 0) (Nat.le_of_ble_eq_true rfl) (Nat.le_of_ble_eq_true rfl) (Nat.le_refl _) (by show 0 + len ≤ len; omega) (g := (mkF m 36 #[.val (.ref a), .val (.ref b), .val (.int (Int32.ofNat o)), .val (.int (Int32.ofNat len)), .val .null, .unset] [.int (Int32.ofNat len), .int (Int32.ofNat o), .ref b])) rfl (by rw [hml]; rfl) c7 (argsL := [.ref b, .int (Int32.ofNat o), .int (Int32.ofNat len)]) (rest := []) rfl rfl (by show 2 * 0 + 0 ≤ _; decide) (hb hbytes d36) (⟨rfl, hA.mv X5.warmed.alike hh5, l1, l2, hp⟩)
  obtain ⟨e8, z8⟩ := E8
  obtain ⟨rfl, N, n1, n2, n3, n4, n5, n6⟩ := NewArr.mv _ T5 s _ _ hh5.symm (Vm.Alike.refl _) rfl e8
  rw [hh5] at z8
  have hB1 := hB.keep X8.warmed.alike (n6 _ _ hB.1)
  have hne : s.heap.size ≠ a := (Nat.ne_of_lt (Array.getElem?_eq_some_iff.mp hB.1).1).symm
  have c9 : Steps p.tables e below (s₁.setTop (entryFrame m #[.ref a, .ref b, .int (Int32.ofNat o), .int (Int32.ofNat len), .null] 6)) (T8.setTop (mkF m 39 #[.val (.ref a), .val (.ref b), .val (.int (Int32.ofNat o)), .val (.int (Int32.ofNat len)), .val .null, .unset] [.ref s.heap.size])) := g8
  have c10 : Steps p.tables e below (s₁.setTop (entryFrame m #[.ref a, .ref b, .int (Int32.ofNat o), .int (Int32.ofNat len), .null] 6)) (T8.setTop (mkF m 45 #[.val (.ref a), .val (.ref b), .val (.int (Int32.ofNat o)), .val (.int (Int32.ofNat len)), .val .null, .val (.ref s.heap.size)] [.int (Int32.ofNat N.slots.size), .ref s.heap.size, .ref a])) := by
    have hc : Steps p.tables e below (s₁.setTop (entryFrame m #[.ref a, .ref b, .int (Int32.ofNat o), .int (Int32.ofNat len), .null] 6)) (T8.setTop (mkF m 45 #[.val (.ref a), .val (.ref b), .val (.int (Int32.ofNat o)), .val (.int (Int32.ofNat len)), .val .null, .val (.ref s.heap.size)] [.int (Int32.ofNat len), .ref s.heap.size, .ref a])) := c9.trans (by
      refine XS.astore X8.here hexec rfl (hb hbytes d39) rfl rfl rfl ?_
      refine XS.aloadN X8.here hexec rfl (hb hbytes d41) rfl rfl ?_
      refine XS.aload X8.here hexec rfl (hb hbytes d42) rfl rfl ?_
      refine XS.iloadN X8.here hexec rfl (hb hbytes d44) rfl ?_
      exact Steps.refl _)
    rw [n4]; exact hc
  obtain ⟨v11, T11, X11, E11, g11⟩ := X8.callS hexec (CodL.law l s.heap.size N) hown (wks W (staticW "java/lang/String" 47 CodL.yN)) (wk W CodL.tab) (W := 1) (Nat.le_of_ble_eq_true rfl) (Nat.le_of_ble_eq_true rfl) (Nat.le_refl _) (by show 0 + len + 0 ≤ len; omega) (g := (mkF m 45 #[.val (.ref a), .val (.ref b), .val (.int (Int32.ofNat o)), .val (.int (Int32.ofNat len)), .val .null, .val (.ref s.heap.size)] [.int (Int32.ofNat N.slots.size), .ref s.heap.size, .ref a])) rfl (by rw [hml]; rfl) c10 (argsL := [.ref s.heap.size, .int (Int32.ofNat N.slots.size)]) (rest := [.ref a]) rfl rfl (by show 2 * 0 + (1 + 0) ≤ _; decide) (hb hbytes d45) (⟨rfl, n1⟩)
  obtain ⟨rfl, q11⟩ := E11
  have hB11 := hB1.mv (X8.warmed.alike.symm.trans X11.warmed.alike) q11
  have c12 : Steps p.tables e below (s₁.setTop (entryFrame m #[.ref a, .ref b, .int (Int32.ofNat o), .int (Int32.ofNat len), .null] 6)) (T11.setTop (mkF m 48 #[.val (.ref a), .val (.ref b), .val (.int (Int32.ofNat o)), .val (.int (Int32.ofNat len)), .val .null, .val (.ref s.heap.size)] [.int 0, .ref a])) := g11
  obtain ⟨T13, X13, p13, bl13, sl13, st13⟩ := X11.finit hexec hown (wk W (.fieldLink "java/lang/String" 15 "java/lang/String" "coder" "B")) (Or.inr ⟨_, (wk W (.laysFinal "java/lang/String" "java/lang/String" "coder" "B"))⟩) (Or.inl ⟨rfl, hnm⟩) f2 (Or.inl rfl) hB11 (t := .byte) (by decide +kernel) rfl (g := (mkF m 48 #[.val (.ref a), .val (.ref b), .val (.int (Int32.ofNat o)), .val (.int (Int32.ofNat len)), .val .null, .val (.ref s.heap.size)] [.int 0, .ref a])) rfl (rest := []) rfl (hb hbytes d48)
  have c14 : Steps p.tables e below (s₁.setTop (entryFrame m #[.ref a, .ref b, .int (Int32.ofNat o), .int (Int32.ofNat len), .null] 6)) (T13.setTop (mkF m 54 #[.val (.ref a), .val (.ref b), .val (.int (Int32.ofNat o)), .val (.int (Int32.ofNat len)), .val .null, .val (.ref s.heap.size)] [.ref s.heap.size, .ref a])) := (c12.trans (st13 _ (Steps.refl _))).trans (by
    refine XS.aloadN X13.here hexec rfl (hb hbytes d51) rfl rfl ?_
    refine XS.aload X13.here hexec rfl (hb hbytes d52) rfl rfl ?_
    exact Steps.refl _)
  obtain ⟨T15, X15, p15, bl15, sl15, st15⟩ := X13.finit hexec hown (wk W (.fieldLink "java/lang/String" 9 "java/lang/String" "value" "[B")) (Or.inr ⟨_, (wk W (.laysFinal "java/lang/String" "java/lang/String" "value" "[B"))⟩) (Or.inl ⟨rfl, hnm⟩) f1 (Or.inl rfl) bl13 (t := (.array .byte)) (by decide +kernel) rfl (g := (mkF m 54 #[.val (.ref a), .val (.ref b), .val (.int (Int32.ofNat o)), .val (.int (Int32.ofNat len)), .val .null, .val (.ref s.heap.size)] [.ref s.heap.size, .ref a])) rfl (rest := []) rfl (hb hbytes d54)
  have c16 : Steps p.tables e below (s₁.setTop (entryFrame m #[.ref a, .ref b, .int (Int32.ofNat o), .int (Int32.ofNat len), .null] 6)) (T15.setTop (mkF m 57 #[.val (.ref a), .val (.ref b), .val (.int (Int32.ofNat o)), .val (.int (Int32.ofNat len)), .val .null, .val (.ref s.heap.size)] [])) := c14.trans (st15 _ (Steps.refl _))
  have ap := apart (Or.inr ⟨_, (wk W (.laysFinal "java/lang/String" "java/lang/String" "value" "[B"))⟩) (Or.inr ⟨_, (wk W (.laysFinal "java/lang/String" "java/lang/String" "coder" "B"))⟩) f1 f2 (t₁ := .array .byte) (t₂ := .byte) (by decide +kernel) (by decide +kernel) (by decide)
  have al := X8.warmed.alike.symm.trans X15.warmed.alike
  have n7 : T11.heap[s.heap.size]? = some N := by rw [q11]; exact n1.1
  exact ⟨T15, none, _, _, _, X15, by simp, rfl, by omega, (fun _ => rfl), ⟨rfl, _, N, bl15, ((Same.refl D _).set _ (by simp)).set _ (by simp), sl15, (Cell.slots_setSlot_ne _ ap).trans sl13, n1.keep al (p15.other hne (p13.other hne n7)), n2, by rw [al.findClass]; exact n3, n4, n5, fun y c h1 h2 => p15.other h1 (p13.other h1 (by rw [q11]; exact n6 y c h2)), by rw [p15.2.2, p13.2.2, q11]; exact z8⟩, fun fs hl => c16.trans (X15.returnOut hexec hret (hb hbytes d57) hl)⟩
end New4
namespace New1
def yN : MethodName := ⟨"java/lang/String", "<init>", "([C)V"⟩
abbrev yB : ByteArray := jdk_42_method_3_code
theorem d0 : decode yB 0 = .ok (.aload_n 0, 1) := by decide +kernel
theorem d1 : decode yB 1 = .ok (.aload_n 1, 1) := by decide +kernel
theorem d2 : decode yB 2 = .ok (.iconst 0, 1) := by decide +kernel
theorem d3 : decode yB 3 = .ok (.aload_n 1, 1) := by decide +kernel
theorem d4 : decode yB 4 = .ok (.arraylength, 1) := by decide +kernel
theorem d5 : decode yB 5 = .ok (.aconst_null, 1) := by decide +kernel
theorem d6 : decode yB 6 = .ok (.invokespecial 27, 3) := by decide +kernel
theorem d9 : decode yB 9 = .ok (.return_, 1) := by decide +kernel
def site : List Cond := [New4.tab] ++ initW "java/lang/String" 27 New4.yN
def tab : Cond := tabOf yN yB 2 none site
def P (a : Addr) (D : Cell) (fV fC : Field) (b : Addr) (A : Cell) (z : Int32) (args : Array Value) (s : State) : Prop := args = #[.ref a, .ref b] ∧ Blank "java/lang/String" a D s ∧ Found "java/lang/String" "value" "[B" fV s ∧ Found "java/lang/String" "coder" "B" fC s ∧ Ch b A s ∧ StaticIs s "java/lang/String" "COMPACT_STRINGS" "Z" (.int z) ∧ ¬ z = 0 ∧ 0 < A.slots.size ∧ A.slots.size ≤ 536870912 ∧ ∀ i, i < A.slots.size → ¬ 255 < cv A i
def E (a : Addr) (D : Cell) (fV fC : Field) (A : Cell) (r : Option Value) (s u : State) : Prop := Got a D fV fC A 0 A.slots.size r s u
/-- new String(chars), not empty, no char above 255: a Latin-1 String of their low bytes -/
theorem law (l : Launch) (a : Addr) (D : Cell) (fV fC : Field) (b : Addr) (A : Cell) (z : Int32) : Law l yN 2 1 3 52 yB 2 none site (P a D fV fC b A z) (E a D fV fC A) [⟨a, fC.slot⟩, ⟨a, fV.slot⟩] 1 A.slots.size := by
  refine Law.of_walk (plainFor_of_name (by decide +kernel)) (by decide +kernel) (by decide +kernel) (by decide) (fun _ _ h => by rw [h.1]; rfl) (fun _ U U' hal hh h => ⟨h.1, h.2.1.mv hal hh, h.2.2.1.al hal, h.2.2.2.1.al hal, h.2.2.2.2.1.mv hal hh, h.2.2.2.2.2.1.there hal hh, h.2.2.2.2.2.2⟩) (fun r U U' V V' h1 hal h2 h => Got.mv r U U' V V' h1 hal h2 h) ?_
  intro p e s m args below meth c s₁ X0 hexec hbytes hml hret hlk hnm hown hh0 W hP
  obtain ⟨rfl, hB, f1, f2, hA, s1, hz, l0, l2, hp⟩ := hP
  have c1 : Steps p.tables e below (s₁.setTop (entryFrame m #[.ref a, .ref b] 2)) (s₁.setTop (mkF m 0 #[.val (.ref a), .val (.ref b)] [])) := entry rfl
  have c2 : Steps p.tables e below (s₁.setTop (entryFrame m #[.ref a, .ref b] 2)) (s₁.setTop (mkF m 6 #[.val (.ref a), .val (.ref b)] [.null, .int (Int32.ofNat A.slots.size), .int 0, .ref b, .ref a])) := c1.trans (by
    refine XS.aloadN X0.here hexec rfl (hb hbytes d0) rfl rfl ?_
    refine XS.aloadN X0.here hexec rfl (hb hbytes d1) rfl rfl ?_
    refine iconstV X0.here hexec rfl 0 (hb hbytes d2) (by decide) ?_
    refine XS.aloadN X0.here hexec rfl (hb hbytes d3) rfl rfl ?_
    refine X0.alen hexec (hA.1.mv X0.warmed.alike hh0) rfl rfl (hb hbytes d4) ?_
    refine XS.aconstNull X0.here hexec rfl (hb hbytes d5) ?_
    exact Steps.refl _)
  obtain ⟨v3, T3, X3, E3, g3⟩ := X0.callN hexec (New4.law l a D fV fC b A z 0 A.slots.size) rfl hown (wks W (initW "java/lang/String" 27 New4.yN)) (W New4.tab (by simp only [site, List.mem_cons, List.mem_append, true_or, or_true])) (W := 0) (Nat.le_of_ble_eq_true rfl) (Nat.le_of_ble_eq_true rfl) (Nat.le_refl _) (by show 0 + A.slots.size ≤ A.slots.size; omega) (g := (mkF m 6 #[.val (.ref a), .val (.ref b)] [.null, .int (Int32.ofNat A.slots.size), .int (Int32.ofNat 0), .ref b, .ref a])) rfl (by rw [hml]; rfl) c2 (argsL := [.ref b, .int (Int32.ofNat 0), .int (Int32.ofNat A.slots.size), .null]) (rest := []) rfl rfl (by show 2 * 0 + 0 ≤ _; decide) (hb hbytes d6) (⟨rfl, hB.mv X0.warmed.alike hh0, f1.al X0.warmed.alike, f2.al X0.warmed.alike, hA.mv X0.warmed.alike hh0, s1.there X0.warmed.alike hh0, hz, l0, by omega, l2, fun i hi => by rw [Nat.zero_add]; exact hp i hi⟩)
  have e0 := Got.mv _ s₁ s _ _ hh0.symm (Vm.Alike.refl _) rfl E3
  obtain rfl := e0.1
  have c4 : Steps p.tables e below (s₁.setTop (entryFrame m #[.ref a, .ref b] 2)) (T3.setTop (mkF m 9 #[.val (.ref a), .val (.ref b)] [])) := g3
  exact ⟨T3, none, _, _, _, X3, by simp, rfl, by omega, (fun _ => rfl), e0, fun fs hl => c4.trans (X3.returnOut hexec hret (hb hbytes d9) hl)⟩
theorem pays {l : Launch} {R : Room} {p : Program} {e : Env} {below : List Frame} {s : State} {sargs : Array Value} {len W : Nat} (a : Addr) (D : Cell) (fV fC : Field) (b : Addr) (A : Cell) (z : Int32) (htab : tab.before sargs s = true) (hfr : 4 ≤ R.frames) (hlo : W + 65 ≤ R.locals) :
    Back l R p e below s sargs yN len W (fun A₁ a₁ => A₁.cells + 1 ≤ R.cells ∧ A₁.slots + A.slots.size ≤ R.slots ∧ P a D fV fC b A z a₁ A₁.U) (fun A₁ _ v₁ B₁ => E a D fV fC A v₁ A₁.U B₁.U ∧ B₁.locs = A₁.locs ++ [⟨a, fC.slot⟩, ⟨a, fV.slot⟩] ∧ B₁.cells = A₁.cells + 1 ∧ B₁.slots = A₁.slots + A.slots.size) :=
  (law l a D fV fC b A z).pays htab hfr (by omega)
end New1
/-- the byte, read back as charAt reads it, is the char -/
theorem lo8_mask {x : Int32} (h0 : ¬ x < 0) (h1 : ¬ 255 < x) : lo8 x &&& 255 = x := by
  have t : ∀ k : Fin 256, lo8 (Int32.ofNat k.val) &&& 255 = Int32.ofNat k.val := by decide +kernel
  rw [Int32.lt_iff_toInt_lt] at h0 h1
  have e0 : (0 : Int32).toInt = 0 := rfl
  have e1 : (255 : Int32).toInt = 255 := rfl
  obtain ⟨k, hk⟩ : ∃ k : Nat, x.toInt = k := ⟨x.toInt.toNat, by omega⟩
  have hx : x = Int32.ofNat k := Int32.toInt_inj.mp (by rw [hk, Int32.toInt_ofNat_small (by omega)])
  rw [hx]
  exact t ⟨k, by omega⟩
end StrChars
namespace StrChars.Road
open Jvm Sem ClassFile Op Lib Jvm.Stand Jvm.Free Jvm.Free.XT
open Jvm.Lib.Cold (StaticIs)
abbrev ST : String := "java/lang/String"
/-- every table word that New1's law asks, flat -/
abbrev words : List Jvm.Cond := [.code New1.yN New1.yB 2 none, .initialized ST, .methodLink ST 27 New4.yN, .instanceMethod New4.yN,
  .code New4.yN New4.yB 6 none, .fieldLink ST 38 ST "COMPACT_STRINGS" "Z", .laysFinal ST ST "value" "[B", .fieldLink ST 9 ST "value" "[B", .laysFinal ST ST "coder" "B", .fieldLink ST 15 ST "coder" "B",
  .methodLink ST 1 Lib.objectInit, .instanceMethod Lib.objectInit, .code Lib.objectInit ⟨#[0xb1]⟩ 1 none, .methodLink ST 177 Cmp3.yN, .static Cmp3.yN, .methodLink ST 47 CodL.yN, .static CodL.yN,
  .code Cmp3.yN Cmp3.yB 6 (some (.array .byte)), .initialized U16, .arrayClass .byte, .methodLink U16 115 Cmp5.yN, .static Cmp5.yN, .code Cmp5.yN Cmp5.yB 7 (some .int), .code CodL.yN CodL.yB 2 (some .byte)]
theorem tab_of {a : Array Value} {s : State} (h : ∀ w ∈ words, w.before a s = true) : New1.tab.before a s = true := by
  have h5 : Cmp5.tab.before a s = true := unparts (wk h (.code Cmp5.yN Cmp5.yB 7 (some .int))) (wks h (.initialized Cmp5.yN.cls :: Cmp5.site))
  have hc : CodL.tab.before a s = true := unparts (wk h (.code CodL.yN CodL.yB 2 (some .byte))) (wks h (.initialized CodL.yN.cls :: CodL.site))
  have q5 : ∀ w ∈ Cmp5.tab :: words, w.before a s = true := fun w hw => (List.mem_cons.mp hw).elim (fun e => e ▸ h5) (h w)
  have h3 : Cmp3.tab.before a s = true := unparts (wk q5 (.code Cmp3.yN Cmp3.yB 6 (some (.array .byte)))) (wks q5 (.initialized Cmp3.yN.cls :: Cmp3.site))
  have q3 : ∀ w ∈ Cmp3.tab :: CodL.tab :: words, w.before a s = true := fun w hw => (List.mem_cons.mp hw).elim (fun e => e ▸ h3) fun hw => (List.mem_cons.mp hw).elim (fun e => e ▸ hc) (h w)
  have h4 : New4.tab.before a s = true := unparts (wk q3 (.code New4.yN New4.yB 6 none)) (wks q3 (.initialized New4.yN.cls :: New4.site))
  have q4 : ∀ w ∈ New4.tab :: words, w.before a s = true := fun w hw => (List.mem_cons.mp hw).elim (fun e => e ▸ h4) (h w)
  exact unparts (wk q4 (.code New1.yN New1.yB 2 none)) (wks q4 (.initialized New1.yN.cls :: New1.site))
/-- the words ride from the start Z to the walk's own state -/
theorem moved {Z s : State} {a0 args : Array Value} (hZ : Z.Warmed39 s.vm) (hw : ∀ d ∈ words, d.before a0 Z = true) : ∀ d ∈ words, d.before args s = true := fun d hd => by
  have q := hw d hd
  have t : ∀ d ∈ words, d = .arrayClass .byte ∨ (d.onTables && d.keepsFace) = true := by decide +kernel
  rcases t d hd with rfl | t
  · exact RoadKit.mvA hZ q
  · exact RoadKit.mv hZ q t
/-- WHAT COMES BACK, over the tables of the start Z: h the heap at the call, h' behind it -/
def Q (Z : State) (x : Addr) (A : Cell) (h : Heap) (v : Option Value) (h' : Heap) (L : List Loc) : Prop := v = none ∧ (∀ y ∈ L, y.base = x) ∧ RoadKit.Keep h h' [x] ∧ h'.size = h.size + 1 ∧ RoadKit.Exa Z h' x ST ∧ RoadKit.Fld Z h' x ST "value" "[B" (.ref h.size) ∧ RoadKit.Fld Z h' x ST "coder" "B" (.int 0) ∧
  (∃ V : Cell, RoadKit.Arr Z h' h.size V .byte ∧ V.vm = .none ∧ Z.vm.findClass "[B" = some V.cls ∧ V.slots.size = A.slots.size ∧ ∀ j, j < A.slots.size → V.slots[j]? = some (.int (lo8 (cv A j)))) ∧
  ∀ (O n d : String) (w : Value), RoadKit.Fld Z h x O n d w → RoadKit.slotOf Z O n d ≠ RoadKit.slotOf Z ST "value" "[B" → RoadKit.slotOf Z O n d ≠ RoadKit.slotOf Z ST "coder" "B" → RoadKit.Fld Z h' x O n d w
/-- **new String(chars) AT A CALL, IN THE ROAD'S FORM**: for specialBack behind newO: x the fresh String, b the char[] with the cell A -/
theorem back {p : Program} {l : Launch} {e : Env} {R : Room} {s : State} {args : Array Value} {below : List Frame} {len W : Nat} {Z : State} {a0 : Array Value} {h : Heap} (hZ : Z.Warmed39 s.vm) (hw : ∀ d ∈ words, d.before a0 Z = true) {kI : Nat} (wi : (Jvm.Cond.instantiable ST kI).before a0 Z = true)
    {x b : Addr} {A : Cell} {z : Int32} {v0 c0 : Value} (E : RoadKit.Exa Z h x ST) (V : RoadKit.Fld Z h x ST "value" "[B" v0) (C : RoadKit.Fld Z h x ST "coder" "B" c0) (K : RoadKit.Arr Z h b A .char) (hty : Typed .char A) (S : RoadKit.Sta Z h ST "COMPACT_STRINGS" "Z" (.int z)) (hz : ¬ z = 0)
    (l0 : 0 < A.slots.size) (l2 : A.slots.size ≤ 536870912) (hp : ∀ i, i < A.slots.size → ¬ 255 < cv A i) (hfr : 4 ≤ R.frames) (hlo : W + 65 ≤ R.locals) :
    Back l R p e below s args New1.yN len W (fun P a => a = #[.ref x, .ref b] ∧ P.U.heap = h ∧ P.cells + 1 ≤ R.cells ∧ P.slots + A.slots.size ≤ R.slots)
      (fun P _ v B => ∃ L, Q Z x A h v B.U.heap L ∧ B.locs = P.locs ++ L ∧ B.cells = P.cells + 1 ∧ B.slots = P.slots + A.slots.size) := by
  intro m meth c P g ig mk a X hg hsize hdg hW hn hp'
  obtain ⟨rfl, rfl, r1, r2⟩ := hp'
  have al : Z.vm.Alike P.U.vm := hZ.alike.trans X.warmed.alike
  obtain ⟨D, cfV, kV, iV, fV, hD, gV, stV, knV, obV, asV, slV⟩ := id V
  obtain ⟨D', cfC, kC, iC, fC, hD', gC, stC, -, -, asC, slC⟩ := id C
  cases hD.symm.trans hD'
  obtain ⟨D2, kD, e1, e2, e3, e4, e5⟩ := id E
  cases hD.symm.trans e1
  obtain ⟨c2, k2, i1, i2, i3, -⟩ := Cond.instantiable_spec wi
  cases e2.symm.trans i1
  cases e3.symm.trans i2
  obtain ⟨kU, u1, u2⟩ := al.2.2 _ _ e3
  have hB : Blank ST x D P.U := ⟨hD, ⟨knV, fun q hq => by rw [hq] at obV; cases obV⟩, by rw [al.findClass]; exact e2, kU, u1, by rw [u2]; exact i3, by rw [u2]; exact e5 i3⟩
  have F1 : Found ST "value" "[B" fV P.U := ⟨SBG.found_only al ⟨cfV, kV, iV, gV⟩, stV⟩
  have F2 : Found ST "coder" "B" fC P.U := ⟨SBG.found_only al ⟨cfC, kC, iC, gC⟩, stC⟩
  have hA : Ch b A P.U := ⟨⟨K.1, State.isArrayOf_alike al K.2.1, K.2.2, by omega⟩, hty⟩
  have hS : StaticIs P.U ST "COMPACT_STRINGS" "Z" (.int z) := by
    obtain ⟨cfS, iS, kS, fS, st, cS, t1, t2, t3, t4, t5, t6, t7⟩ := S
    exact StaticIs.there (s := { Z with heap := P.U.heap }) ⟨cfS, iS, kS, fS, st, cS, t1, t2, t3, t4, t5, (fun q => by rw [q] at t6; cases t6), t7⟩ al rfl
  obtain ⟨v, B, X', ⟨⟨hv, E', V', q1, q2, q3, q4, q5, q6, q7, q8, q9, q10, q11⟩, hl, hc, hs⟩, st⟩ := New1.pays x D fV fC b A z (tab_of (moved hZ hw)) hfr hlo m meth c P g ig mk _ X hg hsize hdg hW hn ⟨r1, r2, rfl, hB, F1, F2, hA, hS, hz, l0, l2, hp⟩
  have al' : Z.vm.Alike B.U.vm := hZ.alike.trans X'.warmed.alike
  have hsz : E'.slots.size = D.slots.size := by
    obtain ⟨-, -, -, kB, w1, w2, w3⟩ := q1
    obtain ⟨kB', y1, y2⟩ := al'.2.2 _ _ e3
    rw [q2.2.1] at w1
    cases w1.symm.trans y1
    rw [w3, e5 i3, y2]
  refine ⟨v, B, X', ⟨_, ⟨hv, ?_, ⟨by omega, fun y cy hy hn' => q10 y cy (by simpa using hn') hy, fun y cy hy => ?_⟩, q11, ⟨E', _, q1.1, by rw [q2.2.1]; exact e2, by rw [q2.2.1]; exact e3, by rw [q2.1]; exact obV, fun _ => by rw [hsz]; exact e5 i3⟩,
    ⟨E', cfV, kV, iV, fV, q1.1, gV, stV, by rw [q2.1]; exact knV, by rw [q2.1]; exact obV, by rw [q2.2.1]; exact asV, q3⟩, ⟨E', cfC, kC, iC, fC, q1.1, gC, stC, by rw [q2.1]; exact knV, by rw [q2.1]; exact obV, by rw [q2.2.1]; exact asC, q4⟩,
    ⟨V', ⟨q5.1, State.isArrayOf_alike al'.symm q5.2.1, q5.2.2.1⟩, q6, by rw [← al'.findClass]; exact q7, q8, fun j hj => by have := q9 j hj; rwa [Nat.zero_add] at this⟩, fun O n d w F n1 n2 => ?_⟩, hl, hc, hs⟩, st⟩
  · intro y hy
    simp only [List.mem_cons, List.not_mem_nil, or_false] at hy
    rcases hy with rfl | rfl <;> rfl
  · by_cases q : y = x
    · subst q
      cases hD.symm.trans hy
      exact ⟨E', q1.1, q2.2.1, q2.1, hsz⟩
    · exact ⟨cy, q10 y cy q hy, rfl, rfl, rfl⟩
  · obtain ⟨D3, cf, k, i, f, g1, g2, g3, g4, g5, g6, g7⟩ := F
    cases hD.symm.trans g1
    simp only [RoadKit.slotOf, g2, gV, gC, Option.map_some, Option.getD_some] at n1 n2
    exact ⟨E', cf, k, i, f, q1.1, g2, g3, by rw [q2.1]; exact g4, by rw [q2.1]; exact g5, by rw [q2.2.1]; exact g6, by rw [q2.2.2 f.slot (by simp [n1, n2])]; exact g7⟩
end StrChars.Road
namespace StrChars.Road
open Jvm Sem ClassFile Op Lib Jvm.Stand Jvm.Free Jvm.Free.XT
/-- WHAT COMES BACK, the byte[] as a list of values -/
def QA (Z : State) (x : Addr) (zn : Int32) (cs : List Int32) (h : Heap) (v : Option Value) (h' : Heap) (L : List Loc) : Prop := v = none ∧ (∀ y ∈ L, y.base = x) ∧ RoadKit.Keep h h' [x] ∧ h'.size = h.size + 1 ∧ RoadKit.Exa Z h' x ST ∧ RoadKit.Fld Z h' x ST "value" "[B" (.ref h.size) ∧ RoadKit.Fld Z h' x ST "coder" "B" (.int 0) ∧
  (∃ kb, Z.vm.findClass "[B" = some kb ∧ RoadKit.Arv Z h' h.size kb .byte zn (cs.map fun c => .int (lo8 c)) (.int 0)) ∧
  ∀ (O n d : String) (w : Value), RoadKit.Fld Z h x O n d w → RoadKit.slotOf Z O n d ≠ RoadKit.slotOf Z ST "value" "[B" → RoadKit.slotOf Z O n d ≠ RoadKit.slotOf Z ST "coder" "B" → RoadKit.Fld Z h' x O n d w
/-- **new String(chars) AT A CALL, THE ARRAYS AS LISTS**: the char[] at b holds cs, not empty, no char above 255 -/
theorem backArv {p : Program} {l : Launch} {e : Env} {R : Room} {s : State} {args : Array Value} {below : List Frame} {len W : Nat} {Z : State} {a0 : Array Value} {h : Heap} (hZ : Z.Warmed39 s.vm) (hw : ∀ d ∈ words, d.before a0 Z = true) {kI : Nat} (wi : (Jvm.Cond.instantiable ST kI).before a0 Z = true)
    {x b : Addr} {k : ClassId} {zn z : Int32} {cs : List Int32} {dv v0 c0 : Value} (E : RoadKit.Exa Z h x ST) (V : RoadKit.Fld Z h x ST "value" "[B" v0) (C : RoadKit.Fld Z h x ST "coder" "B" c0) (K : RoadKit.Arv Z h b k .char zn (cs.map Value.int) dv) (S : RoadKit.Sta Z h ST "COMPACT_STRINGS" "Z" (.int z)) (hz : ¬ z = 0)
    (hlen : zn.toNatClampNeg = cs.length) (h0 : 0 < cs.length) (hbig : cs.length ≤ 536870912) (hall : ∀ c ∈ cs, ¬ 255 < c) (hfr : 4 ≤ R.frames) (hlo : W + 65 ≤ R.locals) :
    Back l R p e below s args New1.yN len W (fun P a => a = #[.ref x, .ref b] ∧ P.U.heap = h ∧ P.cells + 1 ≤ R.cells ∧ P.slots + cs.length ≤ R.slots)
      (fun P _ v B => ∃ L, QA Z x zn cs h v B.U.heap L ∧ B.locs = P.locs ++ L ∧ B.cells = P.cells + 1 ∧ B.slots = P.slots + cs.length) := by
  obtain ⟨A, K1, K2, K3, K4, K5, K6⟩ := K
  have e : A.slots.size = cs.length := K3.trans hlen
  have hat : ∀ (i : Nat) (hi : i < cs.length), A.slots[i]? = some (.int cs[i]) := fun i hi => by rw [K5 i (by omega)]; simp [List.getD_eq_getElem?_getD, hi]
  have hcv : ∀ (i : Nat) (hi : i < cs.length), cv A i = cs[i] := fun i hi => by unfold cv; rw [hat i hi]
  have hty : Typed .char A := fun i v hv => by
    have hi : i < A.slots.size := (Array.getElem?_eq_some_iff.mp hv).1
    have q := K5 i hi
    rw [hv] at q
    rw [Option.some.inj q]
    exact K6 i hi
  refine Back.mono (back hZ hw wi E V C K1 hty S hz (by omega) (by omega) (fun i hi => by rw [hcv i (by omega)]; exact hall _ (List.getElem_mem _)) hfr hlo) (fun P a hp => ⟨hp.1, hp.2.1, hp.2.2.1, by rw [e]; exact hp.2.2.2⟩) (fun P a v B hp hq => ?_)
  obtain ⟨L, ⟨q1, q2, q3, q4, q5, q6, q7, ⟨V', v1, v2, v3, v4, v5⟩, q9⟩, hl, hc, hs⟩ := hq
  refine ⟨L, ⟨q1, q2, q3, q4, q5, q6, q7, ⟨V'.cls, v3, V', v1, rfl, by rw [v4, e, hlen], K4, fun i hi => ?_, fun i hi => ?_⟩, q9⟩, hl, hc, by rw [hs, e]⟩
  · have hi' : i < cs.length := by omega
    rw [v5 i (by omega), hcv i hi']; simp [List.getD_eq_getElem?_getD, hi']
  · have hi' : i < cs.length := by omega
    simp only [List.getD_eq_getElem?_getD, List.getElem?_map, List.getElem?_eq_getElem hi', Option.map_some, Option.getD_some]
    exact fits_lo8 _
end StrChars.Road
namespace StrChars.Road
open Jvm Sem ClassFile Op Lib Jvm.Stand Jvm.Free Jvm.Free.XT
/-- WHAT COMES BACK, in the writer's own shape -/
def QV (Z : State) (x : Addr) (N : Int32) (bs : List Int32) (h : Heap) (n0 : Nat) (v : Option Value) (h' : Heap) (L : List Loc) : Prop := v = none ∧ RoadKit.Fr n0 L ∧ RoadKit.Keep h h' [x] ∧ RoadKit.Exa Z h' x ST ∧ RoadKit.Fld Z h' x ST "coder" "B" (.int 0) ∧
  ∃ (t : Addr) (kb : ClassId), n0 ≤ t ∧ h.size ≤ t ∧ ¬ t = x ∧ RoadKit.Fld Z h' x ST "value" "[B" (.ref t) ∧ RoadKit.Arv Z h' t kb .byte N (bs.map Value.int) (.int 0)
/-- **new String(chars) AT A CALL, FOR THE WRITER**: a char[] of n known ints, each 0 to 255 -/
theorem backV {p : Program} {l : Launch} {e : Env} {R : Room} {s : State} {args : Array Value} {below : List Frame} {len W : Nat} {Z : State} {a0 : Array Value} {h : Heap} (hZ : Z.Warmed39 s.vm) (hw : ∀ d ∈ words, d.before a0 Z = true) {kI : Nat} (wi : (Jvm.Cond.instantiable ST kI).before a0 Z = true)
    {x b : Addr} {kC : ClassId} {cs bs : List Int32} {d v0 c0 : Value} {z N : Int32} {n n0 : Nat} (hx0 : n0 ≤ x) (hh0 : n0 ≤ h.size) (E : RoadKit.Exa Z h x ST) (V : RoadKit.Fld Z h x ST "value" "[B" v0) (C : RoadKit.Fld Z h x ST "coder" "B" c0) (K : RoadKit.Arv Z h b kC .char N (cs.map Value.int) d) (S : RoadKit.Sta Z h ST "COMPACT_STRINGS" "Z" (.int z)) (hz : ¬ z = 0)
    (hn : cs.length = n) (hN : N = Int32.ofNat n) (l0 : 0 < n) (l2 : n ≤ 4000) (hp : ∀ c ∈ cs, ¬ c < 0 ∧ ¬ (255 : Int32) < c) (hb : bs = cs.map (fun c => c.toInt8.toInt32)) (hfr : 4 ≤ R.frames) (hlo : W + 65 ≤ R.locals) :
    Back l R p e below s args (⟨"java/lang/String", "<init>", "([C)V"⟩ : MethodName) len W (fun P a => a = #[.ref x, .ref b] ∧ P.U.heap = h ∧ P.cells + 1 ≤ R.cells ∧ P.slots + n ≤ R.slots)
      (fun P _ v B => ∃ L, QV Z x N bs h n0 v B.U.heap L ∧ B.locs = P.locs ++ L ∧ B.cells = P.cells + 1 ∧ B.slots = P.slots + n) := by
  subst hn hN hb
  refine Back.mono (backArv hZ hw wi E V C K S hz (n32 (by omega)) l0 (by omega) (fun c hc => (hp c hc).2) hfr hlo) (fun P a hp => hp) (fun P a v B hp hq => ?_)
  obtain ⟨L, ⟨q1, q2, q3, q4, q5, q6, q7, ⟨kb, v1, v2⟩, q9⟩, hl, hc, hs⟩ := hq
  exact ⟨L, ⟨q1, fun y hy => by rw [q2 y hy]; exact hx0, q3, q5, q7, h.size, kb, hh0, Nat.le_refl _, Nat.ne_of_gt E.lt, q6, by rw [List.map_map]; exact v2⟩, hl, hc, hs⟩
end StrChars.Road
namespace StrChars
open Jvm Sem ClassFile Op Lib Jvm.Stand Jvm.Free.XT Jvm.Free.ALB Jvm.Free.JM Jvm.Free
open Jvm.Lib.Cold (StaticIs)
def hi8 (x : Int32) : Int32 := lo8 (x >>> ((8 : Int32) &&& 31))
/-- what StringUTF16.getChar makes of two bytes -/
def pairCh (u v : Int32) : Int32 := (((u &&& 255) <<< ((0 : Int32) &&& 31)) ||| ((v &&& 255) <<< ((8 : Int32) &&& 31))).toUInt32.toUInt16.toUInt32.toInt32
theorem lo8_and (x : Int32) : (lo8 x &&& 255).toBitVec.toNat = x.toBitVec.toNat % 256 := by
  have h : (lo8 x).toBitVec = (x.toBitVec.signExtend 8).signExtend 32 := by rw [lo8, Int8.toBitVec_toInt32, Int32.toBitVec_toInt8]
  rw [Int32.toBitVec_and, BitVec.toNat_and, h]
  have e : ((x.toBitVec.signExtend 8).signExtend 32).toNat % 256 = x.toBitVec.toNat % 256 := by
    rw [BitVec.toNat_signExtend]
    have hlt := x.toBitVec.isLt
    simp only [BitVec.toNat_setWidth, BitVec.toNat_signExtend]
    split <;> split <;> omega
  rw [← e]
  exact Nat.and_two_pow_sub_one_eq_mod _ 8
theorem pair_says {c : Int32} (h0 : ¬ c < 0) (h1 : ¬ 65535 < c) : pairCh (lo8 c) (hi8 c) = c := by
  rw [Int32.lt_iff_toInt_lt] at h0 h1
  have e0 : (0 : Int32).toInt = 0 := rfl
  have e1 : (65535 : Int32).toInt = 65535 := rfl
  have hc : c.toInt = c.toBitVec.toNat := by
    have := c.toBitVec.isLt
    have e : c.toInt = c.toBitVec.toInt := rfl
    rw [e] at h0 h1
    rw [e]
    rw [BitVec.toInt_eq_toNat_cond] at h0 h1 ⊢
    split at h0 <;> split <;> omega
  have hn : c.toBitVec.toNat < 65536 := by omega
  have a1 := lo8_and c
  have a2 : (hi8 c &&& 255).toBitVec.toNat = c.toBitVec.toNat / 256 := by
    rw [hi8, lo8_and]
    have e : ((8 : Int32) &&& 31) = 8 := by decide
    rw [e, Int32.toBitVec_shiftRight]
    have e2 : ((8 : Int32).toBitVec.smod 32) = 8#32 := by decide
    rw [e2, BitVec.sshiftRight_eq', BitVec.toNat_sshiftRight_of_msb_false (by rw [BitVec.msb_eq_false_iff_two_mul_lt]; omega)]
    show c.toBitVec.toNat >>> 8 % 256 = _
    rw [Nat.shiftRight_eq_div_pow]
    omega
  unfold pairCh
  apply Int32.toBitVec_inj.mp
  apply BitVec.eq_of_toNat_eq
  have f0 : ((0 : Int32) &&& 31) = 0 := by decide
  have f8 : ((8 : Int32) &&& 31) = 8 := by decide
  rw [f0, f8]
  have g : (((lo8 c &&& 255) <<< (0 : Int32)) ||| ((hi8 c &&& 255) <<< (8 : Int32))).toBitVec.toNat = c.toBitVec.toNat := by
    rw [Int32.toBitVec_or, Int32.toBitVec_shiftLeft, Int32.toBitVec_shiftLeft]
    have s0 : ((0 : Int32).toBitVec.smod 32) = 0#32 := by decide
    have s8 : ((8 : Int32).toBitVec.smod 32) = 8#32 := by decide
    rw [s0, s8, BitVec.toNat_or]
    simp only [BitVec.shiftLeft_eq', BitVec.toNat_shiftLeft, a1, a2]
    show (c.toBitVec.toNat % 256) <<< 0 % 2 ^ 32 ||| (c.toBitVec.toNat / 256) <<< 8 % 2 ^ 32 = _
    rw [Nat.shiftLeft_zero, Nat.mod_eq_of_lt (show c.toBitVec.toNat % 256 < 2 ^ 32 by omega), Nat.mod_eq_of_lt (show (c.toBitVec.toNat / 256) <<< 8 < 2 ^ 32 by rw [Nat.shiftLeft_eq]; omega), Nat.or_comm, ← Nat.shiftLeft_add_eq_or_of_lt (by omega), Nat.shiftLeft_eq]
    omega
  show BitVec.toNat (((((lo8 c &&& 255) <<< (0 : Int32)) ||| ((hi8 c &&& 255) <<< (8 : Int32))).toBitVec.setWidth 16).setWidth 32) = _
  rw [BitVec.toNat_setWidth, BitVec.toNat_setWidth, g]
  omega
end StrChars
namespace StrChars
open Jvm Sem ClassFile Op Lib Jvm.Stand Jvm.Free.XT Jvm.Free.ALB Jvm.Free.JM Jvm.Free
open Jvm.Lib.Cold (StaticIs)
/-- charAt's cast of a byte read back -/
def chr8 (u : Int32) : Int32 := (u &&& 255).toUInt32.toUInt16.toUInt32.toInt32
theorem chr8_lo8 {c : Int32} (h0 : ¬ c < 0) (h1 : ¬ 255 < c) : chr8 (lo8 c) = c := by
  have t : ∀ k : Fin 256, (Int32.ofNat k.val).toUInt32.toUInt16.toUInt32.toInt32 = Int32.ofNat k.val := by decide +kernel
  unfold chr8
  rw [lo8_mask h0 h1]
  rw [Int32.lt_iff_toInt_lt] at h0 h1
  have e0 : (0 : Int32).toInt = 0 := rfl
  have e1 : (255 : Int32).toInt = 255 := rfl
  obtain ⟨k, hk⟩ : ∃ k : Nat, c.toInt = k := ⟨c.toInt.toNat, by omega⟩
  have hx : c = Int32.ofNat k := Int32.toInt_inj.mp (by rw [hk, Int32.toInt_ofNat_small (by omega)])
  rw [hx]
  exact t ⟨k, by omega⟩
theorem narrow_ch {c : Int32} (h0 : ¬ c < 0) (h1 : ¬ 65535 < c) : narrow .char (.int c) = .int c := by
  have q : narrow .char (.int (pairCh (lo8 c) (hi8 c))) = .int (pairCh (lo8 c) (hi8 c)) := narrow_c _
  rwa [pair_says h0 h1] at q
/-- the array's cell V codes the n chars f 0 .. f (n - 1) by the coder cd, as the JDK does: coder 1 just where some char is above 255 -/
def Cod (cd : Int32) (n : Nat) (f : Nat → Int32) (V : Cell) : Prop := (cd = 0 ∧ V.slots.size = n ∧ ∀ j, j < n → V.slots[j]? = some (.int (lo8 (f j))) ∧ ¬ 255 < f j) ∨ (cd = 1 ∧ V.slots.size = 2 * n ∧ (∀ j, j < n → V.slots[2 * j]? = some (.int (lo8 (f j))) ∧ V.slots[2 * j + 1]? = some (.int (hi8 (f j)))) ∧ ∃ j, j < n ∧ 255 < f j)
theorem Cod.cd {cd : Int32} {n : Nat} {f : Nat → Int32} {V : Cell} (h : Cod cd n f V) : cd = 0 ∨ cd = 1 := h.imp (fun q => q.1) fun q => q.1
/-- **x is a String of the n chars f 0 .. f (n - 1)**, Latin-1 or UTF-16; its array at t has the cell V -/
def Txt (x t : Addr) (V : Cell) (cd : Int32) (n : Nat) (f : Nat → Int32) (U : State) : Prop := Exact "java/lang/String" x U ∧ Has x "java/lang/String" "value" "[B" (.ref t) U ∧ Has x "java/lang/String" "coder" "B" (.int cd) U ∧ XT.Arr .byte t V U ∧ Cod cd n f V ∧ ∀ j, j < n → ¬ f j < 0 ∧ ¬ 65535 < f j
theorem Txt.mv {x t : Addr} {V : Cell} {cd : Int32} {n : Nat} {f : Nat → Int32} {U U' : State} (h : Txt x t V cd n f U) (hal : U.vm.Alike U'.vm) (hh : U'.heap = U.heap) : Txt x t V cd n f U' := ⟨h.1.mv hal hh, h.2.1.mv hal hh, h.2.2.1.mv hal hh, h.2.2.2.1.mv hal hh, h.2.2.2.2⟩
namespace IsL
def yN : MethodName := ⟨"java/lang/String", "isLatin1", "()Z"⟩
abbrev yB : ByteArray := jdk_42_method_154_code
theorem d0 : decode yB 0 = .ok (.getstatic 38, 3) := by decide +kernel
theorem d3 : decode yB 3 = .ok (.ifCond (.eq) 14, 3) := by decide +kernel
theorem d6 : decode yB 6 = .ok (.aload_n 0, 1) := by decide +kernel
theorem d7 : decode yB 7 = .ok (.getfield 15, 3) := by decide +kernel
theorem d10 : decode yB 10 = .ok (.ifCond (.ne) 7, 3) := by decide +kernel
theorem d13 : decode yB 13 = .ok (.iconst 1, 1) := by decide +kernel
theorem d14 : decode yB 14 = .ok (.goto 4, 3) := by decide +kernel
theorem d17 : decode yB 17 = .ok (.iconst 0, 1) := by decide +kernel
theorem d18 : decode yB 18 = .ok (.ireturn, 1) := by decide +kernel
def site : List Cond := [.fieldLink "java/lang/String" 38 "java/lang/String" "COMPACT_STRINGS" "Z", .fieldLink "java/lang/String" 15 "java/lang/String" "coder" "B"]
def tab : Cond := tabOf yN yB 1 (some .boolean) site
def P (x : Addr) (cd z : Int32) (args : Array Value) (s : State) : Prop := args = #[.ref x] ∧ Has x "java/lang/String" "coder" "B" (.int cd) s ∧ (cd = 0 ∨ cd = 1) ∧ StaticIs s "java/lang/String" "COMPACT_STRINGS" "Z" (.int z) ∧ ¬ z = 0
def E (cd : Int32) (r : Option Value) (s u : State) : Prop := XT.PureE (some (.int (1 - cd))) r s u
theorem law (l : Launch) (x : Addr) (cd z : Int32) : Law l yN 1 0 0 0 yB 1 (some .boolean) site (P x cd z) (E cd) [] 0 0 := by
  refine Law.of_walk (plainFor_of_name (by decide +kernel)) (by decide +kernel) (by decide +kernel) (by decide) (fun _ _ h => by rw [h.1]; rfl) (fun _ U U' hal hh h => ⟨h.1, h.2.1.mv hal hh, h.2.2.1, h.2.2.2.1.there hal hh, h.2.2.2.2⟩) (fun r U U' V V' h1 hal h2 h => XT.PureE.mv r U U' V V' h1 hal h2 h) ?_
  intro p e s m args below meth c s₁ X0 hexec hbytes hml hret hlk hnm hown hh0 W hP
  obtain ⟨rfl, hx, hc, s1, hz⟩ := hP
  have c1 : Steps p.tables e below (s₁.setTop (entryFrame m #[.ref x] 1)) (s₁.setTop (mkF m 0 #[.val (.ref x)] [])) := entry rfl
  obtain ⟨T2, X2, q2, st2⟩ := X0.sget hexec hown (wk W (.fieldLink "java/lang/String" 38 "java/lang/String" "COMPACT_STRINGS" "Z")) s1 (fun _ _ h => by rw [hh0]; exact h) (g := (mkF m 0 #[.val (.ref x)] [])) rfl (hb hbytes d0)
  have hh2 := q2.trans hh0
  have c3 : Steps p.tables e below (s₁.setTop (entryFrame m #[.ref x] 1)) (T2.setTop (mkF m 7 #[.val (.ref x)] [.ref x])) := (c1.trans (st2 _ (Steps.refl _))).trans (by
    refine XS.ifNo X2.here hexec rfl (hb hbytes d3) rfl (i0_eq_f hz) ?_
    refine XS.aloadN X2.here hexec rfl (hb hbytes d6) rfl rfl ?_
    exact Steps.refl _)
  obtain ⟨T4, X4, q4, st4⟩ := X2.hget hexec hown (wk W (.fieldLink "java/lang/String" 15 "java/lang/String" "coder" "B")) (hx.mv X2.warmed.alike hh2) (g := (mkF m 7 #[.val (.ref x)] [.ref x])) rfl (rest := []) rfl (hb hbytes d7)
  have c5 : Steps p.tables e below (s₁.setTop (entryFrame m #[.ref x] 1)) (T4.setTop (mkF m 10 #[.val (.ref x)] [.int cd])) := c3.trans (st4 _ (Steps.refl _))
  have c6 : Steps p.tables e below (s₁.setTop (entryFrame m #[.ref x] 1)) (T4.setTop (mkF m 18 #[.val (.ref x)] [.int (1 - cd)])) := by
    rcases hc with rfl | rfl
    · exact c5.trans (by
        refine XS.ifNo X4.here hexec rfl (hb hbytes d10) rfl (i0_ne_f rfl) ?_
        refine iconstV X4.here hexec rfl 1 (hb hbytes d13) (by decide) ?_
        refine XS.goto X4.here hexec rfl (pc0 := 14) rfl (hb hbytes d14) (by decide) rfl ?_
        exact Steps.refl _)
    · exact c5.trans (by
        refine XS.ifYes X4.here hexec rfl (pc0 := 10) rfl (hb hbytes d10) rfl (i0_ne_t (by decide)) (by decide) rfl ?_
        refine iconstV X4.here hexec rfl 0 (hb hbytes d17) (by decide) ?_
        exact Steps.refl _)
  exact ⟨T4, some (.int (1 - cd)), _, _, _, X4, rfl, rfl, rfl, (fun h => by cases h), ⟨rfl, q4.trans hh2⟩, fun fs hl => c6.trans (X4.ireturnOut hexec hret (by rcases hc with rfl | rfl <;> rfl) (Or.inr (Or.inl rfl)) (hb hbytes d18) hl)⟩
end IsL
namespace LChA
def yN : MethodName := ⟨"java/lang/StringLatin1", "charAt", "([BI)C"⟩
abbrev yB : ByteArray := jdk_43_method_2_code
theorem d0 : decode yB 0 = .ok (.iload_n 1, 1) := by decide +kernel
theorem d1 : decode yB 1 = .ok (.aload_n 0, 1) := by decide +kernel
theorem d2 : decode yB 2 = .ok (.arraylength, 1) := by decide +kernel
theorem d3 : decode yB 3 = .ok (.invokestatic 9, 3) := by decide +kernel
theorem d6 : decode yB 6 = .ok (.aload_n 0, 1) := by decide +kernel
theorem d7 : decode yB 7 = .ok (.iload_n 1, 1) := by decide +kernel
theorem d8 : decode yB 8 = .ok (.baload, 1) := by decide +kernel
theorem d9 : decode yB 9 = .ok (.sipush 255, 3) := by decide +kernel
theorem d12 : decode yB 12 = .ok (.iand, 1) := by decide +kernel
theorem d13 : decode yB 13 = .ok (.i2c, 1) := by decide +kernel
theorem d14 : decode yB 14 = .ok (.ireturn, 1) := by decide +kernel
def site : List Cond := [JO.Str_checkIndex.tab] ++ staticW "java/lang/StringLatin1" 9 JO.Str_checkIndex.yN
def tab : Cond := tabOf yN yB 2 (some .char) site
def P (t : Addr) (V : Cell) (i : Nat) (u : Int32) (fm : Value) (args : Array Value) (s : State) : Prop := args = #[.ref t, .int (Int32.ofNat i)] ∧ XT.Arr .byte t V s ∧ V.slots[i]? = some (.int u) ∧ (StaticIs s "jdk/internal/util/Preconditions" "SIOOBE_FORMATTER" "Ljava/util/function/BiFunction;" fm ∧ fm.isRef = true)
def E (u : Int32) (r : Option Value) (s w : State) : Prop := XT.PureE (some (.int (chr8 u))) r s w
theorem law (l : Launch) (t : Addr) (V : Cell) (i : Nat) (u : Int32) (fm : Value) : Law l yN 2 2 2 27 yB 2 (some .char) site (P t V i u fm) (E u) [] 0 0 := by
  refine Law.of_walk (plainFor_of_name (by decide +kernel)) (by decide +kernel) (by decide +kernel) (by decide) (fun _ _ h => by rw [h.1]; rfl) (fun _ U U' hal hh h => ⟨h.1, h.2.1.mv hal hh, h.2.2.1, h.2.2.2.1.there hal hh, h.2.2.2.2⟩) (fun r U U' V V' h1 hal h2 h => XT.PureE.mv r U U' V V' h1 hal h2 h) ?_
  intro p e s m args below meth c s₁ X0 hexec hbytes hml hret hlk hnm hown hh0 W hP
  obtain ⟨rfl, hV, hu, s1, rf⟩ := hP
  have v31 := hV.2.2.2
  have hi : i < V.slots.size := (Array.getElem?_eq_some_iff.mp hu).1
  have c1 : Steps p.tables e below (s₁.setTop (entryFrame m #[.ref t, .int (Int32.ofNat i)] 2)) (s₁.setTop (mkF m 0 #[.val (.ref t), .val (.int (Int32.ofNat i))] [])) := entry rfl
  have c2 : Steps p.tables e below (s₁.setTop (entryFrame m #[.ref t, .int (Int32.ofNat i)] 2)) (s₁.setTop (mkF m 3 #[.val (.ref t), .val (.int (Int32.ofNat i))] [.int (Int32.ofNat V.slots.size), .int (Int32.ofNat i)])) := c1.trans (by
    refine XS.iloadN X0.here hexec rfl (hb hbytes d0) rfl ?_
    refine XS.aloadN X0.here hexec rfl (hb hbytes d1) rfl rfl ?_
    refine X0.alen hexec (hV.mv X0.warmed.alike hh0) rfl rfl (hb hbytes d2) ?_
    exact Steps.refl _)
  obtain ⟨v3, T3, X3, E3, g3⟩ := X0.callS hexec (JO.Str_checkIndex.law l (Int32.ofNat i) (Int32.ofNat V.slots.size) fm) hown (wks W (staticW "java/lang/StringLatin1" 9 JO.Str_checkIndex.yN)) (wk W JO.Str_checkIndex.tab) (W := 0) (Nat.le_of_ble_eq_true rfl) (Nat.le_of_ble_eq_true rfl) (Nat.le_refl _) (Nat.le_refl _) (g := (mkF m 3 #[.val (.ref t), .val (.int (Int32.ofNat i))] [.int (Int32.ofNat V.slots.size), .int (Int32.ofNat i)])) rfl (by rw [hml]; rfl) c2 (argsL := [.int (Int32.ofNat i), .int (Int32.ofNat V.slots.size)]) (rest := []) rfl rfl (by show 2 * 0 + 0 ≤ _; decide) (hb hbytes d3) (⟨rfl, rf, s1.there X0.warmed.alike hh0, Int32.ofNat_not_neg (by omega), lt32 v31 hi⟩)
  obtain ⟨rfl, q3⟩ := E3
  have hh3 := q3.trans hh0
  have c4 : Steps p.tables e below (s₁.setTop (entryFrame m #[.ref t, .int (Int32.ofNat i)] 2)) (T3.setTop (mkF m 14 #[.val (.ref t), .val (.int (Int32.ofNat i))] [.int (chr8 u)])) := Steps.trans g3 (by
    refine XS.aloadN X3.here hexec rfl (hb hbytes d6) rfl rfl ?_
    refine XS.iloadN X3.here hexec rfl (hb hbytes d7) rfl ?_
    refine X3.aget hexec (hV.mv X3.warmed.alike hh3) rfl hu rfl rfl (hb hbytes d8) ?_
    refine sipushV X3.here hexec rfl 255 (hb hbytes d9) (by decide) ?_
    refine XS.iand X3.here hexec rfl (hb hbytes d12) rfl ?_
    refine i2c X3.here hexec rfl (hb hbytes d13) rfl ?_
    exact Steps.refl _)
  exact ⟨T3, some (.int (chr8 u)), _, _, _, X3, rfl, rfl, rfl, (fun h => by cases h), ⟨rfl, hh3⟩, fun fs hl => c4.trans (X3.ireturnOut hexec hret (narrow_c _) (Or.inr (Or.inr (Or.inr (Or.inl rfl)))) (hb hbytes d14) hl)⟩
end LChA
end StrChars
namespace StrChars.Road
open Jvm Sem ClassFile Op Lib Jvm.Stand Jvm.Free Jvm.Free.XT
open Jvm.Lib.Cold (StaticIs)
theorem consq {a : Array Value} {s : State} {c : Jvm.Cond} {L : List Jvm.Cond} (h0 : c.before a s = true) (h : ∀ w ∈ L, w.before a s = true) : ∀ w ∈ c :: L, w.before a s = true := fun w hw => (List.mem_cons.mp hw).elim (fun e => e ▸ h0) (h w)
/-- the bytes of the chars cs, low before high -/
def wideBytes : List Int32 → List Value
  | [] => []
  | c :: cs => .int (lo8 c) :: .int (hi8 c) :: wideBytes cs
theorem wide_lo (d : Value) : ∀ (cs : List Int32) (j : Nat), j < cs.length → (wideBytes cs).getD (2 * j) d = .int (lo8 (cs.getD j 0))
  | [], j, h => absurd h (Nat.not_lt_zero j)
  | c :: cs, 0, _ => rfl
  | c :: cs, j + 1, h => by
    have q := wide_lo d cs j (by simpa using h)
    rw [show 2 * (j + 1) = 2 * j + 1 + 1 from by omega]
    simpa [wideBytes] using q
theorem wide_hi (d : Value) : ∀ (cs : List Int32) (j : Nat), j < cs.length → (wideBytes cs).getD (2 * j + 1) d = .int (hi8 (cs.getD j 0))
  | [], j, h => absurd h (Nat.not_lt_zero j)
  | c :: cs, 0, _ => rfl
  | c :: cs, j + 1, h => by
    have q := wide_hi d cs j (by simpa using h)
    rw [show 2 * (j + 1) + 1 = 2 * j + 1 + 1 + 1 from by omega]
    simpa [wideBytes] using q
theorem low_at (d : Value) (cs : List Int32) (j : Nat) (h : j < cs.length) : (cs.map fun c => Value.int (lo8 c)).getD j d = .int (lo8 (cs.getD j 0)) := by
  simp [List.getD_eq_getElem?_getD, h]
/-- an array of N2 bytes vs codes the chars cs by the coder cd -/
def CodA (cs : List Int32) (cd N2 : Int32) (vs : List Value) : Prop := (cd = 0 ∧ N2 = Int32.ofNat cs.length ∧ vs = (cs.map fun c => Value.int (lo8 c)) ∧ ∀ c ∈ cs, ¬ 255 < c) ∨ (cd = 1 ∧ N2 = Int32.ofNat (2 * cs.length) ∧ vs = wideBytes cs ∧ ∃ c ∈ cs, 255 < c)
theorem CodA.cod {cs : List Int32} {cd N2 : Int32} {vs : List Value} {V : Cell} (h : CodA cs cd N2 vs) (hn : 2 * cs.length < 2 ^ 31) (hs : V.slots.size = N2.toNatClampNeg) (hv : RoadKit.Has V vs (.int 0)) : Cod cd cs.length (fun j => cs.getD j 0) V := by
  rcases h with ⟨rfl, rfl, rfl, h⟩ | ⟨rfl, rfl, rfl, c, hc, hw⟩
  · rw [n32 (by omega)] at hs
    exact Or.inl ⟨rfl, hs, fun j hj => ⟨by rw [hv j (by omega), low_at _ _ _ hj], by
      have e : cs.getD j 0 = cs[j] := by simp [List.getD_eq_getElem?_getD, hj]
      show ¬ 255 < cs.getD j 0
      rw [e]; exact h _ (List.getElem_mem _)⟩⟩
  · rw [n32 (by omega)] at hs
    obtain ⟨j, hj, rfl⟩ := List.getElem_of_mem hc
    exact Or.inr ⟨rfl, hs, fun j hj => ⟨by rw [hv _ (by omega), wide_lo _ _ _ hj], by rw [hv _ (by omega), wide_hi _ _ _ hj]⟩, j, hj, by
      have e : cs.getD j 0 = cs[j] := by simp [List.getD_eq_getElem?_getD, hj]
      show 255 < cs.getD j 0
      rw [e]; exact hw⟩
/-- an object of exactly java/lang/String, its two fields found: as the laws ask it -/
theorem strObj {Z U : State} {a0 : Array Value} {kI : Nat} (wi : (Jvm.Cond.instantiable ST kI).before a0 Z = true) (al : Z.vm.Alike U.vm) {x : Addr} {v0 c0 : Value} (E : RoadKit.Exa Z U.heap x ST) (V : RoadKit.Fld Z U.heap x ST "value" "[B" v0) (C : RoadKit.Fld Z U.heap x ST "coder" "B" c0) :
    ∃ (D : Cell) (fV fC : Field), Blank ST x D U ∧ Found ST "value" "[B" fV U ∧ Found ST "coder" "B" fC U ∧ D.slots[fV.slot]? = some v0 ∧ D.slots[fC.slot]? = some c0 ∧ RoadKit.slotOf Z ST "value" "[B" = fV.slot ∧ RoadKit.slotOf Z ST "coder" "B" = fC.slot := by
  obtain ⟨D, cfV, kV, iV, fV, hD, gV, stV, knV, obV, asV, slV⟩ := V
  obtain ⟨D', cfC, kC, iC, fC, hD', gC, stC, -, -, asC, slC⟩ := C
  cases hD.symm.trans hD'
  obtain ⟨D2, kD, e1, e2, e3, e4, e5⟩ := E
  cases hD.symm.trans e1
  obtain ⟨c2, k2, i1, i2, i3, -⟩ := Cond.instantiable_spec wi
  cases e2.symm.trans i1
  cases e3.symm.trans i2
  obtain ⟨kU, u1, u2⟩ := al.2.2 _ _ e3
  exact ⟨D, fV, fC, ⟨hD, ⟨knV, fun q hq => by rw [hq] at obV; cases obV⟩, by rw [al.findClass]; exact e2, kU, u1, by rw [u2]; exact i3, by rw [u2]; exact e5 i3⟩, ⟨SBG.found_only al ⟨cfV, kV, iV, gV⟩, stV⟩, ⟨SBG.found_only al ⟨cfC, kC, iC, gC⟩, stC⟩, slV, slC, by simp [RoadKit.slotOf, gV], by simp [RoadKit.slotOf, gC]⟩
theorem sta_is {Z U : State} (al : Z.vm.Alike U.vm) {C n d : String} {v : Value} (S : RoadKit.Sta Z U.heap C n d v) : StaticIs U C n d v := by
  obtain ⟨cfS, iS, kS, fS, st, cS, t1, t2, t3, t4, t5, t6, t7⟩ := S
  exact StaticIs.there (s := { Z with heap := U.heap }) ⟨cfS, iS, kS, fS, st, cS, t1, t2, t3, t4, t5, (fun q => by rw [q] at t6; cases t6), t7⟩ al rfl
end StrChars.Road
namespace StrChars.Road
open Jvm Sem ClassFile Op Lib Jvm.Stand Jvm.Free Jvm.Free.XT
open Jvm.Lib.Cold (StaticIs)
/-- the road's facts of a String, as the laws ask it -/
theorem txt_of {Z U : State} {a0 : Array Value} {kI : Nat} (wi : (Jvm.Cond.instantiable ST kI).before a0 Z = true) (al : Z.vm.Alike U.vm) {x t : Addr} {kb : ClassId} {cs : List Int32} {cd N2 : Int32} {vs : List Value} (E : RoadKit.Exa Z U.heap x ST) (V : RoadKit.Fld Z U.heap x ST "value" "[B" (.ref t)) (C : RoadKit.Fld Z U.heap x ST "coder" "B" (.int cd)) (K : RoadKit.Arv Z U.heap t kb .byte N2 vs (.int 0)) (hc : CodA cs cd N2 vs) (hb : ∀ c ∈ cs, ¬ c < 0 ∧ ¬ (65535 : Int32) < c) (l2 : cs.length ≤ 4000) :
    ∃ A, Txt x t A cd cs.length (fun j => cs.getD j 0) U := by
  obtain ⟨A, K1, K2, K3, K4, K5, K6⟩ := K
  have hcod := hc.cod (by omega) K3 K5
  obtain ⟨D, fV, fC, hB, F1, F2, g1, g2, -, -⟩ := strObj wi al E V C
  exact ⟨A, ⟨_, hB.2.2.1, D, hB.1, rfl, by cases q : D.vm <;> first | rfl | exact absurd q (hB.2.1.2 _)⟩, Has.of hB F1 g1, Has.of hB F2 g2, ⟨K1.1, State.isArrayOf_alike al K1.2.1, K1.2.2, by rcases hcod with ⟨-, q, -⟩ | ⟨-, q, -⟩ <;> omega⟩, hcod, fun j hj => by
    have e : cs.getD j 0 = cs[j] := by simp [List.getD_eq_getElem?_getD, hj]
    show ¬ cs.getD j 0 < 0 ∧ ¬ 65535 < cs.getD j 0
    rw [e]; exact hb _ (List.getElem_mem _)⟩
end StrChars.Road
namespace StrChars
open Jvm Sem ClassFile Op Lib Jvm.Stand Jvm.Free.XT Jvm.Free.ALB Jvm.Free.JM Jvm.Free
open Jvm.Lib.Cold (StaticIs)
namespace ChN
def yN : MethodName := ⟨"java/lang/String", "charAt", "(I)C"⟩
abbrev yB : ByteArray := jdk_42_method_56_code
theorem d0 : decode yB 0 = .ok (.aload_n 0, 1) := by decide +kernel
theorem d1 : decode yB 1 = .ok (.invokevirtual 492, 3) := by decide +kernel
theorem d4 : decode yB 4 = .ok (.ifCond (.eq) 12, 3) := by decide +kernel
theorem d7 : decode yB 7 = .ok (.aload_n 0, 1) := by decide +kernel
theorem d8 : decode yB 8 = .ok (.getfield 9, 3) := by decide +kernel
theorem d11 : decode yB 11 = .ok (.iload_n 1, 1) := by decide +kernel
theorem d12 : decode yB 12 = .ok (.invokestatic 495, 3) := by decide +kernel
theorem d15 : decode yB 15 = .ok (.ireturn, 1) := by decide +kernel
def site : List Cond := [.fieldLink "java/lang/String" 9 "java/lang/String" "value" "[B", IsL.tab, LChA.tab] ++ virtW "java/lang/String" 492 "java/lang/String" IsL.yN IsL.yN ++ staticW "java/lang/String" 495 LChA.yN
def tab : Cond := tabOf yN yB 2 (some .char) site
def P (x t : Addr) (V : Cell) (n : Nat) (f : Nat → Int32) (z : Int32) (fm : Value) (i : Nat) (args : Array Value) (s : State) : Prop := args = #[.ref x, .int (Int32.ofNat i)] ∧ Txt x t V 0 n f s ∧ i < n ∧ StaticIs s "java/lang/String" "COMPACT_STRINGS" "Z" (.int z) ∧ ¬ z = 0 ∧ StaticIs s "jdk/internal/util/Preconditions" "SIOOBE_FORMATTER" "Ljava/util/function/BiFunction;" fm ∧ fm.isRef = true
def E (f : Nat → Int32) (i : Nat) (r : Option Value) (s u : State) : Prop := XT.PureE (some (.int (f i))) r s u
/-- charAt(i) of a Latin-1 String of n chars, i < n: f i -/
theorem law (l : Launch) (x t : Addr) (V : Cell) (n : Nat) (f : Nat → Int32) (z : Int32) (fm : Value) (i : Nat) : Law l yN 2 1 3 40 yB 2 (some .char) site (P x t V n f z fm i) (E f i) [] 0 0 := by
  refine Law.of_walk (plainFor_of_name (by decide +kernel)) (by decide +kernel) (by decide +kernel) (by decide) (fun _ _ h => by rw [h.1]; rfl) (fun _ U U' hal hh h => ⟨h.1, h.2.1.mv hal hh, h.2.2.1, h.2.2.2.1.there hal hh, h.2.2.2.2.1, h.2.2.2.2.2.1.there hal hh, h.2.2.2.2.2.2⟩) (fun r U U' V V' h1 hal h2 h => XT.PureE.mv r U U' V V' h1 hal h2 h) ?_
  intro p e s m args below meth c s₁ X0 hexec hbytes hml hret hlk hnm hown hh0 W hP
  obtain ⟨rfl, hx, hi, s1, hz, s3, rf⟩ := hP
  have v31 := hx.2.2.2.1.2.2.2
  have hr := hx.2.2.2.2.2 i hi
  have hx0 := hx.mv X0.warmed.alike hh0
  have c1 : Steps p.tables e below (s₁.setTop (entryFrame m #[.ref x, .int (Int32.ofNat i)] 2)) (s₁.setTop (mkF m 1 #[.val (.ref x), .val (.int (Int32.ofNat i))] [.ref x])) := Steps.trans (entry rfl) (by
    show Steps p.tables e below (s₁.setTop (mkF m 0 #[.val (.ref x), .val (.int (Int32.ofNat i))] [])) _
    refine XS.aloadN X0.here hexec rfl (hb hbytes d0) rfl rfl ?_
    exact Steps.refl _)
  obtain ⟨v2, T2, X2, E2, g2⟩ := X0.callV hexec (IsL.law l x 0 z) hown (wks W (virtW "java/lang/String" 492 "java/lang/String" IsL.yN IsL.yN)) rfl (by decide) (wk W IsL.tab) (W := 0) (Nat.le_of_ble_eq_true rfl) (Nat.le_of_ble_eq_true rfl) (Nat.le_refl _) (Nat.le_refl _) (hx0.1.fc X0.warmed.alike) hx0.1.is (g := (mkF m 1 #[.val (.ref x), .val (.int (Int32.ofNat i))] [.ref x])) rfl (by rw [hml]; rfl) c1 (argsL := []) (rest := []) rfl rfl (by show 2 * 0 + 0 ≤ _; decide) (hb hbytes d1) (⟨rfl, hx0.2.2.1, hx.2.2.2.2.1.cd, s1.there X0.warmed.alike hh0, hz⟩)
  obtain ⟨rfl, q2⟩ := E2
  have hh2 := q2.trans hh0
  have hx2 := hx.mv X2.warmed.alike hh2
  obtain ⟨-, k1, k2⟩ | ⟨k0, -⟩ := hx.2.2.2.2.1
  · have c3 : Steps p.tables e below (s₁.setTop (entryFrame m #[.ref x, .int (Int32.ofNat i)] 2)) (T2.setTop (mkF m 8 #[.val (.ref x), .val (.int (Int32.ofNat i))] [.ref x])) := Steps.trans g2 (by
      refine XS.ifNo X2.here hexec rfl (hb hbytes d4) rfl (i0_eq_f (by decide)) ?_
      refine XS.aloadN X2.here hexec rfl (hb hbytes d7) rfl rfl ?_
      exact Steps.refl _)
    obtain ⟨T4, X4, q4, st4⟩ := X2.hget hexec hown (wk W (.fieldLink "java/lang/String" 9 "java/lang/String" "value" "[B")) hx2.2.1 (g := (mkF m 8 #[.val (.ref x), .val (.int (Int32.ofNat i))] [.ref x])) rfl (rest := []) rfl (hb hbytes d8)
    have hh4 := q4.trans hh2
    have c5 : Steps p.tables e below (s₁.setTop (entryFrame m #[.ref x, .int (Int32.ofNat i)] 2)) (T4.setTop (mkF m 12 #[.val (.ref x), .val (.int (Int32.ofNat i))] [.int (Int32.ofNat i), .ref t])) := (c3.trans (st4 _ (Steps.refl _))).trans (by
      refine XS.iloadN X4.here hexec rfl (hb hbytes d11) rfl ?_
      exact Steps.refl _)
    obtain ⟨v6, T6, X6, E6, g6⟩ := X4.callS hexec (LChA.law l t V i (lo8 (f i)) fm) hown (wks W (staticW "java/lang/String" 495 LChA.yN)) (wk W LChA.tab) (W := 0) (Nat.le_of_ble_eq_true rfl) (Nat.le_of_ble_eq_true rfl) (Nat.le_refl _) (Nat.le_refl _) (g := (mkF m 12 #[.val (.ref x), .val (.int (Int32.ofNat i))] [.int (Int32.ofNat i), .ref t])) rfl (by rw [hml]; rfl) c5 (argsL := [.ref t, .int (Int32.ofNat i)]) (rest := []) rfl rfl (by show 2 * 0 + 0 ≤ _; decide) (hb hbytes d12) (⟨rfl, hx.2.2.2.1.mv X4.warmed.alike hh4, (k2 i hi).1, s3.there X4.warmed.alike hh4, rf⟩)
    obtain ⟨rfl, q6⟩ := E6
    rw [chr8_lo8 hr.1 (k2 i hi).2] at g6
    exact ⟨T6, some (.int (f i)), _, _, _, X6, rfl, rfl, rfl, (fun h => by cases h), ⟨rfl, q6.trans hh4⟩, fun fs hl => Steps.trans g6 (X6.ireturnOut hexec hret (narrow_ch hr.1 hr.2) (Or.inr (Or.inr (Or.inr (Or.inl rfl)))) (hb hbytes d15) hl)⟩
  · exact absurd k0 (by decide)
theorem pays {l : Launch} {R : Room} {p : Program} {e : Env} {below : List Frame} {s : State} {sargs : Array Value} {len W : Nat} (x t : Addr) (V : Cell) (n : Nat) (f : Nat → Int32) (z : Int32) (fm : Value) (i : Nat) (htab : tab.before sargs s = true) (hfr : 4 ≤ R.frames) (hlo : W + 53 ≤ R.locals) :
    Back l R p e below s sargs yN len W (fun A₁ a₁ => A₁.cells + 0 ≤ R.cells ∧ A₁.slots + 0 ≤ R.slots ∧ P x t V n f z fm i a₁ A₁.U) (fun A₁ _ v₁ B₁ => E f i v₁ A₁.U B₁.U ∧ B₁.locs = A₁.locs ++ [] ∧ B₁.cells = A₁.cells + 0 ∧ B₁.slots = A₁.slots + 0) :=
  (law l x t V n f z fm i).pays htab hfr (by omega)
end ChN
end StrChars
namespace StrChars.Road
open Jvm Sem ClassFile Op Lib Jvm.Stand Jvm.Free Jvm.Free.XT
open Jvm.Lib.Cold (StaticIs)
/-- the words of String.charAt(int), the Latin-1 road alone -/
abbrev wordsChN : List Jvm.Cond := [.code ChN.yN ChN.yB 2 (some .char), .initialized ST, .fieldLink ST 9 ST "value" "[B", .fieldLink ST 38 ST "COMPACT_STRINGS" "Z", .fieldLink ST 15 ST "coder" "B", .code IsL.yN IsL.yB 1 (some .boolean), .methodLink ST 492 IsL.yN, .declares IsL.yN, .selects ST IsL.yN IsL.yN, .instanceMethod IsL.yN,
  .methodLink ST 495 LChA.yN, .static LChA.yN, .code LChA.yN LChA.yB 2 (some .char), .initialized "java/lang/StringLatin1", .methodLink "java/lang/StringLatin1" 9 JO.Str_checkIndex.yN, .static JO.Str_checkIndex.yN, .code JO.Str_checkIndex.yN JO.Str_checkIndex.yB 2 none,
  .fieldLink ST 1053 "jdk/internal/util/Preconditions" "SIOOBE_FORMATTER" "Ljava/util/function/BiFunction;", .methodLink ST 1059 JC.PreCheck.yN, .static JC.PreCheck.yN, .code JC.PreCheck.yN JC.PreCheck.yB 3 (some .int), .initialized "jdk/internal/util/Preconditions"]
theorem tabChN_of {a : Array Value} {s : State} (h : ∀ w ∈ wordsChN, w.before a s = true) : ChN.tab.before a s = true := by
  have hp : JC.PreCheck.tab.before a s = true := unparts (wk h (.code JC.PreCheck.yN JC.PreCheck.yB 3 (some .int))) (wks h (.initialized JC.PreCheck.yN.cls :: JC.PreCheck.site))
  have qk := consq hp h
  have hk : JO.Str_checkIndex.tab.before a s = true := unparts (wk qk (.code JO.Str_checkIndex.yN JO.Str_checkIndex.yB 2 none)) (wks qk (.initialized JO.Str_checkIndex.yN.cls :: JO.Str_checkIndex.site))
  have ql := consq hk h
  have hl : LChA.tab.before a s = true := unparts (wk ql (.code LChA.yN LChA.yB 2 (some .char))) (wks ql (.initialized LChA.yN.cls :: LChA.site))
  have hi : IsL.tab.before a s = true := unparts (wk h (.code IsL.yN IsL.yB 1 (some .boolean))) (wks h (.initialized IsL.yN.cls :: IsL.site))
  have q := consq hi (consq hl h)
  exact unparts (wk q (.code ChN.yN ChN.yB 2 (some .char))) (wks q (.initialized ChN.yN.cls :: ChN.site))
theorem movedChN {Z s : State} {a0 args : Array Value} (hZ : Z.Warmed39 s.vm) (hw : ∀ d ∈ wordsChN, d.before a0 Z = true) : ∀ d ∈ wordsChN, d.before args s = true := fun d hd => by
  have t : ∀ d ∈ wordsChN, (d.onTables && d.keepsFace) = true := by decide +kernel
  exact RoadKit.mv hZ (hw d hd) (t d hd)
/-- **charAt(i) OF A LATIN-1 STRING**, i < n: the char -/
theorem chN {p : Program} {l : Launch} {e : Env} {R : Room} {s : State} {args : Array Value} {below : List Frame} {len W : Nat} {Z : State} {a0 : Array Value} {h : Heap} (hZ : Z.Warmed39 s.vm) (hw : ∀ d ∈ wordsChN, d.before a0 Z = true) {kI : Nat} (wi : (Jvm.Cond.instantiable ST kI).before a0 Z = true)
    {x t : Addr} {kb : ClassId} {cs : List Int32} {N2 z : Int32} {vs : List Value} {fm : Value} {i : Nat} {j : Int32} (E : RoadKit.Exa Z h x ST) (V : RoadKit.Fld Z h x ST "value" "[B" (.ref t)) (C : RoadKit.Fld Z h x ST "coder" "B" (.int 0)) (K : RoadKit.Arv Z h t kb .byte N2 vs (.int 0)) (hc : CodA cs 0 N2 vs) (hb : ∀ c ∈ cs, ¬ c < 0 ∧ ¬ (65535 : Int32) < c)
    (S : RoadKit.Sta Z h ST "COMPACT_STRINGS" "Z" (.int z)) (hz : ¬ z = 0) (F : RoadKit.Sta Z h "jdk/internal/util/Preconditions" "SIOOBE_FORMATTER" "Ljava/util/function/BiFunction;" fm) (rf : fm.isRef = true) (l2 : cs.length ≤ 4000) (hi : i < cs.length) (hj : j = Int32.ofNat i) (hfr : 4 ≤ R.frames) (hlo : W + 53 ≤ R.locals) :
    Back l R p e below s args (⟨"java/lang/String", "charAt", "(I)C"⟩ : MethodName) len W (fun P a => a = #[.ref x, .int j] ∧ P.U.heap = h ∧ P.cells + 0 ≤ R.cells ∧ P.slots + 0 ≤ R.slots)
      (fun P _ v B => ∃ L, (v = some (.int (cs.getD i 0)) ∧ L = [] ∧ B.U.heap = h) ∧ B.locs = P.locs ++ L ∧ B.cells = P.cells + 0 ∧ B.slots = P.slots + 0) := by
  subst hj
  intro m meth c P g ig mk a X hg hsize hdg hW hn hp'
  obtain ⟨rfl, rfl, r1, r2⟩ := hp'
  have al : Z.vm.Alike P.U.vm := hZ.alike.trans X.warmed.alike
  obtain ⟨A, hx⟩ := txt_of wi al E V C K hc hb l2
  obtain ⟨v, B, X', ⟨⟨hv, hh⟩, hl, hk, hs⟩, st⟩ := ChN.pays x t A cs.length (fun j => cs.getD j 0) z fm i (tabChN_of (movedChN hZ hw)) hfr hlo m meth c P g ig mk _ X hg hsize hdg hW hn ⟨r1, r2, rfl, hx, hi, sta_is al S, hz, sta_is al F, rf⟩
  exact ⟨v, B, X', ⟨[], ⟨hv, rfl, hh⟩, hl, hk, hs⟩, st⟩
/-- what backV says of its String, as the contracts of this text ask it: cs's low bytes, coder 0 -/
theorem codOf {cs : List Int32} {n : Nat} (hn : cs.length = n) (hb : ∀ c ∈ cs, ¬ 255 < c) : CodA cs 0 (Int32.ofNat n) ((cs.map lo8).map Value.int) := Or.inl ⟨rfl, by rw [hn], by simp [List.map_map, Function.comp_def], hb⟩
end StrChars.Road
end Jvm.Pilot.@@N@@
namespace Jvm.Pilot.@@N@@
open Jvm Jvm.ClassFile Sem Op Lib Jvm.Free Jvm.Stand Jvm.LawKit Jvm.RoadKit Bundle Jvm.Pilot.@@N@@.Jvm.D
theorem own_and255 (x : Int32) : ¬ nar .char ((x &&& (255 : Int32)).toUInt32.toUInt16.toUInt32.toInt32) < 0 ∧ ¬ (255 : Int32) < nar .char ((x &&& (255 : Int32)).toUInt32.toUInt16.toUInt32.toInt32) := by
  have t : ∀ k : Fin 256, ¬ nar .char ((Int32.ofNat k.val).toUInt32.toUInt16.toUInt32.toInt32) < 0 ∧ ¬ (255 : Int32) < nar .char ((Int32.ofNat k.val).toUInt32.toUInt16.toUInt32.toInt32) := by decide +kernel
  have h : (x &&& 255).toBitVec.toNat < 256 := by
    simp only [Int32.toBitVec_and, BitVec.toNat_and]
    exact Nat.lt_succ_of_le Nat.and_le_right
  have e : (x &&& 255) = Int32.ofNat (x &&& 255).toBitVec.toNat := by
    apply Int32.toBitVec_inj.mp
    show _ = BitVec.ofNat 32 _
    rw [BitVec.ofNat_toNat]; simp
  rw [e]
  exact t ⟨_, h⟩
theorem own_up (cs : List Int32) (h : ∀ c ∈ cs, ¬ c < 0 ∧ ¬ (255 : Int32) < c) : ∀ c ∈ cs, ¬ c < 0 ∧ ¬ (65535 : Int32) < c := fun c hc => ⟨(h c hc).1, fun q => (h c hc).2 (by rw [Int32.lt_iff_toInt_lt] at q ⊢; have e1 : (65535 : Int32).toInt = 65535 := rfl; have e2 : (255 : Int32).toInt = 255 := rfl; omega)⟩
theorem own_l {w : Nat} (h : w < 9223372036854775808) : (Int64.ofNat w).toInt = w := by
  rw [Int64.toInt_ofNat_of_lt (by omega)]
theorem own_i {w : Nat} (h : w < 2147483648) : (Int32.ofNat w).toInt = w := by
  rw [Int32.toInt_ofNat_of_lt (by omega)]
def own_max (a b : Int64) : Int64 := if a < b then b else a
def own_put (cs : List Int32) (i w : Nat) : List Int32 := if w = 0 then cs else cs.set (i - 1) (Int32.ofNat (48 + w % 10))
def own_pi (i w : Nat) : Nat := if w = 0 then i else i - 1
def own_st (cs : List Int32) (i w : Nat) : Nat → List Int32 × Nat × Nat
  | 0 => (cs, i, w)
  | r + 1 => (own_put (own_st cs i w r).1 (own_st cs i w r).2.1 (own_st cs i w r).2.2, own_pi (own_st cs i w r).2.1 (own_st cs i w r).2.2, (own_st cs i w r).2.2 / 10)
theorem own_stc (cs : List Int32) (i w r r' : Nat) (h : r' = r + 1) : own_put (own_st cs i w r).1 (own_st cs i w r).2.1 (own_st cs i w r).2.2 = (own_st cs i w r').1 := by subst h; rfl
theorem own_sti (cs : List Int32) (i w r r' : Nat) (h : r' = r + 1) : own_pi (own_st cs i w r).2.1 (own_st cs i w r).2.2 = (own_st cs i w r').2.1 := by subst h; rfl
theorem own_stq (cs : List Int32) (i w r : Nat) : (own_st cs i w r).2.2 = w / 10 ^ r := by
  induction r with
  | zero => simp [own_st]
  | succ r ih => show (own_st cs i w r).2.2 / 10 = _; rw [ih, Nat.div_div_eq_div_mul, Nat.pow_succ]
theorem own_div {w : Nat} (h : w < 9223372036854775808) : Int64.ofNat w / (10 : Int64) = Int64.ofNat (w / 10) := by
  apply Int64.toInt_inj.mp
  have e := own_l h
  rw [(c_ldiv (Int64.ofNat w) 10 10 rfl (by decide)).1 (by omega), e, own_l (by omega)]
  omega
theorem own_stw (cs : List Int32) (i w r r' : Nat) (h : r' = r + 1) (hv : w < 9223372036854775808) : Int64.ofNat (own_st cs i w r).2.2 / (10 : Int64) = Int64.ofNat (own_st cs i w r').2.2 := by
  have q : (own_st cs i w r).2.2 ≤ w := by rw [own_stq]; exact Nat.div_le_self _ _
  rw [own_div (by omega)]; subst h; rfl
theorem own_z {w : Nat} (h : w < 9223372036854775808) : lcmpW (Int64.ofNat w) (0 : Int64) = (0 : Int32) ↔ w = 0 := by
  rw [lw_eq]
  refine ⟨fun q => ?_, fun q => by subst q; rfl⟩
  have := congrArg Int64.toInt q
  rw [own_l h] at this
  have e0 : (0 : Int64).toInt = 0 := rfl
  omega
theorem own_i1 {i : Nat} (h1 : 1 ≤ i) (h2 : i ≤ 23) : Int32.ofNat i - (1 : Int32) = Int32.ofNat (i - 1) := by
  have t : ∀ k : Fin 24, 1 ≤ k.val → Int32.ofNat k.val - (1 : Int32) = Int32.ofNat (k.val - 1) := by decide +kernel
  exact t ⟨i, by omega⟩ h1
theorem own_ch {w : Nat} (h : w < 9223372036854775808) : ((48 : Int32) + (Int64.ofNat w - (Int64.ofNat w / (10 : Int64)) * (10 : Int64)).toInt32).toUInt32.toUInt16.toUInt32.toInt32 = Int32.ofNat (48 + w % 10) := by
  have t : ∀ k : Fin 10, ((48 : Int32) + (Int64.ofNat k.val).toInt32).toUInt32.toUInt16.toUInt32.toInt32 = Int32.ofNat (48 + k.val) := by decide +kernel
  have e : Int64.ofNat w - (Int64.ofNat w / (10 : Int64)) * (10 : Int64) = Int64.ofNat (w % 10) := by
    apply Int64.toInt_inj.mp
    have e := own_l h
    rw [(c_lrem (Int64.ofNat w) 10 10 rfl).1 (by omega), e, own_l (by omega)]
    omega
  rw [e]
  exact t ⟨w % 10, Nat.mod_lt _ (by decide)⟩
theorem own_nar (w : Nat) : nar .char (Int32.ofNat (48 + w % 10)) = Int32.ofNat (48 + w % 10) := by
  have t : ∀ k : Fin 10, nar .char (Int32.ofNat (48 + k.val)) = Int32.ofNat (48 + k.val) := by decide +kernel
  exact t ⟨w % 10, Nat.mod_lt _ (by decide)⟩
theorem own_set {cs : List Int32} {i w : Nat} (h : ¬ w = 0) : (cs.map Value.int).set (i - 1) (.int (nar .char (Int32.ofNat (48 + w % 10)))) = (own_put cs i w).map Value.int := by
  rw [own_nar]; simp [own_put, h, List.map_set]
theorem own_len (cs : List Int32) (i w r : Nat) : (own_st cs i w r).1.length = cs.length := by
  induction r with
  | zero => rfl
  | succ r ih => show (own_put _ _ _).length = _; unfold own_put; split <;> simp [ih]
def own_cnt (w : Nat) : Nat → Nat
  | 0 => 0
  | r + 1 => own_cnt w r + (if w / 10 ^ r = 0 then 0 else 1)
theorem own_cnt_le (w r : Nat) : own_cnt w r ≤ r := by
  induction r with
  | zero => exact Nat.le_refl _
  | succ r ih => show own_cnt w r + _ ≤ _; split <;> omega
theorem own_pow (w r : Nat) : w / 10 ^ (r + 1) = w / 10 ^ r / 10 := by rw [Nat.div_div_eq_div_mul, Nat.pow_succ]
theorem own_cnt_eq (w r : Nat) (h : ¬ w / 10 ^ r = 0) : own_cnt w (r + 1) = r + 1 := by
  induction r with
  | zero => show 0 + _ = _; rw [if_neg h]
  | succ r ih =>
    have : ¬ w / 10 ^ r = 0 := fun q => h (by rw [own_pow, q])
    show own_cnt w (r + 1) + _ = _
    rw [ih this, if_neg h]
theorem own_cnt_two (w r : Nat) : (own_cnt w r = r ∨ w / 10 ^ own_cnt w r = 0) ∧ (own_cnt w r = 0 ∨ ¬ w / 10 ^ (own_cnt w r - 1) = 0) := by
  induction r with
  | zero => exact ⟨Or.inl rfl, Or.inl rfl⟩
  | succ r ih =>
    by_cases q : w / 10 ^ r = 0
    · have e : own_cnt w (r + 1) = own_cnt w r := by show own_cnt w r + _ = _; rw [if_pos q]; rfl
      rw [e]
      refine ⟨Or.inr ?_, ih.2⟩
      rcases ih.1 with u | u
      · rw [u]; exact q
      · exact u
    · rw [own_cnt_eq w r q]
      exact ⟨Or.inl rfl, Or.inr q⟩
theorem own_idx (cs : List Int32) (i w r : Nat) : (own_st cs i w r).2.1 = i - own_cnt w r := by
  induction r with
  | zero => rfl
  | succ r ih =>
    show own_pi _ _ = i - (own_cnt w r + _)
    rw [own_stq, ih]
    unfold own_pi
    split <;> omega
theorem own_dig (cs : List Int32) (i w r : Nat) (hi : i ≤ cs.length) (hr : r ≤ i) : ∀ t, t < r → ¬ w / 10 ^ t = 0 → (own_st cs i w r).1.getD (i - 1 - t) 0 = Int32.ofNat (48 + w / 10 ^ t % 10) := by
  induction r with
  | zero => intro t ht; omega
  | succ r ih =>
    intro t ht hne
    show (own_put (own_st cs i w r).1 (own_st cs i w r).2.1 (own_st cs i w r).2.2).getD _ _ = _
    rw [own_stq, own_idx]
    unfold own_put
    by_cases q : w / 10 ^ r = 0
    · rw [if_pos q]
      have : t ≠ r := fun z => hne (z ▸ q)
      exact ih (by omega) t (by omega) hne
    · rw [if_neg q]
      have e : own_cnt w r = r := by
        cases r with
        | zero => rfl
        | succ r' => exact own_cnt_eq w r' fun z => q (by rw [own_pow, z])
      rw [e]
      by_cases z : t = r
      · subst z
        rw [show i - t - 1 = i - 1 - t by omega]
        simp only [List.getD_eq_getElem?_getD]
        rw [List.getElem?_set_self (by rw [own_len]; omega)]
        rfl
      · have := ih (by omega) t (by omega) hne
        simp only [List.getD_eq_getElem?_getD] at this ⊢
        rw [List.getElem?_set_ne (by omega)]
        exact this
theorem own_bnd (cs : List Int32) (i w r : Nat) (h : ∀ c ∈ cs, ¬ c < 0 ∧ ¬ (255 : Int32) < c) : ∀ c ∈ (own_st cs i w r).1, ¬ c < 0 ∧ ¬ (255 : Int32) < c := by
  have t : ∀ k : Fin 10, ¬ Int32.ofNat (48 + k.val) < 0 ∧ ¬ (255 : Int32) < Int32.ofNat (48 + k.val) := by decide +kernel
  induction r with
  | zero => exact h
  | succ r ih =>
    show ∀ c ∈ own_put _ _ _, _
    unfold own_put
    split
    · exact ih
    · intro c hc
      rcases List.mem_or_eq_of_mem_set hc with q | q
      · exact ih c q
      · rw [q]; exact t ⟨_, Nat.mod_lt _ (by decide)⟩
/-- the digits of v: how many, and where they stand behind 19 turns -/
theorem own_fin (cs : List Int32) (e v : Nat) (hcs : cs.length = 23) (he : 19 ≤ e) (he2 : e ≤ 22) (hv : 1 ≤ v) (hv2 : v < 9223372036854775808) : ∃ D, 1 ≤ D ∧ D ≤ 19 ∧ (own_st cs e v 19).2.1 = e - D ∧ v / 10 ^ D = 0 ∧ ¬ v / 10 ^ (D - 1) = 0 ∧ ∀ t, t < D → (own_st cs e v 19).1.getD (e - 1 - t) 0 = Int32.ofNat (48 + v / 10 ^ t % 10) := by
  have h2 := own_cnt_two v 19
  have hle := own_cnt_le v 19
  have h1 : 1 ≤ own_cnt v 19 := by
    have m : ∀ r, own_cnt v (r + 1) ≥ 1 := fun r => by
      induction r with
      | zero => rw [own_cnt_eq v 0 (by simp; omega)]; exact Nat.le_refl _
      | succ r ih => show own_cnt v (r + 1) + _ ≥ 1; omega
    exact m 18
  have hz : v / 10 ^ own_cnt v 19 = 0 := by
    rcases h2.1 with q | q
    · rw [q]; apply Nat.div_eq_of_lt; omega
    · exact q
  have hn : ¬ v / 10 ^ (own_cnt v 19 - 1) = 0 := by
    rcases h2.2 with q | q
    · omega
    · exact q
  refine ⟨own_cnt v 19, h1, hle, own_idx cs e v 19, hz, hn, fun t ht => own_dig cs e v 19 (by omega) (by omega) t (by omega) fun q => hn ?_⟩
  have : v / 10 ^ (own_cnt v 19 - 1) ≤ v / 10 ^ t := Nat.div_le_div_left (Nat.pow_le_pow_right (by decide) (by omega)) (Nat.pow_pos (by decide))
  rw [q] at this
  exact Nat.le_zero.mp this
theorem own_stlt (cs : List Int32) (i w r : Nat) (h : w < 9223372036854775808) : (own_st cs i w r).2.2 < 9223372036854775808 := by
  rw [own_stq]; exact Nat.lt_of_le_of_lt (Nat.div_le_self _ _) h
theorem own_hi (cs : List Int32) (i w r : Nat) (h1 : 19 ≤ i) (h2 : i ≤ 22) (hr : r ≤ 18) : ¬ (own_st cs i w r).2.2 = 0 → 1 ≤ (own_st cs i w r).2.1 ∧ (own_st cs i w r).2.1 ≤ 23 := fun _ => by
  have q1 := own_idx cs i w r
  have q2 := own_cnt_le w r
  omega
theorem own_v (x : Int64) : ∃ v : Nat, own_max (1 : Int64) x = Int64.ofNat v ∧ 1 ≤ v ∧ v < 9223372036854775808 := by
  have h1 : (1 : Int64).toInt = 1 := rfl
  have h : 1 ≤ (own_max 1 x).toInt := by
    unfold own_max; split
    · rename_i q; rw [Int64.lt_iff_toInt_lt] at q; omega
    · omega
  have r := rng64 (own_max 1 x)
  refine ⟨(own_max 1 x).toInt.toNat, ?_, by omega, by omega⟩
  apply Int64.toInt_inj.mp
  rw [own_l (by omega)]; omega
theorem own_e (x : Int32) : ∃ e : Nat, (19 : Int32) + (x &&& (3 : Int32)) = Int32.ofNat e ∧ 19 ≤ e ∧ e ≤ 22 := by
  have m := c_mask x 3 2 (by decide) (by decide)
  have a := c_iadd 19 (x &&& 3)
  have r := rng32 ((19 : Int32) + (x &&& (3 : Int32)))
  have h19 : (19 : Int32).toInt = 19 := rfl
  refine ⟨((19 : Int32) + (x &&& (3 : Int32))).toInt.toNat, ?_, by omega, by omega⟩
  apply Int32.toInt_inj.mp
  rw [own_i (by omega)]; omega
theorem own_mxz {v : Nat} (h1 : 1 ≤ v) (h : v < 9223372036854775808) : ((9223372036854775807 : Int64) - Int64.ofNat v + (1 : Int64)).toInt = 9223372036854775808 - v := by
  have e := own_l h
  have a := c_lsub 9223372036854775807 (Int64.ofNat v)
  have b := c_ladd ((9223372036854775807 : Int64) - Int64.ofNat v) 1
  have r1 := rng64 ((9223372036854775807 : Int64) - Int64.ofNat v)
  have r2 := rng64 ((9223372036854775807 : Int64) - Int64.ofNat v + (1 : Int64))
  have e1 : (1 : Int64).toInt = 1 := rfl
  have e2 : (9223372036854775807 : Int64).toInt = 9223372036854775807 := rfl
  omega
theorem own_mxn {v : Nat} (h1 : 1 ≤ v) (h : v < 9223372036854775808) : ((9223372036854775807 : Int64) - Int64.ofNat v + (1 : Int64)) ≠ 0 := fun q => by
  have := own_mxz h1 h
  rw [q] at this
  have e0 : (0 : Int64).toInt = 0 := rfl
  omega
theorem own_mx {v : Nat} (h1 : 1 ≤ v) (h : v < 9223372036854775808) (q : Int64) : (v : Int) ≤ (Int64.ofNat v + ((q &&& (9223372036854775807 : Int64)) - ((q &&& (9223372036854775807 : Int64)) / ((9223372036854775807 : Int64) - Int64.ofNat v + (1 : Int64))) * ((9223372036854775807 : Int64) - Int64.ofNat v + (1 : Int64)))).toInt := by
  have ez := own_mxz h1 h
  have m := c_maskL q 9223372036854775807 63 (by decide) (by decide)
  have l := (c_lrem (q &&& (9223372036854775807 : Int64)) _ _ ez).1 (by omega)
  have p0 := Int.emod_nonneg (q &&& (9223372036854775807 : Int64)).toInt (show (9223372036854775808 - (v : Int)) ≠ 0 by omega)
  have p1 := Int.emod_lt_of_pos (q &&& (9223372036854775807 : Int64)).toInt (show 0 < (9223372036854775808 - (v : Int)) by omega)
  have a := c_ladd (Int64.ofNat v) ((q &&& (9223372036854775807 : Int64)) - ((q &&& (9223372036854775807 : Int64)) / ((9223372036854775807 : Int64) - Int64.ofNat v + (1 : Int64))) * ((9223372036854775807 : Int64) - Int64.ofNat v + (1 : Int64)))
  have r := rng64 (Int64.ofNat v + ((q &&& (9223372036854775807 : Int64)) - ((q &&& (9223372036854775807 : Int64)) / ((9223372036854775807 : Int64) - Int64.ofNat v + (1 : Int64))) * ((9223372036854775807 : Int64) - Int64.ofNat v + (1 : Int64))))
  have e := own_l h
  rw [e, l] at a
  omega
theorem d1_0 : decode jdk_29_method_66_code 0 = .ok (.lload_n 0, 1) := by decide +kernel
theorem d1_1 : decode jdk_29_method_66_code 1 = .ok (.lload_n 2, 1) := by decide +kernel
theorem d1_2 : decode jdk_29_method_66_code 2 = .ok (.lcmp, 1) := by decide +kernel
theorem d1_3 : decode jdk_29_method_66_code 3 = .ok (.ifCond .lt 7, 3) := by decide +kernel
theorem d1_6 : decode jdk_29_method_66_code 6 = .ok (.lload_n 0, 1) := by decide +kernel
theorem d1_7 : decode jdk_29_method_66_code 7 = .ok (.goto 4, 3) := by decide +kernel
theorem d1_10 : decode jdk_29_method_66_code 10 = .ok (.lload_n 2, 1) := by decide +kernel
theorem d1_11 : decode jdk_29_method_66_code 11 = .ok (.lreturn, 1) := by decide +kernel
theorem pf_1 : plainFor (⟨"java/lang/Math", "max", "(JJ)J"⟩ : MethodName) = true := by decide +kernel
theorem ef_1 (m : MethodId) (x0 : Int64) (x1 : Int64) : entryFrame m #[(.long x0), (.long x1)] 4 = mkF m 0 #[.val (.long x0), .second, .val (.long x1), .second] [] := by first | (simp [entryFrame, mkF, argsToLocals, Value.category]; done) | rfl
def Q_rm1 (Z : State) (q1 q2 : Int64) (h0 : Heap) (n0 : Nat) (v : Option Value) (h : Heap) (L : List Loc) : Prop := v = some (.long (own_max q1 q2)) ∧ Fr n0 L ∧ h = h0
set_option maxRecDepth 65536 in
set_option maxHeartbeats 40000000 in
theorem rm1 (l : Launch) (Z : State) (a0 : Array Value) (hw : ∀ d ∈ tables_1, d.before a0 Z = true) (q1 q2 : Int64) (h0 : Heap) (n0 : Nat) (Z0 : n0 ≤ h0.size)  :
    MetFree l (⟨"java/lang/Math", "max", "(JJ)J"⟩ : MethodName) (head1 [Jvm.Cond.code (⟨"java/lang/Math", "max", "(JJ)J"⟩ : MethodName) jdk_29_method_66_code 4 (some .long)] ({ frames := 0, cells := 0, slots := 0, locals := 0 } : Room)) (fun a U => a = #[(.long q1), (.long q2)] ∧ Z.Warmed39 U.vm ∧ U.heap = h0) (fun _ _ _ _ _ => True) (fun _ U o U' => ∃ v L, o = .returned v ∧ (Q_rm1 Z q1 q2 h0 n0) v U'.heap L ∧ FrameEnd U o U' L ({ frames := 0, cells := 0, slots := 0, locals := 0 } : Room).cells ({ frames := 0, cells := 0, slots := 0, locals := 0 } : Room).slots) := by
  refine MetFree.of_bodySF pf_1 hisR ?_
  intro p e s m args below meth c s₁ Bd hml0 hP hK
  obtain ⟨rfl, hZ, hh⟩ := hP
  have hx := Bd.exec
  have hby := Bd.bytes
  have hml : c.maxLocals = 4 := hml0
  have hown : s.vm.findClass "java/lang/Math" = some m.cls := findClass_of_methodNamed Bd.named
  have hnm := (name_of_methodNamed Bd.named Bd.method).1
  have X0 : Stand p l e ({ frames := 0, cells := 0, slots := 0, locals := 0 } : Room) s m #[(.long q1), (.long q2)] below meth c s₁ [] 0 0 := Stand.of_body Bd
  have e0 : s₁.heap = h0 := by rw [← hh, Bd.state]; rfl
  have N0 := Fr.nil n0
  have K0 : Keep h0 h0 [] := Keep.refl h0 []
  show Go p e below (s₁.setTop (entryFrame m #[(.long q1), (.long q2)] 4)) (EndN s (Q_rm1 Z q1 q2 h0 n0) ({ frames := 0, cells := 0, slots := 0, locals := 0 } : Room).cells ({ frames := 0, cells := 0, slots := 0, locals := 0 } : Room).slots)
  refine Go.top (ef_1 m q1 q2) ?_
  refine Go.st (T' := s₁.setTop (mkF m 1 #[.val (.long q1), .second, .val (.long q2), .second] [(.long q1)])) (fun zt zk => XS.lloadN X0.here hx rfl (hb hby d1_0) rfl zk) ?_
  refine Go.st (T' := s₁.setTop (mkF m 2 #[.val (.long q1), .second, .val (.long q2), .second] [(.long q2), (.long q1)])) (fun zt zk => XS.lloadN X0.here hx rfl (hb hby d1_1) rfl zk) ?_
  refine Go.st (T' := s₁.setTop (mkF m 3 #[.val (.long q1), .second, .val (.long q2), .second] [(.int (lcmpW q1 q2))])) (fun zt zk => XS.lcmp X0.here hx rfl (hb hby d1_2) rfl zk) ?_
  by_cases hl1 : (lcmpW q1 q2) < (0 : Int32)
  ·
    refine Go.st (T' := s₁.setTop (mkF m 10 #[.val (.long q1), .second, .val (.long q2), .second] [])) (fun zt zk => XS.ifYes X0.here hx rfl (pc0 := 3) (pc' := 10) rfl (hb hby d1_3) rfl ((if0 _ _).trans (tlt hl1).1) (by decide) (by decide) zk) ?_
    refine Go.st (T' := s₁.setTop (mkF m 11 #[.val (.long q1), .second, .val (.long q2), .second] [(.long q2)])) (fun zt zk => XS.lloadN X0.here hx rfl (hb hby d1_10) rfl zk) ?_
    exact Go.done X0 Bd.notSynchronized (v := some (.long q2)) (fun h => by rw [Bd.returns] at h; cases h) (fun fs hr => retJ X0 hx Bd.returns (hb hby d1_11) hr) (by rw [e0]; exact ⟨by rw [lw_lt] at hl1; simp [own_max, hl1], N0, rfl⟩) (by decide) (by decide)
  ·
    refine Go.st (T' := s₁.setTop (mkF m 6 #[.val (.long q1), .second, .val (.long q2), .second] [])) (fun zt zk => XS.ifNo X0.here hx rfl (hb hby d1_3) rfl ((if0 _ _).trans (flt hl1).1) zk) ?_
    refine Go.st (T' := s₁.setTop (mkF m 7 #[.val (.long q1), .second, .val (.long q2), .second] [(.long q1)])) (fun zt zk => XS.lloadN X0.here hx rfl (hb hby d1_6) rfl zk) ?_
    refine Go.st (T' := s₁.setTop (mkF m 11 #[.val (.long q1), .second, .val (.long q2), .second] [(.long q1)])) (fun zt zk => XS.goto X0.here hx rfl (pc0 := 7) (pc' := 11) rfl (hb hby d1_7) (by decide) (by decide) zk) ?_
    exact Go.done X0 Bd.notSynchronized (v := some (.long q1)) (fun h => by rw [Bd.returns] at h; cases h) (fun fs hr => retJ X0 hx Bd.returns (hb hby d1_11) hr) (by rw [e0]; exact ⟨by rw [lw_lt] at hl1; simp [own_max, hl1], N0, rfl⟩) (by decide) (by decide)
theorem d2_0 : decode method_2_code 0 = .ok (.lload_n 2, 1) := by decide +kernel
theorem d2_1 : decode method_2_code 1 = .ok (.lconst 0, 1) := by decide +kernel
theorem d2_2 : decode method_2_code 2 = .ok (.lcmp, 1) := by decide +kernel
theorem d2_3 : decode method_2_code 3 = .ok (.ifCond .ne 5, 3) := by decide +kernel
theorem d2_6 : decode method_2_code 6 = .ok (.iload_n 1, 1) := by decide +kernel
theorem d2_7 : decode method_2_code 7 = .ok (.ireturn, 1) := by decide +kernel
theorem d2_8 : decode method_2_code 8 = .ok (.aload_n 0, 1) := by decide +kernel
theorem d2_9 : decode method_2_code 9 = .ok (.iload_n 1, 1) := by decide +kernel
theorem d2_10 : decode method_2_code 10 = .ok (.iconst 1, 1) := by decide +kernel
theorem d2_11 : decode method_2_code 11 = .ok (.isub, 1) := by decide +kernel
theorem d2_12 : decode method_2_code 12 = .ok (.bipush 48, 2) := by decide +kernel
theorem d2_14 : decode method_2_code 14 = .ok (.lload_n 2, 1) := by decide +kernel
theorem d2_15 : decode method_2_code 15 = .ok (.ldc2_w 7, 3) := by decide +kernel
theorem d2_18 : decode method_2_code 18 = .ok (.lrem, 1) := by decide +kernel
theorem d2_19 : decode method_2_code 19 = .ok (.l2i, 1) := by decide +kernel
theorem d2_20 : decode method_2_code 20 = .ok (.iadd, 1) := by decide +kernel
theorem d2_21 : decode method_2_code 21 = .ok (.i2c, 1) := by decide +kernel
theorem d2_22 : decode method_2_code 22 = .ok (.castore, 1) := by decide +kernel
theorem d2_23 : decode method_2_code 23 = .ok (.iload_n 1, 1) := by decide +kernel
theorem d2_24 : decode method_2_code 24 = .ok (.iconst 1, 1) := by decide +kernel
theorem d2_25 : decode method_2_code 25 = .ok (.isub, 1) := by decide +kernel
theorem d2_26 : decode method_2_code 26 = .ok (.ireturn, 1) := by decide +kernel
theorem pn_2c6e753 : plainName "com/example/beaulieu/beaulieu/model/DecimalParsePositivePinLaw" = true := by first | (simp [plainName, overriddenIn]; done) | decide +kernel
theorem ef_2 (m : MethodId) (x0 : Addr) (x1 : Int32) (x2 : Int64) : entryFrame m #[(.ref x0), (.int x1), (.long x2)] 4 = mkF m 0 #[.val (.ref x0), .val (.int x1), .val (.long x2), .second] [] := by first | (simp [entryFrame, mkF, argsToLocals, Value.category]; done) | rfl
def Q_rm2 (Z : State) (a1 : Addr) (ni nw : Nat) (cs : List Int32) (kA : ClassId) (h0 : Heap) (n0 : Nat) (v : Option Value) (h : Heap) (L : List Loc) : Prop := v = some (.int (Int32.ofNat (own_pi ni nw))) ∧ Fr n0 L ∧ Keep h0 h [a1] ∧ Arv Z h a1 kA .char (23 : Int32) ((own_put cs ni nw).map Value.int) (.int (0 : Int32))
set_option maxRecDepth 65536 in
set_option maxHeartbeats 40000000 in
theorem rm2 (l : Launch) (Z : State) (a0 : Array Value) (hw : ∀ d ∈ tables_1, d.before a0 Z = true) (a1 : Addr) (ni nw : Nat) (cs : List Int32) (kA : ClassId) (h0 : Heap) (n0 : Nat) (Z0 : n0 ≤ h0.size) (V1 : Arv Z h0 a1 kA .char (23 : Int32) (cs.map Value.int) (.int (0 : Int32))) (hlen : cs.length = 23) (hlt : nw < 9223372036854775808) (hi : ¬ nw = 0 → 1 ≤ ni ∧ ni ≤ 23) (g_a1 : n0 ≤ a1) :
    MetFree l (⟨"com/example/beaulieu/beaulieu/model/DecimalParsePositivePinLaw", "put", "([CIJ)I"⟩ : MethodName) (head1 [Jvm.Cond.code (⟨"com/example/beaulieu/beaulieu/model/DecimalParsePositivePinLaw", "put", "([CIJ)I"⟩ : MethodName) method_2_code 4 (some .int)] ({ frames := 0, cells := 0, slots := 0, locals := 0 } : Room)) (fun a U => a = #[(.ref a1), (.int (Int32.ofNat ni)), (.long (Int64.ofNat nw))] ∧ Z.Warmed39 U.vm ∧ U.heap = h0) (fun _ _ _ _ _ => True) (fun _ U o U' => ∃ v L, o = .returned v ∧ (Q_rm2 Z a1 ni nw cs kA h0 n0) v U'.heap L ∧ FrameEnd U o U' L ({ frames := 0, cells := 0, slots := 0, locals := 0 } : Room).cells ({ frames := 0, cells := 0, slots := 0, locals := 0 } : Room).slots) := by
  refine MetFree.of_bodySF (plainFor_of_name pn_2c6e753) hisR ?_
  intro p e s m args below meth c s₁ Bd hml0 hP hK
  obtain ⟨rfl, hZ, hh⟩ := hP
  have hx := Bd.exec
  have hby := Bd.bytes
  have hml : c.maxLocals = 4 := hml0
  have hown : s.vm.findClass "com/example/beaulieu/beaulieu/model/DecimalParsePositivePinLaw" = some m.cls := findClass_of_methodNamed Bd.named
  have hnm := (name_of_methodNamed Bd.named Bd.method).1
  have X0 : Stand p l e ({ frames := 0, cells := 0, slots := 0, locals := 0 } : Room) s m #[(.ref a1), (.int (Int32.ofNat ni)), (.long (Int64.ofNat nw))] below meth c s₁ [] 0 0 := Stand.of_body Bd
  have e0 : s₁.heap = h0 := by rw [← hh, Bd.state]; rfl
  have N0 := Fr.nil n0
  have K0 : Keep h0 h0 [a1] := Keep.refl h0 [a1]
  show Go p e below (s₁.setTop (entryFrame m #[(.ref a1), (.int (Int32.ofNat ni)), (.long (Int64.ofNat nw))] 4)) (EndN s (Q_rm2 Z a1 ni nw cs kA h0 n0) ({ frames := 0, cells := 0, slots := 0, locals := 0 } : Room).cells ({ frames := 0, cells := 0, slots := 0, locals := 0 } : Room).slots)
  refine Go.top (ef_2 m a1 (Int32.ofNat ni) (Int64.ofNat nw)) ?_
  refine Go.st (T' := s₁.setTop (mkF m 1 #[.val (.ref a1), .val (.int (Int32.ofNat ni)), .val (.long (Int64.ofNat nw)), .second] [(.long (Int64.ofNat nw))])) (fun zt zk => XS.lloadN X0.here hx rfl (hb hby d2_0) rfl zk) ?_
  refine Go.st (T' := s₁.setTop (mkF m 2 #[.val (.ref a1), .val (.int (Int32.ofNat ni)), .val (.long (Int64.ofNat nw)), .second] [(.long (0 : Int64)), (.long (Int64.ofNat nw))])) (fun zt zk => XS.lconst X0.here hx rfl (hb hby d2_1) zk) ?_
  refine Go.st (T' := s₁.setTop (mkF m 3 #[.val (.ref a1), .val (.int (Int32.ofNat ni)), .val (.long (Int64.ofNat nw)), .second] [(.int (lcmpW (Int64.ofNat nw) (0 : Int64)))])) (fun zt zk => XS.lcmp X0.here hx rfl (hb hby d2_2) rfl zk) ?_
  by_cases hz : (lcmpW (Int64.ofNat nw) (0 : Int64)) = (0 : Int32)
  ·
    refine Go.st (T' := s₁.setTop (mkF m 6 #[.val (.ref a1), .val (.int (Int32.ofNat ni)), .val (.long (Int64.ofNat nw)), .second] [])) (fun zt zk => XS.ifNo X0.here hx rfl (hb hby d2_3) rfl ((if0 _ _).trans (teq hz).2) zk) ?_
    refine Go.st (T' := s₁.setTop (mkF m 7 #[.val (.ref a1), .val (.int (Int32.ofNat ni)), .val (.long (Int64.ofNat nw)), .second] [(.int (Int32.ofNat ni))])) (fun zt zk => XS.iloadN X0.here hx rfl (hb hby d2_6) rfl zk) ?_
    rw [own_z hlt] at hz
    exact Go.done X0 Bd.notSynchronized (v := some (.int (Int32.ofNat ni))) (fun h => by rw [Bd.returns] at h; cases h) (fun fs hr => retI X0 hx Bd.returns (hb hby d2_7) hr) (by rw [e0]; exact ⟨by simp [own_pi, hz], N0, K0, by simpa [own_put, hz] using V1⟩) (by decide) (by decide)
  ·
    refine Go.st (T' := s₁.setTop (mkF m 8 #[.val (.ref a1), .val (.int (Int32.ofNat ni)), .val (.long (Int64.ofNat nw)), .second] [])) (fun zt zk => XS.ifYes X0.here hx rfl (pc0 := 3) (pc' := 8) rfl (hb hby d2_3) rfl ((if0 _ _).trans (feq hz).2) (by decide) (by decide) zk) ?_
    rw [own_z hlt] at hz
    obtain ⟨hi1, hi2⟩ := hi hz
    have hI := own_i1 hi1 hi2
    refine Go.st (T' := s₁.setTop (mkF m 9 #[.val (.ref a1), .val (.int (Int32.ofNat ni)), .val (.long (Int64.ofNat nw)), .second] [(.ref a1)])) (fun zt zk => XS.aloadN X0.here hx rfl (hb hby d2_8) rfl rfl zk) ?_
    refine Go.st (T' := s₁.setTop (mkF m 10 #[.val (.ref a1), .val (.int (Int32.ofNat ni)), .val (.long (Int64.ofNat nw)), .second] [(.int (Int32.ofNat ni)), (.ref a1)])) (fun zt zk => XS.iloadN X0.here hx rfl (hb hby d2_9) rfl zk) ?_
    refine Go.st (T' := s₁.setTop (mkF m 11 #[.val (.ref a1), .val (.int (Int32.ofNat ni)), .val (.long (Int64.ofNat nw)), .second] [(.int (1 : Int32)), (.int (Int32.ofNat ni)), (.ref a1)])) (fun zt zk => XS.iconst X0.here hx rfl (hb hby d2_10) zk) ?_
    refine Go.st (T' := s₁.setTop (mkF m 12 #[.val (.ref a1), .val (.int (Int32.ofNat ni)), .val (.long (Int64.ofNat nw)), .second] [(.int ((Int32.ofNat ni) - (1 : Int32))), (.ref a1)])) (fun zt zk => XS.isub X0.here hx rfl (hb hby d2_11) rfl zk) ?_
    rw [hI]
    refine Go.st (T' := s₁.setTop (mkF m 14 #[.val (.ref a1), .val (.int (Int32.ofNat ni)), .val (.long (Int64.ofNat nw)), .second] [(.int (48 : Int32)), (.int (Int32.ofNat (ni - 1))), (.ref a1)])) (fun zt zk => XS.bipush X0.here hx rfl (hb hby d2_12) zk) ?_
    refine Go.st (T' := s₁.setTop (mkF m 15 #[.val (.ref a1), .val (.int (Int32.ofNat ni)), .val (.long (Int64.ofNat nw)), .second] [(.long (Int64.ofNat nw)), (.int (48 : Int32)), (.int (Int32.ofNat (ni - 1))), (.ref a1)])) (fun zt zk => XS.lloadN X0.here hx rfl (hb hby d2_14) rfl zk) ?_
    refine Go.st (T' := s₁.setTop (mkF m 18 #[.val (.ref a1), .val (.int (Int32.ofNat ni)), .val (.long (Int64.ofNat nw)), .second] [(.long (10 : Int64)), (.long (Int64.ofNat nw)), (.int (48 : Int32)), (.int (Int32.ofNat (ni - 1))), (.ref a1)])) (fun zt zk => X0.ldc2Long hx hown (mvT hZ (hw _ (List.mem_of_getElem? (i := 10) rfl))) (g := (mkF m 15 #[.val (.ref a1), .val (.int (Int32.ofNat ni)), .val (.long (Int64.ofNat nw)), .second] [(.long (Int64.ofNat nw)), (.int (48 : Int32)), (.int (Int32.ofNat (ni - 1))), (.ref a1)])) rfl (hb hby d2_15) zt zk) ?_
    refine Go.st (T' := s₁.setTop (mkF m 19 #[.val (.ref a1), .val (.int (Int32.ofNat ni)), .val (.long (Int64.ofNat nw)), .second] [(.long ((Int64.ofNat nw) - ((Int64.ofNat nw) / (10 : Int64)) * (10 : Int64))), (.int (48 : Int32)), (.int (Int32.ofNat (ni - 1))), (.ref a1)])) (fun zt zk => XS.lrem X0.here hx rfl (hb hby d2_18) rfl (by decide) zk) ?_
    refine Go.st (T' := s₁.setTop (mkF m 20 #[.val (.ref a1), .val (.int (Int32.ofNat ni)), .val (.long (Int64.ofNat nw)), .second] [(.int (((Int64.ofNat nw) - ((Int64.ofNat nw) / (10 : Int64)) * (10 : Int64)).toInt32)), (.int (48 : Int32)), (.int (Int32.ofNat (ni - 1))), (.ref a1)])) (fun zt zk => XS.l2i X0.here hx rfl (hb hby d2_19) rfl zk) ?_
    refine Go.st (T' := s₁.setTop (mkF m 21 #[.val (.ref a1), .val (.int (Int32.ofNat ni)), .val (.long (Int64.ofNat nw)), .second] [(.int ((48 : Int32) + (((Int64.ofNat nw) - ((Int64.ofNat nw) / (10 : Int64)) * (10 : Int64)).toInt32))), (.int (Int32.ofNat (ni - 1))), (.ref a1)])) (fun zt zk => XS.iadd X0.here hx rfl (hb hby d2_20) rfl zk) ?_
    refine Go.st (T' := s₁.setTop (mkF m 22 #[.val (.ref a1), .val (.int (Int32.ofNat ni)), .val (.long (Int64.ofNat nw)), .second] [(.int (((48 : Int32) + (((Int64.ofNat nw) - ((Int64.ofNat nw) / (10 : Int64)) * (10 : Int64)).toInt32)).toUInt32.toUInt16.toUInt32.toInt32)), (.int (Int32.ofNat (ni - 1))), (.ref a1)])) (fun zt zk => XS.i2c X0.here hx rfl (hb hby d2_21) rfl zk) ?_
    rw [own_ch hlt]
    have hT : (Int32.ofNat (ni - 1)).toNatClampNeg = ni - 1 := by simp only [Int32.toNatClampNeg]; rw [own_i (by omega)]; rfl
    obtain ⟨cl1, Ar1, q1, S1, M1, H1, G1⟩ := id V1
    obtain ⟨T1, h1, X1, e1, W1, st1⟩ := stC X0 hx hZ e0 Ar1 (j := (Int32.ofNat (ni - 1))) (inb_of S1 (by rw [Int32.lt_iff_toInt_lt, Int32.lt_iff_toInt_lt, own_i (by omega)]; exact ⟨by show ¬ ((ni - 1 : Nat) : Int) < 0; omega, by show ((ni - 1 : Nat) : Int) < 23; omega⟩)) (g := (mkF m 22 #[.val (.ref a1), .val (.int (Int32.ofNat ni)), .val (.long (Int64.ofNat nw)), .second] [(.int (Int32.ofNat (48 + nw % 10))), (.int (Int32.ofNat (ni - 1))), (.ref a1)])) rfl rfl (hb hby d2_22)
    have V1 : Arv Z h1 a1 kA .char (23 : Int32) ((cs.map Value.int).set (ni - 1) (.int (nar .char (Int32.ofNat (48 + nw % 10))))) (.int (0 : Int32)) := Arv.set Ar1 q1 S1 M1 H1 G1 (fits_nar_char _) W1 (ni - 1) hT (by rw [List.length_map, hlen]; omega)
    have K1 : Keep h0 h1 [a1] := K0.wr W1 (Or.inl (List.mem_of_getElem? (i := 0) rfl))
    have N1 := Fr.snoc X1 N0 g_a1
    refine Go.st (T' := T1.setTop (mkF m 23 #[.val (.ref a1), .val (.int (Int32.ofNat ni)), .val (.long (Int64.ofNat nw)), .second] [])) (fun zt zk => st1 zt zk) ?_
    rw [own_set hz] at V1
    refine Go.st (T' := T1.setTop (mkF m 24 #[.val (.ref a1), .val (.int (Int32.ofNat ni)), .val (.long (Int64.ofNat nw)), .second] [(.int (Int32.ofNat ni))])) (fun zt zk => XS.iloadN X1.here hx rfl (hb hby d2_23) rfl zk) ?_
    refine Go.st (T' := T1.setTop (mkF m 25 #[.val (.ref a1), .val (.int (Int32.ofNat ni)), .val (.long (Int64.ofNat nw)), .second] [(.int (1 : Int32)), (.int (Int32.ofNat ni))])) (fun zt zk => XS.iconst X1.here hx rfl (hb hby d2_24) zk) ?_
    refine Go.st (T' := T1.setTop (mkF m 26 #[.val (.ref a1), .val (.int (Int32.ofNat ni)), .val (.long (Int64.ofNat nw)), .second] [(.int ((Int32.ofNat ni) - (1 : Int32)))])) (fun zt zk => XS.isub X1.here hx rfl (hb hby d2_25) rfl zk) ?_
    rw [hI]
    exact Go.done X1 Bd.notSynchronized (v := some (.int (Int32.ofNat (ni - 1)))) (fun h => by rw [Bd.returns] at h; cases h) (fun fs hr => retI X1 hx Bd.returns (hb hby d2_26) hr) (by rw [e1]; exact ⟨by simp [own_pi, hz], N1, K1, V1⟩) (by decide) (by decide)
theorem own_first {D nv : Nat} (hD1 : 1 ≤ D) (hz : nv / 10 ^ D = 0) (hnz : ¬ nv / 10 ^ (D - 1) = 0) : ¬ Int32.ofNat (48 + nv / 10 ^ (D - 1) % 10) = (48 : Int32) := fun q => by
  have e1 := own_pow nv (D - 1)
  rw [show D - 1 + 1 = D by omega, hz] at e1
  generalize nv / 10 ^ (D - 1) = A at *
  have := congrArg Int32.toInt q
  rw [own_i (by omega)] at this
  have e48 : (48 : Int32).toInt = 48 := rfl
  omega
theorem own_dd (d : Nat) (h : d < 10) : ¬ Int32.ofNat (48 + d) < (48 : Int32) ∧ ¬ (57 : Int32) < Int32.ofNat (48 + d) ∧ (Int32.ofNat (48 + d) - (48 : Int32)).toInt64.toInt = d := by
  have t : ∀ k : Fin 10, ¬ Int32.ofNat (48 + k.val) < (48 : Int32) ∧ ¬ (57 : Int32) < Int32.ofNat (48 + k.val) ∧ (Int32.ofNat (48 + k.val) - (48 : Int32)).toInt64.toInt = (k.val : Nat) := by decide +kernel
  exact t ⟨d, h⟩
/-- one turn's numbers: from nv / 10 ^ (r + 1) by the digit of r to nv / 10 ^ r -/
theorem own_turn {nv r : Nat} {mx : Int64} (hv : nv < 9223372036854775808) (hmx : (nv : Int) ≤ mx.toInt) {x : Int64} (hx : x.toInt = (nv / 10 ^ r % 10 : Nat)) : ¬ (0 : Int32) < lcmpW (Int64.ofNat (nv / 10 ^ (r + 1))) ((mx - x) / (10 : Int64)) ∧ Int64.ofNat (nv / 10 ^ (r + 1)) * (10 : Int64) + x = Int64.ofNat (nv / 10 ^ r) := by
  have q1 : nv / 10 ^ r ≤ nv := Nat.div_le_self _ _
  have q2 := own_pow nv r
  generalize hA : nv / 10 ^ r = A at *
  rw [q2]
  have rm := rng64 mx
  have a1 := c_lsub mx x
  have r1 := rng64 (mx - x)
  have d1 := (c_ldiv (mx - x) 10 10 rfl (by decide)).1 (by omega)
  have e1 := own_l (w := A / 10) (by omega)
  have e2 := own_l (w := A) (by omega)
  constructor
  · rw [lw_gt, Int64.lt_iff_toInt_lt, d1, e1]; omega
  · apply Int64.toInt_inj.mp
    have m1 := c_lmul (Int64.ofNat (A / 10)) 10
    have a2 := c_ladd (Int64.ofNat (A / 10) * 10) x
    have r2 := rng64 (Int64.ofNat (A / 10) * 10)
    have r3 := rng64 (Int64.ofNat (A / 10) * 10 + x)
    have t10 : (10 : Int64).toInt = 10 := rfl
    rw [e1, t10] at m1
    rw [e2]; omega
theorem own_lt32 {i n : Nat} (hi : i < 2147483648) (hn : n < 2147483648) : Int32.ofNat i < Int32.ofNat n ↔ i < n := by
  rw [Int32.lt_iff_toInt_lt, own_i hi, own_i hn]; omega
theorem own_inc {i : Nat} (hi : i < 2147483647) : Int32.ofNat i + (1 : Int32) = Int32.ofNat (i + 1) := by
  apply Int32.toInt_inj.mp
  have a := c_iadd (Int32.ofNat i) 1
  have r := rng32 (Int32.ofNat i + 1)
  have e1 : (1 : Int32).toInt = 1 := rfl
  rw [own_i (by omega)] at a
  rw [own_i (by omega)]; omega
theorem own_os8 {z0 z1 z2 z3 z5 z7 : Value} {s8 s9 : Slot} {v : Int32} (h : One s8) : storeLocals #[.val z0, .val z1, .val z2, .val z3, .second, .val z5, .second, .val z7, s8, s9] 8 (.int v) = some #[.val z0, .val z1, .val z2, .val z3, .second, .val z5, .second, .val z7, .val (.int v), s9] := by
  rcases h with rfl | ⟨w, rfl, hw⟩
  · rfl
  · cases w <;> first | rfl | (simp [Value.category] at hw)
theorem own_os9 {z0 z1 z2 z3 z5 z7 z8 : Value} {s9 : Slot} {v : Int32} (h : One s9) : storeLocals #[.val z0, .val z1, .val z2, .val z3, .second, .val z5, .second, .val z7, .val z8, s9] 9 (.int v) = some #[.val z0, .val z1, .val z2, .val z3, .second, .val z5, .second, .val z7, .val z8, .val (.int v)] := by
  rcases h with rfl | ⟨w, rfl, hw⟩
  · rfl
  · cases w <;> first | rfl | (simp [Value.category] at hw)
theorem d9_0 : decode prog_11_method_2_code 0 = .ok (.iload_n 1, 1) := by decide +kernel
theorem d9_1 : decode prog_11_method_2_code 1 = .ok (.iload_n 2, 1) := by decide +kernel
theorem d9_2 : decode prog_11_method_2_code 2 = .ok (.if_icmp .ne 13, 3) := by decide +kernel
theorem d9_15 : decode prog_11_method_2_code 15 = .ok (.aload_n 0, 1) := by decide +kernel
theorem d9_16 : decode prog_11_method_2_code 16 = .ok (.iload_n 1, 1) := by decide +kernel
theorem d9_17 : decode prog_11_method_2_code 17 = .ok (.invokeinterface 14 2, 5) := by decide +kernel
theorem d9_22 : decode prog_11_method_2_code 22 = .ok (.bipush 48, 2) := by decide +kernel
theorem d9_24 : decode prog_11_method_2_code 24 = .ok (.if_icmp .ne 25, 3) := by decide +kernel
theorem d9_49 : decode prog_11_method_2_code 49 = .ok (.lconst 0, 1) := by decide +kernel
theorem d9_50 : decode prog_11_method_2_code 50 = .ok (.lstore 5, 2) := by decide +kernel
theorem d9_52 : decode prog_11_method_2_code 52 = .ok (.iload_n 1, 1) := by decide +kernel
theorem d9_53 : decode prog_11_method_2_code 53 = .ok (.istore 7, 2) := by decide +kernel
theorem d9_55 : decode prog_11_method_2_code 55 = .ok (.iload 7, 2) := by decide +kernel
theorem d9_57 : decode prog_11_method_2_code 57 = .ok (.iload_n 2, 1) := by decide +kernel
theorem d9_58 : decode prog_11_method_2_code 58 = .ok (.if_icmp .ge 91, 3) := by decide +kernel
theorem d9_61 : decode prog_11_method_2_code 61 = .ok (.aload_n 0, 1) := by decide +kernel
theorem d9_62 : decode prog_11_method_2_code 62 = .ok (.iload 7, 2) := by decide +kernel
theorem d9_64 : decode prog_11_method_2_code 64 = .ok (.invokeinterface 14 2, 5) := by decide +kernel
theorem d9_69 : decode prog_11_method_2_code 69 = .ok (.istore 8, 2) := by decide +kernel
theorem d9_71 : decode prog_11_method_2_code 71 = .ok (.iload 8, 2) := by decide +kernel
theorem d9_73 : decode prog_11_method_2_code 73 = .ok (.bipush 48, 2) := by decide +kernel
theorem d9_75 : decode prog_11_method_2_code 75 = .ok (.if_icmp .lt 10, 3) := by decide +kernel
theorem d9_78 : decode prog_11_method_2_code 78 = .ok (.iload 8, 2) := by decide +kernel
theorem d9_80 : decode prog_11_method_2_code 80 = .ok (.bipush 57, 2) := by decide +kernel
theorem d9_82 : decode prog_11_method_2_code 82 = .ok (.if_icmp .le 13, 3) := by decide +kernel
theorem d9_95 : decode prog_11_method_2_code 95 = .ok (.iload 8, 2) := by decide +kernel
theorem d9_97 : decode prog_11_method_2_code 97 = .ok (.bipush 48, 2) := by decide +kernel
theorem d9_99 : decode prog_11_method_2_code 99 = .ok (.isub, 1) := by decide +kernel
theorem d9_100 : decode prog_11_method_2_code 100 = .ok (.istore 9, 2) := by decide +kernel
theorem d9_102 : decode prog_11_method_2_code 102 = .ok (.lload 5, 2) := by decide +kernel
theorem d9_104 : decode prog_11_method_2_code 104 = .ok (.lload_n 3, 1) := by decide +kernel
theorem d9_105 : decode prog_11_method_2_code 105 = .ok (.iload 9, 2) := by decide +kernel
theorem d9_107 : decode prog_11_method_2_code 107 = .ok (.i2l, 1) := by decide +kernel
theorem d9_108 : decode prog_11_method_2_code 108 = .ok (.lsub, 1) := by decide +kernel
theorem d9_109 : decode prog_11_method_2_code 109 = .ok (.ldc2_w 26, 3) := by decide +kernel
theorem d9_112 : decode prog_11_method_2_code 112 = .ok (.ldiv, 1) := by decide +kernel
theorem d9_113 : decode prog_11_method_2_code 113 = .ok (.lcmp, 1) := by decide +kernel
theorem d9_114 : decode prog_11_method_2_code 114 = .ok (.ifCond .le 17, 3) := by decide +kernel
theorem d9_131 : decode prog_11_method_2_code 131 = .ok (.lload 5, 2) := by decide +kernel
theorem d9_133 : decode prog_11_method_2_code 133 = .ok (.ldc2_w 26, 3) := by decide +kernel
theorem d9_136 : decode prog_11_method_2_code 136 = .ok (.lmul, 1) := by decide +kernel
theorem d9_137 : decode prog_11_method_2_code 137 = .ok (.iload 9, 2) := by decide +kernel
theorem d9_139 : decode prog_11_method_2_code 139 = .ok (.i2l, 1) := by decide +kernel
theorem d9_140 : decode prog_11_method_2_code 140 = .ok (.ladd, 1) := by decide +kernel
theorem d9_141 : decode prog_11_method_2_code 141 = .ok (.lstore 5, 2) := by decide +kernel
theorem d9_143 : decode prog_11_method_2_code 143 = .ok (.iinc 7 1, 3) := by decide +kernel
theorem d9_146 : decode prog_11_method_2_code 146 = .ok (.goto (-91), 3) := by decide +kernel
theorem d9_149 : decode prog_11_method_2_code 149 = .ok (.lload 5, 2) := by decide +kernel
theorem d9_151 : decode prog_11_method_2_code 151 = .ok (.lreturn, 1) := by decide +kernel
theorem pn_18cb31f : plainName "com/example/beaulieu/beaulieu/model/Decimal" = true := by first | (simp [plainName, overriddenIn]; done) | decide +kernel
theorem pd_56f5307 : parseMethodDescriptor "(I)C" = some ⟨[.int], some .char⟩ := by decide +kernel
theorem ef_9 (m : MethodId) (x0 : Addr) (x1 : Int32) (x2 : Int32) (x3 : Int64) : entryFrame m #[(.ref x0), (.int x1), (.int x2), (.long x3)] 10 = mkF m 0 #[.val (.ref x0), .val (.int x1), .val (.int x2), .val (.long x3), .second, .unset, .unset, .unset, .unset, .unset] [] := by first | (simp [entryFrame, mkF, argsToLocals, Value.category]; done) | rfl
def Q_rm9 (Z : State) (a1 bt : Addr) (kt : ClassId) (cs : List Int32) (ne D nv : Nat) (mx : Int64) (h0 : Heap) (n0 : Nat) (v : Option Value) (h : Heap) (L : List Loc) : Prop := v = some (.long (Int64.ofNat nv)) ∧ Fr n0 L ∧ h = h0
set_option maxRecDepth 65536 in
set_option maxHeartbeats 40000000 in
theorem rm9 (l : Launch) (Z : State) (a0 : Array Value) (hw : ∀ d ∈ tables_1, d.before a0 Z = true) (a1 bt : Addr) (kt : ClassId) (cs : List Int32) (ne D nv : Nat) (mx : Int64) (h0 : Heap) (n0 : Nat) (Z0 : n0 ≤ h0.size) (G1 : Int32) (G3 : Value) (O2 : Sta Z Z.heap "java/lang/String" "COMPACT_STRINGS" "Z" (.int G1)) (O4 : Sta Z Z.heap "jdk/internal/util/Preconditions" "SIOOBE_FORMATTER" "Ljava/util/function/BiFunction;" G3) (P5 : ¬ (G1 = (0 : Int32))) (rG3 : G3.isRef = true) (X00 : Old Z n0 h0) (E1 : Exa Z h0 a1 "java/lang/String") (Fv : Fld Z h0 a1 "java/lang/String" "value" "[B" (.ref bt)) (Fc : Fld Z h0 a1 "java/lang/String" "coder" "B" (.int (0 : Int32))) (Vb : Arv Z h0 bt kt .byte (23 : Int32) ((cs.map (fun c => c.toInt8.toInt32)).map Value.int) (.int (0 : Int32))) (hp : ∀ x ∈ cs, ¬ x < 0 ∧ ¬ (255 : Int32) < x) (hlen : cs.length = 23) (hD1 : 1 ≤ D) (hDe : D ≤ ne) (hne : ne ≤ 22) (hv : nv < 9223372036854775808) (hz : nv / 10 ^ D = 0) (hnz : ¬ nv / 10 ^ (D - 1) = 0) (hdig : ∀ t, t < D → cs.getD (ne - 1 - t) 0 = Int32.ofNat (48 + nv / 10 ^ t % 10)) (hmx : (nv : Int) ≤ mx.toInt) :
    MetFree l (⟨"com/example/beaulieu/beaulieu/model/Decimal", "parsePositive", "(Ljava/lang/CharSequence;IIJ)J"⟩ : MethodName) (head1 [Jvm.Cond.code (⟨"com/example/beaulieu/beaulieu/model/Decimal", "parsePositive", "(Ljava/lang/CharSequence;IIJ)J"⟩ : MethodName) prog_11_method_2_code 10 (some .long)] ({ frames := 4, cells := 0, slots := 0, locals := 53 } : Room)) (fun a U => a = #[(.ref a1), (.int (Int32.ofNat (ne - D))), (.int (Int32.ofNat ne)), (.long mx)] ∧ Z.Warmed39 U.vm ∧ U.heap = h0) (fun _ _ _ _ _ => True) (fun _ U o U' => ∃ v L, o = .returned v ∧ (Q_rm9 Z a1 bt kt cs ne D nv mx h0 n0) v U'.heap L ∧ FrameEnd U o U' L ({ frames := 4, cells := 0, slots := 0, locals := 53 } : Room).cells ({ frames := 4, cells := 0, slots := 0, locals := 53 } : Room).slots) := by
  refine MetFree.of_bodySF (plainFor_of_name pn_18cb31f) hisR ?_
  intro p e s m args below meth c s₁ Bd hml0 hP hK
  obtain ⟨rfl, hZ, hh⟩ := hP
  have hx := Bd.exec
  have hby := Bd.bytes
  have hml : c.maxLocals = 10 := hml0
  have hown : s.vm.findClass "com/example/beaulieu/beaulieu/model/Decimal" = some m.cls := findClass_of_methodNamed Bd.named
  have hnm := (name_of_methodNamed Bd.named Bd.method).1
  have X0 : Stand p l e ({ frames := 4, cells := 0, slots := 0, locals := 53 } : Room) s m #[(.ref a1), (.int (Int32.ofNat (ne - D))), (.int (Int32.ofNat ne)), (.long mx)] below meth c s₁ [] 0 0 := Stand.of_body Bd
  have e0 : s₁.heap = h0 := by rw [← hh, Bd.state]; rfl
  have N0 := Fr.nil n0
  have K0 : Keep h0 h0 [] := Keep.refl h0 []
  show Go p e below (s₁.setTop (entryFrame m #[(.ref a1), (.int (Int32.ofNat (ne - D))), (.int (Int32.ofNat ne)), (.long mx)] 10)) (EndN s (Q_rm9 Z a1 bt kt cs ne D nv mx h0 n0) ({ frames := 4, cells := 0, slots := 0, locals := 53 } : Room).cells ({ frames := 4, cells := 0, slots := 0, locals := 53 } : Room).slots)
  refine Go.top (ef_9 m a1 (Int32.ofNat (ne - D)) (Int32.ofNat ne) mx) ?_
  have hch : ∀ d ∈ StrChars.Road.wordsChN, d.before a0 Z = true := fun d hd => hw d ((by decide +kernel : ∀ d ∈ StrChars.Road.wordsChN, d ∈ tables_1) d hd)
  have hcd : StrChars.Road.CodA cs 0 (23 : Int32) ((cs.map (fun c => c.toInt8.toInt32)).map Value.int) := StrChars.Road.codOf (n := 23) hlen (fun x hx => (hp x hx).2)
  have hbd := own_up _ hp
  have hl4 : cs.length ≤ 4000 := by omega
  refine Go.st (T' := s₁.setTop (mkF m 1 #[.val (.ref a1), .val (.int (Int32.ofNat (ne - D))), .val (.int (Int32.ofNat ne)), .val (.long mx), .second, .unset, .unset, .unset, .unset, .unset] [(.int (Int32.ofNat (ne - D)))])) (fun zt zk => XS.iloadN X0.here hx rfl (hb hby d9_0) rfl zk) ?_
  refine Go.st (T' := s₁.setTop (mkF m 2 #[.val (.ref a1), .val (.int (Int32.ofNat (ne - D))), .val (.int (Int32.ofNat ne)), .val (.long mx), .second, .unset, .unset, .unset, .unset, .unset] [(.int (Int32.ofNat ne)), (.int (Int32.ofNat (ne - D)))])) (fun zt zk => XS.iloadN X0.here hx rfl (hb hby d9_1) rfl zk) ?_
  have hb0 : ¬ Int32.ofNat (ne - D) = Int32.ofNat ne := fun q => by
    have := congrArg Int32.toInt q
    rw [own_i (by omega), own_i (by omega)] at this; omega
  refine Go.st (T' := s₁.setTop (mkF m 15 #[.val (.ref a1), .val (.int (Int32.ofNat (ne - D))), .val (.int (Int32.ofNat ne)), .val (.long mx), .second, .unset, .unset, .unset, .unset, .unset] [])) (fun zt zk => XS.icmpYes X0.here hx rfl (pc0 := 2) (pc' := 15) rfl (hb hby d9_2) rfl (feq hb0).2 (by decide) (by decide) zk) ?_
  refine Go.st (T' := s₁.setTop (mkF m 16 #[.val (.ref a1), .val (.int (Int32.ofNat (ne - D))), .val (.int (Int32.ofNat ne)), .val (.long mx), .second, .unset, .unset, .unset, .unset, .unset] [(.ref a1)])) (fun zt zk => XS.aloadN X0.here hx rfl (hb hby d9_15) rfl rfl zk) ?_
  refine Go.st (T' := s₁.setTop (mkF m 17 #[.val (.ref a1), .val (.int (Int32.ofNat (ne - D))), .val (.int (Int32.ofNat ne)), .val (.long mx), .second, .unset, .unset, .unset, .unset, .unset] [(.int (Int32.ofNat (ne - D))), (.ref a1)])) (fun zt zk => XS.iloadN X0.here hx rfl (hb hby d9_16) rfl zk) ?_
  obtain ⟨cq2, kq2, q2a, q2b, q2c⟩ := isOf hZ e0 E1
  obtain ⟨vr2, _, ⟨T2, L2, k2, n2⟩, -, X2, ⟨Lc2, hQ2, l2, y2, z2⟩, st2⟩ := X0.interfaceBack hx (xi := (⟨"java/lang/CharSequence", "charAt", "(I)C"⟩ : MethodName)) (y := (⟨"java/lang/String", "charAt", "(I)C"⟩ : MethodName)) hown (mvT hZ (hw _ (List.mem_of_getElem? (i := 44) rfl))) (mvT hZ (hw _ (List.mem_of_getElem? (i := 45) rfl))) (mvT hZ (hw _ (List.mem_of_getElem? (i := 46) rfl))) (mvT hZ (hw _ (List.mem_of_getElem? (i := 47) rfl))) (mvT hZ (hw _ (List.mem_of_getElem? (i := 48) rfl))) (mvT hZ (hw _ (List.mem_of_getElem? (i := 49) rfl))) (mvT hZ (hw _ (List.mem_of_getElem? (i := 50) rfl))) (mvT hZ (hw _ (List.mem_of_getElem? (i := 51) rfl))) (by decide) (StrChars.Road.chN (W := 0) hZ hch (kI := 4) (hw _ (List.mem_of_getElem? (i := 12) rfl)) E1 Fv Fc Vb hcd hbd (O2.ext X00.2) P5 (O4.ext X00.2) rG3 hl4 (i := (ne - D)) (by omega) (j := (Int32.ofNat (ne - D))) rfl (by decide) (by decide)) q2a q2b q2c (g := (mkF m 17 #[.val (.ref a1), .val (.int (Int32.ofNat (ne - D))), .val (.int (Int32.ofNat ne)), .val (.long mx), .second, .unset, .unset, .unset, .unset, .unset] [(.int (Int32.ofNat (ne - D))), (.ref a1)])) rfl (by rw [hml]; rfl) (Steps.refl _) (argsL := [(.int (Int32.ofNat (ne - D)))]) (rest := []) (lenOf pd_56f5307 rfl) rfl (by show 2 * 0 + _ ≤ _; exact Nat.le_of_eq rfl) (hb hby d9_17) (fun _ _ => ⟨rfl, e0, (by decide : 0 + 0 ≤ _), (by decide : 0 + 0 ≤ _)⟩)
  dsimp only [Pt.U, Pt.locs, Pt.cells, Pt.slots] at X2 l2 y2 z2 st2 hQ2
  subst l2 y2 z2
  obtain ⟨rfl, rfl, eq2⟩ := hQ2
  have Nq2 : Fr n0 ([] : List Loc) := Fr.nil n0
  have NN3 := Fr.app N0 Nq2
  refine Go.st (T' := T2.setTop (mkF m 22 #[.val (.ref a1), .val (.int (Int32.ofNat (ne - D))), .val (.int (Int32.ofNat ne)), .val (.long mx), .second, .unset, .unset, .unset, .unset, .unset] [(.int (cs.getD (ne - D) 0))])) (fun zt zk => st2.trans zk) ?_
  refine Go.st (T' := T2.setTop (mkF m 24 #[.val (.ref a1), .val (.int (Int32.ofNat (ne - D))), .val (.int (Int32.ofNat ne)), .val (.long mx), .second, .unset, .unset, .unset, .unset, .unset] [(.int (48 : Int32)), (.int (cs.getD (ne - D) 0))])) (fun zt zk => XS.bipush X2.here hx rfl (hb hby d9_22) zk) ?_
  have hd0 := hdig (D - 1) (by omega)
  rw [show ne - 1 - (D - 1) = ne - D by omega] at hd0
  rw [hd0]
  have hb1 : ¬ Int32.ofNat (48 + nv / 10 ^ (D - 1) % 10) = (48 : Int32) := own_first hD1 hz hnz
  refine Go.st (T' := T2.setTop (mkF m 49 #[.val (.ref a1), .val (.int (Int32.ofNat (ne - D))), .val (.int (Int32.ofNat ne)), .val (.long mx), .second, .unset, .unset, .unset, .unset, .unset] [])) (fun zt zk => XS.icmpYes X2.here hx rfl (pc0 := 24) (pc' := 49) rfl (hb hby d9_24) rfl (feq hb1).2 (by decide) (by decide) zk) ?_
  refine Go.st (T' := T2.setTop (mkF m 50 #[.val (.ref a1), .val (.int (Int32.ofNat (ne - D))), .val (.int (Int32.ofNat ne)), .val (.long mx), .second, .unset, .unset, .unset, .unset, .unset] [(.long (0 : Int64))])) (fun zt zk => XS.lconst X2.here hx rfl (hb hby d9_49) zk) ?_
  refine Go.st (T' := T2.setTop (mkF m 52 #[.val (.ref a1), .val (.int (Int32.ofNat (ne - D))), .val (.int (Int32.ofNat ne)), .val (.long mx), .second, .val (.long (0 : Int64)), .second, .unset, .unset, .unset] [])) (fun zt zk => XS.lstore X2.here hx rfl (hb hby d9_50) rfl (l' := #[.val (.ref a1), .val (.int (Int32.ofNat (ne - D))), .val (.int (Int32.ofNat ne)), .val (.long mx), .second, .val (.long (0 : Int64)), .second, .unset, .unset, .unset]) rfl zk) ?_
  refine Go.st (T' := T2.setTop (mkF m 53 #[.val (.ref a1), .val (.int (Int32.ofNat (ne - D))), .val (.int (Int32.ofNat ne)), .val (.long mx), .second, .val (.long (0 : Int64)), .second, .unset, .unset, .unset] [(.int (Int32.ofNat (ne - D)))])) (fun zt zk => XS.iloadN X2.here hx rfl (hb hby d9_52) rfl zk) ?_
  refine Go.st (T' := T2.setTop (mkF m 55 #[.val (.ref a1), .val (.int (Int32.ofNat (ne - D))), .val (.int (Int32.ofNat ne)), .val (.long mx), .second, .val (.long (0 : Int64)), .second, .val (.int (Int32.ofNat (ne - D))), .unset, .unset] [])) (fun zt zk => XS.istore X2.here hx rfl (hb hby d9_53) rfl (l' := #[.val (.ref a1), .val (.int (Int32.ofNat (ne - D))), .val (.int (Int32.ofNat ne)), .val (.long mx), .second, .val (.long (0 : Int64)), .second, .val (.int (Int32.ofNat (ne - D))), .unset, .unset]) rfl zk) ?_
  suffices loop : ∀ (r : Nat), r ≤ D → ∀ (TL : State) (LL : List Loc) (s8 s9 : Slot), Stand p l e ({ frames := 4, cells := 0, slots := 0, locals := 53 } : Room) s m #[(.ref a1), (.int (Int32.ofNat (ne - D))), (.int (Int32.ofNat ne)), (.long mx)] below meth c TL LL 0 0 → TL.heap = h0 → Fr n0 LL → One s8 → One s9 → Go p e below (TL.setTop (mkF m 55 #[.val (.ref a1), .val (.int (Int32.ofNat (ne - D))), .val (.int (Int32.ofNat ne)), .val (.long mx), .second, .val (.long (Int64.ofNat (nv / 10 ^ r))), .second, .val (.int (Int32.ofNat (ne - r))), s8, s9] [])) (EndN s (Q_rm9 Z a1 bt kt cs ne D nv mx h0 n0) ({ frames := 4, cells := 0, slots := 0, locals := 53 } : Room).cells ({ frames := 4, cells := 0, slots := 0, locals := 53 } : Room).slots) by
    have := loop D (Nat.le_refl _) T2 _ .unset .unset X2 eq2 NN3 One.u One.u
    rw [hz] at this
    exact this
  intro r
  induction r with
  | zero =>
    intro _ TL LL s8 s9 XL eL NL h8 h9
    refine Go.st (T' := TL.setTop (mkF m 57 #[.val (.ref a1), .val (.int (Int32.ofNat (ne - D))), .val (.int (Int32.ofNat ne)), .val (.long mx), .second, .val (.long (Int64.ofNat (nv / 10 ^ 0))), .second, .val (.int (Int32.ofNat (ne - 0))), s8, s9] [(.int (Int32.ofNat (ne - 0)))])) (fun zt zk => XS.iload XL.here hx rfl (hb hby d9_55) rfl zk) ?_
    refine Go.st (T' := TL.setTop (mkF m 58 #[.val (.ref a1), .val (.int (Int32.ofNat (ne - D))), .val (.int (Int32.ofNat ne)), .val (.long mx), .second, .val (.long (Int64.ofNat (nv / 10 ^ 0))), .second, .val (.int (Int32.ofNat (ne - 0))), s8, s9] [(.int (Int32.ofNat ne)), (.int (Int32.ofNat (ne - 0)))])) (fun zt zk => XS.iloadN XL.here hx rfl (hb hby d9_57) rfl zk) ?_
    refine Go.st (T' := TL.setTop (mkF m 149 #[.val (.ref a1), .val (.int (Int32.ofNat (ne - D))), .val (.int (Int32.ofNat ne)), .val (.long mx), .second, .val (.long (Int64.ofNat (nv / 10 ^ 0))), .second, .val (.int (Int32.ofNat (ne - 0))), s8, s9] [])) (fun zt zk => XS.icmpYes XL.here hx rfl (pc0 := 58) (pc' := 149) rfl (hb hby d9_58) rfl (flt (fun q => absurd ((own_lt32 (by omega) (by omega)).mp q) (by omega))).2.1 (by decide) (by decide) zk) ?_
    refine Go.st (T' := TL.setTop (mkF m 151 #[.val (.ref a1), .val (.int (Int32.ofNat (ne - D))), .val (.int (Int32.ofNat ne)), .val (.long mx), .second, .val (.long (Int64.ofNat (nv / 10 ^ 0))), .second, .val (.int (Int32.ofNat (ne - 0))), s8, s9] [(.long (Int64.ofNat (nv / 10 ^ 0)))])) (fun zt zk => XS.lload XL.here hx rfl (hb hby d9_149) rfl zk) ?_
    exact Go.done XL Bd.notSynchronized (v := some (.long (Int64.ofNat (nv / 10 ^ 0)))) (fun h => by rw [Bd.returns] at h; cases h) (fun fs hr => retJ XL hx Bd.returns (hb hby d9_151) hr) (by rw [eL]; exact ⟨by simp, NL, rfl⟩) (by decide) (by decide)
  | succ r ih =>
    intro hr TL LL s8 s9 XL eL NL h8 h9
    refine Go.st (T' := TL.setTop (mkF m 57 #[.val (.ref a1), .val (.int (Int32.ofNat (ne - D))), .val (.int (Int32.ofNat ne)), .val (.long mx), .second, .val (.long (Int64.ofNat (nv / 10 ^ (r + 1)))), .second, .val (.int (Int32.ofNat (ne - (r + 1)))), s8, s9] [(.int (Int32.ofNat (ne - (r + 1))))])) (fun zt zk => XS.iload XL.here hx rfl (hb hby d9_55) rfl zk) ?_
    refine Go.st (T' := TL.setTop (mkF m 58 #[.val (.ref a1), .val (.int (Int32.ofNat (ne - D))), .val (.int (Int32.ofNat ne)), .val (.long mx), .second, .val (.long (Int64.ofNat (nv / 10 ^ (r + 1)))), .second, .val (.int (Int32.ofNat (ne - (r + 1)))), s8, s9] [(.int (Int32.ofNat ne)), (.int (Int32.ofNat (ne - (r + 1))))])) (fun zt zk => XS.iloadN XL.here hx rfl (hb hby d9_57) rfl zk) ?_
    refine Go.st (T' := TL.setTop (mkF m 61 #[.val (.ref a1), .val (.int (Int32.ofNat (ne - D))), .val (.int (Int32.ofNat ne)), .val (.long mx), .second, .val (.long (Int64.ofNat (nv / 10 ^ (r + 1)))), .second, .val (.int (Int32.ofNat (ne - (r + 1)))), s8, s9] [])) (fun zt zk => XS.icmpNo XL.here hx rfl (hb hby d9_58) rfl (tlt ((own_lt32 (by omega) (by omega)).mpr (by omega))).2.1 zk) ?_
    refine Go.st (T' := TL.setTop (mkF m 62 #[.val (.ref a1), .val (.int (Int32.ofNat (ne - D))), .val (.int (Int32.ofNat ne)), .val (.long mx), .second, .val (.long (Int64.ofNat (nv / 10 ^ (r + 1)))), .second, .val (.int (Int32.ofNat (ne - (r + 1)))), s8, s9] [(.ref a1)])) (fun zt zk => XS.aloadN XL.here hx rfl (hb hby d9_61) rfl rfl zk) ?_
    refine Go.st (T' := TL.setTop (mkF m 64 #[.val (.ref a1), .val (.int (Int32.ofNat (ne - D))), .val (.int (Int32.ofNat ne)), .val (.long mx), .second, .val (.long (Int64.ofNat (nv / 10 ^ (r + 1)))), .second, .val (.int (Int32.ofNat (ne - (r + 1)))), s8, s9] [(.int (Int32.ofNat (ne - (r + 1)))), (.ref a1)])) (fun zt zk => XS.iload XL.here hx rfl (hb hby d9_62) rfl zk) ?_
    obtain ⟨cq4, kq4, q4a, q4b, q4c⟩ := isOf hZ eL E1
    obtain ⟨vr4, _, ⟨T4, L4, k4, n4⟩, -, X4, ⟨Lc4, hQ4, l4, y4, z4⟩, st4⟩ := XL.interfaceBack hx (xi := (⟨"java/lang/CharSequence", "charAt", "(I)C"⟩ : MethodName)) (y := (⟨"java/lang/String", "charAt", "(I)C"⟩ : MethodName)) hown (mvT hZ (hw _ (List.mem_of_getElem? (i := 44) rfl))) (mvT hZ (hw _ (List.mem_of_getElem? (i := 45) rfl))) (mvT hZ (hw _ (List.mem_of_getElem? (i := 46) rfl))) (mvT hZ (hw _ (List.mem_of_getElem? (i := 47) rfl))) (mvT hZ (hw _ (List.mem_of_getElem? (i := 48) rfl))) (mvT hZ (hw _ (List.mem_of_getElem? (i := 49) rfl))) (mvT hZ (hw _ (List.mem_of_getElem? (i := 50) rfl))) (mvT hZ (hw _ (List.mem_of_getElem? (i := 51) rfl))) (by decide) (StrChars.Road.chN (W := 0) hZ hch (kI := 4) (hw _ (List.mem_of_getElem? (i := 12) rfl)) E1 Fv Fc Vb hcd hbd (O2.ext X00.2) P5 (O4.ext X00.2) rG3 hl4 (i := (ne - (r + 1))) (by omega) (j := (Int32.ofNat (ne - (r + 1)))) rfl (by decide) (by decide)) q4a q4b q4c (g := (mkF m 64 #[.val (.ref a1), .val (.int (Int32.ofNat (ne - D))), .val (.int (Int32.ofNat ne)), .val (.long mx), .second, .val (.long (Int64.ofNat (nv / 10 ^ (r + 1)))), .second, .val (.int (Int32.ofNat (ne - (r + 1)))), s8, s9] [(.int (Int32.ofNat (ne - (r + 1)))), (.ref a1)])) rfl (by rw [hml]; rfl) (Steps.refl _) (argsL := [(.int (Int32.ofNat (ne - (r + 1))))]) (rest := []) (lenOf pd_56f5307 rfl) rfl (by show 2 * 0 + _ ≤ _; exact Nat.le_of_eq rfl) (hb hby d9_64) (fun _ _ => ⟨rfl, eL, (by decide : 0 + 0 ≤ _), (by decide : 0 + 0 ≤ _)⟩)
    dsimp only [Pt.U, Pt.locs, Pt.cells, Pt.slots] at X4 l4 y4 z4 st4 hQ4
    subst l4 y4 z4
    obtain ⟨rfl, rfl, eq4⟩ := hQ4
    have Nq4 : Fr n0 ([] : List Loc) := Fr.nil n0
    have NN5 := Fr.app NL Nq4
    refine Go.st (T' := T4.setTop (mkF m 69 #[.val (.ref a1), .val (.int (Int32.ofNat (ne - D))), .val (.int (Int32.ofNat ne)), .val (.long mx), .second, .val (.long (Int64.ofNat (nv / 10 ^ (r + 1)))), .second, .val (.int (Int32.ofNat (ne - (r + 1)))), s8, s9] [(.int (cs.getD (ne - (r + 1)) 0))])) (fun zt zk => st4.trans zk) ?_
    have hd1 := hdig r (by omega)
    rw [show ne - 1 - r = ne - (r + 1) by omega] at hd1
    obtain ⟨k1, k2, k3⟩ := own_dd (nv / 10 ^ r % 10) (Nat.mod_lt _ (by decide))
    obtain ⟨k4, k5⟩ := own_turn hv hmx k3
    rw [hd1]
    refine Go.st (T' := T4.setTop (mkF m 71 #[.val (.ref a1), .val (.int (Int32.ofNat (ne - D))), .val (.int (Int32.ofNat ne)), .val (.long mx), .second, .val (.long (Int64.ofNat (nv / 10 ^ (r + 1)))), .second, .val (.int (Int32.ofNat (ne - (r + 1)))), .val (.int (Int32.ofNat (48 + nv / 10 ^ r % 10))), s9] [])) (fun zt zk => XS.istore X4.here hx rfl (hb hby d9_69) rfl (l' := #[.val (.ref a1), .val (.int (Int32.ofNat (ne - D))), .val (.int (Int32.ofNat ne)), .val (.long mx), .second, .val (.long (Int64.ofNat (nv / 10 ^ (r + 1)))), .second, .val (.int (Int32.ofNat (ne - (r + 1)))), .val (.int (Int32.ofNat (48 + nv / 10 ^ r % 10))), s9]) (own_os8 h8) zk) ?_
    refine Go.st (T' := T4.setTop (mkF m 73 #[.val (.ref a1), .val (.int (Int32.ofNat (ne - D))), .val (.int (Int32.ofNat ne)), .val (.long mx), .second, .val (.long (Int64.ofNat (nv / 10 ^ (r + 1)))), .second, .val (.int (Int32.ofNat (ne - (r + 1)))), .val (.int (Int32.ofNat (48 + nv / 10 ^ r % 10))), s9] [(.int (Int32.ofNat (48 + nv / 10 ^ r % 10)))])) (fun zt zk => XS.iload X4.here hx rfl (hb hby d9_71) rfl zk) ?_
    refine Go.st (T' := T4.setTop (mkF m 75 #[.val (.ref a1), .val (.int (Int32.ofNat (ne - D))), .val (.int (Int32.ofNat ne)), .val (.long mx), .second, .val (.long (Int64.ofNat (nv / 10 ^ (r + 1)))), .second, .val (.int (Int32.ofNat (ne - (r + 1)))), .val (.int (Int32.ofNat (48 + nv / 10 ^ r % 10))), s9] [(.int (48 : Int32)), (.int (Int32.ofNat (48 + nv / 10 ^ r % 10)))])) (fun zt zk => XS.bipush X4.here hx rfl (hb hby d9_73) zk) ?_
    refine Go.st (T' := T4.setTop (mkF m 78 #[.val (.ref a1), .val (.int (Int32.ofNat (ne - D))), .val (.int (Int32.ofNat ne)), .val (.long mx), .second, .val (.long (Int64.ofNat (nv / 10 ^ (r + 1)))), .second, .val (.int (Int32.ofNat (ne - (r + 1)))), .val (.int (Int32.ofNat (48 + nv / 10 ^ r % 10))), s9] [])) (fun zt zk => XS.icmpNo X4.here hx rfl (hb hby d9_75) rfl (flt k1).1 zk) ?_
    refine Go.st (T' := T4.setTop (mkF m 80 #[.val (.ref a1), .val (.int (Int32.ofNat (ne - D))), .val (.int (Int32.ofNat ne)), .val (.long mx), .second, .val (.long (Int64.ofNat (nv / 10 ^ (r + 1)))), .second, .val (.int (Int32.ofNat (ne - (r + 1)))), .val (.int (Int32.ofNat (48 + nv / 10 ^ r % 10))), s9] [(.int (Int32.ofNat (48 + nv / 10 ^ r % 10)))])) (fun zt zk => XS.iload X4.here hx rfl (hb hby d9_78) rfl zk) ?_
    refine Go.st (T' := T4.setTop (mkF m 82 #[.val (.ref a1), .val (.int (Int32.ofNat (ne - D))), .val (.int (Int32.ofNat ne)), .val (.long mx), .second, .val (.long (Int64.ofNat (nv / 10 ^ (r + 1)))), .second, .val (.int (Int32.ofNat (ne - (r + 1)))), .val (.int (Int32.ofNat (48 + nv / 10 ^ r % 10))), s9] [(.int (57 : Int32)), (.int (Int32.ofNat (48 + nv / 10 ^ r % 10)))])) (fun zt zk => XS.bipush X4.here hx rfl (hb hby d9_80) zk) ?_
    refine Go.st (T' := T4.setTop (mkF m 95 #[.val (.ref a1), .val (.int (Int32.ofNat (ne - D))), .val (.int (Int32.ofNat ne)), .val (.long mx), .second, .val (.long (Int64.ofNat (nv / 10 ^ (r + 1)))), .second, .val (.int (Int32.ofNat (ne - (r + 1)))), .val (.int (Int32.ofNat (48 + nv / 10 ^ r % 10))), s9] [])) (fun zt zk => XS.icmpYes X4.here hx rfl (pc0 := 82) (pc' := 95) rfl (hb hby d9_82) rfl (flt k2).2.2.2 (by decide) (by decide) zk) ?_
    refine Go.st (T' := T4.setTop (mkF m 97 #[.val (.ref a1), .val (.int (Int32.ofNat (ne - D))), .val (.int (Int32.ofNat ne)), .val (.long mx), .second, .val (.long (Int64.ofNat (nv / 10 ^ (r + 1)))), .second, .val (.int (Int32.ofNat (ne - (r + 1)))), .val (.int (Int32.ofNat (48 + nv / 10 ^ r % 10))), s9] [(.int (Int32.ofNat (48 + nv / 10 ^ r % 10)))])) (fun zt zk => XS.iload X4.here hx rfl (hb hby d9_95) rfl zk) ?_
    refine Go.st (T' := T4.setTop (mkF m 99 #[.val (.ref a1), .val (.int (Int32.ofNat (ne - D))), .val (.int (Int32.ofNat ne)), .val (.long mx), .second, .val (.long (Int64.ofNat (nv / 10 ^ (r + 1)))), .second, .val (.int (Int32.ofNat (ne - (r + 1)))), .val (.int (Int32.ofNat (48 + nv / 10 ^ r % 10))), s9] [(.int (48 : Int32)), (.int (Int32.ofNat (48 + nv / 10 ^ r % 10)))])) (fun zt zk => XS.bipush X4.here hx rfl (hb hby d9_97) zk) ?_
    refine Go.st (T' := T4.setTop (mkF m 100 #[.val (.ref a1), .val (.int (Int32.ofNat (ne - D))), .val (.int (Int32.ofNat ne)), .val (.long mx), .second, .val (.long (Int64.ofNat (nv / 10 ^ (r + 1)))), .second, .val (.int (Int32.ofNat (ne - (r + 1)))), .val (.int (Int32.ofNat (48 + nv / 10 ^ r % 10))), s9] [(.int ((Int32.ofNat (48 + nv / 10 ^ r % 10)) - (48 : Int32)))])) (fun zt zk => XS.isub X4.here hx rfl (hb hby d9_99) rfl zk) ?_
    refine Go.st (T' := T4.setTop (mkF m 102 #[.val (.ref a1), .val (.int (Int32.ofNat (ne - D))), .val (.int (Int32.ofNat ne)), .val (.long mx), .second, .val (.long (Int64.ofNat (nv / 10 ^ (r + 1)))), .second, .val (.int (Int32.ofNat (ne - (r + 1)))), .val (.int (Int32.ofNat (48 + nv / 10 ^ r % 10))), .val (.int ((Int32.ofNat (48 + nv / 10 ^ r % 10)) - (48 : Int32)))] [])) (fun zt zk => XS.istore X4.here hx rfl (hb hby d9_100) rfl (l' := #[.val (.ref a1), .val (.int (Int32.ofNat (ne - D))), .val (.int (Int32.ofNat ne)), .val (.long mx), .second, .val (.long (Int64.ofNat (nv / 10 ^ (r + 1)))), .second, .val (.int (Int32.ofNat (ne - (r + 1)))), .val (.int (Int32.ofNat (48 + nv / 10 ^ r % 10))), .val (.int ((Int32.ofNat (48 + nv / 10 ^ r % 10)) - (48 : Int32)))]) (own_os9 h9) zk) ?_
    refine Go.st (T' := T4.setTop (mkF m 104 #[.val (.ref a1), .val (.int (Int32.ofNat (ne - D))), .val (.int (Int32.ofNat ne)), .val (.long mx), .second, .val (.long (Int64.ofNat (nv / 10 ^ (r + 1)))), .second, .val (.int (Int32.ofNat (ne - (r + 1)))), .val (.int (Int32.ofNat (48 + nv / 10 ^ r % 10))), .val (.int ((Int32.ofNat (48 + nv / 10 ^ r % 10)) - (48 : Int32)))] [(.long (Int64.ofNat (nv / 10 ^ (r + 1))))])) (fun zt zk => XS.lload X4.here hx rfl (hb hby d9_102) rfl zk) ?_
    refine Go.st (T' := T4.setTop (mkF m 105 #[.val (.ref a1), .val (.int (Int32.ofNat (ne - D))), .val (.int (Int32.ofNat ne)), .val (.long mx), .second, .val (.long (Int64.ofNat (nv / 10 ^ (r + 1)))), .second, .val (.int (Int32.ofNat (ne - (r + 1)))), .val (.int (Int32.ofNat (48 + nv / 10 ^ r % 10))), .val (.int ((Int32.ofNat (48 + nv / 10 ^ r % 10)) - (48 : Int32)))] [(.long mx), (.long (Int64.ofNat (nv / 10 ^ (r + 1))))])) (fun zt zk => XS.lloadN X4.here hx rfl (hb hby d9_104) rfl zk) ?_
    refine Go.st (T' := T4.setTop (mkF m 107 #[.val (.ref a1), .val (.int (Int32.ofNat (ne - D))), .val (.int (Int32.ofNat ne)), .val (.long mx), .second, .val (.long (Int64.ofNat (nv / 10 ^ (r + 1)))), .second, .val (.int (Int32.ofNat (ne - (r + 1)))), .val (.int (Int32.ofNat (48 + nv / 10 ^ r % 10))), .val (.int ((Int32.ofNat (48 + nv / 10 ^ r % 10)) - (48 : Int32)))] [(.int ((Int32.ofNat (48 + nv / 10 ^ r % 10)) - (48 : Int32))), (.long mx), (.long (Int64.ofNat (nv / 10 ^ (r + 1))))])) (fun zt zk => XS.iload X4.here hx rfl (hb hby d9_105) rfl zk) ?_
    refine Go.st (T' := T4.setTop (mkF m 108 #[.val (.ref a1), .val (.int (Int32.ofNat (ne - D))), .val (.int (Int32.ofNat ne)), .val (.long mx), .second, .val (.long (Int64.ofNat (nv / 10 ^ (r + 1)))), .second, .val (.int (Int32.ofNat (ne - (r + 1)))), .val (.int (Int32.ofNat (48 + nv / 10 ^ r % 10))), .val (.int ((Int32.ofNat (48 + nv / 10 ^ r % 10)) - (48 : Int32)))] [(.long (((Int32.ofNat (48 + nv / 10 ^ r % 10)) - (48 : Int32)).toInt64)), (.long mx), (.long (Int64.ofNat (nv / 10 ^ (r + 1))))])) (fun zt zk => XS.i2l X4.here hx rfl (hb hby d9_107) rfl zk) ?_
    refine Go.st (T' := T4.setTop (mkF m 109 #[.val (.ref a1), .val (.int (Int32.ofNat (ne - D))), .val (.int (Int32.ofNat ne)), .val (.long mx), .second, .val (.long (Int64.ofNat (nv / 10 ^ (r + 1)))), .second, .val (.int (Int32.ofNat (ne - (r + 1)))), .val (.int (Int32.ofNat (48 + nv / 10 ^ r % 10))), .val (.int ((Int32.ofNat (48 + nv / 10 ^ r % 10)) - (48 : Int32)))] [(.long (mx - (((Int32.ofNat (48 + nv / 10 ^ r % 10)) - (48 : Int32)).toInt64))), (.long (Int64.ofNat (nv / 10 ^ (r + 1))))])) (fun zt zk => XS.lsub X4.here hx rfl (hb hby d9_108) rfl zk) ?_
    refine Go.st (T' := T4.setTop (mkF m 112 #[.val (.ref a1), .val (.int (Int32.ofNat (ne - D))), .val (.int (Int32.ofNat ne)), .val (.long mx), .second, .val (.long (Int64.ofNat (nv / 10 ^ (r + 1)))), .second, .val (.int (Int32.ofNat (ne - (r + 1)))), .val (.int (Int32.ofNat (48 + nv / 10 ^ r % 10))), .val (.int ((Int32.ofNat (48 + nv / 10 ^ r % 10)) - (48 : Int32)))] [(.long (10 : Int64)), (.long (mx - (((Int32.ofNat (48 + nv / 10 ^ r % 10)) - (48 : Int32)).toInt64))), (.long (Int64.ofNat (nv / 10 ^ (r + 1))))])) (fun zt zk => X4.ldc2Long hx hown (mvT hZ (hw _ (List.mem_of_getElem? (i := 70) rfl))) (g := (mkF m 109 #[.val (.ref a1), .val (.int (Int32.ofNat (ne - D))), .val (.int (Int32.ofNat ne)), .val (.long mx), .second, .val (.long (Int64.ofNat (nv / 10 ^ (r + 1)))), .second, .val (.int (Int32.ofNat (ne - (r + 1)))), .val (.int (Int32.ofNat (48 + nv / 10 ^ r % 10))), .val (.int ((Int32.ofNat (48 + nv / 10 ^ r % 10)) - (48 : Int32)))] [(.long (mx - (((Int32.ofNat (48 + nv / 10 ^ r % 10)) - (48 : Int32)).toInt64))), (.long (Int64.ofNat (nv / 10 ^ (r + 1))))])) rfl (hb hby d9_109) zt zk) ?_
    refine Go.st (T' := T4.setTop (mkF m 113 #[.val (.ref a1), .val (.int (Int32.ofNat (ne - D))), .val (.int (Int32.ofNat ne)), .val (.long mx), .second, .val (.long (Int64.ofNat (nv / 10 ^ (r + 1)))), .second, .val (.int (Int32.ofNat (ne - (r + 1)))), .val (.int (Int32.ofNat (48 + nv / 10 ^ r % 10))), .val (.int ((Int32.ofNat (48 + nv / 10 ^ r % 10)) - (48 : Int32)))] [(.long ((mx - (((Int32.ofNat (48 + nv / 10 ^ r % 10)) - (48 : Int32)).toInt64)) / (10 : Int64))), (.long (Int64.ofNat (nv / 10 ^ (r + 1))))])) (fun zt zk => XS.ldiv X4.here hx rfl (hb hby d9_112) rfl (by decide) zk) ?_
    refine Go.st (T' := T4.setTop (mkF m 114 #[.val (.ref a1), .val (.int (Int32.ofNat (ne - D))), .val (.int (Int32.ofNat ne)), .val (.long mx), .second, .val (.long (Int64.ofNat (nv / 10 ^ (r + 1)))), .second, .val (.int (Int32.ofNat (ne - (r + 1)))), .val (.int (Int32.ofNat (48 + nv / 10 ^ r % 10))), .val (.int ((Int32.ofNat (48 + nv / 10 ^ r % 10)) - (48 : Int32)))] [(.int (lcmpW (Int64.ofNat (nv / 10 ^ (r + 1))) ((mx - (((Int32.ofNat (48 + nv / 10 ^ r % 10)) - (48 : Int32)).toInt64)) / (10 : Int64))))])) (fun zt zk => XS.lcmp X4.here hx rfl (hb hby d9_113) rfl zk) ?_
    refine Go.st (T' := T4.setTop (mkF m 131 #[.val (.ref a1), .val (.int (Int32.ofNat (ne - D))), .val (.int (Int32.ofNat ne)), .val (.long mx), .second, .val (.long (Int64.ofNat (nv / 10 ^ (r + 1)))), .second, .val (.int (Int32.ofNat (ne - (r + 1)))), .val (.int (Int32.ofNat (48 + nv / 10 ^ r % 10))), .val (.int ((Int32.ofNat (48 + nv / 10 ^ r % 10)) - (48 : Int32)))] [])) (fun zt zk => XS.ifYes X4.here hx rfl (pc0 := 114) (pc' := 131) rfl (hb hby d9_114) rfl ((if0 _ _).trans (flt k4).2.2.2) (by decide) (by decide) zk) ?_
    refine Go.st (T' := T4.setTop (mkF m 133 #[.val (.ref a1), .val (.int (Int32.ofNat (ne - D))), .val (.int (Int32.ofNat ne)), .val (.long mx), .second, .val (.long (Int64.ofNat (nv / 10 ^ (r + 1)))), .second, .val (.int (Int32.ofNat (ne - (r + 1)))), .val (.int (Int32.ofNat (48 + nv / 10 ^ r % 10))), .val (.int ((Int32.ofNat (48 + nv / 10 ^ r % 10)) - (48 : Int32)))] [(.long (Int64.ofNat (nv / 10 ^ (r + 1))))])) (fun zt zk => XS.lload X4.here hx rfl (hb hby d9_131) rfl zk) ?_
    refine Go.st (T' := T4.setTop (mkF m 136 #[.val (.ref a1), .val (.int (Int32.ofNat (ne - D))), .val (.int (Int32.ofNat ne)), .val (.long mx), .second, .val (.long (Int64.ofNat (nv / 10 ^ (r + 1)))), .second, .val (.int (Int32.ofNat (ne - (r + 1)))), .val (.int (Int32.ofNat (48 + nv / 10 ^ r % 10))), .val (.int ((Int32.ofNat (48 + nv / 10 ^ r % 10)) - (48 : Int32)))] [(.long (10 : Int64)), (.long (Int64.ofNat (nv / 10 ^ (r + 1))))])) (fun zt zk => X4.ldc2Long hx hown (mvT hZ (hw _ (List.mem_of_getElem? (i := 70) rfl))) (g := (mkF m 133 #[.val (.ref a1), .val (.int (Int32.ofNat (ne - D))), .val (.int (Int32.ofNat ne)), .val (.long mx), .second, .val (.long (Int64.ofNat (nv / 10 ^ (r + 1)))), .second, .val (.int (Int32.ofNat (ne - (r + 1)))), .val (.int (Int32.ofNat (48 + nv / 10 ^ r % 10))), .val (.int ((Int32.ofNat (48 + nv / 10 ^ r % 10)) - (48 : Int32)))] [(.long (Int64.ofNat (nv / 10 ^ (r + 1))))])) rfl (hb hby d9_133) zt zk) ?_
    refine Go.st (T' := T4.setTop (mkF m 137 #[.val (.ref a1), .val (.int (Int32.ofNat (ne - D))), .val (.int (Int32.ofNat ne)), .val (.long mx), .second, .val (.long (Int64.ofNat (nv / 10 ^ (r + 1)))), .second, .val (.int (Int32.ofNat (ne - (r + 1)))), .val (.int (Int32.ofNat (48 + nv / 10 ^ r % 10))), .val (.int ((Int32.ofNat (48 + nv / 10 ^ r % 10)) - (48 : Int32)))] [(.long ((Int64.ofNat (nv / 10 ^ (r + 1))) * (10 : Int64)))])) (fun zt zk => XS.lmul X4.here hx rfl (hb hby d9_136) rfl zk) ?_
    refine Go.st (T' := T4.setTop (mkF m 139 #[.val (.ref a1), .val (.int (Int32.ofNat (ne - D))), .val (.int (Int32.ofNat ne)), .val (.long mx), .second, .val (.long (Int64.ofNat (nv / 10 ^ (r + 1)))), .second, .val (.int (Int32.ofNat (ne - (r + 1)))), .val (.int (Int32.ofNat (48 + nv / 10 ^ r % 10))), .val (.int ((Int32.ofNat (48 + nv / 10 ^ r % 10)) - (48 : Int32)))] [(.int ((Int32.ofNat (48 + nv / 10 ^ r % 10)) - (48 : Int32))), (.long ((Int64.ofNat (nv / 10 ^ (r + 1))) * (10 : Int64)))])) (fun zt zk => XS.iload X4.here hx rfl (hb hby d9_137) rfl zk) ?_
    refine Go.st (T' := T4.setTop (mkF m 140 #[.val (.ref a1), .val (.int (Int32.ofNat (ne - D))), .val (.int (Int32.ofNat ne)), .val (.long mx), .second, .val (.long (Int64.ofNat (nv / 10 ^ (r + 1)))), .second, .val (.int (Int32.ofNat (ne - (r + 1)))), .val (.int (Int32.ofNat (48 + nv / 10 ^ r % 10))), .val (.int ((Int32.ofNat (48 + nv / 10 ^ r % 10)) - (48 : Int32)))] [(.long (((Int32.ofNat (48 + nv / 10 ^ r % 10)) - (48 : Int32)).toInt64)), (.long ((Int64.ofNat (nv / 10 ^ (r + 1))) * (10 : Int64)))])) (fun zt zk => XS.i2l X4.here hx rfl (hb hby d9_139) rfl zk) ?_
    refine Go.st (T' := T4.setTop (mkF m 141 #[.val (.ref a1), .val (.int (Int32.ofNat (ne - D))), .val (.int (Int32.ofNat ne)), .val (.long mx), .second, .val (.long (Int64.ofNat (nv / 10 ^ (r + 1)))), .second, .val (.int (Int32.ofNat (ne - (r + 1)))), .val (.int (Int32.ofNat (48 + nv / 10 ^ r % 10))), .val (.int ((Int32.ofNat (48 + nv / 10 ^ r % 10)) - (48 : Int32)))] [(.long (((Int64.ofNat (nv / 10 ^ (r + 1))) * (10 : Int64)) + (((Int32.ofNat (48 + nv / 10 ^ r % 10)) - (48 : Int32)).toInt64)))])) (fun zt zk => XS.ladd X4.here hx rfl (hb hby d9_140) rfl zk) ?_
    rw [k5]
    refine Go.st (T' := T4.setTop (mkF m 143 #[.val (.ref a1), .val (.int (Int32.ofNat (ne - D))), .val (.int (Int32.ofNat ne)), .val (.long mx), .second, .val (.long (Int64.ofNat (nv / 10 ^ r))), .second, .val (.int (Int32.ofNat (ne - (r + 1)))), .val (.int (Int32.ofNat (48 + nv / 10 ^ r % 10))), .val (.int ((Int32.ofNat (48 + nv / 10 ^ r % 10)) - (48 : Int32)))] [])) (fun zt zk => XS.lstore X4.here hx rfl (hb hby d9_141) rfl (l' := #[.val (.ref a1), .val (.int (Int32.ofNat (ne - D))), .val (.int (Int32.ofNat ne)), .val (.long mx), .second, .val (.long (Int64.ofNat (nv / 10 ^ r))), .second, .val (.int (Int32.ofNat (ne - (r + 1)))), .val (.int (Int32.ofNat (48 + nv / 10 ^ r % 10))), .val (.int ((Int32.ofNat (48 + nv / 10 ^ r % 10)) - (48 : Int32)))]) rfl zk) ?_
    refine Go.st (T' := T4.setTop (mkF m 146 #[.val (.ref a1), .val (.int (Int32.ofNat (ne - D))), .val (.int (Int32.ofNat ne)), .val (.long mx), .second, .val (.long (Int64.ofNat (nv / 10 ^ r))), .second, .val (.int ((Int32.ofNat (ne - (r + 1))) + (1 : Int32))), .val (.int (Int32.ofNat (48 + nv / 10 ^ r % 10))), .val (.int ((Int32.ofNat (48 + nv / 10 ^ r % 10)) - (48 : Int32)))] [])) (fun zt zk => XS.iinc X4.here hx rfl (hb hby d9_143) rfl (l' := #[.val (.ref a1), .val (.int (Int32.ofNat (ne - D))), .val (.int (Int32.ofNat ne)), .val (.long mx), .second, .val (.long (Int64.ofNat (nv / 10 ^ r))), .second, .val (.int ((Int32.ofNat (ne - (r + 1))) + (1 : Int32))), .val (.int (Int32.ofNat (48 + nv / 10 ^ r % 10))), .val (.int ((Int32.ofNat (48 + nv / 10 ^ r % 10)) - (48 : Int32)))]) rfl zk) ?_
    rw [own_inc (by omega), show ne - (r + 1) + 1 = ne - r by omega]
    refine Go.st (T' := T4.setTop (mkF m 55 #[.val (.ref a1), .val (.int (Int32.ofNat (ne - D))), .val (.int (Int32.ofNat ne)), .val (.long mx), .second, .val (.long (Int64.ofNat (nv / 10 ^ r))), .second, .val (.int (Int32.ofNat (ne - r))), .val (.int (Int32.ofNat (48 + nv / 10 ^ r % 10))), .val (.int ((Int32.ofNat (48 + nv / 10 ^ r % 10)) - (48 : Int32)))] [])) (fun zt zk => XS.goto X4.here hx rfl (pc0 := 146) (pc' := 55) rfl (hb hby d9_146) (by decide) (by decide) zk) ?_
    exact ih (by omega) _ _ _ _ X4 eq4 NN5 (One.val rfl) (One.val rfl)
theorem pd_8226155 : parseMethodDescriptor "(JJ)J" = some ⟨[.long, .long], some .long⟩ := by decide +kernel
theorem pd_5e17a0d : parseMethodDescriptor "([CIJ)I" = some ⟨[(.array .char), .int, .long], some .int⟩ := by decide +kernel
theorem pd_a67b36d : parseMethodDescriptor "([C)V" = some ⟨[(.array .char)], none⟩ := by decide +kernel
theorem pd_7130af9 : parseMethodDescriptor "(Ljava/lang/CharSequence;IIJ)J" = some ⟨[(.object "java/lang/CharSequence"), .int, .int, .long], some .long⟩ := by decide +kernel
theorem ef_0 (m : MethodId) (x0 : Int64) (x1 : Int32) (x2 : Int64) (x3 : Int32) : entryFrame m #[(.long x0), (.int x1), (.long x2), (.int x3)] maxLocals = mkF m 0 #[.val (.long x0), .second, .val (.int x1), .val (.long x2), .second, .val (.int x3), .unset, .unset, .unset, .unset, .unset, .unset, .unset, .unset, .unset, .unset, .unset] [] := by first | (simp [entryFrame, mkF, argsToLocals, Value.category, maxLocals]; done) | rfl
def Q_rm0 (Z : State) (q1 : Int64) (p3 : Int32) (q4 : Int64) (p6 : Int32) (h0 : Heap) (n0 : Nat) (v : Option Value) (h : Heap) (L : List Loc) : Prop := v = some (.int (1 : Int32)) ∧ Fr n0 L
set_option maxRecDepth 65536 in
set_option maxHeartbeats 40000000 in
theorem rm0 (l : Launch) (Z : State) (a0 : Array Value) (hw : ∀ d ∈ tables_1, d.before a0 Z = true) (ws : List Jvm.Cond) (q1 : Int64) (p3 : Int32) (q4 : Int64) (p6 : Int32) (h0 : Heap) (n0 : Nat) (Z0 : n0 ≤ h0.size) (G1 : Int32) (G3 : Value) (O2 : Sta Z Z.heap "java/lang/String" "COMPACT_STRINGS" "Z" (.int G1)) (O4 : Sta Z Z.heap "jdk/internal/util/Preconditions" "SIOOBE_FORMATTER" "Ljava/util/function/BiFunction;" G3) (P5 : ¬ (G1 = (0 : Int32))) (rG3 : G3.isRef = true) (X00 : Old Z n0 h0) :
    MetFree l x (head1 (Jvm.Cond.code x code maxLocals ret :: ws) room_1) (fun a U => a = #[(.long q1), (.int p3), (.long q4), (.int p6)] ∧ Z.Warmed39 U.vm ∧ U.heap = h0) (fun _ _ _ _ _ => True) (fun _ U o U' => ∃ v L, o = .returned v ∧ (Q_rm0 Z q1 p3 q4 p6 h0 n0) v U'.heap L ∧ FrameEnd U o U' L room_1.cells room_1.slots) := by
  refine MetFree.of_bodySF (plainFor_of_name pn_2c6e753) hisR ?_
  intro p e s m args below meth c s₁ Bd hml0 hP hK
  obtain ⟨rfl, hZ, hh⟩ := hP
  have hx := Bd.exec
  have hby := Bd.bytes
  have hml : c.maxLocals = 17 := hml0
  have hown : s.vm.findClass "com/example/beaulieu/beaulieu/model/DecimalParsePositivePinLaw" = some m.cls := findClass_of_methodNamed Bd.named
  have hnm := (name_of_methodNamed Bd.named Bd.method).1
  have X0 : Stand p l e room_1 s m #[(.long q1), (.int p3), (.long q4), (.int p6)] below meth c s₁ [] 0 0 := Stand.of_body Bd
  have e0 : s₁.heap = h0 := by rw [← hh, Bd.state]; rfl
  have N0 := Fr.nil n0
  have K0 : Keep h0 h0 [] := Keep.refl h0 []
  show Go p e below (s₁.setTop (entryFrame m #[(.long q1), (.int p3), (.long q4), (.int p6)] maxLocals)) (EndN s (Q_rm0 Z q1 p3 q4 p6 h0 n0) room_1.cells room_1.slots)
  refine Go.top (ef_0 m q1 p3 q4 p6) ?_
  refine Go.st (T' := s₁.setTop (mkF m 1 #[.val (.long q1), .second, .val (.int p3), .val (.long q4), .second, .val (.int p6), .unset, .unset, .unset, .unset, .unset, .unset, .unset, .unset, .unset, .unset, .unset] [(.long (1 : Int64))])) (fun zt zk => XS.lconst X0.here hx rfl (hb hby at_0) zk) ?_
  refine Go.st (T' := s₁.setTop (mkF m 2 #[.val (.long q1), .second, .val (.int p3), .val (.long q4), .second, .val (.int p6), .unset, .unset, .unset, .unset, .unset, .unset, .unset, .unset, .unset, .unset, .unset] [(.long q1), (.long (1 : Int64))])) (fun zt zk => XS.lloadN X0.here hx rfl (hb hby at_1) rfl zk) ?_
  refine Go.st (T' := s₁.setTop (mkF m 5 #[.val (.long q1), .second, .val (.int p3), .val (.long q4), .second, .val (.int p6), .unset, .unset, .unset, .unset, .unset, .unset, .unset, .unset, .unset, .unset, .unset] [(.long (9223372036854775807 : Int64)), (.long q1), (.long (1 : Int64))])) (fun zt zk => X0.ldc2Long hx hown (mvT hZ (hw _ (List.mem_of_getElem? (i := 0) rfl))) (g := (mkF m 2 #[.val (.long q1), .second, .val (.int p3), .val (.long q4), .second, .val (.int p6), .unset, .unset, .unset, .unset, .unset, .unset, .unset, .unset, .unset, .unset, .unset] [(.long q1), (.long (1 : Int64))])) rfl (hb hby at_2) zt zk) ?_
  refine Go.st (T' := s₁.setTop (mkF m 6 #[.val (.long q1), .second, .val (.int p3), .val (.long q4), .second, .val (.int p6), .unset, .unset, .unset, .unset, .unset, .unset, .unset, .unset, .unset, .unset, .unset] [(.long (q1 &&& (9223372036854775807 : Int64))), (.long (1 : Int64))])) (fun zt zk => XS.land X0.here hx rfl (hb hby at_5) rfl zk) ?_
  refine Go.st (T' := s₁.setTop (mkF m 7 #[.val (.long q1), .second, .val (.int p3), .val (.long q4), .second, .val (.int p6), .unset, .unset, .unset, .unset, .unset, .unset, .unset, .unset, .unset, .unset, .unset] [(.int p3), (.long (q1 &&& (9223372036854775807 : Int64))), (.long (1 : Int64))])) (fun zt zk => XS.iloadN X0.here hx rfl (hb hby at_6) rfl zk) ?_
  refine Go.st (T' := s₁.setTop (mkF m 9 #[.val (.long q1), .second, .val (.int p3), .val (.long q4), .second, .val (.int p6), .unset, .unset, .unset, .unset, .unset, .unset, .unset, .unset, .unset, .unset, .unset] [(.int (63 : Int32)), (.int p3), (.long (q1 &&& (9223372036854775807 : Int64))), (.long (1 : Int64))])) (fun zt zk => XS.bipush X0.here hx rfl (hb hby at_7) zk) ?_
  refine Go.st (T' := s₁.setTop (mkF m 10 #[.val (.long q1), .second, .val (.int p3), .val (.long q4), .second, .val (.int p6), .unset, .unset, .unset, .unset, .unset, .unset, .unset, .unset, .unset, .unset, .unset] [(.int (p3 &&& (63 : Int32))), (.long (q1 &&& (9223372036854775807 : Int64))), (.long (1 : Int64))])) (fun zt zk => XS.iand X0.here hx rfl (hb hby at_9) rfl zk) ?_
  refine Go.st (T' := s₁.setTop (mkF m 11 #[.val (.long q1), .second, .val (.int p3), .val (.long q4), .second, .val (.int p6), .unset, .unset, .unset, .unset, .unset, .unset, .unset, .unset, .unset, .unset, .unset] [(.long (((q1 &&& (9223372036854775807 : Int64)).toUInt64 >>> ((p3 &&& (63 : Int32)) &&& 0x3f).toInt64.toUInt64).toInt64)), (.long (1 : Int64))])) (fun zt zk => XS.lushr X0.here hx rfl (hb hby at_10) rfl zk) ?_
  obtain ⟨vr6, _, ⟨T6, L6, k6, n6⟩, -, X6, ⟨Lc6, hQ6, l6, y6, z6⟩, st6⟩ := Jvm.LawKit.callS X0 hx (y := (⟨"java/lang/Math", "max", "(JJ)J"⟩ : MethodName)) hown (mvT hZ (hw _ (List.mem_of_getElem? (i := 1) rfl))) (mvT hZ (hw _ (List.mem_of_getElem? (i := 2) rfl))) (mvT hZ (hw _ (List.mem_of_getElem? (i := 3) rfl))) (mvT hZ (hw _ (List.mem_of_getElem? (i := 4) rfl))) (by decide) (backOf (W := 0) (rm1 l Z a0 hw (1 : Int64) (((q1 &&& (9223372036854775807 : Int64)).toUInt64 >>> ((p3 &&& (63 : Int32)) &&& 0x3f).toInt64.toUInt64).toInt64) h0 n0 Z0) hZ (hw _ (List.mem_of_getElem? (i := 4) rfl)) (hw _ (List.mem_of_getElem? (i := 3) rfl)) (by decide) (by decide)) (g := (mkF m 11 #[.val (.long q1), .second, .val (.int p3), .val (.long q4), .second, .val (.int p6), .unset, .unset, .unset, .unset, .unset, .unset, .unset, .unset, .unset, .unset, .unset] [(.long (((q1 &&& (9223372036854775807 : Int64)).toUInt64 >>> ((p3 &&& (63 : Int32)) &&& 0x3f).toInt64.toUInt64).toInt64)), (.long (1 : Int64))])) rfl (by rw [hml]; rfl) (argsL := [(.long (1 : Int64)), (.long (((q1 &&& (9223372036854775807 : Int64)).toUInt64 >>> ((p3 &&& (63 : Int32)) &&& 0x3f).toInt64.toUInt64).toInt64))]) (rest := []) (lenOf pd_8226155 rfl) rfl (by show 2 * 0 + _ ≤ _; exact Nat.le_of_eq rfl) (hb hby at_11) (fun _ _ => ⟨rfl, e0, (by decide : 0 + 0 ≤ _), (by decide : 0 + 0 ≤ _)⟩)
  dsimp only [Pt.U, Pt.locs, Pt.cells, Pt.slots] at X6 l6 y6 z6 st6 hQ6
  subst l6 y6 z6
  obtain ⟨rfl, Nq6, eq6⟩ := hQ6
  have NN7 := Fr.app N0 Nq6
  refine Go.st (T' := T6.setTop (mkF m 14 #[.val (.long q1), .second, .val (.int p3), .val (.long q4), .second, .val (.int p6), .unset, .unset, .unset, .unset, .unset, .unset, .unset, .unset, .unset, .unset, .unset] [(.long (own_max (1 : Int64) (((q1 &&& (9223372036854775807 : Int64)).toUInt64 >>> ((p3 &&& (63 : Int32)) &&& 0x3f).toInt64.toUInt64).toInt64)))])) (fun zt zk => st6 zt zk) ?_
  obtain ⟨nv, hv0, hv1, hv2⟩ := own_v (((q1 &&& (9223372036854775807 : Int64)).toUInt64 >>> ((p3 &&& (63 : Int32)) &&& 0x3f).toInt64.toUInt64).toInt64)
  rw [hv0]
  refine Go.st (T' := T6.setTop (mkF m 16 #[.val (.long q1), .second, .val (.int p3), .val (.long q4), .second, .val (.int p6), .val (.long (Int64.ofNat nv)), .second, .unset, .unset, .unset, .unset, .unset, .unset, .unset, .unset, .unset] [])) (fun zt zk => XS.lstore X6.here hx rfl (hb hby at_14) rfl (l' := #[.val (.long q1), .second, .val (.int p3), .val (.long q4), .second, .val (.int p6), .val (.long (Int64.ofNat nv)), .second, .unset, .unset, .unset, .unset, .unset, .unset, .unset, .unset, .unset]) rfl zk) ?_
  refine Go.st (T' := T6.setTop (mkF m 18 #[.val (.long q1), .second, .val (.int p3), .val (.long q4), .second, .val (.int p6), .val (.long (Int64.ofNat nv)), .second, .unset, .unset, .unset, .unset, .unset, .unset, .unset, .unset, .unset] [(.int p6)])) (fun zt zk => XS.iload X6.here hx rfl (hb hby at_16) rfl zk) ?_
  refine Go.st (T' := T6.setTop (mkF m 19 #[.val (.long q1), .second, .val (.int p3), .val (.long q4), .second, .val (.int p6), .val (.long (Int64.ofNat nv)), .second, .unset, .unset, .unset, .unset, .unset, .unset, .unset, .unset, .unset] [(.int (2 : Int32)), (.int p6)])) (fun zt zk => XS.iconst X6.here hx rfl (hb hby at_18) zk) ?_
  refine Go.st (T' := T6.setTop (mkF m 20 #[.val (.long q1), .second, .val (.int p3), .val (.long q4), .second, .val (.int p6), .val (.long (Int64.ofNat nv)), .second, .unset, .unset, .unset, .unset, .unset, .unset, .unset, .unset, .unset] [(.int ((p6.toUInt32 >>> ((2 : Int32) &&& 31).toUInt32).toInt32))])) (fun zt zk => XS.iushr X6.here hx rfl (hb hby at_19) rfl zk) ?_
  refine Go.st (T' := T6.setTop (mkF m 23 #[.val (.long q1), .second, .val (.int p3), .val (.long q4), .second, .val (.int p6), .val (.long (Int64.ofNat nv)), .second, .unset, .unset, .unset, .unset, .unset, .unset, .unset, .unset, .unset] [(.int (255 : Int32)), (.int ((p6.toUInt32 >>> ((2 : Int32) &&& 31).toUInt32).toInt32))])) (fun zt zk => XS.sipush X6.here hx rfl (hb hby at_20) zk) ?_
  refine Go.st (T' := T6.setTop (mkF m 24 #[.val (.long q1), .second, .val (.int p3), .val (.long q4), .second, .val (.int p6), .val (.long (Int64.ofNat nv)), .second, .unset, .unset, .unset, .unset, .unset, .unset, .unset, .unset, .unset] [(.int (((p6.toUInt32 >>> ((2 : Int32) &&& 31).toUInt32).toInt32) &&& (255 : Int32)))])) (fun zt zk => XS.iand X6.here hx rfl (hb hby at_23) rfl zk) ?_
  refine Go.st (T' := T6.setTop (mkF m 25 #[.val (.long q1), .second, .val (.int p3), .val (.long q4), .second, .val (.int p6), .val (.long (Int64.ofNat nv)), .second, .unset, .unset, .unset, .unset, .unset, .unset, .unset, .unset, .unset] [(.int ((((p6.toUInt32 >>> ((2 : Int32) &&& 31).toUInt32).toInt32) &&& (255 : Int32)).toUInt32.toUInt16.toUInt32.toInt32))])) (fun zt zk => XS.i2c X6.here hx rfl (hb hby at_24) rfl zk) ?_
  have hjb := own_and255 _ |> fun (z : ¬ nar .char ((((p6.toUInt32 >>> ((2 : Int32) &&& 31).toUInt32).toInt32) &&& (255 : Int32)).toUInt32.toUInt16.toUInt32.toInt32) < 0 ∧ ¬ (255 : Int32) < nar .char ((((p6.toUInt32 >>> ((2 : Int32) &&& 31).toUInt32).toInt32) &&& (255 : Int32)).toUInt32.toUInt16.toUInt32.toInt32)) => z
  obtain ⟨jc, hjc⟩ : ∃ z, z = ((((p6.toUInt32 >>> ((2 : Int32) &&& 31).toUInt32).toInt32) &&& (255 : Int32)).toUInt32.toUInt16.toUInt32.toInt32) := ⟨_, rfl⟩
  rw [← hjc]
  rw [← hjc] at hjb
  refine Go.st (T' := T6.setTop (mkF m 27 #[.val (.long q1), .second, .val (.int p3), .val (.long q4), .second, .val (.int p6), .val (.long (Int64.ofNat nv)), .second, .val (.int jc), .unset, .unset, .unset, .unset, .unset, .unset, .unset, .unset] [])) (fun zt zk => XS.istore X6.here hx rfl (hb hby at_25) rfl (l' := #[.val (.long q1), .second, .val (.int p3), .val (.long q4), .second, .val (.int p6), .val (.long (Int64.ofNat nv)), .second, .val (.int jc), .unset, .unset, .unset, .unset, .unset, .unset, .unset, .unset]) rfl zk) ?_
  refine Go.st (T' := T6.setTop (mkF m 29 #[.val (.long q1), .second, .val (.int p3), .val (.long q4), .second, .val (.int p6), .val (.long (Int64.ofNat nv)), .second, .val (.int jc), .unset, .unset, .unset, .unset, .unset, .unset, .unset, .unset] [(.int (23 : Int32))])) (fun zt zk => XS.bipush X6.here hx rfl (hb hby at_27) zk) ?_
  obtain ⟨T8, h8, k8, X8, e8, E8, A8, st8⟩ := newP X6 hx hZ (hw _ (List.mem_of_getElem? (i := 5) rfl)) eq6 (g := (mkF m 29 #[.val (.long q1), .second, .val (.int p3), .val (.long q4), .second, .val (.int p6), .val (.long (Int64.ofNat nv)), .second, .val (.int jc), .unset, .unset, .unset, .unset, .unset, .unset, .unset, .unset] [(.int (23 : Int32))])) rfl (hb hby at_29) rfl (by decide) (cap := 23) (by decide) (by decide) (by decide) (by decide)
  obtain ⟨b8, g8⟩ : ∃ z, z = h0.size := ⟨_, rfl⟩
  rw [← g8] at A8 st8
  have g_b8 : n0 ≤ b8 := Nat.le_trans (Nat.le_trans Z0 K0.1) (Nat.le_of_eq g8.symm)
  have sz_b8 : h0.size ≤ b8 := Nat.le_trans K0.1 (Nat.le_of_eq g8.symm)
  have K8 : Keep h0 h8 [] := K0.ext E8
  have V8 : Arv Z h8 b8 k8 .char (23 : Int32) [(.int (0 : Int32)), (.int (0 : Int32)), (.int (0 : Int32)), (.int (0 : Int32)), (.int (0 : Int32)), (.int (0 : Int32)), (.int (0 : Int32)), (.int (0 : Int32)), (.int (0 : Int32)), (.int (0 : Int32)), (.int (0 : Int32)), (.int (0 : Int32)), (.int (0 : Int32)), (.int (0 : Int32)), (.int (0 : Int32)), (.int (0 : Int32)), (.int (0 : Int32)), (.int (0 : Int32)), (.int (0 : Int32)), (.int (0 : Int32)), (.int (0 : Int32)), (.int (0 : Int32)), (.int (0 : Int32))] (.int (0 : Int32)) := (Arv.new A8 (by decide)).pad (pad_rep [] (.int (0 : Int32)) 23)
  refine Go.st (T' := T8.setTop (mkF m 31 #[.val (.long q1), .second, .val (.int p3), .val (.long q4), .second, .val (.int p6), .val (.long (Int64.ofNat nv)), .second, .val (.int jc), .unset, .unset, .unset, .unset, .unset, .unset, .unset, .unset] [(.ref b8)])) (fun zt zk => st8 zt zk) ?_
  refine Go.st (T' := T8.setTop (mkF m 32 #[.val (.long q1), .second, .val (.int p3), .val (.long q4), .second, .val (.int p6), .val (.long (Int64.ofNat nv)), .second, .val (.int jc), .unset, .unset, .unset, .unset, .unset, .unset, .unset, .unset] [(.ref b8), (.ref b8)])) (fun zt zk => XS.dup X8.here hx rfl (hb hby at_31) rfl rfl zk) ?_
  refine Go.st (T' := T8.setTop (mkF m 33 #[.val (.long q1), .second, .val (.int p3), .val (.long q4), .second, .val (.int p6), .val (.long (Int64.ofNat nv)), .second, .val (.int jc), .unset, .unset, .unset, .unset, .unset, .unset, .unset, .unset] [(.int (0 : Int32)), (.ref b8), (.ref b8)])) (fun zt zk => XS.iconst X8.here hx rfl (hb hby at_32) zk) ?_
  refine Go.st (T' := T8.setTop (mkF m 35 #[.val (.long q1), .second, .val (.int p3), .val (.long q4), .second, .val (.int p6), .val (.long (Int64.ofNat nv)), .second, .val (.int jc), .unset, .unset, .unset, .unset, .unset, .unset, .unset, .unset] [(.int jc), (.int (0 : Int32)), (.ref b8), (.ref b8)])) (fun zt zk => XS.iload X8.here hx rfl (hb hby at_33) rfl zk) ?_
  obtain ⟨cl9, Ar9, q9, S9, M9, H9, G9⟩ := id V8
  obtain ⟨T9, h9, X9, e9, W9, st9⟩ := stC X8 hx hZ e8 Ar9 (j := (0 : Int32)) (inb_of S9 ⟨by decide, by decide⟩) (g := (mkF m 35 #[.val (.long q1), .second, .val (.int p3), .val (.long q4), .second, .val (.int p6), .val (.long (Int64.ofNat nv)), .second, .val (.int jc), .unset, .unset, .unset, .unset, .unset, .unset, .unset, .unset] [(.int jc), (.int (0 : Int32)), (.ref b8), (.ref b8)])) rfl rfl (hb hby at_35)
  have V9 : Arv Z h9 b8 k8 .char (23 : Int32) [(.int (nar .char jc)), (.int (0 : Int32)), (.int (0 : Int32)), (.int (0 : Int32)), (.int (0 : Int32)), (.int (0 : Int32)), (.int (0 : Int32)), (.int (0 : Int32)), (.int (0 : Int32)), (.int (0 : Int32)), (.int (0 : Int32)), (.int (0 : Int32)), (.int (0 : Int32)), (.int (0 : Int32)), (.int (0 : Int32)), (.int (0 : Int32)), (.int (0 : Int32)), (.int (0 : Int32)), (.int (0 : Int32)), (.int (0 : Int32)), (.int (0 : Int32)), (.int (0 : Int32)), (.int (0 : Int32))] (.int (0 : Int32)) := Arv.set Ar9 q9 S9 M9 H9 G9 (fits_nar_char _) W9 0 rfl (Nat.le_of_ble_eq_true rfl)
  have K9 : Keep h0 h9 [] := K8.wr W9 (Or.inr sz_b8)
  have N9 := Fr.snoc X9 NN7 g_b8
  refine Go.st (T' := T9.setTop (mkF m 36 #[.val (.long q1), .second, .val (.int p3), .val (.long q4), .second, .val (.int p6), .val (.long (Int64.ofNat nv)), .second, .val (.int jc), .unset, .unset, .unset, .unset, .unset, .unset, .unset, .unset] [(.ref b8)])) (fun zt zk => st9 zt zk) ?_
  refine Go.st (T' := T9.setTop (mkF m 37 #[.val (.long q1), .second, .val (.int p3), .val (.long q4), .second, .val (.int p6), .val (.long (Int64.ofNat nv)), .second, .val (.int jc), .unset, .unset, .unset, .unset, .unset, .unset, .unset, .unset] [(.ref b8), (.ref b8)])) (fun zt zk => XS.dup X9.here hx rfl (hb hby at_36) rfl rfl zk) ?_
  refine Go.st (T' := T9.setTop (mkF m 38 #[.val (.long q1), .second, .val (.int p3), .val (.long q4), .second, .val (.int p6), .val (.long (Int64.ofNat nv)), .second, .val (.int jc), .unset, .unset, .unset, .unset, .unset, .unset, .unset, .unset] [(.int (1 : Int32)), (.ref b8), (.ref b8)])) (fun zt zk => XS.iconst X9.here hx rfl (hb hby at_37) zk) ?_
  refine Go.st (T' := T9.setTop (mkF m 40 #[.val (.long q1), .second, .val (.int p3), .val (.long q4), .second, .val (.int p6), .val (.long (Int64.ofNat nv)), .second, .val (.int jc), .unset, .unset, .unset, .unset, .unset, .unset, .unset, .unset] [(.int jc), (.int (1 : Int32)), (.ref b8), (.ref b8)])) (fun zt zk => XS.iload X9.here hx rfl (hb hby at_38) rfl zk) ?_
  obtain ⟨cl10, Ar10, q10, S10, M10, H10, G10⟩ := id V9
  obtain ⟨T10, h10, X10, e10, W10, st10⟩ := stC X9 hx hZ e9 Ar10 (j := (1 : Int32)) (inb_of S10 ⟨by decide, by decide⟩) (g := (mkF m 40 #[.val (.long q1), .second, .val (.int p3), .val (.long q4), .second, .val (.int p6), .val (.long (Int64.ofNat nv)), .second, .val (.int jc), .unset, .unset, .unset, .unset, .unset, .unset, .unset, .unset] [(.int jc), (.int (1 : Int32)), (.ref b8), (.ref b8)])) rfl rfl (hb hby at_40)
  have V10 : Arv Z h10 b8 k8 .char (23 : Int32) [(.int (nar .char jc)), (.int (nar .char jc)), (.int (0 : Int32)), (.int (0 : Int32)), (.int (0 : Int32)), (.int (0 : Int32)), (.int (0 : Int32)), (.int (0 : Int32)), (.int (0 : Int32)), (.int (0 : Int32)), (.int (0 : Int32)), (.int (0 : Int32)), (.int (0 : Int32)), (.int (0 : Int32)), (.int (0 : Int32)), (.int (0 : Int32)), (.int (0 : Int32)), (.int (0 : Int32)), (.int (0 : Int32)), (.int (0 : Int32)), (.int (0 : Int32)), (.int (0 : Int32)), (.int (0 : Int32))] (.int (0 : Int32)) := Arv.set Ar10 q10 S10 M10 H10 G10 (fits_nar_char _) W10 1 rfl (Nat.le_of_ble_eq_true rfl)
  have K10 : Keep h0 h10 [] := K9.wr W10 (Or.inr sz_b8)
  have N10 := Fr.snoc X10 N9 g_b8
  refine Go.st (T' := T10.setTop (mkF m 41 #[.val (.long q1), .second, .val (.int p3), .val (.long q4), .second, .val (.int p6), .val (.long (Int64.ofNat nv)), .second, .val (.int jc), .unset, .unset, .unset, .unset, .unset, .unset, .unset, .unset] [(.ref b8)])) (fun zt zk => st10 zt zk) ?_
  refine Go.st (T' := T10.setTop (mkF m 42 #[.val (.long q1), .second, .val (.int p3), .val (.long q4), .second, .val (.int p6), .val (.long (Int64.ofNat nv)), .second, .val (.int jc), .unset, .unset, .unset, .unset, .unset, .unset, .unset, .unset] [(.ref b8), (.ref b8)])) (fun zt zk => XS.dup X10.here hx rfl (hb hby at_41) rfl rfl zk) ?_
  refine Go.st (T' := T10.setTop (mkF m 43 #[.val (.long q1), .second, .val (.int p3), .val (.long q4), .second, .val (.int p6), .val (.long (Int64.ofNat nv)), .second, .val (.int jc), .unset, .unset, .unset, .unset, .unset, .unset, .unset, .unset] [(.int (2 : Int32)), (.ref b8), (.ref b8)])) (fun zt zk => XS.iconst X10.here hx rfl (hb hby at_42) zk) ?_
  refine Go.st (T' := T10.setTop (mkF m 45 #[.val (.long q1), .second, .val (.int p3), .val (.long q4), .second, .val (.int p6), .val (.long (Int64.ofNat nv)), .second, .val (.int jc), .unset, .unset, .unset, .unset, .unset, .unset, .unset, .unset] [(.int jc), (.int (2 : Int32)), (.ref b8), (.ref b8)])) (fun zt zk => XS.iload X10.here hx rfl (hb hby at_43) rfl zk) ?_
  obtain ⟨cl11, Ar11, q11, S11, M11, H11, G11⟩ := id V10
  obtain ⟨T11, h11, X11, e11, W11, st11⟩ := stC X10 hx hZ e10 Ar11 (j := (2 : Int32)) (inb_of S11 ⟨by decide, by decide⟩) (g := (mkF m 45 #[.val (.long q1), .second, .val (.int p3), .val (.long q4), .second, .val (.int p6), .val (.long (Int64.ofNat nv)), .second, .val (.int jc), .unset, .unset, .unset, .unset, .unset, .unset, .unset, .unset] [(.int jc), (.int (2 : Int32)), (.ref b8), (.ref b8)])) rfl rfl (hb hby at_45)
  have V11 : Arv Z h11 b8 k8 .char (23 : Int32) [(.int (nar .char jc)), (.int (nar .char jc)), (.int (nar .char jc)), (.int (0 : Int32)), (.int (0 : Int32)), (.int (0 : Int32)), (.int (0 : Int32)), (.int (0 : Int32)), (.int (0 : Int32)), (.int (0 : Int32)), (.int (0 : Int32)), (.int (0 : Int32)), (.int (0 : Int32)), (.int (0 : Int32)), (.int (0 : Int32)), (.int (0 : Int32)), (.int (0 : Int32)), (.int (0 : Int32)), (.int (0 : Int32)), (.int (0 : Int32)), (.int (0 : Int32)), (.int (0 : Int32)), (.int (0 : Int32))] (.int (0 : Int32)) := Arv.set Ar11 q11 S11 M11 H11 G11 (fits_nar_char _) W11 2 rfl (Nat.le_of_ble_eq_true rfl)
  have K11 : Keep h0 h11 [] := K10.wr W11 (Or.inr sz_b8)
  have N11 := Fr.snoc X11 N10 g_b8
  refine Go.st (T' := T11.setTop (mkF m 46 #[.val (.long q1), .second, .val (.int p3), .val (.long q4), .second, .val (.int p6), .val (.long (Int64.ofNat nv)), .second, .val (.int jc), .unset, .unset, .unset, .unset, .unset, .unset, .unset, .unset] [(.ref b8)])) (fun zt zk => st11 zt zk) ?_
  refine Go.st (T' := T11.setTop (mkF m 47 #[.val (.long q1), .second, .val (.int p3), .val (.long q4), .second, .val (.int p6), .val (.long (Int64.ofNat nv)), .second, .val (.int jc), .unset, .unset, .unset, .unset, .unset, .unset, .unset, .unset] [(.ref b8), (.ref b8)])) (fun zt zk => XS.dup X11.here hx rfl (hb hby at_46) rfl rfl zk) ?_
  refine Go.st (T' := T11.setTop (mkF m 48 #[.val (.long q1), .second, .val (.int p3), .val (.long q4), .second, .val (.int p6), .val (.long (Int64.ofNat nv)), .second, .val (.int jc), .unset, .unset, .unset, .unset, .unset, .unset, .unset, .unset] [(.int (3 : Int32)), (.ref b8), (.ref b8)])) (fun zt zk => XS.iconst X11.here hx rfl (hb hby at_47) zk) ?_
  refine Go.st (T' := T11.setTop (mkF m 50 #[.val (.long q1), .second, .val (.int p3), .val (.long q4), .second, .val (.int p6), .val (.long (Int64.ofNat nv)), .second, .val (.int jc), .unset, .unset, .unset, .unset, .unset, .unset, .unset, .unset] [(.int jc), (.int (3 : Int32)), (.ref b8), (.ref b8)])) (fun zt zk => XS.iload X11.here hx rfl (hb hby at_48) rfl zk) ?_
  obtain ⟨cl12, Ar12, q12, S12, M12, H12, G12⟩ := id V11
  obtain ⟨T12, h12, X12, e12, W12, st12⟩ := stC X11 hx hZ e11 Ar12 (j := (3 : Int32)) (inb_of S12 ⟨by decide, by decide⟩) (g := (mkF m 50 #[.val (.long q1), .second, .val (.int p3), .val (.long q4), .second, .val (.int p6), .val (.long (Int64.ofNat nv)), .second, .val (.int jc), .unset, .unset, .unset, .unset, .unset, .unset, .unset, .unset] [(.int jc), (.int (3 : Int32)), (.ref b8), (.ref b8)])) rfl rfl (hb hby at_50)
  have V12 : Arv Z h12 b8 k8 .char (23 : Int32) [(.int (nar .char jc)), (.int (nar .char jc)), (.int (nar .char jc)), (.int (nar .char jc)), (.int (0 : Int32)), (.int (0 : Int32)), (.int (0 : Int32)), (.int (0 : Int32)), (.int (0 : Int32)), (.int (0 : Int32)), (.int (0 : Int32)), (.int (0 : Int32)), (.int (0 : Int32)), (.int (0 : Int32)), (.int (0 : Int32)), (.int (0 : Int32)), (.int (0 : Int32)), (.int (0 : Int32)), (.int (0 : Int32)), (.int (0 : Int32)), (.int (0 : Int32)), (.int (0 : Int32)), (.int (0 : Int32))] (.int (0 : Int32)) := Arv.set Ar12 q12 S12 M12 H12 G12 (fits_nar_char _) W12 3 rfl (Nat.le_of_ble_eq_true rfl)
  have K12 : Keep h0 h12 [] := K11.wr W12 (Or.inr sz_b8)
  have N12 := Fr.snoc X12 N11 g_b8
  refine Go.st (T' := T12.setTop (mkF m 51 #[.val (.long q1), .second, .val (.int p3), .val (.long q4), .second, .val (.int p6), .val (.long (Int64.ofNat nv)), .second, .val (.int jc), .unset, .unset, .unset, .unset, .unset, .unset, .unset, .unset] [(.ref b8)])) (fun zt zk => st12 zt zk) ?_
  refine Go.st (T' := T12.setTop (mkF m 52 #[.val (.long q1), .second, .val (.int p3), .val (.long q4), .second, .val (.int p6), .val (.long (Int64.ofNat nv)), .second, .val (.int jc), .unset, .unset, .unset, .unset, .unset, .unset, .unset, .unset] [(.ref b8), (.ref b8)])) (fun zt zk => XS.dup X12.here hx rfl (hb hby at_51) rfl rfl zk) ?_
  refine Go.st (T' := T12.setTop (mkF m 53 #[.val (.long q1), .second, .val (.int p3), .val (.long q4), .second, .val (.int p6), .val (.long (Int64.ofNat nv)), .second, .val (.int jc), .unset, .unset, .unset, .unset, .unset, .unset, .unset, .unset] [(.int (4 : Int32)), (.ref b8), (.ref b8)])) (fun zt zk => XS.iconst X12.here hx rfl (hb hby at_52) zk) ?_
  refine Go.st (T' := T12.setTop (mkF m 55 #[.val (.long q1), .second, .val (.int p3), .val (.long q4), .second, .val (.int p6), .val (.long (Int64.ofNat nv)), .second, .val (.int jc), .unset, .unset, .unset, .unset, .unset, .unset, .unset, .unset] [(.int jc), (.int (4 : Int32)), (.ref b8), (.ref b8)])) (fun zt zk => XS.iload X12.here hx rfl (hb hby at_53) rfl zk) ?_
  obtain ⟨cl13, Ar13, q13, S13, M13, H13, G13⟩ := id V12
  obtain ⟨T13, h13, X13, e13, W13, st13⟩ := stC X12 hx hZ e12 Ar13 (j := (4 : Int32)) (inb_of S13 ⟨by decide, by decide⟩) (g := (mkF m 55 #[.val (.long q1), .second, .val (.int p3), .val (.long q4), .second, .val (.int p6), .val (.long (Int64.ofNat nv)), .second, .val (.int jc), .unset, .unset, .unset, .unset, .unset, .unset, .unset, .unset] [(.int jc), (.int (4 : Int32)), (.ref b8), (.ref b8)])) rfl rfl (hb hby at_55)
  have V13 : Arv Z h13 b8 k8 .char (23 : Int32) [(.int (nar .char jc)), (.int (nar .char jc)), (.int (nar .char jc)), (.int (nar .char jc)), (.int (nar .char jc)), (.int (0 : Int32)), (.int (0 : Int32)), (.int (0 : Int32)), (.int (0 : Int32)), (.int (0 : Int32)), (.int (0 : Int32)), (.int (0 : Int32)), (.int (0 : Int32)), (.int (0 : Int32)), (.int (0 : Int32)), (.int (0 : Int32)), (.int (0 : Int32)), (.int (0 : Int32)), (.int (0 : Int32)), (.int (0 : Int32)), (.int (0 : Int32)), (.int (0 : Int32)), (.int (0 : Int32))] (.int (0 : Int32)) := Arv.set Ar13 q13 S13 M13 H13 G13 (fits_nar_char _) W13 4 rfl (Nat.le_of_ble_eq_true rfl)
  have K13 : Keep h0 h13 [] := K12.wr W13 (Or.inr sz_b8)
  have N13 := Fr.snoc X13 N12 g_b8
  refine Go.st (T' := T13.setTop (mkF m 56 #[.val (.long q1), .second, .val (.int p3), .val (.long q4), .second, .val (.int p6), .val (.long (Int64.ofNat nv)), .second, .val (.int jc), .unset, .unset, .unset, .unset, .unset, .unset, .unset, .unset] [(.ref b8)])) (fun zt zk => st13 zt zk) ?_
  refine Go.st (T' := T13.setTop (mkF m 57 #[.val (.long q1), .second, .val (.int p3), .val (.long q4), .second, .val (.int p6), .val (.long (Int64.ofNat nv)), .second, .val (.int jc), .unset, .unset, .unset, .unset, .unset, .unset, .unset, .unset] [(.ref b8), (.ref b8)])) (fun zt zk => XS.dup X13.here hx rfl (hb hby at_56) rfl rfl zk) ?_
  refine Go.st (T' := T13.setTop (mkF m 58 #[.val (.long q1), .second, .val (.int p3), .val (.long q4), .second, .val (.int p6), .val (.long (Int64.ofNat nv)), .second, .val (.int jc), .unset, .unset, .unset, .unset, .unset, .unset, .unset, .unset] [(.int (5 : Int32)), (.ref b8), (.ref b8)])) (fun zt zk => XS.iconst X13.here hx rfl (hb hby at_57) zk) ?_
  refine Go.st (T' := T13.setTop (mkF m 60 #[.val (.long q1), .second, .val (.int p3), .val (.long q4), .second, .val (.int p6), .val (.long (Int64.ofNat nv)), .second, .val (.int jc), .unset, .unset, .unset, .unset, .unset, .unset, .unset, .unset] [(.int jc), (.int (5 : Int32)), (.ref b8), (.ref b8)])) (fun zt zk => XS.iload X13.here hx rfl (hb hby at_58) rfl zk) ?_
  obtain ⟨cl14, Ar14, q14, S14, M14, H14, G14⟩ := id V13
  obtain ⟨T14, h14, X14, e14, W14, st14⟩ := stC X13 hx hZ e13 Ar14 (j := (5 : Int32)) (inb_of S14 ⟨by decide, by decide⟩) (g := (mkF m 60 #[.val (.long q1), .second, .val (.int p3), .val (.long q4), .second, .val (.int p6), .val (.long (Int64.ofNat nv)), .second, .val (.int jc), .unset, .unset, .unset, .unset, .unset, .unset, .unset, .unset] [(.int jc), (.int (5 : Int32)), (.ref b8), (.ref b8)])) rfl rfl (hb hby at_60)
  have V14 : Arv Z h14 b8 k8 .char (23 : Int32) [(.int (nar .char jc)), (.int (nar .char jc)), (.int (nar .char jc)), (.int (nar .char jc)), (.int (nar .char jc)), (.int (nar .char jc)), (.int (0 : Int32)), (.int (0 : Int32)), (.int (0 : Int32)), (.int (0 : Int32)), (.int (0 : Int32)), (.int (0 : Int32)), (.int (0 : Int32)), (.int (0 : Int32)), (.int (0 : Int32)), (.int (0 : Int32)), (.int (0 : Int32)), (.int (0 : Int32)), (.int (0 : Int32)), (.int (0 : Int32)), (.int (0 : Int32)), (.int (0 : Int32)), (.int (0 : Int32))] (.int (0 : Int32)) := Arv.set Ar14 q14 S14 M14 H14 G14 (fits_nar_char _) W14 5 rfl (Nat.le_of_ble_eq_true rfl)
  have K14 : Keep h0 h14 [] := K13.wr W14 (Or.inr sz_b8)
  have N14 := Fr.snoc X14 N13 g_b8
  refine Go.st (T' := T14.setTop (mkF m 61 #[.val (.long q1), .second, .val (.int p3), .val (.long q4), .second, .val (.int p6), .val (.long (Int64.ofNat nv)), .second, .val (.int jc), .unset, .unset, .unset, .unset, .unset, .unset, .unset, .unset] [(.ref b8)])) (fun zt zk => st14 zt zk) ?_
  refine Go.st (T' := T14.setTop (mkF m 62 #[.val (.long q1), .second, .val (.int p3), .val (.long q4), .second, .val (.int p6), .val (.long (Int64.ofNat nv)), .second, .val (.int jc), .unset, .unset, .unset, .unset, .unset, .unset, .unset, .unset] [(.ref b8), (.ref b8)])) (fun zt zk => XS.dup X14.here hx rfl (hb hby at_61) rfl rfl zk) ?_
  refine Go.st (T' := T14.setTop (mkF m 64 #[.val (.long q1), .second, .val (.int p3), .val (.long q4), .second, .val (.int p6), .val (.long (Int64.ofNat nv)), .second, .val (.int jc), .unset, .unset, .unset, .unset, .unset, .unset, .unset, .unset] [(.int (6 : Int32)), (.ref b8), (.ref b8)])) (fun zt zk => XS.bipush X14.here hx rfl (hb hby at_62) zk) ?_
  refine Go.st (T' := T14.setTop (mkF m 66 #[.val (.long q1), .second, .val (.int p3), .val (.long q4), .second, .val (.int p6), .val (.long (Int64.ofNat nv)), .second, .val (.int jc), .unset, .unset, .unset, .unset, .unset, .unset, .unset, .unset] [(.int jc), (.int (6 : Int32)), (.ref b8), (.ref b8)])) (fun zt zk => XS.iload X14.here hx rfl (hb hby at_64) rfl zk) ?_
  obtain ⟨cl15, Ar15, q15, S15, M15, H15, G15⟩ := id V14
  obtain ⟨T15, h15, X15, e15, W15, st15⟩ := stC X14 hx hZ e14 Ar15 (j := (6 : Int32)) (inb_of S15 ⟨by decide, by decide⟩) (g := (mkF m 66 #[.val (.long q1), .second, .val (.int p3), .val (.long q4), .second, .val (.int p6), .val (.long (Int64.ofNat nv)), .second, .val (.int jc), .unset, .unset, .unset, .unset, .unset, .unset, .unset, .unset] [(.int jc), (.int (6 : Int32)), (.ref b8), (.ref b8)])) rfl rfl (hb hby at_66)
  have V15 : Arv Z h15 b8 k8 .char (23 : Int32) [(.int (nar .char jc)), (.int (nar .char jc)), (.int (nar .char jc)), (.int (nar .char jc)), (.int (nar .char jc)), (.int (nar .char jc)), (.int (nar .char jc)), (.int (0 : Int32)), (.int (0 : Int32)), (.int (0 : Int32)), (.int (0 : Int32)), (.int (0 : Int32)), (.int (0 : Int32)), (.int (0 : Int32)), (.int (0 : Int32)), (.int (0 : Int32)), (.int (0 : Int32)), (.int (0 : Int32)), (.int (0 : Int32)), (.int (0 : Int32)), (.int (0 : Int32)), (.int (0 : Int32)), (.int (0 : Int32))] (.int (0 : Int32)) := Arv.set Ar15 q15 S15 M15 H15 G15 (fits_nar_char _) W15 6 rfl (Nat.le_of_ble_eq_true rfl)
  have K15 : Keep h0 h15 [] := K14.wr W15 (Or.inr sz_b8)
  have N15 := Fr.snoc X15 N14 g_b8
  refine Go.st (T' := T15.setTop (mkF m 67 #[.val (.long q1), .second, .val (.int p3), .val (.long q4), .second, .val (.int p6), .val (.long (Int64.ofNat nv)), .second, .val (.int jc), .unset, .unset, .unset, .unset, .unset, .unset, .unset, .unset] [(.ref b8)])) (fun zt zk => st15 zt zk) ?_
  refine Go.st (T' := T15.setTop (mkF m 68 #[.val (.long q1), .second, .val (.int p3), .val (.long q4), .second, .val (.int p6), .val (.long (Int64.ofNat nv)), .second, .val (.int jc), .unset, .unset, .unset, .unset, .unset, .unset, .unset, .unset] [(.ref b8), (.ref b8)])) (fun zt zk => XS.dup X15.here hx rfl (hb hby at_67) rfl rfl zk) ?_
  refine Go.st (T' := T15.setTop (mkF m 70 #[.val (.long q1), .second, .val (.int p3), .val (.long q4), .second, .val (.int p6), .val (.long (Int64.ofNat nv)), .second, .val (.int jc), .unset, .unset, .unset, .unset, .unset, .unset, .unset, .unset] [(.int (7 : Int32)), (.ref b8), (.ref b8)])) (fun zt zk => XS.bipush X15.here hx rfl (hb hby at_68) zk) ?_
  refine Go.st (T' := T15.setTop (mkF m 72 #[.val (.long q1), .second, .val (.int p3), .val (.long q4), .second, .val (.int p6), .val (.long (Int64.ofNat nv)), .second, .val (.int jc), .unset, .unset, .unset, .unset, .unset, .unset, .unset, .unset] [(.int jc), (.int (7 : Int32)), (.ref b8), (.ref b8)])) (fun zt zk => XS.iload X15.here hx rfl (hb hby at_70) rfl zk) ?_
  obtain ⟨cl16, Ar16, q16, S16, M16, H16, G16⟩ := id V15
  obtain ⟨T16, h16, X16, e16, W16, st16⟩ := stC X15 hx hZ e15 Ar16 (j := (7 : Int32)) (inb_of S16 ⟨by decide, by decide⟩) (g := (mkF m 72 #[.val (.long q1), .second, .val (.int p3), .val (.long q4), .second, .val (.int p6), .val (.long (Int64.ofNat nv)), .second, .val (.int jc), .unset, .unset, .unset, .unset, .unset, .unset, .unset, .unset] [(.int jc), (.int (7 : Int32)), (.ref b8), (.ref b8)])) rfl rfl (hb hby at_72)
  have V16 : Arv Z h16 b8 k8 .char (23 : Int32) [(.int (nar .char jc)), (.int (nar .char jc)), (.int (nar .char jc)), (.int (nar .char jc)), (.int (nar .char jc)), (.int (nar .char jc)), (.int (nar .char jc)), (.int (nar .char jc)), (.int (0 : Int32)), (.int (0 : Int32)), (.int (0 : Int32)), (.int (0 : Int32)), (.int (0 : Int32)), (.int (0 : Int32)), (.int (0 : Int32)), (.int (0 : Int32)), (.int (0 : Int32)), (.int (0 : Int32)), (.int (0 : Int32)), (.int (0 : Int32)), (.int (0 : Int32)), (.int (0 : Int32)), (.int (0 : Int32))] (.int (0 : Int32)) := Arv.set Ar16 q16 S16 M16 H16 G16 (fits_nar_char _) W16 7 rfl (Nat.le_of_ble_eq_true rfl)
  have K16 : Keep h0 h16 [] := K15.wr W16 (Or.inr sz_b8)
  have N16 := Fr.snoc X16 N15 g_b8
  refine Go.st (T' := T16.setTop (mkF m 73 #[.val (.long q1), .second, .val (.int p3), .val (.long q4), .second, .val (.int p6), .val (.long (Int64.ofNat nv)), .second, .val (.int jc), .unset, .unset, .unset, .unset, .unset, .unset, .unset, .unset] [(.ref b8)])) (fun zt zk => st16 zt zk) ?_
  refine Go.st (T' := T16.setTop (mkF m 74 #[.val (.long q1), .second, .val (.int p3), .val (.long q4), .second, .val (.int p6), .val (.long (Int64.ofNat nv)), .second, .val (.int jc), .unset, .unset, .unset, .unset, .unset, .unset, .unset, .unset] [(.ref b8), (.ref b8)])) (fun zt zk => XS.dup X16.here hx rfl (hb hby at_73) rfl rfl zk) ?_
  refine Go.st (T' := T16.setTop (mkF m 76 #[.val (.long q1), .second, .val (.int p3), .val (.long q4), .second, .val (.int p6), .val (.long (Int64.ofNat nv)), .second, .val (.int jc), .unset, .unset, .unset, .unset, .unset, .unset, .unset, .unset] [(.int (8 : Int32)), (.ref b8), (.ref b8)])) (fun zt zk => XS.bipush X16.here hx rfl (hb hby at_74) zk) ?_
  refine Go.st (T' := T16.setTop (mkF m 78 #[.val (.long q1), .second, .val (.int p3), .val (.long q4), .second, .val (.int p6), .val (.long (Int64.ofNat nv)), .second, .val (.int jc), .unset, .unset, .unset, .unset, .unset, .unset, .unset, .unset] [(.int jc), (.int (8 : Int32)), (.ref b8), (.ref b8)])) (fun zt zk => XS.iload X16.here hx rfl (hb hby at_76) rfl zk) ?_
  obtain ⟨cl17, Ar17, q17, S17, M17, H17, G17⟩ := id V16
  obtain ⟨T17, h17, X17, e17, W17, st17⟩ := stC X16 hx hZ e16 Ar17 (j := (8 : Int32)) (inb_of S17 ⟨by decide, by decide⟩) (g := (mkF m 78 #[.val (.long q1), .second, .val (.int p3), .val (.long q4), .second, .val (.int p6), .val (.long (Int64.ofNat nv)), .second, .val (.int jc), .unset, .unset, .unset, .unset, .unset, .unset, .unset, .unset] [(.int jc), (.int (8 : Int32)), (.ref b8), (.ref b8)])) rfl rfl (hb hby at_78)
  have V17 : Arv Z h17 b8 k8 .char (23 : Int32) [(.int (nar .char jc)), (.int (nar .char jc)), (.int (nar .char jc)), (.int (nar .char jc)), (.int (nar .char jc)), (.int (nar .char jc)), (.int (nar .char jc)), (.int (nar .char jc)), (.int (nar .char jc)), (.int (0 : Int32)), (.int (0 : Int32)), (.int (0 : Int32)), (.int (0 : Int32)), (.int (0 : Int32)), (.int (0 : Int32)), (.int (0 : Int32)), (.int (0 : Int32)), (.int (0 : Int32)), (.int (0 : Int32)), (.int (0 : Int32)), (.int (0 : Int32)), (.int (0 : Int32)), (.int (0 : Int32))] (.int (0 : Int32)) := Arv.set Ar17 q17 S17 M17 H17 G17 (fits_nar_char _) W17 8 rfl (Nat.le_of_ble_eq_true rfl)
  have K17 : Keep h0 h17 [] := K16.wr W17 (Or.inr sz_b8)
  have N17 := Fr.snoc X17 N16 g_b8
  refine Go.st (T' := T17.setTop (mkF m 79 #[.val (.long q1), .second, .val (.int p3), .val (.long q4), .second, .val (.int p6), .val (.long (Int64.ofNat nv)), .second, .val (.int jc), .unset, .unset, .unset, .unset, .unset, .unset, .unset, .unset] [(.ref b8)])) (fun zt zk => st17 zt zk) ?_
  refine Go.st (T' := T17.setTop (mkF m 80 #[.val (.long q1), .second, .val (.int p3), .val (.long q4), .second, .val (.int p6), .val (.long (Int64.ofNat nv)), .second, .val (.int jc), .unset, .unset, .unset, .unset, .unset, .unset, .unset, .unset] [(.ref b8), (.ref b8)])) (fun zt zk => XS.dup X17.here hx rfl (hb hby at_79) rfl rfl zk) ?_
  refine Go.st (T' := T17.setTop (mkF m 82 #[.val (.long q1), .second, .val (.int p3), .val (.long q4), .second, .val (.int p6), .val (.long (Int64.ofNat nv)), .second, .val (.int jc), .unset, .unset, .unset, .unset, .unset, .unset, .unset, .unset] [(.int (9 : Int32)), (.ref b8), (.ref b8)])) (fun zt zk => XS.bipush X17.here hx rfl (hb hby at_80) zk) ?_
  refine Go.st (T' := T17.setTop (mkF m 84 #[.val (.long q1), .second, .val (.int p3), .val (.long q4), .second, .val (.int p6), .val (.long (Int64.ofNat nv)), .second, .val (.int jc), .unset, .unset, .unset, .unset, .unset, .unset, .unset, .unset] [(.int jc), (.int (9 : Int32)), (.ref b8), (.ref b8)])) (fun zt zk => XS.iload X17.here hx rfl (hb hby at_82) rfl zk) ?_
  obtain ⟨cl18, Ar18, q18, S18, M18, H18, G18⟩ := id V17
  obtain ⟨T18, h18, X18, e18, W18, st18⟩ := stC X17 hx hZ e17 Ar18 (j := (9 : Int32)) (inb_of S18 ⟨by decide, by decide⟩) (g := (mkF m 84 #[.val (.long q1), .second, .val (.int p3), .val (.long q4), .second, .val (.int p6), .val (.long (Int64.ofNat nv)), .second, .val (.int jc), .unset, .unset, .unset, .unset, .unset, .unset, .unset, .unset] [(.int jc), (.int (9 : Int32)), (.ref b8), (.ref b8)])) rfl rfl (hb hby at_84)
  have V18 : Arv Z h18 b8 k8 .char (23 : Int32) [(.int (nar .char jc)), (.int (nar .char jc)), (.int (nar .char jc)), (.int (nar .char jc)), (.int (nar .char jc)), (.int (nar .char jc)), (.int (nar .char jc)), (.int (nar .char jc)), (.int (nar .char jc)), (.int (nar .char jc)), (.int (0 : Int32)), (.int (0 : Int32)), (.int (0 : Int32)), (.int (0 : Int32)), (.int (0 : Int32)), (.int (0 : Int32)), (.int (0 : Int32)), (.int (0 : Int32)), (.int (0 : Int32)), (.int (0 : Int32)), (.int (0 : Int32)), (.int (0 : Int32)), (.int (0 : Int32))] (.int (0 : Int32)) := Arv.set Ar18 q18 S18 M18 H18 G18 (fits_nar_char _) W18 9 rfl (Nat.le_of_ble_eq_true rfl)
  have K18 : Keep h0 h18 [] := K17.wr W18 (Or.inr sz_b8)
  have N18 := Fr.snoc X18 N17 g_b8
  refine Go.st (T' := T18.setTop (mkF m 85 #[.val (.long q1), .second, .val (.int p3), .val (.long q4), .second, .val (.int p6), .val (.long (Int64.ofNat nv)), .second, .val (.int jc), .unset, .unset, .unset, .unset, .unset, .unset, .unset, .unset] [(.ref b8)])) (fun zt zk => st18 zt zk) ?_
  refine Go.st (T' := T18.setTop (mkF m 86 #[.val (.long q1), .second, .val (.int p3), .val (.long q4), .second, .val (.int p6), .val (.long (Int64.ofNat nv)), .second, .val (.int jc), .unset, .unset, .unset, .unset, .unset, .unset, .unset, .unset] [(.ref b8), (.ref b8)])) (fun zt zk => XS.dup X18.here hx rfl (hb hby at_85) rfl rfl zk) ?_
  refine Go.st (T' := T18.setTop (mkF m 88 #[.val (.long q1), .second, .val (.int p3), .val (.long q4), .second, .val (.int p6), .val (.long (Int64.ofNat nv)), .second, .val (.int jc), .unset, .unset, .unset, .unset, .unset, .unset, .unset, .unset] [(.int (10 : Int32)), (.ref b8), (.ref b8)])) (fun zt zk => XS.bipush X18.here hx rfl (hb hby at_86) zk) ?_
  refine Go.st (T' := T18.setTop (mkF m 90 #[.val (.long q1), .second, .val (.int p3), .val (.long q4), .second, .val (.int p6), .val (.long (Int64.ofNat nv)), .second, .val (.int jc), .unset, .unset, .unset, .unset, .unset, .unset, .unset, .unset] [(.int jc), (.int (10 : Int32)), (.ref b8), (.ref b8)])) (fun zt zk => XS.iload X18.here hx rfl (hb hby at_88) rfl zk) ?_
  obtain ⟨cl19, Ar19, q19, S19, M19, H19, G19⟩ := id V18
  obtain ⟨T19, h19, X19, e19, W19, st19⟩ := stC X18 hx hZ e18 Ar19 (j := (10 : Int32)) (inb_of S19 ⟨by decide, by decide⟩) (g := (mkF m 90 #[.val (.long q1), .second, .val (.int p3), .val (.long q4), .second, .val (.int p6), .val (.long (Int64.ofNat nv)), .second, .val (.int jc), .unset, .unset, .unset, .unset, .unset, .unset, .unset, .unset] [(.int jc), (.int (10 : Int32)), (.ref b8), (.ref b8)])) rfl rfl (hb hby at_90)
  have V19 : Arv Z h19 b8 k8 .char (23 : Int32) [(.int (nar .char jc)), (.int (nar .char jc)), (.int (nar .char jc)), (.int (nar .char jc)), (.int (nar .char jc)), (.int (nar .char jc)), (.int (nar .char jc)), (.int (nar .char jc)), (.int (nar .char jc)), (.int (nar .char jc)), (.int (nar .char jc)), (.int (0 : Int32)), (.int (0 : Int32)), (.int (0 : Int32)), (.int (0 : Int32)), (.int (0 : Int32)), (.int (0 : Int32)), (.int (0 : Int32)), (.int (0 : Int32)), (.int (0 : Int32)), (.int (0 : Int32)), (.int (0 : Int32)), (.int (0 : Int32))] (.int (0 : Int32)) := Arv.set Ar19 q19 S19 M19 H19 G19 (fits_nar_char _) W19 10 rfl (Nat.le_of_ble_eq_true rfl)
  have K19 : Keep h0 h19 [] := K18.wr W19 (Or.inr sz_b8)
  have N19 := Fr.snoc X19 N18 g_b8
  refine Go.st (T' := T19.setTop (mkF m 91 #[.val (.long q1), .second, .val (.int p3), .val (.long q4), .second, .val (.int p6), .val (.long (Int64.ofNat nv)), .second, .val (.int jc), .unset, .unset, .unset, .unset, .unset, .unset, .unset, .unset] [(.ref b8)])) (fun zt zk => st19 zt zk) ?_
  refine Go.st (T' := T19.setTop (mkF m 92 #[.val (.long q1), .second, .val (.int p3), .val (.long q4), .second, .val (.int p6), .val (.long (Int64.ofNat nv)), .second, .val (.int jc), .unset, .unset, .unset, .unset, .unset, .unset, .unset, .unset] [(.ref b8), (.ref b8)])) (fun zt zk => XS.dup X19.here hx rfl (hb hby at_91) rfl rfl zk) ?_
  refine Go.st (T' := T19.setTop (mkF m 94 #[.val (.long q1), .second, .val (.int p3), .val (.long q4), .second, .val (.int p6), .val (.long (Int64.ofNat nv)), .second, .val (.int jc), .unset, .unset, .unset, .unset, .unset, .unset, .unset, .unset] [(.int (11 : Int32)), (.ref b8), (.ref b8)])) (fun zt zk => XS.bipush X19.here hx rfl (hb hby at_92) zk) ?_
  refine Go.st (T' := T19.setTop (mkF m 96 #[.val (.long q1), .second, .val (.int p3), .val (.long q4), .second, .val (.int p6), .val (.long (Int64.ofNat nv)), .second, .val (.int jc), .unset, .unset, .unset, .unset, .unset, .unset, .unset, .unset] [(.int jc), (.int (11 : Int32)), (.ref b8), (.ref b8)])) (fun zt zk => XS.iload X19.here hx rfl (hb hby at_94) rfl zk) ?_
  obtain ⟨cl20, Ar20, q20, S20, M20, H20, G20⟩ := id V19
  obtain ⟨T20, h20, X20, e20, W20, st20⟩ := stC X19 hx hZ e19 Ar20 (j := (11 : Int32)) (inb_of S20 ⟨by decide, by decide⟩) (g := (mkF m 96 #[.val (.long q1), .second, .val (.int p3), .val (.long q4), .second, .val (.int p6), .val (.long (Int64.ofNat nv)), .second, .val (.int jc), .unset, .unset, .unset, .unset, .unset, .unset, .unset, .unset] [(.int jc), (.int (11 : Int32)), (.ref b8), (.ref b8)])) rfl rfl (hb hby at_96)
  have V20 : Arv Z h20 b8 k8 .char (23 : Int32) [(.int (nar .char jc)), (.int (nar .char jc)), (.int (nar .char jc)), (.int (nar .char jc)), (.int (nar .char jc)), (.int (nar .char jc)), (.int (nar .char jc)), (.int (nar .char jc)), (.int (nar .char jc)), (.int (nar .char jc)), (.int (nar .char jc)), (.int (nar .char jc)), (.int (0 : Int32)), (.int (0 : Int32)), (.int (0 : Int32)), (.int (0 : Int32)), (.int (0 : Int32)), (.int (0 : Int32)), (.int (0 : Int32)), (.int (0 : Int32)), (.int (0 : Int32)), (.int (0 : Int32)), (.int (0 : Int32))] (.int (0 : Int32)) := Arv.set Ar20 q20 S20 M20 H20 G20 (fits_nar_char _) W20 11 rfl (Nat.le_of_ble_eq_true rfl)
  have K20 : Keep h0 h20 [] := K19.wr W20 (Or.inr sz_b8)
  have N20 := Fr.snoc X20 N19 g_b8
  refine Go.st (T' := T20.setTop (mkF m 97 #[.val (.long q1), .second, .val (.int p3), .val (.long q4), .second, .val (.int p6), .val (.long (Int64.ofNat nv)), .second, .val (.int jc), .unset, .unset, .unset, .unset, .unset, .unset, .unset, .unset] [(.ref b8)])) (fun zt zk => st20 zt zk) ?_
  refine Go.st (T' := T20.setTop (mkF m 98 #[.val (.long q1), .second, .val (.int p3), .val (.long q4), .second, .val (.int p6), .val (.long (Int64.ofNat nv)), .second, .val (.int jc), .unset, .unset, .unset, .unset, .unset, .unset, .unset, .unset] [(.ref b8), (.ref b8)])) (fun zt zk => XS.dup X20.here hx rfl (hb hby at_97) rfl rfl zk) ?_
  refine Go.st (T' := T20.setTop (mkF m 100 #[.val (.long q1), .second, .val (.int p3), .val (.long q4), .second, .val (.int p6), .val (.long (Int64.ofNat nv)), .second, .val (.int jc), .unset, .unset, .unset, .unset, .unset, .unset, .unset, .unset] [(.int (12 : Int32)), (.ref b8), (.ref b8)])) (fun zt zk => XS.bipush X20.here hx rfl (hb hby at_98) zk) ?_
  refine Go.st (T' := T20.setTop (mkF m 102 #[.val (.long q1), .second, .val (.int p3), .val (.long q4), .second, .val (.int p6), .val (.long (Int64.ofNat nv)), .second, .val (.int jc), .unset, .unset, .unset, .unset, .unset, .unset, .unset, .unset] [(.int jc), (.int (12 : Int32)), (.ref b8), (.ref b8)])) (fun zt zk => XS.iload X20.here hx rfl (hb hby at_100) rfl zk) ?_
  obtain ⟨cl21, Ar21, q21, S21, M21, H21, G21⟩ := id V20
  obtain ⟨T21, h21, X21, e21, W21, st21⟩ := stC X20 hx hZ e20 Ar21 (j := (12 : Int32)) (inb_of S21 ⟨by decide, by decide⟩) (g := (mkF m 102 #[.val (.long q1), .second, .val (.int p3), .val (.long q4), .second, .val (.int p6), .val (.long (Int64.ofNat nv)), .second, .val (.int jc), .unset, .unset, .unset, .unset, .unset, .unset, .unset, .unset] [(.int jc), (.int (12 : Int32)), (.ref b8), (.ref b8)])) rfl rfl (hb hby at_102)
  have V21 : Arv Z h21 b8 k8 .char (23 : Int32) [(.int (nar .char jc)), (.int (nar .char jc)), (.int (nar .char jc)), (.int (nar .char jc)), (.int (nar .char jc)), (.int (nar .char jc)), (.int (nar .char jc)), (.int (nar .char jc)), (.int (nar .char jc)), (.int (nar .char jc)), (.int (nar .char jc)), (.int (nar .char jc)), (.int (nar .char jc)), (.int (0 : Int32)), (.int (0 : Int32)), (.int (0 : Int32)), (.int (0 : Int32)), (.int (0 : Int32)), (.int (0 : Int32)), (.int (0 : Int32)), (.int (0 : Int32)), (.int (0 : Int32)), (.int (0 : Int32))] (.int (0 : Int32)) := Arv.set Ar21 q21 S21 M21 H21 G21 (fits_nar_char _) W21 12 rfl (Nat.le_of_ble_eq_true rfl)
  have K21 : Keep h0 h21 [] := K20.wr W21 (Or.inr sz_b8)
  have N21 := Fr.snoc X21 N20 g_b8
  refine Go.st (T' := T21.setTop (mkF m 103 #[.val (.long q1), .second, .val (.int p3), .val (.long q4), .second, .val (.int p6), .val (.long (Int64.ofNat nv)), .second, .val (.int jc), .unset, .unset, .unset, .unset, .unset, .unset, .unset, .unset] [(.ref b8)])) (fun zt zk => st21 zt zk) ?_
  refine Go.st (T' := T21.setTop (mkF m 104 #[.val (.long q1), .second, .val (.int p3), .val (.long q4), .second, .val (.int p6), .val (.long (Int64.ofNat nv)), .second, .val (.int jc), .unset, .unset, .unset, .unset, .unset, .unset, .unset, .unset] [(.ref b8), (.ref b8)])) (fun zt zk => XS.dup X21.here hx rfl (hb hby at_103) rfl rfl zk) ?_
  refine Go.st (T' := T21.setTop (mkF m 106 #[.val (.long q1), .second, .val (.int p3), .val (.long q4), .second, .val (.int p6), .val (.long (Int64.ofNat nv)), .second, .val (.int jc), .unset, .unset, .unset, .unset, .unset, .unset, .unset, .unset] [(.int (13 : Int32)), (.ref b8), (.ref b8)])) (fun zt zk => XS.bipush X21.here hx rfl (hb hby at_104) zk) ?_
  refine Go.st (T' := T21.setTop (mkF m 108 #[.val (.long q1), .second, .val (.int p3), .val (.long q4), .second, .val (.int p6), .val (.long (Int64.ofNat nv)), .second, .val (.int jc), .unset, .unset, .unset, .unset, .unset, .unset, .unset, .unset] [(.int jc), (.int (13 : Int32)), (.ref b8), (.ref b8)])) (fun zt zk => XS.iload X21.here hx rfl (hb hby at_106) rfl zk) ?_
  obtain ⟨cl22, Ar22, q22, S22, M22, H22, G22⟩ := id V21
  obtain ⟨T22, h22, X22, e22, W22, st22⟩ := stC X21 hx hZ e21 Ar22 (j := (13 : Int32)) (inb_of S22 ⟨by decide, by decide⟩) (g := (mkF m 108 #[.val (.long q1), .second, .val (.int p3), .val (.long q4), .second, .val (.int p6), .val (.long (Int64.ofNat nv)), .second, .val (.int jc), .unset, .unset, .unset, .unset, .unset, .unset, .unset, .unset] [(.int jc), (.int (13 : Int32)), (.ref b8), (.ref b8)])) rfl rfl (hb hby at_108)
  have V22 : Arv Z h22 b8 k8 .char (23 : Int32) [(.int (nar .char jc)), (.int (nar .char jc)), (.int (nar .char jc)), (.int (nar .char jc)), (.int (nar .char jc)), (.int (nar .char jc)), (.int (nar .char jc)), (.int (nar .char jc)), (.int (nar .char jc)), (.int (nar .char jc)), (.int (nar .char jc)), (.int (nar .char jc)), (.int (nar .char jc)), (.int (nar .char jc)), (.int (0 : Int32)), (.int (0 : Int32)), (.int (0 : Int32)), (.int (0 : Int32)), (.int (0 : Int32)), (.int (0 : Int32)), (.int (0 : Int32)), (.int (0 : Int32)), (.int (0 : Int32))] (.int (0 : Int32)) := Arv.set Ar22 q22 S22 M22 H22 G22 (fits_nar_char _) W22 13 rfl (Nat.le_of_ble_eq_true rfl)
  have K22 : Keep h0 h22 [] := K21.wr W22 (Or.inr sz_b8)
  have N22 := Fr.snoc X22 N21 g_b8
  refine Go.st (T' := T22.setTop (mkF m 109 #[.val (.long q1), .second, .val (.int p3), .val (.long q4), .second, .val (.int p6), .val (.long (Int64.ofNat nv)), .second, .val (.int jc), .unset, .unset, .unset, .unset, .unset, .unset, .unset, .unset] [(.ref b8)])) (fun zt zk => st22 zt zk) ?_
  refine Go.st (T' := T22.setTop (mkF m 110 #[.val (.long q1), .second, .val (.int p3), .val (.long q4), .second, .val (.int p6), .val (.long (Int64.ofNat nv)), .second, .val (.int jc), .unset, .unset, .unset, .unset, .unset, .unset, .unset, .unset] [(.ref b8), (.ref b8)])) (fun zt zk => XS.dup X22.here hx rfl (hb hby at_109) rfl rfl zk) ?_
  refine Go.st (T' := T22.setTop (mkF m 112 #[.val (.long q1), .second, .val (.int p3), .val (.long q4), .second, .val (.int p6), .val (.long (Int64.ofNat nv)), .second, .val (.int jc), .unset, .unset, .unset, .unset, .unset, .unset, .unset, .unset] [(.int (14 : Int32)), (.ref b8), (.ref b8)])) (fun zt zk => XS.bipush X22.here hx rfl (hb hby at_110) zk) ?_
  refine Go.st (T' := T22.setTop (mkF m 114 #[.val (.long q1), .second, .val (.int p3), .val (.long q4), .second, .val (.int p6), .val (.long (Int64.ofNat nv)), .second, .val (.int jc), .unset, .unset, .unset, .unset, .unset, .unset, .unset, .unset] [(.int jc), (.int (14 : Int32)), (.ref b8), (.ref b8)])) (fun zt zk => XS.iload X22.here hx rfl (hb hby at_112) rfl zk) ?_
  obtain ⟨cl23, Ar23, q23, S23, M23, H23, G23⟩ := id V22
  obtain ⟨T23, h23, X23, e23, W23, st23⟩ := stC X22 hx hZ e22 Ar23 (j := (14 : Int32)) (inb_of S23 ⟨by decide, by decide⟩) (g := (mkF m 114 #[.val (.long q1), .second, .val (.int p3), .val (.long q4), .second, .val (.int p6), .val (.long (Int64.ofNat nv)), .second, .val (.int jc), .unset, .unset, .unset, .unset, .unset, .unset, .unset, .unset] [(.int jc), (.int (14 : Int32)), (.ref b8), (.ref b8)])) rfl rfl (hb hby at_114)
  have V23 : Arv Z h23 b8 k8 .char (23 : Int32) [(.int (nar .char jc)), (.int (nar .char jc)), (.int (nar .char jc)), (.int (nar .char jc)), (.int (nar .char jc)), (.int (nar .char jc)), (.int (nar .char jc)), (.int (nar .char jc)), (.int (nar .char jc)), (.int (nar .char jc)), (.int (nar .char jc)), (.int (nar .char jc)), (.int (nar .char jc)), (.int (nar .char jc)), (.int (nar .char jc)), (.int (0 : Int32)), (.int (0 : Int32)), (.int (0 : Int32)), (.int (0 : Int32)), (.int (0 : Int32)), (.int (0 : Int32)), (.int (0 : Int32)), (.int (0 : Int32))] (.int (0 : Int32)) := Arv.set Ar23 q23 S23 M23 H23 G23 (fits_nar_char _) W23 14 rfl (Nat.le_of_ble_eq_true rfl)
  have K23 : Keep h0 h23 [] := K22.wr W23 (Or.inr sz_b8)
  have N23 := Fr.snoc X23 N22 g_b8
  refine Go.st (T' := T23.setTop (mkF m 115 #[.val (.long q1), .second, .val (.int p3), .val (.long q4), .second, .val (.int p6), .val (.long (Int64.ofNat nv)), .second, .val (.int jc), .unset, .unset, .unset, .unset, .unset, .unset, .unset, .unset] [(.ref b8)])) (fun zt zk => st23 zt zk) ?_
  refine Go.st (T' := T23.setTop (mkF m 116 #[.val (.long q1), .second, .val (.int p3), .val (.long q4), .second, .val (.int p6), .val (.long (Int64.ofNat nv)), .second, .val (.int jc), .unset, .unset, .unset, .unset, .unset, .unset, .unset, .unset] [(.ref b8), (.ref b8)])) (fun zt zk => XS.dup X23.here hx rfl (hb hby at_115) rfl rfl zk) ?_
  refine Go.st (T' := T23.setTop (mkF m 118 #[.val (.long q1), .second, .val (.int p3), .val (.long q4), .second, .val (.int p6), .val (.long (Int64.ofNat nv)), .second, .val (.int jc), .unset, .unset, .unset, .unset, .unset, .unset, .unset, .unset] [(.int (15 : Int32)), (.ref b8), (.ref b8)])) (fun zt zk => XS.bipush X23.here hx rfl (hb hby at_116) zk) ?_
  refine Go.st (T' := T23.setTop (mkF m 120 #[.val (.long q1), .second, .val (.int p3), .val (.long q4), .second, .val (.int p6), .val (.long (Int64.ofNat nv)), .second, .val (.int jc), .unset, .unset, .unset, .unset, .unset, .unset, .unset, .unset] [(.int jc), (.int (15 : Int32)), (.ref b8), (.ref b8)])) (fun zt zk => XS.iload X23.here hx rfl (hb hby at_118) rfl zk) ?_
  obtain ⟨cl24, Ar24, q24, S24, M24, H24, G24⟩ := id V23
  obtain ⟨T24, h24, X24, e24, W24, st24⟩ := stC X23 hx hZ e23 Ar24 (j := (15 : Int32)) (inb_of S24 ⟨by decide, by decide⟩) (g := (mkF m 120 #[.val (.long q1), .second, .val (.int p3), .val (.long q4), .second, .val (.int p6), .val (.long (Int64.ofNat nv)), .second, .val (.int jc), .unset, .unset, .unset, .unset, .unset, .unset, .unset, .unset] [(.int jc), (.int (15 : Int32)), (.ref b8), (.ref b8)])) rfl rfl (hb hby at_120)
  have V24 : Arv Z h24 b8 k8 .char (23 : Int32) [(.int (nar .char jc)), (.int (nar .char jc)), (.int (nar .char jc)), (.int (nar .char jc)), (.int (nar .char jc)), (.int (nar .char jc)), (.int (nar .char jc)), (.int (nar .char jc)), (.int (nar .char jc)), (.int (nar .char jc)), (.int (nar .char jc)), (.int (nar .char jc)), (.int (nar .char jc)), (.int (nar .char jc)), (.int (nar .char jc)), (.int (nar .char jc)), (.int (0 : Int32)), (.int (0 : Int32)), (.int (0 : Int32)), (.int (0 : Int32)), (.int (0 : Int32)), (.int (0 : Int32)), (.int (0 : Int32))] (.int (0 : Int32)) := Arv.set Ar24 q24 S24 M24 H24 G24 (fits_nar_char _) W24 15 rfl (Nat.le_of_ble_eq_true rfl)
  have K24 : Keep h0 h24 [] := K23.wr W24 (Or.inr sz_b8)
  have N24 := Fr.snoc X24 N23 g_b8
  refine Go.st (T' := T24.setTop (mkF m 121 #[.val (.long q1), .second, .val (.int p3), .val (.long q4), .second, .val (.int p6), .val (.long (Int64.ofNat nv)), .second, .val (.int jc), .unset, .unset, .unset, .unset, .unset, .unset, .unset, .unset] [(.ref b8)])) (fun zt zk => st24 zt zk) ?_
  refine Go.st (T' := T24.setTop (mkF m 122 #[.val (.long q1), .second, .val (.int p3), .val (.long q4), .second, .val (.int p6), .val (.long (Int64.ofNat nv)), .second, .val (.int jc), .unset, .unset, .unset, .unset, .unset, .unset, .unset, .unset] [(.ref b8), (.ref b8)])) (fun zt zk => XS.dup X24.here hx rfl (hb hby at_121) rfl rfl zk) ?_
  refine Go.st (T' := T24.setTop (mkF m 124 #[.val (.long q1), .second, .val (.int p3), .val (.long q4), .second, .val (.int p6), .val (.long (Int64.ofNat nv)), .second, .val (.int jc), .unset, .unset, .unset, .unset, .unset, .unset, .unset, .unset] [(.int (16 : Int32)), (.ref b8), (.ref b8)])) (fun zt zk => XS.bipush X24.here hx rfl (hb hby at_122) zk) ?_
  refine Go.st (T' := T24.setTop (mkF m 126 #[.val (.long q1), .second, .val (.int p3), .val (.long q4), .second, .val (.int p6), .val (.long (Int64.ofNat nv)), .second, .val (.int jc), .unset, .unset, .unset, .unset, .unset, .unset, .unset, .unset] [(.int jc), (.int (16 : Int32)), (.ref b8), (.ref b8)])) (fun zt zk => XS.iload X24.here hx rfl (hb hby at_124) rfl zk) ?_
  obtain ⟨cl25, Ar25, q25, S25, M25, H25, G25⟩ := id V24
  obtain ⟨T25, h25, X25, e25, W25, st25⟩ := stC X24 hx hZ e24 Ar25 (j := (16 : Int32)) (inb_of S25 ⟨by decide, by decide⟩) (g := (mkF m 126 #[.val (.long q1), .second, .val (.int p3), .val (.long q4), .second, .val (.int p6), .val (.long (Int64.ofNat nv)), .second, .val (.int jc), .unset, .unset, .unset, .unset, .unset, .unset, .unset, .unset] [(.int jc), (.int (16 : Int32)), (.ref b8), (.ref b8)])) rfl rfl (hb hby at_126)
  have V25 : Arv Z h25 b8 k8 .char (23 : Int32) [(.int (nar .char jc)), (.int (nar .char jc)), (.int (nar .char jc)), (.int (nar .char jc)), (.int (nar .char jc)), (.int (nar .char jc)), (.int (nar .char jc)), (.int (nar .char jc)), (.int (nar .char jc)), (.int (nar .char jc)), (.int (nar .char jc)), (.int (nar .char jc)), (.int (nar .char jc)), (.int (nar .char jc)), (.int (nar .char jc)), (.int (nar .char jc)), (.int (nar .char jc)), (.int (0 : Int32)), (.int (0 : Int32)), (.int (0 : Int32)), (.int (0 : Int32)), (.int (0 : Int32)), (.int (0 : Int32))] (.int (0 : Int32)) := Arv.set Ar25 q25 S25 M25 H25 G25 (fits_nar_char _) W25 16 rfl (Nat.le_of_ble_eq_true rfl)
  have K25 : Keep h0 h25 [] := K24.wr W25 (Or.inr sz_b8)
  have N25 := Fr.snoc X25 N24 g_b8
  refine Go.st (T' := T25.setTop (mkF m 127 #[.val (.long q1), .second, .val (.int p3), .val (.long q4), .second, .val (.int p6), .val (.long (Int64.ofNat nv)), .second, .val (.int jc), .unset, .unset, .unset, .unset, .unset, .unset, .unset, .unset] [(.ref b8)])) (fun zt zk => st25 zt zk) ?_
  refine Go.st (T' := T25.setTop (mkF m 128 #[.val (.long q1), .second, .val (.int p3), .val (.long q4), .second, .val (.int p6), .val (.long (Int64.ofNat nv)), .second, .val (.int jc), .unset, .unset, .unset, .unset, .unset, .unset, .unset, .unset] [(.ref b8), (.ref b8)])) (fun zt zk => XS.dup X25.here hx rfl (hb hby at_127) rfl rfl zk) ?_
  refine Go.st (T' := T25.setTop (mkF m 130 #[.val (.long q1), .second, .val (.int p3), .val (.long q4), .second, .val (.int p6), .val (.long (Int64.ofNat nv)), .second, .val (.int jc), .unset, .unset, .unset, .unset, .unset, .unset, .unset, .unset] [(.int (17 : Int32)), (.ref b8), (.ref b8)])) (fun zt zk => XS.bipush X25.here hx rfl (hb hby at_128) zk) ?_
  refine Go.st (T' := T25.setTop (mkF m 132 #[.val (.long q1), .second, .val (.int p3), .val (.long q4), .second, .val (.int p6), .val (.long (Int64.ofNat nv)), .second, .val (.int jc), .unset, .unset, .unset, .unset, .unset, .unset, .unset, .unset] [(.int jc), (.int (17 : Int32)), (.ref b8), (.ref b8)])) (fun zt zk => XS.iload X25.here hx rfl (hb hby at_130) rfl zk) ?_
  obtain ⟨cl26, Ar26, q26, S26, M26, H26, G26⟩ := id V25
  obtain ⟨T26, h26, X26, e26, W26, st26⟩ := stC X25 hx hZ e25 Ar26 (j := (17 : Int32)) (inb_of S26 ⟨by decide, by decide⟩) (g := (mkF m 132 #[.val (.long q1), .second, .val (.int p3), .val (.long q4), .second, .val (.int p6), .val (.long (Int64.ofNat nv)), .second, .val (.int jc), .unset, .unset, .unset, .unset, .unset, .unset, .unset, .unset] [(.int jc), (.int (17 : Int32)), (.ref b8), (.ref b8)])) rfl rfl (hb hby at_132)
  have V26 : Arv Z h26 b8 k8 .char (23 : Int32) [(.int (nar .char jc)), (.int (nar .char jc)), (.int (nar .char jc)), (.int (nar .char jc)), (.int (nar .char jc)), (.int (nar .char jc)), (.int (nar .char jc)), (.int (nar .char jc)), (.int (nar .char jc)), (.int (nar .char jc)), (.int (nar .char jc)), (.int (nar .char jc)), (.int (nar .char jc)), (.int (nar .char jc)), (.int (nar .char jc)), (.int (nar .char jc)), (.int (nar .char jc)), (.int (nar .char jc)), (.int (0 : Int32)), (.int (0 : Int32)), (.int (0 : Int32)), (.int (0 : Int32)), (.int (0 : Int32))] (.int (0 : Int32)) := Arv.set Ar26 q26 S26 M26 H26 G26 (fits_nar_char _) W26 17 rfl (Nat.le_of_ble_eq_true rfl)
  have K26 : Keep h0 h26 [] := K25.wr W26 (Or.inr sz_b8)
  have N26 := Fr.snoc X26 N25 g_b8
  refine Go.st (T' := T26.setTop (mkF m 133 #[.val (.long q1), .second, .val (.int p3), .val (.long q4), .second, .val (.int p6), .val (.long (Int64.ofNat nv)), .second, .val (.int jc), .unset, .unset, .unset, .unset, .unset, .unset, .unset, .unset] [(.ref b8)])) (fun zt zk => st26 zt zk) ?_
  refine Go.st (T' := T26.setTop (mkF m 134 #[.val (.long q1), .second, .val (.int p3), .val (.long q4), .second, .val (.int p6), .val (.long (Int64.ofNat nv)), .second, .val (.int jc), .unset, .unset, .unset, .unset, .unset, .unset, .unset, .unset] [(.ref b8), (.ref b8)])) (fun zt zk => XS.dup X26.here hx rfl (hb hby at_133) rfl rfl zk) ?_
  refine Go.st (T' := T26.setTop (mkF m 136 #[.val (.long q1), .second, .val (.int p3), .val (.long q4), .second, .val (.int p6), .val (.long (Int64.ofNat nv)), .second, .val (.int jc), .unset, .unset, .unset, .unset, .unset, .unset, .unset, .unset] [(.int (18 : Int32)), (.ref b8), (.ref b8)])) (fun zt zk => XS.bipush X26.here hx rfl (hb hby at_134) zk) ?_
  refine Go.st (T' := T26.setTop (mkF m 138 #[.val (.long q1), .second, .val (.int p3), .val (.long q4), .second, .val (.int p6), .val (.long (Int64.ofNat nv)), .second, .val (.int jc), .unset, .unset, .unset, .unset, .unset, .unset, .unset, .unset] [(.int jc), (.int (18 : Int32)), (.ref b8), (.ref b8)])) (fun zt zk => XS.iload X26.here hx rfl (hb hby at_136) rfl zk) ?_
  obtain ⟨cl27, Ar27, q27, S27, M27, H27, G27⟩ := id V26
  obtain ⟨T27, h27, X27, e27, W27, st27⟩ := stC X26 hx hZ e26 Ar27 (j := (18 : Int32)) (inb_of S27 ⟨by decide, by decide⟩) (g := (mkF m 138 #[.val (.long q1), .second, .val (.int p3), .val (.long q4), .second, .val (.int p6), .val (.long (Int64.ofNat nv)), .second, .val (.int jc), .unset, .unset, .unset, .unset, .unset, .unset, .unset, .unset] [(.int jc), (.int (18 : Int32)), (.ref b8), (.ref b8)])) rfl rfl (hb hby at_138)
  have V27 : Arv Z h27 b8 k8 .char (23 : Int32) [(.int (nar .char jc)), (.int (nar .char jc)), (.int (nar .char jc)), (.int (nar .char jc)), (.int (nar .char jc)), (.int (nar .char jc)), (.int (nar .char jc)), (.int (nar .char jc)), (.int (nar .char jc)), (.int (nar .char jc)), (.int (nar .char jc)), (.int (nar .char jc)), (.int (nar .char jc)), (.int (nar .char jc)), (.int (nar .char jc)), (.int (nar .char jc)), (.int (nar .char jc)), (.int (nar .char jc)), (.int (nar .char jc)), (.int (0 : Int32)), (.int (0 : Int32)), (.int (0 : Int32)), (.int (0 : Int32))] (.int (0 : Int32)) := Arv.set Ar27 q27 S27 M27 H27 G27 (fits_nar_char _) W27 18 rfl (Nat.le_of_ble_eq_true rfl)
  have K27 : Keep h0 h27 [] := K26.wr W27 (Or.inr sz_b8)
  have N27 := Fr.snoc X27 N26 g_b8
  refine Go.st (T' := T27.setTop (mkF m 139 #[.val (.long q1), .second, .val (.int p3), .val (.long q4), .second, .val (.int p6), .val (.long (Int64.ofNat nv)), .second, .val (.int jc), .unset, .unset, .unset, .unset, .unset, .unset, .unset, .unset] [(.ref b8)])) (fun zt zk => st27 zt zk) ?_
  refine Go.st (T' := T27.setTop (mkF m 140 #[.val (.long q1), .second, .val (.int p3), .val (.long q4), .second, .val (.int p6), .val (.long (Int64.ofNat nv)), .second, .val (.int jc), .unset, .unset, .unset, .unset, .unset, .unset, .unset, .unset] [(.ref b8), (.ref b8)])) (fun zt zk => XS.dup X27.here hx rfl (hb hby at_139) rfl rfl zk) ?_
  refine Go.st (T' := T27.setTop (mkF m 142 #[.val (.long q1), .second, .val (.int p3), .val (.long q4), .second, .val (.int p6), .val (.long (Int64.ofNat nv)), .second, .val (.int jc), .unset, .unset, .unset, .unset, .unset, .unset, .unset, .unset] [(.int (19 : Int32)), (.ref b8), (.ref b8)])) (fun zt zk => XS.bipush X27.here hx rfl (hb hby at_140) zk) ?_
  refine Go.st (T' := T27.setTop (mkF m 144 #[.val (.long q1), .second, .val (.int p3), .val (.long q4), .second, .val (.int p6), .val (.long (Int64.ofNat nv)), .second, .val (.int jc), .unset, .unset, .unset, .unset, .unset, .unset, .unset, .unset] [(.int jc), (.int (19 : Int32)), (.ref b8), (.ref b8)])) (fun zt zk => XS.iload X27.here hx rfl (hb hby at_142) rfl zk) ?_
  obtain ⟨cl28, Ar28, q28, S28, M28, H28, G28⟩ := id V27
  obtain ⟨T28, h28, X28, e28, W28, st28⟩ := stC X27 hx hZ e27 Ar28 (j := (19 : Int32)) (inb_of S28 ⟨by decide, by decide⟩) (g := (mkF m 144 #[.val (.long q1), .second, .val (.int p3), .val (.long q4), .second, .val (.int p6), .val (.long (Int64.ofNat nv)), .second, .val (.int jc), .unset, .unset, .unset, .unset, .unset, .unset, .unset, .unset] [(.int jc), (.int (19 : Int32)), (.ref b8), (.ref b8)])) rfl rfl (hb hby at_144)
  have V28 : Arv Z h28 b8 k8 .char (23 : Int32) [(.int (nar .char jc)), (.int (nar .char jc)), (.int (nar .char jc)), (.int (nar .char jc)), (.int (nar .char jc)), (.int (nar .char jc)), (.int (nar .char jc)), (.int (nar .char jc)), (.int (nar .char jc)), (.int (nar .char jc)), (.int (nar .char jc)), (.int (nar .char jc)), (.int (nar .char jc)), (.int (nar .char jc)), (.int (nar .char jc)), (.int (nar .char jc)), (.int (nar .char jc)), (.int (nar .char jc)), (.int (nar .char jc)), (.int (nar .char jc)), (.int (0 : Int32)), (.int (0 : Int32)), (.int (0 : Int32))] (.int (0 : Int32)) := Arv.set Ar28 q28 S28 M28 H28 G28 (fits_nar_char _) W28 19 rfl (Nat.le_of_ble_eq_true rfl)
  have K28 : Keep h0 h28 [] := K27.wr W28 (Or.inr sz_b8)
  have N28 := Fr.snoc X28 N27 g_b8
  refine Go.st (T' := T28.setTop (mkF m 145 #[.val (.long q1), .second, .val (.int p3), .val (.long q4), .second, .val (.int p6), .val (.long (Int64.ofNat nv)), .second, .val (.int jc), .unset, .unset, .unset, .unset, .unset, .unset, .unset, .unset] [(.ref b8)])) (fun zt zk => st28 zt zk) ?_
  refine Go.st (T' := T28.setTop (mkF m 146 #[.val (.long q1), .second, .val (.int p3), .val (.long q4), .second, .val (.int p6), .val (.long (Int64.ofNat nv)), .second, .val (.int jc), .unset, .unset, .unset, .unset, .unset, .unset, .unset, .unset] [(.ref b8), (.ref b8)])) (fun zt zk => XS.dup X28.here hx rfl (hb hby at_145) rfl rfl zk) ?_
  refine Go.st (T' := T28.setTop (mkF m 148 #[.val (.long q1), .second, .val (.int p3), .val (.long q4), .second, .val (.int p6), .val (.long (Int64.ofNat nv)), .second, .val (.int jc), .unset, .unset, .unset, .unset, .unset, .unset, .unset, .unset] [(.int (20 : Int32)), (.ref b8), (.ref b8)])) (fun zt zk => XS.bipush X28.here hx rfl (hb hby at_146) zk) ?_
  refine Go.st (T' := T28.setTop (mkF m 150 #[.val (.long q1), .second, .val (.int p3), .val (.long q4), .second, .val (.int p6), .val (.long (Int64.ofNat nv)), .second, .val (.int jc), .unset, .unset, .unset, .unset, .unset, .unset, .unset, .unset] [(.int jc), (.int (20 : Int32)), (.ref b8), (.ref b8)])) (fun zt zk => XS.iload X28.here hx rfl (hb hby at_148) rfl zk) ?_
  obtain ⟨cl29, Ar29, q29, S29, M29, H29, G29⟩ := id V28
  obtain ⟨T29, h29, X29, e29, W29, st29⟩ := stC X28 hx hZ e28 Ar29 (j := (20 : Int32)) (inb_of S29 ⟨by decide, by decide⟩) (g := (mkF m 150 #[.val (.long q1), .second, .val (.int p3), .val (.long q4), .second, .val (.int p6), .val (.long (Int64.ofNat nv)), .second, .val (.int jc), .unset, .unset, .unset, .unset, .unset, .unset, .unset, .unset] [(.int jc), (.int (20 : Int32)), (.ref b8), (.ref b8)])) rfl rfl (hb hby at_150)
  have V29 : Arv Z h29 b8 k8 .char (23 : Int32) [(.int (nar .char jc)), (.int (nar .char jc)), (.int (nar .char jc)), (.int (nar .char jc)), (.int (nar .char jc)), (.int (nar .char jc)), (.int (nar .char jc)), (.int (nar .char jc)), (.int (nar .char jc)), (.int (nar .char jc)), (.int (nar .char jc)), (.int (nar .char jc)), (.int (nar .char jc)), (.int (nar .char jc)), (.int (nar .char jc)), (.int (nar .char jc)), (.int (nar .char jc)), (.int (nar .char jc)), (.int (nar .char jc)), (.int (nar .char jc)), (.int (nar .char jc)), (.int (0 : Int32)), (.int (0 : Int32))] (.int (0 : Int32)) := Arv.set Ar29 q29 S29 M29 H29 G29 (fits_nar_char _) W29 20 rfl (Nat.le_of_ble_eq_true rfl)
  have K29 : Keep h0 h29 [] := K28.wr W29 (Or.inr sz_b8)
  have N29 := Fr.snoc X29 N28 g_b8
  refine Go.st (T' := T29.setTop (mkF m 151 #[.val (.long q1), .second, .val (.int p3), .val (.long q4), .second, .val (.int p6), .val (.long (Int64.ofNat nv)), .second, .val (.int jc), .unset, .unset, .unset, .unset, .unset, .unset, .unset, .unset] [(.ref b8)])) (fun zt zk => st29 zt zk) ?_
  refine Go.st (T' := T29.setTop (mkF m 152 #[.val (.long q1), .second, .val (.int p3), .val (.long q4), .second, .val (.int p6), .val (.long (Int64.ofNat nv)), .second, .val (.int jc), .unset, .unset, .unset, .unset, .unset, .unset, .unset, .unset] [(.ref b8), (.ref b8)])) (fun zt zk => XS.dup X29.here hx rfl (hb hby at_151) rfl rfl zk) ?_
  refine Go.st (T' := T29.setTop (mkF m 154 #[.val (.long q1), .second, .val (.int p3), .val (.long q4), .second, .val (.int p6), .val (.long (Int64.ofNat nv)), .second, .val (.int jc), .unset, .unset, .unset, .unset, .unset, .unset, .unset, .unset] [(.int (21 : Int32)), (.ref b8), (.ref b8)])) (fun zt zk => XS.bipush X29.here hx rfl (hb hby at_152) zk) ?_
  refine Go.st (T' := T29.setTop (mkF m 156 #[.val (.long q1), .second, .val (.int p3), .val (.long q4), .second, .val (.int p6), .val (.long (Int64.ofNat nv)), .second, .val (.int jc), .unset, .unset, .unset, .unset, .unset, .unset, .unset, .unset] [(.int jc), (.int (21 : Int32)), (.ref b8), (.ref b8)])) (fun zt zk => XS.iload X29.here hx rfl (hb hby at_154) rfl zk) ?_
  obtain ⟨cl30, Ar30, q30, S30, M30, H30, G30⟩ := id V29
  obtain ⟨T30, h30, X30, e30, W30, st30⟩ := stC X29 hx hZ e29 Ar30 (j := (21 : Int32)) (inb_of S30 ⟨by decide, by decide⟩) (g := (mkF m 156 #[.val (.long q1), .second, .val (.int p3), .val (.long q4), .second, .val (.int p6), .val (.long (Int64.ofNat nv)), .second, .val (.int jc), .unset, .unset, .unset, .unset, .unset, .unset, .unset, .unset] [(.int jc), (.int (21 : Int32)), (.ref b8), (.ref b8)])) rfl rfl (hb hby at_156)
  have V30 : Arv Z h30 b8 k8 .char (23 : Int32) [(.int (nar .char jc)), (.int (nar .char jc)), (.int (nar .char jc)), (.int (nar .char jc)), (.int (nar .char jc)), (.int (nar .char jc)), (.int (nar .char jc)), (.int (nar .char jc)), (.int (nar .char jc)), (.int (nar .char jc)), (.int (nar .char jc)), (.int (nar .char jc)), (.int (nar .char jc)), (.int (nar .char jc)), (.int (nar .char jc)), (.int (nar .char jc)), (.int (nar .char jc)), (.int (nar .char jc)), (.int (nar .char jc)), (.int (nar .char jc)), (.int (nar .char jc)), (.int (nar .char jc)), (.int (0 : Int32))] (.int (0 : Int32)) := Arv.set Ar30 q30 S30 M30 H30 G30 (fits_nar_char _) W30 21 rfl (Nat.le_of_ble_eq_true rfl)
  have K30 : Keep h0 h30 [] := K29.wr W30 (Or.inr sz_b8)
  have N30 := Fr.snoc X30 N29 g_b8
  refine Go.st (T' := T30.setTop (mkF m 157 #[.val (.long q1), .second, .val (.int p3), .val (.long q4), .second, .val (.int p6), .val (.long (Int64.ofNat nv)), .second, .val (.int jc), .unset, .unset, .unset, .unset, .unset, .unset, .unset, .unset] [(.ref b8)])) (fun zt zk => st30 zt zk) ?_
  refine Go.st (T' := T30.setTop (mkF m 158 #[.val (.long q1), .second, .val (.int p3), .val (.long q4), .second, .val (.int p6), .val (.long (Int64.ofNat nv)), .second, .val (.int jc), .unset, .unset, .unset, .unset, .unset, .unset, .unset, .unset] [(.ref b8), (.ref b8)])) (fun zt zk => XS.dup X30.here hx rfl (hb hby at_157) rfl rfl zk) ?_
  refine Go.st (T' := T30.setTop (mkF m 160 #[.val (.long q1), .second, .val (.int p3), .val (.long q4), .second, .val (.int p6), .val (.long (Int64.ofNat nv)), .second, .val (.int jc), .unset, .unset, .unset, .unset, .unset, .unset, .unset, .unset] [(.int (22 : Int32)), (.ref b8), (.ref b8)])) (fun zt zk => XS.bipush X30.here hx rfl (hb hby at_158) zk) ?_
  refine Go.st (T' := T30.setTop (mkF m 162 #[.val (.long q1), .second, .val (.int p3), .val (.long q4), .second, .val (.int p6), .val (.long (Int64.ofNat nv)), .second, .val (.int jc), .unset, .unset, .unset, .unset, .unset, .unset, .unset, .unset] [(.int jc), (.int (22 : Int32)), (.ref b8), (.ref b8)])) (fun zt zk => XS.iload X30.here hx rfl (hb hby at_160) rfl zk) ?_
  obtain ⟨cl31, Ar31, q31, S31, M31, H31, G31⟩ := id V30
  obtain ⟨T31, h31, X31, e31, W31, st31⟩ := stC X30 hx hZ e30 Ar31 (j := (22 : Int32)) (inb_of S31 ⟨by decide, by decide⟩) (g := (mkF m 162 #[.val (.long q1), .second, .val (.int p3), .val (.long q4), .second, .val (.int p6), .val (.long (Int64.ofNat nv)), .second, .val (.int jc), .unset, .unset, .unset, .unset, .unset, .unset, .unset, .unset] [(.int jc), (.int (22 : Int32)), (.ref b8), (.ref b8)])) rfl rfl (hb hby at_162)
  have V31 : Arv Z h31 b8 k8 .char (23 : Int32) [(.int (nar .char jc)), (.int (nar .char jc)), (.int (nar .char jc)), (.int (nar .char jc)), (.int (nar .char jc)), (.int (nar .char jc)), (.int (nar .char jc)), (.int (nar .char jc)), (.int (nar .char jc)), (.int (nar .char jc)), (.int (nar .char jc)), (.int (nar .char jc)), (.int (nar .char jc)), (.int (nar .char jc)), (.int (nar .char jc)), (.int (nar .char jc)), (.int (nar .char jc)), (.int (nar .char jc)), (.int (nar .char jc)), (.int (nar .char jc)), (.int (nar .char jc)), (.int (nar .char jc)), (.int (nar .char jc))] (.int (0 : Int32)) := Arv.set Ar31 q31 S31 M31 H31 G31 (fits_nar_char _) W31 22 rfl (Nat.le_of_ble_eq_true rfl)
  have K31 : Keep h0 h31 [] := K30.wr W31 (Or.inr sz_b8)
  have N31 := Fr.snoc X31 N30 g_b8
  refine Go.st (T' := T31.setTop (mkF m 163 #[.val (.long q1), .second, .val (.int p3), .val (.long q4), .second, .val (.int p6), .val (.long (Int64.ofNat nv)), .second, .val (.int jc), .unset, .unset, .unset, .unset, .unset, .unset, .unset, .unset] [(.ref b8)])) (fun zt zk => st31 zt zk) ?_
  obtain ⟨cs0, hcs0⟩ : ∃ z, z = List.replicate 23 (nar .char jc) := ⟨_, rfl⟩
  have hl0 : cs0.length = 23 := by rw [hcs0]; rfl
  have hb0 : ∀ c ∈ cs0, ¬ c < 0 ∧ ¬ (255 : Int32) < c := fun c hc => by
    rw [hcs0] at hc; rw [List.eq_of_mem_replicate hc]; exact hjb
  
  refine Go.st (T' := T31.setTop (mkF m 165 #[.val (.long q1), .second, .val (.int p3), .val (.long q4), .second, .val (.int p6), .val (.long (Int64.ofNat nv)), .second, .val (.int jc), .val (.ref b8), .unset, .unset, .unset, .unset, .unset, .unset, .unset] [])) (fun zt zk => XS.astore X31.here hx rfl (hb hby at_163) rfl rfl (l' := #[.val (.long q1), .second, .val (.int p3), .val (.long q4), .second, .val (.int p6), .val (.long (Int64.ofNat nv)), .second, .val (.int jc), .val (.ref b8), .unset, .unset, .unset, .unset, .unset, .unset, .unset]) rfl zk) ?_
  refine Go.st (T' := T31.setTop (mkF m 167 #[.val (.long q1), .second, .val (.int p3), .val (.long q4), .second, .val (.int p6), .val (.long (Int64.ofNat nv)), .second, .val (.int jc), .val (.ref b8), .unset, .unset, .unset, .unset, .unset, .unset, .unset] [(.int (19 : Int32))])) (fun zt zk => XS.bipush X31.here hx rfl (hb hby at_165) zk) ?_
  refine Go.st (T' := T31.setTop (mkF m 169 #[.val (.long q1), .second, .val (.int p3), .val (.long q4), .second, .val (.int p6), .val (.long (Int64.ofNat nv)), .second, .val (.int jc), .val (.ref b8), .unset, .unset, .unset, .unset, .unset, .unset, .unset] [(.int p6), (.int (19 : Int32))])) (fun zt zk => XS.iload X31.here hx rfl (hb hby at_167) rfl zk) ?_
  refine Go.st (T' := T31.setTop (mkF m 170 #[.val (.long q1), .second, .val (.int p3), .val (.long q4), .second, .val (.int p6), .val (.long (Int64.ofNat nv)), .second, .val (.int jc), .val (.ref b8), .unset, .unset, .unset, .unset, .unset, .unset, .unset] [(.int (3 : Int32)), (.int p6), (.int (19 : Int32))])) (fun zt zk => XS.iconst X31.here hx rfl (hb hby at_169) zk) ?_
  refine Go.st (T' := T31.setTop (mkF m 171 #[.val (.long q1), .second, .val (.int p3), .val (.long q4), .second, .val (.int p6), .val (.long (Int64.ofNat nv)), .second, .val (.int jc), .val (.ref b8), .unset, .unset, .unset, .unset, .unset, .unset, .unset] [(.int (p6 &&& (3 : Int32))), (.int (19 : Int32))])) (fun zt zk => XS.iand X31.here hx rfl (hb hby at_170) rfl zk) ?_
  refine Go.st (T' := T31.setTop (mkF m 172 #[.val (.long q1), .second, .val (.int p3), .val (.long q4), .second, .val (.int p6), .val (.long (Int64.ofNat nv)), .second, .val (.int jc), .val (.ref b8), .unset, .unset, .unset, .unset, .unset, .unset, .unset] [(.int ((19 : Int32) + (p6 &&& (3 : Int32))))])) (fun zt zk => XS.iadd X31.here hx rfl (hb hby at_171) rfl zk) ?_
  obtain ⟨ne, hne0, hne1, hne2⟩ := own_e p6
  rw [hne0]
  have VS : Arv Z h31 b8 k8 .char (23 : Int32) ((own_st cs0 ne nv 0).1.map Value.int) (.int (0 : Int32)) := by subst hcs0; exact V31
  refine Go.st (T' := T31.setTop (mkF m 174 #[.val (.long q1), .second, .val (.int p3), .val (.long q4), .second, .val (.int p6), .val (.long (Int64.ofNat nv)), .second, .val (.int jc), .val (.ref b8), .val (.int (Int32.ofNat ne)), .unset, .unset, .unset, .unset, .unset, .unset] [])) (fun zt zk => XS.istore X31.here hx rfl (hb hby at_172) rfl (l' := #[.val (.long q1), .second, .val (.int p3), .val (.long q4), .second, .val (.int p6), .val (.long (Int64.ofNat nv)), .second, .val (.int jc), .val (.ref b8), .val (.int (Int32.ofNat ne)), .unset, .unset, .unset, .unset, .unset, .unset]) rfl zk) ?_
  refine Go.st (T' := T31.setTop (mkF m 176 #[.val (.long q1), .second, .val (.int p3), .val (.long q4), .second, .val (.int p6), .val (.long (Int64.ofNat nv)), .second, .val (.int jc), .val (.ref b8), .val (.int (Int32.ofNat ne)), .unset, .unset, .unset, .unset, .unset, .unset] [(.int (Int32.ofNat ne))])) (fun zt zk => XS.iload X31.here hx rfl (hb hby at_174) rfl zk) ?_
  refine Go.st (T' := T31.setTop (mkF m 178 #[.val (.long q1), .second, .val (.int p3), .val (.long q4), .second, .val (.int p6), .val (.long (Int64.ofNat nv)), .second, .val (.int jc), .val (.ref b8), .val (.int (Int32.ofNat ne)), .val (.int (Int32.ofNat ne)), .unset, .unset, .unset, .unset, .unset] [])) (fun zt zk => XS.istore X31.here hx rfl (hb hby at_176) rfl (l' := #[.val (.long q1), .second, .val (.int p3), .val (.long q4), .second, .val (.int p6), .val (.long (Int64.ofNat nv)), .second, .val (.int jc), .val (.ref b8), .val (.int (Int32.ofNat ne)), .val (.int (Int32.ofNat ne)), .unset, .unset, .unset, .unset, .unset]) rfl zk) ?_
  refine Go.st (T' := T31.setTop (mkF m 180 #[.val (.long q1), .second, .val (.int p3), .val (.long q4), .second, .val (.int p6), .val (.long (Int64.ofNat nv)), .second, .val (.int jc), .val (.ref b8), .val (.int (Int32.ofNat ne)), .val (.int (Int32.ofNat ne)), .unset, .unset, .unset, .unset, .unset] [(.long (Int64.ofNat nv))])) (fun zt zk => XS.lload X31.here hx rfl (hb hby at_178) rfl zk) ?_
  refine Go.st (T' := T31.setTop (mkF m 182 #[.val (.long q1), .second, .val (.int p3), .val (.long q4), .second, .val (.int p6), .val (.long (Int64.ofNat nv)), .second, .val (.int jc), .val (.ref b8), .val (.int (Int32.ofNat ne)), .val (.int (Int32.ofNat ne)), .val (.long (Int64.ofNat nv)), .second, .unset, .unset, .unset] [])) (fun zt zk => XS.lstore X31.here hx rfl (hb hby at_180) rfl (l' := #[.val (.long q1), .second, .val (.int p3), .val (.long q4), .second, .val (.int p6), .val (.long (Int64.ofNat nv)), .second, .val (.int jc), .val (.ref b8), .val (.int (Int32.ofNat ne)), .val (.int (Int32.ofNat ne)), .val (.long (Int64.ofNat nv)), .second, .unset, .unset, .unset]) rfl zk) ?_
  refine Go.st (T' := T31.setTop (mkF m 184 #[.val (.long q1), .second, .val (.int p3), .val (.long q4), .second, .val (.int p6), .val (.long (Int64.ofNat nv)), .second, .val (.int jc), .val (.ref b8), .val (.int (Int32.ofNat ne)), .val (.int (Int32.ofNat ne)), .val (.long (Int64.ofNat nv)), .second, .unset, .unset, .unset] [(.ref b8)])) (fun zt zk => XS.aload X31.here hx rfl (hb hby at_182) rfl rfl zk) ?_
  refine Go.st (T' := T31.setTop (mkF m 186 #[.val (.long q1), .second, .val (.int p3), .val (.long q4), .second, .val (.int p6), .val (.long (Int64.ofNat nv)), .second, .val (.int jc), .val (.ref b8), .val (.int (Int32.ofNat ne)), .val (.int (Int32.ofNat ne)), .val (.long (Int64.ofNat nv)), .second, .unset, .unset, .unset] [(.int (Int32.ofNat ne)), (.ref b8)])) (fun zt zk => XS.iload X31.here hx rfl (hb hby at_184) rfl zk) ?_
  refine Go.st (T' := T31.setTop (mkF m 188 #[.val (.long q1), .second, .val (.int p3), .val (.long q4), .second, .val (.int p6), .val (.long (Int64.ofNat nv)), .second, .val (.int jc), .val (.ref b8), .val (.int (Int32.ofNat ne)), .val (.int (Int32.ofNat ne)), .val (.long (Int64.ofNat nv)), .second, .unset, .unset, .unset] [(.long (Int64.ofNat nv)), (.int (Int32.ofNat ne)), (.ref b8)])) (fun zt zk => XS.lload X31.here hx rfl (hb hby at_186) rfl zk) ?_
  have e11 : ne = (own_st cs0 ne nv 0).2.1 := rfl
  have e12 : nv = (own_st cs0 ne nv 0).2.2 := rfl
  show Go p e below (T31.setTop (mkF m 188 #[.val (.long q1), .second, .val (.int p3), .val (.long q4), .second, .val (.int p6), .val (.long (Int64.ofNat nv)), .second, .val (.int jc), .val (.ref b8), .val (.int (Int32.ofNat ne)), .val (.int (Int32.ofNat (own_st cs0 ne nv 0).2.1)), .val (.long (Int64.ofNat (own_st cs0 ne nv 0).2.2)), .second, .unset, .unset, .unset] [(.long (Int64.ofNat (own_st cs0 ne nv 0).2.2)), (.int (Int32.ofNat (own_st cs0 ne nv 0).2.1)), (.ref b8)])) (EndN s (Q_rm0 Z q1 p3 q4 p6 h0 n0) room_1.cells room_1.slots)
  obtain ⟨LX32, XX32, NX32⟩ : ∃ LX, Stand p l e room_1 s m #[(.long q1), (.int p3), (.long q4), (.int p6)] below meth c T31 LX 1 23 ∧ Fr n0 LX := ⟨_, X31, N31⟩
  obtain ⟨vr33, _, ⟨T33, L33, k33, n33⟩, -, X33, ⟨Lc33, hQ33, l33, y33, z33⟩, st33⟩ := Jvm.LawKit.callS XX32 hx (y := (⟨"com/example/beaulieu/beaulieu/model/DecimalParsePositivePinLaw", "put", "([CIJ)I"⟩ : MethodName)) hown (mvT hZ (hw _ (List.mem_of_getElem? (i := 6) rfl))) (mvT hZ (hw _ (List.mem_of_getElem? (i := 7) rfl))) (mvT hZ (hw _ (List.mem_of_getElem? (i := 8) rfl))) (mvT hZ (hw _ (List.mem_of_getElem? (i := 9) rfl))) (by decide) (backOf (W := 0) (rm2 l Z a0 hw b8 (own_st cs0 ne nv 0).2.1 (own_st cs0 ne nv 0).2.2 (own_st cs0 ne nv 0).1 k8 h31 n0 (Nat.le_trans Z0 K31.1) VS ((own_len cs0 ne nv 0).trans hl0) (own_stlt cs0 ne nv 0 hv2) (own_hi cs0 ne nv 0 hne1 hne2 (by decide)) g_b8) hZ (hw _ (List.mem_of_getElem? (i := 9) rfl)) (hw _ (List.mem_of_getElem? (i := 8) rfl)) (by decide) (by decide)) (g := (mkF m 188 #[.val (.long q1), .second, .val (.int p3), .val (.long q4), .second, .val (.int p6), .val (.long (Int64.ofNat nv)), .second, .val (.int jc), .val (.ref b8), .val (.int (Int32.ofNat ne)), .val (.int (Int32.ofNat (own_st cs0 ne nv 0).2.1)), .val (.long (Int64.ofNat (own_st cs0 ne nv 0).2.2)), .second, .unset, .unset, .unset] [(.long (Int64.ofNat (own_st cs0 ne nv 0).2.2)), (.int (Int32.ofNat (own_st cs0 ne nv 0).2.1)), (.ref b8)])) rfl (by rw [hml]; rfl) (argsL := [(.ref b8), (.int (Int32.ofNat (own_st cs0 ne nv 0).2.1)), (.long (Int64.ofNat (own_st cs0 ne nv 0).2.2))]) (rest := []) (lenOf pd_5e17a0d rfl) rfl (by show 2 * 0 + _ ≤ _; exact Nat.le_of_eq rfl) (hb hby at_188) (fun _ _ => ⟨rfl, e31, (by decide : 1 + 0 ≤ _), (by decide : 23 + 0 ≤ _)⟩)
  dsimp only [Pt.U, Pt.locs, Pt.cells, Pt.slots] at X33 l33 y33 z33 st33 hQ33
  subst l33 y33 z33
  obtain ⟨rfl, Nq33, Kq33, Vq33⟩ := hQ33
  have KK34 : Keep h0 T33.heap [] := K31.trans Kq33 (allS (Or.inr sz_b8) all0)
  have NN35 := Fr.app NX32 Nq33
  rw [own_stc cs0 ne nv 0 1 rfl] at Vq33
  refine Go.st (T' := T33.setTop (mkF m 191 #[.val (.long q1), .second, .val (.int p3), .val (.long q4), .second, .val (.int p6), .val (.long (Int64.ofNat nv)), .second, .val (.int jc), .val (.ref b8), .val (.int (Int32.ofNat ne)), .val (.int (Int32.ofNat (own_st cs0 ne nv 0).2.1)), .val (.long (Int64.ofNat (own_st cs0 ne nv 0).2.2)), .second, .unset, .unset, .unset] [(.int (Int32.ofNat (own_pi (own_st cs0 ne nv 0).2.1 (own_st cs0 ne nv 0).2.2)))])) (fun zt zk => st33 zt zk) ?_
  rw [own_sti cs0 ne nv 0 1 rfl]
  refine Go.st (T' := T33.setTop (mkF m 193 #[.val (.long q1), .second, .val (.int p3), .val (.long q4), .second, .val (.int p6), .val (.long (Int64.ofNat nv)), .second, .val (.int jc), .val (.ref b8), .val (.int (Int32.ofNat ne)), .val (.int (Int32.ofNat (own_st cs0 ne nv 1).2.1)), .val (.long (Int64.ofNat (own_st cs0 ne nv 0).2.2)), .second, .unset, .unset, .unset] [])) (fun zt zk => XS.istore X33.here hx rfl (hb hby at_191) rfl (l' := #[.val (.long q1), .second, .val (.int p3), .val (.long q4), .second, .val (.int p6), .val (.long (Int64.ofNat nv)), .second, .val (.int jc), .val (.ref b8), .val (.int (Int32.ofNat ne)), .val (.int (Int32.ofNat (own_st cs0 ne nv 1).2.1)), .val (.long (Int64.ofNat (own_st cs0 ne nv 0).2.2)), .second, .unset, .unset, .unset]) rfl zk) ?_
  refine Go.st (T' := T33.setTop (mkF m 195 #[.val (.long q1), .second, .val (.int p3), .val (.long q4), .second, .val (.int p6), .val (.long (Int64.ofNat nv)), .second, .val (.int jc), .val (.ref b8), .val (.int (Int32.ofNat ne)), .val (.int (Int32.ofNat (own_st cs0 ne nv 1).2.1)), .val (.long (Int64.ofNat (own_st cs0 ne nv 0).2.2)), .second, .unset, .unset, .unset] [(.long (Int64.ofNat (own_st cs0 ne nv 0).2.2))])) (fun zt zk => XS.lload X33.here hx rfl (hb hby at_193) rfl zk) ?_
  refine Go.st (T' := T33.setTop (mkF m 198 #[.val (.long q1), .second, .val (.int p3), .val (.long q4), .second, .val (.int p6), .val (.long (Int64.ofNat nv)), .second, .val (.int jc), .val (.ref b8), .val (.int (Int32.ofNat ne)), .val (.int (Int32.ofNat (own_st cs0 ne nv 1).2.1)), .val (.long (Int64.ofNat (own_st cs0 ne nv 0).2.2)), .second, .unset, .unset, .unset] [(.long (10 : Int64)), (.long (Int64.ofNat (own_st cs0 ne nv 0).2.2))])) (fun zt zk => X33.ldc2Long hx hown (mvT hZ (hw _ (List.mem_of_getElem? (i := 10) rfl))) (g := (mkF m 195 #[.val (.long q1), .second, .val (.int p3), .val (.long q4), .second, .val (.int p6), .val (.long (Int64.ofNat nv)), .second, .val (.int jc), .val (.ref b8), .val (.int (Int32.ofNat ne)), .val (.int (Int32.ofNat (own_st cs0 ne nv 1).2.1)), .val (.long (Int64.ofNat (own_st cs0 ne nv 0).2.2)), .second, .unset, .unset, .unset] [(.long (Int64.ofNat (own_st cs0 ne nv 0).2.2))])) rfl (hb hby at_195) zt zk) ?_
  refine Go.st (T' := T33.setTop (mkF m 199 #[.val (.long q1), .second, .val (.int p3), .val (.long q4), .second, .val (.int p6), .val (.long (Int64.ofNat nv)), .second, .val (.int jc), .val (.ref b8), .val (.int (Int32.ofNat ne)), .val (.int (Int32.ofNat (own_st cs0 ne nv 1).2.1)), .val (.long (Int64.ofNat (own_st cs0 ne nv 0).2.2)), .second, .unset, .unset, .unset] [(.long ((Int64.ofNat (own_st cs0 ne nv 0).2.2) / (10 : Int64)))])) (fun zt zk => XS.ldiv X33.here hx rfl (hb hby at_198) rfl (by decide) zk) ?_
  rw [own_stw cs0 ne nv 0 1 rfl hv2]
  refine Go.st (T' := T33.setTop (mkF m 201 #[.val (.long q1), .second, .val (.int p3), .val (.long q4), .second, .val (.int p6), .val (.long (Int64.ofNat nv)), .second, .val (.int jc), .val (.ref b8), .val (.int (Int32.ofNat ne)), .val (.int (Int32.ofNat (own_st cs0 ne nv 1).2.1)), .val (.long (Int64.ofNat (own_st cs0 ne nv 1).2.2)), .second, .unset, .unset, .unset] [])) (fun zt zk => XS.lstore X33.here hx rfl (hb hby at_199) rfl (l' := #[.val (.long q1), .second, .val (.int p3), .val (.long q4), .second, .val (.int p6), .val (.long (Int64.ofNat nv)), .second, .val (.int jc), .val (.ref b8), .val (.int (Int32.ofNat ne)), .val (.int (Int32.ofNat (own_st cs0 ne nv 1).2.1)), .val (.long (Int64.ofNat (own_st cs0 ne nv 1).2.2)), .second, .unset, .unset, .unset]) rfl zk) ?_
  refine Go.st (T' := T33.setTop (mkF m 203 #[.val (.long q1), .second, .val (.int p3), .val (.long q4), .second, .val (.int p6), .val (.long (Int64.ofNat nv)), .second, .val (.int jc), .val (.ref b8), .val (.int (Int32.ofNat ne)), .val (.int (Int32.ofNat (own_st cs0 ne nv 1).2.1)), .val (.long (Int64.ofNat (own_st cs0 ne nv 1).2.2)), .second, .unset, .unset, .unset] [(.ref b8)])) (fun zt zk => XS.aload X33.here hx rfl (hb hby at_201) rfl rfl zk) ?_
  refine Go.st (T' := T33.setTop (mkF m 205 #[.val (.long q1), .second, .val (.int p3), .val (.long q4), .second, .val (.int p6), .val (.long (Int64.ofNat nv)), .second, .val (.int jc), .val (.ref b8), .val (.int (Int32.ofNat ne)), .val (.int (Int32.ofNat (own_st cs0 ne nv 1).2.1)), .val (.long (Int64.ofNat (own_st cs0 ne nv 1).2.2)), .second, .unset, .unset, .unset] [(.int (Int32.ofNat (own_st cs0 ne nv 1).2.1)), (.ref b8)])) (fun zt zk => XS.iload X33.here hx rfl (hb hby at_203) rfl zk) ?_
  refine Go.st (T' := T33.setTop (mkF m 207 #[.val (.long q1), .second, .val (.int p3), .val (.long q4), .second, .val (.int p6), .val (.long (Int64.ofNat nv)), .second, .val (.int jc), .val (.ref b8), .val (.int (Int32.ofNat ne)), .val (.int (Int32.ofNat (own_st cs0 ne nv 1).2.1)), .val (.long (Int64.ofNat (own_st cs0 ne nv 1).2.2)), .second, .unset, .unset, .unset] [(.long (Int64.ofNat (own_st cs0 ne nv 1).2.2)), (.int (Int32.ofNat (own_st cs0 ne nv 1).2.1)), (.ref b8)])) (fun zt zk => XS.lload X33.here hx rfl (hb hby at_205) rfl zk) ?_
  obtain ⟨vr36, _, ⟨T36, L36, k36, n36⟩, -, X36, ⟨Lc36, hQ36, l36, y36, z36⟩, st36⟩ := Jvm.LawKit.callS X33 hx (y := (⟨"com/example/beaulieu/beaulieu/model/DecimalParsePositivePinLaw", "put", "([CIJ)I"⟩ : MethodName)) hown (mvT hZ (hw _ (List.mem_of_getElem? (i := 6) rfl))) (mvT hZ (hw _ (List.mem_of_getElem? (i := 7) rfl))) (mvT hZ (hw _ (List.mem_of_getElem? (i := 8) rfl))) (mvT hZ (hw _ (List.mem_of_getElem? (i := 9) rfl))) (by decide) (backOf (W := 0) (rm2 l Z a0 hw b8 (own_st cs0 ne nv 1).2.1 (own_st cs0 ne nv 1).2.2 (own_st cs0 ne nv 1).1 k8 T33.heap n0 (Nat.le_trans Z0 KK34.1) Vq33 ((own_len cs0 ne nv 1).trans hl0) (own_stlt cs0 ne nv 1 hv2) (own_hi cs0 ne nv 1 hne1 hne2 (by decide)) g_b8) hZ (hw _ (List.mem_of_getElem? (i := 9) rfl)) (hw _ (List.mem_of_getElem? (i := 8) rfl)) (by decide) (by decide)) (g := (mkF m 207 #[.val (.long q1), .second, .val (.int p3), .val (.long q4), .second, .val (.int p6), .val (.long (Int64.ofNat nv)), .second, .val (.int jc), .val (.ref b8), .val (.int (Int32.ofNat ne)), .val (.int (Int32.ofNat (own_st cs0 ne nv 1).2.1)), .val (.long (Int64.ofNat (own_st cs0 ne nv 1).2.2)), .second, .unset, .unset, .unset] [(.long (Int64.ofNat (own_st cs0 ne nv 1).2.2)), (.int (Int32.ofNat (own_st cs0 ne nv 1).2.1)), (.ref b8)])) rfl (by rw [hml]; rfl) (argsL := [(.ref b8), (.int (Int32.ofNat (own_st cs0 ne nv 1).2.1)), (.long (Int64.ofNat (own_st cs0 ne nv 1).2.2))]) (rest := []) (lenOf pd_5e17a0d rfl) rfl (by show 2 * 0 + _ ≤ _; exact Nat.le_of_eq rfl) (hb hby at_207) (fun _ _ => ⟨rfl, rfl, (by decide : 1 + 0 ≤ _), (by decide : 23 + 0 ≤ _)⟩)
  dsimp only [Pt.U, Pt.locs, Pt.cells, Pt.slots] at X36 l36 y36 z36 st36 hQ36
  subst l36 y36 z36
  obtain ⟨rfl, Nq36, Kq36, Vq36⟩ := hQ36
  have KK37 : Keep h0 T36.heap [] := KK34.trans Kq36 (allS (Or.inr sz_b8) all0)
  have NN38 := Fr.app NN35 Nq36
  rw [own_stc cs0 ne nv 1 2 rfl] at Vq36
  refine Go.st (T' := T36.setTop (mkF m 210 #[.val (.long q1), .second, .val (.int p3), .val (.long q4), .second, .val (.int p6), .val (.long (Int64.ofNat nv)), .second, .val (.int jc), .val (.ref b8), .val (.int (Int32.ofNat ne)), .val (.int (Int32.ofNat (own_st cs0 ne nv 1).2.1)), .val (.long (Int64.ofNat (own_st cs0 ne nv 1).2.2)), .second, .unset, .unset, .unset] [(.int (Int32.ofNat (own_pi (own_st cs0 ne nv 1).2.1 (own_st cs0 ne nv 1).2.2)))])) (fun zt zk => st36 zt zk) ?_
  rw [own_sti cs0 ne nv 1 2 rfl]
  refine Go.st (T' := T36.setTop (mkF m 212 #[.val (.long q1), .second, .val (.int p3), .val (.long q4), .second, .val (.int p6), .val (.long (Int64.ofNat nv)), .second, .val (.int jc), .val (.ref b8), .val (.int (Int32.ofNat ne)), .val (.int (Int32.ofNat (own_st cs0 ne nv 2).2.1)), .val (.long (Int64.ofNat (own_st cs0 ne nv 1).2.2)), .second, .unset, .unset, .unset] [])) (fun zt zk => XS.istore X36.here hx rfl (hb hby at_210) rfl (l' := #[.val (.long q1), .second, .val (.int p3), .val (.long q4), .second, .val (.int p6), .val (.long (Int64.ofNat nv)), .second, .val (.int jc), .val (.ref b8), .val (.int (Int32.ofNat ne)), .val (.int (Int32.ofNat (own_st cs0 ne nv 2).2.1)), .val (.long (Int64.ofNat (own_st cs0 ne nv 1).2.2)), .second, .unset, .unset, .unset]) rfl zk) ?_
  refine Go.st (T' := T36.setTop (mkF m 214 #[.val (.long q1), .second, .val (.int p3), .val (.long q4), .second, .val (.int p6), .val (.long (Int64.ofNat nv)), .second, .val (.int jc), .val (.ref b8), .val (.int (Int32.ofNat ne)), .val (.int (Int32.ofNat (own_st cs0 ne nv 2).2.1)), .val (.long (Int64.ofNat (own_st cs0 ne nv 1).2.2)), .second, .unset, .unset, .unset] [(.long (Int64.ofNat (own_st cs0 ne nv 1).2.2))])) (fun zt zk => XS.lload X36.here hx rfl (hb hby at_212) rfl zk) ?_
  refine Go.st (T' := T36.setTop (mkF m 217 #[.val (.long q1), .second, .val (.int p3), .val (.long q4), .second, .val (.int p6), .val (.long (Int64.ofNat nv)), .second, .val (.int jc), .val (.ref b8), .val (.int (Int32.ofNat ne)), .val (.int (Int32.ofNat (own_st cs0 ne nv 2).2.1)), .val (.long (Int64.ofNat (own_st cs0 ne nv 1).2.2)), .second, .unset, .unset, .unset] [(.long (10 : Int64)), (.long (Int64.ofNat (own_st cs0 ne nv 1).2.2))])) (fun zt zk => X36.ldc2Long hx hown (mvT hZ (hw _ (List.mem_of_getElem? (i := 10) rfl))) (g := (mkF m 214 #[.val (.long q1), .second, .val (.int p3), .val (.long q4), .second, .val (.int p6), .val (.long (Int64.ofNat nv)), .second, .val (.int jc), .val (.ref b8), .val (.int (Int32.ofNat ne)), .val (.int (Int32.ofNat (own_st cs0 ne nv 2).2.1)), .val (.long (Int64.ofNat (own_st cs0 ne nv 1).2.2)), .second, .unset, .unset, .unset] [(.long (Int64.ofNat (own_st cs0 ne nv 1).2.2))])) rfl (hb hby at_214) zt zk) ?_
  refine Go.st (T' := T36.setTop (mkF m 218 #[.val (.long q1), .second, .val (.int p3), .val (.long q4), .second, .val (.int p6), .val (.long (Int64.ofNat nv)), .second, .val (.int jc), .val (.ref b8), .val (.int (Int32.ofNat ne)), .val (.int (Int32.ofNat (own_st cs0 ne nv 2).2.1)), .val (.long (Int64.ofNat (own_st cs0 ne nv 1).2.2)), .second, .unset, .unset, .unset] [(.long ((Int64.ofNat (own_st cs0 ne nv 1).2.2) / (10 : Int64)))])) (fun zt zk => XS.ldiv X36.here hx rfl (hb hby at_217) rfl (by decide) zk) ?_
  rw [own_stw cs0 ne nv 1 2 rfl hv2]
  refine Go.st (T' := T36.setTop (mkF m 220 #[.val (.long q1), .second, .val (.int p3), .val (.long q4), .second, .val (.int p6), .val (.long (Int64.ofNat nv)), .second, .val (.int jc), .val (.ref b8), .val (.int (Int32.ofNat ne)), .val (.int (Int32.ofNat (own_st cs0 ne nv 2).2.1)), .val (.long (Int64.ofNat (own_st cs0 ne nv 2).2.2)), .second, .unset, .unset, .unset] [])) (fun zt zk => XS.lstore X36.here hx rfl (hb hby at_218) rfl (l' := #[.val (.long q1), .second, .val (.int p3), .val (.long q4), .second, .val (.int p6), .val (.long (Int64.ofNat nv)), .second, .val (.int jc), .val (.ref b8), .val (.int (Int32.ofNat ne)), .val (.int (Int32.ofNat (own_st cs0 ne nv 2).2.1)), .val (.long (Int64.ofNat (own_st cs0 ne nv 2).2.2)), .second, .unset, .unset, .unset]) rfl zk) ?_
  refine Go.st (T' := T36.setTop (mkF m 222 #[.val (.long q1), .second, .val (.int p3), .val (.long q4), .second, .val (.int p6), .val (.long (Int64.ofNat nv)), .second, .val (.int jc), .val (.ref b8), .val (.int (Int32.ofNat ne)), .val (.int (Int32.ofNat (own_st cs0 ne nv 2).2.1)), .val (.long (Int64.ofNat (own_st cs0 ne nv 2).2.2)), .second, .unset, .unset, .unset] [(.ref b8)])) (fun zt zk => XS.aload X36.here hx rfl (hb hby at_220) rfl rfl zk) ?_
  refine Go.st (T' := T36.setTop (mkF m 224 #[.val (.long q1), .second, .val (.int p3), .val (.long q4), .second, .val (.int p6), .val (.long (Int64.ofNat nv)), .second, .val (.int jc), .val (.ref b8), .val (.int (Int32.ofNat ne)), .val (.int (Int32.ofNat (own_st cs0 ne nv 2).2.1)), .val (.long (Int64.ofNat (own_st cs0 ne nv 2).2.2)), .second, .unset, .unset, .unset] [(.int (Int32.ofNat (own_st cs0 ne nv 2).2.1)), (.ref b8)])) (fun zt zk => XS.iload X36.here hx rfl (hb hby at_222) rfl zk) ?_
  refine Go.st (T' := T36.setTop (mkF m 226 #[.val (.long q1), .second, .val (.int p3), .val (.long q4), .second, .val (.int p6), .val (.long (Int64.ofNat nv)), .second, .val (.int jc), .val (.ref b8), .val (.int (Int32.ofNat ne)), .val (.int (Int32.ofNat (own_st cs0 ne nv 2).2.1)), .val (.long (Int64.ofNat (own_st cs0 ne nv 2).2.2)), .second, .unset, .unset, .unset] [(.long (Int64.ofNat (own_st cs0 ne nv 2).2.2)), (.int (Int32.ofNat (own_st cs0 ne nv 2).2.1)), (.ref b8)])) (fun zt zk => XS.lload X36.here hx rfl (hb hby at_224) rfl zk) ?_
  obtain ⟨vr39, _, ⟨T39, L39, k39, n39⟩, -, X39, ⟨Lc39, hQ39, l39, y39, z39⟩, st39⟩ := Jvm.LawKit.callS X36 hx (y := (⟨"com/example/beaulieu/beaulieu/model/DecimalParsePositivePinLaw", "put", "([CIJ)I"⟩ : MethodName)) hown (mvT hZ (hw _ (List.mem_of_getElem? (i := 6) rfl))) (mvT hZ (hw _ (List.mem_of_getElem? (i := 7) rfl))) (mvT hZ (hw _ (List.mem_of_getElem? (i := 8) rfl))) (mvT hZ (hw _ (List.mem_of_getElem? (i := 9) rfl))) (by decide) (backOf (W := 0) (rm2 l Z a0 hw b8 (own_st cs0 ne nv 2).2.1 (own_st cs0 ne nv 2).2.2 (own_st cs0 ne nv 2).1 k8 T36.heap n0 (Nat.le_trans Z0 KK37.1) Vq36 ((own_len cs0 ne nv 2).trans hl0) (own_stlt cs0 ne nv 2 hv2) (own_hi cs0 ne nv 2 hne1 hne2 (by decide)) g_b8) hZ (hw _ (List.mem_of_getElem? (i := 9) rfl)) (hw _ (List.mem_of_getElem? (i := 8) rfl)) (by decide) (by decide)) (g := (mkF m 226 #[.val (.long q1), .second, .val (.int p3), .val (.long q4), .second, .val (.int p6), .val (.long (Int64.ofNat nv)), .second, .val (.int jc), .val (.ref b8), .val (.int (Int32.ofNat ne)), .val (.int (Int32.ofNat (own_st cs0 ne nv 2).2.1)), .val (.long (Int64.ofNat (own_st cs0 ne nv 2).2.2)), .second, .unset, .unset, .unset] [(.long (Int64.ofNat (own_st cs0 ne nv 2).2.2)), (.int (Int32.ofNat (own_st cs0 ne nv 2).2.1)), (.ref b8)])) rfl (by rw [hml]; rfl) (argsL := [(.ref b8), (.int (Int32.ofNat (own_st cs0 ne nv 2).2.1)), (.long (Int64.ofNat (own_st cs0 ne nv 2).2.2))]) (rest := []) (lenOf pd_5e17a0d rfl) rfl (by show 2 * 0 + _ ≤ _; exact Nat.le_of_eq rfl) (hb hby at_226) (fun _ _ => ⟨rfl, rfl, (by decide : 1 + 0 ≤ _), (by decide : 23 + 0 ≤ _)⟩)
  dsimp only [Pt.U, Pt.locs, Pt.cells, Pt.slots] at X39 l39 y39 z39 st39 hQ39
  subst l39 y39 z39
  obtain ⟨rfl, Nq39, Kq39, Vq39⟩ := hQ39
  have KK40 : Keep h0 T39.heap [] := KK37.trans Kq39 (allS (Or.inr sz_b8) all0)
  have NN41 := Fr.app NN38 Nq39
  rw [own_stc cs0 ne nv 2 3 rfl] at Vq39
  refine Go.st (T' := T39.setTop (mkF m 229 #[.val (.long q1), .second, .val (.int p3), .val (.long q4), .second, .val (.int p6), .val (.long (Int64.ofNat nv)), .second, .val (.int jc), .val (.ref b8), .val (.int (Int32.ofNat ne)), .val (.int (Int32.ofNat (own_st cs0 ne nv 2).2.1)), .val (.long (Int64.ofNat (own_st cs0 ne nv 2).2.2)), .second, .unset, .unset, .unset] [(.int (Int32.ofNat (own_pi (own_st cs0 ne nv 2).2.1 (own_st cs0 ne nv 2).2.2)))])) (fun zt zk => st39 zt zk) ?_
  rw [own_sti cs0 ne nv 2 3 rfl]
  refine Go.st (T' := T39.setTop (mkF m 231 #[.val (.long q1), .second, .val (.int p3), .val (.long q4), .second, .val (.int p6), .val (.long (Int64.ofNat nv)), .second, .val (.int jc), .val (.ref b8), .val (.int (Int32.ofNat ne)), .val (.int (Int32.ofNat (own_st cs0 ne nv 3).2.1)), .val (.long (Int64.ofNat (own_st cs0 ne nv 2).2.2)), .second, .unset, .unset, .unset] [])) (fun zt zk => XS.istore X39.here hx rfl (hb hby at_229) rfl (l' := #[.val (.long q1), .second, .val (.int p3), .val (.long q4), .second, .val (.int p6), .val (.long (Int64.ofNat nv)), .second, .val (.int jc), .val (.ref b8), .val (.int (Int32.ofNat ne)), .val (.int (Int32.ofNat (own_st cs0 ne nv 3).2.1)), .val (.long (Int64.ofNat (own_st cs0 ne nv 2).2.2)), .second, .unset, .unset, .unset]) rfl zk) ?_
  refine Go.st (T' := T39.setTop (mkF m 233 #[.val (.long q1), .second, .val (.int p3), .val (.long q4), .second, .val (.int p6), .val (.long (Int64.ofNat nv)), .second, .val (.int jc), .val (.ref b8), .val (.int (Int32.ofNat ne)), .val (.int (Int32.ofNat (own_st cs0 ne nv 3).2.1)), .val (.long (Int64.ofNat (own_st cs0 ne nv 2).2.2)), .second, .unset, .unset, .unset] [(.long (Int64.ofNat (own_st cs0 ne nv 2).2.2))])) (fun zt zk => XS.lload X39.here hx rfl (hb hby at_231) rfl zk) ?_
  refine Go.st (T' := T39.setTop (mkF m 236 #[.val (.long q1), .second, .val (.int p3), .val (.long q4), .second, .val (.int p6), .val (.long (Int64.ofNat nv)), .second, .val (.int jc), .val (.ref b8), .val (.int (Int32.ofNat ne)), .val (.int (Int32.ofNat (own_st cs0 ne nv 3).2.1)), .val (.long (Int64.ofNat (own_st cs0 ne nv 2).2.2)), .second, .unset, .unset, .unset] [(.long (10 : Int64)), (.long (Int64.ofNat (own_st cs0 ne nv 2).2.2))])) (fun zt zk => X39.ldc2Long hx hown (mvT hZ (hw _ (List.mem_of_getElem? (i := 10) rfl))) (g := (mkF m 233 #[.val (.long q1), .second, .val (.int p3), .val (.long q4), .second, .val (.int p6), .val (.long (Int64.ofNat nv)), .second, .val (.int jc), .val (.ref b8), .val (.int (Int32.ofNat ne)), .val (.int (Int32.ofNat (own_st cs0 ne nv 3).2.1)), .val (.long (Int64.ofNat (own_st cs0 ne nv 2).2.2)), .second, .unset, .unset, .unset] [(.long (Int64.ofNat (own_st cs0 ne nv 2).2.2))])) rfl (hb hby at_233) zt zk) ?_
  refine Go.st (T' := T39.setTop (mkF m 237 #[.val (.long q1), .second, .val (.int p3), .val (.long q4), .second, .val (.int p6), .val (.long (Int64.ofNat nv)), .second, .val (.int jc), .val (.ref b8), .val (.int (Int32.ofNat ne)), .val (.int (Int32.ofNat (own_st cs0 ne nv 3).2.1)), .val (.long (Int64.ofNat (own_st cs0 ne nv 2).2.2)), .second, .unset, .unset, .unset] [(.long ((Int64.ofNat (own_st cs0 ne nv 2).2.2) / (10 : Int64)))])) (fun zt zk => XS.ldiv X39.here hx rfl (hb hby at_236) rfl (by decide) zk) ?_
  rw [own_stw cs0 ne nv 2 3 rfl hv2]
  refine Go.st (T' := T39.setTop (mkF m 239 #[.val (.long q1), .second, .val (.int p3), .val (.long q4), .second, .val (.int p6), .val (.long (Int64.ofNat nv)), .second, .val (.int jc), .val (.ref b8), .val (.int (Int32.ofNat ne)), .val (.int (Int32.ofNat (own_st cs0 ne nv 3).2.1)), .val (.long (Int64.ofNat (own_st cs0 ne nv 3).2.2)), .second, .unset, .unset, .unset] [])) (fun zt zk => XS.lstore X39.here hx rfl (hb hby at_237) rfl (l' := #[.val (.long q1), .second, .val (.int p3), .val (.long q4), .second, .val (.int p6), .val (.long (Int64.ofNat nv)), .second, .val (.int jc), .val (.ref b8), .val (.int (Int32.ofNat ne)), .val (.int (Int32.ofNat (own_st cs0 ne nv 3).2.1)), .val (.long (Int64.ofNat (own_st cs0 ne nv 3).2.2)), .second, .unset, .unset, .unset]) rfl zk) ?_
  refine Go.st (T' := T39.setTop (mkF m 241 #[.val (.long q1), .second, .val (.int p3), .val (.long q4), .second, .val (.int p6), .val (.long (Int64.ofNat nv)), .second, .val (.int jc), .val (.ref b8), .val (.int (Int32.ofNat ne)), .val (.int (Int32.ofNat (own_st cs0 ne nv 3).2.1)), .val (.long (Int64.ofNat (own_st cs0 ne nv 3).2.2)), .second, .unset, .unset, .unset] [(.ref b8)])) (fun zt zk => XS.aload X39.here hx rfl (hb hby at_239) rfl rfl zk) ?_
  refine Go.st (T' := T39.setTop (mkF m 243 #[.val (.long q1), .second, .val (.int p3), .val (.long q4), .second, .val (.int p6), .val (.long (Int64.ofNat nv)), .second, .val (.int jc), .val (.ref b8), .val (.int (Int32.ofNat ne)), .val (.int (Int32.ofNat (own_st cs0 ne nv 3).2.1)), .val (.long (Int64.ofNat (own_st cs0 ne nv 3).2.2)), .second, .unset, .unset, .unset] [(.int (Int32.ofNat (own_st cs0 ne nv 3).2.1)), (.ref b8)])) (fun zt zk => XS.iload X39.here hx rfl (hb hby at_241) rfl zk) ?_
  refine Go.st (T' := T39.setTop (mkF m 245 #[.val (.long q1), .second, .val (.int p3), .val (.long q4), .second, .val (.int p6), .val (.long (Int64.ofNat nv)), .second, .val (.int jc), .val (.ref b8), .val (.int (Int32.ofNat ne)), .val (.int (Int32.ofNat (own_st cs0 ne nv 3).2.1)), .val (.long (Int64.ofNat (own_st cs0 ne nv 3).2.2)), .second, .unset, .unset, .unset] [(.long (Int64.ofNat (own_st cs0 ne nv 3).2.2)), (.int (Int32.ofNat (own_st cs0 ne nv 3).2.1)), (.ref b8)])) (fun zt zk => XS.lload X39.here hx rfl (hb hby at_243) rfl zk) ?_
  obtain ⟨vr42, _, ⟨T42, L42, k42, n42⟩, -, X42, ⟨Lc42, hQ42, l42, y42, z42⟩, st42⟩ := Jvm.LawKit.callS X39 hx (y := (⟨"com/example/beaulieu/beaulieu/model/DecimalParsePositivePinLaw", "put", "([CIJ)I"⟩ : MethodName)) hown (mvT hZ (hw _ (List.mem_of_getElem? (i := 6) rfl))) (mvT hZ (hw _ (List.mem_of_getElem? (i := 7) rfl))) (mvT hZ (hw _ (List.mem_of_getElem? (i := 8) rfl))) (mvT hZ (hw _ (List.mem_of_getElem? (i := 9) rfl))) (by decide) (backOf (W := 0) (rm2 l Z a0 hw b8 (own_st cs0 ne nv 3).2.1 (own_st cs0 ne nv 3).2.2 (own_st cs0 ne nv 3).1 k8 T39.heap n0 (Nat.le_trans Z0 KK40.1) Vq39 ((own_len cs0 ne nv 3).trans hl0) (own_stlt cs0 ne nv 3 hv2) (own_hi cs0 ne nv 3 hne1 hne2 (by decide)) g_b8) hZ (hw _ (List.mem_of_getElem? (i := 9) rfl)) (hw _ (List.mem_of_getElem? (i := 8) rfl)) (by decide) (by decide)) (g := (mkF m 245 #[.val (.long q1), .second, .val (.int p3), .val (.long q4), .second, .val (.int p6), .val (.long (Int64.ofNat nv)), .second, .val (.int jc), .val (.ref b8), .val (.int (Int32.ofNat ne)), .val (.int (Int32.ofNat (own_st cs0 ne nv 3).2.1)), .val (.long (Int64.ofNat (own_st cs0 ne nv 3).2.2)), .second, .unset, .unset, .unset] [(.long (Int64.ofNat (own_st cs0 ne nv 3).2.2)), (.int (Int32.ofNat (own_st cs0 ne nv 3).2.1)), (.ref b8)])) rfl (by rw [hml]; rfl) (argsL := [(.ref b8), (.int (Int32.ofNat (own_st cs0 ne nv 3).2.1)), (.long (Int64.ofNat (own_st cs0 ne nv 3).2.2))]) (rest := []) (lenOf pd_5e17a0d rfl) rfl (by show 2 * 0 + _ ≤ _; exact Nat.le_of_eq rfl) (hb hby at_245) (fun _ _ => ⟨rfl, rfl, (by decide : 1 + 0 ≤ _), (by decide : 23 + 0 ≤ _)⟩)
  dsimp only [Pt.U, Pt.locs, Pt.cells, Pt.slots] at X42 l42 y42 z42 st42 hQ42
  subst l42 y42 z42
  obtain ⟨rfl, Nq42, Kq42, Vq42⟩ := hQ42
  have KK43 : Keep h0 T42.heap [] := KK40.trans Kq42 (allS (Or.inr sz_b8) all0)
  have NN44 := Fr.app NN41 Nq42
  rw [own_stc cs0 ne nv 3 4 rfl] at Vq42
  refine Go.st (T' := T42.setTop (mkF m 248 #[.val (.long q1), .second, .val (.int p3), .val (.long q4), .second, .val (.int p6), .val (.long (Int64.ofNat nv)), .second, .val (.int jc), .val (.ref b8), .val (.int (Int32.ofNat ne)), .val (.int (Int32.ofNat (own_st cs0 ne nv 3).2.1)), .val (.long (Int64.ofNat (own_st cs0 ne nv 3).2.2)), .second, .unset, .unset, .unset] [(.int (Int32.ofNat (own_pi (own_st cs0 ne nv 3).2.1 (own_st cs0 ne nv 3).2.2)))])) (fun zt zk => st42 zt zk) ?_
  rw [own_sti cs0 ne nv 3 4 rfl]
  refine Go.st (T' := T42.setTop (mkF m 250 #[.val (.long q1), .second, .val (.int p3), .val (.long q4), .second, .val (.int p6), .val (.long (Int64.ofNat nv)), .second, .val (.int jc), .val (.ref b8), .val (.int (Int32.ofNat ne)), .val (.int (Int32.ofNat (own_st cs0 ne nv 4).2.1)), .val (.long (Int64.ofNat (own_st cs0 ne nv 3).2.2)), .second, .unset, .unset, .unset] [])) (fun zt zk => XS.istore X42.here hx rfl (hb hby at_248) rfl (l' := #[.val (.long q1), .second, .val (.int p3), .val (.long q4), .second, .val (.int p6), .val (.long (Int64.ofNat nv)), .second, .val (.int jc), .val (.ref b8), .val (.int (Int32.ofNat ne)), .val (.int (Int32.ofNat (own_st cs0 ne nv 4).2.1)), .val (.long (Int64.ofNat (own_st cs0 ne nv 3).2.2)), .second, .unset, .unset, .unset]) rfl zk) ?_
  refine Go.st (T' := T42.setTop (mkF m 252 #[.val (.long q1), .second, .val (.int p3), .val (.long q4), .second, .val (.int p6), .val (.long (Int64.ofNat nv)), .second, .val (.int jc), .val (.ref b8), .val (.int (Int32.ofNat ne)), .val (.int (Int32.ofNat (own_st cs0 ne nv 4).2.1)), .val (.long (Int64.ofNat (own_st cs0 ne nv 3).2.2)), .second, .unset, .unset, .unset] [(.long (Int64.ofNat (own_st cs0 ne nv 3).2.2))])) (fun zt zk => XS.lload X42.here hx rfl (hb hby at_250) rfl zk) ?_
  refine Go.st (T' := T42.setTop (mkF m 255 #[.val (.long q1), .second, .val (.int p3), .val (.long q4), .second, .val (.int p6), .val (.long (Int64.ofNat nv)), .second, .val (.int jc), .val (.ref b8), .val (.int (Int32.ofNat ne)), .val (.int (Int32.ofNat (own_st cs0 ne nv 4).2.1)), .val (.long (Int64.ofNat (own_st cs0 ne nv 3).2.2)), .second, .unset, .unset, .unset] [(.long (10 : Int64)), (.long (Int64.ofNat (own_st cs0 ne nv 3).2.2))])) (fun zt zk => X42.ldc2Long hx hown (mvT hZ (hw _ (List.mem_of_getElem? (i := 10) rfl))) (g := (mkF m 252 #[.val (.long q1), .second, .val (.int p3), .val (.long q4), .second, .val (.int p6), .val (.long (Int64.ofNat nv)), .second, .val (.int jc), .val (.ref b8), .val (.int (Int32.ofNat ne)), .val (.int (Int32.ofNat (own_st cs0 ne nv 4).2.1)), .val (.long (Int64.ofNat (own_st cs0 ne nv 3).2.2)), .second, .unset, .unset, .unset] [(.long (Int64.ofNat (own_st cs0 ne nv 3).2.2))])) rfl (hb hby at_252) zt zk) ?_
  refine Go.st (T' := T42.setTop (mkF m 256 #[.val (.long q1), .second, .val (.int p3), .val (.long q4), .second, .val (.int p6), .val (.long (Int64.ofNat nv)), .second, .val (.int jc), .val (.ref b8), .val (.int (Int32.ofNat ne)), .val (.int (Int32.ofNat (own_st cs0 ne nv 4).2.1)), .val (.long (Int64.ofNat (own_st cs0 ne nv 3).2.2)), .second, .unset, .unset, .unset] [(.long ((Int64.ofNat (own_st cs0 ne nv 3).2.2) / (10 : Int64)))])) (fun zt zk => XS.ldiv X42.here hx rfl (hb hby at_255) rfl (by decide) zk) ?_
  rw [own_stw cs0 ne nv 3 4 rfl hv2]
  refine Go.st (T' := T42.setTop (mkF m 258 #[.val (.long q1), .second, .val (.int p3), .val (.long q4), .second, .val (.int p6), .val (.long (Int64.ofNat nv)), .second, .val (.int jc), .val (.ref b8), .val (.int (Int32.ofNat ne)), .val (.int (Int32.ofNat (own_st cs0 ne nv 4).2.1)), .val (.long (Int64.ofNat (own_st cs0 ne nv 4).2.2)), .second, .unset, .unset, .unset] [])) (fun zt zk => XS.lstore X42.here hx rfl (hb hby at_256) rfl (l' := #[.val (.long q1), .second, .val (.int p3), .val (.long q4), .second, .val (.int p6), .val (.long (Int64.ofNat nv)), .second, .val (.int jc), .val (.ref b8), .val (.int (Int32.ofNat ne)), .val (.int (Int32.ofNat (own_st cs0 ne nv 4).2.1)), .val (.long (Int64.ofNat (own_st cs0 ne nv 4).2.2)), .second, .unset, .unset, .unset]) rfl zk) ?_
  refine Go.st (T' := T42.setTop (mkF m 260 #[.val (.long q1), .second, .val (.int p3), .val (.long q4), .second, .val (.int p6), .val (.long (Int64.ofNat nv)), .second, .val (.int jc), .val (.ref b8), .val (.int (Int32.ofNat ne)), .val (.int (Int32.ofNat (own_st cs0 ne nv 4).2.1)), .val (.long (Int64.ofNat (own_st cs0 ne nv 4).2.2)), .second, .unset, .unset, .unset] [(.ref b8)])) (fun zt zk => XS.aload X42.here hx rfl (hb hby at_258) rfl rfl zk) ?_
  refine Go.st (T' := T42.setTop (mkF m 262 #[.val (.long q1), .second, .val (.int p3), .val (.long q4), .second, .val (.int p6), .val (.long (Int64.ofNat nv)), .second, .val (.int jc), .val (.ref b8), .val (.int (Int32.ofNat ne)), .val (.int (Int32.ofNat (own_st cs0 ne nv 4).2.1)), .val (.long (Int64.ofNat (own_st cs0 ne nv 4).2.2)), .second, .unset, .unset, .unset] [(.int (Int32.ofNat (own_st cs0 ne nv 4).2.1)), (.ref b8)])) (fun zt zk => XS.iload X42.here hx rfl (hb hby at_260) rfl zk) ?_
  refine Go.st (T' := T42.setTop (mkF m 264 #[.val (.long q1), .second, .val (.int p3), .val (.long q4), .second, .val (.int p6), .val (.long (Int64.ofNat nv)), .second, .val (.int jc), .val (.ref b8), .val (.int (Int32.ofNat ne)), .val (.int (Int32.ofNat (own_st cs0 ne nv 4).2.1)), .val (.long (Int64.ofNat (own_st cs0 ne nv 4).2.2)), .second, .unset, .unset, .unset] [(.long (Int64.ofNat (own_st cs0 ne nv 4).2.2)), (.int (Int32.ofNat (own_st cs0 ne nv 4).2.1)), (.ref b8)])) (fun zt zk => XS.lload X42.here hx rfl (hb hby at_262) rfl zk) ?_
  obtain ⟨vr45, _, ⟨T45, L45, k45, n45⟩, -, X45, ⟨Lc45, hQ45, l45, y45, z45⟩, st45⟩ := Jvm.LawKit.callS X42 hx (y := (⟨"com/example/beaulieu/beaulieu/model/DecimalParsePositivePinLaw", "put", "([CIJ)I"⟩ : MethodName)) hown (mvT hZ (hw _ (List.mem_of_getElem? (i := 6) rfl))) (mvT hZ (hw _ (List.mem_of_getElem? (i := 7) rfl))) (mvT hZ (hw _ (List.mem_of_getElem? (i := 8) rfl))) (mvT hZ (hw _ (List.mem_of_getElem? (i := 9) rfl))) (by decide) (backOf (W := 0) (rm2 l Z a0 hw b8 (own_st cs0 ne nv 4).2.1 (own_st cs0 ne nv 4).2.2 (own_st cs0 ne nv 4).1 k8 T42.heap n0 (Nat.le_trans Z0 KK43.1) Vq42 ((own_len cs0 ne nv 4).trans hl0) (own_stlt cs0 ne nv 4 hv2) (own_hi cs0 ne nv 4 hne1 hne2 (by decide)) g_b8) hZ (hw _ (List.mem_of_getElem? (i := 9) rfl)) (hw _ (List.mem_of_getElem? (i := 8) rfl)) (by decide) (by decide)) (g := (mkF m 264 #[.val (.long q1), .second, .val (.int p3), .val (.long q4), .second, .val (.int p6), .val (.long (Int64.ofNat nv)), .second, .val (.int jc), .val (.ref b8), .val (.int (Int32.ofNat ne)), .val (.int (Int32.ofNat (own_st cs0 ne nv 4).2.1)), .val (.long (Int64.ofNat (own_st cs0 ne nv 4).2.2)), .second, .unset, .unset, .unset] [(.long (Int64.ofNat (own_st cs0 ne nv 4).2.2)), (.int (Int32.ofNat (own_st cs0 ne nv 4).2.1)), (.ref b8)])) rfl (by rw [hml]; rfl) (argsL := [(.ref b8), (.int (Int32.ofNat (own_st cs0 ne nv 4).2.1)), (.long (Int64.ofNat (own_st cs0 ne nv 4).2.2))]) (rest := []) (lenOf pd_5e17a0d rfl) rfl (by show 2 * 0 + _ ≤ _; exact Nat.le_of_eq rfl) (hb hby at_264) (fun _ _ => ⟨rfl, rfl, (by decide : 1 + 0 ≤ _), (by decide : 23 + 0 ≤ _)⟩)
  dsimp only [Pt.U, Pt.locs, Pt.cells, Pt.slots] at X45 l45 y45 z45 st45 hQ45
  subst l45 y45 z45
  obtain ⟨rfl, Nq45, Kq45, Vq45⟩ := hQ45
  have KK46 : Keep h0 T45.heap [] := KK43.trans Kq45 (allS (Or.inr sz_b8) all0)
  have NN47 := Fr.app NN44 Nq45
  rw [own_stc cs0 ne nv 4 5 rfl] at Vq45
  refine Go.st (T' := T45.setTop (mkF m 267 #[.val (.long q1), .second, .val (.int p3), .val (.long q4), .second, .val (.int p6), .val (.long (Int64.ofNat nv)), .second, .val (.int jc), .val (.ref b8), .val (.int (Int32.ofNat ne)), .val (.int (Int32.ofNat (own_st cs0 ne nv 4).2.1)), .val (.long (Int64.ofNat (own_st cs0 ne nv 4).2.2)), .second, .unset, .unset, .unset] [(.int (Int32.ofNat (own_pi (own_st cs0 ne nv 4).2.1 (own_st cs0 ne nv 4).2.2)))])) (fun zt zk => st45 zt zk) ?_
  rw [own_sti cs0 ne nv 4 5 rfl]
  refine Go.st (T' := T45.setTop (mkF m 269 #[.val (.long q1), .second, .val (.int p3), .val (.long q4), .second, .val (.int p6), .val (.long (Int64.ofNat nv)), .second, .val (.int jc), .val (.ref b8), .val (.int (Int32.ofNat ne)), .val (.int (Int32.ofNat (own_st cs0 ne nv 5).2.1)), .val (.long (Int64.ofNat (own_st cs0 ne nv 4).2.2)), .second, .unset, .unset, .unset] [])) (fun zt zk => XS.istore X45.here hx rfl (hb hby at_267) rfl (l' := #[.val (.long q1), .second, .val (.int p3), .val (.long q4), .second, .val (.int p6), .val (.long (Int64.ofNat nv)), .second, .val (.int jc), .val (.ref b8), .val (.int (Int32.ofNat ne)), .val (.int (Int32.ofNat (own_st cs0 ne nv 5).2.1)), .val (.long (Int64.ofNat (own_st cs0 ne nv 4).2.2)), .second, .unset, .unset, .unset]) rfl zk) ?_
  refine Go.st (T' := T45.setTop (mkF m 271 #[.val (.long q1), .second, .val (.int p3), .val (.long q4), .second, .val (.int p6), .val (.long (Int64.ofNat nv)), .second, .val (.int jc), .val (.ref b8), .val (.int (Int32.ofNat ne)), .val (.int (Int32.ofNat (own_st cs0 ne nv 5).2.1)), .val (.long (Int64.ofNat (own_st cs0 ne nv 4).2.2)), .second, .unset, .unset, .unset] [(.long (Int64.ofNat (own_st cs0 ne nv 4).2.2))])) (fun zt zk => XS.lload X45.here hx rfl (hb hby at_269) rfl zk) ?_
  refine Go.st (T' := T45.setTop (mkF m 274 #[.val (.long q1), .second, .val (.int p3), .val (.long q4), .second, .val (.int p6), .val (.long (Int64.ofNat nv)), .second, .val (.int jc), .val (.ref b8), .val (.int (Int32.ofNat ne)), .val (.int (Int32.ofNat (own_st cs0 ne nv 5).2.1)), .val (.long (Int64.ofNat (own_st cs0 ne nv 4).2.2)), .second, .unset, .unset, .unset] [(.long (10 : Int64)), (.long (Int64.ofNat (own_st cs0 ne nv 4).2.2))])) (fun zt zk => X45.ldc2Long hx hown (mvT hZ (hw _ (List.mem_of_getElem? (i := 10) rfl))) (g := (mkF m 271 #[.val (.long q1), .second, .val (.int p3), .val (.long q4), .second, .val (.int p6), .val (.long (Int64.ofNat nv)), .second, .val (.int jc), .val (.ref b8), .val (.int (Int32.ofNat ne)), .val (.int (Int32.ofNat (own_st cs0 ne nv 5).2.1)), .val (.long (Int64.ofNat (own_st cs0 ne nv 4).2.2)), .second, .unset, .unset, .unset] [(.long (Int64.ofNat (own_st cs0 ne nv 4).2.2))])) rfl (hb hby at_271) zt zk) ?_
  refine Go.st (T' := T45.setTop (mkF m 275 #[.val (.long q1), .second, .val (.int p3), .val (.long q4), .second, .val (.int p6), .val (.long (Int64.ofNat nv)), .second, .val (.int jc), .val (.ref b8), .val (.int (Int32.ofNat ne)), .val (.int (Int32.ofNat (own_st cs0 ne nv 5).2.1)), .val (.long (Int64.ofNat (own_st cs0 ne nv 4).2.2)), .second, .unset, .unset, .unset] [(.long ((Int64.ofNat (own_st cs0 ne nv 4).2.2) / (10 : Int64)))])) (fun zt zk => XS.ldiv X45.here hx rfl (hb hby at_274) rfl (by decide) zk) ?_
  rw [own_stw cs0 ne nv 4 5 rfl hv2]
  refine Go.st (T' := T45.setTop (mkF m 277 #[.val (.long q1), .second, .val (.int p3), .val (.long q4), .second, .val (.int p6), .val (.long (Int64.ofNat nv)), .second, .val (.int jc), .val (.ref b8), .val (.int (Int32.ofNat ne)), .val (.int (Int32.ofNat (own_st cs0 ne nv 5).2.1)), .val (.long (Int64.ofNat (own_st cs0 ne nv 5).2.2)), .second, .unset, .unset, .unset] [])) (fun zt zk => XS.lstore X45.here hx rfl (hb hby at_275) rfl (l' := #[.val (.long q1), .second, .val (.int p3), .val (.long q4), .second, .val (.int p6), .val (.long (Int64.ofNat nv)), .second, .val (.int jc), .val (.ref b8), .val (.int (Int32.ofNat ne)), .val (.int (Int32.ofNat (own_st cs0 ne nv 5).2.1)), .val (.long (Int64.ofNat (own_st cs0 ne nv 5).2.2)), .second, .unset, .unset, .unset]) rfl zk) ?_
  refine Go.st (T' := T45.setTop (mkF m 279 #[.val (.long q1), .second, .val (.int p3), .val (.long q4), .second, .val (.int p6), .val (.long (Int64.ofNat nv)), .second, .val (.int jc), .val (.ref b8), .val (.int (Int32.ofNat ne)), .val (.int (Int32.ofNat (own_st cs0 ne nv 5).2.1)), .val (.long (Int64.ofNat (own_st cs0 ne nv 5).2.2)), .second, .unset, .unset, .unset] [(.ref b8)])) (fun zt zk => XS.aload X45.here hx rfl (hb hby at_277) rfl rfl zk) ?_
  refine Go.st (T' := T45.setTop (mkF m 281 #[.val (.long q1), .second, .val (.int p3), .val (.long q4), .second, .val (.int p6), .val (.long (Int64.ofNat nv)), .second, .val (.int jc), .val (.ref b8), .val (.int (Int32.ofNat ne)), .val (.int (Int32.ofNat (own_st cs0 ne nv 5).2.1)), .val (.long (Int64.ofNat (own_st cs0 ne nv 5).2.2)), .second, .unset, .unset, .unset] [(.int (Int32.ofNat (own_st cs0 ne nv 5).2.1)), (.ref b8)])) (fun zt zk => XS.iload X45.here hx rfl (hb hby at_279) rfl zk) ?_
  refine Go.st (T' := T45.setTop (mkF m 283 #[.val (.long q1), .second, .val (.int p3), .val (.long q4), .second, .val (.int p6), .val (.long (Int64.ofNat nv)), .second, .val (.int jc), .val (.ref b8), .val (.int (Int32.ofNat ne)), .val (.int (Int32.ofNat (own_st cs0 ne nv 5).2.1)), .val (.long (Int64.ofNat (own_st cs0 ne nv 5).2.2)), .second, .unset, .unset, .unset] [(.long (Int64.ofNat (own_st cs0 ne nv 5).2.2)), (.int (Int32.ofNat (own_st cs0 ne nv 5).2.1)), (.ref b8)])) (fun zt zk => XS.lload X45.here hx rfl (hb hby at_281) rfl zk) ?_
  obtain ⟨vr48, _, ⟨T48, L48, k48, n48⟩, -, X48, ⟨Lc48, hQ48, l48, y48, z48⟩, st48⟩ := Jvm.LawKit.callS X45 hx (y := (⟨"com/example/beaulieu/beaulieu/model/DecimalParsePositivePinLaw", "put", "([CIJ)I"⟩ : MethodName)) hown (mvT hZ (hw _ (List.mem_of_getElem? (i := 6) rfl))) (mvT hZ (hw _ (List.mem_of_getElem? (i := 7) rfl))) (mvT hZ (hw _ (List.mem_of_getElem? (i := 8) rfl))) (mvT hZ (hw _ (List.mem_of_getElem? (i := 9) rfl))) (by decide) (backOf (W := 0) (rm2 l Z a0 hw b8 (own_st cs0 ne nv 5).2.1 (own_st cs0 ne nv 5).2.2 (own_st cs0 ne nv 5).1 k8 T45.heap n0 (Nat.le_trans Z0 KK46.1) Vq45 ((own_len cs0 ne nv 5).trans hl0) (own_stlt cs0 ne nv 5 hv2) (own_hi cs0 ne nv 5 hne1 hne2 (by decide)) g_b8) hZ (hw _ (List.mem_of_getElem? (i := 9) rfl)) (hw _ (List.mem_of_getElem? (i := 8) rfl)) (by decide) (by decide)) (g := (mkF m 283 #[.val (.long q1), .second, .val (.int p3), .val (.long q4), .second, .val (.int p6), .val (.long (Int64.ofNat nv)), .second, .val (.int jc), .val (.ref b8), .val (.int (Int32.ofNat ne)), .val (.int (Int32.ofNat (own_st cs0 ne nv 5).2.1)), .val (.long (Int64.ofNat (own_st cs0 ne nv 5).2.2)), .second, .unset, .unset, .unset] [(.long (Int64.ofNat (own_st cs0 ne nv 5).2.2)), (.int (Int32.ofNat (own_st cs0 ne nv 5).2.1)), (.ref b8)])) rfl (by rw [hml]; rfl) (argsL := [(.ref b8), (.int (Int32.ofNat (own_st cs0 ne nv 5).2.1)), (.long (Int64.ofNat (own_st cs0 ne nv 5).2.2))]) (rest := []) (lenOf pd_5e17a0d rfl) rfl (by show 2 * 0 + _ ≤ _; exact Nat.le_of_eq rfl) (hb hby at_283) (fun _ _ => ⟨rfl, rfl, (by decide : 1 + 0 ≤ _), (by decide : 23 + 0 ≤ _)⟩)
  dsimp only [Pt.U, Pt.locs, Pt.cells, Pt.slots] at X48 l48 y48 z48 st48 hQ48
  subst l48 y48 z48
  obtain ⟨rfl, Nq48, Kq48, Vq48⟩ := hQ48
  have KK49 : Keep h0 T48.heap [] := KK46.trans Kq48 (allS (Or.inr sz_b8) all0)
  have NN50 := Fr.app NN47 Nq48
  rw [own_stc cs0 ne nv 5 6 rfl] at Vq48
  refine Go.st (T' := T48.setTop (mkF m 286 #[.val (.long q1), .second, .val (.int p3), .val (.long q4), .second, .val (.int p6), .val (.long (Int64.ofNat nv)), .second, .val (.int jc), .val (.ref b8), .val (.int (Int32.ofNat ne)), .val (.int (Int32.ofNat (own_st cs0 ne nv 5).2.1)), .val (.long (Int64.ofNat (own_st cs0 ne nv 5).2.2)), .second, .unset, .unset, .unset] [(.int (Int32.ofNat (own_pi (own_st cs0 ne nv 5).2.1 (own_st cs0 ne nv 5).2.2)))])) (fun zt zk => st48 zt zk) ?_
  rw [own_sti cs0 ne nv 5 6 rfl]
  refine Go.st (T' := T48.setTop (mkF m 288 #[.val (.long q1), .second, .val (.int p3), .val (.long q4), .second, .val (.int p6), .val (.long (Int64.ofNat nv)), .second, .val (.int jc), .val (.ref b8), .val (.int (Int32.ofNat ne)), .val (.int (Int32.ofNat (own_st cs0 ne nv 6).2.1)), .val (.long (Int64.ofNat (own_st cs0 ne nv 5).2.2)), .second, .unset, .unset, .unset] [])) (fun zt zk => XS.istore X48.here hx rfl (hb hby at_286) rfl (l' := #[.val (.long q1), .second, .val (.int p3), .val (.long q4), .second, .val (.int p6), .val (.long (Int64.ofNat nv)), .second, .val (.int jc), .val (.ref b8), .val (.int (Int32.ofNat ne)), .val (.int (Int32.ofNat (own_st cs0 ne nv 6).2.1)), .val (.long (Int64.ofNat (own_st cs0 ne nv 5).2.2)), .second, .unset, .unset, .unset]) rfl zk) ?_
  refine Go.st (T' := T48.setTop (mkF m 290 #[.val (.long q1), .second, .val (.int p3), .val (.long q4), .second, .val (.int p6), .val (.long (Int64.ofNat nv)), .second, .val (.int jc), .val (.ref b8), .val (.int (Int32.ofNat ne)), .val (.int (Int32.ofNat (own_st cs0 ne nv 6).2.1)), .val (.long (Int64.ofNat (own_st cs0 ne nv 5).2.2)), .second, .unset, .unset, .unset] [(.long (Int64.ofNat (own_st cs0 ne nv 5).2.2))])) (fun zt zk => XS.lload X48.here hx rfl (hb hby at_288) rfl zk) ?_
  refine Go.st (T' := T48.setTop (mkF m 293 #[.val (.long q1), .second, .val (.int p3), .val (.long q4), .second, .val (.int p6), .val (.long (Int64.ofNat nv)), .second, .val (.int jc), .val (.ref b8), .val (.int (Int32.ofNat ne)), .val (.int (Int32.ofNat (own_st cs0 ne nv 6).2.1)), .val (.long (Int64.ofNat (own_st cs0 ne nv 5).2.2)), .second, .unset, .unset, .unset] [(.long (10 : Int64)), (.long (Int64.ofNat (own_st cs0 ne nv 5).2.2))])) (fun zt zk => X48.ldc2Long hx hown (mvT hZ (hw _ (List.mem_of_getElem? (i := 10) rfl))) (g := (mkF m 290 #[.val (.long q1), .second, .val (.int p3), .val (.long q4), .second, .val (.int p6), .val (.long (Int64.ofNat nv)), .second, .val (.int jc), .val (.ref b8), .val (.int (Int32.ofNat ne)), .val (.int (Int32.ofNat (own_st cs0 ne nv 6).2.1)), .val (.long (Int64.ofNat (own_st cs0 ne nv 5).2.2)), .second, .unset, .unset, .unset] [(.long (Int64.ofNat (own_st cs0 ne nv 5).2.2))])) rfl (hb hby at_290) zt zk) ?_
  refine Go.st (T' := T48.setTop (mkF m 294 #[.val (.long q1), .second, .val (.int p3), .val (.long q4), .second, .val (.int p6), .val (.long (Int64.ofNat nv)), .second, .val (.int jc), .val (.ref b8), .val (.int (Int32.ofNat ne)), .val (.int (Int32.ofNat (own_st cs0 ne nv 6).2.1)), .val (.long (Int64.ofNat (own_st cs0 ne nv 5).2.2)), .second, .unset, .unset, .unset] [(.long ((Int64.ofNat (own_st cs0 ne nv 5).2.2) / (10 : Int64)))])) (fun zt zk => XS.ldiv X48.here hx rfl (hb hby at_293) rfl (by decide) zk) ?_
  rw [own_stw cs0 ne nv 5 6 rfl hv2]
  refine Go.st (T' := T48.setTop (mkF m 296 #[.val (.long q1), .second, .val (.int p3), .val (.long q4), .second, .val (.int p6), .val (.long (Int64.ofNat nv)), .second, .val (.int jc), .val (.ref b8), .val (.int (Int32.ofNat ne)), .val (.int (Int32.ofNat (own_st cs0 ne nv 6).2.1)), .val (.long (Int64.ofNat (own_st cs0 ne nv 6).2.2)), .second, .unset, .unset, .unset] [])) (fun zt zk => XS.lstore X48.here hx rfl (hb hby at_294) rfl (l' := #[.val (.long q1), .second, .val (.int p3), .val (.long q4), .second, .val (.int p6), .val (.long (Int64.ofNat nv)), .second, .val (.int jc), .val (.ref b8), .val (.int (Int32.ofNat ne)), .val (.int (Int32.ofNat (own_st cs0 ne nv 6).2.1)), .val (.long (Int64.ofNat (own_st cs0 ne nv 6).2.2)), .second, .unset, .unset, .unset]) rfl zk) ?_
  refine Go.st (T' := T48.setTop (mkF m 298 #[.val (.long q1), .second, .val (.int p3), .val (.long q4), .second, .val (.int p6), .val (.long (Int64.ofNat nv)), .second, .val (.int jc), .val (.ref b8), .val (.int (Int32.ofNat ne)), .val (.int (Int32.ofNat (own_st cs0 ne nv 6).2.1)), .val (.long (Int64.ofNat (own_st cs0 ne nv 6).2.2)), .second, .unset, .unset, .unset] [(.ref b8)])) (fun zt zk => XS.aload X48.here hx rfl (hb hby at_296) rfl rfl zk) ?_
  refine Go.st (T' := T48.setTop (mkF m 300 #[.val (.long q1), .second, .val (.int p3), .val (.long q4), .second, .val (.int p6), .val (.long (Int64.ofNat nv)), .second, .val (.int jc), .val (.ref b8), .val (.int (Int32.ofNat ne)), .val (.int (Int32.ofNat (own_st cs0 ne nv 6).2.1)), .val (.long (Int64.ofNat (own_st cs0 ne nv 6).2.2)), .second, .unset, .unset, .unset] [(.int (Int32.ofNat (own_st cs0 ne nv 6).2.1)), (.ref b8)])) (fun zt zk => XS.iload X48.here hx rfl (hb hby at_298) rfl zk) ?_
  refine Go.st (T' := T48.setTop (mkF m 302 #[.val (.long q1), .second, .val (.int p3), .val (.long q4), .second, .val (.int p6), .val (.long (Int64.ofNat nv)), .second, .val (.int jc), .val (.ref b8), .val (.int (Int32.ofNat ne)), .val (.int (Int32.ofNat (own_st cs0 ne nv 6).2.1)), .val (.long (Int64.ofNat (own_st cs0 ne nv 6).2.2)), .second, .unset, .unset, .unset] [(.long (Int64.ofNat (own_st cs0 ne nv 6).2.2)), (.int (Int32.ofNat (own_st cs0 ne nv 6).2.1)), (.ref b8)])) (fun zt zk => XS.lload X48.here hx rfl (hb hby at_300) rfl zk) ?_
  obtain ⟨vr51, _, ⟨T51, L51, k51, n51⟩, -, X51, ⟨Lc51, hQ51, l51, y51, z51⟩, st51⟩ := Jvm.LawKit.callS X48 hx (y := (⟨"com/example/beaulieu/beaulieu/model/DecimalParsePositivePinLaw", "put", "([CIJ)I"⟩ : MethodName)) hown (mvT hZ (hw _ (List.mem_of_getElem? (i := 6) rfl))) (mvT hZ (hw _ (List.mem_of_getElem? (i := 7) rfl))) (mvT hZ (hw _ (List.mem_of_getElem? (i := 8) rfl))) (mvT hZ (hw _ (List.mem_of_getElem? (i := 9) rfl))) (by decide) (backOf (W := 0) (rm2 l Z a0 hw b8 (own_st cs0 ne nv 6).2.1 (own_st cs0 ne nv 6).2.2 (own_st cs0 ne nv 6).1 k8 T48.heap n0 (Nat.le_trans Z0 KK49.1) Vq48 ((own_len cs0 ne nv 6).trans hl0) (own_stlt cs0 ne nv 6 hv2) (own_hi cs0 ne nv 6 hne1 hne2 (by decide)) g_b8) hZ (hw _ (List.mem_of_getElem? (i := 9) rfl)) (hw _ (List.mem_of_getElem? (i := 8) rfl)) (by decide) (by decide)) (g := (mkF m 302 #[.val (.long q1), .second, .val (.int p3), .val (.long q4), .second, .val (.int p6), .val (.long (Int64.ofNat nv)), .second, .val (.int jc), .val (.ref b8), .val (.int (Int32.ofNat ne)), .val (.int (Int32.ofNat (own_st cs0 ne nv 6).2.1)), .val (.long (Int64.ofNat (own_st cs0 ne nv 6).2.2)), .second, .unset, .unset, .unset] [(.long (Int64.ofNat (own_st cs0 ne nv 6).2.2)), (.int (Int32.ofNat (own_st cs0 ne nv 6).2.1)), (.ref b8)])) rfl (by rw [hml]; rfl) (argsL := [(.ref b8), (.int (Int32.ofNat (own_st cs0 ne nv 6).2.1)), (.long (Int64.ofNat (own_st cs0 ne nv 6).2.2))]) (rest := []) (lenOf pd_5e17a0d rfl) rfl (by show 2 * 0 + _ ≤ _; exact Nat.le_of_eq rfl) (hb hby at_302) (fun _ _ => ⟨rfl, rfl, (by decide : 1 + 0 ≤ _), (by decide : 23 + 0 ≤ _)⟩)
  dsimp only [Pt.U, Pt.locs, Pt.cells, Pt.slots] at X51 l51 y51 z51 st51 hQ51
  subst l51 y51 z51
  obtain ⟨rfl, Nq51, Kq51, Vq51⟩ := hQ51
  have KK52 : Keep h0 T51.heap [] := KK49.trans Kq51 (allS (Or.inr sz_b8) all0)
  have NN53 := Fr.app NN50 Nq51
  rw [own_stc cs0 ne nv 6 7 rfl] at Vq51
  refine Go.st (T' := T51.setTop (mkF m 305 #[.val (.long q1), .second, .val (.int p3), .val (.long q4), .second, .val (.int p6), .val (.long (Int64.ofNat nv)), .second, .val (.int jc), .val (.ref b8), .val (.int (Int32.ofNat ne)), .val (.int (Int32.ofNat (own_st cs0 ne nv 6).2.1)), .val (.long (Int64.ofNat (own_st cs0 ne nv 6).2.2)), .second, .unset, .unset, .unset] [(.int (Int32.ofNat (own_pi (own_st cs0 ne nv 6).2.1 (own_st cs0 ne nv 6).2.2)))])) (fun zt zk => st51 zt zk) ?_
  rw [own_sti cs0 ne nv 6 7 rfl]
  refine Go.st (T' := T51.setTop (mkF m 307 #[.val (.long q1), .second, .val (.int p3), .val (.long q4), .second, .val (.int p6), .val (.long (Int64.ofNat nv)), .second, .val (.int jc), .val (.ref b8), .val (.int (Int32.ofNat ne)), .val (.int (Int32.ofNat (own_st cs0 ne nv 7).2.1)), .val (.long (Int64.ofNat (own_st cs0 ne nv 6).2.2)), .second, .unset, .unset, .unset] [])) (fun zt zk => XS.istore X51.here hx rfl (hb hby at_305) rfl (l' := #[.val (.long q1), .second, .val (.int p3), .val (.long q4), .second, .val (.int p6), .val (.long (Int64.ofNat nv)), .second, .val (.int jc), .val (.ref b8), .val (.int (Int32.ofNat ne)), .val (.int (Int32.ofNat (own_st cs0 ne nv 7).2.1)), .val (.long (Int64.ofNat (own_st cs0 ne nv 6).2.2)), .second, .unset, .unset, .unset]) rfl zk) ?_
  refine Go.st (T' := T51.setTop (mkF m 309 #[.val (.long q1), .second, .val (.int p3), .val (.long q4), .second, .val (.int p6), .val (.long (Int64.ofNat nv)), .second, .val (.int jc), .val (.ref b8), .val (.int (Int32.ofNat ne)), .val (.int (Int32.ofNat (own_st cs0 ne nv 7).2.1)), .val (.long (Int64.ofNat (own_st cs0 ne nv 6).2.2)), .second, .unset, .unset, .unset] [(.long (Int64.ofNat (own_st cs0 ne nv 6).2.2))])) (fun zt zk => XS.lload X51.here hx rfl (hb hby at_307) rfl zk) ?_
  refine Go.st (T' := T51.setTop (mkF m 312 #[.val (.long q1), .second, .val (.int p3), .val (.long q4), .second, .val (.int p6), .val (.long (Int64.ofNat nv)), .second, .val (.int jc), .val (.ref b8), .val (.int (Int32.ofNat ne)), .val (.int (Int32.ofNat (own_st cs0 ne nv 7).2.1)), .val (.long (Int64.ofNat (own_st cs0 ne nv 6).2.2)), .second, .unset, .unset, .unset] [(.long (10 : Int64)), (.long (Int64.ofNat (own_st cs0 ne nv 6).2.2))])) (fun zt zk => X51.ldc2Long hx hown (mvT hZ (hw _ (List.mem_of_getElem? (i := 10) rfl))) (g := (mkF m 309 #[.val (.long q1), .second, .val (.int p3), .val (.long q4), .second, .val (.int p6), .val (.long (Int64.ofNat nv)), .second, .val (.int jc), .val (.ref b8), .val (.int (Int32.ofNat ne)), .val (.int (Int32.ofNat (own_st cs0 ne nv 7).2.1)), .val (.long (Int64.ofNat (own_st cs0 ne nv 6).2.2)), .second, .unset, .unset, .unset] [(.long (Int64.ofNat (own_st cs0 ne nv 6).2.2))])) rfl (hb hby at_309) zt zk) ?_
  refine Go.st (T' := T51.setTop (mkF m 313 #[.val (.long q1), .second, .val (.int p3), .val (.long q4), .second, .val (.int p6), .val (.long (Int64.ofNat nv)), .second, .val (.int jc), .val (.ref b8), .val (.int (Int32.ofNat ne)), .val (.int (Int32.ofNat (own_st cs0 ne nv 7).2.1)), .val (.long (Int64.ofNat (own_st cs0 ne nv 6).2.2)), .second, .unset, .unset, .unset] [(.long ((Int64.ofNat (own_st cs0 ne nv 6).2.2) / (10 : Int64)))])) (fun zt zk => XS.ldiv X51.here hx rfl (hb hby at_312) rfl (by decide) zk) ?_
  rw [own_stw cs0 ne nv 6 7 rfl hv2]
  refine Go.st (T' := T51.setTop (mkF m 315 #[.val (.long q1), .second, .val (.int p3), .val (.long q4), .second, .val (.int p6), .val (.long (Int64.ofNat nv)), .second, .val (.int jc), .val (.ref b8), .val (.int (Int32.ofNat ne)), .val (.int (Int32.ofNat (own_st cs0 ne nv 7).2.1)), .val (.long (Int64.ofNat (own_st cs0 ne nv 7).2.2)), .second, .unset, .unset, .unset] [])) (fun zt zk => XS.lstore X51.here hx rfl (hb hby at_313) rfl (l' := #[.val (.long q1), .second, .val (.int p3), .val (.long q4), .second, .val (.int p6), .val (.long (Int64.ofNat nv)), .second, .val (.int jc), .val (.ref b8), .val (.int (Int32.ofNat ne)), .val (.int (Int32.ofNat (own_st cs0 ne nv 7).2.1)), .val (.long (Int64.ofNat (own_st cs0 ne nv 7).2.2)), .second, .unset, .unset, .unset]) rfl zk) ?_
  refine Go.st (T' := T51.setTop (mkF m 317 #[.val (.long q1), .second, .val (.int p3), .val (.long q4), .second, .val (.int p6), .val (.long (Int64.ofNat nv)), .second, .val (.int jc), .val (.ref b8), .val (.int (Int32.ofNat ne)), .val (.int (Int32.ofNat (own_st cs0 ne nv 7).2.1)), .val (.long (Int64.ofNat (own_st cs0 ne nv 7).2.2)), .second, .unset, .unset, .unset] [(.ref b8)])) (fun zt zk => XS.aload X51.here hx rfl (hb hby at_315) rfl rfl zk) ?_
  refine Go.st (T' := T51.setTop (mkF m 319 #[.val (.long q1), .second, .val (.int p3), .val (.long q4), .second, .val (.int p6), .val (.long (Int64.ofNat nv)), .second, .val (.int jc), .val (.ref b8), .val (.int (Int32.ofNat ne)), .val (.int (Int32.ofNat (own_st cs0 ne nv 7).2.1)), .val (.long (Int64.ofNat (own_st cs0 ne nv 7).2.2)), .second, .unset, .unset, .unset] [(.int (Int32.ofNat (own_st cs0 ne nv 7).2.1)), (.ref b8)])) (fun zt zk => XS.iload X51.here hx rfl (hb hby at_317) rfl zk) ?_
  refine Go.st (T' := T51.setTop (mkF m 321 #[.val (.long q1), .second, .val (.int p3), .val (.long q4), .second, .val (.int p6), .val (.long (Int64.ofNat nv)), .second, .val (.int jc), .val (.ref b8), .val (.int (Int32.ofNat ne)), .val (.int (Int32.ofNat (own_st cs0 ne nv 7).2.1)), .val (.long (Int64.ofNat (own_st cs0 ne nv 7).2.2)), .second, .unset, .unset, .unset] [(.long (Int64.ofNat (own_st cs0 ne nv 7).2.2)), (.int (Int32.ofNat (own_st cs0 ne nv 7).2.1)), (.ref b8)])) (fun zt zk => XS.lload X51.here hx rfl (hb hby at_319) rfl zk) ?_
  obtain ⟨LX54, XX54, NX54⟩ : ∃ LX, Stand p l e room_1 s m #[(.long q1), (.int p3), (.long q4), (.int p6)] below meth c T51 LX 1 23 ∧ Fr n0 LX := ⟨_, X51, NN53⟩
  obtain ⟨vr55, _, ⟨T55, L55, k55, n55⟩, -, X55, ⟨Lc55, hQ55, l55, y55, z55⟩, st55⟩ := Jvm.LawKit.callS XX54 hx (y := (⟨"com/example/beaulieu/beaulieu/model/DecimalParsePositivePinLaw", "put", "([CIJ)I"⟩ : MethodName)) hown (mvT hZ (hw _ (List.mem_of_getElem? (i := 6) rfl))) (mvT hZ (hw _ (List.mem_of_getElem? (i := 7) rfl))) (mvT hZ (hw _ (List.mem_of_getElem? (i := 8) rfl))) (mvT hZ (hw _ (List.mem_of_getElem? (i := 9) rfl))) (by decide) (backOf (W := 0) (rm2 l Z a0 hw b8 (own_st cs0 ne nv 7).2.1 (own_st cs0 ne nv 7).2.2 (own_st cs0 ne nv 7).1 k8 T51.heap n0 (Nat.le_trans Z0 KK52.1) Vq51 ((own_len cs0 ne nv 7).trans hl0) (own_stlt cs0 ne nv 7 hv2) (own_hi cs0 ne nv 7 hne1 hne2 (by decide)) g_b8) hZ (hw _ (List.mem_of_getElem? (i := 9) rfl)) (hw _ (List.mem_of_getElem? (i := 8) rfl)) (by decide) (by decide)) (g := (mkF m 321 #[.val (.long q1), .second, .val (.int p3), .val (.long q4), .second, .val (.int p6), .val (.long (Int64.ofNat nv)), .second, .val (.int jc), .val (.ref b8), .val (.int (Int32.ofNat ne)), .val (.int (Int32.ofNat (own_st cs0 ne nv 7).2.1)), .val (.long (Int64.ofNat (own_st cs0 ne nv 7).2.2)), .second, .unset, .unset, .unset] [(.long (Int64.ofNat (own_st cs0 ne nv 7).2.2)), (.int (Int32.ofNat (own_st cs0 ne nv 7).2.1)), (.ref b8)])) rfl (by rw [hml]; rfl) (argsL := [(.ref b8), (.int (Int32.ofNat (own_st cs0 ne nv 7).2.1)), (.long (Int64.ofNat (own_st cs0 ne nv 7).2.2))]) (rest := []) (lenOf pd_5e17a0d rfl) rfl (by show 2 * 0 + _ ≤ _; exact Nat.le_of_eq rfl) (hb hby at_321) (fun _ _ => ⟨rfl, rfl, (by decide : 1 + 0 ≤ _), (by decide : 23 + 0 ≤ _)⟩)
  dsimp only [Pt.U, Pt.locs, Pt.cells, Pt.slots] at X55 l55 y55 z55 st55 hQ55
  subst l55 y55 z55
  obtain ⟨rfl, Nq55, Kq55, Vq55⟩ := hQ55
  have KK56 : Keep h0 T55.heap [] := KK52.trans Kq55 (allS (Or.inr sz_b8) all0)
  have NN57 := Fr.app NX54 Nq55
  rw [own_stc cs0 ne nv 7 8 rfl] at Vq55
  refine Go.st (T' := T55.setTop (mkF m 324 #[.val (.long q1), .second, .val (.int p3), .val (.long q4), .second, .val (.int p6), .val (.long (Int64.ofNat nv)), .second, .val (.int jc), .val (.ref b8), .val (.int (Int32.ofNat ne)), .val (.int (Int32.ofNat (own_st cs0 ne nv 7).2.1)), .val (.long (Int64.ofNat (own_st cs0 ne nv 7).2.2)), .second, .unset, .unset, .unset] [(.int (Int32.ofNat (own_pi (own_st cs0 ne nv 7).2.1 (own_st cs0 ne nv 7).2.2)))])) (fun zt zk => st55 zt zk) ?_
  rw [own_sti cs0 ne nv 7 8 rfl]
  refine Go.st (T' := T55.setTop (mkF m 326 #[.val (.long q1), .second, .val (.int p3), .val (.long q4), .second, .val (.int p6), .val (.long (Int64.ofNat nv)), .second, .val (.int jc), .val (.ref b8), .val (.int (Int32.ofNat ne)), .val (.int (Int32.ofNat (own_st cs0 ne nv 8).2.1)), .val (.long (Int64.ofNat (own_st cs0 ne nv 7).2.2)), .second, .unset, .unset, .unset] [])) (fun zt zk => XS.istore X55.here hx rfl (hb hby at_324) rfl (l' := #[.val (.long q1), .second, .val (.int p3), .val (.long q4), .second, .val (.int p6), .val (.long (Int64.ofNat nv)), .second, .val (.int jc), .val (.ref b8), .val (.int (Int32.ofNat ne)), .val (.int (Int32.ofNat (own_st cs0 ne nv 8).2.1)), .val (.long (Int64.ofNat (own_st cs0 ne nv 7).2.2)), .second, .unset, .unset, .unset]) rfl zk) ?_
  refine Go.st (T' := T55.setTop (mkF m 328 #[.val (.long q1), .second, .val (.int p3), .val (.long q4), .second, .val (.int p6), .val (.long (Int64.ofNat nv)), .second, .val (.int jc), .val (.ref b8), .val (.int (Int32.ofNat ne)), .val (.int (Int32.ofNat (own_st cs0 ne nv 8).2.1)), .val (.long (Int64.ofNat (own_st cs0 ne nv 7).2.2)), .second, .unset, .unset, .unset] [(.long (Int64.ofNat (own_st cs0 ne nv 7).2.2))])) (fun zt zk => XS.lload X55.here hx rfl (hb hby at_326) rfl zk) ?_
  refine Go.st (T' := T55.setTop (mkF m 331 #[.val (.long q1), .second, .val (.int p3), .val (.long q4), .second, .val (.int p6), .val (.long (Int64.ofNat nv)), .second, .val (.int jc), .val (.ref b8), .val (.int (Int32.ofNat ne)), .val (.int (Int32.ofNat (own_st cs0 ne nv 8).2.1)), .val (.long (Int64.ofNat (own_st cs0 ne nv 7).2.2)), .second, .unset, .unset, .unset] [(.long (10 : Int64)), (.long (Int64.ofNat (own_st cs0 ne nv 7).2.2))])) (fun zt zk => X55.ldc2Long hx hown (mvT hZ (hw _ (List.mem_of_getElem? (i := 10) rfl))) (g := (mkF m 328 #[.val (.long q1), .second, .val (.int p3), .val (.long q4), .second, .val (.int p6), .val (.long (Int64.ofNat nv)), .second, .val (.int jc), .val (.ref b8), .val (.int (Int32.ofNat ne)), .val (.int (Int32.ofNat (own_st cs0 ne nv 8).2.1)), .val (.long (Int64.ofNat (own_st cs0 ne nv 7).2.2)), .second, .unset, .unset, .unset] [(.long (Int64.ofNat (own_st cs0 ne nv 7).2.2))])) rfl (hb hby at_328) zt zk) ?_
  refine Go.st (T' := T55.setTop (mkF m 332 #[.val (.long q1), .second, .val (.int p3), .val (.long q4), .second, .val (.int p6), .val (.long (Int64.ofNat nv)), .second, .val (.int jc), .val (.ref b8), .val (.int (Int32.ofNat ne)), .val (.int (Int32.ofNat (own_st cs0 ne nv 8).2.1)), .val (.long (Int64.ofNat (own_st cs0 ne nv 7).2.2)), .second, .unset, .unset, .unset] [(.long ((Int64.ofNat (own_st cs0 ne nv 7).2.2) / (10 : Int64)))])) (fun zt zk => XS.ldiv X55.here hx rfl (hb hby at_331) rfl (by decide) zk) ?_
  rw [own_stw cs0 ne nv 7 8 rfl hv2]
  refine Go.st (T' := T55.setTop (mkF m 334 #[.val (.long q1), .second, .val (.int p3), .val (.long q4), .second, .val (.int p6), .val (.long (Int64.ofNat nv)), .second, .val (.int jc), .val (.ref b8), .val (.int (Int32.ofNat ne)), .val (.int (Int32.ofNat (own_st cs0 ne nv 8).2.1)), .val (.long (Int64.ofNat (own_st cs0 ne nv 8).2.2)), .second, .unset, .unset, .unset] [])) (fun zt zk => XS.lstore X55.here hx rfl (hb hby at_332) rfl (l' := #[.val (.long q1), .second, .val (.int p3), .val (.long q4), .second, .val (.int p6), .val (.long (Int64.ofNat nv)), .second, .val (.int jc), .val (.ref b8), .val (.int (Int32.ofNat ne)), .val (.int (Int32.ofNat (own_st cs0 ne nv 8).2.1)), .val (.long (Int64.ofNat (own_st cs0 ne nv 8).2.2)), .second, .unset, .unset, .unset]) rfl zk) ?_
  refine Go.st (T' := T55.setTop (mkF m 336 #[.val (.long q1), .second, .val (.int p3), .val (.long q4), .second, .val (.int p6), .val (.long (Int64.ofNat nv)), .second, .val (.int jc), .val (.ref b8), .val (.int (Int32.ofNat ne)), .val (.int (Int32.ofNat (own_st cs0 ne nv 8).2.1)), .val (.long (Int64.ofNat (own_st cs0 ne nv 8).2.2)), .second, .unset, .unset, .unset] [(.ref b8)])) (fun zt zk => XS.aload X55.here hx rfl (hb hby at_334) rfl rfl zk) ?_
  refine Go.st (T' := T55.setTop (mkF m 338 #[.val (.long q1), .second, .val (.int p3), .val (.long q4), .second, .val (.int p6), .val (.long (Int64.ofNat nv)), .second, .val (.int jc), .val (.ref b8), .val (.int (Int32.ofNat ne)), .val (.int (Int32.ofNat (own_st cs0 ne nv 8).2.1)), .val (.long (Int64.ofNat (own_st cs0 ne nv 8).2.2)), .second, .unset, .unset, .unset] [(.int (Int32.ofNat (own_st cs0 ne nv 8).2.1)), (.ref b8)])) (fun zt zk => XS.iload X55.here hx rfl (hb hby at_336) rfl zk) ?_
  refine Go.st (T' := T55.setTop (mkF m 340 #[.val (.long q1), .second, .val (.int p3), .val (.long q4), .second, .val (.int p6), .val (.long (Int64.ofNat nv)), .second, .val (.int jc), .val (.ref b8), .val (.int (Int32.ofNat ne)), .val (.int (Int32.ofNat (own_st cs0 ne nv 8).2.1)), .val (.long (Int64.ofNat (own_st cs0 ne nv 8).2.2)), .second, .unset, .unset, .unset] [(.long (Int64.ofNat (own_st cs0 ne nv 8).2.2)), (.int (Int32.ofNat (own_st cs0 ne nv 8).2.1)), (.ref b8)])) (fun zt zk => XS.lload X55.here hx rfl (hb hby at_338) rfl zk) ?_
  obtain ⟨vr58, _, ⟨T58, L58, k58, n58⟩, -, X58, ⟨Lc58, hQ58, l58, y58, z58⟩, st58⟩ := Jvm.LawKit.callS X55 hx (y := (⟨"com/example/beaulieu/beaulieu/model/DecimalParsePositivePinLaw", "put", "([CIJ)I"⟩ : MethodName)) hown (mvT hZ (hw _ (List.mem_of_getElem? (i := 6) rfl))) (mvT hZ (hw _ (List.mem_of_getElem? (i := 7) rfl))) (mvT hZ (hw _ (List.mem_of_getElem? (i := 8) rfl))) (mvT hZ (hw _ (List.mem_of_getElem? (i := 9) rfl))) (by decide) (backOf (W := 0) (rm2 l Z a0 hw b8 (own_st cs0 ne nv 8).2.1 (own_st cs0 ne nv 8).2.2 (own_st cs0 ne nv 8).1 k8 T55.heap n0 (Nat.le_trans Z0 KK56.1) Vq55 ((own_len cs0 ne nv 8).trans hl0) (own_stlt cs0 ne nv 8 hv2) (own_hi cs0 ne nv 8 hne1 hne2 (by decide)) g_b8) hZ (hw _ (List.mem_of_getElem? (i := 9) rfl)) (hw _ (List.mem_of_getElem? (i := 8) rfl)) (by decide) (by decide)) (g := (mkF m 340 #[.val (.long q1), .second, .val (.int p3), .val (.long q4), .second, .val (.int p6), .val (.long (Int64.ofNat nv)), .second, .val (.int jc), .val (.ref b8), .val (.int (Int32.ofNat ne)), .val (.int (Int32.ofNat (own_st cs0 ne nv 8).2.1)), .val (.long (Int64.ofNat (own_st cs0 ne nv 8).2.2)), .second, .unset, .unset, .unset] [(.long (Int64.ofNat (own_st cs0 ne nv 8).2.2)), (.int (Int32.ofNat (own_st cs0 ne nv 8).2.1)), (.ref b8)])) rfl (by rw [hml]; rfl) (argsL := [(.ref b8), (.int (Int32.ofNat (own_st cs0 ne nv 8).2.1)), (.long (Int64.ofNat (own_st cs0 ne nv 8).2.2))]) (rest := []) (lenOf pd_5e17a0d rfl) rfl (by show 2 * 0 + _ ≤ _; exact Nat.le_of_eq rfl) (hb hby at_340) (fun _ _ => ⟨rfl, rfl, (by decide : 1 + 0 ≤ _), (by decide : 23 + 0 ≤ _)⟩)
  dsimp only [Pt.U, Pt.locs, Pt.cells, Pt.slots] at X58 l58 y58 z58 st58 hQ58
  subst l58 y58 z58
  obtain ⟨rfl, Nq58, Kq58, Vq58⟩ := hQ58
  have KK59 : Keep h0 T58.heap [] := KK56.trans Kq58 (allS (Or.inr sz_b8) all0)
  have NN60 := Fr.app NN57 Nq58
  rw [own_stc cs0 ne nv 8 9 rfl] at Vq58
  refine Go.st (T' := T58.setTop (mkF m 343 #[.val (.long q1), .second, .val (.int p3), .val (.long q4), .second, .val (.int p6), .val (.long (Int64.ofNat nv)), .second, .val (.int jc), .val (.ref b8), .val (.int (Int32.ofNat ne)), .val (.int (Int32.ofNat (own_st cs0 ne nv 8).2.1)), .val (.long (Int64.ofNat (own_st cs0 ne nv 8).2.2)), .second, .unset, .unset, .unset] [(.int (Int32.ofNat (own_pi (own_st cs0 ne nv 8).2.1 (own_st cs0 ne nv 8).2.2)))])) (fun zt zk => st58 zt zk) ?_
  rw [own_sti cs0 ne nv 8 9 rfl]
  refine Go.st (T' := T58.setTop (mkF m 345 #[.val (.long q1), .second, .val (.int p3), .val (.long q4), .second, .val (.int p6), .val (.long (Int64.ofNat nv)), .second, .val (.int jc), .val (.ref b8), .val (.int (Int32.ofNat ne)), .val (.int (Int32.ofNat (own_st cs0 ne nv 9).2.1)), .val (.long (Int64.ofNat (own_st cs0 ne nv 8).2.2)), .second, .unset, .unset, .unset] [])) (fun zt zk => XS.istore X58.here hx rfl (hb hby at_343) rfl (l' := #[.val (.long q1), .second, .val (.int p3), .val (.long q4), .second, .val (.int p6), .val (.long (Int64.ofNat nv)), .second, .val (.int jc), .val (.ref b8), .val (.int (Int32.ofNat ne)), .val (.int (Int32.ofNat (own_st cs0 ne nv 9).2.1)), .val (.long (Int64.ofNat (own_st cs0 ne nv 8).2.2)), .second, .unset, .unset, .unset]) rfl zk) ?_
  refine Go.st (T' := T58.setTop (mkF m 347 #[.val (.long q1), .second, .val (.int p3), .val (.long q4), .second, .val (.int p6), .val (.long (Int64.ofNat nv)), .second, .val (.int jc), .val (.ref b8), .val (.int (Int32.ofNat ne)), .val (.int (Int32.ofNat (own_st cs0 ne nv 9).2.1)), .val (.long (Int64.ofNat (own_st cs0 ne nv 8).2.2)), .second, .unset, .unset, .unset] [(.long (Int64.ofNat (own_st cs0 ne nv 8).2.2))])) (fun zt zk => XS.lload X58.here hx rfl (hb hby at_345) rfl zk) ?_
  refine Go.st (T' := T58.setTop (mkF m 350 #[.val (.long q1), .second, .val (.int p3), .val (.long q4), .second, .val (.int p6), .val (.long (Int64.ofNat nv)), .second, .val (.int jc), .val (.ref b8), .val (.int (Int32.ofNat ne)), .val (.int (Int32.ofNat (own_st cs0 ne nv 9).2.1)), .val (.long (Int64.ofNat (own_st cs0 ne nv 8).2.2)), .second, .unset, .unset, .unset] [(.long (10 : Int64)), (.long (Int64.ofNat (own_st cs0 ne nv 8).2.2))])) (fun zt zk => X58.ldc2Long hx hown (mvT hZ (hw _ (List.mem_of_getElem? (i := 10) rfl))) (g := (mkF m 347 #[.val (.long q1), .second, .val (.int p3), .val (.long q4), .second, .val (.int p6), .val (.long (Int64.ofNat nv)), .second, .val (.int jc), .val (.ref b8), .val (.int (Int32.ofNat ne)), .val (.int (Int32.ofNat (own_st cs0 ne nv 9).2.1)), .val (.long (Int64.ofNat (own_st cs0 ne nv 8).2.2)), .second, .unset, .unset, .unset] [(.long (Int64.ofNat (own_st cs0 ne nv 8).2.2))])) rfl (hb hby at_347) zt zk) ?_
  refine Go.st (T' := T58.setTop (mkF m 351 #[.val (.long q1), .second, .val (.int p3), .val (.long q4), .second, .val (.int p6), .val (.long (Int64.ofNat nv)), .second, .val (.int jc), .val (.ref b8), .val (.int (Int32.ofNat ne)), .val (.int (Int32.ofNat (own_st cs0 ne nv 9).2.1)), .val (.long (Int64.ofNat (own_st cs0 ne nv 8).2.2)), .second, .unset, .unset, .unset] [(.long ((Int64.ofNat (own_st cs0 ne nv 8).2.2) / (10 : Int64)))])) (fun zt zk => XS.ldiv X58.here hx rfl (hb hby at_350) rfl (by decide) zk) ?_
  rw [own_stw cs0 ne nv 8 9 rfl hv2]
  refine Go.st (T' := T58.setTop (mkF m 353 #[.val (.long q1), .second, .val (.int p3), .val (.long q4), .second, .val (.int p6), .val (.long (Int64.ofNat nv)), .second, .val (.int jc), .val (.ref b8), .val (.int (Int32.ofNat ne)), .val (.int (Int32.ofNat (own_st cs0 ne nv 9).2.1)), .val (.long (Int64.ofNat (own_st cs0 ne nv 9).2.2)), .second, .unset, .unset, .unset] [])) (fun zt zk => XS.lstore X58.here hx rfl (hb hby at_351) rfl (l' := #[.val (.long q1), .second, .val (.int p3), .val (.long q4), .second, .val (.int p6), .val (.long (Int64.ofNat nv)), .second, .val (.int jc), .val (.ref b8), .val (.int (Int32.ofNat ne)), .val (.int (Int32.ofNat (own_st cs0 ne nv 9).2.1)), .val (.long (Int64.ofNat (own_st cs0 ne nv 9).2.2)), .second, .unset, .unset, .unset]) rfl zk) ?_
  refine Go.st (T' := T58.setTop (mkF m 355 #[.val (.long q1), .second, .val (.int p3), .val (.long q4), .second, .val (.int p6), .val (.long (Int64.ofNat nv)), .second, .val (.int jc), .val (.ref b8), .val (.int (Int32.ofNat ne)), .val (.int (Int32.ofNat (own_st cs0 ne nv 9).2.1)), .val (.long (Int64.ofNat (own_st cs0 ne nv 9).2.2)), .second, .unset, .unset, .unset] [(.ref b8)])) (fun zt zk => XS.aload X58.here hx rfl (hb hby at_353) rfl rfl zk) ?_
  refine Go.st (T' := T58.setTop (mkF m 357 #[.val (.long q1), .second, .val (.int p3), .val (.long q4), .second, .val (.int p6), .val (.long (Int64.ofNat nv)), .second, .val (.int jc), .val (.ref b8), .val (.int (Int32.ofNat ne)), .val (.int (Int32.ofNat (own_st cs0 ne nv 9).2.1)), .val (.long (Int64.ofNat (own_st cs0 ne nv 9).2.2)), .second, .unset, .unset, .unset] [(.int (Int32.ofNat (own_st cs0 ne nv 9).2.1)), (.ref b8)])) (fun zt zk => XS.iload X58.here hx rfl (hb hby at_355) rfl zk) ?_
  refine Go.st (T' := T58.setTop (mkF m 359 #[.val (.long q1), .second, .val (.int p3), .val (.long q4), .second, .val (.int p6), .val (.long (Int64.ofNat nv)), .second, .val (.int jc), .val (.ref b8), .val (.int (Int32.ofNat ne)), .val (.int (Int32.ofNat (own_st cs0 ne nv 9).2.1)), .val (.long (Int64.ofNat (own_st cs0 ne nv 9).2.2)), .second, .unset, .unset, .unset] [(.long (Int64.ofNat (own_st cs0 ne nv 9).2.2)), (.int (Int32.ofNat (own_st cs0 ne nv 9).2.1)), (.ref b8)])) (fun zt zk => XS.lload X58.here hx rfl (hb hby at_357) rfl zk) ?_
  obtain ⟨vr61, _, ⟨T61, L61, k61, n61⟩, -, X61, ⟨Lc61, hQ61, l61, y61, z61⟩, st61⟩ := Jvm.LawKit.callS X58 hx (y := (⟨"com/example/beaulieu/beaulieu/model/DecimalParsePositivePinLaw", "put", "([CIJ)I"⟩ : MethodName)) hown (mvT hZ (hw _ (List.mem_of_getElem? (i := 6) rfl))) (mvT hZ (hw _ (List.mem_of_getElem? (i := 7) rfl))) (mvT hZ (hw _ (List.mem_of_getElem? (i := 8) rfl))) (mvT hZ (hw _ (List.mem_of_getElem? (i := 9) rfl))) (by decide) (backOf (W := 0) (rm2 l Z a0 hw b8 (own_st cs0 ne nv 9).2.1 (own_st cs0 ne nv 9).2.2 (own_st cs0 ne nv 9).1 k8 T58.heap n0 (Nat.le_trans Z0 KK59.1) Vq58 ((own_len cs0 ne nv 9).trans hl0) (own_stlt cs0 ne nv 9 hv2) (own_hi cs0 ne nv 9 hne1 hne2 (by decide)) g_b8) hZ (hw _ (List.mem_of_getElem? (i := 9) rfl)) (hw _ (List.mem_of_getElem? (i := 8) rfl)) (by decide) (by decide)) (g := (mkF m 359 #[.val (.long q1), .second, .val (.int p3), .val (.long q4), .second, .val (.int p6), .val (.long (Int64.ofNat nv)), .second, .val (.int jc), .val (.ref b8), .val (.int (Int32.ofNat ne)), .val (.int (Int32.ofNat (own_st cs0 ne nv 9).2.1)), .val (.long (Int64.ofNat (own_st cs0 ne nv 9).2.2)), .second, .unset, .unset, .unset] [(.long (Int64.ofNat (own_st cs0 ne nv 9).2.2)), (.int (Int32.ofNat (own_st cs0 ne nv 9).2.1)), (.ref b8)])) rfl (by rw [hml]; rfl) (argsL := [(.ref b8), (.int (Int32.ofNat (own_st cs0 ne nv 9).2.1)), (.long (Int64.ofNat (own_st cs0 ne nv 9).2.2))]) (rest := []) (lenOf pd_5e17a0d rfl) rfl (by show 2 * 0 + _ ≤ _; exact Nat.le_of_eq rfl) (hb hby at_359) (fun _ _ => ⟨rfl, rfl, (by decide : 1 + 0 ≤ _), (by decide : 23 + 0 ≤ _)⟩)
  dsimp only [Pt.U, Pt.locs, Pt.cells, Pt.slots] at X61 l61 y61 z61 st61 hQ61
  subst l61 y61 z61
  obtain ⟨rfl, Nq61, Kq61, Vq61⟩ := hQ61
  have KK62 : Keep h0 T61.heap [] := KK59.trans Kq61 (allS (Or.inr sz_b8) all0)
  have NN63 := Fr.app NN60 Nq61
  rw [own_stc cs0 ne nv 9 10 rfl] at Vq61
  refine Go.st (T' := T61.setTop (mkF m 362 #[.val (.long q1), .second, .val (.int p3), .val (.long q4), .second, .val (.int p6), .val (.long (Int64.ofNat nv)), .second, .val (.int jc), .val (.ref b8), .val (.int (Int32.ofNat ne)), .val (.int (Int32.ofNat (own_st cs0 ne nv 9).2.1)), .val (.long (Int64.ofNat (own_st cs0 ne nv 9).2.2)), .second, .unset, .unset, .unset] [(.int (Int32.ofNat (own_pi (own_st cs0 ne nv 9).2.1 (own_st cs0 ne nv 9).2.2)))])) (fun zt zk => st61 zt zk) ?_
  rw [own_sti cs0 ne nv 9 10 rfl]
  refine Go.st (T' := T61.setTop (mkF m 364 #[.val (.long q1), .second, .val (.int p3), .val (.long q4), .second, .val (.int p6), .val (.long (Int64.ofNat nv)), .second, .val (.int jc), .val (.ref b8), .val (.int (Int32.ofNat ne)), .val (.int (Int32.ofNat (own_st cs0 ne nv 10).2.1)), .val (.long (Int64.ofNat (own_st cs0 ne nv 9).2.2)), .second, .unset, .unset, .unset] [])) (fun zt zk => XS.istore X61.here hx rfl (hb hby at_362) rfl (l' := #[.val (.long q1), .second, .val (.int p3), .val (.long q4), .second, .val (.int p6), .val (.long (Int64.ofNat nv)), .second, .val (.int jc), .val (.ref b8), .val (.int (Int32.ofNat ne)), .val (.int (Int32.ofNat (own_st cs0 ne nv 10).2.1)), .val (.long (Int64.ofNat (own_st cs0 ne nv 9).2.2)), .second, .unset, .unset, .unset]) rfl zk) ?_
  refine Go.st (T' := T61.setTop (mkF m 366 #[.val (.long q1), .second, .val (.int p3), .val (.long q4), .second, .val (.int p6), .val (.long (Int64.ofNat nv)), .second, .val (.int jc), .val (.ref b8), .val (.int (Int32.ofNat ne)), .val (.int (Int32.ofNat (own_st cs0 ne nv 10).2.1)), .val (.long (Int64.ofNat (own_st cs0 ne nv 9).2.2)), .second, .unset, .unset, .unset] [(.long (Int64.ofNat (own_st cs0 ne nv 9).2.2))])) (fun zt zk => XS.lload X61.here hx rfl (hb hby at_364) rfl zk) ?_
  refine Go.st (T' := T61.setTop (mkF m 369 #[.val (.long q1), .second, .val (.int p3), .val (.long q4), .second, .val (.int p6), .val (.long (Int64.ofNat nv)), .second, .val (.int jc), .val (.ref b8), .val (.int (Int32.ofNat ne)), .val (.int (Int32.ofNat (own_st cs0 ne nv 10).2.1)), .val (.long (Int64.ofNat (own_st cs0 ne nv 9).2.2)), .second, .unset, .unset, .unset] [(.long (10 : Int64)), (.long (Int64.ofNat (own_st cs0 ne nv 9).2.2))])) (fun zt zk => X61.ldc2Long hx hown (mvT hZ (hw _ (List.mem_of_getElem? (i := 10) rfl))) (g := (mkF m 366 #[.val (.long q1), .second, .val (.int p3), .val (.long q4), .second, .val (.int p6), .val (.long (Int64.ofNat nv)), .second, .val (.int jc), .val (.ref b8), .val (.int (Int32.ofNat ne)), .val (.int (Int32.ofNat (own_st cs0 ne nv 10).2.1)), .val (.long (Int64.ofNat (own_st cs0 ne nv 9).2.2)), .second, .unset, .unset, .unset] [(.long (Int64.ofNat (own_st cs0 ne nv 9).2.2))])) rfl (hb hby at_366) zt zk) ?_
  refine Go.st (T' := T61.setTop (mkF m 370 #[.val (.long q1), .second, .val (.int p3), .val (.long q4), .second, .val (.int p6), .val (.long (Int64.ofNat nv)), .second, .val (.int jc), .val (.ref b8), .val (.int (Int32.ofNat ne)), .val (.int (Int32.ofNat (own_st cs0 ne nv 10).2.1)), .val (.long (Int64.ofNat (own_st cs0 ne nv 9).2.2)), .second, .unset, .unset, .unset] [(.long ((Int64.ofNat (own_st cs0 ne nv 9).2.2) / (10 : Int64)))])) (fun zt zk => XS.ldiv X61.here hx rfl (hb hby at_369) rfl (by decide) zk) ?_
  rw [own_stw cs0 ne nv 9 10 rfl hv2]
  refine Go.st (T' := T61.setTop (mkF m 372 #[.val (.long q1), .second, .val (.int p3), .val (.long q4), .second, .val (.int p6), .val (.long (Int64.ofNat nv)), .second, .val (.int jc), .val (.ref b8), .val (.int (Int32.ofNat ne)), .val (.int (Int32.ofNat (own_st cs0 ne nv 10).2.1)), .val (.long (Int64.ofNat (own_st cs0 ne nv 10).2.2)), .second, .unset, .unset, .unset] [])) (fun zt zk => XS.lstore X61.here hx rfl (hb hby at_370) rfl (l' := #[.val (.long q1), .second, .val (.int p3), .val (.long q4), .second, .val (.int p6), .val (.long (Int64.ofNat nv)), .second, .val (.int jc), .val (.ref b8), .val (.int (Int32.ofNat ne)), .val (.int (Int32.ofNat (own_st cs0 ne nv 10).2.1)), .val (.long (Int64.ofNat (own_st cs0 ne nv 10).2.2)), .second, .unset, .unset, .unset]) rfl zk) ?_
  refine Go.st (T' := T61.setTop (mkF m 374 #[.val (.long q1), .second, .val (.int p3), .val (.long q4), .second, .val (.int p6), .val (.long (Int64.ofNat nv)), .second, .val (.int jc), .val (.ref b8), .val (.int (Int32.ofNat ne)), .val (.int (Int32.ofNat (own_st cs0 ne nv 10).2.1)), .val (.long (Int64.ofNat (own_st cs0 ne nv 10).2.2)), .second, .unset, .unset, .unset] [(.ref b8)])) (fun zt zk => XS.aload X61.here hx rfl (hb hby at_372) rfl rfl zk) ?_
  refine Go.st (T' := T61.setTop (mkF m 376 #[.val (.long q1), .second, .val (.int p3), .val (.long q4), .second, .val (.int p6), .val (.long (Int64.ofNat nv)), .second, .val (.int jc), .val (.ref b8), .val (.int (Int32.ofNat ne)), .val (.int (Int32.ofNat (own_st cs0 ne nv 10).2.1)), .val (.long (Int64.ofNat (own_st cs0 ne nv 10).2.2)), .second, .unset, .unset, .unset] [(.int (Int32.ofNat (own_st cs0 ne nv 10).2.1)), (.ref b8)])) (fun zt zk => XS.iload X61.here hx rfl (hb hby at_374) rfl zk) ?_
  refine Go.st (T' := T61.setTop (mkF m 378 #[.val (.long q1), .second, .val (.int p3), .val (.long q4), .second, .val (.int p6), .val (.long (Int64.ofNat nv)), .second, .val (.int jc), .val (.ref b8), .val (.int (Int32.ofNat ne)), .val (.int (Int32.ofNat (own_st cs0 ne nv 10).2.1)), .val (.long (Int64.ofNat (own_st cs0 ne nv 10).2.2)), .second, .unset, .unset, .unset] [(.long (Int64.ofNat (own_st cs0 ne nv 10).2.2)), (.int (Int32.ofNat (own_st cs0 ne nv 10).2.1)), (.ref b8)])) (fun zt zk => XS.lload X61.here hx rfl (hb hby at_376) rfl zk) ?_
  obtain ⟨vr64, _, ⟨T64, L64, k64, n64⟩, -, X64, ⟨Lc64, hQ64, l64, y64, z64⟩, st64⟩ := Jvm.LawKit.callS X61 hx (y := (⟨"com/example/beaulieu/beaulieu/model/DecimalParsePositivePinLaw", "put", "([CIJ)I"⟩ : MethodName)) hown (mvT hZ (hw _ (List.mem_of_getElem? (i := 6) rfl))) (mvT hZ (hw _ (List.mem_of_getElem? (i := 7) rfl))) (mvT hZ (hw _ (List.mem_of_getElem? (i := 8) rfl))) (mvT hZ (hw _ (List.mem_of_getElem? (i := 9) rfl))) (by decide) (backOf (W := 0) (rm2 l Z a0 hw b8 (own_st cs0 ne nv 10).2.1 (own_st cs0 ne nv 10).2.2 (own_st cs0 ne nv 10).1 k8 T61.heap n0 (Nat.le_trans Z0 KK62.1) Vq61 ((own_len cs0 ne nv 10).trans hl0) (own_stlt cs0 ne nv 10 hv2) (own_hi cs0 ne nv 10 hne1 hne2 (by decide)) g_b8) hZ (hw _ (List.mem_of_getElem? (i := 9) rfl)) (hw _ (List.mem_of_getElem? (i := 8) rfl)) (by decide) (by decide)) (g := (mkF m 378 #[.val (.long q1), .second, .val (.int p3), .val (.long q4), .second, .val (.int p6), .val (.long (Int64.ofNat nv)), .second, .val (.int jc), .val (.ref b8), .val (.int (Int32.ofNat ne)), .val (.int (Int32.ofNat (own_st cs0 ne nv 10).2.1)), .val (.long (Int64.ofNat (own_st cs0 ne nv 10).2.2)), .second, .unset, .unset, .unset] [(.long (Int64.ofNat (own_st cs0 ne nv 10).2.2)), (.int (Int32.ofNat (own_st cs0 ne nv 10).2.1)), (.ref b8)])) rfl (by rw [hml]; rfl) (argsL := [(.ref b8), (.int (Int32.ofNat (own_st cs0 ne nv 10).2.1)), (.long (Int64.ofNat (own_st cs0 ne nv 10).2.2))]) (rest := []) (lenOf pd_5e17a0d rfl) rfl (by show 2 * 0 + _ ≤ _; exact Nat.le_of_eq rfl) (hb hby at_378) (fun _ _ => ⟨rfl, rfl, (by decide : 1 + 0 ≤ _), (by decide : 23 + 0 ≤ _)⟩)
  dsimp only [Pt.U, Pt.locs, Pt.cells, Pt.slots] at X64 l64 y64 z64 st64 hQ64
  subst l64 y64 z64
  obtain ⟨rfl, Nq64, Kq64, Vq64⟩ := hQ64
  have KK65 : Keep h0 T64.heap [] := KK62.trans Kq64 (allS (Or.inr sz_b8) all0)
  have NN66 := Fr.app NN63 Nq64
  rw [own_stc cs0 ne nv 10 11 rfl] at Vq64
  refine Go.st (T' := T64.setTop (mkF m 381 #[.val (.long q1), .second, .val (.int p3), .val (.long q4), .second, .val (.int p6), .val (.long (Int64.ofNat nv)), .second, .val (.int jc), .val (.ref b8), .val (.int (Int32.ofNat ne)), .val (.int (Int32.ofNat (own_st cs0 ne nv 10).2.1)), .val (.long (Int64.ofNat (own_st cs0 ne nv 10).2.2)), .second, .unset, .unset, .unset] [(.int (Int32.ofNat (own_pi (own_st cs0 ne nv 10).2.1 (own_st cs0 ne nv 10).2.2)))])) (fun zt zk => st64 zt zk) ?_
  rw [own_sti cs0 ne nv 10 11 rfl]
  refine Go.st (T' := T64.setTop (mkF m 383 #[.val (.long q1), .second, .val (.int p3), .val (.long q4), .second, .val (.int p6), .val (.long (Int64.ofNat nv)), .second, .val (.int jc), .val (.ref b8), .val (.int (Int32.ofNat ne)), .val (.int (Int32.ofNat (own_st cs0 ne nv 11).2.1)), .val (.long (Int64.ofNat (own_st cs0 ne nv 10).2.2)), .second, .unset, .unset, .unset] [])) (fun zt zk => XS.istore X64.here hx rfl (hb hby at_381) rfl (l' := #[.val (.long q1), .second, .val (.int p3), .val (.long q4), .second, .val (.int p6), .val (.long (Int64.ofNat nv)), .second, .val (.int jc), .val (.ref b8), .val (.int (Int32.ofNat ne)), .val (.int (Int32.ofNat (own_st cs0 ne nv 11).2.1)), .val (.long (Int64.ofNat (own_st cs0 ne nv 10).2.2)), .second, .unset, .unset, .unset]) rfl zk) ?_
  refine Go.st (T' := T64.setTop (mkF m 385 #[.val (.long q1), .second, .val (.int p3), .val (.long q4), .second, .val (.int p6), .val (.long (Int64.ofNat nv)), .second, .val (.int jc), .val (.ref b8), .val (.int (Int32.ofNat ne)), .val (.int (Int32.ofNat (own_st cs0 ne nv 11).2.1)), .val (.long (Int64.ofNat (own_st cs0 ne nv 10).2.2)), .second, .unset, .unset, .unset] [(.long (Int64.ofNat (own_st cs0 ne nv 10).2.2))])) (fun zt zk => XS.lload X64.here hx rfl (hb hby at_383) rfl zk) ?_
  refine Go.st (T' := T64.setTop (mkF m 388 #[.val (.long q1), .second, .val (.int p3), .val (.long q4), .second, .val (.int p6), .val (.long (Int64.ofNat nv)), .second, .val (.int jc), .val (.ref b8), .val (.int (Int32.ofNat ne)), .val (.int (Int32.ofNat (own_st cs0 ne nv 11).2.1)), .val (.long (Int64.ofNat (own_st cs0 ne nv 10).2.2)), .second, .unset, .unset, .unset] [(.long (10 : Int64)), (.long (Int64.ofNat (own_st cs0 ne nv 10).2.2))])) (fun zt zk => X64.ldc2Long hx hown (mvT hZ (hw _ (List.mem_of_getElem? (i := 10) rfl))) (g := (mkF m 385 #[.val (.long q1), .second, .val (.int p3), .val (.long q4), .second, .val (.int p6), .val (.long (Int64.ofNat nv)), .second, .val (.int jc), .val (.ref b8), .val (.int (Int32.ofNat ne)), .val (.int (Int32.ofNat (own_st cs0 ne nv 11).2.1)), .val (.long (Int64.ofNat (own_st cs0 ne nv 10).2.2)), .second, .unset, .unset, .unset] [(.long (Int64.ofNat (own_st cs0 ne nv 10).2.2))])) rfl (hb hby at_385) zt zk) ?_
  refine Go.st (T' := T64.setTop (mkF m 389 #[.val (.long q1), .second, .val (.int p3), .val (.long q4), .second, .val (.int p6), .val (.long (Int64.ofNat nv)), .second, .val (.int jc), .val (.ref b8), .val (.int (Int32.ofNat ne)), .val (.int (Int32.ofNat (own_st cs0 ne nv 11).2.1)), .val (.long (Int64.ofNat (own_st cs0 ne nv 10).2.2)), .second, .unset, .unset, .unset] [(.long ((Int64.ofNat (own_st cs0 ne nv 10).2.2) / (10 : Int64)))])) (fun zt zk => XS.ldiv X64.here hx rfl (hb hby at_388) rfl (by decide) zk) ?_
  rw [own_stw cs0 ne nv 10 11 rfl hv2]
  refine Go.st (T' := T64.setTop (mkF m 391 #[.val (.long q1), .second, .val (.int p3), .val (.long q4), .second, .val (.int p6), .val (.long (Int64.ofNat nv)), .second, .val (.int jc), .val (.ref b8), .val (.int (Int32.ofNat ne)), .val (.int (Int32.ofNat (own_st cs0 ne nv 11).2.1)), .val (.long (Int64.ofNat (own_st cs0 ne nv 11).2.2)), .second, .unset, .unset, .unset] [])) (fun zt zk => XS.lstore X64.here hx rfl (hb hby at_389) rfl (l' := #[.val (.long q1), .second, .val (.int p3), .val (.long q4), .second, .val (.int p6), .val (.long (Int64.ofNat nv)), .second, .val (.int jc), .val (.ref b8), .val (.int (Int32.ofNat ne)), .val (.int (Int32.ofNat (own_st cs0 ne nv 11).2.1)), .val (.long (Int64.ofNat (own_st cs0 ne nv 11).2.2)), .second, .unset, .unset, .unset]) rfl zk) ?_
  refine Go.st (T' := T64.setTop (mkF m 393 #[.val (.long q1), .second, .val (.int p3), .val (.long q4), .second, .val (.int p6), .val (.long (Int64.ofNat nv)), .second, .val (.int jc), .val (.ref b8), .val (.int (Int32.ofNat ne)), .val (.int (Int32.ofNat (own_st cs0 ne nv 11).2.1)), .val (.long (Int64.ofNat (own_st cs0 ne nv 11).2.2)), .second, .unset, .unset, .unset] [(.ref b8)])) (fun zt zk => XS.aload X64.here hx rfl (hb hby at_391) rfl rfl zk) ?_
  refine Go.st (T' := T64.setTop (mkF m 395 #[.val (.long q1), .second, .val (.int p3), .val (.long q4), .second, .val (.int p6), .val (.long (Int64.ofNat nv)), .second, .val (.int jc), .val (.ref b8), .val (.int (Int32.ofNat ne)), .val (.int (Int32.ofNat (own_st cs0 ne nv 11).2.1)), .val (.long (Int64.ofNat (own_st cs0 ne nv 11).2.2)), .second, .unset, .unset, .unset] [(.int (Int32.ofNat (own_st cs0 ne nv 11).2.1)), (.ref b8)])) (fun zt zk => XS.iload X64.here hx rfl (hb hby at_393) rfl zk) ?_
  refine Go.st (T' := T64.setTop (mkF m 397 #[.val (.long q1), .second, .val (.int p3), .val (.long q4), .second, .val (.int p6), .val (.long (Int64.ofNat nv)), .second, .val (.int jc), .val (.ref b8), .val (.int (Int32.ofNat ne)), .val (.int (Int32.ofNat (own_st cs0 ne nv 11).2.1)), .val (.long (Int64.ofNat (own_st cs0 ne nv 11).2.2)), .second, .unset, .unset, .unset] [(.long (Int64.ofNat (own_st cs0 ne nv 11).2.2)), (.int (Int32.ofNat (own_st cs0 ne nv 11).2.1)), (.ref b8)])) (fun zt zk => XS.lload X64.here hx rfl (hb hby at_395) rfl zk) ?_
  obtain ⟨vr67, _, ⟨T67, L67, k67, n67⟩, -, X67, ⟨Lc67, hQ67, l67, y67, z67⟩, st67⟩ := Jvm.LawKit.callS X64 hx (y := (⟨"com/example/beaulieu/beaulieu/model/DecimalParsePositivePinLaw", "put", "([CIJ)I"⟩ : MethodName)) hown (mvT hZ (hw _ (List.mem_of_getElem? (i := 6) rfl))) (mvT hZ (hw _ (List.mem_of_getElem? (i := 7) rfl))) (mvT hZ (hw _ (List.mem_of_getElem? (i := 8) rfl))) (mvT hZ (hw _ (List.mem_of_getElem? (i := 9) rfl))) (by decide) (backOf (W := 0) (rm2 l Z a0 hw b8 (own_st cs0 ne nv 11).2.1 (own_st cs0 ne nv 11).2.2 (own_st cs0 ne nv 11).1 k8 T64.heap n0 (Nat.le_trans Z0 KK65.1) Vq64 ((own_len cs0 ne nv 11).trans hl0) (own_stlt cs0 ne nv 11 hv2) (own_hi cs0 ne nv 11 hne1 hne2 (by decide)) g_b8) hZ (hw _ (List.mem_of_getElem? (i := 9) rfl)) (hw _ (List.mem_of_getElem? (i := 8) rfl)) (by decide) (by decide)) (g := (mkF m 397 #[.val (.long q1), .second, .val (.int p3), .val (.long q4), .second, .val (.int p6), .val (.long (Int64.ofNat nv)), .second, .val (.int jc), .val (.ref b8), .val (.int (Int32.ofNat ne)), .val (.int (Int32.ofNat (own_st cs0 ne nv 11).2.1)), .val (.long (Int64.ofNat (own_st cs0 ne nv 11).2.2)), .second, .unset, .unset, .unset] [(.long (Int64.ofNat (own_st cs0 ne nv 11).2.2)), (.int (Int32.ofNat (own_st cs0 ne nv 11).2.1)), (.ref b8)])) rfl (by rw [hml]; rfl) (argsL := [(.ref b8), (.int (Int32.ofNat (own_st cs0 ne nv 11).2.1)), (.long (Int64.ofNat (own_st cs0 ne nv 11).2.2))]) (rest := []) (lenOf pd_5e17a0d rfl) rfl (by show 2 * 0 + _ ≤ _; exact Nat.le_of_eq rfl) (hb hby at_397) (fun _ _ => ⟨rfl, rfl, (by decide : 1 + 0 ≤ _), (by decide : 23 + 0 ≤ _)⟩)
  dsimp only [Pt.U, Pt.locs, Pt.cells, Pt.slots] at X67 l67 y67 z67 st67 hQ67
  subst l67 y67 z67
  obtain ⟨rfl, Nq67, Kq67, Vq67⟩ := hQ67
  have KK68 : Keep h0 T67.heap [] := KK65.trans Kq67 (allS (Or.inr sz_b8) all0)
  have NN69 := Fr.app NN66 Nq67
  rw [own_stc cs0 ne nv 11 12 rfl] at Vq67
  refine Go.st (T' := T67.setTop (mkF m 400 #[.val (.long q1), .second, .val (.int p3), .val (.long q4), .second, .val (.int p6), .val (.long (Int64.ofNat nv)), .second, .val (.int jc), .val (.ref b8), .val (.int (Int32.ofNat ne)), .val (.int (Int32.ofNat (own_st cs0 ne nv 11).2.1)), .val (.long (Int64.ofNat (own_st cs0 ne nv 11).2.2)), .second, .unset, .unset, .unset] [(.int (Int32.ofNat (own_pi (own_st cs0 ne nv 11).2.1 (own_st cs0 ne nv 11).2.2)))])) (fun zt zk => st67 zt zk) ?_
  rw [own_sti cs0 ne nv 11 12 rfl]
  refine Go.st (T' := T67.setTop (mkF m 402 #[.val (.long q1), .second, .val (.int p3), .val (.long q4), .second, .val (.int p6), .val (.long (Int64.ofNat nv)), .second, .val (.int jc), .val (.ref b8), .val (.int (Int32.ofNat ne)), .val (.int (Int32.ofNat (own_st cs0 ne nv 12).2.1)), .val (.long (Int64.ofNat (own_st cs0 ne nv 11).2.2)), .second, .unset, .unset, .unset] [])) (fun zt zk => XS.istore X67.here hx rfl (hb hby at_400) rfl (l' := #[.val (.long q1), .second, .val (.int p3), .val (.long q4), .second, .val (.int p6), .val (.long (Int64.ofNat nv)), .second, .val (.int jc), .val (.ref b8), .val (.int (Int32.ofNat ne)), .val (.int (Int32.ofNat (own_st cs0 ne nv 12).2.1)), .val (.long (Int64.ofNat (own_st cs0 ne nv 11).2.2)), .second, .unset, .unset, .unset]) rfl zk) ?_
  refine Go.st (T' := T67.setTop (mkF m 404 #[.val (.long q1), .second, .val (.int p3), .val (.long q4), .second, .val (.int p6), .val (.long (Int64.ofNat nv)), .second, .val (.int jc), .val (.ref b8), .val (.int (Int32.ofNat ne)), .val (.int (Int32.ofNat (own_st cs0 ne nv 12).2.1)), .val (.long (Int64.ofNat (own_st cs0 ne nv 11).2.2)), .second, .unset, .unset, .unset] [(.long (Int64.ofNat (own_st cs0 ne nv 11).2.2))])) (fun zt zk => XS.lload X67.here hx rfl (hb hby at_402) rfl zk) ?_
  refine Go.st (T' := T67.setTop (mkF m 407 #[.val (.long q1), .second, .val (.int p3), .val (.long q4), .second, .val (.int p6), .val (.long (Int64.ofNat nv)), .second, .val (.int jc), .val (.ref b8), .val (.int (Int32.ofNat ne)), .val (.int (Int32.ofNat (own_st cs0 ne nv 12).2.1)), .val (.long (Int64.ofNat (own_st cs0 ne nv 11).2.2)), .second, .unset, .unset, .unset] [(.long (10 : Int64)), (.long (Int64.ofNat (own_st cs0 ne nv 11).2.2))])) (fun zt zk => X67.ldc2Long hx hown (mvT hZ (hw _ (List.mem_of_getElem? (i := 10) rfl))) (g := (mkF m 404 #[.val (.long q1), .second, .val (.int p3), .val (.long q4), .second, .val (.int p6), .val (.long (Int64.ofNat nv)), .second, .val (.int jc), .val (.ref b8), .val (.int (Int32.ofNat ne)), .val (.int (Int32.ofNat (own_st cs0 ne nv 12).2.1)), .val (.long (Int64.ofNat (own_st cs0 ne nv 11).2.2)), .second, .unset, .unset, .unset] [(.long (Int64.ofNat (own_st cs0 ne nv 11).2.2))])) rfl (hb hby at_404) zt zk) ?_
  refine Go.st (T' := T67.setTop (mkF m 408 #[.val (.long q1), .second, .val (.int p3), .val (.long q4), .second, .val (.int p6), .val (.long (Int64.ofNat nv)), .second, .val (.int jc), .val (.ref b8), .val (.int (Int32.ofNat ne)), .val (.int (Int32.ofNat (own_st cs0 ne nv 12).2.1)), .val (.long (Int64.ofNat (own_st cs0 ne nv 11).2.2)), .second, .unset, .unset, .unset] [(.long ((Int64.ofNat (own_st cs0 ne nv 11).2.2) / (10 : Int64)))])) (fun zt zk => XS.ldiv X67.here hx rfl (hb hby at_407) rfl (by decide) zk) ?_
  rw [own_stw cs0 ne nv 11 12 rfl hv2]
  refine Go.st (T' := T67.setTop (mkF m 410 #[.val (.long q1), .second, .val (.int p3), .val (.long q4), .second, .val (.int p6), .val (.long (Int64.ofNat nv)), .second, .val (.int jc), .val (.ref b8), .val (.int (Int32.ofNat ne)), .val (.int (Int32.ofNat (own_st cs0 ne nv 12).2.1)), .val (.long (Int64.ofNat (own_st cs0 ne nv 12).2.2)), .second, .unset, .unset, .unset] [])) (fun zt zk => XS.lstore X67.here hx rfl (hb hby at_408) rfl (l' := #[.val (.long q1), .second, .val (.int p3), .val (.long q4), .second, .val (.int p6), .val (.long (Int64.ofNat nv)), .second, .val (.int jc), .val (.ref b8), .val (.int (Int32.ofNat ne)), .val (.int (Int32.ofNat (own_st cs0 ne nv 12).2.1)), .val (.long (Int64.ofNat (own_st cs0 ne nv 12).2.2)), .second, .unset, .unset, .unset]) rfl zk) ?_
  refine Go.st (T' := T67.setTop (mkF m 412 #[.val (.long q1), .second, .val (.int p3), .val (.long q4), .second, .val (.int p6), .val (.long (Int64.ofNat nv)), .second, .val (.int jc), .val (.ref b8), .val (.int (Int32.ofNat ne)), .val (.int (Int32.ofNat (own_st cs0 ne nv 12).2.1)), .val (.long (Int64.ofNat (own_st cs0 ne nv 12).2.2)), .second, .unset, .unset, .unset] [(.ref b8)])) (fun zt zk => XS.aload X67.here hx rfl (hb hby at_410) rfl rfl zk) ?_
  refine Go.st (T' := T67.setTop (mkF m 414 #[.val (.long q1), .second, .val (.int p3), .val (.long q4), .second, .val (.int p6), .val (.long (Int64.ofNat nv)), .second, .val (.int jc), .val (.ref b8), .val (.int (Int32.ofNat ne)), .val (.int (Int32.ofNat (own_st cs0 ne nv 12).2.1)), .val (.long (Int64.ofNat (own_st cs0 ne nv 12).2.2)), .second, .unset, .unset, .unset] [(.int (Int32.ofNat (own_st cs0 ne nv 12).2.1)), (.ref b8)])) (fun zt zk => XS.iload X67.here hx rfl (hb hby at_412) rfl zk) ?_
  refine Go.st (T' := T67.setTop (mkF m 416 #[.val (.long q1), .second, .val (.int p3), .val (.long q4), .second, .val (.int p6), .val (.long (Int64.ofNat nv)), .second, .val (.int jc), .val (.ref b8), .val (.int (Int32.ofNat ne)), .val (.int (Int32.ofNat (own_st cs0 ne nv 12).2.1)), .val (.long (Int64.ofNat (own_st cs0 ne nv 12).2.2)), .second, .unset, .unset, .unset] [(.long (Int64.ofNat (own_st cs0 ne nv 12).2.2)), (.int (Int32.ofNat (own_st cs0 ne nv 12).2.1)), (.ref b8)])) (fun zt zk => XS.lload X67.here hx rfl (hb hby at_414) rfl zk) ?_
  obtain ⟨vr70, _, ⟨T70, L70, k70, n70⟩, -, X70, ⟨Lc70, hQ70, l70, y70, z70⟩, st70⟩ := Jvm.LawKit.callS X67 hx (y := (⟨"com/example/beaulieu/beaulieu/model/DecimalParsePositivePinLaw", "put", "([CIJ)I"⟩ : MethodName)) hown (mvT hZ (hw _ (List.mem_of_getElem? (i := 6) rfl))) (mvT hZ (hw _ (List.mem_of_getElem? (i := 7) rfl))) (mvT hZ (hw _ (List.mem_of_getElem? (i := 8) rfl))) (mvT hZ (hw _ (List.mem_of_getElem? (i := 9) rfl))) (by decide) (backOf (W := 0) (rm2 l Z a0 hw b8 (own_st cs0 ne nv 12).2.1 (own_st cs0 ne nv 12).2.2 (own_st cs0 ne nv 12).1 k8 T67.heap n0 (Nat.le_trans Z0 KK68.1) Vq67 ((own_len cs0 ne nv 12).trans hl0) (own_stlt cs0 ne nv 12 hv2) (own_hi cs0 ne nv 12 hne1 hne2 (by decide)) g_b8) hZ (hw _ (List.mem_of_getElem? (i := 9) rfl)) (hw _ (List.mem_of_getElem? (i := 8) rfl)) (by decide) (by decide)) (g := (mkF m 416 #[.val (.long q1), .second, .val (.int p3), .val (.long q4), .second, .val (.int p6), .val (.long (Int64.ofNat nv)), .second, .val (.int jc), .val (.ref b8), .val (.int (Int32.ofNat ne)), .val (.int (Int32.ofNat (own_st cs0 ne nv 12).2.1)), .val (.long (Int64.ofNat (own_st cs0 ne nv 12).2.2)), .second, .unset, .unset, .unset] [(.long (Int64.ofNat (own_st cs0 ne nv 12).2.2)), (.int (Int32.ofNat (own_st cs0 ne nv 12).2.1)), (.ref b8)])) rfl (by rw [hml]; rfl) (argsL := [(.ref b8), (.int (Int32.ofNat (own_st cs0 ne nv 12).2.1)), (.long (Int64.ofNat (own_st cs0 ne nv 12).2.2))]) (rest := []) (lenOf pd_5e17a0d rfl) rfl (by show 2 * 0 + _ ≤ _; exact Nat.le_of_eq rfl) (hb hby at_416) (fun _ _ => ⟨rfl, rfl, (by decide : 1 + 0 ≤ _), (by decide : 23 + 0 ≤ _)⟩)
  dsimp only [Pt.U, Pt.locs, Pt.cells, Pt.slots] at X70 l70 y70 z70 st70 hQ70
  subst l70 y70 z70
  obtain ⟨rfl, Nq70, Kq70, Vq70⟩ := hQ70
  have KK71 : Keep h0 T70.heap [] := KK68.trans Kq70 (allS (Or.inr sz_b8) all0)
  have NN72 := Fr.app NN69 Nq70
  rw [own_stc cs0 ne nv 12 13 rfl] at Vq70
  refine Go.st (T' := T70.setTop (mkF m 419 #[.val (.long q1), .second, .val (.int p3), .val (.long q4), .second, .val (.int p6), .val (.long (Int64.ofNat nv)), .second, .val (.int jc), .val (.ref b8), .val (.int (Int32.ofNat ne)), .val (.int (Int32.ofNat (own_st cs0 ne nv 12).2.1)), .val (.long (Int64.ofNat (own_st cs0 ne nv 12).2.2)), .second, .unset, .unset, .unset] [(.int (Int32.ofNat (own_pi (own_st cs0 ne nv 12).2.1 (own_st cs0 ne nv 12).2.2)))])) (fun zt zk => st70 zt zk) ?_
  rw [own_sti cs0 ne nv 12 13 rfl]
  refine Go.st (T' := T70.setTop (mkF m 421 #[.val (.long q1), .second, .val (.int p3), .val (.long q4), .second, .val (.int p6), .val (.long (Int64.ofNat nv)), .second, .val (.int jc), .val (.ref b8), .val (.int (Int32.ofNat ne)), .val (.int (Int32.ofNat (own_st cs0 ne nv 13).2.1)), .val (.long (Int64.ofNat (own_st cs0 ne nv 12).2.2)), .second, .unset, .unset, .unset] [])) (fun zt zk => XS.istore X70.here hx rfl (hb hby at_419) rfl (l' := #[.val (.long q1), .second, .val (.int p3), .val (.long q4), .second, .val (.int p6), .val (.long (Int64.ofNat nv)), .second, .val (.int jc), .val (.ref b8), .val (.int (Int32.ofNat ne)), .val (.int (Int32.ofNat (own_st cs0 ne nv 13).2.1)), .val (.long (Int64.ofNat (own_st cs0 ne nv 12).2.2)), .second, .unset, .unset, .unset]) rfl zk) ?_
  refine Go.st (T' := T70.setTop (mkF m 423 #[.val (.long q1), .second, .val (.int p3), .val (.long q4), .second, .val (.int p6), .val (.long (Int64.ofNat nv)), .second, .val (.int jc), .val (.ref b8), .val (.int (Int32.ofNat ne)), .val (.int (Int32.ofNat (own_st cs0 ne nv 13).2.1)), .val (.long (Int64.ofNat (own_st cs0 ne nv 12).2.2)), .second, .unset, .unset, .unset] [(.long (Int64.ofNat (own_st cs0 ne nv 12).2.2))])) (fun zt zk => XS.lload X70.here hx rfl (hb hby at_421) rfl zk) ?_
  refine Go.st (T' := T70.setTop (mkF m 426 #[.val (.long q1), .second, .val (.int p3), .val (.long q4), .second, .val (.int p6), .val (.long (Int64.ofNat nv)), .second, .val (.int jc), .val (.ref b8), .val (.int (Int32.ofNat ne)), .val (.int (Int32.ofNat (own_st cs0 ne nv 13).2.1)), .val (.long (Int64.ofNat (own_st cs0 ne nv 12).2.2)), .second, .unset, .unset, .unset] [(.long (10 : Int64)), (.long (Int64.ofNat (own_st cs0 ne nv 12).2.2))])) (fun zt zk => X70.ldc2Long hx hown (mvT hZ (hw _ (List.mem_of_getElem? (i := 10) rfl))) (g := (mkF m 423 #[.val (.long q1), .second, .val (.int p3), .val (.long q4), .second, .val (.int p6), .val (.long (Int64.ofNat nv)), .second, .val (.int jc), .val (.ref b8), .val (.int (Int32.ofNat ne)), .val (.int (Int32.ofNat (own_st cs0 ne nv 13).2.1)), .val (.long (Int64.ofNat (own_st cs0 ne nv 12).2.2)), .second, .unset, .unset, .unset] [(.long (Int64.ofNat (own_st cs0 ne nv 12).2.2))])) rfl (hb hby at_423) zt zk) ?_
  refine Go.st (T' := T70.setTop (mkF m 427 #[.val (.long q1), .second, .val (.int p3), .val (.long q4), .second, .val (.int p6), .val (.long (Int64.ofNat nv)), .second, .val (.int jc), .val (.ref b8), .val (.int (Int32.ofNat ne)), .val (.int (Int32.ofNat (own_st cs0 ne nv 13).2.1)), .val (.long (Int64.ofNat (own_st cs0 ne nv 12).2.2)), .second, .unset, .unset, .unset] [(.long ((Int64.ofNat (own_st cs0 ne nv 12).2.2) / (10 : Int64)))])) (fun zt zk => XS.ldiv X70.here hx rfl (hb hby at_426) rfl (by decide) zk) ?_
  rw [own_stw cs0 ne nv 12 13 rfl hv2]
  refine Go.st (T' := T70.setTop (mkF m 429 #[.val (.long q1), .second, .val (.int p3), .val (.long q4), .second, .val (.int p6), .val (.long (Int64.ofNat nv)), .second, .val (.int jc), .val (.ref b8), .val (.int (Int32.ofNat ne)), .val (.int (Int32.ofNat (own_st cs0 ne nv 13).2.1)), .val (.long (Int64.ofNat (own_st cs0 ne nv 13).2.2)), .second, .unset, .unset, .unset] [])) (fun zt zk => XS.lstore X70.here hx rfl (hb hby at_427) rfl (l' := #[.val (.long q1), .second, .val (.int p3), .val (.long q4), .second, .val (.int p6), .val (.long (Int64.ofNat nv)), .second, .val (.int jc), .val (.ref b8), .val (.int (Int32.ofNat ne)), .val (.int (Int32.ofNat (own_st cs0 ne nv 13).2.1)), .val (.long (Int64.ofNat (own_st cs0 ne nv 13).2.2)), .second, .unset, .unset, .unset]) rfl zk) ?_
  refine Go.st (T' := T70.setTop (mkF m 431 #[.val (.long q1), .second, .val (.int p3), .val (.long q4), .second, .val (.int p6), .val (.long (Int64.ofNat nv)), .second, .val (.int jc), .val (.ref b8), .val (.int (Int32.ofNat ne)), .val (.int (Int32.ofNat (own_st cs0 ne nv 13).2.1)), .val (.long (Int64.ofNat (own_st cs0 ne nv 13).2.2)), .second, .unset, .unset, .unset] [(.ref b8)])) (fun zt zk => XS.aload X70.here hx rfl (hb hby at_429) rfl rfl zk) ?_
  refine Go.st (T' := T70.setTop (mkF m 433 #[.val (.long q1), .second, .val (.int p3), .val (.long q4), .second, .val (.int p6), .val (.long (Int64.ofNat nv)), .second, .val (.int jc), .val (.ref b8), .val (.int (Int32.ofNat ne)), .val (.int (Int32.ofNat (own_st cs0 ne nv 13).2.1)), .val (.long (Int64.ofNat (own_st cs0 ne nv 13).2.2)), .second, .unset, .unset, .unset] [(.int (Int32.ofNat (own_st cs0 ne nv 13).2.1)), (.ref b8)])) (fun zt zk => XS.iload X70.here hx rfl (hb hby at_431) rfl zk) ?_
  refine Go.st (T' := T70.setTop (mkF m 435 #[.val (.long q1), .second, .val (.int p3), .val (.long q4), .second, .val (.int p6), .val (.long (Int64.ofNat nv)), .second, .val (.int jc), .val (.ref b8), .val (.int (Int32.ofNat ne)), .val (.int (Int32.ofNat (own_st cs0 ne nv 13).2.1)), .val (.long (Int64.ofNat (own_st cs0 ne nv 13).2.2)), .second, .unset, .unset, .unset] [(.long (Int64.ofNat (own_st cs0 ne nv 13).2.2)), (.int (Int32.ofNat (own_st cs0 ne nv 13).2.1)), (.ref b8)])) (fun zt zk => XS.lload X70.here hx rfl (hb hby at_433) rfl zk) ?_
  obtain ⟨vr73, _, ⟨T73, L73, k73, n73⟩, -, X73, ⟨Lc73, hQ73, l73, y73, z73⟩, st73⟩ := Jvm.LawKit.callS X70 hx (y := (⟨"com/example/beaulieu/beaulieu/model/DecimalParsePositivePinLaw", "put", "([CIJ)I"⟩ : MethodName)) hown (mvT hZ (hw _ (List.mem_of_getElem? (i := 6) rfl))) (mvT hZ (hw _ (List.mem_of_getElem? (i := 7) rfl))) (mvT hZ (hw _ (List.mem_of_getElem? (i := 8) rfl))) (mvT hZ (hw _ (List.mem_of_getElem? (i := 9) rfl))) (by decide) (backOf (W := 0) (rm2 l Z a0 hw b8 (own_st cs0 ne nv 13).2.1 (own_st cs0 ne nv 13).2.2 (own_st cs0 ne nv 13).1 k8 T70.heap n0 (Nat.le_trans Z0 KK71.1) Vq70 ((own_len cs0 ne nv 13).trans hl0) (own_stlt cs0 ne nv 13 hv2) (own_hi cs0 ne nv 13 hne1 hne2 (by decide)) g_b8) hZ (hw _ (List.mem_of_getElem? (i := 9) rfl)) (hw _ (List.mem_of_getElem? (i := 8) rfl)) (by decide) (by decide)) (g := (mkF m 435 #[.val (.long q1), .second, .val (.int p3), .val (.long q4), .second, .val (.int p6), .val (.long (Int64.ofNat nv)), .second, .val (.int jc), .val (.ref b8), .val (.int (Int32.ofNat ne)), .val (.int (Int32.ofNat (own_st cs0 ne nv 13).2.1)), .val (.long (Int64.ofNat (own_st cs0 ne nv 13).2.2)), .second, .unset, .unset, .unset] [(.long (Int64.ofNat (own_st cs0 ne nv 13).2.2)), (.int (Int32.ofNat (own_st cs0 ne nv 13).2.1)), (.ref b8)])) rfl (by rw [hml]; rfl) (argsL := [(.ref b8), (.int (Int32.ofNat (own_st cs0 ne nv 13).2.1)), (.long (Int64.ofNat (own_st cs0 ne nv 13).2.2))]) (rest := []) (lenOf pd_5e17a0d rfl) rfl (by show 2 * 0 + _ ≤ _; exact Nat.le_of_eq rfl) (hb hby at_435) (fun _ _ => ⟨rfl, rfl, (by decide : 1 + 0 ≤ _), (by decide : 23 + 0 ≤ _)⟩)
  dsimp only [Pt.U, Pt.locs, Pt.cells, Pt.slots] at X73 l73 y73 z73 st73 hQ73
  subst l73 y73 z73
  obtain ⟨rfl, Nq73, Kq73, Vq73⟩ := hQ73
  have KK74 : Keep h0 T73.heap [] := KK71.trans Kq73 (allS (Or.inr sz_b8) all0)
  have NN75 := Fr.app NN72 Nq73
  rw [own_stc cs0 ne nv 13 14 rfl] at Vq73
  refine Go.st (T' := T73.setTop (mkF m 438 #[.val (.long q1), .second, .val (.int p3), .val (.long q4), .second, .val (.int p6), .val (.long (Int64.ofNat nv)), .second, .val (.int jc), .val (.ref b8), .val (.int (Int32.ofNat ne)), .val (.int (Int32.ofNat (own_st cs0 ne nv 13).2.1)), .val (.long (Int64.ofNat (own_st cs0 ne nv 13).2.2)), .second, .unset, .unset, .unset] [(.int (Int32.ofNat (own_pi (own_st cs0 ne nv 13).2.1 (own_st cs0 ne nv 13).2.2)))])) (fun zt zk => st73 zt zk) ?_
  rw [own_sti cs0 ne nv 13 14 rfl]
  refine Go.st (T' := T73.setTop (mkF m 440 #[.val (.long q1), .second, .val (.int p3), .val (.long q4), .second, .val (.int p6), .val (.long (Int64.ofNat nv)), .second, .val (.int jc), .val (.ref b8), .val (.int (Int32.ofNat ne)), .val (.int (Int32.ofNat (own_st cs0 ne nv 14).2.1)), .val (.long (Int64.ofNat (own_st cs0 ne nv 13).2.2)), .second, .unset, .unset, .unset] [])) (fun zt zk => XS.istore X73.here hx rfl (hb hby at_438) rfl (l' := #[.val (.long q1), .second, .val (.int p3), .val (.long q4), .second, .val (.int p6), .val (.long (Int64.ofNat nv)), .second, .val (.int jc), .val (.ref b8), .val (.int (Int32.ofNat ne)), .val (.int (Int32.ofNat (own_st cs0 ne nv 14).2.1)), .val (.long (Int64.ofNat (own_st cs0 ne nv 13).2.2)), .second, .unset, .unset, .unset]) rfl zk) ?_
  refine Go.st (T' := T73.setTop (mkF m 442 #[.val (.long q1), .second, .val (.int p3), .val (.long q4), .second, .val (.int p6), .val (.long (Int64.ofNat nv)), .second, .val (.int jc), .val (.ref b8), .val (.int (Int32.ofNat ne)), .val (.int (Int32.ofNat (own_st cs0 ne nv 14).2.1)), .val (.long (Int64.ofNat (own_st cs0 ne nv 13).2.2)), .second, .unset, .unset, .unset] [(.long (Int64.ofNat (own_st cs0 ne nv 13).2.2))])) (fun zt zk => XS.lload X73.here hx rfl (hb hby at_440) rfl zk) ?_
  refine Go.st (T' := T73.setTop (mkF m 445 #[.val (.long q1), .second, .val (.int p3), .val (.long q4), .second, .val (.int p6), .val (.long (Int64.ofNat nv)), .second, .val (.int jc), .val (.ref b8), .val (.int (Int32.ofNat ne)), .val (.int (Int32.ofNat (own_st cs0 ne nv 14).2.1)), .val (.long (Int64.ofNat (own_st cs0 ne nv 13).2.2)), .second, .unset, .unset, .unset] [(.long (10 : Int64)), (.long (Int64.ofNat (own_st cs0 ne nv 13).2.2))])) (fun zt zk => X73.ldc2Long hx hown (mvT hZ (hw _ (List.mem_of_getElem? (i := 10) rfl))) (g := (mkF m 442 #[.val (.long q1), .second, .val (.int p3), .val (.long q4), .second, .val (.int p6), .val (.long (Int64.ofNat nv)), .second, .val (.int jc), .val (.ref b8), .val (.int (Int32.ofNat ne)), .val (.int (Int32.ofNat (own_st cs0 ne nv 14).2.1)), .val (.long (Int64.ofNat (own_st cs0 ne nv 13).2.2)), .second, .unset, .unset, .unset] [(.long (Int64.ofNat (own_st cs0 ne nv 13).2.2))])) rfl (hb hby at_442) zt zk) ?_
  refine Go.st (T' := T73.setTop (mkF m 446 #[.val (.long q1), .second, .val (.int p3), .val (.long q4), .second, .val (.int p6), .val (.long (Int64.ofNat nv)), .second, .val (.int jc), .val (.ref b8), .val (.int (Int32.ofNat ne)), .val (.int (Int32.ofNat (own_st cs0 ne nv 14).2.1)), .val (.long (Int64.ofNat (own_st cs0 ne nv 13).2.2)), .second, .unset, .unset, .unset] [(.long ((Int64.ofNat (own_st cs0 ne nv 13).2.2) / (10 : Int64)))])) (fun zt zk => XS.ldiv X73.here hx rfl (hb hby at_445) rfl (by decide) zk) ?_
  rw [own_stw cs0 ne nv 13 14 rfl hv2]
  refine Go.st (T' := T73.setTop (mkF m 448 #[.val (.long q1), .second, .val (.int p3), .val (.long q4), .second, .val (.int p6), .val (.long (Int64.ofNat nv)), .second, .val (.int jc), .val (.ref b8), .val (.int (Int32.ofNat ne)), .val (.int (Int32.ofNat (own_st cs0 ne nv 14).2.1)), .val (.long (Int64.ofNat (own_st cs0 ne nv 14).2.2)), .second, .unset, .unset, .unset] [])) (fun zt zk => XS.lstore X73.here hx rfl (hb hby at_446) rfl (l' := #[.val (.long q1), .second, .val (.int p3), .val (.long q4), .second, .val (.int p6), .val (.long (Int64.ofNat nv)), .second, .val (.int jc), .val (.ref b8), .val (.int (Int32.ofNat ne)), .val (.int (Int32.ofNat (own_st cs0 ne nv 14).2.1)), .val (.long (Int64.ofNat (own_st cs0 ne nv 14).2.2)), .second, .unset, .unset, .unset]) rfl zk) ?_
  refine Go.st (T' := T73.setTop (mkF m 450 #[.val (.long q1), .second, .val (.int p3), .val (.long q4), .second, .val (.int p6), .val (.long (Int64.ofNat nv)), .second, .val (.int jc), .val (.ref b8), .val (.int (Int32.ofNat ne)), .val (.int (Int32.ofNat (own_st cs0 ne nv 14).2.1)), .val (.long (Int64.ofNat (own_st cs0 ne nv 14).2.2)), .second, .unset, .unset, .unset] [(.ref b8)])) (fun zt zk => XS.aload X73.here hx rfl (hb hby at_448) rfl rfl zk) ?_
  refine Go.st (T' := T73.setTop (mkF m 452 #[.val (.long q1), .second, .val (.int p3), .val (.long q4), .second, .val (.int p6), .val (.long (Int64.ofNat nv)), .second, .val (.int jc), .val (.ref b8), .val (.int (Int32.ofNat ne)), .val (.int (Int32.ofNat (own_st cs0 ne nv 14).2.1)), .val (.long (Int64.ofNat (own_st cs0 ne nv 14).2.2)), .second, .unset, .unset, .unset] [(.int (Int32.ofNat (own_st cs0 ne nv 14).2.1)), (.ref b8)])) (fun zt zk => XS.iload X73.here hx rfl (hb hby at_450) rfl zk) ?_
  refine Go.st (T' := T73.setTop (mkF m 454 #[.val (.long q1), .second, .val (.int p3), .val (.long q4), .second, .val (.int p6), .val (.long (Int64.ofNat nv)), .second, .val (.int jc), .val (.ref b8), .val (.int (Int32.ofNat ne)), .val (.int (Int32.ofNat (own_st cs0 ne nv 14).2.1)), .val (.long (Int64.ofNat (own_st cs0 ne nv 14).2.2)), .second, .unset, .unset, .unset] [(.long (Int64.ofNat (own_st cs0 ne nv 14).2.2)), (.int (Int32.ofNat (own_st cs0 ne nv 14).2.1)), (.ref b8)])) (fun zt zk => XS.lload X73.here hx rfl (hb hby at_452) rfl zk) ?_
  obtain ⟨LX76, XX76, NX76⟩ : ∃ LX, Stand p l e room_1 s m #[(.long q1), (.int p3), (.long q4), (.int p6)] below meth c T73 LX 1 23 ∧ Fr n0 LX := ⟨_, X73, NN75⟩
  obtain ⟨vr77, _, ⟨T77, L77, k77, n77⟩, -, X77, ⟨Lc77, hQ77, l77, y77, z77⟩, st77⟩ := Jvm.LawKit.callS XX76 hx (y := (⟨"com/example/beaulieu/beaulieu/model/DecimalParsePositivePinLaw", "put", "([CIJ)I"⟩ : MethodName)) hown (mvT hZ (hw _ (List.mem_of_getElem? (i := 6) rfl))) (mvT hZ (hw _ (List.mem_of_getElem? (i := 7) rfl))) (mvT hZ (hw _ (List.mem_of_getElem? (i := 8) rfl))) (mvT hZ (hw _ (List.mem_of_getElem? (i := 9) rfl))) (by decide) (backOf (W := 0) (rm2 l Z a0 hw b8 (own_st cs0 ne nv 14).2.1 (own_st cs0 ne nv 14).2.2 (own_st cs0 ne nv 14).1 k8 T73.heap n0 (Nat.le_trans Z0 KK74.1) Vq73 ((own_len cs0 ne nv 14).trans hl0) (own_stlt cs0 ne nv 14 hv2) (own_hi cs0 ne nv 14 hne1 hne2 (by decide)) g_b8) hZ (hw _ (List.mem_of_getElem? (i := 9) rfl)) (hw _ (List.mem_of_getElem? (i := 8) rfl)) (by decide) (by decide)) (g := (mkF m 454 #[.val (.long q1), .second, .val (.int p3), .val (.long q4), .second, .val (.int p6), .val (.long (Int64.ofNat nv)), .second, .val (.int jc), .val (.ref b8), .val (.int (Int32.ofNat ne)), .val (.int (Int32.ofNat (own_st cs0 ne nv 14).2.1)), .val (.long (Int64.ofNat (own_st cs0 ne nv 14).2.2)), .second, .unset, .unset, .unset] [(.long (Int64.ofNat (own_st cs0 ne nv 14).2.2)), (.int (Int32.ofNat (own_st cs0 ne nv 14).2.1)), (.ref b8)])) rfl (by rw [hml]; rfl) (argsL := [(.ref b8), (.int (Int32.ofNat (own_st cs0 ne nv 14).2.1)), (.long (Int64.ofNat (own_st cs0 ne nv 14).2.2))]) (rest := []) (lenOf pd_5e17a0d rfl) rfl (by show 2 * 0 + _ ≤ _; exact Nat.le_of_eq rfl) (hb hby at_454) (fun _ _ => ⟨rfl, rfl, (by decide : 1 + 0 ≤ _), (by decide : 23 + 0 ≤ _)⟩)
  dsimp only [Pt.U, Pt.locs, Pt.cells, Pt.slots] at X77 l77 y77 z77 st77 hQ77
  subst l77 y77 z77
  obtain ⟨rfl, Nq77, Kq77, Vq77⟩ := hQ77
  have KK78 : Keep h0 T77.heap [] := KK74.trans Kq77 (allS (Or.inr sz_b8) all0)
  have NN79 := Fr.app NX76 Nq77
  rw [own_stc cs0 ne nv 14 15 rfl] at Vq77
  refine Go.st (T' := T77.setTop (mkF m 457 #[.val (.long q1), .second, .val (.int p3), .val (.long q4), .second, .val (.int p6), .val (.long (Int64.ofNat nv)), .second, .val (.int jc), .val (.ref b8), .val (.int (Int32.ofNat ne)), .val (.int (Int32.ofNat (own_st cs0 ne nv 14).2.1)), .val (.long (Int64.ofNat (own_st cs0 ne nv 14).2.2)), .second, .unset, .unset, .unset] [(.int (Int32.ofNat (own_pi (own_st cs0 ne nv 14).2.1 (own_st cs0 ne nv 14).2.2)))])) (fun zt zk => st77 zt zk) ?_
  rw [own_sti cs0 ne nv 14 15 rfl]
  refine Go.st (T' := T77.setTop (mkF m 459 #[.val (.long q1), .second, .val (.int p3), .val (.long q4), .second, .val (.int p6), .val (.long (Int64.ofNat nv)), .second, .val (.int jc), .val (.ref b8), .val (.int (Int32.ofNat ne)), .val (.int (Int32.ofNat (own_st cs0 ne nv 15).2.1)), .val (.long (Int64.ofNat (own_st cs0 ne nv 14).2.2)), .second, .unset, .unset, .unset] [])) (fun zt zk => XS.istore X77.here hx rfl (hb hby at_457) rfl (l' := #[.val (.long q1), .second, .val (.int p3), .val (.long q4), .second, .val (.int p6), .val (.long (Int64.ofNat nv)), .second, .val (.int jc), .val (.ref b8), .val (.int (Int32.ofNat ne)), .val (.int (Int32.ofNat (own_st cs0 ne nv 15).2.1)), .val (.long (Int64.ofNat (own_st cs0 ne nv 14).2.2)), .second, .unset, .unset, .unset]) rfl zk) ?_
  refine Go.st (T' := T77.setTop (mkF m 461 #[.val (.long q1), .second, .val (.int p3), .val (.long q4), .second, .val (.int p6), .val (.long (Int64.ofNat nv)), .second, .val (.int jc), .val (.ref b8), .val (.int (Int32.ofNat ne)), .val (.int (Int32.ofNat (own_st cs0 ne nv 15).2.1)), .val (.long (Int64.ofNat (own_st cs0 ne nv 14).2.2)), .second, .unset, .unset, .unset] [(.long (Int64.ofNat (own_st cs0 ne nv 14).2.2))])) (fun zt zk => XS.lload X77.here hx rfl (hb hby at_459) rfl zk) ?_
  refine Go.st (T' := T77.setTop (mkF m 464 #[.val (.long q1), .second, .val (.int p3), .val (.long q4), .second, .val (.int p6), .val (.long (Int64.ofNat nv)), .second, .val (.int jc), .val (.ref b8), .val (.int (Int32.ofNat ne)), .val (.int (Int32.ofNat (own_st cs0 ne nv 15).2.1)), .val (.long (Int64.ofNat (own_st cs0 ne nv 14).2.2)), .second, .unset, .unset, .unset] [(.long (10 : Int64)), (.long (Int64.ofNat (own_st cs0 ne nv 14).2.2))])) (fun zt zk => X77.ldc2Long hx hown (mvT hZ (hw _ (List.mem_of_getElem? (i := 10) rfl))) (g := (mkF m 461 #[.val (.long q1), .second, .val (.int p3), .val (.long q4), .second, .val (.int p6), .val (.long (Int64.ofNat nv)), .second, .val (.int jc), .val (.ref b8), .val (.int (Int32.ofNat ne)), .val (.int (Int32.ofNat (own_st cs0 ne nv 15).2.1)), .val (.long (Int64.ofNat (own_st cs0 ne nv 14).2.2)), .second, .unset, .unset, .unset] [(.long (Int64.ofNat (own_st cs0 ne nv 14).2.2))])) rfl (hb hby at_461) zt zk) ?_
  refine Go.st (T' := T77.setTop (mkF m 465 #[.val (.long q1), .second, .val (.int p3), .val (.long q4), .second, .val (.int p6), .val (.long (Int64.ofNat nv)), .second, .val (.int jc), .val (.ref b8), .val (.int (Int32.ofNat ne)), .val (.int (Int32.ofNat (own_st cs0 ne nv 15).2.1)), .val (.long (Int64.ofNat (own_st cs0 ne nv 14).2.2)), .second, .unset, .unset, .unset] [(.long ((Int64.ofNat (own_st cs0 ne nv 14).2.2) / (10 : Int64)))])) (fun zt zk => XS.ldiv X77.here hx rfl (hb hby at_464) rfl (by decide) zk) ?_
  rw [own_stw cs0 ne nv 14 15 rfl hv2]
  refine Go.st (T' := T77.setTop (mkF m 467 #[.val (.long q1), .second, .val (.int p3), .val (.long q4), .second, .val (.int p6), .val (.long (Int64.ofNat nv)), .second, .val (.int jc), .val (.ref b8), .val (.int (Int32.ofNat ne)), .val (.int (Int32.ofNat (own_st cs0 ne nv 15).2.1)), .val (.long (Int64.ofNat (own_st cs0 ne nv 15).2.2)), .second, .unset, .unset, .unset] [])) (fun zt zk => XS.lstore X77.here hx rfl (hb hby at_465) rfl (l' := #[.val (.long q1), .second, .val (.int p3), .val (.long q4), .second, .val (.int p6), .val (.long (Int64.ofNat nv)), .second, .val (.int jc), .val (.ref b8), .val (.int (Int32.ofNat ne)), .val (.int (Int32.ofNat (own_st cs0 ne nv 15).2.1)), .val (.long (Int64.ofNat (own_st cs0 ne nv 15).2.2)), .second, .unset, .unset, .unset]) rfl zk) ?_
  refine Go.st (T' := T77.setTop (mkF m 469 #[.val (.long q1), .second, .val (.int p3), .val (.long q4), .second, .val (.int p6), .val (.long (Int64.ofNat nv)), .second, .val (.int jc), .val (.ref b8), .val (.int (Int32.ofNat ne)), .val (.int (Int32.ofNat (own_st cs0 ne nv 15).2.1)), .val (.long (Int64.ofNat (own_st cs0 ne nv 15).2.2)), .second, .unset, .unset, .unset] [(.ref b8)])) (fun zt zk => XS.aload X77.here hx rfl (hb hby at_467) rfl rfl zk) ?_
  refine Go.st (T' := T77.setTop (mkF m 471 #[.val (.long q1), .second, .val (.int p3), .val (.long q4), .second, .val (.int p6), .val (.long (Int64.ofNat nv)), .second, .val (.int jc), .val (.ref b8), .val (.int (Int32.ofNat ne)), .val (.int (Int32.ofNat (own_st cs0 ne nv 15).2.1)), .val (.long (Int64.ofNat (own_st cs0 ne nv 15).2.2)), .second, .unset, .unset, .unset] [(.int (Int32.ofNat (own_st cs0 ne nv 15).2.1)), (.ref b8)])) (fun zt zk => XS.iload X77.here hx rfl (hb hby at_469) rfl zk) ?_
  refine Go.st (T' := T77.setTop (mkF m 473 #[.val (.long q1), .second, .val (.int p3), .val (.long q4), .second, .val (.int p6), .val (.long (Int64.ofNat nv)), .second, .val (.int jc), .val (.ref b8), .val (.int (Int32.ofNat ne)), .val (.int (Int32.ofNat (own_st cs0 ne nv 15).2.1)), .val (.long (Int64.ofNat (own_st cs0 ne nv 15).2.2)), .second, .unset, .unset, .unset] [(.long (Int64.ofNat (own_st cs0 ne nv 15).2.2)), (.int (Int32.ofNat (own_st cs0 ne nv 15).2.1)), (.ref b8)])) (fun zt zk => XS.lload X77.here hx rfl (hb hby at_471) rfl zk) ?_
  obtain ⟨vr80, _, ⟨T80, L80, k80, n80⟩, -, X80, ⟨Lc80, hQ80, l80, y80, z80⟩, st80⟩ := Jvm.LawKit.callS X77 hx (y := (⟨"com/example/beaulieu/beaulieu/model/DecimalParsePositivePinLaw", "put", "([CIJ)I"⟩ : MethodName)) hown (mvT hZ (hw _ (List.mem_of_getElem? (i := 6) rfl))) (mvT hZ (hw _ (List.mem_of_getElem? (i := 7) rfl))) (mvT hZ (hw _ (List.mem_of_getElem? (i := 8) rfl))) (mvT hZ (hw _ (List.mem_of_getElem? (i := 9) rfl))) (by decide) (backOf (W := 0) (rm2 l Z a0 hw b8 (own_st cs0 ne nv 15).2.1 (own_st cs0 ne nv 15).2.2 (own_st cs0 ne nv 15).1 k8 T77.heap n0 (Nat.le_trans Z0 KK78.1) Vq77 ((own_len cs0 ne nv 15).trans hl0) (own_stlt cs0 ne nv 15 hv2) (own_hi cs0 ne nv 15 hne1 hne2 (by decide)) g_b8) hZ (hw _ (List.mem_of_getElem? (i := 9) rfl)) (hw _ (List.mem_of_getElem? (i := 8) rfl)) (by decide) (by decide)) (g := (mkF m 473 #[.val (.long q1), .second, .val (.int p3), .val (.long q4), .second, .val (.int p6), .val (.long (Int64.ofNat nv)), .second, .val (.int jc), .val (.ref b8), .val (.int (Int32.ofNat ne)), .val (.int (Int32.ofNat (own_st cs0 ne nv 15).2.1)), .val (.long (Int64.ofNat (own_st cs0 ne nv 15).2.2)), .second, .unset, .unset, .unset] [(.long (Int64.ofNat (own_st cs0 ne nv 15).2.2)), (.int (Int32.ofNat (own_st cs0 ne nv 15).2.1)), (.ref b8)])) rfl (by rw [hml]; rfl) (argsL := [(.ref b8), (.int (Int32.ofNat (own_st cs0 ne nv 15).2.1)), (.long (Int64.ofNat (own_st cs0 ne nv 15).2.2))]) (rest := []) (lenOf pd_5e17a0d rfl) rfl (by show 2 * 0 + _ ≤ _; exact Nat.le_of_eq rfl) (hb hby at_473) (fun _ _ => ⟨rfl, rfl, (by decide : 1 + 0 ≤ _), (by decide : 23 + 0 ≤ _)⟩)
  dsimp only [Pt.U, Pt.locs, Pt.cells, Pt.slots] at X80 l80 y80 z80 st80 hQ80
  subst l80 y80 z80
  obtain ⟨rfl, Nq80, Kq80, Vq80⟩ := hQ80
  have KK81 : Keep h0 T80.heap [] := KK78.trans Kq80 (allS (Or.inr sz_b8) all0)
  have NN82 := Fr.app NN79 Nq80
  rw [own_stc cs0 ne nv 15 16 rfl] at Vq80
  refine Go.st (T' := T80.setTop (mkF m 476 #[.val (.long q1), .second, .val (.int p3), .val (.long q4), .second, .val (.int p6), .val (.long (Int64.ofNat nv)), .second, .val (.int jc), .val (.ref b8), .val (.int (Int32.ofNat ne)), .val (.int (Int32.ofNat (own_st cs0 ne nv 15).2.1)), .val (.long (Int64.ofNat (own_st cs0 ne nv 15).2.2)), .second, .unset, .unset, .unset] [(.int (Int32.ofNat (own_pi (own_st cs0 ne nv 15).2.1 (own_st cs0 ne nv 15).2.2)))])) (fun zt zk => st80 zt zk) ?_
  rw [own_sti cs0 ne nv 15 16 rfl]
  refine Go.st (T' := T80.setTop (mkF m 478 #[.val (.long q1), .second, .val (.int p3), .val (.long q4), .second, .val (.int p6), .val (.long (Int64.ofNat nv)), .second, .val (.int jc), .val (.ref b8), .val (.int (Int32.ofNat ne)), .val (.int (Int32.ofNat (own_st cs0 ne nv 16).2.1)), .val (.long (Int64.ofNat (own_st cs0 ne nv 15).2.2)), .second, .unset, .unset, .unset] [])) (fun zt zk => XS.istore X80.here hx rfl (hb hby at_476) rfl (l' := #[.val (.long q1), .second, .val (.int p3), .val (.long q4), .second, .val (.int p6), .val (.long (Int64.ofNat nv)), .second, .val (.int jc), .val (.ref b8), .val (.int (Int32.ofNat ne)), .val (.int (Int32.ofNat (own_st cs0 ne nv 16).2.1)), .val (.long (Int64.ofNat (own_st cs0 ne nv 15).2.2)), .second, .unset, .unset, .unset]) rfl zk) ?_
  refine Go.st (T' := T80.setTop (mkF m 480 #[.val (.long q1), .second, .val (.int p3), .val (.long q4), .second, .val (.int p6), .val (.long (Int64.ofNat nv)), .second, .val (.int jc), .val (.ref b8), .val (.int (Int32.ofNat ne)), .val (.int (Int32.ofNat (own_st cs0 ne nv 16).2.1)), .val (.long (Int64.ofNat (own_st cs0 ne nv 15).2.2)), .second, .unset, .unset, .unset] [(.long (Int64.ofNat (own_st cs0 ne nv 15).2.2))])) (fun zt zk => XS.lload X80.here hx rfl (hb hby at_478) rfl zk) ?_
  refine Go.st (T' := T80.setTop (mkF m 483 #[.val (.long q1), .second, .val (.int p3), .val (.long q4), .second, .val (.int p6), .val (.long (Int64.ofNat nv)), .second, .val (.int jc), .val (.ref b8), .val (.int (Int32.ofNat ne)), .val (.int (Int32.ofNat (own_st cs0 ne nv 16).2.1)), .val (.long (Int64.ofNat (own_st cs0 ne nv 15).2.2)), .second, .unset, .unset, .unset] [(.long (10 : Int64)), (.long (Int64.ofNat (own_st cs0 ne nv 15).2.2))])) (fun zt zk => X80.ldc2Long hx hown (mvT hZ (hw _ (List.mem_of_getElem? (i := 10) rfl))) (g := (mkF m 480 #[.val (.long q1), .second, .val (.int p3), .val (.long q4), .second, .val (.int p6), .val (.long (Int64.ofNat nv)), .second, .val (.int jc), .val (.ref b8), .val (.int (Int32.ofNat ne)), .val (.int (Int32.ofNat (own_st cs0 ne nv 16).2.1)), .val (.long (Int64.ofNat (own_st cs0 ne nv 15).2.2)), .second, .unset, .unset, .unset] [(.long (Int64.ofNat (own_st cs0 ne nv 15).2.2))])) rfl (hb hby at_480) zt zk) ?_
  refine Go.st (T' := T80.setTop (mkF m 484 #[.val (.long q1), .second, .val (.int p3), .val (.long q4), .second, .val (.int p6), .val (.long (Int64.ofNat nv)), .second, .val (.int jc), .val (.ref b8), .val (.int (Int32.ofNat ne)), .val (.int (Int32.ofNat (own_st cs0 ne nv 16).2.1)), .val (.long (Int64.ofNat (own_st cs0 ne nv 15).2.2)), .second, .unset, .unset, .unset] [(.long ((Int64.ofNat (own_st cs0 ne nv 15).2.2) / (10 : Int64)))])) (fun zt zk => XS.ldiv X80.here hx rfl (hb hby at_483) rfl (by decide) zk) ?_
  rw [own_stw cs0 ne nv 15 16 rfl hv2]
  refine Go.st (T' := T80.setTop (mkF m 486 #[.val (.long q1), .second, .val (.int p3), .val (.long q4), .second, .val (.int p6), .val (.long (Int64.ofNat nv)), .second, .val (.int jc), .val (.ref b8), .val (.int (Int32.ofNat ne)), .val (.int (Int32.ofNat (own_st cs0 ne nv 16).2.1)), .val (.long (Int64.ofNat (own_st cs0 ne nv 16).2.2)), .second, .unset, .unset, .unset] [])) (fun zt zk => XS.lstore X80.here hx rfl (hb hby at_484) rfl (l' := #[.val (.long q1), .second, .val (.int p3), .val (.long q4), .second, .val (.int p6), .val (.long (Int64.ofNat nv)), .second, .val (.int jc), .val (.ref b8), .val (.int (Int32.ofNat ne)), .val (.int (Int32.ofNat (own_st cs0 ne nv 16).2.1)), .val (.long (Int64.ofNat (own_st cs0 ne nv 16).2.2)), .second, .unset, .unset, .unset]) rfl zk) ?_
  refine Go.st (T' := T80.setTop (mkF m 488 #[.val (.long q1), .second, .val (.int p3), .val (.long q4), .second, .val (.int p6), .val (.long (Int64.ofNat nv)), .second, .val (.int jc), .val (.ref b8), .val (.int (Int32.ofNat ne)), .val (.int (Int32.ofNat (own_st cs0 ne nv 16).2.1)), .val (.long (Int64.ofNat (own_st cs0 ne nv 16).2.2)), .second, .unset, .unset, .unset] [(.ref b8)])) (fun zt zk => XS.aload X80.here hx rfl (hb hby at_486) rfl rfl zk) ?_
  refine Go.st (T' := T80.setTop (mkF m 490 #[.val (.long q1), .second, .val (.int p3), .val (.long q4), .second, .val (.int p6), .val (.long (Int64.ofNat nv)), .second, .val (.int jc), .val (.ref b8), .val (.int (Int32.ofNat ne)), .val (.int (Int32.ofNat (own_st cs0 ne nv 16).2.1)), .val (.long (Int64.ofNat (own_st cs0 ne nv 16).2.2)), .second, .unset, .unset, .unset] [(.int (Int32.ofNat (own_st cs0 ne nv 16).2.1)), (.ref b8)])) (fun zt zk => XS.iload X80.here hx rfl (hb hby at_488) rfl zk) ?_
  refine Go.st (T' := T80.setTop (mkF m 492 #[.val (.long q1), .second, .val (.int p3), .val (.long q4), .second, .val (.int p6), .val (.long (Int64.ofNat nv)), .second, .val (.int jc), .val (.ref b8), .val (.int (Int32.ofNat ne)), .val (.int (Int32.ofNat (own_st cs0 ne nv 16).2.1)), .val (.long (Int64.ofNat (own_st cs0 ne nv 16).2.2)), .second, .unset, .unset, .unset] [(.long (Int64.ofNat (own_st cs0 ne nv 16).2.2)), (.int (Int32.ofNat (own_st cs0 ne nv 16).2.1)), (.ref b8)])) (fun zt zk => XS.lload X80.here hx rfl (hb hby at_490) rfl zk) ?_
  obtain ⟨vr83, _, ⟨T83, L83, k83, n83⟩, -, X83, ⟨Lc83, hQ83, l83, y83, z83⟩, st83⟩ := Jvm.LawKit.callS X80 hx (y := (⟨"com/example/beaulieu/beaulieu/model/DecimalParsePositivePinLaw", "put", "([CIJ)I"⟩ : MethodName)) hown (mvT hZ (hw _ (List.mem_of_getElem? (i := 6) rfl))) (mvT hZ (hw _ (List.mem_of_getElem? (i := 7) rfl))) (mvT hZ (hw _ (List.mem_of_getElem? (i := 8) rfl))) (mvT hZ (hw _ (List.mem_of_getElem? (i := 9) rfl))) (by decide) (backOf (W := 0) (rm2 l Z a0 hw b8 (own_st cs0 ne nv 16).2.1 (own_st cs0 ne nv 16).2.2 (own_st cs0 ne nv 16).1 k8 T80.heap n0 (Nat.le_trans Z0 KK81.1) Vq80 ((own_len cs0 ne nv 16).trans hl0) (own_stlt cs0 ne nv 16 hv2) (own_hi cs0 ne nv 16 hne1 hne2 (by decide)) g_b8) hZ (hw _ (List.mem_of_getElem? (i := 9) rfl)) (hw _ (List.mem_of_getElem? (i := 8) rfl)) (by decide) (by decide)) (g := (mkF m 492 #[.val (.long q1), .second, .val (.int p3), .val (.long q4), .second, .val (.int p6), .val (.long (Int64.ofNat nv)), .second, .val (.int jc), .val (.ref b8), .val (.int (Int32.ofNat ne)), .val (.int (Int32.ofNat (own_st cs0 ne nv 16).2.1)), .val (.long (Int64.ofNat (own_st cs0 ne nv 16).2.2)), .second, .unset, .unset, .unset] [(.long (Int64.ofNat (own_st cs0 ne nv 16).2.2)), (.int (Int32.ofNat (own_st cs0 ne nv 16).2.1)), (.ref b8)])) rfl (by rw [hml]; rfl) (argsL := [(.ref b8), (.int (Int32.ofNat (own_st cs0 ne nv 16).2.1)), (.long (Int64.ofNat (own_st cs0 ne nv 16).2.2))]) (rest := []) (lenOf pd_5e17a0d rfl) rfl (by show 2 * 0 + _ ≤ _; exact Nat.le_of_eq rfl) (hb hby at_492) (fun _ _ => ⟨rfl, rfl, (by decide : 1 + 0 ≤ _), (by decide : 23 + 0 ≤ _)⟩)
  dsimp only [Pt.U, Pt.locs, Pt.cells, Pt.slots] at X83 l83 y83 z83 st83 hQ83
  subst l83 y83 z83
  obtain ⟨rfl, Nq83, Kq83, Vq83⟩ := hQ83
  have KK84 : Keep h0 T83.heap [] := KK81.trans Kq83 (allS (Or.inr sz_b8) all0)
  have NN85 := Fr.app NN82 Nq83
  rw [own_stc cs0 ne nv 16 17 rfl] at Vq83
  refine Go.st (T' := T83.setTop (mkF m 495 #[.val (.long q1), .second, .val (.int p3), .val (.long q4), .second, .val (.int p6), .val (.long (Int64.ofNat nv)), .second, .val (.int jc), .val (.ref b8), .val (.int (Int32.ofNat ne)), .val (.int (Int32.ofNat (own_st cs0 ne nv 16).2.1)), .val (.long (Int64.ofNat (own_st cs0 ne nv 16).2.2)), .second, .unset, .unset, .unset] [(.int (Int32.ofNat (own_pi (own_st cs0 ne nv 16).2.1 (own_st cs0 ne nv 16).2.2)))])) (fun zt zk => st83 zt zk) ?_
  rw [own_sti cs0 ne nv 16 17 rfl]
  refine Go.st (T' := T83.setTop (mkF m 497 #[.val (.long q1), .second, .val (.int p3), .val (.long q4), .second, .val (.int p6), .val (.long (Int64.ofNat nv)), .second, .val (.int jc), .val (.ref b8), .val (.int (Int32.ofNat ne)), .val (.int (Int32.ofNat (own_st cs0 ne nv 17).2.1)), .val (.long (Int64.ofNat (own_st cs0 ne nv 16).2.2)), .second, .unset, .unset, .unset] [])) (fun zt zk => XS.istore X83.here hx rfl (hb hby at_495) rfl (l' := #[.val (.long q1), .second, .val (.int p3), .val (.long q4), .second, .val (.int p6), .val (.long (Int64.ofNat nv)), .second, .val (.int jc), .val (.ref b8), .val (.int (Int32.ofNat ne)), .val (.int (Int32.ofNat (own_st cs0 ne nv 17).2.1)), .val (.long (Int64.ofNat (own_st cs0 ne nv 16).2.2)), .second, .unset, .unset, .unset]) rfl zk) ?_
  refine Go.st (T' := T83.setTop (mkF m 499 #[.val (.long q1), .second, .val (.int p3), .val (.long q4), .second, .val (.int p6), .val (.long (Int64.ofNat nv)), .second, .val (.int jc), .val (.ref b8), .val (.int (Int32.ofNat ne)), .val (.int (Int32.ofNat (own_st cs0 ne nv 17).2.1)), .val (.long (Int64.ofNat (own_st cs0 ne nv 16).2.2)), .second, .unset, .unset, .unset] [(.long (Int64.ofNat (own_st cs0 ne nv 16).2.2))])) (fun zt zk => XS.lload X83.here hx rfl (hb hby at_497) rfl zk) ?_
  refine Go.st (T' := T83.setTop (mkF m 502 #[.val (.long q1), .second, .val (.int p3), .val (.long q4), .second, .val (.int p6), .val (.long (Int64.ofNat nv)), .second, .val (.int jc), .val (.ref b8), .val (.int (Int32.ofNat ne)), .val (.int (Int32.ofNat (own_st cs0 ne nv 17).2.1)), .val (.long (Int64.ofNat (own_st cs0 ne nv 16).2.2)), .second, .unset, .unset, .unset] [(.long (10 : Int64)), (.long (Int64.ofNat (own_st cs0 ne nv 16).2.2))])) (fun zt zk => X83.ldc2Long hx hown (mvT hZ (hw _ (List.mem_of_getElem? (i := 10) rfl))) (g := (mkF m 499 #[.val (.long q1), .second, .val (.int p3), .val (.long q4), .second, .val (.int p6), .val (.long (Int64.ofNat nv)), .second, .val (.int jc), .val (.ref b8), .val (.int (Int32.ofNat ne)), .val (.int (Int32.ofNat (own_st cs0 ne nv 17).2.1)), .val (.long (Int64.ofNat (own_st cs0 ne nv 16).2.2)), .second, .unset, .unset, .unset] [(.long (Int64.ofNat (own_st cs0 ne nv 16).2.2))])) rfl (hb hby at_499) zt zk) ?_
  refine Go.st (T' := T83.setTop (mkF m 503 #[.val (.long q1), .second, .val (.int p3), .val (.long q4), .second, .val (.int p6), .val (.long (Int64.ofNat nv)), .second, .val (.int jc), .val (.ref b8), .val (.int (Int32.ofNat ne)), .val (.int (Int32.ofNat (own_st cs0 ne nv 17).2.1)), .val (.long (Int64.ofNat (own_st cs0 ne nv 16).2.2)), .second, .unset, .unset, .unset] [(.long ((Int64.ofNat (own_st cs0 ne nv 16).2.2) / (10 : Int64)))])) (fun zt zk => XS.ldiv X83.here hx rfl (hb hby at_502) rfl (by decide) zk) ?_
  rw [own_stw cs0 ne nv 16 17 rfl hv2]
  refine Go.st (T' := T83.setTop (mkF m 505 #[.val (.long q1), .second, .val (.int p3), .val (.long q4), .second, .val (.int p6), .val (.long (Int64.ofNat nv)), .second, .val (.int jc), .val (.ref b8), .val (.int (Int32.ofNat ne)), .val (.int (Int32.ofNat (own_st cs0 ne nv 17).2.1)), .val (.long (Int64.ofNat (own_st cs0 ne nv 17).2.2)), .second, .unset, .unset, .unset] [])) (fun zt zk => XS.lstore X83.here hx rfl (hb hby at_503) rfl (l' := #[.val (.long q1), .second, .val (.int p3), .val (.long q4), .second, .val (.int p6), .val (.long (Int64.ofNat nv)), .second, .val (.int jc), .val (.ref b8), .val (.int (Int32.ofNat ne)), .val (.int (Int32.ofNat (own_st cs0 ne nv 17).2.1)), .val (.long (Int64.ofNat (own_st cs0 ne nv 17).2.2)), .second, .unset, .unset, .unset]) rfl zk) ?_
  refine Go.st (T' := T83.setTop (mkF m 507 #[.val (.long q1), .second, .val (.int p3), .val (.long q4), .second, .val (.int p6), .val (.long (Int64.ofNat nv)), .second, .val (.int jc), .val (.ref b8), .val (.int (Int32.ofNat ne)), .val (.int (Int32.ofNat (own_st cs0 ne nv 17).2.1)), .val (.long (Int64.ofNat (own_st cs0 ne nv 17).2.2)), .second, .unset, .unset, .unset] [(.ref b8)])) (fun zt zk => XS.aload X83.here hx rfl (hb hby at_505) rfl rfl zk) ?_
  refine Go.st (T' := T83.setTop (mkF m 509 #[.val (.long q1), .second, .val (.int p3), .val (.long q4), .second, .val (.int p6), .val (.long (Int64.ofNat nv)), .second, .val (.int jc), .val (.ref b8), .val (.int (Int32.ofNat ne)), .val (.int (Int32.ofNat (own_st cs0 ne nv 17).2.1)), .val (.long (Int64.ofNat (own_st cs0 ne nv 17).2.2)), .second, .unset, .unset, .unset] [(.int (Int32.ofNat (own_st cs0 ne nv 17).2.1)), (.ref b8)])) (fun zt zk => XS.iload X83.here hx rfl (hb hby at_507) rfl zk) ?_
  refine Go.st (T' := T83.setTop (mkF m 511 #[.val (.long q1), .second, .val (.int p3), .val (.long q4), .second, .val (.int p6), .val (.long (Int64.ofNat nv)), .second, .val (.int jc), .val (.ref b8), .val (.int (Int32.ofNat ne)), .val (.int (Int32.ofNat (own_st cs0 ne nv 17).2.1)), .val (.long (Int64.ofNat (own_st cs0 ne nv 17).2.2)), .second, .unset, .unset, .unset] [(.long (Int64.ofNat (own_st cs0 ne nv 17).2.2)), (.int (Int32.ofNat (own_st cs0 ne nv 17).2.1)), (.ref b8)])) (fun zt zk => XS.lload X83.here hx rfl (hb hby at_509) rfl zk) ?_
  obtain ⟨vr86, _, ⟨T86, L86, k86, n86⟩, -, X86, ⟨Lc86, hQ86, l86, y86, z86⟩, st86⟩ := Jvm.LawKit.callS X83 hx (y := (⟨"com/example/beaulieu/beaulieu/model/DecimalParsePositivePinLaw", "put", "([CIJ)I"⟩ : MethodName)) hown (mvT hZ (hw _ (List.mem_of_getElem? (i := 6) rfl))) (mvT hZ (hw _ (List.mem_of_getElem? (i := 7) rfl))) (mvT hZ (hw _ (List.mem_of_getElem? (i := 8) rfl))) (mvT hZ (hw _ (List.mem_of_getElem? (i := 9) rfl))) (by decide) (backOf (W := 0) (rm2 l Z a0 hw b8 (own_st cs0 ne nv 17).2.1 (own_st cs0 ne nv 17).2.2 (own_st cs0 ne nv 17).1 k8 T83.heap n0 (Nat.le_trans Z0 KK84.1) Vq83 ((own_len cs0 ne nv 17).trans hl0) (own_stlt cs0 ne nv 17 hv2) (own_hi cs0 ne nv 17 hne1 hne2 (by decide)) g_b8) hZ (hw _ (List.mem_of_getElem? (i := 9) rfl)) (hw _ (List.mem_of_getElem? (i := 8) rfl)) (by decide) (by decide)) (g := (mkF m 511 #[.val (.long q1), .second, .val (.int p3), .val (.long q4), .second, .val (.int p6), .val (.long (Int64.ofNat nv)), .second, .val (.int jc), .val (.ref b8), .val (.int (Int32.ofNat ne)), .val (.int (Int32.ofNat (own_st cs0 ne nv 17).2.1)), .val (.long (Int64.ofNat (own_st cs0 ne nv 17).2.2)), .second, .unset, .unset, .unset] [(.long (Int64.ofNat (own_st cs0 ne nv 17).2.2)), (.int (Int32.ofNat (own_st cs0 ne nv 17).2.1)), (.ref b8)])) rfl (by rw [hml]; rfl) (argsL := [(.ref b8), (.int (Int32.ofNat (own_st cs0 ne nv 17).2.1)), (.long (Int64.ofNat (own_st cs0 ne nv 17).2.2))]) (rest := []) (lenOf pd_5e17a0d rfl) rfl (by show 2 * 0 + _ ≤ _; exact Nat.le_of_eq rfl) (hb hby at_511) (fun _ _ => ⟨rfl, rfl, (by decide : 1 + 0 ≤ _), (by decide : 23 + 0 ≤ _)⟩)
  dsimp only [Pt.U, Pt.locs, Pt.cells, Pt.slots] at X86 l86 y86 z86 st86 hQ86
  subst l86 y86 z86
  obtain ⟨rfl, Nq86, Kq86, Vq86⟩ := hQ86
  have KK87 : Keep h0 T86.heap [] := KK84.trans Kq86 (allS (Or.inr sz_b8) all0)
  have NN88 := Fr.app NN85 Nq86
  rw [own_stc cs0 ne nv 17 18 rfl] at Vq86
  refine Go.st (T' := T86.setTop (mkF m 514 #[.val (.long q1), .second, .val (.int p3), .val (.long q4), .second, .val (.int p6), .val (.long (Int64.ofNat nv)), .second, .val (.int jc), .val (.ref b8), .val (.int (Int32.ofNat ne)), .val (.int (Int32.ofNat (own_st cs0 ne nv 17).2.1)), .val (.long (Int64.ofNat (own_st cs0 ne nv 17).2.2)), .second, .unset, .unset, .unset] [(.int (Int32.ofNat (own_pi (own_st cs0 ne nv 17).2.1 (own_st cs0 ne nv 17).2.2)))])) (fun zt zk => st86 zt zk) ?_
  rw [own_sti cs0 ne nv 17 18 rfl]
  refine Go.st (T' := T86.setTop (mkF m 516 #[.val (.long q1), .second, .val (.int p3), .val (.long q4), .second, .val (.int p6), .val (.long (Int64.ofNat nv)), .second, .val (.int jc), .val (.ref b8), .val (.int (Int32.ofNat ne)), .val (.int (Int32.ofNat (own_st cs0 ne nv 18).2.1)), .val (.long (Int64.ofNat (own_st cs0 ne nv 17).2.2)), .second, .unset, .unset, .unset] [])) (fun zt zk => XS.istore X86.here hx rfl (hb hby at_514) rfl (l' := #[.val (.long q1), .second, .val (.int p3), .val (.long q4), .second, .val (.int p6), .val (.long (Int64.ofNat nv)), .second, .val (.int jc), .val (.ref b8), .val (.int (Int32.ofNat ne)), .val (.int (Int32.ofNat (own_st cs0 ne nv 18).2.1)), .val (.long (Int64.ofNat (own_st cs0 ne nv 17).2.2)), .second, .unset, .unset, .unset]) rfl zk) ?_
  refine Go.st (T' := T86.setTop (mkF m 518 #[.val (.long q1), .second, .val (.int p3), .val (.long q4), .second, .val (.int p6), .val (.long (Int64.ofNat nv)), .second, .val (.int jc), .val (.ref b8), .val (.int (Int32.ofNat ne)), .val (.int (Int32.ofNat (own_st cs0 ne nv 18).2.1)), .val (.long (Int64.ofNat (own_st cs0 ne nv 17).2.2)), .second, .unset, .unset, .unset] [(.long (Int64.ofNat (own_st cs0 ne nv 17).2.2))])) (fun zt zk => XS.lload X86.here hx rfl (hb hby at_516) rfl zk) ?_
  refine Go.st (T' := T86.setTop (mkF m 521 #[.val (.long q1), .second, .val (.int p3), .val (.long q4), .second, .val (.int p6), .val (.long (Int64.ofNat nv)), .second, .val (.int jc), .val (.ref b8), .val (.int (Int32.ofNat ne)), .val (.int (Int32.ofNat (own_st cs0 ne nv 18).2.1)), .val (.long (Int64.ofNat (own_st cs0 ne nv 17).2.2)), .second, .unset, .unset, .unset] [(.long (10 : Int64)), (.long (Int64.ofNat (own_st cs0 ne nv 17).2.2))])) (fun zt zk => X86.ldc2Long hx hown (mvT hZ (hw _ (List.mem_of_getElem? (i := 10) rfl))) (g := (mkF m 518 #[.val (.long q1), .second, .val (.int p3), .val (.long q4), .second, .val (.int p6), .val (.long (Int64.ofNat nv)), .second, .val (.int jc), .val (.ref b8), .val (.int (Int32.ofNat ne)), .val (.int (Int32.ofNat (own_st cs0 ne nv 18).2.1)), .val (.long (Int64.ofNat (own_st cs0 ne nv 17).2.2)), .second, .unset, .unset, .unset] [(.long (Int64.ofNat (own_st cs0 ne nv 17).2.2))])) rfl (hb hby at_518) zt zk) ?_
  refine Go.st (T' := T86.setTop (mkF m 522 #[.val (.long q1), .second, .val (.int p3), .val (.long q4), .second, .val (.int p6), .val (.long (Int64.ofNat nv)), .second, .val (.int jc), .val (.ref b8), .val (.int (Int32.ofNat ne)), .val (.int (Int32.ofNat (own_st cs0 ne nv 18).2.1)), .val (.long (Int64.ofNat (own_st cs0 ne nv 17).2.2)), .second, .unset, .unset, .unset] [(.long ((Int64.ofNat (own_st cs0 ne nv 17).2.2) / (10 : Int64)))])) (fun zt zk => XS.ldiv X86.here hx rfl (hb hby at_521) rfl (by decide) zk) ?_
  rw [own_stw cs0 ne nv 17 18 rfl hv2]
  refine Go.st (T' := T86.setTop (mkF m 524 #[.val (.long q1), .second, .val (.int p3), .val (.long q4), .second, .val (.int p6), .val (.long (Int64.ofNat nv)), .second, .val (.int jc), .val (.ref b8), .val (.int (Int32.ofNat ne)), .val (.int (Int32.ofNat (own_st cs0 ne nv 18).2.1)), .val (.long (Int64.ofNat (own_st cs0 ne nv 18).2.2)), .second, .unset, .unset, .unset] [])) (fun zt zk => XS.lstore X86.here hx rfl (hb hby at_522) rfl (l' := #[.val (.long q1), .second, .val (.int p3), .val (.long q4), .second, .val (.int p6), .val (.long (Int64.ofNat nv)), .second, .val (.int jc), .val (.ref b8), .val (.int (Int32.ofNat ne)), .val (.int (Int32.ofNat (own_st cs0 ne nv 18).2.1)), .val (.long (Int64.ofNat (own_st cs0 ne nv 18).2.2)), .second, .unset, .unset, .unset]) rfl zk) ?_
  refine Go.st (T' := T86.setTop (mkF m 526 #[.val (.long q1), .second, .val (.int p3), .val (.long q4), .second, .val (.int p6), .val (.long (Int64.ofNat nv)), .second, .val (.int jc), .val (.ref b8), .val (.int (Int32.ofNat ne)), .val (.int (Int32.ofNat (own_st cs0 ne nv 18).2.1)), .val (.long (Int64.ofNat (own_st cs0 ne nv 18).2.2)), .second, .unset, .unset, .unset] [(.ref b8)])) (fun zt zk => XS.aload X86.here hx rfl (hb hby at_524) rfl rfl zk) ?_
  refine Go.st (T' := T86.setTop (mkF m 528 #[.val (.long q1), .second, .val (.int p3), .val (.long q4), .second, .val (.int p6), .val (.long (Int64.ofNat nv)), .second, .val (.int jc), .val (.ref b8), .val (.int (Int32.ofNat ne)), .val (.int (Int32.ofNat (own_st cs0 ne nv 18).2.1)), .val (.long (Int64.ofNat (own_st cs0 ne nv 18).2.2)), .second, .unset, .unset, .unset] [(.int (Int32.ofNat (own_st cs0 ne nv 18).2.1)), (.ref b8)])) (fun zt zk => XS.iload X86.here hx rfl (hb hby at_526) rfl zk) ?_
  refine Go.st (T' := T86.setTop (mkF m 530 #[.val (.long q1), .second, .val (.int p3), .val (.long q4), .second, .val (.int p6), .val (.long (Int64.ofNat nv)), .second, .val (.int jc), .val (.ref b8), .val (.int (Int32.ofNat ne)), .val (.int (Int32.ofNat (own_st cs0 ne nv 18).2.1)), .val (.long (Int64.ofNat (own_st cs0 ne nv 18).2.2)), .second, .unset, .unset, .unset] [(.long (Int64.ofNat (own_st cs0 ne nv 18).2.2)), (.int (Int32.ofNat (own_st cs0 ne nv 18).2.1)), (.ref b8)])) (fun zt zk => XS.lload X86.here hx rfl (hb hby at_528) rfl zk) ?_
  obtain ⟨vr89, _, ⟨T89, L89, k89, n89⟩, -, X89, ⟨Lc89, hQ89, l89, y89, z89⟩, st89⟩ := Jvm.LawKit.callS X86 hx (y := (⟨"com/example/beaulieu/beaulieu/model/DecimalParsePositivePinLaw", "put", "([CIJ)I"⟩ : MethodName)) hown (mvT hZ (hw _ (List.mem_of_getElem? (i := 6) rfl))) (mvT hZ (hw _ (List.mem_of_getElem? (i := 7) rfl))) (mvT hZ (hw _ (List.mem_of_getElem? (i := 8) rfl))) (mvT hZ (hw _ (List.mem_of_getElem? (i := 9) rfl))) (by decide) (backOf (W := 0) (rm2 l Z a0 hw b8 (own_st cs0 ne nv 18).2.1 (own_st cs0 ne nv 18).2.2 (own_st cs0 ne nv 18).1 k8 T86.heap n0 (Nat.le_trans Z0 KK87.1) Vq86 ((own_len cs0 ne nv 18).trans hl0) (own_stlt cs0 ne nv 18 hv2) (own_hi cs0 ne nv 18 hne1 hne2 (by decide)) g_b8) hZ (hw _ (List.mem_of_getElem? (i := 9) rfl)) (hw _ (List.mem_of_getElem? (i := 8) rfl)) (by decide) (by decide)) (g := (mkF m 530 #[.val (.long q1), .second, .val (.int p3), .val (.long q4), .second, .val (.int p6), .val (.long (Int64.ofNat nv)), .second, .val (.int jc), .val (.ref b8), .val (.int (Int32.ofNat ne)), .val (.int (Int32.ofNat (own_st cs0 ne nv 18).2.1)), .val (.long (Int64.ofNat (own_st cs0 ne nv 18).2.2)), .second, .unset, .unset, .unset] [(.long (Int64.ofNat (own_st cs0 ne nv 18).2.2)), (.int (Int32.ofNat (own_st cs0 ne nv 18).2.1)), (.ref b8)])) rfl (by rw [hml]; rfl) (argsL := [(.ref b8), (.int (Int32.ofNat (own_st cs0 ne nv 18).2.1)), (.long (Int64.ofNat (own_st cs0 ne nv 18).2.2))]) (rest := []) (lenOf pd_5e17a0d rfl) rfl (by show 2 * 0 + _ ≤ _; exact Nat.le_of_eq rfl) (hb hby at_530) (fun _ _ => ⟨rfl, rfl, (by decide : 1 + 0 ≤ _), (by decide : 23 + 0 ≤ _)⟩)
  dsimp only [Pt.U, Pt.locs, Pt.cells, Pt.slots] at X89 l89 y89 z89 st89 hQ89
  subst l89 y89 z89
  obtain ⟨rfl, Nq89, Kq89, Vq89⟩ := hQ89
  have KK90 : Keep h0 T89.heap [] := KK87.trans Kq89 (allS (Or.inr sz_b8) all0)
  have NN91 := Fr.app NN88 Nq89
  rw [own_stc cs0 ne nv 18 19 rfl] at Vq89
  refine Go.st (T' := T89.setTop (mkF m 533 #[.val (.long q1), .second, .val (.int p3), .val (.long q4), .second, .val (.int p6), .val (.long (Int64.ofNat nv)), .second, .val (.int jc), .val (.ref b8), .val (.int (Int32.ofNat ne)), .val (.int (Int32.ofNat (own_st cs0 ne nv 18).2.1)), .val (.long (Int64.ofNat (own_st cs0 ne nv 18).2.2)), .second, .unset, .unset, .unset] [(.int (Int32.ofNat (own_pi (own_st cs0 ne nv 18).2.1 (own_st cs0 ne nv 18).2.2)))])) (fun zt zk => st89 zt zk) ?_
  rw [own_sti cs0 ne nv 18 19 rfl]
  refine Go.st (T' := T89.setTop (mkF m 535 #[.val (.long q1), .second, .val (.int p3), .val (.long q4), .second, .val (.int p6), .val (.long (Int64.ofNat nv)), .second, .val (.int jc), .val (.ref b8), .val (.int (Int32.ofNat ne)), .val (.int (Int32.ofNat (own_st cs0 ne nv 19).2.1)), .val (.long (Int64.ofNat (own_st cs0 ne nv 18).2.2)), .second, .unset, .unset, .unset] [])) (fun zt zk => XS.istore X89.here hx rfl (hb hby at_533) rfl (l' := #[.val (.long q1), .second, .val (.int p3), .val (.long q4), .second, .val (.int p6), .val (.long (Int64.ofNat nv)), .second, .val (.int jc), .val (.ref b8), .val (.int (Int32.ofNat ne)), .val (.int (Int32.ofNat (own_st cs0 ne nv 19).2.1)), .val (.long (Int64.ofNat (own_st cs0 ne nv 18).2.2)), .second, .unset, .unset, .unset]) rfl zk) ?_
  refine Go.st (T' := T89.setTop (mkF m 537 #[.val (.long q1), .second, .val (.int p3), .val (.long q4), .second, .val (.int p6), .val (.long (Int64.ofNat nv)), .second, .val (.int jc), .val (.ref b8), .val (.int (Int32.ofNat ne)), .val (.int (Int32.ofNat (own_st cs0 ne nv 19).2.1)), .val (.long (Int64.ofNat (own_st cs0 ne nv 18).2.2)), .second, .unset, .unset, .unset] [(.long (Int64.ofNat (own_st cs0 ne nv 18).2.2))])) (fun zt zk => XS.lload X89.here hx rfl (hb hby at_535) rfl zk) ?_
  refine Go.st (T' := T89.setTop (mkF m 540 #[.val (.long q1), .second, .val (.int p3), .val (.long q4), .second, .val (.int p6), .val (.long (Int64.ofNat nv)), .second, .val (.int jc), .val (.ref b8), .val (.int (Int32.ofNat ne)), .val (.int (Int32.ofNat (own_st cs0 ne nv 19).2.1)), .val (.long (Int64.ofNat (own_st cs0 ne nv 18).2.2)), .second, .unset, .unset, .unset] [(.long (10 : Int64)), (.long (Int64.ofNat (own_st cs0 ne nv 18).2.2))])) (fun zt zk => X89.ldc2Long hx hown (mvT hZ (hw _ (List.mem_of_getElem? (i := 10) rfl))) (g := (mkF m 537 #[.val (.long q1), .second, .val (.int p3), .val (.long q4), .second, .val (.int p6), .val (.long (Int64.ofNat nv)), .second, .val (.int jc), .val (.ref b8), .val (.int (Int32.ofNat ne)), .val (.int (Int32.ofNat (own_st cs0 ne nv 19).2.1)), .val (.long (Int64.ofNat (own_st cs0 ne nv 18).2.2)), .second, .unset, .unset, .unset] [(.long (Int64.ofNat (own_st cs0 ne nv 18).2.2))])) rfl (hb hby at_537) zt zk) ?_
  refine Go.st (T' := T89.setTop (mkF m 541 #[.val (.long q1), .second, .val (.int p3), .val (.long q4), .second, .val (.int p6), .val (.long (Int64.ofNat nv)), .second, .val (.int jc), .val (.ref b8), .val (.int (Int32.ofNat ne)), .val (.int (Int32.ofNat (own_st cs0 ne nv 19).2.1)), .val (.long (Int64.ofNat (own_st cs0 ne nv 18).2.2)), .second, .unset, .unset, .unset] [(.long ((Int64.ofNat (own_st cs0 ne nv 18).2.2) / (10 : Int64)))])) (fun zt zk => XS.ldiv X89.here hx rfl (hb hby at_540) rfl (by decide) zk) ?_
  rw [own_stw cs0 ne nv 18 19 rfl hv2]
  refine Go.st (T' := T89.setTop (mkF m 543 #[.val (.long q1), .second, .val (.int p3), .val (.long q4), .second, .val (.int p6), .val (.long (Int64.ofNat nv)), .second, .val (.int jc), .val (.ref b8), .val (.int (Int32.ofNat ne)), .val (.int (Int32.ofNat (own_st cs0 ne nv 19).2.1)), .val (.long (Int64.ofNat (own_st cs0 ne nv 19).2.2)), .second, .unset, .unset, .unset] [])) (fun zt zk => XS.lstore X89.here hx rfl (hb hby at_541) rfl (l' := #[.val (.long q1), .second, .val (.int p3), .val (.long q4), .second, .val (.int p6), .val (.long (Int64.ofNat nv)), .second, .val (.int jc), .val (.ref b8), .val (.int (Int32.ofNat ne)), .val (.int (Int32.ofNat (own_st cs0 ne nv 19).2.1)), .val (.long (Int64.ofNat (own_st cs0 ne nv 19).2.2)), .second, .unset, .unset, .unset]) rfl zk) ?_
  obtain ⟨D, hD1, hD2, hD3, hD4, hD5, hD6⟩ := own_fin cs0 ne nv hl0 hne1 hne2 hv1 hv2
  refine Go.st (T' := T89.setTop (mkF m 545 #[.val (.long q1), .second, .val (.int p3), .val (.long q4), .second, .val (.int p6), .val (.long (Int64.ofNat nv)), .second, .val (.int jc), .val (.ref b8), .val (.int (Int32.ofNat ne)), .val (.int (Int32.ofNat (own_st cs0 ne nv 19).2.1)), .val (.long (Int64.ofNat (own_st cs0 ne nv 19).2.2)), .second, .unset, .unset, .unset] [(.int p6)])) (fun zt zk => XS.iload X89.here hx rfl (hb hby at_543) rfl zk) ?_
  refine Go.st (T' := T89.setTop (mkF m 547 #[.val (.long q1), .second, .val (.int p3), .val (.long q4), .second, .val (.int p6), .val (.long (Int64.ofNat nv)), .second, .val (.int jc), .val (.ref b8), .val (.int (Int32.ofNat ne)), .val (.int (Int32.ofNat (own_st cs0 ne nv 19).2.1)), .val (.long (Int64.ofNat (own_st cs0 ne nv 19).2.2)), .second, .unset, .unset, .unset] [(.int (10 : Int32)), (.int p6)])) (fun zt zk => XS.bipush X89.here hx rfl (hb hby at_545) zk) ?_
  refine Go.st (T' := T89.setTop (mkF m 548 #[.val (.long q1), .second, .val (.int p3), .val (.long q4), .second, .val (.int p6), .val (.long (Int64.ofNat nv)), .second, .val (.int jc), .val (.ref b8), .val (.int (Int32.ofNat ne)), .val (.int (Int32.ofNat (own_st cs0 ne nv 19).2.1)), .val (.long (Int64.ofNat (own_st cs0 ne nv 19).2.2)), .second, .unset, .unset, .unset] [(.int ((p6.toUInt32 >>> ((10 : Int32) &&& 31).toUInt32).toInt32))])) (fun zt zk => XS.iushr X89.here hx rfl (hb hby at_547) rfl zk) ?_
  refine Go.st (T' := T89.setTop (mkF m 549 #[.val (.long q1), .second, .val (.int p3), .val (.long q4), .second, .val (.int p6), .val (.long (Int64.ofNat nv)), .second, .val (.int jc), .val (.ref b8), .val (.int (Int32.ofNat ne)), .val (.int (Int32.ofNat (own_st cs0 ne nv 19).2.1)), .val (.long (Int64.ofNat (own_st cs0 ne nv 19).2.2)), .second, .unset, .unset, .unset] [(.int (1 : Int32)), (.int ((p6.toUInt32 >>> ((10 : Int32) &&& 31).toUInt32).toInt32))])) (fun zt zk => XS.iconst X89.here hx rfl (hb hby at_548) zk) ?_
  refine Go.st (T' := T89.setTop (mkF m 550 #[.val (.long q1), .second, .val (.int p3), .val (.long q4), .second, .val (.int p6), .val (.long (Int64.ofNat nv)), .second, .val (.int jc), .val (.ref b8), .val (.int (Int32.ofNat ne)), .val (.int (Int32.ofNat (own_st cs0 ne nv 19).2.1)), .val (.long (Int64.ofNat (own_st cs0 ne nv 19).2.2)), .second, .unset, .unset, .unset] [(.int (((p6.toUInt32 >>> ((10 : Int32) &&& 31).toUInt32).toInt32) &&& (1 : Int32)))])) (fun zt zk => XS.iand X89.here hx rfl (hb hby at_549) rfl zk) ?_
  suffices Jmx : ∀ mx : Int64, ((nv : Int) ≤ mx.toInt) → Go p e below (T89.setTop (mkF m 575 #[.val (.long q1), .second, .val (.int p3), .val (.long q4), .second, .val (.int p6), .val (.long (Int64.ofNat nv)), .second, .val (.int jc), .val (.ref b8), .val (.int (Int32.ofNat ne)), .val (.int (Int32.ofNat (own_st cs0 ne nv 19).2.1)), .val (.long (Int64.ofNat (own_st cs0 ne nv 19).2.2)), .second, .unset, .unset, .unset] [(.long mx)])) (EndN s (Q_rm0 Z q1 p3 q4 p6 h0 n0) room_1.cells room_1.slots) by
    by_cases hcmx : (((p6.toUInt32 >>> ((10 : Int32) &&& 31).toUInt32).toInt32) &&& (1 : Int32)) = (0 : Int32)
    ·
      refine Go.st (T' := T89.setTop (mkF m 558 #[.val (.long q1), .second, .val (.int p3), .val (.long q4), .second, .val (.int p6), .val (.long (Int64.ofNat nv)), .second, .val (.int jc), .val (.ref b8), .val (.int (Int32.ofNat ne)), .val (.int (Int32.ofNat (own_st cs0 ne nv 19).2.1)), .val (.long (Int64.ofNat (own_st cs0 ne nv 19).2.2)), .second, .unset, .unset, .unset] [])) (fun zt zk => XS.ifYes X89.here hx rfl (pc0 := 550) (pc' := 558) rfl (hb hby at_550) rfl ((if0 _ _).trans (teq hcmx).1) (by decide) (by decide) zk) ?_
      refine Go.st (T' := T89.setTop (mkF m 560 #[.val (.long q1), .second, .val (.int p3), .val (.long q4), .second, .val (.int p6), .val (.long (Int64.ofNat nv)), .second, .val (.int jc), .val (.ref b8), .val (.int (Int32.ofNat ne)), .val (.int (Int32.ofNat (own_st cs0 ne nv 19).2.1)), .val (.long (Int64.ofNat (own_st cs0 ne nv 19).2.2)), .second, .unset, .unset, .unset] [(.long (Int64.ofNat nv))])) (fun zt zk => XS.lload X89.here hx rfl (hb hby at_558) rfl zk) ?_
      refine Go.st (T' := T89.setTop (mkF m 561 #[.val (.long q1), .second, .val (.int p3), .val (.long q4), .second, .val (.int p6), .val (.long (Int64.ofNat nv)), .second, .val (.int jc), .val (.ref b8), .val (.int (Int32.ofNat ne)), .val (.int (Int32.ofNat (own_st cs0 ne nv 19).2.1)), .val (.long (Int64.ofNat (own_st cs0 ne nv 19).2.2)), .second, .unset, .unset, .unset] [(.long q4), (.long (Int64.ofNat nv))])) (fun zt zk => XS.lloadN X89.here hx rfl (hb hby at_560) rfl zk) ?_
      refine Go.st (T' := T89.setTop (mkF m 564 #[.val (.long q1), .second, .val (.int p3), .val (.long q4), .second, .val (.int p6), .val (.long (Int64.ofNat nv)), .second, .val (.int jc), .val (.ref b8), .val (.int (Int32.ofNat ne)), .val (.int (Int32.ofNat (own_st cs0 ne nv 19).2.1)), .val (.long (Int64.ofNat (own_st cs0 ne nv 19).2.2)), .second, .unset, .unset, .unset] [(.long (9223372036854775807 : Int64)), (.long q4), (.long (Int64.ofNat nv))])) (fun zt zk => X89.ldc2Long hx hown (mvT hZ (hw _ (List.mem_of_getElem? (i := 0) rfl))) (g := (mkF m 561 #[.val (.long q1), .second, .val (.int p3), .val (.long q4), .second, .val (.int p6), .val (.long (Int64.ofNat nv)), .second, .val (.int jc), .val (.ref b8), .val (.int (Int32.ofNat ne)), .val (.int (Int32.ofNat (own_st cs0 ne nv 19).2.1)), .val (.long (Int64.ofNat (own_st cs0 ne nv 19).2.2)), .second, .unset, .unset, .unset] [(.long q4), (.long (Int64.ofNat nv))])) rfl (hb hby at_561) zt zk) ?_
      refine Go.st (T' := T89.setTop (mkF m 565 #[.val (.long q1), .second, .val (.int p3), .val (.long q4), .second, .val (.int p6), .val (.long (Int64.ofNat nv)), .second, .val (.int jc), .val (.ref b8), .val (.int (Int32.ofNat ne)), .val (.int (Int32.ofNat (own_st cs0 ne nv 19).2.1)), .val (.long (Int64.ofNat (own_st cs0 ne nv 19).2.2)), .second, .unset, .unset, .unset] [(.long (q4 &&& (9223372036854775807 : Int64))), (.long (Int64.ofNat nv))])) (fun zt zk => XS.land X89.here hx rfl (hb hby at_564) rfl zk) ?_
      refine Go.st (T' := T89.setTop (mkF m 568 #[.val (.long q1), .second, .val (.int p3), .val (.long q4), .second, .val (.int p6), .val (.long (Int64.ofNat nv)), .second, .val (.int jc), .val (.ref b8), .val (.int (Int32.ofNat ne)), .val (.int (Int32.ofNat (own_st cs0 ne nv 19).2.1)), .val (.long (Int64.ofNat (own_st cs0 ne nv 19).2.2)), .second, .unset, .unset, .unset] [(.long (9223372036854775807 : Int64)), (.long (q4 &&& (9223372036854775807 : Int64))), (.long (Int64.ofNat nv))])) (fun zt zk => X89.ldc2Long hx hown (mvT hZ (hw _ (List.mem_of_getElem? (i := 0) rfl))) (g := (mkF m 565 #[.val (.long q1), .second, .val (.int p3), .val (.long q4), .second, .val (.int p6), .val (.long (Int64.ofNat nv)), .second, .val (.int jc), .val (.ref b8), .val (.int (Int32.ofNat ne)), .val (.int (Int32.ofNat (own_st cs0 ne nv 19).2.1)), .val (.long (Int64.ofNat (own_st cs0 ne nv 19).2.2)), .second, .unset, .unset, .unset] [(.long (q4 &&& (9223372036854775807 : Int64))), (.long (Int64.ofNat nv))])) rfl (hb hby at_565) zt zk) ?_
      refine Go.st (T' := T89.setTop (mkF m 570 #[.val (.long q1), .second, .val (.int p3), .val (.long q4), .second, .val (.int p6), .val (.long (Int64.ofNat nv)), .second, .val (.int jc), .val (.ref b8), .val (.int (Int32.ofNat ne)), .val (.int (Int32.ofNat (own_st cs0 ne nv 19).2.1)), .val (.long (Int64.ofNat (own_st cs0 ne nv 19).2.2)), .second, .unset, .unset, .unset] [(.long (Int64.ofNat nv)), (.long (9223372036854775807 : Int64)), (.long (q4 &&& (9223372036854775807 : Int64))), (.long (Int64.ofNat nv))])) (fun zt zk => XS.lload X89.here hx rfl (hb hby at_568) rfl zk) ?_
      refine Go.st (T' := T89.setTop (mkF m 571 #[.val (.long q1), .second, .val (.int p3), .val (.long q4), .second, .val (.int p6), .val (.long (Int64.ofNat nv)), .second, .val (.int jc), .val (.ref b8), .val (.int (Int32.ofNat ne)), .val (.int (Int32.ofNat (own_st cs0 ne nv 19).2.1)), .val (.long (Int64.ofNat (own_st cs0 ne nv 19).2.2)), .second, .unset, .unset, .unset] [(.long ((9223372036854775807 : Int64) - (Int64.ofNat nv))), (.long (q4 &&& (9223372036854775807 : Int64))), (.long (Int64.ofNat nv))])) (fun zt zk => XS.lsub X89.here hx rfl (hb hby at_570) rfl zk) ?_
      refine Go.st (T' := T89.setTop (mkF m 572 #[.val (.long q1), .second, .val (.int p3), .val (.long q4), .second, .val (.int p6), .val (.long (Int64.ofNat nv)), .second, .val (.int jc), .val (.ref b8), .val (.int (Int32.ofNat ne)), .val (.int (Int32.ofNat (own_st cs0 ne nv 19).2.1)), .val (.long (Int64.ofNat (own_st cs0 ne nv 19).2.2)), .second, .unset, .unset, .unset] [(.long (1 : Int64)), (.long ((9223372036854775807 : Int64) - (Int64.ofNat nv))), (.long (q4 &&& (9223372036854775807 : Int64))), (.long (Int64.ofNat nv))])) (fun zt zk => XS.lconst X89.here hx rfl (hb hby at_571) zk) ?_
      refine Go.st (T' := T89.setTop (mkF m 573 #[.val (.long q1), .second, .val (.int p3), .val (.long q4), .second, .val (.int p6), .val (.long (Int64.ofNat nv)), .second, .val (.int jc), .val (.ref b8), .val (.int (Int32.ofNat ne)), .val (.int (Int32.ofNat (own_st cs0 ne nv 19).2.1)), .val (.long (Int64.ofNat (own_st cs0 ne nv 19).2.2)), .second, .unset, .unset, .unset] [(.long (((9223372036854775807 : Int64) - (Int64.ofNat nv)) + (1 : Int64))), (.long (q4 &&& (9223372036854775807 : Int64))), (.long (Int64.ofNat nv))])) (fun zt zk => XS.ladd X89.here hx rfl (hb hby at_572) rfl zk) ?_
      refine Go.st (T' := T89.setTop (mkF m 574 #[.val (.long q1), .second, .val (.int p3), .val (.long q4), .second, .val (.int p6), .val (.long (Int64.ofNat nv)), .second, .val (.int jc), .val (.ref b8), .val (.int (Int32.ofNat ne)), .val (.int (Int32.ofNat (own_st cs0 ne nv 19).2.1)), .val (.long (Int64.ofNat (own_st cs0 ne nv 19).2.2)), .second, .unset, .unset, .unset] [(.long ((q4 &&& (9223372036854775807 : Int64)) - ((q4 &&& (9223372036854775807 : Int64)) / (((9223372036854775807 : Int64) - (Int64.ofNat nv)) + (1 : Int64))) * (((9223372036854775807 : Int64) - (Int64.ofNat nv)) + (1 : Int64)))), (.long (Int64.ofNat nv))])) (fun zt zk => XS.lrem X89.here hx rfl (hb hby at_573) rfl (own_mxn hv1 hv2) zk) ?_
      refine Go.st (T' := T89.setTop (mkF m 575 #[.val (.long q1), .second, .val (.int p3), .val (.long q4), .second, .val (.int p6), .val (.long (Int64.ofNat nv)), .second, .val (.int jc), .val (.ref b8), .val (.int (Int32.ofNat ne)), .val (.int (Int32.ofNat (own_st cs0 ne nv 19).2.1)), .val (.long (Int64.ofNat (own_st cs0 ne nv 19).2.2)), .second, .unset, .unset, .unset] [(.long ((Int64.ofNat nv) + ((q4 &&& (9223372036854775807 : Int64)) - ((q4 &&& (9223372036854775807 : Int64)) / (((9223372036854775807 : Int64) - (Int64.ofNat nv)) + (1 : Int64))) * (((9223372036854775807 : Int64) - (Int64.ofNat nv)) + (1 : Int64)))))])) (fun zt zk => XS.ladd X89.here hx rfl (hb hby at_574) rfl zk) ?_
      exact Jmx _ (own_mx hv1 hv2 q4)
    ·
      refine Go.st (T' := T89.setTop (mkF m 553 #[.val (.long q1), .second, .val (.int p3), .val (.long q4), .second, .val (.int p6), .val (.long (Int64.ofNat nv)), .second, .val (.int jc), .val (.ref b8), .val (.int (Int32.ofNat ne)), .val (.int (Int32.ofNat (own_st cs0 ne nv 19).2.1)), .val (.long (Int64.ofNat (own_st cs0 ne nv 19).2.2)), .second, .unset, .unset, .unset] [])) (fun zt zk => XS.ifNo X89.here hx rfl (hb hby at_550) rfl ((if0 _ _).trans (feq hcmx).1) zk) ?_
      refine Go.st (T' := T89.setTop (mkF m 555 #[.val (.long q1), .second, .val (.int p3), .val (.long q4), .second, .val (.int p6), .val (.long (Int64.ofNat nv)), .second, .val (.int jc), .val (.ref b8), .val (.int (Int32.ofNat ne)), .val (.int (Int32.ofNat (own_st cs0 ne nv 19).2.1)), .val (.long (Int64.ofNat (own_st cs0 ne nv 19).2.2)), .second, .unset, .unset, .unset] [(.long (Int64.ofNat nv))])) (fun zt zk => XS.lload X89.here hx rfl (hb hby at_553) rfl zk) ?_
      refine Go.st (T' := T89.setTop (mkF m 575 #[.val (.long q1), .second, .val (.int p3), .val (.long q4), .second, .val (.int p6), .val (.long (Int64.ofNat nv)), .second, .val (.int jc), .val (.ref b8), .val (.int (Int32.ofNat ne)), .val (.int (Int32.ofNat (own_st cs0 ne nv 19).2.1)), .val (.long (Int64.ofNat (own_st cs0 ne nv 19).2.2)), .second, .unset, .unset, .unset] [(.long (Int64.ofNat nv))])) (fun zt zk => XS.goto X89.here hx rfl (pc0 := 555) (pc' := 575) rfl (hb hby at_555) (by decide) (by decide) zk) ?_
      exact Jmx _ (Int.le_of_eq (own_l hv2).symm)
  intro mx h_mx
  refine Go.st (T' := T89.setTop (mkF m 577 #[.val (.long q1), .second, .val (.int p3), .val (.long q4), .second, .val (.int p6), .val (.long (Int64.ofNat nv)), .second, .val (.int jc), .val (.ref b8), .val (.int (Int32.ofNat ne)), .val (.int (Int32.ofNat (own_st cs0 ne nv 19).2.1)), .val (.long (Int64.ofNat (own_st cs0 ne nv 19).2.2)), .second, .val (.long mx), .second, .unset] [])) (fun zt zk => XS.lstore X89.here hx rfl (hb hby at_575) rfl (l' := #[.val (.long q1), .second, .val (.int p3), .val (.long q4), .second, .val (.int p6), .val (.long (Int64.ofNat nv)), .second, .val (.int jc), .val (.ref b8), .val (.int (Int32.ofNat ne)), .val (.int (Int32.ofNat (own_st cs0 ne nv 19).2.1)), .val (.long (Int64.ofNat (own_st cs0 ne nv 19).2.2)), .second, .val (.long mx), .second, .unset]) rfl zk) ?_
  obtain ⟨T92, h92, X92, e92, E92, A92, D92, -, st92⟩ := newO X89 hx hZ hown (hw _ (List.mem_of_getElem? (i := 11) rfl)) (hw _ (List.mem_of_getElem? (i := 12) rfl)) (hw _ (List.mem_of_getElem? (i := 13) rfl)) rfl (g := (mkF m 577 #[.val (.long q1), .second, .val (.int p3), .val (.long q4), .second, .val (.int p6), .val (.long (Int64.ofNat nv)), .second, .val (.int jc), .val (.ref b8), .val (.int (Int32.ofNat ne)), .val (.int (Int32.ofNat (own_st cs0 ne nv 19).2.1)), .val (.long (Int64.ofNat (own_st cs0 ne nv 19).2.2)), .second, .val (.long mx), .second, .unset] [])) rfl (hb hby at_577) (by decide) (by decide)
  obtain ⟨b92, g92⟩ : ∃ z, z = T89.heap.size := ⟨_, rfl⟩
  rw [← g92] at A92 D92 st92
  have g_b92 : n0 ≤ b92 := Nat.le_trans (Nat.le_trans Z0 KK90.1) (Nat.le_of_eq g92.symm)
  have sz_b92 : h0.size ≤ b92 := Nat.le_trans KK90.1 (Nat.le_of_eq g92.symm)
  have ne93 : b8 ≠ b92 := Nat.ne_of_lt (Nat.lt_of_lt_of_le Vq89.lt (Nat.le_of_eq g92.symm))
  have K92 : Keep h0 h92 [] := KK90.ext E92
  have Fn92_coder : Fld Z h92 b92 "java/lang/String" "coder" "B" (.int (0 : Int32)) := D92 (Or.inr (hw _ (List.mem_of_getElem? (i := 37) rfl))) (ty := .byte) (by decide)
  have Fn92_value : Fld Z h92 b92 "java/lang/String" "value" "[B" .null := D92 (Or.inr (hw _ (List.mem_of_getElem? (i := 39) rfl))) (ty := (.array .byte)) (by decide)
  refine Go.st (T' := T92.setTop (mkF m 580 #[.val (.long q1), .second, .val (.int p3), .val (.long q4), .second, .val (.int p6), .val (.long (Int64.ofNat nv)), .second, .val (.int jc), .val (.ref b8), .val (.int (Int32.ofNat ne)), .val (.int (Int32.ofNat (own_st cs0 ne nv 19).2.1)), .val (.long (Int64.ofNat (own_st cs0 ne nv 19).2.2)), .second, .val (.long mx), .second, .unset] [(.ref b92)])) (fun zt zk => st92 zt zk) ?_
  refine Go.st (T' := T92.setTop (mkF m 581 #[.val (.long q1), .second, .val (.int p3), .val (.long q4), .second, .val (.int p6), .val (.long (Int64.ofNat nv)), .second, .val (.int jc), .val (.ref b8), .val (.int (Int32.ofNat ne)), .val (.int (Int32.ofNat (own_st cs0 ne nv 19).2.1)), .val (.long (Int64.ofNat (own_st cs0 ne nv 19).2.2)), .second, .val (.long mx), .second, .unset] [(.ref b92), (.ref b92)])) (fun zt zk => XS.dup X92.here hx rfl (hb hby at_580) rfl rfl zk) ?_
  refine Go.st (T' := T92.setTop (mkF m 583 #[.val (.long q1), .second, .val (.int p3), .val (.long q4), .second, .val (.int p6), .val (.long (Int64.ofNat nv)), .second, .val (.int jc), .val (.ref b8), .val (.int (Int32.ofNat ne)), .val (.int (Int32.ofNat (own_st cs0 ne nv 19).2.1)), .val (.long (Int64.ofNat (own_st cs0 ne nv 19).2.2)), .second, .val (.long mx), .second, .unset] [(.ref b8), (.ref b92), (.ref b92)])) (fun zt zk => XS.aload X92.here hx rfl (hb hby at_581) rfl rfl zk) ?_
  have hws : ∀ d ∈ StrChars.Road.words, d.before a0 Z = true := fun d hd => hw d ((by decide +kernel : ∀ d ∈ StrChars.Road.words, d ∈ tables_1) d hd)
  have hp := own_bnd cs0 ne nv 19 hb0
  have hl : (own_st cs0 ne nv 19).1.length = 23 := by rw [own_len]; exact hl0
  have f94 : Arv Z h92 b8 k8 .char (23 : Int32) ((own_st cs0 ne nv 19).1.map Value.int) (.int (0 : Int32)) := (Vq89.ext E92)
  obtain ⟨vr95, _, ⟨T95, L95, k95, n95⟩, -, X95, ⟨Lc95, hQ95, l95, y95, z95⟩, st95⟩ := X92.specialBack hx (y := (⟨"java/lang/String", "<init>", "([C)V"⟩ : MethodName)) rfl hown (mvT hZ (hw _ (List.mem_of_getElem? (i := 14) rfl))) (mvT hZ (hw _ (List.mem_of_getElem? (i := 15) rfl))) (mvT hZ (hw _ (List.mem_of_getElem? (i := 16) rfl))) (by decide) (StrChars.Road.backV (W := 1) hZ hws (kI := 4) (hw _ (List.mem_of_getElem? (i := 12) rfl)) (cs := (own_st cs0 ne nv 19).1) (bs := ((own_st cs0 ne nv 19).1).map (fun c => c.toInt8.toInt32)) (n := 23) g_b92 (Nat.le_trans Z0 K92.1) A92 Fn92_value Fn92_coder f94 (O2.ext (X00.keep K92 all0).2) P5 hl rfl (by decide) (by decide) hp rfl (by decide) (by decide)) (g := (mkF m 583 #[.val (.long q1), .second, .val (.int p3), .val (.long q4), .second, .val (.int p6), .val (.long (Int64.ofNat nv)), .second, .val (.int jc), .val (.ref b8), .val (.int (Int32.ofNat ne)), .val (.int (Int32.ofNat (own_st cs0 ne nv 19).2.1)), .val (.long (Int64.ofNat (own_st cs0 ne nv 19).2.2)), .second, .val (.long mx), .second, .unset] [(.ref b8), (.ref b92), (.ref b92)])) rfl (by rw [hml]; rfl) (Steps.refl _) (a := b92) (argsL := [(.ref b8)]) (rest := [(.ref b92)]) (lenOf pd_a67b36d rfl) rfl (by show 2 * 0 + _ ≤ _; exact Nat.le_of_eq rfl) (hb hby at_583) (fun _ _ => ⟨rfl, e92, (by decide : 2 + 1 ≤ _), (by decide : 27 + 23 ≤ _)⟩)
  dsimp only [Pt.U, Pt.locs, Pt.cells, Pt.slots] at X95 l95 y95 z95 st95 hQ95
  subst l95 y95 z95
  obtain ⟨rfl, Nq95, Kq95, Eq95, Cq95, bt95, kt95, ut95, vt95, wt95, Vq95, Bq95⟩ := hQ95
  have KK96 : Keep h0 T95.heap [] := K92.trans Kq95 (allS (Or.inr sz_b92) all0)
  have NN97 := Fr.app NN91 Nq95
  refine Go.st (T' := T95.setTop (mkF m 586 #[.val (.long q1), .second, .val (.int p3), .val (.long q4), .second, .val (.int p6), .val (.long (Int64.ofNat nv)), .second, .val (.int jc), .val (.ref b8), .val (.int (Int32.ofNat ne)), .val (.int (Int32.ofNat (own_st cs0 ne nv 19).2.1)), .val (.long (Int64.ofNat (own_st cs0 ne nv 19).2.2)), .second, .val (.long mx), .second, .unset] [(.ref b92)])) (fun zt zk => st95.trans zk) ?_
  refine Go.st (T' := T95.setTop (mkF m 588 #[.val (.long q1), .second, .val (.int p3), .val (.long q4), .second, .val (.int p6), .val (.long (Int64.ofNat nv)), .second, .val (.int jc), .val (.ref b8), .val (.int (Int32.ofNat ne)), .val (.int (Int32.ofNat (own_st cs0 ne nv 19).2.1)), .val (.long (Int64.ofNat (own_st cs0 ne nv 19).2.2)), .second, .val (.long mx), .second, .val (.ref b92)] [])) (fun zt zk => XS.astore X95.here hx rfl (hb hby at_586) rfl rfl (l' := #[.val (.long q1), .second, .val (.int p3), .val (.long q4), .second, .val (.int p6), .val (.long (Int64.ofNat nv)), .second, .val (.int jc), .val (.ref b8), .val (.int (Int32.ofNat ne)), .val (.int (Int32.ofNat (own_st cs0 ne nv 19).2.1)), .val (.long (Int64.ofNat (own_st cs0 ne nv 19).2.2)), .second, .val (.long mx), .second, .val (.ref b92)]) rfl zk) ?_
  refine Go.st (T' := T95.setTop (mkF m 590 #[.val (.long q1), .second, .val (.int p3), .val (.long q4), .second, .val (.int p6), .val (.long (Int64.ofNat nv)), .second, .val (.int jc), .val (.ref b8), .val (.int (Int32.ofNat ne)), .val (.int (Int32.ofNat (own_st cs0 ne nv 19).2.1)), .val (.long (Int64.ofNat (own_st cs0 ne nv 19).2.2)), .second, .val (.long mx), .second, .val (.ref b92)] [(.ref b92)])) (fun zt zk => XS.aload X95.here hx rfl (hb hby at_588) rfl rfl zk) ?_
  refine Go.st (T' := T95.setTop (mkF m 592 #[.val (.long q1), .second, .val (.int p3), .val (.long q4), .second, .val (.int p6), .val (.long (Int64.ofNat nv)), .second, .val (.int jc), .val (.ref b8), .val (.int (Int32.ofNat ne)), .val (.int (Int32.ofNat (own_st cs0 ne nv 19).2.1)), .val (.long (Int64.ofNat (own_st cs0 ne nv 19).2.2)), .second, .val (.long mx), .second, .val (.ref b92)] [(.int (Int32.ofNat (own_st cs0 ne nv 19).2.1)), (.ref b92)])) (fun zt zk => XS.iload X95.here hx rfl (hb hby at_590) rfl zk) ?_
  refine Go.st (T' := T95.setTop (mkF m 594 #[.val (.long q1), .second, .val (.int p3), .val (.long q4), .second, .val (.int p6), .val (.long (Int64.ofNat nv)), .second, .val (.int jc), .val (.ref b8), .val (.int (Int32.ofNat ne)), .val (.int (Int32.ofNat (own_st cs0 ne nv 19).2.1)), .val (.long (Int64.ofNat (own_st cs0 ne nv 19).2.2)), .second, .val (.long mx), .second, .val (.ref b92)] [(.int (Int32.ofNat ne)), (.int (Int32.ofNat (own_st cs0 ne nv 19).2.1)), (.ref b92)])) (fun zt zk => XS.iload X95.here hx rfl (hb hby at_592) rfl zk) ?_
  refine Go.st (T' := T95.setTop (mkF m 596 #[.val (.long q1), .second, .val (.int p3), .val (.long q4), .second, .val (.int p6), .val (.long (Int64.ofNat nv)), .second, .val (.int jc), .val (.ref b8), .val (.int (Int32.ofNat ne)), .val (.int (Int32.ofNat (own_st cs0 ne nv 19).2.1)), .val (.long (Int64.ofNat (own_st cs0 ne nv 19).2.2)), .second, .val (.long mx), .second, .val (.ref b92)] [(.long mx), (.int (Int32.ofNat ne)), (.int (Int32.ofNat (own_st cs0 ne nv 19).2.1)), (.ref b92)])) (fun zt zk => XS.lload X95.here hx rfl (hb hby at_594) rfl zk) ?_
  rw [hD3]
  obtain ⟨vr98, _, ⟨T98, L98, k98, n98⟩, -, X98, ⟨Lc98, hQ98, l98, y98, z98⟩, st98⟩ := Jvm.LawKit.callS X95 hx (y := (⟨"com/example/beaulieu/beaulieu/model/Decimal", "parsePositive", "(Ljava/lang/CharSequence;IIJ)J"⟩ : MethodName)) hown (mvT hZ (hw _ (List.mem_of_getElem? (i := 40) rfl))) (mvT hZ (hw _ (List.mem_of_getElem? (i := 41) rfl))) (mvT hZ (hw _ (List.mem_of_getElem? (i := 42) rfl))) (mvT hZ (hw _ (List.mem_of_getElem? (i := 43) rfl))) (by decide) (backOf (W := 0) (rm9 l Z a0 hw b92 bt95 kt95 (own_st cs0 ne nv 19).1 ne D nv mx T95.heap n0 (Nat.le_trans Z0 KK96.1) G1 G3 O2 O4 P5 rG3 (X00.keep KK96 all0) Eq95 Vq95 Cq95 Bq95 hp hl hD1 (Nat.le_trans hD2 hne1) hne2 hv2 hD4 hD5 hD6 h_mx) hZ (hw _ (List.mem_of_getElem? (i := 43) rfl)) (hw _ (List.mem_of_getElem? (i := 42) rfl)) (by decide) (by decide)) (g := (mkF m 596 #[.val (.long q1), .second, .val (.int p3), .val (.long q4), .second, .val (.int p6), .val (.long (Int64.ofNat nv)), .second, .val (.int jc), .val (.ref b8), .val (.int (Int32.ofNat ne)), .val (.int (Int32.ofNat (ne - D))), .val (.long (Int64.ofNat (own_st cs0 ne nv 19).2.2)), .second, .val (.long mx), .second, .val (.ref b92)] [(.long mx), (.int (Int32.ofNat ne)), (.int (Int32.ofNat (ne - D))), (.ref b92)])) rfl (by rw [hml]; rfl) (argsL := [(.ref b92), (.int (Int32.ofNat (ne - D))), (.int (Int32.ofNat ne)), (.long mx)]) (rest := []) (lenOf pd_7130af9 rfl) rfl (by show 2 * 0 + _ ≤ _; exact Nat.le_of_eq rfl) (hb hby at_596) (fun _ _ => ⟨rfl, rfl, (by decide : 3 + 0 ≤ _), (by decide : 50 + 0 ≤ _)⟩)
  dsimp only [Pt.U, Pt.locs, Pt.cells, Pt.slots] at X98 l98 y98 z98 st98 hQ98
  subst l98 y98 z98
  obtain ⟨rfl, Nq98, eq98⟩ := hQ98
  have NN99 := Fr.app NN97 Nq98
  refine Go.st (T' := T98.setTop (mkF m 599 #[.val (.long q1), .second, .val (.int p3), .val (.long q4), .second, .val (.int p6), .val (.long (Int64.ofNat nv)), .second, .val (.int jc), .val (.ref b8), .val (.int (Int32.ofNat ne)), .val (.int (Int32.ofNat (ne - D))), .val (.long (Int64.ofNat (own_st cs0 ne nv 19).2.2)), .second, .val (.long mx), .second, .val (.ref b92)] [(.long (Int64.ofNat nv))])) (fun zt zk => st98 zt zk) ?_
  refine Go.st (T' := T98.setTop (mkF m 601 #[.val (.long q1), .second, .val (.int p3), .val (.long q4), .second, .val (.int p6), .val (.long (Int64.ofNat nv)), .second, .val (.int jc), .val (.ref b8), .val (.int (Int32.ofNat ne)), .val (.int (Int32.ofNat (ne - D))), .val (.long (Int64.ofNat (own_st cs0 ne nv 19).2.2)), .second, .val (.long mx), .second, .val (.ref b92)] [(.long (Int64.ofNat nv)), (.long (Int64.ofNat nv))])) (fun zt zk => XS.lload X98.here hx rfl (hb hby at_599) rfl zk) ?_
  refine Go.st (T' := T98.setTop (mkF m 602 #[.val (.long q1), .second, .val (.int p3), .val (.long q4), .second, .val (.int p6), .val (.long (Int64.ofNat nv)), .second, .val (.int jc), .val (.ref b8), .val (.int (Int32.ofNat ne)), .val (.int (Int32.ofNat (ne - D))), .val (.long (Int64.ofNat (own_st cs0 ne nv 19).2.2)), .second, .val (.long mx), .second, .val (.ref b92)] [(.int (lcmpW (Int64.ofNat nv) (Int64.ofNat nv)))])) (fun zt zk => XS.lcmp X98.here hx rfl (hb hby at_601) rfl zk) ?_
  refine Go.st (T' := T98.setTop (mkF m 605 #[.val (.long q1), .second, .val (.int p3), .val (.long q4), .second, .val (.int p6), .val (.long (Int64.ofNat nv)), .second, .val (.int jc), .val (.ref b8), .val (.int (Int32.ofNat ne)), .val (.int (Int32.ofNat (ne - D))), .val (.long (Int64.ofNat (own_st cs0 ne nv 19).2.2)), .second, .val (.long mx), .second, .val (.ref b92)] [])) (fun zt zk => XS.ifNo X98.here hx rfl (hb hby at_602) rfl ((if0 _ _).trans (teq ((lw_eq _ _).mpr rfl)).2) zk) ?_
  refine Go.st (T' := T98.setTop (mkF m 606 #[.val (.long q1), .second, .val (.int p3), .val (.long q4), .second, .val (.int p6), .val (.long (Int64.ofNat nv)), .second, .val (.int jc), .val (.ref b8), .val (.int (Int32.ofNat ne)), .val (.int (Int32.ofNat (ne - D))), .val (.long (Int64.ofNat (own_st cs0 ne nv 19).2.2)), .second, .val (.long mx), .second, .val (.ref b92)] [(.int (1 : Int32))])) (fun zt zk => XS.iconst X98.here hx rfl (hb hby at_605) zk) ?_
  refine Go.st (T' := T98.setTop (mkF m 610 #[.val (.long q1), .second, .val (.int p3), .val (.long q4), .second, .val (.int p6), .val (.long (Int64.ofNat nv)), .second, .val (.int jc), .val (.ref b8), .val (.int (Int32.ofNat ne)), .val (.int (Int32.ofNat (ne - D))), .val (.long (Int64.ofNat (own_st cs0 ne nv 19).2.2)), .second, .val (.long mx), .second, .val (.ref b92)] [(.int (1 : Int32))])) (fun zt zk => XS.goto X98.here hx rfl (pc0 := 606) (pc' := 610) rfl (hb hby at_606) (by decide) (by decide) zk) ?_
  exact Go.done X98 Bd.notSynchronized (v := some (.int (nar .boolean (1 : Int32)))) (fun h => by rw [Bd.returns] at h; cases h) (fun fs hr => retN X98 hx (t := .boolean) Bd.returns (by simp) (hb hby at_610) hr) (by rw [eq98]; exact ⟨rfl, NN99⟩) (by decide) (by decide)
set_option maxRecDepth 65536 in
set_option maxHeartbeats 40000000 in
theorem comes_1 {Post : Tables → Env → Array Value → State → Outcome → State → Prop} (hpost : ∀ tb e args s v u, (limb_1_1.after args s (.returned v) u = true ∧ limb_1_2.after args s (.returned v) u = true ∧ True) → FrameEnd s (.returned v) u (Jvm.fieldLocs frame_1_writes args s ++ Jvm.arrayLocs frame_1_arrays args s ++ Jvm.staticLocs frame_1_statics s) 16 192 → Post tb e args s (.returned v) u) :
    ArmFor flags0 classFile x code maxLocals ret World_1 tables_1 room_1 Calls_1 rest_1 Pre_1 Post := by
  intro l hfl _ _ p e ha hc hk s m args below hf hA hF happ hP
  obtain ⟨hcalls, hrest, hpre⟩ := hP
  obtain ⟨-, -, -, hnamed, -, -, -, hat⟩ := (Spec.applies_iff hf).mp happ
  obtain ⟨hg, hn⟩ := and_e (Cond.before_iff.mp (show (Jvm.Cond.and given_1 narrow_1).before args s = true from hpre))
  obtain ⟨gc, gr0⟩ := and_e hg
  obtain ⟨ga0, gr1⟩ := and_e gr0
  obtain ⟨ga1, gr2⟩ := and_e gr1
  obtain ⟨ga2, gr3⟩ := and_e gr2
  obtain ⟨w0, w1, w2, w3, rfl⟩ : ∃ w0 w1 w2 w3 : Value, args = #[w0, w1, w2, w3] := by
    have hs : args.size = 4 := by simpa [Cond.value, given_1] using gc
    obtain ⟨L⟩ := args
    match L, hs with
    | [w0, w1, w2, w3], _ => exact ⟨w0, w1, w2, w3, rfl⟩
  have hw := fun d (hd : d ∈ tables_1) => atoms_spec (ws := Jvm.Cond.code x code maxLocals ret :: tables_1) hat d (List.mem_cons_of_mem _ hd)
  have hfit : Fit s := fun {y c} hc i hi => by
    obtain ⟨ha, rfl⟩ := Array.getElem?_eq_some_iff.mp hc
    have q := List.all_eq_true.mp ((Array.all_eq_true_iff_forall_mem.mp hF) _ (Array.getElem_mem ha)) i (List.mem_range.mpr hi)
    simpa [Array.getElem?_eq_getElem hi] using q
  obtain ⟨i0, ei0⟩ := isL_v ga0
  obtain rfl : w0 = (.long i0) := Option.some.inj ei0
  obtain ⟨i1, ei1⟩ := is_v ga1
  obtain rfl : w1 = (.int i1) := Option.some.inj ei1
  obtain ⟨i2, ei2⟩ := isL_v ga2
  obtain rfl : w2 = (.long i2) := Option.some.inj ei2
  obtain ⟨i3, ei3⟩ := is_v gr3
  obtain rfl : w3 = (.int i3) := Option.some.inj ei3
  obtain ⟨hsets, hown0⟩ := atoms_of _ (rest_1_c_eq ▸ (show rest_1_c.before _ s = true from hrest))
  have n5 := not_v (Cond.before_iff.mp (hsets _ (List.mem_of_getElem? (i := 2) rfl)))
  obtain ⟨iC, eC⟩ := is_v (Cond.before_iff.mp (hsets _ (List.mem_of_getElem? (i := 1) rfl)))
  have SC : Sta s s.heap "java/lang/String" "COMPACT_STRINGS" "Z" (.int iC) := Sta.start eC (Or.inl (hsets _ (List.mem_of_getElem? (i := 0) rfl)))
  have cC : ¬ (iC = (0 : Int32)) := gotF (Cond.eq_ints eC (Term.int_eval (0))) n5
  obtain ⟨vS, eS, rS⟩ := isR_v (Cond.before_iff.mp (hsets _ (List.mem_of_getElem? (i := 8) rfl)))
  have SS : Sta s s.heap "jdk/internal/util/Preconditions" "SIOOBE_FORMATTER" "Ljava/util/function/BiFunction;" vS := Sta.start eS (Or.inl (hsets _ (List.mem_of_getElem? (i := 7) rfl)))
  obtain ⟨n, o, h1, h2, h3, _, L, rfl, ⟨rfl, N⟩, hq⟩ := rm0 l s _ hw tables_1 i0 i1 i2 i3 s.heap s.heap.size (Nat.le_refl _) iC vS SC SS cC rS (Old.start s) p e ha hc hk s m _ below hf ((Spec.applies_iff_loose hf).mp happ).1 ⟨rfl, State.Warmed39.refl s, rfl⟩ trivial
  refine ⟨n, _, h1, h2, h3, hpost _ _ _ _ _ _ ⟨Cond.after_iff.mpr rfl, Cond.after_iff.mpr (eq_i res_at (Term.int_eval (1)) rfl), trivial⟩ ⟨hq.1, hq.2.1, (hq.2.2.sift fun y hy => Or.inr (N y hy)).mono (by decide) (by decide)⟩⟩
theorem main_1_1 : Claimed_1_1 := comes_1 fun _ _ _ _ _ _ h hF => ⟨h.1, hF⟩
theorem main_1_2 : Claimed_1_2 := comes_1 fun _ _ _ _ _ _ h hF => ⟨h.2.1, hF⟩
end Jvm.Pilot.@@N@@
namespace Jvm.Pilot.@@N@@
open Jvm Jvm.ClassFile Sem Op Lib Jvm.Free Jvm.Stand Jvm.Pilot.@@N@@.Jvm.D
/-! MADE BY PROGRAM (witnessworld.py) out of the Statement's table words and the real class files: 21 classes; the members and pool entries that the words name. The judged class is class 1, her method 2. -/
namespace start1
open Jvm.ClassFile
def u (s : String) : CpInfo := .utf8 (stringToUtf16 s)
/-- a pool by its gaps: so many unusable entries, then the entry; so many at the end -/
def gap : Nat → List CpInfo → List CpInfo
  | 0, r => r
  | n + 1, r => .unusable :: gap n r
def poolList (es : List (Nat × CpInfo)) (last : Nat) : List CpInfo := es.foldr (fun e r => gap e.1 (e.2 :: r)) (gap last [])
def pool (es : List (Nat × CpInfo)) (last : Nat) : Array CpInfo := ⟨poolList es last⟩
def fileOf (pool : Array CpInfo) (this : Nat) (attrs : Array Attribute := #[]) (ms : Array MethodInfo := #[]) (fl : Nat := 33) (sup : Nat := 0) (ifs : Array Nat := #[]) (fds : Array FieldInfo := #[]) : ClassFile where
  minorVersion := 0
  majorVersion := 65
  constantPool := pool
  accessFlags := fl
  thisClass := this
  superClass := sup
  interfaces := ifs
  fields := fds
  methods := ms
  attributes := attrs
def plain (name : String) (sup : Option ClassId) : Class where
  name := name
  kind := .ordinary
  loader := none
  accessFlags := 33
  super := sup
  interfaces := #[]
  cf := none
  fields := #[]
  methods := #[]
  instanceTypes := #[]
  staticTypes := #[]
  resolved := #[]
  callSites := []
  init := .initialized
  statics := none
  mirror := none

def pool0 : Array CpInfo := pool [(5, u "<init>"), (0, u "()V"), (1, .class_ 10), (1, u "java/lang/Object")] 113

def k0c0 : Code := { maxStack := 0, maxLocals := 1, code := object_method_1_code, exceptionTable := #[], attributes := #[] }
def k0m0 : Method := { name := "<init>", desc := "()V", sig := { parameters := [], returnType := none }, accessFlags := 1, code := some k0c0 }
/-- java/lang/Object -/
def k0 : Class := { plain "java/lang/Object" none with
  accessFlags := 33
  interfaces := #[]
  cf := some (fileOf pool0 8 #[] #[{ accessFlags := 1, nameIndex := 5, descriptorIndex := 6, attributes := #[] }] 33 0 #[] #[])
  fields := #[]
  methods := #[k0m0]
  instanceTypes := #[]
  staticTypes := #[]
  resolved := Array.replicate 124 none
  statics := none }

def pool1 : Array CpInfo := pool [(2, .class_ 4), (1, u "java/lang/Object"), (0, u "<init>"), (0, u "()V"), (0, .long 10), (3, .long 9223372036854775807), (1, .methodref 14 15), (0, .class_ 16), (0, .nameAndType 17 18), (0, u "java/lang/Math"), (0, u "max"), (0, u "(JJ)J"), (0, .methodref 20 21), (0, .class_ 22), (0, .nameAndType 23 24), (0, u "com/example/beaulieu/beaulieu/model/DecimalParsePositivePinLaw"), (0, u "put"), (0, u "([CIJ)I"), (0, .class_ 26), (0, u "java/lang/String"), (0, .methodref 25 28), (0, .nameAndType 5 29), (0, u "([C)V"), (0, .methodref 31 32), (0, .class_ 33), (0, .nameAndType 34 35), (0, u "com/example/beaulieu/beaulieu/model/Decimal"), (0, u "parsePositive"), (0, u "(Ljava/lang/CharSequence;IIJ)J"), (3, u "law"), (0, u "(JIJI)Z")] 4

def k1m0 : Method := { name := "<init>", desc := "()V", sig := { parameters := [], returnType := none }, accessFlags := 1, code := none }
def k1c1 : Code := { maxStack := 7, maxLocals := 4, code := method_2_code, exceptionTable := #[], attributes := #[] }
def k1m1 : Method := { name := "put", desc := "([CIJ)I", sig := { parameters := [(.array .char), .int, .long], returnType := some .int }, accessFlags := 10, code := some k1c1 }
def k1c2 : Code := { maxStack := 8, maxLocals := 17, code := code, exceptionTable := #[], attributes := #[] }
def k1m2 : Method := { name := "law", desc := "(JIJI)Z", sig := { parameters := [.long, .int, .long, .int], returnType := some .boolean }, accessFlags := 9, code := some k1c2 }
/-- com/example/beaulieu/beaulieu/model/DecimalParsePositivePinLaw -/
def k1 : Class := { plain "com/example/beaulieu/beaulieu/model/DecimalParsePositivePinLaw" (some 0) with
  accessFlags := 49
  interfaces := #[]
  cf := some (fileOf pool1 20 #[] #[{ accessFlags := 1, nameIndex := 5, descriptorIndex := 6, attributes := #[] }, { accessFlags := 10, nameIndex := 23, descriptorIndex := 24, attributes := #[] }, { accessFlags := 9, nameIndex := 39, descriptorIndex := 40, attributes := #[] }] 49 2 #[] #[])
  fields := #[]
  methods := #[k1m0, k1m1, k1m2]
  instanceTypes := #[]
  staticTypes := #[]
  resolved := Array.replicate 45 none
  statics := none }

def pool2 : Array CpInfo := pool [(1, .class_ 2), (0, u "java/lang/Math"), (1, .class_ 6), (1, u "java/lang/Object"), (0, u "<init>"), (0, u "()V"), (89, .class_ 100), (1, u "java/lang/Math$RandomNumberGeneratorHolder"), (20, u "(JJ)J"), (50, u "negativeZeroFloatBits"), (0, u "J"), (2, u "negativeZeroDoubleBits"), (21, u "max"), (46, u "$assertionsDisabled"), (0, u "Z"), (91, u "twoToTheDoubleScaleDown"), (0, u "D"), (4, u "twoToTheDoubleScaleUp"), (9, u "E"), (3, u "PI"), (2, u "TAU"), (2, u "DEGREES_TO_RADIANS"), (0, u "RADIANS_TO_DEGREES")] 94

def k2m0 : Method := { name := "<init>", desc := "()V", sig := { parameters := [], returnType := none }, accessFlags := 2, code := none }
def k2c1 : Code := { maxStack := 4, maxLocals := 4, code := jdk_29_method_66_code, exceptionTable := #[], attributes := #[] }
def k2m1 : Method := { name := "max", desc := "(JJ)J", sig := { parameters := [.long, .long], returnType := some .long }, accessFlags := 9, code := some k2c1 }
/-- java/lang/Math -/
def k2 : Class := { plain "java/lang/Math" (some 0) with
  accessFlags := 49
  interfaces := #[]
  cf := some (fileOf pool2 1 #[.nestMembers #[98]] #[{ accessFlags := 2, nameIndex := 7, descriptorIndex := 8, attributes := #[] }, { accessFlags := 9, nameIndex := 198, descriptorIndex := 121, attributes := #[] }] 49 4 #[] #[{ accessFlags := 25, nameIndex := 354, descriptorIndex := 339, attributes := #[] }, { accessFlags := 25, nameIndex := 358, descriptorIndex := 339, attributes := #[] }, { accessFlags := 25, nameIndex := 361, descriptorIndex := 339, attributes := #[] }, { accessFlags := 26, nameIndex := 364, descriptorIndex := 339, attributes := #[] }, { accessFlags := 26, nameIndex := 365, descriptorIndex := 339, attributes := #[] }, { accessFlags := 26, nameIndex := 172, descriptorIndex := 173, attributes := #[] }, { accessFlags := 26, nameIndex := 176, descriptorIndex := 173, attributes := #[] }, { accessFlags := 8, nameIndex := 344, descriptorIndex := 339, attributes := #[] }, { accessFlags := 8, nameIndex := 338, descriptorIndex := 339, attributes := #[] }, { accessFlags := 4120, nameIndex := 245, descriptorIndex := 246, attributes := #[] }])
  fields := #[{ name := "E", type := .double, accessFlags := 25, slot := 0, constantValue := 0 }, { name := "PI", type := .double, accessFlags := 25, slot := 1, constantValue := 0 }, { name := "TAU", type := .double, accessFlags := 25, slot := 2, constantValue := 0 }, { name := "DEGREES_TO_RADIANS", type := .double, accessFlags := 26, slot := 3, constantValue := 0 }, { name := "RADIANS_TO_DEGREES", type := .double, accessFlags := 26, slot := 4, constantValue := 0 }, { name := "negativeZeroFloatBits", type := .long, accessFlags := 26, slot := 5, constantValue := 0 }, { name := "negativeZeroDoubleBits", type := .long, accessFlags := 26, slot := 6, constantValue := 0 }, { name := "twoToTheDoubleScaleUp", type := .double, accessFlags := 8, slot := 7, constantValue := 0 }, { name := "twoToTheDoubleScaleDown", type := .double, accessFlags := 8, slot := 8, constantValue := 0 }, { name := "$assertionsDisabled", type := .boolean, accessFlags := 4120, slot := 9, constantValue := 0 }]
  methods := #[k2m0, k2m1]
  instanceTypes := #[]
  staticTypes := #[.double, .double, .double, .double, .double, .long, .long, .double, .double, .boolean]
  resolved := Array.replicate 460 none
  statics := none }

def pool3 : Array CpInfo := pool [(1, .class_ 2), (0, u "java/io/Serializable"), (0, .class_ 4), (0, u "java/lang/Object")] 2

/-- java/io/Serializable -/
def k3 : Class := { plain "java/io/Serializable" (some 0) with
  accessFlags := 1537
  interfaces := #[]
  cf := some (fileOf pool3 1 #[] #[] 1537 3 #[] #[])
  fields := #[]
  methods := #[]
  instanceTypes := #[]
  staticTypes := #[]
  resolved := Array.replicate 7 none
  statics := none }

def pool4 : Array CpInfo := pool [(1, .class_ 2), (0, u "java/lang/Comparable"), (0, .class_ 4), (0, u "java/lang/Object")] 7

/-- java/lang/Comparable -/
def k4 : Class := { plain "java/lang/Comparable" (some 0) with
  accessFlags := 1537
  interfaces := #[]
  cf := some (fileOf pool4 1 #[] #[] 1537 3 #[] #[])
  fields := #[]
  methods := #[]
  instanceTypes := #[]
  staticTypes := #[]
  resolved := Array.replicate 12 none
  statics := none }

def pool5 : Array CpInfo := pool [(2, .class_ 4), (1, u "java/lang/CharSequence"), (40, u "charAt"), (0, u "(I)C"), (0, .class_ 48), (0, u "java/lang/CharSequence$1CodePointIterator"), (10, .class_ 60), (0, u "java/lang/CharSequence$1CharIterator"), (5, .class_ 67), (0, u "java/lang/Object")] 63

def k5m0 : Method := { name := "charAt", desc := "(I)C", sig := { parameters := [.int], returnType := some .char }, accessFlags := 1025, code := none }
/-- java/lang/CharSequence -/
def k5 : Class := { plain "java/lang/CharSequence" (some 0) with
  accessFlags := 1537
  interfaces := #[]
  cf := some (fileOf pool5 2 #[.nestMembers #[47, 59]] #[{ accessFlags := 1025, nameIndex := 45, descriptorIndex := 46, attributes := #[] }] 1537 66 #[] #[])
  fields := #[]
  methods := #[k5m0]
  instanceTypes := #[]
  staticTypes := #[]
  resolved := Array.replicate 131 none
  statics := none }

def pool6 : Array CpInfo := pool [(1, .class_ 2), (0, u "java/lang/constant/Constable"), (0, .class_ 4), (0, u "java/lang/Object")] 6

/-- java/lang/constant/Constable -/
def k6 : Class := { plain "java/lang/constant/Constable" (some 0) with
  accessFlags := 1537
  interfaces := #[]
  cf := some (fileOf pool6 1 #[] #[] 1537 3 #[] #[])
  fields := #[]
  methods := #[]
  instanceTypes := #[]
  staticTypes := #[]
  resolved := Array.replicate 11 none
  statics := none }

def pool7 : Array CpInfo := pool [(1, .class_ 2), (0, u "java/lang/constant/ConstantDesc"), (0, .class_ 4), (0, u "java/lang/Object")] 32

/-- java/lang/constant/ConstantDesc -/
def k7 : Class := { plain "java/lang/constant/ConstantDesc" (some 0) with
  accessFlags := 1537
  interfaces := #[]
  cf := some (fileOf pool7 1 #[] #[] 1537 3 #[] #[])
  fields := #[]
  methods := #[]
  instanceTypes := #[]
  staticTypes := #[]
  resolved := Array.replicate 37 none
  statics := none }

def pool8 : Array CpInfo := pool [(1, .methodref 2 3), (0, .class_ 4), (0, .nameAndType 5 6), (0, u "java/lang/Object"), (0, u "<init>"), (0, u "()V"), (2, .fieldref 10 11), (0, .class_ 12), (0, .nameAndType 13 14), (0, u "java/lang/String"), (0, u "value"), (0, u "[B"), (0, .fieldref 10 16), (0, .nameAndType 17 18), (0, u "coder"), (0, u "B"), (2, u "hash"), (0, u "I"), (2, u "hashIsZero"), (0, u "Z"), (0, .methodref 10 28), (0, .nameAndType 5 29), (0, u "([CIILjava/lang/Void;)V"), (8, .fieldref 10 39), (0, .nameAndType 40 26), (0, u "COMPACT_STRINGS"), (1, .class_ 44), (1, u "java/lang/StringUTF16"), (0, u "compress"), (1, .methodref 42 48), (0, .nameAndType 49 50), (0, u "coderFromArrayLen"), (0, u "([BI)B"), (56, .class_ 109), (1, u "java/lang/StringLatin1"), (32, u "()Z"), (34, .methodref 42 178), (0, .nameAndType 45 179), (0, u "([CII)[B"), (183, u "([BI)C"), (27, u "(II)V"), (35, u "(I)C"), (64, .methodref 10 493), (0, .nameAndType 494 142), (0, u "isLatin1"), (0, .methodref 107 496), (0, .nameAndType 497 363), (0, u "charAt"), (3, u "checkIndex"), (73, .class_ 576), (0, u "java/lang/CharSequence"), (22, u "CASE_INSENSITIVE_ORDER"), (0, u "Ljava/util/Comparator;"), (409, u "([C)V"), (42, .fieldref 1054 1055), (0, .class_ 1056), (0, .nameAndType 1057 1058), (0, u "jdk/internal/util/Preconditions"), (0, u "SIOOBE_FORMATTER"), (0, u "Ljava/util/function/BiFunction;"), (0, .methodref 1054 1060), (0, .nameAndType 501 1061), (0, u "(IILjava/util/function/BiFunction;)I"), (39, u "serialPersistentFields"), (0, u "[Ljava/io/ObjectStreamField;"), (0, .class_ 1104), (0, u "java/lang/String$CaseInsensitiveComparator"), (1, .class_ 1107), (0, u "java/io/Serializable"), (0, .class_ 1109), (0, u "java/lang/Comparable"), (0, .class_ 1111), (0, u "java/lang/constant/Constable"), (0, .class_ 1113), (0, u "java/lang/constant/ConstantDesc"), (2, u "serialVersionUID"), (0, u "J"), (3, u "REPL"), (0, u "C"), (2, u "LATIN1"), (1, u "UTF16")] 323

def k8m0 : Method := { name := "<init>", desc := "()V", sig := { parameters := [], returnType := none }, accessFlags := 1, code := none }
def k8c1 : Code := { maxStack := 5, maxLocals := 2, code := jdk_42_method_3_code, exceptionTable := #[], attributes := #[] }
def k8m1 : Method := { name := "<init>", desc := "([C)V", sig := { parameters := [(.array .char)], returnType := none }, accessFlags := 1, code := some k8c1 }
def k8c2 : Code := { maxStack := 2, maxLocals := 2, code := jdk_42_method_56_code, exceptionTable := #[], attributes := #[] }
def k8m2 : Method := { name := "charAt", desc := "(I)C", sig := { parameters := [.int], returnType := some .char }, accessFlags := 1, code := some k8c2 }
def k8c3 : Code := { maxStack := 4, maxLocals := 6, code := jdk_42_method_149_code, exceptionTable := #[], attributes := #[] }
def k8m3 : Method := { name := "<init>", desc := "([CIILjava/lang/Void;)V", sig := { parameters := [(.array .char), .int, .int, (.object "java/lang/Void")], returnType := none }, accessFlags := 2, code := some k8c3 }
def k8c4 : Code := { maxStack := 1, maxLocals := 1, code := jdk_42_method_154_code, exceptionTable := #[], attributes := #[] }
def k8m4 : Method := { name := "isLatin1", desc := "()Z", sig := { parameters := [], returnType := some .boolean }, accessFlags := 0, code := some k8c4 }
def k8c5 : Code := { maxStack := 3, maxLocals := 2, code := jdk_42_method_155_code, exceptionTable := #[], attributes := #[] }
def k8m5 : Method := { name := "checkIndex", desc := "(II)V", sig := { parameters := [.int, .int], returnType := none }, accessFlags := 8, code := some k8c5 }
/-- java/lang/String -/
def k8 : Class := { plain "java/lang/String" (some 0) with
  accessFlags := 49
  interfaces := #[3, 4, 5, 6, 7]
  cf := some (fileOf pool8 10 #[.nestMembers #[1103]] #[{ accessFlags := 1, nameIndex := 5, descriptorIndex := 6, attributes := #[] }, { accessFlags := 1, nameIndex := 5, descriptorIndex := 1010, attributes := #[] }, { accessFlags := 1, nameIndex := 497, descriptorIndex := 427, attributes := #[] }, { accessFlags := 2, nameIndex := 5, descriptorIndex := 29, attributes := #[] }, { accessFlags := 0, nameIndex := 494, descriptorIndex := 142, attributes := #[] }, { accessFlags := 8, nameIndex := 501, descriptorIndex := 391, attributes := #[] }] 49 2 #[1106, 1108, 575, 1110, 1112] #[{ accessFlags := 18, nameIndex := 13, descriptorIndex := 14, attributes := #[] }, { accessFlags := 18, nameIndex := 17, descriptorIndex := 18, attributes := #[] }, { accessFlags := 2, nameIndex := 21, descriptorIndex := 22, attributes := #[] }, { accessFlags := 2, nameIndex := 25, descriptorIndex := 26, attributes := #[] }, { accessFlags := 26, nameIndex := 1116, descriptorIndex := 1117, attributes := #[] }, { accessFlags := 24, nameIndex := 40, descriptorIndex := 26, attributes := #[] }, { accessFlags := 26, nameIndex := 1101, descriptorIndex := 1102, attributes := #[] }, { accessFlags := 26, nameIndex := 1121, descriptorIndex := 1122, attributes := #[] }, { accessFlags := 25, nameIndex := 599, descriptorIndex := 600, attributes := #[] }, { accessFlags := 24, nameIndex := 1125, descriptorIndex := 18, attributes := #[] }, { accessFlags := 24, nameIndex := 1127, descriptorIndex := 18, attributes := #[] }])
  fields := #[{ name := "value", type := (.array .byte), accessFlags := 18, slot := 0, constantValue := 0 }, { name := "coder", type := .byte, accessFlags := 18, slot := 1, constantValue := 0 }, { name := "hash", type := .int, accessFlags := 2, slot := 2, constantValue := 0 }, { name := "hashIsZero", type := .boolean, accessFlags := 2, slot := 3, constantValue := 0 }, { name := "serialVersionUID", type := .long, accessFlags := 26, slot := 0, constantValue := 0 }, { name := "COMPACT_STRINGS", type := .boolean, accessFlags := 24, slot := 1, constantValue := 0 }, { name := "serialPersistentFields", type := (.array (.object "java/io/ObjectStreamField")), accessFlags := 26, slot := 2, constantValue := 0 }, { name := "REPL", type := .char, accessFlags := 26, slot := 3, constantValue := 0 }, { name := "CASE_INSENSITIVE_ORDER", type := (.object "java/util/Comparator"), accessFlags := 25, slot := 4, constantValue := 0 }, { name := "LATIN1", type := .byte, accessFlags := 24, slot := 5, constantValue := 0 }, { name := "UTF16", type := .byte, accessFlags := 24, slot := 6, constantValue := 0 }]
  methods := #[k8m0, k8m1, k8m2, k8m3, k8m4, k8m5]
  instanceTypes := #[(.array .byte), .byte, .int, .boolean]
  staticTypes := #[.long, .boolean, (.array (.object "java/io/ObjectStreamField")), .char, (.object "java/util/Comparator"), .byte, .byte]
  resolved := Array.replicate 1451 none
  statics := some 0 }

def pool9 : Array CpInfo := pool [(6, .class_ 8), (1, u "java/lang/Object"), (0, u "<init>"), (0, u "()V"), (1, .class_ 14), (1, u "java/lang/StringUTF16"), (31, u "$assertionsDisabled"), (0, u "Z"), (13, u "HI_BYTE_SHIFT"), (0, u "I"), (2, u "LO_BYTE_SHIFT"), (49, .methodref 12 116), (0, .nameAndType 117 118), (0, u "compress"), (0, u "([CI[BII)I"), (3, u "([CII)[B"), (138, u "coderFromArrayLen"), (0, u "([BI)B"), (106, .class_ 371), (1, u "java/lang/StringUTF16$LinesSpliterator"), (58, u "MAX_LENGTH"), (196, .class_ 628), (0, u "java/lang/StringUTF16$CodePointsSpliterator"), (0, .class_ 630), (0, u "java/lang/StringUTF16$CharsSpliterator")] 4

def k9m0 : Method := { name := "<init>", desc := "()V", sig := { parameters := [], returnType := none }, accessFlags := 0, code := none }
def k9c1 : Code := { maxStack := 2, maxLocals := 2, code := jdk_52_method_15_code, exceptionTable := #[], attributes := #[] }
def k9m1 : Method := { name := "coderFromArrayLen", desc := "([BI)B", sig := { parameters := [(.array .byte), .int], returnType := some .byte }, accessFlags := 8, code := some k9c1 }
def k9c2 : Code := { maxStack := 5, maxLocals := 6, code := jdk_52_method_16_code, exceptionTable := #[], attributes := #[] }
def k9m2 : Method := { name := "compress", desc := "([CII)[B", sig := { parameters := [(.array .char), .int, .int], returnType := some (.array .byte) }, accessFlags := 9, code := some k9c2 }
def k9c3 : Code := { maxStack := 3, maxLocals := 7, code := jdk_52_method_21_code, exceptionTable := #[], attributes := #[] }
def k9m3 : Method := { name := "compress", desc := "([CI[BII)I", sig := { parameters := [(.array .char), .int, (.array .byte), .int, .int], returnType := some .int }, accessFlags := 9, code := some k9c3 }
/-- java/lang/StringUTF16 -/
def k9 : Class := { plain "java/lang/StringUTF16" (some 0) with
  accessFlags := 48
  interfaces := #[]
  cf := some (fileOf pool9 12 #[.nestMembers #[627, 629, 369]] #[{ accessFlags := 0, nameIndex := 9, descriptorIndex := 10, attributes := #[] }, { accessFlags := 8, nameIndex := 261, descriptorIndex := 262, attributes := #[] }, { accessFlags := 9, nameIndex := 117, descriptorIndex := 122, attributes := #[] }, { accessFlags := 9, nameIndex := 117, descriptorIndex := 118, attributes := #[] }] 48 6 #[] #[{ accessFlags := 26, nameIndex := 61, descriptorIndex := 62, attributes := #[] }, { accessFlags := 26, nameIndex := 65, descriptorIndex := 62, attributes := #[] }, { accessFlags := 24, nameIndex := 430, descriptorIndex := 62, attributes := #[] }, { accessFlags := 4120, nameIndex := 46, descriptorIndex := 47, attributes := #[] }])
  fields := #[{ name := "HI_BYTE_SHIFT", type := .int, accessFlags := 26, slot := 0, constantValue := 0 }, { name := "LO_BYTE_SHIFT", type := .int, accessFlags := 26, slot := 1, constantValue := 0 }, { name := "MAX_LENGTH", type := .int, accessFlags := 24, slot := 2, constantValue := 0 }, { name := "$assertionsDisabled", type := .boolean, accessFlags := 4120, slot := 3, constantValue := 0 }]
  methods := #[k9m0, k9m1, k9m2, k9m3]
  instanceTypes := #[]
  staticTypes := #[.int, .int, .int, .boolean]
  resolved := Array.replicate 635 none
  statics := none }

def pool10 : Array CpInfo := pool [(2, .class_ 4), (1, u "java/lang/Object"), (0, u "<init>"), (0, u "()V"), (7, .interfaceMethodref 15 16), (0, .class_ 17), (0, .nameAndType 18 19), (0, u "java/lang/CharSequence"), (0, u "charAt"), (0, u "(I)C"), (6, .long 10), (5, .class_ 33), (0, u "com/example/beaulieu/beaulieu/model/Decimal"), (2, u "parsePositive"), (0, u "(Ljava/lang/CharSequence;IIJ)J")] 20

def k10m0 : Method := { name := "<init>", desc := "()V", sig := { parameters := [], returnType := none }, accessFlags := 2, code := none }
def k10c1 : Code := { maxStack := 6, maxLocals := 10, code := prog_11_method_2_code, exceptionTable := #[], attributes := #[] }
def k10m1 : Method := { name := "parsePositive", desc := "(Ljava/lang/CharSequence;IIJ)J", sig := { parameters := [(.object "java/lang/CharSequence"), .int, .int, .long], returnType := some .long }, accessFlags := 9, code := some k10c1 }
/-- com/example/beaulieu/beaulieu/model/Decimal -/
def k10 : Class := { plain "com/example/beaulieu/beaulieu/model/Decimal" (some 0) with
  accessFlags := 33
  interfaces := #[]
  cf := some (fileOf pool10 32 #[] #[{ accessFlags := 2, nameIndex := 5, descriptorIndex := 6, attributes := #[] }, { accessFlags := 9, nameIndex := 36, descriptorIndex := 37, attributes := #[] }] 33 2 #[] #[])
  fields := #[]
  methods := #[k10m0, k10m1]
  instanceTypes := #[]
  staticTypes := #[]
  resolved := Array.replicate 58 none
  statics := none }

def pool11 : Array CpInfo := pool [(1, .class_ 2), (0, u "java/lang/String"), (1, .class_ 6), (1, u "java/lang/Object"), (0, u "<init>"), (0, u "()V"), (0, .methodref 1 10), (0, .nameAndType 11 12), (0, u "checkIndex"), (0, u "(II)V"), (1, .class_ 16), (1, u "java/lang/StringLatin1"), (36, u "([BI)C"), (67, u "$assertionsDisabled"), (0, u "Z"), (98, .class_ 223), (1, u "java/lang/StringLatin1$LinesSpliterator"), (28, u "charAt"), (137, .class_ 391), (0, u "java/lang/StringLatin1$CharsSpliterator")] 3

def k11m0 : Method := { name := "<init>", desc := "()V", sig := { parameters := [], returnType := none }, accessFlags := 0, code := none }
def k11c1 : Code := { maxStack := 2, maxLocals := 2, code := jdk_43_method_2_code, exceptionTable := #[], attributes := #[] }
def k11m1 : Method := { name := "charAt", desc := "([BI)C", sig := { parameters := [(.array .byte), .int], returnType := some .char }, accessFlags := 9, code := some k11c1 }
/-- java/lang/StringLatin1 -/
def k11 : Class := { plain "java/lang/StringLatin1" (some 0) with
  accessFlags := 48
  interfaces := #[]
  cf := some (fileOf pool11 14 #[.nestMembers #[390, 221]] #[{ accessFlags := 0, nameIndex := 7, descriptorIndex := 8, attributes := #[] }, { accessFlags := 9, nameIndex := 252, descriptorIndex := 53, attributes := #[] }] 48 4 #[] #[{ accessFlags := 4120, nameIndex := 121, descriptorIndex := 122, attributes := #[] }])
  fields := #[{ name := "$assertionsDisabled", type := .boolean, accessFlags := 4120, slot := 0, constantValue := 0 }]
  methods := #[k11m0, k11m1]
  instanceTypes := #[]
  staticTypes := #[.boolean]
  resolved := Array.replicate 395 none
  statics := none }

def pool12 : Array CpInfo := pool [(2, .class_ 4), (1, u "java/lang/Object"), (0, u "<init>"), (0, u "()V"), (17, .class_ 26), (1, u "jdk/internal/util/Preconditions"), (6, u "checkIndex"), (21, .class_ 56), (0, u "jdk/internal/util/Preconditions$4"), (57, .class_ 115), (0, u "jdk/internal/util/Preconditions$1"), (7, u "SIOOBE_FORMATTER"), (0, u "Ljava/util/function/BiFunction;"), (0, .class_ 126), (0, u "jdk/internal/util/Preconditions$2"), (3, u "AIOOBE_FORMATTER"), (0, .class_ 132), (0, u "jdk/internal/util/Preconditions$3"), (3, u "IOOBE_FORMATTER"), (41, u "(IILjava/util/function/BiFunction;)I")] 15

def k12m0 : Method := { name := "<init>", desc := "()V", sig := { parameters := [], returnType := none }, accessFlags := 1, code := none }
def k12c1 : Code := { maxStack := 3, maxLocals := 3, code := jdk_41_method_11_code, exceptionTable := #[], attributes := #[] }
def k12m1 : Method := { name := "checkIndex", desc := "(IILjava/util/function/BiFunction;)I", sig := { parameters := [.int, .int, (.object "java/util/function/BiFunction")], returnType := some .int }, accessFlags := 9, code := some k12c1 }
/-- jdk/internal/util/Preconditions -/
def k12 : Class := { plain "jdk/internal/util/Preconditions" (some 0) with
  accessFlags := 33
  interfaces := #[]
  cf := some (fileOf pool12 24 #[.nestMembers #[55, 131, 125, 114]] #[{ accessFlags := 1, nameIndex := 5, descriptorIndex := 6, attributes := #[] }, { accessFlags := 9, nameIndex := 33, descriptorIndex := 178, attributes := #[] }] 33 2 #[] #[{ accessFlags := 25, nameIndex := 123, descriptorIndex := 124, attributes := #[] }, { accessFlags := 25, nameIndex := 130, descriptorIndex := 124, attributes := #[] }, { accessFlags := 25, nameIndex := 136, descriptorIndex := 124, attributes := #[] }])
  fields := #[{ name := "SIOOBE_FORMATTER", type := (.object "java/util/function/BiFunction"), accessFlags := 25, slot := 0, constantValue := 0 }, { name := "AIOOBE_FORMATTER", type := (.object "java/util/function/BiFunction"), accessFlags := 25, slot := 1, constantValue := 0 }, { name := "IOOBE_FORMATTER", type := (.object "java/util/function/BiFunction"), accessFlags := 25, slot := 2, constantValue := 0 }]
  methods := #[k12m0, k12m1]
  instanceTypes := #[]
  staticTypes := #[(.object "java/util/function/BiFunction"), (.object "java/util/function/BiFunction"), (.object "java/util/function/BiFunction")]
  resolved := Array.replicate 194 none
  statics := some 1 }

def pool13 : Array CpInfo := pool [(9, u "<init>"), (6, .class_ 18), (1, u "java/lang/Object"), (0, u "()V"), (1, .class_ 23), (1, u "jdk/internal/util/ArraysSupport"), (0, u "LOG2_ARRAY_LONG_INDEX_SCALE"), (0, u "I"), (2, u "U"), (0, u "Ljdk/internal/misc/Unsafe;"), (8, u "BIG_ENDIAN"), (0, u "Z"), (8, u "LOG2_BYTE_BIT_SIZE"), (4, u "LOG2_ARRAY_INT_INDEX_SCALE"), (54, u "JLA"), (0, u "Ljdk/internal/access/JavaLangAccess;"), (11, u "LOG2_ARRAY_BOOLEAN_INDEX_SCALE"), (9, u "LOG2_ARRAY_BYTE_INDEX_SCALE"), (5, u "LOG2_ARRAY_CHAR_INDEX_SCALE"), (5, u "LOG2_ARRAY_SHORT_INDEX_SCALE"), (18, u "LOG2_ARRAY_FLOAT_INDEX_SCALE"), (24, u "LOG2_ARRAY_DOUBLE_INDEX_SCALE"), (89, u "T_BOOLEAN"), (2, u "T_CHAR"), (1, u "T_FLOAT"), (1, u "T_DOUBLE"), (1, u "T_BYTE"), (1, u "T_SHORT"), (1, u "T_INT"), (1, u "T_LONG"), (1, u "SOFT_MAX_ARRAY_LENGTH")] 83

def k13m0 : Method := { name := "<init>", desc := "()V", sig := { parameters := [], returnType := none }, accessFlags := 2, code := none }
/-- jdk/internal/util/ArraysSupport -/
def k13 : Class := { plain "jdk/internal/util/ArraysSupport" (some 0) with
  accessFlags := 33
  interfaces := #[]
  cf := some (fileOf pool13 21 #[] #[{ accessFlags := 2, nameIndex := 9, descriptorIndex := 19, attributes := #[] }] 33 16 #[] #[{ accessFlags := 24, nameIndex := 28, descriptorIndex := 29, attributes := #[] }, { accessFlags := 26, nameIndex := 38, descriptorIndex := 39, attributes := #[] }, { accessFlags := 25, nameIndex := 121, descriptorIndex := 25, attributes := #[] }, { accessFlags := 25, nameIndex := 131, descriptorIndex := 25, attributes := #[] }, { accessFlags := 25, nameIndex := 137, descriptorIndex := 25, attributes := #[] }, { accessFlags := 25, nameIndex := 143, descriptorIndex := 25, attributes := #[] }, { accessFlags := 25, nameIndex := 53, descriptorIndex := 25, attributes := #[] }, { accessFlags := 25, nameIndex := 24, descriptorIndex := 25, attributes := #[] }, { accessFlags := 25, nameIndex := 162, descriptorIndex := 25, attributes := #[] }, { accessFlags := 25, nameIndex := 187, descriptorIndex := 25, attributes := #[] }, { accessFlags := 26, nameIndex := 48, descriptorIndex := 25, attributes := #[] }, { accessFlags := 25, nameIndex := 277, descriptorIndex := 25, attributes := #[] }, { accessFlags := 25, nameIndex := 280, descriptorIndex := 25, attributes := #[] }, { accessFlags := 25, nameIndex := 282, descriptorIndex := 25, attributes := #[] }, { accessFlags := 25, nameIndex := 284, descriptorIndex := 25, attributes := #[] }, { accessFlags := 25, nameIndex := 286, descriptorIndex := 25, attributes := #[] }, { accessFlags := 25, nameIndex := 288, descriptorIndex := 25, attributes := #[] }, { accessFlags := 25, nameIndex := 290, descriptorIndex := 25, attributes := #[] }, { accessFlags := 25, nameIndex := 292, descriptorIndex := 25, attributes := #[] }, { accessFlags := 26, nameIndex := 108, descriptorIndex := 109, attributes := #[] }, { accessFlags := 25, nameIndex := 294, descriptorIndex := 25, attributes := #[] }])
  fields := #[{ name := "U", type := (.object "jdk/internal/misc/Unsafe"), accessFlags := 24, slot := 0, constantValue := 0 }, { name := "BIG_ENDIAN", type := .boolean, accessFlags := 26, slot := 1, constantValue := 0 }, { name := "LOG2_ARRAY_BOOLEAN_INDEX_SCALE", type := .int, accessFlags := 25, slot := 2, constantValue := 0 }, { name := "LOG2_ARRAY_BYTE_INDEX_SCALE", type := .int, accessFlags := 25, slot := 3, constantValue := 0 }, { name := "LOG2_ARRAY_CHAR_INDEX_SCALE", type := .int, accessFlags := 25, slot := 4, constantValue := 0 }, { name := "LOG2_ARRAY_SHORT_INDEX_SCALE", type := .int, accessFlags := 25, slot := 5, constantValue := 0 }, { name := "LOG2_ARRAY_INT_INDEX_SCALE", type := .int, accessFlags := 25, slot := 6, constantValue := 0 }, { name := "LOG2_ARRAY_LONG_INDEX_SCALE", type := .int, accessFlags := 25, slot := 7, constantValue := 0 }, { name := "LOG2_ARRAY_FLOAT_INDEX_SCALE", type := .int, accessFlags := 25, slot := 8, constantValue := 0 }, { name := "LOG2_ARRAY_DOUBLE_INDEX_SCALE", type := .int, accessFlags := 25, slot := 9, constantValue := 0 }, { name := "LOG2_BYTE_BIT_SIZE", type := .int, accessFlags := 26, slot := 10, constantValue := 0 }, { name := "T_BOOLEAN", type := .int, accessFlags := 25, slot := 11, constantValue := 0 }, { name := "T_CHAR", type := .int, accessFlags := 25, slot := 12, constantValue := 0 }, { name := "T_FLOAT", type := .int, accessFlags := 25, slot := 13, constantValue := 0 }, { name := "T_DOUBLE", type := .int, accessFlags := 25, slot := 14, constantValue := 0 }, { name := "T_BYTE", type := .int, accessFlags := 25, slot := 15, constantValue := 0 }, { name := "T_SHORT", type := .int, accessFlags := 25, slot := 16, constantValue := 0 }, { name := "T_INT", type := .int, accessFlags := 25, slot := 17, constantValue := 0 }, { name := "T_LONG", type := .int, accessFlags := 25, slot := 18, constantValue := 0 }, { name := "JLA", type := (.object "jdk/internal/access/JavaLangAccess"), accessFlags := 26, slot := 19, constantValue := 0 }, { name := "SOFT_MAX_ARRAY_LENGTH", type := .int, accessFlags := 25, slot := 20, constantValue := 0 }]
  methods := #[k13m0]
  instanceTypes := #[]
  staticTypes := #[(.object "jdk/internal/misc/Unsafe"), .boolean, .int, .int, .int, .int, .int, .int, .int, .int, .int, .int, .int, .int, .int, .int, .int, .int, .int, (.object "jdk/internal/access/JavaLangAccess"), .int]
  resolved := Array.replicate 378 none
  statics := none }

def pool14 : Array CpInfo := pool [(1, u "java/lang/Cloneable"), (0, .class_ 1), (0, u "java/lang/Object"), (0, .class_ 3)] 3

/-- java/lang/Cloneable -/
def k14 : Class := { plain "java/lang/Cloneable" (some 0) with
  accessFlags := 1537
  interfaces := #[]
  cf := some (fileOf pool14 2 #[] #[] 1537 4 #[] #[])
  fields := #[]
  methods := #[]
  instanceTypes := #[]
  staticTypes := #[]
  resolved := Array.replicate 8 none
  statics := none }

/-- the primitive byte -/
def k15 : Class := { plain "byte" none with kind := .primitive 'B', accessFlags := 0x411 }
/-- [B -/
def k16 : Class := { plain "[B" (some 0) with kind := .array 15 .byte, interfaces := #[14, 3], accessFlags := 1041 }

/-- the primitive char -/
def k17 : Class := { plain "char" none with kind := .primitive 'C', accessFlags := 0x411 }
/-- [C -/
def k18 : Class := { plain "[C" (some 0) with kind := .array 17 .char, interfaces := #[14, 3], accessFlags := 1041 }

/-- the primitive int -/
def k19 : Class := { plain "int" none with kind := .primitive 'I', accessFlags := 0x411 }
/-- [I -/
def k20 : Class := { plain "[I" (some 0) with kind := .array 19 .int, interfaces := #[14, 3], accessFlags := 1041 }

def heap : Heap := #[{ cls := 8, slots := #[.long 0, .int 1, .null, .int 0, .null, .int 0, .int 0], vm := .statics 8 },
  { cls := 12, slots := #[.null, .null, .null], vm := .statics 12 }]
def classes : Array Class := #[k0, k1, k2, k3, k4, k5, k6, k7, k8, k9, k10, k11, k12, k13, k14, k15, k16, k17, k18, k19, k20]
def interned : List (Array UInt16 × Addr) := []
def slotsUsed : Nat := 10
def theMethod : MethodId := ⟨1, 2⟩
def args0 : Array Value := #[.long 5, .int 6, .long 7, .int 8]
def aboutOver (below : List Frame) : State where
  vm := { classes := classes, interned := interned.toArray }
  heap := heap
  slotsUsed := slotsUsed
  threads := #[{ frames := .invoking theMethod args0 :: below }]
def below0 : List Frame := [.native { method := ⟨0, 0⟩, args := #[] }]
def about1 : State := aboutOver below0
def p0 : Program := .bare "" "" ""
def e0 : Env := launch0.env 0 0 0
theorem w_frames : about1.frames = Frame.invoking theMethod args0 :: below0 := rfl
set_option maxRecDepth 65536 in
theorem w_args : argsFit about1.vm theMethod args0 = true := by decide +kernel
set_option maxRecDepth 65536 in
theorem w_heap : heapFits about1 = true := by decide +kernel
set_option maxRecDepth 65536 in
theorem w_runnable : about1.curStatus? = some .runnable := by decide +kernel
set_option maxRecDepth 65536 in
theorem w_alone : about1.alone = true := by decide +kernel
set_option maxRecDepth 65536 in
theorem w_named : about1.methodNamed? x = some theMethod := by decide +kernel
set_option maxRecDepth 65536 in
theorem w_hears : about1.hears theMethod below0 = true := by decide +kernel
set_option maxRecDepth 65536 in
theorem w_ripe : about1.ripe theMethod args0 below0 = true := by decide +kernel
theorem w_running : about1.status = .running := rfl
set_option maxRecDepth 65536 in
theorem w_room : about1.hasRoom e0.platform room_1 = true :=
  launch0.hasRoom_least _ room_1 (by decide +kernel) (by decide +kernel) (by decide +kernel) (by decide +kernel) (by decide +kernel) (by decide +kernel)
theorem allAtoms_all (ts : List Jvm.Cond) (a : Array Jvm.Value) (st : Jvm.State) : (allAtoms ts).before a st = ts.all (fun c => c.before a st) := by
  induction ts with
  | nil => rfl
  | cons c t ih =>
    show (Jvm.Cond.and c (allAtoms t)).before a st = _
    rw [Jvm.Cond.before_and, ih, List.all_cons]
def words1 : List Jvm.Cond := Jvm.Cond.code x code maxLocals ret :: tables_1
/-- a 'code' word, met by the world's own term for the bytes: nothing is compared byte by byte -/
theorem code_word {y : MethodName} {bytes : ByteArray} {mx : Nat} {rt : Option FieldType} {a : Array Value} {s : State} {m : MethodId} {meth : Method} {c : Code} (h1 : s.methodNamed? y = some m) (h2 : s.vm.method? m = some meth) (h3 : meth.code = some c) (h4 : c.code = bytes)
    (h5 : (c.maxLocals == mx && c.exceptionTable.isEmpty && decide (c.maxStack ≤ mostOperands) && decide (meth.sig.returnType = rt) && !meth.locks && decide (parseMethodDescriptor y.desc = some meth.sig)) = true) : (Jvm.Cond.code y bytes mx rt).before a s = true := by
  simp only [Bool.and_eq_true, beq_iff_eq, Bool.not_eq_true', decide_eq_true_eq] at h5
  obtain ⟨⟨⟨⟨⟨g1, g2⟩, g3⟩, g4⟩, g5⟩, g6⟩ := h5
  simp [Cond.before, Cond.holds, Cond.value, h1, h2, h3, h4, g1, g2, g3, g4, g5, g6]
def isCode : Jvm.Cond → Bool
  | .code _ _ _ _ => true
  | _ => false
theorem all_split {L : List Jvm.Cond} {P : Jvm.Cond → Bool} (h1 : L.all (fun c => isCode c || P c) = true) (h2 : ∀ c ∈ L.filter isCode, P c = true) : L.all P = true := by
  refine List.all_eq_true.mpr fun c hc => ?_
  have h := List.all_eq_true.mp h1 c hc
  rcases Bool.eq_false_or_eq_true (isCode c) with hi | hi
  · exact h2 c (List.mem_filter.mpr ⟨hc, hi⟩)
  · simpa [hi] using h
set_option maxRecDepth 65536 in
theorem w_c0 : (Jvm.Cond.code x code maxLocals ret).before args0 about1 = true := code_word (m := ⟨1, 2⟩) (meth := k1m2) (c := k1c2) (by decide +kernel) rfl rfl rfl (by decide +kernel)
set_option maxRecDepth 65536 in
theorem w_c1 : (Jvm.Cond.code ({ cls := "java/lang/Math", name := "max", desc := "(JJ)J" } : Jvm.MethodName) jdk_29_method_66_code (4 : Nat) (Option.some Jvm.ClassFile.FieldType.long)).before args0 about1 = true := code_word (m := ⟨2, 1⟩) (meth := k2m1) (c := k2c1) (by decide +kernel) rfl rfl rfl (by decide +kernel)
set_option maxRecDepth 65536 in
theorem w_c2 : (Jvm.Cond.code ({ cls := "com/example/beaulieu/beaulieu/model/DecimalParsePositivePinLaw", name := "put", desc := "([CIJ)I" } : Jvm.MethodName) method_2_code (4 : Nat) (Option.some Jvm.ClassFile.FieldType.int)).before args0 about1 = true := code_word (m := ⟨1, 1⟩) (meth := k1m1) (c := k1c1) (by decide +kernel) rfl rfl rfl (by decide +kernel)
set_option maxRecDepth 65536 in
theorem w_c3 : (Jvm.Cond.code ({ cls := "java/lang/String", name := "<init>", desc := "([C)V" } : Jvm.MethodName) jdk_42_method_3_code (2 : Nat) (Option.none : Option Jvm.ClassFile.FieldType)).before args0 about1 = true := code_word (m := ⟨8, 1⟩) (meth := k8m1) (c := k8c1) (by decide +kernel) rfl rfl rfl (by decide +kernel)
set_option maxRecDepth 65536 in
theorem w_c4 : (Jvm.Cond.code ({ cls := "java/lang/String", name := "<init>", desc := "([CIILjava/lang/Void;)V" } : Jvm.MethodName) jdk_42_method_149_code (6 : Nat) (Option.none : Option Jvm.ClassFile.FieldType)).before args0 about1 = true := code_word (m := ⟨8, 3⟩) (meth := k8m3) (c := k8c3) (by decide +kernel) rfl rfl rfl (by decide +kernel)
set_option maxRecDepth 65536 in
theorem w_c5 : (Jvm.Cond.code ({ cls := "java/lang/Object", name := "<init>", desc := "()V" } : Jvm.MethodName) object_method_1_code (1 : Nat) (Option.none : Option Jvm.ClassFile.FieldType)).before args0 about1 = true := code_word (m := ⟨0, 0⟩) (meth := k0m0) (c := k0c0) (by decide +kernel) rfl rfl rfl (by decide +kernel)
set_option maxRecDepth 65536 in
theorem w_c6 : (Jvm.Cond.code ({ cls := "java/lang/StringUTF16", name := "compress", desc := "([CII)[B" } : Jvm.MethodName) jdk_52_method_16_code (6 : Nat) (Option.some (Jvm.ClassFile.FieldType.array Jvm.ClassFile.FieldType.byte))).before args0 about1 = true := code_word (m := ⟨9, 2⟩) (meth := k9m2) (c := k9c2) (by decide +kernel) rfl rfl rfl (by decide +kernel)
set_option maxRecDepth 65536 in
theorem w_c7 : (Jvm.Cond.code ({ cls := "java/lang/StringUTF16", name := "compress", desc := "([CI[BII)I" } : Jvm.MethodName) jdk_52_method_21_code (7 : Nat) (Option.some Jvm.ClassFile.FieldType.int)).before args0 about1 = true := code_word (m := ⟨9, 3⟩) (meth := k9m3) (c := k9c3) (by decide +kernel) rfl rfl rfl (by decide +kernel)
set_option maxRecDepth 65536 in
theorem w_c8 : (Jvm.Cond.code ({ cls := "java/lang/StringUTF16", name := "coderFromArrayLen", desc := "([BI)B" } : Jvm.MethodName) jdk_52_method_15_code (2 : Nat) (Option.some Jvm.ClassFile.FieldType.byte)).before args0 about1 = true := code_word (m := ⟨9, 1⟩) (meth := k9m1) (c := k9c1) (by decide +kernel) rfl rfl rfl (by decide +kernel)
set_option maxRecDepth 65536 in
theorem w_c9 : (Jvm.Cond.code ({ cls := "com/example/beaulieu/beaulieu/model/Decimal", name := "parsePositive", desc := "(Ljava/lang/CharSequence;IIJ)J" } : Jvm.MethodName) prog_11_method_2_code (10 : Nat) (Option.some Jvm.ClassFile.FieldType.long)).before args0 about1 = true := code_word (m := ⟨10, 1⟩) (meth := k10m1) (c := k10c1) (by decide +kernel) rfl rfl rfl (by decide +kernel)
set_option maxRecDepth 65536 in
theorem w_c10 : (Jvm.Cond.code ({ cls := "java/lang/String", name := "charAt", desc := "(I)C" } : Jvm.MethodName) jdk_42_method_56_code (2 : Nat) (Option.some Jvm.ClassFile.FieldType.char)).before args0 about1 = true := code_word (m := ⟨8, 2⟩) (meth := k8m2) (c := k8c2) (by decide +kernel) rfl rfl rfl (by decide +kernel)
set_option maxRecDepth 65536 in
theorem w_c11 : (Jvm.Cond.code ({ cls := "java/lang/String", name := "isLatin1", desc := "()Z" } : Jvm.MethodName) jdk_42_method_154_code (1 : Nat) (Option.some Jvm.ClassFile.FieldType.boolean)).before args0 about1 = true := code_word (m := ⟨8, 4⟩) (meth := k8m4) (c := k8c4) (by decide +kernel) rfl rfl rfl (by decide +kernel)
set_option maxRecDepth 65536 in
theorem w_c12 : (Jvm.Cond.code ({ cls := "java/lang/StringLatin1", name := "charAt", desc := "([BI)C" } : Jvm.MethodName) jdk_43_method_2_code (2 : Nat) (Option.some Jvm.ClassFile.FieldType.char)).before args0 about1 = true := code_word (m := ⟨11, 1⟩) (meth := k11m1) (c := k11c1) (by decide +kernel) rfl rfl rfl (by decide +kernel)
set_option maxRecDepth 65536 in
theorem w_c13 : (Jvm.Cond.code ({ cls := "java/lang/String", name := "checkIndex", desc := "(II)V" } : Jvm.MethodName) jdk_42_method_155_code (2 : Nat) (Option.none : Option Jvm.ClassFile.FieldType)).before args0 about1 = true := code_word (m := ⟨8, 5⟩) (meth := k8m5) (c := k8c5) (by decide +kernel) rfl rfl rfl (by decide +kernel)
set_option maxRecDepth 65536 in
theorem w_c14 : (Jvm.Cond.code ({ cls := "jdk/internal/util/Preconditions", name := "checkIndex", desc := "(IILjava/util/function/BiFunction;)I" } : Jvm.MethodName) jdk_41_method_11_code (3 : Nat) (Option.some Jvm.ClassFile.FieldType.int)).before args0 about1 = true := code_word (m := ⟨12, 1⟩) (meth := k12m1) (c := k12c1) (by decide +kernel) rfl rfl rfl (by decide +kernel)
def codes1 : List Jvm.Cond := [Jvm.Cond.code x code maxLocals ret, Jvm.Cond.code ({ cls := "java/lang/Math", name := "max", desc := "(JJ)J" } : Jvm.MethodName) jdk_29_method_66_code (4 : Nat) (Option.some Jvm.ClassFile.FieldType.long), Jvm.Cond.code ({ cls := "com/example/beaulieu/beaulieu/model/DecimalParsePositivePinLaw", name := "put", desc := "([CIJ)I" } : Jvm.MethodName) method_2_code (4 : Nat) (Option.some Jvm.ClassFile.FieldType.int), Jvm.Cond.code ({ cls := "java/lang/String", name := "<init>", desc := "([C)V" } : Jvm.MethodName) jdk_42_method_3_code (2 : Nat) (Option.none : Option Jvm.ClassFile.FieldType), Jvm.Cond.code ({ cls := "java/lang/String", name := "<init>", desc := "([CIILjava/lang/Void;)V" } : Jvm.MethodName) jdk_42_method_149_code (6 : Nat) (Option.none : Option Jvm.ClassFile.FieldType), Jvm.Cond.code ({ cls := "java/lang/Object", name := "<init>", desc := "()V" } : Jvm.MethodName) object_method_1_code (1 : Nat) (Option.none : Option Jvm.ClassFile.FieldType), Jvm.Cond.code ({ cls := "java/lang/StringUTF16", name := "compress", desc := "([CII)[B" } : Jvm.MethodName) jdk_52_method_16_code (6 : Nat) (Option.some (Jvm.ClassFile.FieldType.array Jvm.ClassFile.FieldType.byte)), Jvm.Cond.code ({ cls := "java/lang/StringUTF16", name := "compress", desc := "([CI[BII)I" } : Jvm.MethodName) jdk_52_method_21_code (7 : Nat) (Option.some Jvm.ClassFile.FieldType.int), Jvm.Cond.code ({ cls := "java/lang/StringUTF16", name := "coderFromArrayLen", desc := "([BI)B" } : Jvm.MethodName) jdk_52_method_15_code (2 : Nat) (Option.some Jvm.ClassFile.FieldType.byte), Jvm.Cond.code ({ cls := "com/example/beaulieu/beaulieu/model/Decimal", name := "parsePositive", desc := "(Ljava/lang/CharSequence;IIJ)J" } : Jvm.MethodName) prog_11_method_2_code (10 : Nat) (Option.some Jvm.ClassFile.FieldType.long), Jvm.Cond.code ({ cls := "java/lang/String", name := "charAt", desc := "(I)C" } : Jvm.MethodName) jdk_42_method_56_code (2 : Nat) (Option.some Jvm.ClassFile.FieldType.char), Jvm.Cond.code ({ cls := "java/lang/String", name := "isLatin1", desc := "()Z" } : Jvm.MethodName) jdk_42_method_154_code (1 : Nat) (Option.some Jvm.ClassFile.FieldType.boolean), Jvm.Cond.code ({ cls := "java/lang/StringLatin1", name := "charAt", desc := "([BI)C" } : Jvm.MethodName) jdk_43_method_2_code (2 : Nat) (Option.some Jvm.ClassFile.FieldType.char), Jvm.Cond.code ({ cls := "java/lang/String", name := "checkIndex", desc := "(II)V" } : Jvm.MethodName) jdk_42_method_155_code (2 : Nat) (Option.none : Option Jvm.ClassFile.FieldType), Jvm.Cond.code ({ cls := "jdk/internal/util/Preconditions", name := "checkIndex", desc := "(IILjava/util/function/BiFunction;)I" } : Jvm.MethodName) jdk_41_method_11_code (3 : Nat) (Option.some Jvm.ClassFile.FieldType.int)]
set_option maxRecDepth 65536 in
theorem codes_eq : words1.filter isCode = codes1 := rfl
theorem w_codes : ∀ c ∈ words1.filter isCode, c.before args0 about1 = true := by
  rw [codes_eq]
  intro c hc
  simp only [codes1, List.mem_cons, List.not_mem_nil, or_false] at hc
  rcases hc with rfl | rfl | rfl | rfl | rfl | rfl | rfl | rfl | rfl | rfl | rfl | rfl | rfl | rfl | rfl
  · exact w_c0
  · exact w_c1
  · exact w_c2
  · exact w_c3
  · exact w_c4
  · exact w_c5
  · exact w_c6
  · exact w_c7
  · exact w_c8
  · exact w_c9
  · exact w_c10
  · exact w_c11
  · exact w_c12
  · exact w_c13
  · exact w_c14
set_option maxRecDepth 65536 in
theorem w_t1 : (words1.take 24).all (fun c => isCode c || c.before args0 about1) = true := by decide +kernel
set_option maxRecDepth 65536 in
theorem w_t2 : ((words1.drop 24).take 24).all (fun c => isCode c || c.before args0 about1) = true := by decide +kernel
set_option maxRecDepth 65536 in
theorem w_t3 : ((words1.drop 24).drop 24).all (fun c => isCode c || c.before args0 about1) = true := by decide +kernel
theorem w_tables : (allAtoms (Jvm.Cond.code x code maxLocals ret :: tables_1)).before args0 about1 = true := by
  rw [allAtoms_all]
  show words1.all (fun c => c.before args0 about1) = true
  refine all_split ?_ w_codes
  rw [← List.take_append_drop 24 words1, List.all_append, w_t1, ← List.take_append_drop 24 (words1.drop 24), List.all_append, w_t2, w_t3]
  rfl
set_option maxRecDepth 65536 in
theorem w_rest : rest_1_c.before args0 about1 = true := by decide +kernel
set_option maxRecDepth 65536 in
theorem w_case : (Jvm.Cond.and given_1 narrow_1).before args0 about1 = true := by decide +kernel
theorem w_applies : (headSpec (Jvm.Cond.code x code maxLocals ret :: tables_1) room_1).applies x e0.platform about1 = true :=
  (Spec.applies_iff w_frames).mpr ⟨w_running, w_runnable, w_alone, w_named, w_hears, w_ripe, w_room, w_tables⟩
theorem atStart : AtStart classFile x code maxLocals ret World_1 tables_1 room_1 Calls_1 rest_1 Pre_1 launch0 p0 e0 about1 theMethod args0 below0 :=
  ⟨lists_1, trivial, launch0.admits_env _ _ _, launch0.least_env, fairChoices_fair.cas, fairChoices_fair.clock, w_frames, w_args, w_heap, w_applies, trivial, w_rest, w_case⟩
end start1
theorem witness_1 : WitnessClaimed_1 := ⟨start1.p0, start1.e0, start1.about1, start1.theMethod, start1.args0, start1.below0, start1.atStart⟩
end Jvm.Pilot.@@N@@
