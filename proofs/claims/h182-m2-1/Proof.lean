import JvmDerived
import JvmDerived.Pilot.@@N@@Statement
import JvmDerived.Pilot.@@N@@Code
set_option linter.unusedVariables false
set_option linter.unusedSimpArgs false
namespace Jvm.RoadKit
open Sem ClassFile Op Lib Jvm.Stand Jvm.Free Jvm.LawKit
section New
variable {p : Program} {l : Launch} {e : Env} {R : Room} {s : State} {m : MethodId} {args : Array Value} {below : List Frame} {meth : Method} {c : Code} {T : State} {locs : List Loc} {cells slots : Nat}
theorem retI (X : Stand p l e R s m args below meth c T locs cells slots) (hx : p.tables.exec = Jvm.exec) {pc : Nat} {Ls : Array Slot} {z : Int32} {rest : List Value} (hret : meth.sig.returnType = some .int) (hd : decode c.code pc = .ok (.ireturn, 1)) {fs : List Frame}
    (hl : ∀ (f : JFrame) (acts : List Action), f.method = m → f.locked = none → f.entered = [] → (doReturn e (T.setTop f) acts (some (.int z))).1 = T.setFrames fs) : Steps p.tables e below (T.setTop (mkF m pc Ls (.int z :: rest))) (T.setFrames fs) := by
  have hm' : T.vm.method? m = some meth := X.method'
  have hn : narrow .int (.int z) = .int z := rfl
  show Steps p.tables e below (T.setTop { method := m, pc := pc, locals := Ls, stack := _ :: rest, locked := none }) _
  jvm_step X.here [X.here.top, hx, hd, hm', hret, hn]
  first | (intro acts; rw [hl _ acts rfl rfl rfl]) | rw [hl _ _ rfl rfl rfl]
  exact Steps.refl _
end New
end Jvm.RoadKit
namespace Jvm.RoadKit
open Sem ClassFile Op Lib Bundle Jvm.Stand Jvm.Free Jvm.LawKit Jvm.Free.SB Jvm.Free.SBG
section Goes
variable {p : Program} {l : Launch} {e : Env} {R : Room} {s : State} {m : MethodId} {args : Array Value} {below : List Frame} {meth : Method} {c : Code} {T T' : State} {locs : List Loc} {cells slots k n : Nat} {F : Outcome → State → Prop} {Q : Option Value → Heap → List Loc → Prop}
/-- from T the run comes to an end of which F holds -/
def Go (p : Program) (e : Env) (below : List Frame) (T : State) (F : Outcome → State → Prop) : Prop := ∃ s₂ o, Steps p.tables e below T s₂ ∧ s₂.status = .running ∧ Ended s₂ below o ∧ F o s₂
theorem Go.st (k : ∀ t, Steps p.tables e below T' t → Steps p.tables e below T t) (G : Go p e below T' F) : Go p e below T F := by
  obtain ⟨s2, o, h, r⟩ := G
  exact ⟨s2, o, k _ h, r⟩
theorem Go.top {g g' : JFrame} (q : g = g') (G : Go p e below (T.setTop g') F) : Go p e below (T.setTop g) F := q ▸ G
/-- the end of a body that interns nothing -/
abbrev EndN (s : State) (Q : Option Value → Heap → List Loc → Prop) (cells slots : Nat) : Outcome → State → Prop := fun o U' => ∃ v L, o = .returned v ∧ Q v U'.heap L ∧ FrameEnd s o U' L cells slots
/-- the end of a body that may intern -/
abbrev EndW (s : State) (Q : Option Value → Heap → List Loc → Prop) (cells slots : Nat) : Outcome → State → Prop := fun o U' => ∃ v L, o = .returned v ∧ Q v U'.heap L ∧ ReturnedEndW s o U' L cells slots
theorem Go.done (X : Stand p l e R s m args below meth c T locs k n) (hlocks : meth.locks = false) {v : Option Value} (hv : meth.sig.returnType = none → v = none) {f : JFrame}
    (st : ∀ fs, (∀ (f : JFrame) (acts : List Action), f.method = m → f.locked = none → f.entered = [] → (doReturn e (T.setTop f) acts v).1 = T.setFrames fs) → Steps p.tables e below (T.setTop f) (T.setFrames fs))
    (hQ : Q v T.heap locs) (hk : k ≤ cells) (hn : n ≤ slots) : Go p e below (T.setTop f) (EndN s Q cells slots) := by
  obtain ⟨fs, hr, hrun, hended, hW, hsame⟩ := X.leave (v := v) hv hlocks
  exact ⟨_, _, st fs hr, hrun, hended, v, locs, rfl, hQ, ⟨_, rfl⟩, hW, hsame.mono hk hn⟩
theorem Go.doneW {vm₁ : Vm} (X : Stand p l e R (s.setVm vm₁) m args below meth c T locs k n) {N : Nat} (hS : s.Since vm₁ N) (hN : N ≤ T.heap.size) (hlocks : meth.locks = false) {v : Option Value} (hv : meth.sig.returnType = none → v = none) {f : JFrame}
    (st : ∀ fs, (∀ (f : JFrame) (acts : List Action), f.method = m → f.locked = none → f.entered = [] → (doReturn e (T.setTop f) acts v).1 = T.setFrames fs) → Steps p.tables e below (T.setTop f) (T.setFrames fs))
    (hQ : Q v T.heap locs) (hk : k ≤ cells) (hn : n ≤ slots) : Go p e below (T.setTop f) (EndW s Q cells slots) := by
  obtain ⟨fs, hr, hrun, hended, h1, h2, h3, h4⟩ := X.leaveW hS hN (v := v) hv hlocks
  exact ⟨_, _, st fs hr, hrun, hended, v, locs, rfl, hQ, h1, h2, h3, h4.mono hk hn⟩
/-- the end of a body that may intern, and that keeps what is booked of EL -/
abbrev EndH (Z : State) (EL : List (String × Nat)) (s : State) (Q : Option Value → Heap → List Loc → Prop) (cells slots : Nat) : Outcome → State → Prop := fun o U' => ∃ v L, o = .returned v ∧ Q v U'.heap L ∧ CHr Z EL s.vm s.heap U'.vm U'.heap ∧ ReturnedEndW s o U' L cells slots
theorem Go.doneH {Z : State} {a0 : Array Value} {EL : List (String × Nat)} {vm₁ : Vm} {h0 h : Heap} (X : Stand p l e R (s.setVm vm₁) m args below meth c T locs k n) {N : Nat} (hS : s.Since vm₁ N) (hN : N ≤ T.heap.size) (hlocks : meth.locks = false) {v : Option Value} (hv : meth.sig.returnType = none → v = none) {f : JFrame}
    (st : ∀ fs, (∀ (f : JFrame) (acts : List Action), f.method = m → f.locked = none → f.entered = [] → (doReturn e (T.setTop f) acts v).1 = T.setFrames fs) → Steps p.tables e below (T.setTop f) (T.setFrames fs))
    (hQ : Q v T.heap locs) (hk : k ≤ cells) (hn : n ≤ slots) (hZ : Z.Warmed39 vm₁) (hEL : EW Z a0 EL) (hh : s.heap = h0) (eT : T.heap = h) (hC : CHr Z EL s.vm h0 vm₁ h) : Go p e below (T.setTop f) (EndH Z EL s Q cells slots) := by
  subst hh eT
  obtain ⟨fs, hr, hrun, hended, h1, h2, h3, h4⟩ := X.leaveW hS hN (v := v) hv hlocks
  exact ⟨_, _, st fs hr, hrun, hended, v, locs, rfl, hQ, show CHr Z EL s.vm s.heap T.vm T.heap from hC.trans (CHv.at X hZ hEL hC.1), h1, h2, h3, h4.mono hk hn⟩
/-- a String whose value is still null is none that is booked -/
theorem own_safe {Z : State} {EL : List (String × Nat)} {vm : Vm} {h : Heap} {x : Addr} (hal : Z.vm.Alike vm) (E : Exa Z h x "java/lang/String") (F : Fld Z h x "java/lang/String" "value" "[B" .null) : Safe Z EL vm h x := fun B => by
  obtain ⟨p, -, u, a, -, q, -, S, hy⟩ := B
  obtain ⟨cell, cf, k, i, f, f1, f2, -, -, -, -, f7⟩ := F
  obtain ⟨cS, ⟨⟨s1, -, -, ⟨cv, kv, iv, s4, -⟩, -, s6, -, s8, -, s10, -⟩, -, -⟩, -, hB, -⟩ := S
  rcases hy with rfl | rfl
  · cases (show h[q.sa]? = some q.sC from s1).symm.trans f1
    obtain ⟨kv', z4⟩ := ff_back (U := Wst Z vm h) hal s4
    cases f2.symm.trans z4
    rw [s8] at f7
    cases f7
  · obtain ⟨cell', k', e1, e2, e3, -⟩ := E
    cases (show h[q.sd]? = some q.SA from s10).symm.trans e1
    have hB' : Z.vm.findClass "[B" = some q.SA.cls := by rw [← hal.findClass]; exact hB
    exact ids_ne hB' e2 (by decide) rfl
theorem retJ (X : Stand p l e R s m args below meth c T locs cells slots) (hx : p.tables.exec = Jvm.exec) {pc : Nat} {Ls : Array Slot} {z : Int64} {rest : List Value} (hret : meth.sig.returnType = some .long) (hd : decode c.code pc = .ok (.lreturn, 1)) {fs : List Frame}
    (hl : ∀ (f : JFrame) (acts : List Action), f.method = m → f.locked = none → f.entered = [] → (doReturn e (T.setTop f) acts (some (.long z))).1 = T.setFrames fs) : Steps p.tables e below (T.setTop (mkF m pc Ls (.long z :: rest))) (T.setFrames fs) :=
  retOut X hx hret rfl (Or.inr (Or.inl ⟨rfl, rfl, z, rfl⟩)) hd hl
theorem retA (X : Stand p l e R s m args below meth c T locs cells slots) (hx : p.tables.exec = Jvm.exec) {pc : Nat} {Ls : Array Slot} {w : Value} {t : FieldType} {rest : List Value} (hret : meth.sig.returnType = some t) (hn : narrow t w = w) (ht : t.isReference = true) (hw : w.isRef = true) (hd : decode c.code pc = .ok (.areturn, 1)) {fs : List Frame}
    (hl : ∀ (f : JFrame) (acts : List Action), f.method = m → f.locked = none → f.entered = [] → (doReturn e (T.setTop f) acts (some w)).1 = T.setFrames fs) : Steps p.tables e below (T.setTop (mkF m pc Ls (w :: rest))) (T.setFrames fs) :=
  retOut X hx hret hn (Or.inr (Or.inr (Or.inr (Or.inr ⟨rfl, ht, hw⟩)))) hd hl
variable {Z : State} {a0 : Array Value} {h : Heap} {pc q : Nat} {L : Array Slot} {S : List Value}
theorem gL (X : Stand p l e R s m args below meth c T locs cells slots) (hx : p.tables.exec = Jvm.exec) {k : Nat} {x : Int32} (hd : decode c.code pc = .ok (.iload k, 2)) (hl : L[k]? = some (.val (.int x))) (hq : pc + 2 = q) (G : Go p e below (T.setTop (mkF m q L (.int x :: S))) F) : Go p e below (T.setTop (mkF m pc L (S))) F := by
  subst hq
  exact Go.st (fun _ z => XS.iload X.here hx rfl hd hl z) G
theorem gLN (X : Stand p l e R s m args below meth c T locs cells slots) (hx : p.tables.exec = Jvm.exec) {k : Fin 4} {x : Int32} (hd : decode c.code pc = .ok (.iload_n k, 1)) (hl : L[k.val]? = some (.val (.int x))) (hq : pc + 1 = q) (G : Go p e below (T.setTop (mkF m q L (.int x :: S))) F) : Go p e below (T.setTop (mkF m pc L (S))) F := by
  subst hq
  exact Go.st (fun _ z => XS.iloadN X.here hx rfl hd hl z) G
theorem gA (X : Stand p l e R s m args below meth c T locs cells slots) (hx : p.tables.exec = Jvm.exec) {k : Nat} {a : Addr} (hd : decode c.code pc = .ok (.aload k, 2)) (hl : L[k]? = some (.val (.ref a))) (hq : pc + 2 = q) (G : Go p e below (T.setTop (mkF m q L (.ref a :: S))) F) : Go p e below (T.setTop (mkF m pc L (S))) F := by
  subst hq
  exact Go.st (fun _ z => XS.aload X.here hx rfl hd hl rfl z) G
theorem gAN (X : Stand p l e R s m args below meth c T locs cells slots) (hx : p.tables.exec = Jvm.exec) {k : Fin 4} {a : Addr} (hd : decode c.code pc = .ok (.aload_n k, 1)) (hl : L[k.val]? = some (.val (.ref a))) (hq : pc + 1 = q) (G : Go p e below (T.setTop (mkF m q L (.ref a :: S))) F) : Go p e below (T.setTop (mkF m pc L (S))) F := by
  subst hq
  exact Go.st (fun _ z => XS.aloadN X.here hx rfl hd hl rfl z) G
theorem gC (X : Stand p l e R s m args below meth c T locs cells slots) (hx : p.tables.exec = Jvm.exec) {i : Int} {z : Int32} (hd : decode c.code pc = .ok (.iconst i, 1)) (hz : Int32.ofInt i = z) (hq : pc + 1 = q) (G : Go p e below (T.setTop (mkF m q L (.int z :: S))) F) : Go p e below (T.setTop (mkF m pc L (S))) F := by
  subst hq hz
  exact Go.st (fun _ z => XS.iconst X.here hx rfl hd z) G
theorem gB (X : Stand p l e R s m args below meth c T locs cells slots) (hx : p.tables.exec = Jvm.exec) {i : Int} {z : Int32} (hd : decode c.code pc = .ok (.bipush i, 2)) (hz : (Int8.ofInt i).toInt32 = z) (hq : pc + 2 = q) (G : Go p e below (T.setTop (mkF m q L (.int z :: S))) F) : Go p e below (T.setTop (mkF m pc L (S))) F := by
  subst hq hz
  exact Go.st (fun _ z => XS.bipush X.here hx rfl hd z) G
theorem gH (X : Stand p l e R s m args below meth c T locs cells slots) (hx : p.tables.exec = Jvm.exec) {i : Int} {z : Int32} (hd : decode c.code pc = .ok (.sipush i, 3)) (hz : (Int16.ofInt i).toInt32 = z) (hq : pc + 3 = q) (G : Go p e below (T.setTop (mkF m q L (.int z :: S))) F) : Go p e below (T.setTop (mkF m pc L (S))) F := by
  subst hq hz
  exact Go.st (fun _ z => XS.sipush X.here hx rfl hd z) G
theorem giadd (X : Stand p l e R s m args below meth c T locs cells slots) (hx : p.tables.exec = Jvm.exec) {x y : Int32} (hd : decode c.code pc = .ok (.iadd, 1)) (hq : pc + 1 = q) (G : Go p e below (T.setTop (mkF m q L (.int (x + y) :: S))) F) : Go p e below (T.setTop (mkF m pc L (.int y :: .int x :: S))) F := by
  subst hq
  exact Go.st (fun _ z => XS.iadd X.here hx rfl hd rfl z) G
theorem gisub (X : Stand p l e R s m args below meth c T locs cells slots) (hx : p.tables.exec = Jvm.exec) {x y : Int32} (hd : decode c.code pc = .ok (.isub, 1)) (hq : pc + 1 = q) (G : Go p e below (T.setTop (mkF m q L (.int (x - y) :: S))) F) : Go p e below (T.setTop (mkF m pc L (.int y :: .int x :: S))) F := by
  subst hq
  exact Go.st (fun _ z => XS.isub X.here hx rfl hd rfl z) G
theorem giand (X : Stand p l e R s m args below meth c T locs cells slots) (hx : p.tables.exec = Jvm.exec) {x y : Int32} (hd : decode c.code pc = .ok (.iand, 1)) (hq : pc + 1 = q) (G : Go p e below (T.setTop (mkF m q L (.int (x &&& y) :: S))) F) : Go p e below (T.setTop (mkF m pc L (.int y :: .int x :: S))) F := by
  subst hq
  exact Go.st (fun _ z => XS.iand X.here hx rfl hd rfl z) G
theorem gimul (X : Stand p l e R s m args below meth c T locs cells slots) (hx : p.tables.exec = Jvm.exec) {x y : Int32} (hd : decode c.code pc = .ok (.imul, 1)) (hq : pc + 1 = q) (G : Go p e below (T.setTop (mkF m q L (.int (x * y) :: S))) F) : Go p e below (T.setTop (mkF m pc L (.int y :: .int x :: S))) F := by
  subst hq
  exact Go.st (fun _ z => XS.imul X.here hx rfl hd rfl z) G
theorem gD (X : Stand p l e R s m args below meth c T locs cells slots) (hx : p.tables.exec = Jvm.exec) {x : Value} (hd : decode c.code pc = .ok (.dup, 1)) (hk : x.category = 1) (hq : pc + 1 = q) (G : Go p e below (T.setTop (mkF m q L (x :: x :: S))) F) : Go p e below (T.setTop (mkF m pc L (x :: S))) F := by
  subst hq
  exact Go.st (fun _ z => XS.dup X.here hx rfl hd rfl hk z) G
theorem gG (X : Stand p l e R s m args below meth c T locs cells slots) (hx : p.tables.exec = Jvm.exec) {o : Int} (hd : decode c.code pc = .ok (.goto o, 3)) (hq : 0 ≤ (pc : Int) + o ∧ ((pc : Int) + o).toNat = q) (G : Go p e below (T.setTop (mkF m q L (S))) F) : Go p e below (T.setTop (mkF m pc L (S))) F := Go.st (fun _ z => XS.goto X.here hx rfl (pc0 := pc) (pc' := q) rfl hd hq.1 hq.2 z) G
theorem gIY (X : Stand p l e R s m args below meth c T locs cells slots) (hx : p.tables.exec = Jvm.exec) {cd : ClassFile.Cond} {o : Int} {x : Int32} (hd : decode c.code pc = .ok (.ifCond cd o, 3)) (hh : ifCond.holds cd x = true) (hq : 0 ≤ (pc : Int) + o ∧ ((pc : Int) + o).toNat = q) (G : Go p e below (T.setTop (mkF m q L (S))) F) : Go p e below (T.setTop (mkF m pc L (.int x :: S))) F := Go.st (fun _ z => XS.ifYes X.here hx rfl (pc0 := pc) (pc' := q) rfl hd rfl hh hq.1 hq.2 z) G
theorem gIN (X : Stand p l e R s m args below meth c T locs cells slots) (hx : p.tables.exec = Jvm.exec) {cd : ClassFile.Cond} {o : Int} {x : Int32} (hd : decode c.code pc = .ok (.ifCond cd o, 3)) (hh : ifCond.holds cd x = false) (hq : pc + 3 = q) (G : Go p e below (T.setTop (mkF m q L (S))) F) : Go p e below (T.setTop (mkF m pc L (.int x :: S))) F := by
  subst hq
  exact Go.st (fun _ z => XS.ifNo X.here hx rfl hd rfl hh z) G
theorem gJY (X : Stand p l e R s m args below meth c T locs cells slots) (hx : p.tables.exec = Jvm.exec) {cd : ClassFile.Cond} {o : Int} {x y : Int32} (hd : decode c.code pc = .ok (.if_icmp cd o, 3)) (hh : if_icmp.holds cd x y = true) (hq : 0 ≤ (pc : Int) + o ∧ ((pc : Int) + o).toNat = q) (G : Go p e below (T.setTop (mkF m q L (S))) F) : Go p e below (T.setTop (mkF m pc L (.int y :: .int x :: S))) F := Go.st (fun _ z => XS.icmpYes X.here hx rfl (pc0 := pc) (pc' := q) rfl hd rfl hh hq.1 hq.2 z) G
theorem gJN (X : Stand p l e R s m args below meth c T locs cells slots) (hx : p.tables.exec = Jvm.exec) {cd : ClassFile.Cond} {o : Int} {x y : Int32} (hd : decode c.code pc = .ok (.if_icmp cd o, 3)) (hh : if_icmp.holds cd x y = false) (hq : pc + 3 = q) (G : Go p e below (T.setTop (mkF m q L (S))) F) : Go p e below (T.setTop (mkF m pc L (.int y :: .int x :: S))) F := by
  subst hq
  exact Go.st (fun _ z => XS.icmpNo X.here hx rfl hd rfl hh z) G
theorem gS (q : Nat) (S' : List Value) (k : ∀ t, Steps p.tables e below (T.setTop (mkF m q L S')) t → Steps p.tables e below (T.setTop (mkF m pc L S)) t) (G : Go p e below (T.setTop (mkF m q L (S'))) F) : Go p e below (T.setTop (mkF m pc L (S))) F := Go.st k G
theorem gP (q : Nat) (L' : Array Slot) (S' : List Value) (k : ∀ t, Steps p.tables e below (T.setTop (mkF m q L' S')) t → Steps p.tables e below (T.setTop (mkF m pc L S)) t) (G : Go p e below (T.setTop (mkF m q L' (S'))) F) : Go p e below (T.setTop (mkF m pc L (S))) F := Go.st k G
theorem gT (T' : State) (q : Nat) (S' : List Value) (k : ∀ t, Steps p.tables e below (T'.setTop (mkF m q L S')) t → Steps p.tables e below (T.setTop (mkF m pc L S)) t) (G : Go p e below (T'.setTop (mkF m q L (S'))) F) : Go p e below (T.setTop (mkF m pc L (S))) F := Go.st k G
theorem gF (X : Stand p l e R s m args below meth c T locs cells slots) (hx : p.tables.exec = Jvm.exec) (hZ : Z.Warmed39 s.vm) {own R0 O n d : String} {index : Nat} (hown : s.vm.findClass own = some m.cls) (w : (Jvm.Cond.fieldLink own index R0 n d).before a0 Z = true) (via : Via Z R0 O n d) (eT : T.heap = h) {a : Addr} {v : Value} (Fl : Fld Z h a O n d v) (hd : decode c.code pc = .ok (.getfield index, 3)) (hq : pc + 3 = q) (G : ∀ T', Stand p l e R s m args below meth c T' locs cells slots → T'.heap = h → Go p e below (T'.setTop (mkF m q L (v :: S))) F) : Go p e below (T.setTop (mkF m pc L (.ref a :: S))) F := by
  subst hq
  obtain ⟨T', X', e', st⟩ := getF X hx hZ hown (host := "") (Or.inl w) via eT Fl (g := mkF m pc L (.ref a :: S)) rfl rfl hd
  exact Go.st st (G T' X' e')
theorem gIA (X : Stand p l e R s m args below meth c T locs cells slots) (hx : p.tables.exec = Jvm.exec) (hZ : Z.Warmed39 s.vm) (eT : T.heap = h) {a : Addr} {k : ClassId} {n : Int32} {vs : List Value} {d : Value} (A : Arv Z h a k .int n vs d) {j : Int32} (v : Value) (hj : ¬ j < 0 ∧ j < n) (hv : vs.getD j.toNatClampNeg d = v) (hd : decode c.code pc = .ok (.iaload, 1)) (hq : pc + 1 = q) (G : Go p e below (T.setTop (mkF m q L (v :: S))) F) : Go p e below (T.setTop (mkF m pc L (.int j :: .ref a :: S))) F := by
  subst hq
  obtain ⟨cl, Ar, q1, S1, M, H, G1⟩ := id A
  have hin := inb_of S1 hj
  exact Go.st (fun t z => X.iaload hx (by rw [eT]; exact Ar.1) (State.isArrayOf_alike hZ.alike Ar.2.1) Ar.2.2 hin (H.at hin hv) (g := mkF m pc L (.int j :: .ref a :: S)) rfl rfl hd t z) G
theorem gJA (X : Stand p l e R s m args below meth c T locs cells slots) (hx : p.tables.exec = Jvm.exec) (hZ : Z.Warmed39 s.vm) (eT : T.heap = h) {a : Addr} {k : ClassId} {n : Int32} {vs : List Value} {d : Value} (A : Arv Z h a k .long n vs d) {j : Int32} (v : Value) (hj : ¬ j < 0 ∧ j < n) (hv : vs.getD j.toNatClampNeg d = v) (hd : decode c.code pc = .ok (.laload, 1)) (hq : pc + 1 = q) (G : Go p e below (T.setTop (mkF m q L (v :: S))) F) : Go p e below (T.setTop (mkF m pc L (.int j :: .ref a :: S))) F := by
  subst hq
  obtain ⟨cl, Ar, q1, S1, M, H, G1⟩ := id A
  have hin := inb_of S1 hj
  exact Go.st (fun t z => X.laload hx (by rw [eT]; exact Ar.1) (State.isArrayOf_alike hZ.alike Ar.2.1) Ar.2.2 hin (H.at hin hv) (g := mkF m pc L (.int j :: .ref a :: S)) rfl rfl hd t z) G
theorem gSA (X : Stand p l e R s m args below meth c T locs cells slots) (hx : p.tables.exec = Jvm.exec) (hZ : Z.Warmed39 s.vm) (eT : T.heap = h) {a : Addr} {k : ClassId} {n : Int32} {vs : List Value} {d : Value} (A : Arv Z h a k .short n vs d) {j : Int32} (v : Value) (hj : ¬ j < 0 ∧ j < n) (hv : vs.getD j.toNatClampNeg d = v) (hd : decode c.code pc = .ok (.saload, 1)) (hq : pc + 1 = q) (G : Go p e below (T.setTop (mkF m q L (v :: S))) F) : Go p e below (T.setTop (mkF m pc L (.int j :: .ref a :: S))) F := by
  subst hq
  obtain ⟨cl, Ar, q1, S1, M, H, G1⟩ := id A
  have hin := inb_of S1 hj
  exact Go.st (fun t z => X.saload hx (by rw [eT]; exact Ar.1) (State.isArrayOf_alike hZ.alike Ar.2.1) Ar.2.2 hin (H.at hin hv) (g := mkF m pc L (.int j :: .ref a :: S)) rfl rfl hd t z) G
theorem gBA (X : Stand p l e R s m args below meth c T locs cells slots) (hx : p.tables.exec = Jvm.exec) (hZ : Z.Warmed39 s.vm) (eT : T.heap = h) {a : Addr} {k : ClassId} {n : Int32} {vs : List Value} {d : Value} (A : Arv Z h a k .byte n vs d) {j : Int32} (v : Value) (hj : ¬ j < 0 ∧ j < n) (hv : vs.getD j.toNatClampNeg d = v) (hd : decode c.code pc = .ok (.baload, 1)) (hq : pc + 1 = q) (G : Go p e below (T.setTop (mkF m q L (v :: S))) F) : Go p e below (T.setTop (mkF m pc L (.int j :: .ref a :: S))) F := by
  subst hq
  obtain ⟨cl, Ar, q1, S1, M, H, G1⟩ := id A
  have hin := inb_of S1 hj
  exact Go.st (fun t z => X.baloadBytes hx (by rw [eT]; exact Ar.1) (State.isArrayOf_alike hZ.alike Ar.2.1) Ar.2.2 hin (H.at hin hv) (g := mkF m pc L (.int j :: .ref a :: S)) rfl rfl hd t z) G
theorem gCA (X : Stand p l e R s m args below meth c T locs cells slots) (hx : p.tables.exec = Jvm.exec) (hZ : Z.Warmed39 s.vm) (eT : T.heap = h) {a : Addr} {k : ClassId} {n : Int32} {vs : List Value} {d : Value} (A : Arv Z h a k .char n vs d) {j : Int32} (v : Value) (hj : ¬ j < 0 ∧ j < n) (hv : vs.getD j.toNatClampNeg d = v) (hd : decode c.code pc = .ok (.caload, 1)) (hq : pc + 1 = q) (G : Go p e below (T.setTop (mkF m q L (v :: S))) F) : Go p e below (T.setTop (mkF m pc L (.int j :: .ref a :: S))) F := by
  subst hq
  obtain ⟨cl, Ar, q1, S1, M, H, G1⟩ := id A
  have hin := inb_of S1 hj
  exact Go.st (fun t z => X.caload hx (by rw [eT]; exact Ar.1) (State.isArrayOf_alike hZ.alike Ar.2.1) Ar.2.2 hin (H.at hin hv) (g := mkF m pc L (.int j :: .ref a :: S)) rfl rfl hd t z) G
theorem gRA (X : Stand p l e R s m args below meth c T locs cells slots) (hx : p.tables.exec = Jvm.exec) (hZ : Z.Warmed39 s.vm) (eT : T.heap = h) {a : Addr} {k : ClassId} {n : Int32} {vs : List Value} {d : Value} {ty : FieldType} (A : Arv Z h a k ty n vs d) {j : Int32} (v : Value) (hj : ¬ j < 0 ∧ j < n) (hv : vs.getD j.toNatClampNeg d = v) (hd : decode c.code pc = .ok (.aaload, 1)) (hq : pc + 1 = q) (ht : ty.isReference = true) (G : Go p e below (T.setTop (mkF m q L (v :: S))) F) : Go p e below (T.setTop (mkF m pc L (.int j :: .ref a :: S))) F := by
  subst hq
  obtain ⟨cl, Ar, q1, S1, M, H, G1⟩ := id A
  have hin := inb_of S1 hj
  exact Go.st (fun t z => X.aaload hx (by rw [eT]; exact Ar.1) (State.isArrayOf_alike hZ.alike Ar.2.1) ht Ar.2.2 hin (H.at hin hv) (g := mkF m pc L (.int j :: .ref a :: S)) rfl rfl hd t z) G
theorem gSI (X : Stand p l e R s m args below meth c T locs cells slots) (hx : p.tables.exec = Jvm.exec) (hZ : Z.Warmed39 s.vm) (eT : T.heap = h) {a : Addr} {k : ClassId} {n : Int32} {vs : List Value} {d : Value} (A : Arv Z h a k .int n vs d) {j : Int32} {x : Int32} (hj : ¬ j < 0 ∧ j < n) (i : Nat) (hi : j.toNatClampNeg = i) (hl : i < vs.length) (vs' : List Value) (hv : vs.set i (.int x) = vs') (hd : decode c.code pc = .ok (.iastore, 1)) (hq : pc + 1 = q) (G : ∀ T' h', Stand p l e R s m args below meth c T' (locs ++ [⟨a, j.toNatClampNeg⟩]) cells slots → T'.heap = h' → Wr h h' a j.toNatClampNeg (.int x) → Arv Z h' a k .int n vs' d → Go p e below (T'.setTop (mkF m q L (S))) F) : Go p e below (T.setTop (mkF m pc L (.int x :: .int j :: .ref a :: S))) F := by
  subst hq hv
  obtain ⟨cl, Ar, q1, S1, M, H, G1⟩ := id A
  obtain ⟨T', h', X', e', W, st⟩ := stI X hx hZ eT Ar (inb_of S1 hj) (g := mkF m pc L (.int x :: .int j :: .ref a :: S)) rfl rfl hd
  exact Go.st st (G T' h' X' e' W (Arv.set Ar q1 S1 M H G1 rfl W i hi hl))
theorem gSJ (X : Stand p l e R s m args below meth c T locs cells slots) (hx : p.tables.exec = Jvm.exec) (hZ : Z.Warmed39 s.vm) (eT : T.heap = h) {a : Addr} {k : ClassId} {n : Int32} {vs : List Value} {d : Value} (A : Arv Z h a k .long n vs d) {j : Int32} {x : Int64} (hj : ¬ j < 0 ∧ j < n) (i : Nat) (hi : j.toNatClampNeg = i) (hl : i < vs.length) (vs' : List Value) (hv : vs.set i (.long x) = vs') (hd : decode c.code pc = .ok (.lastore, 1)) (hq : pc + 1 = q) (G : ∀ T' h', Stand p l e R s m args below meth c T' (locs ++ [⟨a, j.toNatClampNeg⟩]) cells slots → T'.heap = h' → Wr h h' a j.toNatClampNeg (.long x) → Arv Z h' a k .long n vs' d → Go p e below (T'.setTop (mkF m q L (S))) F) : Go p e below (T.setTop (mkF m pc L (.long x :: .int j :: .ref a :: S))) F := by
  subst hq hv
  obtain ⟨cl, Ar, q1, S1, M, H, G1⟩ := id A
  obtain ⟨T', h', X', e', W, st⟩ := stJ X hx hZ eT Ar (inb_of S1 hj) (g := mkF m pc L (.long x :: .int j :: .ref a :: S)) rfl rfl hd
  exact Go.st st (G T' h' X' e' W (Arv.set Ar q1 S1 M H G1 rfl W i hi hl))
theorem gSS (X : Stand p l e R s m args below meth c T locs cells slots) (hx : p.tables.exec = Jvm.exec) (hZ : Z.Warmed39 s.vm) (eT : T.heap = h) {a : Addr} {k : ClassId} {n : Int32} {vs : List Value} {d : Value} (A : Arv Z h a k .short n vs d) {j : Int32} {x : Int32} (hj : ¬ j < 0 ∧ j < n) (i : Nat) (hi : j.toNatClampNeg = i) (hl : i < vs.length) (vs' : List Value) (hv : vs.set i (.int (nar .short x)) = vs') (hd : decode c.code pc = .ok (.sastore, 1)) (hq : pc + 1 = q) (G : ∀ T' h', Stand p l e R s m args below meth c T' (locs ++ [⟨a, j.toNatClampNeg⟩]) cells slots → T'.heap = h' → Wr h h' a j.toNatClampNeg (.int (nar .short x)) → Arv Z h' a k .short n vs' d → Go p e below (T'.setTop (mkF m q L (S))) F) : Go p e below (T.setTop (mkF m pc L (.int x :: .int j :: .ref a :: S))) F := by
  subst hq hv
  obtain ⟨cl, Ar, q1, S1, M, H, G1⟩ := id A
  obtain ⟨T', h', X', e', W, st⟩ := stS X hx hZ eT Ar (inb_of S1 hj) (g := mkF m pc L (.int x :: .int j :: .ref a :: S)) rfl rfl hd
  exact Go.st st (G T' h' X' e' W (Arv.set Ar q1 S1 M H G1 (fits_nar_short _) W i hi hl))
theorem gSB (X : Stand p l e R s m args below meth c T locs cells slots) (hx : p.tables.exec = Jvm.exec) (hZ : Z.Warmed39 s.vm) (eT : T.heap = h) {a : Addr} {k : ClassId} {n : Int32} {vs : List Value} {d : Value} (A : Arv Z h a k .byte n vs d) {j : Int32} {x : Int32} (hj : ¬ j < 0 ∧ j < n) (i : Nat) (hi : j.toNatClampNeg = i) (hl : i < vs.length) (vs' : List Value) (hv : vs.set i (.int (nar .byte x)) = vs') (hd : decode c.code pc = .ok (.bastore, 1)) (hq : pc + 1 = q) (G : ∀ T' h', Stand p l e R s m args below meth c T' (locs ++ [⟨a, j.toNatClampNeg⟩]) cells slots → T'.heap = h' → Wr h h' a j.toNatClampNeg (.int (nar .byte x)) → Arv Z h' a k .byte n vs' d → Go p e below (T'.setTop (mkF m q L (S))) F) : Go p e below (T.setTop (mkF m pc L (.int x :: .int j :: .ref a :: S))) F := by
  subst hq hv
  obtain ⟨cl, Ar, q1, S1, M, H, G1⟩ := id A
  obtain ⟨T', h', X', e', W, st⟩ := stB X hx hZ eT Ar (inb_of S1 hj) (g := mkF m pc L (.int x :: .int j :: .ref a :: S)) rfl rfl hd
  exact Go.st st (G T' h' X' e' W (Arv.set Ar q1 S1 M H G1 (fits_nar_byte _) W i hi hl))
end Goes
end Jvm.RoadKit
namespace Jvm.Pilot.@@N@@
open Jvm Jvm.ClassFile Sem Op Lib Jvm.Free Jvm.Stand Jvm.LawKit Jvm.RoadKit Bundle Jvm.Pilot.@@N@@.Jvm.D
abbrev Y0 : MethodName := ⟨"java/util/Arrays", "rangeCheck", "(III)V"⟩
abbrev Y1 : MethodName := ⟨"java/util/Arrays", "fill", "([SS)V"⟩
abbrev Y2 : MethodName := ⟨"java/util/Arrays", "fill", "([SIIS)V"⟩
abbrev Y3 : MethodName := ⟨"java/util/DualPivotQuicksort", "insertionSort", "([JII)V"⟩
abbrev Y4 : MethodName := ⟨"java/util/DualPivotQuicksort", "sort", "(Ljava/util/DualPivotQuicksort$Sorter;[JIII)V"⟩
abbrev Y5 : MethodName := ⟨"java/util/DualPivotQuicksort", "sort", "([JIII)V"⟩
abbrev Y6 : MethodName := ⟨"java/util/Arrays", "sort", "([JII)V"⟩
abbrev Y7 : MethodName := ⟨"java/lang/Math", "min", "(II)I"⟩
abbrev Y8 : MethodName := ⟨"java/lang/Math", "max", "(II)I"⟩
abbrev Y9 : MethodName := ⟨"com/example/tributary/tributary/join/LineCodes", "weigh", "([II)I"⟩
abbrev Y10 : MethodName := ⟨"com/example/tributary/tributary/join/LineCodes", "codeLengths", "(I)V"⟩
abbrev Y11 : MethodName := ⟨"com/example/tributary/tributary/join/LineCodes", "fits", "(I)Z"⟩
abbrev Y12 : MethodName := ⟨"com/example/tributary/tributary/join/LineCodes", "assign", "(I[S[S)V"⟩
abbrev Y13 : MethodName := ⟨"com/example/tributary/tributary/join/LineCodesCodedBytesPinLaw", "pick", "(IIBBBB)B"⟩
abbrev Y14 : MethodName := ⟨"com/example/tributary/tributary/join/LineCodesCodedBytesPinLaw", "length", "(II)I"⟩
abbrev Y15 : MethodName := ⟨"com/example/tributary/tributary/join/LineCodesCodedBytesPinLaw", "step", "([IIIII)V"⟩
abbrev Y16 : MethodName := ⟨"com/example/tributary/tributary/join/LineCodes", "codedBytes", "(I[BII)I"⟩
abbrev Y17 : MethodName := ⟨"com/example/tributary/tributary/join/LineCodes", "<init>", "(B)V"⟩
abbrev Y18 : MethodName := ⟨"com/example/tributary/tributary/join/LineCodes", "count", "([BII)V"⟩
abbrev Y19 : MethodName := ⟨"com/example/tributary/tributary/join/LineCodes", "halve", "()V"⟩
abbrev Y20 : MethodName := ⟨"com/example/tributary/tributary/join/LineCodes", "forget", "()V"⟩
abbrev Y21 : MethodName := ⟨"com/example/tributary/tributary/join/LineCodes", "make", "(I)V"⟩
theorem ow {a0 : Array Value} {Z : State} (hw : ∀ d ∈ tables_1, d.before a0 Z = true) (i : Nat) {d : Jvm.Cond} (h : tables_1[i]? = some d) : d.before a0 Z = true := hw _ (List.mem_of_getElem? h)
theorem own_i {w : Nat} (h : w < 2147483648) : (Int32.ofNat w).toInt = w := by
  rw [Int32.toInt_ofNat_of_lt (by omega)]
theorem own_clamp {w : Nat} (h : w < 2147483648) : (Int32.ofNat w).toNatClampNeg = w := by simp only [Int32.toNatClampNeg]; rw [own_i h]; rfl
theorem own_nn {w : Nat} (h : w < 2147483648) : ¬ Int32.ofNat w < 0 := by rw [Int32.lt_iff_toInt_lt, own_i h]; show ¬ (w : Int) < 0; omega
theorem own_add {a b : Nat} (h : a + b < 2147483648) : Int32.ofNat a + Int32.ofNat b = Int32.ofNat (a + b) := by
  apply Int32.toInt_inj.mp
  have q := c_iadd (Int32.ofNat a) (Int32.ofNat b)
  have r := rng32 (Int32.ofNat a + Int32.ofNat b)
  rw [own_i (by omega), own_i (by omega)] at q
  rw [own_i h]; omega
theorem own_addn {a : Nat} {k : Int32} {b : Nat} (hk : k = Int32.ofNat b) (h : a + b < 2147483648) : Int32.ofNat a + k = Int32.ofNat (a + b) := by rw [hk]; exact own_add h
theorem own_dec {a : Nat} (h0 : 1 ≤ a) (h : a < 2147483648) : Int32.ofNat a + (-1 : Int32) = Int32.ofNat (a - 1) := by
  apply Int32.toInt_inj.mp
  have q := c_iadd (Int32.ofNat a) (-1)
  have r := rng32 (Int32.ofNat a + (-1))
  have e1 : (-1 : Int32).toInt = -1 := rfl
  rw [own_i (by omega), e1] at q
  rw [own_i (by omega)]; omega
theorem own_sub1 {a : Nat} (h0 : 1 ≤ a) (h : a < 2147483648) : Int32.ofNat a - (1 : Int32) = Int32.ofNat (a - 1) := by
  apply Int32.toInt_inj.mp
  have q := c_isub (Int32.ofNat a) 1
  have r := rng32 (Int32.ofNat a - 1)
  have e1 : (1 : Int32).toInt = 1 := rfl
  rw [own_i (by omega), e1] at q
  rw [own_i (by omega)]; omega
theorem own_sub0 {a : Nat} (h : a < 2147483648) : Int32.ofNat a - (0 : Int32) = Int32.ofNat a := by
  apply Int32.toInt_inj.mp
  have q := c_isub (Int32.ofNat a) 0
  have r := rng32 (Int32.ofNat a - 0)
  have e1 : (0 : Int32).toInt = 0 := rfl
  rw [own_i (by omega), e1] at q
  rw [own_i (by omega)]; omega
theorem own_lt32 {i n : Nat} (hi : i < 2147483648) (hn : n < 2147483648) : Int32.ofNat i < Int32.ofNat n ↔ i < n := by
  rw [Int32.lt_iff_toInt_lt, own_i hi, own_i hn]; omega
theorem own_eq32 {i n : Nat} (hi : i < 2147483648) (hn : n < 2147483648) : Int32.ofNat i = Int32.ofNat n ↔ i = n := by
  constructor
  · intro q
    have t := congrArg Int32.toInt q
    rw [own_i hi, own_i hn] at t
    omega
  · rintro rfl; rfl

def own_up {α : Type} (f : Nat → α) (i : Nat) (v : α) : Nat → α := fun j => if j = i then v else f j
theorem own_up_self {α : Type} (f : Nat → α) (i : Nat) : own_up f i (f i) = f := by
  funext j; unfold own_up; split
  · rename_i h; rw [h]
  · rfl
def own_ar (f : Nat → Int32) (n : Nat) : List Value := (List.range n).map fun i => .int (f i)
def own_al (f : Nat → Int64) (n : Nat) : List Value := (List.range n).map fun i => .long (f i)
theorem own_arl (f : Nat → Int32) (n : Nat) : (own_ar f n).length = n := by simp [own_ar]
theorem own_all (f : Nat → Int64) (n : Nat) : (own_al f n).length = n := by simp [own_al]
theorem own_arg (f : Nat → Int32) {n i : Nat} (h : i < n) (hn : n < 2147483648) (d : Value) : (own_ar f n).getD (Int32.ofNat i).toNatClampNeg d = .int (f i) := by
  rw [own_clamp (by omega), List.getD_eq_getElem?_getD]; simp only [own_ar, List.getElem?_map, List.getElem?_range h, Option.map_some, Option.getD_some]
theorem own_alg (f : Nat → Int64) {n i : Nat} (h : i < n) (hn : n < 2147483648) (d : Value) : (own_al f n).getD (Int32.ofNat i).toNatClampNeg d = .long (f i) := by
  rw [own_clamp (by omega), List.getD_eq_getElem?_getD]; simp only [own_al, List.getElem?_map, List.getElem?_range h, Option.map_some, Option.getD_some]
theorem own_ars (f : Nat → Int32) {n i : Nat} (h : i < n) (v : Int32) : (own_ar f n).set i (.int v) = own_ar (own_up f i v) n := by
  apply List.ext_getElem?
  intro j
  simp only [own_ar, List.getElem?_set, List.getElem?_map, List.length_map, List.length_range]
  by_cases hj : j < n
  · rw [List.getElem?_range hj]
    by_cases e : i = j
    · subst e; simp [h, own_up]
    · simp [e, own_up, Ne.symm e]
  · have : ¬ i = j := by omega
    simp [hj, this]
theorem own_als (f : Nat → Int64) {n i : Nat} (h : i < n) (v : Int64) : (own_al f n).set i (.long v) = own_al (own_up f i v) n := by
  apply List.ext_getElem?
  intro j
  simp only [own_al, List.getElem?_set, List.getElem?_map, List.length_map, List.length_range]
  by_cases hj : j < n
  · rw [List.getElem?_range hj]
    by_cases e : i = j
    · subst e; simp [h, own_up]
    · simp [e, own_up, Ne.symm e]
  · have : ¬ i = j := by omega
    simp [hj, this]
theorem own_ar0 (n : Nat) : List.replicate n (Value.int (0 : Int32)) = own_ar (fun _ => 0) n := by
  apply List.ext_getElem?
  intro j
  simp only [own_ar, List.getElem?_map, List.getElem?_replicate]
  by_cases hj : j < n
  · simp [hj]
  · simp [hj]
theorem own_al0 (n : Nat) : List.replicate n (Value.long (0 : Int64)) = own_al (fun _ => 0) n := by
  apply List.ext_getElem?
  intro j
  simp only [own_al, List.getElem?_map, List.getElem?_replicate]
  by_cases hj : j < n
  · simp [hj]
  · simp [hj]
theorem own_arc {f g : Nat → Int32} {n : Nat} (h : ∀ i, i < n → f i = g i) : own_ar f n = own_ar g n := by
  unfold own_ar
  apply List.map_congr_left
  intro i hi
  rw [h i (List.mem_range.mp hi)]
def own_fl (f : Nat → Int32) (i : Nat) : Nat → Int32 := fun j => if j < i then 0 else f j
theorem own_fls (f : Nat → Int32) (i : Nat) : own_up (own_fl f i) i 0 = own_fl f (i + 1) := by
  funext j
  simp only [own_up, own_fl]
  by_cases h : j = i
  · subst h; rw [if_pos rfl, if_pos (by omega)]
  · rw [if_neg h]
    by_cases h2 : j < i
    · rw [if_pos h2, if_pos (by omega)]
    · rw [if_neg h2, if_neg (by omega)]
theorem own_fln (f : Nat → Int32) (n : Nat) : own_ar (own_fl f n) n = own_ar (fun _ => 0) n := own_arc fun i hi => by unfold own_fl; rw [if_pos hi]
/-- x sinks to its place below the hole at q -/
def own_inner (w : Nat → Int64) (x : Int64) : Nat → Nat → Int64
  | 0 => own_up w 0 x
  | q + 1 => if x < w q then own_inner (own_up w (q + 1) (w q)) x q else own_up w (q + 1) x
def own_sort (w : Nat → Int64) : Nat → Nat → Int64
  | 0 => w
  | k + 1 => own_inner (own_sort w k) (own_sort w k k) k
theorem own_sort1 (w : Nat → Int64) : own_sort w 1 = w := own_up_self w 0
theorem own_shz (x : Int32) : x >>> ((0 : Int32) &&& 31) = x := by
  apply Int32.toBitVec_inj.mp
  show x.toBitVec.sshiftRight 0 = _
  exact BitVec.sshiftRight_zero
/-- a symbol behind its weight -/
def own_key (f : Nat → Int32) (i : Nat) : Int64 := ((f i).toInt64 <<< ((16 : Int32) &&& 0x3f).toInt64) ||| (Int32.ofNat i).toInt64
/-- ps: the places below 257 where f is positive, ascending -/
def own_pos (f : Nat → Int32) (ps : List Nat) : Prop := ps.Pairwise (· < ·) ∧ (∀ i, i < 257 → (0 < f i ↔ i ∈ ps)) ∧ (∀ i ∈ ps, i < 257) ∧ 1 ≤ ps.length ∧ ps.length ≤ 4
def own_wl (f : Nat → Int32) (done : List Nat) (w0 : Nat → Int64) : Nat → Int64 := fun j => if j < done.length then own_key f (done.getD j 0) else w0 j
theorem own_wls (f : Nat → Int32) (done : List Nat) (w0 : Nat → Int64) (i : Nat) : own_up (own_wl f done w0) done.length (own_key f i) = own_wl f (done ++ [i]) w0 := by
  funext j
  simp only [own_up, own_wl, List.length_append, List.length_cons, List.length_nil]
  by_cases h : j = done.length
  · subst h
    rw [if_pos rfl, if_pos (by omega), List.getD_eq_getElem?_getD, List.getElem?_append_right (Nat.le_refl _), Nat.sub_self]; rfl
  · rw [if_neg h]
    by_cases h2 : j < done.length
    · rw [if_pos h2, if_pos (by omega), List.getD_eq_getElem?_getD, List.getD_eq_getElem?_getD, List.getElem?_append_left h2]
    · rw [if_neg h2, if_neg (by omega)]
theorem own_hd {done rest : List Nat} {i : Nat} (hp : (done ++ rest).Pairwise (· < ·)) (hi : i ∈ rest) (hr : ∀ x ∈ rest, i ≤ x) : ∃ rest', rest = i :: rest' ∧ ∀ x ∈ rest', i + 1 ≤ x := by
  cases rest with
  | nil => cases hi
  | cons y ys =>
    have h1 := (List.pairwise_append.mp hp).2.1
    have h2 := List.pairwise_cons.mp h1
    have h3 := hr y (List.mem_cons_self ..)
    rcases List.mem_cons.mp hi with q | q
    · subst q; exact ⟨ys, rfl, fun x hx => h2.1 x hx⟩
    · have := h2.1 i q; omega
def own_w2 (w : Nat → Int64) (i : Nat) : Nat → Int64 := fun j => if j < i then (((w j).toUInt64 >>> ((16 : Int32) &&& 0x3f).toInt64.toUInt64).toInt64) else w j
def own_o2 (w : Nat → Int64) (q : Nat → Int32) (i : Nat) : Nat → Int32 := fun j => if j < i then nar .short ((w j).toInt32.toInt16.toInt32) else q j
theorem own_w2s (w : Nat → Int64) (i : Nat) : own_up (own_w2 w i) i (((w i).toUInt64 >>> ((16 : Int32) &&& 0x3f).toInt64.toUInt64).toInt64) = own_w2 w (i + 1) := by
  funext j
  simp only [own_up, own_w2]
  by_cases h : j = i
  · subst h; rw [if_pos rfl, if_pos (by omega)]
  · rw [if_neg h]
    by_cases h2 : j < i
    · rw [if_pos h2, if_pos (by omega)]
    · rw [if_neg h2, if_neg (by omega)]
theorem own_w2i (w : Nat → Int64) (i : Nat) : own_w2 w i i = w i := by unfold own_w2; rw [if_neg (by omega)]
theorem own_w20 (w : Nat → Int64) : own_w2 w 0 = w := by funext j; unfold own_w2; rw [if_neg (by omega)]
theorem own_o20 (w : Nat → Int64) (q : Nat → Int32) : own_o2 w q 0 = q := by funext j; unfold own_o2; rw [if_neg (by omega)]
theorem own_o2s (w : Nat → Int64) (q : Nat → Int32) (i : Nat) : own_up (own_o2 w q i) i (nar .short ((w i).toInt32.toInt16.toInt32)) = own_o2 w q (i + 1) := by
  funext j
  simp only [own_up, own_o2]
  by_cases h : j = i
  · subst h; rw [if_pos rfl, if_pos (by omega)]
  · rw [if_neg h]
    by_cases h2 : j < i
    · rw [if_pos h2, if_pos (by omega)]
    · rw [if_neg h2, if_neg (by omega)]
/-- how many of the first i places hold len -/
def own_ct (f : Nat → Int32) (len : Int32) : Nat → Nat
  | 0 => 0
  | i + 1 => own_ct f len i + (if f i = len then 1 else 0)
def own_cv (c : Nat) (len : Nat) : Int32 := nar .short (((Int32.ofNat c <<< ((4 : Int32) &&& 31)) ||| Int32.ofNat len).toInt16.toInt32)
/-- one length's codes laid at the first i places -/
def own_as (f : Nat → Int32) (len c i : Nat) : Nat → Int32 := fun j => if j < i ∧ f j = Int32.ofNat len then own_cv (c + own_ct f (Int32.ofNat len) j) len else f j
theorem own_asi (f : Nat → Int32) (len c i : Nat) : own_as f len c i i = f i := by unfold own_as; rw [if_neg (fun q => absurd q.1 (by omega))]
theorem own_as0 (f : Nat → Int32) (len c : Nat) : own_as f len c 0 = f := by funext j; unfold own_as; rw [if_neg (fun q => absurd q.1 (by omega))]
theorem own_asy (f : Nat → Int32) (len c i : Nat) (h : f i = Int32.ofNat len) : own_up (own_as f len c i) i (own_cv (c + own_ct f (Int32.ofNat len) i) len) = own_as f len c (i + 1) := by
  funext j
  simp only [own_up, own_as]
  by_cases e : j = i
  · subst e; rw [if_pos rfl, if_pos ⟨by omega, h⟩]
  · rw [if_neg e]
    by_cases q : j < i ∧ f j = Int32.ofNat len
    · rw [if_pos q, if_pos ⟨by omega, q.2⟩]
    · rw [if_neg q, if_neg (fun z => q ⟨by omega, z.2⟩)]
theorem own_asn (f : Nat → Int32) (len c i : Nat) (h : ¬ f i = Int32.ofNat len) : own_as f len c i = own_as f len c (i + 1) := by
  funext j
  simp only [own_as]
  by_cases q : j < i ∧ f j = Int32.ofNat len
  · rw [if_pos q, if_pos ⟨by omega, q.2⟩]
  · rw [if_neg q, if_neg (fun z => by
      by_cases e : j = i
      · subst e; exact h z.2
      · exact q ⟨by omega, z.2⟩)]
theorem own_cty {f : Nat → Int32} {len : Int32} {i : Nat} (h : f i = len) : own_ct f len (i + 1) = own_ct f len i + 1 := by show _ + (if _ then 1 else 0) = _; rw [if_pos h]
theorem own_ctn {f : Nat → Int32} {len : Int32} {i : Nat} (h : ¬ f i = len) : own_ct f len (i + 1) = own_ct f len i := by show _ + (if _ then 1 else 0) = _; rw [if_neg h]; rfl
theorem own_ctm (f : Nat → Int32) (len : Int32) (i : Nat) : ∀ k, own_ct f len i ≤ own_ct f len (i + k)
  | 0 => Nat.le_refl _
  | k + 1 => Nat.le_trans (own_ctm f len i k) (Nat.le_add_right _ _)
def own_seq (f : Nat → Int32) : Nat → (Nat → Int32) × Nat
  | 0 => (f, 0)
  | k + 1 => (own_as (own_seq f k).1 (k + 1) (own_seq f k).2 257, 2 * ((own_seq f k).2 + own_ct (own_seq f k).1 (Int32.ofNat (k + 1)) 257))
/-- the codes of each length find room -/
def own_kraft (f : Nat → Int32) : Prop := ∀ k, k < 9 → (own_seq f k).2 + own_ct (own_seq f k).1 (Int32.ofNat (k + 1)) 257 ≤ 2 ^ (k + 1)
theorem own_9m {len : Nat} (h : len ≤ 9) : (9 : Int32) - Int32.ofNat len = Int32.ofNat (9 - len) := by
  have t : ∀ k : Fin 10, (9 : Int32) - Int32.ofNat k.val = Int32.ofNat (9 - k.val) := by decide +kernel
  exact t ⟨len, by omega⟩
theorem own_shf {len c : Nat} (h1 : 1 ≤ len) (h9 : len ≤ 9) (hc : c < 2 ^ len) : Int32.ofNat c <<< (Int32.ofNat (9 - len) &&& 31) = Int32.ofNat (c * 2 ^ (9 - len)) ∧ c * 2 ^ (9 - len) + 2 ^ (9 - len) ≤ 512 := by
  have t : ∀ (k : Fin 10) (d : Fin 512), k.val = 0 ∨ ¬ d.val < 2 ^ k.val ∨ (Int32.ofNat d.val <<< (Int32.ofNat (9 - k.val) &&& 31) = Int32.ofNat (d.val * 2 ^ (9 - k.val)) ∧ d.val * 2 ^ (9 - k.val) + 2 ^ (9 - k.val) ≤ 512) := by decide +kernel
  have hp : 2 ^ len ≤ 2 ^ 9 := Nat.pow_le_pow_right (by omega) h9
  have q := t ⟨len, by omega⟩ ⟨c, by omega⟩
  rcases q with q | q | q
  · exact absurd q (by show ¬ len = 0; omega)
  · exact absurd hc q
  · exact q
theorem own_sh1 {len : Nat} (h9 : len ≤ 9) : (1 : Int32) <<< (Int32.ofNat (9 - len) &&& 31) = Int32.ofNat (2 ^ (9 - len)) := by
  have t : ∀ k : Fin 10, (1 : Int32) <<< (Int32.ofNat (9 - k.val) &&& 31) = Int32.ofNat (2 ^ (9 - k.val)) := by decide +kernel
  exact t ⟨len, by omega⟩
theorem own_dbl {c : Nat} (h : c ≤ 512) : Int32.ofNat c <<< ((1 : Int32) &&& 31) = Int32.ofNat (2 * c) := by
  have t : ∀ k : Fin 513, Int32.ofNat k.val <<< ((1 : Int32) &&& 31) = Int32.ofNat (2 * k.val) := by decide +kernel
  exact t ⟨c, by omega⟩
theorem own_decl {a0 : Array Value} {Z : State} {y : MethodName} {b : ByteArray} {ml : Nat} {r : Option FieldType} (w1 : (Jvm.Cond.instanceMethod y).before a0 Z = true) (w2 : (Jvm.Cond.code y b ml r).before a0 Z = true) : (Jvm.Cond.declares y).before a0 Z = true := by
  obtain ⟨mk, methM, hnamed, hmethM, hst, -⟩ := Cond.instanceMethod_spec w1
  obtain ⟨m2, cM, q1, -, -, -, -, -, -, hsig⟩ := Cond.code_spec hnamed w2
  cases hmethM.symm.trans q1
  simp [Cond.before, Cond.holds, Cond.value, hnamed, hmethM, hst, hsig]
theorem own_selp {a0 : Array Value} {Z : State} {y : MethodName} {n : Nat} (w0 : (Jvm.Cond.instantiable y.cls n).before a0 Z = true) (w1 : (Jvm.Cond.instanceMethod y).before a0 Z = true) (w2 : (Jvm.Cond.privateMethod y).before a0 Z = true) (hy : y.cls ≠ "java/lang/invoke/MethodHandle" ∧ y.cls ≠ "java/lang/invoke/VarHandle") : (Jvm.Cond.selects y.cls y y).before a0 Z = true := by
  obtain ⟨c, k, h1, h2, -, h4, -⟩ := Cond.instantiable_spec w0
  exact selects_self_of_private h1 h2 (by simp only [Bool.or_eq_false_iff] at h4; exact h4.1) (Cond.privateMethod_at w2) w1 hy
abbrev C10 : ByteArray := jdk_65_method_30_code
theorem d10_0 : decode C10 0 = .ok (.iload_n 1, 1) := by decide +kernel
theorem d10_1 : decode C10 1 = .ok (.iload_n 2, 1) := by decide +kernel
theorem d10_2 : decode C10 2 = .ok (.if_icmp .le 44, 3) := by decide +kernel
theorem d10_46 : decode C10 46 = .ok (.iload_n 1, 1) := by decide +kernel
theorem d10_47 : decode C10 47 = .ok (.ifCond .ge 12, 3) := by decide +kernel
theorem d10_59 : decode C10 59 = .ok (.iload_n 2, 1) := by decide +kernel
theorem d10_60 : decode C10 60 = .ok (.iload_n 0, 1) := by decide +kernel
theorem d10_61 : decode C10 61 = .ok (.if_icmp .le 12, 3) := by decide +kernel
theorem d10_73 : decode C10 73 = .ok (.return_, 1) := by decide +kernel
theorem pn_f3ac3a5 : plainName "java/util/Arrays" = true := by first | (simp [plainName, overriddenIn]; done) | decide +kernel
theorem ef_10 (m : MethodId) (x0 : Int32) (x1 : Int32) (x2 : Int32) : entryFrame m #[(.int x0), (.int x1), (.int x2)] 3 = mkF m 0 #[.val (.int x0), .val (.int x1), .val (.int x2)] [] := by first | (simp [entryFrame, mkF, argsToLocals, Value.category]; done) | rfl
def Q_rmRC (Z : State) (na nf nt : Nat) (h0 : Heap) (n0 : Nat) (v : Option Value) (h : Heap) (L : List Loc) : Prop := v = none ∧ Fr n0 L ∧ h = h0
set_option maxRecDepth 65536 in
set_option maxHeartbeats 40000000 in
theorem rmRC (l : Launch) (Z : State) (a0 : Array Value) (hw : ∀ d ∈ tables_1, d.before a0 Z = true) (na nf nt : Nat) (h0 : Heap) (n0 : Nat) (Z0 : n0 ≤ h0.size) (h1l : nf ≤ nt) (h2l : nt ≤ na) (h3l : na ≤ 512) :
    MetFree l Y0 (head1 [Jvm.Cond.code Y0 jdk_65_method_30_code 3 none] ({ frames := 0, cells := 0, slots := 0, locals := 0 } : Room)) (fun a U => a = #[(.int (Int32.ofNat na)), (.int (Int32.ofNat nf)), (.int (Int32.ofNat nt))] ∧ Z.Warmed39 U.vm ∧ U.heap = h0) (fun _ _ _ _ _ => True) (fun _ U o U' => ∃ v L, o = .returned v ∧ (Q_rmRC Z na nf nt h0 n0) v U'.heap L ∧ FrameEnd U o U' L ({ frames := 0, cells := 0, slots := 0, locals := 0 } : Room).cells ({ frames := 0, cells := 0, slots := 0, locals := 0 } : Room).slots) := by
  refine MetFree.of_bodySF (plainFor_of_name pn_f3ac3a5) hisR ?_
  intro p e s m args below meth c s₁ Bd hml0 hP hK
  obtain ⟨rfl, hZ, hh⟩ := hP
  have hx := Bd.exec
  have hc : ∀ {pc : Nat} {r}, decode C10 pc = r → decode c.code pc = r := fun h2 => hb Bd.bytes h2
  have hml : c.maxLocals = 3 := hml0
  have hown : s.vm.findClass "java/util/Arrays" = some m.cls := findClass_of_methodNamed Bd.named
  have hnm := (name_of_methodNamed Bd.named Bd.method).1
  have X0 : Stand p l e ({ frames := 0, cells := 0, slots := 0, locals := 0 } : Room) s m #[(.int (Int32.ofNat na)), (.int (Int32.ofNat nf)), (.int (Int32.ofNat nt))] below meth c s₁ [] 0 0 := Stand.of_body Bd
  have e0 : s₁.heap = h0 := by rw [← hh, Bd.state]; rfl
  have N0 := Fr.nil n0
  have K0 : Keep h0 h0 [] := Keep.refl h0 []
  show Go p e below (s₁.setTop (entryFrame m #[(.int (Int32.ofNat na)), (.int (Int32.ofNat nf)), (.int (Int32.ofNat nt))] 3)) (EndN s (Q_rmRC Z na nf nt h0 n0) ({ frames := 0, cells := 0, slots := 0, locals := 0 } : Room).cells ({ frames := 0, cells := 0, slots := 0, locals := 0 } : Room).slots)
  refine Go.top (ef_10 m (Int32.ofNat na) (Int32.ofNat nf) (Int32.ofNat nt)) ?_
  refine gLN X0 hx (hc d10_0) rfl (.refl 1) ?_
  refine gLN X0 hx (hc d10_1) rfl (.refl 2) ?_
  refine gJY (q := 46) X0 hx (hc d10_2) (flt (fun q => absurd ((own_lt32 (by omega) (by omega)).mp q) (by omega))).2.2.2 (by decide) ?_
  refine gLN X0 hx (hc d10_46) rfl (.refl 47) ?_
  refine gIY (q := 59) X0 hx (hc d10_47) ((if0 _ _).trans (flt (own_nn (by omega))).2.1) (by decide) ?_
  refine gLN X0 hx (hc d10_59) rfl (.refl 60) ?_
  refine gLN X0 hx (hc d10_60) rfl (.refl 61) ?_
  refine gJY (q := 73) X0 hx (hc d10_61) (flt (fun q => absurd ((own_lt32 (by omega) (by omega)).mp q) (by omega))).2.2.2 (by decide) ?_
  exact Go.done X0 Bd.notSynchronized (v := none) (fun _ => rfl) (fun fs hr => X0.returnOut hx Bd.returns (hc d10_73) hr) (by rw [e0]; exact ⟨rfl, N0, rfl⟩) (by decide) (by decide)
abbrev C17 : ByteArray := jdk_65_method_105_code
theorem d17_0 : decode C17 0 = .ok (.iconst 0, 1) := by decide +kernel
theorem d17_1 : decode C17 1 = .ok (.istore_n 2, 1) := by decide +kernel
theorem d17_2 : decode C17 2 = .ok (.aload_n 0, 1) := by decide +kernel
theorem d17_3 : decode C17 3 = .ok (.arraylength, 1) := by decide +kernel
theorem d17_4 : decode C17 4 = .ok (.istore_n 3, 1) := by decide +kernel
theorem d17_5 : decode C17 5 = .ok (.iload_n 2, 1) := by decide +kernel
theorem d17_6 : decode C17 6 = .ok (.iload_n 3, 1) := by decide +kernel
theorem d17_7 : decode C17 7 = .ok (.if_icmp .ge 13, 3) := by decide +kernel
theorem d17_10 : decode C17 10 = .ok (.aload_n 0, 1) := by decide +kernel
theorem d17_11 : decode C17 11 = .ok (.iload_n 2, 1) := by decide +kernel
theorem d17_12 : decode C17 12 = .ok (.iload_n 1, 1) := by decide +kernel
theorem d17_13 : decode C17 13 = .ok (.sastore, 1) := by decide +kernel
theorem d17_14 : decode C17 14 = .ok (.iinc 2 1, 3) := by decide +kernel
theorem d17_17 : decode C17 17 = .ok (.goto (-12), 3) := by decide +kernel
theorem d17_20 : decode C17 20 = .ok (.return_, 1) := by decide +kernel
theorem ef_17 (m : MethodId) (x0 : Addr) (x1 : Int32) : entryFrame m #[(.ref x0), (.int x1)] 4 = mkF m 0 #[.val (.ref x0), .val (.int x1), .unset, .unset] [] := by first | (simp [entryFrame, mkF, argsToLocals, Value.category]; done) | rfl
def Q_rmFill (Z : State) (a1 : Addr) (ka : ClassId) (f : Nat → Int32) (h0 : Heap) (n0 : Nat) (v : Option Value) (h : Heap) (L : List Loc) : Prop := v = none ∧ Fr n0 L ∧ Keep h0 h [a1] ∧ Arv Z h a1 ka .short (257 : Int32) (own_ar (fun _ => 0) 257) (.int 0)
set_option maxRecDepth 65536 in
set_option maxHeartbeats 40000000 in
theorem rmFill (l : Launch) (Z : State) (a0 : Array Value) (hw : ∀ d ∈ tables_1, d.before a0 Z = true) (a1 : Addr) (ka : ClassId) (f : Nat → Int32) (h0 : Heap) (n0 : Nat) (Z0 : n0 ≤ h0.size) (Va : Arv Z h0 a1 ka .short (257 : Int32) (own_ar f 257) (.int 0)) (g_a1 : n0 ≤ a1) :
    MetFree l Y1 (head1 [Jvm.Cond.code Y1 jdk_65_method_105_code 4 none] ({ frames := 0, cells := 0, slots := 0, locals := 0 } : Room)) (fun a U => a = #[(.ref a1), (.int 0)] ∧ Z.Warmed39 U.vm ∧ U.heap = h0) (fun _ _ _ _ _ => True) (fun _ U o U' => ∃ v L, o = .returned v ∧ (Q_rmFill Z a1 ka f h0 n0) v U'.heap L ∧ FrameEnd U o U' L ({ frames := 0, cells := 0, slots := 0, locals := 0 } : Room).cells ({ frames := 0, cells := 0, slots := 0, locals := 0 } : Room).slots) := by
  refine MetFree.of_bodySF (plainFor_of_name pn_f3ac3a5) hisR ?_
  intro p e s m args below meth c s₁ Bd hml0 hP hK
  obtain ⟨rfl, hZ, hh⟩ := hP
  have hx := Bd.exec
  have hc : ∀ {pc : Nat} {r}, decode C17 pc = r → decode c.code pc = r := fun h2 => hb Bd.bytes h2
  have hml : c.maxLocals = 4 := hml0
  have hown : s.vm.findClass "java/util/Arrays" = some m.cls := findClass_of_methodNamed Bd.named
  have hnm := (name_of_methodNamed Bd.named Bd.method).1
  have X0 : Stand p l e ({ frames := 0, cells := 0, slots := 0, locals := 0 } : Room) s m #[(.ref a1), (.int 0)] below meth c s₁ [] 0 0 := Stand.of_body Bd
  have e0 : s₁.heap = h0 := by rw [← hh, Bd.state]; rfl
  have N0 := Fr.nil n0
  have K0 : Keep h0 h0 [a1] := Keep.refl h0 [a1]
  show Go p e below (s₁.setTop (entryFrame m #[(.ref a1), (.int 0)] 4)) (EndN s (Q_rmFill Z a1 ka f h0 n0) ({ frames := 0, cells := 0, slots := 0, locals := 0 } : Room).cells ({ frames := 0, cells := 0, slots := 0, locals := 0 } : Room).slots)
  refine Go.top (ef_17 m a1 (0 : Int32)) ?_
  refine gC (z := 0) X0 hx (hc d17_0) rfl (.refl 1) ?_
  refine gP 2 #[rv a1, iv 0, iv 0, .unset] [] (fun zt zk => XS.istoreN X0.here hx rfl (hc d17_1) rfl (l' := _) rfl zk) ?_
  refine gAN X0 hx (hc d17_2) rfl (.refl 3) ?_
  obtain ⟨cl1, Ar1, -, S1, M1, -, -⟩ := id Va
  refine Go.st (T' := s₁.setTop (mkF m 4 #[rv a1, iv 0, iv 0, .unset] [(.int 257)])) (fun zt zk => X0.arraylength hx (by rw [e0]; exact Ar1.1) (State.isArrayOf_alike hZ.alike Ar1.2.1) (g := (mkF m 3 #[rv a1, iv 0, iv 0, .unset] [(.ref a1)])) rfl rfl (hc d17_3) zt (by rw [len_of S1 M1]; exact zk)) ?_
  refine gP 5 #[rv a1, iv 0, iv 0, iv 257] [] (fun zt zk => XS.istoreN X0.here hx rfl (hc d17_4) rfl (l' := _) rfl zk) ?_
  suffices loop : ∀ (r : Nat), r ≤ 257 → ∀ (TL : State) (hL : Heap) (LL : List Loc), Stand p l e ({ frames := 0, cells := 0, slots := 0, locals := 0 } : Room) s m #[(.ref a1), (.int 0)] below meth c TL LL 0 0 → TL.heap = hL → Fr n0 LL → Keep h0 hL [a1] → Arv Z hL a1 ka .short (257 : Int32) (own_ar (own_fl f (257 - r)) 257) (.int 0) → Go p e below (TL.setTop (mkF m 5 #[rv a1, iv 0, iv (Int32.ofNat (257 - r)), iv 257] [])) (EndN s (Q_rmFill Z a1 ka f h0 n0) ({ frames := 0, cells := 0, slots := 0, locals := 0 } : Room).cells ({ frames := 0, cells := 0, slots := 0, locals := 0 } : Room).slots) by
    exact loop 257 (Nat.le_refl _) s₁ _ _ X0 e0 N0 K0 (show Arv Z h0 a1 ka .short (257 : Int32) (own_ar (own_fl f (257 - 257)) 257) (.int 0) from Va)
  intro r
  induction r with
  | zero =>
   intro hr TL hL LL XL eL NL KL VL
   refine gLN XL hx (hc d17_5) rfl (.refl 6) ?_
   refine gLN XL hx (hc d17_6) rfl (.refl 7) ?_
   refine gJY (q := 20) XL hx (hc d17_7) (flt (fun q => absurd ((own_lt32 (n := 257) (by omega) (by omega)).mp q) (by omega))).2.1 (by decide) ?_
   exact Go.done XL Bd.notSynchronized (v := none) (fun _ => rfl) (fun fs hr => XL.returnOut hx Bd.returns (hc d17_20) hr) (by rw [eL]; exact ⟨rfl, NL, KL, by rw [← own_fln f 257]; exact VL⟩) (by decide) (by decide)
  | succ r ih =>
   intro hr TL hL LL XL eL NL KL VL
   refine gLN XL hx (hc d17_5) rfl (.refl 6) ?_
   refine gLN XL hx (hc d17_6) rfl (.refl 7) ?_
   refine gJN XL hx (hc d17_7) (tlt ((own_lt32 (n := 257) (by omega) (by omega)).mpr (by omega))).2.1 (.refl 10) ?_
   refine gAN XL hx (hc d17_10) rfl (.refl 11) ?_
   refine gLN XL hx (hc d17_11) rfl (.refl 12) ?_
   refine gLN XL hx (hc d17_12) rfl (.refl 13) ?_
   refine gSS XL hx hZ eL VL ⟨own_nn (by omega), (own_lt32 (n := 257) (by omega) (by omega)).mpr (by omega)⟩ (257 - (r + 1)) (own_clamp (by omega)) (by rw [own_arl]; omega) ((own_ar (own_fl f (257 - (r + 1))) 257).set (257 - (r + 1)) (.int (nar .short (0 : Int32)))) rfl (hc d17_13) (.refl 14) ?_
   intro T2 h2 X2 e2 W2 V2
   have K2 := KL.wr W2 (Or.inl (List.mem_of_getElem? (i := 0) rfl))
   have N2 := Fr.snoc X2 NL g_a1
   rw [own_ars (own_fl f (257 - (r + 1))) (by omega)] at V2
   have VN : Arv Z h2 a1 ka .short (257 : Int32) (own_ar (own_fl f (257 - r)) 257) (.int 0) := by
     have q := own_fls f (257 - (r + 1))
     rw [show 257 - (r + 1) + 1 = 257 - r by omega] at q
     rw [← q]; exact V2
   refine gP 17 #[rv a1, iv 0, iv ((Int32.ofNat (257 - (r + 1))) + (1 : Int32)), iv 257] [] (fun zt zk => XS.iinc X2.here hx rfl (hc d17_14) rfl (l' := _) rfl zk) ?_
   rw [own_addn (k := (1 : Int32)) (b := 1) rfl (by omega), show 257 - (r + 1) + 1 = 257 - r by omega]
   refine gG (q := 5) X2 hx (hc d17_17) (by decide) ?_
   exact ih (by omega) _ _ _ X2 e2 N2 K2 VN
abbrev C18 : ByteArray := jdk_65_method_106_code
theorem d18_0 : decode C18 0 = .ok (.aload_n 0, 1) := by decide +kernel
theorem d18_1 : decode C18 1 = .ok (.arraylength, 1) := by decide +kernel
theorem d18_2 : decode C18 2 = .ok (.iload_n 1, 1) := by decide +kernel
theorem d18_3 : decode C18 3 = .ok (.iload_n 2, 1) := by decide +kernel
theorem d18_4 : decode C18 4 = .ok (.invokestatic 13, 3) := by decide +kernel
theorem d18_7 : decode C18 7 = .ok (.iload_n 1, 1) := by decide +kernel
theorem d18_8 : decode C18 8 = .ok (.istore 4, 2) := by decide +kernel
theorem d18_10 : decode C18 10 = .ok (.iload 4, 2) := by decide +kernel
theorem d18_12 : decode C18 12 = .ok (.iload_n 2, 1) := by decide +kernel
theorem d18_13 : decode C18 13 = .ok (.if_icmp .ge 14, 3) := by decide +kernel
theorem d18_16 : decode C18 16 = .ok (.aload_n 0, 1) := by decide +kernel
theorem d18_17 : decode C18 17 = .ok (.iload 4, 2) := by decide +kernel
theorem d18_19 : decode C18 19 = .ok (.iload_n 3, 1) := by decide +kernel
theorem d18_20 : decode C18 20 = .ok (.sastore, 1) := by decide +kernel
theorem d18_21 : decode C18 21 = .ok (.iinc 4 1, 3) := by decide +kernel
theorem d18_24 : decode C18 24 = .ok (.goto (-14), 3) := by decide +kernel
theorem d18_27 : decode C18 27 = .ok (.return_, 1) := by decide +kernel
theorem pd_7f01b26 : parseMethodDescriptor "(III)V" = some ⟨[.int, .int, .int], none⟩ := by decide +kernel
theorem ef_18 (m : MethodId) (x0 : Addr) (x1 : Int32) (x2 : Int32) (x3 : Int32) : entryFrame m #[(.ref x0), (.int x1), (.int x2), (.int x3)] 5 = mkF m 0 #[.val (.ref x0), .val (.int x1), .val (.int x2), .val (.int x3), .unset] [] := by first | (simp [entryFrame, mkF, argsToLocals, Value.category]; done) | rfl
def Q_rmFil4 (Z : State) (a1 : Addr) (ka : ClassId) (nf nt : Nat) (pv : Int32) (us : List Value) (h0 : Heap) (n0 : Nat) (v : Option Value) (h : Heap) (L : List Loc) : Prop := v = none ∧ Fr n0 L ∧ Keep h0 h [a1] ∧ ∃ vs : List Value, vs.length = 512 ∧ Arv Z h a1 ka .short (512 : Int32) vs (.int 0)
set_option maxRecDepth 65536 in
set_option maxHeartbeats 40000000 in
theorem rmFil4 (l : Launch) (Z : State) (a0 : Array Value) (hw : ∀ d ∈ tables_1, d.before a0 Z = true) (a1 : Addr) (ka : ClassId) (nf nt : Nat) (pv : Int32) (us : List Value) (h0 : Heap) (n0 : Nat) (Z0 : n0 ≤ h0.size) (Va : Arv Z h0 a1 ka .short (512 : Int32) us (.int 0)) (hu : us.length = 512) (g_a1 : n0 ≤ a1) (h1l : nf ≤ nt) (h2l : nt ≤ 512) :
    MetFree l Y2 (head1 [Jvm.Cond.code Y2 jdk_65_method_106_code 5 none] ({ frames := 1, cells := 0, slots := 0, locals := 14 } : Room)) (fun a U => a = #[(.ref a1), (.int (Int32.ofNat nf)), (.int (Int32.ofNat nt)), (.int pv)] ∧ Z.Warmed39 U.vm ∧ U.heap = h0) (fun _ _ _ _ _ => True) (fun _ U o U' => ∃ v L, o = .returned v ∧ (Q_rmFil4 Z a1 ka nf nt pv us h0 n0) v U'.heap L ∧ FrameEnd U o U' L ({ frames := 1, cells := 0, slots := 0, locals := 14 } : Room).cells ({ frames := 1, cells := 0, slots := 0, locals := 14 } : Room).slots) := by
  refine MetFree.of_bodySF (plainFor_of_name pn_f3ac3a5) hisR ?_
  intro p e s m args below meth c s₁ Bd hml0 hP hK
  obtain ⟨rfl, hZ, hh⟩ := hP
  have hx := Bd.exec
  have hc : ∀ {pc : Nat} {r}, decode C18 pc = r → decode c.code pc = r := fun h2 => hb Bd.bytes h2
  have hml : c.maxLocals = 5 := hml0
  have hown : s.vm.findClass "java/util/Arrays" = some m.cls := findClass_of_methodNamed Bd.named
  have hnm := (name_of_methodNamed Bd.named Bd.method).1
  have X0 : Stand p l e ({ frames := 1, cells := 0, slots := 0, locals := 14 } : Room) s m #[(.ref a1), (.int (Int32.ofNat nf)), (.int (Int32.ofNat nt)), (.int pv)] below meth c s₁ [] 0 0 := Stand.of_body Bd
  have e0 : s₁.heap = h0 := by rw [← hh, Bd.state]; rfl
  have N0 := Fr.nil n0
  have K0 : Keep h0 h0 [a1] := Keep.refl h0 [a1]
  show Go p e below (s₁.setTop (entryFrame m #[(.ref a1), (.int (Int32.ofNat nf)), (.int (Int32.ofNat nt)), (.int pv)] 5)) (EndN s (Q_rmFil4 Z a1 ka nf nt pv us h0 n0) ({ frames := 1, cells := 0, slots := 0, locals := 14 } : Room).cells ({ frames := 1, cells := 0, slots := 0, locals := 14 } : Room).slots)
  refine Go.top (ef_18 m a1 (Int32.ofNat nf) (Int32.ofNat nt) pv) ?_
  refine gAN X0 hx (hc d18_0) rfl (.refl 1) ?_
  obtain ⟨cl4, Ar4, -, S4, M4, -, -⟩ := id Va
  refine Go.st (T' := s₁.setTop (mkF m 2 #[rv a1, iv (Int32.ofNat nf), iv (Int32.ofNat nt), iv pv, .unset] [(.int 512)])) (fun zt zk => X0.arraylength hx (by rw [e0]; exact Ar4.1) (State.isArrayOf_alike hZ.alike Ar4.2.1) (g := (mkF m 1 #[rv a1, iv (Int32.ofNat nf), iv (Int32.ofNat nt), iv pv, .unset] [(.ref a1)])) rfl rfl (hc d18_1) zt (by rw [len_of S4 M4]; exact zk)) ?_
  refine gLN X0 hx (hc d18_2) rfl (.refl 3) ?_
  refine gLN X0 hx (hc d18_3) rfl (.refl 4) ?_
  obtain ⟨vr5, _, ⟨T5, L5, k5, n5⟩, -, X5, ⟨Lc5, hQ5, l5, y5, z5⟩, st5⟩ := Jvm.LawKit.callS X0 hx (y := Y0) hown (mvT hZ (ow hw 65 rfl)) (mvT hZ (ow hw 66 rfl)) (mvT hZ (ow hw 63 rfl)) (mvT hZ (ow hw 67 rfl)) (by decide) (backOf (W := 0) (rmRC l Z a0 hw 512 nf nt h0 n0 Z0 h1l h2l (Nat.le_refl _)) hZ (ow hw 67 rfl) (ow hw 63 rfl) (by decide) (by decide)) (g := (mkF m 4 #[rv a1, iv (Int32.ofNat nf), iv (Int32.ofNat nt), iv pv, .unset] [(.int (Int32.ofNat nt)), (.int (Int32.ofNat nf)), (.int 512)])) rfl (by rw [hml]; rfl) (argsL := [(.int 512), (.int (Int32.ofNat nf)), (.int (Int32.ofNat nt))]) (rest := []) (lenOf pd_7f01b26 rfl) rfl (by show 2 * 0 + _ ≤ _; exact Nat.le_of_eq rfl) (hc d18_4) (fun _ _ => ⟨rfl, e0, (by decide : 0 + 0 ≤ _), (by decide : 0 + 0 ≤ _)⟩)
  dsimp only [Pt.U, Pt.locs, Pt.cells, Pt.slots] at X5 l5 y5 z5 st5 hQ5
  subst l5 y5 z5
  obtain ⟨rfl, Nq5, eq5⟩ := hQ5
  have NN6 := Fr.app N0 Nq5
  refine gT T5 7 [] (fun zt zk => st5 zt zk) ?_
  refine gLN X5 hx (hc d18_7) rfl (.refl 8) ?_
  refine gP 10 #[rv a1, iv (Int32.ofNat nf), iv (Int32.ofNat nt), iv pv, iv (Int32.ofNat nf)] [] (fun zt zk => XS.istore X5.here hx rfl (hc d18_8) rfl (l' := _) rfl zk) ?_
  suffices loop : ∀ (r : Nat), r ≤ nt - nf → ∀ (TL : State) (hL : Heap) (LL : List Loc) (vs : List Value), Stand p l e ({ frames := 1, cells := 0, slots := 0, locals := 14 } : Room) s m #[(.ref a1), (.int (Int32.ofNat nf)), (.int (Int32.ofNat nt)), (.int pv)] below meth c TL LL 0 0 → TL.heap = hL → Fr n0 LL → Keep h0 hL [a1] → vs.length = 512 → Arv Z hL a1 ka .short (512 : Int32) vs (.int 0) → Go p e below (TL.setTop (mkF m 10 #[rv a1, iv (Int32.ofNat nf), iv (Int32.ofNat nt), iv pv, iv (Int32.ofNat (nt - r))] [])) (EndN s (Q_rmFil4 Z a1 ka nf nt pv us h0 n0) ({ frames := 1, cells := 0, slots := 0, locals := 14 } : Room).cells ({ frames := 1, cells := 0, slots := 0, locals := 14 } : Room).slots) by
    have := loop (nt - nf) (Nat.le_refl _) T5 _ _ us X5 eq5 NN6 K0 hu Va
    rw [show nt - (nt - nf) = nf by omega] at this
    exact this
  intro r
  induction r with
  | zero =>
   intro hr TL hL LL vs XL eL NL KL hvl VL
   refine gL XL hx (hc d18_10) rfl (.refl 12) ?_
   refine gLN XL hx (hc d18_12) rfl (.refl 13) ?_
   refine gJY (q := 27) XL hx (hc d18_13) (flt (fun q => absurd ((own_lt32 (by omega) (by omega)).mp q) (by omega))).2.1 (by decide) ?_
   exact Go.done XL Bd.notSynchronized (v := none) (fun _ => rfl) (fun fs hr => XL.returnOut hx Bd.returns (hc d18_27) hr) (by rw [eL]; exact ⟨rfl, NL, KL, vs, hvl, VL⟩) (by decide) (by decide)
  | succ r ih =>
   intro hr TL hL LL vs XL eL NL KL hvl VL
   refine gL XL hx (hc d18_10) rfl (.refl 12) ?_
   refine gLN XL hx (hc d18_12) rfl (.refl 13) ?_
   refine gJN XL hx (hc d18_13) (tlt ((own_lt32 (by omega) (by omega)).mpr (by omega))).2.1 (.refl 16) ?_
   refine gAN XL hx (hc d18_16) rfl (.refl 17) ?_
   refine gL XL hx (hc d18_17) rfl (.refl 19) ?_
   refine gLN XL hx (hc d18_19) rfl (.refl 20) ?_
   refine gSS XL hx hZ eL VL ⟨own_nn (by omega), (own_lt32 (n := 512) (by omega) (by omega)).mpr (by omega)⟩ (nt - (r + 1)) (own_clamp (by omega)) (by omega) (vs.set (nt - (r + 1)) (.int (nar .short pv))) rfl (hc d18_20) (.refl 21) ?_
   intro T7 h7 X7 e7 W7 V7
   have K7 := KL.wr W7 (Or.inl (List.mem_of_getElem? (i := 0) rfl))
   have N7 := Fr.snoc X7 NL g_a1
   refine gP 24 #[rv a1, iv (Int32.ofNat nf), iv (Int32.ofNat nt), iv pv, iv ((Int32.ofNat (nt - (r + 1))) + (1 : Int32))] [] (fun zt zk => XS.iinc X7.here hx rfl (hc d18_21) rfl (l' := _) rfl zk) ?_
   rw [own_addn (k := (1 : Int32)) (b := 1) rfl (by omega), show nt - (r + 1) + 1 = nt - r by omega]
   refine gG (q := 10) X7 hx (hc d18_24) (by decide) ?_
   exact ih (by omega) _ _ _ _ X7 e7 N7 K7 (by rw [List.length_set]; exact hvl) V7
theorem own_os3 {z0 z1 z2 z4 : Value} {s3 s5 s6 : Slot} {a : Int32} (h : One s3) : storeLocals #[.val z0, .val z1, .val z2, s3, .val z4, s5, s6] 3 (.int a) = some #[.val z0, .val z1, .val z2, .val (.int a), .val z4, s5, s6] := by
  rcases h with rfl | ⟨w, rfl, hw⟩
  · rfl
  · cases w <;> first | rfl | (simp [Value.category] at hw)
theorem own_os5 {z0 z1 z2 z3 z4 : Value} {s5 s6 : Slot} {a : Int64} (h : s5 = .unset ∧ s6 = .unset ∨ (∃ z : Int64, s5 = .val (.long z)) ∧ s6 = .second) : storeLocals #[.val z0, .val z1, .val z2, .val z3, .val z4, s5, s6] 5 (.long a) = some #[.val z0, .val z1, .val z2, .val z3, .val z4, .val (.long a), .second] := by
  rcases h with ⟨rfl, rfl⟩ | ⟨⟨z, rfl⟩, rfl⟩ <;> rfl
abbrev C13 : ByteArray := jdk_2529_method_15_code
theorem d13_0 : decode C13 0 = .ok (.iload_n 1, 1) := by decide +kernel
theorem d13_1 : decode C13 1 = .ok (.istore 4, 2) := by decide +kernel
theorem d13_3 : decode C13 3 = .ok (.iinc 4 1, 3) := by decide +kernel
theorem d13_6 : decode C13 6 = .ok (.iload 4, 2) := by decide +kernel
theorem d13_8 : decode C13 8 = .ok (.iload_n 2, 1) := by decide +kernel
theorem d13_9 : decode C13 9 = .ok (.if_icmp .ge 60, 3) := by decide +kernel
theorem d13_12 : decode C13 12 = .ok (.aload_n 0, 1) := by decide +kernel
theorem d13_13 : decode C13 13 = .ok (.iload 4, 2) := by decide +kernel
theorem d13_15 : decode C13 15 = .ok (.dup, 1) := by decide +kernel
theorem d13_16 : decode C13 16 = .ok (.istore_n 3, 1) := by decide +kernel
theorem d13_17 : decode C13 17 = .ok (.laload, 1) := by decide +kernel
theorem d13_18 : decode C13 18 = .ok (.lstore 5, 2) := by decide +kernel
theorem d13_20 : decode C13 20 = .ok (.lload 5, 2) := by decide +kernel
theorem d13_22 : decode C13 22 = .ok (.aload_n 0, 1) := by decide +kernel
theorem d13_23 : decode C13 23 = .ok (.iload_n 3, 1) := by decide +kernel
theorem d13_24 : decode C13 24 = .ok (.iconst 1, 1) := by decide +kernel
theorem d13_25 : decode C13 25 = .ok (.isub, 1) := by decide +kernel
theorem d13_26 : decode C13 26 = .ok (.laload, 1) := by decide +kernel
theorem d13_27 : decode C13 27 = .ok (.lcmp, 1) := by decide +kernel
theorem d13_28 : decode C13 28 = .ok (.ifCond .ge 38, 3) := by decide +kernel
theorem d13_31 : decode C13 31 = .ok (.iinc 3 (-1), 3) := by decide +kernel
theorem d13_34 : decode C13 34 = .ok (.iload_n 3, 1) := by decide +kernel
theorem d13_35 : decode C13 35 = .ok (.iload_n 1, 1) := by decide +kernel
theorem d13_36 : decode C13 36 = .ok (.if_icmp .lt 23, 3) := by decide +kernel
theorem d13_39 : decode C13 39 = .ok (.lload 5, 2) := by decide +kernel
theorem d13_41 : decode C13 41 = .ok (.aload_n 0, 1) := by decide +kernel
theorem d13_42 : decode C13 42 = .ok (.iload_n 3, 1) := by decide +kernel
theorem d13_43 : decode C13 43 = .ok (.laload, 1) := by decide +kernel
theorem d13_44 : decode C13 44 = .ok (.lcmp, 1) := by decide +kernel
theorem d13_45 : decode C13 45 = .ok (.ifCond .ge 14, 3) := by decide +kernel
theorem d13_48 : decode C13 48 = .ok (.aload_n 0, 1) := by decide +kernel
theorem d13_49 : decode C13 49 = .ok (.iload_n 3, 1) := by decide +kernel
theorem d13_50 : decode C13 50 = .ok (.iconst 1, 1) := by decide +kernel
theorem d13_51 : decode C13 51 = .ok (.iadd, 1) := by decide +kernel
theorem d13_52 : decode C13 52 = .ok (.aload_n 0, 1) := by decide +kernel
theorem d13_53 : decode C13 53 = .ok (.iload_n 3, 1) := by decide +kernel
theorem d13_54 : decode C13 54 = .ok (.laload, 1) := by decide +kernel
theorem d13_55 : decode C13 55 = .ok (.lastore, 1) := by decide +kernel
theorem d13_56 : decode C13 56 = .ok (.goto (-25), 3) := by decide +kernel
theorem d13_59 : decode C13 59 = .ok (.aload_n 0, 1) := by decide +kernel
theorem d13_60 : decode C13 60 = .ok (.iload_n 3, 1) := by decide +kernel
theorem d13_61 : decode C13 61 = .ok (.iconst 1, 1) := by decide +kernel
theorem d13_62 : decode C13 62 = .ok (.iadd, 1) := by decide +kernel
theorem d13_63 : decode C13 63 = .ok (.lload 5, 2) := by decide +kernel
theorem d13_65 : decode C13 65 = .ok (.lastore, 1) := by decide +kernel
theorem d13_66 : decode C13 66 = .ok (.goto (-63), 3) := by decide +kernel
theorem d13_69 : decode C13 69 = .ok (.return_, 1) := by decide +kernel
theorem pn_2a2b7cf : plainName "java/util/DualPivotQuicksort" = true := by first | (simp [plainName, overriddenIn]; done) | decide +kernel
theorem ef_13 (m : MethodId) (x0 : Addr) (x1 : Int32) (x2 : Int32) : entryFrame m #[(.ref x0), (.int x1), (.int x2)] 7 = mkF m 0 #[.val (.ref x0), .val (.int x1), .val (.int x2), .unset, .unset, .unset, .unset] [] := by first | (simp [entryFrame, mkF, argsToLocals, Value.category]; done) | rfl
def Q_rmIns (Z : State) (a1 : Addr) (ka : ClassId) (f : Nat → Int64) (nn : Nat) (h0 : Heap) (n0 : Nat) (v : Option Value) (h : Heap) (L : List Loc) : Prop := v = none ∧ Fr n0 L ∧ Keep h0 h [a1] ∧ Arv Z h a1 ka .long (257 : Int32) (own_al (own_sort f nn) 257) (.long 0)
set_option maxRecDepth 65536 in
set_option maxHeartbeats 40000000 in
theorem rmIns (l : Launch) (Z : State) (a0 : Array Value) (hw : ∀ d ∈ tables_1, d.before a0 Z = true) (a1 : Addr) (ka : ClassId) (f : Nat → Int64) (nn : Nat) (h0 : Heap) (n0 : Nat) (Z0 : n0 ≤ h0.size) (Va : Arv Z h0 a1 ka .long (257 : Int32) (own_al f 257) (.long 0)) (g_a1 : n0 ≤ a1) (h1l : 1 ≤ nn) (h2l : nn ≤ 40) :
    MetFree l Y3 (head1 [Jvm.Cond.code Y3 jdk_2529_method_15_code 7 none] ({ frames := 0, cells := 0, slots := 0, locals := 0 } : Room)) (fun a U => a = #[(.ref a1), (.int 0), (.int (Int32.ofNat nn))] ∧ Z.Warmed39 U.vm ∧ U.heap = h0) (fun _ _ _ _ _ => True) (fun _ U o U' => ∃ v L, o = .returned v ∧ (Q_rmIns Z a1 ka f nn h0 n0) v U'.heap L ∧ FrameEnd U o U' L ({ frames := 0, cells := 0, slots := 0, locals := 0 } : Room).cells ({ frames := 0, cells := 0, slots := 0, locals := 0 } : Room).slots) := by
  refine MetFree.of_bodySF (plainFor_of_name pn_2a2b7cf) hisR ?_
  intro p e s m args below meth c s₁ Bd hml0 hP hK
  obtain ⟨rfl, hZ, hh⟩ := hP
  have hx := Bd.exec
  have hc : ∀ {pc : Nat} {r}, decode C13 pc = r → decode c.code pc = r := fun h2 => hb Bd.bytes h2
  have hml : c.maxLocals = 7 := hml0
  have hown : s.vm.findClass "java/util/DualPivotQuicksort" = some m.cls := findClass_of_methodNamed Bd.named
  have hnm := (name_of_methodNamed Bd.named Bd.method).1
  have X0 : Stand p l e ({ frames := 0, cells := 0, slots := 0, locals := 0 } : Room) s m #[(.ref a1), (.int 0), (.int (Int32.ofNat nn))] below meth c s₁ [] 0 0 := Stand.of_body Bd
  have e0 : s₁.heap = h0 := by rw [← hh, Bd.state]; rfl
  have N0 := Fr.nil n0
  have K0 : Keep h0 h0 [a1] := Keep.refl h0 [a1]
  show Go p e below (s₁.setTop (entryFrame m #[(.ref a1), (.int 0), (.int (Int32.ofNat nn))] 7)) (EndN s (Q_rmIns Z a1 ka f nn h0 n0) ({ frames := 0, cells := 0, slots := 0, locals := 0 } : Room).cells ({ frames := 0, cells := 0, slots := 0, locals := 0 } : Room).slots)
  refine Go.top (ef_13 m a1 (0 : Int32) (Int32.ofNat nn)) ?_
  refine gLN X0 hx (hc d13_0) rfl (.refl 1) ?_
  refine gP 3 #[rv a1, iv 0, iv (Int32.ofNat nn), .unset, iv 0, .unset, .unset] [] (fun zt zk => XS.istore X0.here hx rfl (hc d13_1) rfl (l' := _) rfl zk) ?_
  suffices loop : ∀ (r : Nat), r ≤ nn - 1 → ∀ (TL : State) (hL : Heap) (LL : List Loc) (s3 s5 s6 : Slot), Stand p l e ({ frames := 0, cells := 0, slots := 0, locals := 0 } : Room) s m #[(.ref a1), (.int 0), (.int (Int32.ofNat nn))] below meth c TL LL 0 0 → TL.heap = hL → Fr n0 LL → Keep h0 hL [a1] → One s3 → (s5 = .unset ∧ s6 = .unset ∨ (∃ z : Int64, s5 = .val (.long z)) ∧ s6 = .second) → Arv Z hL a1 ka .long (257 : Int32) (own_al (own_sort f (nn - r)) 257) (.long 0) → Go p e below (TL.setTop (mkF m 3 #[rv a1, iv 0, iv (Int32.ofNat nn), s3, iv (Int32.ofNat (nn - 1 - r)), s5, s6] [])) (EndN s (Q_rmIns Z a1 ka f nn h0 n0) ({ frames := 0, cells := 0, slots := 0, locals := 0 } : Room).cells ({ frames := 0, cells := 0, slots := 0, locals := 0 } : Room).slots) by
    have := loop (nn - 1) (Nat.le_refl _) s₁ _ _ .unset .unset .unset X0 e0 N0 K0 One.u (Or.inl ⟨rfl, rfl⟩) (by rw [show nn - (nn - 1) = 1 by omega, own_sort1]; exact Va)
    rw [show nn - 1 - (nn - 1) = 0 by omega] at this
    exact this
  intro r
  induction r with
  | zero =>
   intro hr TL hL LL s3 s5 s6 XL eL NL KL hs3 hs5 VL
   refine gP 6 #[rv a1, iv 0, iv (Int32.ofNat nn), s3, iv ((Int32.ofNat (nn - 1 - 0)) + (1 : Int32)), s5, s6] [] (fun zt zk => XS.iinc XL.here hx rfl (hc d13_3) rfl (l' := _) rfl zk) ?_
   rw [own_addn (k := (1 : Int32)) (b := 1) rfl (by omega)]
   refine gL XL hx (hc d13_6) rfl (.refl 8) ?_
   refine gLN XL hx (hc d13_8) rfl (.refl 9) ?_
   refine gJY (q := 69) XL hx (hc d13_9) (flt (fun q => absurd ((own_lt32 (by omega) (by omega)).mp q) (by omega))).2.1 (by decide) ?_
   exact Go.done XL Bd.notSynchronized (v := none) (fun _ => rfl) (fun fs hr => XL.returnOut hx Bd.returns (hc d13_69) hr) (by rw [eL]; exact ⟨rfl, NL, KL, VL⟩) (by decide) (by decide)
  | succ r ih =>
   intro hr TL hL LL s3 s5 s6 XL eL NL KL hs3 hs5 VL
   obtain ⟨k, hk⟩ : ∃ k, nn - (r + 1) = k + 1 := ⟨nn - (r + 1) - 1, by omega⟩
   obtain ⟨f1, hf1⟩ : ∃ z, z = own_sort f (k + 1) := ⟨_, rfl⟩
   rw [hk, ← hf1] at VL
   refine gP 6 #[rv a1, iv 0, iv (Int32.ofNat nn), s3, iv ((Int32.ofNat (nn - 1 - (r + 1))) + (1 : Int32)), s5, s6] [] (fun zt zk => XS.iinc XL.here hx rfl (hc d13_3) rfl (l' := _) rfl zk) ?_
   rw [own_addn (k := (1 : Int32)) (b := 1) rfl (by omega), show nn - 1 - (r + 1) + 1 = k + 1 by omega]
   refine gL XL hx (hc d13_6) rfl (.refl 8) ?_
   refine gLN XL hx (hc d13_8) rfl (.refl 9) ?_
   refine gJN XL hx (hc d13_9) (tlt ((own_lt32 (by omega) (by omega)).mpr (by omega))).2.1 (.refl 12) ?_
   refine gAN XL hx (hc d13_12) rfl (.refl 13) ?_
   refine gL XL hx (hc d13_13) rfl (.refl 15) ?_
   refine gD XL hx (hc d13_15) rfl (.refl 16) ?_
   refine gP 17 #[rv a1, iv 0, iv (Int32.ofNat nn), iv (Int32.ofNat (k + 1)), iv (Int32.ofNat (k + 1)), s5, s6] [(.int (Int32.ofNat (k + 1))), (.ref a1)] (fun zt zk => XS.istoreN XL.here hx rfl (hc d13_16) rfl (l' := _) (own_os3 hs3) zk) ?_
   refine gJA XL hx hZ eL VL (.long (f1 (k + 1))) ⟨own_nn (by omega), (own_lt32 (n := 257) (by omega) (by omega)).mpr (by omega)⟩ (own_alg f1 (by omega) (by omega) _) (hc d13_17) (.refl 18) ?_
   refine gP 20 #[rv a1, iv 0, iv (Int32.ofNat nn), iv (Int32.ofNat (k + 1)), iv (Int32.ofNat (k + 1)), .val (.long (f1 (k + 1))), .second] [] (fun zt zk => XS.lstore XL.here hx rfl (hc d13_18) rfl (l' := _) (own_os5 hs5) zk) ?_
   obtain ⟨x, hxx⟩ : ∃ z, z = f1 (k + 1) := ⟨_, rfl⟩
   rw [← hxx]
   have cont : ∀ (TL : State) (hL : Heap) (LL : List Loc) (z3 : Int32), Stand p l e ({ frames := 0, cells := 0, slots := 0, locals := 0 } : Room) s m #[(.ref a1), (.int 0), (.int (Int32.ofNat nn))] below meth c TL LL 0 0 → TL.heap = hL → Fr n0 LL → Keep h0 hL [a1] → Arv Z hL a1 ka .long (257 : Int32) (own_al (own_inner f1 x (k + 1)) 257) (.long 0) → Go p e below (TL.setTop (mkF m 66 #[rv a1, iv 0, iv (Int32.ofNat nn), iv z3, iv (Int32.ofNat (k + 1)), .val (.long x), .second] [])) (EndN s (Q_rmIns Z a1 ka f nn h0 n0) ({ frames := 0, cells := 0, slots := 0, locals := 0 } : Room).cells ({ frames := 0, cells := 0, slots := 0, locals := 0 } : Room).slots) := by
    intro TL hL LL z3 XL eL NL KL VL
    refine gG (q := 3) XL hx (hc d13_66) (by decide) ?_
    rw [show k + 1 = nn - 1 - r by omega]
    exact ih (by omega) _ _ _ _ _ _ XL eL NL KL (One.val rfl) (Or.inr ⟨⟨_, rfl⟩, rfl⟩) (by rw [show nn - r = (k + 1) + 1 by omega]; show Arv Z hL a1 ka .long (257 : Int32) (own_al (own_inner (own_sort f (k + 1)) (own_sort f (k + 1) (k + 1)) (k + 1)) 257) (.long 0); rw [← hf1, ← hxx]; exact VL)
   have inner : ∀ (q : Nat), q ≤ k + 1 → ∀ (u : Nat → Int64), own_inner u x q = (own_inner f1 x (k + 1)) → ∀ (TL : State) (hL : Heap) (LL : List Loc), Stand p l e ({ frames := 0, cells := 0, slots := 0, locals := 0 } : Room) s m #[(.ref a1), (.int 0), (.int (Int32.ofNat nn))] below meth c TL LL 0 0 → TL.heap = hL → Fr n0 LL → Keep h0 hL [a1] → Arv Z hL a1 ka .long (257 : Int32) (own_al u 257) (.long 0) → Go p e below (TL.setTop (mkF m 31 #[rv a1, iv 0, iv (Int32.ofNat nn), iv (Int32.ofNat q), iv (Int32.ofNat (k + 1)), .val (.long x), .second] [])) (EndN s (Q_rmIns Z a1 ka f nn h0 n0) ({ frames := 0, cells := 0, slots := 0, locals := 0 } : Room).cells ({ frames := 0, cells := 0, slots := 0, locals := 0 } : Room).slots) := by
    intro q
    induction q with
    | zero =>
     intro hq u hu TL hL LL XL eL NL KL VL
     refine gP 34 #[rv a1, iv 0, iv (Int32.ofNat nn), iv ((Int32.ofNat 0) + (-1 : Int32)), iv (Int32.ofNat (k + 1)), .val (.long x), .second] [] (fun zt zk => XS.iinc XL.here hx rfl (hc d13_31) rfl (l' := _) rfl zk) ?_
     refine gLN XL hx (hc d13_34) rfl (.refl 35) ?_
     refine gLN XL hx (hc d13_35) rfl (.refl 36) ?_
     refine gJY (q := 59) XL hx (hc d13_36) (tlt (by decide)).1 (by decide) ?_
     refine gAN XL hx (hc d13_59) rfl (.refl 60) ?_
     refine gLN XL hx (hc d13_60) rfl (.refl 61) ?_
     refine gC (z := 1) XL hx (hc d13_61) rfl (.refl 62) ?_
     refine giadd XL hx (hc d13_62) (.refl 63) ?_
     rw [show Int32.ofNat 0 + (-1 : Int32) + (1 : Int32) = Int32.ofNat 0 by decide]
     refine gS 65 [(.long x), (.int (Int32.ofNat 0)), (.ref a1)] (fun zt zk => XS.lload XL.here hx rfl (hc d13_63) rfl zk) ?_
     refine gSJ XL hx hZ eL VL ⟨own_nn (by omega), (own_lt32 (n := 257) (by omega) (by omega)).mpr (by omega)⟩ 0 (own_clamp (by omega)) (by rw [own_all]; omega) ((own_al u 257).set 0 (.long x)) rfl (hc d13_65) (.refl 66) ?_
     intro T9 h9 X9 e9 W9 V9
     have K9 := KL.wr W9 (Or.inl (List.mem_of_getElem? (i := 0) rfl))
     have N9 := Fr.snoc X9 NL g_a1
     rw [own_als u (by omega)] at V9
     exact cont _ _ _ _ X9 e9 N9 K9 (by rw [← hu]; exact V9)
    | succ q iq =>
     intro hq u hu TL hL LL XL eL NL KL VL
     refine gP 34 #[rv a1, iv 0, iv (Int32.ofNat nn), iv ((Int32.ofNat (q + 1)) + (-1 : Int32)), iv (Int32.ofNat (k + 1)), .val (.long x), .second] [] (fun zt zk => XS.iinc XL.here hx rfl (hc d13_31) rfl (l' := _) rfl zk) ?_
     rw [own_dec (by omega) (by omega), show q + 1 - 1 = q by omega]
     refine gLN XL hx (hc d13_34) rfl (.refl 35) ?_
     refine gLN XL hx (hc d13_35) rfl (.refl 36) ?_
     refine gJN XL hx (hc d13_36) (flt (own_nn (by omega))).1 (.refl 39) ?_
     refine gS 41 [(.long x)] (fun zt zk => XS.lload XL.here hx rfl (hc d13_39) rfl zk) ?_
     refine gAN XL hx (hc d13_41) rfl (.refl 42) ?_
     refine gLN XL hx (hc d13_42) rfl (.refl 43) ?_
     refine gJA XL hx hZ eL VL (.long (u q)) ⟨own_nn (by omega), (own_lt32 (n := 257) (by omega) (by omega)).mpr (by omega)⟩ (own_alg u (by omega) (by omega) _) (hc d13_43) (.refl 44) ?_
     refine gS 45 [(.int (lcmpW x (u q)))] (fun zt zk => XS.lcmp XL.here hx rfl (hc d13_44) rfl zk) ?_
     by_cases hlt : x < u q
     ·
      refine gIN XL hx (hc d13_45) ((if0 _ _).trans (tlt ((lw_lt _ _).mpr hlt)).2.1) (.refl 48) ?_
      refine gAN XL hx (hc d13_48) rfl (.refl 49) ?_
      refine gLN XL hx (hc d13_49) rfl (.refl 50) ?_
      refine gC (z := 1) XL hx (hc d13_50) rfl (.refl 51) ?_
      refine giadd XL hx (hc d13_51) (.refl 52) ?_
      rw [own_addn (k := (1 : Int32)) (b := 1) rfl (by omega)]
      refine gAN XL hx (hc d13_52) rfl (.refl 53) ?_
      refine gLN XL hx (hc d13_53) rfl (.refl 54) ?_
      refine gJA XL hx hZ eL VL (.long (u q)) ⟨own_nn (by omega), (own_lt32 (n := 257) (by omega) (by omega)).mpr (by omega)⟩ (own_alg u (by omega) (by omega) _) (hc d13_54) (.refl 55) ?_
      refine gSJ XL hx hZ eL VL ⟨own_nn (by omega), (own_lt32 (n := 257) (by omega) (by omega)).mpr (by omega)⟩ (q + 1) (own_clamp (by omega)) (by rw [own_all]; omega) ((own_al u 257).set (q + 1) (.long (u q))) rfl (hc d13_55) (.refl 56) ?_
      intro T13 h13 X13 e13 W13 V13
      have K13 := KL.wr W13 (Or.inl (List.mem_of_getElem? (i := 0) rfl))
      have N13 := Fr.snoc X13 NL g_a1
      rw [own_als u (by omega)] at V13
      refine gG (q := 31) X13 hx (hc d13_56) (by decide) ?_
      exact iq (by omega) _ (by rw [← hu]; show _ = (if x < u q then _ else _); rw [if_pos hlt]) _ _ _ X13 e13 N13 K13 V13
     ·
      refine gIY (q := 59) XL hx (hc d13_45) ((if0 _ _).trans (flt (fun z => hlt ((lw_lt _ _).mp z))).2.1) (by decide) ?_
      refine gAN XL hx (hc d13_59) rfl (.refl 60) ?_
      refine gLN XL hx (hc d13_60) rfl (.refl 61) ?_
      refine gC (z := 1) XL hx (hc d13_61) rfl (.refl 62) ?_
      refine giadd XL hx (hc d13_62) (.refl 63) ?_
      rw [own_addn (k := (1 : Int32)) (b := 1) rfl (by omega)]
      refine gS 65 [(.long x), (.int (Int32.ofNat (q + 1))), (.ref a1)] (fun zt zk => XS.lload XL.here hx rfl (hc d13_63) rfl zk) ?_
      refine gSJ XL hx hZ eL VL ⟨own_nn (by omega), (own_lt32 (n := 257) (by omega) (by omega)).mpr (by omega)⟩ (q + 1) (own_clamp (by omega)) (by rw [own_all]; omega) ((own_al u 257).set (q + 1) (.long x)) rfl (hc d13_65) (.refl 66) ?_
      intro T15 h15 X15 e15 W15 V15
      have K15 := KL.wr W15 (Or.inl (List.mem_of_getElem? (i := 0) rfl))
      have N15 := Fr.snoc X15 NL g_a1
      rw [own_als u (by omega)] at V15
      exact cont _ _ _ _ X15 e15 N15 K15 (by rw [← hu]; show Arv Z h15 a1 ka .long (257 : Int32) (own_al (if x < u q then own_inner (own_up u (q + 1) (u q)) x q else own_up u (q + 1) x) 257) (.long 0); rw [if_neg hlt]; exact V15)
   refine gS 22 [(.long x)] (fun zt zk => XS.lload XL.here hx rfl (hc d13_20) rfl zk) ?_
   refine gAN XL hx (hc d13_22) rfl (.refl 23) ?_
   refine gLN XL hx (hc d13_23) rfl (.refl 24) ?_
   refine gC (z := 1) XL hx (hc d13_24) rfl (.refl 25) ?_
   refine gisub XL hx (hc d13_25) (.refl 26) ?_
   rw [own_sub1 (by omega) (by omega), show k + 1 - 1 = k by omega]
   refine gJA XL hx hZ eL VL (.long (f1 k)) ⟨own_nn (by omega), (own_lt32 (n := 257) (by omega) (by omega)).mpr (by omega)⟩ (own_alg f1 (by omega) (by omega) _) (hc d13_26) (.refl 27) ?_
   refine gS 28 [(.int (lcmpW x (f1 k)))] (fun zt zk => XS.lcmp XL.here hx rfl (hc d13_27) rfl zk) ?_
   by_cases hlt : x < f1 k
   ·
    refine gIN XL hx (hc d13_28) ((if0 _ _).trans (tlt ((lw_lt _ _).mpr hlt)).2.1) (.refl 31) ?_
    exact inner (k + 1) (Nat.le_refl _) f1 rfl _ _ _ XL eL NL KL VL
   ·
    refine gIY (q := 66) XL hx (hc d13_28) ((if0 _ _).trans (flt (fun z => hlt ((lw_lt _ _).mp z))).2.1) (by decide) ?_
    exact cont _ _ _ _ XL eL NL KL (by show Arv Z hL a1 ka .long (257 : Int32) (own_al (if x < f1 k then own_inner (own_up f1 (k + 1) (f1 k)) x k else own_up f1 (k + 1) x) 257) (.long 0); rw [if_neg hlt, hxx, own_up_self]; exact VL)
abbrev C12 : ByteArray := jdk_2529_method_13_code
theorem d12_0 : decode C12 0 = .ok (.iload 4, 2) := by decide +kernel
theorem d12_2 : decode C12 2 = .ok (.iconst 1, 1) := by decide +kernel
theorem d12_3 : decode C12 3 = .ok (.isub, 1) := by decide +kernel
theorem d12_4 : decode C12 4 = .ok (.istore 5, 2) := by decide +kernel
theorem d12_6 : decode C12 6 = .ok (.iload 4, 2) := by decide +kernel
theorem d12_8 : decode C12 8 = .ok (.iload_n 3, 1) := by decide +kernel
theorem d12_9 : decode C12 9 = .ok (.isub, 1) := by decide +kernel
theorem d12_10 : decode C12 10 = .ok (.istore 6, 2) := by decide +kernel
theorem d12_12 : decode C12 12 = .ok (.iload 6, 2) := by decide +kernel
theorem d12_14 : decode C12 14 = .ok (.bipush 65, 2) := by decide +kernel
theorem d12_16 : decode C12 16 = .ok (.iload_n 2, 1) := by decide +kernel
theorem d12_17 : decode C12 17 = .ok (.iadd, 1) := by decide +kernel
theorem d12_18 : decode C12 18 = .ok (.if_icmp .ge 28, 3) := by decide +kernel
theorem d12_21 : decode C12 21 = .ok (.iload_n 2, 1) := by decide +kernel
theorem d12_22 : decode C12 22 = .ok (.iconst 1, 1) := by decide +kernel
theorem d12_23 : decode C12 23 = .ok (.iand, 1) := by decide +kernel
theorem d12_24 : decode C12 24 = .ok (.ifCond .le 22, 3) := by decide +kernel
theorem d12_46 : decode C12 46 = .ok (.iload 6, 2) := by decide +kernel
theorem d12_48 : decode C12 48 = .ok (.bipush 44, 2) := by decide +kernel
theorem d12_50 : decode C12 50 = .ok (.if_icmp .ge 11, 3) := by decide +kernel
theorem d12_53 : decode C12 53 = .ok (.aload_n 1, 1) := by decide +kernel
theorem d12_54 : decode C12 54 = .ok (.iload_n 3, 1) := by decide +kernel
theorem d12_55 : decode C12 55 = .ok (.iload 4, 2) := by decide +kernel
theorem d12_57 : decode C12 57 = .ok (.invokestatic 105, 3) := by decide +kernel
theorem d12_60 : decode C12 60 = .ok (.return_, 1) := by decide +kernel
theorem pd_c13348 : parseMethodDescriptor "([JII)V" = some ⟨[(.array .long), .int, .int], none⟩ := by decide +kernel
theorem ef_12 (m : MethodId) (x1 : Addr) (x2 : Int32) (x3 : Int32) (x4 : Int32) : entryFrame m #[.null, (.ref x1), (.int x2), (.int x3), (.int x4)] 25 = mkF m 0 #[.val .null, .val (.ref x1), .val (.int x2), .val (.int x3), .val (.int x4), .unset, .unset, .unset, .unset, .unset, .unset, .unset, .unset, .unset, .unset, .unset, .unset, .unset, .unset, .unset, .unset, .unset, .unset, .unset, .unset] [] := by first | (simp [entryFrame, mkF, argsToLocals, Value.category]; done) | rfl
def Q_rmSo5 (Z : State) (a1 : Addr) (ka : ClassId) (f : Nat → Int64) (nn : Nat) (h0 : Heap) (n0 : Nat) (v : Option Value) (h : Heap) (L : List Loc) : Prop := v = none ∧ Fr n0 L ∧ Keep h0 h [a1] ∧ Arv Z h a1 ka .long (257 : Int32) (own_al (own_sort f nn) 257) (.long 0)
set_option maxRecDepth 65536 in
set_option maxHeartbeats 40000000 in
theorem rmSo5 (l : Launch) (Z : State) (a0 : Array Value) (hw : ∀ d ∈ tables_1, d.before a0 Z = true) (a1 : Addr) (ka : ClassId) (f : Nat → Int64) (nn : Nat) (h0 : Heap) (n0 : Nat) (Z0 : n0 ≤ h0.size) (Va : Arv Z h0 a1 ka .long (257 : Int32) (own_al f 257) (.long 0)) (g_a1 : n0 ≤ a1) (h1l : 1 ≤ nn) (h2l : nn ≤ 40) :
    MetFree l Y4 (head1 [Jvm.Cond.code Y4 jdk_2529_method_13_code 25 none] ({ frames := 1, cells := 0, slots := 0, locals := 18 } : Room)) (fun a U => a = #[.null, (.ref a1), (.int 0), (.int 0), (.int (Int32.ofNat nn))] ∧ Z.Warmed39 U.vm ∧ U.heap = h0) (fun _ _ _ _ _ => True) (fun _ U o U' => ∃ v L, o = .returned v ∧ (Q_rmSo5 Z a1 ka f nn h0 n0) v U'.heap L ∧ FrameEnd U o U' L ({ frames := 1, cells := 0, slots := 0, locals := 18 } : Room).cells ({ frames := 1, cells := 0, slots := 0, locals := 18 } : Room).slots) := by
  refine MetFree.of_bodySF (plainFor_of_name pn_2a2b7cf) hisR ?_
  intro p e s m args below meth c s₁ Bd hml0 hP hK
  obtain ⟨rfl, hZ, hh⟩ := hP
  have hx := Bd.exec
  have hc : ∀ {pc : Nat} {r}, decode C12 pc = r → decode c.code pc = r := fun h2 => hb Bd.bytes h2
  have hml : c.maxLocals = 25 := hml0
  have hown : s.vm.findClass "java/util/DualPivotQuicksort" = some m.cls := findClass_of_methodNamed Bd.named
  have hnm := (name_of_methodNamed Bd.named Bd.method).1
  have X0 : Stand p l e ({ frames := 1, cells := 0, slots := 0, locals := 18 } : Room) s m #[.null, (.ref a1), (.int 0), (.int 0), (.int (Int32.ofNat nn))] below meth c s₁ [] 0 0 := Stand.of_body Bd
  have e0 : s₁.heap = h0 := by rw [← hh, Bd.state]; rfl
  have N0 := Fr.nil n0
  have K0 : Keep h0 h0 [a1] := Keep.refl h0 [a1]
  show Go p e below (s₁.setTop (entryFrame m #[.null, (.ref a1), (.int 0), (.int 0), (.int (Int32.ofNat nn))] 25)) (EndN s (Q_rmSo5 Z a1 ka f nn h0 n0) ({ frames := 1, cells := 0, slots := 0, locals := 18 } : Room).cells ({ frames := 1, cells := 0, slots := 0, locals := 18 } : Room).slots)
  refine Go.top (ef_12 m a1 (0 : Int32) (0 : Int32) (Int32.ofNat nn)) ?_
  refine gL X0 hx (hc d12_0) rfl (.refl 2) ?_
  refine gC (z := 1) X0 hx (hc d12_2) rfl (.refl 3) ?_
  refine gisub X0 hx (hc d12_3) (.refl 4) ?_
  rw [own_sub1 h1l (by omega)]
  refine gP 6 #[.val .null, rv a1, iv 0, iv 0, iv (Int32.ofNat nn), iv (Int32.ofNat (nn - 1)), .unset, .unset, .unset, .unset, .unset, .unset, .unset, .unset, .unset, .unset, .unset, .unset, .unset, .unset, .unset, .unset, .unset, .unset, .unset] [] (fun zt zk => XS.istore X0.here hx rfl (hc d12_4) rfl (l' := _) rfl zk) ?_
  refine gL X0 hx (hc d12_6) rfl (.refl 8) ?_
  refine gLN X0 hx (hc d12_8) rfl (.refl 9) ?_
  refine gisub X0 hx (hc d12_9) (.refl 10) ?_
  rw [own_sub0 (by omega)]
  refine gP 12 #[.val .null, rv a1, iv 0, iv 0, iv (Int32.ofNat nn), iv (Int32.ofNat (nn - 1)), iv (Int32.ofNat nn), .unset, .unset, .unset, .unset, .unset, .unset, .unset, .unset, .unset, .unset, .unset, .unset, .unset, .unset, .unset, .unset, .unset, .unset] [] (fun zt zk => XS.istore X0.here hx rfl (hc d12_10) rfl (l' := _) rfl zk) ?_
  refine gL X0 hx (hc d12_12) rfl (.refl 14) ?_
  refine gB (z := 65) X0 hx (hc d12_14) rfl (.refl 16) ?_
  refine gLN X0 hx (hc d12_16) rfl (.refl 17) ?_
  refine giadd X0 hx (hc d12_17) (.refl 18) ?_
  refine gJN X0 hx (hc d12_18) (tlt (by exact (own_lt32 (n := 65) (by omega) (by omega)).mpr (by omega))).2.1 (.refl 21) ?_
  refine gLN X0 hx (hc d12_21) rfl (.refl 22) ?_
  refine gC (z := 1) X0 hx (hc d12_22) rfl (.refl 23) ?_
  refine giand X0 hx (hc d12_23) (.refl 24) ?_
  refine gIY (q := 46) X0 hx (hc d12_24) ((if0 _ _).trans (flt (by decide)).2.2.2) (by decide) ?_
  refine gL X0 hx (hc d12_46) rfl (.refl 48) ?_
  refine gB (z := 44) X0 hx (hc d12_48) rfl (.refl 50) ?_
  refine gJN X0 hx (hc d12_50) (tlt ((own_lt32 (n := 44) (by omega) (by omega)).mpr (by omega))).2.1 (.refl 53) ?_
  refine gAN X0 hx (hc d12_53) rfl (.refl 54) ?_
  refine gLN X0 hx (hc d12_54) rfl (.refl 55) ?_
  refine gL X0 hx (hc d12_55) rfl (.refl 57) ?_
  obtain ⟨vr18, _, ⟨T18, L18, k18, n18⟩, -, X18, ⟨Lc18, hQ18, l18, y18, z18⟩, st18⟩ := Jvm.LawKit.callS X0 hx (y := Y3) hown (mvT hZ (ow hw 75 rfl)) (mvT hZ (ow hw 76 rfl)) (mvT hZ (ow hw 70 rfl)) (mvT hZ (ow hw 77 rfl)) (by decide) (backOf (W := 0) (rmIns l Z a0 hw a1 ka f nn h0 n0 Z0 Va g_a1 h1l h2l) hZ (ow hw 77 rfl) (ow hw 70 rfl) (by decide) (by decide)) (g := (mkF m 57 #[.val .null, rv a1, iv 0, iv 0, iv (Int32.ofNat nn), iv (Int32.ofNat (nn - 1)), iv (Int32.ofNat nn), .unset, .unset, .unset, .unset, .unset, .unset, .unset, .unset, .unset, .unset, .unset, .unset, .unset, .unset, .unset, .unset, .unset, .unset] [(.int (Int32.ofNat nn)), (.int 0), (.ref a1)])) rfl (by rw [hml]; rfl) (argsL := [(.ref a1), (.int 0), (.int (Int32.ofNat nn))]) (rest := []) (lenOf pd_c13348 rfl) rfl (by show 2 * 0 + _ ≤ _; exact Nat.le_of_eq rfl) (hc d12_57) (fun _ _ => ⟨rfl, e0, (by decide : 0 + 0 ≤ _), (by decide : 0 + 0 ≤ _)⟩)
  dsimp only [Pt.U, Pt.locs, Pt.cells, Pt.slots] at X18 l18 y18 z18 st18 hQ18
  subst l18 y18 z18
  obtain ⟨rfl, Nq18, Kq18, V18⟩ := hQ18
  have KK19 := K0.trans Kq18 (allS (Or.inl (List.mem_of_getElem? (i := 0) rfl)) all0)
  have NN20 := Fr.app N0 Nq18
  refine gT T18 60 [] (fun zt zk => st18 zt zk) ?_
  exact Go.done X18 Bd.notSynchronized (v := none) (fun _ => rfl) (fun fs hr => X18.returnOut hx Bd.returns (hc d12_60) hr) (by rw [(rfl : T18.heap = T18.heap)]; exact ⟨rfl, NN20, KK19, V18⟩) (by decide) (by decide)
abbrev C11 : ByteArray := jdk_2529_method_12_code
theorem d11_0 : decode C11 0 = .ok (.iload_n 3, 1) := by decide +kernel
theorem d11_1 : decode C11 1 = .ok (.iload_n 2, 1) := by decide +kernel
theorem d11_2 : decode C11 2 = .ok (.isub, 1) := by decide +kernel
theorem d11_3 : decode C11 3 = .ok (.istore 4, 2) := by decide +kernel
theorem d11_5 : decode C11 5 = .ok (.iload_n 1, 1) := by decide +kernel
theorem d11_6 : decode C11 6 = .ok (.iconst 1, 1) := by decide +kernel
theorem d11_7 : decode C11 7 = .ok (.if_icmp .le 61, 3) := by decide +kernel
theorem d11_68 : decode C11 68 = .ok (.aconst_null, 1) := by decide +kernel
theorem d11_69 : decode C11 69 = .ok (.aload_n 0, 1) := by decide +kernel
theorem d11_70 : decode C11 70 = .ok (.iconst 0, 1) := by decide +kernel
theorem d11_71 : decode C11 71 = .ok (.iload_n 2, 1) := by decide +kernel
theorem d11_72 : decode C11 72 = .ok (.iload_n 3, 1) := by decide +kernel
theorem d11_73 : decode C11 73 = .ok (.invokestatic 99, 3) := by decide +kernel
theorem d11_76 : decode C11 76 = .ok (.return_, 1) := by decide +kernel
theorem pd_11b9af7 : parseMethodDescriptor "(Ljava/util/DualPivotQuicksort$Sorter;[JIII)V" = some ⟨[(.object "java/util/DualPivotQuicksort$Sorter"), (.array .long), .int, .int, .int], none⟩ := by decide +kernel
theorem ef_11 (m : MethodId) (x0 : Addr) (x1 : Int32) (x2 : Int32) (x3 : Int32) : entryFrame m #[(.ref x0), (.int x1), (.int x2), (.int x3)] 7 = mkF m 0 #[.val (.ref x0), .val (.int x1), .val (.int x2), .val (.int x3), .unset, .unset, .unset] [] := by first | (simp [entryFrame, mkF, argsToLocals, Value.category]; done) | rfl
def Q_rmSo4 (Z : State) (a1 : Addr) (ka : ClassId) (f : Nat → Int64) (nn : Nat) (h0 : Heap) (n0 : Nat) (v : Option Value) (h : Heap) (L : List Loc) : Prop := v = none ∧ Fr n0 L ∧ Keep h0 h [a1] ∧ Arv Z h a1 ka .long (257 : Int32) (own_al (own_sort f nn) 257) (.long 0)
set_option maxRecDepth 65536 in
set_option maxHeartbeats 40000000 in
theorem rmSo4 (l : Launch) (Z : State) (a0 : Array Value) (hw : ∀ d ∈ tables_1, d.before a0 Z = true) (a1 : Addr) (ka : ClassId) (f : Nat → Int64) (nn : Nat) (h0 : Heap) (n0 : Nat) (Z0 : n0 ≤ h0.size) (Va : Arv Z h0 a1 ka .long (257 : Int32) (own_al f 257) (.long 0)) (g_a1 : n0 ≤ a1) (h1l : 1 ≤ nn) (h2l : nn ≤ 40) :
    MetFree l Y5 (head1 [Jvm.Cond.code Y5 jdk_2529_method_12_code 7 none] ({ frames := 2, cells := 0, slots := 0, locals := 54 } : Room)) (fun a U => a = #[(.ref a1), (.int 0), (.int 0), (.int (Int32.ofNat nn))] ∧ Z.Warmed39 U.vm ∧ U.heap = h0) (fun _ _ _ _ _ => True) (fun _ U o U' => ∃ v L, o = .returned v ∧ (Q_rmSo4 Z a1 ka f nn h0 n0) v U'.heap L ∧ FrameEnd U o U' L ({ frames := 2, cells := 0, slots := 0, locals := 54 } : Room).cells ({ frames := 2, cells := 0, slots := 0, locals := 54 } : Room).slots) := by
  refine MetFree.of_bodySF (plainFor_of_name pn_2a2b7cf) hisR ?_
  intro p e s m args below meth c s₁ Bd hml0 hP hK
  obtain ⟨rfl, hZ, hh⟩ := hP
  have hx := Bd.exec
  have hc : ∀ {pc : Nat} {r}, decode C11 pc = r → decode c.code pc = r := fun h2 => hb Bd.bytes h2
  have hml : c.maxLocals = 7 := hml0
  have hown : s.vm.findClass "java/util/DualPivotQuicksort" = some m.cls := findClass_of_methodNamed Bd.named
  have hnm := (name_of_methodNamed Bd.named Bd.method).1
  have X0 : Stand p l e ({ frames := 2, cells := 0, slots := 0, locals := 54 } : Room) s m #[(.ref a1), (.int 0), (.int 0), (.int (Int32.ofNat nn))] below meth c s₁ [] 0 0 := Stand.of_body Bd
  have e0 : s₁.heap = h0 := by rw [← hh, Bd.state]; rfl
  have N0 := Fr.nil n0
  have K0 : Keep h0 h0 [a1] := Keep.refl h0 [a1]
  show Go p e below (s₁.setTop (entryFrame m #[(.ref a1), (.int 0), (.int 0), (.int (Int32.ofNat nn))] 7)) (EndN s (Q_rmSo4 Z a1 ka f nn h0 n0) ({ frames := 2, cells := 0, slots := 0, locals := 54 } : Room).cells ({ frames := 2, cells := 0, slots := 0, locals := 54 } : Room).slots)
  refine Go.top (ef_11 m a1 (0 : Int32) (0 : Int32) (Int32.ofNat nn)) ?_
  refine gLN X0 hx (hc d11_0) rfl (.refl 1) ?_
  refine gLN X0 hx (hc d11_1) rfl (.refl 2) ?_
  refine gisub X0 hx (hc d11_2) (.refl 3) ?_
  rw [own_sub0 (by omega)]
  refine gP 5 #[rv a1, iv 0, iv 0, iv (Int32.ofNat nn), iv (Int32.ofNat nn), .unset, .unset] [] (fun zt zk => XS.istore X0.here hx rfl (hc d11_3) rfl (l' := _) rfl zk) ?_
  refine gLN X0 hx (hc d11_5) rfl (.refl 6) ?_
  refine gC (z := 1) X0 hx (hc d11_6) rfl (.refl 7) ?_
  refine gJY (q := 68) X0 hx (hc d11_7) (flt (by decide)).2.2.2 (by decide) ?_
  refine gS 69 [.null] (fun zt zk => XS.aconstNull X0.here hx rfl (hc d11_68) zk) ?_
  refine gAN X0 hx (hc d11_69) rfl (.refl 70) ?_
  refine gC (z := 0) X0 hx (hc d11_70) rfl (.refl 71) ?_
  refine gLN X0 hx (hc d11_71) rfl (.refl 72) ?_
  refine gLN X0 hx (hc d11_72) rfl (.refl 73) ?_
  obtain ⟨vr21, _, ⟨T21, L21, k21, n21⟩, -, X21, ⟨Lc21, hQ21, l21, y21, z21⟩, st21⟩ := Jvm.LawKit.callS X0 hx (y := Y4) hown (mvT hZ (ow hw 72 rfl)) (mvT hZ (ow hw 73 rfl)) (mvT hZ (ow hw 70 rfl)) (mvT hZ (ow hw 74 rfl)) (by decide) (backOf (W := 0) (rmSo5 l Z a0 hw a1 ka f nn h0 n0 Z0 Va g_a1 h1l h2l) hZ (ow hw 74 rfl) (ow hw 70 rfl) (by decide) (by decide)) (g := (mkF m 73 #[rv a1, iv 0, iv 0, iv (Int32.ofNat nn), iv (Int32.ofNat nn), .unset, .unset] [(.int (Int32.ofNat nn)), (.int 0), (.int 0), (.ref a1), .null])) rfl (by rw [hml]; rfl) (argsL := [.null, (.ref a1), (.int 0), (.int 0), (.int (Int32.ofNat nn))]) (rest := []) (lenOf pd_11b9af7 rfl) rfl (by show 2 * 0 + _ ≤ _; exact Nat.le_of_eq rfl) (hc d11_73) (fun _ _ => ⟨rfl, e0, (by decide : 0 + 0 ≤ _), (by decide : 0 + 0 ≤ _)⟩)
  dsimp only [Pt.U, Pt.locs, Pt.cells, Pt.slots] at X21 l21 y21 z21 st21 hQ21
  subst l21 y21 z21
  obtain ⟨rfl, Nq21, Kq21, V21⟩ := hQ21
  have KK22 := K0.trans Kq21 (allS (Or.inl (List.mem_of_getElem? (i := 0) rfl)) all0)
  have NN23 := Fr.app N0 Nq21
  refine gT T21 76 [] (fun zt zk => st21 zt zk) ?_
  exact Go.done X21 Bd.notSynchronized (v := none) (fun _ => rfl) (fun fs hr => X21.returnOut hx Bd.returns (hc d11_76) hr) (by rw [(rfl : T21.heap = T21.heap)]; exact ⟨rfl, NN23, KK22, V21⟩) (by decide) (by decide)
abbrev C9 : ByteArray := jdk_65_method_5_code
theorem d9_0 : decode C9 0 = .ok (.aload_n 0, 1) := by decide +kernel
theorem d9_1 : decode C9 1 = .ok (.arraylength, 1) := by decide +kernel
theorem d9_2 : decode C9 2 = .ok (.iload_n 1, 1) := by decide +kernel
theorem d9_3 : decode C9 3 = .ok (.iload_n 2, 1) := by decide +kernel
theorem d9_4 : decode C9 4 = .ok (.invokestatic 13, 3) := by decide +kernel
theorem d9_7 : decode C9 7 = .ok (.aload_n 0, 1) := by decide +kernel
theorem d9_8 : decode C9 8 = .ok (.iconst 0, 1) := by decide +kernel
theorem d9_9 : decode C9 9 = .ok (.iload_n 1, 1) := by decide +kernel
theorem d9_10 : decode C9 10 = .ok (.iload_n 2, 1) := by decide +kernel
theorem d9_11 : decode C9 11 = .ok (.invokestatic 19, 3) := by decide +kernel
theorem d9_14 : decode C9 14 = .ok (.return_, 1) := by decide +kernel
theorem pd_2e58847 : parseMethodDescriptor "([JIII)V" = some ⟨[(.array .long), .int, .int, .int], none⟩ := by decide +kernel
theorem ef_9 (m : MethodId) (x0 : Addr) (x1 : Int32) (x2 : Int32) : entryFrame m #[(.ref x0), (.int x1), (.int x2)] 3 = mkF m 0 #[.val (.ref x0), .val (.int x1), .val (.int x2)] [] := by first | (simp [entryFrame, mkF, argsToLocals, Value.category]; done) | rfl
def Q_rmSo (Z : State) (a1 : Addr) (ka : ClassId) (f : Nat → Int64) (nn : Nat) (h0 : Heap) (n0 : Nat) (v : Option Value) (h : Heap) (L : List Loc) : Prop := v = none ∧ Fr n0 L ∧ Keep h0 h [a1] ∧ Arv Z h a1 ka .long (257 : Int32) (own_al (own_sort f nn) 257) (.long 0)
set_option maxRecDepth 65536 in
set_option maxHeartbeats 40000000 in
theorem rmSo (l : Launch) (Z : State) (a0 : Array Value) (hw : ∀ d ∈ tables_1, d.before a0 Z = true) (a1 : Addr) (ka : ClassId) (f : Nat → Int64) (nn : Nat) (h0 : Heap) (n0 : Nat) (Z0 : n0 ≤ h0.size) (Va : Arv Z h0 a1 ka .long (257 : Int32) (own_al f 257) (.long 0)) (g_a1 : n0 ≤ a1) (h1l : 1 ≤ nn) (h2l : nn ≤ 40) :
    MetFree l Y6 (head1 [Jvm.Cond.code Y6 jdk_65_method_5_code 3 none] ({ frames := 3, cells := 0, slots := 0, locals := 72 } : Room)) (fun a U => a = #[(.ref a1), (.int 0), (.int (Int32.ofNat nn))] ∧ Z.Warmed39 U.vm ∧ U.heap = h0) (fun _ _ _ _ _ => True) (fun _ U o U' => ∃ v L, o = .returned v ∧ (Q_rmSo Z a1 ka f nn h0 n0) v U'.heap L ∧ FrameEnd U o U' L ({ frames := 3, cells := 0, slots := 0, locals := 72 } : Room).cells ({ frames := 3, cells := 0, slots := 0, locals := 72 } : Room).slots) := by
  refine MetFree.of_bodySF (plainFor_of_name pn_f3ac3a5) hisR ?_
  intro p e s m args below meth c s₁ Bd hml0 hP hK
  obtain ⟨rfl, hZ, hh⟩ := hP
  have hx := Bd.exec
  have hc : ∀ {pc : Nat} {r}, decode C9 pc = r → decode c.code pc = r := fun h2 => hb Bd.bytes h2
  have hml : c.maxLocals = 3 := hml0
  have hown : s.vm.findClass "java/util/Arrays" = some m.cls := findClass_of_methodNamed Bd.named
  have hnm := (name_of_methodNamed Bd.named Bd.method).1
  have X0 : Stand p l e ({ frames := 3, cells := 0, slots := 0, locals := 72 } : Room) s m #[(.ref a1), (.int 0), (.int (Int32.ofNat nn))] below meth c s₁ [] 0 0 := Stand.of_body Bd
  have e0 : s₁.heap = h0 := by rw [← hh, Bd.state]; rfl
  have N0 := Fr.nil n0
  have K0 : Keep h0 h0 [a1] := Keep.refl h0 [a1]
  show Go p e below (s₁.setTop (entryFrame m #[(.ref a1), (.int 0), (.int (Int32.ofNat nn))] 3)) (EndN s (Q_rmSo Z a1 ka f nn h0 n0) ({ frames := 3, cells := 0, slots := 0, locals := 72 } : Room).cells ({ frames := 3, cells := 0, slots := 0, locals := 72 } : Room).slots)
  refine Go.top (ef_9 m a1 (0 : Int32) (Int32.ofNat nn)) ?_
  refine gAN X0 hx (hc d9_0) rfl (.refl 1) ?_
  obtain ⟨cl24, Ar24, -, S24, M24, -, -⟩ := id Va
  refine Go.st (T' := s₁.setTop (mkF m 2 #[rv a1, iv 0, iv (Int32.ofNat nn)] [(.int 257)])) (fun zt zk => X0.arraylength hx (by rw [e0]; exact Ar24.1) (State.isArrayOf_alike hZ.alike Ar24.2.1) (g := (mkF m 1 #[rv a1, iv 0, iv (Int32.ofNat nn)] [(.ref a1)])) rfl rfl (hc d9_1) zt (by rw [len_of S24 M24]; exact zk)) ?_
  refine gLN X0 hx (hc d9_2) rfl (.refl 3) ?_
  refine gLN X0 hx (hc d9_3) rfl (.refl 4) ?_
  obtain ⟨vr25, _, ⟨T25, L25, k25, n25⟩, -, X25, ⟨Lc25, hQ25, l25, y25, z25⟩, st25⟩ := Jvm.LawKit.callS X0 hx (y := Y0) hown (mvT hZ (ow hw 65 rfl)) (mvT hZ (ow hw 66 rfl)) (mvT hZ (ow hw 63 rfl)) (mvT hZ (ow hw 67 rfl)) (by decide) (backOf (W := 0) (rmRC l Z a0 hw 257 0 nn h0 n0 Z0 (Nat.zero_le _) (by omega) (by omega)) hZ (ow hw 67 rfl) (ow hw 63 rfl) (by decide) (by decide)) (g := (mkF m 4 #[rv a1, iv 0, iv (Int32.ofNat nn)] [(.int (Int32.ofNat nn)), (.int 0), (.int 257)])) rfl (by rw [hml]; rfl) (argsL := [(.int 257), (.int 0), (.int (Int32.ofNat nn))]) (rest := []) (lenOf pd_7f01b26 rfl) rfl (by show 2 * 0 + _ ≤ _; exact Nat.le_of_eq rfl) (hc d9_4) (fun _ _ => ⟨rfl, e0, (by decide : 0 + 0 ≤ _), (by decide : 0 + 0 ≤ _)⟩)
  dsimp only [Pt.U, Pt.locs, Pt.cells, Pt.slots] at X25 l25 y25 z25 st25 hQ25
  subst l25 y25 z25
  obtain ⟨rfl, Nq25, eq25⟩ := hQ25
  have NN26 := Fr.app N0 Nq25
  refine gT T25 7 [] (fun zt zk => st25 zt zk) ?_
  refine gAN X25 hx (hc d9_7) rfl (.refl 8) ?_
  refine gC (z := 0) X25 hx (hc d9_8) rfl (.refl 9) ?_
  refine gLN X25 hx (hc d9_9) rfl (.refl 10) ?_
  refine gLN X25 hx (hc d9_10) rfl (.refl 11) ?_
  obtain ⟨vr27, _, ⟨T27, L27, k27, n27⟩, -, X27, ⟨Lc27, hQ27, l27, y27, z27⟩, st27⟩ := Jvm.LawKit.callS X25 hx (y := Y5) hown (mvT hZ (ow hw 68 rfl)) (mvT hZ (ow hw 69 rfl)) (mvT hZ (ow hw 70 rfl)) (mvT hZ (ow hw 71 rfl)) (by decide) (backOf (W := 0) (rmSo4 l Z a0 hw a1 ka f nn h0 n0 Z0 Va g_a1 h1l h2l) hZ (ow hw 71 rfl) (ow hw 70 rfl) (by decide) (by decide)) (g := (mkF m 11 #[rv a1, iv 0, iv (Int32.ofNat nn)] [(.int (Int32.ofNat nn)), (.int 0), (.int 0), (.ref a1)])) rfl (by rw [hml]; rfl) (argsL := [(.ref a1), (.int 0), (.int 0), (.int (Int32.ofNat nn))]) (rest := []) (lenOf pd_2e58847 rfl) rfl (by show 2 * 0 + _ ≤ _; exact Nat.le_of_eq rfl) (hc d9_11) (fun _ _ => ⟨rfl, eq25, (by decide : 0 + 0 ≤ _), (by decide : 0 + 0 ≤ _)⟩)
  dsimp only [Pt.U, Pt.locs, Pt.cells, Pt.slots] at X27 l27 y27 z27 st27 hQ27
  subst l27 y27 z27
  obtain ⟨rfl, Nq27, Kq27, V27⟩ := hQ27
  have KK28 := K0.trans Kq27 (allS (Or.inl (List.mem_of_getElem? (i := 0) rfl)) all0)
  have NN29 := Fr.app NN26 Nq27
  refine gT T27 14 [] (fun zt zk => st27 zt zk) ?_
  exact Go.done X27 Bd.notSynchronized (v := none) (fun _ => rfl) (fun fs hr => X27.returnOut hx Bd.returns (hc d9_14) hr) (by rw [(rfl : T27.heap = T27.heap)]; exact ⟨rfl, NN29, KK28, V27⟩) (by decide) (by decide)
abbrev C7 : ByteArray := jdk_29_method_69_code
theorem d7_0 : decode C7 0 = .ok (.iload_n 0, 1) := by decide +kernel
theorem d7_1 : decode C7 1 = .ok (.iload_n 1, 1) := by decide +kernel
theorem d7_2 : decode C7 2 = .ok (.if_icmp .gt 7, 3) := by decide +kernel
theorem d7_5 : decode C7 5 = .ok (.iload_n 0, 1) := by decide +kernel
theorem d7_6 : decode C7 6 = .ok (.goto 4, 3) := by decide +kernel
theorem d7_10 : decode C7 10 = .ok (.ireturn, 1) := by decide +kernel
theorem pf_7 : plainFor Y7 = true := by decide +kernel
theorem ef_7 (m : MethodId) (x0 : Int32) (x1 : Int32) : entryFrame m #[(.int x0), (.int x1)] 2 = mkF m 0 #[.val (.int x0), .val (.int x1)] [] := by first | (simp [entryFrame, mkF, argsToLocals, Value.category]; done) | rfl
def Q_rmMin (Z : State)  (h0 : Heap) (n0 : Nat) (v : Option Value) (h : Heap) (L : List Loc) : Prop := v = some (.int 0) ∧ Fr n0 L ∧ h = h0
set_option maxRecDepth 65536 in
set_option maxHeartbeats 40000000 in
theorem rmMin (l : Launch) (Z : State) (a0 : Array Value) (hw : ∀ d ∈ tables_1, d.before a0 Z = true)  (h0 : Heap) (n0 : Nat) (Z0 : n0 ≤ h0.size)  :
    MetFree l Y7 (head1 [Jvm.Cond.code Y7 jdk_29_method_69_code 2 (some .int)] ({ frames := 0, cells := 0, slots := 0, locals := 0 } : Room)) (fun a U => a = #[(.int 0), (.int 31)] ∧ Z.Warmed39 U.vm ∧ U.heap = h0) (fun _ _ _ _ _ => True) (fun _ U o U' => ∃ v L, o = .returned v ∧ (Q_rmMin Z  h0 n0) v U'.heap L ∧ FrameEnd U o U' L ({ frames := 0, cells := 0, slots := 0, locals := 0 } : Room).cells ({ frames := 0, cells := 0, slots := 0, locals := 0 } : Room).slots) := by
  refine MetFree.of_bodySF pf_7 hisR ?_
  intro p e s m args below meth c s₁ Bd hml0 hP hK
  obtain ⟨rfl, hZ, hh⟩ := hP
  have hx := Bd.exec
  have hc : ∀ {pc : Nat} {r}, decode C7 pc = r → decode c.code pc = r := fun h2 => hb Bd.bytes h2
  have hml : c.maxLocals = 2 := hml0
  have hown : s.vm.findClass "java/lang/Math" = some m.cls := findClass_of_methodNamed Bd.named
  have hnm := (name_of_methodNamed Bd.named Bd.method).1
  have X0 : Stand p l e ({ frames := 0, cells := 0, slots := 0, locals := 0 } : Room) s m #[(.int 0), (.int 31)] below meth c s₁ [] 0 0 := Stand.of_body Bd
  have e0 : s₁.heap = h0 := by rw [← hh, Bd.state]; rfl
  have N0 := Fr.nil n0
  have K0 : Keep h0 h0 [] := Keep.refl h0 []
  show Go p e below (s₁.setTop (entryFrame m #[(.int 0), (.int 31)] 2)) (EndN s (Q_rmMin Z  h0 n0) ({ frames := 0, cells := 0, slots := 0, locals := 0 } : Room).cells ({ frames := 0, cells := 0, slots := 0, locals := 0 } : Room).slots)
  refine Go.top (ef_7 m (0 : Int32) (31 : Int32)) ?_
  refine gLN X0 hx (hc d7_0) rfl (.refl 1) ?_
  refine gLN X0 hx (hc d7_1) rfl (.refl 2) ?_
  refine gJN X0 hx (hc d7_2) (flt (by decide)).2.2.1 (.refl 5) ?_
  refine gLN X0 hx (hc d7_5) rfl (.refl 6) ?_
  refine gG (q := 10) X0 hx (hc d7_6) (by decide) ?_
  exact Go.done X0 Bd.notSynchronized (v := some (.int 0)) (fun h => by rw [Bd.returns] at h; cases h) (fun fs hr => retI X0 hx Bd.returns (hc d7_10) hr) (by rw [e0]; exact ⟨rfl, N0, rfl⟩) (by decide) (by decide)
theorem own_one {x : Int32} (h : (0 : Int32) < x) (h1 : ¬ (1 : Int32) < x) : (1 : Int32) = x := by
  apply Int32.toInt_inj.mp
  rw [Int32.lt_iff_toInt_lt] at h h1
  have e0 : (0 : Int32).toInt = 0 := rfl
  have e1 : (1 : Int32).toInt = 1 := rfl
  omega
abbrev C8 : ByteArray := jdk_29_method_65_code
theorem d8_0 : decode C8 0 = .ok (.iload_n 0, 1) := by decide +kernel
theorem d8_1 : decode C8 1 = .ok (.iload_n 1, 1) := by decide +kernel
theorem d8_2 : decode C8 2 = .ok (.if_icmp .lt 7, 3) := by decide +kernel
theorem d8_5 : decode C8 5 = .ok (.iload_n 0, 1) := by decide +kernel
theorem d8_6 : decode C8 6 = .ok (.goto 4, 3) := by decide +kernel
theorem d8_9 : decode C8 9 = .ok (.iload_n 1, 1) := by decide +kernel
theorem d8_10 : decode C8 10 = .ok (.ireturn, 1) := by decide +kernel
theorem pf_8 : plainFor Y8 = true := by decide +kernel
theorem ef_8 (m : MethodId) (x0 : Int32) (x1 : Int32) : entryFrame m #[(.int x0), (.int x1)] 2 = mkF m 0 #[.val (.int x0), .val (.int x1)] [] := by first | (simp [entryFrame, mkF, argsToLocals, Value.category]; done) | rfl
def Q_rmMax (Z : State) (px : Int32) (h0 : Heap) (n0 : Nat) (v : Option Value) (h : Heap) (L : List Loc) : Prop := v = some (.int px) ∧ Fr n0 L ∧ h = h0
set_option maxRecDepth 65536 in
set_option maxHeartbeats 40000000 in
theorem rmMax (l : Launch) (Z : State) (a0 : Array Value) (hw : ∀ d ∈ tables_1, d.before a0 Z = true) (px : Int32) (h0 : Heap) (n0 : Nat) (Z0 : n0 ≤ h0.size) (hpx : (0 : Int32) < px) :
    MetFree l Y8 (head1 [Jvm.Cond.code Y8 jdk_29_method_65_code 2 (some .int)] ({ frames := 0, cells := 0, slots := 0, locals := 0 } : Room)) (fun a U => a = #[(.int 1), (.int px)] ∧ Z.Warmed39 U.vm ∧ U.heap = h0) (fun _ _ _ _ _ => True) (fun _ U o U' => ∃ v L, o = .returned v ∧ (Q_rmMax Z px h0 n0) v U'.heap L ∧ FrameEnd U o U' L ({ frames := 0, cells := 0, slots := 0, locals := 0 } : Room).cells ({ frames := 0, cells := 0, slots := 0, locals := 0 } : Room).slots) := by
  refine MetFree.of_bodySF pf_8 hisR ?_
  intro p e s m args below meth c s₁ Bd hml0 hP hK
  obtain ⟨rfl, hZ, hh⟩ := hP
  have hx := Bd.exec
  have hc : ∀ {pc : Nat} {r}, decode C8 pc = r → decode c.code pc = r := fun h2 => hb Bd.bytes h2
  have hml : c.maxLocals = 2 := hml0
  have hown : s.vm.findClass "java/lang/Math" = some m.cls := findClass_of_methodNamed Bd.named
  have hnm := (name_of_methodNamed Bd.named Bd.method).1
  have X0 : Stand p l e ({ frames := 0, cells := 0, slots := 0, locals := 0 } : Room) s m #[(.int 1), (.int px)] below meth c s₁ [] 0 0 := Stand.of_body Bd
  have e0 : s₁.heap = h0 := by rw [← hh, Bd.state]; rfl
  have N0 := Fr.nil n0
  have K0 : Keep h0 h0 [] := Keep.refl h0 []
  show Go p e below (s₁.setTop (entryFrame m #[(.int 1), (.int px)] 2)) (EndN s (Q_rmMax Z px h0 n0) ({ frames := 0, cells := 0, slots := 0, locals := 0 } : Room).cells ({ frames := 0, cells := 0, slots := 0, locals := 0 } : Room).slots)
  refine Go.top (ef_8 m (1 : Int32) px) ?_
  refine gLN X0 hx (hc d8_0) rfl (.refl 1) ?_
  refine gLN X0 hx (hc d8_1) rfl (.refl 2) ?_
  by_cases hm1 : (1 : Int32) < px
  ·
   refine gJY (q := 9) X0 hx (hc d8_2) (tlt hm1).1 (by decide) ?_
   refine gLN X0 hx (hc d8_9) rfl (.refl 10) ?_
   exact Go.done X0 Bd.notSynchronized (v := some (.int px)) (fun h => by rw [Bd.returns] at h; cases h) (fun fs hr => retI X0 hx Bd.returns (hc d8_10) hr) (by rw [e0]; exact ⟨rfl, N0, rfl⟩) (by decide) (by decide)
  ·
   refine gJN X0 hx (hc d8_2) (flt hm1).1 (.refl 5) ?_
   refine gLN X0 hx (hc d8_5) rfl (.refl 6) ?_
   refine gG (q := 10) X0 hx (hc d8_6) (by decide) ?_
   exact Go.done X0 Bd.notSynchronized (v := some (.int 1)) (fun h => by rw [Bd.returns] at h; cases h) (fun fs hr => retI X0 hx Bd.returns (hc d8_10) hr) (by rw [e0]; exact ⟨by rw [own_one hpx hm1], N0, rfl⟩) (by decide) (by decide)
theorem own_os5w {z0 z1 z2 z3 z4 : Value} {s5 s6 : Slot} {a : Int64} (h : s5 = .unset ∧ s6 = .unset ∨ (∃ z : Int64, s5 = .val (.long z)) ∧ s6 = .second) : storeLocals #[.val z0, .val z1, .val z2, .val z3, .val z4, s5, s6] 5 (.long a) = some #[.val z0, .val z1, .val z2, .val z3, .val z4, .val (.long a), .second] := own_os5 h
abbrev C6 : ByteArray := prog_43_method_8_code
theorem d6_0 : decode C6 0 = .ok (.iconst 0, 1) := by decide +kernel
theorem d6_1 : decode C6 1 = .ok (.istore_n 3, 1) := by decide +kernel
theorem d6_2 : decode C6 2 = .ok (.iconst 0, 1) := by decide +kernel
theorem d6_3 : decode C6 3 = .ok (.istore 4, 2) := by decide +kernel
theorem d6_5 : decode C6 5 = .ok (.iload 4, 2) := by decide +kernel
theorem d6_7 : decode C6 7 = .ok (.sipush 257, 3) := by decide +kernel
theorem d6_10 : decode C6 10 = .ok (.if_icmp .ge 52, 3) := by decide +kernel
theorem d6_13 : decode C6 13 = .ok (.aload_n 1, 1) := by decide +kernel
theorem d6_14 : decode C6 14 = .ok (.iload 4, 2) := by decide +kernel
theorem d6_16 : decode C6 16 = .ok (.iaload, 1) := by decide +kernel
theorem d6_17 : decode C6 17 = .ok (.ifCond .le 39, 3) := by decide +kernel
theorem d6_20 : decode C6 20 = .ok (.iconst 1, 1) := by decide +kernel
theorem d6_21 : decode C6 21 = .ok (.aload_n 1, 1) := by decide +kernel
theorem d6_22 : decode C6 22 = .ok (.iload 4, 2) := by decide +kernel
theorem d6_24 : decode C6 24 = .ok (.iaload, 1) := by decide +kernel
theorem d6_25 : decode C6 25 = .ok (.iload_n 2, 1) := by decide +kernel
theorem d6_26 : decode C6 26 = .ok (.bipush 31, 2) := by decide +kernel
theorem d6_28 : decode C6 28 = .ok (.invokestatic 74, 3) := by decide +kernel
theorem d6_31 : decode C6 31 = .ok (.ishr, 1) := by decide +kernel
theorem d6_32 : decode C6 32 = .ok (.invokestatic 80, 3) := by decide +kernel
theorem d6_35 : decode C6 35 = .ok (.i2l, 1) := by decide +kernel
theorem d6_36 : decode C6 36 = .ok (.lstore 5, 2) := by decide +kernel
theorem d6_38 : decode C6 38 = .ok (.aload_n 0, 1) := by decide +kernel
theorem d6_39 : decode C6 39 = .ok (.getfield 28, 3) := by decide +kernel
theorem d6_42 : decode C6 42 = .ok (.iload_n 3, 1) := by decide +kernel
theorem d6_43 : decode C6 43 = .ok (.iinc 3 1, 3) := by decide +kernel
theorem d6_46 : decode C6 46 = .ok (.lload 5, 2) := by decide +kernel
theorem d6_48 : decode C6 48 = .ok (.bipush 16, 2) := by decide +kernel
theorem d6_50 : decode C6 50 = .ok (.lshl, 1) := by decide +kernel
theorem d6_51 : decode C6 51 = .ok (.iload 4, 2) := by decide +kernel
theorem d6_53 : decode C6 53 = .ok (.i2l, 1) := by decide +kernel
theorem d6_54 : decode C6 54 = .ok (.lor, 1) := by decide +kernel
theorem d6_55 : decode C6 55 = .ok (.lastore, 1) := by decide +kernel
theorem d6_56 : decode C6 56 = .ok (.iinc 4 1, 3) := by decide +kernel
theorem d6_59 : decode C6 59 = .ok (.goto (-54), 3) := by decide +kernel
theorem d6_62 : decode C6 62 = .ok (.aload_n 0, 1) := by decide +kernel
theorem d6_63 : decode C6 63 = .ok (.getfield 28, 3) := by decide +kernel
theorem d6_66 : decode C6 66 = .ok (.iconst 0, 1) := by decide +kernel
theorem d6_67 : decode C6 67 = .ok (.iload_n 3, 1) := by decide +kernel
theorem d6_68 : decode C6 68 = .ok (.invokestatic 83, 3) := by decide +kernel
theorem d6_71 : decode C6 71 = .ok (.iconst 0, 1) := by decide +kernel
theorem d6_72 : decode C6 72 = .ok (.istore 4, 2) := by decide +kernel
theorem d6_74 : decode C6 74 = .ok (.iload 4, 2) := by decide +kernel
theorem d6_76 : decode C6 76 = .ok (.iload_n 3, 1) := by decide +kernel
theorem d6_77 : decode C6 77 = .ok (.if_icmp .ge 37, 3) := by decide +kernel
theorem d6_80 : decode C6 80 = .ok (.aload_n 0, 1) := by decide +kernel
theorem d6_81 : decode C6 81 = .ok (.getfield 32, 3) := by decide +kernel
theorem d6_84 : decode C6 84 = .ok (.iload 4, 2) := by decide +kernel
theorem d6_86 : decode C6 86 = .ok (.aload_n 0, 1) := by decide +kernel
theorem d6_87 : decode C6 87 = .ok (.getfield 28, 3) := by decide +kernel
theorem d6_90 : decode C6 90 = .ok (.iload 4, 2) := by decide +kernel
theorem d6_92 : decode C6 92 = .ok (.laload, 1) := by decide +kernel
theorem d6_93 : decode C6 93 = .ok (.l2i, 1) := by decide +kernel
theorem d6_94 : decode C6 94 = .ok (.i2s, 1) := by decide +kernel
theorem d6_95 : decode C6 95 = .ok (.sastore, 1) := by decide +kernel
theorem d6_96 : decode C6 96 = .ok (.aload_n 0, 1) := by decide +kernel
theorem d6_97 : decode C6 97 = .ok (.getfield 28, 3) := by decide +kernel
theorem d6_100 : decode C6 100 = .ok (.iload 4, 2) := by decide +kernel
theorem d6_102 : decode C6 102 = .ok (.dup2, 1) := by decide +kernel
theorem d6_103 : decode C6 103 = .ok (.laload, 1) := by decide +kernel
theorem d6_104 : decode C6 104 = .ok (.bipush 16, 2) := by decide +kernel
theorem d6_106 : decode C6 106 = .ok (.lushr, 1) := by decide +kernel
theorem d6_107 : decode C6 107 = .ok (.lastore, 1) := by decide +kernel
theorem d6_108 : decode C6 108 = .ok (.iinc 4 1, 3) := by decide +kernel
theorem d6_111 : decode C6 111 = .ok (.goto (-37), 3) := by decide +kernel
theorem d6_114 : decode C6 114 = .ok (.iload_n 3, 1) := by decide +kernel
theorem d6_115 : decode C6 115 = .ok (.ireturn, 1) := by decide +kernel
theorem pn_81ef1d3 : plainName "com/example/tributary/tributary/join/LineCodes" = true := by first | (simp [plainName, overriddenIn]; done) | decide +kernel
theorem pd_7ffd0b0 : parseMethodDescriptor "(II)I" = some ⟨[.int, .int], some .int⟩ := by decide +kernel
theorem ef_6 (m : MethodId) (x0 : Addr) (x1 : Addr) (x2 : Int32) : entryFrame m #[(.ref x0), (.ref x1), (.int x2)] 7 = mkF m 0 #[.val (.ref x0), .val (.ref x1), .val (.int x2), .unset, .unset, .unset, .unset] [] := by first | (simp [entryFrame, mkF, argsToLocals, Value.category]; done) | rfl
def Q_rmWe (Z : State) (ob aw ao ca : Addr) (kw ko kc : ClassId) (f : Nat → Int32) (w0 : Nat → Int64) (q0 : Nat → Int32) (ps : List Nat) (h0 : Heap) (n0 : Nat) (v : Option Value) (h : Heap) (L : List Loc) : Prop := v = some (.int (Int32.ofNat ps.length)) ∧ Fr n0 L ∧ Keep h0 h [aw, ao] ∧ Arv Z h aw kw .long (257 : Int32) (own_al (own_w2 (own_sort (own_wl f ps w0) ps.length) ps.length) 257) (.long 0) ∧ Arv Z h ao ko .short (257 : Int32) (own_ar (own_o2 (own_sort (own_wl f ps w0) ps.length) q0 ps.length) 257) (.int 0)
set_option maxRecDepth 65536 in
set_option maxHeartbeats 40000000 in
theorem rmWe (l : Launch) (Z : State) (a0 : Array Value) (hw : ∀ d ∈ tables_1, d.before a0 Z = true) (ob aw ao ca : Addr) (kw ko kc : ClassId) (f : Nat → Int32) (w0 : Nat → Int64) (q0 : Nat → Int32) (ps : List Nat) (h0 : Heap) (n0 : Nat) (Z0 : n0 ≤ h0.size) (Fw : Fld Z h0 ob "com/example/tributary/tributary/join/LineCodes" "weights" "[J" (.ref aw)) (Fo : Fld Z h0 ob "com/example/tributary/tributary/join/LineCodes" "order" "[S" (.ref ao)) (Vw : Arv Z h0 aw kw .long (257 : Int32) (own_al w0 257) (.long 0)) (Vo : Arv Z h0 ao ko .short (257 : Int32) (own_ar q0 257) (.int 0)) (Vc : Arv Z h0 ca kc .int (257 : Int32) (own_ar f 257) (.int 0)) (nws : aw ≠ ao ∧ aw ≠ ca ∧ ao ≠ ca ∧ ob ≠ aw ∧ ob ≠ ao) (g_aw : n0 ≤ aw) (g_ao : n0 ≤ ao) (hps : own_pos f ps) :
    MetFree l Y9 (head1 [Jvm.Cond.code Y9 prog_43_method_8_code 7 (some .int)] ({ frames := 4, cells := 0, slots := 0, locals := 86 } : Room)) (fun a U => a = #[(.ref ob), (.ref ca), (.int 0)] ∧ Z.Warmed39 U.vm ∧ U.heap = h0) (fun _ _ _ _ _ => True) (fun _ U o U' => ∃ v L, o = .returned v ∧ (Q_rmWe Z ob aw ao ca kw ko kc f w0 q0 ps h0 n0) v U'.heap L ∧ FrameEnd U o U' L ({ frames := 4, cells := 0, slots := 0, locals := 86 } : Room).cells ({ frames := 4, cells := 0, slots := 0, locals := 86 } : Room).slots) := by
  refine MetFree.of_bodySF (plainFor_of_name pn_81ef1d3) hisR ?_
  intro p e s m args below meth c s₁ Bd hml0 hP hK
  obtain ⟨rfl, hZ, hh⟩ := hP
  have hx := Bd.exec
  have hc : ∀ {pc : Nat} {r}, decode C6 pc = r → decode c.code pc = r := fun h2 => hb Bd.bytes h2
  have hml : c.maxLocals = 7 := hml0
  have hown : s.vm.findClass "com/example/tributary/tributary/join/LineCodes" = some m.cls := findClass_of_methodNamed Bd.named
  have hnm := (name_of_methodNamed Bd.named Bd.method).1
  have X0 : Stand p l e ({ frames := 4, cells := 0, slots := 0, locals := 86 } : Room) s m #[(.ref ob), (.ref ca), (.int 0)] below meth c s₁ [] 0 0 := Stand.of_body Bd
  have e0 : s₁.heap = h0 := by rw [← hh, Bd.state]; rfl
  have N0 := Fr.nil n0
  have K0 : Keep h0 h0 [aw, ao] := Keep.refl h0 [aw, ao]
  show Go p e below (s₁.setTop (entryFrame m #[(.ref ob), (.ref ca), (.int 0)] 7)) (EndN s (Q_rmWe Z ob aw ao ca kw ko kc f w0 q0 ps h0 n0) ({ frames := 4, cells := 0, slots := 0, locals := 86 } : Room).cells ({ frames := 4, cells := 0, slots := 0, locals := 86 } : Room).slots)
  refine Go.top (ef_6 m ob ca (0 : Int32)) ?_
  obtain ⟨hasc, hmem, hlt7, hl1, hl4⟩ := id hps
  refine gC (z := 0) X0 hx (hc d6_0) rfl (.refl 1) ?_
  refine gP 2 #[rv ob, rv ca, iv 0, iv 0, .unset, .unset, .unset] [] (fun zt zk => XS.istoreN X0.here hx rfl (hc d6_1) rfl (l' := _) rfl zk) ?_
  refine gC (z := 0) X0 hx (hc d6_2) rfl (.refl 3) ?_
  refine gP 5 #[rv ob, rv ca, iv 0, iv 0, iv 0, .unset, .unset] [] (fun zt zk => XS.istore X0.here hx rfl (hc d6_3) rfl (l' := _) rfl zk) ?_
  suffices loop : ∀ (r : Nat), r ≤ 257 → ∀ (done rest : List Nat), ps = done ++ rest → (∀ x ∈ done, x < 257 - r) → (∀ x ∈ rest, 257 - r ≤ x) → ∀ (TL : State) (hL : Heap) (LL : List Loc) (s5 s6 : Slot), Stand p l e ({ frames := 4, cells := 0, slots := 0, locals := 86 } : Room) s m #[(.ref ob), (.ref ca), (.int 0)] below meth c TL LL 0 0 → TL.heap = hL → Fr n0 LL → Keep h0 hL [aw, ao] → (s5 = .unset ∧ s6 = .unset ∨ (∃ z : Int64, s5 = .val (.long z)) ∧ s6 = .second) → Arv Z hL aw kw .long (257 : Int32) (own_al (own_wl f done w0) 257) (.long 0) → Arv Z hL ao ko .short (257 : Int32) (own_ar q0 257) (.int 0) → Go p e below (TL.setTop (mkF m 5 #[rv ob, rv ca, iv 0, iv (Int32.ofNat done.length), iv (Int32.ofNat (257 - r)), s5, s6] [])) (EndN s (Q_rmWe Z ob aw ao ca kw ko kc f w0 q0 ps h0 n0) ({ frames := 4, cells := 0, slots := 0, locals := 86 } : Room).cells ({ frames := 4, cells := 0, slots := 0, locals := 86 } : Room).slots) by
    exact loop 257 (Nat.le_refl _) [] ps rfl (fun x hx => by cases hx) (fun x hx => Nat.zero_le _) s₁ _ _ .unset .unset X0 e0 N0 K0 (Or.inl ⟨rfl, rfl⟩) Vw Vo
  intro r
  induction r with
  | zero =>
   intro hr done rest hdr hdo hre TL hL LL s5 s6 XL eL NL KL hs5 VL VO
   have hrn : rest = [] := by
     cases rest with
     | nil => rfl
     | cons y ys =>
       have q1 := hre y (List.mem_cons_self ..)
       have q2 := hlt7 y (by rw [hdr]; exact List.mem_append_right _ (List.mem_cons_self ..))
       omega
   rw [hrn, List.append_nil] at hdr
   subst hdr
   have Fw2 := Fw.keep KL (ninS nws.2.2.2.1 (ninS nws.2.2.2.2 nin0))
   have Fo2 := Fo.keep KL (ninS nws.2.2.2.1 (ninS nws.2.2.2.2 nin0))
   have Vc2 := Vc.keep KL (ninS (Ne.symm nws.2.1) (ninS (Ne.symm nws.2.2.1) nin0))
   refine gL XL hx (hc d6_5) rfl (.refl 7) ?_
   refine gH (z := 257) XL hx (hc d6_7) rfl (.refl 10) ?_
   refine gJY (q := 62) XL hx (hc d6_10) (flt (fun q => absurd ((own_lt32 (n := 257) (by omega) (by omega)).mp q) (by omega))).2.1 (by decide) ?_
   refine gAN XL hx (hc d6_62) rfl (.refl 63) ?_
   refine gF XL hx hZ hown (ow hw 27 rfl) Via.refl eL Fw2 (hc d6_63) (.refl 66) ?_
   intro T30 X30 e30
   refine gC (z := 0) X30 hx (hc d6_66) rfl (.refl 67) ?_
   refine gLN X30 hx (hc d6_67) rfl (.refl 68) ?_
   obtain ⟨vr31, _, ⟨T31, L31, k31, n31⟩, -, X31, ⟨Lc31, hQ31, l31, y31, z31⟩, st31⟩ := Jvm.LawKit.callS X30 hx (y := Y6) hown (mvT hZ (ow hw 61 rfl)) (mvT hZ (ow hw 62 rfl)) (mvT hZ (ow hw 63 rfl)) (mvT hZ (ow hw 64 rfl)) (by decide) (backOf (W := 0) (rmSo l Z a0 hw aw kw (own_wl f ps w0) ps.length hL n0 (Nat.le_trans Z0 KL.1) VL g_aw hl1 (by omega)) hZ (ow hw 64 rfl) (ow hw 63 rfl) (by decide) (by decide)) (g := (mkF m 68 #[rv ob, rv ca, iv 0, iv (Int32.ofNat ps.length), iv (Int32.ofNat (257 - 0)), s5, s6] [(.int (Int32.ofNat ps.length)), (.int 0), (.ref aw)])) rfl (by rw [hml]; rfl) (argsL := [(.ref aw), (.int 0), (.int (Int32.ofNat ps.length))]) (rest := []) (lenOf pd_c13348 rfl) rfl (by show 2 * 0 + _ ≤ _; exact Nat.le_of_eq rfl) (hc d6_68) (fun _ _ => ⟨rfl, e30, (by decide : 0 + 0 ≤ _), (by decide : 0 + 0 ≤ _)⟩)
   dsimp only [Pt.U, Pt.locs, Pt.cells, Pt.slots] at X31 l31 y31 z31 st31 hQ31
   subst l31 y31 z31
   obtain ⟨rfl, Nq31, Kq31, V31⟩ := hQ31
   have KK32 := KL.trans Kq31 (allS (Or.inl (List.mem_of_getElem? (i := 0) rfl)) all0)
   have NN33 := Fr.app NL Nq31
   refine gT T31 71 [] (fun zt zk => st31 zt zk) ?_
   obtain ⟨w1, hw1⟩ : ∃ z, z = (own_sort (own_wl f ps w0) ps.length) := ⟨_, rfl⟩
   rw [← hw1] at V31
   have f34 := (VO.keep Kq31 (ninS (Ne.symm nws.1) nin0))
   refine gC (z := 0) X31 hx (hc d6_71) rfl (.refl 72) ?_
   refine gP 74 #[rv ob, rv ca, iv 0, iv (Int32.ofNat ps.length), iv 0, s5, s6] [] (fun zt zk => XS.istore X31.here hx rfl (hc d6_72) rfl (l' := _) rfl zk) ?_
   suffices loop2 : ∀ (u : Nat), u ≤ ps.length → ∀ (TL : State) (hL : Heap) (LL : List Loc), Stand p l e ({ frames := 4, cells := 0, slots := 0, locals := 86 } : Room) s m #[(.ref ob), (.ref ca), (.int 0)] below meth c TL LL 0 0 → TL.heap = hL → Fr n0 LL → Keep h0 hL [aw, ao] → Arv Z hL aw kw .long (257 : Int32) (own_al (own_w2 w1 (ps.length - u)) 257) (.long 0) → Arv Z hL ao ko .short (257 : Int32) (own_ar (own_o2 w1 q0 (ps.length - u)) 257) (.int 0) → Go p e below (TL.setTop (mkF m 74 #[rv ob, rv ca, iv 0, iv (Int32.ofNat ps.length), iv (Int32.ofNat (ps.length - u)), s5, s6] [])) (EndN s (Q_rmWe Z ob aw ao ca kw ko kc f w0 q0 ps h0 n0) ({ frames := 4, cells := 0, slots := 0, locals := 86 } : Room).cells ({ frames := 4, cells := 0, slots := 0, locals := 86 } : Room).slots) by
     have := loop2 ps.length (Nat.le_refl _) T31 _ _ X31 rfl NN33 KK32 (by rw [Nat.sub_self, own_w20]; exact V31) (by rw [Nat.sub_self, own_o20]; exact f34)
     rw [Nat.sub_self] at this
     exact this
   intro u
   induction u with
   | zero =>
    intro hu TL hL LL XL eL NL KL VL VO
    have Fw2 := Fw.keep KL (ninS nws.2.2.2.1 (ninS nws.2.2.2.2 nin0))
    have Fo2 := Fo.keep KL (ninS nws.2.2.2.1 (ninS nws.2.2.2.2 nin0))
    have Vc2 := Vc.keep KL (ninS (Ne.symm nws.2.1) (ninS (Ne.symm nws.2.2.1) nin0))
    refine gL XL hx (hc d6_74) rfl (.refl 76) ?_
    refine gLN XL hx (hc d6_76) rfl (.refl 77) ?_
    refine gJY (q := 114) XL hx (hc d6_77) (flt (fun q => absurd ((own_lt32 (by omega) (by omega)).mp q) (by omega))).2.1 (by decide) ?_
    refine gLN XL hx (hc d6_114) rfl (.refl 115) ?_
    exact Go.done XL Bd.notSynchronized (v := some (.int (Int32.ofNat ps.length))) (fun h => by rw [Bd.returns] at h; cases h) (fun fs hr => retI XL hx Bd.returns (hc d6_115) hr) (by rw [eL]; exact ⟨rfl, NL, KL, by rw [← hw1]; exact VL, by rw [← hw1]; exact VO⟩) (by decide) (by decide)
   | succ u iu =>
    intro hu TL hL LL XL eL NL KL VL VO
    obtain ⟨j, hj⟩ : ∃ j, j = ps.length - (u + 1) := ⟨_, rfl⟩
    rw [← hj] at VL VO
    have Fw2 := Fw.keep KL (ninS nws.2.2.2.1 (ninS nws.2.2.2.2 nin0))
    have Fo2 := Fo.keep KL (ninS nws.2.2.2.1 (ninS nws.2.2.2.2 nin0))
    have Vc2 := Vc.keep KL (ninS (Ne.symm nws.2.1) (ninS (Ne.symm nws.2.2.1) nin0))
    rw [← hj]
    refine gL XL hx (hc d6_74) rfl (.refl 76) ?_
    refine gLN XL hx (hc d6_76) rfl (.refl 77) ?_
    refine gJN XL hx (hc d6_77) (tlt ((own_lt32 (by omega) (by omega)).mpr (by omega))).2.1 (.refl 80) ?_
    refine gAN XL hx (hc d6_80) rfl (.refl 81) ?_
    refine gF XL hx hZ hown (ow hw 29 rfl) Via.refl eL Fo2 (hc d6_81) (.refl 84) ?_
    intro T35 X35 e35
    refine gL X35 hx (hc d6_84) rfl (.refl 86) ?_
    refine gAN X35 hx (hc d6_86) rfl (.refl 87) ?_
    refine gF X35 hx hZ hown (ow hw 27 rfl) Via.refl e35 Fw2 (hc d6_87) (.refl 90) ?_
    intro T36 X36 e36
    refine gL X36 hx (hc d6_90) rfl (.refl 92) ?_
    refine gJA X36 hx hZ e36 VL (.long ((own_w2 w1 j) j)) ⟨own_nn (by omega), (own_lt32 (n := 257) (by omega) (by omega)).mpr (by omega)⟩ (own_alg (own_w2 w1 j) (by omega) (by omega) _) (hc d6_92) (.refl 93) ?_
    rw [own_w2i]
    refine gS 94 [(.int ((w1 j).toInt32)), (.int (Int32.ofNat j)), (.ref ao)] (fun zt zk => XS.l2i X36.here hx rfl (hc d6_93) rfl zk) ?_
    refine gS 95 [(.int (((w1 j).toInt32).toInt16.toInt32)), (.int (Int32.ofNat j)), (.ref ao)] (fun zt zk => XS.i2s X36.here hx rfl (hc d6_94) rfl zk) ?_
    refine gSS X36 hx hZ e36 VO ⟨own_nn (by omega), (own_lt32 (n := 257) (by omega) (by omega)).mpr (by omega)⟩ j (own_clamp (by omega)) (by rw [own_arl]; omega) ((own_ar (own_o2 w1 q0 j) 257).set j (.int (nar .short (((w1 j).toInt32).toInt16.toInt32)))) rfl (hc d6_95) (.refl 96) ?_
    intro T38 h38 X38 e38 W38 V38
    have K38 := KL.wr W38 (Or.inl (List.mem_of_getElem? (i := 1) rfl))
    have N38 := Fr.snoc X38 NL g_ao
    rw [own_ars (own_o2 w1 q0 j) (by omega)] at V38
    rw [own_o2s] at V38
    refine gAN X38 hx (hc d6_96) rfl (.refl 97) ?_
    have f40 := (Fw2.other W38 (Or.inl nws.2.2.2.2))
    refine gF X38 hx hZ hown (ow hw 27 rfl) Via.refl e38 f40 (hc d6_97) (.refl 100) ?_
    intro T41 X41 e41
    refine gL X41 hx (hc d6_100) rfl (.refl 102) ?_
    refine gS 103 [(.int (Int32.ofNat j)), (.ref aw), (.int (Int32.ofNat j)), (.ref aw)] (fun zt zk => Jvm.Free.XT.dup2 X41.here hx rfl (hc d6_102) rfl rfl rfl zk) ?_
    have f42 := (VL.other W38 nws.1)
    refine gJA X41 hx hZ e41 f42 (.long ((own_w2 w1 j) j)) ⟨own_nn (by omega), (own_lt32 (n := 257) (by omega) (by omega)).mpr (by omega)⟩ (own_alg (own_w2 w1 j) (by omega) (by omega) _) (hc d6_103) (.refl 104) ?_
    rw [own_w2i]
    refine gB (z := 16) X41 hx (hc d6_104) rfl (.refl 106) ?_
    refine gS 107 [(.long (((w1 j).toUInt64 >>> ((16 : Int32) &&& 0x3f).toInt64.toUInt64).toInt64)), (.int (Int32.ofNat j)), (.ref aw)] (fun zt zk => XS.lushr X41.here hx rfl (hc d6_106) rfl zk) ?_
    refine gSJ X41 hx hZ e41 f42 ⟨own_nn (by omega), (own_lt32 (n := 257) (by omega) (by omega)).mpr (by omega)⟩ j (own_clamp (by omega)) (by rw [own_all]; omega) ((own_al (own_w2 w1 j) 257).set j (.long (((w1 j).toUInt64 >>> ((16 : Int32) &&& 0x3f).toInt64.toUInt64).toInt64))) rfl (hc d6_107) (.refl 108) ?_
    intro T44 h44 X44 e44 W44 V44
    have K44 := K38.wr W44 (Or.inl (List.mem_of_getElem? (i := 0) rfl))
    have N44 := Fr.snoc X44 N38 g_aw
    rw [own_als (own_w2 w1 j) (by omega)] at V44
    rw [own_w2s] at V44
    have f46 := (V38.other W44 (Ne.symm nws.1))
    refine gP 111 #[rv ob, rv ca, iv 0, iv (Int32.ofNat ps.length), iv ((Int32.ofNat j) + (1 : Int32)), s5, s6] [] (fun zt zk => XS.iinc X44.here hx rfl (hc d6_108) rfl (l' := _) rfl zk) ?_
    rw [own_addn (k := (1 : Int32)) (b := 1) rfl (by omega), show j + 1 = ps.length - u by omega]
    refine gG (q := 74) X44 hx (hc d6_111) (by decide) ?_
    exact iu (by omega) _ _ _ X44 e44 N44 K44 (by rw [show ps.length - u = j + 1 by omega]; exact V44) (by rw [show ps.length - u = j + 1 by omega]; exact f46)
  | succ r ih =>
   intro hr done rest hdr hdo hre TL hL LL s5 s6 XL eL NL KL hs5 VL VO
   obtain ⟨i, hi⟩ : ∃ i, i = 257 - (r + 1) := ⟨_, rfl⟩
   have hdl : done.length ≤ 4 := by have q := congrArg List.length hdr; rw [List.length_append] at q; omega
   rw [← hi] at hdo hre ⊢
   have Fw2 := Fw.keep KL (ninS nws.2.2.2.1 (ninS nws.2.2.2.2 nin0))
   have Fo2 := Fo.keep KL (ninS nws.2.2.2.1 (ninS nws.2.2.2.2 nin0))
   have Vc2 := Vc.keep KL (ninS (Ne.symm nws.2.1) (ninS (Ne.symm nws.2.2.1) nin0))
   refine gL XL hx (hc d6_5) rfl (.refl 7) ?_
   refine gH (z := 257) XL hx (hc d6_7) rfl (.refl 10) ?_
   refine gJN XL hx (hc d6_10) (tlt ((own_lt32 (n := 257) (by omega) (by omega)).mpr (by omega))).2.1 (.refl 13) ?_
   refine gAN XL hx (hc d6_13) rfl (.refl 14) ?_
   refine gL XL hx (hc d6_14) rfl (.refl 16) ?_
   refine gIA XL hx hZ eL Vc2 (.int (f i)) ⟨own_nn (by omega), (own_lt32 (n := 257) (by omega) (by omega)).mpr (by omega)⟩ (own_arg f (by omega) (by omega) _) (hc d6_16) (.refl 17) ?_
   by_cases hpi : (0 : Int32) < (f i)
   ·
    refine gIN XL hx (hc d6_17) ((if0 _ _).trans (tlt hpi).2.2.2) (.refl 20) ?_
    obtain ⟨rest2, hr1, hr2⟩ := own_hd (by rw [← hdr]; exact hasc) (by
      have q := (hmem i (by omega)).mp hpi
      rw [hdr] at q
      exact (List.mem_append.mp q).resolve_left fun z => absurd (hdo i z) (by omega)) hre
    refine gC (z := 1) XL hx (hc d6_20) rfl (.refl 21) ?_
    refine gAN XL hx (hc d6_21) rfl (.refl 22) ?_
    refine gL XL hx (hc d6_22) rfl (.refl 24) ?_
    refine gIA XL hx hZ eL Vc2 (.int (f i)) ⟨own_nn (by omega), (own_lt32 (n := 257) (by omega) (by omega)).mpr (by omega)⟩ (own_arg f (by omega) (by omega) _) (hc d6_24) (.refl 25) ?_
    refine gLN XL hx (hc d6_25) rfl (.refl 26) ?_
    refine gB (z := 31) XL hx (hc d6_26) rfl (.refl 28) ?_
    obtain ⟨vr49, _, ⟨T49, L49, k49, n49⟩, -, X49, ⟨Lc49, hQ49, l49, y49, z49⟩, st49⟩ := Jvm.LawKit.callS XL hx (y := Y7) hown (mvT hZ (ow hw 54 rfl)) (mvT hZ (ow hw 55 rfl)) (mvT hZ (ow hw 56 rfl)) (mvT hZ (ow hw 57 rfl)) (by decide) (backOf (W := 2) (rmMin l Z a0 hw hL n0 (Nat.le_trans Z0 KL.1)) hZ (ow hw 57 rfl) (ow hw 56 rfl) (by decide) (by decide)) (g := (mkF m 28 #[rv ob, rv ca, iv 0, iv (Int32.ofNat done.length), iv (Int32.ofNat i), s5, s6] [(.int 31), (.int 0), (.int (f i)), (.int 1)])) rfl (by rw [hml]; rfl) (argsL := [(.int 0), (.int 31)]) (rest := [(.int (f i)), (.int 1)]) (lenOf pd_7ffd0b0 rfl) rfl (by show 2 * 0 + _ ≤ _; exact Nat.le_of_eq rfl) (hc d6_28) (fun _ _ => ⟨rfl, eL, (by decide : 0 + 0 ≤ _), (by decide : 0 + 0 ≤ _)⟩)
    dsimp only [Pt.U, Pt.locs, Pt.cells, Pt.slots] at X49 l49 y49 z49 st49 hQ49
    subst l49 y49 z49
    obtain ⟨rfl, Nq49, eq49⟩ := hQ49
    have NN50 := Fr.app NL Nq49
    refine gT T49 31 [(.int 0), (.int (f i)), (.int 1)] (fun zt zk => st49 zt zk) ?_
    refine gS 32 [(.int ((f i) >>> ((0 : Int32) &&& 31))), (.int 1)] (fun zt zk => XS.ishr X49.here hx rfl (hc d6_31) rfl zk) ?_
    rw [own_shz]
    obtain ⟨vr51, _, ⟨T51, L51, k51, n51⟩, -, X51, ⟨Lc51, hQ51, l51, y51, z51⟩, st51⟩ := Jvm.LawKit.callS X49 hx (y := Y8) hown (mvT hZ (ow hw 58 rfl)) (mvT hZ (ow hw 59 rfl)) (mvT hZ (ow hw 56 rfl)) (mvT hZ (ow hw 60 rfl)) (by decide) (backOf (W := 0) (rmMax l Z a0 hw (f i) hL n0 (Nat.le_trans Z0 KL.1) hpi) hZ (ow hw 60 rfl) (ow hw 56 rfl) (by decide) (by decide)) (g := (mkF m 32 #[rv ob, rv ca, iv 0, iv (Int32.ofNat done.length), iv (Int32.ofNat i), s5, s6] [(.int (f i)), (.int 1)])) rfl (by rw [hml]; rfl) (argsL := [(.int 1), (.int (f i))]) (rest := []) (lenOf pd_7ffd0b0 rfl) rfl (by show 2 * 0 + _ ≤ _; exact Nat.le_of_eq rfl) (hc d6_32) (fun _ _ => ⟨rfl, eq49, (by decide : 0 + 0 ≤ _), (by decide : 0 + 0 ≤ _)⟩)
    dsimp only [Pt.U, Pt.locs, Pt.cells, Pt.slots] at X51 l51 y51 z51 st51 hQ51
    subst l51 y51 z51
    obtain ⟨rfl, Nq51, eq51⟩ := hQ51
    have NN52 := Fr.app NN50 Nq51
    refine gT T51 35 [(.int (f i))] (fun zt zk => st51 zt zk) ?_
    refine gS 36 [(.long ((f i).toInt64))] (fun zt zk => XS.i2l X51.here hx rfl (hc d6_35) rfl zk) ?_
    refine gP 38 #[rv ob, rv ca, iv 0, iv (Int32.ofNat done.length), iv (Int32.ofNat i), .val (.long ((f i).toInt64)), .second] [] (fun zt zk => XS.lstore X51.here hx rfl (hc d6_36) rfl (l' := _) (own_os5w hs5) zk) ?_
    refine gAN X51 hx (hc d6_38) rfl (.refl 39) ?_
    refine gF X51 hx hZ hown (ow hw 27 rfl) Via.refl eq51 Fw2 (hc d6_39) (.refl 42) ?_
    intro T53 X53 e53
    refine gLN X53 hx (hc d6_42) rfl (.refl 43) ?_
    refine gP 46 #[rv ob, rv ca, iv 0, iv ((Int32.ofNat done.length) + (1 : Int32)), iv (Int32.ofNat i), .val (.long ((f i).toInt64)), .second] [(.int (Int32.ofNat done.length)), (.ref aw)] (fun zt zk => XS.iinc X53.here hx rfl (hc d6_43) rfl (l' := _) rfl zk) ?_
    rw [own_addn (k := (1 : Int32)) (b := 1) rfl (by omega)]
    refine gS 48 [(.long ((f i).toInt64)), (.int (Int32.ofNat done.length)), (.ref aw)] (fun zt zk => XS.lload X53.here hx rfl (hc d6_46) rfl zk) ?_
    refine gB (z := 16) X53 hx (hc d6_48) rfl (.refl 50) ?_
    refine gS 51 [(.long (((f i).toInt64) <<< ((16 : Int32) &&& 0x3f).toInt64)), (.int (Int32.ofNat done.length)), (.ref aw)] (fun zt zk => XS.lshl X53.here hx rfl (hc d6_50) rfl zk) ?_
    refine gL X53 hx (hc d6_51) rfl (.refl 53) ?_
    refine gS 54 [(.long ((Int32.ofNat i).toInt64)), (.long (((f i).toInt64) <<< ((16 : Int32) &&& 0x3f).toInt64)), (.int (Int32.ofNat done.length)), (.ref aw)] (fun zt zk => XS.i2l X53.here hx rfl (hc d6_53) rfl zk) ?_
    refine gS 55 [(.long ((((f i).toInt64) <<< ((16 : Int32) &&& 0x3f).toInt64) ||| ((Int32.ofNat i).toInt64))), (.int (Int32.ofNat done.length)), (.ref aw)] (fun zt zk => XS.lor X53.here hx rfl (hc d6_54) rfl zk) ?_
    show Go p e below (T53.setTop (mkF m 55 #[rv ob, rv ca, iv 0, iv (Int32.ofNat (done.length + 1)), iv (Int32.ofNat i), .val (.long ((f i).toInt64)), .second] [(.long (own_key f i)), (.int (Int32.ofNat done.length)), (.ref aw)])) (EndN s (Q_rmWe Z ob aw ao ca kw ko kc f w0 q0 ps h0 n0) ({ frames := 4, cells := 0, slots := 0, locals := 86 } : Room).cells ({ frames := 4, cells := 0, slots := 0, locals := 86 } : Room).slots)
    refine gSJ X53 hx hZ e53 VL ⟨own_nn (by omega), (own_lt32 (n := 257) (by omega) (by omega)).mpr (by omega)⟩ done.length (own_clamp (by omega)) (by rw [own_all]; omega) ((own_al (own_wl f done w0) 257).set done.length (.long (own_key f i))) rfl (hc d6_55) (.refl 56) ?_
    intro T54 h54 X54 e54 W54 V54
    have K54 := KL.wr W54 (Or.inl (List.mem_of_getElem? (i := 0) rfl))
    have N54 := Fr.snoc X54 NN52 g_aw
    rw [own_als (own_wl f done w0) (by omega)] at V54
    rw [own_wls] at V54
    have f56 := (VO.other W54 (Ne.symm nws.1))
    refine gP 59 #[rv ob, rv ca, iv 0, iv (Int32.ofNat (done.length + 1)), iv ((Int32.ofNat i) + (1 : Int32)), .val (.long ((f i).toInt64)), .second] [] (fun zt zk => XS.iinc X54.here hx rfl (hc d6_56) rfl (l' := _) rfl zk) ?_
    rw [own_addn (a := i) (k := (1 : Int32)) (b := 1) rfl (by omega), show i + 1 = 257 - r by omega, show done.length + 1 = (done ++ [i]).length by rw [List.length_append]; rfl]
    refine gG (q := 5) X54 hx (hc d6_59) (by decide) ?_
    exact ih (by omega) (done ++ [i]) rest2 (by rw [hdr, hr1, List.append_assoc]; rfl) (fun x hx => by
      rcases List.mem_append.mp hx with q | q
      · have := hdo x q; omega
      · rw [List.mem_singleton.mp q]; omega) (fun x hx => by have := hr2 x hx; omega) _ _ _ _ _ X54 e54 N54 K54 (Or.inr ⟨⟨_, rfl⟩, rfl⟩) V54 f56
   ·
    refine gIY (q := 56) XL hx (hc d6_17) ((if0 _ _).trans (flt hpi).2.2.2) (by decide) ?_
    refine gP 59 #[rv ob, rv ca, iv 0, iv (Int32.ofNat done.length), iv ((Int32.ofNat i) + (1 : Int32)), s5, s6] [] (fun zt zk => XS.iinc XL.here hx rfl (hc d6_56) rfl (l' := _) rfl zk) ?_
    rw [own_addn (a := i) (k := (1 : Int32)) (b := 1) rfl (by omega), show i + 1 = 257 - r by omega]
    refine gG (q := 5) XL hx (hc d6_59) (by decide) ?_
    exact ih (by omega) done rest hdr (fun x hx => by have := hdo x hx; omega) (fun x hx => by
      have q1 := hre x hx
      have q2 : x ≠ i := fun z => hpi ((hmem i (by omega)).mpr (by rw [hdr, ← z]; exact List.mem_append_right _ hx))
      omega) _ _ _ _ _ XL eL NL KL hs5 VL VO
abbrev C14 : ByteArray := prog_43_method_10_code
theorem d14_0 : decode C14 0 = .ok (.iload_n 1, 1) := by decide +kernel
theorem d14_1 : decode C14 1 = .ok (.iconst 2, 1) := by decide +kernel
theorem d14_2 : decode C14 2 = .ok (.if_icmp .ge 14, 3) := by decide +kernel
theorem d14_16 : decode C14 16 = .ok (.iconst 0, 1) := by decide +kernel
theorem d14_17 : decode C14 17 = .ok (.istore_n 2, 1) := by decide +kernel
theorem d14_18 : decode C14 18 = .ok (.iconst 0, 1) := by decide +kernel
theorem d14_19 : decode C14 19 = .ok (.istore_n 3, 1) := by decide +kernel
theorem d14_20 : decode C14 20 = .ok (.iconst 0, 1) := by decide +kernel
theorem d14_21 : decode C14 21 = .ok (.istore 4, 2) := by decide +kernel
theorem d14_23 : decode C14 23 = .ok (.iload 4, 2) := by decide +kernel
theorem d14_25 : decode C14 25 = .ok (.iload_n 1, 1) := by decide +kernel
theorem d14_26 : decode C14 26 = .ok (.iconst 1, 1) := by decide +kernel
theorem d14_27 : decode C14 27 = .ok (.isub, 1) := by decide +kernel
theorem d14_28 : decode C14 28 = .ok (.if_icmp .ge 103, 3) := by decide +kernel
theorem d14_31 : decode C14 31 = .ok (.lconst 0, 1) := by decide +kernel
theorem d14_32 : decode C14 32 = .ok (.lstore 5, 2) := by decide +kernel
theorem d14_34 : decode C14 34 = .ok (.iconst 0, 1) := by decide +kernel
theorem d14_35 : decode C14 35 = .ok (.istore 7, 2) := by decide +kernel
theorem d14_37 : decode C14 37 = .ok (.iload 7, 2) := by decide +kernel
theorem d14_39 : decode C14 39 = .ok (.iconst 2, 1) := by decide +kernel
theorem d14_40 : decode C14 40 = .ok (.if_icmp .ge 76, 3) := by decide +kernel
theorem d14_43 : decode C14 43 = .ok (.iload_n 2, 1) := by decide +kernel
theorem d14_44 : decode C14 44 = .ok (.iload_n 1, 1) := by decide +kernel
theorem d14_45 : decode C14 45 = .ok (.if_icmp .ge 25, 3) := by decide +kernel
theorem d14_48 : decode C14 48 = .ok (.iload_n 3, 1) := by decide +kernel
theorem d14_49 : decode C14 49 = .ok (.iload 4, 2) := by decide +kernel
theorem d14_51 : decode C14 51 = .ok (.if_icmp .ge 45, 3) := by decide +kernel
theorem d14_54 : decode C14 54 = .ok (.aload_n 0, 1) := by decide +kernel
theorem d14_55 : decode C14 55 = .ok (.getfield 28, 3) := by decide +kernel
theorem d14_58 : decode C14 58 = .ok (.iload_n 3, 1) := by decide +kernel
theorem d14_59 : decode C14 59 = .ok (.laload, 1) := by decide +kernel
theorem d14_60 : decode C14 60 = .ok (.aload_n 0, 1) := by decide +kernel
theorem d14_61 : decode C14 61 = .ok (.getfield 28, 3) := by decide +kernel
theorem d14_64 : decode C14 64 = .ok (.iload_n 2, 1) := by decide +kernel
theorem d14_65 : decode C14 65 = .ok (.laload, 1) := by decide +kernel
theorem d14_66 : decode C14 66 = .ok (.lcmp, 1) := by decide +kernel
theorem d14_67 : decode C14 67 = .ok (.ifCond .ge 29, 3) := by decide +kernel
theorem d14_70 : decode C14 70 = .ok (.lload 5, 2) := by decide +kernel
theorem d14_72 : decode C14 72 = .ok (.aload_n 0, 1) := by decide +kernel
theorem d14_73 : decode C14 73 = .ok (.getfield 28, 3) := by decide +kernel
theorem d14_76 : decode C14 76 = .ok (.iload_n 3, 1) := by decide +kernel
theorem d14_77 : decode C14 77 = .ok (.laload, 1) := by decide +kernel
theorem d14_78 : decode C14 78 = .ok (.ladd, 1) := by decide +kernel
theorem d14_79 : decode C14 79 = .ok (.lstore 5, 2) := by decide +kernel
theorem d14_81 : decode C14 81 = .ok (.aload_n 0, 1) := by decide +kernel
theorem d14_82 : decode C14 82 = .ok (.getfield 28, 3) := by decide +kernel
theorem d14_85 : decode C14 85 = .ok (.iload_n 3, 1) := by decide +kernel
theorem d14_86 : decode C14 86 = .ok (.iinc 3 1, 3) := by decide +kernel
theorem d14_89 : decode C14 89 = .ok (.iload 4, 2) := by decide +kernel
theorem d14_91 : decode C14 91 = .ok (.i2l, 1) := by decide +kernel
theorem d14_92 : decode C14 92 = .ok (.lastore, 1) := by decide +kernel
theorem d14_93 : decode C14 93 = .ok (.goto 17, 3) := by decide +kernel
theorem d14_96 : decode C14 96 = .ok (.lload 5, 2) := by decide +kernel
theorem d14_98 : decode C14 98 = .ok (.aload_n 0, 1) := by decide +kernel
theorem d14_99 : decode C14 99 = .ok (.getfield 28, 3) := by decide +kernel
theorem d14_102 : decode C14 102 = .ok (.iload_n 2, 1) := by decide +kernel
theorem d14_103 : decode C14 103 = .ok (.iinc 2 1, 3) := by decide +kernel
theorem d14_106 : decode C14 106 = .ok (.laload, 1) := by decide +kernel
theorem d14_107 : decode C14 107 = .ok (.ladd, 1) := by decide +kernel
theorem d14_108 : decode C14 108 = .ok (.lstore 5, 2) := by decide +kernel
theorem d14_110 : decode C14 110 = .ok (.iinc 7 1, 3) := by decide +kernel
theorem d14_113 : decode C14 113 = .ok (.goto (-76), 3) := by decide +kernel
theorem d14_116 : decode C14 116 = .ok (.aload_n 0, 1) := by decide +kernel
theorem d14_117 : decode C14 117 = .ok (.getfield 28, 3) := by decide +kernel
theorem d14_120 : decode C14 120 = .ok (.iload 4, 2) := by decide +kernel
theorem d14_122 : decode C14 122 = .ok (.lload 5, 2) := by decide +kernel
theorem d14_124 : decode C14 124 = .ok (.lastore, 1) := by decide +kernel
theorem d14_125 : decode C14 125 = .ok (.iinc 4 1, 3) := by decide +kernel
theorem d14_128 : decode C14 128 = .ok (.goto (-105), 3) := by decide +kernel
theorem d14_131 : decode C14 131 = .ok (.aload_n 0, 1) := by decide +kernel
theorem d14_132 : decode C14 132 = .ok (.getfield 28, 3) := by decide +kernel
theorem d14_135 : decode C14 135 = .ok (.iload_n 1, 1) := by decide +kernel
theorem d14_136 : decode C14 136 = .ok (.iconst 2, 1) := by decide +kernel
theorem d14_137 : decode C14 137 = .ok (.isub, 1) := by decide +kernel
theorem d14_138 : decode C14 138 = .ok (.lconst 0, 1) := by decide +kernel
theorem d14_139 : decode C14 139 = .ok (.lastore, 1) := by decide +kernel
theorem d14_140 : decode C14 140 = .ok (.iload_n 1, 1) := by decide +kernel
theorem d14_141 : decode C14 141 = .ok (.iconst 3, 1) := by decide +kernel
theorem d14_142 : decode C14 142 = .ok (.isub, 1) := by decide +kernel
theorem d14_143 : decode C14 143 = .ok (.istore 4, 2) := by decide +kernel
theorem d14_145 : decode C14 145 = .ok (.iload 4, 2) := by decide +kernel
theorem d14_147 : decode C14 147 = .ok (.ifCond .lt 31, 3) := by decide +kernel
theorem d14_150 : decode C14 150 = .ok (.aload_n 0, 1) := by decide +kernel
theorem d14_151 : decode C14 151 = .ok (.getfield 28, 3) := by decide +kernel
theorem d14_154 : decode C14 154 = .ok (.iload 4, 2) := by decide +kernel
theorem d14_156 : decode C14 156 = .ok (.aload_n 0, 1) := by decide +kernel
theorem d14_157 : decode C14 157 = .ok (.getfield 28, 3) := by decide +kernel
theorem d14_160 : decode C14 160 = .ok (.aload_n 0, 1) := by decide +kernel
theorem d14_161 : decode C14 161 = .ok (.getfield 28, 3) := by decide +kernel
theorem d14_164 : decode C14 164 = .ok (.iload 4, 2) := by decide +kernel
theorem d14_166 : decode C14 166 = .ok (.laload, 1) := by decide +kernel
theorem d14_167 : decode C14 167 = .ok (.l2i, 1) := by decide +kernel
theorem d14_168 : decode C14 168 = .ok (.laload, 1) := by decide +kernel
theorem d14_169 : decode C14 169 = .ok (.lconst 1, 1) := by decide +kernel
theorem d14_170 : decode C14 170 = .ok (.ladd, 1) := by decide +kernel
theorem d14_171 : decode C14 171 = .ok (.lastore, 1) := by decide +kernel
theorem d14_172 : decode C14 172 = .ok (.iinc 4 (-1), 3) := by decide +kernel
theorem d14_175 : decode C14 175 = .ok (.goto (-30), 3) := by decide +kernel
theorem d14_178 : decode C14 178 = .ok (.iconst 1, 1) := by decide +kernel
theorem d14_179 : decode C14 179 = .ok (.istore 4, 2) := by decide +kernel
theorem d14_181 : decode C14 181 = .ok (.iload_n 1, 1) := by decide +kernel
theorem d14_182 : decode C14 182 = .ok (.iconst 2, 1) := by decide +kernel
theorem d14_183 : decode C14 183 = .ok (.isub, 1) := by decide +kernel
theorem d14_184 : decode C14 184 = .ok (.istore 5, 2) := by decide +kernel
theorem d14_186 : decode C14 186 = .ok (.iload_n 1, 1) := by decide +kernel
theorem d14_187 : decode C14 187 = .ok (.iconst 1, 1) := by decide +kernel
theorem d14_188 : decode C14 188 = .ok (.isub, 1) := by decide +kernel
theorem d14_189 : decode C14 189 = .ok (.istore 6, 2) := by decide +kernel
theorem d14_191 : decode C14 191 = .ok (.iconst 0, 1) := by decide +kernel
theorem d14_192 : decode C14 192 = .ok (.istore 7, 2) := by decide +kernel
theorem d14_194 : decode C14 194 = .ok (.iload 4, 2) := by decide +kernel
theorem d14_196 : decode C14 196 = .ok (.ifCond .le 72, 3) := by decide +kernel
theorem d14_199 : decode C14 199 = .ok (.iconst 0, 1) := by decide +kernel
theorem d14_200 : decode C14 200 = .ok (.istore 8, 2) := by decide +kernel
theorem d14_202 : decode C14 202 = .ok (.iload 5, 2) := by decide +kernel
theorem d14_204 : decode C14 204 = .ok (.ifCond .lt 26, 3) := by decide +kernel
theorem d14_207 : decode C14 207 = .ok (.aload_n 0, 1) := by decide +kernel
theorem d14_208 : decode C14 208 = .ok (.getfield 28, 3) := by decide +kernel
theorem d14_211 : decode C14 211 = .ok (.iload 5, 2) := by decide +kernel
theorem d14_213 : decode C14 213 = .ok (.laload, 1) := by decide +kernel
theorem d14_214 : decode C14 214 = .ok (.iload 7, 2) := by decide +kernel
theorem d14_216 : decode C14 216 = .ok (.i2l, 1) := by decide +kernel
theorem d14_217 : decode C14 217 = .ok (.lcmp, 1) := by decide +kernel
theorem d14_218 : decode C14 218 = .ok (.ifCond .ne 12, 3) := by decide +kernel
theorem d14_221 : decode C14 221 = .ok (.iinc 8 1, 3) := by decide +kernel
theorem d14_224 : decode C14 224 = .ok (.iinc 5 (-1), 3) := by decide +kernel
theorem d14_227 : decode C14 227 = .ok (.goto (-25), 3) := by decide +kernel
theorem d14_230 : decode C14 230 = .ok (.iload 4, 2) := by decide +kernel
theorem d14_232 : decode C14 232 = .ok (.iload 8, 2) := by decide +kernel
theorem d14_234 : decode C14 234 = .ok (.if_icmp .le 22, 3) := by decide +kernel
theorem d14_237 : decode C14 237 = .ok (.aload_n 0, 1) := by decide +kernel
theorem d14_238 : decode C14 238 = .ok (.getfield 28, 3) := by decide +kernel
theorem d14_241 : decode C14 241 = .ok (.iload 6, 2) := by decide +kernel
theorem d14_243 : decode C14 243 = .ok (.iinc 6 (-1), 3) := by decide +kernel
theorem d14_246 : decode C14 246 = .ok (.iload 7, 2) := by decide +kernel
theorem d14_248 : decode C14 248 = .ok (.i2l, 1) := by decide +kernel
theorem d14_249 : decode C14 249 = .ok (.lastore, 1) := by decide +kernel
theorem d14_250 : decode C14 250 = .ok (.iinc 4 (-1), 3) := by decide +kernel
theorem d14_253 : decode C14 253 = .ok (.goto (-23), 3) := by decide +kernel
theorem d14_256 : decode C14 256 = .ok (.iconst 2, 1) := by decide +kernel
theorem d14_257 : decode C14 257 = .ok (.iload 8, 2) := by decide +kernel
theorem d14_259 : decode C14 259 = .ok (.imul, 1) := by decide +kernel
theorem d14_260 : decode C14 260 = .ok (.istore 4, 2) := by decide +kernel
theorem d14_262 : decode C14 262 = .ok (.iinc 7 1, 3) := by decide +kernel
theorem d14_265 : decode C14 265 = .ok (.goto (-71), 3) := by decide +kernel
theorem d14_268 : decode C14 268 = .ok (.return_, 1) := by decide +kernel
theorem ef_14 (m : MethodId) (x0 : Addr) (x1 : Int32) : entryFrame m #[(.ref x0), (.int x1)] 9 = mkF m 0 #[.val (.ref x0), .val (.int x1), .unset, .unset, .unset, .unset, .unset, .unset, .unset] [] := by first | (simp [entryFrame, mkF, argsToLocals, Value.category]; done) | rfl
def Q_rmCL4 (Z : State) (ob aw : Addr) (kw : ClassId) (h0 : Heap) (n0 : Nat) (v : Option Value) (h : Heap) (L : List Loc) : Prop := v = none ∧ Fr n0 L ∧ Keep h0 h [aw] ∧ Arv Z h aw kw .long (257 : Int32) [(.long 3), (.long 3), (.long 2), (.long 1)] (.long 0)
set_option maxRecDepth 65536 in
set_option maxHeartbeats 40000000 in
theorem rmCL4 (l : Launch) (Z : State) (a0 : Array Value) (hw : ∀ d ∈ tables_1, d.before a0 Z = true) (ob aw : Addr) (kw : ClassId) (h0 : Heap) (n0 : Nat) (Z0 : n0 ≤ h0.size) (Fw : Fld Z h0 ob "com/example/tributary/tributary/join/LineCodes" "weights" "[J" (.ref aw)) (Vw : Arv Z h0 aw kw .long (257 : Int32) [(.long 1), (.long 1), (.long 2), (.long 4)] (.long 0)) (g_aw : n0 ≤ aw) (noa : ob ≠ aw) :
    MetFree l Y10 (head1 [Jvm.Cond.code Y10 prog_43_method_10_code 9 none] ({ frames := 0, cells := 0, slots := 0, locals := 0 } : Room)) (fun a U => a = #[(.ref ob), (.int 4)] ∧ Z.Warmed39 U.vm ∧ U.heap = h0) (fun _ _ _ _ _ => True) (fun _ U o U' => ∃ v L, o = .returned v ∧ (Q_rmCL4 Z ob aw kw h0 n0) v U'.heap L ∧ FrameEnd U o U' L ({ frames := 0, cells := 0, slots := 0, locals := 0 } : Room).cells ({ frames := 0, cells := 0, slots := 0, locals := 0 } : Room).slots) := by
  refine MetFree.of_bodySF (plainFor_of_name pn_81ef1d3) hisR ?_
  intro p e s m args below meth c s₁ Bd hml0 hP hK
  obtain ⟨rfl, hZ, hh⟩ := hP
  have hx := Bd.exec
  have hc : ∀ {pc : Nat} {r}, decode C14 pc = r → decode c.code pc = r := fun h2 => hb Bd.bytes h2
  have hml : c.maxLocals = 9 := hml0
  have hown : s.vm.findClass "com/example/tributary/tributary/join/LineCodes" = some m.cls := findClass_of_methodNamed Bd.named
  have hnm := (name_of_methodNamed Bd.named Bd.method).1
  have X0 : Stand p l e ({ frames := 0, cells := 0, slots := 0, locals := 0 } : Room) s m #[(.ref ob), (.int 4)] below meth c s₁ [] 0 0 := Stand.of_body Bd
  have e0 : s₁.heap = h0 := by rw [← hh, Bd.state]; rfl
  have N0 := Fr.nil n0
  have K0 : Keep h0 h0 [aw] := Keep.refl h0 [aw]
  show Go p e below (s₁.setTop (entryFrame m #[(.ref ob), (.int 4)] 9)) (EndN s (Q_rmCL4 Z ob aw kw h0 n0) ({ frames := 0, cells := 0, slots := 0, locals := 0 } : Room).cells ({ frames := 0, cells := 0, slots := 0, locals := 0 } : Room).slots)
  refine Go.top (ef_14 m ob (4 : Int32)) ?_
  refine gLN X0 hx (hc d14_0) rfl (.refl 1) ?_
  refine gC (z := 2) X0 hx (hc d14_1) rfl (.refl 2) ?_
  refine gJY (q := 16) X0 hx (hc d14_2) (flt (by decide)).2.1 (by decide) ?_
  refine gC (z := 0) X0 hx (hc d14_16) rfl (.refl 17) ?_
  refine gP 18 #[rv ob, iv 4, iv 0, .unset, .unset, .unset, .unset, .unset, .unset] [] (fun zt zk => XS.istoreN X0.here hx rfl (hc d14_17) rfl (l' := _) rfl zk) ?_
  refine gC (z := 0) X0 hx (hc d14_18) rfl (.refl 19) ?_
  refine gP 20 #[rv ob, iv 4, iv 0, iv 0, .unset, .unset, .unset, .unset, .unset] [] (fun zt zk => XS.istoreN X0.here hx rfl (hc d14_19) rfl (l' := _) rfl zk) ?_
  refine gC (z := 0) X0 hx (hc d14_20) rfl (.refl 21) ?_
  refine gP 23 #[rv ob, iv 4, iv 0, iv 0, iv 0, .unset, .unset, .unset, .unset] [] (fun zt zk => XS.istore X0.here hx rfl (hc d14_21) rfl (l' := _) rfl zk) ?_
  refine gL X0 hx (hc d14_23) rfl (.refl 25) ?_
  refine gLN X0 hx (hc d14_25) rfl (.refl 26) ?_
  refine gC (z := 1) X0 hx (hc d14_26) rfl (.refl 27) ?_
  refine gisub X0 hx (hc d14_27) (.refl 28) ?_
  rw [show ((4 : Int32) - (1 : Int32)) = (3 : Int32) by decide]
  refine gJN X0 hx (hc d14_28) (tlt (by decide)).2.1 (.refl 31) ?_
  refine gS 32 [(.long 0)] (fun zt zk => XS.lconst X0.here hx rfl (hc d14_31) zk) ?_
  refine gP 34 #[rv ob, iv 4, iv 0, iv 0, iv 0, .val (.long 0), .second, .unset, .unset] [] (fun zt zk => XS.lstore X0.here hx rfl (hc d14_32) rfl (l' := _) rfl zk) ?_
  refine gC (z := 0) X0 hx (hc d14_34) rfl (.refl 35) ?_
  refine gP 37 #[rv ob, iv 4, iv 0, iv 0, iv 0, .val (.long 0), .second, iv 0, .unset] [] (fun zt zk => XS.istore X0.here hx rfl (hc d14_35) rfl (l' := _) rfl zk) ?_
  refine gL X0 hx (hc d14_37) rfl (.refl 39) ?_
  refine gC (z := 2) X0 hx (hc d14_39) rfl (.refl 40) ?_
  refine gJN X0 hx (hc d14_40) (tlt (by decide)).2.1 (.refl 43) ?_
  refine gLN X0 hx (hc d14_43) rfl (.refl 44) ?_
  refine gLN X0 hx (hc d14_44) rfl (.refl 45) ?_
  refine gJN X0 hx (hc d14_45) (tlt (by decide)).2.1 (.refl 48) ?_
  refine gLN X0 hx (hc d14_48) rfl (.refl 49) ?_
  refine gL X0 hx (hc d14_49) rfl (.refl 51) ?_
  refine gJY (q := 96) X0 hx (hc d14_51) (flt (by decide)).2.1 (by decide) ?_
  refine gS 98 [(.long 0)] (fun zt zk => XS.lload X0.here hx rfl (hc d14_96) rfl zk) ?_
  refine gAN X0 hx (hc d14_98) rfl (.refl 99) ?_
  refine gF X0 hx hZ hown (ow hw 27 rfl) Via.refl e0 Fw (hc d14_99) (.refl 102) ?_
  intro T57 X57 e57
  refine gLN X57 hx (hc d14_102) rfl (.refl 103) ?_
  refine gP 106 #[rv ob, iv 4, iv ((0 : Int32) + (1 : Int32)), iv 0, iv 0, .val (.long 0), .second, iv 0, .unset] [(.int 0), (.ref aw), (.long 0)] (fun zt zk => XS.iinc X57.here hx rfl (hc d14_103) rfl (l' := _) rfl zk) ?_
  rw [show ((0 : Int32) + (1 : Int32)) = (1 : Int32) by decide]
  refine gJA X57 hx hZ e57 Vw (.long 1) ⟨by decide, by decide⟩ rfl (hc d14_106) (.refl 107) ?_
  refine gS 108 [(.long ((0 : Int64) + (1 : Int64)))] (fun zt zk => XS.ladd X57.here hx rfl (hc d14_107) rfl zk) ?_
  rw [show ((0 : Int64) + (1 : Int64)) = (1 : Int64) by decide]
  refine gP 110 #[rv ob, iv 4, iv 1, iv 0, iv 0, .val (.long 1), .second, iv 0, .unset] [] (fun zt zk => XS.lstore X57.here hx rfl (hc d14_108) rfl (l' := _) rfl zk) ?_
  refine gP 113 #[rv ob, iv 4, iv 1, iv 0, iv 0, .val (.long 1), .second, iv ((0 : Int32) + (1 : Int32)), .unset] [] (fun zt zk => XS.iinc X57.here hx rfl (hc d14_110) rfl (l' := _) rfl zk) ?_
  rw [show ((0 : Int32) + (1 : Int32)) = (1 : Int32) by decide]
  refine gG (q := 37) X57 hx (hc d14_113) (by decide) ?_
  refine gL X57 hx (hc d14_37) rfl (.refl 39) ?_
  refine gC (z := 2) X57 hx (hc d14_39) rfl (.refl 40) ?_
  refine gJN X57 hx (hc d14_40) (tlt (by decide)).2.1 (.refl 43) ?_
  refine gLN X57 hx (hc d14_43) rfl (.refl 44) ?_
  refine gLN X57 hx (hc d14_44) rfl (.refl 45) ?_
  refine gJN X57 hx (hc d14_45) (tlt (by decide)).2.1 (.refl 48) ?_
  refine gLN X57 hx (hc d14_48) rfl (.refl 49) ?_
  refine gL X57 hx (hc d14_49) rfl (.refl 51) ?_
  refine gJY (q := 96) X57 hx (hc d14_51) (flt (by decide)).2.1 (by decide) ?_
  refine gS 98 [(.long 1)] (fun zt zk => XS.lload X57.here hx rfl (hc d14_96) rfl zk) ?_
  refine gAN X57 hx (hc d14_98) rfl (.refl 99) ?_
  refine gF X57 hx hZ hown (ow hw 27 rfl) Via.refl e57 Fw (hc d14_99) (.refl 102) ?_
  intro T59 X59 e59
  refine gLN X59 hx (hc d14_102) rfl (.refl 103) ?_
  refine gP 106 #[rv ob, iv 4, iv ((1 : Int32) + (1 : Int32)), iv 0, iv 0, .val (.long 1), .second, iv 1, .unset] [(.int 1), (.ref aw), (.long 1)] (fun zt zk => XS.iinc X59.here hx rfl (hc d14_103) rfl (l' := _) rfl zk) ?_
  rw [show ((1 : Int32) + (1 : Int32)) = (2 : Int32) by decide]
  refine gJA X59 hx hZ e59 Vw (.long 1) ⟨by decide, by decide⟩ rfl (hc d14_106) (.refl 107) ?_
  refine gS 108 [(.long ((1 : Int64) + (1 : Int64)))] (fun zt zk => XS.ladd X59.here hx rfl (hc d14_107) rfl zk) ?_
  rw [show ((1 : Int64) + (1 : Int64)) = (2 : Int64) by decide]
  refine gP 110 #[rv ob, iv 4, iv 2, iv 0, iv 0, .val (.long 2), .second, iv 1, .unset] [] (fun zt zk => XS.lstore X59.here hx rfl (hc d14_108) rfl (l' := _) rfl zk) ?_
  refine gP 113 #[rv ob, iv 4, iv 2, iv 0, iv 0, .val (.long 2), .second, iv ((1 : Int32) + (1 : Int32)), .unset] [] (fun zt zk => XS.iinc X59.here hx rfl (hc d14_110) rfl (l' := _) rfl zk) ?_
  rw [show ((1 : Int32) + (1 : Int32)) = (2 : Int32) by decide]
  refine gG (q := 37) X59 hx (hc d14_113) (by decide) ?_
  refine gL X59 hx (hc d14_37) rfl (.refl 39) ?_
  refine gC (z := 2) X59 hx (hc d14_39) rfl (.refl 40) ?_
  refine gJY (q := 116) X59 hx (hc d14_40) (flt (by decide)).2.1 (by decide) ?_
  refine gAN X59 hx (hc d14_116) rfl (.refl 117) ?_
  refine gF X59 hx hZ hown (ow hw 27 rfl) Via.refl e59 Fw (hc d14_117) (.refl 120) ?_
  intro T61 X61 e61
  refine gL X61 hx (hc d14_120) rfl (.refl 122) ?_
  refine gS 124 [(.long 2), (.int 0), (.ref aw)] (fun zt zk => XS.lload X61.here hx rfl (hc d14_122) rfl zk) ?_
  refine gSJ X61 hx hZ e61 Vw ⟨by decide, by decide⟩ 0 rfl (Nat.le_of_ble_eq_true rfl) [(.long 2), (.long 1), (.long 2), (.long 4)] rfl (hc d14_124) (.refl 125) ?_
  intro T62 h62 X62 e62 W62 V62
  have K62 := K0.wr W62 (Or.inl (List.mem_of_getElem? (i := 0) rfl))
  have N62 := Fr.snoc X62 N0 g_aw
  refine gP 128 #[rv ob, iv 4, iv 2, iv 0, iv ((0 : Int32) + (1 : Int32)), .val (.long 2), .second, iv 2, .unset] [] (fun zt zk => XS.iinc X62.here hx rfl (hc d14_125) rfl (l' := _) rfl zk) ?_
  rw [show ((0 : Int32) + (1 : Int32)) = (1 : Int32) by decide]
  refine gG (q := 23) X62 hx (hc d14_128) (by decide) ?_
  refine gL X62 hx (hc d14_23) rfl (.refl 25) ?_
  refine gLN X62 hx (hc d14_25) rfl (.refl 26) ?_
  refine gC (z := 1) X62 hx (hc d14_26) rfl (.refl 27) ?_
  refine gisub X62 hx (hc d14_27) (.refl 28) ?_
  rw [show ((4 : Int32) - (1 : Int32)) = (3 : Int32) by decide]
  refine gJN X62 hx (hc d14_28) (tlt (by decide)).2.1 (.refl 31) ?_
  refine gS 32 [(.long 0)] (fun zt zk => XS.lconst X62.here hx rfl (hc d14_31) zk) ?_
  refine gP 34 #[rv ob, iv 4, iv 2, iv 0, iv 1, .val (.long 0), .second, iv 2, .unset] [] (fun zt zk => XS.lstore X62.here hx rfl (hc d14_32) rfl (l' := _) rfl zk) ?_
  refine gC (z := 0) X62 hx (hc d14_34) rfl (.refl 35) ?_
  refine gP 37 #[rv ob, iv 4, iv 2, iv 0, iv 1, .val (.long 0), .second, iv 0, .unset] [] (fun zt zk => XS.istore X62.here hx rfl (hc d14_35) rfl (l' := _) rfl zk) ?_
  refine gL X62 hx (hc d14_37) rfl (.refl 39) ?_
  refine gC (z := 2) X62 hx (hc d14_39) rfl (.refl 40) ?_
  refine gJN X62 hx (hc d14_40) (tlt (by decide)).2.1 (.refl 43) ?_
  refine gLN X62 hx (hc d14_43) rfl (.refl 44) ?_
  refine gLN X62 hx (hc d14_44) rfl (.refl 45) ?_
  refine gJN X62 hx (hc d14_45) (tlt (by decide)).2.1 (.refl 48) ?_
  refine gLN X62 hx (hc d14_48) rfl (.refl 49) ?_
  refine gL X62 hx (hc d14_49) rfl (.refl 51) ?_
  refine gJN X62 hx (hc d14_51) (tlt (by decide)).2.1 (.refl 54) ?_
  refine gAN X62 hx (hc d14_54) rfl (.refl 55) ?_
  have f63 := (Fw.other W62 (Or.inl noa))
  refine gF X62 hx hZ hown (ow hw 27 rfl) Via.refl e62 f63 (hc d14_55) (.refl 58) ?_
  intro T64 X64 e64
  refine gLN X64 hx (hc d14_58) rfl (.refl 59) ?_
  refine gJA X64 hx hZ e64 V62 (.long 2) ⟨by decide, by decide⟩ rfl (hc d14_59) (.refl 60) ?_
  refine gAN X64 hx (hc d14_60) rfl (.refl 61) ?_
  refine gF X64 hx hZ hown (ow hw 27 rfl) Via.refl e64 f63 (hc d14_61) (.refl 64) ?_
  intro T66 X66 e66
  refine gLN X66 hx (hc d14_64) rfl (.refl 65) ?_
  refine gJA X66 hx hZ e66 V62 (.long 2) ⟨by decide, by decide⟩ rfl (hc d14_65) (.refl 66) ?_
  refine gS 67 [(.int (lcmpW (2 : Int64) (2 : Int64)))] (fun zt zk => XS.lcmp X66.here hx rfl (hc d14_66) rfl zk) ?_
  rw [show (lcmpW (2 : Int64) (2 : Int64)) = (0 : Int32) by decide]
  refine gIY (q := 96) X66 hx (hc d14_67) ((if0 _ _).trans (flt (by decide)).2.1) (by decide) ?_
  refine gS 98 [(.long 0)] (fun zt zk => XS.lload X66.here hx rfl (hc d14_96) rfl zk) ?_
  refine gAN X66 hx (hc d14_98) rfl (.refl 99) ?_
  refine gF X66 hx hZ hown (ow hw 27 rfl) Via.refl e66 f63 (hc d14_99) (.refl 102) ?_
  intro T68 X68 e68
  refine gLN X68 hx (hc d14_102) rfl (.refl 103) ?_
  refine gP 106 #[rv ob, iv 4, iv ((2 : Int32) + (1 : Int32)), iv 0, iv 1, .val (.long 0), .second, iv 0, .unset] [(.int 2), (.ref aw), (.long 0)] (fun zt zk => XS.iinc X68.here hx rfl (hc d14_103) rfl (l' := _) rfl zk) ?_
  rw [show ((2 : Int32) + (1 : Int32)) = (3 : Int32) by decide]
  refine gJA X68 hx hZ e68 V62 (.long 2) ⟨by decide, by decide⟩ rfl (hc d14_106) (.refl 107) ?_
  refine gS 108 [(.long ((0 : Int64) + (2 : Int64)))] (fun zt zk => XS.ladd X68.here hx rfl (hc d14_107) rfl zk) ?_
  rw [show ((0 : Int64) + (2 : Int64)) = (2 : Int64) by decide]
  refine gP 110 #[rv ob, iv 4, iv 3, iv 0, iv 1, .val (.long 2), .second, iv 0, .unset] [] (fun zt zk => XS.lstore X68.here hx rfl (hc d14_108) rfl (l' := _) rfl zk) ?_
  refine gP 113 #[rv ob, iv 4, iv 3, iv 0, iv 1, .val (.long 2), .second, iv ((0 : Int32) + (1 : Int32)), .unset] [] (fun zt zk => XS.iinc X68.here hx rfl (hc d14_110) rfl (l' := _) rfl zk) ?_
  rw [show ((0 : Int32) + (1 : Int32)) = (1 : Int32) by decide]
  refine gG (q := 37) X68 hx (hc d14_113) (by decide) ?_
  refine gL X68 hx (hc d14_37) rfl (.refl 39) ?_
  refine gC (z := 2) X68 hx (hc d14_39) rfl (.refl 40) ?_
  refine gJN X68 hx (hc d14_40) (tlt (by decide)).2.1 (.refl 43) ?_
  refine gLN X68 hx (hc d14_43) rfl (.refl 44) ?_
  refine gLN X68 hx (hc d14_44) rfl (.refl 45) ?_
  refine gJN X68 hx (hc d14_45) (tlt (by decide)).2.1 (.refl 48) ?_
  refine gLN X68 hx (hc d14_48) rfl (.refl 49) ?_
  refine gL X68 hx (hc d14_49) rfl (.refl 51) ?_
  refine gJN X68 hx (hc d14_51) (tlt (by decide)).2.1 (.refl 54) ?_
  refine gAN X68 hx (hc d14_54) rfl (.refl 55) ?_
  refine gF X68 hx hZ hown (ow hw 27 rfl) Via.refl e68 f63 (hc d14_55) (.refl 58) ?_
  intro T70 X70 e70
  refine gLN X70 hx (hc d14_58) rfl (.refl 59) ?_
  refine gJA X70 hx hZ e70 V62 (.long 2) ⟨by decide, by decide⟩ rfl (hc d14_59) (.refl 60) ?_
  refine gAN X70 hx (hc d14_60) rfl (.refl 61) ?_
  refine gF X70 hx hZ hown (ow hw 27 rfl) Via.refl e70 f63 (hc d14_61) (.refl 64) ?_
  intro T72 X72 e72
  refine gLN X72 hx (hc d14_64) rfl (.refl 65) ?_
  refine gJA X72 hx hZ e72 V62 (.long 4) ⟨by decide, by decide⟩ rfl (hc d14_65) (.refl 66) ?_
  refine gS 67 [(.int (lcmpW (2 : Int64) (4 : Int64)))] (fun zt zk => XS.lcmp X72.here hx rfl (hc d14_66) rfl zk) ?_
  rw [show (lcmpW (2 : Int64) (4 : Int64)) = (-1 : Int32) by decide]
  refine gIN X72 hx (hc d14_67) ((if0 _ _).trans (tlt (by decide)).2.1) (.refl 70) ?_
  refine gS 72 [(.long 2)] (fun zt zk => XS.lload X72.here hx rfl (hc d14_70) rfl zk) ?_
  refine gAN X72 hx (hc d14_72) rfl (.refl 73) ?_
  refine gF X72 hx hZ hown (ow hw 27 rfl) Via.refl e72 f63 (hc d14_73) (.refl 76) ?_
  intro T74 X74 e74
  refine gLN X74 hx (hc d14_76) rfl (.refl 77) ?_
  refine gJA X74 hx hZ e74 V62 (.long 2) ⟨by decide, by decide⟩ rfl (hc d14_77) (.refl 78) ?_
  refine gS 79 [(.long ((2 : Int64) + (2 : Int64)))] (fun zt zk => XS.ladd X74.here hx rfl (hc d14_78) rfl zk) ?_
  rw [show ((2 : Int64) + (2 : Int64)) = (4 : Int64) by decide]
  refine gP 81 #[rv ob, iv 4, iv 3, iv 0, iv 1, .val (.long 4), .second, iv 1, .unset] [] (fun zt zk => XS.lstore X74.here hx rfl (hc d14_79) rfl (l' := _) rfl zk) ?_
  refine gAN X74 hx (hc d14_81) rfl (.refl 82) ?_
  refine gF X74 hx hZ hown (ow hw 27 rfl) Via.refl e74 f63 (hc d14_82) (.refl 85) ?_
  intro T76 X76 e76
  refine gLN X76 hx (hc d14_85) rfl (.refl 86) ?_
  refine gP 89 #[rv ob, iv 4, iv 3, iv ((0 : Int32) + (1 : Int32)), iv 1, .val (.long 4), .second, iv 1, .unset] [(.int 0), (.ref aw)] (fun zt zk => XS.iinc X76.here hx rfl (hc d14_86) rfl (l' := _) rfl zk) ?_
  rw [show ((0 : Int32) + (1 : Int32)) = (1 : Int32) by decide]
  refine gL X76 hx (hc d14_89) rfl (.refl 91) ?_
  refine gS 92 [(.long ((1 : Int32).toInt64)), (.int 0), (.ref aw)] (fun zt zk => XS.i2l X76.here hx rfl (hc d14_91) rfl zk) ?_
  rw [show ((1 : Int32).toInt64) = (1 : Int64) by decide]
  refine gSJ X76 hx hZ e76 V62 ⟨by decide, by decide⟩ 0 rfl (Nat.le_of_ble_eq_true rfl) [(.long 1), (.long 1), (.long 2), (.long 4)] rfl (hc d14_92) (.refl 93) ?_
  intro T77 h77 X77 e77 W77 V77
  have K77 := K62.wr W77 (Or.inl (List.mem_of_getElem? (i := 0) rfl))
  have N77 := Fr.snoc X77 N62 g_aw
  refine gG (q := 110) X77 hx (hc d14_93) (by decide) ?_
  refine gP 113 #[rv ob, iv 4, iv 3, iv 1, iv 1, .val (.long 4), .second, iv ((1 : Int32) + (1 : Int32)), .unset] [] (fun zt zk => XS.iinc X77.here hx rfl (hc d14_110) rfl (l' := _) rfl zk) ?_
  rw [show ((1 : Int32) + (1 : Int32)) = (2 : Int32) by decide]
  refine gG (q := 37) X77 hx (hc d14_113) (by decide) ?_
  refine gL X77 hx (hc d14_37) rfl (.refl 39) ?_
  refine gC (z := 2) X77 hx (hc d14_39) rfl (.refl 40) ?_
  refine gJY (q := 116) X77 hx (hc d14_40) (flt (by decide)).2.1 (by decide) ?_
  refine gAN X77 hx (hc d14_116) rfl (.refl 117) ?_
  have f78 := (f63.other W77 (Or.inl noa))
  refine gF X77 hx hZ hown (ow hw 27 rfl) Via.refl e77 f78 (hc d14_117) (.refl 120) ?_
  intro T79 X79 e79
  refine gL X79 hx (hc d14_120) rfl (.refl 122) ?_
  refine gS 124 [(.long 4), (.int 1), (.ref aw)] (fun zt zk => XS.lload X79.here hx rfl (hc d14_122) rfl zk) ?_
  refine gSJ X79 hx hZ e79 V77 ⟨by decide, by decide⟩ 1 rfl (Nat.le_of_ble_eq_true rfl) [(.long 1), (.long 4), (.long 2), (.long 4)] rfl (hc d14_124) (.refl 125) ?_
  intro T80 h80 X80 e80 W80 V80
  have K80 := K77.wr W80 (Or.inl (List.mem_of_getElem? (i := 0) rfl))
  have N80 := Fr.snoc X80 N77 g_aw
  refine gP 128 #[rv ob, iv 4, iv 3, iv 1, iv ((1 : Int32) + (1 : Int32)), .val (.long 4), .second, iv 2, .unset] [] (fun zt zk => XS.iinc X80.here hx rfl (hc d14_125) rfl (l' := _) rfl zk) ?_
  rw [show ((1 : Int32) + (1 : Int32)) = (2 : Int32) by decide]
  refine gG (q := 23) X80 hx (hc d14_128) (by decide) ?_
  refine gL X80 hx (hc d14_23) rfl (.refl 25) ?_
  refine gLN X80 hx (hc d14_25) rfl (.refl 26) ?_
  refine gC (z := 1) X80 hx (hc d14_26) rfl (.refl 27) ?_
  refine gisub X80 hx (hc d14_27) (.refl 28) ?_
  rw [show ((4 : Int32) - (1 : Int32)) = (3 : Int32) by decide]
  refine gJN X80 hx (hc d14_28) (tlt (by decide)).2.1 (.refl 31) ?_
  refine gS 32 [(.long 0)] (fun zt zk => XS.lconst X80.here hx rfl (hc d14_31) zk) ?_
  refine gP 34 #[rv ob, iv 4, iv 3, iv 1, iv 2, .val (.long 0), .second, iv 2, .unset] [] (fun zt zk => XS.lstore X80.here hx rfl (hc d14_32) rfl (l' := _) rfl zk) ?_
  refine gC (z := 0) X80 hx (hc d14_34) rfl (.refl 35) ?_
  refine gP 37 #[rv ob, iv 4, iv 3, iv 1, iv 2, .val (.long 0), .second, iv 0, .unset] [] (fun zt zk => XS.istore X80.here hx rfl (hc d14_35) rfl (l' := _) rfl zk) ?_
  refine gL X80 hx (hc d14_37) rfl (.refl 39) ?_
  refine gC (z := 2) X80 hx (hc d14_39) rfl (.refl 40) ?_
  refine gJN X80 hx (hc d14_40) (tlt (by decide)).2.1 (.refl 43) ?_
  refine gLN X80 hx (hc d14_43) rfl (.refl 44) ?_
  refine gLN X80 hx (hc d14_44) rfl (.refl 45) ?_
  refine gJN X80 hx (hc d14_45) (tlt (by decide)).2.1 (.refl 48) ?_
  refine gLN X80 hx (hc d14_48) rfl (.refl 49) ?_
  refine gL X80 hx (hc d14_49) rfl (.refl 51) ?_
  refine gJN X80 hx (hc d14_51) (tlt (by decide)).2.1 (.refl 54) ?_
  refine gAN X80 hx (hc d14_54) rfl (.refl 55) ?_
  have f81 := (f78.other W80 (Or.inl noa))
  refine gF X80 hx hZ hown (ow hw 27 rfl) Via.refl e80 f81 (hc d14_55) (.refl 58) ?_
  intro T82 X82 e82
  refine gLN X82 hx (hc d14_58) rfl (.refl 59) ?_
  refine gJA X82 hx hZ e82 V80 (.long 4) ⟨by decide, by decide⟩ rfl (hc d14_59) (.refl 60) ?_
  refine gAN X82 hx (hc d14_60) rfl (.refl 61) ?_
  refine gF X82 hx hZ hown (ow hw 27 rfl) Via.refl e82 f81 (hc d14_61) (.refl 64) ?_
  intro T84 X84 e84
  refine gLN X84 hx (hc d14_64) rfl (.refl 65) ?_
  refine gJA X84 hx hZ e84 V80 (.long 4) ⟨by decide, by decide⟩ rfl (hc d14_65) (.refl 66) ?_
  refine gS 67 [(.int (lcmpW (4 : Int64) (4 : Int64)))] (fun zt zk => XS.lcmp X84.here hx rfl (hc d14_66) rfl zk) ?_
  rw [show (lcmpW (4 : Int64) (4 : Int64)) = (0 : Int32) by decide]
  refine gIY (q := 96) X84 hx (hc d14_67) ((if0 _ _).trans (flt (by decide)).2.1) (by decide) ?_
  refine gS 98 [(.long 0)] (fun zt zk => XS.lload X84.here hx rfl (hc d14_96) rfl zk) ?_
  refine gAN X84 hx (hc d14_98) rfl (.refl 99) ?_
  refine gF X84 hx hZ hown (ow hw 27 rfl) Via.refl e84 f81 (hc d14_99) (.refl 102) ?_
  intro T86 X86 e86
  refine gLN X86 hx (hc d14_102) rfl (.refl 103) ?_
  refine gP 106 #[rv ob, iv 4, iv ((3 : Int32) + (1 : Int32)), iv 1, iv 2, .val (.long 0), .second, iv 0, .unset] [(.int 3), (.ref aw), (.long 0)] (fun zt zk => XS.iinc X86.here hx rfl (hc d14_103) rfl (l' := _) rfl zk) ?_
  rw [show ((3 : Int32) + (1 : Int32)) = (4 : Int32) by decide]
  refine gJA X86 hx hZ e86 V80 (.long 4) ⟨by decide, by decide⟩ rfl (hc d14_106) (.refl 107) ?_
  refine gS 108 [(.long ((0 : Int64) + (4 : Int64)))] (fun zt zk => XS.ladd X86.here hx rfl (hc d14_107) rfl zk) ?_
  rw [show ((0 : Int64) + (4 : Int64)) = (4 : Int64) by decide]
  refine gP 110 #[rv ob, iv 4, iv 4, iv 1, iv 2, .val (.long 4), .second, iv 0, .unset] [] (fun zt zk => XS.lstore X86.here hx rfl (hc d14_108) rfl (l' := _) rfl zk) ?_
  refine gP 113 #[rv ob, iv 4, iv 4, iv 1, iv 2, .val (.long 4), .second, iv ((0 : Int32) + (1 : Int32)), .unset] [] (fun zt zk => XS.iinc X86.here hx rfl (hc d14_110) rfl (l' := _) rfl zk) ?_
  rw [show ((0 : Int32) + (1 : Int32)) = (1 : Int32) by decide]
  refine gG (q := 37) X86 hx (hc d14_113) (by decide) ?_
  refine gL X86 hx (hc d14_37) rfl (.refl 39) ?_
  refine gC (z := 2) X86 hx (hc d14_39) rfl (.refl 40) ?_
  refine gJN X86 hx (hc d14_40) (tlt (by decide)).2.1 (.refl 43) ?_
  refine gLN X86 hx (hc d14_43) rfl (.refl 44) ?_
  refine gLN X86 hx (hc d14_44) rfl (.refl 45) ?_
  refine gJY (q := 70) X86 hx (hc d14_45) (flt (by decide)).2.1 (by decide) ?_
  refine gS 72 [(.long 4)] (fun zt zk => XS.lload X86.here hx rfl (hc d14_70) rfl zk) ?_
  refine gAN X86 hx (hc d14_72) rfl (.refl 73) ?_
  refine gF X86 hx hZ hown (ow hw 27 rfl) Via.refl e86 f81 (hc d14_73) (.refl 76) ?_
  intro T88 X88 e88
  refine gLN X88 hx (hc d14_76) rfl (.refl 77) ?_
  refine gJA X88 hx hZ e88 V80 (.long 4) ⟨by decide, by decide⟩ rfl (hc d14_77) (.refl 78) ?_
  refine gS 79 [(.long ((4 : Int64) + (4 : Int64)))] (fun zt zk => XS.ladd X88.here hx rfl (hc d14_78) rfl zk) ?_
  rw [show ((4 : Int64) + (4 : Int64)) = (8 : Int64) by decide]
  refine gP 81 #[rv ob, iv 4, iv 4, iv 1, iv 2, .val (.long 8), .second, iv 1, .unset] [] (fun zt zk => XS.lstore X88.here hx rfl (hc d14_79) rfl (l' := _) rfl zk) ?_
  refine gAN X88 hx (hc d14_81) rfl (.refl 82) ?_
  refine gF X88 hx hZ hown (ow hw 27 rfl) Via.refl e88 f81 (hc d14_82) (.refl 85) ?_
  intro T90 X90 e90
  refine gLN X90 hx (hc d14_85) rfl (.refl 86) ?_
  refine gP 89 #[rv ob, iv 4, iv 4, iv ((1 : Int32) + (1 : Int32)), iv 2, .val (.long 8), .second, iv 1, .unset] [(.int 1), (.ref aw)] (fun zt zk => XS.iinc X90.here hx rfl (hc d14_86) rfl (l' := _) rfl zk) ?_
  rw [show ((1 : Int32) + (1 : Int32)) = (2 : Int32) by decide]
  refine gL X90 hx (hc d14_89) rfl (.refl 91) ?_
  refine gS 92 [(.long ((2 : Int32).toInt64)), (.int 1), (.ref aw)] (fun zt zk => XS.i2l X90.here hx rfl (hc d14_91) rfl zk) ?_
  rw [show ((2 : Int32).toInt64) = (2 : Int64) by decide]
  refine gSJ X90 hx hZ e90 V80 ⟨by decide, by decide⟩ 1 rfl (Nat.le_of_ble_eq_true rfl) [(.long 1), (.long 2), (.long 2), (.long 4)] rfl (hc d14_92) (.refl 93) ?_
  intro T91 h91 X91 e91 W91 V91
  have K91 := K80.wr W91 (Or.inl (List.mem_of_getElem? (i := 0) rfl))
  have N91 := Fr.snoc X91 N80 g_aw
  refine gG (q := 110) X91 hx (hc d14_93) (by decide) ?_
  refine gP 113 #[rv ob, iv 4, iv 4, iv 2, iv 2, .val (.long 8), .second, iv ((1 : Int32) + (1 : Int32)), .unset] [] (fun zt zk => XS.iinc X91.here hx rfl (hc d14_110) rfl (l' := _) rfl zk) ?_
  rw [show ((1 : Int32) + (1 : Int32)) = (2 : Int32) by decide]
  refine gG (q := 37) X91 hx (hc d14_113) (by decide) ?_
  refine gL X91 hx (hc d14_37) rfl (.refl 39) ?_
  refine gC (z := 2) X91 hx (hc d14_39) rfl (.refl 40) ?_
  refine gJY (q := 116) X91 hx (hc d14_40) (flt (by decide)).2.1 (by decide) ?_
  refine gAN X91 hx (hc d14_116) rfl (.refl 117) ?_
  have f92 := (f81.other W91 (Or.inl noa))
  refine gF X91 hx hZ hown (ow hw 27 rfl) Via.refl e91 f92 (hc d14_117) (.refl 120) ?_
  intro T93 X93 e93
  refine gL X93 hx (hc d14_120) rfl (.refl 122) ?_
  refine gS 124 [(.long 8), (.int 2), (.ref aw)] (fun zt zk => XS.lload X93.here hx rfl (hc d14_122) rfl zk) ?_
  refine gSJ X93 hx hZ e93 V91 ⟨by decide, by decide⟩ 2 rfl (Nat.le_of_ble_eq_true rfl) [(.long 1), (.long 2), (.long 8), (.long 4)] rfl (hc d14_124) (.refl 125) ?_
  intro T94 h94 X94 e94 W94 V94
  have K94 := K91.wr W94 (Or.inl (List.mem_of_getElem? (i := 0) rfl))
  have N94 := Fr.snoc X94 N91 g_aw
  refine gP 128 #[rv ob, iv 4, iv 4, iv 2, iv ((2 : Int32) + (1 : Int32)), .val (.long 8), .second, iv 2, .unset] [] (fun zt zk => XS.iinc X94.here hx rfl (hc d14_125) rfl (l' := _) rfl zk) ?_
  rw [show ((2 : Int32) + (1 : Int32)) = (3 : Int32) by decide]
  refine gG (q := 23) X94 hx (hc d14_128) (by decide) ?_
  refine gL X94 hx (hc d14_23) rfl (.refl 25) ?_
  refine gLN X94 hx (hc d14_25) rfl (.refl 26) ?_
  refine gC (z := 1) X94 hx (hc d14_26) rfl (.refl 27) ?_
  refine gisub X94 hx (hc d14_27) (.refl 28) ?_
  rw [show ((4 : Int32) - (1 : Int32)) = (3 : Int32) by decide]
  refine gJY (q := 131) X94 hx (hc d14_28) (flt (by decide)).2.1 (by decide) ?_
  refine gAN X94 hx (hc d14_131) rfl (.refl 132) ?_
  have f95 := (f92.other W94 (Or.inl noa))
  refine gF X94 hx hZ hown (ow hw 27 rfl) Via.refl e94 f95 (hc d14_132) (.refl 135) ?_
  intro T96 X96 e96
  refine gLN X96 hx (hc d14_135) rfl (.refl 136) ?_
  refine gC (z := 2) X96 hx (hc d14_136) rfl (.refl 137) ?_
  refine gisub X96 hx (hc d14_137) (.refl 138) ?_
  rw [show ((4 : Int32) - (2 : Int32)) = (2 : Int32) by decide]
  refine gS 139 [(.long 0), (.int 2), (.ref aw)] (fun zt zk => XS.lconst X96.here hx rfl (hc d14_138) zk) ?_
  refine gSJ X96 hx hZ e96 V94 ⟨by decide, by decide⟩ 2 rfl (Nat.le_of_ble_eq_true rfl) [(.long 1), (.long 2), (.long 0), (.long 4)] rfl (hc d14_139) (.refl 140) ?_
  intro T97 h97 X97 e97 W97 V97
  have K97 := K94.wr W97 (Or.inl (List.mem_of_getElem? (i := 0) rfl))
  have N97 := Fr.snoc X97 N94 g_aw
  refine gLN X97 hx (hc d14_140) rfl (.refl 141) ?_
  refine gC (z := 3) X97 hx (hc d14_141) rfl (.refl 142) ?_
  refine gisub X97 hx (hc d14_142) (.refl 143) ?_
  rw [show ((4 : Int32) - (3 : Int32)) = (1 : Int32) by decide]
  refine gP 145 #[rv ob, iv 4, iv 4, iv 2, iv 1, .val (.long 8), .second, iv 2, .unset] [] (fun zt zk => XS.istore X97.here hx rfl (hc d14_143) rfl (l' := _) rfl zk) ?_
  refine gL X97 hx (hc d14_145) rfl (.refl 147) ?_
  refine gIN X97 hx (hc d14_147) ((if0 _ _).trans (flt (by decide)).1) (.refl 150) ?_
  refine gAN X97 hx (hc d14_150) rfl (.refl 151) ?_
  have f98 := (f95.other W97 (Or.inl noa))
  refine gF X97 hx hZ hown (ow hw 27 rfl) Via.refl e97 f98 (hc d14_151) (.refl 154) ?_
  intro T99 X99 e99
  refine gL X99 hx (hc d14_154) rfl (.refl 156) ?_
  refine gAN X99 hx (hc d14_156) rfl (.refl 157) ?_
  refine gF X99 hx hZ hown (ow hw 27 rfl) Via.refl e99 f98 (hc d14_157) (.refl 160) ?_
  intro T100 X100 e100
  refine gAN X100 hx (hc d14_160) rfl (.refl 161) ?_
  refine gF X100 hx hZ hown (ow hw 27 rfl) Via.refl e100 f98 (hc d14_161) (.refl 164) ?_
  intro T101 X101 e101
  refine gL X101 hx (hc d14_164) rfl (.refl 166) ?_
  refine gJA X101 hx hZ e101 V97 (.long 2) ⟨by decide, by decide⟩ rfl (hc d14_166) (.refl 167) ?_
  refine gS 168 [(.int ((2 : Int64).toInt32)), (.ref aw), (.int 1), (.ref aw)] (fun zt zk => XS.l2i X101.here hx rfl (hc d14_167) rfl zk) ?_
  rw [show ((2 : Int64).toInt32) = (2 : Int32) by decide]
  refine gJA X101 hx hZ e101 V97 (.long 0) ⟨by decide, by decide⟩ rfl (hc d14_168) (.refl 169) ?_
  refine gS 170 [(.long 1), (.long 0), (.int 1), (.ref aw)] (fun zt zk => XS.lconst X101.here hx rfl (hc d14_169) zk) ?_
  refine gS 171 [(.long ((0 : Int64) + (1 : Int64))), (.int 1), (.ref aw)] (fun zt zk => XS.ladd X101.here hx rfl (hc d14_170) rfl zk) ?_
  rw [show ((0 : Int64) + (1 : Int64)) = (1 : Int64) by decide]
  refine gSJ X101 hx hZ e101 V97 ⟨by decide, by decide⟩ 1 rfl (Nat.le_of_ble_eq_true rfl) [(.long 1), (.long 1), (.long 0), (.long 4)] rfl (hc d14_171) (.refl 172) ?_
  intro T104 h104 X104 e104 W104 V104
  have K104 := K97.wr W104 (Or.inl (List.mem_of_getElem? (i := 0) rfl))
  have N104 := Fr.snoc X104 N97 g_aw
  refine gP 175 #[rv ob, iv 4, iv 4, iv 2, iv ((1 : Int32) + (-1 : Int32)), .val (.long 8), .second, iv 2, .unset] [] (fun zt zk => XS.iinc X104.here hx rfl (hc d14_172) rfl (l' := _) rfl zk) ?_
  rw [show ((1 : Int32) + (-1 : Int32)) = (0 : Int32) by decide]
  refine gG (q := 145) X104 hx (hc d14_175) (by decide) ?_
  refine gL X104 hx (hc d14_145) rfl (.refl 147) ?_
  refine gIN X104 hx (hc d14_147) ((if0 _ _).trans (flt (by decide)).1) (.refl 150) ?_
  refine gAN X104 hx (hc d14_150) rfl (.refl 151) ?_
  have f105 := (f98.other W104 (Or.inl noa))
  refine gF X104 hx hZ hown (ow hw 27 rfl) Via.refl e104 f105 (hc d14_151) (.refl 154) ?_
  intro T106 X106 e106
  refine gL X106 hx (hc d14_154) rfl (.refl 156) ?_
  refine gAN X106 hx (hc d14_156) rfl (.refl 157) ?_
  refine gF X106 hx hZ hown (ow hw 27 rfl) Via.refl e106 f105 (hc d14_157) (.refl 160) ?_
  intro T107 X107 e107
  refine gAN X107 hx (hc d14_160) rfl (.refl 161) ?_
  refine gF X107 hx hZ hown (ow hw 27 rfl) Via.refl e107 f105 (hc d14_161) (.refl 164) ?_
  intro T108 X108 e108
  refine gL X108 hx (hc d14_164) rfl (.refl 166) ?_
  refine gJA X108 hx hZ e108 V104 (.long 1) ⟨by decide, by decide⟩ rfl (hc d14_166) (.refl 167) ?_
  refine gS 168 [(.int ((1 : Int64).toInt32)), (.ref aw), (.int 0), (.ref aw)] (fun zt zk => XS.l2i X108.here hx rfl (hc d14_167) rfl zk) ?_
  rw [show ((1 : Int64).toInt32) = (1 : Int32) by decide]
  refine gJA X108 hx hZ e108 V104 (.long 1) ⟨by decide, by decide⟩ rfl (hc d14_168) (.refl 169) ?_
  refine gS 170 [(.long 1), (.long 1), (.int 0), (.ref aw)] (fun zt zk => XS.lconst X108.here hx rfl (hc d14_169) zk) ?_
  refine gS 171 [(.long ((1 : Int64) + (1 : Int64))), (.int 0), (.ref aw)] (fun zt zk => XS.ladd X108.here hx rfl (hc d14_170) rfl zk) ?_
  rw [show ((1 : Int64) + (1 : Int64)) = (2 : Int64) by decide]
  refine gSJ X108 hx hZ e108 V104 ⟨by decide, by decide⟩ 0 rfl (Nat.le_of_ble_eq_true rfl) [(.long 2), (.long 1), (.long 0), (.long 4)] rfl (hc d14_171) (.refl 172) ?_
  intro T111 h111 X111 e111 W111 V111
  have K111 := K104.wr W111 (Or.inl (List.mem_of_getElem? (i := 0) rfl))
  have N111 := Fr.snoc X111 N104 g_aw
  refine gP 175 #[rv ob, iv 4, iv 4, iv 2, iv ((0 : Int32) + (-1 : Int32)), .val (.long 8), .second, iv 2, .unset] [] (fun zt zk => XS.iinc X111.here hx rfl (hc d14_172) rfl (l' := _) rfl zk) ?_
  rw [show ((0 : Int32) + (-1 : Int32)) = (-1 : Int32) by decide]
  refine gG (q := 145) X111 hx (hc d14_175) (by decide) ?_
  refine gL X111 hx (hc d14_145) rfl (.refl 147) ?_
  refine gIY (q := 178) X111 hx (hc d14_147) ((if0 _ _).trans (tlt (by decide)).1) (by decide) ?_
  refine gC (z := 1) X111 hx (hc d14_178) rfl (.refl 179) ?_
  refine gP 181 #[rv ob, iv 4, iv 4, iv 2, iv 1, .val (.long 8), .second, iv 2, .unset] [] (fun zt zk => XS.istore X111.here hx rfl (hc d14_179) rfl (l' := _) rfl zk) ?_
  refine gLN X111 hx (hc d14_181) rfl (.refl 182) ?_
  refine gC (z := 2) X111 hx (hc d14_182) rfl (.refl 183) ?_
  refine gisub X111 hx (hc d14_183) (.refl 184) ?_
  rw [show ((4 : Int32) - (2 : Int32)) = (2 : Int32) by decide]
  refine gP 186 #[rv ob, iv 4, iv 4, iv 2, iv 1, iv 2, .unset, iv 2, .unset] [] (fun zt zk => XS.istore X111.here hx rfl (hc d14_184) rfl (l' := _) rfl zk) ?_
  refine gLN X111 hx (hc d14_186) rfl (.refl 187) ?_
  refine gC (z := 1) X111 hx (hc d14_187) rfl (.refl 188) ?_
  refine gisub X111 hx (hc d14_188) (.refl 189) ?_
  rw [show ((4 : Int32) - (1 : Int32)) = (3 : Int32) by decide]
  refine gP 191 #[rv ob, iv 4, iv 4, iv 2, iv 1, iv 2, iv 3, iv 2, .unset] [] (fun zt zk => XS.istore X111.here hx rfl (hc d14_189) rfl (l' := _) rfl zk) ?_
  refine gC (z := 0) X111 hx (hc d14_191) rfl (.refl 192) ?_
  refine gP 194 #[rv ob, iv 4, iv 4, iv 2, iv 1, iv 2, iv 3, iv 0, .unset] [] (fun zt zk => XS.istore X111.here hx rfl (hc d14_192) rfl (l' := _) rfl zk) ?_
  refine gL X111 hx (hc d14_194) rfl (.refl 196) ?_
  refine gIN X111 hx (hc d14_196) ((if0 _ _).trans (tlt (by decide)).2.2.2) (.refl 199) ?_
  refine gC (z := 0) X111 hx (hc d14_199) rfl (.refl 200) ?_
  refine gP 202 #[rv ob, iv 4, iv 4, iv 2, iv 1, iv 2, iv 3, iv 0, iv 0] [] (fun zt zk => XS.istore X111.here hx rfl (hc d14_200) rfl (l' := _) rfl zk) ?_
  refine gL X111 hx (hc d14_202) rfl (.refl 204) ?_
  refine gIN X111 hx (hc d14_204) ((if0 _ _).trans (flt (by decide)).1) (.refl 207) ?_
  refine gAN X111 hx (hc d14_207) rfl (.refl 208) ?_
  have f112 := (f105.other W111 (Or.inl noa))
  refine gF X111 hx hZ hown (ow hw 27 rfl) Via.refl e111 f112 (hc d14_208) (.refl 211) ?_
  intro T113 X113 e113
  refine gL X113 hx (hc d14_211) rfl (.refl 213) ?_
  refine gJA X113 hx hZ e113 V111 (.long 0) ⟨by decide, by decide⟩ rfl (hc d14_213) (.refl 214) ?_
  refine gL X113 hx (hc d14_214) rfl (.refl 216) ?_
  refine gS 217 [(.long ((0 : Int32).toInt64)), (.long 0)] (fun zt zk => XS.i2l X113.here hx rfl (hc d14_216) rfl zk) ?_
  rw [show ((0 : Int32).toInt64) = (0 : Int64) by decide]
  refine gS 218 [(.int (lcmpW (0 : Int64) (0 : Int64)))] (fun zt zk => XS.lcmp X113.here hx rfl (hc d14_217) rfl zk) ?_
  rw [show (lcmpW (0 : Int64) (0 : Int64)) = (0 : Int32) by decide]
  refine gIN X113 hx (hc d14_218) ((if0 _ _).trans (teq (by decide)).2) (.refl 221) ?_
  refine gP 224 #[rv ob, iv 4, iv 4, iv 2, iv 1, iv 2, iv 3, iv 0, iv ((0 : Int32) + (1 : Int32))] [] (fun zt zk => XS.iinc X113.here hx rfl (hc d14_221) rfl (l' := _) rfl zk) ?_
  rw [show ((0 : Int32) + (1 : Int32)) = (1 : Int32) by decide]
  refine gP 227 #[rv ob, iv 4, iv 4, iv 2, iv 1, iv ((2 : Int32) + (-1 : Int32)), iv 3, iv 0, iv 1] [] (fun zt zk => XS.iinc X113.here hx rfl (hc d14_224) rfl (l' := _) rfl zk) ?_
  rw [show ((2 : Int32) + (-1 : Int32)) = (1 : Int32) by decide]
  refine gG (q := 202) X113 hx (hc d14_227) (by decide) ?_
  refine gL X113 hx (hc d14_202) rfl (.refl 204) ?_
  refine gIN X113 hx (hc d14_204) ((if0 _ _).trans (flt (by decide)).1) (.refl 207) ?_
  refine gAN X113 hx (hc d14_207) rfl (.refl 208) ?_
  refine gF X113 hx hZ hown (ow hw 27 rfl) Via.refl e113 f112 (hc d14_208) (.refl 211) ?_
  intro T115 X115 e115
  refine gL X115 hx (hc d14_211) rfl (.refl 213) ?_
  refine gJA X115 hx hZ e115 V111 (.long 1) ⟨by decide, by decide⟩ rfl (hc d14_213) (.refl 214) ?_
  refine gL X115 hx (hc d14_214) rfl (.refl 216) ?_
  refine gS 217 [(.long ((0 : Int32).toInt64)), (.long 1)] (fun zt zk => XS.i2l X115.here hx rfl (hc d14_216) rfl zk) ?_
  rw [show ((0 : Int32).toInt64) = (0 : Int64) by decide]
  refine gS 218 [(.int (lcmpW (1 : Int64) (0 : Int64)))] (fun zt zk => XS.lcmp X115.here hx rfl (hc d14_217) rfl zk) ?_
  rw [show (lcmpW (1 : Int64) (0 : Int64)) = (1 : Int32) by decide]
  refine gIY (q := 230) X115 hx (hc d14_218) ((if0 _ _).trans (feq (by decide)).2) (by decide) ?_
  refine gL X115 hx (hc d14_230) rfl (.refl 232) ?_
  refine gL X115 hx (hc d14_232) rfl (.refl 234) ?_
  refine gJY (q := 256) X115 hx (hc d14_234) (flt (by decide)).2.2.2 (by decide) ?_
  refine gC (z := 2) X115 hx (hc d14_256) rfl (.refl 257) ?_
  refine gL X115 hx (hc d14_257) rfl (.refl 259) ?_
  refine gimul X115 hx (hc d14_259) (.refl 260) ?_
  rw [show ((2 : Int32) * (1 : Int32)) = (2 : Int32) by decide]
  refine gP 262 #[rv ob, iv 4, iv 4, iv 2, iv 2, iv 1, iv 3, iv 0, iv 1] [] (fun zt zk => XS.istore X115.here hx rfl (hc d14_260) rfl (l' := _) rfl zk) ?_
  refine gP 265 #[rv ob, iv 4, iv 4, iv 2, iv 2, iv 1, iv 3, iv ((0 : Int32) + (1 : Int32)), iv 1] [] (fun zt zk => XS.iinc X115.here hx rfl (hc d14_262) rfl (l' := _) rfl zk) ?_
  rw [show ((0 : Int32) + (1 : Int32)) = (1 : Int32) by decide]
  refine gG (q := 194) X115 hx (hc d14_265) (by decide) ?_
  refine gL X115 hx (hc d14_194) rfl (.refl 196) ?_
  refine gIN X115 hx (hc d14_196) ((if0 _ _).trans (tlt (by decide)).2.2.2) (.refl 199) ?_
  refine gC (z := 0) X115 hx (hc d14_199) rfl (.refl 200) ?_
  refine gP 202 #[rv ob, iv 4, iv 4, iv 2, iv 2, iv 1, iv 3, iv 1, iv 0] [] (fun zt zk => XS.istore X115.here hx rfl (hc d14_200) rfl (l' := _) rfl zk) ?_
  refine gL X115 hx (hc d14_202) rfl (.refl 204) ?_
  refine gIN X115 hx (hc d14_204) ((if0 _ _).trans (flt (by decide)).1) (.refl 207) ?_
  refine gAN X115 hx (hc d14_207) rfl (.refl 208) ?_
  refine gF X115 hx hZ hown (ow hw 27 rfl) Via.refl e115 f112 (hc d14_208) (.refl 211) ?_
  intro T117 X117 e117
  refine gL X117 hx (hc d14_211) rfl (.refl 213) ?_
  refine gJA X117 hx hZ e117 V111 (.long 1) ⟨by decide, by decide⟩ rfl (hc d14_213) (.refl 214) ?_
  refine gL X117 hx (hc d14_214) rfl (.refl 216) ?_
  refine gS 217 [(.long ((1 : Int32).toInt64)), (.long 1)] (fun zt zk => XS.i2l X117.here hx rfl (hc d14_216) rfl zk) ?_
  rw [show ((1 : Int32).toInt64) = (1 : Int64) by decide]
  refine gS 218 [(.int (lcmpW (1 : Int64) (1 : Int64)))] (fun zt zk => XS.lcmp X117.here hx rfl (hc d14_217) rfl zk) ?_
  rw [show (lcmpW (1 : Int64) (1 : Int64)) = (0 : Int32) by decide]
  refine gIN X117 hx (hc d14_218) ((if0 _ _).trans (teq (by decide)).2) (.refl 221) ?_
  refine gP 224 #[rv ob, iv 4, iv 4, iv 2, iv 2, iv 1, iv 3, iv 1, iv ((0 : Int32) + (1 : Int32))] [] (fun zt zk => XS.iinc X117.here hx rfl (hc d14_221) rfl (l' := _) rfl zk) ?_
  rw [show ((0 : Int32) + (1 : Int32)) = (1 : Int32) by decide]
  refine gP 227 #[rv ob, iv 4, iv 4, iv 2, iv 2, iv ((1 : Int32) + (-1 : Int32)), iv 3, iv 1, iv 1] [] (fun zt zk => XS.iinc X117.here hx rfl (hc d14_224) rfl (l' := _) rfl zk) ?_
  rw [show ((1 : Int32) + (-1 : Int32)) = (0 : Int32) by decide]
  refine gG (q := 202) X117 hx (hc d14_227) (by decide) ?_
  refine gL X117 hx (hc d14_202) rfl (.refl 204) ?_
  refine gIN X117 hx (hc d14_204) ((if0 _ _).trans (flt (by decide)).1) (.refl 207) ?_
  refine gAN X117 hx (hc d14_207) rfl (.refl 208) ?_
  refine gF X117 hx hZ hown (ow hw 27 rfl) Via.refl e117 f112 (hc d14_208) (.refl 211) ?_
  intro T119 X119 e119
  refine gL X119 hx (hc d14_211) rfl (.refl 213) ?_
  refine gJA X119 hx hZ e119 V111 (.long 2) ⟨by decide, by decide⟩ rfl (hc d14_213) (.refl 214) ?_
  refine gL X119 hx (hc d14_214) rfl (.refl 216) ?_
  refine gS 217 [(.long ((1 : Int32).toInt64)), (.long 2)] (fun zt zk => XS.i2l X119.here hx rfl (hc d14_216) rfl zk) ?_
  rw [show ((1 : Int32).toInt64) = (1 : Int64) by decide]
  refine gS 218 [(.int (lcmpW (2 : Int64) (1 : Int64)))] (fun zt zk => XS.lcmp X119.here hx rfl (hc d14_217) rfl zk) ?_
  rw [show (lcmpW (2 : Int64) (1 : Int64)) = (1 : Int32) by decide]
  refine gIY (q := 230) X119 hx (hc d14_218) ((if0 _ _).trans (feq (by decide)).2) (by decide) ?_
  refine gL X119 hx (hc d14_230) rfl (.refl 232) ?_
  refine gL X119 hx (hc d14_232) rfl (.refl 234) ?_
  refine gJN X119 hx (hc d14_234) (tlt (by decide)).2.2.2 (.refl 237) ?_
  refine gAN X119 hx (hc d14_237) rfl (.refl 238) ?_
  refine gF X119 hx hZ hown (ow hw 27 rfl) Via.refl e119 f112 (hc d14_238) (.refl 241) ?_
  intro T121 X121 e121
  refine gL X121 hx (hc d14_241) rfl (.refl 243) ?_
  refine gP 246 #[rv ob, iv 4, iv 4, iv 2, iv 2, iv 0, iv ((3 : Int32) + (-1 : Int32)), iv 1, iv 1] [(.int 3), (.ref aw)] (fun zt zk => XS.iinc X121.here hx rfl (hc d14_243) rfl (l' := _) rfl zk) ?_
  rw [show ((3 : Int32) + (-1 : Int32)) = (2 : Int32) by decide]
  refine gL X121 hx (hc d14_246) rfl (.refl 248) ?_
  refine gS 249 [(.long ((1 : Int32).toInt64)), (.int 3), (.ref aw)] (fun zt zk => XS.i2l X121.here hx rfl (hc d14_248) rfl zk) ?_
  rw [show ((1 : Int32).toInt64) = (1 : Int64) by decide]
  refine gSJ X121 hx hZ e121 V111 ⟨by decide, by decide⟩ 3 rfl (Nat.le_of_ble_eq_true rfl) [(.long 2), (.long 1), (.long 0), (.long 1)] rfl (hc d14_249) (.refl 250) ?_
  intro T122 h122 X122 e122 W122 V122
  have K122 := K111.wr W122 (Or.inl (List.mem_of_getElem? (i := 0) rfl))
  have N122 := Fr.snoc X122 N111 g_aw
  refine gP 253 #[rv ob, iv 4, iv 4, iv 2, iv ((2 : Int32) + (-1 : Int32)), iv 0, iv 2, iv 1, iv 1] [] (fun zt zk => XS.iinc X122.here hx rfl (hc d14_250) rfl (l' := _) rfl zk) ?_
  rw [show ((2 : Int32) + (-1 : Int32)) = (1 : Int32) by decide]
  refine gG (q := 230) X122 hx (hc d14_253) (by decide) ?_
  refine gL X122 hx (hc d14_230) rfl (.refl 232) ?_
  refine gL X122 hx (hc d14_232) rfl (.refl 234) ?_
  refine gJY (q := 256) X122 hx (hc d14_234) (flt (by decide)).2.2.2 (by decide) ?_
  refine gC (z := 2) X122 hx (hc d14_256) rfl (.refl 257) ?_
  refine gL X122 hx (hc d14_257) rfl (.refl 259) ?_
  refine gimul X122 hx (hc d14_259) (.refl 260) ?_
  rw [show ((2 : Int32) * (1 : Int32)) = (2 : Int32) by decide]
  refine gP 262 #[rv ob, iv 4, iv 4, iv 2, iv 2, iv 0, iv 2, iv 1, iv 1] [] (fun zt zk => XS.istore X122.here hx rfl (hc d14_260) rfl (l' := _) rfl zk) ?_
  refine gP 265 #[rv ob, iv 4, iv 4, iv 2, iv 2, iv 0, iv 2, iv ((1 : Int32) + (1 : Int32)), iv 1] [] (fun zt zk => XS.iinc X122.here hx rfl (hc d14_262) rfl (l' := _) rfl zk) ?_
  rw [show ((1 : Int32) + (1 : Int32)) = (2 : Int32) by decide]
  refine gG (q := 194) X122 hx (hc d14_265) (by decide) ?_
  refine gL X122 hx (hc d14_194) rfl (.refl 196) ?_
  refine gIN X122 hx (hc d14_196) ((if0 _ _).trans (tlt (by decide)).2.2.2) (.refl 199) ?_
  refine gC (z := 0) X122 hx (hc d14_199) rfl (.refl 200) ?_
  refine gP 202 #[rv ob, iv 4, iv 4, iv 2, iv 2, iv 0, iv 2, iv 2, iv 0] [] (fun zt zk => XS.istore X122.here hx rfl (hc d14_200) rfl (l' := _) rfl zk) ?_
  refine gL X122 hx (hc d14_202) rfl (.refl 204) ?_
  refine gIN X122 hx (hc d14_204) ((if0 _ _).trans (flt (by decide)).1) (.refl 207) ?_
  refine gAN X122 hx (hc d14_207) rfl (.refl 208) ?_
  have f123 := (f112.other W122 (Or.inl noa))
  refine gF X122 hx hZ hown (ow hw 27 rfl) Via.refl e122 f123 (hc d14_208) (.refl 211) ?_
  intro T124 X124 e124
  refine gL X124 hx (hc d14_211) rfl (.refl 213) ?_
  refine gJA X124 hx hZ e124 V122 (.long 2) ⟨by decide, by decide⟩ rfl (hc d14_213) (.refl 214) ?_
  refine gL X124 hx (hc d14_214) rfl (.refl 216) ?_
  refine gS 217 [(.long ((2 : Int32).toInt64)), (.long 2)] (fun zt zk => XS.i2l X124.here hx rfl (hc d14_216) rfl zk) ?_
  rw [show ((2 : Int32).toInt64) = (2 : Int64) by decide]
  refine gS 218 [(.int (lcmpW (2 : Int64) (2 : Int64)))] (fun zt zk => XS.lcmp X124.here hx rfl (hc d14_217) rfl zk) ?_
  rw [show (lcmpW (2 : Int64) (2 : Int64)) = (0 : Int32) by decide]
  refine gIN X124 hx (hc d14_218) ((if0 _ _).trans (teq (by decide)).2) (.refl 221) ?_
  refine gP 224 #[rv ob, iv 4, iv 4, iv 2, iv 2, iv 0, iv 2, iv 2, iv ((0 : Int32) + (1 : Int32))] [] (fun zt zk => XS.iinc X124.here hx rfl (hc d14_221) rfl (l' := _) rfl zk) ?_
  rw [show ((0 : Int32) + (1 : Int32)) = (1 : Int32) by decide]
  refine gP 227 #[rv ob, iv 4, iv 4, iv 2, iv 2, iv ((0 : Int32) + (-1 : Int32)), iv 2, iv 2, iv 1] [] (fun zt zk => XS.iinc X124.here hx rfl (hc d14_224) rfl (l' := _) rfl zk) ?_
  rw [show ((0 : Int32) + (-1 : Int32)) = (-1 : Int32) by decide]
  refine gG (q := 202) X124 hx (hc d14_227) (by decide) ?_
  refine gL X124 hx (hc d14_202) rfl (.refl 204) ?_
  refine gIY (q := 230) X124 hx (hc d14_204) ((if0 _ _).trans (tlt (by decide)).1) (by decide) ?_
  refine gL X124 hx (hc d14_230) rfl (.refl 232) ?_
  refine gL X124 hx (hc d14_232) rfl (.refl 234) ?_
  refine gJN X124 hx (hc d14_234) (tlt (by decide)).2.2.2 (.refl 237) ?_
  refine gAN X124 hx (hc d14_237) rfl (.refl 238) ?_
  refine gF X124 hx hZ hown (ow hw 27 rfl) Via.refl e124 f123 (hc d14_238) (.refl 241) ?_
  intro T126 X126 e126
  refine gL X126 hx (hc d14_241) rfl (.refl 243) ?_
  refine gP 246 #[rv ob, iv 4, iv 4, iv 2, iv 2, iv (-1 : Int32), iv ((2 : Int32) + (-1 : Int32)), iv 2, iv 1] [(.int 2), (.ref aw)] (fun zt zk => XS.iinc X126.here hx rfl (hc d14_243) rfl (l' := _) rfl zk) ?_
  rw [show ((2 : Int32) + (-1 : Int32)) = (1 : Int32) by decide]
  refine gL X126 hx (hc d14_246) rfl (.refl 248) ?_
  refine gS 249 [(.long ((2 : Int32).toInt64)), (.int 2), (.ref aw)] (fun zt zk => XS.i2l X126.here hx rfl (hc d14_248) rfl zk) ?_
  rw [show ((2 : Int32).toInt64) = (2 : Int64) by decide]
  refine gSJ X126 hx hZ e126 V122 ⟨by decide, by decide⟩ 2 rfl (Nat.le_of_ble_eq_true rfl) [(.long 2), (.long 1), (.long 2), (.long 1)] rfl (hc d14_249) (.refl 250) ?_
  intro T127 h127 X127 e127 W127 V127
  have K127 := K122.wr W127 (Or.inl (List.mem_of_getElem? (i := 0) rfl))
  have N127 := Fr.snoc X127 N122 g_aw
  refine gP 253 #[rv ob, iv 4, iv 4, iv 2, iv ((2 : Int32) + (-1 : Int32)), iv (-1 : Int32), iv 1, iv 2, iv 1] [] (fun zt zk => XS.iinc X127.here hx rfl (hc d14_250) rfl (l' := _) rfl zk) ?_
  rw [show ((2 : Int32) + (-1 : Int32)) = (1 : Int32) by decide]
  refine gG (q := 230) X127 hx (hc d14_253) (by decide) ?_
  refine gL X127 hx (hc d14_230) rfl (.refl 232) ?_
  refine gL X127 hx (hc d14_232) rfl (.refl 234) ?_
  refine gJY (q := 256) X127 hx (hc d14_234) (flt (by decide)).2.2.2 (by decide) ?_
  refine gC (z := 2) X127 hx (hc d14_256) rfl (.refl 257) ?_
  refine gL X127 hx (hc d14_257) rfl (.refl 259) ?_
  refine gimul X127 hx (hc d14_259) (.refl 260) ?_
  rw [show ((2 : Int32) * (1 : Int32)) = (2 : Int32) by decide]
  refine gP 262 #[rv ob, iv 4, iv 4, iv 2, iv 2, iv (-1 : Int32), iv 1, iv 2, iv 1] [] (fun zt zk => XS.istore X127.here hx rfl (hc d14_260) rfl (l' := _) rfl zk) ?_
  refine gP 265 #[rv ob, iv 4, iv 4, iv 2, iv 2, iv (-1 : Int32), iv 1, iv ((2 : Int32) + (1 : Int32)), iv 1] [] (fun zt zk => XS.iinc X127.here hx rfl (hc d14_262) rfl (l' := _) rfl zk) ?_
  rw [show ((2 : Int32) + (1 : Int32)) = (3 : Int32) by decide]
  refine gG (q := 194) X127 hx (hc d14_265) (by decide) ?_
  refine gL X127 hx (hc d14_194) rfl (.refl 196) ?_
  refine gIN X127 hx (hc d14_196) ((if0 _ _).trans (tlt (by decide)).2.2.2) (.refl 199) ?_
  refine gC (z := 0) X127 hx (hc d14_199) rfl (.refl 200) ?_
  refine gP 202 #[rv ob, iv 4, iv 4, iv 2, iv 2, iv (-1 : Int32), iv 1, iv 3, iv 0] [] (fun zt zk => XS.istore X127.here hx rfl (hc d14_200) rfl (l' := _) rfl zk) ?_
  refine gL X127 hx (hc d14_202) rfl (.refl 204) ?_
  refine gIY (q := 230) X127 hx (hc d14_204) ((if0 _ _).trans (tlt (by decide)).1) (by decide) ?_
  refine gL X127 hx (hc d14_230) rfl (.refl 232) ?_
  refine gL X127 hx (hc d14_232) rfl (.refl 234) ?_
  refine gJN X127 hx (hc d14_234) (tlt (by decide)).2.2.2 (.refl 237) ?_
  refine gAN X127 hx (hc d14_237) rfl (.refl 238) ?_
  have f128 := (f123.other W127 (Or.inl noa))
  refine gF X127 hx hZ hown (ow hw 27 rfl) Via.refl e127 f128 (hc d14_238) (.refl 241) ?_
  intro T129 X129 e129
  refine gL X129 hx (hc d14_241) rfl (.refl 243) ?_
  refine gP 246 #[rv ob, iv 4, iv 4, iv 2, iv 2, iv (-1 : Int32), iv ((1 : Int32) + (-1 : Int32)), iv 3, iv 0] [(.int 1), (.ref aw)] (fun zt zk => XS.iinc X129.here hx rfl (hc d14_243) rfl (l' := _) rfl zk) ?_
  rw [show ((1 : Int32) + (-1 : Int32)) = (0 : Int32) by decide]
  refine gL X129 hx (hc d14_246) rfl (.refl 248) ?_
  refine gS 249 [(.long ((3 : Int32).toInt64)), (.int 1), (.ref aw)] (fun zt zk => XS.i2l X129.here hx rfl (hc d14_248) rfl zk) ?_
  rw [show ((3 : Int32).toInt64) = (3 : Int64) by decide]
  refine gSJ X129 hx hZ e129 V127 ⟨by decide, by decide⟩ 1 rfl (Nat.le_of_ble_eq_true rfl) [(.long 2), (.long 3), (.long 2), (.long 1)] rfl (hc d14_249) (.refl 250) ?_
  intro T130 h130 X130 e130 W130 V130
  have K130 := K127.wr W130 (Or.inl (List.mem_of_getElem? (i := 0) rfl))
  have N130 := Fr.snoc X130 N127 g_aw
  refine gP 253 #[rv ob, iv 4, iv 4, iv 2, iv ((2 : Int32) + (-1 : Int32)), iv (-1 : Int32), iv 0, iv 3, iv 0] [] (fun zt zk => XS.iinc X130.here hx rfl (hc d14_250) rfl (l' := _) rfl zk) ?_
  rw [show ((2 : Int32) + (-1 : Int32)) = (1 : Int32) by decide]
  refine gG (q := 230) X130 hx (hc d14_253) (by decide) ?_
  refine gL X130 hx (hc d14_230) rfl (.refl 232) ?_
  refine gL X130 hx (hc d14_232) rfl (.refl 234) ?_
  refine gJN X130 hx (hc d14_234) (tlt (by decide)).2.2.2 (.refl 237) ?_
  refine gAN X130 hx (hc d14_237) rfl (.refl 238) ?_
  have f131 := (f128.other W130 (Or.inl noa))
  refine gF X130 hx hZ hown (ow hw 27 rfl) Via.refl e130 f131 (hc d14_238) (.refl 241) ?_
  intro T132 X132 e132
  refine gL X132 hx (hc d14_241) rfl (.refl 243) ?_
  refine gP 246 #[rv ob, iv 4, iv 4, iv 2, iv 1, iv (-1 : Int32), iv ((0 : Int32) + (-1 : Int32)), iv 3, iv 0] [(.int 0), (.ref aw)] (fun zt zk => XS.iinc X132.here hx rfl (hc d14_243) rfl (l' := _) rfl zk) ?_
  rw [show ((0 : Int32) + (-1 : Int32)) = (-1 : Int32) by decide]
  refine gL X132 hx (hc d14_246) rfl (.refl 248) ?_
  refine gS 249 [(.long ((3 : Int32).toInt64)), (.int 0), (.ref aw)] (fun zt zk => XS.i2l X132.here hx rfl (hc d14_248) rfl zk) ?_
  rw [show ((3 : Int32).toInt64) = (3 : Int64) by decide]
  refine gSJ X132 hx hZ e132 V130 ⟨by decide, by decide⟩ 0 rfl (Nat.le_of_ble_eq_true rfl) [(.long 3), (.long 3), (.long 2), (.long 1)] rfl (hc d14_249) (.refl 250) ?_
  intro T133 h133 X133 e133 W133 V133
  have K133 := K130.wr W133 (Or.inl (List.mem_of_getElem? (i := 0) rfl))
  have N133 := Fr.snoc X133 N130 g_aw
  refine gP 253 #[rv ob, iv 4, iv 4, iv 2, iv ((1 : Int32) + (-1 : Int32)), iv (-1 : Int32), iv (-1 : Int32), iv 3, iv 0] [] (fun zt zk => XS.iinc X133.here hx rfl (hc d14_250) rfl (l' := _) rfl zk) ?_
  rw [show ((1 : Int32) + (-1 : Int32)) = (0 : Int32) by decide]
  refine gG (q := 230) X133 hx (hc d14_253) (by decide) ?_
  refine gL X133 hx (hc d14_230) rfl (.refl 232) ?_
  refine gL X133 hx (hc d14_232) rfl (.refl 234) ?_
  refine gJY (q := 256) X133 hx (hc d14_234) (flt (by decide)).2.2.2 (by decide) ?_
  refine gC (z := 2) X133 hx (hc d14_256) rfl (.refl 257) ?_
  refine gL X133 hx (hc d14_257) rfl (.refl 259) ?_
  refine gimul X133 hx (hc d14_259) (.refl 260) ?_
  rw [show ((2 : Int32) * (0 : Int32)) = (0 : Int32) by decide]
  refine gP 262 #[rv ob, iv 4, iv 4, iv 2, iv 0, iv (-1 : Int32), iv (-1 : Int32), iv 3, iv 0] [] (fun zt zk => XS.istore X133.here hx rfl (hc d14_260) rfl (l' := _) rfl zk) ?_
  refine gP 265 #[rv ob, iv 4, iv 4, iv 2, iv 0, iv (-1 : Int32), iv (-1 : Int32), iv ((3 : Int32) + (1 : Int32)), iv 0] [] (fun zt zk => XS.iinc X133.here hx rfl (hc d14_262) rfl (l' := _) rfl zk) ?_
  rw [show ((3 : Int32) + (1 : Int32)) = (4 : Int32) by decide]
  refine gG (q := 194) X133 hx (hc d14_265) (by decide) ?_
  refine gL X133 hx (hc d14_194) rfl (.refl 196) ?_
  refine gIY (q := 268) X133 hx (hc d14_196) ((if0 _ _).trans (flt (by decide)).2.2.2) (by decide) ?_
  exact Go.done X133 Bd.notSynchronized (v := none) (fun _ => rfl) (fun fs hr => X133.returnOut hx Bd.returns (hc d14_268) hr) (by rw [e133]; exact ⟨rfl, N133, K133, V133⟩) (by decide) (by decide)
abbrev C15 : ByteArray := prog_43_method_9_code
theorem d15_0 : decode C15 0 = .ok (.iconst 1, 1) := by decide +kernel
theorem d15_1 : decode C15 1 = .ok (.istore_n 2, 1) := by decide +kernel
theorem d15_2 : decode C15 2 = .ok (.iconst 0, 1) := by decide +kernel
theorem d15_3 : decode C15 3 = .ok (.istore_n 3, 1) := by decide +kernel
theorem d15_4 : decode C15 4 = .ok (.iload_n 3, 1) := by decide +kernel
theorem d15_5 : decode C15 5 = .ok (.iload_n 1, 1) := by decide +kernel
theorem d15_6 : decode C15 6 = .ok (.if_icmp .ge 30, 3) := by decide +kernel
theorem d15_9 : decode C15 9 = .ok (.iload_n 2, 1) := by decide +kernel
theorem d15_10 : decode C15 10 = .ok (.aload_n 0, 1) := by decide +kernel
theorem d15_11 : decode C15 11 = .ok (.getfield 28, 3) := by decide +kernel
theorem d15_14 : decode C15 14 = .ok (.iload_n 3, 1) := by decide +kernel
theorem d15_15 : decode C15 15 = .ok (.laload, 1) := by decide +kernel
theorem d15_16 : decode C15 16 = .ok (.ldc2_w 89, 3) := by decide +kernel
theorem d15_19 : decode C15 19 = .ok (.lcmp, 1) := by decide +kernel
theorem d15_20 : decode C15 20 = .ok (.ifCond .gt 7, 3) := by decide +kernel
theorem d15_23 : decode C15 23 = .ok (.iconst 1, 1) := by decide +kernel
theorem d15_24 : decode C15 24 = .ok (.goto 4, 3) := by decide +kernel
theorem d15_28 : decode C15 28 = .ok (.iand, 1) := by decide +kernel
theorem d15_29 : decode C15 29 = .ok (.istore_n 2, 1) := by decide +kernel
theorem d15_30 : decode C15 30 = .ok (.iinc 3 1, 3) := by decide +kernel
theorem d15_33 : decode C15 33 = .ok (.goto (-29), 3) := by decide +kernel
theorem d15_36 : decode C15 36 = .ok (.iload_n 2, 1) := by decide +kernel
theorem d15_37 : decode C15 37 = .ok (.ireturn, 1) := by decide +kernel
theorem ef_15 (m : MethodId) (x0 : Addr) (x1 : Int32) : entryFrame m #[(.ref x0), (.int x1)] 4 = mkF m 0 #[.val (.ref x0), .val (.int x1), .unset, .unset] [] := by first | (simp [entryFrame, mkF, argsToLocals, Value.category]; done) | rfl
def Q_rmFi4 (Z : State) (ob aw : Addr) (kw : ClassId) (h0 : Heap) (n0 : Nat) (v : Option Value) (h : Heap) (L : List Loc) : Prop := v = some (.int 1) ∧ Fr n0 L ∧ h = h0
set_option maxRecDepth 65536 in
set_option maxHeartbeats 40000000 in
theorem rmFi4 (l : Launch) (Z : State) (a0 : Array Value) (hw : ∀ d ∈ tables_1, d.before a0 Z = true) (ob aw : Addr) (kw : ClassId) (h0 : Heap) (n0 : Nat) (Z0 : n0 ≤ h0.size) (Fw : Fld Z h0 ob "com/example/tributary/tributary/join/LineCodes" "weights" "[J" (.ref aw)) (Vw : Arv Z h0 aw kw .long (257 : Int32) [(.long 3), (.long 3), (.long 2), (.long 1)] (.long 0)) :
    MetFree l Y11 (head1 [Jvm.Cond.code Y11 prog_43_method_9_code 4 (some .boolean)] ({ frames := 0, cells := 0, slots := 0, locals := 0 } : Room)) (fun a U => a = #[(.ref ob), (.int 4)] ∧ Z.Warmed39 U.vm ∧ U.heap = h0) (fun _ _ _ _ _ => True) (fun _ U o U' => ∃ v L, o = .returned v ∧ (Q_rmFi4 Z ob aw kw h0 n0) v U'.heap L ∧ FrameEnd U o U' L ({ frames := 0, cells := 0, slots := 0, locals := 0 } : Room).cells ({ frames := 0, cells := 0, slots := 0, locals := 0 } : Room).slots) := by
  refine MetFree.of_bodySF (plainFor_of_name pn_81ef1d3) hisR ?_
  intro p e s m args below meth c s₁ Bd hml0 hP hK
  obtain ⟨rfl, hZ, hh⟩ := hP
  have hx := Bd.exec
  have hc : ∀ {pc : Nat} {r}, decode C15 pc = r → decode c.code pc = r := fun h2 => hb Bd.bytes h2
  have hml : c.maxLocals = 4 := hml0
  have hown : s.vm.findClass "com/example/tributary/tributary/join/LineCodes" = some m.cls := findClass_of_methodNamed Bd.named
  have hnm := (name_of_methodNamed Bd.named Bd.method).1
  have X0 : Stand p l e ({ frames := 0, cells := 0, slots := 0, locals := 0 } : Room) s m #[(.ref ob), (.int 4)] below meth c s₁ [] 0 0 := Stand.of_body Bd
  have e0 : s₁.heap = h0 := by rw [← hh, Bd.state]; rfl
  have N0 := Fr.nil n0
  have K0 : Keep h0 h0 [] := Keep.refl h0 []
  show Go p e below (s₁.setTop (entryFrame m #[(.ref ob), (.int 4)] 4)) (EndN s (Q_rmFi4 Z ob aw kw h0 n0) ({ frames := 0, cells := 0, slots := 0, locals := 0 } : Room).cells ({ frames := 0, cells := 0, slots := 0, locals := 0 } : Room).slots)
  refine Go.top (ef_15 m ob (4 : Int32)) ?_
  refine gC (z := 1) X0 hx (hc d15_0) rfl (.refl 1) ?_
  refine gP 2 #[rv ob, iv 4, iv 1, .unset] [] (fun zt zk => XS.istoreN X0.here hx rfl (hc d15_1) rfl (l' := _) rfl zk) ?_
  refine gC (z := 0) X0 hx (hc d15_2) rfl (.refl 3) ?_
  refine gP 4 #[rv ob, iv 4, iv 1, iv 0] [] (fun zt zk => XS.istoreN X0.here hx rfl (hc d15_3) rfl (l' := _) rfl zk) ?_
  refine gLN X0 hx (hc d15_4) rfl (.refl 5) ?_
  refine gLN X0 hx (hc d15_5) rfl (.refl 6) ?_
  refine gJN X0 hx (hc d15_6) (tlt (by decide)).2.1 (.refl 9) ?_
  refine gLN X0 hx (hc d15_9) rfl (.refl 10) ?_
  refine gAN X0 hx (hc d15_10) rfl (.refl 11) ?_
  refine gF X0 hx hZ hown (ow hw 27 rfl) Via.refl e0 Fw (hc d15_11) (.refl 14) ?_
  intro T134 X134 e134
  refine gLN X134 hx (hc d15_14) rfl (.refl 15) ?_
  refine gJA X134 hx hZ e134 Vw (.long 3) ⟨by decide, by decide⟩ rfl (hc d15_15) (.refl 16) ?_
  refine gS 19 [(.long 9), (.long 3), (.int 1)] (fun zt zk => X134.ldc2Long hx hown (mvT hZ (ow hw 86 rfl)) (g := (mkF m 16 #[rv ob, iv 4, iv 1, iv 0] [(.long 3), (.int 1)])) rfl (hc d15_16) zt zk) ?_
  refine gS 20 [(.int (lcmpW (3 : Int64) (9 : Int64))), (.int 1)] (fun zt zk => XS.lcmp X134.here hx rfl (hc d15_19) rfl zk) ?_
  rw [show (lcmpW (3 : Int64) (9 : Int64)) = (-1 : Int32) by decide]
  refine gIN X134 hx (hc d15_20) ((if0 _ _).trans (flt (by decide)).2.2.1) (.refl 23) ?_
  refine gC (z := 1) X134 hx (hc d15_23) rfl (.refl 24) ?_
  refine gG (q := 28) X134 hx (hc d15_24) (by decide) ?_
  refine giand X134 hx (hc d15_28) (.refl 29) ?_
  rw [show ((1 : Int32) &&& (1 : Int32)) = (1 : Int32) by decide]
  refine gP 30 #[rv ob, iv 4, iv 1, iv 0] [] (fun zt zk => XS.istoreN X134.here hx rfl (hc d15_29) rfl (l' := _) rfl zk) ?_
  refine gP 33 #[rv ob, iv 4, iv 1, iv ((0 : Int32) + (1 : Int32))] [] (fun zt zk => XS.iinc X134.here hx rfl (hc d15_30) rfl (l' := _) rfl zk) ?_
  rw [show ((0 : Int32) + (1 : Int32)) = (1 : Int32) by decide]
  refine gG (q := 4) X134 hx (hc d15_33) (by decide) ?_
  refine gLN X134 hx (hc d15_4) rfl (.refl 5) ?_
  refine gLN X134 hx (hc d15_5) rfl (.refl 6) ?_
  refine gJN X134 hx (hc d15_6) (tlt (by decide)).2.1 (.refl 9) ?_
  refine gLN X134 hx (hc d15_9) rfl (.refl 10) ?_
  refine gAN X134 hx (hc d15_10) rfl (.refl 11) ?_
  refine gF X134 hx hZ hown (ow hw 27 rfl) Via.refl e134 Fw (hc d15_11) (.refl 14) ?_
  intro T136 X136 e136
  refine gLN X136 hx (hc d15_14) rfl (.refl 15) ?_
  refine gJA X136 hx hZ e136 Vw (.long 3) ⟨by decide, by decide⟩ rfl (hc d15_15) (.refl 16) ?_
  refine gS 19 [(.long 9), (.long 3), (.int 1)] (fun zt zk => X136.ldc2Long hx hown (mvT hZ (ow hw 86 rfl)) (g := (mkF m 16 #[rv ob, iv 4, iv 1, iv 1] [(.long 3), (.int 1)])) rfl (hc d15_16) zt zk) ?_
  refine gS 20 [(.int (lcmpW (3 : Int64) (9 : Int64))), (.int 1)] (fun zt zk => XS.lcmp X136.here hx rfl (hc d15_19) rfl zk) ?_
  rw [show (lcmpW (3 : Int64) (9 : Int64)) = (-1 : Int32) by decide]
  refine gIN X136 hx (hc d15_20) ((if0 _ _).trans (flt (by decide)).2.2.1) (.refl 23) ?_
  refine gC (z := 1) X136 hx (hc d15_23) rfl (.refl 24) ?_
  refine gG (q := 28) X136 hx (hc d15_24) (by decide) ?_
  refine giand X136 hx (hc d15_28) (.refl 29) ?_
  rw [show ((1 : Int32) &&& (1 : Int32)) = (1 : Int32) by decide]
  refine gP 30 #[rv ob, iv 4, iv 1, iv 1] [] (fun zt zk => XS.istoreN X136.here hx rfl (hc d15_29) rfl (l' := _) rfl zk) ?_
  refine gP 33 #[rv ob, iv 4, iv 1, iv ((1 : Int32) + (1 : Int32))] [] (fun zt zk => XS.iinc X136.here hx rfl (hc d15_30) rfl (l' := _) rfl zk) ?_
  rw [show ((1 : Int32) + (1 : Int32)) = (2 : Int32) by decide]
  refine gG (q := 4) X136 hx (hc d15_33) (by decide) ?_
  refine gLN X136 hx (hc d15_4) rfl (.refl 5) ?_
  refine gLN X136 hx (hc d15_5) rfl (.refl 6) ?_
  refine gJN X136 hx (hc d15_6) (tlt (by decide)).2.1 (.refl 9) ?_
  refine gLN X136 hx (hc d15_9) rfl (.refl 10) ?_
  refine gAN X136 hx (hc d15_10) rfl (.refl 11) ?_
  refine gF X136 hx hZ hown (ow hw 27 rfl) Via.refl e136 Fw (hc d15_11) (.refl 14) ?_
  intro T138 X138 e138
  refine gLN X138 hx (hc d15_14) rfl (.refl 15) ?_
  refine gJA X138 hx hZ e138 Vw (.long 2) ⟨by decide, by decide⟩ rfl (hc d15_15) (.refl 16) ?_
  refine gS 19 [(.long 9), (.long 2), (.int 1)] (fun zt zk => X138.ldc2Long hx hown (mvT hZ (ow hw 86 rfl)) (g := (mkF m 16 #[rv ob, iv 4, iv 1, iv 2] [(.long 2), (.int 1)])) rfl (hc d15_16) zt zk) ?_
  refine gS 20 [(.int (lcmpW (2 : Int64) (9 : Int64))), (.int 1)] (fun zt zk => XS.lcmp X138.here hx rfl (hc d15_19) rfl zk) ?_
  rw [show (lcmpW (2 : Int64) (9 : Int64)) = (-1 : Int32) by decide]
  refine gIN X138 hx (hc d15_20) ((if0 _ _).trans (flt (by decide)).2.2.1) (.refl 23) ?_
  refine gC (z := 1) X138 hx (hc d15_23) rfl (.refl 24) ?_
  refine gG (q := 28) X138 hx (hc d15_24) (by decide) ?_
  refine giand X138 hx (hc d15_28) (.refl 29) ?_
  rw [show ((1 : Int32) &&& (1 : Int32)) = (1 : Int32) by decide]
  refine gP 30 #[rv ob, iv 4, iv 1, iv 2] [] (fun zt zk => XS.istoreN X138.here hx rfl (hc d15_29) rfl (l' := _) rfl zk) ?_
  refine gP 33 #[rv ob, iv 4, iv 1, iv ((2 : Int32) + (1 : Int32))] [] (fun zt zk => XS.iinc X138.here hx rfl (hc d15_30) rfl (l' := _) rfl zk) ?_
  rw [show ((2 : Int32) + (1 : Int32)) = (3 : Int32) by decide]
  refine gG (q := 4) X138 hx (hc d15_33) (by decide) ?_
  refine gLN X138 hx (hc d15_4) rfl (.refl 5) ?_
  refine gLN X138 hx (hc d15_5) rfl (.refl 6) ?_
  refine gJN X138 hx (hc d15_6) (tlt (by decide)).2.1 (.refl 9) ?_
  refine gLN X138 hx (hc d15_9) rfl (.refl 10) ?_
  refine gAN X138 hx (hc d15_10) rfl (.refl 11) ?_
  refine gF X138 hx hZ hown (ow hw 27 rfl) Via.refl e138 Fw (hc d15_11) (.refl 14) ?_
  intro T140 X140 e140
  refine gLN X140 hx (hc d15_14) rfl (.refl 15) ?_
  refine gJA X140 hx hZ e140 Vw (.long 1) ⟨by decide, by decide⟩ rfl (hc d15_15) (.refl 16) ?_
  refine gS 19 [(.long 9), (.long 1), (.int 1)] (fun zt zk => X140.ldc2Long hx hown (mvT hZ (ow hw 86 rfl)) (g := (mkF m 16 #[rv ob, iv 4, iv 1, iv 3] [(.long 1), (.int 1)])) rfl (hc d15_16) zt zk) ?_
  refine gS 20 [(.int (lcmpW (1 : Int64) (9 : Int64))), (.int 1)] (fun zt zk => XS.lcmp X140.here hx rfl (hc d15_19) rfl zk) ?_
  rw [show (lcmpW (1 : Int64) (9 : Int64)) = (-1 : Int32) by decide]
  refine gIN X140 hx (hc d15_20) ((if0 _ _).trans (flt (by decide)).2.2.1) (.refl 23) ?_
  refine gC (z := 1) X140 hx (hc d15_23) rfl (.refl 24) ?_
  refine gG (q := 28) X140 hx (hc d15_24) (by decide) ?_
  refine giand X140 hx (hc d15_28) (.refl 29) ?_
  rw [show ((1 : Int32) &&& (1 : Int32)) = (1 : Int32) by decide]
  refine gP 30 #[rv ob, iv 4, iv 1, iv 3] [] (fun zt zk => XS.istoreN X140.here hx rfl (hc d15_29) rfl (l' := _) rfl zk) ?_
  refine gP 33 #[rv ob, iv 4, iv 1, iv ((3 : Int32) + (1 : Int32))] [] (fun zt zk => XS.iinc X140.here hx rfl (hc d15_30) rfl (l' := _) rfl zk) ?_
  rw [show ((3 : Int32) + (1 : Int32)) = (4 : Int32) by decide]
  refine gG (q := 4) X140 hx (hc d15_33) (by decide) ?_
  refine gLN X140 hx (hc d15_4) rfl (.refl 5) ?_
  refine gLN X140 hx (hc d15_5) rfl (.refl 6) ?_
  refine gJY (q := 36) X140 hx (hc d15_6) (flt (by decide)).2.1 (by decide) ?_
  refine gLN X140 hx (hc d15_36) rfl (.refl 37) ?_
  exact Go.done X140 Bd.notSynchronized (v := some (.int (nar .boolean (1 : Int32)))) (fun h => by rw [Bd.returns] at h; cases h) (fun fs hr => retN X140 hx (t := .boolean) Bd.returns (by simp) (hc d15_37) hr) (by rw [e140]; exact ⟨rfl, N0, rfl⟩) (by decide) (by decide)
def Q_rmCL3 (Z : State) (ob aw : Addr) (kw : ClassId) (h0 : Heap) (n0 : Nat) (v : Option Value) (h : Heap) (L : List Loc) : Prop := v = none ∧ Fr n0 L ∧ Keep h0 h [aw] ∧ Arv Z h aw kw .long (257 : Int32) [(.long 2), (.long 2), (.long 1), (.long 1)] (.long 0)
set_option maxRecDepth 65536 in
set_option maxHeartbeats 40000000 in
theorem rmCL3 (l : Launch) (Z : State) (a0 : Array Value) (hw : ∀ d ∈ tables_1, d.before a0 Z = true) (ob aw : Addr) (kw : ClassId) (h0 : Heap) (n0 : Nat) (Z0 : n0 ≤ h0.size) (Fw : Fld Z h0 ob "com/example/tributary/tributary/join/LineCodes" "weights" "[J" (.ref aw)) (Vw : Arv Z h0 aw kw .long (257 : Int32) [(.long 1), (.long 1), (.long 2), (.long 1)] (.long 0)) (g_aw : n0 ≤ aw) (noa : ob ≠ aw) :
    MetFree l Y10 (head1 [Jvm.Cond.code Y10 prog_43_method_10_code 9 none] ({ frames := 0, cells := 0, slots := 0, locals := 0 } : Room)) (fun a U => a = #[(.ref ob), (.int 3)] ∧ Z.Warmed39 U.vm ∧ U.heap = h0) (fun _ _ _ _ _ => True) (fun _ U o U' => ∃ v L, o = .returned v ∧ (Q_rmCL3 Z ob aw kw h0 n0) v U'.heap L ∧ FrameEnd U o U' L ({ frames := 0, cells := 0, slots := 0, locals := 0 } : Room).cells ({ frames := 0, cells := 0, slots := 0, locals := 0 } : Room).slots) := by
  refine MetFree.of_bodySF (plainFor_of_name pn_81ef1d3) hisR ?_
  intro p e s m args below meth c s₁ Bd hml0 hP hK
  obtain ⟨rfl, hZ, hh⟩ := hP
  have hx := Bd.exec
  have hc : ∀ {pc : Nat} {r}, decode C14 pc = r → decode c.code pc = r := fun h2 => hb Bd.bytes h2
  have hml : c.maxLocals = 9 := hml0
  have hown : s.vm.findClass "com/example/tributary/tributary/join/LineCodes" = some m.cls := findClass_of_methodNamed Bd.named
  have hnm := (name_of_methodNamed Bd.named Bd.method).1
  have X0 : Stand p l e ({ frames := 0, cells := 0, slots := 0, locals := 0 } : Room) s m #[(.ref ob), (.int 3)] below meth c s₁ [] 0 0 := Stand.of_body Bd
  have e0 : s₁.heap = h0 := by rw [← hh, Bd.state]; rfl
  have N0 := Fr.nil n0
  have K0 : Keep h0 h0 [aw] := Keep.refl h0 [aw]
  show Go p e below (s₁.setTop (entryFrame m #[(.ref ob), (.int 3)] 9)) (EndN s (Q_rmCL3 Z ob aw kw h0 n0) ({ frames := 0, cells := 0, slots := 0, locals := 0 } : Room).cells ({ frames := 0, cells := 0, slots := 0, locals := 0 } : Room).slots)
  refine Go.top (ef_14 m ob (3 : Int32)) ?_
  refine gLN X0 hx (hc d14_0) rfl (.refl 1) ?_
  refine gC (z := 2) X0 hx (hc d14_1) rfl (.refl 2) ?_
  refine gJY (q := 16) X0 hx (hc d14_2) (flt (by decide)).2.1 (by decide) ?_
  refine gC (z := 0) X0 hx (hc d14_16) rfl (.refl 17) ?_
  refine gP 18 #[rv ob, iv 3, iv 0, .unset, .unset, .unset, .unset, .unset, .unset] [] (fun zt zk => XS.istoreN X0.here hx rfl (hc d14_17) rfl (l' := _) rfl zk) ?_
  refine gC (z := 0) X0 hx (hc d14_18) rfl (.refl 19) ?_
  refine gP 20 #[rv ob, iv 3, iv 0, iv 0, .unset, .unset, .unset, .unset, .unset] [] (fun zt zk => XS.istoreN X0.here hx rfl (hc d14_19) rfl (l' := _) rfl zk) ?_
  refine gC (z := 0) X0 hx (hc d14_20) rfl (.refl 21) ?_
  refine gP 23 #[rv ob, iv 3, iv 0, iv 0, iv 0, .unset, .unset, .unset, .unset] [] (fun zt zk => XS.istore X0.here hx rfl (hc d14_21) rfl (l' := _) rfl zk) ?_
  refine gL X0 hx (hc d14_23) rfl (.refl 25) ?_
  refine gLN X0 hx (hc d14_25) rfl (.refl 26) ?_
  refine gC (z := 1) X0 hx (hc d14_26) rfl (.refl 27) ?_
  refine gisub X0 hx (hc d14_27) (.refl 28) ?_
  rw [show ((3 : Int32) - (1 : Int32)) = (2 : Int32) by decide]
  refine gJN X0 hx (hc d14_28) (tlt (by decide)).2.1 (.refl 31) ?_
  refine gS 32 [(.long 0)] (fun zt zk => XS.lconst X0.here hx rfl (hc d14_31) zk) ?_
  refine gP 34 #[rv ob, iv 3, iv 0, iv 0, iv 0, .val (.long 0), .second, .unset, .unset] [] (fun zt zk => XS.lstore X0.here hx rfl (hc d14_32) rfl (l' := _) rfl zk) ?_
  refine gC (z := 0) X0 hx (hc d14_34) rfl (.refl 35) ?_
  refine gP 37 #[rv ob, iv 3, iv 0, iv 0, iv 0, .val (.long 0), .second, iv 0, .unset] [] (fun zt zk => XS.istore X0.here hx rfl (hc d14_35) rfl (l' := _) rfl zk) ?_
  refine gL X0 hx (hc d14_37) rfl (.refl 39) ?_
  refine gC (z := 2) X0 hx (hc d14_39) rfl (.refl 40) ?_
  refine gJN X0 hx (hc d14_40) (tlt (by decide)).2.1 (.refl 43) ?_
  refine gLN X0 hx (hc d14_43) rfl (.refl 44) ?_
  refine gLN X0 hx (hc d14_44) rfl (.refl 45) ?_
  refine gJN X0 hx (hc d14_45) (tlt (by decide)).2.1 (.refl 48) ?_
  refine gLN X0 hx (hc d14_48) rfl (.refl 49) ?_
  refine gL X0 hx (hc d14_49) rfl (.refl 51) ?_
  refine gJY (q := 96) X0 hx (hc d14_51) (flt (by decide)).2.1 (by decide) ?_
  refine gS 98 [(.long 0)] (fun zt zk => XS.lload X0.here hx rfl (hc d14_96) rfl zk) ?_
  refine gAN X0 hx (hc d14_98) rfl (.refl 99) ?_
  refine gF X0 hx hZ hown (ow hw 27 rfl) Via.refl e0 Fw (hc d14_99) (.refl 102) ?_
  intro T142 X142 e142
  refine gLN X142 hx (hc d14_102) rfl (.refl 103) ?_
  refine gP 106 #[rv ob, iv 3, iv ((0 : Int32) + (1 : Int32)), iv 0, iv 0, .val (.long 0), .second, iv 0, .unset] [(.int 0), (.ref aw), (.long 0)] (fun zt zk => XS.iinc X142.here hx rfl (hc d14_103) rfl (l' := _) rfl zk) ?_
  rw [show ((0 : Int32) + (1 : Int32)) = (1 : Int32) by decide]
  refine gJA X142 hx hZ e142 Vw (.long 1) ⟨by decide, by decide⟩ rfl (hc d14_106) (.refl 107) ?_
  refine gS 108 [(.long ((0 : Int64) + (1 : Int64)))] (fun zt zk => XS.ladd X142.here hx rfl (hc d14_107) rfl zk) ?_
  rw [show ((0 : Int64) + (1 : Int64)) = (1 : Int64) by decide]
  refine gP 110 #[rv ob, iv 3, iv 1, iv 0, iv 0, .val (.long 1), .second, iv 0, .unset] [] (fun zt zk => XS.lstore X142.here hx rfl (hc d14_108) rfl (l' := _) rfl zk) ?_
  refine gP 113 #[rv ob, iv 3, iv 1, iv 0, iv 0, .val (.long 1), .second, iv ((0 : Int32) + (1 : Int32)), .unset] [] (fun zt zk => XS.iinc X142.here hx rfl (hc d14_110) rfl (l' := _) rfl zk) ?_
  rw [show ((0 : Int32) + (1 : Int32)) = (1 : Int32) by decide]
  refine gG (q := 37) X142 hx (hc d14_113) (by decide) ?_
  refine gL X142 hx (hc d14_37) rfl (.refl 39) ?_
  refine gC (z := 2) X142 hx (hc d14_39) rfl (.refl 40) ?_
  refine gJN X142 hx (hc d14_40) (tlt (by decide)).2.1 (.refl 43) ?_
  refine gLN X142 hx (hc d14_43) rfl (.refl 44) ?_
  refine gLN X142 hx (hc d14_44) rfl (.refl 45) ?_
  refine gJN X142 hx (hc d14_45) (tlt (by decide)).2.1 (.refl 48) ?_
  refine gLN X142 hx (hc d14_48) rfl (.refl 49) ?_
  refine gL X142 hx (hc d14_49) rfl (.refl 51) ?_
  refine gJY (q := 96) X142 hx (hc d14_51) (flt (by decide)).2.1 (by decide) ?_
  refine gS 98 [(.long 1)] (fun zt zk => XS.lload X142.here hx rfl (hc d14_96) rfl zk) ?_
  refine gAN X142 hx (hc d14_98) rfl (.refl 99) ?_
  refine gF X142 hx hZ hown (ow hw 27 rfl) Via.refl e142 Fw (hc d14_99) (.refl 102) ?_
  intro T144 X144 e144
  refine gLN X144 hx (hc d14_102) rfl (.refl 103) ?_
  refine gP 106 #[rv ob, iv 3, iv ((1 : Int32) + (1 : Int32)), iv 0, iv 0, .val (.long 1), .second, iv 1, .unset] [(.int 1), (.ref aw), (.long 1)] (fun zt zk => XS.iinc X144.here hx rfl (hc d14_103) rfl (l' := _) rfl zk) ?_
  rw [show ((1 : Int32) + (1 : Int32)) = (2 : Int32) by decide]
  refine gJA X144 hx hZ e144 Vw (.long 1) ⟨by decide, by decide⟩ rfl (hc d14_106) (.refl 107) ?_
  refine gS 108 [(.long ((1 : Int64) + (1 : Int64)))] (fun zt zk => XS.ladd X144.here hx rfl (hc d14_107) rfl zk) ?_
  rw [show ((1 : Int64) + (1 : Int64)) = (2 : Int64) by decide]
  refine gP 110 #[rv ob, iv 3, iv 2, iv 0, iv 0, .val (.long 2), .second, iv 1, .unset] [] (fun zt zk => XS.lstore X144.here hx rfl (hc d14_108) rfl (l' := _) rfl zk) ?_
  refine gP 113 #[rv ob, iv 3, iv 2, iv 0, iv 0, .val (.long 2), .second, iv ((1 : Int32) + (1 : Int32)), .unset] [] (fun zt zk => XS.iinc X144.here hx rfl (hc d14_110) rfl (l' := _) rfl zk) ?_
  rw [show ((1 : Int32) + (1 : Int32)) = (2 : Int32) by decide]
  refine gG (q := 37) X144 hx (hc d14_113) (by decide) ?_
  refine gL X144 hx (hc d14_37) rfl (.refl 39) ?_
  refine gC (z := 2) X144 hx (hc d14_39) rfl (.refl 40) ?_
  refine gJY (q := 116) X144 hx (hc d14_40) (flt (by decide)).2.1 (by decide) ?_
  refine gAN X144 hx (hc d14_116) rfl (.refl 117) ?_
  refine gF X144 hx hZ hown (ow hw 27 rfl) Via.refl e144 Fw (hc d14_117) (.refl 120) ?_
  intro T146 X146 e146
  refine gL X146 hx (hc d14_120) rfl (.refl 122) ?_
  refine gS 124 [(.long 2), (.int 0), (.ref aw)] (fun zt zk => XS.lload X146.here hx rfl (hc d14_122) rfl zk) ?_
  refine gSJ X146 hx hZ e146 Vw ⟨by decide, by decide⟩ 0 rfl (Nat.le_of_ble_eq_true rfl) [(.long 2), (.long 1), (.long 2), (.long 1)] rfl (hc d14_124) (.refl 125) ?_
  intro T147 h147 X147 e147 W147 V147
  have K147 := K0.wr W147 (Or.inl (List.mem_of_getElem? (i := 0) rfl))
  have N147 := Fr.snoc X147 N0 g_aw
  refine gP 128 #[rv ob, iv 3, iv 2, iv 0, iv ((0 : Int32) + (1 : Int32)), .val (.long 2), .second, iv 2, .unset] [] (fun zt zk => XS.iinc X147.here hx rfl (hc d14_125) rfl (l' := _) rfl zk) ?_
  rw [show ((0 : Int32) + (1 : Int32)) = (1 : Int32) by decide]
  refine gG (q := 23) X147 hx (hc d14_128) (by decide) ?_
  refine gL X147 hx (hc d14_23) rfl (.refl 25) ?_
  refine gLN X147 hx (hc d14_25) rfl (.refl 26) ?_
  refine gC (z := 1) X147 hx (hc d14_26) rfl (.refl 27) ?_
  refine gisub X147 hx (hc d14_27) (.refl 28) ?_
  rw [show ((3 : Int32) - (1 : Int32)) = (2 : Int32) by decide]
  refine gJN X147 hx (hc d14_28) (tlt (by decide)).2.1 (.refl 31) ?_
  refine gS 32 [(.long 0)] (fun zt zk => XS.lconst X147.here hx rfl (hc d14_31) zk) ?_
  refine gP 34 #[rv ob, iv 3, iv 2, iv 0, iv 1, .val (.long 0), .second, iv 2, .unset] [] (fun zt zk => XS.lstore X147.here hx rfl (hc d14_32) rfl (l' := _) rfl zk) ?_
  refine gC (z := 0) X147 hx (hc d14_34) rfl (.refl 35) ?_
  refine gP 37 #[rv ob, iv 3, iv 2, iv 0, iv 1, .val (.long 0), .second, iv 0, .unset] [] (fun zt zk => XS.istore X147.here hx rfl (hc d14_35) rfl (l' := _) rfl zk) ?_
  refine gL X147 hx (hc d14_37) rfl (.refl 39) ?_
  refine gC (z := 2) X147 hx (hc d14_39) rfl (.refl 40) ?_
  refine gJN X147 hx (hc d14_40) (tlt (by decide)).2.1 (.refl 43) ?_
  refine gLN X147 hx (hc d14_43) rfl (.refl 44) ?_
  refine gLN X147 hx (hc d14_44) rfl (.refl 45) ?_
  refine gJN X147 hx (hc d14_45) (tlt (by decide)).2.1 (.refl 48) ?_
  refine gLN X147 hx (hc d14_48) rfl (.refl 49) ?_
  refine gL X147 hx (hc d14_49) rfl (.refl 51) ?_
  refine gJN X147 hx (hc d14_51) (tlt (by decide)).2.1 (.refl 54) ?_
  refine gAN X147 hx (hc d14_54) rfl (.refl 55) ?_
  have f148 := (Fw.other W147 (Or.inl noa))
  refine gF X147 hx hZ hown (ow hw 27 rfl) Via.refl e147 f148 (hc d14_55) (.refl 58) ?_
  intro T149 X149 e149
  refine gLN X149 hx (hc d14_58) rfl (.refl 59) ?_
  refine gJA X149 hx hZ e149 V147 (.long 2) ⟨by decide, by decide⟩ rfl (hc d14_59) (.refl 60) ?_
  refine gAN X149 hx (hc d14_60) rfl (.refl 61) ?_
  refine gF X149 hx hZ hown (ow hw 27 rfl) Via.refl e149 f148 (hc d14_61) (.refl 64) ?_
  intro T151 X151 e151
  refine gLN X151 hx (hc d14_64) rfl (.refl 65) ?_
  refine gJA X151 hx hZ e151 V147 (.long 2) ⟨by decide, by decide⟩ rfl (hc d14_65) (.refl 66) ?_
  refine gS 67 [(.int (lcmpW (2 : Int64) (2 : Int64)))] (fun zt zk => XS.lcmp X151.here hx rfl (hc d14_66) rfl zk) ?_
  rw [show (lcmpW (2 : Int64) (2 : Int64)) = (0 : Int32) by decide]
  refine gIY (q := 96) X151 hx (hc d14_67) ((if0 _ _).trans (flt (by decide)).2.1) (by decide) ?_
  refine gS 98 [(.long 0)] (fun zt zk => XS.lload X151.here hx rfl (hc d14_96) rfl zk) ?_
  refine gAN X151 hx (hc d14_98) rfl (.refl 99) ?_
  refine gF X151 hx hZ hown (ow hw 27 rfl) Via.refl e151 f148 (hc d14_99) (.refl 102) ?_
  intro T153 X153 e153
  refine gLN X153 hx (hc d14_102) rfl (.refl 103) ?_
  refine gP 106 #[rv ob, iv 3, iv ((2 : Int32) + (1 : Int32)), iv 0, iv 1, .val (.long 0), .second, iv 0, .unset] [(.int 2), (.ref aw), (.long 0)] (fun zt zk => XS.iinc X153.here hx rfl (hc d14_103) rfl (l' := _) rfl zk) ?_
  rw [show ((2 : Int32) + (1 : Int32)) = (3 : Int32) by decide]
  refine gJA X153 hx hZ e153 V147 (.long 2) ⟨by decide, by decide⟩ rfl (hc d14_106) (.refl 107) ?_
  refine gS 108 [(.long ((0 : Int64) + (2 : Int64)))] (fun zt zk => XS.ladd X153.here hx rfl (hc d14_107) rfl zk) ?_
  rw [show ((0 : Int64) + (2 : Int64)) = (2 : Int64) by decide]
  refine gP 110 #[rv ob, iv 3, iv 3, iv 0, iv 1, .val (.long 2), .second, iv 0, .unset] [] (fun zt zk => XS.lstore X153.here hx rfl (hc d14_108) rfl (l' := _) rfl zk) ?_
  refine gP 113 #[rv ob, iv 3, iv 3, iv 0, iv 1, .val (.long 2), .second, iv ((0 : Int32) + (1 : Int32)), .unset] [] (fun zt zk => XS.iinc X153.here hx rfl (hc d14_110) rfl (l' := _) rfl zk) ?_
  rw [show ((0 : Int32) + (1 : Int32)) = (1 : Int32) by decide]
  refine gG (q := 37) X153 hx (hc d14_113) (by decide) ?_
  refine gL X153 hx (hc d14_37) rfl (.refl 39) ?_
  refine gC (z := 2) X153 hx (hc d14_39) rfl (.refl 40) ?_
  refine gJN X153 hx (hc d14_40) (tlt (by decide)).2.1 (.refl 43) ?_
  refine gLN X153 hx (hc d14_43) rfl (.refl 44) ?_
  refine gLN X153 hx (hc d14_44) rfl (.refl 45) ?_
  refine gJY (q := 70) X153 hx (hc d14_45) (flt (by decide)).2.1 (by decide) ?_
  refine gS 72 [(.long 2)] (fun zt zk => XS.lload X153.here hx rfl (hc d14_70) rfl zk) ?_
  refine gAN X153 hx (hc d14_72) rfl (.refl 73) ?_
  refine gF X153 hx hZ hown (ow hw 27 rfl) Via.refl e153 f148 (hc d14_73) (.refl 76) ?_
  intro T155 X155 e155
  refine gLN X155 hx (hc d14_76) rfl (.refl 77) ?_
  refine gJA X155 hx hZ e155 V147 (.long 2) ⟨by decide, by decide⟩ rfl (hc d14_77) (.refl 78) ?_
  refine gS 79 [(.long ((2 : Int64) + (2 : Int64)))] (fun zt zk => XS.ladd X155.here hx rfl (hc d14_78) rfl zk) ?_
  rw [show ((2 : Int64) + (2 : Int64)) = (4 : Int64) by decide]
  refine gP 81 #[rv ob, iv 3, iv 3, iv 0, iv 1, .val (.long 4), .second, iv 1, .unset] [] (fun zt zk => XS.lstore X155.here hx rfl (hc d14_79) rfl (l' := _) rfl zk) ?_
  refine gAN X155 hx (hc d14_81) rfl (.refl 82) ?_
  refine gF X155 hx hZ hown (ow hw 27 rfl) Via.refl e155 f148 (hc d14_82) (.refl 85) ?_
  intro T157 X157 e157
  refine gLN X157 hx (hc d14_85) rfl (.refl 86) ?_
  refine gP 89 #[rv ob, iv 3, iv 3, iv ((0 : Int32) + (1 : Int32)), iv 1, .val (.long 4), .second, iv 1, .unset] [(.int 0), (.ref aw)] (fun zt zk => XS.iinc X157.here hx rfl (hc d14_86) rfl (l' := _) rfl zk) ?_
  rw [show ((0 : Int32) + (1 : Int32)) = (1 : Int32) by decide]
  refine gL X157 hx (hc d14_89) rfl (.refl 91) ?_
  refine gS 92 [(.long ((1 : Int32).toInt64)), (.int 0), (.ref aw)] (fun zt zk => XS.i2l X157.here hx rfl (hc d14_91) rfl zk) ?_
  rw [show ((1 : Int32).toInt64) = (1 : Int64) by decide]
  refine gSJ X157 hx hZ e157 V147 ⟨by decide, by decide⟩ 0 rfl (Nat.le_of_ble_eq_true rfl) [(.long 1), (.long 1), (.long 2), (.long 1)] rfl (hc d14_92) (.refl 93) ?_
  intro T158 h158 X158 e158 W158 V158
  have K158 := K147.wr W158 (Or.inl (List.mem_of_getElem? (i := 0) rfl))
  have N158 := Fr.snoc X158 N147 g_aw
  refine gG (q := 110) X158 hx (hc d14_93) (by decide) ?_
  refine gP 113 #[rv ob, iv 3, iv 3, iv 1, iv 1, .val (.long 4), .second, iv ((1 : Int32) + (1 : Int32)), .unset] [] (fun zt zk => XS.iinc X158.here hx rfl (hc d14_110) rfl (l' := _) rfl zk) ?_
  rw [show ((1 : Int32) + (1 : Int32)) = (2 : Int32) by decide]
  refine gG (q := 37) X158 hx (hc d14_113) (by decide) ?_
  refine gL X158 hx (hc d14_37) rfl (.refl 39) ?_
  refine gC (z := 2) X158 hx (hc d14_39) rfl (.refl 40) ?_
  refine gJY (q := 116) X158 hx (hc d14_40) (flt (by decide)).2.1 (by decide) ?_
  refine gAN X158 hx (hc d14_116) rfl (.refl 117) ?_
  have f159 := (f148.other W158 (Or.inl noa))
  refine gF X158 hx hZ hown (ow hw 27 rfl) Via.refl e158 f159 (hc d14_117) (.refl 120) ?_
  intro T160 X160 e160
  refine gL X160 hx (hc d14_120) rfl (.refl 122) ?_
  refine gS 124 [(.long 4), (.int 1), (.ref aw)] (fun zt zk => XS.lload X160.here hx rfl (hc d14_122) rfl zk) ?_
  refine gSJ X160 hx hZ e160 V158 ⟨by decide, by decide⟩ 1 rfl (Nat.le_of_ble_eq_true rfl) [(.long 1), (.long 4), (.long 2), (.long 1)] rfl (hc d14_124) (.refl 125) ?_
  intro T161 h161 X161 e161 W161 V161
  have K161 := K158.wr W161 (Or.inl (List.mem_of_getElem? (i := 0) rfl))
  have N161 := Fr.snoc X161 N158 g_aw
  refine gP 128 #[rv ob, iv 3, iv 3, iv 1, iv ((1 : Int32) + (1 : Int32)), .val (.long 4), .second, iv 2, .unset] [] (fun zt zk => XS.iinc X161.here hx rfl (hc d14_125) rfl (l' := _) rfl zk) ?_
  rw [show ((1 : Int32) + (1 : Int32)) = (2 : Int32) by decide]
  refine gG (q := 23) X161 hx (hc d14_128) (by decide) ?_
  refine gL X161 hx (hc d14_23) rfl (.refl 25) ?_
  refine gLN X161 hx (hc d14_25) rfl (.refl 26) ?_
  refine gC (z := 1) X161 hx (hc d14_26) rfl (.refl 27) ?_
  refine gisub X161 hx (hc d14_27) (.refl 28) ?_
  rw [show ((3 : Int32) - (1 : Int32)) = (2 : Int32) by decide]
  refine gJY (q := 131) X161 hx (hc d14_28) (flt (by decide)).2.1 (by decide) ?_
  refine gAN X161 hx (hc d14_131) rfl (.refl 132) ?_
  have f162 := (f159.other W161 (Or.inl noa))
  refine gF X161 hx hZ hown (ow hw 27 rfl) Via.refl e161 f162 (hc d14_132) (.refl 135) ?_
  intro T163 X163 e163
  refine gLN X163 hx (hc d14_135) rfl (.refl 136) ?_
  refine gC (z := 2) X163 hx (hc d14_136) rfl (.refl 137) ?_
  refine gisub X163 hx (hc d14_137) (.refl 138) ?_
  rw [show ((3 : Int32) - (2 : Int32)) = (1 : Int32) by decide]
  refine gS 139 [(.long 0), (.int 1), (.ref aw)] (fun zt zk => XS.lconst X163.here hx rfl (hc d14_138) zk) ?_
  refine gSJ X163 hx hZ e163 V161 ⟨by decide, by decide⟩ 1 rfl (Nat.le_of_ble_eq_true rfl) [(.long 1), (.long 0), (.long 2), (.long 1)] rfl (hc d14_139) (.refl 140) ?_
  intro T164 h164 X164 e164 W164 V164
  have K164 := K161.wr W164 (Or.inl (List.mem_of_getElem? (i := 0) rfl))
  have N164 := Fr.snoc X164 N161 g_aw
  refine gLN X164 hx (hc d14_140) rfl (.refl 141) ?_
  refine gC (z := 3) X164 hx (hc d14_141) rfl (.refl 142) ?_
  refine gisub X164 hx (hc d14_142) (.refl 143) ?_
  rw [show ((3 : Int32) - (3 : Int32)) = (0 : Int32) by decide]
  refine gP 145 #[rv ob, iv 3, iv 3, iv 1, iv 0, .val (.long 4), .second, iv 2, .unset] [] (fun zt zk => XS.istore X164.here hx rfl (hc d14_143) rfl (l' := _) rfl zk) ?_
  refine gL X164 hx (hc d14_145) rfl (.refl 147) ?_
  refine gIN X164 hx (hc d14_147) ((if0 _ _).trans (flt (by decide)).1) (.refl 150) ?_
  refine gAN X164 hx (hc d14_150) rfl (.refl 151) ?_
  have f165 := (f162.other W164 (Or.inl noa))
  refine gF X164 hx hZ hown (ow hw 27 rfl) Via.refl e164 f165 (hc d14_151) (.refl 154) ?_
  intro T166 X166 e166
  refine gL X166 hx (hc d14_154) rfl (.refl 156) ?_
  refine gAN X166 hx (hc d14_156) rfl (.refl 157) ?_
  refine gF X166 hx hZ hown (ow hw 27 rfl) Via.refl e166 f165 (hc d14_157) (.refl 160) ?_
  intro T167 X167 e167
  refine gAN X167 hx (hc d14_160) rfl (.refl 161) ?_
  refine gF X167 hx hZ hown (ow hw 27 rfl) Via.refl e167 f165 (hc d14_161) (.refl 164) ?_
  intro T168 X168 e168
  refine gL X168 hx (hc d14_164) rfl (.refl 166) ?_
  refine gJA X168 hx hZ e168 V164 (.long 1) ⟨by decide, by decide⟩ rfl (hc d14_166) (.refl 167) ?_
  refine gS 168 [(.int ((1 : Int64).toInt32)), (.ref aw), (.int 0), (.ref aw)] (fun zt zk => XS.l2i X168.here hx rfl (hc d14_167) rfl zk) ?_
  rw [show ((1 : Int64).toInt32) = (1 : Int32) by decide]
  refine gJA X168 hx hZ e168 V164 (.long 0) ⟨by decide, by decide⟩ rfl (hc d14_168) (.refl 169) ?_
  refine gS 170 [(.long 1), (.long 0), (.int 0), (.ref aw)] (fun zt zk => XS.lconst X168.here hx rfl (hc d14_169) zk) ?_
  refine gS 171 [(.long ((0 : Int64) + (1 : Int64))), (.int 0), (.ref aw)] (fun zt zk => XS.ladd X168.here hx rfl (hc d14_170) rfl zk) ?_
  rw [show ((0 : Int64) + (1 : Int64)) = (1 : Int64) by decide]
  refine gSJ X168 hx hZ e168 V164 ⟨by decide, by decide⟩ 0 rfl (Nat.le_of_ble_eq_true rfl) [(.long 1), (.long 0), (.long 2), (.long 1)] rfl (hc d14_171) (.refl 172) ?_
  intro T171 h171 X171 e171 W171 V171
  have K171 := K164.wr W171 (Or.inl (List.mem_of_getElem? (i := 0) rfl))
  have N171 := Fr.snoc X171 N164 g_aw
  refine gP 175 #[rv ob, iv 3, iv 3, iv 1, iv ((0 : Int32) + (-1 : Int32)), .val (.long 4), .second, iv 2, .unset] [] (fun zt zk => XS.iinc X171.here hx rfl (hc d14_172) rfl (l' := _) rfl zk) ?_
  rw [show ((0 : Int32) + (-1 : Int32)) = (-1 : Int32) by decide]
  refine gG (q := 145) X171 hx (hc d14_175) (by decide) ?_
  refine gL X171 hx (hc d14_145) rfl (.refl 147) ?_
  refine gIY (q := 178) X171 hx (hc d14_147) ((if0 _ _).trans (tlt (by decide)).1) (by decide) ?_
  refine gC (z := 1) X171 hx (hc d14_178) rfl (.refl 179) ?_
  refine gP 181 #[rv ob, iv 3, iv 3, iv 1, iv 1, .val (.long 4), .second, iv 2, .unset] [] (fun zt zk => XS.istore X171.here hx rfl (hc d14_179) rfl (l' := _) rfl zk) ?_
  refine gLN X171 hx (hc d14_181) rfl (.refl 182) ?_
  refine gC (z := 2) X171 hx (hc d14_182) rfl (.refl 183) ?_
  refine gisub X171 hx (hc d14_183) (.refl 184) ?_
  rw [show ((3 : Int32) - (2 : Int32)) = (1 : Int32) by decide]
  refine gP 186 #[rv ob, iv 3, iv 3, iv 1, iv 1, iv 1, .unset, iv 2, .unset] [] (fun zt zk => XS.istore X171.here hx rfl (hc d14_184) rfl (l' := _) rfl zk) ?_
  refine gLN X171 hx (hc d14_186) rfl (.refl 187) ?_
  refine gC (z := 1) X171 hx (hc d14_187) rfl (.refl 188) ?_
  refine gisub X171 hx (hc d14_188) (.refl 189) ?_
  rw [show ((3 : Int32) - (1 : Int32)) = (2 : Int32) by decide]
  refine gP 191 #[rv ob, iv 3, iv 3, iv 1, iv 1, iv 1, iv 2, iv 2, .unset] [] (fun zt zk => XS.istore X171.here hx rfl (hc d14_189) rfl (l' := _) rfl zk) ?_
  refine gC (z := 0) X171 hx (hc d14_191) rfl (.refl 192) ?_
  refine gP 194 #[rv ob, iv 3, iv 3, iv 1, iv 1, iv 1, iv 2, iv 0, .unset] [] (fun zt zk => XS.istore X171.here hx rfl (hc d14_192) rfl (l' := _) rfl zk) ?_
  refine gL X171 hx (hc d14_194) rfl (.refl 196) ?_
  refine gIN X171 hx (hc d14_196) ((if0 _ _).trans (tlt (by decide)).2.2.2) (.refl 199) ?_
  refine gC (z := 0) X171 hx (hc d14_199) rfl (.refl 200) ?_
  refine gP 202 #[rv ob, iv 3, iv 3, iv 1, iv 1, iv 1, iv 2, iv 0, iv 0] [] (fun zt zk => XS.istore X171.here hx rfl (hc d14_200) rfl (l' := _) rfl zk) ?_
  refine gL X171 hx (hc d14_202) rfl (.refl 204) ?_
  refine gIN X171 hx (hc d14_204) ((if0 _ _).trans (flt (by decide)).1) (.refl 207) ?_
  refine gAN X171 hx (hc d14_207) rfl (.refl 208) ?_
  have f172 := (f165.other W171 (Or.inl noa))
  refine gF X171 hx hZ hown (ow hw 27 rfl) Via.refl e171 f172 (hc d14_208) (.refl 211) ?_
  intro T173 X173 e173
  refine gL X173 hx (hc d14_211) rfl (.refl 213) ?_
  refine gJA X173 hx hZ e173 V171 (.long 0) ⟨by decide, by decide⟩ rfl (hc d14_213) (.refl 214) ?_
  refine gL X173 hx (hc d14_214) rfl (.refl 216) ?_
  refine gS 217 [(.long ((0 : Int32).toInt64)), (.long 0)] (fun zt zk => XS.i2l X173.here hx rfl (hc d14_216) rfl zk) ?_
  rw [show ((0 : Int32).toInt64) = (0 : Int64) by decide]
  refine gS 218 [(.int (lcmpW (0 : Int64) (0 : Int64)))] (fun zt zk => XS.lcmp X173.here hx rfl (hc d14_217) rfl zk) ?_
  rw [show (lcmpW (0 : Int64) (0 : Int64)) = (0 : Int32) by decide]
  refine gIN X173 hx (hc d14_218) ((if0 _ _).trans (teq (by decide)).2) (.refl 221) ?_
  refine gP 224 #[rv ob, iv 3, iv 3, iv 1, iv 1, iv 1, iv 2, iv 0, iv ((0 : Int32) + (1 : Int32))] [] (fun zt zk => XS.iinc X173.here hx rfl (hc d14_221) rfl (l' := _) rfl zk) ?_
  rw [show ((0 : Int32) + (1 : Int32)) = (1 : Int32) by decide]
  refine gP 227 #[rv ob, iv 3, iv 3, iv 1, iv 1, iv ((1 : Int32) + (-1 : Int32)), iv 2, iv 0, iv 1] [] (fun zt zk => XS.iinc X173.here hx rfl (hc d14_224) rfl (l' := _) rfl zk) ?_
  rw [show ((1 : Int32) + (-1 : Int32)) = (0 : Int32) by decide]
  refine gG (q := 202) X173 hx (hc d14_227) (by decide) ?_
  refine gL X173 hx (hc d14_202) rfl (.refl 204) ?_
  refine gIN X173 hx (hc d14_204) ((if0 _ _).trans (flt (by decide)).1) (.refl 207) ?_
  refine gAN X173 hx (hc d14_207) rfl (.refl 208) ?_
  refine gF X173 hx hZ hown (ow hw 27 rfl) Via.refl e173 f172 (hc d14_208) (.refl 211) ?_
  intro T175 X175 e175
  refine gL X175 hx (hc d14_211) rfl (.refl 213) ?_
  refine gJA X175 hx hZ e175 V171 (.long 1) ⟨by decide, by decide⟩ rfl (hc d14_213) (.refl 214) ?_
  refine gL X175 hx (hc d14_214) rfl (.refl 216) ?_
  refine gS 217 [(.long ((0 : Int32).toInt64)), (.long 1)] (fun zt zk => XS.i2l X175.here hx rfl (hc d14_216) rfl zk) ?_
  rw [show ((0 : Int32).toInt64) = (0 : Int64) by decide]
  refine gS 218 [(.int (lcmpW (1 : Int64) (0 : Int64)))] (fun zt zk => XS.lcmp X175.here hx rfl (hc d14_217) rfl zk) ?_
  rw [show (lcmpW (1 : Int64) (0 : Int64)) = (1 : Int32) by decide]
  refine gIY (q := 230) X175 hx (hc d14_218) ((if0 _ _).trans (feq (by decide)).2) (by decide) ?_
  refine gL X175 hx (hc d14_230) rfl (.refl 232) ?_
  refine gL X175 hx (hc d14_232) rfl (.refl 234) ?_
  refine gJY (q := 256) X175 hx (hc d14_234) (flt (by decide)).2.2.2 (by decide) ?_
  refine gC (z := 2) X175 hx (hc d14_256) rfl (.refl 257) ?_
  refine gL X175 hx (hc d14_257) rfl (.refl 259) ?_
  refine gimul X175 hx (hc d14_259) (.refl 260) ?_
  rw [show ((2 : Int32) * (1 : Int32)) = (2 : Int32) by decide]
  refine gP 262 #[rv ob, iv 3, iv 3, iv 1, iv 2, iv 0, iv 2, iv 0, iv 1] [] (fun zt zk => XS.istore X175.here hx rfl (hc d14_260) rfl (l' := _) rfl zk) ?_
  refine gP 265 #[rv ob, iv 3, iv 3, iv 1, iv 2, iv 0, iv 2, iv ((0 : Int32) + (1 : Int32)), iv 1] [] (fun zt zk => XS.iinc X175.here hx rfl (hc d14_262) rfl (l' := _) rfl zk) ?_
  rw [show ((0 : Int32) + (1 : Int32)) = (1 : Int32) by decide]
  refine gG (q := 194) X175 hx (hc d14_265) (by decide) ?_
  refine gL X175 hx (hc d14_194) rfl (.refl 196) ?_
  refine gIN X175 hx (hc d14_196) ((if0 _ _).trans (tlt (by decide)).2.2.2) (.refl 199) ?_
  refine gC (z := 0) X175 hx (hc d14_199) rfl (.refl 200) ?_
  refine gP 202 #[rv ob, iv 3, iv 3, iv 1, iv 2, iv 0, iv 2, iv 1, iv 0] [] (fun zt zk => XS.istore X175.here hx rfl (hc d14_200) rfl (l' := _) rfl zk) ?_
  refine gL X175 hx (hc d14_202) rfl (.refl 204) ?_
  refine gIN X175 hx (hc d14_204) ((if0 _ _).trans (flt (by decide)).1) (.refl 207) ?_
  refine gAN X175 hx (hc d14_207) rfl (.refl 208) ?_
  refine gF X175 hx hZ hown (ow hw 27 rfl) Via.refl e175 f172 (hc d14_208) (.refl 211) ?_
  intro T177 X177 e177
  refine gL X177 hx (hc d14_211) rfl (.refl 213) ?_
  refine gJA X177 hx hZ e177 V171 (.long 1) ⟨by decide, by decide⟩ rfl (hc d14_213) (.refl 214) ?_
  refine gL X177 hx (hc d14_214) rfl (.refl 216) ?_
  refine gS 217 [(.long ((1 : Int32).toInt64)), (.long 1)] (fun zt zk => XS.i2l X177.here hx rfl (hc d14_216) rfl zk) ?_
  rw [show ((1 : Int32).toInt64) = (1 : Int64) by decide]
  refine gS 218 [(.int (lcmpW (1 : Int64) (1 : Int64)))] (fun zt zk => XS.lcmp X177.here hx rfl (hc d14_217) rfl zk) ?_
  rw [show (lcmpW (1 : Int64) (1 : Int64)) = (0 : Int32) by decide]
  refine gIN X177 hx (hc d14_218) ((if0 _ _).trans (teq (by decide)).2) (.refl 221) ?_
  refine gP 224 #[rv ob, iv 3, iv 3, iv 1, iv 2, iv 0, iv 2, iv 1, iv ((0 : Int32) + (1 : Int32))] [] (fun zt zk => XS.iinc X177.here hx rfl (hc d14_221) rfl (l' := _) rfl zk) ?_
  rw [show ((0 : Int32) + (1 : Int32)) = (1 : Int32) by decide]
  refine gP 227 #[rv ob, iv 3, iv 3, iv 1, iv 2, iv ((0 : Int32) + (-1 : Int32)), iv 2, iv 1, iv 1] [] (fun zt zk => XS.iinc X177.here hx rfl (hc d14_224) rfl (l' := _) rfl zk) ?_
  rw [show ((0 : Int32) + (-1 : Int32)) = (-1 : Int32) by decide]
  refine gG (q := 202) X177 hx (hc d14_227) (by decide) ?_
  refine gL X177 hx (hc d14_202) rfl (.refl 204) ?_
  refine gIY (q := 230) X177 hx (hc d14_204) ((if0 _ _).trans (tlt (by decide)).1) (by decide) ?_
  refine gL X177 hx (hc d14_230) rfl (.refl 232) ?_
  refine gL X177 hx (hc d14_232) rfl (.refl 234) ?_
  refine gJN X177 hx (hc d14_234) (tlt (by decide)).2.2.2 (.refl 237) ?_
  refine gAN X177 hx (hc d14_237) rfl (.refl 238) ?_
  refine gF X177 hx hZ hown (ow hw 27 rfl) Via.refl e177 f172 (hc d14_238) (.refl 241) ?_
  intro T179 X179 e179
  refine gL X179 hx (hc d14_241) rfl (.refl 243) ?_
  refine gP 246 #[rv ob, iv 3, iv 3, iv 1, iv 2, iv (-1 : Int32), iv ((2 : Int32) + (-1 : Int32)), iv 1, iv 1] [(.int 2), (.ref aw)] (fun zt zk => XS.iinc X179.here hx rfl (hc d14_243) rfl (l' := _) rfl zk) ?_
  rw [show ((2 : Int32) + (-1 : Int32)) = (1 : Int32) by decide]
  refine gL X179 hx (hc d14_246) rfl (.refl 248) ?_
  refine gS 249 [(.long ((1 : Int32).toInt64)), (.int 2), (.ref aw)] (fun zt zk => XS.i2l X179.here hx rfl (hc d14_248) rfl zk) ?_
  rw [show ((1 : Int32).toInt64) = (1 : Int64) by decide]
  refine gSJ X179 hx hZ e179 V171 ⟨by decide, by decide⟩ 2 rfl (Nat.le_of_ble_eq_true rfl) [(.long 1), (.long 0), (.long 1), (.long 1)] rfl (hc d14_249) (.refl 250) ?_
  intro T180 h180 X180 e180 W180 V180
  have K180 := K171.wr W180 (Or.inl (List.mem_of_getElem? (i := 0) rfl))
  have N180 := Fr.snoc X180 N171 g_aw
  refine gP 253 #[rv ob, iv 3, iv 3, iv 1, iv ((2 : Int32) + (-1 : Int32)), iv (-1 : Int32), iv 1, iv 1, iv 1] [] (fun zt zk => XS.iinc X180.here hx rfl (hc d14_250) rfl (l' := _) rfl zk) ?_
  rw [show ((2 : Int32) + (-1 : Int32)) = (1 : Int32) by decide]
  refine gG (q := 230) X180 hx (hc d14_253) (by decide) ?_
  refine gL X180 hx (hc d14_230) rfl (.refl 232) ?_
  refine gL X180 hx (hc d14_232) rfl (.refl 234) ?_
  refine gJY (q := 256) X180 hx (hc d14_234) (flt (by decide)).2.2.2 (by decide) ?_
  refine gC (z := 2) X180 hx (hc d14_256) rfl (.refl 257) ?_
  refine gL X180 hx (hc d14_257) rfl (.refl 259) ?_
  refine gimul X180 hx (hc d14_259) (.refl 260) ?_
  rw [show ((2 : Int32) * (1 : Int32)) = (2 : Int32) by decide]
  refine gP 262 #[rv ob, iv 3, iv 3, iv 1, iv 2, iv (-1 : Int32), iv 1, iv 1, iv 1] [] (fun zt zk => XS.istore X180.here hx rfl (hc d14_260) rfl (l' := _) rfl zk) ?_
  refine gP 265 #[rv ob, iv 3, iv 3, iv 1, iv 2, iv (-1 : Int32), iv 1, iv ((1 : Int32) + (1 : Int32)), iv 1] [] (fun zt zk => XS.iinc X180.here hx rfl (hc d14_262) rfl (l' := _) rfl zk) ?_
  rw [show ((1 : Int32) + (1 : Int32)) = (2 : Int32) by decide]
  refine gG (q := 194) X180 hx (hc d14_265) (by decide) ?_
  refine gL X180 hx (hc d14_194) rfl (.refl 196) ?_
  refine gIN X180 hx (hc d14_196) ((if0 _ _).trans (tlt (by decide)).2.2.2) (.refl 199) ?_
  refine gC (z := 0) X180 hx (hc d14_199) rfl (.refl 200) ?_
  refine gP 202 #[rv ob, iv 3, iv 3, iv 1, iv 2, iv (-1 : Int32), iv 1, iv 2, iv 0] [] (fun zt zk => XS.istore X180.here hx rfl (hc d14_200) rfl (l' := _) rfl zk) ?_
  refine gL X180 hx (hc d14_202) rfl (.refl 204) ?_
  refine gIY (q := 230) X180 hx (hc d14_204) ((if0 _ _).trans (tlt (by decide)).1) (by decide) ?_
  refine gL X180 hx (hc d14_230) rfl (.refl 232) ?_
  refine gL X180 hx (hc d14_232) rfl (.refl 234) ?_
  refine gJN X180 hx (hc d14_234) (tlt (by decide)).2.2.2 (.refl 237) ?_
  refine gAN X180 hx (hc d14_237) rfl (.refl 238) ?_
  have f181 := (f172.other W180 (Or.inl noa))
  refine gF X180 hx hZ hown (ow hw 27 rfl) Via.refl e180 f181 (hc d14_238) (.refl 241) ?_
  intro T182 X182 e182
  refine gL X182 hx (hc d14_241) rfl (.refl 243) ?_
  refine gP 246 #[rv ob, iv 3, iv 3, iv 1, iv 2, iv (-1 : Int32), iv ((1 : Int32) + (-1 : Int32)), iv 2, iv 0] [(.int 1), (.ref aw)] (fun zt zk => XS.iinc X182.here hx rfl (hc d14_243) rfl (l' := _) rfl zk) ?_
  rw [show ((1 : Int32) + (-1 : Int32)) = (0 : Int32) by decide]
  refine gL X182 hx (hc d14_246) rfl (.refl 248) ?_
  refine gS 249 [(.long ((2 : Int32).toInt64)), (.int 1), (.ref aw)] (fun zt zk => XS.i2l X182.here hx rfl (hc d14_248) rfl zk) ?_
  rw [show ((2 : Int32).toInt64) = (2 : Int64) by decide]
  refine gSJ X182 hx hZ e182 V180 ⟨by decide, by decide⟩ 1 rfl (Nat.le_of_ble_eq_true rfl) [(.long 1), (.long 2), (.long 1), (.long 1)] rfl (hc d14_249) (.refl 250) ?_
  intro T183 h183 X183 e183 W183 V183
  have K183 := K180.wr W183 (Or.inl (List.mem_of_getElem? (i := 0) rfl))
  have N183 := Fr.snoc X183 N180 g_aw
  refine gP 253 #[rv ob, iv 3, iv 3, iv 1, iv ((2 : Int32) + (-1 : Int32)), iv (-1 : Int32), iv 0, iv 2, iv 0] [] (fun zt zk => XS.iinc X183.here hx rfl (hc d14_250) rfl (l' := _) rfl zk) ?_
  rw [show ((2 : Int32) + (-1 : Int32)) = (1 : Int32) by decide]
  refine gG (q := 230) X183 hx (hc d14_253) (by decide) ?_
  refine gL X183 hx (hc d14_230) rfl (.refl 232) ?_
  refine gL X183 hx (hc d14_232) rfl (.refl 234) ?_
  refine gJN X183 hx (hc d14_234) (tlt (by decide)).2.2.2 (.refl 237) ?_
  refine gAN X183 hx (hc d14_237) rfl (.refl 238) ?_
  have f184 := (f181.other W183 (Or.inl noa))
  refine gF X183 hx hZ hown (ow hw 27 rfl) Via.refl e183 f184 (hc d14_238) (.refl 241) ?_
  intro T185 X185 e185
  refine gL X185 hx (hc d14_241) rfl (.refl 243) ?_
  refine gP 246 #[rv ob, iv 3, iv 3, iv 1, iv 1, iv (-1 : Int32), iv ((0 : Int32) + (-1 : Int32)), iv 2, iv 0] [(.int 0), (.ref aw)] (fun zt zk => XS.iinc X185.here hx rfl (hc d14_243) rfl (l' := _) rfl zk) ?_
  rw [show ((0 : Int32) + (-1 : Int32)) = (-1 : Int32) by decide]
  refine gL X185 hx (hc d14_246) rfl (.refl 248) ?_
  refine gS 249 [(.long ((2 : Int32).toInt64)), (.int 0), (.ref aw)] (fun zt zk => XS.i2l X185.here hx rfl (hc d14_248) rfl zk) ?_
  rw [show ((2 : Int32).toInt64) = (2 : Int64) by decide]
  refine gSJ X185 hx hZ e185 V183 ⟨by decide, by decide⟩ 0 rfl (Nat.le_of_ble_eq_true rfl) [(.long 2), (.long 2), (.long 1), (.long 1)] rfl (hc d14_249) (.refl 250) ?_
  intro T186 h186 X186 e186 W186 V186
  have K186 := K183.wr W186 (Or.inl (List.mem_of_getElem? (i := 0) rfl))
  have N186 := Fr.snoc X186 N183 g_aw
  refine gP 253 #[rv ob, iv 3, iv 3, iv 1, iv ((1 : Int32) + (-1 : Int32)), iv (-1 : Int32), iv (-1 : Int32), iv 2, iv 0] [] (fun zt zk => XS.iinc X186.here hx rfl (hc d14_250) rfl (l' := _) rfl zk) ?_
  rw [show ((1 : Int32) + (-1 : Int32)) = (0 : Int32) by decide]
  refine gG (q := 230) X186 hx (hc d14_253) (by decide) ?_
  refine gL X186 hx (hc d14_230) rfl (.refl 232) ?_
  refine gL X186 hx (hc d14_232) rfl (.refl 234) ?_
  refine gJY (q := 256) X186 hx (hc d14_234) (flt (by decide)).2.2.2 (by decide) ?_
  refine gC (z := 2) X186 hx (hc d14_256) rfl (.refl 257) ?_
  refine gL X186 hx (hc d14_257) rfl (.refl 259) ?_
  refine gimul X186 hx (hc d14_259) (.refl 260) ?_
  rw [show ((2 : Int32) * (0 : Int32)) = (0 : Int32) by decide]
  refine gP 262 #[rv ob, iv 3, iv 3, iv 1, iv 0, iv (-1 : Int32), iv (-1 : Int32), iv 2, iv 0] [] (fun zt zk => XS.istore X186.here hx rfl (hc d14_260) rfl (l' := _) rfl zk) ?_
  refine gP 265 #[rv ob, iv 3, iv 3, iv 1, iv 0, iv (-1 : Int32), iv (-1 : Int32), iv ((2 : Int32) + (1 : Int32)), iv 0] [] (fun zt zk => XS.iinc X186.here hx rfl (hc d14_262) rfl (l' := _) rfl zk) ?_
  rw [show ((2 : Int32) + (1 : Int32)) = (3 : Int32) by decide]
  refine gG (q := 194) X186 hx (hc d14_265) (by decide) ?_
  refine gL X186 hx (hc d14_194) rfl (.refl 196) ?_
  refine gIY (q := 268) X186 hx (hc d14_196) ((if0 _ _).trans (flt (by decide)).2.2.2) (by decide) ?_
  exact Go.done X186 Bd.notSynchronized (v := none) (fun _ => rfl) (fun fs hr => X186.returnOut hx Bd.returns (hc d14_268) hr) (by rw [e186]; exact ⟨rfl, N186, K186, V186⟩) (by decide) (by decide)
def Q_rmFi3 (Z : State) (ob aw : Addr) (kw : ClassId) (h0 : Heap) (n0 : Nat) (v : Option Value) (h : Heap) (L : List Loc) : Prop := v = some (.int 1) ∧ Fr n0 L ∧ h = h0
set_option maxRecDepth 65536 in
set_option maxHeartbeats 40000000 in
theorem rmFi3 (l : Launch) (Z : State) (a0 : Array Value) (hw : ∀ d ∈ tables_1, d.before a0 Z = true) (ob aw : Addr) (kw : ClassId) (h0 : Heap) (n0 : Nat) (Z0 : n0 ≤ h0.size) (Fw : Fld Z h0 ob "com/example/tributary/tributary/join/LineCodes" "weights" "[J" (.ref aw)) (Vw : Arv Z h0 aw kw .long (257 : Int32) [(.long 2), (.long 2), (.long 1), (.long 1)] (.long 0)) :
    MetFree l Y11 (head1 [Jvm.Cond.code Y11 prog_43_method_9_code 4 (some .boolean)] ({ frames := 0, cells := 0, slots := 0, locals := 0 } : Room)) (fun a U => a = #[(.ref ob), (.int 3)] ∧ Z.Warmed39 U.vm ∧ U.heap = h0) (fun _ _ _ _ _ => True) (fun _ U o U' => ∃ v L, o = .returned v ∧ (Q_rmFi3 Z ob aw kw h0 n0) v U'.heap L ∧ FrameEnd U o U' L ({ frames := 0, cells := 0, slots := 0, locals := 0 } : Room).cells ({ frames := 0, cells := 0, slots := 0, locals := 0 } : Room).slots) := by
  refine MetFree.of_bodySF (plainFor_of_name pn_81ef1d3) hisR ?_
  intro p e s m args below meth c s₁ Bd hml0 hP hK
  obtain ⟨rfl, hZ, hh⟩ := hP
  have hx := Bd.exec
  have hc : ∀ {pc : Nat} {r}, decode C15 pc = r → decode c.code pc = r := fun h2 => hb Bd.bytes h2
  have hml : c.maxLocals = 4 := hml0
  have hown : s.vm.findClass "com/example/tributary/tributary/join/LineCodes" = some m.cls := findClass_of_methodNamed Bd.named
  have hnm := (name_of_methodNamed Bd.named Bd.method).1
  have X0 : Stand p l e ({ frames := 0, cells := 0, slots := 0, locals := 0 } : Room) s m #[(.ref ob), (.int 3)] below meth c s₁ [] 0 0 := Stand.of_body Bd
  have e0 : s₁.heap = h0 := by rw [← hh, Bd.state]; rfl
  have N0 := Fr.nil n0
  have K0 : Keep h0 h0 [] := Keep.refl h0 []
  show Go p e below (s₁.setTop (entryFrame m #[(.ref ob), (.int 3)] 4)) (EndN s (Q_rmFi3 Z ob aw kw h0 n0) ({ frames := 0, cells := 0, slots := 0, locals := 0 } : Room).cells ({ frames := 0, cells := 0, slots := 0, locals := 0 } : Room).slots)
  refine Go.top (ef_15 m ob (3 : Int32)) ?_
  refine gC (z := 1) X0 hx (hc d15_0) rfl (.refl 1) ?_
  refine gP 2 #[rv ob, iv 3, iv 1, .unset] [] (fun zt zk => XS.istoreN X0.here hx rfl (hc d15_1) rfl (l' := _) rfl zk) ?_
  refine gC (z := 0) X0 hx (hc d15_2) rfl (.refl 3) ?_
  refine gP 4 #[rv ob, iv 3, iv 1, iv 0] [] (fun zt zk => XS.istoreN X0.here hx rfl (hc d15_3) rfl (l' := _) rfl zk) ?_
  refine gLN X0 hx (hc d15_4) rfl (.refl 5) ?_
  refine gLN X0 hx (hc d15_5) rfl (.refl 6) ?_
  refine gJN X0 hx (hc d15_6) (tlt (by decide)).2.1 (.refl 9) ?_
  refine gLN X0 hx (hc d15_9) rfl (.refl 10) ?_
  refine gAN X0 hx (hc d15_10) rfl (.refl 11) ?_
  refine gF X0 hx hZ hown (ow hw 27 rfl) Via.refl e0 Fw (hc d15_11) (.refl 14) ?_
  intro T187 X187 e187
  refine gLN X187 hx (hc d15_14) rfl (.refl 15) ?_
  refine gJA X187 hx hZ e187 Vw (.long 2) ⟨by decide, by decide⟩ rfl (hc d15_15) (.refl 16) ?_
  refine gS 19 [(.long 9), (.long 2), (.int 1)] (fun zt zk => X187.ldc2Long hx hown (mvT hZ (ow hw 86 rfl)) (g := (mkF m 16 #[rv ob, iv 3, iv 1, iv 0] [(.long 2), (.int 1)])) rfl (hc d15_16) zt zk) ?_
  refine gS 20 [(.int (lcmpW (2 : Int64) (9 : Int64))), (.int 1)] (fun zt zk => XS.lcmp X187.here hx rfl (hc d15_19) rfl zk) ?_
  rw [show (lcmpW (2 : Int64) (9 : Int64)) = (-1 : Int32) by decide]
  refine gIN X187 hx (hc d15_20) ((if0 _ _).trans (flt (by decide)).2.2.1) (.refl 23) ?_
  refine gC (z := 1) X187 hx (hc d15_23) rfl (.refl 24) ?_
  refine gG (q := 28) X187 hx (hc d15_24) (by decide) ?_
  refine giand X187 hx (hc d15_28) (.refl 29) ?_
  rw [show ((1 : Int32) &&& (1 : Int32)) = (1 : Int32) by decide]
  refine gP 30 #[rv ob, iv 3, iv 1, iv 0] [] (fun zt zk => XS.istoreN X187.here hx rfl (hc d15_29) rfl (l' := _) rfl zk) ?_
  refine gP 33 #[rv ob, iv 3, iv 1, iv ((0 : Int32) + (1 : Int32))] [] (fun zt zk => XS.iinc X187.here hx rfl (hc d15_30) rfl (l' := _) rfl zk) ?_
  rw [show ((0 : Int32) + (1 : Int32)) = (1 : Int32) by decide]
  refine gG (q := 4) X187 hx (hc d15_33) (by decide) ?_
  refine gLN X187 hx (hc d15_4) rfl (.refl 5) ?_
  refine gLN X187 hx (hc d15_5) rfl (.refl 6) ?_
  refine gJN X187 hx (hc d15_6) (tlt (by decide)).2.1 (.refl 9) ?_
  refine gLN X187 hx (hc d15_9) rfl (.refl 10) ?_
  refine gAN X187 hx (hc d15_10) rfl (.refl 11) ?_
  refine gF X187 hx hZ hown (ow hw 27 rfl) Via.refl e187 Fw (hc d15_11) (.refl 14) ?_
  intro T189 X189 e189
  refine gLN X189 hx (hc d15_14) rfl (.refl 15) ?_
  refine gJA X189 hx hZ e189 Vw (.long 2) ⟨by decide, by decide⟩ rfl (hc d15_15) (.refl 16) ?_
  refine gS 19 [(.long 9), (.long 2), (.int 1)] (fun zt zk => X189.ldc2Long hx hown (mvT hZ (ow hw 86 rfl)) (g := (mkF m 16 #[rv ob, iv 3, iv 1, iv 1] [(.long 2), (.int 1)])) rfl (hc d15_16) zt zk) ?_
  refine gS 20 [(.int (lcmpW (2 : Int64) (9 : Int64))), (.int 1)] (fun zt zk => XS.lcmp X189.here hx rfl (hc d15_19) rfl zk) ?_
  rw [show (lcmpW (2 : Int64) (9 : Int64)) = (-1 : Int32) by decide]
  refine gIN X189 hx (hc d15_20) ((if0 _ _).trans (flt (by decide)).2.2.1) (.refl 23) ?_
  refine gC (z := 1) X189 hx (hc d15_23) rfl (.refl 24) ?_
  refine gG (q := 28) X189 hx (hc d15_24) (by decide) ?_
  refine giand X189 hx (hc d15_28) (.refl 29) ?_
  rw [show ((1 : Int32) &&& (1 : Int32)) = (1 : Int32) by decide]
  refine gP 30 #[rv ob, iv 3, iv 1, iv 1] [] (fun zt zk => XS.istoreN X189.here hx rfl (hc d15_29) rfl (l' := _) rfl zk) ?_
  refine gP 33 #[rv ob, iv 3, iv 1, iv ((1 : Int32) + (1 : Int32))] [] (fun zt zk => XS.iinc X189.here hx rfl (hc d15_30) rfl (l' := _) rfl zk) ?_
  rw [show ((1 : Int32) + (1 : Int32)) = (2 : Int32) by decide]
  refine gG (q := 4) X189 hx (hc d15_33) (by decide) ?_
  refine gLN X189 hx (hc d15_4) rfl (.refl 5) ?_
  refine gLN X189 hx (hc d15_5) rfl (.refl 6) ?_
  refine gJN X189 hx (hc d15_6) (tlt (by decide)).2.1 (.refl 9) ?_
  refine gLN X189 hx (hc d15_9) rfl (.refl 10) ?_
  refine gAN X189 hx (hc d15_10) rfl (.refl 11) ?_
  refine gF X189 hx hZ hown (ow hw 27 rfl) Via.refl e189 Fw (hc d15_11) (.refl 14) ?_
  intro T191 X191 e191
  refine gLN X191 hx (hc d15_14) rfl (.refl 15) ?_
  refine gJA X191 hx hZ e191 Vw (.long 1) ⟨by decide, by decide⟩ rfl (hc d15_15) (.refl 16) ?_
  refine gS 19 [(.long 9), (.long 1), (.int 1)] (fun zt zk => X191.ldc2Long hx hown (mvT hZ (ow hw 86 rfl)) (g := (mkF m 16 #[rv ob, iv 3, iv 1, iv 2] [(.long 1), (.int 1)])) rfl (hc d15_16) zt zk) ?_
  refine gS 20 [(.int (lcmpW (1 : Int64) (9 : Int64))), (.int 1)] (fun zt zk => XS.lcmp X191.here hx rfl (hc d15_19) rfl zk) ?_
  rw [show (lcmpW (1 : Int64) (9 : Int64)) = (-1 : Int32) by decide]
  refine gIN X191 hx (hc d15_20) ((if0 _ _).trans (flt (by decide)).2.2.1) (.refl 23) ?_
  refine gC (z := 1) X191 hx (hc d15_23) rfl (.refl 24) ?_
  refine gG (q := 28) X191 hx (hc d15_24) (by decide) ?_
  refine giand X191 hx (hc d15_28) (.refl 29) ?_
  rw [show ((1 : Int32) &&& (1 : Int32)) = (1 : Int32) by decide]
  refine gP 30 #[rv ob, iv 3, iv 1, iv 2] [] (fun zt zk => XS.istoreN X191.here hx rfl (hc d15_29) rfl (l' := _) rfl zk) ?_
  refine gP 33 #[rv ob, iv 3, iv 1, iv ((2 : Int32) + (1 : Int32))] [] (fun zt zk => XS.iinc X191.here hx rfl (hc d15_30) rfl (l' := _) rfl zk) ?_
  rw [show ((2 : Int32) + (1 : Int32)) = (3 : Int32) by decide]
  refine gG (q := 4) X191 hx (hc d15_33) (by decide) ?_
  refine gLN X191 hx (hc d15_4) rfl (.refl 5) ?_
  refine gLN X191 hx (hc d15_5) rfl (.refl 6) ?_
  refine gJY (q := 36) X191 hx (hc d15_6) (flt (by decide)).2.1 (by decide) ?_
  refine gLN X191 hx (hc d15_36) rfl (.refl 37) ?_
  exact Go.done X191 Bd.notSynchronized (v := some (.int (nar .boolean (1 : Int32)))) (fun h => by rw [Bd.returns] at h; cases h) (fun fs hr => retN X191 hx (t := .boolean) Bd.returns (by simp) (hc d15_37) hr) (by rw [e191]; exact ⟨rfl, N0, rfl⟩) (by decide) (by decide)
theorem own_as6 {z0 z1 z2 z3 z4 z5 : Value} {s6 s7 : Slot} {v : Int32} (h : One s6) : storeLocals #[.val z0, .val z1, .val z2, .val z3, .val z4, .val z5, s6, s7] 6 (.int v) = some #[.val z0, .val z1, .val z2, .val z3, .val z4, .val z5, .val (.int v), s7] := by
  rcases h with rfl | ⟨w, rfl, hw⟩
  · rfl
  · cases w <;> first | rfl | (simp [Value.category] at hw)
theorem own_as7 {z0 z1 z2 z3 z4 z5 z6 : Value} {s7 : Slot} {v : Int32} (h : One s7) : storeLocals #[.val z0, .val z1, .val z2, .val z3, .val z4, .val z5, .val z6, s7] 7 (.int v) = some #[.val z0, .val z1, .val z2, .val z3, .val z4, .val z5, .val z6, .val (.int v)] := by
  rcases h with rfl | ⟨w, rfl, hw⟩
  · rfl
  · cases w <;> first | rfl | (simp [Value.category] at hw)
abbrev C16 : ByteArray := prog_43_method_11_code
theorem d16_0 : decode C16 0 = .ok (.aload_n 2, 1) := by decide +kernel
theorem d16_1 : decode C16 1 = .ok (.iconst 0, 1) := by decide +kernel
theorem d16_2 : decode C16 2 = .ok (.invokestatic 95, 3) := by decide +kernel
theorem d16_5 : decode C16 5 = .ok (.iconst 0, 1) := by decide +kernel
theorem d16_6 : decode C16 6 = .ok (.istore 4, 2) := by decide +kernel
theorem d16_8 : decode C16 8 = .ok (.iload 4, 2) := by decide +kernel
theorem d16_10 : decode C16 10 = .ok (.iload_n 1, 1) := by decide +kernel
theorem d16_11 : decode C16 11 = .ok (.if_icmp .ge 27, 3) := by decide +kernel
theorem d16_14 : decode C16 14 = .ok (.aload_n 2, 1) := by decide +kernel
theorem d16_15 : decode C16 15 = .ok (.aload_n 0, 1) := by decide +kernel
theorem d16_16 : decode C16 16 = .ok (.getfield 32, 3) := by decide +kernel
theorem d16_19 : decode C16 19 = .ok (.iload 4, 2) := by decide +kernel
theorem d16_21 : decode C16 21 = .ok (.saload, 1) := by decide +kernel
theorem d16_22 : decode C16 22 = .ok (.aload_n 0, 1) := by decide +kernel
theorem d16_23 : decode C16 23 = .ok (.getfield 28, 3) := by decide +kernel
theorem d16_26 : decode C16 26 = .ok (.iload 4, 2) := by decide +kernel
theorem d16_28 : decode C16 28 = .ok (.laload, 1) := by decide +kernel
theorem d16_29 : decode C16 29 = .ok (.l2i, 1) := by decide +kernel
theorem d16_30 : decode C16 30 = .ok (.i2s, 1) := by decide +kernel
theorem d16_31 : decode C16 31 = .ok (.sastore, 1) := by decide +kernel
theorem d16_32 : decode C16 32 = .ok (.iinc 4 1, 3) := by decide +kernel
theorem d16_35 : decode C16 35 = .ok (.goto (-27), 3) := by decide +kernel
theorem d16_38 : decode C16 38 = .ok (.iconst 0, 1) := by decide +kernel
theorem d16_39 : decode C16 39 = .ok (.istore 4, 2) := by decide +kernel
theorem d16_41 : decode C16 41 = .ok (.iconst 1, 1) := by decide +kernel
theorem d16_42 : decode C16 42 = .ok (.istore 5, 2) := by decide +kernel
theorem d16_44 : decode C16 44 = .ok (.iload 5, 2) := by decide +kernel
theorem d16_46 : decode C16 46 = .ok (.bipush 9, 2) := by decide +kernel
theorem d16_48 : decode C16 48 = .ok (.if_icmp .gt 90, 3) := by decide +kernel
theorem d16_51 : decode C16 51 = .ok (.iconst 0, 1) := by decide +kernel
theorem d16_52 : decode C16 52 = .ok (.istore 6, 2) := by decide +kernel
theorem d16_54 : decode C16 54 = .ok (.iload 6, 2) := by decide +kernel
theorem d16_56 : decode C16 56 = .ok (.sipush 257, 3) := by decide +kernel
theorem d16_59 : decode C16 59 = .ok (.if_icmp .ge 67, 3) := by decide +kernel
theorem d16_62 : decode C16 62 = .ok (.aload_n 2, 1) := by decide +kernel
theorem d16_63 : decode C16 63 = .ok (.iload 6, 2) := by decide +kernel
theorem d16_65 : decode C16 65 = .ok (.saload, 1) := by decide +kernel
theorem d16_66 : decode C16 66 = .ok (.iload 5, 2) := by decide +kernel
theorem d16_68 : decode C16 68 = .ok (.if_icmp .ne 52, 3) := by decide +kernel
theorem d16_71 : decode C16 71 = .ok (.aload_n 2, 1) := by decide +kernel
theorem d16_72 : decode C16 72 = .ok (.iload 6, 2) := by decide +kernel
theorem d16_74 : decode C16 74 = .ok (.iload 4, 2) := by decide +kernel
theorem d16_76 : decode C16 76 = .ok (.iconst 4, 1) := by decide +kernel
theorem d16_77 : decode C16 77 = .ok (.ishl, 1) := by decide +kernel
theorem d16_78 : decode C16 78 = .ok (.iload 5, 2) := by decide +kernel
theorem d16_80 : decode C16 80 = .ok (.ior, 1) := by decide +kernel
theorem d16_81 : decode C16 81 = .ok (.i2s, 1) := by decide +kernel
theorem d16_82 : decode C16 82 = .ok (.sastore, 1) := by decide +kernel
theorem d16_83 : decode C16 83 = .ok (.iload 4, 2) := by decide +kernel
theorem d16_85 : decode C16 85 = .ok (.bipush 9, 2) := by decide +kernel
theorem d16_87 : decode C16 87 = .ok (.iload 5, 2) := by decide +kernel
theorem d16_89 : decode C16 89 = .ok (.isub, 1) := by decide +kernel
theorem d16_90 : decode C16 90 = .ok (.ishl, 1) := by decide +kernel
theorem d16_91 : decode C16 91 = .ok (.istore 7, 2) := by decide +kernel
theorem d16_93 : decode C16 93 = .ok (.aload_n 3, 1) := by decide +kernel
theorem d16_94 : decode C16 94 = .ok (.iload 7, 2) := by decide +kernel
theorem d16_96 : decode C16 96 = .ok (.iload 7, 2) := by decide +kernel
theorem d16_98 : decode C16 98 = .ok (.iconst 1, 1) := by decide +kernel
theorem d16_99 : decode C16 99 = .ok (.bipush 9, 2) := by decide +kernel
theorem d16_101 : decode C16 101 = .ok (.iload 5, 2) := by decide +kernel
theorem d16_103 : decode C16 103 = .ok (.isub, 1) := by decide +kernel
theorem d16_104 : decode C16 104 = .ok (.ishl, 1) := by decide +kernel
theorem d16_105 : decode C16 105 = .ok (.iadd, 1) := by decide +kernel
theorem d16_106 : decode C16 106 = .ok (.iload 6, 2) := by decide +kernel
theorem d16_108 : decode C16 108 = .ok (.iconst 4, 1) := by decide +kernel
theorem d16_109 : decode C16 109 = .ok (.ishl, 1) := by decide +kernel
theorem d16_110 : decode C16 110 = .ok (.iload 5, 2) := by decide +kernel
theorem d16_112 : decode C16 112 = .ok (.ior, 1) := by decide +kernel
theorem d16_113 : decode C16 113 = .ok (.i2s, 1) := by decide +kernel
theorem d16_114 : decode C16 114 = .ok (.invokestatic 98, 3) := by decide +kernel
theorem d16_117 : decode C16 117 = .ok (.iinc 4 1, 3) := by decide +kernel
theorem d16_120 : decode C16 120 = .ok (.iinc 6 1, 3) := by decide +kernel
theorem d16_123 : decode C16 123 = .ok (.goto (-69), 3) := by decide +kernel
theorem d16_126 : decode C16 126 = .ok (.iload 4, 2) := by decide +kernel
theorem d16_128 : decode C16 128 = .ok (.iconst 1, 1) := by decide +kernel
theorem d16_129 : decode C16 129 = .ok (.ishl, 1) := by decide +kernel
theorem d16_130 : decode C16 130 = .ok (.istore 4, 2) := by decide +kernel
theorem d16_132 : decode C16 132 = .ok (.iinc 5 1, 3) := by decide +kernel
theorem d16_135 : decode C16 135 = .ok (.goto (-91), 3) := by decide +kernel
theorem d16_138 : decode C16 138 = .ok (.return_, 1) := by decide +kernel
theorem pd_5409340 : parseMethodDescriptor "([SS)V" = some ⟨[(.array .short), .short], none⟩ := by decide +kernel
theorem pd_a8ecdac : parseMethodDescriptor "([SIIS)V" = some ⟨[(.array .short), .int, .int, .short], none⟩ := by decide +kernel
theorem ef_16 (m : MethodId) (x0 : Addr) (x1 : Int32) (x2 : Addr) (x3 : Addr) : entryFrame m #[(.ref x0), (.int x1), (.ref x2), (.ref x3)] 8 = mkF m 0 #[.val (.ref x0), .val (.int x1), .val (.ref x2), .val (.ref x3), .unset, .unset, .unset, .unset] [] := by first | (simp [entryFrame, mkF, argsToLocals, Value.category]; done) | rfl
def Q_rmAs4 (Z : State) (ob aw ao cr tr : Addr) (kw ko kr kt : ClassId) (q0 f0 : Nat → Int32) (us : List Value) (u0_ u1_ u2_ u3_ : Nat) (h0 : Heap) (n0 : Nat) (v : Option Value) (h : Heap) (L : List Loc) : Prop := v = none ∧ Fr n0 L ∧ Keep h0 h [cr, tr] ∧ Arv Z h cr kr .short (257 : Int32) (own_ar (own_seq (own_up (own_up (own_up (own_up (fun _ => (0 : Int32)) u0_ (3 : Int32)) u1_ (3 : Int32)) u2_ (2 : Int32)) u3_ (1 : Int32)) 9).1 257) (.int 0) ∧ ∃ vs : List Value, vs.length = 512 ∧ Arv Z h tr kt .short (512 : Int32) vs (.int 0)
set_option maxRecDepth 65536 in
set_option maxHeartbeats 40000000 in
theorem rmAs4 (l : Launch) (Z : State) (a0 : Array Value) (hw : ∀ d ∈ tables_1, d.before a0 Z = true) (ob aw ao cr tr : Addr) (kw ko kr kt : ClassId) (q0 f0 : Nat → Int32) (us : List Value) (u0_ u1_ u2_ u3_ : Nat) (h0 : Heap) (n0 : Nat) (Z0 : n0 ≤ h0.size) (Fw : Fld Z h0 ob "com/example/tributary/tributary/join/LineCodes" "weights" "[J" (.ref aw)) (Fo : Fld Z h0 ob "com/example/tributary/tributary/join/LineCodes" "order" "[S" (.ref ao)) (Vw : Arv Z h0 aw kw .long (257 : Int32) [(.long 3), (.long 3), (.long 2), (.long 1)] (.long 0)) (Vo : Arv Z h0 ao ko .short (257 : Int32) (own_ar q0 257) (.int 0)) (Vr : Arv Z h0 cr kr .short (257 : Int32) (own_ar f0 257) (.int 0)) (Vt : Arv Z h0 tr kt .short (512 : Int32) us (.int 0)) (hus : us.length = 512) (g_cr : n0 ≤ cr) (g_tr : n0 ≤ tr) (nes : cr ≠ tr ∧ aw ≠ cr ∧ aw ≠ tr ∧ ao ≠ cr ∧ ao ≠ tr ∧ ob ≠ cr ∧ ob ≠ tr) (hq0 : q0 0 = Int32.ofNat u0_) (hu0 : u0_ < 257) (hq1 : q0 1 = Int32.ofNat u1_) (hu1 : u1_ < 257) (hq2 : q0 2 = Int32.ofNat u2_) (hu2 : u2_ < 257) (hq3 : q0 3 = Int32.ofNat u3_) (hu3 : u3_ < 257) (hkr : own_kraft (own_up (own_up (own_up (own_up (fun _ => (0 : Int32)) u0_ (3 : Int32)) u1_ (3 : Int32)) u2_ (2 : Int32)) u3_ (1 : Int32))) :
    MetFree l Y12 (head1 [Jvm.Cond.code Y12 prog_43_method_11_code 8 none] ({ frames := 2, cells := 0, slots := 0, locals := 30 } : Room)) (fun a U => a = #[(.ref ob), (.int 4), (.ref cr), (.ref tr)] ∧ Z.Warmed39 U.vm ∧ U.heap = h0) (fun _ _ _ _ _ => True) (fun _ U o U' => ∃ v L, o = .returned v ∧ (Q_rmAs4 Z ob aw ao cr tr kw ko kr kt q0 f0 us u0_ u1_ u2_ u3_ h0 n0) v U'.heap L ∧ FrameEnd U o U' L ({ frames := 2, cells := 0, slots := 0, locals := 30 } : Room).cells ({ frames := 2, cells := 0, slots := 0, locals := 30 } : Room).slots) := by
  refine MetFree.of_bodySF (plainFor_of_name pn_81ef1d3) hisR ?_
  intro p e s m args below meth c s₁ Bd hml0 hP hK
  obtain ⟨rfl, hZ, hh⟩ := hP
  have hx := Bd.exec
  have hc : ∀ {pc : Nat} {r}, decode C16 pc = r → decode c.code pc = r := fun h2 => hb Bd.bytes h2
  have hml : c.maxLocals = 8 := hml0
  have hown : s.vm.findClass "com/example/tributary/tributary/join/LineCodes" = some m.cls := findClass_of_methodNamed Bd.named
  have hnm := (name_of_methodNamed Bd.named Bd.method).1
  have X0 : Stand p l e ({ frames := 2, cells := 0, slots := 0, locals := 30 } : Room) s m #[(.ref ob), (.int 4), (.ref cr), (.ref tr)] below meth c s₁ [] 0 0 := Stand.of_body Bd
  have e0 : s₁.heap = h0 := by rw [← hh, Bd.state]; rfl
  have N0 := Fr.nil n0
  have K0 : Keep h0 h0 [cr, tr] := Keep.refl h0 [cr, tr]
  show Go p e below (s₁.setTop (entryFrame m #[(.ref ob), (.int 4), (.ref cr), (.ref tr)] 8)) (EndN s (Q_rmAs4 Z ob aw ao cr tr kw ko kr kt q0 f0 us u0_ u1_ u2_ u3_ h0 n0) ({ frames := 2, cells := 0, slots := 0, locals := 30 } : Room).cells ({ frames := 2, cells := 0, slots := 0, locals := 30 } : Room).slots)
  refine Go.top (ef_16 m ob (4 : Int32) cr tr) ?_
  refine gAN X0 hx (hc d16_0) rfl (.refl 1) ?_
  refine gC (z := 0) X0 hx (hc d16_1) rfl (.refl 2) ?_
  obtain ⟨vr193, _, ⟨T193, L193, k193, n193⟩, -, X193, ⟨Lc193, hQ193, l193, y193, z193⟩, st193⟩ := Jvm.LawKit.callS X0 hx (y := Y1) hown (mvT hZ (ow hw 91 rfl)) (mvT hZ (ow hw 92 rfl)) (mvT hZ (ow hw 63 rfl)) (mvT hZ (ow hw 93 rfl)) (by decide) (backOf (W := 0) (rmFill l Z a0 hw cr kr f0 h0 n0 Z0 Vr g_cr) hZ (ow hw 93 rfl) (ow hw 63 rfl) (by decide) (by decide)) (g := (mkF m 2 #[rv ob, iv 4, rv cr, rv tr, .unset, .unset, .unset, .unset] [(.int 0), (.ref cr)])) rfl (by rw [hml]; rfl) (argsL := [(.ref cr), (.int 0)]) (rest := []) (lenOf pd_5409340 rfl) rfl (by show 2 * 0 + _ ≤ _; exact Nat.le_of_eq rfl) (hc d16_2) (fun _ _ => ⟨rfl, e0, (by decide : 0 + 0 ≤ _), (by decide : 0 + 0 ≤ _)⟩)
  dsimp only [Pt.U, Pt.locs, Pt.cells, Pt.slots] at X193 l193 y193 z193 st193 hQ193
  subst l193 y193 z193
  obtain ⟨rfl, Nq193, Kq193, V193⟩ := hQ193
  have KK194 := K0.trans Kq193 (allS (Or.inl (List.mem_of_getElem? (i := 0) rfl)) all0)
  have NN195 := Fr.app N0 Nq193
  refine gT T193 5 [] (fun zt zk => st193 zt zk) ?_
  refine gC (z := 0) X193 hx (hc d16_5) rfl (.refl 6) ?_
  refine gP 8 #[rv ob, iv 4, rv cr, rv tr, iv 0, .unset, .unset, .unset] [] (fun zt zk => XS.istore X193.here hx rfl (hc d16_6) rfl (l' := _) rfl zk) ?_
  refine gL X193 hx (hc d16_8) rfl (.refl 10) ?_
  refine gLN X193 hx (hc d16_10) rfl (.refl 11) ?_
  refine gJN X193 hx (hc d16_11) (tlt (by decide)).2.1 (.refl 14) ?_
  refine gAN X193 hx (hc d16_14) rfl (.refl 15) ?_
  refine gAN X193 hx (hc d16_15) rfl (.refl 16) ?_
  have f196 := (Fo.keep Kq193 (ninS nes.2.2.2.2.2.1 nin0))
  refine gF X193 hx hZ hown (ow hw 29 rfl) Via.refl rfl f196 (hc d16_16) (.refl 19) ?_
  intro T197 X197 e197
  refine gL X197 hx (hc d16_19) rfl (.refl 21) ?_
  have f198 := (Vo.keep Kq193 (ninS nes.2.2.2.1 nin0))
  refine gSA X197 hx hZ e197 f198 (.int (q0 0)) ⟨by decide, by decide⟩ (own_arg q0 (i := 0) (by omega) (by omega) _) (hc d16_21) (.refl 22) ?_
  rw [hq0]
  refine gAN X197 hx (hc d16_22) rfl (.refl 23) ?_
  have f200 := (Fw.keep Kq193 (ninS nes.2.2.2.2.2.1 nin0))
  refine gF X197 hx hZ hown (ow hw 27 rfl) Via.refl e197 f200 (hc d16_23) (.refl 26) ?_
  intro T201 X201 e201
  refine gL X201 hx (hc d16_26) rfl (.refl 28) ?_
  have f202 := (Vw.keep Kq193 (ninS nes.2.1 nin0))
  refine gJA X201 hx hZ e201 f202 (.long 3) ⟨by decide, by decide⟩ rfl (hc d16_28) (.refl 29) ?_
  refine gS 30 [(.int ((3 : Int64).toInt32)), (.int (Int32.ofNat u0_)), (.ref cr)] (fun zt zk => XS.l2i X201.here hx rfl (hc d16_29) rfl zk) ?_
  rw [show ((3 : Int64).toInt32) = (3 : Int32) by decide]
  refine gS 31 [(.int ((3 : Int32).toInt16.toInt32)), (.int (Int32.ofNat u0_)), (.ref cr)] (fun zt zk => XS.i2s X201.here hx rfl (hc d16_30) rfl zk) ?_
  rw [show ((3 : Int32).toInt16.toInt32) = (3 : Int32) by decide]
  refine gSS X201 hx hZ e201 V193 ⟨own_nn (by omega), (own_lt32 (n := 257) (by omega) (by omega)).mpr (by omega)⟩ u0_ (own_clamp (by omega)) (by rw [own_arl]; omega) ((own_ar (fun _ => (0 : Int32)) 257).set u0_ (.int (nar .short (3 : Int32)))) rfl (hc d16_31) (.refl 32) ?_
  intro T204 h204 X204 e204 W204 V204
  have K204 := KK194.wr W204 (Or.inl (List.mem_of_getElem? (i := 0) rfl))
  have N204 := Fr.snoc X204 NN195 g_cr
  rw [own_ars (fun _ => (0 : Int32)) (by omega)] at V204
  rw [show nar .short (3 : Int32) = (3 : Int32) by decide] at V204
  refine gP 35 #[rv ob, iv 4, rv cr, rv tr, iv ((0 : Int32) + (1 : Int32)), .unset, .unset, .unset] [] (fun zt zk => XS.iinc X204.here hx rfl (hc d16_32) rfl (l' := _) rfl zk) ?_
  rw [show ((0 : Int32) + (1 : Int32)) = (1 : Int32) by decide]
  refine gG (q := 8) X204 hx (hc d16_35) (by decide) ?_
  refine gL X204 hx (hc d16_8) rfl (.refl 10) ?_
  refine gLN X204 hx (hc d16_10) rfl (.refl 11) ?_
  refine gJN X204 hx (hc d16_11) (tlt (by decide)).2.1 (.refl 14) ?_
  refine gAN X204 hx (hc d16_14) rfl (.refl 15) ?_
  refine gAN X204 hx (hc d16_15) rfl (.refl 16) ?_
  have f206 := (f196.other W204 (Or.inl nes.2.2.2.2.2.1))
  refine gF X204 hx hZ hown (ow hw 29 rfl) Via.refl e204 f206 (hc d16_16) (.refl 19) ?_
  intro T207 X207 e207
  refine gL X207 hx (hc d16_19) rfl (.refl 21) ?_
  have f208 := (f198.other W204 nes.2.2.2.1)
  refine gSA X207 hx hZ e207 f208 (.int (q0 1)) ⟨by decide, by decide⟩ (own_arg q0 (i := 1) (by omega) (by omega) _) (hc d16_21) (.refl 22) ?_
  rw [hq1]
  refine gAN X207 hx (hc d16_22) rfl (.refl 23) ?_
  have f210 := (f200.other W204 (Or.inl nes.2.2.2.2.2.1))
  refine gF X207 hx hZ hown (ow hw 27 rfl) Via.refl e207 f210 (hc d16_23) (.refl 26) ?_
  intro T211 X211 e211
  refine gL X211 hx (hc d16_26) rfl (.refl 28) ?_
  have f212 := (f202.other W204 nes.2.1)
  refine gJA X211 hx hZ e211 f212 (.long 3) ⟨by decide, by decide⟩ rfl (hc d16_28) (.refl 29) ?_
  refine gS 30 [(.int ((3 : Int64).toInt32)), (.int (Int32.ofNat u1_)), (.ref cr)] (fun zt zk => XS.l2i X211.here hx rfl (hc d16_29) rfl zk) ?_
  rw [show ((3 : Int64).toInt32) = (3 : Int32) by decide]
  refine gS 31 [(.int ((3 : Int32).toInt16.toInt32)), (.int (Int32.ofNat u1_)), (.ref cr)] (fun zt zk => XS.i2s X211.here hx rfl (hc d16_30) rfl zk) ?_
  rw [show ((3 : Int32).toInt16.toInt32) = (3 : Int32) by decide]
  refine gSS X211 hx hZ e211 V204 ⟨own_nn (by omega), (own_lt32 (n := 257) (by omega) (by omega)).mpr (by omega)⟩ u1_ (own_clamp (by omega)) (by rw [own_arl]; omega) ((own_ar (own_up (fun _ => (0 : Int32)) u0_ (3 : Int32)) 257).set u1_ (.int (nar .short (3 : Int32)))) rfl (hc d16_31) (.refl 32) ?_
  intro T214 h214 X214 e214 W214 V214
  have K214 := K204.wr W214 (Or.inl (List.mem_of_getElem? (i := 0) rfl))
  have N214 := Fr.snoc X214 N204 g_cr
  rw [own_ars (own_up (fun _ => (0 : Int32)) u0_ (3 : Int32)) (by omega)] at V214
  rw [show nar .short (3 : Int32) = (3 : Int32) by decide] at V214
  refine gP 35 #[rv ob, iv 4, rv cr, rv tr, iv ((1 : Int32) + (1 : Int32)), .unset, .unset, .unset] [] (fun zt zk => XS.iinc X214.here hx rfl (hc d16_32) rfl (l' := _) rfl zk) ?_
  rw [show ((1 : Int32) + (1 : Int32)) = (2 : Int32) by decide]
  refine gG (q := 8) X214 hx (hc d16_35) (by decide) ?_
  refine gL X214 hx (hc d16_8) rfl (.refl 10) ?_
  refine gLN X214 hx (hc d16_10) rfl (.refl 11) ?_
  refine gJN X214 hx (hc d16_11) (tlt (by decide)).2.1 (.refl 14) ?_
  refine gAN X214 hx (hc d16_14) rfl (.refl 15) ?_
  refine gAN X214 hx (hc d16_15) rfl (.refl 16) ?_
  have f216 := (f206.other W214 (Or.inl nes.2.2.2.2.2.1))
  refine gF X214 hx hZ hown (ow hw 29 rfl) Via.refl e214 f216 (hc d16_16) (.refl 19) ?_
  intro T217 X217 e217
  refine gL X217 hx (hc d16_19) rfl (.refl 21) ?_
  have f218 := (f208.other W214 nes.2.2.2.1)
  refine gSA X217 hx hZ e217 f218 (.int (q0 2)) ⟨by decide, by decide⟩ (own_arg q0 (i := 2) (by omega) (by omega) _) (hc d16_21) (.refl 22) ?_
  rw [hq2]
  refine gAN X217 hx (hc d16_22) rfl (.refl 23) ?_
  have f220 := (f210.other W214 (Or.inl nes.2.2.2.2.2.1))
  refine gF X217 hx hZ hown (ow hw 27 rfl) Via.refl e217 f220 (hc d16_23) (.refl 26) ?_
  intro T221 X221 e221
  refine gL X221 hx (hc d16_26) rfl (.refl 28) ?_
  have f222 := (f212.other W214 nes.2.1)
  refine gJA X221 hx hZ e221 f222 (.long 2) ⟨by decide, by decide⟩ rfl (hc d16_28) (.refl 29) ?_
  refine gS 30 [(.int ((2 : Int64).toInt32)), (.int (Int32.ofNat u2_)), (.ref cr)] (fun zt zk => XS.l2i X221.here hx rfl (hc d16_29) rfl zk) ?_
  rw [show ((2 : Int64).toInt32) = (2 : Int32) by decide]
  refine gS 31 [(.int ((2 : Int32).toInt16.toInt32)), (.int (Int32.ofNat u2_)), (.ref cr)] (fun zt zk => XS.i2s X221.here hx rfl (hc d16_30) rfl zk) ?_
  rw [show ((2 : Int32).toInt16.toInt32) = (2 : Int32) by decide]
  refine gSS X221 hx hZ e221 V214 ⟨own_nn (by omega), (own_lt32 (n := 257) (by omega) (by omega)).mpr (by omega)⟩ u2_ (own_clamp (by omega)) (by rw [own_arl]; omega) ((own_ar (own_up (own_up (fun _ => (0 : Int32)) u0_ (3 : Int32)) u1_ (3 : Int32)) 257).set u2_ (.int (nar .short (2 : Int32)))) rfl (hc d16_31) (.refl 32) ?_
  intro T224 h224 X224 e224 W224 V224
  have K224 := K214.wr W224 (Or.inl (List.mem_of_getElem? (i := 0) rfl))
  have N224 := Fr.snoc X224 N214 g_cr
  rw [own_ars (own_up (own_up (fun _ => (0 : Int32)) u0_ (3 : Int32)) u1_ (3 : Int32)) (by omega)] at V224
  rw [show nar .short (2 : Int32) = (2 : Int32) by decide] at V224
  refine gP 35 #[rv ob, iv 4, rv cr, rv tr, iv ((2 : Int32) + (1 : Int32)), .unset, .unset, .unset] [] (fun zt zk => XS.iinc X224.here hx rfl (hc d16_32) rfl (l' := _) rfl zk) ?_
  rw [show ((2 : Int32) + (1 : Int32)) = (3 : Int32) by decide]
  refine gG (q := 8) X224 hx (hc d16_35) (by decide) ?_
  refine gL X224 hx (hc d16_8) rfl (.refl 10) ?_
  refine gLN X224 hx (hc d16_10) rfl (.refl 11) ?_
  refine gJN X224 hx (hc d16_11) (tlt (by decide)).2.1 (.refl 14) ?_
  refine gAN X224 hx (hc d16_14) rfl (.refl 15) ?_
  refine gAN X224 hx (hc d16_15) rfl (.refl 16) ?_
  have f226 := (f216.other W224 (Or.inl nes.2.2.2.2.2.1))
  refine gF X224 hx hZ hown (ow hw 29 rfl) Via.refl e224 f226 (hc d16_16) (.refl 19) ?_
  intro T227 X227 e227
  refine gL X227 hx (hc d16_19) rfl (.refl 21) ?_
  have f228 := (f218.other W224 nes.2.2.2.1)
  refine gSA X227 hx hZ e227 f228 (.int (q0 3)) ⟨by decide, by decide⟩ (own_arg q0 (i := 3) (by omega) (by omega) _) (hc d16_21) (.refl 22) ?_
  rw [hq3]
  refine gAN X227 hx (hc d16_22) rfl (.refl 23) ?_
  have f230 := (f220.other W224 (Or.inl nes.2.2.2.2.2.1))
  refine gF X227 hx hZ hown (ow hw 27 rfl) Via.refl e227 f230 (hc d16_23) (.refl 26) ?_
  intro T231 X231 e231
  refine gL X231 hx (hc d16_26) rfl (.refl 28) ?_
  have f232 := (f222.other W224 nes.2.1)
  refine gJA X231 hx hZ e231 f232 (.long 1) ⟨by decide, by decide⟩ rfl (hc d16_28) (.refl 29) ?_
  refine gS 30 [(.int ((1 : Int64).toInt32)), (.int (Int32.ofNat u3_)), (.ref cr)] (fun zt zk => XS.l2i X231.here hx rfl (hc d16_29) rfl zk) ?_
  rw [show ((1 : Int64).toInt32) = (1 : Int32) by decide]
  refine gS 31 [(.int ((1 : Int32).toInt16.toInt32)), (.int (Int32.ofNat u3_)), (.ref cr)] (fun zt zk => XS.i2s X231.here hx rfl (hc d16_30) rfl zk) ?_
  rw [show ((1 : Int32).toInt16.toInt32) = (1 : Int32) by decide]
  refine gSS X231 hx hZ e231 V224 ⟨own_nn (by omega), (own_lt32 (n := 257) (by omega) (by omega)).mpr (by omega)⟩ u3_ (own_clamp (by omega)) (by rw [own_arl]; omega) ((own_ar (own_up (own_up (own_up (fun _ => (0 : Int32)) u0_ (3 : Int32)) u1_ (3 : Int32)) u2_ (2 : Int32)) 257).set u3_ (.int (nar .short (1 : Int32)))) rfl (hc d16_31) (.refl 32) ?_
  intro T234 h234 X234 e234 W234 V234
  have K234 := K224.wr W234 (Or.inl (List.mem_of_getElem? (i := 0) rfl))
  have N234 := Fr.snoc X234 N224 g_cr
  rw [own_ars (own_up (own_up (own_up (fun _ => (0 : Int32)) u0_ (3 : Int32)) u1_ (3 : Int32)) u2_ (2 : Int32)) (by omega)] at V234
  rw [show nar .short (1 : Int32) = (1 : Int32) by decide] at V234
  refine gP 35 #[rv ob, iv 4, rv cr, rv tr, iv ((3 : Int32) + (1 : Int32)), .unset, .unset, .unset] [] (fun zt zk => XS.iinc X234.here hx rfl (hc d16_32) rfl (l' := _) rfl zk) ?_
  rw [show ((3 : Int32) + (1 : Int32)) = (4 : Int32) by decide]
  refine gG (q := 8) X234 hx (hc d16_35) (by decide) ?_
  refine gL X234 hx (hc d16_8) rfl (.refl 10) ?_
  refine gLN X234 hx (hc d16_10) rfl (.refl 11) ?_
  refine gJY (q := 38) X234 hx (hc d16_11) (flt (by decide)).2.1 (by decide) ?_
  refine gC (z := 0) X234 hx (hc d16_38) rfl (.refl 39) ?_
  refine gP 41 #[rv ob, iv 4, rv cr, rv tr, iv 0, .unset, .unset, .unset] [] (fun zt zk => XS.istore X234.here hx rfl (hc d16_39) rfl (l' := _) rfl zk) ?_
  refine gC (z := 1) X234 hx (hc d16_41) rfl (.refl 42) ?_
  refine gP 44 #[rv ob, iv 4, rv cr, rv tr, iv 0, iv 1, .unset, .unset] [] (fun zt zk => XS.istore X234.here hx rfl (hc d16_42) rfl (l' := _) rfl zk) ?_
  obtain ⟨LX236, XX236, NX236⟩ : ∃ LX, Stand p l e ({ frames := 2, cells := 0, slots := 0, locals := 30 } : Room) s m #[(.ref ob), (.int 4), (.ref cr), (.ref tr)] below meth c T234 LX 0 0 ∧ Fr n0 LX := ⟨_, X234, N234⟩
  obtain ⟨ff, hff⟩ : ∃ z, z = (own_up (own_up (own_up (own_up (fun _ => (0 : Int32)) u0_ (3 : Int32)) u1_ (3 : Int32)) u2_ (2 : Int32)) u3_ (1 : Int32)) := ⟨_, rfl⟩
  have f237 := (((((Vt.keep Kq193 (ninS (Ne.symm nes.1) nin0)).other W204 (Ne.symm nes.1)).other W214 (Ne.symm nes.1)).other W224 (Ne.symm nes.1)).other W234 (Ne.symm nes.1))
  rw [← hff] at V234 hkr
  suffices loop : ∀ (r : Nat), r ≤ 9 → ∀ (TL : State) (hL : Heap) (LL : List Loc) (s6 s7 : Slot) (vs : List Value), Stand p l e ({ frames := 2, cells := 0, slots := 0, locals := 30 } : Room) s m #[(.ref ob), (.int 4), (.ref cr), (.ref tr)] below meth c TL LL 0 0 → TL.heap = hL → Fr n0 LL → Keep h0 hL [cr, tr] → One s6 → One s7 → Arv Z hL cr kr .short (257 : Int32) (own_ar (own_seq ff (9 - r)).1 257) (.int 0) → vs.length = 512 → Arv Z hL tr kt .short (512 : Int32) vs (.int 0) → Go p e below (TL.setTop (mkF m 44 #[rv ob, iv 4, rv cr, rv tr, iv (Int32.ofNat (own_seq ff (9 - r)).2), iv (Int32.ofNat (10 - r)), s6, s7] [])) (EndN s (Q_rmAs4 Z ob aw ao cr tr kw ko kr kt q0 f0 us u0_ u1_ u2_ u3_ h0 n0) ({ frames := 2, cells := 0, slots := 0, locals := 30 } : Room).cells ({ frames := 2, cells := 0, slots := 0, locals := 30 } : Room).slots) by
    exact loop 9 (Nat.le_refl _) T234 _ _ .unset .unset us XX236 e234 NX236 K234 One.u One.u V234 hus f237
  intro r
  induction r with
  | zero =>
   intro hr TL hL LL s6 s7 vs XL eL NL KL hs6 hs7 VL hvl VT
   refine gL XL hx (hc d16_44) rfl (.refl 46) ?_
   refine gB (z := 9) XL hx (hc d16_46) rfl (.refl 48) ?_
   refine gJY (q := 138) XL hx (hc d16_48) (tlt (by decide)).2.2.1 (by decide) ?_
   exact Go.done XL Bd.notSynchronized (v := none) (fun _ => rfl) (fun fs hr => XL.returnOut hx Bd.returns (hc d16_138) hr) (by rw [eL]; exact ⟨rfl, NL, KL, by rw [← hff]; exact VL, vs, hvl, VT⟩) (by decide) (by decide)
  | succ r ih =>
   intro hr TL hL LL s6 s7 vs XL eL NL KL hs6 hs7 VL hvl VT
   obtain ⟨k, hk⟩ : ∃ k, k = 9 - (r + 1) := ⟨_, rfl⟩
   have hkk := hkr k (by omega)
   rw [← hk] at VL ⊢
   rw [show 10 - (r + 1) = k + 1 by omega]
   obtain ⟨g, hg⟩ : ∃ z, z = (own_seq ff k).1 := ⟨_, rfl⟩
   obtain ⟨co, hco⟩ : ∃ z, z = (own_seq ff k).2 := ⟨_, rfl⟩
   rw [← hg, ← hco] at hkk
   rw [← hg] at VL
   rw [← hco]
   have hp2 : 2 ^ (k + 1) ≤ 2 ^ 9 := Nat.pow_le_pow_right (by omega) (by omega)
   refine gL XL hx (hc d16_44) rfl (.refl 46) ?_
   refine gB (z := 9) XL hx (hc d16_46) rfl (.refl 48) ?_
   refine gJN XL hx (hc d16_48) (flt (fun q => absurd ((own_lt32 (i := 9) (by omega) (by omega)).mp q) (by omega))).2.2.1 (.refl 51) ?_
   refine gC (z := 0) XL hx (hc d16_51) rfl (.refl 52) ?_
   refine gP 54 #[rv ob, iv 4, rv cr, rv tr, iv (Int32.ofNat co), iv (Int32.ofNat (k + 1)), iv 0, s7] [] (fun zt zk => XS.istore XL.here hx rfl (hc d16_52) rfl (l' := _) (own_as6 hs6) zk) ?_
   suffices inner : ∀ (u : Nat), u ≤ 257 → ∀ (TL : State) (hL : Heap) (LL : List Loc) (z7 : Slot) (vs : List Value), Stand p l e ({ frames := 2, cells := 0, slots := 0, locals := 30 } : Room) s m #[(.ref ob), (.int 4), (.ref cr), (.ref tr)] below meth c TL LL 0 0 → TL.heap = hL → Fr n0 LL → Keep h0 hL [cr, tr] → One z7 → Arv Z hL cr kr .short (257 : Int32) (own_ar (own_as g (k + 1) co (257 - u)) 257) (.int 0) → vs.length = 512 → Arv Z hL tr kt .short (512 : Int32) vs (.int 0) → Go p e below (TL.setTop (mkF m 54 #[rv ob, iv 4, rv cr, rv tr, iv (Int32.ofNat (co + own_ct g (Int32.ofNat (k + 1)) (257 - u))), iv (Int32.ofNat (k + 1)), iv (Int32.ofNat (257 - u)), z7] [])) (EndN s (Q_rmAs4 Z ob aw ao cr tr kw ko kr kt q0 f0 us u0_ u1_ u2_ u3_ h0 n0) ({ frames := 2, cells := 0, slots := 0, locals := 30 } : Room).cells ({ frames := 2, cells := 0, slots := 0, locals := 30 } : Room).slots) by
     exact inner 257 (Nat.le_refl _) TL _ _ s7 vs XL eL NL KL hs7 (by rw [Nat.sub_self, own_as0]; exact VL) hvl VT
   clear hvl VT VL
   intro u
   induction u with
   | zero =>
    intro hu TL hL LL z7 vs XL eL NL KL hz7 VL hvl VT
    refine gL XL hx (hc d16_54) rfl (.refl 56) ?_
    refine gH (z := 257) XL hx (hc d16_56) rfl (.refl 59) ?_
    refine gJY (q := 126) XL hx (hc d16_59) (flt (fun q => absurd ((own_lt32 (n := 257) (by omega) (by omega)).mp q) (by omega))).2.1 (by decide) ?_
    refine gL XL hx (hc d16_126) rfl (.refl 128) ?_
    refine gC (z := 1) XL hx (hc d16_128) rfl (.refl 129) ?_
    refine gS 130 [(.int ((Int32.ofNat (co + own_ct g (Int32.ofNat (k + 1)) (257 - 0))) <<< ((1 : Int32) &&& 31)))] (fun zt zk => XS.ishl XL.here hx rfl (hc d16_129) rfl zk) ?_
    rw [own_dbl (by rw [Nat.sub_zero]; omega)]
    refine gP 132 #[rv ob, iv 4, rv cr, rv tr, iv (Int32.ofNat (2 * (co + own_ct g (Int32.ofNat (k + 1)) (257 - 0)))), iv (Int32.ofNat (k + 1)), iv (Int32.ofNat (257 - 0)), z7] [] (fun zt zk => XS.istore XL.here hx rfl (hc d16_130) rfl (l' := _) rfl zk) ?_
    refine gP 135 #[rv ob, iv 4, rv cr, rv tr, iv (Int32.ofNat (2 * (co + own_ct g (Int32.ofNat (k + 1)) (257 - 0)))), iv ((Int32.ofNat (k + 1)) + (1 : Int32)), iv (Int32.ofNat (257 - 0)), z7] [] (fun zt zk => XS.iinc XL.here hx rfl (hc d16_132) rfl (l' := _) rfl zk) ?_
    rw [own_addn (k := (1 : Int32)) (b := 1) rfl (by omega)]
    refine gG (q := 44) XL hx (hc d16_135) (by decide) ?_
    have q1 : (own_seq ff (9 - r)).2 = 2 * (co + own_ct g (Int32.ofNat (k + 1)) (257 - 0)) := by rw [show 9 - r = k + 1 by omega, hco, hg]; rfl
    have q2 : (own_seq ff (9 - r)).1 = own_as g (k + 1) co (257 - 0) := by rw [show 9 - r = k + 1 by omega, hco, hg]; rfl
    have := ih (by omega) _ _ _ (.val (.int (Int32.ofNat (257 - 0)))) z7 vs XL eL NL KL (One.val rfl) hz7 (by rw [q2]; exact VL) hvl VT
    rw [q1, show 10 - r = k + 1 + 1 by omega] at this
    exact this
   | succ u iu =>
    intro hu TL hL LL z7 vs XL eL NL KL hz7 VL hvl VT
    obtain ⟨i, hi⟩ : ∃ i, i = 257 - (u + 1) := ⟨_, rfl⟩
    rw [← hi] at VL ⊢
    have hcm := own_ctm g (Int32.ofNat (k + 1)) (i + 1) (257 - (i + 1))
    rw [show i + 1 + (257 - (i + 1)) = 257 by omega] at hcm
    refine gL XL hx (hc d16_54) rfl (.refl 56) ?_
    refine gH (z := 257) XL hx (hc d16_56) rfl (.refl 59) ?_
    refine gJN XL hx (hc d16_59) (tlt ((own_lt32 (n := 257) (by omega) (by omega)).mpr (by omega))).2.1 (.refl 62) ?_
    refine gAN XL hx (hc d16_62) rfl (.refl 63) ?_
    refine gL XL hx (hc d16_63) rfl (.refl 65) ?_
    refine gSA XL hx hZ eL VL (.int ((own_as g (k + 1) co i) i)) ⟨own_nn (by omega), (own_lt32 (n := 257) (by omega) (by omega)).mpr (by omega)⟩ (own_arg (own_as g (k + 1) co i) (by omega) (by omega) _) (hc d16_65) (.refl 66) ?_
    rw [own_asi]
    refine gL XL hx (hc d16_66) rfl (.refl 68) ?_
    by_cases hge : (g i) = (Int32.ofNat (k + 1))
    ·
     refine gJN XL hx (hc d16_68) (teq hge).2 (.refl 71) ?_
     have hcy := own_cty hge
     obtain ⟨hsf, hs5⟩ := own_shf (len := k + 1) (c := co + own_ct g (Int32.ofNat (k + 1)) i) (by omega) (by omega) (by omega)
     refine gAN XL hx (hc d16_71) rfl (.refl 72) ?_
     refine gL XL hx (hc d16_72) rfl (.refl 74) ?_
     refine gL XL hx (hc d16_74) rfl (.refl 76) ?_
     refine gC (z := 4) XL hx (hc d16_76) rfl (.refl 77) ?_
     refine gS 78 [(.int ((Int32.ofNat (co + own_ct g (Int32.ofNat (k + 1)) i)) <<< ((4 : Int32) &&& 31))), (.int (Int32.ofNat i)), (.ref cr)] (fun zt zk => XS.ishl XL.here hx rfl (hc d16_77) rfl zk) ?_
     refine gL XL hx (hc d16_78) rfl (.refl 80) ?_
     refine gS 81 [(.int (((Int32.ofNat (co + own_ct g (Int32.ofNat (k + 1)) i)) <<< ((4 : Int32) &&& 31)) ||| (Int32.ofNat (k + 1)))), (.int (Int32.ofNat i)), (.ref cr)] (fun zt zk => XS.ior XL.here hx rfl (hc d16_80) rfl zk) ?_
     refine gS 82 [(.int ((((Int32.ofNat (co + own_ct g (Int32.ofNat (k + 1)) i)) <<< ((4 : Int32) &&& 31)) ||| (Int32.ofNat (k + 1))).toInt16.toInt32)), (.int (Int32.ofNat i)), (.ref cr)] (fun zt zk => XS.i2s XL.here hx rfl (hc d16_81) rfl zk) ?_
     refine gSS XL hx hZ eL VL ⟨own_nn (by omega), (own_lt32 (n := 257) (by omega) (by omega)).mpr (by omega)⟩ i (own_clamp (by omega)) (by rw [own_arl]; omega) ((own_ar (own_as g (k + 1) co i) 257).set i (.int (own_cv (co + own_ct g (Int32.ofNat (k + 1)) i) (k + 1)))) rfl (hc d16_82) (.refl 83) ?_
     intro T239 h239 X239 e239 W239 V239
     have K239 := KL.wr W239 (Or.inl (List.mem_of_getElem? (i := 0) rfl))
     have N239 := Fr.snoc X239 NL g_cr
     rw [own_ars _ (by omega), own_asy g (k + 1) co i hge] at V239
     refine gL X239 hx (hc d16_83) rfl (.refl 85) ?_
     refine gB (z := 9) X239 hx (hc d16_85) rfl (.refl 87) ?_
     refine gL X239 hx (hc d16_87) rfl (.refl 89) ?_
     refine gisub X239 hx (hc d16_89) (.refl 90) ?_
     rw [own_9m (by omega)]
     refine gS 91 [(.int ((Int32.ofNat (co + own_ct g (Int32.ofNat (k + 1)) i)) <<< ((Int32.ofNat (9 - (k + 1))) &&& 31)))] (fun zt zk => XS.ishl X239.here hx rfl (hc d16_90) rfl zk) ?_
     rw [hsf]
     refine gP 93 #[rv ob, iv 4, rv cr, rv tr, iv (Int32.ofNat (co + own_ct g (Int32.ofNat (k + 1)) i)), iv (Int32.ofNat (k + 1)), iv (Int32.ofNat i), iv (Int32.ofNat ((co + own_ct g (Int32.ofNat (k + 1)) i) * 2 ^ (9 - (k + 1))))] [] (fun zt zk => XS.istore X239.here hx rfl (hc d16_91) rfl (l' := _) (own_as7 hz7) zk) ?_
     refine gAN X239 hx (hc d16_93) rfl (.refl 94) ?_
     refine gL X239 hx (hc d16_94) rfl (.refl 96) ?_
     refine gL X239 hx (hc d16_96) rfl (.refl 98) ?_
     refine gC (z := 1) X239 hx (hc d16_98) rfl (.refl 99) ?_
     refine gB (z := 9) X239 hx (hc d16_99) rfl (.refl 101) ?_
     refine gL X239 hx (hc d16_101) rfl (.refl 103) ?_
     refine gisub X239 hx (hc d16_103) (.refl 104) ?_
     rw [own_9m (by omega)]
     refine gS 105 [(.int ((1 : Int32) <<< ((Int32.ofNat (9 - (k + 1))) &&& 31))), (.int (Int32.ofNat ((co + own_ct g (Int32.ofNat (k + 1)) i) * 2 ^ (9 - (k + 1))))), (.int (Int32.ofNat ((co + own_ct g (Int32.ofNat (k + 1)) i) * 2 ^ (9 - (k + 1))))), (.ref tr)] (fun zt zk => XS.ishl X239.here hx rfl (hc d16_104) rfl zk) ?_
     rw [own_sh1 (by omega)]
     refine giadd X239 hx (hc d16_105) (.refl 106) ?_
     rw [own_add (by omega)]
     refine gL X239 hx (hc d16_106) rfl (.refl 108) ?_
     refine gC (z := 4) X239 hx (hc d16_108) rfl (.refl 109) ?_
     refine gS 110 [(.int ((Int32.ofNat i) <<< ((4 : Int32) &&& 31))), (.int (Int32.ofNat (((co + own_ct g (Int32.ofNat (k + 1)) i) * 2 ^ (9 - (k + 1))) + 2 ^ (9 - (k + 1))))), (.int (Int32.ofNat ((co + own_ct g (Int32.ofNat (k + 1)) i) * 2 ^ (9 - (k + 1))))), (.ref tr)] (fun zt zk => XS.ishl X239.here hx rfl (hc d16_109) rfl zk) ?_
     refine gL X239 hx (hc d16_110) rfl (.refl 112) ?_
     refine gS 113 [(.int (((Int32.ofNat i) <<< ((4 : Int32) &&& 31)) ||| (Int32.ofNat (k + 1)))), (.int (Int32.ofNat (((co + own_ct g (Int32.ofNat (k + 1)) i) * 2 ^ (9 - (k + 1))) + 2 ^ (9 - (k + 1))))), (.int (Int32.ofNat ((co + own_ct g (Int32.ofNat (k + 1)) i) * 2 ^ (9 - (k + 1))))), (.ref tr)] (fun zt zk => XS.ior X239.here hx rfl (hc d16_112) rfl zk) ?_
     refine gS 114 [(.int ((((Int32.ofNat i) <<< ((4 : Int32) &&& 31)) ||| (Int32.ofNat (k + 1))).toInt16.toInt32)), (.int (Int32.ofNat (((co + own_ct g (Int32.ofNat (k + 1)) i) * 2 ^ (9 - (k + 1))) + 2 ^ (9 - (k + 1))))), (.int (Int32.ofNat ((co + own_ct g (Int32.ofNat (k + 1)) i) * 2 ^ (9 - (k + 1))))), (.ref tr)] (fun zt zk => XS.i2s X239.here hx rfl (hc d16_113) rfl zk) ?_
     have f241 := (VT.other W239 (Ne.symm nes.1))
     obtain ⟨vr240, _, ⟨T240, L240, k240, n240⟩, -, X240, ⟨Lc240, hQ240, l240, y240, z240⟩, st240⟩ := Jvm.LawKit.callS X239 hx (y := Y2) hown (mvT hZ (ow hw 94 rfl)) (mvT hZ (ow hw 95 rfl)) (mvT hZ (ow hw 63 rfl)) (mvT hZ (ow hw 96 rfl)) (by decide) (backOf (W := 0) (rmFil4 l Z a0 hw tr kt ((co + own_ct g (Int32.ofNat (k + 1)) i) * 2 ^ (9 - (k + 1))) (((co + own_ct g (Int32.ofNat (k + 1)) i) * 2 ^ (9 - (k + 1))) + 2 ^ (9 - (k + 1))) ((((Int32.ofNat i) <<< ((4 : Int32) &&& 31)) ||| (Int32.ofNat (k + 1))).toInt16.toInt32) vs h239 n0 (Nat.le_trans Z0 K239.1) f241 hvl g_tr (Nat.le_add_right _ _) hs5) hZ (ow hw 96 rfl) (ow hw 63 rfl) (by decide) (by decide)) (g := (mkF m 114 #[rv ob, iv 4, rv cr, rv tr, iv (Int32.ofNat (co + own_ct g (Int32.ofNat (k + 1)) i)), iv (Int32.ofNat (k + 1)), iv (Int32.ofNat i), iv (Int32.ofNat ((co + own_ct g (Int32.ofNat (k + 1)) i) * 2 ^ (9 - (k + 1))))] [(.int ((((Int32.ofNat i) <<< ((4 : Int32) &&& 31)) ||| (Int32.ofNat (k + 1))).toInt16.toInt32)), (.int (Int32.ofNat (((co + own_ct g (Int32.ofNat (k + 1)) i) * 2 ^ (9 - (k + 1))) + 2 ^ (9 - (k + 1))))), (.int (Int32.ofNat ((co + own_ct g (Int32.ofNat (k + 1)) i) * 2 ^ (9 - (k + 1))))), (.ref tr)])) rfl (by rw [hml]; rfl) (argsL := [(.ref tr), (.int (Int32.ofNat ((co + own_ct g (Int32.ofNat (k + 1)) i) * 2 ^ (9 - (k + 1))))), (.int (Int32.ofNat (((co + own_ct g (Int32.ofNat (k + 1)) i) * 2 ^ (9 - (k + 1))) + 2 ^ (9 - (k + 1))))), (.int ((((Int32.ofNat i) <<< ((4 : Int32) &&& 31)) ||| (Int32.ofNat (k + 1))).toInt16.toInt32))]) (rest := []) (lenOf pd_a8ecdac rfl) rfl (by show 2 * 0 + _ ≤ _; exact Nat.le_of_eq rfl) (hc d16_114) (fun _ _ => ⟨rfl, e239, (by decide : 0 + 0 ≤ _), (by decide : 0 + 0 ≤ _)⟩)
     dsimp only [Pt.U, Pt.locs, Pt.cells, Pt.slots] at X240 l240 y240 z240 st240 hQ240
     subst l240 y240 z240
     obtain ⟨rfl, Nq240, Kq240, ws240, hw240, V240⟩ := hQ240
     have KK242 := K239.trans Kq240 (allS (Or.inl (List.mem_of_getElem? (i := 1) rfl)) all0)
     have NN243 := Fr.app N239 Nq240
     refine gT T240 117 [] (fun zt zk => st240 zt zk) ?_
     have f244 := (V239.keep Kq240 (ninS nes.1 nin0))
     refine gP 120 #[rv ob, iv 4, rv cr, rv tr, iv ((Int32.ofNat (co + own_ct g (Int32.ofNat (k + 1)) i)) + (1 : Int32)), iv (Int32.ofNat (k + 1)), iv (Int32.ofNat i), iv (Int32.ofNat ((co + own_ct g (Int32.ofNat (k + 1)) i) * 2 ^ (9 - (k + 1))))] [] (fun zt zk => XS.iinc X240.here hx rfl (hc d16_117) rfl (l' := _) rfl zk) ?_
     refine gP 123 #[rv ob, iv 4, rv cr, rv tr, iv ((Int32.ofNat (co + own_ct g (Int32.ofNat (k + 1)) i)) + (1 : Int32)), iv (Int32.ofNat (k + 1)), iv ((Int32.ofNat i) + (1 : Int32)), iv (Int32.ofNat ((co + own_ct g (Int32.ofNat (k + 1)) i) * 2 ^ (9 - (k + 1))))] [] (fun zt zk => XS.iinc X240.here hx rfl (hc d16_120) rfl (l' := _) rfl zk) ?_
     rw [own_addn (a := co + own_ct g (Int32.ofNat (k + 1)) i) (k := (1 : Int32)) (b := 1) rfl (by omega), own_addn (a := i) (k := (1 : Int32)) (b := 1) rfl (by omega), show co + own_ct g (Int32.ofNat (k + 1)) i + 1 = co + own_ct g (Int32.ofNat (k + 1)) (i + 1) by rw [hcy]; rfl, show i + 1 = 257 - u by omega]
     refine gG (q := 54) X240 hx (hc d16_123) (by decide) ?_
     exact iu (by omega) _ _ _ _ ws240 X240 rfl NN243 KK242 (One.val rfl) (by rw [show 257 - u = i + 1 by omega]; exact f244) hw240 V240
    ·
     refine gJY (q := 120) XL hx (hc d16_68) (feq hge).2 (by decide) ?_
     have hcy := own_ctn hge
     rw [own_asn g (k + 1) co i hge] at VL
     refine gP 123 #[rv ob, iv 4, rv cr, rv tr, iv (Int32.ofNat (co + own_ct g (Int32.ofNat (k + 1)) i)), iv (Int32.ofNat (k + 1)), iv ((Int32.ofNat i) + (1 : Int32)), z7] [] (fun zt zk => XS.iinc XL.here hx rfl (hc d16_120) rfl (l' := _) rfl zk) ?_
     rw [own_addn (a := i) (k := (1 : Int32)) (b := 1) rfl (by omega), ← hcy, show i + 1 = 257 - u by omega]
     refine gG (q := 54) XL hx (hc d16_123) (by decide) ?_
     exact iu (by omega) _ _ _ _ vs XL eL NL KL hz7 (by rw [show 257 - u = i + 1 by omega]; exact VL) hvl VT
def Q_rmAs3 (Z : State) (ob aw ao cr tr : Addr) (kw ko kr kt : ClassId) (q0 f0 : Nat → Int32) (us : List Value) (u0_ u1_ u2_ : Nat) (h0 : Heap) (n0 : Nat) (v : Option Value) (h : Heap) (L : List Loc) : Prop := v = none ∧ Fr n0 L ∧ Keep h0 h [cr, tr] ∧ Arv Z h cr kr .short (257 : Int32) (own_ar (own_seq (own_up (own_up (own_up (fun _ => (0 : Int32)) u0_ (2 : Int32)) u1_ (2 : Int32)) u2_ (1 : Int32)) 9).1 257) (.int 0) ∧ ∃ vs : List Value, vs.length = 512 ∧ Arv Z h tr kt .short (512 : Int32) vs (.int 0)
set_option maxRecDepth 65536 in
set_option maxHeartbeats 40000000 in
theorem rmAs3 (l : Launch) (Z : State) (a0 : Array Value) (hw : ∀ d ∈ tables_1, d.before a0 Z = true) (ob aw ao cr tr : Addr) (kw ko kr kt : ClassId) (q0 f0 : Nat → Int32) (us : List Value) (u0_ u1_ u2_ : Nat) (h0 : Heap) (n0 : Nat) (Z0 : n0 ≤ h0.size) (Fw : Fld Z h0 ob "com/example/tributary/tributary/join/LineCodes" "weights" "[J" (.ref aw)) (Fo : Fld Z h0 ob "com/example/tributary/tributary/join/LineCodes" "order" "[S" (.ref ao)) (Vw : Arv Z h0 aw kw .long (257 : Int32) [(.long 2), (.long 2), (.long 1), (.long 1)] (.long 0)) (Vo : Arv Z h0 ao ko .short (257 : Int32) (own_ar q0 257) (.int 0)) (Vr : Arv Z h0 cr kr .short (257 : Int32) (own_ar f0 257) (.int 0)) (Vt : Arv Z h0 tr kt .short (512 : Int32) us (.int 0)) (hus : us.length = 512) (g_cr : n0 ≤ cr) (g_tr : n0 ≤ tr) (nes : cr ≠ tr ∧ aw ≠ cr ∧ aw ≠ tr ∧ ao ≠ cr ∧ ao ≠ tr ∧ ob ≠ cr ∧ ob ≠ tr) (hq0 : q0 0 = Int32.ofNat u0_) (hu0 : u0_ < 257) (hq1 : q0 1 = Int32.ofNat u1_) (hu1 : u1_ < 257) (hq2 : q0 2 = Int32.ofNat u2_) (hu2 : u2_ < 257) (hkr : own_kraft (own_up (own_up (own_up (fun _ => (0 : Int32)) u0_ (2 : Int32)) u1_ (2 : Int32)) u2_ (1 : Int32))) :
    MetFree l Y12 (head1 [Jvm.Cond.code Y12 prog_43_method_11_code 8 none] ({ frames := 2, cells := 0, slots := 0, locals := 30 } : Room)) (fun a U => a = #[(.ref ob), (.int 3), (.ref cr), (.ref tr)] ∧ Z.Warmed39 U.vm ∧ U.heap = h0) (fun _ _ _ _ _ => True) (fun _ U o U' => ∃ v L, o = .returned v ∧ (Q_rmAs3 Z ob aw ao cr tr kw ko kr kt q0 f0 us u0_ u1_ u2_ h0 n0) v U'.heap L ∧ FrameEnd U o U' L ({ frames := 2, cells := 0, slots := 0, locals := 30 } : Room).cells ({ frames := 2, cells := 0, slots := 0, locals := 30 } : Room).slots) := by
  refine MetFree.of_bodySF (plainFor_of_name pn_81ef1d3) hisR ?_
  intro p e s m args below meth c s₁ Bd hml0 hP hK
  obtain ⟨rfl, hZ, hh⟩ := hP
  have hx := Bd.exec
  have hc : ∀ {pc : Nat} {r}, decode C16 pc = r → decode c.code pc = r := fun h2 => hb Bd.bytes h2
  have hml : c.maxLocals = 8 := hml0
  have hown : s.vm.findClass "com/example/tributary/tributary/join/LineCodes" = some m.cls := findClass_of_methodNamed Bd.named
  have hnm := (name_of_methodNamed Bd.named Bd.method).1
  have X0 : Stand p l e ({ frames := 2, cells := 0, slots := 0, locals := 30 } : Room) s m #[(.ref ob), (.int 3), (.ref cr), (.ref tr)] below meth c s₁ [] 0 0 := Stand.of_body Bd
  have e0 : s₁.heap = h0 := by rw [← hh, Bd.state]; rfl
  have N0 := Fr.nil n0
  have K0 : Keep h0 h0 [cr, tr] := Keep.refl h0 [cr, tr]
  show Go p e below (s₁.setTop (entryFrame m #[(.ref ob), (.int 3), (.ref cr), (.ref tr)] 8)) (EndN s (Q_rmAs3 Z ob aw ao cr tr kw ko kr kt q0 f0 us u0_ u1_ u2_ h0 n0) ({ frames := 2, cells := 0, slots := 0, locals := 30 } : Room).cells ({ frames := 2, cells := 0, slots := 0, locals := 30 } : Room).slots)
  refine Go.top (ef_16 m ob (3 : Int32) cr tr) ?_
  refine gAN X0 hx (hc d16_0) rfl (.refl 1) ?_
  refine gC (z := 0) X0 hx (hc d16_1) rfl (.refl 2) ?_
  obtain ⟨vr245, _, ⟨T245, L245, k245, n245⟩, -, X245, ⟨Lc245, hQ245, l245, y245, z245⟩, st245⟩ := Jvm.LawKit.callS X0 hx (y := Y1) hown (mvT hZ (ow hw 91 rfl)) (mvT hZ (ow hw 92 rfl)) (mvT hZ (ow hw 63 rfl)) (mvT hZ (ow hw 93 rfl)) (by decide) (backOf (W := 0) (rmFill l Z a0 hw cr kr f0 h0 n0 Z0 Vr g_cr) hZ (ow hw 93 rfl) (ow hw 63 rfl) (by decide) (by decide)) (g := (mkF m 2 #[rv ob, iv 3, rv cr, rv tr, .unset, .unset, .unset, .unset] [(.int 0), (.ref cr)])) rfl (by rw [hml]; rfl) (argsL := [(.ref cr), (.int 0)]) (rest := []) (lenOf pd_5409340 rfl) rfl (by show 2 * 0 + _ ≤ _; exact Nat.le_of_eq rfl) (hc d16_2) (fun _ _ => ⟨rfl, e0, (by decide : 0 + 0 ≤ _), (by decide : 0 + 0 ≤ _)⟩)
  dsimp only [Pt.U, Pt.locs, Pt.cells, Pt.slots] at X245 l245 y245 z245 st245 hQ245
  subst l245 y245 z245
  obtain ⟨rfl, Nq245, Kq245, V245⟩ := hQ245
  have KK246 := K0.trans Kq245 (allS (Or.inl (List.mem_of_getElem? (i := 0) rfl)) all0)
  have NN247 := Fr.app N0 Nq245
  refine gT T245 5 [] (fun zt zk => st245 zt zk) ?_
  refine gC (z := 0) X245 hx (hc d16_5) rfl (.refl 6) ?_
  refine gP 8 #[rv ob, iv 3, rv cr, rv tr, iv 0, .unset, .unset, .unset] [] (fun zt zk => XS.istore X245.here hx rfl (hc d16_6) rfl (l' := _) rfl zk) ?_
  refine gL X245 hx (hc d16_8) rfl (.refl 10) ?_
  refine gLN X245 hx (hc d16_10) rfl (.refl 11) ?_
  refine gJN X245 hx (hc d16_11) (tlt (by decide)).2.1 (.refl 14) ?_
  refine gAN X245 hx (hc d16_14) rfl (.refl 15) ?_
  refine gAN X245 hx (hc d16_15) rfl (.refl 16) ?_
  have f248 := (Fo.keep Kq245 (ninS nes.2.2.2.2.2.1 nin0))
  refine gF X245 hx hZ hown (ow hw 29 rfl) Via.refl rfl f248 (hc d16_16) (.refl 19) ?_
  intro T249 X249 e249
  refine gL X249 hx (hc d16_19) rfl (.refl 21) ?_
  have f250 := (Vo.keep Kq245 (ninS nes.2.2.2.1 nin0))
  refine gSA X249 hx hZ e249 f250 (.int (q0 0)) ⟨by decide, by decide⟩ (own_arg q0 (i := 0) (by omega) (by omega) _) (hc d16_21) (.refl 22) ?_
  rw [hq0]
  refine gAN X249 hx (hc d16_22) rfl (.refl 23) ?_
  have f252 := (Fw.keep Kq245 (ninS nes.2.2.2.2.2.1 nin0))
  refine gF X249 hx hZ hown (ow hw 27 rfl) Via.refl e249 f252 (hc d16_23) (.refl 26) ?_
  intro T253 X253 e253
  refine gL X253 hx (hc d16_26) rfl (.refl 28) ?_
  have f254 := (Vw.keep Kq245 (ninS nes.2.1 nin0))
  refine gJA X253 hx hZ e253 f254 (.long 2) ⟨by decide, by decide⟩ rfl (hc d16_28) (.refl 29) ?_
  refine gS 30 [(.int ((2 : Int64).toInt32)), (.int (Int32.ofNat u0_)), (.ref cr)] (fun zt zk => XS.l2i X253.here hx rfl (hc d16_29) rfl zk) ?_
  rw [show ((2 : Int64).toInt32) = (2 : Int32) by decide]
  refine gS 31 [(.int ((2 : Int32).toInt16.toInt32)), (.int (Int32.ofNat u0_)), (.ref cr)] (fun zt zk => XS.i2s X253.here hx rfl (hc d16_30) rfl zk) ?_
  rw [show ((2 : Int32).toInt16.toInt32) = (2 : Int32) by decide]
  refine gSS X253 hx hZ e253 V245 ⟨own_nn (by omega), (own_lt32 (n := 257) (by omega) (by omega)).mpr (by omega)⟩ u0_ (own_clamp (by omega)) (by rw [own_arl]; omega) ((own_ar (fun _ => (0 : Int32)) 257).set u0_ (.int (nar .short (2 : Int32)))) rfl (hc d16_31) (.refl 32) ?_
  intro T256 h256 X256 e256 W256 V256
  have K256 := KK246.wr W256 (Or.inl (List.mem_of_getElem? (i := 0) rfl))
  have N256 := Fr.snoc X256 NN247 g_cr
  rw [own_ars (fun _ => (0 : Int32)) (by omega)] at V256
  rw [show nar .short (2 : Int32) = (2 : Int32) by decide] at V256
  refine gP 35 #[rv ob, iv 3, rv cr, rv tr, iv ((0 : Int32) + (1 : Int32)), .unset, .unset, .unset] [] (fun zt zk => XS.iinc X256.here hx rfl (hc d16_32) rfl (l' := _) rfl zk) ?_
  rw [show ((0 : Int32) + (1 : Int32)) = (1 : Int32) by decide]
  refine gG (q := 8) X256 hx (hc d16_35) (by decide) ?_
  refine gL X256 hx (hc d16_8) rfl (.refl 10) ?_
  refine gLN X256 hx (hc d16_10) rfl (.refl 11) ?_
  refine gJN X256 hx (hc d16_11) (tlt (by decide)).2.1 (.refl 14) ?_
  refine gAN X256 hx (hc d16_14) rfl (.refl 15) ?_
  refine gAN X256 hx (hc d16_15) rfl (.refl 16) ?_
  have f258 := (f248.other W256 (Or.inl nes.2.2.2.2.2.1))
  refine gF X256 hx hZ hown (ow hw 29 rfl) Via.refl e256 f258 (hc d16_16) (.refl 19) ?_
  intro T259 X259 e259
  refine gL X259 hx (hc d16_19) rfl (.refl 21) ?_
  have f260 := (f250.other W256 nes.2.2.2.1)
  refine gSA X259 hx hZ e259 f260 (.int (q0 1)) ⟨by decide, by decide⟩ (own_arg q0 (i := 1) (by omega) (by omega) _) (hc d16_21) (.refl 22) ?_
  rw [hq1]
  refine gAN X259 hx (hc d16_22) rfl (.refl 23) ?_
  have f262 := (f252.other W256 (Or.inl nes.2.2.2.2.2.1))
  refine gF X259 hx hZ hown (ow hw 27 rfl) Via.refl e259 f262 (hc d16_23) (.refl 26) ?_
  intro T263 X263 e263
  refine gL X263 hx (hc d16_26) rfl (.refl 28) ?_
  have f264 := (f254.other W256 nes.2.1)
  refine gJA X263 hx hZ e263 f264 (.long 2) ⟨by decide, by decide⟩ rfl (hc d16_28) (.refl 29) ?_
  refine gS 30 [(.int ((2 : Int64).toInt32)), (.int (Int32.ofNat u1_)), (.ref cr)] (fun zt zk => XS.l2i X263.here hx rfl (hc d16_29) rfl zk) ?_
  rw [show ((2 : Int64).toInt32) = (2 : Int32) by decide]
  refine gS 31 [(.int ((2 : Int32).toInt16.toInt32)), (.int (Int32.ofNat u1_)), (.ref cr)] (fun zt zk => XS.i2s X263.here hx rfl (hc d16_30) rfl zk) ?_
  rw [show ((2 : Int32).toInt16.toInt32) = (2 : Int32) by decide]
  refine gSS X263 hx hZ e263 V256 ⟨own_nn (by omega), (own_lt32 (n := 257) (by omega) (by omega)).mpr (by omega)⟩ u1_ (own_clamp (by omega)) (by rw [own_arl]; omega) ((own_ar (own_up (fun _ => (0 : Int32)) u0_ (2 : Int32)) 257).set u1_ (.int (nar .short (2 : Int32)))) rfl (hc d16_31) (.refl 32) ?_
  intro T266 h266 X266 e266 W266 V266
  have K266 := K256.wr W266 (Or.inl (List.mem_of_getElem? (i := 0) rfl))
  have N266 := Fr.snoc X266 N256 g_cr
  rw [own_ars (own_up (fun _ => (0 : Int32)) u0_ (2 : Int32)) (by omega)] at V266
  rw [show nar .short (2 : Int32) = (2 : Int32) by decide] at V266
  refine gP 35 #[rv ob, iv 3, rv cr, rv tr, iv ((1 : Int32) + (1 : Int32)), .unset, .unset, .unset] [] (fun zt zk => XS.iinc X266.here hx rfl (hc d16_32) rfl (l' := _) rfl zk) ?_
  rw [show ((1 : Int32) + (1 : Int32)) = (2 : Int32) by decide]
  refine gG (q := 8) X266 hx (hc d16_35) (by decide) ?_
  refine gL X266 hx (hc d16_8) rfl (.refl 10) ?_
  refine gLN X266 hx (hc d16_10) rfl (.refl 11) ?_
  refine gJN X266 hx (hc d16_11) (tlt (by decide)).2.1 (.refl 14) ?_
  refine gAN X266 hx (hc d16_14) rfl (.refl 15) ?_
  refine gAN X266 hx (hc d16_15) rfl (.refl 16) ?_
  have f268 := (f258.other W266 (Or.inl nes.2.2.2.2.2.1))
  refine gF X266 hx hZ hown (ow hw 29 rfl) Via.refl e266 f268 (hc d16_16) (.refl 19) ?_
  intro T269 X269 e269
  refine gL X269 hx (hc d16_19) rfl (.refl 21) ?_
  have f270 := (f260.other W266 nes.2.2.2.1)
  refine gSA X269 hx hZ e269 f270 (.int (q0 2)) ⟨by decide, by decide⟩ (own_arg q0 (i := 2) (by omega) (by omega) _) (hc d16_21) (.refl 22) ?_
  rw [hq2]
  refine gAN X269 hx (hc d16_22) rfl (.refl 23) ?_
  have f272 := (f262.other W266 (Or.inl nes.2.2.2.2.2.1))
  refine gF X269 hx hZ hown (ow hw 27 rfl) Via.refl e269 f272 (hc d16_23) (.refl 26) ?_
  intro T273 X273 e273
  refine gL X273 hx (hc d16_26) rfl (.refl 28) ?_
  have f274 := (f264.other W266 nes.2.1)
  refine gJA X273 hx hZ e273 f274 (.long 1) ⟨by decide, by decide⟩ rfl (hc d16_28) (.refl 29) ?_
  refine gS 30 [(.int ((1 : Int64).toInt32)), (.int (Int32.ofNat u2_)), (.ref cr)] (fun zt zk => XS.l2i X273.here hx rfl (hc d16_29) rfl zk) ?_
  rw [show ((1 : Int64).toInt32) = (1 : Int32) by decide]
  refine gS 31 [(.int ((1 : Int32).toInt16.toInt32)), (.int (Int32.ofNat u2_)), (.ref cr)] (fun zt zk => XS.i2s X273.here hx rfl (hc d16_30) rfl zk) ?_
  rw [show ((1 : Int32).toInt16.toInt32) = (1 : Int32) by decide]
  refine gSS X273 hx hZ e273 V266 ⟨own_nn (by omega), (own_lt32 (n := 257) (by omega) (by omega)).mpr (by omega)⟩ u2_ (own_clamp (by omega)) (by rw [own_arl]; omega) ((own_ar (own_up (own_up (fun _ => (0 : Int32)) u0_ (2 : Int32)) u1_ (2 : Int32)) 257).set u2_ (.int (nar .short (1 : Int32)))) rfl (hc d16_31) (.refl 32) ?_
  intro T276 h276 X276 e276 W276 V276
  have K276 := K266.wr W276 (Or.inl (List.mem_of_getElem? (i := 0) rfl))
  have N276 := Fr.snoc X276 N266 g_cr
  rw [own_ars (own_up (own_up (fun _ => (0 : Int32)) u0_ (2 : Int32)) u1_ (2 : Int32)) (by omega)] at V276
  rw [show nar .short (1 : Int32) = (1 : Int32) by decide] at V276
  refine gP 35 #[rv ob, iv 3, rv cr, rv tr, iv ((2 : Int32) + (1 : Int32)), .unset, .unset, .unset] [] (fun zt zk => XS.iinc X276.here hx rfl (hc d16_32) rfl (l' := _) rfl zk) ?_
  rw [show ((2 : Int32) + (1 : Int32)) = (3 : Int32) by decide]
  refine gG (q := 8) X276 hx (hc d16_35) (by decide) ?_
  refine gL X276 hx (hc d16_8) rfl (.refl 10) ?_
  refine gLN X276 hx (hc d16_10) rfl (.refl 11) ?_
  refine gJY (q := 38) X276 hx (hc d16_11) (flt (by decide)).2.1 (by decide) ?_
  refine gC (z := 0) X276 hx (hc d16_38) rfl (.refl 39) ?_
  refine gP 41 #[rv ob, iv 3, rv cr, rv tr, iv 0, .unset, .unset, .unset] [] (fun zt zk => XS.istore X276.here hx rfl (hc d16_39) rfl (l' := _) rfl zk) ?_
  refine gC (z := 1) X276 hx (hc d16_41) rfl (.refl 42) ?_
  refine gP 44 #[rv ob, iv 3, rv cr, rv tr, iv 0, iv 1, .unset, .unset] [] (fun zt zk => XS.istore X276.here hx rfl (hc d16_42) rfl (l' := _) rfl zk) ?_
  obtain ⟨LX278, XX278, NX278⟩ : ∃ LX, Stand p l e ({ frames := 2, cells := 0, slots := 0, locals := 30 } : Room) s m #[(.ref ob), (.int 3), (.ref cr), (.ref tr)] below meth c T276 LX 0 0 ∧ Fr n0 LX := ⟨_, X276, N276⟩
  obtain ⟨ff, hff⟩ : ∃ z, z = (own_up (own_up (own_up (fun _ => (0 : Int32)) u0_ (2 : Int32)) u1_ (2 : Int32)) u2_ (1 : Int32)) := ⟨_, rfl⟩
  have f279 := ((((Vt.keep Kq245 (ninS (Ne.symm nes.1) nin0)).other W256 (Ne.symm nes.1)).other W266 (Ne.symm nes.1)).other W276 (Ne.symm nes.1))
  rw [← hff] at V276 hkr
  suffices loop : ∀ (r : Nat), r ≤ 9 → ∀ (TL : State) (hL : Heap) (LL : List Loc) (s6 s7 : Slot) (vs : List Value), Stand p l e ({ frames := 2, cells := 0, slots := 0, locals := 30 } : Room) s m #[(.ref ob), (.int 3), (.ref cr), (.ref tr)] below meth c TL LL 0 0 → TL.heap = hL → Fr n0 LL → Keep h0 hL [cr, tr] → One s6 → One s7 → Arv Z hL cr kr .short (257 : Int32) (own_ar (own_seq ff (9 - r)).1 257) (.int 0) → vs.length = 512 → Arv Z hL tr kt .short (512 : Int32) vs (.int 0) → Go p e below (TL.setTop (mkF m 44 #[rv ob, iv 3, rv cr, rv tr, iv (Int32.ofNat (own_seq ff (9 - r)).2), iv (Int32.ofNat (10 - r)), s6, s7] [])) (EndN s (Q_rmAs3 Z ob aw ao cr tr kw ko kr kt q0 f0 us u0_ u1_ u2_ h0 n0) ({ frames := 2, cells := 0, slots := 0, locals := 30 } : Room).cells ({ frames := 2, cells := 0, slots := 0, locals := 30 } : Room).slots) by
    exact loop 9 (Nat.le_refl _) T276 _ _ .unset .unset us XX278 e276 NX278 K276 One.u One.u V276 hus f279
  intro r
  induction r with
  | zero =>
   intro hr TL hL LL s6 s7 vs XL eL NL KL hs6 hs7 VL hvl VT
   refine gL XL hx (hc d16_44) rfl (.refl 46) ?_
   refine gB (z := 9) XL hx (hc d16_46) rfl (.refl 48) ?_
   refine gJY (q := 138) XL hx (hc d16_48) (tlt (by decide)).2.2.1 (by decide) ?_
   exact Go.done XL Bd.notSynchronized (v := none) (fun _ => rfl) (fun fs hr => XL.returnOut hx Bd.returns (hc d16_138) hr) (by rw [eL]; exact ⟨rfl, NL, KL, by rw [← hff]; exact VL, vs, hvl, VT⟩) (by decide) (by decide)
  | succ r ih =>
   intro hr TL hL LL s6 s7 vs XL eL NL KL hs6 hs7 VL hvl VT
   obtain ⟨k, hk⟩ : ∃ k, k = 9 - (r + 1) := ⟨_, rfl⟩
   have hkk := hkr k (by omega)
   rw [← hk] at VL ⊢
   rw [show 10 - (r + 1) = k + 1 by omega]
   obtain ⟨g, hg⟩ : ∃ z, z = (own_seq ff k).1 := ⟨_, rfl⟩
   obtain ⟨co, hco⟩ : ∃ z, z = (own_seq ff k).2 := ⟨_, rfl⟩
   rw [← hg, ← hco] at hkk
   rw [← hg] at VL
   rw [← hco]
   have hp2 : 2 ^ (k + 1) ≤ 2 ^ 9 := Nat.pow_le_pow_right (by omega) (by omega)
   refine gL XL hx (hc d16_44) rfl (.refl 46) ?_
   refine gB (z := 9) XL hx (hc d16_46) rfl (.refl 48) ?_
   refine gJN XL hx (hc d16_48) (flt (fun q => absurd ((own_lt32 (i := 9) (by omega) (by omega)).mp q) (by omega))).2.2.1 (.refl 51) ?_
   refine gC (z := 0) XL hx (hc d16_51) rfl (.refl 52) ?_
   refine gP 54 #[rv ob, iv 3, rv cr, rv tr, iv (Int32.ofNat co), iv (Int32.ofNat (k + 1)), iv 0, s7] [] (fun zt zk => XS.istore XL.here hx rfl (hc d16_52) rfl (l' := _) (own_as6 hs6) zk) ?_
   suffices inner : ∀ (u : Nat), u ≤ 257 → ∀ (TL : State) (hL : Heap) (LL : List Loc) (z7 : Slot) (vs : List Value), Stand p l e ({ frames := 2, cells := 0, slots := 0, locals := 30 } : Room) s m #[(.ref ob), (.int 3), (.ref cr), (.ref tr)] below meth c TL LL 0 0 → TL.heap = hL → Fr n0 LL → Keep h0 hL [cr, tr] → One z7 → Arv Z hL cr kr .short (257 : Int32) (own_ar (own_as g (k + 1) co (257 - u)) 257) (.int 0) → vs.length = 512 → Arv Z hL tr kt .short (512 : Int32) vs (.int 0) → Go p e below (TL.setTop (mkF m 54 #[rv ob, iv 3, rv cr, rv tr, iv (Int32.ofNat (co + own_ct g (Int32.ofNat (k + 1)) (257 - u))), iv (Int32.ofNat (k + 1)), iv (Int32.ofNat (257 - u)), z7] [])) (EndN s (Q_rmAs3 Z ob aw ao cr tr kw ko kr kt q0 f0 us u0_ u1_ u2_ h0 n0) ({ frames := 2, cells := 0, slots := 0, locals := 30 } : Room).cells ({ frames := 2, cells := 0, slots := 0, locals := 30 } : Room).slots) by
     exact inner 257 (Nat.le_refl _) TL _ _ s7 vs XL eL NL KL hs7 (by rw [Nat.sub_self, own_as0]; exact VL) hvl VT
   clear hvl VT VL
   intro u
   induction u with
   | zero =>
    intro hu TL hL LL z7 vs XL eL NL KL hz7 VL hvl VT
    refine gL XL hx (hc d16_54) rfl (.refl 56) ?_
    refine gH (z := 257) XL hx (hc d16_56) rfl (.refl 59) ?_
    refine gJY (q := 126) XL hx (hc d16_59) (flt (fun q => absurd ((own_lt32 (n := 257) (by omega) (by omega)).mp q) (by omega))).2.1 (by decide) ?_
    refine gL XL hx (hc d16_126) rfl (.refl 128) ?_
    refine gC (z := 1) XL hx (hc d16_128) rfl (.refl 129) ?_
    refine gS 130 [(.int ((Int32.ofNat (co + own_ct g (Int32.ofNat (k + 1)) (257 - 0))) <<< ((1 : Int32) &&& 31)))] (fun zt zk => XS.ishl XL.here hx rfl (hc d16_129) rfl zk) ?_
    rw [own_dbl (by rw [Nat.sub_zero]; omega)]
    refine gP 132 #[rv ob, iv 3, rv cr, rv tr, iv (Int32.ofNat (2 * (co + own_ct g (Int32.ofNat (k + 1)) (257 - 0)))), iv (Int32.ofNat (k + 1)), iv (Int32.ofNat (257 - 0)), z7] [] (fun zt zk => XS.istore XL.here hx rfl (hc d16_130) rfl (l' := _) rfl zk) ?_
    refine gP 135 #[rv ob, iv 3, rv cr, rv tr, iv (Int32.ofNat (2 * (co + own_ct g (Int32.ofNat (k + 1)) (257 - 0)))), iv ((Int32.ofNat (k + 1)) + (1 : Int32)), iv (Int32.ofNat (257 - 0)), z7] [] (fun zt zk => XS.iinc XL.here hx rfl (hc d16_132) rfl (l' := _) rfl zk) ?_
    rw [own_addn (k := (1 : Int32)) (b := 1) rfl (by omega)]
    refine gG (q := 44) XL hx (hc d16_135) (by decide) ?_
    have q1 : (own_seq ff (9 - r)).2 = 2 * (co + own_ct g (Int32.ofNat (k + 1)) (257 - 0)) := by rw [show 9 - r = k + 1 by omega, hco, hg]; rfl
    have q2 : (own_seq ff (9 - r)).1 = own_as g (k + 1) co (257 - 0) := by rw [show 9 - r = k + 1 by omega, hco, hg]; rfl
    have := ih (by omega) _ _ _ (.val (.int (Int32.ofNat (257 - 0)))) z7 vs XL eL NL KL (One.val rfl) hz7 (by rw [q2]; exact VL) hvl VT
    rw [q1, show 10 - r = k + 1 + 1 by omega] at this
    exact this
   | succ u iu =>
    intro hu TL hL LL z7 vs XL eL NL KL hz7 VL hvl VT
    obtain ⟨i, hi⟩ : ∃ i, i = 257 - (u + 1) := ⟨_, rfl⟩
    rw [← hi] at VL ⊢
    have hcm := own_ctm g (Int32.ofNat (k + 1)) (i + 1) (257 - (i + 1))
    rw [show i + 1 + (257 - (i + 1)) = 257 by omega] at hcm
    refine gL XL hx (hc d16_54) rfl (.refl 56) ?_
    refine gH (z := 257) XL hx (hc d16_56) rfl (.refl 59) ?_
    refine gJN XL hx (hc d16_59) (tlt ((own_lt32 (n := 257) (by omega) (by omega)).mpr (by omega))).2.1 (.refl 62) ?_
    refine gAN XL hx (hc d16_62) rfl (.refl 63) ?_
    refine gL XL hx (hc d16_63) rfl (.refl 65) ?_
    refine gSA XL hx hZ eL VL (.int ((own_as g (k + 1) co i) i)) ⟨own_nn (by omega), (own_lt32 (n := 257) (by omega) (by omega)).mpr (by omega)⟩ (own_arg (own_as g (k + 1) co i) (by omega) (by omega) _) (hc d16_65) (.refl 66) ?_
    rw [own_asi]
    refine gL XL hx (hc d16_66) rfl (.refl 68) ?_
    by_cases hge : (g i) = (Int32.ofNat (k + 1))
    ·
     refine gJN XL hx (hc d16_68) (teq hge).2 (.refl 71) ?_
     have hcy := own_cty hge
     obtain ⟨hsf, hs5⟩ := own_shf (len := k + 1) (c := co + own_ct g (Int32.ofNat (k + 1)) i) (by omega) (by omega) (by omega)
     refine gAN XL hx (hc d16_71) rfl (.refl 72) ?_
     refine gL XL hx (hc d16_72) rfl (.refl 74) ?_
     refine gL XL hx (hc d16_74) rfl (.refl 76) ?_
     refine gC (z := 4) XL hx (hc d16_76) rfl (.refl 77) ?_
     refine gS 78 [(.int ((Int32.ofNat (co + own_ct g (Int32.ofNat (k + 1)) i)) <<< ((4 : Int32) &&& 31))), (.int (Int32.ofNat i)), (.ref cr)] (fun zt zk => XS.ishl XL.here hx rfl (hc d16_77) rfl zk) ?_
     refine gL XL hx (hc d16_78) rfl (.refl 80) ?_
     refine gS 81 [(.int (((Int32.ofNat (co + own_ct g (Int32.ofNat (k + 1)) i)) <<< ((4 : Int32) &&& 31)) ||| (Int32.ofNat (k + 1)))), (.int (Int32.ofNat i)), (.ref cr)] (fun zt zk => XS.ior XL.here hx rfl (hc d16_80) rfl zk) ?_
     refine gS 82 [(.int ((((Int32.ofNat (co + own_ct g (Int32.ofNat (k + 1)) i)) <<< ((4 : Int32) &&& 31)) ||| (Int32.ofNat (k + 1))).toInt16.toInt32)), (.int (Int32.ofNat i)), (.ref cr)] (fun zt zk => XS.i2s XL.here hx rfl (hc d16_81) rfl zk) ?_
     refine gSS XL hx hZ eL VL ⟨own_nn (by omega), (own_lt32 (n := 257) (by omega) (by omega)).mpr (by omega)⟩ i (own_clamp (by omega)) (by rw [own_arl]; omega) ((own_ar (own_as g (k + 1) co i) 257).set i (.int (own_cv (co + own_ct g (Int32.ofNat (k + 1)) i) (k + 1)))) rfl (hc d16_82) (.refl 83) ?_
     intro T281 h281 X281 e281 W281 V281
     have K281 := KL.wr W281 (Or.inl (List.mem_of_getElem? (i := 0) rfl))
     have N281 := Fr.snoc X281 NL g_cr
     rw [own_ars _ (by omega), own_asy g (k + 1) co i hge] at V281
     refine gL X281 hx (hc d16_83) rfl (.refl 85) ?_
     refine gB (z := 9) X281 hx (hc d16_85) rfl (.refl 87) ?_
     refine gL X281 hx (hc d16_87) rfl (.refl 89) ?_
     refine gisub X281 hx (hc d16_89) (.refl 90) ?_
     rw [own_9m (by omega)]
     refine gS 91 [(.int ((Int32.ofNat (co + own_ct g (Int32.ofNat (k + 1)) i)) <<< ((Int32.ofNat (9 - (k + 1))) &&& 31)))] (fun zt zk => XS.ishl X281.here hx rfl (hc d16_90) rfl zk) ?_
     rw [hsf]
     refine gP 93 #[rv ob, iv 3, rv cr, rv tr, iv (Int32.ofNat (co + own_ct g (Int32.ofNat (k + 1)) i)), iv (Int32.ofNat (k + 1)), iv (Int32.ofNat i), iv (Int32.ofNat ((co + own_ct g (Int32.ofNat (k + 1)) i) * 2 ^ (9 - (k + 1))))] [] (fun zt zk => XS.istore X281.here hx rfl (hc d16_91) rfl (l' := _) (own_as7 hz7) zk) ?_
     refine gAN X281 hx (hc d16_93) rfl (.refl 94) ?_
     refine gL X281 hx (hc d16_94) rfl (.refl 96) ?_
     refine gL X281 hx (hc d16_96) rfl (.refl 98) ?_
     refine gC (z := 1) X281 hx (hc d16_98) rfl (.refl 99) ?_
     refine gB (z := 9) X281 hx (hc d16_99) rfl (.refl 101) ?_
     refine gL X281 hx (hc d16_101) rfl (.refl 103) ?_
     refine gisub X281 hx (hc d16_103) (.refl 104) ?_
     rw [own_9m (by omega)]
     refine gS 105 [(.int ((1 : Int32) <<< ((Int32.ofNat (9 - (k + 1))) &&& 31))), (.int (Int32.ofNat ((co + own_ct g (Int32.ofNat (k + 1)) i) * 2 ^ (9 - (k + 1))))), (.int (Int32.ofNat ((co + own_ct g (Int32.ofNat (k + 1)) i) * 2 ^ (9 - (k + 1))))), (.ref tr)] (fun zt zk => XS.ishl X281.here hx rfl (hc d16_104) rfl zk) ?_
     rw [own_sh1 (by omega)]
     refine giadd X281 hx (hc d16_105) (.refl 106) ?_
     rw [own_add (by omega)]
     refine gL X281 hx (hc d16_106) rfl (.refl 108) ?_
     refine gC (z := 4) X281 hx (hc d16_108) rfl (.refl 109) ?_
     refine gS 110 [(.int ((Int32.ofNat i) <<< ((4 : Int32) &&& 31))), (.int (Int32.ofNat (((co + own_ct g (Int32.ofNat (k + 1)) i) * 2 ^ (9 - (k + 1))) + 2 ^ (9 - (k + 1))))), (.int (Int32.ofNat ((co + own_ct g (Int32.ofNat (k + 1)) i) * 2 ^ (9 - (k + 1))))), (.ref tr)] (fun zt zk => XS.ishl X281.here hx rfl (hc d16_109) rfl zk) ?_
     refine gL X281 hx (hc d16_110) rfl (.refl 112) ?_
     refine gS 113 [(.int (((Int32.ofNat i) <<< ((4 : Int32) &&& 31)) ||| (Int32.ofNat (k + 1)))), (.int (Int32.ofNat (((co + own_ct g (Int32.ofNat (k + 1)) i) * 2 ^ (9 - (k + 1))) + 2 ^ (9 - (k + 1))))), (.int (Int32.ofNat ((co + own_ct g (Int32.ofNat (k + 1)) i) * 2 ^ (9 - (k + 1))))), (.ref tr)] (fun zt zk => XS.ior X281.here hx rfl (hc d16_112) rfl zk) ?_
     refine gS 114 [(.int ((((Int32.ofNat i) <<< ((4 : Int32) &&& 31)) ||| (Int32.ofNat (k + 1))).toInt16.toInt32)), (.int (Int32.ofNat (((co + own_ct g (Int32.ofNat (k + 1)) i) * 2 ^ (9 - (k + 1))) + 2 ^ (9 - (k + 1))))), (.int (Int32.ofNat ((co + own_ct g (Int32.ofNat (k + 1)) i) * 2 ^ (9 - (k + 1))))), (.ref tr)] (fun zt zk => XS.i2s X281.here hx rfl (hc d16_113) rfl zk) ?_
     have f283 := (VT.other W281 (Ne.symm nes.1))
     obtain ⟨vr282, _, ⟨T282, L282, k282, n282⟩, -, X282, ⟨Lc282, hQ282, l282, y282, z282⟩, st282⟩ := Jvm.LawKit.callS X281 hx (y := Y2) hown (mvT hZ (ow hw 94 rfl)) (mvT hZ (ow hw 95 rfl)) (mvT hZ (ow hw 63 rfl)) (mvT hZ (ow hw 96 rfl)) (by decide) (backOf (W := 0) (rmFil4 l Z a0 hw tr kt ((co + own_ct g (Int32.ofNat (k + 1)) i) * 2 ^ (9 - (k + 1))) (((co + own_ct g (Int32.ofNat (k + 1)) i) * 2 ^ (9 - (k + 1))) + 2 ^ (9 - (k + 1))) ((((Int32.ofNat i) <<< ((4 : Int32) &&& 31)) ||| (Int32.ofNat (k + 1))).toInt16.toInt32) vs h281 n0 (Nat.le_trans Z0 K281.1) f283 hvl g_tr (Nat.le_add_right _ _) hs5) hZ (ow hw 96 rfl) (ow hw 63 rfl) (by decide) (by decide)) (g := (mkF m 114 #[rv ob, iv 3, rv cr, rv tr, iv (Int32.ofNat (co + own_ct g (Int32.ofNat (k + 1)) i)), iv (Int32.ofNat (k + 1)), iv (Int32.ofNat i), iv (Int32.ofNat ((co + own_ct g (Int32.ofNat (k + 1)) i) * 2 ^ (9 - (k + 1))))] [(.int ((((Int32.ofNat i) <<< ((4 : Int32) &&& 31)) ||| (Int32.ofNat (k + 1))).toInt16.toInt32)), (.int (Int32.ofNat (((co + own_ct g (Int32.ofNat (k + 1)) i) * 2 ^ (9 - (k + 1))) + 2 ^ (9 - (k + 1))))), (.int (Int32.ofNat ((co + own_ct g (Int32.ofNat (k + 1)) i) * 2 ^ (9 - (k + 1))))), (.ref tr)])) rfl (by rw [hml]; rfl) (argsL := [(.ref tr), (.int (Int32.ofNat ((co + own_ct g (Int32.ofNat (k + 1)) i) * 2 ^ (9 - (k + 1))))), (.int (Int32.ofNat (((co + own_ct g (Int32.ofNat (k + 1)) i) * 2 ^ (9 - (k + 1))) + 2 ^ (9 - (k + 1))))), (.int ((((Int32.ofNat i) <<< ((4 : Int32) &&& 31)) ||| (Int32.ofNat (k + 1))).toInt16.toInt32))]) (rest := []) (lenOf pd_a8ecdac rfl) rfl (by show 2 * 0 + _ ≤ _; exact Nat.le_of_eq rfl) (hc d16_114) (fun _ _ => ⟨rfl, e281, (by decide : 0 + 0 ≤ _), (by decide : 0 + 0 ≤ _)⟩)
     dsimp only [Pt.U, Pt.locs, Pt.cells, Pt.slots] at X282 l282 y282 z282 st282 hQ282
     subst l282 y282 z282
     obtain ⟨rfl, Nq282, Kq282, ws282, hw282, V282⟩ := hQ282
     have KK284 := K281.trans Kq282 (allS (Or.inl (List.mem_of_getElem? (i := 1) rfl)) all0)
     have NN285 := Fr.app N281 Nq282
     refine gT T282 117 [] (fun zt zk => st282 zt zk) ?_
     have f286 := (V281.keep Kq282 (ninS nes.1 nin0))
     refine gP 120 #[rv ob, iv 3, rv cr, rv tr, iv ((Int32.ofNat (co + own_ct g (Int32.ofNat (k + 1)) i)) + (1 : Int32)), iv (Int32.ofNat (k + 1)), iv (Int32.ofNat i), iv (Int32.ofNat ((co + own_ct g (Int32.ofNat (k + 1)) i) * 2 ^ (9 - (k + 1))))] [] (fun zt zk => XS.iinc X282.here hx rfl (hc d16_117) rfl (l' := _) rfl zk) ?_
     refine gP 123 #[rv ob, iv 3, rv cr, rv tr, iv ((Int32.ofNat (co + own_ct g (Int32.ofNat (k + 1)) i)) + (1 : Int32)), iv (Int32.ofNat (k + 1)), iv ((Int32.ofNat i) + (1 : Int32)), iv (Int32.ofNat ((co + own_ct g (Int32.ofNat (k + 1)) i) * 2 ^ (9 - (k + 1))))] [] (fun zt zk => XS.iinc X282.here hx rfl (hc d16_120) rfl (l' := _) rfl zk) ?_
     rw [own_addn (a := co + own_ct g (Int32.ofNat (k + 1)) i) (k := (1 : Int32)) (b := 1) rfl (by omega), own_addn (a := i) (k := (1 : Int32)) (b := 1) rfl (by omega), show co + own_ct g (Int32.ofNat (k + 1)) i + 1 = co + own_ct g (Int32.ofNat (k + 1)) (i + 1) by rw [hcy]; rfl, show i + 1 = 257 - u by omega]
     refine gG (q := 54) X282 hx (hc d16_123) (by decide) ?_
     exact iu (by omega) _ _ _ _ ws282 X282 rfl NN285 KK284 (One.val rfl) (by rw [show 257 - u = i + 1 by omega]; exact f286) hw282 V282
    ·
     refine gJY (q := 120) XL hx (hc d16_68) (feq hge).2 (by decide) ?_
     have hcy := own_ctn hge
     rw [own_asn g (k + 1) co i hge] at VL
     refine gP 123 #[rv ob, iv 3, rv cr, rv tr, iv (Int32.ofNat (co + own_ct g (Int32.ofNat (k + 1)) i)), iv (Int32.ofNat (k + 1)), iv ((Int32.ofNat i) + (1 : Int32)), z7] [] (fun zt zk => XS.iinc XL.here hx rfl (hc d16_120) rfl (l' := _) rfl zk) ?_
     rw [own_addn (a := i) (k := (1 : Int32)) (b := 1) rfl (by omega), ← hcy, show i + 1 = 257 - u by omega]
     refine gG (q := 54) XL hx (hc d16_123) (by decide) ?_
     exact iu (by omega) _ _ _ _ vs XL eL NL KL hz7 (by rw [show 257 - u = i + 1 by omega]; exact VL) hvl VT
def own_kd (psel pp : Int32) : Int32 := (((psel.toUInt32 >>> ((((2 : Int32) * pp)) &&& 31).toUInt32).toInt32) &&& (3 : Int32))
def own_pk (k xa xb xc xs : Int32) : Int32 := if k = 0 then xa else if k = 1 then xb else if k = 2 then xc else xs
def own_ln (x k : Int32) : Int32 := if k = 2 then 0 else if x = 0 then (if k = 0 then 1 else if k = 1 then 3 else 2) else if x = 1 then (if k = 3 then 1 else 2) else (if k = 0 then 0 else 2)
def own_stp (psel pp pf pt : Int32) (x : Int32 × Int32 × Int32) : Int32 × Int32 × Int32 := if pp < pf ∨ ¬ pp < pt ∨ ¬ x.2.2 = 0 then x else if own_ln x.1 (own_kd psel pp) = 0 then (x.1, x.2.1, 1) else (if own_kd psel pp = 3 ∧ x.1 < 2 then x.1 + 1 else x.1, x.2.1 + own_ln x.1 (own_kd psel pp), x.2.2)
abbrev C1 : ByteArray := method_3_code
theorem d1_0 : decode C1 0 = .ok (.iload_n 0, 1) := by decide +kernel
theorem d1_1 : decode C1 1 = .ok (.iconst 2, 1) := by decide +kernel
theorem d1_2 : decode C1 2 = .ok (.iload_n 1, 1) := by decide +kernel
theorem d1_3 : decode C1 3 = .ok (.imul, 1) := by decide +kernel
theorem d1_4 : decode C1 4 = .ok (.iushr, 1) := by decide +kernel
theorem d1_5 : decode C1 5 = .ok (.iconst 3, 1) := by decide +kernel
theorem d1_6 : decode C1 6 = .ok (.iand, 1) := by decide +kernel
theorem d1_7 : decode C1 7 = .ok (.istore 6, 2) := by decide +kernel
theorem d1_9 : decode C1 9 = .ok (.iload 6, 2) := by decide +kernel
theorem d1_11 : decode C1 11 = .ok (.ifCond .ne 5, 3) := by decide +kernel
theorem d1_14 : decode C1 14 = .ok (.iload_n 2, 1) := by decide +kernel
theorem d1_15 : decode C1 15 = .ok (.ireturn, 1) := by decide +kernel
theorem d1_16 : decode C1 16 = .ok (.iload 6, 2) := by decide +kernel
theorem d1_18 : decode C1 18 = .ok (.iconst 1, 1) := by decide +kernel
theorem d1_19 : decode C1 19 = .ok (.if_icmp .ne 5, 3) := by decide +kernel
theorem d1_22 : decode C1 22 = .ok (.iload_n 3, 1) := by decide +kernel
theorem d1_23 : decode C1 23 = .ok (.ireturn, 1) := by decide +kernel
theorem d1_24 : decode C1 24 = .ok (.iload 6, 2) := by decide +kernel
theorem d1_26 : decode C1 26 = .ok (.iconst 2, 1) := by decide +kernel
theorem d1_27 : decode C1 27 = .ok (.if_icmp .ne 6, 3) := by decide +kernel
theorem d1_30 : decode C1 30 = .ok (.iload 4, 2) := by decide +kernel
theorem d1_32 : decode C1 32 = .ok (.ireturn, 1) := by decide +kernel
theorem d1_33 : decode C1 33 = .ok (.iload 5, 2) := by decide +kernel
theorem d1_35 : decode C1 35 = .ok (.ireturn, 1) := by decide +kernel
theorem pn_61676f6 : plainName "com/example/tributary/tributary/join/LineCodesCodedBytesPinLaw" = true := by first | (simp [plainName, overriddenIn]; done) | decide +kernel
theorem ef_1 (m : MethodId) (x0 : Int32) (x1 : Int32) (x2 : Int32) (x3 : Int32) (x4 : Int32) (x5 : Int32) : entryFrame m #[(.int x0), (.int x1), (.int x2), (.int x3), (.int x4), (.int x5)] 7 = mkF m 0 #[.val (.int x0), .val (.int x1), .val (.int x2), .val (.int x3), .val (.int x4), .val (.int x5), .unset] [] := by first | (simp [entryFrame, mkF, argsToLocals, Value.category]; done) | rfl
def Q_rmPick (Z : State) (psel pp xa xb xc xs : Int32) (h0 : Heap) (n0 : Nat) (v : Option Value) (h : Heap) (L : List Loc) : Prop := v = some (.int (own_pk (own_kd psel pp) xa xb xc xs)) ∧ Fr n0 L ∧ h = h0
set_option maxRecDepth 65536 in
set_option maxHeartbeats 40000000 in
theorem rmPick (l : Launch) (Z : State) (a0 : Array Value) (hw : ∀ d ∈ tables_1, d.before a0 Z = true) (psel pp xa xb xc xs : Int32) (h0 : Heap) (n0 : Nat) (Z0 : n0 ≤ h0.size) (hna : nar .byte xa = xa) (hnb : nar .byte xb = xb) (hnc : nar .byte xc = xc) (hns : nar .byte xs = xs) :
    MetFree l Y13 (head1 [Jvm.Cond.code Y13 method_3_code 7 (some .byte)] ({ frames := 0, cells := 0, slots := 0, locals := 0 } : Room)) (fun a U => a = #[(.int psel), (.int pp), (.int xa), (.int xb), (.int xc), (.int xs)] ∧ Z.Warmed39 U.vm ∧ U.heap = h0) (fun _ _ _ _ _ => True) (fun _ U o U' => ∃ v L, o = .returned v ∧ (Q_rmPick Z psel pp xa xb xc xs h0 n0) v U'.heap L ∧ FrameEnd U o U' L ({ frames := 0, cells := 0, slots := 0, locals := 0 } : Room).cells ({ frames := 0, cells := 0, slots := 0, locals := 0 } : Room).slots) := by
  refine MetFree.of_bodySF (plainFor_of_name pn_61676f6) hisR ?_
  intro p e s m args below meth c s₁ Bd hml0 hP hK
  obtain ⟨rfl, hZ, hh⟩ := hP
  have hx := Bd.exec
  have hc : ∀ {pc : Nat} {r}, decode C1 pc = r → decode c.code pc = r := fun h2 => hb Bd.bytes h2
  have hml : c.maxLocals = 7 := hml0
  have hown : s.vm.findClass "com/example/tributary/tributary/join/LineCodesCodedBytesPinLaw" = some m.cls := findClass_of_methodNamed Bd.named
  have hnm := (name_of_methodNamed Bd.named Bd.method).1
  have X0 : Stand p l e ({ frames := 0, cells := 0, slots := 0, locals := 0 } : Room) s m #[(.int psel), (.int pp), (.int xa), (.int xb), (.int xc), (.int xs)] below meth c s₁ [] 0 0 := Stand.of_body Bd
  have e0 : s₁.heap = h0 := by rw [← hh, Bd.state]; rfl
  have N0 := Fr.nil n0
  have K0 : Keep h0 h0 [] := Keep.refl h0 []
  show Go p e below (s₁.setTop (entryFrame m #[(.int psel), (.int pp), (.int xa), (.int xb), (.int xc), (.int xs)] 7)) (EndN s (Q_rmPick Z psel pp xa xb xc xs h0 n0) ({ frames := 0, cells := 0, slots := 0, locals := 0 } : Room).cells ({ frames := 0, cells := 0, slots := 0, locals := 0 } : Room).slots)
  refine Go.top (ef_1 m psel pp xa xb xc xs) ?_
  refine gLN X0 hx (hc d1_0) rfl (.refl 1) ?_
  refine gC (z := 2) X0 hx (hc d1_1) rfl (.refl 2) ?_
  refine gLN X0 hx (hc d1_2) rfl (.refl 3) ?_
  refine gimul X0 hx (hc d1_3) (.refl 4) ?_
  refine gS 5 [(.int ((psel.toUInt32 >>> (((2 : Int32) * pp) &&& 31).toUInt32).toInt32))] (fun zt zk => XS.iushr X0.here hx rfl (hc d1_4) rfl zk) ?_
  refine gC (z := 3) X0 hx (hc d1_5) rfl (.refl 6) ?_
  refine giand X0 hx (hc d1_6) (.refl 7) ?_
  obtain ⟨kk, hkk⟩ : ∃ z, z = own_kd psel pp := ⟨_, rfl⟩
  have hk2 : (((psel.toUInt32 >>> (((2 : Int32) * pp) &&& 31).toUInt32).toInt32) &&& (3 : Int32)) = kk := hkk.symm
  rw [hk2]
  refine gP 9 #[iv psel, iv pp, iv xa, iv xb, iv xc, iv xs, iv kk] [] (fun zt zk => XS.istore X0.here hx rfl (hc d1_7) rfl (l' := _) rfl zk) ?_
  refine gL X0 hx (hc d1_9) rfl (.refl 11) ?_
  by_cases hz0 : kk = (0 : Int32)
  ·
   refine gIN X0 hx (hc d1_11) ((if0 _ _).trans (teq hz0).2) (.refl 14) ?_
   refine gLN X0 hx (hc d1_14) rfl (.refl 15) ?_
   exact Go.done X0 Bd.notSynchronized (v := some (.int (nar .byte xa))) (fun h => by rw [Bd.returns] at h; cases h) (fun fs hr => retN X0 hx (t := .byte) Bd.returns (by simp) (hc d1_15) hr) (by rw [e0]; exact ⟨by rw [← hkk]; unfold own_pk; rw [if_pos hz0, hna], N0, rfl⟩) (by decide) (by decide)
  ·
   refine gIY (q := 16) X0 hx (hc d1_11) ((if0 _ _).trans (feq hz0).2) (by decide) ?_
   refine gL X0 hx (hc d1_16) rfl (.refl 18) ?_
   refine gC (z := 1) X0 hx (hc d1_18) rfl (.refl 19) ?_
   by_cases hz1 : kk = (1 : Int32)
   ·
    refine gJN X0 hx (hc d1_19) (teq hz1).2 (.refl 22) ?_
    refine gLN X0 hx (hc d1_22) rfl (.refl 23) ?_
    exact Go.done X0 Bd.notSynchronized (v := some (.int (nar .byte xb))) (fun h => by rw [Bd.returns] at h; cases h) (fun fs hr => retN X0 hx (t := .byte) Bd.returns (by simp) (hc d1_23) hr) (by rw [e0]; exact ⟨by rw [← hkk]; unfold own_pk; rw [if_neg hz0, if_pos hz1, hnb], N0, rfl⟩) (by decide) (by decide)
   ·
    refine gJY (q := 24) X0 hx (hc d1_19) (feq hz1).2 (by decide) ?_
    refine gL X0 hx (hc d1_24) rfl (.refl 26) ?_
    refine gC (z := 2) X0 hx (hc d1_26) rfl (.refl 27) ?_
    by_cases hz2 : kk = (2 : Int32)
    ·
     refine gJN X0 hx (hc d1_27) (teq hz2).2 (.refl 30) ?_
     refine gL X0 hx (hc d1_30) rfl (.refl 32) ?_
     exact Go.done X0 Bd.notSynchronized (v := some (.int (nar .byte xc))) (fun h => by rw [Bd.returns] at h; cases h) (fun fs hr => retN X0 hx (t := .byte) Bd.returns (by simp) (hc d1_32) hr) (by rw [e0]; exact ⟨by rw [← hkk]; unfold own_pk; rw [if_neg hz0, if_neg hz1, if_pos hz2, hnc], N0, rfl⟩) (by decide) (by decide)
    ·
     refine gJY (q := 33) X0 hx (hc d1_27) (feq hz2).2 (by decide) ?_
     refine gL X0 hx (hc d1_33) rfl (.refl 35) ?_
     exact Go.done X0 Bd.notSynchronized (v := some (.int (nar .byte xs))) (fun h => by rw [Bd.returns] at h; cases h) (fun fs hr => retN X0 hx (t := .byte) Bd.returns (by simp) (hc d1_35) hr) (by rw [e0]; exact ⟨by rw [← hkk]; unfold own_pk; rw [if_neg hz0, if_neg hz1, if_neg hz2, hns], N0, rfl⟩) (by decide) (by decide)
abbrev C23 : ByteArray := method_4_code
theorem d23_0 : decode C23 0 = .ok (.iload_n 1, 1) := by decide +kernel
theorem d23_1 : decode C23 1 = .ok (.iconst 2, 1) := by decide +kernel
theorem d23_2 : decode C23 2 = .ok (.if_icmp .ne 5, 3) := by decide +kernel
theorem d23_5 : decode C23 5 = .ok (.iconst 0, 1) := by decide +kernel
theorem d23_6 : decode C23 6 = .ok (.ireturn, 1) := by decide +kernel
theorem d23_7 : decode C23 7 = .ok (.iload_n 0, 1) := by decide +kernel
theorem d23_8 : decode C23 8 = .ok (.ifCond .ne 22, 3) := by decide +kernel
theorem d23_11 : decode C23 11 = .ok (.iload_n 1, 1) := by decide +kernel
theorem d23_12 : decode C23 12 = .ok (.ifCond .ne 7, 3) := by decide +kernel
theorem d23_15 : decode C23 15 = .ok (.iconst 1, 1) := by decide +kernel
theorem d23_16 : decode C23 16 = .ok (.goto 13, 3) := by decide +kernel
theorem d23_19 : decode C23 19 = .ok (.iload_n 1, 1) := by decide +kernel
theorem d23_20 : decode C23 20 = .ok (.iconst 1, 1) := by decide +kernel
theorem d23_21 : decode C23 21 = .ok (.if_icmp .ne 7, 3) := by decide +kernel
theorem d23_24 : decode C23 24 = .ok (.iconst 3, 1) := by decide +kernel
theorem d23_25 : decode C23 25 = .ok (.goto 4, 3) := by decide +kernel
theorem d23_28 : decode C23 28 = .ok (.iconst 2, 1) := by decide +kernel
theorem d23_29 : decode C23 29 = .ok (.ireturn, 1) := by decide +kernel
theorem d23_30 : decode C23 30 = .ok (.iload_n 0, 1) := by decide +kernel
theorem d23_31 : decode C23 31 = .ok (.iconst 1, 1) := by decide +kernel
theorem d23_32 : decode C23 32 = .ok (.if_icmp .ne 14, 3) := by decide +kernel
theorem d23_35 : decode C23 35 = .ok (.iload_n 1, 1) := by decide +kernel
theorem d23_36 : decode C23 36 = .ok (.iconst 3, 1) := by decide +kernel
theorem d23_37 : decode C23 37 = .ok (.if_icmp .ne 7, 3) := by decide +kernel
theorem d23_40 : decode C23 40 = .ok (.iconst 1, 1) := by decide +kernel
theorem d23_41 : decode C23 41 = .ok (.goto 4, 3) := by decide +kernel
theorem d23_44 : decode C23 44 = .ok (.iconst 2, 1) := by decide +kernel
theorem d23_45 : decode C23 45 = .ok (.ireturn, 1) := by decide +kernel
theorem d23_46 : decode C23 46 = .ok (.iload_n 1, 1) := by decide +kernel
theorem d23_47 : decode C23 47 = .ok (.ifCond .ne 7, 3) := by decide +kernel
theorem d23_50 : decode C23 50 = .ok (.iconst 0, 1) := by decide +kernel
theorem d23_51 : decode C23 51 = .ok (.goto 4, 3) := by decide +kernel
theorem d23_54 : decode C23 54 = .ok (.iconst 2, 1) := by decide +kernel
theorem d23_55 : decode C23 55 = .ok (.ireturn, 1) := by decide +kernel
theorem ef_23 (m : MethodId) (x0 : Int32) (x1 : Int32) : entryFrame m #[(.int x0), (.int x1)] 2 = mkF m 0 #[.val (.int x0), .val (.int x1)] [] := by first | (simp [entryFrame, mkF, argsToLocals, Value.category]; done) | rfl
def Q_rmLn (Z : State) (xx kk : Int32) (h0 : Heap) (n0 : Nat) (v : Option Value) (h : Heap) (L : List Loc) : Prop := v = some (.int (own_ln xx kk)) ∧ Fr n0 L ∧ h = h0
set_option maxRecDepth 65536 in
set_option maxHeartbeats 40000000 in
theorem rmLn (l : Launch) (Z : State) (a0 : Array Value) (hw : ∀ d ∈ tables_1, d.before a0 Z = true) (xx kk : Int32) (h0 : Heap) (n0 : Nat) (Z0 : n0 ≤ h0.size)  :
    MetFree l Y14 (head1 [Jvm.Cond.code Y14 method_4_code 2 (some .int)] ({ frames := 0, cells := 0, slots := 0, locals := 0 } : Room)) (fun a U => a = #[(.int xx), (.int kk)] ∧ Z.Warmed39 U.vm ∧ U.heap = h0) (fun _ _ _ _ _ => True) (fun _ U o U' => ∃ v L, o = .returned v ∧ (Q_rmLn Z xx kk h0 n0) v U'.heap L ∧ FrameEnd U o U' L ({ frames := 0, cells := 0, slots := 0, locals := 0 } : Room).cells ({ frames := 0, cells := 0, slots := 0, locals := 0 } : Room).slots) := by
  refine MetFree.of_bodySF (plainFor_of_name pn_61676f6) hisR ?_
  intro p e s m args below meth c s₁ Bd hml0 hP hK
  obtain ⟨rfl, hZ, hh⟩ := hP
  have hx := Bd.exec
  have hc : ∀ {pc : Nat} {r}, decode C23 pc = r → decode c.code pc = r := fun h2 => hb Bd.bytes h2
  have hml : c.maxLocals = 2 := hml0
  have hown : s.vm.findClass "com/example/tributary/tributary/join/LineCodesCodedBytesPinLaw" = some m.cls := findClass_of_methodNamed Bd.named
  have hnm := (name_of_methodNamed Bd.named Bd.method).1
  have X0 : Stand p l e ({ frames := 0, cells := 0, slots := 0, locals := 0 } : Room) s m #[(.int xx), (.int kk)] below meth c s₁ [] 0 0 := Stand.of_body Bd
  have e0 : s₁.heap = h0 := by rw [← hh, Bd.state]; rfl
  have N0 := Fr.nil n0
  have K0 : Keep h0 h0 [] := Keep.refl h0 []
  show Go p e below (s₁.setTop (entryFrame m #[(.int xx), (.int kk)] 2)) (EndN s (Q_rmLn Z xx kk h0 n0) ({ frames := 0, cells := 0, slots := 0, locals := 0 } : Room).cells ({ frames := 0, cells := 0, slots := 0, locals := 0 } : Room).slots)
  refine Go.top (ef_23 m xx kk) ?_
  refine gLN X0 hx (hc d23_0) rfl (.refl 1) ?_
  refine gC (z := 2) X0 hx (hc d23_1) rfl (.refl 2) ?_
  by_cases hk2 : kk = (2 : Int32)
  ·
   refine gJN X0 hx (hc d23_2) (teq hk2).2 (.refl 5) ?_
   refine gC (z := 0) X0 hx (hc d23_5) rfl (.refl 6) ?_
   exact Go.done X0 Bd.notSynchronized (v := some (.int 0)) (fun h => by rw [Bd.returns] at h; cases h) (fun fs hr => retI X0 hx Bd.returns (hc d23_6) hr) (by rw [e0]; exact ⟨by unfold own_ln; rw [if_pos hk2], N0, rfl⟩) (by decide) (by decide)
  ·
   refine gJY (q := 7) X0 hx (hc d23_2) (feq hk2).2 (by decide) ?_
   refine gLN X0 hx (hc d23_7) rfl (.refl 8) ?_
   by_cases hx0 : xx = (0 : Int32)
   ·
    refine gIN X0 hx (hc d23_8) ((if0 _ _).trans (teq hx0).2) (.refl 11) ?_
    refine gLN X0 hx (hc d23_11) rfl (.refl 12) ?_
    by_cases hk0 : kk = (0 : Int32)
    ·
     refine gIN X0 hx (hc d23_12) ((if0 _ _).trans (teq hk0).2) (.refl 15) ?_
     refine gC (z := 1) X0 hx (hc d23_15) rfl (.refl 16) ?_
     refine gG (q := 29) X0 hx (hc d23_16) (by decide) ?_
     exact Go.done X0 Bd.notSynchronized (v := some (.int 1)) (fun h => by rw [Bd.returns] at h; cases h) (fun fs hr => retI X0 hx Bd.returns (hc d23_29) hr) (by rw [e0]; exact ⟨by unfold own_ln; rw [if_neg hk2, if_pos hx0, if_pos hk0], N0, rfl⟩) (by decide) (by decide)
    ·
     refine gIY (q := 19) X0 hx (hc d23_12) ((if0 _ _).trans (feq hk0).2) (by decide) ?_
     refine gLN X0 hx (hc d23_19) rfl (.refl 20) ?_
     refine gC (z := 1) X0 hx (hc d23_20) rfl (.refl 21) ?_
     by_cases hk1 : kk = (1 : Int32)
     ·
      refine gJN X0 hx (hc d23_21) (teq hk1).2 (.refl 24) ?_
      refine gC (z := 3) X0 hx (hc d23_24) rfl (.refl 25) ?_
      refine gG (q := 29) X0 hx (hc d23_25) (by decide) ?_
      exact Go.done X0 Bd.notSynchronized (v := some (.int 3)) (fun h => by rw [Bd.returns] at h; cases h) (fun fs hr => retI X0 hx Bd.returns (hc d23_29) hr) (by rw [e0]; exact ⟨by unfold own_ln; rw [if_neg hk2, if_pos hx0, if_neg hk0, if_pos hk1], N0, rfl⟩) (by decide) (by decide)
     ·
      refine gJY (q := 28) X0 hx (hc d23_21) (feq hk1).2 (by decide) ?_
      refine gC (z := 2) X0 hx (hc d23_28) rfl (.refl 29) ?_
      exact Go.done X0 Bd.notSynchronized (v := some (.int 2)) (fun h => by rw [Bd.returns] at h; cases h) (fun fs hr => retI X0 hx Bd.returns (hc d23_29) hr) (by rw [e0]; exact ⟨by unfold own_ln; rw [if_neg hk2, if_pos hx0, if_neg hk0, if_neg hk1], N0, rfl⟩) (by decide) (by decide)
   ·
    refine gIY (q := 30) X0 hx (hc d23_8) ((if0 _ _).trans (feq hx0).2) (by decide) ?_
    refine gLN X0 hx (hc d23_30) rfl (.refl 31) ?_
    refine gC (z := 1) X0 hx (hc d23_31) rfl (.refl 32) ?_
    by_cases hx1 : xx = (1 : Int32)
    ·
     refine gJN X0 hx (hc d23_32) (teq hx1).2 (.refl 35) ?_
     refine gLN X0 hx (hc d23_35) rfl (.refl 36) ?_
     refine gC (z := 3) X0 hx (hc d23_36) rfl (.refl 37) ?_
     by_cases hk3 : kk = (3 : Int32)
     ·
      refine gJN X0 hx (hc d23_37) (teq hk3).2 (.refl 40) ?_
      refine gC (z := 1) X0 hx (hc d23_40) rfl (.refl 41) ?_
      refine gG (q := 45) X0 hx (hc d23_41) (by decide) ?_
      exact Go.done X0 Bd.notSynchronized (v := some (.int 1)) (fun h => by rw [Bd.returns] at h; cases h) (fun fs hr => retI X0 hx Bd.returns (hc d23_45) hr) (by rw [e0]; exact ⟨by unfold own_ln; rw [if_neg hk2, if_neg hx0, if_pos hx1, if_pos hk3], N0, rfl⟩) (by decide) (by decide)
     ·
      refine gJY (q := 44) X0 hx (hc d23_37) (feq hk3).2 (by decide) ?_
      refine gC (z := 2) X0 hx (hc d23_44) rfl (.refl 45) ?_
      exact Go.done X0 Bd.notSynchronized (v := some (.int 2)) (fun h => by rw [Bd.returns] at h; cases h) (fun fs hr => retI X0 hx Bd.returns (hc d23_45) hr) (by rw [e0]; exact ⟨by unfold own_ln; rw [if_neg hk2, if_neg hx0, if_pos hx1, if_neg hk3], N0, rfl⟩) (by decide) (by decide)
    ·
     refine gJY (q := 46) X0 hx (hc d23_32) (feq hx1).2 (by decide) ?_
     refine gLN X0 hx (hc d23_46) rfl (.refl 47) ?_
     by_cases hk0 : kk = (0 : Int32)
     ·
      refine gIN X0 hx (hc d23_47) ((if0 _ _).trans (teq hk0).2) (.refl 50) ?_
      refine gC (z := 0) X0 hx (hc d23_50) rfl (.refl 51) ?_
      refine gG (q := 55) X0 hx (hc d23_51) (by decide) ?_
      exact Go.done X0 Bd.notSynchronized (v := some (.int 0)) (fun h => by rw [Bd.returns] at h; cases h) (fun fs hr => retI X0 hx Bd.returns (hc d23_55) hr) (by rw [e0]; exact ⟨by unfold own_ln; rw [if_neg hk2, if_neg hx0, if_neg hx1, if_pos hk0], N0, rfl⟩) (by decide) (by decide)
     ·
      refine gIY (q := 54) X0 hx (hc d23_47) ((if0 _ _).trans (feq hk0).2) (by decide) ?_
      refine gC (z := 2) X0 hx (hc d23_54) rfl (.refl 55) ?_
      exact Go.done X0 Bd.notSynchronized (v := some (.int 2)) (fun h => by rw [Bd.returns] at h; cases h) (fun fs hr => retI X0 hx Bd.returns (hc d23_55) hr) (by rw [e0]; exact ⟨by unfold own_ln; rw [if_neg hk2, if_neg hx0, if_neg hx1, if_neg hk0], N0, rfl⟩) (by decide) (by decide)
abbrev C21 : ByteArray := method_5_code
theorem d21_0 : decode C21 0 = .ok (.iload_n 2, 1) := by decide +kernel
theorem d21_1 : decode C21 1 = .ok (.iload_n 3, 1) := by decide +kernel
theorem d21_2 : decode C21 2 = .ok (.if_icmp .lt 15, 3) := by decide +kernel
theorem d21_5 : decode C21 5 = .ok (.iload_n 2, 1) := by decide +kernel
theorem d21_6 : decode C21 6 = .ok (.iload 4, 2) := by decide +kernel
theorem d21_8 : decode C21 8 = .ok (.if_icmp .ge 9, 3) := by decide +kernel
theorem d21_11 : decode C21 11 = .ok (.aload_n 0, 1) := by decide +kernel
theorem d21_12 : decode C21 12 = .ok (.iconst 2, 1) := by decide +kernel
theorem d21_13 : decode C21 13 = .ok (.iaload, 1) := by decide +kernel
theorem d21_14 : decode C21 14 = .ok (.ifCond .eq 4, 3) := by decide +kernel
theorem d21_17 : decode C21 17 = .ok (.return_, 1) := by decide +kernel
theorem d21_18 : decode C21 18 = .ok (.iload_n 1, 1) := by decide +kernel
theorem d21_19 : decode C21 19 = .ok (.iconst 2, 1) := by decide +kernel
theorem d21_20 : decode C21 20 = .ok (.iload_n 2, 1) := by decide +kernel
theorem d21_21 : decode C21 21 = .ok (.imul, 1) := by decide +kernel
theorem d21_22 : decode C21 22 = .ok (.iushr, 1) := by decide +kernel
theorem d21_23 : decode C21 23 = .ok (.iconst 3, 1) := by decide +kernel
theorem d21_24 : decode C21 24 = .ok (.iand, 1) := by decide +kernel
theorem d21_25 : decode C21 25 = .ok (.istore 5, 2) := by decide +kernel
theorem d21_27 : decode C21 27 = .ok (.aload_n 0, 1) := by decide +kernel
theorem d21_28 : decode C21 28 = .ok (.iconst 0, 1) := by decide +kernel
theorem d21_29 : decode C21 29 = .ok (.iaload, 1) := by decide +kernel
theorem d21_30 : decode C21 30 = .ok (.iload 5, 2) := by decide +kernel
theorem d21_32 : decode C21 32 = .ok (.invokestatic 34, 3) := by decide +kernel
theorem d21_35 : decode C21 35 = .ok (.istore 6, 2) := by decide +kernel
theorem d21_37 : decode C21 37 = .ok (.iload 6, 2) := by decide +kernel
theorem d21_39 : decode C21 39 = .ok (.ifCond .ne 8, 3) := by decide +kernel
theorem d21_42 : decode C21 42 = .ok (.aload_n 0, 1) := by decide +kernel
theorem d21_43 : decode C21 43 = .ok (.iconst 2, 1) := by decide +kernel
theorem d21_44 : decode C21 44 = .ok (.iconst 1, 1) := by decide +kernel
theorem d21_45 : decode C21 45 = .ok (.iastore, 1) := by decide +kernel
theorem d21_46 : decode C21 46 = .ok (.return_, 1) := by decide +kernel
theorem d21_47 : decode C21 47 = .ok (.aload_n 0, 1) := by decide +kernel
theorem d21_48 : decode C21 48 = .ok (.iconst 1, 1) := by decide +kernel
theorem d21_49 : decode C21 49 = .ok (.aload_n 0, 1) := by decide +kernel
theorem d21_50 : decode C21 50 = .ok (.iconst 1, 1) := by decide +kernel
theorem d21_51 : decode C21 51 = .ok (.iaload, 1) := by decide +kernel
theorem d21_52 : decode C21 52 = .ok (.iload 6, 2) := by decide +kernel
theorem d21_54 : decode C21 54 = .ok (.iadd, 1) := by decide +kernel
theorem d21_55 : decode C21 55 = .ok (.iastore, 1) := by decide +kernel
theorem d21_56 : decode C21 56 = .ok (.iload 5, 2) := by decide +kernel
theorem d21_58 : decode C21 58 = .ok (.iconst 3, 1) := by decide +kernel
theorem d21_59 : decode C21 59 = .ok (.if_icmp .ne 18, 3) := by decide +kernel
theorem d21_62 : decode C21 62 = .ok (.aload_n 0, 1) := by decide +kernel
theorem d21_63 : decode C21 63 = .ok (.iconst 0, 1) := by decide +kernel
theorem d21_64 : decode C21 64 = .ok (.iaload, 1) := by decide +kernel
theorem d21_65 : decode C21 65 = .ok (.iconst 2, 1) := by decide +kernel
theorem d21_66 : decode C21 66 = .ok (.if_icmp .ge 11, 3) := by decide +kernel
theorem d21_69 : decode C21 69 = .ok (.aload_n 0, 1) := by decide +kernel
theorem d21_70 : decode C21 70 = .ok (.iconst 0, 1) := by decide +kernel
theorem d21_71 : decode C21 71 = .ok (.aload_n 0, 1) := by decide +kernel
theorem d21_72 : decode C21 72 = .ok (.iconst 0, 1) := by decide +kernel
theorem d21_73 : decode C21 73 = .ok (.iaload, 1) := by decide +kernel
theorem d21_74 : decode C21 74 = .ok (.iconst 1, 1) := by decide +kernel
theorem d21_75 : decode C21 75 = .ok (.iadd, 1) := by decide +kernel
theorem d21_76 : decode C21 76 = .ok (.iastore, 1) := by decide +kernel
theorem d21_77 : decode C21 77 = .ok (.return_, 1) := by decide +kernel
theorem ef_21 (m : MethodId) (x0 : Addr) (x1 : Int32) (x2 : Int32) (x3 : Int32) (x4 : Int32) : entryFrame m #[(.ref x0), (.int x1), (.int x2), (.int x3), (.int x4)] 7 = mkF m 0 #[.val (.ref x0), .val (.int x1), .val (.int x2), .val (.int x3), .val (.int x4), .unset, .unset] [] := by first | (simp [entryFrame, mkF, argsToLocals, Value.category]; done) | rfl
def Q_rmStep (Z : State) (st : Addr) (kst : ClassId) (psel pp pf pt x0 x1 x2 : Int32) (h0 : Heap) (n0 : Nat) (v : Option Value) (h : Heap) (L : List Loc) : Prop := v = none ∧ Fr n0 L ∧ Keep h0 h [st] ∧ Arv Z h st kst .int (3 : Int32) [(.int (own_stp psel pp pf pt (x0, x1, x2)).1), (.int (own_stp psel pp pf pt (x0, x1, x2)).2.1), (.int (own_stp psel pp pf pt (x0, x1, x2)).2.2)] (.int 0)
set_option maxRecDepth 65536 in
set_option maxHeartbeats 40000000 in
theorem rmStep (l : Launch) (Z : State) (a0 : Array Value) (hw : ∀ d ∈ tables_1, d.before a0 Z = true) (st : Addr) (kst : ClassId) (psel pp pf pt x0 x1 x2 : Int32) (h0 : Heap) (n0 : Nat) (Z0 : n0 ≤ h0.size) (Vs : Arv Z h0 st kst .int (3 : Int32) [(.int x0), (.int x1), (.int x2)] (.int 0)) (g_st : n0 ≤ st) :
    MetFree l Y15 (head1 [Jvm.Cond.code Y15 method_5_code 7 none] ({ frames := 1, cells := 0, slots := 0, locals := 13 } : Room)) (fun a U => a = #[(.ref st), (.int psel), (.int pp), (.int pf), (.int pt)] ∧ Z.Warmed39 U.vm ∧ U.heap = h0) (fun _ _ _ _ _ => True) (fun _ U o U' => ∃ v L, o = .returned v ∧ (Q_rmStep Z st kst psel pp pf pt x0 x1 x2 h0 n0) v U'.heap L ∧ FrameEnd U o U' L ({ frames := 1, cells := 0, slots := 0, locals := 13 } : Room).cells ({ frames := 1, cells := 0, slots := 0, locals := 13 } : Room).slots) := by
  refine MetFree.of_bodySF (plainFor_of_name pn_61676f6) hisR ?_
  intro p e s m args below meth c s₁ Bd hml0 hP hK
  obtain ⟨rfl, hZ, hh⟩ := hP
  have hx := Bd.exec
  have hc : ∀ {pc : Nat} {r}, decode C21 pc = r → decode c.code pc = r := fun h2 => hb Bd.bytes h2
  have hml : c.maxLocals = 7 := hml0
  have hown : s.vm.findClass "com/example/tributary/tributary/join/LineCodesCodedBytesPinLaw" = some m.cls := findClass_of_methodNamed Bd.named
  have hnm := (name_of_methodNamed Bd.named Bd.method).1
  have X0 : Stand p l e ({ frames := 1, cells := 0, slots := 0, locals := 13 } : Room) s m #[(.ref st), (.int psel), (.int pp), (.int pf), (.int pt)] below meth c s₁ [] 0 0 := Stand.of_body Bd
  have e0 : s₁.heap = h0 := by rw [← hh, Bd.state]; rfl
  have N0 := Fr.nil n0
  have K0 : Keep h0 h0 [st] := Keep.refl h0 [st]
  show Go p e below (s₁.setTop (entryFrame m #[(.ref st), (.int psel), (.int pp), (.int pf), (.int pt)] 7)) (EndN s (Q_rmStep Z st kst psel pp pf pt x0 x1 x2 h0 n0) ({ frames := 1, cells := 0, slots := 0, locals := 13 } : Room).cells ({ frames := 1, cells := 0, slots := 0, locals := 13 } : Room).slots)
  refine Go.top (ef_21 m st psel pp pf pt) ?_
  refine gLN X0 hx (hc d21_0) rfl (.refl 1) ?_
  refine gLN X0 hx (hc d21_1) rfl (.refl 2) ?_
  by_cases hlt : pp < pf
  ·
   refine gJY (q := 17) X0 hx (hc d21_2) (tlt hlt).1 (by decide) ?_
   have hfin : own_stp psel pp pf pt (x0, x1, x2) = (x0, x1, x2) := (show (if pp < pf ∨ ¬ pp < pt ∨ ¬ x2 = 0 then (x0, x1, x2) else if own_ln x0 (own_kd psel pp) = 0 then (x0, x1, (1 : Int32)) else (if own_kd psel pp = 3 ∧ x0 < 2 then x0 + 1 else x0, x1 + own_ln x0 (own_kd psel pp), x2)) = (x0, x1, x2) by rw [if_pos (Or.inl hlt)])
   exact Go.done X0 Bd.notSynchronized (v := none) (fun _ => rfl) (fun fs hr => X0.returnOut hx Bd.returns (hc d21_17) hr) (by rw [e0]; exact ⟨rfl, N0, K0, by rw [hfin]; exact Vs⟩) (by decide) (by decide)
  ·
   refine gJN X0 hx (hc d21_2) (flt hlt).1 (.refl 5) ?_
   refine gLN X0 hx (hc d21_5) rfl (.refl 6) ?_
   refine gL X0 hx (hc d21_6) rfl (.refl 8) ?_
   by_cases hge : pp < pt
   ·
    refine gJN X0 hx (hc d21_8) (tlt hge).2.1 (.refl 11) ?_
    refine gAN X0 hx (hc d21_11) rfl (.refl 12) ?_
    refine gC (z := 2) X0 hx (hc d21_12) rfl (.refl 13) ?_
    refine gIA X0 hx hZ e0 Vs (.int x2) ⟨by decide, by decide⟩ rfl (hc d21_13) (.refl 14) ?_
    by_cases hx2 : x2 = (0 : Int32)
    ·
     refine gIY (q := 18) X0 hx (hc d21_14) ((if0 _ _).trans (teq hx2).1) (by decide) ?_
     refine gLN X0 hx (hc d21_18) rfl (.refl 19) ?_
     refine gC (z := 2) X0 hx (hc d21_19) rfl (.refl 20) ?_
     refine gLN X0 hx (hc d21_20) rfl (.refl 21) ?_
     refine gimul X0 hx (hc d21_21) (.refl 22) ?_
     refine gS 23 [(.int ((psel.toUInt32 >>> (((2 : Int32) * pp) &&& 31).toUInt32).toInt32))] (fun zt zk => XS.iushr X0.here hx rfl (hc d21_22) rfl zk) ?_
     refine gC (z := 3) X0 hx (hc d21_23) rfl (.refl 24) ?_
     refine giand X0 hx (hc d21_24) (.refl 25) ?_
     obtain ⟨kk, hkk⟩ : ∃ z, z = own_kd psel pp := ⟨_, rfl⟩
     have hk2 : (((psel.toUInt32 >>> (((2 : Int32) * pp) &&& 31).toUInt32).toInt32) &&& (3 : Int32)) = kk := hkk.symm
     rw [hk2]
     refine gP 27 #[rv st, iv psel, iv pp, iv pf, iv pt, iv kk, .unset] [] (fun zt zk => XS.istore X0.here hx rfl (hc d21_25) rfl (l' := _) rfl zk) ?_
     refine gAN X0 hx (hc d21_27) rfl (.refl 28) ?_
     refine gC (z := 0) X0 hx (hc d21_28) rfl (.refl 29) ?_
     refine gIA X0 hx hZ e0 Vs (.int x0) ⟨by decide, by decide⟩ rfl (hc d21_29) (.refl 30) ?_
     refine gL X0 hx (hc d21_30) rfl (.refl 32) ?_
     obtain ⟨vr289, _, ⟨T289, L289, k289, n289⟩, -, X289, ⟨Lc289, hQ289, l289, y289, z289⟩, st289⟩ := Jvm.LawKit.callS X0 hx (y := Y14) hown (mvT hZ (ow hw 115 rfl)) (mvT hZ (ow hw 116 rfl)) (mvT hZ (ow hw 3 rfl)) (mvT hZ (ow hw 117 rfl)) (by decide) (backOf (W := 0) (rmLn l Z a0 hw x0 kk h0 n0 Z0) hZ (ow hw 117 rfl) (ow hw 3 rfl) (by decide) (by decide)) (g := (mkF m 32 #[rv st, iv psel, iv pp, iv pf, iv pt, iv kk, .unset] [(.int kk), (.int x0)])) rfl (by rw [hml]; rfl) (argsL := [(.int x0), (.int kk)]) (rest := []) (lenOf pd_7ffd0b0 rfl) rfl (by show 2 * 0 + _ ≤ _; exact Nat.le_of_eq rfl) (hc d21_32) (fun _ _ => ⟨rfl, e0, (by decide : 0 + 0 ≤ _), (by decide : 0 + 0 ≤ _)⟩)
     dsimp only [Pt.U, Pt.locs, Pt.cells, Pt.slots] at X289 l289 y289 z289 st289 hQ289
     subst l289 y289 z289
     obtain ⟨rfl, Nq289, eq289⟩ := hQ289
     have NN290 := Fr.app N0 Nq289
     refine gT T289 35 [(.int (own_ln x0 kk))] (fun zt zk => st289 zt zk) ?_
     obtain ⟨ll, hll⟩ : ∃ z, z = own_ln x0 kk := ⟨_, rfl⟩
     rw [← hll]
     refine gP 37 #[rv st, iv psel, iv pp, iv pf, iv pt, iv kk, iv ll] [] (fun zt zk => XS.istore X289.here hx rfl (hc d21_35) rfl (l' := _) rfl zk) ?_
     refine gL X289 hx (hc d21_37) rfl (.refl 39) ?_
     by_cases hl0 : ll = (0 : Int32)
     ·
      refine gIN X289 hx (hc d21_39) ((if0 _ _).trans (teq hl0).2) (.refl 42) ?_
      refine gAN X289 hx (hc d21_42) rfl (.refl 43) ?_
      refine gC (z := 2) X289 hx (hc d21_43) rfl (.refl 44) ?_
      refine gC (z := 1) X289 hx (hc d21_44) rfl (.refl 45) ?_
      refine gSI X289 hx hZ eq289 Vs ⟨by decide, by decide⟩ 2 rfl (Nat.le_of_ble_eq_true rfl) [(.int x0), (.int x1), (.int 1)] rfl (hc d21_45) (.refl 46) ?_
      intro T291 h291 X291 e291 W291 V291
      have K291 := K0.wr W291 (Or.inl (List.mem_of_getElem? (i := 0) rfl))
      have N291 := Fr.snoc X291 NN290 g_st
      have hfin : own_stp psel pp pf pt (x0, x1, x2) = (x0, x1, (1 : Int32)) := (show (if pp < pf ∨ ¬ pp < pt ∨ ¬ x2 = 0 then (x0, x1, x2) else if own_ln x0 (own_kd psel pp) = 0 then (x0, x1, (1 : Int32)) else (if own_kd psel pp = 3 ∧ x0 < 2 then x0 + 1 else x0, x1 + own_ln x0 (own_kd psel pp), x2)) = (x0, x1, (1 : Int32)) by rw [if_neg (fun q => q.elim hlt (fun q => q.elim (fun z => z hge) (fun z => z hx2))), ← hkk, ← hll, if_pos hl0])
      exact Go.done X291 Bd.notSynchronized (v := none) (fun _ => rfl) (fun fs hr => X291.returnOut hx Bd.returns (hc d21_46) hr) (by rw [e291]; exact ⟨rfl, N291, K291, by rw [hfin]; exact V291⟩) (by decide) (by decide)
     ·
      refine gIY (q := 47) X289 hx (hc d21_39) ((if0 _ _).trans (feq hl0).2) (by decide) ?_
      refine gAN X289 hx (hc d21_47) rfl (.refl 48) ?_
      refine gC (z := 1) X289 hx (hc d21_48) rfl (.refl 49) ?_
      refine gAN X289 hx (hc d21_49) rfl (.refl 50) ?_
      refine gC (z := 1) X289 hx (hc d21_50) rfl (.refl 51) ?_
      refine gIA X289 hx hZ eq289 Vs (.int x1) ⟨by decide, by decide⟩ rfl (hc d21_51) (.refl 52) ?_
      refine gL X289 hx (hc d21_52) rfl (.refl 54) ?_
      refine giadd X289 hx (hc d21_54) (.refl 55) ?_
      refine gSI X289 hx hZ eq289 Vs ⟨by decide, by decide⟩ 1 rfl (Nat.le_of_ble_eq_true rfl) [(.int x0), (.int (x1 + ll)), (.int x2)] rfl (hc d21_55) (.refl 56) ?_
      intro T293 h293 X293 e293 W293 V293
      have K293 := K0.wr W293 (Or.inl (List.mem_of_getElem? (i := 0) rfl))
      have N293 := Fr.snoc X293 NN290 g_st
      refine gL X293 hx (hc d21_56) rfl (.refl 58) ?_
      refine gC (z := 3) X293 hx (hc d21_58) rfl (.refl 59) ?_
      by_cases hk3 : kk = (3 : Int32)
      ·
       refine gJN X293 hx (hc d21_59) (teq hk3).2 (.refl 62) ?_
       refine gAN X293 hx (hc d21_62) rfl (.refl 63) ?_
       refine gC (z := 0) X293 hx (hc d21_63) rfl (.refl 64) ?_
       refine gIA X293 hx hZ e293 V293 (.int x0) ⟨by decide, by decide⟩ rfl (hc d21_64) (.refl 65) ?_
       refine gC (z := 2) X293 hx (hc d21_65) rfl (.refl 66) ?_
       by_cases hx02 : x0 < (2 : Int32)
       ·
        refine gJN X293 hx (hc d21_66) (tlt hx02).2.1 (.refl 69) ?_
        refine gAN X293 hx (hc d21_69) rfl (.refl 70) ?_
        refine gC (z := 0) X293 hx (hc d21_70) rfl (.refl 71) ?_
        refine gAN X293 hx (hc d21_71) rfl (.refl 72) ?_
        refine gC (z := 0) X293 hx (hc d21_72) rfl (.refl 73) ?_
        refine gIA X293 hx hZ e293 V293 (.int x0) ⟨by decide, by decide⟩ rfl (hc d21_73) (.refl 74) ?_
        refine gC (z := 1) X293 hx (hc d21_74) rfl (.refl 75) ?_
        refine giadd X293 hx (hc d21_75) (.refl 76) ?_
        refine gSI X293 hx hZ e293 V293 ⟨by decide, by decide⟩ 0 rfl (Nat.le_of_ble_eq_true rfl) [(.int (x0 + (1 : Int32))), (.int (x1 + ll)), (.int x2)] rfl (hc d21_76) (.refl 77) ?_
        intro T296 h296 X296 e296 W296 V296
        have K296 := K293.wr W296 (Or.inl (List.mem_of_getElem? (i := 0) rfl))
        have N296 := Fr.snoc X296 N293 g_st
        have hfin : own_stp psel pp pf pt (x0, x1, x2) = (x0 + 1, x1 + ll, x2) := (show (if pp < pf ∨ ¬ pp < pt ∨ ¬ x2 = 0 then (x0, x1, x2) else if own_ln x0 (own_kd psel pp) = 0 then (x0, x1, (1 : Int32)) else (if own_kd psel pp = 3 ∧ x0 < 2 then x0 + 1 else x0, x1 + own_ln x0 (own_kd psel pp), x2)) = (x0 + 1, x1 + ll, x2) by rw [if_neg (fun q => q.elim hlt (fun q => q.elim (fun z => z hge) (fun z => z hx2))), ← hkk, ← hll, if_neg hl0, if_pos ⟨hk3, hx02⟩])
        exact Go.done X296 Bd.notSynchronized (v := none) (fun _ => rfl) (fun fs hr => X296.returnOut hx Bd.returns (hc d21_77) hr) (by rw [e296]; exact ⟨rfl, N296, K296, by rw [hfin]; exact V296⟩) (by decide) (by decide)
       ·
        refine gJY (q := 77) X293 hx (hc d21_66) (flt hx02).2.1 (by decide) ?_
        have hfin : own_stp psel pp pf pt (x0, x1, x2) = (x0, x1 + ll, x2) := (show (if pp < pf ∨ ¬ pp < pt ∨ ¬ x2 = 0 then (x0, x1, x2) else if own_ln x0 (own_kd psel pp) = 0 then (x0, x1, (1 : Int32)) else (if own_kd psel pp = 3 ∧ x0 < 2 then x0 + 1 else x0, x1 + own_ln x0 (own_kd psel pp), x2)) = (x0, x1 + ll, x2) by rw [if_neg (fun q => q.elim hlt (fun q => q.elim (fun z => z hge) (fun z => z hx2))), ← hkk, ← hll, if_neg hl0, if_neg (fun q => hx02 q.2)])
        exact Go.done X293 Bd.notSynchronized (v := none) (fun _ => rfl) (fun fs hr => X293.returnOut hx Bd.returns (hc d21_77) hr) (by rw [e293]; exact ⟨rfl, N293, K293, by rw [hfin]; exact V293⟩) (by decide) (by decide)
      ·
       refine gJY (q := 77) X293 hx (hc d21_59) (feq hk3).2 (by decide) ?_
       have hfin : own_stp psel pp pf pt (x0, x1, x2) = (x0, x1 + ll, x2) := (show (if pp < pf ∨ ¬ pp < pt ∨ ¬ x2 = 0 then (x0, x1, x2) else if own_ln x0 (own_kd psel pp) = 0 then (x0, x1, (1 : Int32)) else (if own_kd psel pp = 3 ∧ x0 < 2 then x0 + 1 else x0, x1 + own_ln x0 (own_kd psel pp), x2)) = (x0, x1 + ll, x2) by rw [if_neg (fun q => q.elim hlt (fun q => q.elim (fun z => z hge) (fun z => z hx2))), ← hkk, ← hll, if_neg hl0, if_neg (fun q => hk3 q.1)])
       exact Go.done X293 Bd.notSynchronized (v := none) (fun _ => rfl) (fun fs hr => X293.returnOut hx Bd.returns (hc d21_77) hr) (by rw [e293]; exact ⟨rfl, N293, K293, by rw [hfin]; exact V293⟩) (by decide) (by decide)
    ·
     refine gIN X0 hx (hc d21_14) ((if0 _ _).trans (feq hx2).1) (.refl 17) ?_
     have hfin : own_stp psel pp pf pt (x0, x1, x2) = (x0, x1, x2) := (show (if pp < pf ∨ ¬ pp < pt ∨ ¬ x2 = 0 then (x0, x1, x2) else if own_ln x0 (own_kd psel pp) = 0 then (x0, x1, (1 : Int32)) else (if own_kd psel pp = 3 ∧ x0 < 2 then x0 + 1 else x0, x1 + own_ln x0 (own_kd psel pp), x2)) = (x0, x1, x2) by rw [if_pos (Or.inr (Or.inr hx2))])
     exact Go.done X0 Bd.notSynchronized (v := none) (fun _ => rfl) (fun fs hr => X0.returnOut hx Bd.returns (hc d21_17) hr) (by rw [e0]; exact ⟨rfl, N0, K0, by rw [hfin]; exact Vs⟩) (by decide) (by decide)
   ·
    refine gJY (q := 17) X0 hx (hc d21_8) (flt hge).2.1 (by decide) ?_
    have hfin : own_stp psel pp pf pt (x0, x1, x2) = (x0, x1, x2) := (show (if pp < pf ∨ ¬ pp < pt ∨ ¬ x2 = 0 then (x0, x1, x2) else if own_ln x0 (own_kd psel pp) = 0 then (x0, x1, (1 : Int32)) else (if own_kd psel pp = 3 ∧ x0 < 2 then x0 + 1 else x0, x1 + own_ln x0 (own_kd psel pp), x2)) = (x0, x1, x2) by rw [if_pos (Or.inr (Or.inl hge))])
    exact Go.done X0 Bd.notSynchronized (v := none) (fun _ => rfl) (fun fs hr => X0.returnOut hx Bd.returns (hc d21_17) hr) (by rw [e0]; exact ⟨rfl, N0, K0, by rw [hfin]; exact Vs⟩) (by decide) (by decide)
def own_cb (G : Nat → Nat → Int32) (lf : Nat → Int32) (ui : Nat → Nat) (sep : Int32) : Nat → Nat → Nat → Int64 → Int32
  | 0, _, part, bits => if G part 256 &&& 15 = 0 then -1 else ((bits + (G part 256 &&& 15).toInt64 + (8 : Int64) - (1 : Int64)) / (8 : Int64)).toInt32
  | r + 1, i, part, bits => if G part (ui i) &&& 15 = 0 then -1 else own_cb G lf ui sep r (i + 1) (if lf i = sep ∧ part < 2 then part + 1 else part) (bits + (G part (ui i) &&& 15).toInt64)
theorem own_xs {b : Addr} {j : Nat} (h : j < 6) : (((List.range 6).map fun j => b + 1 + j).map Value.ref).getD (Int32.ofNat j).toNatClampNeg .null = .ref (b + 1 + j) := by
  rw [own_clamp (by omega), List.getD_eq_getElem?_getD, List.getElem?_map, List.getElem?_map, List.getElem?_range h]; rfl
theorem own_cb10 {z0 z1 z2 z3 z4 z5 z6 z7 z9 : Value} {s10 : Slot} {v : Int32} (h : One s10) : storeLocals #[.val z0, .val z1, .val z2, .val z3, .val z4, .val z5, .val z6, .val z7, .second, .val z9, s10] 10 (.int v) = some #[.val z0, .val z1, .val z2, .val z3, .val z4, .val z5, .val z6, .val z7, .second, .val z9, .val (.int v)] := by
  rcases h with rfl | ⟨w, rfl, hw⟩
  · rfl
  · cases w <;> first | rfl | (simp [Value.category] at hw)
theorem own_i3 {cd : Nat} (h : cd < 2) : Int32.ofNat cd * (3 : Int32) = Int32.ofNat (3 * cd) := by
  have q : cd = 0 ∨ cd = 1 := by omega
  rcases q with rfl | rfl <;> rfl
theorem own_ix {cd k : Nat} (h : cd < 2) (hk : k < 3) : Int32.ofNat cd * (3 : Int32) + Int32.ofNat k = Int32.ofNat (3 * cd + k) := by rw [own_i3 h]; exact own_add (by omega)
theorem own_x1 {cd : Nat} (h : cd < 2) : Int32.ofNat cd ^^^ (1 : Int32) = Int32.ofNat (1 - cd) := by
  have q : cd = 0 ∨ cd = 1 := by omega
  rcases q with rfl | rfl <;> decide
abbrev C22 : ByteArray := prog_43_method_12_code
theorem d22_0 : decode C22 0 = .ok (.aload_n 0, 1) := by decide +kernel
theorem d22_1 : decode C22 1 = .ok (.getfield 17, 3) := by decide +kernel
theorem d22_4 : decode C22 4 = .ok (.iload_n 1, 1) := by decide +kernel
theorem d22_5 : decode C22 5 = .ok (.iconst 3, 1) := by decide +kernel
theorem d22_6 : decode C22 6 = .ok (.imul, 1) := by decide +kernel
theorem d22_7 : decode C22 7 = .ok (.aaload, 1) := by decide +kernel
theorem d22_8 : decode C22 8 = .ok (.astore 5, 2) := by decide +kernel
theorem d22_10 : decode C22 10 = .ok (.iconst 0, 1) := by decide +kernel
theorem d22_11 : decode C22 11 = .ok (.istore 6, 2) := by decide +kernel
theorem d22_13 : decode C22 13 = .ok (.lconst 0, 1) := by decide +kernel
theorem d22_14 : decode C22 14 = .ok (.lstore 7, 2) := by decide +kernel
theorem d22_16 : decode C22 16 = .ok (.iload_n 3, 1) := by decide +kernel
theorem d22_17 : decode C22 17 = .ok (.istore 9, 2) := by decide +kernel
theorem d22_19 : decode C22 19 = .ok (.iload 9, 2) := by decide +kernel
theorem d22_21 : decode C22 21 = .ok (.iload 4, 2) := by decide +kernel
theorem d22_23 : decode C22 23 = .ok (.if_icmp .ge 73, 3) := by decide +kernel
theorem d22_26 : decode C22 26 = .ok (.aload 5, 2) := by decide +kernel
theorem d22_28 : decode C22 28 = .ok (.aload_n 2, 1) := by decide +kernel
theorem d22_29 : decode C22 29 = .ok (.iload 9, 2) := by decide +kernel
theorem d22_31 : decode C22 31 = .ok (.baload, 1) := by decide +kernel
theorem d22_32 : decode C22 32 = .ok (.sipush 255, 3) := by decide +kernel
theorem d22_35 : decode C22 35 = .ok (.iand, 1) := by decide +kernel
theorem d22_36 : decode C22 36 = .ok (.saload, 1) := by decide +kernel
theorem d22_37 : decode C22 37 = .ok (.bipush 15, 2) := by decide +kernel
theorem d22_39 : decode C22 39 = .ok (.iand, 1) := by decide +kernel
theorem d22_40 : decode C22 40 = .ok (.istore 10, 2) := by decide +kernel
theorem d22_42 : decode C22 42 = .ok (.iload 10, 2) := by decide +kernel
theorem d22_44 : decode C22 44 = .ok (.ifCond .ne 5, 3) := by decide +kernel
theorem d22_47 : decode C22 47 = .ok (.iconst (-1), 1) := by decide +kernel
theorem d22_48 : decode C22 48 = .ok (.ireturn, 1) := by decide +kernel
theorem d22_49 : decode C22 49 = .ok (.lload 7, 2) := by decide +kernel
theorem d22_51 : decode C22 51 = .ok (.iload 10, 2) := by decide +kernel
theorem d22_53 : decode C22 53 = .ok (.i2l, 1) := by decide +kernel
theorem d22_54 : decode C22 54 = .ok (.ladd, 1) := by decide +kernel
theorem d22_55 : decode C22 55 = .ok (.lstore 7, 2) := by decide +kernel
theorem d22_57 : decode C22 57 = .ok (.aload_n 2, 1) := by decide +kernel
theorem d22_58 : decode C22 58 = .ok (.iload 9, 2) := by decide +kernel
theorem d22_60 : decode C22 60 = .ok (.baload, 1) := by decide +kernel
theorem d22_61 : decode C22 61 = .ok (.aload_n 0, 1) := by decide +kernel
theorem d22_62 : decode C22 62 = .ok (.getfield 36, 3) := by decide +kernel
theorem d22_65 : decode C22 65 = .ok (.if_icmp .ne 25, 3) := by decide +kernel
theorem d22_68 : decode C22 68 = .ok (.iload 6, 2) := by decide +kernel
theorem d22_70 : decode C22 70 = .ok (.iconst 2, 1) := by decide +kernel
theorem d22_71 : decode C22 71 = .ok (.if_icmp .ge 19, 3) := by decide +kernel
theorem d22_74 : decode C22 74 = .ok (.aload_n 0, 1) := by decide +kernel
theorem d22_75 : decode C22 75 = .ok (.getfield 17, 3) := by decide +kernel
theorem d22_78 : decode C22 78 = .ok (.iload_n 1, 1) := by decide +kernel
theorem d22_79 : decode C22 79 = .ok (.iconst 3, 1) := by decide +kernel
theorem d22_80 : decode C22 80 = .ok (.imul, 1) := by decide +kernel
theorem d22_81 : decode C22 81 = .ok (.iinc 6 1, 3) := by decide +kernel
theorem d22_84 : decode C22 84 = .ok (.iload 6, 2) := by decide +kernel
theorem d22_86 : decode C22 86 = .ok (.iadd, 1) := by decide +kernel
theorem d22_87 : decode C22 87 = .ok (.aaload, 1) := by decide +kernel
theorem d22_88 : decode C22 88 = .ok (.astore 5, 2) := by decide +kernel
theorem d22_90 : decode C22 90 = .ok (.iinc 9 1, 3) := by decide +kernel
theorem d22_93 : decode C22 93 = .ok (.goto (-74), 3) := by decide +kernel
theorem d22_96 : decode C22 96 = .ok (.aload 5, 2) := by decide +kernel
theorem d22_98 : decode C22 98 = .ok (.sipush 256, 3) := by decide +kernel
theorem d22_101 : decode C22 101 = .ok (.saload, 1) := by decide +kernel
theorem d22_102 : decode C22 102 = .ok (.bipush 15, 2) := by decide +kernel
theorem d22_104 : decode C22 104 = .ok (.iand, 1) := by decide +kernel
theorem d22_105 : decode C22 105 = .ok (.istore 9, 2) := by decide +kernel
theorem d22_107 : decode C22 107 = .ok (.iload 9, 2) := by decide +kernel
theorem d22_109 : decode C22 109 = .ok (.ifCond .ne 7, 3) := by decide +kernel
theorem d22_112 : decode C22 112 = .ok (.iconst (-1), 1) := by decide +kernel
theorem d22_113 : decode C22 113 = .ok (.goto 20, 3) := by decide +kernel
theorem d22_116 : decode C22 116 = .ok (.lload 7, 2) := by decide +kernel
theorem d22_118 : decode C22 118 = .ok (.iload 9, 2) := by decide +kernel
theorem d22_120 : decode C22 120 = .ok (.i2l, 1) := by decide +kernel
theorem d22_121 : decode C22 121 = .ok (.ladd, 1) := by decide +kernel
theorem d22_122 : decode C22 122 = .ok (.ldc2_w 103, 3) := by decide +kernel
theorem d22_125 : decode C22 125 = .ok (.ladd, 1) := by decide +kernel
theorem d22_126 : decode C22 126 = .ok (.lconst 1, 1) := by decide +kernel
theorem d22_127 : decode C22 127 = .ok (.lsub, 1) := by decide +kernel
theorem d22_128 : decode C22 128 = .ok (.ldc2_w 103, 3) := by decide +kernel
theorem d22_131 : decode C22 131 = .ok (.ldiv, 1) := by decide +kernel
theorem d22_132 : decode C22 132 = .ok (.l2i, 1) := by decide +kernel
theorem d22_133 : decode C22 133 = .ok (.ireturn, 1) := by decide +kernel
theorem ef_22 (m : MethodId) (x0 : Addr) (x1 : Int32) (x2 : Addr) (x3 : Int32) (x4 : Int32) : entryFrame m #[(.ref x0), (.int x1), (.ref x2), (.int x3), (.int x4)] 11 = mkF m 0 #[.val (.ref x0), .val (.int x1), .val (.ref x2), .val (.int x3), .val (.int x4), .unset, .unset, .unset, .unset, .unset, .unset] [] := by first | (simp [entryFrame, mkF, argsToLocals, Value.category]; done) | rfl
def Q_rmCB (Z : State) (ob b ln : Addr) (kC kl : ClassId) (G : Nat → Nat → Int32) (lf : Nat → Int32) (ui : Nat → Nat) (sep : Int32) (nf nt cd : Nat) (h0 : Heap) (n0 : Nat) (v : Option Value) (h : Heap) (L : List Loc) : Prop := v = some (.int (own_cb G lf ui sep (nt - nf) nf 0 0)) ∧ Fr n0 L ∧ h = h0
set_option maxRecDepth 65536 in
set_option maxHeartbeats 40000000 in
theorem rmCB (l : Launch) (Z : State) (a0 : Array Value) (hw : ∀ d ∈ tables_1, d.before a0 Z = true) (ob b ln : Addr) (kC kl : ClassId) (G : Nat → Nat → Int32) (lf : Nat → Int32) (ui : Nat → Nat) (sep : Int32) (nf nt cd : Nat) (h0 : Heap) (n0 : Nat) (Z0 : n0 ≤ h0.size) (Fcd : Fld Z h0 ob "com/example/tributary/tributary/join/LineCodes" "codes" "[[S" (.ref b)) (Fsp : Fld Z h0 ob "com/example/tributary/tributary/join/LineCodes" "separator" "B" (.int sep)) (VC : Arv Z h0 b kC (.array .short) (6 : Int32) (((List.range 6).map fun j => b + 1 + j).map Value.ref) .null) (VG : ∀ part, part < 3 → ∃ k : ClassId, Arv Z h0 (b + 1 + (3 * cd + part)) k .short (257 : Int32) (own_ar (G part) 257) (.int 0)) (Vl : Arv Z h0 ln kl .byte (8 : Int32) (own_ar lf 8) (.int 0)) (hui : ∀ i, i < 8 → lf i &&& (255 : Int32) = Int32.ofNat (ui i) ∧ ui i < 256) (hft : nf ≤ nt) (ht8 : nt ≤ 8) (hcd : cd < 2) :
    MetFree l Y16 (head1 [Jvm.Cond.code Y16 prog_43_method_12_code 11 (some .int)] ({ frames := 0, cells := 0, slots := 0, locals := 0 } : Room)) (fun a U => a = #[(.ref ob), (.int (Int32.ofNat cd)), (.ref ln), (.int (Int32.ofNat nf)), (.int (Int32.ofNat nt))] ∧ Z.Warmed39 U.vm ∧ U.heap = h0) (fun _ _ _ _ _ => True) (fun _ U o U' => ∃ v L, o = .returned v ∧ (Q_rmCB Z ob b ln kC kl G lf ui sep nf nt cd h0 n0) v U'.heap L ∧ FrameEnd U o U' L ({ frames := 0, cells := 0, slots := 0, locals := 0 } : Room).cells ({ frames := 0, cells := 0, slots := 0, locals := 0 } : Room).slots) := by
  refine MetFree.of_bodySF (plainFor_of_name pn_81ef1d3) hisR ?_
  intro p e s m args below meth c s₁ Bd hml0 hP hK
  obtain ⟨rfl, hZ, hh⟩ := hP
  have hx := Bd.exec
  have hc : ∀ {pc : Nat} {r}, decode C22 pc = r → decode c.code pc = r := fun h2 => hb Bd.bytes h2
  have hml : c.maxLocals = 11 := hml0
  have hown : s.vm.findClass "com/example/tributary/tributary/join/LineCodes" = some m.cls := findClass_of_methodNamed Bd.named
  have hnm := (name_of_methodNamed Bd.named Bd.method).1
  have X0 : Stand p l e ({ frames := 0, cells := 0, slots := 0, locals := 0 } : Room) s m #[(.ref ob), (.int (Int32.ofNat cd)), (.ref ln), (.int (Int32.ofNat nf)), (.int (Int32.ofNat nt))] below meth c s₁ [] 0 0 := Stand.of_body Bd
  have e0 : s₁.heap = h0 := by rw [← hh, Bd.state]; rfl
  have N0 := Fr.nil n0
  have K0 : Keep h0 h0 [] := Keep.refl h0 []
  show Go p e below (s₁.setTop (entryFrame m #[(.ref ob), (.int (Int32.ofNat cd)), (.ref ln), (.int (Int32.ofNat nf)), (.int (Int32.ofNat nt))] 11)) (EndN s (Q_rmCB Z ob b ln kC kl G lf ui sep nf nt cd h0 n0) ({ frames := 0, cells := 0, slots := 0, locals := 0 } : Room).cells ({ frames := 0, cells := 0, slots := 0, locals := 0 } : Room).slots)
  refine Go.top (ef_22 m ob (Int32.ofNat cd) ln (Int32.ofNat nf) (Int32.ofNat nt)) ?_
  refine gAN X0 hx (hc d22_0) rfl (.refl 1) ?_
  refine gF X0 hx hZ hown (ow hw 18 rfl) Via.refl e0 Fcd (hc d22_1) (.refl 4) ?_
  intro T297 X297 e297
  refine gLN X297 hx (hc d22_4) rfl (.refl 5) ?_
  refine gC (z := 3) X297 hx (hc d22_5) rfl (.refl 6) ?_
  refine gimul X297 hx (hc d22_6) (.refl 7) ?_
  rw [own_i3 hcd]
  refine gRA X297 hx hZ e297 VC (.ref (b + 1 + 3 * cd)) ⟨own_nn (by omega), (own_lt32 (n := 6) (by omega) (by omega)).mpr (by omega)⟩ (own_xs (by omega)) (hc d22_7) (.refl 8) rfl ?_
  refine gP 10 #[rv ob, iv (Int32.ofNat cd), rv ln, iv (Int32.ofNat nf), iv (Int32.ofNat nt), rv (b + 1 + 3 * cd), .unset, .unset, .unset, .unset, .unset] [] (fun zt zk => XS.astore X297.here hx rfl (hc d22_8) rfl rfl (l' := _) rfl zk) ?_
  refine gC (z := 0) X297 hx (hc d22_10) rfl (.refl 11) ?_
  refine gP 13 #[rv ob, iv (Int32.ofNat cd), rv ln, iv (Int32.ofNat nf), iv (Int32.ofNat nt), rv (b + 1 + 3 * cd), iv 0, .unset, .unset, .unset, .unset] [] (fun zt zk => XS.istore X297.here hx rfl (hc d22_11) rfl (l' := _) rfl zk) ?_
  refine gS 14 [(.long 0)] (fun zt zk => XS.lconst X297.here hx rfl (hc d22_13) zk) ?_
  refine gP 16 #[rv ob, iv (Int32.ofNat cd), rv ln, iv (Int32.ofNat nf), iv (Int32.ofNat nt), rv (b + 1 + 3 * cd), iv 0, .val (.long 0), .second, .unset, .unset] [] (fun zt zk => XS.lstore X297.here hx rfl (hc d22_14) rfl (l' := _) rfl zk) ?_
  refine gLN X297 hx (hc d22_16) rfl (.refl 17) ?_
  refine gP 19 #[rv ob, iv (Int32.ofNat cd), rv ln, iv (Int32.ofNat nf), iv (Int32.ofNat nt), rv (b + 1 + 3 * cd), iv 0, .val (.long 0), .second, iv (Int32.ofNat nf), .unset] [] (fun zt zk => XS.istore X297.here hx rfl (hc d22_17) rfl (l' := _) rfl zk) ?_
  suffices loop : ∀ (r : Nat), r ≤ nt - nf → ∀ (part : Nat) (bits : Int64), part < 3 → own_cb G lf ui sep r (nt - r) part bits = own_cb G lf ui sep (nt - nf) nf 0 0 → ∀ (TL : State) (LL : List Loc) (s10 : Slot), Stand p l e ({ frames := 0, cells := 0, slots := 0, locals := 0 } : Room) s m #[(.ref ob), (.int (Int32.ofNat cd)), (.ref ln), (.int (Int32.ofNat nf)), (.int (Int32.ofNat nt))] below meth c TL LL 0 0 → TL.heap = h0 → Fr n0 LL → One s10 → Go p e below (TL.setTop (mkF m 19 #[rv ob, iv (Int32.ofNat cd), rv ln, iv (Int32.ofNat nf), iv (Int32.ofNat nt), rv (b + 1 + (3 * cd + part)), iv (Int32.ofNat part), .val (.long bits), .second, iv (Int32.ofNat (nt - r)), s10] [])) (EndN s (Q_rmCB Z ob b ln kC kl G lf ui sep nf nt cd h0 n0) ({ frames := 0, cells := 0, slots := 0, locals := 0 } : Room).cells ({ frames := 0, cells := 0, slots := 0, locals := 0 } : Room).slots) by
    have := loop (nt - nf) (Nat.le_refl _) 0 0 (by omega) (by rw [show nt - (nt - nf) = nf by omega]) T297 _ .unset X297 e297 N0 One.u
    rw [show nt - (nt - nf) = nf by omega] at this
    exact this
  intro r
  induction r with
  | zero =>
   intro hr part bits hpt hcb TL LL s10 XL eL NL hs10
   obtain ⟨kp, Vp⟩ := VG part hpt
   refine gL XL hx (hc d22_19) rfl (.refl 21) ?_
   refine gL XL hx (hc d22_21) rfl (.refl 23) ?_
   refine gJY (q := 96) XL hx (hc d22_23) (flt (fun q => absurd ((own_lt32 (by omega) (by omega)).mp q) (by omega))).2.1 (by decide) ?_
   refine gA XL hx (hc d22_96) rfl (.refl 98) ?_
   refine gH (z := 256) XL hx (hc d22_98) rfl (.refl 101) ?_
   show Go p e below (TL.setTop (mkF m 101 #[rv ob, iv (Int32.ofNat cd), rv ln, iv (Int32.ofNat nf), iv (Int32.ofNat nt), rv (b + 1 + (3 * cd + part)), iv (Int32.ofNat part), .val (.long bits), .second, iv (Int32.ofNat (nt - 0)), s10] [(.int (Int32.ofNat 256)), (.ref (b + 1 + (3 * cd + part)))])) (EndN s (Q_rmCB Z ob b ln kC kl G lf ui sep nf nt cd h0 n0) ({ frames := 0, cells := 0, slots := 0, locals := 0 } : Room).cells ({ frames := 0, cells := 0, slots := 0, locals := 0 } : Room).slots)
   refine gSA XL hx hZ eL Vp (.int ((G part) 256)) ⟨own_nn (by omega), (own_lt32 (n := 257) (by omega) (by omega)).mpr (by omega)⟩ (own_arg (G part) (by omega) (by omega) _) (hc d22_101) (.refl 102) ?_
   refine gB (z := 15) XL hx (hc d22_102) rfl (.refl 104) ?_
   refine giand XL hx (hc d22_104) (.refl 105) ?_
   refine gP 107 #[rv ob, iv (Int32.ofNat cd), rv ln, iv (Int32.ofNat nf), iv (Int32.ofNat nt), rv (b + 1 + (3 * cd + part)), iv (Int32.ofNat part), .val (.long bits), .second, iv (((G part) 256) &&& (15 : Int32)), s10] [] (fun zt zk => XS.istore XL.here hx rfl (hc d22_105) rfl (l' := _) rfl zk) ?_
   refine gL XL hx (hc d22_107) rfl (.refl 109) ?_
   by_cases hz : (((G part) 256) &&& (15 : Int32)) = (0 : Int32)
   ·
    refine gIN XL hx (hc d22_109) ((if0 _ _).trans (teq hz).2) (.refl 112) ?_
    refine gC (z := -1) XL hx (hc d22_112) rfl (.refl 113) ?_
    refine gG (q := 133) XL hx (hc d22_113) (by decide) ?_
    exact Go.done XL Bd.notSynchronized (v := some (.int (-1))) (fun h => by rw [Bd.returns] at h; cases h) (fun fs hr => retI XL hx Bd.returns (hc d22_133) hr) (by rw [eL]; exact ⟨by rw [← hcb]; show _ = some (Value.int (if _ then _ else _)); rw [if_pos hz], NL, rfl⟩) (by decide) (by decide)
   ·
    refine gIY (q := 116) XL hx (hc d22_109) ((if0 _ _).trans (feq hz).2) (by decide) ?_
    refine gS 118 [(.long bits)] (fun zt zk => XS.lload XL.here hx rfl (hc d22_116) rfl zk) ?_
    refine gL XL hx (hc d22_118) rfl (.refl 120) ?_
    refine gS 121 [(.long ((((G part) 256) &&& (15 : Int32)).toInt64)), (.long bits)] (fun zt zk => XS.i2l XL.here hx rfl (hc d22_120) rfl zk) ?_
    refine gS 122 [(.long (bits + ((((G part) 256) &&& (15 : Int32)).toInt64)))] (fun zt zk => XS.ladd XL.here hx rfl (hc d22_121) rfl zk) ?_
    refine gS 125 [(.long 8), (.long (bits + ((((G part) 256) &&& (15 : Int32)).toInt64)))] (fun zt zk => XL.ldc2Long hx hown (mvT hZ (ow hw 114 rfl)) (g := (mkF m 122 #[rv ob, iv (Int32.ofNat cd), rv ln, iv (Int32.ofNat nf), iv (Int32.ofNat nt), rv (b + 1 + (3 * cd + part)), iv (Int32.ofNat part), .val (.long bits), .second, iv (((G part) 256) &&& (15 : Int32)), s10] [(.long (bits + ((((G part) 256) &&& (15 : Int32)).toInt64)))])) rfl (hc d22_122) zt zk) ?_
    refine gS 126 [(.long ((bits + ((((G part) 256) &&& (15 : Int32)).toInt64)) + (8 : Int64)))] (fun zt zk => XS.ladd XL.here hx rfl (hc d22_125) rfl zk) ?_
    refine gS 127 [(.long 1), (.long ((bits + ((((G part) 256) &&& (15 : Int32)).toInt64)) + (8 : Int64)))] (fun zt zk => XS.lconst XL.here hx rfl (hc d22_126) zk) ?_
    refine gS 128 [(.long (((bits + ((((G part) 256) &&& (15 : Int32)).toInt64)) + (8 : Int64)) - (1 : Int64)))] (fun zt zk => XS.lsub XL.here hx rfl (hc d22_127) rfl zk) ?_
    refine gS 131 [(.long 8), (.long (((bits + ((((G part) 256) &&& (15 : Int32)).toInt64)) + (8 : Int64)) - (1 : Int64)))] (fun zt zk => XL.ldc2Long hx hown (mvT hZ (ow hw 114 rfl)) (g := (mkF m 128 #[rv ob, iv (Int32.ofNat cd), rv ln, iv (Int32.ofNat nf), iv (Int32.ofNat nt), rv (b + 1 + (3 * cd + part)), iv (Int32.ofNat part), .val (.long bits), .second, iv (((G part) 256) &&& (15 : Int32)), s10] [(.long (((bits + ((((G part) 256) &&& (15 : Int32)).toInt64)) + (8 : Int64)) - (1 : Int64)))])) rfl (hc d22_128) zt zk) ?_
    refine gS 132 [(.long ((((bits + ((((G part) 256) &&& (15 : Int32)).toInt64)) + (8 : Int64)) - (1 : Int64)) / (8 : Int64)))] (fun zt zk => XS.ldiv XL.here hx rfl (hc d22_131) rfl (by decide) zk) ?_
    refine gS 133 [(.int (((((bits + ((((G part) 256) &&& (15 : Int32)).toInt64)) + (8 : Int64)) - (1 : Int64)) / (8 : Int64)).toInt32))] (fun zt zk => XS.l2i XL.here hx rfl (hc d22_132) rfl zk) ?_
    exact Go.done XL Bd.notSynchronized (v := some (.int (((((bits + ((((G part) 256) &&& (15 : Int32)).toInt64)) + (8 : Int64)) - (1 : Int64)) / (8 : Int64)).toInt32))) (fun h => by rw [Bd.returns] at h; cases h) (fun fs hr => retI XL hx Bd.returns (hc d22_133) hr) (by rw [eL]; exact ⟨by rw [← hcb]; show _ = some (Value.int (if _ then _ else _)); rw [if_neg hz], NL, rfl⟩) (by decide) (by decide)
  | succ r ih =>
   intro hr part bits hpt hcb TL LL s10 XL eL NL hs10
   obtain ⟨i, hi⟩ : ∃ i, i = nt - (r + 1) := ⟨_, rfl⟩
   obtain ⟨hu1, hu2⟩ := hui i (by omega)
   rw [← hi] at hcb ⊢
   obtain ⟨kp, Vp⟩ := VG part hpt
   refine gL XL hx (hc d22_19) rfl (.refl 21) ?_
   refine gL XL hx (hc d22_21) rfl (.refl 23) ?_
   refine gJN XL hx (hc d22_23) (tlt ((own_lt32 (by omega) (by omega)).mpr (by omega))).2.1 (.refl 26) ?_
   refine gA XL hx (hc d22_26) rfl (.refl 28) ?_
   refine gAN XL hx (hc d22_28) rfl (.refl 29) ?_
   refine gL XL hx (hc d22_29) rfl (.refl 31) ?_
   refine gBA XL hx hZ eL Vl (.int (lf i)) ⟨own_nn (by omega), (own_lt32 (n := 8) (by omega) (by omega)).mpr (by omega)⟩ (own_arg lf (by omega) (by omega) _) (hc d22_31) (.refl 32) ?_
   refine gH (z := 255) XL hx (hc d22_32) rfl (.refl 35) ?_
   refine giand XL hx (hc d22_35) (.refl 36) ?_
   rw [hu1]
   refine gSA XL hx hZ eL Vp (.int ((G part) (ui i))) ⟨own_nn (by omega), (own_lt32 (n := 257) (by omega) (by omega)).mpr (by omega)⟩ (own_arg (G part) (by omega) (by omega) _) (hc d22_36) (.refl 37) ?_
   refine gB (z := 15) XL hx (hc d22_37) rfl (.refl 39) ?_
   refine giand XL hx (hc d22_39) (.refl 40) ?_
   refine gP 42 #[rv ob, iv (Int32.ofNat cd), rv ln, iv (Int32.ofNat nf), iv (Int32.ofNat nt), rv (b + 1 + (3 * cd + part)), iv (Int32.ofNat part), .val (.long bits), .second, iv (Int32.ofNat i), iv (((G part) (ui i)) &&& (15 : Int32))] [] (fun zt zk => XS.istore XL.here hx rfl (hc d22_40) rfl (l' := _) (own_cb10 hs10) zk) ?_
   refine gL XL hx (hc d22_42) rfl (.refl 44) ?_
   by_cases hz : (((G part) (ui i)) &&& (15 : Int32)) = (0 : Int32)
   ·
    refine gIN XL hx (hc d22_44) ((if0 _ _).trans (teq hz).2) (.refl 47) ?_
    refine gC (z := -1) XL hx (hc d22_47) rfl (.refl 48) ?_
    exact Go.done XL Bd.notSynchronized (v := some (.int (-1))) (fun h => by rw [Bd.returns] at h; cases h) (fun fs hr => retI XL hx Bd.returns (hc d22_48) hr) (by rw [eL]; exact ⟨by rw [← hcb]; show _ = some (Value.int (if _ then _ else _)); rw [if_pos hz], NL, rfl⟩) (by decide) (by decide)
   ·
    refine gIY (q := 49) XL hx (hc d22_44) ((if0 _ _).trans (feq hz).2) (by decide) ?_
    have hcb2 : own_cb G lf ui sep r (i + 1) (if lf i = sep ∧ part < 2 then part + 1 else part) (bits + (G part (ui i) &&& 15).toInt64) = own_cb G lf ui sep (nt - nf) nf 0 0 := by rw [← hcb]; show _ = (if _ then _ else _); rw [if_neg hz]
    refine gS 51 [(.long bits)] (fun zt zk => XS.lload XL.here hx rfl (hc d22_49) rfl zk) ?_
    refine gL XL hx (hc d22_51) rfl (.refl 53) ?_
    refine gS 54 [(.long ((((G part) (ui i)) &&& (15 : Int32)).toInt64)), (.long bits)] (fun zt zk => XS.i2l XL.here hx rfl (hc d22_53) rfl zk) ?_
    refine gS 55 [(.long (bits + ((((G part) (ui i)) &&& (15 : Int32)).toInt64)))] (fun zt zk => XS.ladd XL.here hx rfl (hc d22_54) rfl zk) ?_
    refine gP 57 #[rv ob, iv (Int32.ofNat cd), rv ln, iv (Int32.ofNat nf), iv (Int32.ofNat nt), rv (b + 1 + (3 * cd + part)), iv (Int32.ofNat part), .val (.long (bits + ((((G part) (ui i)) &&& (15 : Int32)).toInt64))), .second, iv (Int32.ofNat i), iv (((G part) (ui i)) &&& (15 : Int32))] [] (fun zt zk => XS.lstore XL.here hx rfl (hc d22_55) rfl (l' := _) rfl zk) ?_
    refine gAN XL hx (hc d22_57) rfl (.refl 58) ?_
    refine gL XL hx (hc d22_58) rfl (.refl 60) ?_
    refine gBA XL hx hZ eL Vl (.int (lf i)) ⟨own_nn (by omega), (own_lt32 (n := 8) (by omega) (by omega)).mpr (by omega)⟩ (own_arg lf (by omega) (by omega) _) (hc d22_60) (.refl 61) ?_
    refine gAN XL hx (hc d22_61) rfl (.refl 62) ?_
    refine gF XL hx hZ hown (ow hw 31 rfl) Via.refl eL Fsp (hc d22_62) (.refl 65) ?_
    intro T303 X303 e303
    by_cases hsp : (lf i) = sep
    ·
     refine gJN X303 hx (hc d22_65) (teq hsp).2 (.refl 68) ?_
     refine gL X303 hx (hc d22_68) rfl (.refl 70) ?_
     refine gC (z := 2) X303 hx (hc d22_70) rfl (.refl 71) ?_
     by_cases hlt : (Int32.ofNat part) < (2 : Int32)
     ·
      refine gJN X303 hx (hc d22_71) (tlt hlt).2.1 (.refl 74) ?_
      have hp2 : part < 2 := (own_lt32 (n := 2) (by omega) (by omega)).mp hlt
      rw [if_pos ⟨hsp, hp2⟩] at hcb2
      refine gAN X303 hx (hc d22_74) rfl (.refl 75) ?_
      refine gF X303 hx hZ hown (ow hw 18 rfl) Via.refl e303 Fcd (hc d22_75) (.refl 78) ?_
      intro T304 X304 e304
      refine gLN X304 hx (hc d22_78) rfl (.refl 79) ?_
      refine gC (z := 3) X304 hx (hc d22_79) rfl (.refl 80) ?_
      refine gimul X304 hx (hc d22_80) (.refl 81) ?_
      rw [own_i3 hcd]
      refine gP 84 #[rv ob, iv (Int32.ofNat cd), rv ln, iv (Int32.ofNat nf), iv (Int32.ofNat nt), rv (b + 1 + (3 * cd + part)), iv ((Int32.ofNat part) + (1 : Int32)), .val (.long (bits + ((((G part) (ui i)) &&& (15 : Int32)).toInt64))), .second, iv (Int32.ofNat i), iv (((G part) (ui i)) &&& (15 : Int32))] [(.int (Int32.ofNat (3 * cd))), (.ref b)] (fun zt zk => XS.iinc X304.here hx rfl (hc d22_81) rfl (l' := _) rfl zk) ?_
      rw [own_addn (k := (1 : Int32)) (b := 1) rfl (by omega)]
      refine gL X304 hx (hc d22_84) rfl (.refl 86) ?_
      refine giadd X304 hx (hc d22_86) (.refl 87) ?_
      rw [own_add (by omega)]
      refine gRA X304 hx hZ e304 VC (.ref (b + 1 + (3 * cd + (part + 1)))) ⟨own_nn (by omega), (own_lt32 (n := 6) (by omega) (by omega)).mpr (by omega)⟩ (own_xs (by omega)) (hc d22_87) (.refl 88) rfl ?_
      refine gP 90 #[rv ob, iv (Int32.ofNat cd), rv ln, iv (Int32.ofNat nf), iv (Int32.ofNat nt), rv (b + 1 + (3 * cd + (part + 1))), iv (Int32.ofNat (part + 1)), .val (.long (bits + ((((G part) (ui i)) &&& (15 : Int32)).toInt64))), .second, iv (Int32.ofNat i), iv (((G part) (ui i)) &&& (15 : Int32))] [] (fun zt zk => XS.astore X304.here hx rfl (hc d22_88) rfl rfl (l' := _) rfl zk) ?_
      refine gP 93 #[rv ob, iv (Int32.ofNat cd), rv ln, iv (Int32.ofNat nf), iv (Int32.ofNat nt), rv (b + 1 + (3 * cd + (part + 1))), iv (Int32.ofNat (part + 1)), .val (.long (bits + ((((G part) (ui i)) &&& (15 : Int32)).toInt64))), .second, iv ((Int32.ofNat i) + (1 : Int32)), iv (((G part) (ui i)) &&& (15 : Int32))] [] (fun zt zk => XS.iinc X304.here hx rfl (hc d22_90) rfl (l' := _) rfl zk) ?_
      rw [own_addn (a := i) (k := (1 : Int32)) (b := 1) rfl (by omega), show i + 1 = nt - r by omega]
      refine gG (q := 19) X304 hx (hc d22_93) (by decide) ?_
      exact ih (by omega) (part + 1) _ (by omega) (by rw [← hcb2, show nt - r = i + 1 by omega]) _ _ _ X304 e304 NL (One.val rfl)
     ·
      refine gJY (q := 90) X303 hx (hc d22_71) (flt hlt).2.1 (by decide) ?_
      rw [if_neg (fun q => hlt ((own_lt32 (n := 2) (by omega) (by omega)).mpr q.2))] at hcb2
      refine gP 93 #[rv ob, iv (Int32.ofNat cd), rv ln, iv (Int32.ofNat nf), iv (Int32.ofNat nt), rv (b + 1 + (3 * cd + part)), iv (Int32.ofNat part), .val (.long (bits + ((((G part) (ui i)) &&& (15 : Int32)).toInt64))), .second, iv ((Int32.ofNat i) + (1 : Int32)), iv (((G part) (ui i)) &&& (15 : Int32))] [] (fun zt zk => XS.iinc X303.here hx rfl (hc d22_90) rfl (l' := _) rfl zk) ?_
      rw [own_addn (a := i) (k := (1 : Int32)) (b := 1) rfl (by omega), show i + 1 = nt - r by omega]
      refine gG (q := 19) X303 hx (hc d22_93) (by decide) ?_
      exact ih (by omega) part _ (by omega) (by rw [← hcb2, show nt - r = i + 1 by omega]) _ _ _ X303 e303 NL (One.val rfl)
    ·
     refine gJY (q := 90) X303 hx (hc d22_65) (feq hsp).2 (by decide) ?_
     rw [if_neg (fun q => hsp q.1)] at hcb2
     refine gP 93 #[rv ob, iv (Int32.ofNat cd), rv ln, iv (Int32.ofNat nf), iv (Int32.ofNat nt), rv (b + 1 + (3 * cd + part)), iv (Int32.ofNat part), .val (.long (bits + ((((G part) (ui i)) &&& (15 : Int32)).toInt64))), .second, iv ((Int32.ofNat i) + (1 : Int32)), iv (((G part) (ui i)) &&& (15 : Int32))] [] (fun zt zk => XS.iinc X303.here hx rfl (hc d22_90) rfl (l' := _) rfl zk) ?_
     rw [own_addn (a := i) (k := (1 : Int32)) (b := 1) rfl (by omega), show i + 1 = nt - r by omega]
     refine gG (q := 19) X303 hx (hc d22_93) (by decide) ?_
     exact ih (by omega) part _ (by omega) (by rw [← hcb2, show nt - r = i + 1 by omega]) _ _ _ X303 e303 NL (One.val rfl)
/-- the fields of the LineCodes at ob that are never written again, and the three arrays of arrays -/
def own_O (Z : State) (h : Heap) (ob b : Addr) (sep : Int32) : Prop := Exa Z h ob "com/example/tributary/tributary/join/LineCodes" ∧ Fld Z h ob "com/example/tributary/tributary/join/LineCodes" "codes" "[[S" (.ref b) ∧ Fld Z h ob "com/example/tributary/tributary/join/LineCodes" "tables" "[[S" (.ref (b + 7)) ∧ Fld Z h ob "com/example/tributary/tributary/join/LineCodes" "counts" "[[I" (.ref (b + 14)) ∧ Fld Z h ob "com/example/tributary/tributary/join/LineCodes" "weights" "[J" (.ref (b + 18)) ∧ Fld Z h ob "com/example/tributary/tributary/join/LineCodes" "order" "[S" (.ref (b + 19)) ∧ Fld Z h ob "com/example/tributary/tributary/join/LineCodes" "separator" "B" (.int sep) ∧
  (∃ k : ClassId, Arv Z h b k (.array .short) (6 : Int32) (((List.range 6).map fun j => b + 1 + j).map Value.ref) .null) ∧ (∃ k : ClassId, Arv Z h (b + 7) k (.array .short) (6 : Int32) (((List.range 6).map fun j => b + 7 + 1 + j).map Value.ref) .null) ∧ (∃ k : ClassId, Arv Z h (b + 14) k (.array .int) (3 : Int32) (((List.range 3).map fun j => b + 14 + 1 + j).map Value.ref) .null)
theorem own_O.keep {Z : State} {h h' : Heap} {ob b : Addr} {sep : Int32} {ws : List Addr} (H : own_O Z h ob b sep) (K : Keep h h' ws) (h1 : ob ∉ ws) (h2 : b ∉ ws) (h3 : b + 7 ∉ ws) (h4 : b + 14 ∉ ws) : own_O Z h' ob b sep := by
  obtain ⟨a1, a2, a3, a4, a5, a6, a7, ⟨k1, v1⟩, ⟨k2, v2⟩, ⟨k3, v3⟩⟩ := H
  exact ⟨a1.keep K, a2.keep K h1, a3.keep K h1, a4.keep K h1, a5.keep K h1, a6.keep K h1, a7.keep K h1, ⟨k1, v1.keep K h2⟩, ⟨k2, v2.keep K h3⟩, ⟨k3, v3.keep K h4⟩⟩
/-- rows of shorts from a on -/
def own_RS (Z : State) (h : Heap) (a : Addr) (n : Nat) (G : Nat → Nat → Int32) : Prop := ∀ j, j < n → ∃ k : ClassId, Arv Z h (a + j) k .short (257 : Int32) (own_ar (G j) 257) (.int 0)
def own_RI (Z : State) (h : Heap) (a : Addr) (n : Nat) (G : Nat → Nat → Int32) : Prop := ∀ j, j < n → ∃ k : ClassId, Arv Z h (a + j) k .int (257 : Int32) (own_ar (G j) 257) (.int 0)
def own_RT (Z : State) (h : Heap) (a : Addr) (n : Nat) : Prop := ∀ j, j < n → ∃ (k : ClassId) (vs : List Value), vs.length = 512 ∧ Arv Z h (a + j) k .short (512 : Int32) vs (.int 0)
theorem own_RS.ext {Z : State} {h h' : Heap} {a : Addr} {n : Nat} {G : Nat → Nat → Int32} (H : own_RS Z h a n G) (E : Ext h h') : own_RS Z h' a n G := fun j hj => by obtain ⟨k, v⟩ := H j hj; exact ⟨k, v.ext E⟩
theorem own_RI.ext {Z : State} {h h' : Heap} {a : Addr} {n : Nat} {G : Nat → Nat → Int32} (H : own_RI Z h a n G) (E : Ext h h') : own_RI Z h' a n G := fun j hj => by obtain ⟨k, v⟩ := H j hj; exact ⟨k, v.ext E⟩
theorem own_RT.ext {Z : State} {h h' : Heap} {a : Addr} {n : Nat} (H : own_RT Z h a n) (E : Ext h h') : own_RT Z h' a n := fun j hj => by obtain ⟨k, vs, l, v⟩ := H j hj; exact ⟨k, vs, l, v.ext E⟩
theorem own_RS.other {Z : State} {h h' : Heap} {a x : Addr} {n sl : Nat} {v : Value} {G : Nat → Nat → Int32} (H : own_RS Z h a n G) (W : Wr h h' x sl v) (q : x < a) : own_RS Z h' a n G := fun j hj => by obtain ⟨k, v⟩ := H j hj; exact ⟨k, v.other W (Nat.ne_of_gt (Nat.lt_of_lt_of_le q (Nat.le_add_right _ _)))⟩
theorem own_RI.other {Z : State} {h h' : Heap} {a x : Addr} {n sl : Nat} {v : Value} {G : Nat → Nat → Int32} (H : own_RI Z h a n G) (W : Wr h h' x sl v) (q : x < a) : own_RI Z h' a n G := fun j hj => by obtain ⟨k, v⟩ := H j hj; exact ⟨k, v.other W (Nat.ne_of_gt (Nat.lt_of_lt_of_le q (Nat.le_add_right _ _)))⟩
theorem own_RT.other {Z : State} {h h' : Heap} {a x : Addr} {n sl : Nat} {v : Value} (H : own_RT Z h a n) (W : Wr h h' x sl v) (q : x < a) : own_RT Z h' a n := fun j hj => by obtain ⟨k, vs, l, v⟩ := H j hj; exact ⟨k, vs, l, v.other W (Nat.ne_of_gt (Nat.lt_of_lt_of_le q (Nat.le_add_right _ _)))⟩
theorem own_RS.keep {Z : State} {h h' : Heap} {a : Addr} {n : Nat} {G : Nat → Nat → Int32} {ws : List Addr} (H : own_RS Z h a n G) (K : Keep h h' ws) (q : ∀ j, j < n → a + j ∉ ws) : own_RS Z h' a n G := fun j hj => by obtain ⟨k, v⟩ := H j hj; exact ⟨k, v.keep K (q j hj)⟩
theorem own_RI.keep {Z : State} {h h' : Heap} {a : Addr} {n : Nat} {G : Nat → Nat → Int32} {ws : List Addr} (H : own_RI Z h a n G) (K : Keep h h' ws) (q : ∀ j, j < n → a + j ∉ ws) : own_RI Z h' a n G := fun j hj => by obtain ⟨k, v⟩ := H j hj; exact ⟨k, v.keep K (q j hj)⟩
theorem own_RT.keep {Z : State} {h h' : Heap} {a : Addr} {n : Nat} {ws : List Addr} (H : own_RT Z h a n) (K : Keep h h' ws) (q : ∀ j, j < n → a + j ∉ ws) : own_RT Z h' a n := fun j hj => by obtain ⟨k, vs, l, v⟩ := H j hj; exact ⟨k, vs, l, v.keep K (q j hj)⟩
theorem own_size {p : Program} {l : Launch} {e : Env} {R : Room} {s : State} {m : MethodId} {args : Array Value} {below : List Frame} {meth : Method} {c : Code} {T : State} {locs : List Loc} {cells slots : Nat} {h0 h : Heap} (X : Stand p l e R s m args below meth c T locs cells slots) (hh : s.heap = h0) (eT : T.heap = h) : h.size ≤ h0.size + cells := by
  subst hh eT
  exact X.same.2.2.1
theorem own_wsz {h h' : Heap} {a : Addr} {sl : Nat} {v : Value} (W : Wr h h' a sl v) : h'.size = h.size := by
  obtain ⟨c, -, -, -, rfl⟩ := W
  simp
theorem own_rowS {Z : State} {h : Heap} {a : Addr} {k : ClassId} (A : Arr Z h a (newA k .short (257 : Int32)) .short) : Arv Z h a k .short (257 : Int32) (own_ar (fun _ => 0) 257) (.int 0) := by
  have q := (Arv.new A (by decide)).pad (pad_rep [] (.int 0) 257)
  rw [List.nil_append, own_ar0] at q; exact q
theorem own_rowI {Z : State} {h : Heap} {a : Addr} {k : ClassId} (A : Arr Z h a (newA k .int (257 : Int32)) .int) : Arv Z h a k .int (257 : Int32) (own_ar (fun _ => 0) 257) (.int 0) := by
  have q := (Arv.new A (by decide)).pad (pad_rep [] (.int 0) 257)
  rw [List.nil_append, own_ar0] at q; exact q
theorem own_rowT {Z : State} {h : Heap} {a : Addr} {k : ClassId} (A : Arr Z h a (newA k .short (512 : Int32)) .short) : ∃ vs : List Value, vs.length = 512 ∧ Arv Z h a k .short (512 : Int32) vs (.int 0) := ⟨List.replicate 512 (.int 0), List.length_replicate, by
  have q := (Arv.new A (by decide)).pad (pad_rep [] (.int 0) 512)
  rw [List.nil_append] at q; exact q⟩
theorem own_xg {a : Addr} {n j : Nat} (h : j < n) : ((List.range n).map fun j => a + 1 + j)[j]? = some (a + 1 + j) := by rw [List.getElem?_map, List.getElem?_range h]; rfl
abbrev C2 : ByteArray := prog_43_method_1_code
theorem d2_0 : decode C2 0 = .ok (.aload_n 0, 1) := by decide +kernel
theorem d2_1 : decode C2 1 = .ok (.invokespecial 9, 3) := by decide +kernel
theorem d2_4 : decode C2 4 = .ok (.aload_n 0, 1) := by decide +kernel
theorem d2_5 : decode C2 5 = .ok (.bipush 6, 2) := by decide +kernel
theorem d2_7 : decode C2 7 = .ok (.sipush 257, 3) := by decide +kernel
theorem d2_10 : decode C2 10 = .ok (.multianewarray 15 2, 4) := by decide +kernel
theorem d2_14 : decode C2 14 = .ok (.putfield 17, 3) := by decide +kernel
theorem d2_17 : decode C2 17 = .ok (.aload_n 0, 1) := by decide +kernel
theorem d2_18 : decode C2 18 = .ok (.bipush 6, 2) := by decide +kernel
theorem d2_20 : decode C2 20 = .ok (.sipush 512, 3) := by decide +kernel
theorem d2_23 : decode C2 23 = .ok (.multianewarray 15 2, 4) := by decide +kernel
theorem d2_27 : decode C2 27 = .ok (.putfield 20, 3) := by decide +kernel
theorem d2_30 : decode C2 30 = .ok (.aload_n 0, 1) := by decide +kernel
theorem d2_31 : decode C2 31 = .ok (.iconst 3, 1) := by decide +kernel
theorem d2_32 : decode C2 32 = .ok (.sipush 257, 3) := by decide +kernel
theorem d2_35 : decode C2 35 = .ok (.multianewarray 23 2, 4) := by decide +kernel
theorem d2_39 : decode C2 39 = .ok (.putfield 25, 3) := by decide +kernel
theorem d2_42 : decode C2 42 = .ok (.aload_n 0, 1) := by decide +kernel
theorem d2_43 : decode C2 43 = .ok (.sipush 257, 3) := by decide +kernel
theorem d2_46 : decode C2 46 = .ok (.newarray .long, 2) := by decide +kernel
theorem d2_48 : decode C2 48 = .ok (.putfield 28, 3) := by decide +kernel
theorem d2_51 : decode C2 51 = .ok (.aload_n 0, 1) := by decide +kernel
theorem d2_52 : decode C2 52 = .ok (.sipush 257, 3) := by decide +kernel
theorem d2_55 : decode C2 55 = .ok (.newarray .short, 2) := by decide +kernel
theorem d2_57 : decode C2 57 = .ok (.putfield 32, 3) := by decide +kernel
theorem d2_60 : decode C2 60 = .ok (.aload_n 0, 1) := by decide +kernel
theorem d2_61 : decode C2 61 = .ok (.iload_n 1, 1) := by decide +kernel
theorem d2_62 : decode C2 62 = .ok (.putfield 36, 3) := by decide +kernel
theorem d2_65 : decode C2 65 = .ok (.return_, 1) := by decide +kernel
theorem ef_2 (m : MethodId) (x0 : Addr) (x1 : Int32) : entryFrame m #[(.ref x0), (.int x1)] 2 = mkF m 0 #[.val (.ref x0), .val (.int x1)] [] := by first | (simp [entryFrame, mkF, argsToLocals, Value.category]; done) | rfl
def Q_rmInit (Z : State) (ob : Nat) (sep : Int32) (h0 : Heap) (n0 : Nat) (v : Option Value) (h : Heap) (L : List Loc) : Prop := v = none ∧ Fr n0 L ∧ Keep h0 h [ob] ∧ ∃ b : Nat, h0.size ≤ b ∧ own_O Z h ob b sep ∧ Fld Z h ob "com/example/tributary/tributary/join/LineCodes" "sinceHalved" "I" (.int 0) ∧ (∃ x : Int64, Fld Z h ob "com/example/tributary/tributary/join/LineCodes" "countedBytes" "J" (.long x)) ∧ (∃ x : Int64, Fld Z h ob "com/example/tributary/tributary/join/LineCodes" "countedLines" "J" (.long x)) ∧ own_RS Z h (b + 1) 6 (fun _ _ => 0) ∧ own_RT Z h (b + 8) 6 ∧ own_RI Z h (b + 15) 3 (fun _ _ => 0) ∧ (∃ k : ClassId, Arv Z h (b + 18) k .long (257 : Int32) (own_al (fun _ => (0 : Int64)) 257) (.long 0)) ∧ (∃ k : ClassId, Arv Z h (b + 19) k .short (257 : Int32) (own_ar (fun _ => (0 : Int32)) 257) (.int 0))
set_option maxRecDepth 65536 in
set_option maxHeartbeats 40000000 in
theorem rmInit (l : Launch) (Z : State) (a0 : Array Value) (hw : ∀ d ∈ tables_1, d.before a0 Z = true) (ob : Nat) (sep : Int32) (h0 : Heap) (n0 : Nat) (Z0 : n0 ≤ h0.size) (E1 : Exa Z h0 ob "com/example/tributary/tributary/join/LineCodes") (g_ob : n0 ≤ ob) (hsep : nar .byte sep = sep) (F_codes : Fld Z h0 ob "com/example/tributary/tributary/join/LineCodes" "codes" "[[S" .null) (F_tables : Fld Z h0 ob "com/example/tributary/tributary/join/LineCodes" "tables" "[[S" .null) (F_counts : Fld Z h0 ob "com/example/tributary/tributary/join/LineCodes" "counts" "[[I" .null) (F_weights : Fld Z h0 ob "com/example/tributary/tributary/join/LineCodes" "weights" "[J" .null) (F_order : Fld Z h0 ob "com/example/tributary/tributary/join/LineCodes" "order" "[S" .null) (F_separator : Fld Z h0 ob "com/example/tributary/tributary/join/LineCodes" "separator" "B" (.int 0)) (F_sinceHalved : Fld Z h0 ob "com/example/tributary/tributary/join/LineCodes" "sinceHalved" "I" (.int 0)) (F_countedBytes : Fld Z h0 ob "com/example/tributary/tributary/join/LineCodes" "countedBytes" "J" (.long 0)) (F_countedLines : Fld Z h0 ob "com/example/tributary/tributary/join/LineCodes" "countedLines" "J" (.long 0)) :
    MetFree l Y17 (head1 [Jvm.Cond.code Y17 prog_43_method_1_code 2 none] ({ frames := 1, cells := 20, slots := 5914, locals := 12 } : Room)) (fun a U => a = #[(.ref ob), (.int sep)] ∧ Z.Warmed39 U.vm ∧ U.heap = h0) (fun _ _ _ _ _ => True) (fun _ U o U' => ∃ v L, o = .returned v ∧ (Q_rmInit Z ob sep h0 n0) v U'.heap L ∧ FrameEnd U o U' L ({ frames := 1, cells := 20, slots := 5914, locals := 12 } : Room).cells ({ frames := 1, cells := 20, slots := 5914, locals := 12 } : Room).slots) := by
  refine MetFree.of_bodySF (plainFor_of_name pn_81ef1d3) hisR ?_
  intro p e s m args below meth c s₁ Bd hml0 hP hK
  obtain ⟨rfl, hZ, hh⟩ := hP
  have hx := Bd.exec
  have hc : ∀ {pc : Nat} {r}, decode C2 pc = r → decode c.code pc = r := fun h2 => hb Bd.bytes h2
  have hml : c.maxLocals = 2 := hml0
  have hown : s.vm.findClass "com/example/tributary/tributary/join/LineCodes" = some m.cls := findClass_of_methodNamed Bd.named
  have hnm := (name_of_methodNamed Bd.named Bd.method).1
  have X0 : Stand p l e ({ frames := 1, cells := 20, slots := 5914, locals := 12 } : Room) s m #[(.ref ob), (.int sep)] below meth c s₁ [] 0 0 := Stand.of_body Bd
  have e0 : s₁.heap = h0 := by rw [← hh, Bd.state]; rfl
  have N0 := Fr.nil n0
  have K0 : Keep h0 h0 [ob] := Keep.refl h0 [ob]
  show Go p e below (s₁.setTop (entryFrame m #[(.ref ob), (.int sep)] 2)) (EndN s (Q_rmInit Z ob sep h0 n0) ({ frames := 1, cells := 20, slots := 5914, locals := 12 } : Room).cells ({ frames := 1, cells := 20, slots := 5914, locals := 12 } : Room).slots)
  refine Go.top (ef_2 m ob sep) ?_
  obtain ⟨b, hb_⟩ : ∃ z, z = h0.size := ⟨_, rfl⟩
  have lob : ob < b := by rw [hb_]; exact E1.lt
  have hs0 : h0.size = b := hb_.symm
  refine gAN X0 hx (hc d2_0) rfl (.refl 1) ?_
  obtain ⟨T306, X306, e306, st306⟩ := initO X0 hx hZ hown (ow hw 12 rfl) (ow hw 13 rfl) (ow hw 14 rfl) e0 (g := (mkF m 1 #[rv ob, iv sep] [(.ref ob)])) rfl (by rw [hml]; rfl) rfl (hc d2_1) (by decide) (W := 0) (by show 2 * 0 + _ ≤ _; exact Nat.le_of_eq rfl) (by decide)
  refine gT T306 4 [] (fun zt zk => st306 zt zk) ?_
  refine gAN X306 hx (hc d2_4) rfl (.refl 5) ?_
  refine gB (z := 6) X306 hx (hc d2_5) rfl (.refl 7) ?_
  refine gH (z := 257) X306 hx (hc d2_7) rfl (.refl 10) ?_
  obtain ⟨T307, h307, cA307, cc307, X307, e307, E307, V307, -, -, R307, st307⟩ := gridM X306 hx hZ hown (C := "[S") (ad := "[[S") (ty := .short) rfl rfl (ow hw 15 rfl) (ow hw 16 rfl) (ow hw 17 rfl) e306 (g := (mkF m 10 #[rv ob, iv sep] [(.int 257), (.int 6), (.ref ob)])) rfl (hc d2_10) rfl (by decide) (by decide) (xs := (List.range 6).map fun j => b + 1 + j) (N := 6) rfl (by rw [hs0]) (cap := 257) (by decide) (by decide) (by decide) rfl rfl (by decide) (by decide)
  rw [hs0] at V307 st307
  have K307 := K0.ext E307
  have hz307 : h307.size = b + 7 := by
    have q1 := own_size X307 hh e307
    have q2 : b + 1 + 5 < h307.size := (R307 5 _ (own_xg (by omega))).1.lt
    omega
  have rowsC307 : own_RS Z h307 (b + 1) 6 (fun _ _ => 0) := fun j hj => ⟨_, by rw [show b + 1 + j = b + 1 + j by omega]; exact own_rowS (R307 j _ (own_xg hj)).1⟩
  refine gT T307 14 [(.ref b), (.ref ob)] (fun zt zk => st307 zt zk) ?_
  have f308 := (F_codes.ext E307)
  have f309 := (E1.ext E307)
  obtain ⟨T310, h310, X310, e310, W310, st310⟩ := putF X307 hx hZ hown (host := "") (Or.inl (ow hw 18 rfl)) Via.refl e307 f308 f309 (Or.inr ⟨(ow hw 19 rfl), rfl, hnm⟩) (ow hw 7 rfl) (ty := (.array (.array .short))) (by decide) rfl rfl (g := (mkF m 14 #[rv ob, iv sep] [(.ref b), (.ref ob)])) rfl rfl (hc d2_14)
  have Fw310 : Fld Z h310 ob "com/example/tributary/tributary/join/LineCodes" "codes" "[[S" (.ref b) := f308.same W310
  have K310 := K307.wr W310 (Or.inl (List.mem_of_getElem? (i := 0) rfl))
  have N310 := Fr.snoc X310 N0 g_ob
  refine gT T310 17 [] (fun zt zk => st310 zt zk) ?_
  refine gAN X310 hx (hc d2_17) rfl (.refl 18) ?_
  refine gB (z := 6) X310 hx (hc d2_18) rfl (.refl 20) ?_
  refine gH (z := 512) X310 hx (hc d2_20) rfl (.refl 23) ?_
  have hz311 := ((own_wsz W310).trans hz307)
  obtain ⟨T312, h312, cA312, cc312, X312, e312, E312, V312, -, -, R312, st312⟩ := gridM X310 hx hZ hown (C := "[S") (ad := "[[S") (ty := .short) rfl rfl (ow hw 15 rfl) (ow hw 16 rfl) (ow hw 17 rfl) e310 (g := (mkF m 23 #[rv ob, iv sep] [(.int 512), (.int 6), (.ref ob)])) rfl (hc d2_23) rfl (by decide) (by decide) (xs := (List.range 6).map fun j => (b + 7) + 1 + j) (N := 6) rfl (by rw [hz311]) (cap := 512) (by decide) (by decide) (by decide) rfl rfl (by decide) (by decide)
  rw [hz311] at V312 st312
  have K312 := K310.ext E312
  have hz312 : h312.size = b + 14 := by
    have q1 := own_size X312 hh e312
    have q2 : (b + 7) + 1 + 5 < h312.size := (R312 5 _ (own_xg (by omega))).1.lt
    omega
  have rowsT312 : own_RT Z h312 (b + 8) 6 := fun j hj => ⟨_, by rw [show b + 8 + j = (b + 7) + 1 + j by omega]; exact own_rowT (R312 j _ (own_xg hj)).1⟩
  refine gT T312 27 [(.ref (b + 7)), (.ref ob)] (fun zt zk => st312 zt zk) ?_
  have f313 := (((F_tables.ext E307).other W310 (Or.inr (slot_ne (Or.inr (ow hw 21 rfl)) (Or.inr (ow hw 19 rfl)) (by decide) (t := (.array (.array .short))) (t' := (.array (.array .short))) (by decide) (by decide)))).ext E312)
  have f314 := ((f309.wr W310).ext E312)
  obtain ⟨T315, h315, X315, e315, W315, st315⟩ := putF X312 hx hZ hown (host := "") (Or.inl (ow hw 20 rfl)) Via.refl e312 f313 f314 (Or.inr ⟨(ow hw 21 rfl), rfl, hnm⟩) (ow hw 7 rfl) (ty := (.array (.array .short))) (by decide) rfl rfl (g := (mkF m 27 #[rv ob, iv sep] [(.ref (b + 7)), (.ref ob)])) rfl rfl (hc d2_27)
  have Fw315 : Fld Z h315 ob "com/example/tributary/tributary/join/LineCodes" "tables" "[[S" (.ref (b + 7)) := f313.same W315
  have K315 := K312.wr W315 (Or.inl (List.mem_of_getElem? (i := 0) rfl))
  have N315 := Fr.snoc X315 N310 g_ob
  refine gT T315 30 [] (fun zt zk => st315 zt zk) ?_
  refine gAN X315 hx (hc d2_30) rfl (.refl 31) ?_
  refine gC (z := 3) X315 hx (hc d2_31) rfl (.refl 32) ?_
  refine gH (z := 257) X315 hx (hc d2_32) rfl (.refl 35) ?_
  have hz316 := ((own_wsz W315).trans hz312)
  obtain ⟨T317, h317, cA317, cc317, X317, e317, E317, V317, -, -, R317, st317⟩ := gridM X315 hx hZ hown (C := "[I") (ad := "[[I") (ty := .int) rfl rfl (ow hw 22 rfl) (ow hw 23 rfl) (ow hw 5 rfl) e315 (g := (mkF m 35 #[rv ob, iv sep] [(.int 257), (.int 3), (.ref ob)])) rfl (hc d2_35) rfl (by decide) (by decide) (xs := (List.range 3).map fun j => (b + 14) + 1 + j) (N := 3) rfl (by rw [hz316]) (cap := 257) (by decide) (by decide) (by decide) rfl rfl (by decide) (by decide)
  rw [hz316] at V317 st317
  have K317 := K315.ext E317
  have hz317 : h317.size = b + 18 := by
    have q1 := own_size X317 hh e317
    have q2 : (b + 14) + 1 + 2 < h317.size := (R317 2 _ (own_xg (by omega))).1.lt
    omega
  have rowsK317 : own_RI Z h317 (b + 15) 3 (fun _ _ => 0) := fun j hj => ⟨_, by rw [show b + 15 + j = (b + 14) + 1 + j by omega]; exact own_rowI (R317 j _ (own_xg hj)).1⟩
  refine gT T317 39 [(.ref (b + 14)), (.ref ob)] (fun zt zk => st317 zt zk) ?_
  have f318 := (((((F_counts.ext E307).other W310 (Or.inr (slot_ne (Or.inr (ow hw 25 rfl)) (Or.inr (ow hw 19 rfl)) (by decide) (t := (.array (.array .int))) (t' := (.array (.array .short))) (by decide) (by decide)))).ext E312).other W315 (Or.inr (slot_ne (Or.inr (ow hw 25 rfl)) (Or.inr (ow hw 21 rfl)) (by decide) (t := (.array (.array .int))) (t' := (.array (.array .short))) (by decide) (by decide)))).ext E317)
  have f319 := ((f314.wr W315).ext E317)
  obtain ⟨T320, h320, X320, e320, W320, st320⟩ := putF X317 hx hZ hown (host := "") (Or.inl (ow hw 24 rfl)) Via.refl e317 f318 f319 (Or.inr ⟨(ow hw 25 rfl), rfl, hnm⟩) (ow hw 7 rfl) (ty := (.array (.array .int))) (by decide) rfl rfl (g := (mkF m 39 #[rv ob, iv sep] [(.ref (b + 14)), (.ref ob)])) rfl rfl (hc d2_39)
  have Fw320 : Fld Z h320 ob "com/example/tributary/tributary/join/LineCodes" "counts" "[[I" (.ref (b + 14)) := f318.same W320
  have K320 := K317.wr W320 (Or.inl (List.mem_of_getElem? (i := 0) rfl))
  have N320 := Fr.snoc X320 N315 g_ob
  refine gT T320 42 [] (fun zt zk => st320 zt zk) ?_
  refine gAN X320 hx (hc d2_42) rfl (.refl 43) ?_
  refine gH (z := 257) X320 hx (hc d2_43) rfl (.refl 46) ?_
  have hz321 := ((own_wsz W320).trans hz317)
  obtain ⟨T322, h322, k322, X322, e322, E322, A322, st322⟩ := newP X320 hx hZ (ow hw 26 rfl) e320 (g := (mkF m 46 #[rv ob, iv sep] [(.int 257), (.ref ob)])) rfl (hc d2_46) rfl (by decide) (cap := 257) (by decide) (by decide) (by decide) (by decide)
  obtain ⟨b322, g322⟩ : ∃ z, z = h320.size := ⟨_, rfl⟩
  rw [← g322] at A322 st322
  have g_b322 : n0 ≤ b322 := Nat.le_trans (Nat.le_trans Z0 K320.1) (Nat.le_of_eq g322.symm)
  have sz_b322 : h0.size ≤ b322 := Nat.le_trans K320.1 (Nat.le_of_eq g322.symm)
  have f323 := (f319.wr W320)
  have ne324 : ob ≠ b322 := Nat.ne_of_lt (Nat.lt_of_lt_of_le f323.lt (Nat.le_of_eq g322.symm))
  have ne325 : (b : Nat) ≠ ob := by omega
  have f326 := (((((V307.other W310 ne325).ext E312).other W315 ne325).ext E317).other W320 ne325)
  have ne327 : b ≠ b322 := Nat.ne_of_lt (Nat.lt_of_lt_of_le f326.lt (Nat.le_of_eq g322.symm))
  have ne328 : ((b + 7) : Nat) ≠ ob := by omega
  have f329 := (((V312.other W315 ne328).ext E317).other W320 ne328)
  have ne330 : (b + 7) ≠ b322 := Nat.ne_of_lt (Nat.lt_of_lt_of_le f329.lt (Nat.le_of_eq g322.symm))
  have ne331 : ((b + 14) : Nat) ≠ ob := by omega
  have f332 := (V317.other W320 ne331)
  have ne333 : (b + 14) ≠ b322 := Nat.ne_of_lt (Nat.lt_of_lt_of_le f332.lt (Nat.le_of_eq g322.symm))
  have K322 := K320.ext E322
  have V322 : Arv Z h322 b322 k322 .long (257 : Int32) [] (.long 0) := Arv.new A322 (by decide)
  refine gT T322 48 [(.ref b322), (.ref ob)] (fun zt zk => st322 zt zk) ?_
  have ha322 : b322 = b + 18 := by rw [g322]; exact hz321
  have hz322 : h322.size = b + 19 := by
    have q1 := own_size X322 hh e322
    have q2 : b322 < h322.size := A322.lt
    omega
  have f334 := (((((((F_weights.ext E307).other W310 (Or.inr (slot_ne (Or.inr (ow hw 28 rfl)) (Or.inr (ow hw 19 rfl)) (by decide) (t := (.array .long)) (t' := (.array (.array .short))) (by decide) (by decide)))).ext E312).other W315 (Or.inr (slot_ne (Or.inr (ow hw 28 rfl)) (Or.inr (ow hw 21 rfl)) (by decide) (t := (.array .long)) (t' := (.array (.array .short))) (by decide) (by decide)))).ext E317).other W320 (Or.inr (slot_ne (Or.inr (ow hw 28 rfl)) (Or.inr (ow hw 25 rfl)) (by decide) (t := (.array .long)) (t' := (.array (.array .int))) (by decide) (by decide)))).ext E322)
  have f335 := (f323.ext E322)
  obtain ⟨T336, h336, X336, e336, W336, st336⟩ := putF X322 hx hZ hown (host := "") (Or.inl (ow hw 27 rfl)) Via.refl e322 f334 f335 (Or.inr ⟨(ow hw 28 rfl), rfl, hnm⟩) (ow hw 7 rfl) (ty := (.array .long)) (by decide) rfl rfl (g := (mkF m 48 #[rv ob, iv sep] [(.ref b322), (.ref ob)])) rfl rfl (hc d2_48)
  have Fw336 : Fld Z h336 ob "com/example/tributary/tributary/join/LineCodes" "weights" "[J" (.ref b322) := f334.same W336
  have K336 := K322.wr W336 (Or.inl (List.mem_of_getElem? (i := 0) rfl))
  have N336 := Fr.snoc X336 N320 g_ob
  refine gT T336 51 [] (fun zt zk => st336 zt zk) ?_
  refine gAN X336 hx (hc d2_51) rfl (.refl 52) ?_
  refine gH (z := 257) X336 hx (hc d2_52) rfl (.refl 55) ?_
  have hz337 := ((own_wsz W336).trans hz322)
  obtain ⟨T338, h338, k338, X338, e338, E338, A338, st338⟩ := newP X336 hx hZ (ow hw 17 rfl) e336 (g := (mkF m 55 #[rv ob, iv sep] [(.int 257), (.ref ob)])) rfl (hc d2_55) rfl (by decide) (cap := 257) (by decide) (by decide) (by decide) (by decide)
  obtain ⟨b338, g338⟩ : ∃ z, z = h336.size := ⟨_, rfl⟩
  rw [← g338] at A338 st338
  have g_b338 : n0 ≤ b338 := Nat.le_trans (Nat.le_trans Z0 K336.1) (Nat.le_of_eq g338.symm)
  have sz_b338 : h0.size ≤ b338 := Nat.le_trans K336.1 (Nat.le_of_eq g338.symm)
  have f339 := (f335.wr W336)
  have ne340 : ob ≠ b338 := Nat.ne_of_lt (Nat.lt_of_lt_of_le f339.lt (Nat.le_of_eq g338.symm))
  have f341 := ((f326.ext E322).other W336 ne325)
  have ne342 : b ≠ b338 := Nat.ne_of_lt (Nat.lt_of_lt_of_le f341.lt (Nat.le_of_eq g338.symm))
  have f343 := ((f329.ext E322).other W336 ne328)
  have ne344 : (b + 7) ≠ b338 := Nat.ne_of_lt (Nat.lt_of_lt_of_le f343.lt (Nat.le_of_eq g338.symm))
  have f345 := ((f332.ext E322).other W336 ne331)
  have ne346 : (b + 14) ≠ b338 := Nat.ne_of_lt (Nat.lt_of_lt_of_le f345.lt (Nat.le_of_eq g338.symm))
  have f347 := (V322.other W336 (Ne.symm ne324))
  have ne348 : b322 ≠ b338 := Nat.ne_of_lt (Nat.lt_of_lt_of_le f347.lt (Nat.le_of_eq g338.symm))
  have K338 := K336.ext E338
  have V338 : Arv Z h338 b338 k338 .short (257 : Int32) [] (.int 0) := Arv.new A338 (by decide)
  refine gT T338 57 [(.ref b338), (.ref ob)] (fun zt zk => st338 zt zk) ?_
  have ha338 : b338 = b + 19 := by rw [g338]; exact hz337
  have hz338 : h338.size = b + 20 := by
    have q1 := own_size X338 hh e338
    have q2 : b338 < h338.size := A338.lt
    omega
  have f349 := (((((((((F_order.ext E307).other W310 (Or.inr (slot_ne (Or.inr (ow hw 30 rfl)) (Or.inr (ow hw 19 rfl)) (by decide) (t := (.array .short)) (t' := (.array (.array .short))) (by decide) (by decide)))).ext E312).other W315 (Or.inr (slot_ne (Or.inr (ow hw 30 rfl)) (Or.inr (ow hw 21 rfl)) (by decide) (t := (.array .short)) (t' := (.array (.array .short))) (by decide) (by decide)))).ext E317).other W320 (Or.inr (slot_ne (Or.inr (ow hw 30 rfl)) (Or.inr (ow hw 25 rfl)) (by decide) (t := (.array .short)) (t' := (.array (.array .int))) (by decide) (by decide)))).ext E322).other W336 (Or.inr (slot_ne (Or.inr (ow hw 30 rfl)) (Or.inr (ow hw 28 rfl)) (by decide) (t := (.array .short)) (t' := (.array .long)) (by decide) (by decide)))).ext E338)
  have f350 := (f339.ext E338)
  obtain ⟨T351, h351, X351, e351, W351, st351⟩ := putF X338 hx hZ hown (host := "") (Or.inl (ow hw 29 rfl)) Via.refl e338 f349 f350 (Or.inr ⟨(ow hw 30 rfl), rfl, hnm⟩) (ow hw 7 rfl) (ty := (.array .short)) (by decide) rfl rfl (g := (mkF m 57 #[rv ob, iv sep] [(.ref b338), (.ref ob)])) rfl rfl (hc d2_57)
  have Fw351 : Fld Z h351 ob "com/example/tributary/tributary/join/LineCodes" "order" "[S" (.ref b338) := f349.same W351
  have K351 := K338.wr W351 (Or.inl (List.mem_of_getElem? (i := 0) rfl))
  have N351 := Fr.snoc X351 N336 g_ob
  refine gT T351 60 [] (fun zt zk => st351 zt zk) ?_
  refine gAN X351 hx (hc d2_60) rfl (.refl 61) ?_
  refine gLN X351 hx (hc d2_61) rfl (.refl 62) ?_
  have f352 := ((((((((((F_separator.ext E307).other W310 (Or.inr (slot_ne (Or.inr (ow hw 32 rfl)) (Or.inr (ow hw 19 rfl)) (by decide) (t := .byte) (t' := (.array (.array .short))) (by decide) (by decide)))).ext E312).other W315 (Or.inr (slot_ne (Or.inr (ow hw 32 rfl)) (Or.inr (ow hw 21 rfl)) (by decide) (t := .byte) (t' := (.array (.array .short))) (by decide) (by decide)))).ext E317).other W320 (Or.inr (slot_ne (Or.inr (ow hw 32 rfl)) (Or.inr (ow hw 25 rfl)) (by decide) (t := .byte) (t' := (.array (.array .int))) (by decide) (by decide)))).ext E322).other W336 (Or.inr (slot_ne (Or.inr (ow hw 32 rfl)) (Or.inr (ow hw 28 rfl)) (by decide) (t := .byte) (t' := (.array .long)) (by decide) (by decide)))).ext E338).other W351 (Or.inr (slot_ne (Or.inr (ow hw 32 rfl)) (Or.inr (ow hw 30 rfl)) (by decide) (t := .byte) (t' := (.array .short)) (by decide) (by decide))))
  have f353 := (f350.wr W351)
  obtain ⟨T354, h354, X354, e354, W354, st354⟩ := putFN X351 hx hZ hown (ow hw 31 rfl) Via.refl e351 f352 f353 (Or.inr ⟨(ow hw 32 rfl), rfl, hnm⟩) (ow hw 7 rfl) (ty := .byte) (v' := (.int (nar .byte sep))) (by decide) rfl (fits_nar_byte _) (g := (mkF m 62 #[rv ob, iv sep] [(.int sep), (.ref ob)])) rfl rfl (hc d2_62)
  have Fw354 : Fld Z h354 ob "com/example/tributary/tributary/join/LineCodes" "separator" "B" (.int (nar .byte sep)) := f352.same W354
  have K354 := K351.wr W354 (Or.inl (List.mem_of_getElem? (i := 0) rfl))
  have N354 := Fr.snoc X354 N351 g_ob
  refine gT T354 65 [] (fun zt zk => st354 zt zk) ?_
  have f355 := (((f347.ext E338).other W351 (Ne.symm ne324)).other W354 (Ne.symm ne324))
  have Vp322 := (f355).pad (pad_rep [] (.long 0) 257)
  rw [List.nil_append, own_al0, ha322] at Vp322
  have f356 := ((V338.other W351 (Ne.symm ne340)).other W354 (Ne.symm ne340))
  have Vp338 := (f356).pad (pad_rep [] (.int 0) 257)
  rw [List.nil_append, own_ar0, ha338] at Vp338
  have f357 := (((((((((Fw310.ext E312).other W315 (Or.inr (slot_ne (Or.inr (ow hw 19 rfl)) (Or.inr (ow hw 21 rfl)) (by decide) (t := (.array (.array .short))) (t' := (.array (.array .short))) (by decide) (by decide)))).ext E317).other W320 (Or.inr (slot_ne (Or.inr (ow hw 19 rfl)) (Or.inr (ow hw 25 rfl)) (by decide) (t := (.array (.array .short))) (t' := (.array (.array .int))) (by decide) (by decide)))).ext E322).other W336 (Or.inr (slot_ne (Or.inr (ow hw 19 rfl)) (Or.inr (ow hw 28 rfl)) (by decide) (t := (.array (.array .short))) (t' := (.array .long)) (by decide) (by decide)))).ext E338).other W351 (Or.inr (slot_ne (Or.inr (ow hw 19 rfl)) (Or.inr (ow hw 30 rfl)) (by decide) (t := (.array (.array .short))) (t' := (.array .short)) (by decide) (by decide)))).other W354 (Or.inr (slot_ne (Or.inr (ow hw 19 rfl)) (Or.inr (ow hw 32 rfl)) (by decide) (t := (.array (.array .short))) (t' := .byte) (by decide) (by decide))))
  have f358 := (((((((Fw315.ext E317).other W320 (Or.inr (slot_ne (Or.inr (ow hw 21 rfl)) (Or.inr (ow hw 25 rfl)) (by decide) (t := (.array (.array .short))) (t' := (.array (.array .int))) (by decide) (by decide)))).ext E322).other W336 (Or.inr (slot_ne (Or.inr (ow hw 21 rfl)) (Or.inr (ow hw 28 rfl)) (by decide) (t := (.array (.array .short))) (t' := (.array .long)) (by decide) (by decide)))).ext E338).other W351 (Or.inr (slot_ne (Or.inr (ow hw 21 rfl)) (Or.inr (ow hw 30 rfl)) (by decide) (t := (.array (.array .short))) (t' := (.array .short)) (by decide) (by decide)))).other W354 (Or.inr (slot_ne (Or.inr (ow hw 21 rfl)) (Or.inr (ow hw 32 rfl)) (by decide) (t := (.array (.array .short))) (t' := .byte) (by decide) (by decide))))
  have f359 := (((((Fw320.ext E322).other W336 (Or.inr (slot_ne (Or.inr (ow hw 25 rfl)) (Or.inr (ow hw 28 rfl)) (by decide) (t := (.array (.array .int))) (t' := (.array .long)) (by decide) (by decide)))).ext E338).other W351 (Or.inr (slot_ne (Or.inr (ow hw 25 rfl)) (Or.inr (ow hw 30 rfl)) (by decide) (t := (.array (.array .int))) (t' := (.array .short)) (by decide) (by decide)))).other W354 (Or.inr (slot_ne (Or.inr (ow hw 25 rfl)) (Or.inr (ow hw 32 rfl)) (by decide) (t := (.array (.array .int))) (t' := .byte) (by decide) (by decide))))
  have f360 := (((Fw336.ext E338).other W351 (Or.inr (slot_ne (Or.inr (ow hw 28 rfl)) (Or.inr (ow hw 30 rfl)) (by decide) (t := (.array .long)) (t' := (.array .short)) (by decide) (by decide)))).other W354 (Or.inr (slot_ne (Or.inr (ow hw 28 rfl)) (Or.inr (ow hw 32 rfl)) (by decide) (t := (.array .long)) (t' := .byte) (by decide) (by decide))))
  have f361 := (Fw351.other W354 (Or.inr (slot_ne (Or.inr (ow hw 30 rfl)) (Or.inr (ow hw 32 rfl)) (by decide) (t := (.array .short)) (t' := .byte) (by decide) (by decide))))
  have f362 := (((((((((((F_sinceHalved.ext E307).other W310 (Or.inr (slot_ne (Or.inl (ow hw 39 rfl)) (Or.inr (ow hw 19 rfl)) (by decide) (t := .int) (t' := (.array (.array .short))) (by decide) (by decide)))).ext E312).other W315 (Or.inr (slot_ne (Or.inl (ow hw 39 rfl)) (Or.inr (ow hw 21 rfl)) (by decide) (t := .int) (t' := (.array (.array .short))) (by decide) (by decide)))).ext E317).other W320 (Or.inr (slot_ne (Or.inl (ow hw 39 rfl)) (Or.inr (ow hw 25 rfl)) (by decide) (t := .int) (t' := (.array (.array .int))) (by decide) (by decide)))).ext E322).other W336 (Or.inr (slot_ne (Or.inl (ow hw 39 rfl)) (Or.inr (ow hw 28 rfl)) (by decide) (t := .int) (t' := (.array .long)) (by decide) (by decide)))).ext E338).other W351 (Or.inr (slot_ne (Or.inl (ow hw 39 rfl)) (Or.inr (ow hw 30 rfl)) (by decide) (t := .int) (t' := (.array .short)) (by decide) (by decide)))).other W354 (Or.inr (slot_ne (Or.inl (ow hw 39 rfl)) (Or.inr (ow hw 32 rfl)) (by decide) (t := .int) (t' := .byte) (by decide) (by decide))))
  have f363 := (((((((((((F_countedBytes.ext E307).other W310 (Or.inr (slot_ne (Or.inl (ow hw 42 rfl)) (Or.inr (ow hw 19 rfl)) (by decide) (t := .long) (t' := (.array (.array .short))) (by decide) (by decide)))).ext E312).other W315 (Or.inr (slot_ne (Or.inl (ow hw 42 rfl)) (Or.inr (ow hw 21 rfl)) (by decide) (t := .long) (t' := (.array (.array .short))) (by decide) (by decide)))).ext E317).other W320 (Or.inr (slot_ne (Or.inl (ow hw 42 rfl)) (Or.inr (ow hw 25 rfl)) (by decide) (t := .long) (t' := (.array (.array .int))) (by decide) (by decide)))).ext E322).other W336 (Or.inr (slot_ne (Or.inl (ow hw 42 rfl)) (Or.inr (ow hw 28 rfl)) (by decide) (t := .long) (t' := (.array .long)) (by decide) (by decide)))).ext E338).other W351 (Or.inr (slot_ne (Or.inl (ow hw 42 rfl)) (Or.inr (ow hw 30 rfl)) (by decide) (t := .long) (t' := (.array .short)) (by decide) (by decide)))).other W354 (Or.inr (slot_ne (Or.inl (ow hw 42 rfl)) (Or.inr (ow hw 32 rfl)) (by decide) (t := .long) (t' := .byte) (by decide) (by decide))))
  have f364 := (((((((((((F_countedLines.ext E307).other W310 (Or.inr (slot_ne (Or.inl (ow hw 44 rfl)) (Or.inr (ow hw 19 rfl)) (by decide) (t := .long) (t' := (.array (.array .short))) (by decide) (by decide)))).ext E312).other W315 (Or.inr (slot_ne (Or.inl (ow hw 44 rfl)) (Or.inr (ow hw 21 rfl)) (by decide) (t := .long) (t' := (.array (.array .short))) (by decide) (by decide)))).ext E317).other W320 (Or.inr (slot_ne (Or.inl (ow hw 44 rfl)) (Or.inr (ow hw 25 rfl)) (by decide) (t := .long) (t' := (.array (.array .int))) (by decide) (by decide)))).ext E322).other W336 (Or.inr (slot_ne (Or.inl (ow hw 44 rfl)) (Or.inr (ow hw 28 rfl)) (by decide) (t := .long) (t' := (.array .long)) (by decide) (by decide)))).ext E338).other W351 (Or.inr (slot_ne (Or.inl (ow hw 44 rfl)) (Or.inr (ow hw 30 rfl)) (by decide) (t := .long) (t' := (.array .short)) (by decide) (by decide)))).other W354 (Or.inr (slot_ne (Or.inl (ow hw 44 rfl)) (Or.inr (ow hw 32 rfl)) (by decide) (t := .long) (t' := .byte) (by decide) (by decide))))
  have f365 := (f353.wr W354)
  have f366 := (((f341.ext E338).other W351 ne325).other W354 ne325)
  have f367 := (((f343.ext E338).other W351 ne328).other W354 ne328)
  have f368 := (((f345.ext E338).other W351 ne331).other W354 ne331)
  have f369 := ((((((((((rowsC307.other W310 (show ob < (b + 1 : Nat) by omega)).ext E312).other W315 (show ob < (b + 1 : Nat) by omega)).ext E317).other W320 (show ob < (b + 1 : Nat) by omega)).ext E322).other W336 (show ob < (b + 1 : Nat) by omega)).ext E338).other W351 (show ob < (b + 1 : Nat) by omega)).other W354 (show ob < (b + 1 : Nat) by omega))
  have f370 := ((((((((rowsT312.other W315 (show ob < (b + 8 : Nat) by omega)).ext E317).other W320 (show ob < (b + 8 : Nat) by omega)).ext E322).other W336 (show ob < (b + 8 : Nat) by omega)).ext E338).other W351 (show ob < (b + 8 : Nat) by omega)).other W354 (show ob < (b + 8 : Nat) by omega))
  have f371 := ((((((rowsK317.other W320 (show ob < (b + 15 : Nat) by omega)).ext E322).other W336 (show ob < (b + 15 : Nat) by omega)).ext E338).other W351 (show ob < (b + 15 : Nat) by omega)).other W354 (show ob < (b + 15 : Nat) by omega))
  exact Go.done X354 Bd.notSynchronized (v := none) (fun _ => rfl) (fun fs hr => X354.returnOut hx Bd.returns (hc d2_65) hr) (by rw [e354]; exact ⟨rfl, N354, K354, b, Nat.le_of_eq hs0, ⟨f365, f357, f358, f359, (by rw [← ha322]; exact f360), (by rw [← ha338]; exact f361), (by have q := Fw354; rw [hsep] at q; exact q), ⟨_, f366⟩, ⟨_, f367⟩, ⟨_, f368⟩⟩, f362, ⟨_, f363⟩, ⟨_, f364⟩, f369, f370, f371, ⟨_, Vp322⟩, ⟨_, Vp338⟩⟩) (by decide) (by decide)
theorem own_j3 {j : Nat} (h : j < 3) : j = 0 ∨ j = 1 ∨ j = 2 := by omega
theorem own_xk0 (b : Nat) : (((List.range 3).map fun j => b + 14 + 1 + j).map Value.ref).getD (0 : Int32).toNatClampNeg .null = .ref (b + 15) := rfl
theorem own_xk1 (b : Nat) : (((List.range 3).map fun j => b + 14 + 1 + j).map Value.ref).getD (1 : Int32).toNatClampNeg .null = .ref (b + 16) := rfl
theorem own_xk2 (b : Nat) : (((List.range 3).map fun j => b + 14 + 1 + j).map Value.ref).getD (2 : Int32).toNatClampNeg .null = .ref (b + 17) := rfl
abbrev C4 : ByteArray := prog_43_method_2_code
theorem d4_0 : decode C4 0 = .ok (.aload_n 0, 1) := by decide +kernel
theorem d4_1 : decode C4 1 = .ok (.getfield 40, 3) := by decide +kernel
theorem d4_4 : decode C4 4 = .ok (.ldc 44, 2) := by decide +kernel
theorem d4_6 : decode C4 6 = .ok (.iload_n 3, 1) := by decide +kernel
theorem d4_7 : decode C4 7 = .ok (.isub, 1) := by decide +kernel
theorem d4_8 : decode C4 8 = .ok (.iload_n 2, 1) := by decide +kernel
theorem d4_9 : decode C4 9 = .ok (.iadd, 1) := by decide +kernel
theorem d4_10 : decode C4 10 = .ok (.iconst 1, 1) := by decide +kernel
theorem d4_11 : decode C4 11 = .ok (.isub, 1) := by decide +kernel
theorem d4_12 : decode C4 12 = .ok (.if_icmp .le 7, 3) := by decide +kernel
theorem d4_19 : decode C4 19 = .ok (.iconst 0, 1) := by decide +kernel
theorem d4_20 : decode C4 20 = .ok (.istore 4, 2) := by decide +kernel
theorem d4_22 : decode C4 22 = .ok (.iload_n 2, 1) := by decide +kernel
theorem d4_23 : decode C4 23 = .ok (.istore 5, 2) := by decide +kernel
theorem d4_25 : decode C4 25 = .ok (.iload 5, 2) := by decide +kernel
theorem d4_27 : decode C4 27 = .ok (.iload_n 3, 1) := by decide +kernel
theorem d4_28 : decode C4 28 = .ok (.if_icmp .ge 49, 3) := by decide +kernel
theorem d4_31 : decode C4 31 = .ok (.aload_n 0, 1) := by decide +kernel
theorem d4_32 : decode C4 32 = .ok (.getfield 25, 3) := by decide +kernel
theorem d4_35 : decode C4 35 = .ok (.iload 4, 2) := by decide +kernel
theorem d4_37 : decode C4 37 = .ok (.aaload, 1) := by decide +kernel
theorem d4_38 : decode C4 38 = .ok (.aload_n 1, 1) := by decide +kernel
theorem d4_39 : decode C4 39 = .ok (.iload 5, 2) := by decide +kernel
theorem d4_41 : decode C4 41 = .ok (.baload, 1) := by decide +kernel
theorem d4_42 : decode C4 42 = .ok (.sipush 255, 3) := by decide +kernel
theorem d4_45 : decode C4 45 = .ok (.iand, 1) := by decide +kernel
theorem d4_46 : decode C4 46 = .ok (.dup2, 1) := by decide +kernel
theorem d4_47 : decode C4 47 = .ok (.iaload, 1) := by decide +kernel
theorem d4_48 : decode C4 48 = .ok (.iconst 1, 1) := by decide +kernel
theorem d4_49 : decode C4 49 = .ok (.iadd, 1) := by decide +kernel
theorem d4_50 : decode C4 50 = .ok (.iastore, 1) := by decide +kernel
theorem d4_51 : decode C4 51 = .ok (.aload_n 1, 1) := by decide +kernel
theorem d4_52 : decode C4 52 = .ok (.iload 5, 2) := by decide +kernel
theorem d4_54 : decode C4 54 = .ok (.baload, 1) := by decide +kernel
theorem d4_55 : decode C4 55 = .ok (.aload_n 0, 1) := by decide +kernel
theorem d4_56 : decode C4 56 = .ok (.getfield 36, 3) := by decide +kernel
theorem d4_59 : decode C4 59 = .ok (.if_icmp .ne 12, 3) := by decide +kernel
theorem d4_62 : decode C4 62 = .ok (.iload 4, 2) := by decide +kernel
theorem d4_64 : decode C4 64 = .ok (.iconst 2, 1) := by decide +kernel
theorem d4_65 : decode C4 65 = .ok (.if_icmp .ge 6, 3) := by decide +kernel
theorem d4_68 : decode C4 68 = .ok (.iinc 4 1, 3) := by decide +kernel
theorem d4_71 : decode C4 71 = .ok (.iinc 5 1, 3) := by decide +kernel
theorem d4_74 : decode C4 74 = .ok (.goto (-49), 3) := by decide +kernel
theorem d4_77 : decode C4 77 = .ok (.aload_n 0, 1) := by decide +kernel
theorem d4_78 : decode C4 78 = .ok (.getfield 25, 3) := by decide +kernel
theorem d4_81 : decode C4 81 = .ok (.iload 4, 2) := by decide +kernel
theorem d4_83 : decode C4 83 = .ok (.aaload, 1) := by decide +kernel
theorem d4_84 : decode C4 84 = .ok (.sipush 256, 3) := by decide +kernel
theorem d4_87 : decode C4 87 = .ok (.dup2, 1) := by decide +kernel
theorem d4_88 : decode C4 88 = .ok (.iaload, 1) := by decide +kernel
theorem d4_89 : decode C4 89 = .ok (.iconst 1, 1) := by decide +kernel
theorem d4_90 : decode C4 90 = .ok (.iadd, 1) := by decide +kernel
theorem d4_91 : decode C4 91 = .ok (.iastore, 1) := by decide +kernel
theorem d4_92 : decode C4 92 = .ok (.aload_n 0, 1) := by decide +kernel
theorem d4_93 : decode C4 93 = .ok (.dup, 1) := by decide +kernel
theorem d4_94 : decode C4 94 = .ok (.getfield 48, 3) := by decide +kernel
theorem d4_97 : decode C4 97 = .ok (.iload_n 3, 1) := by decide +kernel
theorem d4_98 : decode C4 98 = .ok (.iload_n 2, 1) := by decide +kernel
theorem d4_99 : decode C4 99 = .ok (.isub, 1) := by decide +kernel
theorem d4_100 : decode C4 100 = .ok (.i2l, 1) := by decide +kernel
theorem d4_101 : decode C4 101 = .ok (.ladd, 1) := by decide +kernel
theorem d4_102 : decode C4 102 = .ok (.putfield 48, 3) := by decide +kernel
theorem d4_105 : decode C4 105 = .ok (.aload_n 0, 1) := by decide +kernel
theorem d4_106 : decode C4 106 = .ok (.dup, 1) := by decide +kernel
theorem d4_107 : decode C4 107 = .ok (.getfield 52, 3) := by decide +kernel
theorem d4_110 : decode C4 110 = .ok (.lconst 1, 1) := by decide +kernel
theorem d4_111 : decode C4 111 = .ok (.ladd, 1) := by decide +kernel
theorem d4_112 : decode C4 112 = .ok (.putfield 52, 3) := by decide +kernel
theorem d4_115 : decode C4 115 = .ok (.aload_n 0, 1) := by decide +kernel
theorem d4_116 : decode C4 116 = .ok (.dup, 1) := by decide +kernel
theorem d4_117 : decode C4 117 = .ok (.getfield 40, 3) := by decide +kernel
theorem d4_120 : decode C4 120 = .ok (.iload_n 3, 1) := by decide +kernel
theorem d4_121 : decode C4 121 = .ok (.iload_n 2, 1) := by decide +kernel
theorem d4_122 : decode C4 122 = .ok (.isub, 1) := by decide +kernel
theorem d4_123 : decode C4 123 = .ok (.iconst 1, 1) := by decide +kernel
theorem d4_124 : decode C4 124 = .ok (.iadd, 1) := by decide +kernel
theorem d4_125 : decode C4 125 = .ok (.iadd, 1) := by decide +kernel
theorem d4_126 : decode C4 126 = .ok (.putfield 40, 3) := by decide +kernel
theorem d4_129 : decode C4 129 = .ok (.return_, 1) := by decide +kernel
theorem ef_4 (m : MethodId) (x0 : Addr) (x1 : Addr) (x2 : Int32) (x3 : Int32) : entryFrame m #[(.ref x0), (.ref x1), (.int x2), (.int x3)] 6 = mkF m 0 #[.val (.ref x0), .val (.ref x1), .val (.int x2), .val (.int x3), .unset, .unset] [] := by first | (simp [entryFrame, mkF, argsToLocals, Value.category]; done) | rfl
def Q_rmCnt1 (Z : State) (ob b ln : Nat) (kl : ClassId) (pa pb ps_ : Int32) (ua ub us : Nat) (kf : Nat → Nat → Int32) (h0 : Heap) (n0 : Nat) (v : Option Value) (h : Heap) (L : List Loc) : Prop := v = none ∧ Fr n0 L ∧ Keep h0 h [ob, (b + 15), (b + 16), (b + 17)] ∧ own_O Z h ob b ps_ ∧ Fld Z h ob "com/example/tributary/tributary/join/LineCodes" "sinceHalved" "I" (.int 8) ∧ (∃ x : Int64, Fld Z h ob "com/example/tributary/tributary/join/LineCodes" "countedBytes" "J" (.long x)) ∧ (∃ x : Int64, Fld Z h ob "com/example/tributary/tributary/join/LineCodes" "countedLines" "J" (.long x)) ∧ own_RI Z h (b + 15) 3 (fun j => if j = 0 then (own_up (own_up (own_up (own_up (own_up (kf 0) ua (((kf 0) ua) + (1 : Int32))) ua (((own_up (kf 0) ua (((kf 0) ua) + (1 : Int32))) ua) + (1 : Int32))) ua (((own_up (own_up (kf 0) ua (((kf 0) ua) + (1 : Int32))) ua (((own_up (kf 0) ua (((kf 0) ua) + (1 : Int32))) ua) + (1 : Int32))) ua) + (1 : Int32))) ua (((own_up (own_up (own_up (kf 0) ua (((kf 0) ua) + (1 : Int32))) ua (((own_up (kf 0) ua (((kf 0) ua) + (1 : Int32))) ua) + (1 : Int32))) ua (((own_up (own_up (kf 0) ua (((kf 0) ua) + (1 : Int32))) ua (((own_up (kf 0) ua (((kf 0) ua) + (1 : Int32))) ua) + (1 : Int32))) ua) + (1 : Int32))) ua) + (1 : Int32))) us (((own_up (own_up (own_up (own_up (kf 0) ua (((kf 0) ua) + (1 : Int32))) ua (((own_up (kf 0) ua (((kf 0) ua) + (1 : Int32))) ua) + (1 : Int32))) ua (((own_up (own_up (kf 0) ua (((kf 0) ua) + (1 : Int32))) ua (((own_up (kf 0) ua (((kf 0) ua) + (1 : Int32))) ua) + (1 : Int32))) ua) + (1 : Int32))) ua (((own_up (own_up (own_up (kf 0) ua (((kf 0) ua) + (1 : Int32))) ua (((own_up (kf 0) ua (((kf 0) ua) + (1 : Int32))) ua) + (1 : Int32))) ua (((own_up (own_up (kf 0) ua (((kf 0) ua) + (1 : Int32))) ua (((own_up (kf 0) ua (((kf 0) ua) + (1 : Int32))) ua) + (1 : Int32))) ua) + (1 : Int32))) ua) + (1 : Int32))) us) + (1 : Int32))) else if j = 1 then (own_up (own_up (kf 1) ub (((kf 1) ub) + (1 : Int32))) us (((own_up (kf 1) ub (((kf 1) ub) + (1 : Int32))) us) + (1 : Int32))) else (own_up (kf 2) 256 (((kf 2) 256) + (1 : Int32))))
set_option maxRecDepth 65536 in
set_option maxHeartbeats 40000000 in
theorem rmCnt1 (l : Launch) (Z : State) (a0 : Array Value) (hw : ∀ d ∈ tables_1, d.before a0 Z = true) (ob b ln : Nat) (kl : ClassId) (pa pb ps_ : Int32) (ua ub us : Nat) (kf : Nat → Nat → Int32) (h0 : Heap) (n0 : Nat) (Z0 : n0 ≤ h0.size) (HO : own_O Z h0 ob b ps_) (Fsh : Fld Z h0 ob "com/example/tributary/tributary/join/LineCodes" "sinceHalved" "I" (.int 0)) (Fmt : (∃ x : Int64, Fld Z h0 ob "com/example/tributary/tributary/join/LineCodes" "countedBytes" "J" (.long x)) ∧ (∃ x : Int64, Fld Z h0 ob "com/example/tributary/tributary/join/LineCodes" "countedLines" "J" (.long x))) (RI : own_RI Z h0 (b + 15) 3 kf) (Vl : Arv Z h0 ln kl .byte (7 : Int32) [(.int pa), (.int pa), (.int pa), (.int pa), (.int ps_), (.int pb), (.int ps_)] (.int 0)) (lob : ob < b) (lln : ln < ob) (g_ob : n0 ≤ ob) (hua : pa &&& (255 : Int32) = Int32.ofNat ua) (hub : pb &&& (255 : Int32) = Int32.ofNat ub) (hus : ps_ &&& (255 : Int32) = Int32.ofNat us) (lua : ua < 256) (lub : ub < 256) (lus : us < 256) (nas : ¬ pa = ps_) (nbs : ¬ pb = ps_) :
    MetFree l Y18 (head1 [Jvm.Cond.code Y18 prog_43_method_2_code 6 none] ({ frames := 0, cells := 0, slots := 0, locals := 0 } : Room)) (fun a U => a = #[(.ref ob), (.ref ln), (.int 0), (.int 7)] ∧ Z.Warmed39 U.vm ∧ U.heap = h0) (fun _ _ _ _ _ => True) (fun _ U o U' => ∃ v L, o = .returned v ∧ (Q_rmCnt1 Z ob b ln kl pa pb ps_ ua ub us kf h0 n0) v U'.heap L ∧ FrameEnd U o U' L ({ frames := 0, cells := 0, slots := 0, locals := 0 } : Room).cells ({ frames := 0, cells := 0, slots := 0, locals := 0 } : Room).slots) := by
  refine MetFree.of_bodySF (plainFor_of_name pn_81ef1d3) hisR ?_
  intro p e s m args below meth c s₁ Bd hml0 hP hK
  obtain ⟨rfl, hZ, hh⟩ := hP
  have hx := Bd.exec
  have hc : ∀ {pc : Nat} {r}, decode C4 pc = r → decode c.code pc = r := fun h2 => hb Bd.bytes h2
  have hml : c.maxLocals = 6 := hml0
  have hown : s.vm.findClass "com/example/tributary/tributary/join/LineCodes" = some m.cls := findClass_of_methodNamed Bd.named
  have hnm := (name_of_methodNamed Bd.named Bd.method).1
  have X0 : Stand p l e ({ frames := 0, cells := 0, slots := 0, locals := 0 } : Room) s m #[(.ref ob), (.ref ln), (.int 0), (.int 7)] below meth c s₁ [] 0 0 := Stand.of_body Bd
  have e0 : s₁.heap = h0 := by rw [← hh, Bd.state]; rfl
  have N0 := Fr.nil n0
  have K0 : Keep h0 h0 [ob, (b + 15), (b + 16), (b + 17)] := Keep.refl h0 [ob, (b + 15), (b + 16), (b + 17)]
  show Go p e below (s₁.setTop (entryFrame m #[(.ref ob), (.ref ln), (.int 0), (.int 7)] 6)) (EndN s (Q_rmCnt1 Z ob b ln kl pa pb ps_ ua ub us kf h0 n0) ({ frames := 0, cells := 0, slots := 0, locals := 0 } : Room).cells ({ frames := 0, cells := 0, slots := 0, locals := 0 } : Room).slots)
  refine Go.top (ef_4 m ob ln (0 : Int32) (7 : Int32)) ?_
  obtain ⟨Eo, Oc, Ot, Ok, Ow, Oo, Os, ⟨kC, VC⟩, ⟨kT, VT⟩, ⟨kK, VK⟩⟩ := id HO
  obtain ⟨⟨xb, FcB⟩, ⟨xl, FcL⟩⟩ := id Fmt
  obtain ⟨kr0, RR0⟩ := RI 0 (by omega)
  have RK0 : Arv Z h0 (b + 15) kr0 .int (257 : Int32) (own_ar (kf 0) 257) (.int 0) := RR0
  obtain ⟨kr1, RR1⟩ := RI 1 (by omega)
  have RK1 : Arv Z h0 (b + 16) kr1 .int (257 : Int32) (own_ar (kf 1) 257) (.int 0) := RR1
  obtain ⟨kr2, RR2⟩ := RI 2 (by omega)
  have RK2 : Arv Z h0 (b + 17) kr2 .int (257 : Int32) (own_ar (kf 2) 257) (.int 0) := RR2
  refine gAN X0 hx (hc d4_0) rfl (.refl 1) ?_
  refine gF X0 hx hZ hown (ow hw 38 rfl) Via.refl e0 Fsh (hc d4_1) (.refl 4) ?_
  intro T372 X372 e372
  refine gS 6 [(.int 1073741824), (.int 0)] (fun zt zk => X372.ldcInt hx hown (mvT hZ (ow hw 40 rfl)) (g := (mkF m 4 #[rv ob, rv ln, iv 0, iv 7, .unset, .unset] [(.int 0)])) rfl (hc d4_4) zt zk) ?_
  refine gLN X372 hx (hc d4_6) rfl (.refl 7) ?_
  refine gisub X372 hx (hc d4_7) (.refl 8) ?_
  rw [show ((1073741824 : Int32) - (7 : Int32)) = (1073741817 : Int32) by decide]
  refine gLN X372 hx (hc d4_8) rfl (.refl 9) ?_
  refine giadd X372 hx (hc d4_9) (.refl 10) ?_
  rw [show ((1073741817 : Int32) + (0 : Int32)) = (1073741817 : Int32) by decide]
  refine gC (z := 1) X372 hx (hc d4_10) rfl (.refl 11) ?_
  refine gisub X372 hx (hc d4_11) (.refl 12) ?_
  rw [show ((1073741817 : Int32) - (1 : Int32)) = (1073741816 : Int32) by decide]
  refine gJY (q := 19) X372 hx (hc d4_12) (flt (by decide)).2.2.2 (by decide) ?_
  refine gC (z := 0) X372 hx (hc d4_19) rfl (.refl 20) ?_
  refine gP 22 #[rv ob, rv ln, iv 0, iv 7, iv 0, .unset] [] (fun zt zk => XS.istore X372.here hx rfl (hc d4_20) rfl (l' := _) rfl zk) ?_
  refine gLN X372 hx (hc d4_22) rfl (.refl 23) ?_
  refine gP 25 #[rv ob, rv ln, iv 0, iv 7, iv 0, iv 0] [] (fun zt zk => XS.istore X372.here hx rfl (hc d4_23) rfl (l' := _) rfl zk) ?_
  refine gL X372 hx (hc d4_25) rfl (.refl 27) ?_
  refine gLN X372 hx (hc d4_27) rfl (.refl 28) ?_
  refine gJN X372 hx (hc d4_28) (tlt (by decide)).2.1 (.refl 31) ?_
  refine gAN X372 hx (hc d4_31) rfl (.refl 32) ?_
  refine gF X372 hx hZ hown (ow hw 24 rfl) Via.refl e372 Ok (hc d4_32) (.refl 35) ?_
  intro T373 X373 e373
  refine gL X373 hx (hc d4_35) rfl (.refl 37) ?_
  refine gRA X373 hx hZ e373 VK (.ref (b + 15)) ⟨by decide, by decide⟩ (own_xk0 b) (hc d4_37) (.refl 38) rfl ?_
  refine gAN X373 hx (hc d4_38) rfl (.refl 39) ?_
  refine gL X373 hx (hc d4_39) rfl (.refl 41) ?_
  refine gBA X373 hx hZ e373 Vl (.int pa) ⟨by decide, by decide⟩ rfl (hc d4_41) (.refl 42) ?_
  refine gH (z := 255) X373 hx (hc d4_42) rfl (.refl 45) ?_
  refine giand X373 hx (hc d4_45) (.refl 46) ?_
  rw [hua]
  refine gS 47 [(.int (Int32.ofNat ua)), (.ref (b + 15)), (.int (Int32.ofNat ua)), (.ref (b + 15))] (fun zt zk => Jvm.Free.XT.dup2 X373.here hx rfl (hc d4_46) rfl rfl rfl zk) ?_
  refine gIA X373 hx hZ e373 RK0 (.int ((kf 0) ua)) ⟨own_nn (by omega), (own_lt32 (n := 257) (by omega) (by omega)).mpr (by omega)⟩ (own_arg (kf 0) (by omega) (by omega) _) (hc d4_47) (.refl 48) ?_
  refine gC (z := 1) X373 hx (hc d4_48) rfl (.refl 49) ?_
  refine giadd X373 hx (hc d4_49) (.refl 50) ?_
  refine gSI X373 hx hZ e373 RK0 ⟨own_nn (by omega), (own_lt32 (n := 257) (by omega) (by omega)).mpr (by omega)⟩ ua (own_clamp (by omega)) (by rw [own_arl]; omega) ((own_ar (kf 0) 257).set ua (.int (((kf 0) ua) + (1 : Int32)))) rfl (hc d4_50) (.refl 51) ?_
  intro T377 h377 X377 e377 W377 V377
  have K377 := K0.wr W377 (Or.inl (List.mem_of_getElem? (i := 1) rfl))
  have N377 := Fr.snoc X377 N0 (show n0 ≤ ((b + 15) : Nat) by omega)
  rw [own_ars (kf 0) (by omega)] at V377
  refine gAN X377 hx (hc d4_51) rfl (.refl 52) ?_
  refine gL X377 hx (hc d4_52) rfl (.refl 54) ?_
  have ne379 : (ln : Nat) ≠ (b + 15) := by omega
  have f380 := (Vl.other W377 ne379)
  refine gBA X377 hx hZ e377 f380 (.int pa) ⟨by decide, by decide⟩ rfl (hc d4_54) (.refl 55) ?_
  refine gAN X377 hx (hc d4_55) rfl (.refl 56) ?_
  have ne382 : (ob : Nat) ≠ (b + 15) := by omega
  have f383 := (Os.other W377 (Or.inl ne382))
  refine gF X377 hx hZ hown (ow hw 31 rfl) Via.refl e377 f383 (hc d4_56) (.refl 59) ?_
  intro T384 X384 e384
  refine gJY (q := 71) X384 hx (hc d4_59) (feq nas).2 (by decide) ?_
  refine gP 74 #[rv ob, rv ln, iv 0, iv 7, iv 0, iv ((0 : Int32) + (1 : Int32))] [] (fun zt zk => XS.iinc X384.here hx rfl (hc d4_71) rfl (l' := _) rfl zk) ?_
  rw [show ((0 : Int32) + (1 : Int32)) = (1 : Int32) by decide]
  refine gG (q := 25) X384 hx (hc d4_74) (by decide) ?_
  refine gL X384 hx (hc d4_25) rfl (.refl 27) ?_
  refine gLN X384 hx (hc d4_27) rfl (.refl 28) ?_
  refine gJN X384 hx (hc d4_28) (tlt (by decide)).2.1 (.refl 31) ?_
  refine gAN X384 hx (hc d4_31) rfl (.refl 32) ?_
  have f385 := (Ok.other W377 (Or.inl ne382))
  refine gF X384 hx hZ hown (ow hw 24 rfl) Via.refl e384 f385 (hc d4_32) (.refl 35) ?_
  intro T386 X386 e386
  refine gL X386 hx (hc d4_35) rfl (.refl 37) ?_
  have ne387 : ((b + 14) : Nat) ≠ (b + 15) := by omega
  have f388 := (VK.other W377 ne387)
  refine gRA X386 hx hZ e386 f388 (.ref (b + 15)) ⟨by decide, by decide⟩ (own_xk0 b) (hc d4_37) (.refl 38) rfl ?_
  refine gAN X386 hx (hc d4_38) rfl (.refl 39) ?_
  refine gL X386 hx (hc d4_39) rfl (.refl 41) ?_
  refine gBA X386 hx hZ e386 f380 (.int pa) ⟨by decide, by decide⟩ rfl (hc d4_41) (.refl 42) ?_
  refine gH (z := 255) X386 hx (hc d4_42) rfl (.refl 45) ?_
  refine giand X386 hx (hc d4_45) (.refl 46) ?_
  rw [hua]
  refine gS 47 [(.int (Int32.ofNat ua)), (.ref (b + 15)), (.int (Int32.ofNat ua)), (.ref (b + 15))] (fun zt zk => Jvm.Free.XT.dup2 X386.here hx rfl (hc d4_46) rfl rfl rfl zk) ?_
  refine gIA X386 hx hZ e386 V377 (.int ((own_up (kf 0) ua (((kf 0) ua) + (1 : Int32))) ua)) ⟨own_nn (by omega), (own_lt32 (n := 257) (by omega) (by omega)).mpr (by omega)⟩ (own_arg (own_up (kf 0) ua (((kf 0) ua) + (1 : Int32))) (by omega) (by omega) _) (hc d4_47) (.refl 48) ?_
  refine gC (z := 1) X386 hx (hc d4_48) rfl (.refl 49) ?_
  refine giadd X386 hx (hc d4_49) (.refl 50) ?_
  refine gSI X386 hx hZ e386 V377 ⟨own_nn (by omega), (own_lt32 (n := 257) (by omega) (by omega)).mpr (by omega)⟩ ua (own_clamp (by omega)) (by rw [own_arl]; omega) ((own_ar (own_up (kf 0) ua (((kf 0) ua) + (1 : Int32))) 257).set ua (.int (((own_up (kf 0) ua (((kf 0) ua) + (1 : Int32))) ua) + (1 : Int32)))) rfl (hc d4_50) (.refl 51) ?_
  intro T392 h392 X392 e392 W392 V392
  have K392 := K377.wr W392 (Or.inl (List.mem_of_getElem? (i := 1) rfl))
  have N392 := Fr.snoc X392 N377 (show n0 ≤ ((b + 15) : Nat) by omega)
  rw [own_ars (own_up (kf 0) ua (((kf 0) ua) + (1 : Int32))) (by omega)] at V392
  refine gAN X392 hx (hc d4_51) rfl (.refl 52) ?_
  refine gL X392 hx (hc d4_52) rfl (.refl 54) ?_
  have f394 := (f380.other W392 ne379)
  refine gBA X392 hx hZ e392 f394 (.int pa) ⟨by decide, by decide⟩ rfl (hc d4_54) (.refl 55) ?_
  refine gAN X392 hx (hc d4_55) rfl (.refl 56) ?_
  have f396 := (f383.other W392 (Or.inl ne382))
  refine gF X392 hx hZ hown (ow hw 31 rfl) Via.refl e392 f396 (hc d4_56) (.refl 59) ?_
  intro T397 X397 e397
  refine gJY (q := 71) X397 hx (hc d4_59) (feq nas).2 (by decide) ?_
  refine gP 74 #[rv ob, rv ln, iv 0, iv 7, iv 0, iv ((1 : Int32) + (1 : Int32))] [] (fun zt zk => XS.iinc X397.here hx rfl (hc d4_71) rfl (l' := _) rfl zk) ?_
  rw [show ((1 : Int32) + (1 : Int32)) = (2 : Int32) by decide]
  refine gG (q := 25) X397 hx (hc d4_74) (by decide) ?_
  refine gL X397 hx (hc d4_25) rfl (.refl 27) ?_
  refine gLN X397 hx (hc d4_27) rfl (.refl 28) ?_
  refine gJN X397 hx (hc d4_28) (tlt (by decide)).2.1 (.refl 31) ?_
  refine gAN X397 hx (hc d4_31) rfl (.refl 32) ?_
  have f398 := (f385.other W392 (Or.inl ne382))
  refine gF X397 hx hZ hown (ow hw 24 rfl) Via.refl e397 f398 (hc d4_32) (.refl 35) ?_
  intro T399 X399 e399
  refine gL X399 hx (hc d4_35) rfl (.refl 37) ?_
  have f400 := (f388.other W392 ne387)
  refine gRA X399 hx hZ e399 f400 (.ref (b + 15)) ⟨by decide, by decide⟩ (own_xk0 b) (hc d4_37) (.refl 38) rfl ?_
  refine gAN X399 hx (hc d4_38) rfl (.refl 39) ?_
  refine gL X399 hx (hc d4_39) rfl (.refl 41) ?_
  refine gBA X399 hx hZ e399 f394 (.int pa) ⟨by decide, by decide⟩ rfl (hc d4_41) (.refl 42) ?_
  refine gH (z := 255) X399 hx (hc d4_42) rfl (.refl 45) ?_
  refine giand X399 hx (hc d4_45) (.refl 46) ?_
  rw [hua]
  refine gS 47 [(.int (Int32.ofNat ua)), (.ref (b + 15)), (.int (Int32.ofNat ua)), (.ref (b + 15))] (fun zt zk => Jvm.Free.XT.dup2 X399.here hx rfl (hc d4_46) rfl rfl rfl zk) ?_
  refine gIA X399 hx hZ e399 V392 (.int ((own_up (own_up (kf 0) ua (((kf 0) ua) + (1 : Int32))) ua (((own_up (kf 0) ua (((kf 0) ua) + (1 : Int32))) ua) + (1 : Int32))) ua)) ⟨own_nn (by omega), (own_lt32 (n := 257) (by omega) (by omega)).mpr (by omega)⟩ (own_arg (own_up (own_up (kf 0) ua (((kf 0) ua) + (1 : Int32))) ua (((own_up (kf 0) ua (((kf 0) ua) + (1 : Int32))) ua) + (1 : Int32))) (by omega) (by omega) _) (hc d4_47) (.refl 48) ?_
  refine gC (z := 1) X399 hx (hc d4_48) rfl (.refl 49) ?_
  refine giadd X399 hx (hc d4_49) (.refl 50) ?_
  refine gSI X399 hx hZ e399 V392 ⟨own_nn (by omega), (own_lt32 (n := 257) (by omega) (by omega)).mpr (by omega)⟩ ua (own_clamp (by omega)) (by rw [own_arl]; omega) ((own_ar (own_up (own_up (kf 0) ua (((kf 0) ua) + (1 : Int32))) ua (((own_up (kf 0) ua (((kf 0) ua) + (1 : Int32))) ua) + (1 : Int32))) 257).set ua (.int (((own_up (own_up (kf 0) ua (((kf 0) ua) + (1 : Int32))) ua (((own_up (kf 0) ua (((kf 0) ua) + (1 : Int32))) ua) + (1 : Int32))) ua) + (1 : Int32)))) rfl (hc d4_50) (.refl 51) ?_
  intro T404 h404 X404 e404 W404 V404
  have K404 := K392.wr W404 (Or.inl (List.mem_of_getElem? (i := 1) rfl))
  have N404 := Fr.snoc X404 N392 (show n0 ≤ ((b + 15) : Nat) by omega)
  rw [own_ars (own_up (own_up (kf 0) ua (((kf 0) ua) + (1 : Int32))) ua (((own_up (kf 0) ua (((kf 0) ua) + (1 : Int32))) ua) + (1 : Int32))) (by omega)] at V404
  refine gAN X404 hx (hc d4_51) rfl (.refl 52) ?_
  refine gL X404 hx (hc d4_52) rfl (.refl 54) ?_
  have f406 := (f394.other W404 ne379)
  refine gBA X404 hx hZ e404 f406 (.int pa) ⟨by decide, by decide⟩ rfl (hc d4_54) (.refl 55) ?_
  refine gAN X404 hx (hc d4_55) rfl (.refl 56) ?_
  have f408 := (f396.other W404 (Or.inl ne382))
  refine gF X404 hx hZ hown (ow hw 31 rfl) Via.refl e404 f408 (hc d4_56) (.refl 59) ?_
  intro T409 X409 e409
  refine gJY (q := 71) X409 hx (hc d4_59) (feq nas).2 (by decide) ?_
  refine gP 74 #[rv ob, rv ln, iv 0, iv 7, iv 0, iv ((2 : Int32) + (1 : Int32))] [] (fun zt zk => XS.iinc X409.here hx rfl (hc d4_71) rfl (l' := _) rfl zk) ?_
  rw [show ((2 : Int32) + (1 : Int32)) = (3 : Int32) by decide]
  refine gG (q := 25) X409 hx (hc d4_74) (by decide) ?_
  refine gL X409 hx (hc d4_25) rfl (.refl 27) ?_
  refine gLN X409 hx (hc d4_27) rfl (.refl 28) ?_
  refine gJN X409 hx (hc d4_28) (tlt (by decide)).2.1 (.refl 31) ?_
  refine gAN X409 hx (hc d4_31) rfl (.refl 32) ?_
  have f410 := (f398.other W404 (Or.inl ne382))
  refine gF X409 hx hZ hown (ow hw 24 rfl) Via.refl e409 f410 (hc d4_32) (.refl 35) ?_
  intro T411 X411 e411
  refine gL X411 hx (hc d4_35) rfl (.refl 37) ?_
  have f412 := (f400.other W404 ne387)
  refine gRA X411 hx hZ e411 f412 (.ref (b + 15)) ⟨by decide, by decide⟩ (own_xk0 b) (hc d4_37) (.refl 38) rfl ?_
  refine gAN X411 hx (hc d4_38) rfl (.refl 39) ?_
  refine gL X411 hx (hc d4_39) rfl (.refl 41) ?_
  refine gBA X411 hx hZ e411 f406 (.int pa) ⟨by decide, by decide⟩ rfl (hc d4_41) (.refl 42) ?_
  refine gH (z := 255) X411 hx (hc d4_42) rfl (.refl 45) ?_
  refine giand X411 hx (hc d4_45) (.refl 46) ?_
  rw [hua]
  refine gS 47 [(.int (Int32.ofNat ua)), (.ref (b + 15)), (.int (Int32.ofNat ua)), (.ref (b + 15))] (fun zt zk => Jvm.Free.XT.dup2 X411.here hx rfl (hc d4_46) rfl rfl rfl zk) ?_
  refine gIA X411 hx hZ e411 V404 (.int ((own_up (own_up (own_up (kf 0) ua (((kf 0) ua) + (1 : Int32))) ua (((own_up (kf 0) ua (((kf 0) ua) + (1 : Int32))) ua) + (1 : Int32))) ua (((own_up (own_up (kf 0) ua (((kf 0) ua) + (1 : Int32))) ua (((own_up (kf 0) ua (((kf 0) ua) + (1 : Int32))) ua) + (1 : Int32))) ua) + (1 : Int32))) ua)) ⟨own_nn (by omega), (own_lt32 (n := 257) (by omega) (by omega)).mpr (by omega)⟩ (own_arg (own_up (own_up (own_up (kf 0) ua (((kf 0) ua) + (1 : Int32))) ua (((own_up (kf 0) ua (((kf 0) ua) + (1 : Int32))) ua) + (1 : Int32))) ua (((own_up (own_up (kf 0) ua (((kf 0) ua) + (1 : Int32))) ua (((own_up (kf 0) ua (((kf 0) ua) + (1 : Int32))) ua) + (1 : Int32))) ua) + (1 : Int32))) (by omega) (by omega) _) (hc d4_47) (.refl 48) ?_
  refine gC (z := 1) X411 hx (hc d4_48) rfl (.refl 49) ?_
  refine giadd X411 hx (hc d4_49) (.refl 50) ?_
  refine gSI X411 hx hZ e411 V404 ⟨own_nn (by omega), (own_lt32 (n := 257) (by omega) (by omega)).mpr (by omega)⟩ ua (own_clamp (by omega)) (by rw [own_arl]; omega) ((own_ar (own_up (own_up (own_up (kf 0) ua (((kf 0) ua) + (1 : Int32))) ua (((own_up (kf 0) ua (((kf 0) ua) + (1 : Int32))) ua) + (1 : Int32))) ua (((own_up (own_up (kf 0) ua (((kf 0) ua) + (1 : Int32))) ua (((own_up (kf 0) ua (((kf 0) ua) + (1 : Int32))) ua) + (1 : Int32))) ua) + (1 : Int32))) 257).set ua (.int (((own_up (own_up (own_up (kf 0) ua (((kf 0) ua) + (1 : Int32))) ua (((own_up (kf 0) ua (((kf 0) ua) + (1 : Int32))) ua) + (1 : Int32))) ua (((own_up (own_up (kf 0) ua (((kf 0) ua) + (1 : Int32))) ua (((own_up (kf 0) ua (((kf 0) ua) + (1 : Int32))) ua) + (1 : Int32))) ua) + (1 : Int32))) ua) + (1 : Int32)))) rfl (hc d4_50) (.refl 51) ?_
  intro T416 h416 X416 e416 W416 V416
  have K416 := K404.wr W416 (Or.inl (List.mem_of_getElem? (i := 1) rfl))
  have N416 := Fr.snoc X416 N404 (show n0 ≤ ((b + 15) : Nat) by omega)
  rw [own_ars (own_up (own_up (own_up (kf 0) ua (((kf 0) ua) + (1 : Int32))) ua (((own_up (kf 0) ua (((kf 0) ua) + (1 : Int32))) ua) + (1 : Int32))) ua (((own_up (own_up (kf 0) ua (((kf 0) ua) + (1 : Int32))) ua (((own_up (kf 0) ua (((kf 0) ua) + (1 : Int32))) ua) + (1 : Int32))) ua) + (1 : Int32))) (by omega)] at V416
  refine gAN X416 hx (hc d4_51) rfl (.refl 52) ?_
  refine gL X416 hx (hc d4_52) rfl (.refl 54) ?_
  have f418 := (f406.other W416 ne379)
  refine gBA X416 hx hZ e416 f418 (.int pa) ⟨by decide, by decide⟩ rfl (hc d4_54) (.refl 55) ?_
  refine gAN X416 hx (hc d4_55) rfl (.refl 56) ?_
  have f420 := (f408.other W416 (Or.inl ne382))
  refine gF X416 hx hZ hown (ow hw 31 rfl) Via.refl e416 f420 (hc d4_56) (.refl 59) ?_
  intro T421 X421 e421
  refine gJY (q := 71) X421 hx (hc d4_59) (feq nas).2 (by decide) ?_
  refine gP 74 #[rv ob, rv ln, iv 0, iv 7, iv 0, iv ((3 : Int32) + (1 : Int32))] [] (fun zt zk => XS.iinc X421.here hx rfl (hc d4_71) rfl (l' := _) rfl zk) ?_
  rw [show ((3 : Int32) + (1 : Int32)) = (4 : Int32) by decide]
  refine gG (q := 25) X421 hx (hc d4_74) (by decide) ?_
  refine gL X421 hx (hc d4_25) rfl (.refl 27) ?_
  refine gLN X421 hx (hc d4_27) rfl (.refl 28) ?_
  refine gJN X421 hx (hc d4_28) (tlt (by decide)).2.1 (.refl 31) ?_
  refine gAN X421 hx (hc d4_31) rfl (.refl 32) ?_
  have f422 := (f410.other W416 (Or.inl ne382))
  refine gF X421 hx hZ hown (ow hw 24 rfl) Via.refl e421 f422 (hc d4_32) (.refl 35) ?_
  intro T423 X423 e423
  refine gL X423 hx (hc d4_35) rfl (.refl 37) ?_
  have f424 := (f412.other W416 ne387)
  refine gRA X423 hx hZ e423 f424 (.ref (b + 15)) ⟨by decide, by decide⟩ (own_xk0 b) (hc d4_37) (.refl 38) rfl ?_
  refine gAN X423 hx (hc d4_38) rfl (.refl 39) ?_
  refine gL X423 hx (hc d4_39) rfl (.refl 41) ?_
  refine gBA X423 hx hZ e423 f418 (.int ps_) ⟨by decide, by decide⟩ rfl (hc d4_41) (.refl 42) ?_
  refine gH (z := 255) X423 hx (hc d4_42) rfl (.refl 45) ?_
  refine giand X423 hx (hc d4_45) (.refl 46) ?_
  rw [hus]
  refine gS 47 [(.int (Int32.ofNat us)), (.ref (b + 15)), (.int (Int32.ofNat us)), (.ref (b + 15))] (fun zt zk => Jvm.Free.XT.dup2 X423.here hx rfl (hc d4_46) rfl rfl rfl zk) ?_
  refine gIA X423 hx hZ e423 V416 (.int ((own_up (own_up (own_up (own_up (kf 0) ua (((kf 0) ua) + (1 : Int32))) ua (((own_up (kf 0) ua (((kf 0) ua) + (1 : Int32))) ua) + (1 : Int32))) ua (((own_up (own_up (kf 0) ua (((kf 0) ua) + (1 : Int32))) ua (((own_up (kf 0) ua (((kf 0) ua) + (1 : Int32))) ua) + (1 : Int32))) ua) + (1 : Int32))) ua (((own_up (own_up (own_up (kf 0) ua (((kf 0) ua) + (1 : Int32))) ua (((own_up (kf 0) ua (((kf 0) ua) + (1 : Int32))) ua) + (1 : Int32))) ua (((own_up (own_up (kf 0) ua (((kf 0) ua) + (1 : Int32))) ua (((own_up (kf 0) ua (((kf 0) ua) + (1 : Int32))) ua) + (1 : Int32))) ua) + (1 : Int32))) ua) + (1 : Int32))) us)) ⟨own_nn (by omega), (own_lt32 (n := 257) (by omega) (by omega)).mpr (by omega)⟩ (own_arg (own_up (own_up (own_up (own_up (kf 0) ua (((kf 0) ua) + (1 : Int32))) ua (((own_up (kf 0) ua (((kf 0) ua) + (1 : Int32))) ua) + (1 : Int32))) ua (((own_up (own_up (kf 0) ua (((kf 0) ua) + (1 : Int32))) ua (((own_up (kf 0) ua (((kf 0) ua) + (1 : Int32))) ua) + (1 : Int32))) ua) + (1 : Int32))) ua (((own_up (own_up (own_up (kf 0) ua (((kf 0) ua) + (1 : Int32))) ua (((own_up (kf 0) ua (((kf 0) ua) + (1 : Int32))) ua) + (1 : Int32))) ua (((own_up (own_up (kf 0) ua (((kf 0) ua) + (1 : Int32))) ua (((own_up (kf 0) ua (((kf 0) ua) + (1 : Int32))) ua) + (1 : Int32))) ua) + (1 : Int32))) ua) + (1 : Int32))) (by omega) (by omega) _) (hc d4_47) (.refl 48) ?_
  refine gC (z := 1) X423 hx (hc d4_48) rfl (.refl 49) ?_
  refine giadd X423 hx (hc d4_49) (.refl 50) ?_
  refine gSI X423 hx hZ e423 V416 ⟨own_nn (by omega), (own_lt32 (n := 257) (by omega) (by omega)).mpr (by omega)⟩ us (own_clamp (by omega)) (by rw [own_arl]; omega) ((own_ar (own_up (own_up (own_up (own_up (kf 0) ua (((kf 0) ua) + (1 : Int32))) ua (((own_up (kf 0) ua (((kf 0) ua) + (1 : Int32))) ua) + (1 : Int32))) ua (((own_up (own_up (kf 0) ua (((kf 0) ua) + (1 : Int32))) ua (((own_up (kf 0) ua (((kf 0) ua) + (1 : Int32))) ua) + (1 : Int32))) ua) + (1 : Int32))) ua (((own_up (own_up (own_up (kf 0) ua (((kf 0) ua) + (1 : Int32))) ua (((own_up (kf 0) ua (((kf 0) ua) + (1 : Int32))) ua) + (1 : Int32))) ua (((own_up (own_up (kf 0) ua (((kf 0) ua) + (1 : Int32))) ua (((own_up (kf 0) ua (((kf 0) ua) + (1 : Int32))) ua) + (1 : Int32))) ua) + (1 : Int32))) ua) + (1 : Int32))) 257).set us (.int (((own_up (own_up (own_up (own_up (kf 0) ua (((kf 0) ua) + (1 : Int32))) ua (((own_up (kf 0) ua (((kf 0) ua) + (1 : Int32))) ua) + (1 : Int32))) ua (((own_up (own_up (kf 0) ua (((kf 0) ua) + (1 : Int32))) ua (((own_up (kf 0) ua (((kf 0) ua) + (1 : Int32))) ua) + (1 : Int32))) ua) + (1 : Int32))) ua (((own_up (own_up (own_up (kf 0) ua (((kf 0) ua) + (1 : Int32))) ua (((own_up (kf 0) ua (((kf 0) ua) + (1 : Int32))) ua) + (1 : Int32))) ua (((own_up (own_up (kf 0) ua (((kf 0) ua) + (1 : Int32))) ua (((own_up (kf 0) ua (((kf 0) ua) + (1 : Int32))) ua) + (1 : Int32))) ua) + (1 : Int32))) ua) + (1 : Int32))) us) + (1 : Int32)))) rfl (hc d4_50) (.refl 51) ?_
  intro T428 h428 X428 e428 W428 V428
  have K428 := K416.wr W428 (Or.inl (List.mem_of_getElem? (i := 1) rfl))
  have N428 := Fr.snoc X428 N416 (show n0 ≤ ((b + 15) : Nat) by omega)
  rw [own_ars (own_up (own_up (own_up (own_up (kf 0) ua (((kf 0) ua) + (1 : Int32))) ua (((own_up (kf 0) ua (((kf 0) ua) + (1 : Int32))) ua) + (1 : Int32))) ua (((own_up (own_up (kf 0) ua (((kf 0) ua) + (1 : Int32))) ua (((own_up (kf 0) ua (((kf 0) ua) + (1 : Int32))) ua) + (1 : Int32))) ua) + (1 : Int32))) ua (((own_up (own_up (own_up (kf 0) ua (((kf 0) ua) + (1 : Int32))) ua (((own_up (kf 0) ua (((kf 0) ua) + (1 : Int32))) ua) + (1 : Int32))) ua (((own_up (own_up (kf 0) ua (((kf 0) ua) + (1 : Int32))) ua (((own_up (kf 0) ua (((kf 0) ua) + (1 : Int32))) ua) + (1 : Int32))) ua) + (1 : Int32))) ua) + (1 : Int32))) (by omega)] at V428
  refine gAN X428 hx (hc d4_51) rfl (.refl 52) ?_
  refine gL X428 hx (hc d4_52) rfl (.refl 54) ?_
  have f430 := (f418.other W428 ne379)
  refine gBA X428 hx hZ e428 f430 (.int ps_) ⟨by decide, by decide⟩ rfl (hc d4_54) (.refl 55) ?_
  refine gAN X428 hx (hc d4_55) rfl (.refl 56) ?_
  have f432 := (f420.other W428 (Or.inl ne382))
  refine gF X428 hx hZ hown (ow hw 31 rfl) Via.refl e428 f432 (hc d4_56) (.refl 59) ?_
  intro T433 X433 e433
  refine gJN X433 hx (hc d4_59) (teq rfl).2 (.refl 62) ?_
  refine gL X433 hx (hc d4_62) rfl (.refl 64) ?_
  refine gC (z := 2) X433 hx (hc d4_64) rfl (.refl 65) ?_
  refine gJN X433 hx (hc d4_65) (tlt (by decide)).2.1 (.refl 68) ?_
  refine gP 71 #[rv ob, rv ln, iv 0, iv 7, iv ((0 : Int32) + (1 : Int32)), iv 4] [] (fun zt zk => XS.iinc X433.here hx rfl (hc d4_68) rfl (l' := _) rfl zk) ?_
  rw [show ((0 : Int32) + (1 : Int32)) = (1 : Int32) by decide]
  refine gP 74 #[rv ob, rv ln, iv 0, iv 7, iv 1, iv ((4 : Int32) + (1 : Int32))] [] (fun zt zk => XS.iinc X433.here hx rfl (hc d4_71) rfl (l' := _) rfl zk) ?_
  rw [show ((4 : Int32) + (1 : Int32)) = (5 : Int32) by decide]
  refine gG (q := 25) X433 hx (hc d4_74) (by decide) ?_
  refine gL X433 hx (hc d4_25) rfl (.refl 27) ?_
  refine gLN X433 hx (hc d4_27) rfl (.refl 28) ?_
  refine gJN X433 hx (hc d4_28) (tlt (by decide)).2.1 (.refl 31) ?_
  refine gAN X433 hx (hc d4_31) rfl (.refl 32) ?_
  have f434 := (f422.other W428 (Or.inl ne382))
  refine gF X433 hx hZ hown (ow hw 24 rfl) Via.refl e433 f434 (hc d4_32) (.refl 35) ?_
  intro T435 X435 e435
  refine gL X435 hx (hc d4_35) rfl (.refl 37) ?_
  have f436 := (f424.other W428 ne387)
  refine gRA X435 hx hZ e435 f436 (.ref (b + 16)) ⟨by decide, by decide⟩ (own_xk1 b) (hc d4_37) (.refl 38) rfl ?_
  refine gAN X435 hx (hc d4_38) rfl (.refl 39) ?_
  refine gL X435 hx (hc d4_39) rfl (.refl 41) ?_
  refine gBA X435 hx hZ e435 f430 (.int pb) ⟨by decide, by decide⟩ rfl (hc d4_41) (.refl 42) ?_
  refine gH (z := 255) X435 hx (hc d4_42) rfl (.refl 45) ?_
  refine giand X435 hx (hc d4_45) (.refl 46) ?_
  rw [hub]
  refine gS 47 [(.int (Int32.ofNat ub)), (.ref (b + 16)), (.int (Int32.ofNat ub)), (.ref (b + 16))] (fun zt zk => Jvm.Free.XT.dup2 X435.here hx rfl (hc d4_46) rfl rfl rfl zk) ?_
  have ne439 : ((b + 16) : Nat) ≠ (b + 15) := by omega
  have f440 := (((((RK1.other W377 ne439).other W392 ne439).other W404 ne439).other W416 ne439).other W428 ne439)
  refine gIA X435 hx hZ e435 f440 (.int ((kf 1) ub)) ⟨own_nn (by omega), (own_lt32 (n := 257) (by omega) (by omega)).mpr (by omega)⟩ (own_arg (kf 1) (by omega) (by omega) _) (hc d4_47) (.refl 48) ?_
  refine gC (z := 1) X435 hx (hc d4_48) rfl (.refl 49) ?_
  refine giadd X435 hx (hc d4_49) (.refl 50) ?_
  refine gSI X435 hx hZ e435 f440 ⟨own_nn (by omega), (own_lt32 (n := 257) (by omega) (by omega)).mpr (by omega)⟩ ub (own_clamp (by omega)) (by rw [own_arl]; omega) ((own_ar (kf 1) 257).set ub (.int (((kf 1) ub) + (1 : Int32)))) rfl (hc d4_50) (.refl 51) ?_
  intro T442 h442 X442 e442 W442 V442
  have K442 := K428.wr W442 (Or.inl (List.mem_of_getElem? (i := 2) rfl))
  have N442 := Fr.snoc X442 N428 (show n0 ≤ ((b + 16) : Nat) by omega)
  rw [own_ars (kf 1) (by omega)] at V442
  refine gAN X442 hx (hc d4_51) rfl (.refl 52) ?_
  refine gL X442 hx (hc d4_52) rfl (.refl 54) ?_
  have ne444 : (ln : Nat) ≠ (b + 16) := by omega
  have f445 := (f430.other W442 ne444)
  refine gBA X442 hx hZ e442 f445 (.int pb) ⟨by decide, by decide⟩ rfl (hc d4_54) (.refl 55) ?_
  refine gAN X442 hx (hc d4_55) rfl (.refl 56) ?_
  have ne447 : (ob : Nat) ≠ (b + 16) := by omega
  have f448 := (f432.other W442 (Or.inl ne447))
  refine gF X442 hx hZ hown (ow hw 31 rfl) Via.refl e442 f448 (hc d4_56) (.refl 59) ?_
  intro T449 X449 e449
  refine gJY (q := 71) X449 hx (hc d4_59) (feq nbs).2 (by decide) ?_
  refine gP 74 #[rv ob, rv ln, iv 0, iv 7, iv 1, iv ((5 : Int32) + (1 : Int32))] [] (fun zt zk => XS.iinc X449.here hx rfl (hc d4_71) rfl (l' := _) rfl zk) ?_
  rw [show ((5 : Int32) + (1 : Int32)) = (6 : Int32) by decide]
  refine gG (q := 25) X449 hx (hc d4_74) (by decide) ?_
  refine gL X449 hx (hc d4_25) rfl (.refl 27) ?_
  refine gLN X449 hx (hc d4_27) rfl (.refl 28) ?_
  refine gJN X449 hx (hc d4_28) (tlt (by decide)).2.1 (.refl 31) ?_
  refine gAN X449 hx (hc d4_31) rfl (.refl 32) ?_
  have f450 := (f434.other W442 (Or.inl ne447))
  refine gF X449 hx hZ hown (ow hw 24 rfl) Via.refl e449 f450 (hc d4_32) (.refl 35) ?_
  intro T451 X451 e451
  refine gL X451 hx (hc d4_35) rfl (.refl 37) ?_
  have ne452 : ((b + 14) : Nat) ≠ (b + 16) := by omega
  have f453 := (f436.other W442 ne452)
  refine gRA X451 hx hZ e451 f453 (.ref (b + 16)) ⟨by decide, by decide⟩ (own_xk1 b) (hc d4_37) (.refl 38) rfl ?_
  refine gAN X451 hx (hc d4_38) rfl (.refl 39) ?_
  refine gL X451 hx (hc d4_39) rfl (.refl 41) ?_
  refine gBA X451 hx hZ e451 f445 (.int ps_) ⟨by decide, by decide⟩ rfl (hc d4_41) (.refl 42) ?_
  refine gH (z := 255) X451 hx (hc d4_42) rfl (.refl 45) ?_
  refine giand X451 hx (hc d4_45) (.refl 46) ?_
  rw [hus]
  refine gS 47 [(.int (Int32.ofNat us)), (.ref (b + 16)), (.int (Int32.ofNat us)), (.ref (b + 16))] (fun zt zk => Jvm.Free.XT.dup2 X451.here hx rfl (hc d4_46) rfl rfl rfl zk) ?_
  refine gIA X451 hx hZ e451 V442 (.int ((own_up (kf 1) ub (((kf 1) ub) + (1 : Int32))) us)) ⟨own_nn (by omega), (own_lt32 (n := 257) (by omega) (by omega)).mpr (by omega)⟩ (own_arg (own_up (kf 1) ub (((kf 1) ub) + (1 : Int32))) (by omega) (by omega) _) (hc d4_47) (.refl 48) ?_
  refine gC (z := 1) X451 hx (hc d4_48) rfl (.refl 49) ?_
  refine giadd X451 hx (hc d4_49) (.refl 50) ?_
  refine gSI X451 hx hZ e451 V442 ⟨own_nn (by omega), (own_lt32 (n := 257) (by omega) (by omega)).mpr (by omega)⟩ us (own_clamp (by omega)) (by rw [own_arl]; omega) ((own_ar (own_up (kf 1) ub (((kf 1) ub) + (1 : Int32))) 257).set us (.int (((own_up (kf 1) ub (((kf 1) ub) + (1 : Int32))) us) + (1 : Int32)))) rfl (hc d4_50) (.refl 51) ?_
  intro T457 h457 X457 e457 W457 V457
  have K457 := K442.wr W457 (Or.inl (List.mem_of_getElem? (i := 2) rfl))
  have N457 := Fr.snoc X457 N442 (show n0 ≤ ((b + 16) : Nat) by omega)
  rw [own_ars (own_up (kf 1) ub (((kf 1) ub) + (1 : Int32))) (by omega)] at V457
  refine gAN X457 hx (hc d4_51) rfl (.refl 52) ?_
  refine gL X457 hx (hc d4_52) rfl (.refl 54) ?_
  have f459 := (f445.other W457 ne444)
  refine gBA X457 hx hZ e457 f459 (.int ps_) ⟨by decide, by decide⟩ rfl (hc d4_54) (.refl 55) ?_
  refine gAN X457 hx (hc d4_55) rfl (.refl 56) ?_
  have f461 := (f448.other W457 (Or.inl ne447))
  refine gF X457 hx hZ hown (ow hw 31 rfl) Via.refl e457 f461 (hc d4_56) (.refl 59) ?_
  intro T462 X462 e462
  refine gJN X462 hx (hc d4_59) (teq rfl).2 (.refl 62) ?_
  refine gL X462 hx (hc d4_62) rfl (.refl 64) ?_
  refine gC (z := 2) X462 hx (hc d4_64) rfl (.refl 65) ?_
  refine gJN X462 hx (hc d4_65) (tlt (by decide)).2.1 (.refl 68) ?_
  refine gP 71 #[rv ob, rv ln, iv 0, iv 7, iv ((1 : Int32) + (1 : Int32)), iv 6] [] (fun zt zk => XS.iinc X462.here hx rfl (hc d4_68) rfl (l' := _) rfl zk) ?_
  rw [show ((1 : Int32) + (1 : Int32)) = (2 : Int32) by decide]
  refine gP 74 #[rv ob, rv ln, iv 0, iv 7, iv 2, iv ((6 : Int32) + (1 : Int32))] [] (fun zt zk => XS.iinc X462.here hx rfl (hc d4_71) rfl (l' := _) rfl zk) ?_
  rw [show ((6 : Int32) + (1 : Int32)) = (7 : Int32) by decide]
  refine gG (q := 25) X462 hx (hc d4_74) (by decide) ?_
  refine gL X462 hx (hc d4_25) rfl (.refl 27) ?_
  refine gLN X462 hx (hc d4_27) rfl (.refl 28) ?_
  refine gJY (q := 77) X462 hx (hc d4_28) (flt (by decide)).2.1 (by decide) ?_
  refine gAN X462 hx (hc d4_77) rfl (.refl 78) ?_
  have f463 := (f450.other W457 (Or.inl ne447))
  refine gF X462 hx hZ hown (ow hw 24 rfl) Via.refl e462 f463 (hc d4_78) (.refl 81) ?_
  intro T464 X464 e464
  refine gL X464 hx (hc d4_81) rfl (.refl 83) ?_
  have f465 := (f453.other W457 ne452)
  refine gRA X464 hx hZ e464 f465 (.ref (b + 17)) ⟨by decide, by decide⟩ (own_xk2 b) (hc d4_83) (.refl 84) rfl ?_
  refine gH (z := 256) X464 hx (hc d4_84) rfl (.refl 87) ?_
  show Go p e below (T464.setTop (mkF m 87 #[rv ob, rv ln, iv 0, iv 7, iv 2, iv 7] [(.int (Int32.ofNat 256)), (.ref (b + 17))])) (EndN s (Q_rmCnt1 Z ob b ln kl pa pb ps_ ua ub us kf h0 n0) ({ frames := 0, cells := 0, slots := 0, locals := 0 } : Room).cells ({ frames := 0, cells := 0, slots := 0, locals := 0 } : Room).slots)
  refine gS 88 [(.int (Int32.ofNat 256)), (.ref (b + 17)), (.int (Int32.ofNat 256)), (.ref (b + 17))] (fun zt zk => Jvm.Free.XT.dup2 X464.here hx rfl (hc d4_87) rfl rfl rfl zk) ?_
  have ne467 : ((b + 17) : Nat) ≠ (b + 15) := by omega
  have ne468 : ((b + 17) : Nat) ≠ (b + 16) := by omega
  have f469 := (((((((RK2.other W377 ne467).other W392 ne467).other W404 ne467).other W416 ne467).other W428 ne467).other W442 ne468).other W457 ne468)
  refine gIA X464 hx hZ e464 f469 (.int ((kf 2) 256)) ⟨own_nn (by omega), (own_lt32 (n := 257) (by omega) (by omega)).mpr (by omega)⟩ (own_arg (kf 2) (by omega) (by omega) _) (hc d4_88) (.refl 89) ?_
  refine gC (z := 1) X464 hx (hc d4_89) rfl (.refl 90) ?_
  refine giadd X464 hx (hc d4_90) (.refl 91) ?_
  refine gSI X464 hx hZ e464 f469 ⟨own_nn (by omega), (own_lt32 (n := 257) (by omega) (by omega)).mpr (by omega)⟩ 256 (own_clamp (by omega)) (by rw [own_arl]; omega) ((own_ar (kf 2) 257).set 256 (.int (((kf 2) 256) + (1 : Int32)))) rfl (hc d4_91) (.refl 92) ?_
  intro T471 h471 X471 e471 W471 V471
  have K471 := K457.wr W471 (Or.inl (List.mem_of_getElem? (i := 3) rfl))
  have N471 := Fr.snoc X471 N457 (show n0 ≤ ((b + 17) : Nat) by omega)
  rw [own_ars (kf 2) (by omega)] at V471
  refine gAN X471 hx (hc d4_92) rfl (.refl 93) ?_
  refine gD X471 hx (hc d4_93) rfl (.refl 94) ?_
  have ne473 : (ob : Nat) ≠ (b + 17) := by omega
  have f474 := ((((((((FcB.other W377 (Or.inl ne382)).other W392 (Or.inl ne382)).other W404 (Or.inl ne382)).other W416 (Or.inl ne382)).other W428 (Or.inl ne382)).other W442 (Or.inl ne447)).other W457 (Or.inl ne447)).other W471 (Or.inl ne473))
  refine gF X471 hx hZ hown (ow hw 41 rfl) Via.refl e471 f474 (hc d4_94) (.refl 97) ?_
  intro T475 X475 e475
  refine gLN X475 hx (hc d4_97) rfl (.refl 98) ?_
  refine gLN X475 hx (hc d4_98) rfl (.refl 99) ?_
  refine gisub X475 hx (hc d4_99) (.refl 100) ?_
  rw [show ((7 : Int32) - (0 : Int32)) = (7 : Int32) by decide]
  refine gS 101 [(.long ((7 : Int32).toInt64)), (.long xb), (.ref ob)] (fun zt zk => XS.i2l X475.here hx rfl (hc d4_100) rfl zk) ?_
  rw [show ((7 : Int32).toInt64) = (7 : Int64) by decide]
  refine gS 102 [(.long (xb + (7 : Int64))), (.ref ob)] (fun zt zk => XS.ladd X475.here hx rfl (hc d4_101) rfl zk) ?_
  have f476 := ((((((((Eo.wr W377).wr W392).wr W404).wr W416).wr W428).wr W442).wr W457).wr W471)
  obtain ⟨T477, h477, X477, e477, W477, st477⟩ := putF X475 hx hZ hown (host := "") (Or.inl (ow hw 41 rfl)) Via.refl e475 f474 f476 (Or.inl (ow hw 42 rfl)) (ow hw 7 rfl) (ty := .long) (by decide) rfl rfl (g := (mkF m 102 #[rv ob, rv ln, iv 0, iv 7, iv 2, iv 7] [(.long (xb + (7 : Int64))), (.ref ob)])) rfl rfl (hc d4_102)
  have Fw477 : Fld Z h477 ob "com/example/tributary/tributary/join/LineCodes" "countedBytes" "J" (.long (xb + (7 : Int64))) := f474.same W477
  have K477 := K471.wr W477 (Or.inl (List.mem_of_getElem? (i := 0) rfl))
  have N477 := Fr.snoc X477 N471 g_ob
  refine gT T477 105 [] (fun zt zk => st477 zt zk) ?_
  refine gAN X477 hx (hc d4_105) rfl (.refl 106) ?_
  refine gD X477 hx (hc d4_106) rfl (.refl 107) ?_
  have f478 := (((((((((FcL.other W377 (Or.inl ne382)).other W392 (Or.inl ne382)).other W404 (Or.inl ne382)).other W416 (Or.inl ne382)).other W428 (Or.inl ne382)).other W442 (Or.inl ne447)).other W457 (Or.inl ne447)).other W471 (Or.inl ne473)).other W477 (Or.inr (slot_ne (Or.inl (ow hw 44 rfl)) (Or.inl (ow hw 42 rfl)) (by decide) (t := .long) (t' := .long) (by decide) (by decide))))
  refine gF X477 hx hZ hown (ow hw 43 rfl) Via.refl e477 f478 (hc d4_107) (.refl 110) ?_
  intro T479 X479 e479
  refine gS 111 [(.long 1), (.long xl), (.ref ob)] (fun zt zk => XS.lconst X479.here hx rfl (hc d4_110) zk) ?_
  refine gS 112 [(.long (xl + (1 : Int64))), (.ref ob)] (fun zt zk => XS.ladd X479.here hx rfl (hc d4_111) rfl zk) ?_
  have f480 := (f476.wr W477)
  obtain ⟨T481, h481, X481, e481, W481, st481⟩ := putF X479 hx hZ hown (host := "") (Or.inl (ow hw 43 rfl)) Via.refl e479 f478 f480 (Or.inl (ow hw 44 rfl)) (ow hw 7 rfl) (ty := .long) (by decide) rfl rfl (g := (mkF m 112 #[rv ob, rv ln, iv 0, iv 7, iv 2, iv 7] [(.long (xl + (1 : Int64))), (.ref ob)])) rfl rfl (hc d4_112)
  have Fw481 : Fld Z h481 ob "com/example/tributary/tributary/join/LineCodes" "countedLines" "J" (.long (xl + (1 : Int64))) := f478.same W481
  have K481 := K477.wr W481 (Or.inl (List.mem_of_getElem? (i := 0) rfl))
  have N481 := Fr.snoc X481 N477 g_ob
  refine gT T481 115 [] (fun zt zk => st481 zt zk) ?_
  refine gAN X481 hx (hc d4_115) rfl (.refl 116) ?_
  refine gD X481 hx (hc d4_116) rfl (.refl 117) ?_
  have f482 := ((((((((((Fsh.other W377 (Or.inl ne382)).other W392 (Or.inl ne382)).other W404 (Or.inl ne382)).other W416 (Or.inl ne382)).other W428 (Or.inl ne382)).other W442 (Or.inl ne447)).other W457 (Or.inl ne447)).other W471 (Or.inl ne473)).other W477 (Or.inr (slot_ne (Or.inl (ow hw 39 rfl)) (Or.inl (ow hw 42 rfl)) (by decide) (t := .int) (t' := .long) (by decide) (by decide)))).other W481 (Or.inr (slot_ne (Or.inl (ow hw 39 rfl)) (Or.inl (ow hw 44 rfl)) (by decide) (t := .int) (t' := .long) (by decide) (by decide))))
  refine gF X481 hx hZ hown (ow hw 38 rfl) Via.refl e481 f482 (hc d4_117) (.refl 120) ?_
  intro T483 X483 e483
  refine gLN X483 hx (hc d4_120) rfl (.refl 121) ?_
  refine gLN X483 hx (hc d4_121) rfl (.refl 122) ?_
  refine gisub X483 hx (hc d4_122) (.refl 123) ?_
  rw [show ((7 : Int32) - (0 : Int32)) = (7 : Int32) by decide]
  refine gC (z := 1) X483 hx (hc d4_123) rfl (.refl 124) ?_
  refine giadd X483 hx (hc d4_124) (.refl 125) ?_
  rw [show ((7 : Int32) + (1 : Int32)) = (8 : Int32) by decide]
  refine giadd X483 hx (hc d4_125) (.refl 126) ?_
  rw [show ((0 : Int32) + (8 : Int32)) = (8 : Int32) by decide]
  have f484 := (f480.wr W481)
  obtain ⟨T485, h485, X485, e485, W485, st485⟩ := putF X483 hx hZ hown (host := "") (Or.inl (ow hw 38 rfl)) Via.refl e483 f482 f484 (Or.inl (ow hw 39 rfl)) (ow hw 7 rfl) (ty := .int) (by decide) rfl rfl (g := (mkF m 126 #[rv ob, rv ln, iv 0, iv 7, iv 2, iv 7] [(.int 8), (.ref ob)])) rfl rfl (hc d4_126)
  have Fw485 : Fld Z h485 ob "com/example/tributary/tributary/join/LineCodes" "sinceHalved" "I" (.int 8) := f482.same W485
  have K485 := K481.wr W485 (Or.inl (List.mem_of_getElem? (i := 0) rfl))
  have N485 := Fr.snoc X485 N481 g_ob
  refine gT T485 129 [] (fun zt zk => st485 zt zk) ?_
  have f486 := (f484.wr W485)
  have f487 := (((((((((((Oc.other W377 (Or.inl ne382)).other W392 (Or.inl ne382)).other W404 (Or.inl ne382)).other W416 (Or.inl ne382)).other W428 (Or.inl ne382)).other W442 (Or.inl ne447)).other W457 (Or.inl ne447)).other W471 (Or.inl ne473)).other W477 (Or.inr (slot_ne (Or.inr (ow hw 19 rfl)) (Or.inl (ow hw 42 rfl)) (by decide) (t := (.array (.array .short))) (t' := .long) (by decide) (by decide)))).other W481 (Or.inr (slot_ne (Or.inr (ow hw 19 rfl)) (Or.inl (ow hw 44 rfl)) (by decide) (t := (.array (.array .short))) (t' := .long) (by decide) (by decide)))).other W485 (Or.inr (slot_ne (Or.inr (ow hw 19 rfl)) (Or.inl (ow hw 39 rfl)) (by decide) (t := (.array (.array .short))) (t' := .int) (by decide) (by decide))))
  have f488 := (((((((((((Ot.other W377 (Or.inl ne382)).other W392 (Or.inl ne382)).other W404 (Or.inl ne382)).other W416 (Or.inl ne382)).other W428 (Or.inl ne382)).other W442 (Or.inl ne447)).other W457 (Or.inl ne447)).other W471 (Or.inl ne473)).other W477 (Or.inr (slot_ne (Or.inr (ow hw 21 rfl)) (Or.inl (ow hw 42 rfl)) (by decide) (t := (.array (.array .short))) (t' := .long) (by decide) (by decide)))).other W481 (Or.inr (slot_ne (Or.inr (ow hw 21 rfl)) (Or.inl (ow hw 44 rfl)) (by decide) (t := (.array (.array .short))) (t' := .long) (by decide) (by decide)))).other W485 (Or.inr (slot_ne (Or.inr (ow hw 21 rfl)) (Or.inl (ow hw 39 rfl)) (by decide) (t := (.array (.array .short))) (t' := .int) (by decide) (by decide))))
  have f489 := ((((f463.other W471 (Or.inl ne473)).other W477 (Or.inr (slot_ne (Or.inr (ow hw 25 rfl)) (Or.inl (ow hw 42 rfl)) (by decide) (t := (.array (.array .int))) (t' := .long) (by decide) (by decide)))).other W481 (Or.inr (slot_ne (Or.inr (ow hw 25 rfl)) (Or.inl (ow hw 44 rfl)) (by decide) (t := (.array (.array .int))) (t' := .long) (by decide) (by decide)))).other W485 (Or.inr (slot_ne (Or.inr (ow hw 25 rfl)) (Or.inl (ow hw 39 rfl)) (by decide) (t := (.array (.array .int))) (t' := .int) (by decide) (by decide))))
  have f490 := (((((((((((Ow.other W377 (Or.inl ne382)).other W392 (Or.inl ne382)).other W404 (Or.inl ne382)).other W416 (Or.inl ne382)).other W428 (Or.inl ne382)).other W442 (Or.inl ne447)).other W457 (Or.inl ne447)).other W471 (Or.inl ne473)).other W477 (Or.inr (slot_ne (Or.inr (ow hw 28 rfl)) (Or.inl (ow hw 42 rfl)) (by decide) (t := (.array .long)) (t' := .long) (by decide) (by decide)))).other W481 (Or.inr (slot_ne (Or.inr (ow hw 28 rfl)) (Or.inl (ow hw 44 rfl)) (by decide) (t := (.array .long)) (t' := .long) (by decide) (by decide)))).other W485 (Or.inr (slot_ne (Or.inr (ow hw 28 rfl)) (Or.inl (ow hw 39 rfl)) (by decide) (t := (.array .long)) (t' := .int) (by decide) (by decide))))
  have f491 := (((((((((((Oo.other W377 (Or.inl ne382)).other W392 (Or.inl ne382)).other W404 (Or.inl ne382)).other W416 (Or.inl ne382)).other W428 (Or.inl ne382)).other W442 (Or.inl ne447)).other W457 (Or.inl ne447)).other W471 (Or.inl ne473)).other W477 (Or.inr (slot_ne (Or.inr (ow hw 30 rfl)) (Or.inl (ow hw 42 rfl)) (by decide) (t := (.array .short)) (t' := .long) (by decide) (by decide)))).other W481 (Or.inr (slot_ne (Or.inr (ow hw 30 rfl)) (Or.inl (ow hw 44 rfl)) (by decide) (t := (.array .short)) (t' := .long) (by decide) (by decide)))).other W485 (Or.inr (slot_ne (Or.inr (ow hw 30 rfl)) (Or.inl (ow hw 39 rfl)) (by decide) (t := (.array .short)) (t' := .int) (by decide) (by decide))))
  have f492 := ((((f461.other W471 (Or.inl ne473)).other W477 (Or.inr (slot_ne (Or.inr (ow hw 32 rfl)) (Or.inl (ow hw 42 rfl)) (by decide) (t := .byte) (t' := .long) (by decide) (by decide)))).other W481 (Or.inr (slot_ne (Or.inr (ow hw 32 rfl)) (Or.inl (ow hw 44 rfl)) (by decide) (t := .byte) (t' := .long) (by decide) (by decide)))).other W485 (Or.inr (slot_ne (Or.inr (ow hw 32 rfl)) (Or.inl (ow hw 39 rfl)) (by decide) (t := .byte) (t' := .int) (by decide) (by decide))))
  have ne493 : (b : Nat) ≠ (b + 15) := by omega
  have ne494 : (b : Nat) ≠ (b + 16) := by omega
  have ne495 : (b : Nat) ≠ (b + 17) := by omega
  have ne496 : (b : Nat) ≠ ob := by omega
  have f497 := (((((((((((VC.other W377 ne493).other W392 ne493).other W404 ne493).other W416 ne493).other W428 ne493).other W442 ne494).other W457 ne494).other W471 ne495).other W477 ne496).other W481 ne496).other W485 ne496)
  have ne498 : ((b + 7) : Nat) ≠ (b + 15) := by omega
  have ne499 : ((b + 7) : Nat) ≠ (b + 16) := by omega
  have ne500 : ((b + 7) : Nat) ≠ (b + 17) := by omega
  have ne501 : ((b + 7) : Nat) ≠ ob := by omega
  have f502 := (((((((((((VT.other W377 ne498).other W392 ne498).other W404 ne498).other W416 ne498).other W428 ne498).other W442 ne499).other W457 ne499).other W471 ne500).other W477 ne501).other W481 ne501).other W485 ne501)
  have ne503 : ((b + 14) : Nat) ≠ (b + 17) := by omega
  have ne504 : ((b + 14) : Nat) ≠ ob := by omega
  have f505 := ((((f465.other W471 ne503).other W477 ne504).other W481 ne504).other W485 ne504)
  have f506 := ((Fw477.other W481 (Or.inr (slot_ne (Or.inl (ow hw 42 rfl)) (Or.inl (ow hw 44 rfl)) (by decide) (t := .long) (t' := .long) (by decide) (by decide)))).other W485 (Or.inr (slot_ne (Or.inl (ow hw 42 rfl)) (Or.inl (ow hw 39 rfl)) (by decide) (t := .long) (t' := .int) (by decide) (by decide))))
  have f507 := (Fw481.other W485 (Or.inr (slot_ne (Or.inl (ow hw 44 rfl)) (Or.inl (ow hw 39 rfl)) (by decide) (t := .long) (t' := .int) (by decide) (by decide))))
  have f508 := ((((((V428.other W442 (Ne.symm ne439)).other W457 (Ne.symm ne439)).other W471 (Ne.symm ne467)).other W477 (Ne.symm ne382)).other W481 (Ne.symm ne382)).other W485 (Ne.symm ne382))
  have f509 := ((((V457.other W471 (Ne.symm ne468)).other W477 (Ne.symm ne447)).other W481 (Ne.symm ne447)).other W485 (Ne.symm ne447))
  have f510 := (((V471.other W477 (Ne.symm ne473)).other W481 (Ne.symm ne473)).other W485 (Ne.symm ne473))
  exact Go.done X485 Bd.notSynchronized (v := none) (fun _ => rfl) (fun fs hr => X485.returnOut hx Bd.returns (hc d4_129) hr) (by rw [e485]; exact ⟨rfl, N485, K485, ⟨f486, f487, f488, f489, f490, f491, f492, ⟨_, f497⟩, ⟨_, f502⟩, ⟨_, f505⟩⟩, Fw485, ⟨_, f506⟩, ⟨_, f507⟩, fun j hj => by
    have := own_j3 hj
    rcases this with rfl | rfl | rfl
    · exact ⟨_, f508⟩
    · exact ⟨_, f509⟩
    · exact ⟨_, f510⟩⟩) (by decide) (by decide)
def Q_rmCnt2 (Z : State) (ob b ln : Nat) (kl : ClassId) (pa pb ps_ : Int32) (ua ub us : Nat) (kf : Nat → Nat → Int32) (h0 : Heap) (n0 : Nat) (v : Option Value) (h : Heap) (L : List Loc) : Prop := v = none ∧ Fr n0 L ∧ Keep h0 h [ob, (b + 15), (b + 16), (b + 17)] ∧ own_O Z h ob b ps_ ∧ Fld Z h ob "com/example/tributary/tributary/join/LineCodes" "sinceHalved" "I" (.int 14) ∧ (∃ x : Int64, Fld Z h ob "com/example/tributary/tributary/join/LineCodes" "countedBytes" "J" (.long x)) ∧ (∃ x : Int64, Fld Z h ob "com/example/tributary/tributary/join/LineCodes" "countedLines" "J" (.long x)) ∧ own_RI Z h (b + 15) 3 (fun j => if j = 0 then (own_up (kf 0) us (((kf 0) us) + (1 : Int32))) else if j = 1 then (own_up (own_up (kf 1) ua (((kf 1) ua) + (1 : Int32))) us (((own_up (kf 1) ua (((kf 1) ua) + (1 : Int32))) us) + (1 : Int32))) else (own_up (own_up (own_up (kf 2) ub (((kf 2) ub) + (1 : Int32))) us (((own_up (kf 2) ub (((kf 2) ub) + (1 : Int32))) us) + (1 : Int32))) 256 (((own_up (own_up (kf 2) ub (((kf 2) ub) + (1 : Int32))) us (((own_up (kf 2) ub (((kf 2) ub) + (1 : Int32))) us) + (1 : Int32))) 256) + (1 : Int32))))
set_option maxRecDepth 65536 in
set_option maxHeartbeats 40000000 in
theorem rmCnt2 (l : Launch) (Z : State) (a0 : Array Value) (hw : ∀ d ∈ tables_1, d.before a0 Z = true) (ob b ln : Nat) (kl : ClassId) (pa pb ps_ : Int32) (ua ub us : Nat) (kf : Nat → Nat → Int32) (h0 : Heap) (n0 : Nat) (Z0 : n0 ≤ h0.size) (HO : own_O Z h0 ob b ps_) (Fsh : Fld Z h0 ob "com/example/tributary/tributary/join/LineCodes" "sinceHalved" "I" (.int 8)) (Fmt : (∃ x : Int64, Fld Z h0 ob "com/example/tributary/tributary/join/LineCodes" "countedBytes" "J" (.long x)) ∧ (∃ x : Int64, Fld Z h0 ob "com/example/tributary/tributary/join/LineCodes" "countedLines" "J" (.long x))) (RI : own_RI Z h0 (b + 15) 3 kf) (Vl : Arv Z h0 ln kl .byte (5 : Int32) [(.int ps_), (.int pa), (.int ps_), (.int pb), (.int ps_)] (.int 0)) (lob : ob < b) (lln : ln < ob) (g_ob : n0 ≤ ob) (hua : pa &&& (255 : Int32) = Int32.ofNat ua) (hub : pb &&& (255 : Int32) = Int32.ofNat ub) (hus : ps_ &&& (255 : Int32) = Int32.ofNat us) (lua : ua < 256) (lub : ub < 256) (lus : us < 256) (nas : ¬ pa = ps_) (nbs : ¬ pb = ps_) :
    MetFree l Y18 (head1 [Jvm.Cond.code Y18 prog_43_method_2_code 6 none] ({ frames := 0, cells := 0, slots := 0, locals := 0 } : Room)) (fun a U => a = #[(.ref ob), (.ref ln), (.int 0), (.int 5)] ∧ Z.Warmed39 U.vm ∧ U.heap = h0) (fun _ _ _ _ _ => True) (fun _ U o U' => ∃ v L, o = .returned v ∧ (Q_rmCnt2 Z ob b ln kl pa pb ps_ ua ub us kf h0 n0) v U'.heap L ∧ FrameEnd U o U' L ({ frames := 0, cells := 0, slots := 0, locals := 0 } : Room).cells ({ frames := 0, cells := 0, slots := 0, locals := 0 } : Room).slots) := by
  refine MetFree.of_bodySF (plainFor_of_name pn_81ef1d3) hisR ?_
  intro p e s m args below meth c s₁ Bd hml0 hP hK
  obtain ⟨rfl, hZ, hh⟩ := hP
  have hx := Bd.exec
  have hc : ∀ {pc : Nat} {r}, decode C4 pc = r → decode c.code pc = r := fun h2 => hb Bd.bytes h2
  have hml : c.maxLocals = 6 := hml0
  have hown : s.vm.findClass "com/example/tributary/tributary/join/LineCodes" = some m.cls := findClass_of_methodNamed Bd.named
  have hnm := (name_of_methodNamed Bd.named Bd.method).1
  have X0 : Stand p l e ({ frames := 0, cells := 0, slots := 0, locals := 0 } : Room) s m #[(.ref ob), (.ref ln), (.int 0), (.int 5)] below meth c s₁ [] 0 0 := Stand.of_body Bd
  have e0 : s₁.heap = h0 := by rw [← hh, Bd.state]; rfl
  have N0 := Fr.nil n0
  have K0 : Keep h0 h0 [ob, (b + 15), (b + 16), (b + 17)] := Keep.refl h0 [ob, (b + 15), (b + 16), (b + 17)]
  show Go p e below (s₁.setTop (entryFrame m #[(.ref ob), (.ref ln), (.int 0), (.int 5)] 6)) (EndN s (Q_rmCnt2 Z ob b ln kl pa pb ps_ ua ub us kf h0 n0) ({ frames := 0, cells := 0, slots := 0, locals := 0 } : Room).cells ({ frames := 0, cells := 0, slots := 0, locals := 0 } : Room).slots)
  refine Go.top (ef_4 m ob ln (0 : Int32) (5 : Int32)) ?_
  obtain ⟨Eo, Oc, Ot, Ok, Ow, Oo, Os, ⟨kC, VC⟩, ⟨kT, VT⟩, ⟨kK, VK⟩⟩ := id HO
  obtain ⟨⟨xb, FcB⟩, ⟨xl, FcL⟩⟩ := id Fmt
  obtain ⟨kr0, RR0⟩ := RI 0 (by omega)
  have RK0 : Arv Z h0 (b + 15) kr0 .int (257 : Int32) (own_ar (kf 0) 257) (.int 0) := RR0
  obtain ⟨kr1, RR1⟩ := RI 1 (by omega)
  have RK1 : Arv Z h0 (b + 16) kr1 .int (257 : Int32) (own_ar (kf 1) 257) (.int 0) := RR1
  obtain ⟨kr2, RR2⟩ := RI 2 (by omega)
  have RK2 : Arv Z h0 (b + 17) kr2 .int (257 : Int32) (own_ar (kf 2) 257) (.int 0) := RR2
  refine gAN X0 hx (hc d4_0) rfl (.refl 1) ?_
  refine gF X0 hx hZ hown (ow hw 38 rfl) Via.refl e0 Fsh (hc d4_1) (.refl 4) ?_
  intro T511 X511 e511
  refine gS 6 [(.int 1073741824), (.int 8)] (fun zt zk => X511.ldcInt hx hown (mvT hZ (ow hw 40 rfl)) (g := (mkF m 4 #[rv ob, rv ln, iv 0, iv 5, .unset, .unset] [(.int 8)])) rfl (hc d4_4) zt zk) ?_
  refine gLN X511 hx (hc d4_6) rfl (.refl 7) ?_
  refine gisub X511 hx (hc d4_7) (.refl 8) ?_
  rw [show ((1073741824 : Int32) - (5 : Int32)) = (1073741819 : Int32) by decide]
  refine gLN X511 hx (hc d4_8) rfl (.refl 9) ?_
  refine giadd X511 hx (hc d4_9) (.refl 10) ?_
  rw [show ((1073741819 : Int32) + (0 : Int32)) = (1073741819 : Int32) by decide]
  refine gC (z := 1) X511 hx (hc d4_10) rfl (.refl 11) ?_
  refine gisub X511 hx (hc d4_11) (.refl 12) ?_
  rw [show ((1073741819 : Int32) - (1 : Int32)) = (1073741818 : Int32) by decide]
  refine gJY (q := 19) X511 hx (hc d4_12) (flt (by decide)).2.2.2 (by decide) ?_
  refine gC (z := 0) X511 hx (hc d4_19) rfl (.refl 20) ?_
  refine gP 22 #[rv ob, rv ln, iv 0, iv 5, iv 0, .unset] [] (fun zt zk => XS.istore X511.here hx rfl (hc d4_20) rfl (l' := _) rfl zk) ?_
  refine gLN X511 hx (hc d4_22) rfl (.refl 23) ?_
  refine gP 25 #[rv ob, rv ln, iv 0, iv 5, iv 0, iv 0] [] (fun zt zk => XS.istore X511.here hx rfl (hc d4_23) rfl (l' := _) rfl zk) ?_
  refine gL X511 hx (hc d4_25) rfl (.refl 27) ?_
  refine gLN X511 hx (hc d4_27) rfl (.refl 28) ?_
  refine gJN X511 hx (hc d4_28) (tlt (by decide)).2.1 (.refl 31) ?_
  refine gAN X511 hx (hc d4_31) rfl (.refl 32) ?_
  refine gF X511 hx hZ hown (ow hw 24 rfl) Via.refl e511 Ok (hc d4_32) (.refl 35) ?_
  intro T512 X512 e512
  refine gL X512 hx (hc d4_35) rfl (.refl 37) ?_
  refine gRA X512 hx hZ e512 VK (.ref (b + 15)) ⟨by decide, by decide⟩ (own_xk0 b) (hc d4_37) (.refl 38) rfl ?_
  refine gAN X512 hx (hc d4_38) rfl (.refl 39) ?_
  refine gL X512 hx (hc d4_39) rfl (.refl 41) ?_
  refine gBA X512 hx hZ e512 Vl (.int ps_) ⟨by decide, by decide⟩ rfl (hc d4_41) (.refl 42) ?_
  refine gH (z := 255) X512 hx (hc d4_42) rfl (.refl 45) ?_
  refine giand X512 hx (hc d4_45) (.refl 46) ?_
  rw [hus]
  refine gS 47 [(.int (Int32.ofNat us)), (.ref (b + 15)), (.int (Int32.ofNat us)), (.ref (b + 15))] (fun zt zk => Jvm.Free.XT.dup2 X512.here hx rfl (hc d4_46) rfl rfl rfl zk) ?_
  refine gIA X512 hx hZ e512 RK0 (.int ((kf 0) us)) ⟨own_nn (by omega), (own_lt32 (n := 257) (by omega) (by omega)).mpr (by omega)⟩ (own_arg (kf 0) (by omega) (by omega) _) (hc d4_47) (.refl 48) ?_
  refine gC (z := 1) X512 hx (hc d4_48) rfl (.refl 49) ?_
  refine giadd X512 hx (hc d4_49) (.refl 50) ?_
  refine gSI X512 hx hZ e512 RK0 ⟨own_nn (by omega), (own_lt32 (n := 257) (by omega) (by omega)).mpr (by omega)⟩ us (own_clamp (by omega)) (by rw [own_arl]; omega) ((own_ar (kf 0) 257).set us (.int (((kf 0) us) + (1 : Int32)))) rfl (hc d4_50) (.refl 51) ?_
  intro T516 h516 X516 e516 W516 V516
  have K516 := K0.wr W516 (Or.inl (List.mem_of_getElem? (i := 1) rfl))
  have N516 := Fr.snoc X516 N0 (show n0 ≤ ((b + 15) : Nat) by omega)
  rw [own_ars (kf 0) (by omega)] at V516
  refine gAN X516 hx (hc d4_51) rfl (.refl 52) ?_
  refine gL X516 hx (hc d4_52) rfl (.refl 54) ?_
  have ne518 : (ln : Nat) ≠ (b + 15) := by omega
  have f519 := (Vl.other W516 ne518)
  refine gBA X516 hx hZ e516 f519 (.int ps_) ⟨by decide, by decide⟩ rfl (hc d4_54) (.refl 55) ?_
  refine gAN X516 hx (hc d4_55) rfl (.refl 56) ?_
  have ne521 : (ob : Nat) ≠ (b + 15) := by omega
  have f522 := (Os.other W516 (Or.inl ne521))
  refine gF X516 hx hZ hown (ow hw 31 rfl) Via.refl e516 f522 (hc d4_56) (.refl 59) ?_
  intro T523 X523 e523
  refine gJN X523 hx (hc d4_59) (teq rfl).2 (.refl 62) ?_
  refine gL X523 hx (hc d4_62) rfl (.refl 64) ?_
  refine gC (z := 2) X523 hx (hc d4_64) rfl (.refl 65) ?_
  refine gJN X523 hx (hc d4_65) (tlt (by decide)).2.1 (.refl 68) ?_
  refine gP 71 #[rv ob, rv ln, iv 0, iv 5, iv ((0 : Int32) + (1 : Int32)), iv 0] [] (fun zt zk => XS.iinc X523.here hx rfl (hc d4_68) rfl (l' := _) rfl zk) ?_
  rw [show ((0 : Int32) + (1 : Int32)) = (1 : Int32) by decide]
  refine gP 74 #[rv ob, rv ln, iv 0, iv 5, iv 1, iv ((0 : Int32) + (1 : Int32))] [] (fun zt zk => XS.iinc X523.here hx rfl (hc d4_71) rfl (l' := _) rfl zk) ?_
  rw [show ((0 : Int32) + (1 : Int32)) = (1 : Int32) by decide]
  refine gG (q := 25) X523 hx (hc d4_74) (by decide) ?_
  refine gL X523 hx (hc d4_25) rfl (.refl 27) ?_
  refine gLN X523 hx (hc d4_27) rfl (.refl 28) ?_
  refine gJN X523 hx (hc d4_28) (tlt (by decide)).2.1 (.refl 31) ?_
  refine gAN X523 hx (hc d4_31) rfl (.refl 32) ?_
  have f524 := (Ok.other W516 (Or.inl ne521))
  refine gF X523 hx hZ hown (ow hw 24 rfl) Via.refl e523 f524 (hc d4_32) (.refl 35) ?_
  intro T525 X525 e525
  refine gL X525 hx (hc d4_35) rfl (.refl 37) ?_
  have ne526 : ((b + 14) : Nat) ≠ (b + 15) := by omega
  have f527 := (VK.other W516 ne526)
  refine gRA X525 hx hZ e525 f527 (.ref (b + 16)) ⟨by decide, by decide⟩ (own_xk1 b) (hc d4_37) (.refl 38) rfl ?_
  refine gAN X525 hx (hc d4_38) rfl (.refl 39) ?_
  refine gL X525 hx (hc d4_39) rfl (.refl 41) ?_
  refine gBA X525 hx hZ e525 f519 (.int pa) ⟨by decide, by decide⟩ rfl (hc d4_41) (.refl 42) ?_
  refine gH (z := 255) X525 hx (hc d4_42) rfl (.refl 45) ?_
  refine giand X525 hx (hc d4_45) (.refl 46) ?_
  rw [hua]
  refine gS 47 [(.int (Int32.ofNat ua)), (.ref (b + 16)), (.int (Int32.ofNat ua)), (.ref (b + 16))] (fun zt zk => Jvm.Free.XT.dup2 X525.here hx rfl (hc d4_46) rfl rfl rfl zk) ?_
  have ne530 : ((b + 16) : Nat) ≠ (b + 15) := by omega
  have f531 := (RK1.other W516 ne530)
  refine gIA X525 hx hZ e525 f531 (.int ((kf 1) ua)) ⟨own_nn (by omega), (own_lt32 (n := 257) (by omega) (by omega)).mpr (by omega)⟩ (own_arg (kf 1) (by omega) (by omega) _) (hc d4_47) (.refl 48) ?_
  refine gC (z := 1) X525 hx (hc d4_48) rfl (.refl 49) ?_
  refine giadd X525 hx (hc d4_49) (.refl 50) ?_
  refine gSI X525 hx hZ e525 f531 ⟨own_nn (by omega), (own_lt32 (n := 257) (by omega) (by omega)).mpr (by omega)⟩ ua (own_clamp (by omega)) (by rw [own_arl]; omega) ((own_ar (kf 1) 257).set ua (.int (((kf 1) ua) + (1 : Int32)))) rfl (hc d4_50) (.refl 51) ?_
  intro T533 h533 X533 e533 W533 V533
  have K533 := K516.wr W533 (Or.inl (List.mem_of_getElem? (i := 2) rfl))
  have N533 := Fr.snoc X533 N516 (show n0 ≤ ((b + 16) : Nat) by omega)
  rw [own_ars (kf 1) (by omega)] at V533
  refine gAN X533 hx (hc d4_51) rfl (.refl 52) ?_
  refine gL X533 hx (hc d4_52) rfl (.refl 54) ?_
  have ne535 : (ln : Nat) ≠ (b + 16) := by omega
  have f536 := (f519.other W533 ne535)
  refine gBA X533 hx hZ e533 f536 (.int pa) ⟨by decide, by decide⟩ rfl (hc d4_54) (.refl 55) ?_
  refine gAN X533 hx (hc d4_55) rfl (.refl 56) ?_
  have ne538 : (ob : Nat) ≠ (b + 16) := by omega
  have f539 := (f522.other W533 (Or.inl ne538))
  refine gF X533 hx hZ hown (ow hw 31 rfl) Via.refl e533 f539 (hc d4_56) (.refl 59) ?_
  intro T540 X540 e540
  refine gJY (q := 71) X540 hx (hc d4_59) (feq nas).2 (by decide) ?_
  refine gP 74 #[rv ob, rv ln, iv 0, iv 5, iv 1, iv ((1 : Int32) + (1 : Int32))] [] (fun zt zk => XS.iinc X540.here hx rfl (hc d4_71) rfl (l' := _) rfl zk) ?_
  rw [show ((1 : Int32) + (1 : Int32)) = (2 : Int32) by decide]
  refine gG (q := 25) X540 hx (hc d4_74) (by decide) ?_
  refine gL X540 hx (hc d4_25) rfl (.refl 27) ?_
  refine gLN X540 hx (hc d4_27) rfl (.refl 28) ?_
  refine gJN X540 hx (hc d4_28) (tlt (by decide)).2.1 (.refl 31) ?_
  refine gAN X540 hx (hc d4_31) rfl (.refl 32) ?_
  have f541 := (f524.other W533 (Or.inl ne538))
  refine gF X540 hx hZ hown (ow hw 24 rfl) Via.refl e540 f541 (hc d4_32) (.refl 35) ?_
  intro T542 X542 e542
  refine gL X542 hx (hc d4_35) rfl (.refl 37) ?_
  have ne543 : ((b + 14) : Nat) ≠ (b + 16) := by omega
  have f544 := (f527.other W533 ne543)
  refine gRA X542 hx hZ e542 f544 (.ref (b + 16)) ⟨by decide, by decide⟩ (own_xk1 b) (hc d4_37) (.refl 38) rfl ?_
  refine gAN X542 hx (hc d4_38) rfl (.refl 39) ?_
  refine gL X542 hx (hc d4_39) rfl (.refl 41) ?_
  refine gBA X542 hx hZ e542 f536 (.int ps_) ⟨by decide, by decide⟩ rfl (hc d4_41) (.refl 42) ?_
  refine gH (z := 255) X542 hx (hc d4_42) rfl (.refl 45) ?_
  refine giand X542 hx (hc d4_45) (.refl 46) ?_
  rw [hus]
  refine gS 47 [(.int (Int32.ofNat us)), (.ref (b + 16)), (.int (Int32.ofNat us)), (.ref (b + 16))] (fun zt zk => Jvm.Free.XT.dup2 X542.here hx rfl (hc d4_46) rfl rfl rfl zk) ?_
  refine gIA X542 hx hZ e542 V533 (.int ((own_up (kf 1) ua (((kf 1) ua) + (1 : Int32))) us)) ⟨own_nn (by omega), (own_lt32 (n := 257) (by omega) (by omega)).mpr (by omega)⟩ (own_arg (own_up (kf 1) ua (((kf 1) ua) + (1 : Int32))) (by omega) (by omega) _) (hc d4_47) (.refl 48) ?_
  refine gC (z := 1) X542 hx (hc d4_48) rfl (.refl 49) ?_
  refine giadd X542 hx (hc d4_49) (.refl 50) ?_
  refine gSI X542 hx hZ e542 V533 ⟨own_nn (by omega), (own_lt32 (n := 257) (by omega) (by omega)).mpr (by omega)⟩ us (own_clamp (by omega)) (by rw [own_arl]; omega) ((own_ar (own_up (kf 1) ua (((kf 1) ua) + (1 : Int32))) 257).set us (.int (((own_up (kf 1) ua (((kf 1) ua) + (1 : Int32))) us) + (1 : Int32)))) rfl (hc d4_50) (.refl 51) ?_
  intro T548 h548 X548 e548 W548 V548
  have K548 := K533.wr W548 (Or.inl (List.mem_of_getElem? (i := 2) rfl))
  have N548 := Fr.snoc X548 N533 (show n0 ≤ ((b + 16) : Nat) by omega)
  rw [own_ars (own_up (kf 1) ua (((kf 1) ua) + (1 : Int32))) (by omega)] at V548
  refine gAN X548 hx (hc d4_51) rfl (.refl 52) ?_
  refine gL X548 hx (hc d4_52) rfl (.refl 54) ?_
  have f550 := (f536.other W548 ne535)
  refine gBA X548 hx hZ e548 f550 (.int ps_) ⟨by decide, by decide⟩ rfl (hc d4_54) (.refl 55) ?_
  refine gAN X548 hx (hc d4_55) rfl (.refl 56) ?_
  have f552 := (f539.other W548 (Or.inl ne538))
  refine gF X548 hx hZ hown (ow hw 31 rfl) Via.refl e548 f552 (hc d4_56) (.refl 59) ?_
  intro T553 X553 e553
  refine gJN X553 hx (hc d4_59) (teq rfl).2 (.refl 62) ?_
  refine gL X553 hx (hc d4_62) rfl (.refl 64) ?_
  refine gC (z := 2) X553 hx (hc d4_64) rfl (.refl 65) ?_
  refine gJN X553 hx (hc d4_65) (tlt (by decide)).2.1 (.refl 68) ?_
  refine gP 71 #[rv ob, rv ln, iv 0, iv 5, iv ((1 : Int32) + (1 : Int32)), iv 2] [] (fun zt zk => XS.iinc X553.here hx rfl (hc d4_68) rfl (l' := _) rfl zk) ?_
  rw [show ((1 : Int32) + (1 : Int32)) = (2 : Int32) by decide]
  refine gP 74 #[rv ob, rv ln, iv 0, iv 5, iv 2, iv ((2 : Int32) + (1 : Int32))] [] (fun zt zk => XS.iinc X553.here hx rfl (hc d4_71) rfl (l' := _) rfl zk) ?_
  rw [show ((2 : Int32) + (1 : Int32)) = (3 : Int32) by decide]
  refine gG (q := 25) X553 hx (hc d4_74) (by decide) ?_
  refine gL X553 hx (hc d4_25) rfl (.refl 27) ?_
  refine gLN X553 hx (hc d4_27) rfl (.refl 28) ?_
  refine gJN X553 hx (hc d4_28) (tlt (by decide)).2.1 (.refl 31) ?_
  refine gAN X553 hx (hc d4_31) rfl (.refl 32) ?_
  have f554 := (f541.other W548 (Or.inl ne538))
  refine gF X553 hx hZ hown (ow hw 24 rfl) Via.refl e553 f554 (hc d4_32) (.refl 35) ?_
  intro T555 X555 e555
  refine gL X555 hx (hc d4_35) rfl (.refl 37) ?_
  have f556 := (f544.other W548 ne543)
  refine gRA X555 hx hZ e555 f556 (.ref (b + 17)) ⟨by decide, by decide⟩ (own_xk2 b) (hc d4_37) (.refl 38) rfl ?_
  refine gAN X555 hx (hc d4_38) rfl (.refl 39) ?_
  refine gL X555 hx (hc d4_39) rfl (.refl 41) ?_
  refine gBA X555 hx hZ e555 f550 (.int pb) ⟨by decide, by decide⟩ rfl (hc d4_41) (.refl 42) ?_
  refine gH (z := 255) X555 hx (hc d4_42) rfl (.refl 45) ?_
  refine giand X555 hx (hc d4_45) (.refl 46) ?_
  rw [hub]
  refine gS 47 [(.int (Int32.ofNat ub)), (.ref (b + 17)), (.int (Int32.ofNat ub)), (.ref (b + 17))] (fun zt zk => Jvm.Free.XT.dup2 X555.here hx rfl (hc d4_46) rfl rfl rfl zk) ?_
  have ne559 : ((b + 17) : Nat) ≠ (b + 15) := by omega
  have ne560 : ((b + 17) : Nat) ≠ (b + 16) := by omega
  have f561 := (((RK2.other W516 ne559).other W533 ne560).other W548 ne560)
  refine gIA X555 hx hZ e555 f561 (.int ((kf 2) ub)) ⟨own_nn (by omega), (own_lt32 (n := 257) (by omega) (by omega)).mpr (by omega)⟩ (own_arg (kf 2) (by omega) (by omega) _) (hc d4_47) (.refl 48) ?_
  refine gC (z := 1) X555 hx (hc d4_48) rfl (.refl 49) ?_
  refine giadd X555 hx (hc d4_49) (.refl 50) ?_
  refine gSI X555 hx hZ e555 f561 ⟨own_nn (by omega), (own_lt32 (n := 257) (by omega) (by omega)).mpr (by omega)⟩ ub (own_clamp (by omega)) (by rw [own_arl]; omega) ((own_ar (kf 2) 257).set ub (.int (((kf 2) ub) + (1 : Int32)))) rfl (hc d4_50) (.refl 51) ?_
  intro T563 h563 X563 e563 W563 V563
  have K563 := K548.wr W563 (Or.inl (List.mem_of_getElem? (i := 3) rfl))
  have N563 := Fr.snoc X563 N548 (show n0 ≤ ((b + 17) : Nat) by omega)
  rw [own_ars (kf 2) (by omega)] at V563
  refine gAN X563 hx (hc d4_51) rfl (.refl 52) ?_
  refine gL X563 hx (hc d4_52) rfl (.refl 54) ?_
  have ne565 : (ln : Nat) ≠ (b + 17) := by omega
  have f566 := (f550.other W563 ne565)
  refine gBA X563 hx hZ e563 f566 (.int pb) ⟨by decide, by decide⟩ rfl (hc d4_54) (.refl 55) ?_
  refine gAN X563 hx (hc d4_55) rfl (.refl 56) ?_
  have ne568 : (ob : Nat) ≠ (b + 17) := by omega
  have f569 := (f552.other W563 (Or.inl ne568))
  refine gF X563 hx hZ hown (ow hw 31 rfl) Via.refl e563 f569 (hc d4_56) (.refl 59) ?_
  intro T570 X570 e570
  refine gJY (q := 71) X570 hx (hc d4_59) (feq nbs).2 (by decide) ?_
  refine gP 74 #[rv ob, rv ln, iv 0, iv 5, iv 2, iv ((3 : Int32) + (1 : Int32))] [] (fun zt zk => XS.iinc X570.here hx rfl (hc d4_71) rfl (l' := _) rfl zk) ?_
  rw [show ((3 : Int32) + (1 : Int32)) = (4 : Int32) by decide]
  refine gG (q := 25) X570 hx (hc d4_74) (by decide) ?_
  refine gL X570 hx (hc d4_25) rfl (.refl 27) ?_
  refine gLN X570 hx (hc d4_27) rfl (.refl 28) ?_
  refine gJN X570 hx (hc d4_28) (tlt (by decide)).2.1 (.refl 31) ?_
  refine gAN X570 hx (hc d4_31) rfl (.refl 32) ?_
  have f571 := (f554.other W563 (Or.inl ne568))
  refine gF X570 hx hZ hown (ow hw 24 rfl) Via.refl e570 f571 (hc d4_32) (.refl 35) ?_
  intro T572 X572 e572
  refine gL X572 hx (hc d4_35) rfl (.refl 37) ?_
  have ne573 : ((b + 14) : Nat) ≠ (b + 17) := by omega
  have f574 := (f556.other W563 ne573)
  refine gRA X572 hx hZ e572 f574 (.ref (b + 17)) ⟨by decide, by decide⟩ (own_xk2 b) (hc d4_37) (.refl 38) rfl ?_
  refine gAN X572 hx (hc d4_38) rfl (.refl 39) ?_
  refine gL X572 hx (hc d4_39) rfl (.refl 41) ?_
  refine gBA X572 hx hZ e572 f566 (.int ps_) ⟨by decide, by decide⟩ rfl (hc d4_41) (.refl 42) ?_
  refine gH (z := 255) X572 hx (hc d4_42) rfl (.refl 45) ?_
  refine giand X572 hx (hc d4_45) (.refl 46) ?_
  rw [hus]
  refine gS 47 [(.int (Int32.ofNat us)), (.ref (b + 17)), (.int (Int32.ofNat us)), (.ref (b + 17))] (fun zt zk => Jvm.Free.XT.dup2 X572.here hx rfl (hc d4_46) rfl rfl rfl zk) ?_
  refine gIA X572 hx hZ e572 V563 (.int ((own_up (kf 2) ub (((kf 2) ub) + (1 : Int32))) us)) ⟨own_nn (by omega), (own_lt32 (n := 257) (by omega) (by omega)).mpr (by omega)⟩ (own_arg (own_up (kf 2) ub (((kf 2) ub) + (1 : Int32))) (by omega) (by omega) _) (hc d4_47) (.refl 48) ?_
  refine gC (z := 1) X572 hx (hc d4_48) rfl (.refl 49) ?_
  refine giadd X572 hx (hc d4_49) (.refl 50) ?_
  refine gSI X572 hx hZ e572 V563 ⟨own_nn (by omega), (own_lt32 (n := 257) (by omega) (by omega)).mpr (by omega)⟩ us (own_clamp (by omega)) (by rw [own_arl]; omega) ((own_ar (own_up (kf 2) ub (((kf 2) ub) + (1 : Int32))) 257).set us (.int (((own_up (kf 2) ub (((kf 2) ub) + (1 : Int32))) us) + (1 : Int32)))) rfl (hc d4_50) (.refl 51) ?_
  intro T578 h578 X578 e578 W578 V578
  have K578 := K563.wr W578 (Or.inl (List.mem_of_getElem? (i := 3) rfl))
  have N578 := Fr.snoc X578 N563 (show n0 ≤ ((b + 17) : Nat) by omega)
  rw [own_ars (own_up (kf 2) ub (((kf 2) ub) + (1 : Int32))) (by omega)] at V578
  refine gAN X578 hx (hc d4_51) rfl (.refl 52) ?_
  refine gL X578 hx (hc d4_52) rfl (.refl 54) ?_
  have f580 := (f566.other W578 ne565)
  refine gBA X578 hx hZ e578 f580 (.int ps_) ⟨by decide, by decide⟩ rfl (hc d4_54) (.refl 55) ?_
  refine gAN X578 hx (hc d4_55) rfl (.refl 56) ?_
  have f582 := (f569.other W578 (Or.inl ne568))
  refine gF X578 hx hZ hown (ow hw 31 rfl) Via.refl e578 f582 (hc d4_56) (.refl 59) ?_
  intro T583 X583 e583
  refine gJN X583 hx (hc d4_59) (teq rfl).2 (.refl 62) ?_
  refine gL X583 hx (hc d4_62) rfl (.refl 64) ?_
  refine gC (z := 2) X583 hx (hc d4_64) rfl (.refl 65) ?_
  refine gJY (q := 71) X583 hx (hc d4_65) (flt (by decide)).2.1 (by decide) ?_
  refine gP 74 #[rv ob, rv ln, iv 0, iv 5, iv 2, iv ((4 : Int32) + (1 : Int32))] [] (fun zt zk => XS.iinc X583.here hx rfl (hc d4_71) rfl (l' := _) rfl zk) ?_
  rw [show ((4 : Int32) + (1 : Int32)) = (5 : Int32) by decide]
  refine gG (q := 25) X583 hx (hc d4_74) (by decide) ?_
  refine gL X583 hx (hc d4_25) rfl (.refl 27) ?_
  refine gLN X583 hx (hc d4_27) rfl (.refl 28) ?_
  refine gJY (q := 77) X583 hx (hc d4_28) (flt (by decide)).2.1 (by decide) ?_
  refine gAN X583 hx (hc d4_77) rfl (.refl 78) ?_
  have f584 := (f571.other W578 (Or.inl ne568))
  refine gF X583 hx hZ hown (ow hw 24 rfl) Via.refl e583 f584 (hc d4_78) (.refl 81) ?_
  intro T585 X585 e585
  refine gL X585 hx (hc d4_81) rfl (.refl 83) ?_
  have f586 := (f574.other W578 ne573)
  refine gRA X585 hx hZ e585 f586 (.ref (b + 17)) ⟨by decide, by decide⟩ (own_xk2 b) (hc d4_83) (.refl 84) rfl ?_
  refine gH (z := 256) X585 hx (hc d4_84) rfl (.refl 87) ?_
  show Go p e below (T585.setTop (mkF m 87 #[rv ob, rv ln, iv 0, iv 5, iv 2, iv 5] [(.int (Int32.ofNat 256)), (.ref (b + 17))])) (EndN s (Q_rmCnt2 Z ob b ln kl pa pb ps_ ua ub us kf h0 n0) ({ frames := 0, cells := 0, slots := 0, locals := 0 } : Room).cells ({ frames := 0, cells := 0, slots := 0, locals := 0 } : Room).slots)
  refine gS 88 [(.int (Int32.ofNat 256)), (.ref (b + 17)), (.int (Int32.ofNat 256)), (.ref (b + 17))] (fun zt zk => Jvm.Free.XT.dup2 X585.here hx rfl (hc d4_87) rfl rfl rfl zk) ?_
  refine gIA X585 hx hZ e585 V578 (.int ((own_up (own_up (kf 2) ub (((kf 2) ub) + (1 : Int32))) us (((own_up (kf 2) ub (((kf 2) ub) + (1 : Int32))) us) + (1 : Int32))) 256)) ⟨own_nn (by omega), (own_lt32 (n := 257) (by omega) (by omega)).mpr (by omega)⟩ (own_arg (own_up (own_up (kf 2) ub (((kf 2) ub) + (1 : Int32))) us (((own_up (kf 2) ub (((kf 2) ub) + (1 : Int32))) us) + (1 : Int32))) (by omega) (by omega) _) (hc d4_88) (.refl 89) ?_
  refine gC (z := 1) X585 hx (hc d4_89) rfl (.refl 90) ?_
  refine giadd X585 hx (hc d4_90) (.refl 91) ?_
  refine gSI X585 hx hZ e585 V578 ⟨own_nn (by omega), (own_lt32 (n := 257) (by omega) (by omega)).mpr (by omega)⟩ 256 (own_clamp (by omega)) (by rw [own_arl]; omega) ((own_ar (own_up (own_up (kf 2) ub (((kf 2) ub) + (1 : Int32))) us (((own_up (kf 2) ub (((kf 2) ub) + (1 : Int32))) us) + (1 : Int32))) 257).set 256 (.int (((own_up (own_up (kf 2) ub (((kf 2) ub) + (1 : Int32))) us (((own_up (kf 2) ub (((kf 2) ub) + (1 : Int32))) us) + (1 : Int32))) 256) + (1 : Int32)))) rfl (hc d4_91) (.refl 92) ?_
  intro T589 h589 X589 e589 W589 V589
  have K589 := K578.wr W589 (Or.inl (List.mem_of_getElem? (i := 3) rfl))
  have N589 := Fr.snoc X589 N578 (show n0 ≤ ((b + 17) : Nat) by omega)
  rw [own_ars (own_up (own_up (kf 2) ub (((kf 2) ub) + (1 : Int32))) us (((own_up (kf 2) ub (((kf 2) ub) + (1 : Int32))) us) + (1 : Int32))) (by omega)] at V589
  refine gAN X589 hx (hc d4_92) rfl (.refl 93) ?_
  refine gD X589 hx (hc d4_93) rfl (.refl 94) ?_
  have f591 := ((((((FcB.other W516 (Or.inl ne521)).other W533 (Or.inl ne538)).other W548 (Or.inl ne538)).other W563 (Or.inl ne568)).other W578 (Or.inl ne568)).other W589 (Or.inl ne568))
  refine gF X589 hx hZ hown (ow hw 41 rfl) Via.refl e589 f591 (hc d4_94) (.refl 97) ?_
  intro T592 X592 e592
  refine gLN X592 hx (hc d4_97) rfl (.refl 98) ?_
  refine gLN X592 hx (hc d4_98) rfl (.refl 99) ?_
  refine gisub X592 hx (hc d4_99) (.refl 100) ?_
  rw [show ((5 : Int32) - (0 : Int32)) = (5 : Int32) by decide]
  refine gS 101 [(.long ((5 : Int32).toInt64)), (.long xb), (.ref ob)] (fun zt zk => XS.i2l X592.here hx rfl (hc d4_100) rfl zk) ?_
  rw [show ((5 : Int32).toInt64) = (5 : Int64) by decide]
  refine gS 102 [(.long (xb + (5 : Int64))), (.ref ob)] (fun zt zk => XS.ladd X592.here hx rfl (hc d4_101) rfl zk) ?_
  have f593 := ((((((Eo.wr W516).wr W533).wr W548).wr W563).wr W578).wr W589)
  obtain ⟨T594, h594, X594, e594, W594, st594⟩ := putF X592 hx hZ hown (host := "") (Or.inl (ow hw 41 rfl)) Via.refl e592 f591 f593 (Or.inl (ow hw 42 rfl)) (ow hw 7 rfl) (ty := .long) (by decide) rfl rfl (g := (mkF m 102 #[rv ob, rv ln, iv 0, iv 5, iv 2, iv 5] [(.long (xb + (5 : Int64))), (.ref ob)])) rfl rfl (hc d4_102)
  have Fw594 : Fld Z h594 ob "com/example/tributary/tributary/join/LineCodes" "countedBytes" "J" (.long (xb + (5 : Int64))) := f591.same W594
  have K594 := K589.wr W594 (Or.inl (List.mem_of_getElem? (i := 0) rfl))
  have N594 := Fr.snoc X594 N589 g_ob
  refine gT T594 105 [] (fun zt zk => st594 zt zk) ?_
  refine gAN X594 hx (hc d4_105) rfl (.refl 106) ?_
  refine gD X594 hx (hc d4_106) rfl (.refl 107) ?_
  have f595 := (((((((FcL.other W516 (Or.inl ne521)).other W533 (Or.inl ne538)).other W548 (Or.inl ne538)).other W563 (Or.inl ne568)).other W578 (Or.inl ne568)).other W589 (Or.inl ne568)).other W594 (Or.inr (slot_ne (Or.inl (ow hw 44 rfl)) (Or.inl (ow hw 42 rfl)) (by decide) (t := .long) (t' := .long) (by decide) (by decide))))
  refine gF X594 hx hZ hown (ow hw 43 rfl) Via.refl e594 f595 (hc d4_107) (.refl 110) ?_
  intro T596 X596 e596
  refine gS 111 [(.long 1), (.long xl), (.ref ob)] (fun zt zk => XS.lconst X596.here hx rfl (hc d4_110) zk) ?_
  refine gS 112 [(.long (xl + (1 : Int64))), (.ref ob)] (fun zt zk => XS.ladd X596.here hx rfl (hc d4_111) rfl zk) ?_
  have f597 := (f593.wr W594)
  obtain ⟨T598, h598, X598, e598, W598, st598⟩ := putF X596 hx hZ hown (host := "") (Or.inl (ow hw 43 rfl)) Via.refl e596 f595 f597 (Or.inl (ow hw 44 rfl)) (ow hw 7 rfl) (ty := .long) (by decide) rfl rfl (g := (mkF m 112 #[rv ob, rv ln, iv 0, iv 5, iv 2, iv 5] [(.long (xl + (1 : Int64))), (.ref ob)])) rfl rfl (hc d4_112)
  have Fw598 : Fld Z h598 ob "com/example/tributary/tributary/join/LineCodes" "countedLines" "J" (.long (xl + (1 : Int64))) := f595.same W598
  have K598 := K594.wr W598 (Or.inl (List.mem_of_getElem? (i := 0) rfl))
  have N598 := Fr.snoc X598 N594 g_ob
  refine gT T598 115 [] (fun zt zk => st598 zt zk) ?_
  refine gAN X598 hx (hc d4_115) rfl (.refl 116) ?_
  refine gD X598 hx (hc d4_116) rfl (.refl 117) ?_
  have f599 := ((((((((Fsh.other W516 (Or.inl ne521)).other W533 (Or.inl ne538)).other W548 (Or.inl ne538)).other W563 (Or.inl ne568)).other W578 (Or.inl ne568)).other W589 (Or.inl ne568)).other W594 (Or.inr (slot_ne (Or.inl (ow hw 39 rfl)) (Or.inl (ow hw 42 rfl)) (by decide) (t := .int) (t' := .long) (by decide) (by decide)))).other W598 (Or.inr (slot_ne (Or.inl (ow hw 39 rfl)) (Or.inl (ow hw 44 rfl)) (by decide) (t := .int) (t' := .long) (by decide) (by decide))))
  refine gF X598 hx hZ hown (ow hw 38 rfl) Via.refl e598 f599 (hc d4_117) (.refl 120) ?_
  intro T600 X600 e600
  refine gLN X600 hx (hc d4_120) rfl (.refl 121) ?_
  refine gLN X600 hx (hc d4_121) rfl (.refl 122) ?_
  refine gisub X600 hx (hc d4_122) (.refl 123) ?_
  rw [show ((5 : Int32) - (0 : Int32)) = (5 : Int32) by decide]
  refine gC (z := 1) X600 hx (hc d4_123) rfl (.refl 124) ?_
  refine giadd X600 hx (hc d4_124) (.refl 125) ?_
  rw [show ((5 : Int32) + (1 : Int32)) = (6 : Int32) by decide]
  refine giadd X600 hx (hc d4_125) (.refl 126) ?_
  rw [show ((8 : Int32) + (6 : Int32)) = (14 : Int32) by decide]
  have f601 := (f597.wr W598)
  obtain ⟨T602, h602, X602, e602, W602, st602⟩ := putF X600 hx hZ hown (host := "") (Or.inl (ow hw 38 rfl)) Via.refl e600 f599 f601 (Or.inl (ow hw 39 rfl)) (ow hw 7 rfl) (ty := .int) (by decide) rfl rfl (g := (mkF m 126 #[rv ob, rv ln, iv 0, iv 5, iv 2, iv 5] [(.int 14), (.ref ob)])) rfl rfl (hc d4_126)
  have Fw602 : Fld Z h602 ob "com/example/tributary/tributary/join/LineCodes" "sinceHalved" "I" (.int 14) := f599.same W602
  have K602 := K598.wr W602 (Or.inl (List.mem_of_getElem? (i := 0) rfl))
  have N602 := Fr.snoc X602 N598 g_ob
  refine gT T602 129 [] (fun zt zk => st602 zt zk) ?_
  have f603 := (f601.wr W602)
  have f604 := (((((((((Oc.other W516 (Or.inl ne521)).other W533 (Or.inl ne538)).other W548 (Or.inl ne538)).other W563 (Or.inl ne568)).other W578 (Or.inl ne568)).other W589 (Or.inl ne568)).other W594 (Or.inr (slot_ne (Or.inr (ow hw 19 rfl)) (Or.inl (ow hw 42 rfl)) (by decide) (t := (.array (.array .short))) (t' := .long) (by decide) (by decide)))).other W598 (Or.inr (slot_ne (Or.inr (ow hw 19 rfl)) (Or.inl (ow hw 44 rfl)) (by decide) (t := (.array (.array .short))) (t' := .long) (by decide) (by decide)))).other W602 (Or.inr (slot_ne (Or.inr (ow hw 19 rfl)) (Or.inl (ow hw 39 rfl)) (by decide) (t := (.array (.array .short))) (t' := .int) (by decide) (by decide))))
  have f605 := (((((((((Ot.other W516 (Or.inl ne521)).other W533 (Or.inl ne538)).other W548 (Or.inl ne538)).other W563 (Or.inl ne568)).other W578 (Or.inl ne568)).other W589 (Or.inl ne568)).other W594 (Or.inr (slot_ne (Or.inr (ow hw 21 rfl)) (Or.inl (ow hw 42 rfl)) (by decide) (t := (.array (.array .short))) (t' := .long) (by decide) (by decide)))).other W598 (Or.inr (slot_ne (Or.inr (ow hw 21 rfl)) (Or.inl (ow hw 44 rfl)) (by decide) (t := (.array (.array .short))) (t' := .long) (by decide) (by decide)))).other W602 (Or.inr (slot_ne (Or.inr (ow hw 21 rfl)) (Or.inl (ow hw 39 rfl)) (by decide) (t := (.array (.array .short))) (t' := .int) (by decide) (by decide))))
  have f606 := ((((f584.other W589 (Or.inl ne568)).other W594 (Or.inr (slot_ne (Or.inr (ow hw 25 rfl)) (Or.inl (ow hw 42 rfl)) (by decide) (t := (.array (.array .int))) (t' := .long) (by decide) (by decide)))).other W598 (Or.inr (slot_ne (Or.inr (ow hw 25 rfl)) (Or.inl (ow hw 44 rfl)) (by decide) (t := (.array (.array .int))) (t' := .long) (by decide) (by decide)))).other W602 (Or.inr (slot_ne (Or.inr (ow hw 25 rfl)) (Or.inl (ow hw 39 rfl)) (by decide) (t := (.array (.array .int))) (t' := .int) (by decide) (by decide))))
  have f607 := (((((((((Ow.other W516 (Or.inl ne521)).other W533 (Or.inl ne538)).other W548 (Or.inl ne538)).other W563 (Or.inl ne568)).other W578 (Or.inl ne568)).other W589 (Or.inl ne568)).other W594 (Or.inr (slot_ne (Or.inr (ow hw 28 rfl)) (Or.inl (ow hw 42 rfl)) (by decide) (t := (.array .long)) (t' := .long) (by decide) (by decide)))).other W598 (Or.inr (slot_ne (Or.inr (ow hw 28 rfl)) (Or.inl (ow hw 44 rfl)) (by decide) (t := (.array .long)) (t' := .long) (by decide) (by decide)))).other W602 (Or.inr (slot_ne (Or.inr (ow hw 28 rfl)) (Or.inl (ow hw 39 rfl)) (by decide) (t := (.array .long)) (t' := .int) (by decide) (by decide))))
  have f608 := (((((((((Oo.other W516 (Or.inl ne521)).other W533 (Or.inl ne538)).other W548 (Or.inl ne538)).other W563 (Or.inl ne568)).other W578 (Or.inl ne568)).other W589 (Or.inl ne568)).other W594 (Or.inr (slot_ne (Or.inr (ow hw 30 rfl)) (Or.inl (ow hw 42 rfl)) (by decide) (t := (.array .short)) (t' := .long) (by decide) (by decide)))).other W598 (Or.inr (slot_ne (Or.inr (ow hw 30 rfl)) (Or.inl (ow hw 44 rfl)) (by decide) (t := (.array .short)) (t' := .long) (by decide) (by decide)))).other W602 (Or.inr (slot_ne (Or.inr (ow hw 30 rfl)) (Or.inl (ow hw 39 rfl)) (by decide) (t := (.array .short)) (t' := .int) (by decide) (by decide))))
  have f609 := ((((f582.other W589 (Or.inl ne568)).other W594 (Or.inr (slot_ne (Or.inr (ow hw 32 rfl)) (Or.inl (ow hw 42 rfl)) (by decide) (t := .byte) (t' := .long) (by decide) (by decide)))).other W598 (Or.inr (slot_ne (Or.inr (ow hw 32 rfl)) (Or.inl (ow hw 44 rfl)) (by decide) (t := .byte) (t' := .long) (by decide) (by decide)))).other W602 (Or.inr (slot_ne (Or.inr (ow hw 32 rfl)) (Or.inl (ow hw 39 rfl)) (by decide) (t := .byte) (t' := .int) (by decide) (by decide))))
  have ne610 : (b : Nat) ≠ (b + 15) := by omega
  have ne611 : (b : Nat) ≠ (b + 16) := by omega
  have ne612 : (b : Nat) ≠ (b + 17) := by omega
  have ne613 : (b : Nat) ≠ ob := by omega
  have f614 := (((((((((VC.other W516 ne610).other W533 ne611).other W548 ne611).other W563 ne612).other W578 ne612).other W589 ne612).other W594 ne613).other W598 ne613).other W602 ne613)
  have ne615 : ((b + 7) : Nat) ≠ (b + 15) := by omega
  have ne616 : ((b + 7) : Nat) ≠ (b + 16) := by omega
  have ne617 : ((b + 7) : Nat) ≠ (b + 17) := by omega
  have ne618 : ((b + 7) : Nat) ≠ ob := by omega
  have f619 := (((((((((VT.other W516 ne615).other W533 ne616).other W548 ne616).other W563 ne617).other W578 ne617).other W589 ne617).other W594 ne618).other W598 ne618).other W602 ne618)
  have ne620 : ((b + 14) : Nat) ≠ ob := by omega
  have f621 := ((((f586.other W589 ne573).other W594 ne620).other W598 ne620).other W602 ne620)
  have f622 := ((Fw594.other W598 (Or.inr (slot_ne (Or.inl (ow hw 42 rfl)) (Or.inl (ow hw 44 rfl)) (by decide) (t := .long) (t' := .long) (by decide) (by decide)))).other W602 (Or.inr (slot_ne (Or.inl (ow hw 42 rfl)) (Or.inl (ow hw 39 rfl)) (by decide) (t := .long) (t' := .int) (by decide) (by decide))))
  have f623 := (Fw598.other W602 (Or.inr (slot_ne (Or.inl (ow hw 44 rfl)) (Or.inl (ow hw 39 rfl)) (by decide) (t := .long) (t' := .int) (by decide) (by decide))))
  have f624 := ((((((((V516.other W533 (Ne.symm ne530)).other W548 (Ne.symm ne530)).other W563 (Ne.symm ne559)).other W578 (Ne.symm ne559)).other W589 (Ne.symm ne559)).other W594 (Ne.symm ne521)).other W598 (Ne.symm ne521)).other W602 (Ne.symm ne521))
  have f625 := ((((((V548.other W563 (Ne.symm ne560)).other W578 (Ne.symm ne560)).other W589 (Ne.symm ne560)).other W594 (Ne.symm ne538)).other W598 (Ne.symm ne538)).other W602 (Ne.symm ne538))
  have f626 := (((V589.other W594 (Ne.symm ne568)).other W598 (Ne.symm ne568)).other W602 (Ne.symm ne568))
  exact Go.done X602 Bd.notSynchronized (v := none) (fun _ => rfl) (fun fs hr => X602.returnOut hx Bd.returns (hc d4_129) hr) (by rw [e602]; exact ⟨rfl, N602, K602, ⟨f603, f604, f605, f606, f607, f608, f609, ⟨_, f614⟩, ⟨_, f619⟩, ⟨_, f621⟩⟩, Fw602, ⟨_, f622⟩, ⟨_, f623⟩, fun j hj => by
    have := own_j3 hj
    rcases this with rfl | rfl | rfl
    · exact ⟨_, f624⟩
    · exact ⟨_, f625⟩
    · exact ⟨_, f626⟩⟩) (by decide) (by decide)
def Q_rmCnt3 (Z : State) (ob b ln : Nat) (kl : ClassId) (pa pb ps_ : Int32) (ua ub us : Nat) (kf : Nat → Nat → Int32) (h0 : Heap) (n0 : Nat) (v : Option Value) (h : Heap) (L : List Loc) : Prop := v = none ∧ Fr n0 L ∧ Keep h0 h [ob, (b + 15), (b + 16), (b + 17)] ∧ own_O Z h ob b ps_ ∧ Fld Z h ob "com/example/tributary/tributary/join/LineCodes" "sinceHalved" "I" (.int 16) ∧ (∃ x : Int64, Fld Z h ob "com/example/tributary/tributary/join/LineCodes" "countedBytes" "J" (.long x)) ∧ (∃ x : Int64, Fld Z h ob "com/example/tributary/tributary/join/LineCodes" "countedLines" "J" (.long x)) ∧ own_RI Z h (b + 15) 3 (fun j => if j = 0 then (own_up (own_up (kf 0) ub (((kf 0) ub) + (1 : Int32))) 256 (((own_up (kf 0) ub (((kf 0) ub) + (1 : Int32))) 256) + (1 : Int32))) else if j = 1 then (kf 1) else (kf 2))
set_option maxRecDepth 65536 in
set_option maxHeartbeats 40000000 in
theorem rmCnt3 (l : Launch) (Z : State) (a0 : Array Value) (hw : ∀ d ∈ tables_1, d.before a0 Z = true) (ob b ln : Nat) (kl : ClassId) (pa pb ps_ : Int32) (ua ub us : Nat) (kf : Nat → Nat → Int32) (h0 : Heap) (n0 : Nat) (Z0 : n0 ≤ h0.size) (HO : own_O Z h0 ob b ps_) (Fsh : Fld Z h0 ob "com/example/tributary/tributary/join/LineCodes" "sinceHalved" "I" (.int 14)) (Fmt : (∃ x : Int64, Fld Z h0 ob "com/example/tributary/tributary/join/LineCodes" "countedBytes" "J" (.long x)) ∧ (∃ x : Int64, Fld Z h0 ob "com/example/tributary/tributary/join/LineCodes" "countedLines" "J" (.long x))) (RI : own_RI Z h0 (b + 15) 3 kf) (Vl : Arv Z h0 ln kl .byte (1 : Int32) [(.int pb)] (.int 0)) (lob : ob < b) (lln : ln < ob) (g_ob : n0 ≤ ob) (hua : pa &&& (255 : Int32) = Int32.ofNat ua) (hub : pb &&& (255 : Int32) = Int32.ofNat ub) (hus : ps_ &&& (255 : Int32) = Int32.ofNat us) (lua : ua < 256) (lub : ub < 256) (lus : us < 256) (nas : ¬ pa = ps_) (nbs : ¬ pb = ps_) :
    MetFree l Y18 (head1 [Jvm.Cond.code Y18 prog_43_method_2_code 6 none] ({ frames := 0, cells := 0, slots := 0, locals := 0 } : Room)) (fun a U => a = #[(.ref ob), (.ref ln), (.int 0), (.int 1)] ∧ Z.Warmed39 U.vm ∧ U.heap = h0) (fun _ _ _ _ _ => True) (fun _ U o U' => ∃ v L, o = .returned v ∧ (Q_rmCnt3 Z ob b ln kl pa pb ps_ ua ub us kf h0 n0) v U'.heap L ∧ FrameEnd U o U' L ({ frames := 0, cells := 0, slots := 0, locals := 0 } : Room).cells ({ frames := 0, cells := 0, slots := 0, locals := 0 } : Room).slots) := by
  refine MetFree.of_bodySF (plainFor_of_name pn_81ef1d3) hisR ?_
  intro p e s m args below meth c s₁ Bd hml0 hP hK
  obtain ⟨rfl, hZ, hh⟩ := hP
  have hx := Bd.exec
  have hc : ∀ {pc : Nat} {r}, decode C4 pc = r → decode c.code pc = r := fun h2 => hb Bd.bytes h2
  have hml : c.maxLocals = 6 := hml0
  have hown : s.vm.findClass "com/example/tributary/tributary/join/LineCodes" = some m.cls := findClass_of_methodNamed Bd.named
  have hnm := (name_of_methodNamed Bd.named Bd.method).1
  have X0 : Stand p l e ({ frames := 0, cells := 0, slots := 0, locals := 0 } : Room) s m #[(.ref ob), (.ref ln), (.int 0), (.int 1)] below meth c s₁ [] 0 0 := Stand.of_body Bd
  have e0 : s₁.heap = h0 := by rw [← hh, Bd.state]; rfl
  have N0 := Fr.nil n0
  have K0 : Keep h0 h0 [ob, (b + 15), (b + 16), (b + 17)] := Keep.refl h0 [ob, (b + 15), (b + 16), (b + 17)]
  show Go p e below (s₁.setTop (entryFrame m #[(.ref ob), (.ref ln), (.int 0), (.int 1)] 6)) (EndN s (Q_rmCnt3 Z ob b ln kl pa pb ps_ ua ub us kf h0 n0) ({ frames := 0, cells := 0, slots := 0, locals := 0 } : Room).cells ({ frames := 0, cells := 0, slots := 0, locals := 0 } : Room).slots)
  refine Go.top (ef_4 m ob ln (0 : Int32) (1 : Int32)) ?_
  obtain ⟨Eo, Oc, Ot, Ok, Ow, Oo, Os, ⟨kC, VC⟩, ⟨kT, VT⟩, ⟨kK, VK⟩⟩ := id HO
  obtain ⟨⟨xb, FcB⟩, ⟨xl, FcL⟩⟩ := id Fmt
  obtain ⟨kr0, RR0⟩ := RI 0 (by omega)
  have RK0 : Arv Z h0 (b + 15) kr0 .int (257 : Int32) (own_ar (kf 0) 257) (.int 0) := RR0
  obtain ⟨kr1, RR1⟩ := RI 1 (by omega)
  have RK1 : Arv Z h0 (b + 16) kr1 .int (257 : Int32) (own_ar (kf 1) 257) (.int 0) := RR1
  obtain ⟨kr2, RR2⟩ := RI 2 (by omega)
  have RK2 : Arv Z h0 (b + 17) kr2 .int (257 : Int32) (own_ar (kf 2) 257) (.int 0) := RR2
  refine gAN X0 hx (hc d4_0) rfl (.refl 1) ?_
  refine gF X0 hx hZ hown (ow hw 38 rfl) Via.refl e0 Fsh (hc d4_1) (.refl 4) ?_
  intro T627 X627 e627
  refine gS 6 [(.int 1073741824), (.int 14)] (fun zt zk => X627.ldcInt hx hown (mvT hZ (ow hw 40 rfl)) (g := (mkF m 4 #[rv ob, rv ln, iv 0, iv 1, .unset, .unset] [(.int 14)])) rfl (hc d4_4) zt zk) ?_
  refine gLN X627 hx (hc d4_6) rfl (.refl 7) ?_
  refine gisub X627 hx (hc d4_7) (.refl 8) ?_
  rw [show ((1073741824 : Int32) - (1 : Int32)) = (1073741823 : Int32) by decide]
  refine gLN X627 hx (hc d4_8) rfl (.refl 9) ?_
  refine giadd X627 hx (hc d4_9) (.refl 10) ?_
  rw [show ((1073741823 : Int32) + (0 : Int32)) = (1073741823 : Int32) by decide]
  refine gC (z := 1) X627 hx (hc d4_10) rfl (.refl 11) ?_
  refine gisub X627 hx (hc d4_11) (.refl 12) ?_
  rw [show ((1073741823 : Int32) - (1 : Int32)) = (1073741822 : Int32) by decide]
  refine gJY (q := 19) X627 hx (hc d4_12) (flt (by decide)).2.2.2 (by decide) ?_
  refine gC (z := 0) X627 hx (hc d4_19) rfl (.refl 20) ?_
  refine gP 22 #[rv ob, rv ln, iv 0, iv 1, iv 0, .unset] [] (fun zt zk => XS.istore X627.here hx rfl (hc d4_20) rfl (l' := _) rfl zk) ?_
  refine gLN X627 hx (hc d4_22) rfl (.refl 23) ?_
  refine gP 25 #[rv ob, rv ln, iv 0, iv 1, iv 0, iv 0] [] (fun zt zk => XS.istore X627.here hx rfl (hc d4_23) rfl (l' := _) rfl zk) ?_
  refine gL X627 hx (hc d4_25) rfl (.refl 27) ?_
  refine gLN X627 hx (hc d4_27) rfl (.refl 28) ?_
  refine gJN X627 hx (hc d4_28) (tlt (by decide)).2.1 (.refl 31) ?_
  refine gAN X627 hx (hc d4_31) rfl (.refl 32) ?_
  refine gF X627 hx hZ hown (ow hw 24 rfl) Via.refl e627 Ok (hc d4_32) (.refl 35) ?_
  intro T628 X628 e628
  refine gL X628 hx (hc d4_35) rfl (.refl 37) ?_
  refine gRA X628 hx hZ e628 VK (.ref (b + 15)) ⟨by decide, by decide⟩ (own_xk0 b) (hc d4_37) (.refl 38) rfl ?_
  refine gAN X628 hx (hc d4_38) rfl (.refl 39) ?_
  refine gL X628 hx (hc d4_39) rfl (.refl 41) ?_
  refine gBA X628 hx hZ e628 Vl (.int pb) ⟨by decide, by decide⟩ rfl (hc d4_41) (.refl 42) ?_
  refine gH (z := 255) X628 hx (hc d4_42) rfl (.refl 45) ?_
  refine giand X628 hx (hc d4_45) (.refl 46) ?_
  rw [hub]
  refine gS 47 [(.int (Int32.ofNat ub)), (.ref (b + 15)), (.int (Int32.ofNat ub)), (.ref (b + 15))] (fun zt zk => Jvm.Free.XT.dup2 X628.here hx rfl (hc d4_46) rfl rfl rfl zk) ?_
  refine gIA X628 hx hZ e628 RK0 (.int ((kf 0) ub)) ⟨own_nn (by omega), (own_lt32 (n := 257) (by omega) (by omega)).mpr (by omega)⟩ (own_arg (kf 0) (by omega) (by omega) _) (hc d4_47) (.refl 48) ?_
  refine gC (z := 1) X628 hx (hc d4_48) rfl (.refl 49) ?_
  refine giadd X628 hx (hc d4_49) (.refl 50) ?_
  refine gSI X628 hx hZ e628 RK0 ⟨own_nn (by omega), (own_lt32 (n := 257) (by omega) (by omega)).mpr (by omega)⟩ ub (own_clamp (by omega)) (by rw [own_arl]; omega) ((own_ar (kf 0) 257).set ub (.int (((kf 0) ub) + (1 : Int32)))) rfl (hc d4_50) (.refl 51) ?_
  intro T632 h632 X632 e632 W632 V632
  have K632 := K0.wr W632 (Or.inl (List.mem_of_getElem? (i := 1) rfl))
  have N632 := Fr.snoc X632 N0 (show n0 ≤ ((b + 15) : Nat) by omega)
  rw [own_ars (kf 0) (by omega)] at V632
  refine gAN X632 hx (hc d4_51) rfl (.refl 52) ?_
  refine gL X632 hx (hc d4_52) rfl (.refl 54) ?_
  have ne634 : (ln : Nat) ≠ (b + 15) := by omega
  have f635 := (Vl.other W632 ne634)
  refine gBA X632 hx hZ e632 f635 (.int pb) ⟨by decide, by decide⟩ rfl (hc d4_54) (.refl 55) ?_
  refine gAN X632 hx (hc d4_55) rfl (.refl 56) ?_
  have ne637 : (ob : Nat) ≠ (b + 15) := by omega
  have f638 := (Os.other W632 (Or.inl ne637))
  refine gF X632 hx hZ hown (ow hw 31 rfl) Via.refl e632 f638 (hc d4_56) (.refl 59) ?_
  intro T639 X639 e639
  refine gJY (q := 71) X639 hx (hc d4_59) (feq nbs).2 (by decide) ?_
  refine gP 74 #[rv ob, rv ln, iv 0, iv 1, iv 0, iv ((0 : Int32) + (1 : Int32))] [] (fun zt zk => XS.iinc X639.here hx rfl (hc d4_71) rfl (l' := _) rfl zk) ?_
  rw [show ((0 : Int32) + (1 : Int32)) = (1 : Int32) by decide]
  refine gG (q := 25) X639 hx (hc d4_74) (by decide) ?_
  refine gL X639 hx (hc d4_25) rfl (.refl 27) ?_
  refine gLN X639 hx (hc d4_27) rfl (.refl 28) ?_
  refine gJY (q := 77) X639 hx (hc d4_28) (flt (by decide)).2.1 (by decide) ?_
  refine gAN X639 hx (hc d4_77) rfl (.refl 78) ?_
  have f640 := (Ok.other W632 (Or.inl ne637))
  refine gF X639 hx hZ hown (ow hw 24 rfl) Via.refl e639 f640 (hc d4_78) (.refl 81) ?_
  intro T641 X641 e641
  refine gL X641 hx (hc d4_81) rfl (.refl 83) ?_
  have ne642 : ((b + 14) : Nat) ≠ (b + 15) := by omega
  have f643 := (VK.other W632 ne642)
  refine gRA X641 hx hZ e641 f643 (.ref (b + 15)) ⟨by decide, by decide⟩ (own_xk0 b) (hc d4_83) (.refl 84) rfl ?_
  refine gH (z := 256) X641 hx (hc d4_84) rfl (.refl 87) ?_
  show Go p e below (T641.setTop (mkF m 87 #[rv ob, rv ln, iv 0, iv 1, iv 0, iv 1] [(.int (Int32.ofNat 256)), (.ref (b + 15))])) (EndN s (Q_rmCnt3 Z ob b ln kl pa pb ps_ ua ub us kf h0 n0) ({ frames := 0, cells := 0, slots := 0, locals := 0 } : Room).cells ({ frames := 0, cells := 0, slots := 0, locals := 0 } : Room).slots)
  refine gS 88 [(.int (Int32.ofNat 256)), (.ref (b + 15)), (.int (Int32.ofNat 256)), (.ref (b + 15))] (fun zt zk => Jvm.Free.XT.dup2 X641.here hx rfl (hc d4_87) rfl rfl rfl zk) ?_
  refine gIA X641 hx hZ e641 V632 (.int ((own_up (kf 0) ub (((kf 0) ub) + (1 : Int32))) 256)) ⟨own_nn (by omega), (own_lt32 (n := 257) (by omega) (by omega)).mpr (by omega)⟩ (own_arg (own_up (kf 0) ub (((kf 0) ub) + (1 : Int32))) (by omega) (by omega) _) (hc d4_88) (.refl 89) ?_
  refine gC (z := 1) X641 hx (hc d4_89) rfl (.refl 90) ?_
  refine giadd X641 hx (hc d4_90) (.refl 91) ?_
  refine gSI X641 hx hZ e641 V632 ⟨own_nn (by omega), (own_lt32 (n := 257) (by omega) (by omega)).mpr (by omega)⟩ 256 (own_clamp (by omega)) (by rw [own_arl]; omega) ((own_ar (own_up (kf 0) ub (((kf 0) ub) + (1 : Int32))) 257).set 256 (.int (((own_up (kf 0) ub (((kf 0) ub) + (1 : Int32))) 256) + (1 : Int32)))) rfl (hc d4_91) (.refl 92) ?_
  intro T646 h646 X646 e646 W646 V646
  have K646 := K632.wr W646 (Or.inl (List.mem_of_getElem? (i := 1) rfl))
  have N646 := Fr.snoc X646 N632 (show n0 ≤ ((b + 15) : Nat) by omega)
  rw [own_ars (own_up (kf 0) ub (((kf 0) ub) + (1 : Int32))) (by omega)] at V646
  refine gAN X646 hx (hc d4_92) rfl (.refl 93) ?_
  refine gD X646 hx (hc d4_93) rfl (.refl 94) ?_
  have f648 := ((FcB.other W632 (Or.inl ne637)).other W646 (Or.inl ne637))
  refine gF X646 hx hZ hown (ow hw 41 rfl) Via.refl e646 f648 (hc d4_94) (.refl 97) ?_
  intro T649 X649 e649
  refine gLN X649 hx (hc d4_97) rfl (.refl 98) ?_
  refine gLN X649 hx (hc d4_98) rfl (.refl 99) ?_
  refine gisub X649 hx (hc d4_99) (.refl 100) ?_
  rw [show ((1 : Int32) - (0 : Int32)) = (1 : Int32) by decide]
  refine gS 101 [(.long ((1 : Int32).toInt64)), (.long xb), (.ref ob)] (fun zt zk => XS.i2l X649.here hx rfl (hc d4_100) rfl zk) ?_
  rw [show ((1 : Int32).toInt64) = (1 : Int64) by decide]
  refine gS 102 [(.long (xb + (1 : Int64))), (.ref ob)] (fun zt zk => XS.ladd X649.here hx rfl (hc d4_101) rfl zk) ?_
  have f650 := ((Eo.wr W632).wr W646)
  obtain ⟨T651, h651, X651, e651, W651, st651⟩ := putF X649 hx hZ hown (host := "") (Or.inl (ow hw 41 rfl)) Via.refl e649 f648 f650 (Or.inl (ow hw 42 rfl)) (ow hw 7 rfl) (ty := .long) (by decide) rfl rfl (g := (mkF m 102 #[rv ob, rv ln, iv 0, iv 1, iv 0, iv 1] [(.long (xb + (1 : Int64))), (.ref ob)])) rfl rfl (hc d4_102)
  have Fw651 : Fld Z h651 ob "com/example/tributary/tributary/join/LineCodes" "countedBytes" "J" (.long (xb + (1 : Int64))) := f648.same W651
  have K651 := K646.wr W651 (Or.inl (List.mem_of_getElem? (i := 0) rfl))
  have N651 := Fr.snoc X651 N646 g_ob
  refine gT T651 105 [] (fun zt zk => st651 zt zk) ?_
  refine gAN X651 hx (hc d4_105) rfl (.refl 106) ?_
  refine gD X651 hx (hc d4_106) rfl (.refl 107) ?_
  have f652 := (((FcL.other W632 (Or.inl ne637)).other W646 (Or.inl ne637)).other W651 (Or.inr (slot_ne (Or.inl (ow hw 44 rfl)) (Or.inl (ow hw 42 rfl)) (by decide) (t := .long) (t' := .long) (by decide) (by decide))))
  refine gF X651 hx hZ hown (ow hw 43 rfl) Via.refl e651 f652 (hc d4_107) (.refl 110) ?_
  intro T653 X653 e653
  refine gS 111 [(.long 1), (.long xl), (.ref ob)] (fun zt zk => XS.lconst X653.here hx rfl (hc d4_110) zk) ?_
  refine gS 112 [(.long (xl + (1 : Int64))), (.ref ob)] (fun zt zk => XS.ladd X653.here hx rfl (hc d4_111) rfl zk) ?_
  have f654 := (f650.wr W651)
  obtain ⟨T655, h655, X655, e655, W655, st655⟩ := putF X653 hx hZ hown (host := "") (Or.inl (ow hw 43 rfl)) Via.refl e653 f652 f654 (Or.inl (ow hw 44 rfl)) (ow hw 7 rfl) (ty := .long) (by decide) rfl rfl (g := (mkF m 112 #[rv ob, rv ln, iv 0, iv 1, iv 0, iv 1] [(.long (xl + (1 : Int64))), (.ref ob)])) rfl rfl (hc d4_112)
  have Fw655 : Fld Z h655 ob "com/example/tributary/tributary/join/LineCodes" "countedLines" "J" (.long (xl + (1 : Int64))) := f652.same W655
  have K655 := K651.wr W655 (Or.inl (List.mem_of_getElem? (i := 0) rfl))
  have N655 := Fr.snoc X655 N651 g_ob
  refine gT T655 115 [] (fun zt zk => st655 zt zk) ?_
  refine gAN X655 hx (hc d4_115) rfl (.refl 116) ?_
  refine gD X655 hx (hc d4_116) rfl (.refl 117) ?_
  have f656 := ((((Fsh.other W632 (Or.inl ne637)).other W646 (Or.inl ne637)).other W651 (Or.inr (slot_ne (Or.inl (ow hw 39 rfl)) (Or.inl (ow hw 42 rfl)) (by decide) (t := .int) (t' := .long) (by decide) (by decide)))).other W655 (Or.inr (slot_ne (Or.inl (ow hw 39 rfl)) (Or.inl (ow hw 44 rfl)) (by decide) (t := .int) (t' := .long) (by decide) (by decide))))
  refine gF X655 hx hZ hown (ow hw 38 rfl) Via.refl e655 f656 (hc d4_117) (.refl 120) ?_
  intro T657 X657 e657
  refine gLN X657 hx (hc d4_120) rfl (.refl 121) ?_
  refine gLN X657 hx (hc d4_121) rfl (.refl 122) ?_
  refine gisub X657 hx (hc d4_122) (.refl 123) ?_
  rw [show ((1 : Int32) - (0 : Int32)) = (1 : Int32) by decide]
  refine gC (z := 1) X657 hx (hc d4_123) rfl (.refl 124) ?_
  refine giadd X657 hx (hc d4_124) (.refl 125) ?_
  rw [show ((1 : Int32) + (1 : Int32)) = (2 : Int32) by decide]
  refine giadd X657 hx (hc d4_125) (.refl 126) ?_
  rw [show ((14 : Int32) + (2 : Int32)) = (16 : Int32) by decide]
  have f658 := (f654.wr W655)
  obtain ⟨T659, h659, X659, e659, W659, st659⟩ := putF X657 hx hZ hown (host := "") (Or.inl (ow hw 38 rfl)) Via.refl e657 f656 f658 (Or.inl (ow hw 39 rfl)) (ow hw 7 rfl) (ty := .int) (by decide) rfl rfl (g := (mkF m 126 #[rv ob, rv ln, iv 0, iv 1, iv 0, iv 1] [(.int 16), (.ref ob)])) rfl rfl (hc d4_126)
  have Fw659 : Fld Z h659 ob "com/example/tributary/tributary/join/LineCodes" "sinceHalved" "I" (.int 16) := f656.same W659
  have K659 := K655.wr W659 (Or.inl (List.mem_of_getElem? (i := 0) rfl))
  have N659 := Fr.snoc X659 N655 g_ob
  refine gT T659 129 [] (fun zt zk => st659 zt zk) ?_
  have f660 := (f658.wr W659)
  have f661 := (((((Oc.other W632 (Or.inl ne637)).other W646 (Or.inl ne637)).other W651 (Or.inr (slot_ne (Or.inr (ow hw 19 rfl)) (Or.inl (ow hw 42 rfl)) (by decide) (t := (.array (.array .short))) (t' := .long) (by decide) (by decide)))).other W655 (Or.inr (slot_ne (Or.inr (ow hw 19 rfl)) (Or.inl (ow hw 44 rfl)) (by decide) (t := (.array (.array .short))) (t' := .long) (by decide) (by decide)))).other W659 (Or.inr (slot_ne (Or.inr (ow hw 19 rfl)) (Or.inl (ow hw 39 rfl)) (by decide) (t := (.array (.array .short))) (t' := .int) (by decide) (by decide))))
  have f662 := (((((Ot.other W632 (Or.inl ne637)).other W646 (Or.inl ne637)).other W651 (Or.inr (slot_ne (Or.inr (ow hw 21 rfl)) (Or.inl (ow hw 42 rfl)) (by decide) (t := (.array (.array .short))) (t' := .long) (by decide) (by decide)))).other W655 (Or.inr (slot_ne (Or.inr (ow hw 21 rfl)) (Or.inl (ow hw 44 rfl)) (by decide) (t := (.array (.array .short))) (t' := .long) (by decide) (by decide)))).other W659 (Or.inr (slot_ne (Or.inr (ow hw 21 rfl)) (Or.inl (ow hw 39 rfl)) (by decide) (t := (.array (.array .short))) (t' := .int) (by decide) (by decide))))
  have f663 := ((((f640.other W646 (Or.inl ne637)).other W651 (Or.inr (slot_ne (Or.inr (ow hw 25 rfl)) (Or.inl (ow hw 42 rfl)) (by decide) (t := (.array (.array .int))) (t' := .long) (by decide) (by decide)))).other W655 (Or.inr (slot_ne (Or.inr (ow hw 25 rfl)) (Or.inl (ow hw 44 rfl)) (by decide) (t := (.array (.array .int))) (t' := .long) (by decide) (by decide)))).other W659 (Or.inr (slot_ne (Or.inr (ow hw 25 rfl)) (Or.inl (ow hw 39 rfl)) (by decide) (t := (.array (.array .int))) (t' := .int) (by decide) (by decide))))
  have f664 := (((((Ow.other W632 (Or.inl ne637)).other W646 (Or.inl ne637)).other W651 (Or.inr (slot_ne (Or.inr (ow hw 28 rfl)) (Or.inl (ow hw 42 rfl)) (by decide) (t := (.array .long)) (t' := .long) (by decide) (by decide)))).other W655 (Or.inr (slot_ne (Or.inr (ow hw 28 rfl)) (Or.inl (ow hw 44 rfl)) (by decide) (t := (.array .long)) (t' := .long) (by decide) (by decide)))).other W659 (Or.inr (slot_ne (Or.inr (ow hw 28 rfl)) (Or.inl (ow hw 39 rfl)) (by decide) (t := (.array .long)) (t' := .int) (by decide) (by decide))))
  have f665 := (((((Oo.other W632 (Or.inl ne637)).other W646 (Or.inl ne637)).other W651 (Or.inr (slot_ne (Or.inr (ow hw 30 rfl)) (Or.inl (ow hw 42 rfl)) (by decide) (t := (.array .short)) (t' := .long) (by decide) (by decide)))).other W655 (Or.inr (slot_ne (Or.inr (ow hw 30 rfl)) (Or.inl (ow hw 44 rfl)) (by decide) (t := (.array .short)) (t' := .long) (by decide) (by decide)))).other W659 (Or.inr (slot_ne (Or.inr (ow hw 30 rfl)) (Or.inl (ow hw 39 rfl)) (by decide) (t := (.array .short)) (t' := .int) (by decide) (by decide))))
  have f666 := ((((f638.other W646 (Or.inl ne637)).other W651 (Or.inr (slot_ne (Or.inr (ow hw 32 rfl)) (Or.inl (ow hw 42 rfl)) (by decide) (t := .byte) (t' := .long) (by decide) (by decide)))).other W655 (Or.inr (slot_ne (Or.inr (ow hw 32 rfl)) (Or.inl (ow hw 44 rfl)) (by decide) (t := .byte) (t' := .long) (by decide) (by decide)))).other W659 (Or.inr (slot_ne (Or.inr (ow hw 32 rfl)) (Or.inl (ow hw 39 rfl)) (by decide) (t := .byte) (t' := .int) (by decide) (by decide))))
  have ne667 : (b : Nat) ≠ (b + 15) := by omega
  have ne668 : (b : Nat) ≠ ob := by omega
  have f669 := (((((VC.other W632 ne667).other W646 ne667).other W651 ne668).other W655 ne668).other W659 ne668)
  have ne670 : ((b + 7) : Nat) ≠ (b + 15) := by omega
  have ne671 : ((b + 7) : Nat) ≠ ob := by omega
  have f672 := (((((VT.other W632 ne670).other W646 ne670).other W651 ne671).other W655 ne671).other W659 ne671)
  have ne673 : ((b + 14) : Nat) ≠ ob := by omega
  have f674 := ((((f643.other W646 ne642).other W651 ne673).other W655 ne673).other W659 ne673)
  have f675 := ((Fw651.other W655 (Or.inr (slot_ne (Or.inl (ow hw 42 rfl)) (Or.inl (ow hw 44 rfl)) (by decide) (t := .long) (t' := .long) (by decide) (by decide)))).other W659 (Or.inr (slot_ne (Or.inl (ow hw 42 rfl)) (Or.inl (ow hw 39 rfl)) (by decide) (t := .long) (t' := .int) (by decide) (by decide))))
  have f676 := (Fw655.other W659 (Or.inr (slot_ne (Or.inl (ow hw 44 rfl)) (Or.inl (ow hw 39 rfl)) (by decide) (t := .long) (t' := .int) (by decide) (by decide))))
  have f677 := (((V646.other W651 (Ne.symm ne637)).other W655 (Ne.symm ne637)).other W659 (Ne.symm ne637))
  have ne678 : ((b + 16) : Nat) ≠ (b + 15) := by omega
  have ne679 : ((b + 16) : Nat) ≠ ob := by omega
  have f680 := (((((RK1.other W632 ne678).other W646 ne678).other W651 ne679).other W655 ne679).other W659 ne679)
  have ne681 : ((b + 17) : Nat) ≠ (b + 15) := by omega
  have ne682 : ((b + 17) : Nat) ≠ ob := by omega
  have f683 := (((((RK2.other W632 ne681).other W646 ne681).other W651 ne682).other W655 ne682).other W659 ne682)
  exact Go.done X659 Bd.notSynchronized (v := none) (fun _ => rfl) (fun fs hr => X659.returnOut hx Bd.returns (hc d4_129) hr) (by rw [e659]; exact ⟨rfl, N659, K659, ⟨f660, f661, f662, f663, f664, f665, f666, ⟨_, f669⟩, ⟨_, f672⟩, ⟨_, f674⟩⟩, Fw659, ⟨_, f675⟩, ⟨_, f676⟩, fun j hj => by
    have := own_j3 hj
    rcases this with rfl | rfl | rfl
    · exact ⟨_, f677⟩
    · exact ⟨_, f680⟩
    · exact ⟨_, f683⟩⟩) (by decide) (by decide)
abbrev C20 : ByteArray := prog_43_method_7_code
theorem d20_0 : decode C20 0 = .ok (.aload_n 0, 1) := by decide +kernel
theorem d20_1 : decode C20 1 = .ok (.getfield 25, 3) := by decide +kernel
theorem d20_4 : decode C20 4 = .ok (.astore_n 1, 1) := by decide +kernel
theorem d20_5 : decode C20 5 = .ok (.aload_n 1, 1) := by decide +kernel
theorem d20_6 : decode C20 6 = .ok (.arraylength, 1) := by decide +kernel
theorem d20_7 : decode C20 7 = .ok (.istore_n 2, 1) := by decide +kernel
theorem d20_8 : decode C20 8 = .ok (.iconst 0, 1) := by decide +kernel
theorem d20_9 : decode C20 9 = .ok (.istore_n 3, 1) := by decide +kernel
theorem d20_10 : decode C20 10 = .ok (.iload_n 3, 1) := by decide +kernel
theorem d20_11 : decode C20 11 = .ok (.iload_n 2, 1) := by decide +kernel
theorem d20_12 : decode C20 12 = .ok (.if_icmp .ge 40, 3) := by decide +kernel
theorem d20_15 : decode C20 15 = .ok (.aload_n 1, 1) := by decide +kernel
theorem d20_16 : decode C20 16 = .ok (.iload_n 3, 1) := by decide +kernel
theorem d20_17 : decode C20 17 = .ok (.aaload, 1) := by decide +kernel
theorem d20_18 : decode C20 18 = .ok (.astore 4, 2) := by decide +kernel
theorem d20_20 : decode C20 20 = .ok (.iconst 0, 1) := by decide +kernel
theorem d20_21 : decode C20 21 = .ok (.istore 5, 2) := by decide +kernel
theorem d20_23 : decode C20 23 = .ok (.iload 5, 2) := by decide +kernel
theorem d20_25 : decode C20 25 = .ok (.sipush 257, 3) := by decide +kernel
theorem d20_28 : decode C20 28 = .ok (.if_icmp .ge 18, 3) := by decide +kernel
theorem d20_31 : decode C20 31 = .ok (.aload 4, 2) := by decide +kernel
theorem d20_33 : decode C20 33 = .ok (.iload 5, 2) := by decide +kernel
theorem d20_35 : decode C20 35 = .ok (.dup2, 1) := by decide +kernel
theorem d20_36 : decode C20 36 = .ok (.iaload, 1) := by decide +kernel
theorem d20_37 : decode C20 37 = .ok (.iconst 1, 1) := by decide +kernel
theorem d20_38 : decode C20 38 = .ok (.iushr, 1) := by decide +kernel
theorem d20_39 : decode C20 39 = .ok (.iastore, 1) := by decide +kernel
theorem d20_40 : decode C20 40 = .ok (.iinc 5 1, 3) := by decide +kernel
theorem d20_43 : decode C20 43 = .ok (.goto (-20), 3) := by decide +kernel
theorem d20_46 : decode C20 46 = .ok (.iinc 3 1, 3) := by decide +kernel
theorem d20_49 : decode C20 49 = .ok (.goto (-39), 3) := by decide +kernel
theorem d20_52 : decode C20 52 = .ok (.aload_n 0, 1) := by decide +kernel
theorem d20_53 : decode C20 53 = .ok (.iconst 0, 1) := by decide +kernel
theorem d20_54 : decode C20 54 = .ok (.putfield 40, 3) := by decide +kernel
theorem d20_57 : decode C20 57 = .ok (.return_, 1) := by decide +kernel
theorem ef_20 (m : MethodId) (x0 : Addr) : entryFrame m #[(.ref x0)] 6 = mkF m 0 #[.val (.ref x0), .unset, .unset, .unset, .unset, .unset] [] := by first | (simp [entryFrame, mkF, argsToLocals, Value.category]; done) | rfl
def Q_rmHv (Z : State) (ob b : Nat) (ps_ : Int32) (kf : Nat → Nat → Int32) (h0 : Heap) (n0 : Nat) (v : Option Value) (h : Heap) (L : List Loc) : Prop := v = none ∧ Fr n0 L ∧ Keep h0 h [ob, (b + 15), (b + 16), (b + 17)] ∧ own_O Z h ob b ps_ ∧ (∃ x : Int64, Fld Z h ob "com/example/tributary/tributary/join/LineCodes" "countedBytes" "J" (.long x)) ∧ (∃ x : Int64, Fld Z h ob "com/example/tributary/tributary/join/LineCodes" "countedLines" "J" (.long x))
set_option maxRecDepth 65536 in
set_option maxHeartbeats 40000000 in
theorem rmHv (l : Launch) (Z : State) (a0 : Array Value) (hw : ∀ d ∈ tables_1, d.before a0 Z = true) (ob b : Nat) (ps_ : Int32) (kf : Nat → Nat → Int32) (h0 : Heap) (n0 : Nat) (Z0 : n0 ≤ h0.size) (HO : own_O Z h0 ob b ps_) (Fsh : ∃ z : Int32, Fld Z h0 ob "com/example/tributary/tributary/join/LineCodes" "sinceHalved" "I" (.int z)) (Fmt : (∃ x : Int64, Fld Z h0 ob "com/example/tributary/tributary/join/LineCodes" "countedBytes" "J" (.long x)) ∧ (∃ x : Int64, Fld Z h0 ob "com/example/tributary/tributary/join/LineCodes" "countedLines" "J" (.long x))) (RI : own_RI Z h0 (b + 15) 3 kf) (lob : ob < b) (g_ob : n0 ≤ ob) :
    MetFree l Y19 (head1 [Jvm.Cond.code Y19 prog_43_method_7_code 6 none] ({ frames := 0, cells := 0, slots := 0, locals := 0 } : Room)) (fun a U => a = #[(.ref ob)] ∧ Z.Warmed39 U.vm ∧ U.heap = h0) (fun _ _ _ _ _ => True) (fun _ U o U' => ∃ v L, o = .returned v ∧ (Q_rmHv Z ob b ps_ kf h0 n0) v U'.heap L ∧ FrameEnd U o U' L ({ frames := 0, cells := 0, slots := 0, locals := 0 } : Room).cells ({ frames := 0, cells := 0, slots := 0, locals := 0 } : Room).slots) := by
  refine MetFree.of_bodySF (plainFor_of_name pn_81ef1d3) hisR ?_
  intro p e s m args below meth c s₁ Bd hml0 hP hK
  obtain ⟨rfl, hZ, hh⟩ := hP
  have hx := Bd.exec
  have hc : ∀ {pc : Nat} {r}, decode C20 pc = r → decode c.code pc = r := fun h2 => hb Bd.bytes h2
  have hml : c.maxLocals = 6 := hml0
  have hown : s.vm.findClass "com/example/tributary/tributary/join/LineCodes" = some m.cls := findClass_of_methodNamed Bd.named
  have hnm := (name_of_methodNamed Bd.named Bd.method).1
  have X0 : Stand p l e ({ frames := 0, cells := 0, slots := 0, locals := 0 } : Room) s m #[(.ref ob)] below meth c s₁ [] 0 0 := Stand.of_body Bd
  have e0 : s₁.heap = h0 := by rw [← hh, Bd.state]; rfl
  have N0 := Fr.nil n0
  have K0 : Keep h0 h0 [ob, (b + 15), (b + 16), (b + 17)] := Keep.refl h0 [ob, (b + 15), (b + 16), (b + 17)]
  show Go p e below (s₁.setTop (entryFrame m #[(.ref ob)] 6)) (EndN s (Q_rmHv Z ob b ps_ kf h0 n0) ({ frames := 0, cells := 0, slots := 0, locals := 0 } : Room).cells ({ frames := 0, cells := 0, slots := 0, locals := 0 } : Room).slots)
  refine Go.top (ef_20 m ob) ?_
  obtain ⟨Eo, Oc, Ot, Ok, Ow, Oo, Os, ⟨kC, VC⟩, ⟨kT, VT⟩, ⟨kK, VK⟩⟩ := id HO
  obtain ⟨⟨xb, FcB⟩, ⟨xl, FcL⟩⟩ := id Fmt
  obtain ⟨zs, Fsh2⟩ := id Fsh
  obtain ⟨kr0, RR0⟩ := RI 0 (by omega)
  have RK0 : Arv Z h0 (b + 15) kr0 .int (257 : Int32) (own_ar (kf 0) 257) (.int 0) := RR0
  obtain ⟨kr1, RR1⟩ := RI 1 (by omega)
  have RK1 : Arv Z h0 (b + 16) kr1 .int (257 : Int32) (own_ar (kf 1) 257) (.int 0) := RR1
  obtain ⟨kr2, RR2⟩ := RI 2 (by omega)
  have RK2 : Arv Z h0 (b + 17) kr2 .int (257 : Int32) (own_ar (kf 2) 257) (.int 0) := RR2
  refine gAN X0 hx (hc d20_0) rfl (.refl 1) ?_
  refine gF X0 hx hZ hown (ow hw 24 rfl) Via.refl e0 Ok (hc d20_1) (.refl 4) ?_
  intro T684 X684 e684
  refine gP 5 #[rv ob, rv (b + 14), .unset, .unset, .unset, .unset] [] (fun zt zk => XS.astoreN X684.here hx rfl (hc d20_4) rfl rfl (l' := _) rfl zk) ?_
  refine gAN X684 hx (hc d20_5) rfl (.refl 6) ?_
  obtain ⟨cl685, Ar685, -, S685, M685, -, -⟩ := id VK
  refine Go.st (T' := T684.setTop (mkF m 7 #[rv ob, rv (b + 14), .unset, .unset, .unset, .unset] [(.int 3)])) (fun zt zk => X684.arraylength hx (by rw [e684]; exact Ar685.1) (State.isArrayOf_alike hZ.alike Ar685.2.1) (g := (mkF m 6 #[rv ob, rv (b + 14), .unset, .unset, .unset, .unset] [(.ref (b + 14))])) rfl rfl (hc d20_6) zt (by rw [len_of S685 M685]; exact zk)) ?_
  refine gP 8 #[rv ob, rv (b + 14), iv 3, .unset, .unset, .unset] [] (fun zt zk => XS.istoreN X684.here hx rfl (hc d20_7) rfl (l' := _) rfl zk) ?_
  refine gC (z := 0) X684 hx (hc d20_8) rfl (.refl 9) ?_
  refine gP 10 #[rv ob, rv (b + 14), iv 3, iv 0, .unset, .unset] [] (fun zt zk => XS.istoreN X684.here hx rfl (hc d20_9) rfl (l' := _) rfl zk) ?_
  refine gLN X684 hx (hc d20_10) rfl (.refl 11) ?_
  refine gLN X684 hx (hc d20_11) rfl (.refl 12) ?_
  refine gJN X684 hx (hc d20_12) (tlt (by decide)).2.1 (.refl 15) ?_
  refine gAN X684 hx (hc d20_15) rfl (.refl 16) ?_
  refine gLN X684 hx (hc d20_16) rfl (.refl 17) ?_
  refine gRA X684 hx hZ e684 VK (.ref (b + 15)) ⟨by decide, by decide⟩ (own_xk0 b) (hc d20_17) (.refl 18) rfl ?_
  refine gP 20 #[rv ob, rv (b + 14), iv 3, iv 0, rv (b + 15), .unset] [] (fun zt zk => XS.astore X684.here hx rfl (hc d20_18) rfl rfl (l' := _) rfl zk) ?_
  refine gC (z := 0) X684 hx (hc d20_20) rfl (.refl 21) ?_
  refine gP 23 #[rv ob, rv (b + 14), iv 3, iv 0, rv (b + 15), iv 0] [] (fun zt zk => XS.istore X684.here hx rfl (hc d20_21) rfl (l' := _) rfl zk) ?_
  suffices cont687 : ∀ (TL : State) (hL : Heap) (LL : List Loc) (z5 : Int32) (f : Nat → Int32), Stand p l e ({ frames := 0, cells := 0, slots := 0, locals := 0 } : Room) s m #[(.ref ob)] below meth c TL LL 0 0 → TL.heap = hL → Fr n0 LL → Keep h0 hL [ob, (b + 15), (b + 16), (b + 17)] → Keep h0 hL [(b + 15)] → Arv Z hL (b + 15) kr0 .int (257 : Int32) (own_ar f 257) (.int 0) → Go p e below (TL.setTop (mkF m 46 #[rv ob, rv (b + 14), iv 3, iv 0, rv (b + 15), iv z5] [])) (EndN s (Q_rmHv Z ob b ps_ kf h0 n0) ({ frames := 0, cells := 0, slots := 0, locals := 0 } : Room).cells ({ frames := 0, cells := 0, slots := 0, locals := 0 } : Room).slots) by
   suffices loop : ∀ (r : Nat), r ≤ 257 → ∀ (TL : State) (hL : Heap) (LL : List Loc) (f : Nat → Int32), Stand p l e ({ frames := 0, cells := 0, slots := 0, locals := 0 } : Room) s m #[(.ref ob)] below meth c TL LL 0 0 → TL.heap = hL → Fr n0 LL → Keep h0 hL [ob, (b + 15), (b + 16), (b + 17)] → Keep h0 hL [(b + 15)] → Arv Z hL (b + 15) kr0 .int (257 : Int32) (own_ar f 257) (.int 0) → Go p e below (TL.setTop (mkF m 23 #[rv ob, rv (b + 14), iv 3, iv 0, rv (b + 15), iv (Int32.ofNat (257 - r))] [])) (EndN s (Q_rmHv Z ob b ps_ kf h0 n0) ({ frames := 0, cells := 0, slots := 0, locals := 0 } : Room).cells ({ frames := 0, cells := 0, slots := 0, locals := 0 } : Room).slots) by
     exact loop 257 (Nat.le_refl _) T684 _ _ _ X684 e684 N0 K0 (Keep.refl _ _) RK0
   intro r
   induction r with
   | zero =>
    intro hr TL hL LL f XL eL NL KL KB VL
    refine gL XL hx (hc d20_23) rfl (.refl 25) ?_
    refine gH (z := 257) XL hx (hc d20_25) rfl (.refl 28) ?_
    refine gJY (q := 46) XL hx (hc d20_28) (flt (fun q => absurd ((own_lt32 (n := 257) (by omega) (by omega)).mp q) (by omega))).2.1 (by decide) ?_
    exact cont687 _ _ _ _ _ XL eL NL KL KB VL
   | succ r ih =>
    intro hr TL hL LL f XL eL NL KL KB VL
    obtain ⟨i, hi⟩ : ∃ i, i = 257 - (r + 1) := ⟨_, rfl⟩
    rw [← hi]
    refine gL XL hx (hc d20_23) rfl (.refl 25) ?_
    refine gH (z := 257) XL hx (hc d20_25) rfl (.refl 28) ?_
    refine gJN XL hx (hc d20_28) (tlt ((own_lt32 (n := 257) (by omega) (by omega)).mpr (by omega))).2.1 (.refl 31) ?_
    refine gA XL hx (hc d20_31) rfl (.refl 33) ?_
    refine gL XL hx (hc d20_33) rfl (.refl 35) ?_
    refine gS 36 [(.int (Int32.ofNat i)), (.ref (b + 15)), (.int (Int32.ofNat i)), (.ref (b + 15))] (fun zt zk => Jvm.Free.XT.dup2 XL.here hx rfl (hc d20_35) rfl rfl rfl zk) ?_
    refine gIA XL hx hZ eL VL (.int (f i)) ⟨own_nn (by omega), (own_lt32 (n := 257) (by omega) (by omega)).mpr (by omega)⟩ (own_arg f (by omega) (by omega) _) (hc d20_36) (.refl 37) ?_
    refine gC (z := 1) XL hx (hc d20_37) rfl (.refl 38) ?_
    refine gS 39 [(.int (((f i).toUInt32 >>> ((1 : Int32) &&& 31).toUInt32).toInt32)), (.int (Int32.ofNat i)), (.ref (b + 15))] (fun zt zk => XS.iushr XL.here hx rfl (hc d20_38) rfl zk) ?_
    refine gSI XL hx hZ eL VL ⟨own_nn (by omega), (own_lt32 (n := 257) (by omega) (by omega)).mpr (by omega)⟩ i (own_clamp (by omega)) (by rw [own_arl]; omega) ((own_ar f 257).set i (.int (((f i).toUInt32 >>> ((1 : Int32) &&& 31).toUInt32).toInt32))) rfl (hc d20_39) (.refl 40) ?_
    intro T689 h689 X689 e689 W689 V689
    have K689 := KL.wr W689 (Or.inl (List.mem_of_getElem? (i := 1) rfl))
    have N689 := Fr.snoc X689 NL (show n0 ≤ ((b + 15) : Nat) by omega)
    rw [own_ars f (by omega)] at V689
    refine gP 43 #[rv ob, rv (b + 14), iv 3, iv 0, rv (b + 15), iv ((Int32.ofNat i) + (1 : Int32))] [] (fun zt zk => XS.iinc X689.here hx rfl (hc d20_40) rfl (l' := _) rfl zk) ?_
    rw [own_addn (k := (1 : Int32)) (b := 1) rfl (by omega), show i + 1 = 257 - r by omega]
    refine gG (q := 23) X689 hx (hc d20_43) (by decide) ?_
    exact ih (by omega) _ _ _ _ X689 e689 N689 K689 (KB.wr W689 (Or.inl (List.mem_of_getElem? (i := 0) rfl))) V689
  intro TL687 hL687 LL687 z5 f687_ XL687 eL687 NL687 KL687 KB687 VL687
  refine gP 49 #[rv ob, rv (b + 14), iv 3, iv ((0 : Int32) + (1 : Int32)), rv (b + 15), iv z5] [] (fun zt zk => XS.iinc XL687.here hx rfl (hc d20_46) rfl (l' := _) rfl zk) ?_
  rw [show ((0 : Int32) + (1 : Int32)) = (1 : Int32) by decide]
  refine gG (q := 10) XL687 hx (hc d20_49) (by decide) ?_
  refine gLN XL687 hx (hc d20_10) rfl (.refl 11) ?_
  refine gLN XL687 hx (hc d20_11) rfl (.refl 12) ?_
  refine gJN XL687 hx (hc d20_12) (tlt (by decide)).2.1 (.refl 15) ?_
  refine gAN XL687 hx (hc d20_15) rfl (.refl 16) ?_
  refine gLN XL687 hx (hc d20_16) rfl (.refl 17) ?_
  have ne691 : ((b + 14) : Nat) ≠ (b + 15) := by omega
  have f692 := (VK.keep KB687 (ninS ne691 nin0))
  refine gRA XL687 hx hZ eL687 f692 (.ref (b + 16)) ⟨by decide, by decide⟩ (own_xk1 b) (hc d20_17) (.refl 18) rfl ?_
  refine gP 20 #[rv ob, rv (b + 14), iv 3, iv 1, rv (b + 16), iv z5] [] (fun zt zk => XS.astore XL687.here hx rfl (hc d20_18) rfl rfl (l' := _) rfl zk) ?_
  refine gC (z := 0) XL687 hx (hc d20_20) rfl (.refl 21) ?_
  refine gP 23 #[rv ob, rv (b + 14), iv 3, iv 1, rv (b + 16), iv 0] [] (fun zt zk => XS.istore XL687.here hx rfl (hc d20_21) rfl (l' := _) rfl zk) ?_
  have ne695 : ((b + 16) : Nat) ≠ (b + 15) := by omega
  have f696 := (RK1.keep KB687 (ninS ne695 nin0))
  have f697 := (Eo.keep KB687)
  have ne698 : (ob : Nat) ≠ (b + 15) := by omega
  have f699 := (Oc.keep KB687 (ninS ne698 nin0))
  have f700 := (Ot.keep KB687 (ninS ne698 nin0))
  have f701 := (Ok.keep KB687 (ninS ne698 nin0))
  have f702 := (Ow.keep KB687 (ninS ne698 nin0))
  have f703 := (Oo.keep KB687 (ninS ne698 nin0))
  have f704 := (Os.keep KB687 (ninS ne698 nin0))
  have ne705 : (b : Nat) ≠ (b + 15) := by omega
  have f706 := (VC.keep KB687 (ninS ne705 nin0))
  have ne707 : ((b + 7) : Nat) ≠ (b + 15) := by omega
  have f708 := (VT.keep KB687 (ninS ne707 nin0))
  have f709 := (Fsh2.keep KB687 (ninS ne698 nin0))
  have f710 := (FcB.keep KB687 (ninS ne698 nin0))
  have f711 := (FcL.keep KB687 (ninS ne698 nin0))
  have ne712 : ((b + 17) : Nat) ≠ (b + 15) := by omega
  have f713 := (RK2.keep KB687 (ninS ne712 nin0))
  suffices cont694 : ∀ (TL : State) (hL : Heap) (LL : List Loc) (z5 : Int32) (f : Nat → Int32), Stand p l e ({ frames := 0, cells := 0, slots := 0, locals := 0 } : Room) s m #[(.ref ob)] below meth c TL LL 0 0 → TL.heap = hL → Fr n0 LL → Keep h0 hL [ob, (b + 15), (b + 16), (b + 17)] → Keep hL687 hL [(b + 16)] → Arv Z hL (b + 16) kr1 .int (257 : Int32) (own_ar f 257) (.int 0) → Go p e below (TL.setTop (mkF m 46 #[rv ob, rv (b + 14), iv 3, iv 1, rv (b + 16), iv z5] [])) (EndN s (Q_rmHv Z ob b ps_ kf h0 n0) ({ frames := 0, cells := 0, slots := 0, locals := 0 } : Room).cells ({ frames := 0, cells := 0, slots := 0, locals := 0 } : Room).slots) by
   suffices loop : ∀ (r : Nat), r ≤ 257 → ∀ (TL : State) (hL : Heap) (LL : List Loc) (f : Nat → Int32), Stand p l e ({ frames := 0, cells := 0, slots := 0, locals := 0 } : Room) s m #[(.ref ob)] below meth c TL LL 0 0 → TL.heap = hL → Fr n0 LL → Keep h0 hL [ob, (b + 15), (b + 16), (b + 17)] → Keep hL687 hL [(b + 16)] → Arv Z hL (b + 16) kr1 .int (257 : Int32) (own_ar f 257) (.int 0) → Go p e below (TL.setTop (mkF m 23 #[rv ob, rv (b + 14), iv 3, iv 1, rv (b + 16), iv (Int32.ofNat (257 - r))] [])) (EndN s (Q_rmHv Z ob b ps_ kf h0 n0) ({ frames := 0, cells := 0, slots := 0, locals := 0 } : Room).cells ({ frames := 0, cells := 0, slots := 0, locals := 0 } : Room).slots) by
     exact loop 257 (Nat.le_refl _) TL687 _ _ _ XL687 eL687 NL687 KL687 (Keep.refl _ _) f696
   intro r
   induction r with
   | zero =>
    intro hr TL hL LL f XL eL NL KL KB VL
    refine gL XL hx (hc d20_23) rfl (.refl 25) ?_
    refine gH (z := 257) XL hx (hc d20_25) rfl (.refl 28) ?_
    refine gJY (q := 46) XL hx (hc d20_28) (flt (fun q => absurd ((own_lt32 (n := 257) (by omega) (by omega)).mp q) (by omega))).2.1 (by decide) ?_
    exact cont694 _ _ _ _ _ XL eL NL KL KB VL
   | succ r ih =>
    intro hr TL hL LL f XL eL NL KL KB VL
    obtain ⟨i, hi⟩ : ∃ i, i = 257 - (r + 1) := ⟨_, rfl⟩
    rw [← hi]
    refine gL XL hx (hc d20_23) rfl (.refl 25) ?_
    refine gH (z := 257) XL hx (hc d20_25) rfl (.refl 28) ?_
    refine gJN XL hx (hc d20_28) (tlt ((own_lt32 (n := 257) (by omega) (by omega)).mpr (by omega))).2.1 (.refl 31) ?_
    refine gA XL hx (hc d20_31) rfl (.refl 33) ?_
    refine gL XL hx (hc d20_33) rfl (.refl 35) ?_
    refine gS 36 [(.int (Int32.ofNat i)), (.ref (b + 16)), (.int (Int32.ofNat i)), (.ref (b + 16))] (fun zt zk => Jvm.Free.XT.dup2 XL.here hx rfl (hc d20_35) rfl rfl rfl zk) ?_
    refine gIA XL hx hZ eL VL (.int (f i)) ⟨own_nn (by omega), (own_lt32 (n := 257) (by omega) (by omega)).mpr (by omega)⟩ (own_arg f (by omega) (by omega) _) (hc d20_36) (.refl 37) ?_
    refine gC (z := 1) XL hx (hc d20_37) rfl (.refl 38) ?_
    refine gS 39 [(.int (((f i).toUInt32 >>> ((1 : Int32) &&& 31).toUInt32).toInt32)), (.int (Int32.ofNat i)), (.ref (b + 16))] (fun zt zk => XS.iushr XL.here hx rfl (hc d20_38) rfl zk) ?_
    refine gSI XL hx hZ eL VL ⟨own_nn (by omega), (own_lt32 (n := 257) (by omega) (by omega)).mpr (by omega)⟩ i (own_clamp (by omega)) (by rw [own_arl]; omega) ((own_ar f 257).set i (.int (((f i).toUInt32 >>> ((1 : Int32) &&& 31).toUInt32).toInt32))) rfl (hc d20_39) (.refl 40) ?_
    intro T715 h715 X715 e715 W715 V715
    have K715 := KL.wr W715 (Or.inl (List.mem_of_getElem? (i := 2) rfl))
    have N715 := Fr.snoc X715 NL (show n0 ≤ ((b + 16) : Nat) by omega)
    rw [own_ars f (by omega)] at V715
    refine gP 43 #[rv ob, rv (b + 14), iv 3, iv 1, rv (b + 16), iv ((Int32.ofNat i) + (1 : Int32))] [] (fun zt zk => XS.iinc X715.here hx rfl (hc d20_40) rfl (l' := _) rfl zk) ?_
    rw [own_addn (k := (1 : Int32)) (b := 1) rfl (by omega), show i + 1 = 257 - r by omega]
    refine gG (q := 23) X715 hx (hc d20_43) (by decide) ?_
    exact ih (by omega) _ _ _ _ X715 e715 N715 K715 (KB.wr W715 (Or.inl (List.mem_of_getElem? (i := 0) rfl))) V715
  intro TL694 hL694 LL694 z5 f694_ XL694 eL694 NL694 KL694 KB694 VL694
  refine gP 49 #[rv ob, rv (b + 14), iv 3, iv ((1 : Int32) + (1 : Int32)), rv (b + 16), iv z5] [] (fun zt zk => XS.iinc XL694.here hx rfl (hc d20_46) rfl (l' := _) rfl zk) ?_
  rw [show ((1 : Int32) + (1 : Int32)) = (2 : Int32) by decide]
  refine gG (q := 10) XL694 hx (hc d20_49) (by decide) ?_
  refine gLN XL694 hx (hc d20_10) rfl (.refl 11) ?_
  refine gLN XL694 hx (hc d20_11) rfl (.refl 12) ?_
  refine gJN XL694 hx (hc d20_12) (tlt (by decide)).2.1 (.refl 15) ?_
  refine gAN XL694 hx (hc d20_15) rfl (.refl 16) ?_
  refine gLN XL694 hx (hc d20_16) rfl (.refl 17) ?_
  have ne717 : ((b + 14) : Nat) ≠ (b + 16) := by omega
  have f718 := (f692.keep KB694 (ninS ne717 nin0))
  refine gRA XL694 hx hZ eL694 f718 (.ref (b + 17)) ⟨by decide, by decide⟩ (own_xk2 b) (hc d20_17) (.refl 18) rfl ?_
  refine gP 20 #[rv ob, rv (b + 14), iv 3, iv 2, rv (b + 17), iv z5] [] (fun zt zk => XS.astore XL694.here hx rfl (hc d20_18) rfl rfl (l' := _) rfl zk) ?_
  refine gC (z := 0) XL694 hx (hc d20_20) rfl (.refl 21) ?_
  refine gP 23 #[rv ob, rv (b + 14), iv 3, iv 2, rv (b + 17), iv 0] [] (fun zt zk => XS.istore XL694.here hx rfl (hc d20_21) rfl (l' := _) rfl zk) ?_
  have ne721 : ((b + 17) : Nat) ≠ (b + 16) := by omega
  have f722 := (f713.keep KB694 (ninS ne721 nin0))
  have f723 := (f697.keep KB694)
  have ne724 : (ob : Nat) ≠ (b + 16) := by omega
  have f725 := (f699.keep KB694 (ninS ne724 nin0))
  have f726 := (f700.keep KB694 (ninS ne724 nin0))
  have f727 := (f701.keep KB694 (ninS ne724 nin0))
  have f728 := (f702.keep KB694 (ninS ne724 nin0))
  have f729 := (f703.keep KB694 (ninS ne724 nin0))
  have f730 := (f704.keep KB694 (ninS ne724 nin0))
  have ne731 : (b : Nat) ≠ (b + 16) := by omega
  have f732 := (f706.keep KB694 (ninS ne731 nin0))
  have ne733 : ((b + 7) : Nat) ≠ (b + 16) := by omega
  have f734 := (f708.keep KB694 (ninS ne733 nin0))
  have f735 := (f709.keep KB694 (ninS ne724 nin0))
  have f736 := (f710.keep KB694 (ninS ne724 nin0))
  have f737 := (f711.keep KB694 (ninS ne724 nin0))
  suffices cont720 : ∀ (TL : State) (hL : Heap) (LL : List Loc) (z5 : Int32) (f : Nat → Int32), Stand p l e ({ frames := 0, cells := 0, slots := 0, locals := 0 } : Room) s m #[(.ref ob)] below meth c TL LL 0 0 → TL.heap = hL → Fr n0 LL → Keep h0 hL [ob, (b + 15), (b + 16), (b + 17)] → Keep hL694 hL [(b + 17)] → Arv Z hL (b + 17) kr2 .int (257 : Int32) (own_ar f 257) (.int 0) → Go p e below (TL.setTop (mkF m 46 #[rv ob, rv (b + 14), iv 3, iv 2, rv (b + 17), iv z5] [])) (EndN s (Q_rmHv Z ob b ps_ kf h0 n0) ({ frames := 0, cells := 0, slots := 0, locals := 0 } : Room).cells ({ frames := 0, cells := 0, slots := 0, locals := 0 } : Room).slots) by
   suffices loop : ∀ (r : Nat), r ≤ 257 → ∀ (TL : State) (hL : Heap) (LL : List Loc) (f : Nat → Int32), Stand p l e ({ frames := 0, cells := 0, slots := 0, locals := 0 } : Room) s m #[(.ref ob)] below meth c TL LL 0 0 → TL.heap = hL → Fr n0 LL → Keep h0 hL [ob, (b + 15), (b + 16), (b + 17)] → Keep hL694 hL [(b + 17)] → Arv Z hL (b + 17) kr2 .int (257 : Int32) (own_ar f 257) (.int 0) → Go p e below (TL.setTop (mkF m 23 #[rv ob, rv (b + 14), iv 3, iv 2, rv (b + 17), iv (Int32.ofNat (257 - r))] [])) (EndN s (Q_rmHv Z ob b ps_ kf h0 n0) ({ frames := 0, cells := 0, slots := 0, locals := 0 } : Room).cells ({ frames := 0, cells := 0, slots := 0, locals := 0 } : Room).slots) by
     exact loop 257 (Nat.le_refl _) TL694 _ _ _ XL694 eL694 NL694 KL694 (Keep.refl _ _) f722
   intro r
   induction r with
   | zero =>
    intro hr TL hL LL f XL eL NL KL KB VL
    refine gL XL hx (hc d20_23) rfl (.refl 25) ?_
    refine gH (z := 257) XL hx (hc d20_25) rfl (.refl 28) ?_
    refine gJY (q := 46) XL hx (hc d20_28) (flt (fun q => absurd ((own_lt32 (n := 257) (by omega) (by omega)).mp q) (by omega))).2.1 (by decide) ?_
    exact cont720 _ _ _ _ _ XL eL NL KL KB VL
   | succ r ih =>
    intro hr TL hL LL f XL eL NL KL KB VL
    obtain ⟨i, hi⟩ : ∃ i, i = 257 - (r + 1) := ⟨_, rfl⟩
    rw [← hi]
    refine gL XL hx (hc d20_23) rfl (.refl 25) ?_
    refine gH (z := 257) XL hx (hc d20_25) rfl (.refl 28) ?_
    refine gJN XL hx (hc d20_28) (tlt ((own_lt32 (n := 257) (by omega) (by omega)).mpr (by omega))).2.1 (.refl 31) ?_
    refine gA XL hx (hc d20_31) rfl (.refl 33) ?_
    refine gL XL hx (hc d20_33) rfl (.refl 35) ?_
    refine gS 36 [(.int (Int32.ofNat i)), (.ref (b + 17)), (.int (Int32.ofNat i)), (.ref (b + 17))] (fun zt zk => Jvm.Free.XT.dup2 XL.here hx rfl (hc d20_35) rfl rfl rfl zk) ?_
    refine gIA XL hx hZ eL VL (.int (f i)) ⟨own_nn (by omega), (own_lt32 (n := 257) (by omega) (by omega)).mpr (by omega)⟩ (own_arg f (by omega) (by omega) _) (hc d20_36) (.refl 37) ?_
    refine gC (z := 1) XL hx (hc d20_37) rfl (.refl 38) ?_
    refine gS 39 [(.int (((f i).toUInt32 >>> ((1 : Int32) &&& 31).toUInt32).toInt32)), (.int (Int32.ofNat i)), (.ref (b + 17))] (fun zt zk => XS.iushr XL.here hx rfl (hc d20_38) rfl zk) ?_
    refine gSI XL hx hZ eL VL ⟨own_nn (by omega), (own_lt32 (n := 257) (by omega) (by omega)).mpr (by omega)⟩ i (own_clamp (by omega)) (by rw [own_arl]; omega) ((own_ar f 257).set i (.int (((f i).toUInt32 >>> ((1 : Int32) &&& 31).toUInt32).toInt32))) rfl (hc d20_39) (.refl 40) ?_
    intro T739 h739 X739 e739 W739 V739
    have K739 := KL.wr W739 (Or.inl (List.mem_of_getElem? (i := 3) rfl))
    have N739 := Fr.snoc X739 NL (show n0 ≤ ((b + 17) : Nat) by omega)
    rw [own_ars f (by omega)] at V739
    refine gP 43 #[rv ob, rv (b + 14), iv 3, iv 2, rv (b + 17), iv ((Int32.ofNat i) + (1 : Int32))] [] (fun zt zk => XS.iinc X739.here hx rfl (hc d20_40) rfl (l' := _) rfl zk) ?_
    rw [own_addn (k := (1 : Int32)) (b := 1) rfl (by omega), show i + 1 = 257 - r by omega]
    refine gG (q := 23) X739 hx (hc d20_43) (by decide) ?_
    exact ih (by omega) _ _ _ _ X739 e739 N739 K739 (KB.wr W739 (Or.inl (List.mem_of_getElem? (i := 0) rfl))) V739
  intro TL720 hL720 LL720 z5 f720_ XL720 eL720 NL720 KL720 KB720 VL720
  refine gP 49 #[rv ob, rv (b + 14), iv 3, iv ((2 : Int32) + (1 : Int32)), rv (b + 17), iv z5] [] (fun zt zk => XS.iinc XL720.here hx rfl (hc d20_46) rfl (l' := _) rfl zk) ?_
  rw [show ((2 : Int32) + (1 : Int32)) = (3 : Int32) by decide]
  refine gG (q := 10) XL720 hx (hc d20_49) (by decide) ?_
  refine gLN XL720 hx (hc d20_10) rfl (.refl 11) ?_
  refine gLN XL720 hx (hc d20_11) rfl (.refl 12) ?_
  refine gJY (q := 52) XL720 hx (hc d20_12) (flt (by decide)).2.1 (by decide) ?_
  refine gAN XL720 hx (hc d20_52) rfl (.refl 53) ?_
  refine gC (z := 0) XL720 hx (hc d20_53) rfl (.refl 54) ?_
  have ne741 : (ob : Nat) ≠ (b + 17) := by omega
  have f742 := (f735.keep KB720 (ninS ne741 nin0))
  have f743 := (f723.keep KB720)
  obtain ⟨T744, h744, X744, e744, W744, st744⟩ := putF XL720 hx hZ hown (host := "") (Or.inl (ow hw 38 rfl)) Via.refl eL720 f742 f743 (Or.inl (ow hw 39 rfl)) (ow hw 7 rfl) (ty := .int) (by decide) rfl rfl (g := (mkF m 54 #[rv ob, rv (b + 14), iv 3, iv 3, rv (b + 17), iv z5] [(.int 0), (.ref ob)])) rfl rfl (hc d20_54)
  have Fw744 : Fld Z h744 ob "com/example/tributary/tributary/join/LineCodes" "sinceHalved" "I" (.int 0) := f742.same W744
  have K744 := KL720.wr W744 (Or.inl (List.mem_of_getElem? (i := 0) rfl))
  have N744 := Fr.snoc X744 NL720 g_ob
  refine gT T744 57 [] (fun zt zk => st744 zt zk) ?_
  have f745 := (f743.wr W744)
  have f746 := ((f725.keep KB720 (ninS ne741 nin0)).other W744 (Or.inr (slot_ne (Or.inr (ow hw 19 rfl)) (Or.inl (ow hw 39 rfl)) (by decide) (t := (.array (.array .short))) (t' := .int) (by decide) (by decide))))
  have f747 := ((f726.keep KB720 (ninS ne741 nin0)).other W744 (Or.inr (slot_ne (Or.inr (ow hw 21 rfl)) (Or.inl (ow hw 39 rfl)) (by decide) (t := (.array (.array .short))) (t' := .int) (by decide) (by decide))))
  have f748 := ((f727.keep KB720 (ninS ne741 nin0)).other W744 (Or.inr (slot_ne (Or.inr (ow hw 25 rfl)) (Or.inl (ow hw 39 rfl)) (by decide) (t := (.array (.array .int))) (t' := .int) (by decide) (by decide))))
  have f749 := ((f728.keep KB720 (ninS ne741 nin0)).other W744 (Or.inr (slot_ne (Or.inr (ow hw 28 rfl)) (Or.inl (ow hw 39 rfl)) (by decide) (t := (.array .long)) (t' := .int) (by decide) (by decide))))
  have f750 := ((f729.keep KB720 (ninS ne741 nin0)).other W744 (Or.inr (slot_ne (Or.inr (ow hw 30 rfl)) (Or.inl (ow hw 39 rfl)) (by decide) (t := (.array .short)) (t' := .int) (by decide) (by decide))))
  have f751 := ((f730.keep KB720 (ninS ne741 nin0)).other W744 (Or.inr (slot_ne (Or.inr (ow hw 32 rfl)) (Or.inl (ow hw 39 rfl)) (by decide) (t := .byte) (t' := .int) (by decide) (by decide))))
  have ne752 : (b : Nat) ≠ (b + 17) := by omega
  have ne753 : (b : Nat) ≠ ob := by omega
  have f754 := ((f732.keep KB720 (ninS ne752 nin0)).other W744 ne753)
  have ne755 : ((b + 7) : Nat) ≠ (b + 17) := by omega
  have ne756 : ((b + 7) : Nat) ≠ ob := by omega
  have f757 := ((f734.keep KB720 (ninS ne755 nin0)).other W744 ne756)
  have ne758 : ((b + 14) : Nat) ≠ (b + 17) := by omega
  have ne759 : ((b + 14) : Nat) ≠ ob := by omega
  have f760 := ((f718.keep KB720 (ninS ne758 nin0)).other W744 ne759)
  have f761 := ((f736.keep KB720 (ninS ne741 nin0)).other W744 (Or.inr (slot_ne (Or.inl (ow hw 42 rfl)) (Or.inl (ow hw 39 rfl)) (by decide) (t := .long) (t' := .int) (by decide) (by decide))))
  have f762 := ((f737.keep KB720 (ninS ne741 nin0)).other W744 (Or.inr (slot_ne (Or.inl (ow hw 44 rfl)) (Or.inl (ow hw 39 rfl)) (by decide) (t := .long) (t' := .int) (by decide) (by decide))))
  exact Go.done X744 Bd.notSynchronized (v := none) (fun _ => rfl) (fun fs hr => X744.returnOut hx Bd.returns (hc d20_57) hr) (by rw [e744]; exact ⟨rfl, N744, K744, ⟨f745, f746, f747, f748, f749, f750, f751, ⟨_, f754⟩, ⟨_, f757⟩, ⟨_, f760⟩⟩, ⟨_, f761⟩, ⟨_, f762⟩⟩) (by decide) (by decide)
abbrev C19 : ByteArray := prog_43_method_6_code
theorem d19_0 : decode C19 0 = .ok (.aload_n 0, 1) := by decide +kernel
theorem d19_1 : decode C19 1 = .ok (.invokevirtual 45, 3) := by decide +kernel
theorem d19_4 : decode C19 4 = .ok (.aload_n 0, 1) := by decide +kernel
theorem d19_5 : decode C19 5 = .ok (.lconst 0, 1) := by decide +kernel
theorem d19_6 : decode C19 6 = .ok (.putfield 48, 3) := by decide +kernel
theorem d19_9 : decode C19 9 = .ok (.aload_n 0, 1) := by decide +kernel
theorem d19_10 : decode C19 10 = .ok (.lconst 0, 1) := by decide +kernel
theorem d19_11 : decode C19 11 = .ok (.putfield 52, 3) := by decide +kernel
theorem d19_14 : decode C19 14 = .ok (.return_, 1) := by decide +kernel
theorem pd_a8eb9 : parseMethodDescriptor "()V" = some ⟨[], none⟩ := by decide +kernel
theorem ef_19 (m : MethodId) (x0 : Addr) : entryFrame m #[(.ref x0)] 1 = mkF m 0 #[.val (.ref x0)] [] := by first | (simp [entryFrame, mkF, argsToLocals, Value.category]; done) | rfl
def Q_rmFg (Z : State) (ob b : Nat) (ps_ : Int32) (kf : Nat → Nat → Int32) (h0 : Heap) (n0 : Nat) (v : Option Value) (h : Heap) (L : List Loc) : Prop := v = none ∧ Fr n0 L ∧ Keep h0 h [ob, (b + 15), (b + 16), (b + 17)] ∧ own_O Z h ob b ps_
set_option maxRecDepth 65536 in
set_option maxHeartbeats 40000000 in
theorem rmFg (l : Launch) (Z : State) (a0 : Array Value) (hw : ∀ d ∈ tables_1, d.before a0 Z = true) (ob b : Nat) (ps_ : Int32) (kf : Nat → Nat → Int32) (h0 : Heap) (n0 : Nat) (Z0 : n0 ≤ h0.size) (HO : own_O Z h0 ob b ps_) (Fsh : ∃ z : Int32, Fld Z h0 ob "com/example/tributary/tributary/join/LineCodes" "sinceHalved" "I" (.int z)) (Fmt : (∃ x : Int64, Fld Z h0 ob "com/example/tributary/tributary/join/LineCodes" "countedBytes" "J" (.long x)) ∧ (∃ x : Int64, Fld Z h0 ob "com/example/tributary/tributary/join/LineCodes" "countedLines" "J" (.long x))) (RI : own_RI Z h0 (b + 15) 3 kf) (lob : ob < b) (g_ob : n0 ≤ ob) :
    MetFree l Y20 (head1 [Jvm.Cond.code Y20 prog_43_method_6_code 1 none] ({ frames := 1, cells := 0, slots := 0, locals := 17 } : Room)) (fun a U => a = #[(.ref ob)] ∧ Z.Warmed39 U.vm ∧ U.heap = h0) (fun _ _ _ _ _ => True) (fun _ U o U' => ∃ v L, o = .returned v ∧ (Q_rmFg Z ob b ps_ kf h0 n0) v U'.heap L ∧ FrameEnd U o U' L ({ frames := 1, cells := 0, slots := 0, locals := 17 } : Room).cells ({ frames := 1, cells := 0, slots := 0, locals := 17 } : Room).slots) := by
  refine MetFree.of_bodySF (plainFor_of_name pn_81ef1d3) hisR ?_
  intro p e s m args below meth c s₁ Bd hml0 hP hK
  obtain ⟨rfl, hZ, hh⟩ := hP
  have hx := Bd.exec
  have hc : ∀ {pc : Nat} {r}, decode C19 pc = r → decode c.code pc = r := fun h2 => hb Bd.bytes h2
  have hml : c.maxLocals = 1 := hml0
  have hown : s.vm.findClass "com/example/tributary/tributary/join/LineCodes" = some m.cls := findClass_of_methodNamed Bd.named
  have hnm := (name_of_methodNamed Bd.named Bd.method).1
  have X0 : Stand p l e ({ frames := 1, cells := 0, slots := 0, locals := 17 } : Room) s m #[(.ref ob)] below meth c s₁ [] 0 0 := Stand.of_body Bd
  have e0 : s₁.heap = h0 := by rw [← hh, Bd.state]; rfl
  have N0 := Fr.nil n0
  have K0 : Keep h0 h0 [ob, (b + 15), (b + 16), (b + 17)] := Keep.refl h0 [ob, (b + 15), (b + 16), (b + 17)]
  show Go p e below (s₁.setTop (entryFrame m #[(.ref ob)] 1)) (EndN s (Q_rmFg Z ob b ps_ kf h0 n0) ({ frames := 1, cells := 0, slots := 0, locals := 17 } : Room).cells ({ frames := 1, cells := 0, slots := 0, locals := 17 } : Room).slots)
  refine Go.top (ef_19 m ob) ?_
  refine gAN X0 hx (hc d19_0) rfl (.refl 1) ?_
  obtain ⟨cq763, kq763, q763a, q763b, q763c⟩ := isOf hZ e0 HO.1
  obtain ⟨vr763, _, ⟨T763, L763, k763, n763⟩, -, X763, ⟨Lc763, hQ763, l763, y763, z763⟩, st763⟩ := X0.virtualBack hx (y := Y19) (z := Y19) hown (mvT hZ (ow hw 102 rfl)) (mvT hZ (own_decl (ow hw 103 rfl) (ow hw 105 rfl))) (notFace_of_selects (args := #[]) (mvT hZ (own_selp (y := Y19) (ow hw 7 rfl) (ow hw 103 rfl) (ow hw 104 rfl) (by decide)))) (mvT hZ (own_selp (y := Y19) (ow hw 7 rfl) (ow hw 103 rfl) (ow hw 104 rfl) (by decide))) (mvT hZ (ow hw 103 rfl)) (by decide) (backOf (W := 0) (rmHv l Z a0 hw ob b ps_ kf h0 n0 Z0 HO Fsh Fmt RI lob g_ob) hZ (ow hw 105 rfl) (ow hw 8 rfl) (by decide) (by decide)) q763a q763c (g := (mkF m 1 #[rv ob] [(.ref ob)])) rfl (by rw [hml]; rfl) (Steps.refl _) (argsL := []) (rest := []) (lenOf pd_a8eb9 rfl) rfl (by show 2 * 0 + _ ≤ _; exact Nat.le_of_eq rfl) (hc d19_1) (fun _ _ => ⟨rfl, e0, (by decide : 0 + 0 ≤ _), (by decide : 0 + 0 ≤ _)⟩)
  dsimp only [Pt.U, Pt.locs, Pt.cells, Pt.slots] at X763 l763 y763 z763 st763 hQ763
  subst l763 y763 z763
  obtain ⟨rfl, Nq763, Kq763, O763, ⟨xb763, Fb763⟩, ⟨xl763, Fl763⟩⟩ := hQ763
  have KK764 := K0.trans Kq763 (allS (Or.inl (List.mem_of_getElem? (i := 0) rfl)) (allS (Or.inl (List.mem_of_getElem? (i := 1) rfl)) (allS (Or.inl (List.mem_of_getElem? (i := 2) rfl)) (allS (Or.inl (List.mem_of_getElem? (i := 3) rfl)) all0))))
  have NN765 := Fr.app N0 Nq763
  refine gT T763 4 [] (fun zt zk => st763.trans zk) ?_
  obtain ⟨Eo, Oc, Ot, Ok, Ow, Oo, Os, ⟨kC, VC⟩, ⟨kT, VT⟩, ⟨kK, VK⟩⟩ := id O763
  refine gAN X763 hx (hc d19_4) rfl (.refl 5) ?_
  refine gS 6 [(.long 0), (.ref ob)] (fun zt zk => XS.lconst X763.here hx rfl (hc d19_5) zk) ?_
  obtain ⟨T766, h766, X766, e766, W766, st766⟩ := putF X763 hx hZ hown (host := "") (Or.inl (ow hw 41 rfl)) Via.refl rfl Fb763 Eo (Or.inl (ow hw 42 rfl)) (ow hw 7 rfl) (ty := .long) (by decide) rfl rfl (g := (mkF m 6 #[rv ob] [(.long 0), (.ref ob)])) rfl rfl (hc d19_6)
  have Fw766 : Fld Z h766 ob "com/example/tributary/tributary/join/LineCodes" "countedBytes" "J" (.long 0) := Fb763.same W766
  have K766 := KK764.wr W766 (Or.inl (List.mem_of_getElem? (i := 0) rfl))
  have N766 := Fr.snoc X766 NN765 g_ob
  refine gT T766 9 [] (fun zt zk => st766 zt zk) ?_
  refine gAN X766 hx (hc d19_9) rfl (.refl 10) ?_
  refine gS 11 [(.long 0), (.ref ob)] (fun zt zk => XS.lconst X766.here hx rfl (hc d19_10) zk) ?_
  have f767 := (Fl763.other W766 (Or.inr (slot_ne (Or.inl (ow hw 44 rfl)) (Or.inl (ow hw 42 rfl)) (by decide) (t := .long) (t' := .long) (by decide) (by decide))))
  have f768 := (Eo.wr W766)
  obtain ⟨T769, h769, X769, e769, W769, st769⟩ := putF X766 hx hZ hown (host := "") (Or.inl (ow hw 43 rfl)) Via.refl e766 f767 f768 (Or.inl (ow hw 44 rfl)) (ow hw 7 rfl) (ty := .long) (by decide) rfl rfl (g := (mkF m 11 #[rv ob] [(.long 0), (.ref ob)])) rfl rfl (hc d19_11)
  have Fw769 : Fld Z h769 ob "com/example/tributary/tributary/join/LineCodes" "countedLines" "J" (.long 0) := f767.same W769
  have K769 := K766.wr W769 (Or.inl (List.mem_of_getElem? (i := 0) rfl))
  have N769 := Fr.snoc X769 N766 g_ob
  refine gT T769 14 [] (fun zt zk => st769 zt zk) ?_
  have f770 := (f768.wr W769)
  have f771 := ((Oc.other W766 (Or.inr (slot_ne (Or.inr (ow hw 19 rfl)) (Or.inl (ow hw 42 rfl)) (by decide) (t := (.array (.array .short))) (t' := .long) (by decide) (by decide)))).other W769 (Or.inr (slot_ne (Or.inr (ow hw 19 rfl)) (Or.inl (ow hw 44 rfl)) (by decide) (t := (.array (.array .short))) (t' := .long) (by decide) (by decide))))
  have f772 := ((Ot.other W766 (Or.inr (slot_ne (Or.inr (ow hw 21 rfl)) (Or.inl (ow hw 42 rfl)) (by decide) (t := (.array (.array .short))) (t' := .long) (by decide) (by decide)))).other W769 (Or.inr (slot_ne (Or.inr (ow hw 21 rfl)) (Or.inl (ow hw 44 rfl)) (by decide) (t := (.array (.array .short))) (t' := .long) (by decide) (by decide))))
  have f773 := ((Ok.other W766 (Or.inr (slot_ne (Or.inr (ow hw 25 rfl)) (Or.inl (ow hw 42 rfl)) (by decide) (t := (.array (.array .int))) (t' := .long) (by decide) (by decide)))).other W769 (Or.inr (slot_ne (Or.inr (ow hw 25 rfl)) (Or.inl (ow hw 44 rfl)) (by decide) (t := (.array (.array .int))) (t' := .long) (by decide) (by decide))))
  have f774 := ((Ow.other W766 (Or.inr (slot_ne (Or.inr (ow hw 28 rfl)) (Or.inl (ow hw 42 rfl)) (by decide) (t := (.array .long)) (t' := .long) (by decide) (by decide)))).other W769 (Or.inr (slot_ne (Or.inr (ow hw 28 rfl)) (Or.inl (ow hw 44 rfl)) (by decide) (t := (.array .long)) (t' := .long) (by decide) (by decide))))
  have f775 := ((Oo.other W766 (Or.inr (slot_ne (Or.inr (ow hw 30 rfl)) (Or.inl (ow hw 42 rfl)) (by decide) (t := (.array .short)) (t' := .long) (by decide) (by decide)))).other W769 (Or.inr (slot_ne (Or.inr (ow hw 30 rfl)) (Or.inl (ow hw 44 rfl)) (by decide) (t := (.array .short)) (t' := .long) (by decide) (by decide))))
  have f776 := ((Os.other W766 (Or.inr (slot_ne (Or.inr (ow hw 32 rfl)) (Or.inl (ow hw 42 rfl)) (by decide) (t := .byte) (t' := .long) (by decide) (by decide)))).other W769 (Or.inr (slot_ne (Or.inr (ow hw 32 rfl)) (Or.inl (ow hw 44 rfl)) (by decide) (t := .byte) (t' := .long) (by decide) (by decide))))
  have ne777 : (b : Nat) ≠ ob := by omega
  have f778 := ((VC.other W766 ne777).other W769 ne777)
  have ne779 : ((b + 7) : Nat) ≠ ob := by omega
  have f780 := ((VT.other W766 ne779).other W769 ne779)
  have ne781 : ((b + 14) : Nat) ≠ ob := by omega
  have f782 := ((VK.other W766 ne781).other W769 ne781)
  exact Go.done X769 Bd.notSynchronized (v := none) (fun _ => rfl) (fun fs hr => X769.returnOut hx Bd.returns (hc d19_14) hr) (by rw [e769]; exact ⟨rfl, N769, K769, ⟨f770, f771, f772, f773, f774, f775, f776, ⟨_, f778⟩, ⟨_, f780⟩, ⟨_, f782⟩⟩⟩) (by decide) (by decide)
theorem own_innerhi (x : Int64) : ∀ (q : Nat) (w : Nat → Int64) (j : Nat), q < j → own_inner w x q j = w j
  | 0, w, j, h => by show own_up w 0 x j = _; unfold own_up; rw [if_neg (by omega)]
  | q + 1, w, j, h => by
    show (if x < w q then own_inner (own_up w (q + 1) (w q)) x q else own_up w (q + 1) x) j = _
    by_cases c : x < w q
    · rw [if_pos c, own_innerhi x q _ j (by omega)]; unfold own_up; rw [if_neg (by omega)]
    · rw [if_neg c]; unfold own_up; rw [if_neg (by omega)]
theorem own_sorthi (w : Nat → Int64) : ∀ (n j : Nat), n ≤ j → own_sort w n j = w j
  | 0, j, _ => rfl
  | n + 1, j, h => by
    show own_inner (own_sort w n) (own_sort w n n) n j = _
    rw [own_innerhi _ _ _ _ (by omega), own_sorthi w n j (by omega)]
theorem own_keyv (f : Nat → Int32) {w i : Nat} (hf : f i = Int32.ofNat w) (hw : w < 5) (hi : i < 257) : own_key f i = Int64.ofNat (w * 65536 + i) := by
  have t : ∀ (a : Fin 5) (b : Fin 257), (((Int32.ofNat a.val).toInt64 <<< ((16 : Int32) &&& 0x3f).toInt64) ||| (Int32.ofNat b.val).toInt64) = Int64.ofNat (a.val * 65536 + b.val) := by decide +kernel
  unfold own_key; rw [hf]; exact t ⟨w, hw⟩ ⟨i, hi⟩
theorem own_kw {w i : Nat} (hw : w < 5) (hi : i < 257) : ((Int64.ofNat (w * 65536 + i)).toUInt64 >>> ((16 : Int32) &&& 0x3f).toInt64.toUInt64).toInt64 = Int64.ofNat w := by
  have t : ∀ (a : Fin 5) (b : Fin 257), ((Int64.ofNat (a.val * 65536 + b.val)).toUInt64 >>> ((16 : Int32) &&& 0x3f).toInt64.toUInt64).toInt64 = Int64.ofNat a.val := by decide +kernel
  exact t ⟨w, hw⟩ ⟨i, hi⟩
theorem own_ki {w i : Nat} (hw : w < 5) (hi : i < 257) : nar .short ((Int64.ofNat (w * 65536 + i)).toInt32.toInt16.toInt32) = Int32.ofNat i := by
  have t : ∀ (a : Fin 5) (b : Fin 257), nar .short ((Int64.ofNat (a.val * 65536 + b.val)).toInt32.toInt16.toInt32) = Int32.ofNat b.val := by decide +kernel
  exact t ⟨w, hw⟩ ⟨i, hi⟩
theorem own_l64 {w : Nat} (h : w < 9223372036854775808) : (Int64.ofNat w).toInt = w := by rw [Int64.toInt_ofNat_of_lt (by omega)]
theorem own_lt64 {i n : Nat} (hi : i < 9223372036854775808) (hn : n < 9223372036854775808) : Int64.ofNat i < Int64.ofNat n ↔ i < n := by
  rw [Int64.lt_iff_toInt_lt, own_l64 hi, own_l64 hn]; omega
theorem own_s3_012 {w : Nat → Int64} (h01 : w 0 < w 1) (h02 : w 0 < w 2) (n10 : ¬ w 1 < w 0) (h12 : w 1 < w 2) (n20 : ¬ w 2 < w 0) (n21 : ¬ w 2 < w 1) : own_sort w 3 0 = w 0 ∧ own_sort w 3 1 = w 1 ∧ own_sort w 3 2 = w 2 := by
  simp [own_sort, own_inner, own_up, h01, h02, n10, h12, n20, n21]
theorem own_s3_021 {w : Nat → Int64} (h01 : w 0 < w 1) (h02 : w 0 < w 2) (n10 : ¬ w 1 < w 0) (n12 : ¬ w 1 < w 2) (n20 : ¬ w 2 < w 0) (h21 : w 2 < w 1) : own_sort w 3 0 = w 0 ∧ own_sort w 3 1 = w 2 ∧ own_sort w 3 2 = w 1 := by
  simp [own_sort, own_inner, own_up, h01, h02, n10, n12, n20, h21]
theorem own_s3_201 {w : Nat → Int64} (n01 : ¬ w 0 < w 1) (n02 : ¬ w 0 < w 2) (h10 : w 1 < w 0) (h12 : w 1 < w 2) (h20 : w 2 < w 0) (n21 : ¬ w 2 < w 1) : own_sort w 3 0 = w 1 ∧ own_sort w 3 1 = w 2 ∧ own_sort w 3 2 = w 0 := by
  simp [own_sort, own_inner, own_up, n01, n02, h10, h12, h20, n21]
theorem own_s4_0231 {w : Nat → Int64} (h01 : w 0 < w 1) (h02 : w 0 < w 2) (h03 : w 0 < w 3) (n10 : ¬ w 1 < w 0) (h12 : w 1 < w 2) (n13 : ¬ w 1 < w 3) (n20 : ¬ w 2 < w 0) (n21 : ¬ w 2 < w 1) (n23 : ¬ w 2 < w 3) (n30 : ¬ w 3 < w 0) (h31 : w 3 < w 1) (h32 : w 3 < w 2) : own_sort w 4 0 = w 0 ∧ own_sort w 4 1 = w 3 ∧ own_sort w 4 2 = w 1 ∧ own_sort w 4 3 = w 2 := by
  simp [own_sort, own_inner, own_up, h01, h02, h03, n10, h12, n13, n20, n21, n23, n30, h31, h32]
theorem own_s4_0321 {w : Nat → Int64} (h01 : w 0 < w 1) (h02 : w 0 < w 2) (h03 : w 0 < w 3) (n10 : ¬ w 1 < w 0) (n12 : ¬ w 1 < w 2) (n13 : ¬ w 1 < w 3) (n20 : ¬ w 2 < w 0) (h21 : w 2 < w 1) (n23 : ¬ w 2 < w 3) (n30 : ¬ w 3 < w 0) (h31 : w 3 < w 1) (h32 : w 3 < w 2) : own_sort w 4 0 = w 0 ∧ own_sort w 4 1 = w 3 ∧ own_sort w 4 2 = w 2 ∧ own_sort w 4 3 = w 1 := by
  simp [own_sort, own_inner, own_up, h01, h02, h03, n10, n12, n13, n20, h21, n23, n30, h31, h32]
theorem own_s4_2031 {w : Nat → Int64} (n01 : ¬ w 0 < w 1) (h02 : w 0 < w 2) (n03 : ¬ w 0 < w 3) (h10 : w 1 < w 0) (h12 : w 1 < w 2) (h13 : w 1 < w 3) (n20 : ¬ w 2 < w 0) (n21 : ¬ w 2 < w 1) (n23 : ¬ w 2 < w 3) (h30 : w 3 < w 0) (n31 : ¬ w 3 < w 1) (h32 : w 3 < w 2) : own_sort w 4 0 = w 1 ∧ own_sort w 4 1 = w 3 ∧ own_sort w 4 2 = w 0 ∧ own_sort w 4 3 = w 2 := by
  simp [own_sort, own_inner, own_up, n01, h02, n03, h10, h12, h13, n20, n21, n23, h30, n31, h32]
theorem own_s4_2301 {w : Nat → Int64} (h01 : w 0 < w 1) (n02 : ¬ w 0 < w 2) (n03 : ¬ w 0 < w 3) (n10 : ¬ w 1 < w 0) (n12 : ¬ w 1 < w 2) (n13 : ¬ w 1 < w 3) (h20 : w 2 < w 0) (h21 : w 2 < w 1) (h23 : w 2 < w 3) (h30 : w 3 < w 0) (h31 : w 3 < w 1) (n32 : ¬ w 3 < w 2) : own_sort w 4 0 = w 2 ∧ own_sort w 4 1 = w 3 ∧ own_sort w 4 2 = w 0 ∧ own_sort w 4 3 = w 1 := by
  simp [own_sort, own_inner, own_up, h01, n02, n03, n10, n12, n13, h20, h21, h23, h30, h31, n32]
theorem own_s4_3021 {w : Nat → Int64} (n01 : ¬ w 0 < w 1) (n02 : ¬ w 0 < w 2) (n03 : ¬ w 0 < w 3) (h10 : w 1 < w 0) (h12 : w 1 < w 2) (h13 : w 1 < w 3) (h20 : w 2 < w 0) (n21 : ¬ w 2 < w 1) (n23 : ¬ w 2 < w 3) (h30 : w 3 < w 0) (n31 : ¬ w 3 < w 1) (h32 : w 3 < w 2) : own_sort w 4 0 = w 1 ∧ own_sort w 4 1 = w 3 ∧ own_sort w 4 2 = w 2 ∧ own_sort w 4 3 = w 0 := by
  simp [own_sort, own_inner, own_up, n01, n02, n03, h10, h12, h13, h20, n21, n23, h30, n31, h32]
theorem own_s4_3201 {w : Nat → Int64} (n01 : ¬ w 0 < w 1) (n02 : ¬ w 0 < w 2) (n03 : ¬ w 0 < w 3) (h10 : w 1 < w 0) (n12 : ¬ w 1 < w 2) (n13 : ¬ w 1 < w 3) (h20 : w 2 < w 0) (h21 : w 2 < w 1) (h23 : w 2 < w 3) (h30 : w 3 < w 0) (h31 : w 3 < w 1) (n32 : ¬ w 3 < w 2) : own_sort w 4 0 = w 2 ∧ own_sort w 4 1 = w 3 ∧ own_sort w 4 2 = w 1 ∧ own_sort w 4 3 = w 0 := by
  simp [own_sort, own_inner, own_up, n01, n02, n03, h10, n12, n13, h20, h21, h23, h30, h31, n32]
/-- what weigh leaves of f: symbols us, weights ws -/
def own_res (f : Nat → Int32) (us ws : List Nat) : Prop := ∃ ps : List Nat, own_pos f ps ∧ ps.length = us.length ∧ ∀ (w0 : Nat → Int64) (q0 : Nat → Int32),
  (∀ j, j < us.length → own_w2 (own_sort (own_wl f ps w0) ps.length) ps.length j = Int64.ofNat (ws.getD j 0) ∧ own_o2 (own_sort (own_wl f ps w0) ps.length) q0 ps.length j = Int32.ofNat (us.getD j 0)) ∧ ∀ j, us.length ≤ j → own_w2 (own_sort (own_wl f ps w0) ps.length) ps.length j = w0 j
theorem own_r3 {f : Nat → Int32} {x y z : Nat} (hxy : x < y) (hzx : z ≠ x) (hzy : z ≠ y) (lx : x < 257) (ly : y < 257) (lz : z < 257) (f_x : f x = Int32.ofNat 1) (f_y : f y = Int32.ofNat 1) (f_z : f z = Int32.ofNat 2) (h0_ : ∀ i, i < 257 → i ≠ x → i ≠ y → i ≠ z → f i = 0) : own_res f [x, y, z] [1, 1, 2] := by
  rcases (show z < x ∨ (x < z ∧ z < y) ∨ y < z by omega) with c | c | c
  ·
    refine ⟨[z, x, y], ⟨?_, ?_, ?_, Nat.le_of_ble_eq_true rfl, Nat.le_of_ble_eq_true rfl⟩, rfl, fun w0 q0 => ?_⟩
    · simp only [List.pairwise_cons, List.mem_cons, List.not_mem_nil, or_false, false_or, List.Pairwise.nil, and_true]
      refine ⟨fun x hx => by rcases hx with rfl | rfl <;> omega, fun x hx => by subst hx; omega, fun x hx => by cases hx⟩
    · intro i hi
      simp only [List.mem_cons, List.not_mem_nil, or_false]
      constructor
      · intro q
        rcases Classical.em (i = z ∨ i = x ∨ i = y) with e | e
        · exact e
        · have z := h0_ i hi (fun y => e (Or.inr (Or.inl y))) (fun y => e (Or.inr (Or.inr y))) (fun y => e (Or.inl y)); rw [z] at q; exact absurd q (by decide)
      · intro q
        rcases q with q | q | q
        · rw [q, f_z]; decide
        · rw [q, f_x]; decide
        · rw [q, f_y]; decide
    · intro i hi
      simp only [List.mem_cons, List.not_mem_nil, or_false] at hi
      omega
    have hl : ([z, x, y] : List Nat).length = 3 := rfl
    rw [hl]
    have k0 : own_wl f [z, x, y] w0 0 = Int64.ofNat (2 * 65536 + z) := by
      unfold own_wl; rw [if_pos (show 0 < ([z, x, y] : List Nat).length by rw [hl]; decide)]; show own_key f z = _; exact own_keyv f f_z (by omega) (by omega)
    have k1 : own_wl f [z, x, y] w0 1 = Int64.ofNat (1 * 65536 + x) := by
      unfold own_wl; rw [if_pos (show 1 < ([z, x, y] : List Nat).length by rw [hl]; decide)]; show own_key f x = _; exact own_keyv f f_x (by omega) (by omega)
    have k2 : own_wl f [z, x, y] w0 2 = Int64.ofNat (1 * 65536 + y) := by
      unfold own_wl; rw [if_pos (show 2 < ([z, x, y] : List Nat).length by rw [hl]; decide)]; show own_key f y = _; exact own_keyv f f_y (by omega) (by omega)
    obtain ⟨s0, s1, s2⟩ := own_s3_201 (w := own_wl f [z, x, y] w0) (fun q => by rw [k0, k1] at q; exact absurd ((own_lt64 (by omega) (by omega)).mp q) (by omega)) (fun q => by rw [k0, k2] at q; exact absurd ((own_lt64 (by omega) (by omega)).mp q) (by omega)) (by rw [k1, k0]; exact (own_lt64 (by omega) (by omega)).mpr (by omega)) (by rw [k1, k2]; exact (own_lt64 (by omega) (by omega)).mpr (by omega)) (by rw [k2, k0]; exact (own_lt64 (by omega) (by omega)).mpr (by omega)) (fun q => by rw [k2, k1] at q; exact absurd ((own_lt64 (by omega) (by omega)).mp q) (by omega))
    refine ⟨fun j hj => ?_, fun j hj => ?_⟩
    · have hj' : j = 0 ∨ j = 1 ∨ j = 2 := by have : j < 3 := hj; omega
      rcases hj' with rfl | rfl | rfl
      · unfold own_w2 own_o2; rw [if_pos (show 0 < 3 by decide), if_pos (show 0 < 3 by decide), s0, k1]; exact ⟨own_kw (by omega) (by omega), own_ki (by omega) (by omega)⟩
      · unfold own_w2 own_o2; rw [if_pos (show 1 < 3 by decide), if_pos (show 1 < 3 by decide), s1, k2]; exact ⟨own_kw (by omega) (by omega), own_ki (by omega) (by omega)⟩
      · unfold own_w2 own_o2; rw [if_pos (show 2 < 3 by decide), if_pos (show 2 < 3 by decide), s2, k0]; exact ⟨own_kw (by omega) (by omega), own_ki (by omega) (by omega)⟩
    · have hj' : 3 ≤ j := hj
      unfold own_w2; rw [if_neg (by omega), own_sorthi _ _ _ hj']; unfold own_wl; rw [if_neg (by show ¬ j < 3; omega)]
  ·
    refine ⟨[x, z, y], ⟨?_, ?_, ?_, Nat.le_of_ble_eq_true rfl, Nat.le_of_ble_eq_true rfl⟩, rfl, fun w0 q0 => ?_⟩
    · simp only [List.pairwise_cons, List.mem_cons, List.not_mem_nil, or_false, false_or, List.Pairwise.nil, and_true]
      refine ⟨fun x hx => by rcases hx with rfl | rfl <;> omega, fun x hx => by subst hx; omega, fun x hx => by cases hx⟩
    · intro i hi
      simp only [List.mem_cons, List.not_mem_nil, or_false]
      constructor
      · intro q
        rcases Classical.em (i = x ∨ i = z ∨ i = y) with e | e
        · exact e
        · have z := h0_ i hi (fun y => e (Or.inl y)) (fun y => e (Or.inr (Or.inr y))) (fun y => e (Or.inr (Or.inl y))); rw [z] at q; exact absurd q (by decide)
      · intro q
        rcases q with q | q | q
        · rw [q, f_x]; decide
        · rw [q, f_z]; decide
        · rw [q, f_y]; decide
    · intro i hi
      simp only [List.mem_cons, List.not_mem_nil, or_false] at hi
      omega
    have hl : ([x, z, y] : List Nat).length = 3 := rfl
    rw [hl]
    have k0 : own_wl f [x, z, y] w0 0 = Int64.ofNat (1 * 65536 + x) := by
      unfold own_wl; rw [if_pos (show 0 < ([x, z, y] : List Nat).length by rw [hl]; decide)]; show own_key f x = _; exact own_keyv f f_x (by omega) (by omega)
    have k1 : own_wl f [x, z, y] w0 1 = Int64.ofNat (2 * 65536 + z) := by
      unfold own_wl; rw [if_pos (show 1 < ([x, z, y] : List Nat).length by rw [hl]; decide)]; show own_key f z = _; exact own_keyv f f_z (by omega) (by omega)
    have k2 : own_wl f [x, z, y] w0 2 = Int64.ofNat (1 * 65536 + y) := by
      unfold own_wl; rw [if_pos (show 2 < ([x, z, y] : List Nat).length by rw [hl]; decide)]; show own_key f y = _; exact own_keyv f f_y (by omega) (by omega)
    obtain ⟨s0, s1, s2⟩ := own_s3_021 (w := own_wl f [x, z, y] w0) (by rw [k0, k1]; exact (own_lt64 (by omega) (by omega)).mpr (by omega)) (by rw [k0, k2]; exact (own_lt64 (by omega) (by omega)).mpr (by omega)) (fun q => by rw [k1, k0] at q; exact absurd ((own_lt64 (by omega) (by omega)).mp q) (by omega)) (fun q => by rw [k1, k2] at q; exact absurd ((own_lt64 (by omega) (by omega)).mp q) (by omega)) (fun q => by rw [k2, k0] at q; exact absurd ((own_lt64 (by omega) (by omega)).mp q) (by omega)) (by rw [k2, k1]; exact (own_lt64 (by omega) (by omega)).mpr (by omega))
    refine ⟨fun j hj => ?_, fun j hj => ?_⟩
    · have hj' : j = 0 ∨ j = 1 ∨ j = 2 := by have : j < 3 := hj; omega
      rcases hj' with rfl | rfl | rfl
      · unfold own_w2 own_o2; rw [if_pos (show 0 < 3 by decide), if_pos (show 0 < 3 by decide), s0, k0]; exact ⟨own_kw (by omega) (by omega), own_ki (by omega) (by omega)⟩
      · unfold own_w2 own_o2; rw [if_pos (show 1 < 3 by decide), if_pos (show 1 < 3 by decide), s1, k2]; exact ⟨own_kw (by omega) (by omega), own_ki (by omega) (by omega)⟩
      · unfold own_w2 own_o2; rw [if_pos (show 2 < 3 by decide), if_pos (show 2 < 3 by decide), s2, k1]; exact ⟨own_kw (by omega) (by omega), own_ki (by omega) (by omega)⟩
    · have hj' : 3 ≤ j := hj
      unfold own_w2; rw [if_neg (by omega), own_sorthi _ _ _ hj']; unfold own_wl; rw [if_neg (by show ¬ j < 3; omega)]
  ·
    refine ⟨[x, y, z], ⟨?_, ?_, ?_, Nat.le_of_ble_eq_true rfl, Nat.le_of_ble_eq_true rfl⟩, rfl, fun w0 q0 => ?_⟩
    · simp only [List.pairwise_cons, List.mem_cons, List.not_mem_nil, or_false, false_or, List.Pairwise.nil, and_true]
      refine ⟨fun x hx => by rcases hx with rfl | rfl <;> omega, fun x hx => by subst hx; omega, fun x hx => by cases hx⟩
    · intro i hi
      simp only [List.mem_cons, List.not_mem_nil, or_false]
      constructor
      · intro q
        rcases Classical.em (i = x ∨ i = y ∨ i = z) with e | e
        · exact e
        · have z := h0_ i hi (fun y => e (Or.inl y)) (fun y => e (Or.inr (Or.inl y))) (fun y => e (Or.inr (Or.inr y))); rw [z] at q; exact absurd q (by decide)
      · intro q
        rcases q with q | q | q
        · rw [q, f_x]; decide
        · rw [q, f_y]; decide
        · rw [q, f_z]; decide
    · intro i hi
      simp only [List.mem_cons, List.not_mem_nil, or_false] at hi
      omega
    have hl : ([x, y, z] : List Nat).length = 3 := rfl
    rw [hl]
    have k0 : own_wl f [x, y, z] w0 0 = Int64.ofNat (1 * 65536 + x) := by
      unfold own_wl; rw [if_pos (show 0 < ([x, y, z] : List Nat).length by rw [hl]; decide)]; show own_key f x = _; exact own_keyv f f_x (by omega) (by omega)
    have k1 : own_wl f [x, y, z] w0 1 = Int64.ofNat (1 * 65536 + y) := by
      unfold own_wl; rw [if_pos (show 1 < ([x, y, z] : List Nat).length by rw [hl]; decide)]; show own_key f y = _; exact own_keyv f f_y (by omega) (by omega)
    have k2 : own_wl f [x, y, z] w0 2 = Int64.ofNat (2 * 65536 + z) := by
      unfold own_wl; rw [if_pos (show 2 < ([x, y, z] : List Nat).length by rw [hl]; decide)]; show own_key f z = _; exact own_keyv f f_z (by omega) (by omega)
    obtain ⟨s0, s1, s2⟩ := own_s3_012 (w := own_wl f [x, y, z] w0) (by rw [k0, k1]; exact (own_lt64 (by omega) (by omega)).mpr (by omega)) (by rw [k0, k2]; exact (own_lt64 (by omega) (by omega)).mpr (by omega)) (fun q => by rw [k1, k0] at q; exact absurd ((own_lt64 (by omega) (by omega)).mp q) (by omega)) (by rw [k1, k2]; exact (own_lt64 (by omega) (by omega)).mpr (by omega)) (fun q => by rw [k2, k0] at q; exact absurd ((own_lt64 (by omega) (by omega)).mp q) (by omega)) (fun q => by rw [k2, k1] at q; exact absurd ((own_lt64 (by omega) (by omega)).mp q) (by omega))
    refine ⟨fun j hj => ?_, fun j hj => ?_⟩
    · have hj' : j = 0 ∨ j = 1 ∨ j = 2 := by have : j < 3 := hj; omega
      rcases hj' with rfl | rfl | rfl
      · unfold own_w2 own_o2; rw [if_pos (show 0 < 3 by decide), if_pos (show 0 < 3 by decide), s0, k0]; exact ⟨own_kw (by omega) (by omega), own_ki (by omega) (by omega)⟩
      · unfold own_w2 own_o2; rw [if_pos (show 1 < 3 by decide), if_pos (show 1 < 3 by decide), s1, k1]; exact ⟨own_kw (by omega) (by omega), own_ki (by omega) (by omega)⟩
      · unfold own_w2 own_o2; rw [if_pos (show 2 < 3 by decide), if_pos (show 2 < 3 by decide), s2, k2]; exact ⟨own_kw (by omega) (by omega), own_ki (by omega) (by omega)⟩
    · have hj' : 3 ≤ j := hj
      unfold own_w2; rw [if_neg (by omega), own_sorthi _ _ _ hj']; unfold own_wl; rw [if_neg (by show ¬ j < 3; omega)]
theorem own_r4 {f : Nat → Int32} {x z y : Nat} (hxz : x ≠ z) (hxy : x ≠ y) (hzy : z ≠ y) (lx : x < 256) (ly : y < 256) (lz : z < 256) (f_x : f x = Int32.ofNat 1) (f_E : f 256 = Int32.ofNat 1) (f_z : f z = Int32.ofNat 2) (f_y : f y = Int32.ofNat 4) (h0_ : ∀ i, i < 257 → i ≠ x → i ≠ 256 → i ≠ z → i ≠ y → f i = 0) : own_res f [x, 256, z, y] [1, 1, 2, 4] := by
  rcases (show (x < z ∧ z < y) ∨ (x < y ∧ y < z) ∨ (z < x ∧ x < y) ∨ (z < y ∧ y < x) ∨ (y < x ∧ x < z) ∨ (y < z ∧ z < x) by omega) with c | c | c | c | c | c
  ·
    refine ⟨[x, z, y, 256], ⟨?_, ?_, ?_, Nat.le_of_ble_eq_true rfl, Nat.le_of_ble_eq_true rfl⟩, rfl, fun w0 q0 => ?_⟩
    · simp only [List.pairwise_cons, List.mem_cons, List.not_mem_nil, or_false, false_or, List.Pairwise.nil, and_true]
      refine ⟨fun x hx => by rcases hx with rfl | rfl | rfl <;> omega, fun x hx => by rcases hx with rfl | rfl <;> omega, fun x hx => by subst hx; omega, fun x hx => by cases hx⟩
    · intro i hi
      simp only [List.mem_cons, List.not_mem_nil, or_false]
      constructor
      · intro q
        rcases Classical.em (i = x ∨ i = z ∨ i = y ∨ i = 256) with e | e
        · exact e
        · have z := h0_ i hi (fun y => e (Or.inl y)) (fun y => e (Or.inr (Or.inr (Or.inr y)))) (fun y => e (Or.inr (Or.inl y))) (fun y => e (Or.inr (Or.inr (Or.inl y)))); rw [z] at q; exact absurd q (by decide)
      · intro q
        rcases q with q | q | q | q
        · rw [q, f_x]; decide
        · rw [q, f_z]; decide
        · rw [q, f_y]; decide
        · rw [q, f_E]; decide
    · intro i hi
      simp only [List.mem_cons, List.not_mem_nil, or_false] at hi
      omega
    have hl : ([x, z, y, 256] : List Nat).length = 4 := rfl
    rw [hl]
    have k0 : own_wl f [x, z, y, 256] w0 0 = Int64.ofNat (1 * 65536 + x) := by
      unfold own_wl; rw [if_pos (show 0 < ([x, z, y, 256] : List Nat).length by rw [hl]; decide)]; show own_key f x = _; exact own_keyv f f_x (by omega) (by omega)
    have k1 : own_wl f [x, z, y, 256] w0 1 = Int64.ofNat (2 * 65536 + z) := by
      unfold own_wl; rw [if_pos (show 1 < ([x, z, y, 256] : List Nat).length by rw [hl]; decide)]; show own_key f z = _; exact own_keyv f f_z (by omega) (by omega)
    have k2 : own_wl f [x, z, y, 256] w0 2 = Int64.ofNat (4 * 65536 + y) := by
      unfold own_wl; rw [if_pos (show 2 < ([x, z, y, 256] : List Nat).length by rw [hl]; decide)]; show own_key f y = _; exact own_keyv f f_y (by omega) (by omega)
    have k3 : own_wl f [x, z, y, 256] w0 3 = Int64.ofNat (1 * 65536 + 256) := by
      unfold own_wl; rw [if_pos (show 3 < ([x, z, y, 256] : List Nat).length by rw [hl]; decide)]; show own_key f 256 = _; exact own_keyv f f_E (by omega) (by omega)
    obtain ⟨s0, s1, s2, s3⟩ := own_s4_0231 (w := own_wl f [x, z, y, 256] w0) (by rw [k0, k1]; exact (own_lt64 (by omega) (by omega)).mpr (by omega)) (by rw [k0, k2]; exact (own_lt64 (by omega) (by omega)).mpr (by omega)) (by rw [k0, k3]; exact (own_lt64 (by omega) (by omega)).mpr (by omega)) (fun q => by rw [k1, k0] at q; exact absurd ((own_lt64 (by omega) (by omega)).mp q) (by omega)) (by rw [k1, k2]; exact (own_lt64 (by omega) (by omega)).mpr (by omega)) (fun q => by rw [k1, k3] at q; exact absurd ((own_lt64 (by omega) (by omega)).mp q) (by omega)) (fun q => by rw [k2, k0] at q; exact absurd ((own_lt64 (by omega) (by omega)).mp q) (by omega)) (fun q => by rw [k2, k1] at q; exact absurd ((own_lt64 (by omega) (by omega)).mp q) (by omega)) (fun q => by rw [k2, k3] at q; exact absurd ((own_lt64 (by omega) (by omega)).mp q) (by omega)) (fun q => by rw [k3, k0] at q; exact absurd ((own_lt64 (by omega) (by omega)).mp q) (by omega)) (by rw [k3, k1]; exact (own_lt64 (by omega) (by omega)).mpr (by omega)) (by rw [k3, k2]; exact (own_lt64 (by omega) (by omega)).mpr (by omega))
    refine ⟨fun j hj => ?_, fun j hj => ?_⟩
    · have hj' : j = 0 ∨ j = 1 ∨ j = 2 ∨ j = 3 := by have : j < 4 := hj; omega
      rcases hj' with rfl | rfl | rfl | rfl
      · unfold own_w2 own_o2; rw [if_pos (show 0 < 4 by decide), if_pos (show 0 < 4 by decide), s0, k0]; exact ⟨own_kw (by omega) (by omega), own_ki (by omega) (by omega)⟩
      · unfold own_w2 own_o2; rw [if_pos (show 1 < 4 by decide), if_pos (show 1 < 4 by decide), s1, k3]; exact ⟨own_kw (by omega) (by omega), own_ki (by omega) (by omega)⟩
      · unfold own_w2 own_o2; rw [if_pos (show 2 < 4 by decide), if_pos (show 2 < 4 by decide), s2, k1]; exact ⟨own_kw (by omega) (by omega), own_ki (by omega) (by omega)⟩
      · unfold own_w2 own_o2; rw [if_pos (show 3 < 4 by decide), if_pos (show 3 < 4 by decide), s3, k2]; exact ⟨own_kw (by omega) (by omega), own_ki (by omega) (by omega)⟩
    · have hj' : 4 ≤ j := hj
      unfold own_w2; rw [if_neg (by omega), own_sorthi _ _ _ hj']; unfold own_wl; rw [if_neg (by show ¬ j < 4; omega)]
  ·
    refine ⟨[x, y, z, 256], ⟨?_, ?_, ?_, Nat.le_of_ble_eq_true rfl, Nat.le_of_ble_eq_true rfl⟩, rfl, fun w0 q0 => ?_⟩
    · simp only [List.pairwise_cons, List.mem_cons, List.not_mem_nil, or_false, false_or, List.Pairwise.nil, and_true]
      refine ⟨fun x hx => by rcases hx with rfl | rfl | rfl <;> omega, fun x hx => by rcases hx with rfl | rfl <;> omega, fun x hx => by subst hx; omega, fun x hx => by cases hx⟩
    · intro i hi
      simp only [List.mem_cons, List.not_mem_nil, or_false]
      constructor
      · intro q
        rcases Classical.em (i = x ∨ i = y ∨ i = z ∨ i = 256) with e | e
        · exact e
        · have z := h0_ i hi (fun y => e (Or.inl y)) (fun y => e (Or.inr (Or.inr (Or.inr y)))) (fun y => e (Or.inr (Or.inr (Or.inl y)))) (fun y => e (Or.inr (Or.inl y))); rw [z] at q; exact absurd q (by decide)
      · intro q
        rcases q with q | q | q | q
        · rw [q, f_x]; decide
        · rw [q, f_y]; decide
        · rw [q, f_z]; decide
        · rw [q, f_E]; decide
    · intro i hi
      simp only [List.mem_cons, List.not_mem_nil, or_false] at hi
      omega
    have hl : ([x, y, z, 256] : List Nat).length = 4 := rfl
    rw [hl]
    have k0 : own_wl f [x, y, z, 256] w0 0 = Int64.ofNat (1 * 65536 + x) := by
      unfold own_wl; rw [if_pos (show 0 < ([x, y, z, 256] : List Nat).length by rw [hl]; decide)]; show own_key f x = _; exact own_keyv f f_x (by omega) (by omega)
    have k1 : own_wl f [x, y, z, 256] w0 1 = Int64.ofNat (4 * 65536 + y) := by
      unfold own_wl; rw [if_pos (show 1 < ([x, y, z, 256] : List Nat).length by rw [hl]; decide)]; show own_key f y = _; exact own_keyv f f_y (by omega) (by omega)
    have k2 : own_wl f [x, y, z, 256] w0 2 = Int64.ofNat (2 * 65536 + z) := by
      unfold own_wl; rw [if_pos (show 2 < ([x, y, z, 256] : List Nat).length by rw [hl]; decide)]; show own_key f z = _; exact own_keyv f f_z (by omega) (by omega)
    have k3 : own_wl f [x, y, z, 256] w0 3 = Int64.ofNat (1 * 65536 + 256) := by
      unfold own_wl; rw [if_pos (show 3 < ([x, y, z, 256] : List Nat).length by rw [hl]; decide)]; show own_key f 256 = _; exact own_keyv f f_E (by omega) (by omega)
    obtain ⟨s0, s1, s2, s3⟩ := own_s4_0321 (w := own_wl f [x, y, z, 256] w0) (by rw [k0, k1]; exact (own_lt64 (by omega) (by omega)).mpr (by omega)) (by rw [k0, k2]; exact (own_lt64 (by omega) (by omega)).mpr (by omega)) (by rw [k0, k3]; exact (own_lt64 (by omega) (by omega)).mpr (by omega)) (fun q => by rw [k1, k0] at q; exact absurd ((own_lt64 (by omega) (by omega)).mp q) (by omega)) (fun q => by rw [k1, k2] at q; exact absurd ((own_lt64 (by omega) (by omega)).mp q) (by omega)) (fun q => by rw [k1, k3] at q; exact absurd ((own_lt64 (by omega) (by omega)).mp q) (by omega)) (fun q => by rw [k2, k0] at q; exact absurd ((own_lt64 (by omega) (by omega)).mp q) (by omega)) (by rw [k2, k1]; exact (own_lt64 (by omega) (by omega)).mpr (by omega)) (fun q => by rw [k2, k3] at q; exact absurd ((own_lt64 (by omega) (by omega)).mp q) (by omega)) (fun q => by rw [k3, k0] at q; exact absurd ((own_lt64 (by omega) (by omega)).mp q) (by omega)) (by rw [k3, k1]; exact (own_lt64 (by omega) (by omega)).mpr (by omega)) (by rw [k3, k2]; exact (own_lt64 (by omega) (by omega)).mpr (by omega))
    refine ⟨fun j hj => ?_, fun j hj => ?_⟩
    · have hj' : j = 0 ∨ j = 1 ∨ j = 2 ∨ j = 3 := by have : j < 4 := hj; omega
      rcases hj' with rfl | rfl | rfl | rfl
      · unfold own_w2 own_o2; rw [if_pos (show 0 < 4 by decide), if_pos (show 0 < 4 by decide), s0, k0]; exact ⟨own_kw (by omega) (by omega), own_ki (by omega) (by omega)⟩
      · unfold own_w2 own_o2; rw [if_pos (show 1 < 4 by decide), if_pos (show 1 < 4 by decide), s1, k3]; exact ⟨own_kw (by omega) (by omega), own_ki (by omega) (by omega)⟩
      · unfold own_w2 own_o2; rw [if_pos (show 2 < 4 by decide), if_pos (show 2 < 4 by decide), s2, k2]; exact ⟨own_kw (by omega) (by omega), own_ki (by omega) (by omega)⟩
      · unfold own_w2 own_o2; rw [if_pos (show 3 < 4 by decide), if_pos (show 3 < 4 by decide), s3, k1]; exact ⟨own_kw (by omega) (by omega), own_ki (by omega) (by omega)⟩
    · have hj' : 4 ≤ j := hj
      unfold own_w2; rw [if_neg (by omega), own_sorthi _ _ _ hj']; unfold own_wl; rw [if_neg (by show ¬ j < 4; omega)]
  ·
    refine ⟨[z, x, y, 256], ⟨?_, ?_, ?_, Nat.le_of_ble_eq_true rfl, Nat.le_of_ble_eq_true rfl⟩, rfl, fun w0 q0 => ?_⟩
    · simp only [List.pairwise_cons, List.mem_cons, List.not_mem_nil, or_false, false_or, List.Pairwise.nil, and_true]
      refine ⟨fun x hx => by rcases hx with rfl | rfl | rfl <;> omega, fun x hx => by rcases hx with rfl | rfl <;> omega, fun x hx => by subst hx; omega, fun x hx => by cases hx⟩
    · intro i hi
      simp only [List.mem_cons, List.not_mem_nil, or_false]
      constructor
      · intro q
        rcases Classical.em (i = z ∨ i = x ∨ i = y ∨ i = 256) with e | e
        · exact e
        · have z := h0_ i hi (fun y => e (Or.inr (Or.inl y))) (fun y => e (Or.inr (Or.inr (Or.inr y)))) (fun y => e (Or.inl y)) (fun y => e (Or.inr (Or.inr (Or.inl y)))); rw [z] at q; exact absurd q (by decide)
      · intro q
        rcases q with q | q | q | q
        · rw [q, f_z]; decide
        · rw [q, f_x]; decide
        · rw [q, f_y]; decide
        · rw [q, f_E]; decide
    · intro i hi
      simp only [List.mem_cons, List.not_mem_nil, or_false] at hi
      omega
    have hl : ([z, x, y, 256] : List Nat).length = 4 := rfl
    rw [hl]
    have k0 : own_wl f [z, x, y, 256] w0 0 = Int64.ofNat (2 * 65536 + z) := by
      unfold own_wl; rw [if_pos (show 0 < ([z, x, y, 256] : List Nat).length by rw [hl]; decide)]; show own_key f z = _; exact own_keyv f f_z (by omega) (by omega)
    have k1 : own_wl f [z, x, y, 256] w0 1 = Int64.ofNat (1 * 65536 + x) := by
      unfold own_wl; rw [if_pos (show 1 < ([z, x, y, 256] : List Nat).length by rw [hl]; decide)]; show own_key f x = _; exact own_keyv f f_x (by omega) (by omega)
    have k2 : own_wl f [z, x, y, 256] w0 2 = Int64.ofNat (4 * 65536 + y) := by
      unfold own_wl; rw [if_pos (show 2 < ([z, x, y, 256] : List Nat).length by rw [hl]; decide)]; show own_key f y = _; exact own_keyv f f_y (by omega) (by omega)
    have k3 : own_wl f [z, x, y, 256] w0 3 = Int64.ofNat (1 * 65536 + 256) := by
      unfold own_wl; rw [if_pos (show 3 < ([z, x, y, 256] : List Nat).length by rw [hl]; decide)]; show own_key f 256 = _; exact own_keyv f f_E (by omega) (by omega)
    obtain ⟨s0, s1, s2, s3⟩ := own_s4_2031 (w := own_wl f [z, x, y, 256] w0) (fun q => by rw [k0, k1] at q; exact absurd ((own_lt64 (by omega) (by omega)).mp q) (by omega)) (by rw [k0, k2]; exact (own_lt64 (by omega) (by omega)).mpr (by omega)) (fun q => by rw [k0, k3] at q; exact absurd ((own_lt64 (by omega) (by omega)).mp q) (by omega)) (by rw [k1, k0]; exact (own_lt64 (by omega) (by omega)).mpr (by omega)) (by rw [k1, k2]; exact (own_lt64 (by omega) (by omega)).mpr (by omega)) (by rw [k1, k3]; exact (own_lt64 (by omega) (by omega)).mpr (by omega)) (fun q => by rw [k2, k0] at q; exact absurd ((own_lt64 (by omega) (by omega)).mp q) (by omega)) (fun q => by rw [k2, k1] at q; exact absurd ((own_lt64 (by omega) (by omega)).mp q) (by omega)) (fun q => by rw [k2, k3] at q; exact absurd ((own_lt64 (by omega) (by omega)).mp q) (by omega)) (by rw [k3, k0]; exact (own_lt64 (by omega) (by omega)).mpr (by omega)) (fun q => by rw [k3, k1] at q; exact absurd ((own_lt64 (by omega) (by omega)).mp q) (by omega)) (by rw [k3, k2]; exact (own_lt64 (by omega) (by omega)).mpr (by omega))
    refine ⟨fun j hj => ?_, fun j hj => ?_⟩
    · have hj' : j = 0 ∨ j = 1 ∨ j = 2 ∨ j = 3 := by have : j < 4 := hj; omega
      rcases hj' with rfl | rfl | rfl | rfl
      · unfold own_w2 own_o2; rw [if_pos (show 0 < 4 by decide), if_pos (show 0 < 4 by decide), s0, k1]; exact ⟨own_kw (by omega) (by omega), own_ki (by omega) (by omega)⟩
      · unfold own_w2 own_o2; rw [if_pos (show 1 < 4 by decide), if_pos (show 1 < 4 by decide), s1, k3]; exact ⟨own_kw (by omega) (by omega), own_ki (by omega) (by omega)⟩
      · unfold own_w2 own_o2; rw [if_pos (show 2 < 4 by decide), if_pos (show 2 < 4 by decide), s2, k0]; exact ⟨own_kw (by omega) (by omega), own_ki (by omega) (by omega)⟩
      · unfold own_w2 own_o2; rw [if_pos (show 3 < 4 by decide), if_pos (show 3 < 4 by decide), s3, k2]; exact ⟨own_kw (by omega) (by omega), own_ki (by omega) (by omega)⟩
    · have hj' : 4 ≤ j := hj
      unfold own_w2; rw [if_neg (by omega), own_sorthi _ _ _ hj']; unfold own_wl; rw [if_neg (by show ¬ j < 4; omega)]
  ·
    refine ⟨[z, y, x, 256], ⟨?_, ?_, ?_, Nat.le_of_ble_eq_true rfl, Nat.le_of_ble_eq_true rfl⟩, rfl, fun w0 q0 => ?_⟩
    · simp only [List.pairwise_cons, List.mem_cons, List.not_mem_nil, or_false, false_or, List.Pairwise.nil, and_true]
      refine ⟨fun x hx => by rcases hx with rfl | rfl | rfl <;> omega, fun x hx => by rcases hx with rfl | rfl <;> omega, fun x hx => by subst hx; omega, fun x hx => by cases hx⟩
    · intro i hi
      simp only [List.mem_cons, List.not_mem_nil, or_false]
      constructor
      · intro q
        rcases Classical.em (i = z ∨ i = y ∨ i = x ∨ i = 256) with e | e
        · exact e
        · have z := h0_ i hi (fun y => e (Or.inr (Or.inr (Or.inl y)))) (fun y => e (Or.inr (Or.inr (Or.inr y)))) (fun y => e (Or.inl y)) (fun y => e (Or.inr (Or.inl y))); rw [z] at q; exact absurd q (by decide)
      · intro q
        rcases q with q | q | q | q
        · rw [q, f_z]; decide
        · rw [q, f_y]; decide
        · rw [q, f_x]; decide
        · rw [q, f_E]; decide
    · intro i hi
      simp only [List.mem_cons, List.not_mem_nil, or_false] at hi
      omega
    have hl : ([z, y, x, 256] : List Nat).length = 4 := rfl
    rw [hl]
    have k0 : own_wl f [z, y, x, 256] w0 0 = Int64.ofNat (2 * 65536 + z) := by
      unfold own_wl; rw [if_pos (show 0 < ([z, y, x, 256] : List Nat).length by rw [hl]; decide)]; show own_key f z = _; exact own_keyv f f_z (by omega) (by omega)
    have k1 : own_wl f [z, y, x, 256] w0 1 = Int64.ofNat (4 * 65536 + y) := by
      unfold own_wl; rw [if_pos (show 1 < ([z, y, x, 256] : List Nat).length by rw [hl]; decide)]; show own_key f y = _; exact own_keyv f f_y (by omega) (by omega)
    have k2 : own_wl f [z, y, x, 256] w0 2 = Int64.ofNat (1 * 65536 + x) := by
      unfold own_wl; rw [if_pos (show 2 < ([z, y, x, 256] : List Nat).length by rw [hl]; decide)]; show own_key f x = _; exact own_keyv f f_x (by omega) (by omega)
    have k3 : own_wl f [z, y, x, 256] w0 3 = Int64.ofNat (1 * 65536 + 256) := by
      unfold own_wl; rw [if_pos (show 3 < ([z, y, x, 256] : List Nat).length by rw [hl]; decide)]; show own_key f 256 = _; exact own_keyv f f_E (by omega) (by omega)
    obtain ⟨s0, s1, s2, s3⟩ := own_s4_2301 (w := own_wl f [z, y, x, 256] w0) (by rw [k0, k1]; exact (own_lt64 (by omega) (by omega)).mpr (by omega)) (fun q => by rw [k0, k2] at q; exact absurd ((own_lt64 (by omega) (by omega)).mp q) (by omega)) (fun q => by rw [k0, k3] at q; exact absurd ((own_lt64 (by omega) (by omega)).mp q) (by omega)) (fun q => by rw [k1, k0] at q; exact absurd ((own_lt64 (by omega) (by omega)).mp q) (by omega)) (fun q => by rw [k1, k2] at q; exact absurd ((own_lt64 (by omega) (by omega)).mp q) (by omega)) (fun q => by rw [k1, k3] at q; exact absurd ((own_lt64 (by omega) (by omega)).mp q) (by omega)) (by rw [k2, k0]; exact (own_lt64 (by omega) (by omega)).mpr (by omega)) (by rw [k2, k1]; exact (own_lt64 (by omega) (by omega)).mpr (by omega)) (by rw [k2, k3]; exact (own_lt64 (by omega) (by omega)).mpr (by omega)) (by rw [k3, k0]; exact (own_lt64 (by omega) (by omega)).mpr (by omega)) (by rw [k3, k1]; exact (own_lt64 (by omega) (by omega)).mpr (by omega)) (fun q => by rw [k3, k2] at q; exact absurd ((own_lt64 (by omega) (by omega)).mp q) (by omega))
    refine ⟨fun j hj => ?_, fun j hj => ?_⟩
    · have hj' : j = 0 ∨ j = 1 ∨ j = 2 ∨ j = 3 := by have : j < 4 := hj; omega
      rcases hj' with rfl | rfl | rfl | rfl
      · unfold own_w2 own_o2; rw [if_pos (show 0 < 4 by decide), if_pos (show 0 < 4 by decide), s0, k2]; exact ⟨own_kw (by omega) (by omega), own_ki (by omega) (by omega)⟩
      · unfold own_w2 own_o2; rw [if_pos (show 1 < 4 by decide), if_pos (show 1 < 4 by decide), s1, k3]; exact ⟨own_kw (by omega) (by omega), own_ki (by omega) (by omega)⟩
      · unfold own_w2 own_o2; rw [if_pos (show 2 < 4 by decide), if_pos (show 2 < 4 by decide), s2, k0]; exact ⟨own_kw (by omega) (by omega), own_ki (by omega) (by omega)⟩
      · unfold own_w2 own_o2; rw [if_pos (show 3 < 4 by decide), if_pos (show 3 < 4 by decide), s3, k1]; exact ⟨own_kw (by omega) (by omega), own_ki (by omega) (by omega)⟩
    · have hj' : 4 ≤ j := hj
      unfold own_w2; rw [if_neg (by omega), own_sorthi _ _ _ hj']; unfold own_wl; rw [if_neg (by show ¬ j < 4; omega)]
  ·
    refine ⟨[y, x, z, 256], ⟨?_, ?_, ?_, Nat.le_of_ble_eq_true rfl, Nat.le_of_ble_eq_true rfl⟩, rfl, fun w0 q0 => ?_⟩
    · simp only [List.pairwise_cons, List.mem_cons, List.not_mem_nil, or_false, false_or, List.Pairwise.nil, and_true]
      refine ⟨fun x hx => by rcases hx with rfl | rfl | rfl <;> omega, fun x hx => by rcases hx with rfl | rfl <;> omega, fun x hx => by subst hx; omega, fun x hx => by cases hx⟩
    · intro i hi
      simp only [List.mem_cons, List.not_mem_nil, or_false]
      constructor
      · intro q
        rcases Classical.em (i = y ∨ i = x ∨ i = z ∨ i = 256) with e | e
        · exact e
        · have z := h0_ i hi (fun y => e (Or.inr (Or.inl y))) (fun y => e (Or.inr (Or.inr (Or.inr y)))) (fun y => e (Or.inr (Or.inr (Or.inl y)))) (fun y => e (Or.inl y)); rw [z] at q; exact absurd q (by decide)
      · intro q
        rcases q with q | q | q | q
        · rw [q, f_y]; decide
        · rw [q, f_x]; decide
        · rw [q, f_z]; decide
        · rw [q, f_E]; decide
    · intro i hi
      simp only [List.mem_cons, List.not_mem_nil, or_false] at hi
      omega
    have hl : ([y, x, z, 256] : List Nat).length = 4 := rfl
    rw [hl]
    have k0 : own_wl f [y, x, z, 256] w0 0 = Int64.ofNat (4 * 65536 + y) := by
      unfold own_wl; rw [if_pos (show 0 < ([y, x, z, 256] : List Nat).length by rw [hl]; decide)]; show own_key f y = _; exact own_keyv f f_y (by omega) (by omega)
    have k1 : own_wl f [y, x, z, 256] w0 1 = Int64.ofNat (1 * 65536 + x) := by
      unfold own_wl; rw [if_pos (show 1 < ([y, x, z, 256] : List Nat).length by rw [hl]; decide)]; show own_key f x = _; exact own_keyv f f_x (by omega) (by omega)
    have k2 : own_wl f [y, x, z, 256] w0 2 = Int64.ofNat (2 * 65536 + z) := by
      unfold own_wl; rw [if_pos (show 2 < ([y, x, z, 256] : List Nat).length by rw [hl]; decide)]; show own_key f z = _; exact own_keyv f f_z (by omega) (by omega)
    have k3 : own_wl f [y, x, z, 256] w0 3 = Int64.ofNat (1 * 65536 + 256) := by
      unfold own_wl; rw [if_pos (show 3 < ([y, x, z, 256] : List Nat).length by rw [hl]; decide)]; show own_key f 256 = _; exact own_keyv f f_E (by omega) (by omega)
    obtain ⟨s0, s1, s2, s3⟩ := own_s4_3021 (w := own_wl f [y, x, z, 256] w0) (fun q => by rw [k0, k1] at q; exact absurd ((own_lt64 (by omega) (by omega)).mp q) (by omega)) (fun q => by rw [k0, k2] at q; exact absurd ((own_lt64 (by omega) (by omega)).mp q) (by omega)) (fun q => by rw [k0, k3] at q; exact absurd ((own_lt64 (by omega) (by omega)).mp q) (by omega)) (by rw [k1, k0]; exact (own_lt64 (by omega) (by omega)).mpr (by omega)) (by rw [k1, k2]; exact (own_lt64 (by omega) (by omega)).mpr (by omega)) (by rw [k1, k3]; exact (own_lt64 (by omega) (by omega)).mpr (by omega)) (by rw [k2, k0]; exact (own_lt64 (by omega) (by omega)).mpr (by omega)) (fun q => by rw [k2, k1] at q; exact absurd ((own_lt64 (by omega) (by omega)).mp q) (by omega)) (fun q => by rw [k2, k3] at q; exact absurd ((own_lt64 (by omega) (by omega)).mp q) (by omega)) (by rw [k3, k0]; exact (own_lt64 (by omega) (by omega)).mpr (by omega)) (fun q => by rw [k3, k1] at q; exact absurd ((own_lt64 (by omega) (by omega)).mp q) (by omega)) (by rw [k3, k2]; exact (own_lt64 (by omega) (by omega)).mpr (by omega))
    refine ⟨fun j hj => ?_, fun j hj => ?_⟩
    · have hj' : j = 0 ∨ j = 1 ∨ j = 2 ∨ j = 3 := by have : j < 4 := hj; omega
      rcases hj' with rfl | rfl | rfl | rfl
      · unfold own_w2 own_o2; rw [if_pos (show 0 < 4 by decide), if_pos (show 0 < 4 by decide), s0, k1]; exact ⟨own_kw (by omega) (by omega), own_ki (by omega) (by omega)⟩
      · unfold own_w2 own_o2; rw [if_pos (show 1 < 4 by decide), if_pos (show 1 < 4 by decide), s1, k3]; exact ⟨own_kw (by omega) (by omega), own_ki (by omega) (by omega)⟩
      · unfold own_w2 own_o2; rw [if_pos (show 2 < 4 by decide), if_pos (show 2 < 4 by decide), s2, k2]; exact ⟨own_kw (by omega) (by omega), own_ki (by omega) (by omega)⟩
      · unfold own_w2 own_o2; rw [if_pos (show 3 < 4 by decide), if_pos (show 3 < 4 by decide), s3, k0]; exact ⟨own_kw (by omega) (by omega), own_ki (by omega) (by omega)⟩
    · have hj' : 4 ≤ j := hj
      unfold own_w2; rw [if_neg (by omega), own_sorthi _ _ _ hj']; unfold own_wl; rw [if_neg (by show ¬ j < 4; omega)]
  ·
    refine ⟨[y, z, x, 256], ⟨?_, ?_, ?_, Nat.le_of_ble_eq_true rfl, Nat.le_of_ble_eq_true rfl⟩, rfl, fun w0 q0 => ?_⟩
    · simp only [List.pairwise_cons, List.mem_cons, List.not_mem_nil, or_false, false_or, List.Pairwise.nil, and_true]
      refine ⟨fun x hx => by rcases hx with rfl | rfl | rfl <;> omega, fun x hx => by rcases hx with rfl | rfl <;> omega, fun x hx => by subst hx; omega, fun x hx => by cases hx⟩
    · intro i hi
      simp only [List.mem_cons, List.not_mem_nil, or_false]
      constructor
      · intro q
        rcases Classical.em (i = y ∨ i = z ∨ i = x ∨ i = 256) with e | e
        · exact e
        · have z := h0_ i hi (fun y => e (Or.inr (Or.inr (Or.inl y)))) (fun y => e (Or.inr (Or.inr (Or.inr y)))) (fun y => e (Or.inr (Or.inl y))) (fun y => e (Or.inl y)); rw [z] at q; exact absurd q (by decide)
      · intro q
        rcases q with q | q | q | q
        · rw [q, f_y]; decide
        · rw [q, f_z]; decide
        · rw [q, f_x]; decide
        · rw [q, f_E]; decide
    · intro i hi
      simp only [List.mem_cons, List.not_mem_nil, or_false] at hi
      omega
    have hl : ([y, z, x, 256] : List Nat).length = 4 := rfl
    rw [hl]
    have k0 : own_wl f [y, z, x, 256] w0 0 = Int64.ofNat (4 * 65536 + y) := by
      unfold own_wl; rw [if_pos (show 0 < ([y, z, x, 256] : List Nat).length by rw [hl]; decide)]; show own_key f y = _; exact own_keyv f f_y (by omega) (by omega)
    have k1 : own_wl f [y, z, x, 256] w0 1 = Int64.ofNat (2 * 65536 + z) := by
      unfold own_wl; rw [if_pos (show 1 < ([y, z, x, 256] : List Nat).length by rw [hl]; decide)]; show own_key f z = _; exact own_keyv f f_z (by omega) (by omega)
    have k2 : own_wl f [y, z, x, 256] w0 2 = Int64.ofNat (1 * 65536 + x) := by
      unfold own_wl; rw [if_pos (show 2 < ([y, z, x, 256] : List Nat).length by rw [hl]; decide)]; show own_key f x = _; exact own_keyv f f_x (by omega) (by omega)
    have k3 : own_wl f [y, z, x, 256] w0 3 = Int64.ofNat (1 * 65536 + 256) := by
      unfold own_wl; rw [if_pos (show 3 < ([y, z, x, 256] : List Nat).length by rw [hl]; decide)]; show own_key f 256 = _; exact own_keyv f f_E (by omega) (by omega)
    obtain ⟨s0, s1, s2, s3⟩ := own_s4_3201 (w := own_wl f [y, z, x, 256] w0) (fun q => by rw [k0, k1] at q; exact absurd ((own_lt64 (by omega) (by omega)).mp q) (by omega)) (fun q => by rw [k0, k2] at q; exact absurd ((own_lt64 (by omega) (by omega)).mp q) (by omega)) (fun q => by rw [k0, k3] at q; exact absurd ((own_lt64 (by omega) (by omega)).mp q) (by omega)) (by rw [k1, k0]; exact (own_lt64 (by omega) (by omega)).mpr (by omega)) (fun q => by rw [k1, k2] at q; exact absurd ((own_lt64 (by omega) (by omega)).mp q) (by omega)) (fun q => by rw [k1, k3] at q; exact absurd ((own_lt64 (by omega) (by omega)).mp q) (by omega)) (by rw [k2, k0]; exact (own_lt64 (by omega) (by omega)).mpr (by omega)) (by rw [k2, k1]; exact (own_lt64 (by omega) (by omega)).mpr (by omega)) (by rw [k2, k3]; exact (own_lt64 (by omega) (by omega)).mpr (by omega)) (by rw [k3, k0]; exact (own_lt64 (by omega) (by omega)).mpr (by omega)) (by rw [k3, k1]; exact (own_lt64 (by omega) (by omega)).mpr (by omega)) (fun q => by rw [k3, k2] at q; exact absurd ((own_lt64 (by omega) (by omega)).mp q) (by omega))
    refine ⟨fun j hj => ?_, fun j hj => ?_⟩
    · have hj' : j = 0 ∨ j = 1 ∨ j = 2 ∨ j = 3 := by have : j < 4 := hj; omega
      rcases hj' with rfl | rfl | rfl | rfl
      · unfold own_w2 own_o2; rw [if_pos (show 0 < 4 by decide), if_pos (show 0 < 4 by decide), s0, k2]; exact ⟨own_kw (by omega) (by omega), own_ki (by omega) (by omega)⟩
      · unfold own_w2 own_o2; rw [if_pos (show 1 < 4 by decide), if_pos (show 1 < 4 by decide), s1, k3]; exact ⟨own_kw (by omega) (by omega), own_ki (by omega) (by omega)⟩
      · unfold own_w2 own_o2; rw [if_pos (show 2 < 4 by decide), if_pos (show 2 < 4 by decide), s2, k1]; exact ⟨own_kw (by omega) (by omega), own_ki (by omega) (by omega)⟩
      · unfold own_w2 own_o2; rw [if_pos (show 3 < 4 by decide), if_pos (show 3 < 4 by decide), s3, k0]; exact ⟨own_kw (by omega) (by omega), own_ki (by omega) (by omega)⟩
    · have hj' : 4 ≤ j := hj
      unfold own_w2; rw [if_neg (by omega), own_sorthi _ _ _ hj']; unfold own_wl; rw [if_neg (by show ¬ j < 4; omega)]
theorem own_cvv {c L : Nat} (hc : c < 512) (hL : L < 10) : own_cv c L = Int32.ofNat (16 * c + L) := by
  have t : ∀ (a : Fin 512) (b : Fin 10), own_cv a.val b.val = Int32.ofNat (16 * a.val + b.val) := by decide +kernel
  exact t ⟨c, hc⟩ ⟨L, hL⟩
theorem own_15 {c L : Nat} (hc : c < 512) (hL : L < 10) : Int32.ofNat (16 * c + L) &&& (15 : Int32) = Int32.ofNat L := by
  have t : ∀ (a : Fin 512) (b : Fin 10), Int32.ofNat (16 * a.val + b.val) &&& (15 : Int32) = Int32.ofNat b.val := by decide +kernel
  exact t ⟨c, hc⟩ ⟨L, hL⟩
theorem own_ctc {f g : Nat → Int32} {len : Int32} : ∀ (n : Nat), (∀ i, i < n → (f i = len ↔ g i = len)) → own_ct f len n = own_ct g len n
  | 0, _ => rfl
  | n + 1, h => by
    show own_ct f len n + _ = own_ct g len n + _
    rw [own_ctc n fun i hi => h i (by omega)]
    have q := h n (by omega)
    by_cases e : f n = len
    · rw [if_pos e, if_pos (q.mp e)]
    · rw [if_neg e, if_neg (fun z => e (q.mpr z))]
theorem own_ctlt {f : Nat → Int32} {len : Int32} {j n : Nat} (hj : j < n) (h : f j = len) : own_ct f len j < own_ct f len n := by
  have a := own_cty h
  have b := own_ctm f len (j + 1) (n - (j + 1))
  rw [show j + 1 + (n - (j + 1)) = n by omega] at b
  omega
/-- the codes laid after k lengths -/
theorem own_sq {f : Nat → Int32} {Lf : Nat → Nat} {C : Nat → Nat} (hf : ∀ i, i < 257 → f i = Int32.ofNat (Lf i) ∧ Lf i < 10) (hC0 : C 0 = 0) (hC : ∀ k, k < 9 → C (k + 1) = 2 * (C k + own_ct f (Int32.ofNat (k + 1)) 257)) (hk : ∀ k, k < 9 → C k + own_ct f (Int32.ofNat (k + 1)) 257 ≤ 2 ^ (k + 1)) :
    ∀ k, k ≤ 9 → (own_seq f k).2 = C k ∧ ∀ i, i < 257 → (1 ≤ Lf i → Lf i ≤ k → ∃ c, c < 512 ∧ (own_seq f k).1 i = Int32.ofNat (16 * c + Lf i)) ∧ (¬ (1 ≤ Lf i ∧ Lf i ≤ k) → (own_seq f k).1 i = Int32.ofNat (Lf i)) := by
  intro k
  induction k with
  | zero => intro _; exact ⟨hC0.symm, fun i hi => ⟨fun a b => absurd a (by omega), fun _ => (hf i hi).1⟩⟩
  | succ k ih =>
    intro hk9
    obtain ⟨e, inv⟩ := ih (by omega)
    have same : ∀ i, i < 257 → ((own_seq f k).1 i = Int32.ofNat (k + 1) ↔ f i = Int32.ofNat (k + 1)) := fun i hi => by
      obtain ⟨hfi, hl⟩ := hf i hi
      rw [hfi]
      by_cases c : 1 ≤ Lf i ∧ Lf i ≤ k
      · obtain ⟨c1, hc1, q⟩ := (inv i hi).1 c.1 c.2
        rw [q, own_eq32 (by omega) (by omega), own_eq32 (by omega) (by omega)]; omega
      · rw [(inv i hi).2 c]
    have hct : own_ct (own_seq f k).1 (Int32.ofNat (k + 1)) 257 = own_ct f (Int32.ofNat (k + 1)) 257 := own_ctc 257 same
    have hkk := hk k (by omega)
    have hp : 2 ^ (k + 1) ≤ 2 ^ 9 := Nat.pow_le_pow_right (by omega) (by omega)
    refine ⟨?_, fun i hi => ?_⟩
    · show 2 * ((own_seq f k).2 + own_ct (own_seq f k).1 (Int32.ofNat (k + 1)) 257) = _
      rw [e, hct, hC k (by omega)]
    · have hv : (own_seq f (k + 1)).1 i = if i < 257 ∧ (own_seq f k).1 i = Int32.ofNat (k + 1) then own_cv ((own_seq f k).2 + own_ct (own_seq f k).1 (Int32.ofNat (k + 1)) i) (k + 1) else (own_seq f k).1 i := rfl
      obtain ⟨hfi, hl⟩ := hf i hi
      by_cases m : (own_seq f k).1 i = Int32.ofNat (k + 1)
      · have hL : Lf i = k + 1 := by
          have q := (same i hi).mp m
          rw [hfi] at q
          exact (own_eq32 (by omega) (by omega)).mp q
        have hlt := own_ctlt hi m
        rw [hct] at hlt
        rw [hv, if_pos ⟨hi, m⟩]
        refine ⟨fun _ _ => ⟨(own_seq f k).2 + own_ct (own_seq f k).1 (Int32.ofNat (k + 1)) i, by rw [e]; omega, ?_⟩, fun q => absurd ⟨by omega, by omega⟩ q⟩
        rw [own_cvv (by rw [e]; omega) (by omega), hL]
      · have hL : Lf i ≠ k + 1 := fun q => m ((same i hi).mpr (by rw [hfi, q]))
        rw [hv, if_neg (fun q => m q.2)]
        exact ⟨fun a b => (inv i hi).1 a (by omega), fun q => (inv i hi).2 (fun z => q ⟨z.1, by omega⟩)⟩
theorem own_kr {f : Nat → Int32} {Lf : Nat → Nat} {C : Nat → Nat} (hf : ∀ i, i < 257 → f i = Int32.ofNat (Lf i) ∧ Lf i < 10) (hC0 : C 0 = 0) (hC : ∀ k, k < 9 → C (k + 1) = 2 * (C k + own_ct f (Int32.ofNat (k + 1)) 257)) (hk : ∀ k, k < 9 → C k + own_ct f (Int32.ofNat (k + 1)) 257 ≤ 2 ^ (k + 1)) :
    own_kraft f ∧ ∀ i, i < 257 → (own_seq f 9).1 i &&& (15 : Int32) = Int32.ofNat (Lf i) := by
  have S := own_sq hf hC0 hC hk
  refine ⟨fun k hk9 => ?_, fun i hi => ?_⟩
  · obtain ⟨e, inv⟩ := S k (by omega)
    have hct : own_ct (own_seq f k).1 (Int32.ofNat (k + 1)) 257 = own_ct f (Int32.ofNat (k + 1)) 257 := own_ctc 257 fun i hi => by
      obtain ⟨hfi, hl⟩ := hf i hi
      rw [hfi]
      by_cases c : 1 ≤ Lf i ∧ Lf i ≤ k
      · obtain ⟨c1, hc1, q⟩ := (inv i hi).1 c.1 c.2
        rw [q, own_eq32 (by omega) (by omega), own_eq32 (by omega) (by omega)]; omega
      · rw [(inv i hi).2 c]
    rw [e, hct]; exact hk k hk9
  · obtain ⟨-, inv⟩ := S 9 (Nat.le_refl _)
    obtain ⟨hfi, hl⟩ := hf i hi
    by_cases c : 1 ≤ Lf i
    · obtain ⟨c1, hc1, q⟩ := (inv i hi).1 c (by omega)
      rw [q]; exact own_15 hc1 hl
    · rw [(inv i hi).2 (fun z => c z.1)]
      have q := own_15 (c := 0) (by omega) hl
      rw [show 16 * 0 + Lf i = Lf i by omega] at q; exact q
theorem own_ctu {f : Nat → Int32} {len v : Int32} {u : Nat} (h : ¬ f u = len) : ∀ n, own_ct (own_up f u v) len n = own_ct f len n + (if u < n ∧ v = len then 1 else 0)
  | 0 => by rw [if_neg (fun q => absurd q.1 (by omega))]; rfl
  | n + 1 => by
    show own_ct (own_up f u v) len n + _ = own_ct f len n + _ + _
    rw [own_ctu h n]
    by_cases e : n = u
    · subst e
      have q : own_up f n v n = v := by unfold own_up; rw [if_pos rfl]
      rw [q, if_neg (fun z => absurd z.1 (by omega)), if_neg h]
      by_cases c : v = len
      · rw [if_pos c, if_pos ⟨by omega, c⟩]
      · rw [if_neg c, if_neg (fun z => c z.2)]
    · have q : own_up f u v n = f n := by unfold own_up; rw [if_neg e]
      rw [q]
      by_cases c : u < n ∧ v = len
      · rw [if_pos c, if_pos (show u < n + 1 ∧ v = len from ⟨by omega, c.2⟩)]; omega
      · rw [if_neg c, if_neg (show ¬ (u < n + 1 ∧ v = len) from fun z => c ⟨by omega, z.2⟩)]; omega
theorem own_ct0 {len : Int32} (h : ¬ (0 : Int32) = len) : ∀ n, own_ct (fun _ => (0 : Int32)) len n = 0
  | 0 => rfl
  | n + 1 => by
    show own_ct (fun _ => (0 : Int32)) len n + _ = 0
    rw [own_ct0 h n, if_neg h]
theorem own_k4_n {u0_ u1_ u2_ u3_ : Nat} (d10 : u1_ ≠ u0_) (d20 : u2_ ≠ u0_) (d21 : u2_ ≠ u1_) (d30 : u3_ ≠ u0_) (d31 : u3_ ≠ u1_) (d32 : u3_ ≠ u2_) (hu0 : u0_ < 257) (hu1 : u1_ < 257) (hu2 : u2_ < 257) (hu3 : u3_ < 257) {len : Int32} (hl : ¬ (0 : Int32) = len) : own_ct (own_up (own_up (own_up (own_up (fun _ => (0 : Int32)) u0_ (3 : Int32)) u1_ (3 : Int32)) u2_ (2 : Int32)) u3_ (1 : Int32)) len 257 = 0 + (if (3 : Int32) = len then 1 else 0) + (if (3 : Int32) = len then 1 else 0) + (if (2 : Int32) = len then 1 else 0) + (if (1 : Int32) = len then 1 else 0) := by
  have e3 : (own_up (own_up (own_up (fun _ => (0 : Int32)) u0_ (3 : Int32)) u1_ (3 : Int32)) u2_ (2 : Int32)) u3_ = 0 := by unfold own_up; simp [d30, d31, d32]
  have e2 : (own_up (own_up (fun _ => (0 : Int32)) u0_ (3 : Int32)) u1_ (3 : Int32)) u2_ = 0 := by unfold own_up; simp [d20, d21]
  have e1 : (own_up (fun _ => (0 : Int32)) u0_ (3 : Int32)) u1_ = 0 := by unfold own_up; simp [d10]
  rw [own_ctu (by rw [e3]; exact hl), own_ctu (by rw [e2]; exact hl), own_ctu (by rw [e1]; exact hl), own_ctu (by exact hl), own_ct0 hl]
  simp only [hu0, hu1, hu2, hu3, true_and]
theorem own_k4 {u0_ u1_ u2_ u3_ : Nat} (d10 : u1_ ≠ u0_) (d20 : u2_ ≠ u0_) (d21 : u2_ ≠ u1_) (d30 : u3_ ≠ u0_) (d31 : u3_ ≠ u1_) (d32 : u3_ ≠ u2_) (hu0 : u0_ < 257) (hu1 : u1_ < 257) (hu2 : u2_ < 257) (hu3 : u3_ < 257) : own_kraft (own_up (own_up (own_up (own_up (fun _ => (0 : Int32)) u0_ (3 : Int32)) u1_ (3 : Int32)) u2_ (2 : Int32)) u3_ (1 : Int32)) ∧ ∀ i, i < 257 → (own_seq (own_up (own_up (own_up (own_up (fun _ => (0 : Int32)) u0_ (3 : Int32)) u1_ (3 : Int32)) u2_ (2 : Int32)) u3_ (1 : Int32)) 9).1 i &&& (15 : Int32) = Int32.ofNat (if i = u3_ then 1 else if i = u2_ then 2 else if i = u1_ then 3 else if i = u0_ then 3 else 0) := by
  have N := fun (len : Int32) (hl : ¬ (0 : Int32) = len) => own_k4_n d10 d20 d21 d30 d31 d32 hu0 hu1 hu2 hu3 hl
  refine own_kr (Lf := fun i => if i = u3_ then 1 else if i = u2_ then 2 else if i = u1_ then 3 else if i = u0_ then 3 else 0) (C := fun k => [0, 2, 6, 16, 32, 64, 128, 256, 512, 1024].getD k 0) (fun i hi => ?_) rfl (fun k hk => ?_) (fun k hk => ?_)
  · unfold own_up
    dsimp only
    by_cases q3 : i = u3_
    · rw [if_pos q3, if_pos q3]; exact ⟨rfl, by decide⟩
    rw [if_neg q3, if_neg q3]
    by_cases q2 : i = u2_
    · rw [if_pos q2, if_pos q2]; exact ⟨rfl, by decide⟩
    rw [if_neg q2, if_neg q2]
    by_cases q1 : i = u1_
    · rw [if_pos q1, if_pos q1]; exact ⟨rfl, by decide⟩
    rw [if_neg q1, if_neg q1]
    by_cases q0 : i = u0_
    · rw [if_pos q0, if_pos q0]; exact ⟨rfl, by decide⟩
    rw [if_neg q0, if_neg q0]
    exact ⟨rfl, by decide⟩
  · have hk' : k = 0 ∨ k = 1 ∨ k = 2 ∨ k = 3 ∨ k = 4 ∨ k = 5 ∨ k = 6 ∨ k = 7 ∨ k = 8 := by omega
    rcases hk' with rfl | rfl | rfl | rfl | rfl | rfl | rfl | rfl | rfl <;> (rw [N _ (by decide)]; decide)
  · have hk' : k = 0 ∨ k = 1 ∨ k = 2 ∨ k = 3 ∨ k = 4 ∨ k = 5 ∨ k = 6 ∨ k = 7 ∨ k = 8 := by omega
    rcases hk' with rfl | rfl | rfl | rfl | rfl | rfl | rfl | rfl | rfl <;> (rw [N _ (by decide)]; decide)
theorem own_k3_n {u0_ u1_ u2_ : Nat} (d10 : u1_ ≠ u0_) (d20 : u2_ ≠ u0_) (d21 : u2_ ≠ u1_) (hu0 : u0_ < 257) (hu1 : u1_ < 257) (hu2 : u2_ < 257) {len : Int32} (hl : ¬ (0 : Int32) = len) : own_ct (own_up (own_up (own_up (fun _ => (0 : Int32)) u0_ (2 : Int32)) u1_ (2 : Int32)) u2_ (1 : Int32)) len 257 = 0 + (if (2 : Int32) = len then 1 else 0) + (if (2 : Int32) = len then 1 else 0) + (if (1 : Int32) = len then 1 else 0) := by
  have e2 : (own_up (own_up (fun _ => (0 : Int32)) u0_ (2 : Int32)) u1_ (2 : Int32)) u2_ = 0 := by unfold own_up; simp [d20, d21]
  have e1 : (own_up (fun _ => (0 : Int32)) u0_ (2 : Int32)) u1_ = 0 := by unfold own_up; simp [d10]
  rw [own_ctu (by rw [e2]; exact hl), own_ctu (by rw [e1]; exact hl), own_ctu (by exact hl), own_ct0 hl]
  simp only [hu0, hu1, hu2, true_and]
theorem own_k3 {u0_ u1_ u2_ : Nat} (d10 : u1_ ≠ u0_) (d20 : u2_ ≠ u0_) (d21 : u2_ ≠ u1_) (hu0 : u0_ < 257) (hu1 : u1_ < 257) (hu2 : u2_ < 257) : own_kraft (own_up (own_up (own_up (fun _ => (0 : Int32)) u0_ (2 : Int32)) u1_ (2 : Int32)) u2_ (1 : Int32)) ∧ ∀ i, i < 257 → (own_seq (own_up (own_up (own_up (fun _ => (0 : Int32)) u0_ (2 : Int32)) u1_ (2 : Int32)) u2_ (1 : Int32)) 9).1 i &&& (15 : Int32) = Int32.ofNat (if i = u2_ then 1 else if i = u1_ then 2 else if i = u0_ then 2 else 0) := by
  have N := fun (len : Int32) (hl : ¬ (0 : Int32) = len) => own_k3_n d10 d20 d21 hu0 hu1 hu2 hl
  refine own_kr (Lf := fun i => if i = u2_ then 1 else if i = u1_ then 2 else if i = u0_ then 2 else 0) (C := fun k => [0, 2, 8, 16, 32, 64, 128, 256, 512, 1024].getD k 0) (fun i hi => ?_) rfl (fun k hk => ?_) (fun k hk => ?_)
  · unfold own_up
    dsimp only
    by_cases q2 : i = u2_
    · rw [if_pos q2, if_pos q2]; exact ⟨rfl, by decide⟩
    rw [if_neg q2, if_neg q2]
    by_cases q1 : i = u1_
    · rw [if_pos q1, if_pos q1]; exact ⟨rfl, by decide⟩
    rw [if_neg q1, if_neg q1]
    by_cases q0 : i = u0_
    · rw [if_pos q0, if_pos q0]; exact ⟨rfl, by decide⟩
    rw [if_neg q0, if_neg q0]
    exact ⟨rfl, by decide⟩
  · have hk' : k = 0 ∨ k = 1 ∨ k = 2 ∨ k = 3 ∨ k = 4 ∨ k = 5 ∨ k = 6 ∨ k = 7 ∨ k = 8 := by omega
    rcases hk' with rfl | rfl | rfl | rfl | rfl | rfl | rfl | rfl | rfl <;> (rw [N _ (by decide)]; decide)
  · have hk' : k = 0 ∨ k = 1 ∨ k = 2 ∨ k = 3 ∨ k = 4 ∨ k = 5 ∨ k = 6 ∨ k = 7 ∨ k = 8 := by omega
    rcases hk' with rfl | rfl | rfl | rfl | rfl | rfl | rfl | rfl | rfl <;> (rw [N _ (by decide)]; decide)
def own_c1 (ua ub us : Nat) (kf : Nat → Nat → Int32) : Nat → Nat → Int32 := (fun j => if j = 0 then (own_up (own_up (own_up (own_up (own_up (kf 0) ua (((kf 0) ua) + (1 : Int32))) ua (((own_up (kf 0) ua (((kf 0) ua) + (1 : Int32))) ua) + (1 : Int32))) ua (((own_up (own_up (kf 0) ua (((kf 0) ua) + (1 : Int32))) ua (((own_up (kf 0) ua (((kf 0) ua) + (1 : Int32))) ua) + (1 : Int32))) ua) + (1 : Int32))) ua (((own_up (own_up (own_up (kf 0) ua (((kf 0) ua) + (1 : Int32))) ua (((own_up (kf 0) ua (((kf 0) ua) + (1 : Int32))) ua) + (1 : Int32))) ua (((own_up (own_up (kf 0) ua (((kf 0) ua) + (1 : Int32))) ua (((own_up (kf 0) ua (((kf 0) ua) + (1 : Int32))) ua) + (1 : Int32))) ua) + (1 : Int32))) ua) + (1 : Int32))) us (((own_up (own_up (own_up (own_up (kf 0) ua (((kf 0) ua) + (1 : Int32))) ua (((own_up (kf 0) ua (((kf 0) ua) + (1 : Int32))) ua) + (1 : Int32))) ua (((own_up (own_up (kf 0) ua (((kf 0) ua) + (1 : Int32))) ua (((own_up (kf 0) ua (((kf 0) ua) + (1 : Int32))) ua) + (1 : Int32))) ua) + (1 : Int32))) ua (((own_up (own_up (own_up (kf 0) ua (((kf 0) ua) + (1 : Int32))) ua (((own_up (kf 0) ua (((kf 0) ua) + (1 : Int32))) ua) + (1 : Int32))) ua (((own_up (own_up (kf 0) ua (((kf 0) ua) + (1 : Int32))) ua (((own_up (kf 0) ua (((kf 0) ua) + (1 : Int32))) ua) + (1 : Int32))) ua) + (1 : Int32))) ua) + (1 : Int32))) us) + (1 : Int32))) else if j = 1 then (own_up (own_up (kf 1) ub (((kf 1) ub) + (1 : Int32))) us (((own_up (kf 1) ub (((kf 1) ub) + (1 : Int32))) us) + (1 : Int32))) else (own_up (kf 2) 256 (((kf 2) 256) + (1 : Int32))))
def own_c2 (ua ub us : Nat) (kf : Nat → Nat → Int32) : Nat → Nat → Int32 := (fun j => if j = 0 then (own_up (kf 0) us (((kf 0) us) + (1 : Int32))) else if j = 1 then (own_up (own_up (kf 1) ua (((kf 1) ua) + (1 : Int32))) us (((own_up (kf 1) ua (((kf 1) ua) + (1 : Int32))) us) + (1 : Int32))) else (own_up (own_up (own_up (kf 2) ub (((kf 2) ub) + (1 : Int32))) us (((own_up (kf 2) ub (((kf 2) ub) + (1 : Int32))) us) + (1 : Int32))) 256 (((own_up (own_up (kf 2) ub (((kf 2) ub) + (1 : Int32))) us (((own_up (kf 2) ub (((kf 2) ub) + (1 : Int32))) us) + (1 : Int32))) 256) + (1 : Int32))))
def own_c3 (ua ub us : Nat) (kf : Nat → Nat → Int32) : Nat → Nat → Int32 := (fun j => if j = 0 then (own_up (own_up (kf 0) ub (((kf 0) ub) + (1 : Int32))) 256 (((own_up (kf 0) ub (((kf 0) ub) + (1 : Int32))) 256) + (1 : Int32))) else if j = 1 then (kf 1) else (kf 2))
theorem own_cf0 {ua ub us : Nat} (la : ua < 256) (lb : ub < 256) (ls : us < 256) (nab : ua ≠ ub) (nas_ : ua ≠ us) (nbs_ : ub ≠ us) : (own_c3 ua ub us (own_c2 ua ub us (own_c1 ua ub us (fun _ _ => 0)))) 0 ua = Int32.ofNat 4 ∧ (own_c3 ua ub us (own_c2 ua ub us (own_c1 ua ub us (fun _ _ => 0)))) 0 us = Int32.ofNat 2 ∧ (own_c3 ua ub us (own_c2 ua ub us (own_c1 ua ub us (fun _ _ => 0)))) 0 ub = Int32.ofNat 1 ∧ (own_c3 ua ub us (own_c2 ua ub us (own_c1 ua ub us (fun _ _ => 0)))) 0 256 = Int32.ofNat 1 ∧ ∀ i, i < 257 → i ≠ ua → i ≠ us → i ≠ ub → i ≠ 256 → (own_c3 ua ub us (own_c2 ua ub us (own_c1 ua ub us (fun _ _ => 0)))) 0 i = 0 := by
  have e1 : ¬ ua = 256 := by omega
  have e2 : ¬ ub = 256 := by omega
  have e3 : ¬ us = 256 := by omega
  have e4 : ¬ 256 = ua := by omega
  have e5 : ¬ 256 = ub := by omega
  have e6 : ¬ 256 = us := by omega
  have f1 : ¬ ub = ua := by omega
  have f2 : ¬ us = ua := by omega
  have f3 : ¬ us = ub := by omega
  refine ⟨by simp only [own_c1, own_c2, own_c3, own_up, nab, nas_, nbs_, e1, e2, e3, e4, e5, e6, f1, f2, f3, if_true, if_false, reduceIte, Nat.reduceEqDiff, Nat.one_ne_zero]; decide, by simp only [own_c1, own_c2, own_c3, own_up, nab, nas_, nbs_, e1, e2, e3, e4, e5, e6, f1, f2, f3, if_true, if_false, reduceIte, Nat.reduceEqDiff, Nat.one_ne_zero]; decide, by simp only [own_c1, own_c2, own_c3, own_up, nab, nas_, nbs_, e1, e2, e3, e4, e5, e6, f1, f2, f3, if_true, if_false, reduceIte, Nat.reduceEqDiff, Nat.one_ne_zero]; decide, by simp only [own_c1, own_c2, own_c3, own_up, nab, nas_, nbs_, e1, e2, e3, e4, e5, e6, f1, f2, f3, if_true, if_false, reduceIte, Nat.reduceEqDiff, Nat.one_ne_zero]; decide, ?_⟩
  · intro i hi g0 g1 g2 g3
    simp [own_c1, own_c2, own_c3, own_up, g0, g1, g2, g3]
theorem own_cf1 {ua ub us : Nat} (la : ua < 256) (lb : ub < 256) (ls : us < 256) (nab : ua ≠ ub) (nas_ : ua ≠ us) (nbs_ : ub ≠ us) : (own_c3 ua ub us (own_c2 ua ub us (own_c1 ua ub us (fun _ _ => 0)))) 1 us = Int32.ofNat 2 ∧ (own_c3 ua ub us (own_c2 ua ub us (own_c1 ua ub us (fun _ _ => 0)))) 1 ua = Int32.ofNat 1 ∧ (own_c3 ua ub us (own_c2 ua ub us (own_c1 ua ub us (fun _ _ => 0)))) 1 ub = Int32.ofNat 1 ∧ ∀ i, i < 257 → i ≠ us → i ≠ ua → i ≠ ub → (own_c3 ua ub us (own_c2 ua ub us (own_c1 ua ub us (fun _ _ => 0)))) 1 i = 0 := by
  have e1 : ¬ ua = 256 := by omega
  have e2 : ¬ ub = 256 := by omega
  have e3 : ¬ us = 256 := by omega
  have e4 : ¬ 256 = ua := by omega
  have e5 : ¬ 256 = ub := by omega
  have e6 : ¬ 256 = us := by omega
  have f1 : ¬ ub = ua := by omega
  have f2 : ¬ us = ua := by omega
  have f3 : ¬ us = ub := by omega
  refine ⟨by simp only [own_c1, own_c2, own_c3, own_up, nab, nas_, nbs_, e1, e2, e3, e4, e5, e6, f1, f2, f3, if_true, if_false, reduceIte, Nat.reduceEqDiff, Nat.one_ne_zero]; decide, by simp only [own_c1, own_c2, own_c3, own_up, nab, nas_, nbs_, e1, e2, e3, e4, e5, e6, f1, f2, f3, if_true, if_false, reduceIte, Nat.reduceEqDiff, Nat.one_ne_zero]; decide, by simp only [own_c1, own_c2, own_c3, own_up, nab, nas_, nbs_, e1, e2, e3, e4, e5, e6, f1, f2, f3, if_true, if_false, reduceIte, Nat.reduceEqDiff, Nat.one_ne_zero]; decide, ?_⟩
  · intro i hi g0 g1 g2
    simp [own_c1, own_c2, own_c3, own_up, g0, g1, g2]
theorem own_cf2 {ua ub us : Nat} (la : ua < 256) (lb : ub < 256) (ls : us < 256) (nab : ua ≠ ub) (nas_ : ua ≠ us) (nbs_ : ub ≠ us) : (own_c3 ua ub us (own_c2 ua ub us (own_c1 ua ub us (fun _ _ => 0)))) 2 256 = Int32.ofNat 2 ∧ (own_c3 ua ub us (own_c2 ua ub us (own_c1 ua ub us (fun _ _ => 0)))) 2 ub = Int32.ofNat 1 ∧ (own_c3 ua ub us (own_c2 ua ub us (own_c1 ua ub us (fun _ _ => 0)))) 2 us = Int32.ofNat 1 ∧ ∀ i, i < 257 → i ≠ 256 → i ≠ ub → i ≠ us → (own_c3 ua ub us (own_c2 ua ub us (own_c1 ua ub us (fun _ _ => 0)))) 2 i = 0 := by
  have e1 : ¬ ua = 256 := by omega
  have e2 : ¬ ub = 256 := by omega
  have e3 : ¬ us = 256 := by omega
  have e4 : ¬ 256 = ua := by omega
  have e5 : ¬ 256 = ub := by omega
  have e6 : ¬ 256 = us := by omega
  have f1 : ¬ ub = ua := by omega
  have f2 : ¬ us = ua := by omega
  have f3 : ¬ us = ub := by omega
  refine ⟨by simp only [own_c1, own_c2, own_c3, own_up, nab, nas_, nbs_, e1, e2, e3, e4, e5, e6, f1, f2, f3, if_true, if_false, reduceIte, Nat.reduceEqDiff, Nat.one_ne_zero]; decide, by simp only [own_c1, own_c2, own_c3, own_up, nab, nas_, nbs_, e1, e2, e3, e4, e5, e6, f1, f2, f3, if_true, if_false, reduceIte, Nat.reduceEqDiff, Nat.one_ne_zero]; decide, by simp only [own_c1, own_c2, own_c3, own_up, nab, nas_, nbs_, e1, e2, e3, e4, e5, e6, f1, f2, f3, if_true, if_false, reduceIte, Nat.reduceEqDiff, Nat.one_ne_zero]; decide, ?_⟩
  · intro i hi g0 g1 g2
    simp [own_c1, own_c2, own_c3, own_up, g0, g1, g2]
theorem own_al4 {Z : State} {h : Heap} {a : Addr} {k : ClassId} {w : Nat → Int64} {x0 x1 x2 x3 : Int64} (A : Arv Z h a k .long (257 : Int32) (own_al w 257) (.long 0)) (h0 : w 0 = x0) (h1 : w 1 = x1) (h2 : w 2 = x2) (h3 : w 3 = x3) (hz : ∀ j, 4 ≤ j → w j = 0) : Arv Z h a k .long (257 : Int32) [.long x0, .long x1, .long x2, .long x3] (.long 0) := A.pad fun i => by
  subst h0 h1 h2 h3
  by_cases c : i < 4
  · have : i = 0 ∨ i = 1 ∨ i = 2 ∨ i = 3 := by omega
    rcases this with rfl | rfl | rfl | rfl <;> rfl
  · rw [List.getD_eq_getElem?_getD, List.getElem?_eq_none (by show 4 ≤ i; omega), List.getD_eq_getElem?_getD]
    simp only [own_al, List.getElem?_map]
    by_cases c2 : i < 257
    · rw [List.getElem?_range c2, Option.map_some, Option.getD_some, hz i (by omega)]; rfl
    · rw [List.getElem?_eq_none (by rw [List.length_range]; omega)]; rfl
theorem own_4al {Z : State} {h : Heap} {a : Addr} {k : ClassId} {x0 x1 x2 x3 : Int64} (A : Arv Z h a k .long (257 : Int32) [.long x0, .long x1, .long x2, .long x3] (.long 0)) : Arv Z h a k .long (257 : Int32) (own_al (fun j => if j = 0 then x0 else if j = 1 then x1 else if j = 2 then x2 else if j = 3 then x3 else 0) 257) (.long 0) := A.pad fun i => by
  by_cases c : i < 4
  · have : i = 0 ∨ i = 1 ∨ i = 2 ∨ i = 3 := by omega
    rcases this with rfl | rfl | rfl | rfl <;> rfl
  · rw [List.getD_eq_getElem?_getD, List.getD_eq_getElem?_getD, List.getElem?_eq_none (l := [Value.long x0, Value.long x1, Value.long x2, Value.long x3]) (by show 4 ≤ i; omega)]
    simp only [own_al, List.getElem?_map]
    by_cases c2 : i < 257
    · rw [List.getElem?_range c2, Option.map_some, Option.getD_some, if_neg (by omega), if_neg (by omega), if_neg (by omega), if_neg (by omega)]; rfl
    · rw [List.getElem?_eq_none (by rw [List.length_range]; omega)]; rfl
theorem own_xc0 (b : Nat) : (((List.range 6).map fun j => b + 1 + j).map Value.ref).getD (0 : Int32).toNatClampNeg .null = .ref (b + 1) := rfl
theorem own_xt0 (b : Nat) : (((List.range 6).map fun j => b + 7 + 1 + j).map Value.ref).getD (0 : Int32).toNatClampNeg .null = .ref (b + 8) := rfl
theorem own_xc1 (b : Nat) : (((List.range 6).map fun j => b + 1 + j).map Value.ref).getD (1 : Int32).toNatClampNeg .null = .ref (b + 2) := rfl
theorem own_xt1 (b : Nat) : (((List.range 6).map fun j => b + 7 + 1 + j).map Value.ref).getD (1 : Int32).toNatClampNeg .null = .ref (b + 9) := rfl
theorem own_xc2 (b : Nat) : (((List.range 6).map fun j => b + 1 + j).map Value.ref).getD (2 : Int32).toNatClampNeg .null = .ref (b + 3) := rfl
theorem own_xt2 (b : Nat) : (((List.range 6).map fun j => b + 7 + 1 + j).map Value.ref).getD (2 : Int32).toNatClampNeg .null = .ref (b + 10) := rfl
theorem own_xc3 (b : Nat) : (((List.range 6).map fun j => b + 1 + j).map Value.ref).getD (3 : Int32).toNatClampNeg .null = .ref (b + 4) := rfl
theorem own_xt3 (b : Nat) : (((List.range 6).map fun j => b + 7 + 1 + j).map Value.ref).getD (3 : Int32).toNatClampNeg .null = .ref (b + 11) := rfl
theorem own_xc4 (b : Nat) : (((List.range 6).map fun j => b + 1 + j).map Value.ref).getD (4 : Int32).toNatClampNeg .null = .ref (b + 5) := rfl
theorem own_xt4 (b : Nat) : (((List.range 6).map fun j => b + 7 + 1 + j).map Value.ref).getD (4 : Int32).toNatClampNeg .null = .ref (b + 12) := rfl
theorem own_xc5 (b : Nat) : (((List.range 6).map fun j => b + 1 + j).map Value.ref).getD (5 : Int32).toNatClampNeg .null = .ref (b + 6) := rfl
theorem own_xt5 (b : Nat) : (((List.range 6).map fun j => b + 7 + 1 + j).map Value.ref).getD (5 : Int32).toNatClampNeg .null = .ref (b + 13) := rfl
theorem own_rs3 {Z : State} {h : Heap} {b cd : Nat} {S0 S1 S2 : Nat → Int32} {cf : Nat → Nat → Int32} (A0 : ∃ k : ClassId, Arv Z h (b + 1 + (3 * cd + 0)) k .short (257 : Int32) (own_ar S0 257) (.int 0)) (A1 : ∃ k : ClassId, Arv Z h (b + 1 + (3 * cd + 1)) k .short (257 : Int32) (own_ar S1 257) (.int 0)) (A2 : ∃ k : ClassId, Arv Z h (b + 1 + (3 * cd + 2)) k .short (257 : Int32) (own_ar S2 257) (.int 0)) (R : ∀ j, j < 6 → ¬ j = 3 * cd + 0 → ¬ j = 3 * cd + 1 → ¬ j = 3 * cd + 2 → ∃ k : ClassId, Arv Z h (b + 1 + j) k .short (257 : Int32) (own_ar (cf j) 257) (.int 0)) : own_RS Z h (b + 1) 6 (fun j => (if j = 3 * cd + 0 then S0 else if j = 3 * cd + 1 then S1 else if j = 3 * cd + 2 then S2 else cf j)) := fun j hj => by
  by_cases c0 : j = 3 * cd + 0
  · obtain ⟨k, v⟩ := A0
    refine ⟨k, ?_⟩
    show Arv Z h (b + 1 + j) k .short (257 : Int32) (own_ar (if j = 3 * cd + 0 then S0 else if j = 3 * cd + 1 then S1 else if j = 3 * cd + 2 then S2 else cf j) 257) (.int 0)
    rw [if_pos c0, c0]; exact v
  by_cases c1 : j = 3 * cd + 1
  · obtain ⟨k, v⟩ := A1
    refine ⟨k, ?_⟩
    show Arv Z h (b + 1 + j) k .short (257 : Int32) (own_ar (if j = 3 * cd + 0 then S0 else if j = 3 * cd + 1 then S1 else if j = 3 * cd + 2 then S2 else cf j) 257) (.int 0)
    rw [if_neg c0, if_pos c1, c1]; exact v
  by_cases c2 : j = 3 * cd + 2
  · obtain ⟨k, v⟩ := A2
    refine ⟨k, ?_⟩
    show Arv Z h (b + 1 + j) k .short (257 : Int32) (own_ar (if j = 3 * cd + 0 then S0 else if j = 3 * cd + 1 then S1 else if j = 3 * cd + 2 then S2 else cf j) 257) (.int 0)
    rw [if_neg c0, if_neg c1, if_pos c2, c2]; exact v
  obtain ⟨k, v⟩ := R j hj c0 c1 c2
  refine ⟨k, ?_⟩
  show Arv Z h (b + 1 + j) k .short (257 : Int32) (own_ar (if j = 3 * cd + 0 then S0 else if j = 3 * cd + 1 then S1 else if j = 3 * cd + 2 then S2 else cf j) 257) (.int 0)
  rw [if_neg c0, if_neg c1, if_neg c2]; exact v
theorem own_mkn {ob b j cd : Nat} (lob : ob < b) (hcd : cd < 2) (hj : j < 6) (c0 : ¬ j = 3 * cd + 0) (c1 : ¬ j = 3 * cd + 1) (c2 : ¬ j = 3 * cd + 2) : (b + 1 + j : Nat) ∉ ([ob, (b + 1 + (3 * cd + 0)), (b + 1 + (3 * cd + 1)), (b + 1 + (3 * cd + 2)), (b + 7 + 1 + (3 * cd + 0)), (b + 7 + 1 + (3 * cd + 1)), (b + 7 + 1 + (3 * cd + 2)), (b + 15), (b + 16), (b + 17), (b + 18), (b + 19)] : List Addr) := fun hm => by
  simp only [List.mem_cons, List.not_mem_nil, or_false] at hm
  have hm2 : (b + 1 + j : Nat) = ob ∨ (b + 1 + j : Nat) = (b + 1 + (3 * cd + 0)) ∨ (b + 1 + j : Nat) = (b + 1 + (3 * cd + 1)) ∨ (b + 1 + j : Nat) = (b + 1 + (3 * cd + 2)) ∨ (b + 1 + j : Nat) = (b + 7 + 1 + (3 * cd + 0)) ∨ (b + 1 + j : Nat) = (b + 7 + 1 + (3 * cd + 1)) ∨ (b + 1 + j : Nat) = (b + 7 + 1 + (3 * cd + 2)) ∨ (b + 1 + j : Nat) = (b + 15) ∨ (b + 1 + j : Nat) = (b + 16) ∨ (b + 1 + j : Nat) = (b + 17) ∨ (b + 1 + j : Nat) = (b + 18) ∨ (b + 1 + j : Nat) = (b + 19) := hm
  omega
abbrev C5 : ByteArray := prog_43_method_5_code
theorem d5_0 : decode C5 0 = .ok (.iconst 0, 1) := by decide +kernel
theorem d5_1 : decode C5 1 = .ok (.istore_n 2, 1) := by decide +kernel
theorem d5_2 : decode C5 2 = .ok (.iload_n 2, 1) := by decide +kernel
theorem d5_3 : decode C5 3 = .ok (.iconst 3, 1) := by decide +kernel
theorem d5_4 : decode C5 4 = .ok (.if_icmp .ge 66, 3) := by decide +kernel
theorem d5_7 : decode C5 7 = .ok (.iconst 0, 1) := by decide +kernel
theorem d5_8 : decode C5 8 = .ok (.istore 4, 2) := by decide +kernel
theorem d5_10 : decode C5 10 = .ok (.aload_n 0, 1) := by decide +kernel
theorem d5_11 : decode C5 11 = .ok (.aload_n 0, 1) := by decide +kernel
theorem d5_12 : decode C5 12 = .ok (.getfield 25, 3) := by decide +kernel
theorem d5_15 : decode C5 15 = .ok (.iload_n 2, 1) := by decide +kernel
theorem d5_16 : decode C5 16 = .ok (.aaload, 1) := by decide +kernel
theorem d5_17 : decode C5 17 = .ok (.iload 4, 2) := by decide +kernel
theorem d5_19 : decode C5 19 = .ok (.iinc 4 1, 3) := by decide +kernel
theorem d5_22 : decode C5 22 = .ok (.invokevirtual 55, 3) := by decide +kernel
theorem d5_25 : decode C5 25 = .ok (.istore_n 3, 1) := by decide +kernel
theorem d5_26 : decode C5 26 = .ok (.aload_n 0, 1) := by decide +kernel
theorem d5_27 : decode C5 27 = .ok (.iload_n 3, 1) := by decide +kernel
theorem d5_28 : decode C5 28 = .ok (.invokevirtual 59, 3) := by decide +kernel
theorem d5_31 : decode C5 31 = .ok (.aload_n 0, 1) := by decide +kernel
theorem d5_32 : decode C5 32 = .ok (.iload_n 3, 1) := by decide +kernel
theorem d5_33 : decode C5 33 = .ok (.invokevirtual 63, 3) := by decide +kernel
theorem d5_36 : decode C5 36 = .ok (.ifCond .eq (-26), 3) := by decide +kernel
theorem d5_39 : decode C5 39 = .ok (.aload_n 0, 1) := by decide +kernel
theorem d5_40 : decode C5 40 = .ok (.iload_n 3, 1) := by decide +kernel
theorem d5_41 : decode C5 41 = .ok (.aload_n 0, 1) := by decide +kernel
theorem d5_42 : decode C5 42 = .ok (.getfield 17, 3) := by decide +kernel
theorem d5_45 : decode C5 45 = .ok (.iload_n 1, 1) := by decide +kernel
theorem d5_46 : decode C5 46 = .ok (.iconst 3, 1) := by decide +kernel
theorem d5_47 : decode C5 47 = .ok (.imul, 1) := by decide +kernel
theorem d5_48 : decode C5 48 = .ok (.iload_n 2, 1) := by decide +kernel
theorem d5_49 : decode C5 49 = .ok (.iadd, 1) := by decide +kernel
theorem d5_50 : decode C5 50 = .ok (.aaload, 1) := by decide +kernel
theorem d5_51 : decode C5 51 = .ok (.aload_n 0, 1) := by decide +kernel
theorem d5_52 : decode C5 52 = .ok (.getfield 20, 3) := by decide +kernel
theorem d5_55 : decode C5 55 = .ok (.iload_n 1, 1) := by decide +kernel
theorem d5_56 : decode C5 56 = .ok (.iconst 3, 1) := by decide +kernel
theorem d5_57 : decode C5 57 = .ok (.imul, 1) := by decide +kernel
theorem d5_58 : decode C5 58 = .ok (.iload_n 2, 1) := by decide +kernel
theorem d5_59 : decode C5 59 = .ok (.iadd, 1) := by decide +kernel
theorem d5_60 : decode C5 60 = .ok (.aaload, 1) := by decide +kernel
theorem d5_61 : decode C5 61 = .ok (.invokevirtual 67, 3) := by decide +kernel
theorem d5_64 : decode C5 64 = .ok (.iinc 2 1, 3) := by decide +kernel
theorem d5_67 : decode C5 67 = .ok (.goto (-65), 3) := by decide +kernel
theorem d5_70 : decode C5 70 = .ok (.aload_n 0, 1) := by decide +kernel
theorem d5_71 : decode C5 71 = .ok (.invokevirtual 71, 3) := by decide +kernel
theorem d5_74 : decode C5 74 = .ok (.return_, 1) := by decide +kernel
theorem pd_3e6eccb : parseMethodDescriptor "([II)I" = some ⟨[(.array .int), .int], some .int⟩ := by decide +kernel
theorem pd_56f531a : parseMethodDescriptor "(I)V" = some ⟨[.int], none⟩ := by decide +kernel
theorem pd_56f531e : parseMethodDescriptor "(I)Z" = some ⟨[.int], some .boolean⟩ := by decide +kernel
theorem pd_414c812 : parseMethodDescriptor "(I[S[S)V" = some ⟨[.int, (.array .short), (.array .short)], none⟩ := by decide +kernel
theorem ef_5 (m : MethodId) (x0 : Addr) (x1 : Int32) : entryFrame m #[(.ref x0), (.int x1)] 5 = mkF m 0 #[.val (.ref x0), .val (.int x1), .unset, .unset, .unset] [] := by first | (simp [entryFrame, mkF, argsToLocals, Value.category]; done) | rfl
def Q_rmMk (Z : State) (ob b : Nat) (ps_ : Int32) (kf cf : Nat → Nat → Int32) (cd v0_ v1_ v2_ v3_ y0_ y1_ y2_ j0_ j1_ j2_ : Nat) (h0 : Heap) (n0 : Nat) (v : Option Value) (h : Heap) (L : List Loc) : Prop := v = none ∧ Fr n0 L ∧ Keep h0 h [ob, (b + 1 + (3 * cd + 0)), (b + 1 + (3 * cd + 1)), (b + 1 + (3 * cd + 2)), (b + 7 + 1 + (3 * cd + 0)), (b + 7 + 1 + (3 * cd + 1)), (b + 7 + 1 + (3 * cd + 2)), (b + 15), (b + 16), (b + 17), (b + 18), (b + 19)] ∧ own_O Z h ob b ps_ ∧ own_RS Z h (b + 1) 6 (fun j => if j = 3 * cd + 0 then (own_seq (own_up (own_up (own_up (own_up (fun _ => (0 : Int32)) v0_ (3 : Int32)) v1_ (3 : Int32)) v2_ (2 : Int32)) v3_ (1 : Int32)) 9).1 else if j = 3 * cd + 1 then (own_seq (own_up (own_up (own_up (fun _ => (0 : Int32)) y0_ (2 : Int32)) y1_ (2 : Int32)) y2_ (1 : Int32)) 9).1 else if j = 3 * cd + 2 then (own_seq (own_up (own_up (own_up (fun _ => (0 : Int32)) j0_ (2 : Int32)) j1_ (2 : Int32)) j2_ (1 : Int32)) 9).1 else cf j)
set_option maxRecDepth 65536 in
set_option maxHeartbeats 40000000 in
theorem rmMk (l : Launch) (Z : State) (a0 : Array Value) (hw : ∀ d ∈ tables_1, d.before a0 Z = true) (ob b : Nat) (ps_ : Int32) (kf cf : Nat → Nat → Int32) (cd v0_ v1_ v2_ v3_ y0_ y1_ y2_ j0_ j1_ j2_ : Nat) (h0 : Heap) (n0 : Nat) (Z0 : n0 ≤ h0.size) (HO : own_O Z h0 ob b ps_) (Fsh : ∃ z : Int32, Fld Z h0 ob "com/example/tributary/tributary/join/LineCodes" "sinceHalved" "I" (.int z)) (Fmt : (∃ x : Int64, Fld Z h0 ob "com/example/tributary/tributary/join/LineCodes" "countedBytes" "J" (.long x)) ∧ (∃ x : Int64, Fld Z h0 ob "com/example/tributary/tributary/join/LineCodes" "countedLines" "J" (.long x))) (RI : own_RI Z h0 (b + 15) 3 kf) (lob : ob < b) (g_ob : n0 ≤ ob) (hcd : cd < 2) (RS : own_RS Z h0 (b + 1) 6 cf) (RT : own_RT Z h0 (b + 8) 6) (VW : ∃ k : ClassId, Arv Z h0 (b + 18) k .long (257 : Int32) (own_al (fun _ => (0 : Int64)) 257) (.long 0)) (VO : ∃ k : ClassId, Arv Z h0 (b + 19) k .short (257 : Int32) (own_ar (fun _ => (0 : Int32)) 257) (.int 0)) (r_0 : own_res (kf 0) [v0_, v1_, v2_, v3_] [1, 1, 2, 4]) (r_1 : own_res (kf 1) [y0_, y1_, y2_] [1, 1, 2]) (r_2 : own_res (kf 2) [j0_, j1_, j2_] [1, 1, 2]) (d_v1_v0_ : v1_ ≠ v0_) (d_v2_v0_ : v2_ ≠ v0_) (d_v2_v1_ : v2_ ≠ v1_) (d_v3_v0_ : v3_ ≠ v0_) (d_v3_v1_ : v3_ ≠ v1_) (d_v3_v2_ : v3_ ≠ v2_) (l_v0_ : v0_ < 257) (l_v1_ : v1_ < 257) (l_v2_ : v2_ < 257) (l_v3_ : v3_ < 257) (d_y1_y0_ : y1_ ≠ y0_) (d_y2_y0_ : y2_ ≠ y0_) (d_y2_y1_ : y2_ ≠ y1_) (l_y0_ : y0_ < 257) (l_y1_ : y1_ < 257) (l_y2_ : y2_ < 257) (d_j1_j0_ : j1_ ≠ j0_) (d_j2_j0_ : j2_ ≠ j0_) (d_j2_j1_ : j2_ ≠ j1_) (l_j0_ : j0_ < 257) (l_j1_ : j1_ < 257) (l_j2_ : j2_ < 257) :
    MetFree l Y21 (head1 [Jvm.Cond.code Y21 prog_43_method_5_code 5 none] ({ frames := 5, cells := 0, slots := 0, locals := 104 } : Room)) (fun a U => a = #[(.ref ob), (.int (Int32.ofNat cd))] ∧ Z.Warmed39 U.vm ∧ U.heap = h0) (fun _ _ _ _ _ => True) (fun _ U o U' => ∃ v L, o = .returned v ∧ (Q_rmMk Z ob b ps_ kf cf cd v0_ v1_ v2_ v3_ y0_ y1_ y2_ j0_ j1_ j2_ h0 n0) v U'.heap L ∧ FrameEnd U o U' L ({ frames := 5, cells := 0, slots := 0, locals := 104 } : Room).cells ({ frames := 5, cells := 0, slots := 0, locals := 104 } : Room).slots) := by
  refine MetFree.of_bodySF (plainFor_of_name pn_81ef1d3) hisR ?_
  intro p e s m args below meth c s₁ Bd hml0 hP hK
  obtain ⟨rfl, hZ, hh⟩ := hP
  have hx := Bd.exec
  have hc : ∀ {pc : Nat} {r}, decode C5 pc = r → decode c.code pc = r := fun h2 => hb Bd.bytes h2
  have hml : c.maxLocals = 5 := hml0
  have hown : s.vm.findClass "com/example/tributary/tributary/join/LineCodes" = some m.cls := findClass_of_methodNamed Bd.named
  have hnm := (name_of_methodNamed Bd.named Bd.method).1
  have X0 : Stand p l e ({ frames := 5, cells := 0, slots := 0, locals := 104 } : Room) s m #[(.ref ob), (.int (Int32.ofNat cd))] below meth c s₁ [] 0 0 := Stand.of_body Bd
  have e0 : s₁.heap = h0 := by rw [← hh, Bd.state]; rfl
  have N0 := Fr.nil n0
  have K0 : Keep h0 h0 [ob, (b + 1 + (3 * cd + 0)), (b + 1 + (3 * cd + 1)), (b + 1 + (3 * cd + 2)), (b + 7 + 1 + (3 * cd + 0)), (b + 7 + 1 + (3 * cd + 1)), (b + 7 + 1 + (3 * cd + 2)), (b + 15), (b + 16), (b + 17), (b + 18), (b + 19)] := Keep.refl h0 [ob, (b + 1 + (3 * cd + 0)), (b + 1 + (3 * cd + 1)), (b + 1 + (3 * cd + 2)), (b + 7 + 1 + (3 * cd + 0)), (b + 7 + 1 + (3 * cd + 1)), (b + 7 + 1 + (3 * cd + 2)), (b + 15), (b + 16), (b + 17), (b + 18), (b + 19)]
  show Go p e below (s₁.setTop (entryFrame m #[(.ref ob), (.int (Int32.ofNat cd))] 5)) (EndN s (Q_rmMk Z ob b ps_ kf cf cd v0_ v1_ v2_ v3_ y0_ y1_ y2_ j0_ j1_ j2_ h0 n0) ({ frames := 5, cells := 0, slots := 0, locals := 104 } : Room).cells ({ frames := 5, cells := 0, slots := 0, locals := 104 } : Room).slots)
  refine Go.top (ef_5 m ob (Int32.ofNat cd)) ?_
  obtain ⟨Eo, Oc, Ot, Ok, Ow, Oo, Os, ⟨kC, VC⟩, ⟨kT, VT⟩, ⟨kK, VK⟩⟩ := id HO
  obtain ⟨⟨xb, FcB⟩, ⟨xl, FcL⟩⟩ := id Fmt
  obtain ⟨zs, Fsh2⟩ := id Fsh
  obtain ⟨kw, VW1⟩ := id VW
  obtain ⟨ko, VO1⟩ := id VO
  obtain ⟨kr0, RR0⟩ := RI 0 (by omega)
  have RK0 : Arv Z h0 (b + 15) kr0 .int (257 : Int32) (own_ar (kf 0) 257) (.int 0) := RR0
  obtain ⟨kr1, RR1⟩ := RI 1 (by omega)
  have RK1 : Arv Z h0 (b + 16) kr1 .int (257 : Int32) (own_ar (kf 1) 257) (.int 0) := RR1
  obtain ⟨kr2, RR2⟩ := RI 2 (by omega)
  have RK2 : Arv Z h0 (b + 17) kr2 .int (257 : Int32) (own_ar (kf 2) 257) (.int 0) := RR2
  obtain ⟨kc0, RD0⟩ := RS (3 * cd + 0) (by omega)
  obtain ⟨kt0, vt0, lt0, RU0⟩ := RT (3 * cd + 0) (by omega)
  have RV0 : Arv Z h0 (b + 7 + 1 + (3 * cd + 0)) kt0 .short (512 : Int32) vt0 (.int 0) := RU0
  obtain ⟨kc1, RD1⟩ := RS (3 * cd + 1) (by omega)
  obtain ⟨kt1, vt1, lt1, RU1⟩ := RT (3 * cd + 1) (by omega)
  have RV1 : Arv Z h0 (b + 7 + 1 + (3 * cd + 1)) kt1 .short (512 : Int32) vt1 (.int 0) := RU1
  obtain ⟨kc2, RD2⟩ := RS (3 * cd + 2) (by omega)
  obtain ⟨kt2, vt2, lt2, RU2⟩ := RT (3 * cd + 2) (by omega)
  have RV2 : Arv Z h0 (b + 7 + 1 + (3 * cd + 2)) kt2 .short (512 : Int32) vt2 (.int 0) := RU2
  refine gC (z := 0) X0 hx (hc d5_0) rfl (.refl 1) ?_
  refine gP 2 #[rv ob, iv (Int32.ofNat cd), iv 0, .unset, .unset] [] (fun zt zk => XS.istoreN X0.here hx rfl (hc d5_1) rfl (l' := _) rfl zk) ?_
  refine gLN X0 hx (hc d5_2) rfl (.refl 3) ?_
  refine gC (z := 3) X0 hx (hc d5_3) rfl (.refl 4) ?_
  refine gJN X0 hx (hc d5_4) (tlt (by decide)).2.1 (.refl 7) ?_
  refine gC (z := 0) X0 hx (hc d5_7) rfl (.refl 8) ?_
  refine gP 10 #[rv ob, iv (Int32.ofNat cd), iv 0, .unset, iv 0] [] (fun zt zk => XS.istore X0.here hx rfl (hc d5_8) rfl (l' := _) rfl zk) ?_
  refine gAN X0 hx (hc d5_10) rfl (.refl 11) ?_
  refine gAN X0 hx (hc d5_11) rfl (.refl 12) ?_
  refine gF X0 hx hZ hown (ow hw 24 rfl) Via.refl e0 Ok (hc d5_12) (.refl 15) ?_
  intro T783 X783 e783
  refine gLN X783 hx (hc d5_15) rfl (.refl 16) ?_
  refine gRA X783 hx hZ e783 VK (.ref (b + 15)) ⟨by decide, by decide⟩ (own_xk0 b) (hc d5_16) (.refl 17) rfl ?_
  refine gL X783 hx (hc d5_17) rfl (.refl 19) ?_
  refine gP 22 #[rv ob, iv (Int32.ofNat cd), iv 0, .unset, iv ((0 : Int32) + (1 : Int32))] [(.int 0), (.ref (b + 15)), (.ref ob)] (fun zt zk => XS.iinc X783.here hx rfl (hc d5_19) rfl (l' := _) rfl zk) ?_
  rw [show ((0 : Int32) + (1 : Int32)) = (1 : Int32) by decide]
  obtain ⟨ps0, hps0, hln0, hr0⟩ := id r_0
  obtain ⟨cq785, kq785, q785a, q785b, q785c⟩ := isOf hZ e783 Eo
  obtain ⟨vr785, _, ⟨T785, L785, k785, n785⟩, -, X785, ⟨Lc785, hQ785, l785, y785, z785⟩, st785⟩ := X783.virtualBack hx (y := Y9) (z := Y9) hown (mvT hZ (ow hw 50 rfl)) (mvT hZ (own_decl (ow hw 51 rfl) (ow hw 53 rfl))) (notFace_of_selects (args := #[]) (mvT hZ (own_selp (y := Y9) (ow hw 7 rfl) (ow hw 51 rfl) (ow hw 52 rfl) (by decide)))) (mvT hZ (own_selp (y := Y9) (ow hw 7 rfl) (ow hw 51 rfl) (ow hw 52 rfl) (by decide))) (mvT hZ (ow hw 51 rfl)) (by decide) (backOf (W := 0) (rmWe l Z a0 hw ob (b + 18) (b + 19) (b + 15) kw ko kr0 (kf 0) (fun _ => (0 : Int64)) (fun _ => (0 : Int32)) ps0 h0 n0 (Nat.le_trans Z0 K0.1) Ow Oo VW1 VO1 RK0 ⟨(show ((b + 18) : Nat) ≠ (b + 19) by omega), (show ((b + 18) : Nat) ≠ (b + 15) by omega), (show ((b + 19) : Nat) ≠ (b + 15) by omega), (show (ob : Nat) ≠ (b + 18) by omega), (show (ob : Nat) ≠ (b + 19) by omega)⟩ (show n0 ≤ ((b + 18) : Nat) by omega) (show n0 ≤ ((b + 19) : Nat) by omega) hps0) hZ (ow hw 53 rfl) (ow hw 8 rfl) (by decide) (by decide)) q785a q785c (g := (mkF m 22 #[rv ob, iv (Int32.ofNat cd), iv 0, .unset, iv 1] [(.int 0), (.ref (b + 15)), (.ref ob)])) rfl (by rw [hml]; rfl) (Steps.refl _) (argsL := [(.ref (b + 15)), (.int 0)]) (rest := []) (lenOf pd_3e6eccb rfl) rfl (by show 2 * 0 + _ ≤ _; exact Nat.le_of_eq rfl) (hc d5_22) (fun _ _ => ⟨rfl, e783, (by decide : 0 + 0 ≤ _), (by decide : 0 + 0 ≤ _)⟩)
  dsimp only [Pt.U, Pt.locs, Pt.cells, Pt.slots] at X785 l785 y785 z785 st785 hQ785
  subst l785 y785 z785
  obtain ⟨rfl, Nq785, Kq785, Vw785, Vo785⟩ := hQ785
  have KK786 := K0.trans Kq785 (allS (Or.inl (List.mem_of_getElem? (i := 10) rfl)) (allS (Or.inl (List.mem_of_getElem? (i := 11) rfl)) all0))
  have NN787 := Fr.app N0 Nq785
  refine gT T785 25 [(.int (Int32.ofNat ps0.length))] (fun zt zk => st785.trans zk) ?_
  rw [show Int32.ofNat ps0.length = (4 : Int32) by rw [hln0]; rfl]
  obtain ⟨hra0, hrb0⟩ := hr0 (fun _ => (0 : Int64)) (fun _ => (0 : Int32))
  have V40 : Arv Z T785.heap (b + 18) kw .long (257 : Int32) [(.long 1), (.long 1), (.long 2), (.long 4)] (.long 0) := own_al4 Vw785 ((hra0 0 (Nat.le_of_ble_eq_true rfl)).1) ((hra0 1 (Nat.le_of_ble_eq_true rfl)).1) ((hra0 2 (Nat.le_of_ble_eq_true rfl)).1) ((hra0 3 (Nat.le_of_ble_eq_true rfl)).1) (fun j hj => (hrb0 j (by exact hj)).trans (by first | rfl | (show (if j = 0 then _ else _) = _; rw [if_neg (by omega), if_neg (by omega), if_neg (by omega), if_neg (by omega)])))
  refine gP 26 #[rv ob, iv (Int32.ofNat cd), iv 0, iv 4, iv 1] [] (fun zt zk => XS.istoreN X785.here hx rfl (hc d5_25) rfl (l' := _) rfl zk) ?_
  refine gAN X785 hx (hc d5_26) rfl (.refl 27) ?_
  refine gLN X785 hx (hc d5_27) rfl (.refl 28) ?_
  have ne789 : (ob : Nat) ≠ (b + 19) := by omega
  have ne790 : (ob : Nat) ≠ (b + 18) := by omega
  have f791 := (Ow.keep Kq785 (ninS ne790 (ninS ne789 nin0)))
  have f792 := (Eo.keep Kq785)
  obtain ⟨cq788, kq788, q788a, q788b, q788c⟩ := isOf hZ rfl f792
  obtain ⟨vr788, _, ⟨T788, L788, k788, n788⟩, -, X788, ⟨Lc788, hQ788, l788, y788, z788⟩, st788⟩ := X785.virtualBack hx (y := Y10) (z := Y10) hown (mvT hZ (ow hw 78 rfl)) (mvT hZ (own_decl (ow hw 79 rfl) (ow hw 81 rfl))) (notFace_of_selects (args := #[]) (mvT hZ (own_selp (y := Y10) (ow hw 7 rfl) (ow hw 79 rfl) (ow hw 80 rfl) (by decide)))) (mvT hZ (own_selp (y := Y10) (ow hw 7 rfl) (ow hw 79 rfl) (ow hw 80 rfl) (by decide))) (mvT hZ (ow hw 79 rfl)) (by decide) (backOf (W := 0) (rmCL4 l Z a0 hw ob (b + 18) kw T785.heap n0 (Nat.le_trans Z0 KK786.1) f791 V40 (show n0 ≤ ((b + 18) : Nat) by omega) (show (ob : Nat) ≠ (b + 18) by omega)) hZ (ow hw 81 rfl) (ow hw 8 rfl) (by decide) (by decide)) q788a q788c (g := (mkF m 28 #[rv ob, iv (Int32.ofNat cd), iv 0, iv 4, iv 1] [(.int 4), (.ref ob)])) rfl (by rw [hml]; rfl) (Steps.refl _) (argsL := [(.int 4)]) (rest := []) (lenOf pd_56f531a rfl) rfl (by show 2 * 0 + _ ≤ _; exact Nat.le_of_eq rfl) (hc d5_28) (fun _ _ => ⟨rfl, rfl, (by decide : 0 + 0 ≤ _), (by decide : 0 + 0 ≤ _)⟩)
  dsimp only [Pt.U, Pt.locs, Pt.cells, Pt.slots] at X788 l788 y788 z788 st788 hQ788
  subst l788 y788 z788
  obtain ⟨rfl, Nq788, Kq788, V788⟩ := hQ788
  have KK793 := KK786.trans Kq788 (allS (Or.inl (List.mem_of_getElem? (i := 10) rfl)) all0)
  have NN794 := Fr.app NN787 Nq788
  refine gT T788 31 [] (fun zt zk => st788.trans zk) ?_
  refine gAN X788 hx (hc d5_31) rfl (.refl 32) ?_
  refine gLN X788 hx (hc d5_32) rfl (.refl 33) ?_
  have f796 := (f791.keep Kq788 (ninS ne790 nin0))
  have f797 := (f792.keep Kq788)
  obtain ⟨cq795, kq795, q795a, q795b, q795c⟩ := isOf hZ rfl f797
  obtain ⟨vr795, _, ⟨T795, L795, k795, n795⟩, -, X795, ⟨Lc795, hQ795, l795, y795, z795⟩, st795⟩ := X788.virtualBack hx (y := Y11) (z := Y11) hown (mvT hZ (ow hw 82 rfl)) (mvT hZ (own_decl (ow hw 83 rfl) (ow hw 85 rfl))) (notFace_of_selects (args := #[]) (mvT hZ (own_selp (y := Y11) (ow hw 7 rfl) (ow hw 83 rfl) (ow hw 84 rfl) (by decide)))) (mvT hZ (own_selp (y := Y11) (ow hw 7 rfl) (ow hw 83 rfl) (ow hw 84 rfl) (by decide))) (mvT hZ (ow hw 83 rfl)) (by decide) (backOf (W := 0) (rmFi4 l Z a0 hw ob (b + 18) kw T788.heap n0 (Nat.le_trans Z0 KK793.1) f796 V788) hZ (ow hw 85 rfl) (ow hw 8 rfl) (by decide) (by decide)) q795a q795c (g := (mkF m 33 #[rv ob, iv (Int32.ofNat cd), iv 0, iv 4, iv 1] [(.int 4), (.ref ob)])) rfl (by rw [hml]; rfl) (Steps.refl _) (argsL := [(.int 4)]) (rest := []) (lenOf pd_56f531e rfl) rfl (by show 2 * 0 + _ ≤ _; exact Nat.le_of_eq rfl) (hc d5_33) (fun _ _ => ⟨rfl, rfl, (by decide : 0 + 0 ≤ _), (by decide : 0 + 0 ≤ _)⟩)
  dsimp only [Pt.U, Pt.locs, Pt.cells, Pt.slots] at X795 l795 y795 z795 st795 hQ795
  subst l795 y795 z795
  obtain ⟨rfl, Nq795, eq795⟩ := hQ795
  have NN798 := Fr.app NN794 Nq795
  refine gT T795 36 [(.int 1)] (fun zt zk => st795.trans zk) ?_
  refine gIN X795 hx (hc d5_36) ((if0 _ _).trans (feq (by decide)).1) (.refl 39) ?_
  refine gAN X795 hx (hc d5_39) rfl (.refl 40) ?_
  refine gLN X795 hx (hc d5_40) rfl (.refl 41) ?_
  refine gAN X795 hx (hc d5_41) rfl (.refl 42) ?_
  have f799 := ((Oc.keep Kq785 (ninS ne790 (ninS ne789 nin0))).keep Kq788 (ninS ne790 nin0))
  refine gF X795 hx hZ hown (ow hw 18 rfl) Via.refl eq795 f799 (hc d5_42) (.refl 45) ?_
  intro T800 X800 e800
  refine gLN X800 hx (hc d5_45) rfl (.refl 46) ?_
  refine gC (z := 3) X800 hx (hc d5_46) rfl (.refl 47) ?_
  refine gimul X800 hx (hc d5_47) (.refl 48) ?_
  refine gLN X800 hx (hc d5_48) rfl (.refl 49) ?_
  refine giadd X800 hx (hc d5_49) (.refl 50) ?_
  rw [show Int32.ofNat cd * (3 : Int32) + (0 : Int32) = Int32.ofNat (3 * cd + 0) from own_ix hcd (by decide)]
  have ne801 : (b : Nat) ≠ (b + 19) := by omega
  have ne802 : (b : Nat) ≠ (b + 18) := by omega
  have f803 := ((VC.keep Kq785 (ninS ne802 (ninS ne801 nin0))).keep Kq788 (ninS ne802 nin0))
  refine gRA X800 hx hZ e800 f803 (.ref (b + 1 + (3 * cd + 0))) ⟨own_nn (by omega), (own_lt32 (n := 6) (by omega) (by omega)).mpr (by omega)⟩ (own_xs (by omega)) (hc d5_50) (.refl 51) rfl ?_
  refine gAN X800 hx (hc d5_51) rfl (.refl 52) ?_
  have f805 := ((Ot.keep Kq785 (ninS ne790 (ninS ne789 nin0))).keep Kq788 (ninS ne790 nin0))
  refine gF X800 hx hZ hown (ow hw 20 rfl) Via.refl e800 f805 (hc d5_52) (.refl 55) ?_
  intro T806 X806 e806
  refine gLN X806 hx (hc d5_55) rfl (.refl 56) ?_
  refine gC (z := 3) X806 hx (hc d5_56) rfl (.refl 57) ?_
  refine gimul X806 hx (hc d5_57) (.refl 58) ?_
  refine gLN X806 hx (hc d5_58) rfl (.refl 59) ?_
  refine giadd X806 hx (hc d5_59) (.refl 60) ?_
  rw [show Int32.ofNat cd * (3 : Int32) + (0 : Int32) = Int32.ofNat (3 * cd + 0) from own_ix hcd (by decide)]
  have ne807 : ((b + 7) : Nat) ≠ (b + 19) := by omega
  have ne808 : ((b + 7) : Nat) ≠ (b + 18) := by omega
  have f809 := ((VT.keep Kq785 (ninS ne808 (ninS ne807 nin0))).keep Kq788 (ninS ne808 nin0))
  refine gRA X806 hx hZ e806 f809 (.ref (b + 7 + 1 + (3 * cd + 0))) ⟨own_nn (by omega), (own_lt32 (n := 6) (by omega) (by omega)).mpr (by omega)⟩ (own_xs (by omega)) (hc d5_60) (.refl 61) rfl ?_
  have f812 := ((Oo.keep Kq785 (ninS ne790 (ninS ne789 nin0))).keep Kq788 (ninS ne790 nin0))
  have ne813 : ((b + 19) : Nat) ≠ (b + 18) := by omega
  have f814 := (Vo785.keep Kq788 (ninS ne813 nin0))
  have ne815 : ((b + 1 + (3 * cd + 0)) : Nat) ≠ (b + 19) := by omega
  have ne816 : ((b + 1 + (3 * cd + 0)) : Nat) ≠ (b + 18) := by omega
  have f817 := ((RD0.keep Kq785 (ninS ne816 (ninS ne815 nin0))).keep Kq788 (ninS ne816 nin0))
  have ne818 : ((b + 7 + 1 + (3 * cd + 0)) : Nat) ≠ (b + 19) := by omega
  have ne819 : ((b + 7 + 1 + (3 * cd + 0)) : Nat) ≠ (b + 18) := by omega
  have f820 := ((RV0.keep Kq785 (ninS ne819 (ninS ne818 nin0))).keep Kq788 (ninS ne819 nin0))
  obtain ⟨cq811, kq811, q811a, q811b, q811c⟩ := isOf hZ e806 f797
  obtain ⟨vr811, _, ⟨T811, L811, k811, n811⟩, -, X811, ⟨Lc811, hQ811, l811, y811, z811⟩, st811⟩ := X806.virtualBack hx (y := Y12) (z := Y12) hown (mvT hZ (ow hw 87 rfl)) (mvT hZ (own_decl (ow hw 88 rfl) (ow hw 90 rfl))) (notFace_of_selects (args := #[]) (mvT hZ (own_selp (y := Y12) (ow hw 7 rfl) (ow hw 88 rfl) (ow hw 89 rfl) (by decide)))) (mvT hZ (own_selp (y := Y12) (ow hw 7 rfl) (ow hw 88 rfl) (ow hw 89 rfl) (by decide))) (mvT hZ (ow hw 88 rfl)) (by decide) (backOf (W := 0) (rmAs4 l Z a0 hw ob (b + 18) (b + 19) (b + 1 + (3 * cd + 0)) (b + 7 + 1 + (3 * cd + 0)) kw ko kc0 kt0 (own_o2 (own_sort (own_wl (kf 0) ps0 (fun _ => (0 : Int64))) ps0.length) (fun _ => (0 : Int32)) ps0.length) (cf (3 * cd + 0)) vt0 v0_ v1_ v2_ v3_ T788.heap n0 (Nat.le_trans Z0 KK793.1) f796 f812 V788 f814 f817 f820 lt0 (show n0 ≤ ((b + 1 + (3 * cd + 0)) : Nat) by omega) (show n0 ≤ ((b + 7 + 1 + (3 * cd + 0)) : Nat) by omega) ⟨(show ((b + 1 + (3 * cd + 0)) : Nat) ≠ (b + 7 + 1 + (3 * cd + 0)) by omega), (show ((b + 18) : Nat) ≠ (b + 1 + (3 * cd + 0)) by omega), (show ((b + 18) : Nat) ≠ (b + 7 + 1 + (3 * cd + 0)) by omega), (show ((b + 19) : Nat) ≠ (b + 1 + (3 * cd + 0)) by omega), (show ((b + 19) : Nat) ≠ (b + 7 + 1 + (3 * cd + 0)) by omega), (show (ob : Nat) ≠ (b + 1 + (3 * cd + 0)) by omega), (show (ob : Nat) ≠ (b + 7 + 1 + (3 * cd + 0)) by omega)⟩ ((hra0 0 (Nat.le_of_ble_eq_true rfl)).2) l_v0_ ((hra0 1 (Nat.le_of_ble_eq_true rfl)).2) l_v1_ ((hra0 2 (Nat.le_of_ble_eq_true rfl)).2) l_v2_ ((hra0 3 (Nat.le_of_ble_eq_true rfl)).2) l_v3_ (own_k4 d_v1_v0_ d_v2_v0_ d_v2_v1_ d_v3_v0_ d_v3_v1_ d_v3_v2_ l_v0_ l_v1_ l_v2_ l_v3_).1) hZ (ow hw 90 rfl) (ow hw 8 rfl) (by decide) (by decide)) q811a q811c (g := (mkF m 61 #[rv ob, iv (Int32.ofNat cd), iv 0, iv 4, iv 1] [(.ref (b + 7 + 1 + (3 * cd + 0))), (.ref (b + 1 + (3 * cd + 0))), (.int 4), (.ref ob)])) rfl (by rw [hml]; rfl) (Steps.refl _) (argsL := [(.int 4), (.ref (b + 1 + (3 * cd + 0))), (.ref (b + 7 + 1 + (3 * cd + 0)))]) (rest := []) (lenOf pd_414c812 rfl) rfl (by show 2 * 0 + _ ≤ _; exact Nat.le_of_eq rfl) (hc d5_61) (fun _ _ => ⟨rfl, e806, (by decide : 0 + 0 ≤ _), (by decide : 0 + 0 ≤ _)⟩)
  dsimp only [Pt.U, Pt.locs, Pt.cells, Pt.slots] at X811 l811 y811 z811 st811 hQ811
  subst l811 y811 z811
  obtain ⟨rfl, Nq811, Kq811, V811, vs811, lv811, W811⟩ := hQ811
  have KK821 := KK793.trans Kq811 (allS (Or.inl (List.mem_of_getElem? (i := 1) rfl)) (allS (Or.inl (List.mem_of_getElem? (i := 4) rfl)) all0))
  have NN822 := Fr.app NN798 Nq811
  refine gT T811 64 [] (fun zt zk => st811.trans zk) ?_
  have f823 := (V788.keep Kq811 (ninS (Ne.symm ne816) (ninS (Ne.symm ne819) nin0)))
  have VX0 := own_4al f823
  refine gP 67 #[rv ob, iv (Int32.ofNat cd), iv ((0 : Int32) + (1 : Int32)), iv 4, iv 1] [] (fun zt zk => XS.iinc X811.here hx rfl (hc d5_64) rfl (l' := _) rfl zk) ?_
  rw [show ((0 : Int32) + (1 : Int32)) = (1 : Int32) by decide]
  refine gG (q := 2) X811 hx (hc d5_67) (by decide) ?_
  refine gLN X811 hx (hc d5_2) rfl (.refl 3) ?_
  refine gC (z := 3) X811 hx (hc d5_3) rfl (.refl 4) ?_
  refine gJN X811 hx (hc d5_4) (tlt (by decide)).2.1 (.refl 7) ?_
  refine gC (z := 0) X811 hx (hc d5_7) rfl (.refl 8) ?_
  refine gP 10 #[rv ob, iv (Int32.ofNat cd), iv 1, iv 4, iv 0] [] (fun zt zk => XS.istore X811.here hx rfl (hc d5_8) rfl (l' := _) rfl zk) ?_
  refine gAN X811 hx (hc d5_10) rfl (.refl 11) ?_
  refine gAN X811 hx (hc d5_11) rfl (.refl 12) ?_
  have ne824 : (ob : Nat) ≠ (b + 7 + 1 + (3 * cd + 0)) := by omega
  have ne825 : (ob : Nat) ≠ (b + 1 + (3 * cd + 0)) := by omega
  have f826 := (((Ok.keep Kq785 (ninS ne790 (ninS ne789 nin0))).keep Kq788 (ninS ne790 nin0)).keep Kq811 (ninS ne825 (ninS ne824 nin0)))
  refine gF X811 hx hZ hown (ow hw 24 rfl) Via.refl rfl f826 (hc d5_12) (.refl 15) ?_
  intro T827 X827 e827
  refine gLN X827 hx (hc d5_15) rfl (.refl 16) ?_
  have ne828 : ((b + 14) : Nat) ≠ (b + 19) := by omega
  have ne829 : ((b + 14) : Nat) ≠ (b + 18) := by omega
  have ne830 : ((b + 14) : Nat) ≠ (b + 7 + 1 + (3 * cd + 0)) := by omega
  have ne831 : ((b + 14) : Nat) ≠ (b + 1 + (3 * cd + 0)) := by omega
  have f832 := (((VK.keep Kq785 (ninS ne829 (ninS ne828 nin0))).keep Kq788 (ninS ne829 nin0)).keep Kq811 (ninS ne831 (ninS ne830 nin0)))
  refine gRA X827 hx hZ e827 f832 (.ref (b + 16)) ⟨by decide, by decide⟩ (own_xk1 b) (hc d5_16) (.refl 17) rfl ?_
  refine gL X827 hx (hc d5_17) rfl (.refl 19) ?_
  refine gP 22 #[rv ob, iv (Int32.ofNat cd), iv 1, iv 4, iv ((0 : Int32) + (1 : Int32))] [(.int 0), (.ref (b + 16)), (.ref ob)] (fun zt zk => XS.iinc X827.here hx rfl (hc d5_19) rfl (l' := _) rfl zk) ?_
  rw [show ((0 : Int32) + (1 : Int32)) = (1 : Int32) by decide]
  obtain ⟨ps1, hps1, hln1, hr1⟩ := id r_1
  have f835 := (f796.keep Kq811 (ninS ne825 (ninS ne824 nin0)))
  have f836 := (f812.keep Kq811 (ninS ne825 (ninS ne824 nin0)))
  have f837 := (f814.keep Kq811 (ninS (Ne.symm ne815) (ninS (Ne.symm ne818) nin0)))
  have ne838 : ((b + 16) : Nat) ≠ (b + 19) := by omega
  have ne839 : ((b + 16) : Nat) ≠ (b + 18) := by omega
  have ne840 : ((b + 16) : Nat) ≠ (b + 7 + 1 + (3 * cd + 0)) := by omega
  have ne841 : ((b + 16) : Nat) ≠ (b + 1 + (3 * cd + 0)) := by omega
  have f842 := (((RK1.keep Kq785 (ninS ne839 (ninS ne838 nin0))).keep Kq788 (ninS ne839 nin0)).keep Kq811 (ninS ne841 (ninS ne840 nin0)))
  have f843 := (f797.keep Kq811)
  obtain ⟨cq834, kq834, q834a, q834b, q834c⟩ := isOf hZ e827 f843
  obtain ⟨vr834, _, ⟨T834, L834, k834, n834⟩, -, X834, ⟨Lc834, hQ834, l834, y834, z834⟩, st834⟩ := X827.virtualBack hx (y := Y9) (z := Y9) hown (mvT hZ (ow hw 50 rfl)) (mvT hZ (own_decl (ow hw 51 rfl) (ow hw 53 rfl))) (notFace_of_selects (args := #[]) (mvT hZ (own_selp (y := Y9) (ow hw 7 rfl) (ow hw 51 rfl) (ow hw 52 rfl) (by decide)))) (mvT hZ (own_selp (y := Y9) (ow hw 7 rfl) (ow hw 51 rfl) (ow hw 52 rfl) (by decide))) (mvT hZ (ow hw 51 rfl)) (by decide) (backOf (W := 0) (rmWe l Z a0 hw ob (b + 18) (b + 19) (b + 16) kw ko kr1 (kf 1) (fun j => if j = 0 then (3 : Int64) else if j = 1 then (3 : Int64) else if j = 2 then (2 : Int64) else if j = 3 then (1 : Int64) else 0) (own_o2 (own_sort (own_wl (kf 0) ps0 (fun _ => (0 : Int64))) ps0.length) (fun _ => (0 : Int32)) ps0.length) ps1 T811.heap n0 (Nat.le_trans Z0 KK821.1) f835 f836 VX0 f837 f842 ⟨(show ((b + 18) : Nat) ≠ (b + 19) by omega), (show ((b + 18) : Nat) ≠ (b + 16) by omega), (show ((b + 19) : Nat) ≠ (b + 16) by omega), (show (ob : Nat) ≠ (b + 18) by omega), (show (ob : Nat) ≠ (b + 19) by omega)⟩ (show n0 ≤ ((b + 18) : Nat) by omega) (show n0 ≤ ((b + 19) : Nat) by omega) hps1) hZ (ow hw 53 rfl) (ow hw 8 rfl) (by decide) (by decide)) q834a q834c (g := (mkF m 22 #[rv ob, iv (Int32.ofNat cd), iv 1, iv 4, iv 1] [(.int 0), (.ref (b + 16)), (.ref ob)])) rfl (by rw [hml]; rfl) (Steps.refl _) (argsL := [(.ref (b + 16)), (.int 0)]) (rest := []) (lenOf pd_3e6eccb rfl) rfl (by show 2 * 0 + _ ≤ _; exact Nat.le_of_eq rfl) (hc d5_22) (fun _ _ => ⟨rfl, e827, (by decide : 0 + 0 ≤ _), (by decide : 0 + 0 ≤ _)⟩)
  dsimp only [Pt.U, Pt.locs, Pt.cells, Pt.slots] at X834 l834 y834 z834 st834 hQ834
  subst l834 y834 z834
  obtain ⟨rfl, Nq834, Kq834, Vw834, Vo834⟩ := hQ834
  have KK844 := KK821.trans Kq834 (allS (Or.inl (List.mem_of_getElem? (i := 10) rfl)) (allS (Or.inl (List.mem_of_getElem? (i := 11) rfl)) all0))
  have NN845 := Fr.app NN822 Nq834
  refine gT T834 25 [(.int (Int32.ofNat ps1.length))] (fun zt zk => st834.trans zk) ?_
  rw [show Int32.ofNat ps1.length = (3 : Int32) by rw [hln1]; rfl]
  obtain ⟨hra1, hrb1⟩ := hr1 (fun j => if j = 0 then (3 : Int64) else if j = 1 then (3 : Int64) else if j = 2 then (2 : Int64) else if j = 3 then (1 : Int64) else 0) (own_o2 (own_sort (own_wl (kf 0) ps0 (fun _ => (0 : Int64))) ps0.length) (fun _ => (0 : Int32)) ps0.length)
  have V41 : Arv Z T834.heap (b + 18) kw .long (257 : Int32) [(.long 1), (.long 1), (.long 2), (.long 1)] (.long 0) := own_al4 Vw834 ((hra1 0 (Nat.le_of_ble_eq_true rfl)).1) ((hra1 1 (Nat.le_of_ble_eq_true rfl)).1) ((hra1 2 (Nat.le_of_ble_eq_true rfl)).1) (hrb1 3 (Nat.le_refl _)) (fun j hj => (hrb1 j (by show 3 ≤ j; omega)).trans (by first | rfl | (show (if j = 0 then _ else _) = _; rw [if_neg (by omega), if_neg (by omega), if_neg (by omega), if_neg (by omega)])))
  refine gP 26 #[rv ob, iv (Int32.ofNat cd), iv 1, iv 3, iv 1] [] (fun zt zk => XS.istoreN X834.here hx rfl (hc d5_25) rfl (l' := _) rfl zk) ?_
  refine gAN X834 hx (hc d5_26) rfl (.refl 27) ?_
  refine gLN X834 hx (hc d5_27) rfl (.refl 28) ?_
  have f847 := (f835.keep Kq834 (ninS ne790 (ninS ne789 nin0)))
  have f848 := (f843.keep Kq834)
  obtain ⟨cq846, kq846, q846a, q846b, q846c⟩ := isOf hZ rfl f848
  obtain ⟨vr846, _, ⟨T846, L846, k846, n846⟩, -, X846, ⟨Lc846, hQ846, l846, y846, z846⟩, st846⟩ := X834.virtualBack hx (y := Y10) (z := Y10) hown (mvT hZ (ow hw 78 rfl)) (mvT hZ (own_decl (ow hw 79 rfl) (ow hw 81 rfl))) (notFace_of_selects (args := #[]) (mvT hZ (own_selp (y := Y10) (ow hw 7 rfl) (ow hw 79 rfl) (ow hw 80 rfl) (by decide)))) (mvT hZ (own_selp (y := Y10) (ow hw 7 rfl) (ow hw 79 rfl) (ow hw 80 rfl) (by decide))) (mvT hZ (ow hw 79 rfl)) (by decide) (backOf (W := 0) (rmCL3 l Z a0 hw ob (b + 18) kw T834.heap n0 (Nat.le_trans Z0 KK844.1) f847 V41 (show n0 ≤ ((b + 18) : Nat) by omega) (show (ob : Nat) ≠ (b + 18) by omega)) hZ (ow hw 81 rfl) (ow hw 8 rfl) (by decide) (by decide)) q846a q846c (g := (mkF m 28 #[rv ob, iv (Int32.ofNat cd), iv 1, iv 3, iv 1] [(.int 3), (.ref ob)])) rfl (by rw [hml]; rfl) (Steps.refl _) (argsL := [(.int 3)]) (rest := []) (lenOf pd_56f531a rfl) rfl (by show 2 * 0 + _ ≤ _; exact Nat.le_of_eq rfl) (hc d5_28) (fun _ _ => ⟨rfl, rfl, (by decide : 0 + 0 ≤ _), (by decide : 0 + 0 ≤ _)⟩)
  dsimp only [Pt.U, Pt.locs, Pt.cells, Pt.slots] at X846 l846 y846 z846 st846 hQ846
  subst l846 y846 z846
  obtain ⟨rfl, Nq846, Kq846, V846⟩ := hQ846
  have KK849 := KK844.trans Kq846 (allS (Or.inl (List.mem_of_getElem? (i := 10) rfl)) all0)
  have NN850 := Fr.app NN845 Nq846
  refine gT T846 31 [] (fun zt zk => st846.trans zk) ?_
  refine gAN X846 hx (hc d5_31) rfl (.refl 32) ?_
  refine gLN X846 hx (hc d5_32) rfl (.refl 33) ?_
  have f852 := (f847.keep Kq846 (ninS ne790 nin0))
  have f853 := (f848.keep Kq846)
  obtain ⟨cq851, kq851, q851a, q851b, q851c⟩ := isOf hZ rfl f853
  obtain ⟨vr851, _, ⟨T851, L851, k851, n851⟩, -, X851, ⟨Lc851, hQ851, l851, y851, z851⟩, st851⟩ := X846.virtualBack hx (y := Y11) (z := Y11) hown (mvT hZ (ow hw 82 rfl)) (mvT hZ (own_decl (ow hw 83 rfl) (ow hw 85 rfl))) (notFace_of_selects (args := #[]) (mvT hZ (own_selp (y := Y11) (ow hw 7 rfl) (ow hw 83 rfl) (ow hw 84 rfl) (by decide)))) (mvT hZ (own_selp (y := Y11) (ow hw 7 rfl) (ow hw 83 rfl) (ow hw 84 rfl) (by decide))) (mvT hZ (ow hw 83 rfl)) (by decide) (backOf (W := 0) (rmFi3 l Z a0 hw ob (b + 18) kw T846.heap n0 (Nat.le_trans Z0 KK849.1) f852 V846) hZ (ow hw 85 rfl) (ow hw 8 rfl) (by decide) (by decide)) q851a q851c (g := (mkF m 33 #[rv ob, iv (Int32.ofNat cd), iv 1, iv 3, iv 1] [(.int 3), (.ref ob)])) rfl (by rw [hml]; rfl) (Steps.refl _) (argsL := [(.int 3)]) (rest := []) (lenOf pd_56f531e rfl) rfl (by show 2 * 0 + _ ≤ _; exact Nat.le_of_eq rfl) (hc d5_33) (fun _ _ => ⟨rfl, rfl, (by decide : 0 + 0 ≤ _), (by decide : 0 + 0 ≤ _)⟩)
  dsimp only [Pt.U, Pt.locs, Pt.cells, Pt.slots] at X851 l851 y851 z851 st851 hQ851
  subst l851 y851 z851
  obtain ⟨rfl, Nq851, eq851⟩ := hQ851
  have NN854 := Fr.app NN850 Nq851
  refine gT T851 36 [(.int 1)] (fun zt zk => st851.trans zk) ?_
  refine gIN X851 hx (hc d5_36) ((if0 _ _).trans (feq (by decide)).1) (.refl 39) ?_
  refine gAN X851 hx (hc d5_39) rfl (.refl 40) ?_
  refine gLN X851 hx (hc d5_40) rfl (.refl 41) ?_
  refine gAN X851 hx (hc d5_41) rfl (.refl 42) ?_
  have f855 := (((f799.keep Kq811 (ninS ne825 (ninS ne824 nin0))).keep Kq834 (ninS ne790 (ninS ne789 nin0))).keep Kq846 (ninS ne790 nin0))
  refine gF X851 hx hZ hown (ow hw 18 rfl) Via.refl eq851 f855 (hc d5_42) (.refl 45) ?_
  intro T856 X856 e856
  refine gLN X856 hx (hc d5_45) rfl (.refl 46) ?_
  refine gC (z := 3) X856 hx (hc d5_46) rfl (.refl 47) ?_
  refine gimul X856 hx (hc d5_47) (.refl 48) ?_
  refine gLN X856 hx (hc d5_48) rfl (.refl 49) ?_
  refine giadd X856 hx (hc d5_49) (.refl 50) ?_
  rw [show Int32.ofNat cd * (3 : Int32) + (1 : Int32) = Int32.ofNat (3 * cd + 1) from own_ix hcd (by decide)]
  have ne857 : (b : Nat) ≠ (b + 7 + 1 + (3 * cd + 0)) := by omega
  have ne858 : (b : Nat) ≠ (b + 1 + (3 * cd + 0)) := by omega
  have f859 := (((f803.keep Kq811 (ninS ne858 (ninS ne857 nin0))).keep Kq834 (ninS ne802 (ninS ne801 nin0))).keep Kq846 (ninS ne802 nin0))
  refine gRA X856 hx hZ e856 f859 (.ref (b + 1 + (3 * cd + 1))) ⟨own_nn (by omega), (own_lt32 (n := 6) (by omega) (by omega)).mpr (by omega)⟩ (own_xs (by omega)) (hc d5_50) (.refl 51) rfl ?_
  refine gAN X856 hx (hc d5_51) rfl (.refl 52) ?_
  have f861 := (((f805.keep Kq811 (ninS ne825 (ninS ne824 nin0))).keep Kq834 (ninS ne790 (ninS ne789 nin0))).keep Kq846 (ninS ne790 nin0))
  refine gF X856 hx hZ hown (ow hw 20 rfl) Via.refl e856 f861 (hc d5_52) (.refl 55) ?_
  intro T862 X862 e862
  refine gLN X862 hx (hc d5_55) rfl (.refl 56) ?_
  refine gC (z := 3) X862 hx (hc d5_56) rfl (.refl 57) ?_
  refine gimul X862 hx (hc d5_57) (.refl 58) ?_
  refine gLN X862 hx (hc d5_58) rfl (.refl 59) ?_
  refine giadd X862 hx (hc d5_59) (.refl 60) ?_
  rw [show Int32.ofNat cd * (3 : Int32) + (1 : Int32) = Int32.ofNat (3 * cd + 1) from own_ix hcd (by decide)]
  have ne863 : ((b + 7) : Nat) ≠ (b + 7 + 1 + (3 * cd + 0)) := by omega
  have ne864 : ((b + 7) : Nat) ≠ (b + 1 + (3 * cd + 0)) := by omega
  have f865 := (((f809.keep Kq811 (ninS ne864 (ninS ne863 nin0))).keep Kq834 (ninS ne808 (ninS ne807 nin0))).keep Kq846 (ninS ne808 nin0))
  refine gRA X862 hx hZ e862 f865 (.ref (b + 7 + 1 + (3 * cd + 1))) ⟨own_nn (by omega), (own_lt32 (n := 6) (by omega) (by omega)).mpr (by omega)⟩ (own_xs (by omega)) (hc d5_60) (.refl 61) rfl ?_
  obtain ⟨LX867, XX867, NX867⟩ : ∃ LX, Stand p l e ({ frames := 5, cells := 0, slots := 0, locals := 104 } : Room) s m #[(.ref ob), (.int (Int32.ofNat cd))] below meth c T862 LX 0 0 ∧ Fr n0 LX := ⟨_, X862, NN854⟩
  have f869 := ((f836.keep Kq834 (ninS ne790 (ninS ne789 nin0))).keep Kq846 (ninS ne790 nin0))
  have f870 := (Vo834.keep Kq846 (ninS ne813 nin0))
  have ne871 : ((b + 1 + (3 * cd + 1)) : Nat) ≠ (b + 19) := by omega
  have ne872 : ((b + 1 + (3 * cd + 1)) : Nat) ≠ (b + 18) := by omega
  have ne873 : ((b + 1 + (3 * cd + 1)) : Nat) ≠ (b + 7 + 1 + (3 * cd + 0)) := by omega
  have ne874 : ((b + 1 + (3 * cd + 1)) : Nat) ≠ (b + 1 + (3 * cd + 0)) := by omega
  have f875 := (((((RD1.keep Kq785 (ninS ne872 (ninS ne871 nin0))).keep Kq788 (ninS ne872 nin0)).keep Kq811 (ninS ne874 (ninS ne873 nin0))).keep Kq834 (ninS ne872 (ninS ne871 nin0))).keep Kq846 (ninS ne872 nin0))
  have ne876 : ((b + 7 + 1 + (3 * cd + 1)) : Nat) ≠ (b + 19) := by omega
  have ne877 : ((b + 7 + 1 + (3 * cd + 1)) : Nat) ≠ (b + 18) := by omega
  have ne878 : ((b + 7 + 1 + (3 * cd + 1)) : Nat) ≠ (b + 7 + 1 + (3 * cd + 0)) := by omega
  have ne879 : ((b + 7 + 1 + (3 * cd + 1)) : Nat) ≠ (b + 1 + (3 * cd + 0)) := by omega
  have f880 := (((((RV1.keep Kq785 (ninS ne877 (ninS ne876 nin0))).keep Kq788 (ninS ne877 nin0)).keep Kq811 (ninS ne879 (ninS ne878 nin0))).keep Kq834 (ninS ne877 (ninS ne876 nin0))).keep Kq846 (ninS ne877 nin0))
  obtain ⟨cq868, kq868, q868a, q868b, q868c⟩ := isOf hZ e862 f853
  obtain ⟨vr868, _, ⟨T868, L868, k868, n868⟩, -, X868, ⟨Lc868, hQ868, l868, y868, z868⟩, st868⟩ := XX867.virtualBack hx (y := Y12) (z := Y12) hown (mvT hZ (ow hw 87 rfl)) (mvT hZ (own_decl (ow hw 88 rfl) (ow hw 90 rfl))) (notFace_of_selects (args := #[]) (mvT hZ (own_selp (y := Y12) (ow hw 7 rfl) (ow hw 88 rfl) (ow hw 89 rfl) (by decide)))) (mvT hZ (own_selp (y := Y12) (ow hw 7 rfl) (ow hw 88 rfl) (ow hw 89 rfl) (by decide))) (mvT hZ (ow hw 88 rfl)) (by decide) (backOf (W := 0) (rmAs3 l Z a0 hw ob (b + 18) (b + 19) (b + 1 + (3 * cd + 1)) (b + 7 + 1 + (3 * cd + 1)) kw ko kc1 kt1 (own_o2 (own_sort (own_wl (kf 1) ps1 (fun j => if j = 0 then (3 : Int64) else if j = 1 then (3 : Int64) else if j = 2 then (2 : Int64) else if j = 3 then (1 : Int64) else 0)) ps1.length) (own_o2 (own_sort (own_wl (kf 0) ps0 (fun _ => (0 : Int64))) ps0.length) (fun _ => (0 : Int32)) ps0.length) ps1.length) (cf (3 * cd + 1)) vt1 y0_ y1_ y2_ T846.heap n0 (Nat.le_trans Z0 KK849.1) f852 f869 V846 f870 f875 f880 lt1 (show n0 ≤ ((b + 1 + (3 * cd + 1)) : Nat) by omega) (show n0 ≤ ((b + 7 + 1 + (3 * cd + 1)) : Nat) by omega) ⟨(show ((b + 1 + (3 * cd + 1)) : Nat) ≠ (b + 7 + 1 + (3 * cd + 1)) by omega), (show ((b + 18) : Nat) ≠ (b + 1 + (3 * cd + 1)) by omega), (show ((b + 18) : Nat) ≠ (b + 7 + 1 + (3 * cd + 1)) by omega), (show ((b + 19) : Nat) ≠ (b + 1 + (3 * cd + 1)) by omega), (show ((b + 19) : Nat) ≠ (b + 7 + 1 + (3 * cd + 1)) by omega), (show (ob : Nat) ≠ (b + 1 + (3 * cd + 1)) by omega), (show (ob : Nat) ≠ (b + 7 + 1 + (3 * cd + 1)) by omega)⟩ ((hra1 0 (Nat.le_of_ble_eq_true rfl)).2) l_y0_ ((hra1 1 (Nat.le_of_ble_eq_true rfl)).2) l_y1_ ((hra1 2 (Nat.le_of_ble_eq_true rfl)).2) l_y2_ (own_k3 d_y1_y0_ d_y2_y0_ d_y2_y1_ l_y0_ l_y1_ l_y2_).1) hZ (ow hw 90 rfl) (ow hw 8 rfl) (by decide) (by decide)) q868a q868c (g := (mkF m 61 #[rv ob, iv (Int32.ofNat cd), iv 1, iv 3, iv 1] [(.ref (b + 7 + 1 + (3 * cd + 1))), (.ref (b + 1 + (3 * cd + 1))), (.int 3), (.ref ob)])) rfl (by rw [hml]; rfl) (Steps.refl _) (argsL := [(.int 3), (.ref (b + 1 + (3 * cd + 1))), (.ref (b + 7 + 1 + (3 * cd + 1)))]) (rest := []) (lenOf pd_414c812 rfl) rfl (by show 2 * 0 + _ ≤ _; exact Nat.le_of_eq rfl) (hc d5_61) (fun _ _ => ⟨rfl, e862, (by decide : 0 + 0 ≤ _), (by decide : 0 + 0 ≤ _)⟩)
  dsimp only [Pt.U, Pt.locs, Pt.cells, Pt.slots] at X868 l868 y868 z868 st868 hQ868
  subst l868 y868 z868
  obtain ⟨rfl, Nq868, Kq868, V868, vs868, lv868, W868⟩ := hQ868
  have KK881 := KK849.trans Kq868 (allS (Or.inl (List.mem_of_getElem? (i := 2) rfl)) (allS (Or.inl (List.mem_of_getElem? (i := 5) rfl)) all0))
  have NN882 := Fr.app NX867 Nq868
  refine gT T868 64 [] (fun zt zk => st868.trans zk) ?_
  have f883 := (V846.keep Kq868 (ninS (Ne.symm ne872) (ninS (Ne.symm ne877) nin0)))
  have VX1 := own_4al f883
  refine gP 67 #[rv ob, iv (Int32.ofNat cd), iv ((1 : Int32) + (1 : Int32)), iv 3, iv 1] [] (fun zt zk => XS.iinc X868.here hx rfl (hc d5_64) rfl (l' := _) rfl zk) ?_
  rw [show ((1 : Int32) + (1 : Int32)) = (2 : Int32) by decide]
  refine gG (q := 2) X868 hx (hc d5_67) (by decide) ?_
  refine gLN X868 hx (hc d5_2) rfl (.refl 3) ?_
  refine gC (z := 3) X868 hx (hc d5_3) rfl (.refl 4) ?_
  refine gJN X868 hx (hc d5_4) (tlt (by decide)).2.1 (.refl 7) ?_
  refine gC (z := 0) X868 hx (hc d5_7) rfl (.refl 8) ?_
  refine gP 10 #[rv ob, iv (Int32.ofNat cd), iv 2, iv 3, iv 0] [] (fun zt zk => XS.istore X868.here hx rfl (hc d5_8) rfl (l' := _) rfl zk) ?_
  refine gAN X868 hx (hc d5_10) rfl (.refl 11) ?_
  refine gAN X868 hx (hc d5_11) rfl (.refl 12) ?_
  have ne884 : (ob : Nat) ≠ (b + 7 + 1 + (3 * cd + 1)) := by omega
  have ne885 : (ob : Nat) ≠ (b + 1 + (3 * cd + 1)) := by omega
  have f886 := (((f826.keep Kq834 (ninS ne790 (ninS ne789 nin0))).keep Kq846 (ninS ne790 nin0)).keep Kq868 (ninS ne885 (ninS ne884 nin0)))
  refine gF X868 hx hZ hown (ow hw 24 rfl) Via.refl rfl f886 (hc d5_12) (.refl 15) ?_
  intro T887 X887 e887
  refine gLN X887 hx (hc d5_15) rfl (.refl 16) ?_
  have ne888 : ((b + 14) : Nat) ≠ (b + 7 + 1 + (3 * cd + 1)) := by omega
  have ne889 : ((b + 14) : Nat) ≠ (b + 1 + (3 * cd + 1)) := by omega
  have f890 := (((f832.keep Kq834 (ninS ne829 (ninS ne828 nin0))).keep Kq846 (ninS ne829 nin0)).keep Kq868 (ninS ne889 (ninS ne888 nin0)))
  refine gRA X887 hx hZ e887 f890 (.ref (b + 17)) ⟨by decide, by decide⟩ (own_xk2 b) (hc d5_16) (.refl 17) rfl ?_
  refine gL X887 hx (hc d5_17) rfl (.refl 19) ?_
  refine gP 22 #[rv ob, iv (Int32.ofNat cd), iv 2, iv 3, iv ((0 : Int32) + (1 : Int32))] [(.int 0), (.ref (b + 17)), (.ref ob)] (fun zt zk => XS.iinc X887.here hx rfl (hc d5_19) rfl (l' := _) rfl zk) ?_
  rw [show ((0 : Int32) + (1 : Int32)) = (1 : Int32) by decide]
  obtain ⟨ps2, hps2, hln2, hr2⟩ := id r_2
  have f893 := (f852.keep Kq868 (ninS ne885 (ninS ne884 nin0)))
  have f894 := (f869.keep Kq868 (ninS ne885 (ninS ne884 nin0)))
  have f895 := (f870.keep Kq868 (ninS (Ne.symm ne871) (ninS (Ne.symm ne876) nin0)))
  have ne896 : ((b + 17) : Nat) ≠ (b + 19) := by omega
  have ne897 : ((b + 17) : Nat) ≠ (b + 18) := by omega
  have ne898 : ((b + 17) : Nat) ≠ (b + 7 + 1 + (3 * cd + 0)) := by omega
  have ne899 : ((b + 17) : Nat) ≠ (b + 1 + (3 * cd + 0)) := by omega
  have ne900 : ((b + 17) : Nat) ≠ (b + 7 + 1 + (3 * cd + 1)) := by omega
  have ne901 : ((b + 17) : Nat) ≠ (b + 1 + (3 * cd + 1)) := by omega
  have f902 := ((((((RK2.keep Kq785 (ninS ne897 (ninS ne896 nin0))).keep Kq788 (ninS ne897 nin0)).keep Kq811 (ninS ne899 (ninS ne898 nin0))).keep Kq834 (ninS ne897 (ninS ne896 nin0))).keep Kq846 (ninS ne897 nin0)).keep Kq868 (ninS ne901 (ninS ne900 nin0)))
  have f903 := (f853.keep Kq868)
  obtain ⟨cq892, kq892, q892a, q892b, q892c⟩ := isOf hZ e887 f903
  obtain ⟨vr892, _, ⟨T892, L892, k892, n892⟩, -, X892, ⟨Lc892, hQ892, l892, y892, z892⟩, st892⟩ := X887.virtualBack hx (y := Y9) (z := Y9) hown (mvT hZ (ow hw 50 rfl)) (mvT hZ (own_decl (ow hw 51 rfl) (ow hw 53 rfl))) (notFace_of_selects (args := #[]) (mvT hZ (own_selp (y := Y9) (ow hw 7 rfl) (ow hw 51 rfl) (ow hw 52 rfl) (by decide)))) (mvT hZ (own_selp (y := Y9) (ow hw 7 rfl) (ow hw 51 rfl) (ow hw 52 rfl) (by decide))) (mvT hZ (ow hw 51 rfl)) (by decide) (backOf (W := 0) (rmWe l Z a0 hw ob (b + 18) (b + 19) (b + 17) kw ko kr2 (kf 2) (fun j => if j = 0 then (2 : Int64) else if j = 1 then (2 : Int64) else if j = 2 then (1 : Int64) else if j = 3 then (1 : Int64) else 0) (own_o2 (own_sort (own_wl (kf 1) ps1 (fun j => if j = 0 then (3 : Int64) else if j = 1 then (3 : Int64) else if j = 2 then (2 : Int64) else if j = 3 then (1 : Int64) else 0)) ps1.length) (own_o2 (own_sort (own_wl (kf 0) ps0 (fun _ => (0 : Int64))) ps0.length) (fun _ => (0 : Int32)) ps0.length) ps1.length) ps2 T868.heap n0 (Nat.le_trans Z0 KK881.1) f893 f894 VX1 f895 f902 ⟨(show ((b + 18) : Nat) ≠ (b + 19) by omega), (show ((b + 18) : Nat) ≠ (b + 17) by omega), (show ((b + 19) : Nat) ≠ (b + 17) by omega), (show (ob : Nat) ≠ (b + 18) by omega), (show (ob : Nat) ≠ (b + 19) by omega)⟩ (show n0 ≤ ((b + 18) : Nat) by omega) (show n0 ≤ ((b + 19) : Nat) by omega) hps2) hZ (ow hw 53 rfl) (ow hw 8 rfl) (by decide) (by decide)) q892a q892c (g := (mkF m 22 #[rv ob, iv (Int32.ofNat cd), iv 2, iv 3, iv 1] [(.int 0), (.ref (b + 17)), (.ref ob)])) rfl (by rw [hml]; rfl) (Steps.refl _) (argsL := [(.ref (b + 17)), (.int 0)]) (rest := []) (lenOf pd_3e6eccb rfl) rfl (by show 2 * 0 + _ ≤ _; exact Nat.le_of_eq rfl) (hc d5_22) (fun _ _ => ⟨rfl, e887, (by decide : 0 + 0 ≤ _), (by decide : 0 + 0 ≤ _)⟩)
  dsimp only [Pt.U, Pt.locs, Pt.cells, Pt.slots] at X892 l892 y892 z892 st892 hQ892
  subst l892 y892 z892
  obtain ⟨rfl, Nq892, Kq892, Vw892, Vo892⟩ := hQ892
  have KK904 := KK881.trans Kq892 (allS (Or.inl (List.mem_of_getElem? (i := 10) rfl)) (allS (Or.inl (List.mem_of_getElem? (i := 11) rfl)) all0))
  have NN905 := Fr.app NN882 Nq892
  refine gT T892 25 [(.int (Int32.ofNat ps2.length))] (fun zt zk => st892.trans zk) ?_
  rw [show Int32.ofNat ps2.length = (3 : Int32) by rw [hln2]; rfl]
  obtain ⟨hra2, hrb2⟩ := hr2 (fun j => if j = 0 then (2 : Int64) else if j = 1 then (2 : Int64) else if j = 2 then (1 : Int64) else if j = 3 then (1 : Int64) else 0) (own_o2 (own_sort (own_wl (kf 1) ps1 (fun j => if j = 0 then (3 : Int64) else if j = 1 then (3 : Int64) else if j = 2 then (2 : Int64) else if j = 3 then (1 : Int64) else 0)) ps1.length) (own_o2 (own_sort (own_wl (kf 0) ps0 (fun _ => (0 : Int64))) ps0.length) (fun _ => (0 : Int32)) ps0.length) ps1.length)
  have V42 : Arv Z T892.heap (b + 18) kw .long (257 : Int32) [(.long 1), (.long 1), (.long 2), (.long 1)] (.long 0) := own_al4 Vw892 ((hra2 0 (Nat.le_of_ble_eq_true rfl)).1) ((hra2 1 (Nat.le_of_ble_eq_true rfl)).1) ((hra2 2 (Nat.le_of_ble_eq_true rfl)).1) (hrb2 3 (Nat.le_refl _)) (fun j hj => (hrb2 j (by show 3 ≤ j; omega)).trans (by first | rfl | (show (if j = 0 then _ else _) = _; rw [if_neg (by omega), if_neg (by omega), if_neg (by omega), if_neg (by omega)])))
  refine gP 26 #[rv ob, iv (Int32.ofNat cd), iv 2, iv 3, iv 1] [] (fun zt zk => XS.istoreN X892.here hx rfl (hc d5_25) rfl (l' := _) rfl zk) ?_
  refine gAN X892 hx (hc d5_26) rfl (.refl 27) ?_
  refine gLN X892 hx (hc d5_27) rfl (.refl 28) ?_
  have f907 := (f893.keep Kq892 (ninS ne790 (ninS ne789 nin0)))
  have f908 := (f903.keep Kq892)
  obtain ⟨cq906, kq906, q906a, q906b, q906c⟩ := isOf hZ rfl f908
  obtain ⟨vr906, _, ⟨T906, L906, k906, n906⟩, -, X906, ⟨Lc906, hQ906, l906, y906, z906⟩, st906⟩ := X892.virtualBack hx (y := Y10) (z := Y10) hown (mvT hZ (ow hw 78 rfl)) (mvT hZ (own_decl (ow hw 79 rfl) (ow hw 81 rfl))) (notFace_of_selects (args := #[]) (mvT hZ (own_selp (y := Y10) (ow hw 7 rfl) (ow hw 79 rfl) (ow hw 80 rfl) (by decide)))) (mvT hZ (own_selp (y := Y10) (ow hw 7 rfl) (ow hw 79 rfl) (ow hw 80 rfl) (by decide))) (mvT hZ (ow hw 79 rfl)) (by decide) (backOf (W := 0) (rmCL3 l Z a0 hw ob (b + 18) kw T892.heap n0 (Nat.le_trans Z0 KK904.1) f907 V42 (show n0 ≤ ((b + 18) : Nat) by omega) (show (ob : Nat) ≠ (b + 18) by omega)) hZ (ow hw 81 rfl) (ow hw 8 rfl) (by decide) (by decide)) q906a q906c (g := (mkF m 28 #[rv ob, iv (Int32.ofNat cd), iv 2, iv 3, iv 1] [(.int 3), (.ref ob)])) rfl (by rw [hml]; rfl) (Steps.refl _) (argsL := [(.int 3)]) (rest := []) (lenOf pd_56f531a rfl) rfl (by show 2 * 0 + _ ≤ _; exact Nat.le_of_eq rfl) (hc d5_28) (fun _ _ => ⟨rfl, rfl, (by decide : 0 + 0 ≤ _), (by decide : 0 + 0 ≤ _)⟩)
  dsimp only [Pt.U, Pt.locs, Pt.cells, Pt.slots] at X906 l906 y906 z906 st906 hQ906
  subst l906 y906 z906
  obtain ⟨rfl, Nq906, Kq906, V906⟩ := hQ906
  have KK909 := KK904.trans Kq906 (allS (Or.inl (List.mem_of_getElem? (i := 10) rfl)) all0)
  have NN910 := Fr.app NN905 Nq906
  refine gT T906 31 [] (fun zt zk => st906.trans zk) ?_
  refine gAN X906 hx (hc d5_31) rfl (.refl 32) ?_
  refine gLN X906 hx (hc d5_32) rfl (.refl 33) ?_
  have f912 := (f907.keep Kq906 (ninS ne790 nin0))
  have f913 := (f908.keep Kq906)
  obtain ⟨cq911, kq911, q911a, q911b, q911c⟩ := isOf hZ rfl f913
  obtain ⟨vr911, _, ⟨T911, L911, k911, n911⟩, -, X911, ⟨Lc911, hQ911, l911, y911, z911⟩, st911⟩ := X906.virtualBack hx (y := Y11) (z := Y11) hown (mvT hZ (ow hw 82 rfl)) (mvT hZ (own_decl (ow hw 83 rfl) (ow hw 85 rfl))) (notFace_of_selects (args := #[]) (mvT hZ (own_selp (y := Y11) (ow hw 7 rfl) (ow hw 83 rfl) (ow hw 84 rfl) (by decide)))) (mvT hZ (own_selp (y := Y11) (ow hw 7 rfl) (ow hw 83 rfl) (ow hw 84 rfl) (by decide))) (mvT hZ (ow hw 83 rfl)) (by decide) (backOf (W := 0) (rmFi3 l Z a0 hw ob (b + 18) kw T906.heap n0 (Nat.le_trans Z0 KK909.1) f912 V906) hZ (ow hw 85 rfl) (ow hw 8 rfl) (by decide) (by decide)) q911a q911c (g := (mkF m 33 #[rv ob, iv (Int32.ofNat cd), iv 2, iv 3, iv 1] [(.int 3), (.ref ob)])) rfl (by rw [hml]; rfl) (Steps.refl _) (argsL := [(.int 3)]) (rest := []) (lenOf pd_56f531e rfl) rfl (by show 2 * 0 + _ ≤ _; exact Nat.le_of_eq rfl) (hc d5_33) (fun _ _ => ⟨rfl, rfl, (by decide : 0 + 0 ≤ _), (by decide : 0 + 0 ≤ _)⟩)
  dsimp only [Pt.U, Pt.locs, Pt.cells, Pt.slots] at X911 l911 y911 z911 st911 hQ911
  subst l911 y911 z911
  obtain ⟨rfl, Nq911, eq911⟩ := hQ911
  have NN914 := Fr.app NN910 Nq911
  refine gT T911 36 [(.int 1)] (fun zt zk => st911.trans zk) ?_
  refine gIN X911 hx (hc d5_36) ((if0 _ _).trans (feq (by decide)).1) (.refl 39) ?_
  refine gAN X911 hx (hc d5_39) rfl (.refl 40) ?_
  refine gLN X911 hx (hc d5_40) rfl (.refl 41) ?_
  refine gAN X911 hx (hc d5_41) rfl (.refl 42) ?_
  have f915 := (((f855.keep Kq868 (ninS ne885 (ninS ne884 nin0))).keep Kq892 (ninS ne790 (ninS ne789 nin0))).keep Kq906 (ninS ne790 nin0))
  refine gF X911 hx hZ hown (ow hw 18 rfl) Via.refl eq911 f915 (hc d5_42) (.refl 45) ?_
  intro T916 X916 e916
  refine gLN X916 hx (hc d5_45) rfl (.refl 46) ?_
  refine gC (z := 3) X916 hx (hc d5_46) rfl (.refl 47) ?_
  refine gimul X916 hx (hc d5_47) (.refl 48) ?_
  refine gLN X916 hx (hc d5_48) rfl (.refl 49) ?_
  refine giadd X916 hx (hc d5_49) (.refl 50) ?_
  rw [show Int32.ofNat cd * (3 : Int32) + (2 : Int32) = Int32.ofNat (3 * cd + 2) from own_ix hcd (by decide)]
  have ne917 : (b : Nat) ≠ (b + 7 + 1 + (3 * cd + 1)) := by omega
  have ne918 : (b : Nat) ≠ (b + 1 + (3 * cd + 1)) := by omega
  have f919 := (((f859.keep Kq868 (ninS ne918 (ninS ne917 nin0))).keep Kq892 (ninS ne802 (ninS ne801 nin0))).keep Kq906 (ninS ne802 nin0))
  refine gRA X916 hx hZ e916 f919 (.ref (b + 1 + (3 * cd + 2))) ⟨own_nn (by omega), (own_lt32 (n := 6) (by omega) (by omega)).mpr (by omega)⟩ (own_xs (by omega)) (hc d5_50) (.refl 51) rfl ?_
  refine gAN X916 hx (hc d5_51) rfl (.refl 52) ?_
  have f921 := (((f861.keep Kq868 (ninS ne885 (ninS ne884 nin0))).keep Kq892 (ninS ne790 (ninS ne789 nin0))).keep Kq906 (ninS ne790 nin0))
  refine gF X916 hx hZ hown (ow hw 20 rfl) Via.refl e916 f921 (hc d5_52) (.refl 55) ?_
  intro T922 X922 e922
  refine gLN X922 hx (hc d5_55) rfl (.refl 56) ?_
  refine gC (z := 3) X922 hx (hc d5_56) rfl (.refl 57) ?_
  refine gimul X922 hx (hc d5_57) (.refl 58) ?_
  refine gLN X922 hx (hc d5_58) rfl (.refl 59) ?_
  refine giadd X922 hx (hc d5_59) (.refl 60) ?_
  rw [show Int32.ofNat cd * (3 : Int32) + (2 : Int32) = Int32.ofNat (3 * cd + 2) from own_ix hcd (by decide)]
  have ne923 : ((b + 7) : Nat) ≠ (b + 7 + 1 + (3 * cd + 1)) := by omega
  have ne924 : ((b + 7) : Nat) ≠ (b + 1 + (3 * cd + 1)) := by omega
  have f925 := (((f865.keep Kq868 (ninS ne924 (ninS ne923 nin0))).keep Kq892 (ninS ne808 (ninS ne807 nin0))).keep Kq906 (ninS ne808 nin0))
  refine gRA X922 hx hZ e922 f925 (.ref (b + 7 + 1 + (3 * cd + 2))) ⟨own_nn (by omega), (own_lt32 (n := 6) (by omega) (by omega)).mpr (by omega)⟩ (own_xs (by omega)) (hc d5_60) (.refl 61) rfl ?_
  have f928 := ((f894.keep Kq892 (ninS ne790 (ninS ne789 nin0))).keep Kq906 (ninS ne790 nin0))
  have f929 := (Vo892.keep Kq906 (ninS ne813 nin0))
  have ne930 : ((b + 1 + (3 * cd + 2)) : Nat) ≠ (b + 19) := by omega
  have ne931 : ((b + 1 + (3 * cd + 2)) : Nat) ≠ (b + 18) := by omega
  have ne932 : ((b + 1 + (3 * cd + 2)) : Nat) ≠ (b + 7 + 1 + (3 * cd + 0)) := by omega
  have ne933 : ((b + 1 + (3 * cd + 2)) : Nat) ≠ (b + 1 + (3 * cd + 0)) := by omega
  have ne934 : ((b + 1 + (3 * cd + 2)) : Nat) ≠ (b + 7 + 1 + (3 * cd + 1)) := by omega
  have ne935 : ((b + 1 + (3 * cd + 2)) : Nat) ≠ (b + 1 + (3 * cd + 1)) := by omega
  have f936 := ((((((((RD2.keep Kq785 (ninS ne931 (ninS ne930 nin0))).keep Kq788 (ninS ne931 nin0)).keep Kq811 (ninS ne933 (ninS ne932 nin0))).keep Kq834 (ninS ne931 (ninS ne930 nin0))).keep Kq846 (ninS ne931 nin0)).keep Kq868 (ninS ne935 (ninS ne934 nin0))).keep Kq892 (ninS ne931 (ninS ne930 nin0))).keep Kq906 (ninS ne931 nin0))
  have ne937 : ((b + 7 + 1 + (3 * cd + 2)) : Nat) ≠ (b + 19) := by omega
  have ne938 : ((b + 7 + 1 + (3 * cd + 2)) : Nat) ≠ (b + 18) := by omega
  have ne939 : ((b + 7 + 1 + (3 * cd + 2)) : Nat) ≠ (b + 7 + 1 + (3 * cd + 0)) := by omega
  have ne940 : ((b + 7 + 1 + (3 * cd + 2)) : Nat) ≠ (b + 1 + (3 * cd + 0)) := by omega
  have ne941 : ((b + 7 + 1 + (3 * cd + 2)) : Nat) ≠ (b + 7 + 1 + (3 * cd + 1)) := by omega
  have ne942 : ((b + 7 + 1 + (3 * cd + 2)) : Nat) ≠ (b + 1 + (3 * cd + 1)) := by omega
  have f943 := ((((((((RV2.keep Kq785 (ninS ne938 (ninS ne937 nin0))).keep Kq788 (ninS ne938 nin0)).keep Kq811 (ninS ne940 (ninS ne939 nin0))).keep Kq834 (ninS ne938 (ninS ne937 nin0))).keep Kq846 (ninS ne938 nin0)).keep Kq868 (ninS ne942 (ninS ne941 nin0))).keep Kq892 (ninS ne938 (ninS ne937 nin0))).keep Kq906 (ninS ne938 nin0))
  obtain ⟨cq927, kq927, q927a, q927b, q927c⟩ := isOf hZ e922 f913
  obtain ⟨vr927, _, ⟨T927, L927, k927, n927⟩, -, X927, ⟨Lc927, hQ927, l927, y927, z927⟩, st927⟩ := X922.virtualBack hx (y := Y12) (z := Y12) hown (mvT hZ (ow hw 87 rfl)) (mvT hZ (own_decl (ow hw 88 rfl) (ow hw 90 rfl))) (notFace_of_selects (args := #[]) (mvT hZ (own_selp (y := Y12) (ow hw 7 rfl) (ow hw 88 rfl) (ow hw 89 rfl) (by decide)))) (mvT hZ (own_selp (y := Y12) (ow hw 7 rfl) (ow hw 88 rfl) (ow hw 89 rfl) (by decide))) (mvT hZ (ow hw 88 rfl)) (by decide) (backOf (W := 0) (rmAs3 l Z a0 hw ob (b + 18) (b + 19) (b + 1 + (3 * cd + 2)) (b + 7 + 1 + (3 * cd + 2)) kw ko kc2 kt2 (own_o2 (own_sort (own_wl (kf 2) ps2 (fun j => if j = 0 then (2 : Int64) else if j = 1 then (2 : Int64) else if j = 2 then (1 : Int64) else if j = 3 then (1 : Int64) else 0)) ps2.length) (own_o2 (own_sort (own_wl (kf 1) ps1 (fun j => if j = 0 then (3 : Int64) else if j = 1 then (3 : Int64) else if j = 2 then (2 : Int64) else if j = 3 then (1 : Int64) else 0)) ps1.length) (own_o2 (own_sort (own_wl (kf 0) ps0 (fun _ => (0 : Int64))) ps0.length) (fun _ => (0 : Int32)) ps0.length) ps1.length) ps2.length) (cf (3 * cd + 2)) vt2 j0_ j1_ j2_ T906.heap n0 (Nat.le_trans Z0 KK909.1) f912 f928 V906 f929 f936 f943 lt2 (show n0 ≤ ((b + 1 + (3 * cd + 2)) : Nat) by omega) (show n0 ≤ ((b + 7 + 1 + (3 * cd + 2)) : Nat) by omega) ⟨(show ((b + 1 + (3 * cd + 2)) : Nat) ≠ (b + 7 + 1 + (3 * cd + 2)) by omega), (show ((b + 18) : Nat) ≠ (b + 1 + (3 * cd + 2)) by omega), (show ((b + 18) : Nat) ≠ (b + 7 + 1 + (3 * cd + 2)) by omega), (show ((b + 19) : Nat) ≠ (b + 1 + (3 * cd + 2)) by omega), (show ((b + 19) : Nat) ≠ (b + 7 + 1 + (3 * cd + 2)) by omega), (show (ob : Nat) ≠ (b + 1 + (3 * cd + 2)) by omega), (show (ob : Nat) ≠ (b + 7 + 1 + (3 * cd + 2)) by omega)⟩ ((hra2 0 (Nat.le_of_ble_eq_true rfl)).2) l_j0_ ((hra2 1 (Nat.le_of_ble_eq_true rfl)).2) l_j1_ ((hra2 2 (Nat.le_of_ble_eq_true rfl)).2) l_j2_ (own_k3 d_j1_j0_ d_j2_j0_ d_j2_j1_ l_j0_ l_j1_ l_j2_).1) hZ (ow hw 90 rfl) (ow hw 8 rfl) (by decide) (by decide)) q927a q927c (g := (mkF m 61 #[rv ob, iv (Int32.ofNat cd), iv 2, iv 3, iv 1] [(.ref (b + 7 + 1 + (3 * cd + 2))), (.ref (b + 1 + (3 * cd + 2))), (.int 3), (.ref ob)])) rfl (by rw [hml]; rfl) (Steps.refl _) (argsL := [(.int 3), (.ref (b + 1 + (3 * cd + 2))), (.ref (b + 7 + 1 + (3 * cd + 2)))]) (rest := []) (lenOf pd_414c812 rfl) rfl (by show 2 * 0 + _ ≤ _; exact Nat.le_of_eq rfl) (hc d5_61) (fun _ _ => ⟨rfl, e922, (by decide : 0 + 0 ≤ _), (by decide : 0 + 0 ≤ _)⟩)
  dsimp only [Pt.U, Pt.locs, Pt.cells, Pt.slots] at X927 l927 y927 z927 st927 hQ927
  subst l927 y927 z927
  obtain ⟨rfl, Nq927, Kq927, V927, vs927, lv927, W927⟩ := hQ927
  have KK944 := KK909.trans Kq927 (allS (Or.inl (List.mem_of_getElem? (i := 3) rfl)) (allS (Or.inl (List.mem_of_getElem? (i := 6) rfl)) all0))
  have NN945 := Fr.app NN914 Nq927
  refine gT T927 64 [] (fun zt zk => st927.trans zk) ?_
  have f946 := (V906.keep Kq927 (ninS (Ne.symm ne931) (ninS (Ne.symm ne938) nin0)))
  have VX2 := own_4al f946
  refine gP 67 #[rv ob, iv (Int32.ofNat cd), iv ((2 : Int32) + (1 : Int32)), iv 3, iv 1] [] (fun zt zk => XS.iinc X927.here hx rfl (hc d5_64) rfl (l' := _) rfl zk) ?_
  rw [show ((2 : Int32) + (1 : Int32)) = (3 : Int32) by decide]
  refine gG (q := 2) X927 hx (hc d5_67) (by decide) ?_
  refine gLN X927 hx (hc d5_2) rfl (.refl 3) ?_
  refine gC (z := 3) X927 hx (hc d5_3) rfl (.refl 4) ?_
  refine gJY (q := 70) X927 hx (hc d5_4) (flt (by decide)).2.1 (by decide) ?_
  refine gAN X927 hx (hc d5_70) rfl (.refl 71) ?_
  have ne947 : ((b + 15) : Nat) ≠ (b + 19) := by omega
  have ne948 : ((b + 15) : Nat) ≠ (b + 18) := by omega
  have ne949 : ((b + 15) : Nat) ≠ (b + 7 + 1 + (3 * cd + 0)) := by omega
  have ne950 : ((b + 15) : Nat) ≠ (b + 1 + (3 * cd + 0)) := by omega
  have ne951 : ((b + 15) : Nat) ≠ (b + 7 + 1 + (3 * cd + 1)) := by omega
  have ne952 : ((b + 15) : Nat) ≠ (b + 1 + (3 * cd + 1)) := by omega
  have ne953 : ((b + 15) : Nat) ≠ (b + 7 + 1 + (3 * cd + 2)) := by omega
  have ne954 : ((b + 15) : Nat) ≠ (b + 1 + (3 * cd + 2)) := by omega
  have f955 := (((((((((RK0.keep Kq785 (ninS ne948 (ninS ne947 nin0))).keep Kq788 (ninS ne948 nin0)).keep Kq811 (ninS ne950 (ninS ne949 nin0))).keep Kq834 (ninS ne948 (ninS ne947 nin0))).keep Kq846 (ninS ne948 nin0)).keep Kq868 (ninS ne952 (ninS ne951 nin0))).keep Kq892 (ninS ne948 (ninS ne947 nin0))).keep Kq906 (ninS ne948 nin0)).keep Kq927 (ninS ne954 (ninS ne953 nin0)))
  have ne956 : ((b + 16) : Nat) ≠ (b + 7 + 1 + (3 * cd + 1)) := by omega
  have ne957 : ((b + 16) : Nat) ≠ (b + 1 + (3 * cd + 1)) := by omega
  have ne958 : ((b + 16) : Nat) ≠ (b + 7 + 1 + (3 * cd + 2)) := by omega
  have ne959 : ((b + 16) : Nat) ≠ (b + 1 + (3 * cd + 2)) := by omega
  have f960 := ((((((f842.keep Kq834 (ninS ne839 (ninS ne838 nin0))).keep Kq846 (ninS ne839 nin0)).keep Kq868 (ninS ne957 (ninS ne956 nin0))).keep Kq892 (ninS ne839 (ninS ne838 nin0))).keep Kq906 (ninS ne839 nin0)).keep Kq927 (ninS ne959 (ninS ne958 nin0)))
  have ne961 : ((b + 17) : Nat) ≠ (b + 7 + 1 + (3 * cd + 2)) := by omega
  have ne962 : ((b + 17) : Nat) ≠ (b + 1 + (3 * cd + 2)) := by omega
  have f963 := (((f902.keep Kq892 (ninS ne897 (ninS ne896 nin0))).keep Kq906 (ninS ne897 nin0)).keep Kq927 (ninS ne962 (ninS ne961 nin0)))
  have f964 := (f913.keep Kq927)
  have ne965 : (ob : Nat) ≠ (b + 7 + 1 + (3 * cd + 2)) := by omega
  have ne966 : (ob : Nat) ≠ (b + 1 + (3 * cd + 2)) := by omega
  have f967 := (f915.keep Kq927 (ninS ne966 (ninS ne965 nin0)))
  have f968 := (f921.keep Kq927 (ninS ne966 (ninS ne965 nin0)))
  have f969 := (((f886.keep Kq892 (ninS ne790 (ninS ne789 nin0))).keep Kq906 (ninS ne790 nin0)).keep Kq927 (ninS ne966 (ninS ne965 nin0)))
  have f970 := (f912.keep Kq927 (ninS ne966 (ninS ne965 nin0)))
  have f971 := (f928.keep Kq927 (ninS ne966 (ninS ne965 nin0)))
  have f972 := (((((((((Os.keep Kq785 (ninS ne790 (ninS ne789 nin0))).keep Kq788 (ninS ne790 nin0)).keep Kq811 (ninS ne825 (ninS ne824 nin0))).keep Kq834 (ninS ne790 (ninS ne789 nin0))).keep Kq846 (ninS ne790 nin0)).keep Kq868 (ninS ne885 (ninS ne884 nin0))).keep Kq892 (ninS ne790 (ninS ne789 nin0))).keep Kq906 (ninS ne790 nin0)).keep Kq927 (ninS ne966 (ninS ne965 nin0)))
  have ne973 : (b : Nat) ≠ (b + 7 + 1 + (3 * cd + 2)) := by omega
  have ne974 : (b : Nat) ≠ (b + 1 + (3 * cd + 2)) := by omega
  have f975 := (f919.keep Kq927 (ninS ne974 (ninS ne973 nin0)))
  have ne976 : ((b + 7) : Nat) ≠ (b + 7 + 1 + (3 * cd + 2)) := by omega
  have ne977 : ((b + 7) : Nat) ≠ (b + 1 + (3 * cd + 2)) := by omega
  have f978 := (f925.keep Kq927 (ninS ne977 (ninS ne976 nin0)))
  have ne979 : ((b + 14) : Nat) ≠ (b + 7 + 1 + (3 * cd + 2)) := by omega
  have ne980 : ((b + 14) : Nat) ≠ (b + 1 + (3 * cd + 2)) := by omega
  have f981 := (((f890.keep Kq892 (ninS ne829 (ninS ne828 nin0))).keep Kq906 (ninS ne829 nin0)).keep Kq927 (ninS ne980 (ninS ne979 nin0)))
  have f982 := ((((((V811.keep Kq834 (ninS ne816 (ninS ne815 nin0))).keep Kq846 (ninS ne816 nin0)).keep Kq868 (ninS (Ne.symm ne874) (ninS (Ne.symm ne879) nin0))).keep Kq892 (ninS ne816 (ninS ne815 nin0))).keep Kq906 (ninS ne816 nin0)).keep Kq927 (ninS (Ne.symm ne933) (ninS (Ne.symm ne940) nin0)))
  have f983 := (((V868.keep Kq892 (ninS ne872 (ninS ne871 nin0))).keep Kq906 (ninS ne872 nin0)).keep Kq927 (ninS (Ne.symm ne935) (ninS (Ne.symm ne942) nin0)))
  have f985 := (((((((((Fsh2.keep Kq785 (ninS ne790 (ninS ne789 nin0))).keep Kq788 (ninS ne790 nin0)).keep Kq811 (ninS ne825 (ninS ne824 nin0))).keep Kq834 (ninS ne790 (ninS ne789 nin0))).keep Kq846 (ninS ne790 nin0)).keep Kq868 (ninS ne885 (ninS ne884 nin0))).keep Kq892 (ninS ne790 (ninS ne789 nin0))).keep Kq906 (ninS ne790 nin0)).keep Kq927 (ninS ne966 (ninS ne965 nin0)))
  have f986 := (((((((((FcB.keep Kq785 (ninS ne790 (ninS ne789 nin0))).keep Kq788 (ninS ne790 nin0)).keep Kq811 (ninS ne825 (ninS ne824 nin0))).keep Kq834 (ninS ne790 (ninS ne789 nin0))).keep Kq846 (ninS ne790 nin0)).keep Kq868 (ninS ne885 (ninS ne884 nin0))).keep Kq892 (ninS ne790 (ninS ne789 nin0))).keep Kq906 (ninS ne790 nin0)).keep Kq927 (ninS ne966 (ninS ne965 nin0)))
  have f987 := (((((((((FcL.keep Kq785 (ninS ne790 (ninS ne789 nin0))).keep Kq788 (ninS ne790 nin0)).keep Kq811 (ninS ne825 (ninS ne824 nin0))).keep Kq834 (ninS ne790 (ninS ne789 nin0))).keep Kq846 (ninS ne790 nin0)).keep Kq868 (ninS ne885 (ninS ne884 nin0))).keep Kq892 (ninS ne790 (ninS ne789 nin0))).keep Kq906 (ninS ne790 nin0)).keep Kq927 (ninS ne966 (ninS ne965 nin0)))
  obtain ⟨cq984, kq984, q984a, q984b, q984c⟩ := isOf hZ rfl f964
  obtain ⟨vr984, _, ⟨T984, L984, k984, n984⟩, -, X984, ⟨Lc984, hQ984, l984, y984, z984⟩, st984⟩ := X927.virtualBack hx (y := Y20) (z := Y20) hown (mvT hZ (ow hw 97 rfl)) (mvT hZ (ow hw 98 rfl)) (notFace_of_selects (args := #[]) (mvT hZ (ow hw 100 rfl))) (mvT hZ (ow hw 100 rfl)) (mvT hZ (ow hw 99 rfl)) (by decide) (backOf (W := 0) (rmFg l Z a0 hw ob b ps_ kf T927.heap n0 (Nat.le_trans Z0 KK944.1) (⟨f964, f967, f968, f969, f970, f971, f972, ⟨_, f975⟩, ⟨_, f978⟩, ⟨_, f981⟩⟩ : own_O Z T927.heap ob b ps_) ⟨_, f985⟩ ⟨⟨_, f986⟩, ⟨_, f987⟩⟩ (fun j hj => by
    have := own_j3 hj
    rcases this with rfl | rfl | rfl
    · exact ⟨_, f955⟩
    · exact ⟨_, f960⟩
    · exact ⟨_, f963⟩ : own_RI Z T927.heap (b + 15) 3 kf) lob g_ob) hZ (ow hw 101 rfl) (ow hw 8 rfl) (by decide) (by decide)) q984a q984c (g := (mkF m 71 #[rv ob, iv (Int32.ofNat cd), iv 3, iv 3, iv 1] [(.ref ob)])) rfl (by rw [hml]; rfl) (Steps.refl _) (argsL := []) (rest := []) (lenOf pd_a8eb9 rfl) rfl (by show 2 * 0 + _ ≤ _; exact Nat.le_of_eq rfl) (hc d5_71) (fun _ _ => ⟨rfl, rfl, (by decide : 0 + 0 ≤ _), (by decide : 0 + 0 ≤ _)⟩)
  dsimp only [Pt.U, Pt.locs, Pt.cells, Pt.slots] at X984 l984 y984 z984 st984 hQ984
  subst l984 y984 z984
  obtain ⟨rfl, Nq984, Kq984, O984⟩ := hQ984
  have KK988 := KK944.trans Kq984 (allS (Or.inl (List.mem_of_getElem? (i := 0) rfl)) (allS (Or.inl (List.mem_of_getElem? (i := 7) rfl)) (allS (Or.inl (List.mem_of_getElem? (i := 8) rfl)) (allS (Or.inl (List.mem_of_getElem? (i := 9) rfl)) all0))))
  have NN989 := Fr.app NN945 Nq984
  refine gT T984 74 [] (fun zt zk => st984.trans zk) ?_
  have f990 := (f982.keep Kq984 (ninS (Ne.symm ne825) (ninS (Ne.symm ne950) (ninS (Ne.symm ne841) (ninS (Ne.symm ne899) nin0)))))
  have f991 := (f983.keep Kq984 (ninS (Ne.symm ne885) (ninS (Ne.symm ne952) (ninS (Ne.symm ne957) (ninS (Ne.symm ne901) nin0)))))
  have f992 := (V927.keep Kq984 (ninS (Ne.symm ne966) (ninS (Ne.symm ne954) (ninS (Ne.symm ne959) (ninS (Ne.symm ne962) nin0)))))
  exact Go.done X984 Bd.notSynchronized (v := none) (fun _ => rfl) (fun fs hr => X984.returnOut hx Bd.returns (hc d5_74) hr) (by rw [(rfl : T984.heap = T984.heap)]; exact ⟨rfl, NN989, KK988, O984, own_rs3 ⟨_, f990⟩ ⟨_, f991⟩ ⟨_, f992⟩ (fun j hj c0 c1 c2 => by obtain ⟨k, v⟩ := RS j hj; exact ⟨k, v.keep KK988 (own_mkn lob hcd hj c0 c1 c2)⟩)⟩) (by decide) (by decide)
theorem own_msk (x : Int32) {k : Nat} {mk : Int32} (hk : k ≤ 16) (hm : mk.toBitVec.toNat = 2 ^ k - 1) : ∃ n, n < 2 ^ k ∧ x &&& mk = Int32.ofNat n := by
  refine ⟨x.toBitVec.toNat % 2 ^ k, Nat.mod_lt _ (Nat.two_pow_pos k), ?_⟩
  have hp : 2 ^ k ≤ 2 ^ 16 := Nat.pow_le_pow_right (by decide) hk
  have hl := Nat.mod_lt x.toBitVec.toNat (Nat.two_pow_pos k)
  apply Int32.toBitVec_inj.mp
  apply BitVec.eq_of_toNat_eq
  show (x.toBitVec &&& mk.toBitVec).toNat = (BitVec.ofNat 32 (x.toBitVec.toNat % 2 ^ k)).toNat
  rw [BitVec.toNat_and, hm, BitVec.toNat_ofNat, Nat.and_two_pow_sub_one_eq_mod, Nat.mod_eq_of_lt (a := x.toBitVec.toNat % 2 ^ k) (by omega)]
theorem own_msk255 (x : Int32) : ∃ n, n < 256 ∧ x &&& (255 : Int32) = Int32.ofNat n := own_msk x (k := 8) (by decide) rfl
theorem own_m84 {n : Nat} (h : n < 256) : (1 : Int32) + (Int32.ofNat n - (Int32.ofNat n / (84 : Int32)) * (84 : Int32)) = Int32.ofNat (1 + n % 84) := by
  have t : ∀ k : Fin 256, (1 : Int32) + (Int32.ofNat k.val - (Int32.ofNat k.val / (84 : Int32)) * (84 : Int32)) = Int32.ofNat (1 + k.val % 84) := by decide +kernel
  exact t ⟨n, h⟩
theorem own_m85 {n : Nat} (h : n < 256) : (85 : Int32) + (Int32.ofNat n - (Int32.ofNat n / (85 : Int32)) * (85 : Int32)) = Int32.ofNat (85 + n % 85) := by
  have t : ∀ k : Fin 256, (85 : Int32) + (Int32.ofNat k.val - (Int32.ofNat k.val / (85 : Int32)) * (85 : Int32)) = Int32.ofNat (85 + k.val % 85) := by decide +kernel
  exact t ⟨n, h⟩
theorem own_m86 {n : Nat} (h : n < 256) : (170 : Int32) + (Int32.ofNat n - (Int32.ofNat n / (86 : Int32)) * (86 : Int32)) = Int32.ofNat (170 + n % 86) := by
  have t : ∀ k : Fin 256, (170 : Int32) + (Int32.ofNat k.val - (Int32.ofNat k.val / (86 : Int32)) * (86 : Int32)) = Int32.ofNat (170 + k.val % 86) := by decide +kernel
  exact t ⟨n, h⟩
theorem own_m9 {n : Nat} (h : n < 256) : Int32.ofNat n - (Int32.ofNat n / (9 : Int32)) * (9 : Int32) = Int32.ofNat (n % 9) ∧ Int32.ofNat n / (9 : Int32) = Int32.ofNat (n / 9) := by
  have t : ∀ k : Fin 256, Int32.ofNat k.val - (Int32.ofNat k.val / (9 : Int32)) * (9 : Int32) = Int32.ofNat (k.val % 9) ∧ Int32.ofNat k.val / (9 : Int32) = Int32.ofNat (k.val / 9) := by decide +kernel
  exact t ⟨n, h⟩
theorem own_z9 {f : Nat} (h : f < 9) : Int32.ofNat (9 - f) ≠ 0 := by
  have t : ∀ k : Fin 9, Int32.ofNat (9 - k.val) ≠ 0 := by decide +kernel
  exact t ⟨f, h⟩
theorem own_rg {q f : Nat} (hq : q < 29) (hf : f < 9) : Int32.ofNat f + (Int32.ofNat q - (Int32.ofNat q / Int32.ofNat (9 - f)) * Int32.ofNat (9 - f)) = Int32.ofNat (f + q % (9 - f)) ∧ f + q % (9 - f) ≤ 8 := by
  have t : ∀ (a : Fin 29) (b : Fin 9), Int32.ofNat b.val + (Int32.ofNat a.val - (Int32.ofNat a.val / Int32.ofNat (9 - b.val)) * Int32.ofNat (9 - b.val)) = Int32.ofNat (b.val + a.val % (9 - b.val)) ∧ b.val + a.val % (9 - b.val) ≤ 8 := by decide +kernel
  exact t ⟨q, hq⟩ ⟨f, hf⟩
theorem own_b8 (x : Int32) : ∃ u, u < 256 ∧ x.toInt8.toInt32 = (Int8.ofNat u).toInt32 := by
  refine ⟨x.toInt8.toBitVec.toNat, x.toInt8.toBitVec.isLt, congrArg Int8.toInt32 ?_⟩
  apply Int8.toBitVec_inj.mp
  show x.toInt8.toBitVec = BitVec.ofNat 8 x.toInt8.toBitVec.toNat
  rw [BitVec.ofNat_toNat, BitVec.setWidth_eq]
theorem own_b9 {u I : Nat} (hI : I < 256) : ((Int8.ofNat u).toInt32 + Int32.ofNat I).toInt8.toInt32 = (Int8.ofNat ((u + I) % 256)).toInt32 := by
  have t : ∀ k : Fin 256, (Int32.ofNat k.val).toInt8 = Int8.ofNat k.val := by decide +kernel
  have e := t ⟨I, hI⟩
  refine congrArg Int8.toInt32 ?_
  rw [Int32.toInt8_add, Int8.toInt8_toInt32, e]
  apply Int8.toBitVec_inj.mp
  show BitVec.ofNat 8 u + BitVec.ofNat 8 I = BitVec.ofNat 8 ((u + I) % 256)
  apply BitVec.eq_of_toNat_eq
  rw [BitVec.toNat_add, BitVec.toNat_ofNat, BitVec.toNat_ofNat, BitVec.toNat_ofNat]
  omega
theorem own_b7 {u : Nat} (hu : u < 256) : (Int8.ofNat u).toInt32 &&& (255 : Int32) = Int32.ofNat u ∧ nar .byte (Int8.ofNat u).toInt32 = (Int8.ofNat u).toInt32 := by
  have t : ∀ k : Fin 256, (Int8.ofNat k.val).toInt32 &&& (255 : Int32) = Int32.ofNat k.val ∧ (Int8.ofNat k.val).toInt32.toInt8.toInt32 = (Int8.ofNat k.val).toInt32 := by decide +kernel
  exact t ⟨u, hu⟩
/-- the four bytes of the law -/
theorem own_bytes (sp x y z : Int32) : ∃ (us ua ub uc : Nat) (pa pb pcc ps_ vi vj vk : Int32), sp.toInt8.toInt32 = ps_ ∧
    (1 : Int32) + ((x &&& (255 : Int32)) - ((x &&& (255 : Int32)) / (84 : Int32)) * (84 : Int32)) = vi ∧
    (85 : Int32) + ((y &&& (255 : Int32)) - ((y &&& (255 : Int32)) / (85 : Int32)) * (85 : Int32)) = vj ∧
    (170 : Int32) + ((z &&& (255 : Int32)) - ((z &&& (255 : Int32)) / (86 : Int32)) * (86 : Int32)) = vk ∧
    (ps_ + vi).toInt8.toInt32 = pa ∧ (ps_ + vj).toInt8.toInt32 = pb ∧ (ps_ + vk).toInt8.toInt32 = pcc ∧
    (us < 256 ∧ ua < 256 ∧ ub < 256 ∧ uc < 256) ∧ (ua ≠ ub ∧ ua ≠ us ∧ ub ≠ us ∧ uc ≠ ua ∧ uc ≠ ub ∧ uc ≠ us) ∧
    (pa &&& (255 : Int32) = Int32.ofNat ua ∧ pb &&& (255 : Int32) = Int32.ofNat ub ∧ pcc &&& (255 : Int32) = Int32.ofNat uc ∧ ps_ &&& (255 : Int32) = Int32.ofNat us) ∧
    (nar .byte pa = pa ∧ nar .byte pb = pb ∧ nar .byte pcc = pcc ∧ nar .byte ps_ = ps_) := by
  obtain ⟨us, hs, e⟩ := own_b8 sp
  obtain ⟨i, hi, e1⟩ := own_msk255 x
  obtain ⟨j, hj, e2⟩ := own_msk255 y
  obtain ⟨k, hk, e3⟩ := own_msk255 z
  refine ⟨us, (us + (1 + i % 84)) % 256, (us + (85 + j % 85)) % 256, (us + (170 + k % 86)) % 256, _, _, _, _, _, _, _, e, by rw [e1]; exact own_m84 hi, by rw [e2]; exact own_m85 hj, by rw [e3]; exact own_m86 hk, own_b9 (by omega), own_b9 (by omega), own_b9 (by omega), ⟨hs, Nat.mod_lt _ (by decide), Nat.mod_lt _ (by decide), Nat.mod_lt _ (by decide)⟩, ⟨by omega, by omega, by omega, by omega, by omega, by omega⟩, ⟨(own_b7 (Nat.mod_lt _ (by decide))).1, (own_b7 (Nat.mod_lt _ (by decide))).1, (own_b7 (Nat.mod_lt _ (by decide))).1, (own_b7 hs).1⟩, ⟨(own_b7 (Nat.mod_lt _ (by decide))).2, (own_b7 (Nat.mod_lt _ (by decide))).2, (own_b7 (Nat.mod_lt _ (by decide))).2, (own_b7 hs).2⟩⟩
theorem own_ne255 {p q : Int32} {u v : Nat} (hp : p &&& (255 : Int32) = Int32.ofNat u) (hq : q &&& (255 : Int32) = Int32.ofNat v) (hu : u < 256) (hv : v < 256) (h : u ≠ v) : ¬ p = q := fun e => by
  subst e
  exact h ((own_eq32 (by omega) (by omega)).mp (hp.symm.trans hq))
/-- the range of the law -/
theorem own_range (x : Int32) : ∃ (nr nf nt : Nat), x &&& (255 : Int32) = Int32.ofNat nr ∧ Int32.ofNat nr - (Int32.ofNat nr / (9 : Int32)) * (9 : Int32) = Int32.ofNat nf ∧ (9 : Int32) - Int32.ofNat nf = Int32.ofNat (9 - nf) ∧ Int32.ofNat (9 - nf) ≠ 0 ∧
    Int32.ofNat nf + (Int32.ofNat nr / (9 : Int32) - (Int32.ofNat nr / (9 : Int32) / Int32.ofNat (9 - nf)) * Int32.ofNat (9 - nf)) = Int32.ofNat nt ∧ nf ≤ nt ∧ nt ≤ 8 := by
  obtain ⟨n, hn, e⟩ := own_msk255 x
  obtain ⟨e1, e2⟩ := own_m9 hn
  have hf : n % 9 < 9 := Nat.mod_lt _ (by decide)
  obtain ⟨e3, e4⟩ := own_rg (q := n / 9) (f := n % 9) (by omega) hf
  refine ⟨n, n % 9, n % 9 + n / 9 % (9 - n % 9), e, e1, own_9m (by omega), own_z9 hf, ?_, Nat.le_add_right _ _, e4⟩
  rw [e2, e3]
theorem own_cd (x : Int32) : x &&& (1 : Int32) = 0 ∨ x &&& (1 : Int32) = 1 := by
  obtain ⟨n, hn, e⟩ := own_msk x (k := 1) (mk := (1 : Int32)) (by decide) rfl
  have : n = 0 ∨ n = 1 := by omega
  rcases this with rfl | rfl
  · exact Or.inl e
  · exact Or.inr e
theorem own_kd4 (psel pp : Int32) : own_kd psel pp = 0 ∨ own_kd psel pp = 1 ∨ own_kd psel pp = 2 ∨ own_kd psel pp = 3 := by
  obtain ⟨n, hn, e⟩ := own_msk ((psel.toUInt32 >>> ((((2 : Int32) * pp)) &&& 31).toUInt32).toInt32) (k := 2) (mk := (3 : Int32)) (by decide) rfl
  have : n = 0 ∨ n = 1 ∨ n = 2 ∨ n = 3 := by omega
  unfold own_kd
  rw [e]
  rcases this with rfl | rfl | rfl | rfl
  · exact Or.inl rfl
  · exact Or.inr (Or.inl rfl)
  · exact Or.inr (Or.inr (Or.inl rfl))
  · exact Or.inr (Or.inr (Or.inr rfl))
theorem own_pkn {k xa xb xc xs : Int32} (ha : nar .byte xa = xa) (hb : nar .byte xb = xb) (hc : nar .byte xc = xc) (hs : nar .byte xs = xs) : nar .byte (own_pk k xa xb xc xs) = own_pk k xa xb xc xs := by
  unfold own_pk
  split
  · exact ha
  · split
    · exact hb
    · split
      · exact hc
      · exact hs
/-- the unsigned byte at each place of the line -/
def own_ui (psel : Int32) (ua ub uc us : Nat) (i : Nat) : Nat := if own_kd psel (Int32.ofNat i) = 0 then ua else if own_kd psel (Int32.ofNat i) = 1 then ub else if own_kd psel (Int32.ofNat i) = 2 then uc else us
def own_lf (psel xa xb xc xs : Int32) (i : Nat) : Int32 := own_pk (own_kd psel (Int32.ofNat i)) xa xb xc xs
theorem own_lfu {psel xa xb xc xs : Int32} {ua ub uc us : Nat} (ha : xa &&& (255 : Int32) = Int32.ofNat ua) (hb : xb &&& (255 : Int32) = Int32.ofNat ub) (hc : xc &&& (255 : Int32) = Int32.ofNat uc) (hs : xs &&& (255 : Int32) = Int32.ofNat us) (la : ua < 256) (lb : ub < 256) (lc : uc < 256) (ls : us < 256) (i : Nat) : own_lf psel xa xb xc xs i &&& (255 : Int32) = Int32.ofNat (own_ui psel ua ub uc us i) ∧ own_ui psel ua ub uc us i < 256 := by
  unfold own_lf own_ui own_pk
  split
  · exact ⟨ha, la⟩
  · split
    · exact ⟨hb, lb⟩
    · split
      · exact ⟨hc, lc⟩
      · exact ⟨hs, ls⟩
theorem own_lfs {psel xa xb xc xs : Int32} (ha : ¬ xa = xs) (hb : ¬ xb = xs) (hc : ¬ xc = xs) (i : Nat) : own_lf psel xa xb xc xs i = xs ↔ own_kd psel (Int32.ofNat i) = 3 := by
  unfold own_lf own_pk
  rcases own_kd4 psel (Int32.ofNat i) with h | h | h | h <;> rw [h]
  · exact ⟨fun q => absurd q ha, fun q => absurd q (by decide)⟩
  · exact ⟨fun q => absurd q hb, fun q => absurd q (by decide)⟩
  · exact ⟨fun q => absurd q hc, fun q => absurd q (by decide)⟩
  · exact ⟨fun _ => rfl, fun _ => rfl⟩
/-- the steps at the places i, i + 1, .. -/
def own_fo (psel pf pt : Int32) : Nat → Nat → Int32 × Int32 × Int32 → Int32 × Int32 × Int32
  | 0, _, x => x
  | r + 1, i, x => own_fo psel pf pt r (i + 1) (own_stp psel (Int32.ofNat i) pf pt x)
theorem own_foadd (psel pf pt : Int32) : ∀ (a b i : Nat) (x : Int32 × Int32 × Int32), own_fo psel pf pt (a + b) i x = own_fo psel pf pt b (i + a) (own_fo psel pf pt a i x)
  | 0, b, i, x => by rw [Nat.zero_add, Nat.add_zero]; rfl
  | a + 1, b, i, x => by
    rw [Nat.add_right_comm]
    show own_fo psel pf pt (a + b) (i + 1) _ = _
    rw [own_foadd psel pf pt a b (i + 1), show i + 1 + a = i + (a + 1) by omega]; rfl
theorem own_folo (psel pt : Int32) {nf : Nat} (hf : nf ≤ 8) : ∀ (a i : Nat) (x : Int32 × Int32 × Int32), i + a ≤ nf → own_fo psel (Int32.ofNat nf) pt a i x = x
  | 0, i, x, _ => rfl
  | a + 1, i, x, h => by
    show own_fo psel (Int32.ofNat nf) pt a (i + 1) (own_stp psel (Int32.ofNat i) (Int32.ofNat nf) pt x) = _
    have e : own_stp psel (Int32.ofNat i) (Int32.ofNat nf) pt x = x := by
      unfold own_stp; rw [if_pos (Or.inl ((own_lt32 (by omega) (by omega)).mpr (by omega)))]
    rw [e, own_folo psel pt hf a (i + 1) x (by omega)]
theorem own_fohi (psel pf : Int32) {nt : Nat} (ht : nt ≤ 8) : ∀ (a i : Nat) (x : Int32 × Int32 × Int32), nt ≤ i → i + a ≤ 8 → own_fo psel pf (Int32.ofNat nt) a i x = x
  | 0, i, x, _, _ => rfl
  | a + 1, i, x, h, h8 => by
    show own_fo psel pf (Int32.ofNat nt) a (i + 1) (own_stp psel (Int32.ofNat i) pf (Int32.ofNat nt) x) = _
    have e : own_stp psel (Int32.ofNat i) pf (Int32.ofNat nt) x = x := by
      unfold own_stp; rw [if_pos (Or.inr (Or.inl (fun q => absurd ((own_lt32 (by omega) (by omega)).mp q) (by omega))))]
    rw [e, own_fohi psel pf ht a (i + 1) x (by omega) (by omega)]
theorem own_fodead (psel pf pt : Int32) : ∀ (a i : Nat) (x : Int32 × Int32 × Int32), ¬ x.2.2 = 0 → own_fo psel pf pt a i x = x
  | 0, i, x, _ => rfl
  | a + 1, i, x, h => by
    show own_fo psel pf pt a (i + 1) (own_stp psel (Int32.ofNat i) pf pt x) = _
    have e : own_stp psel (Int32.ofNat i) pf pt x = x := by
      unfold own_stp; rw [if_pos (Or.inr (Or.inr h))]
    rw [e, own_fodead psel pf pt a (i + 1) x h]
/-- what the law expects -/
def own_en (x0 : Int32) : Int32 := if x0 = 0 then 3 else if x0 = 1 then 0 else 1
def own_ex (x : Int32 × Int32 × Int32) : Int32 := if ¬ x.2.2 = 0 ∨ own_en x.1 = 0 then -1 else (x.2.1 + own_en x.1 + (7 : Int32)) / (8 : Int32)
theorem own_lnm (part : Nat) (k : Int32) : ∃ m, m ≤ 3 ∧ own_ln (Int32.ofNat part) k = Int32.ofNat m := by
  unfold own_ln
  split
  · exact ⟨0, by decide, rfl⟩
  · split
    · split
      · exact ⟨1, by decide, rfl⟩
      · split
        · exact ⟨3, by decide, rfl⟩
        · exact ⟨2, by decide, rfl⟩
    · split
      · split
        · exact ⟨1, by decide, rfl⟩
        · exact ⟨2, by decide, rfl⟩
      · split
        · exact ⟨0, by decide, rfl⟩
        · exact ⟨2, by decide, rfl⟩
theorem own_bl {bits m : Nat} (hb : bits ≤ 24) (hm : m ≤ 3) : Int64.ofNat bits + (Int32.ofNat m).toInt64 = Int64.ofNat (bits + m) ∧ Int32.ofNat bits + Int32.ofNat m = Int32.ofNat (bits + m) ∧ ((Int64.ofNat bits + (Int32.ofNat m).toInt64 + (8 : Int64) - (1 : Int64)) / (8 : Int64)).toInt32 = (Int32.ofNat bits + Int32.ofNat m + (7 : Int32)) / (8 : Int32) := by
  have t : ∀ (a : Fin 25) (b : Fin 4), Int64.ofNat a.val + (Int32.ofNat b.val).toInt64 = Int64.ofNat (a.val + b.val) ∧ Int32.ofNat a.val + Int32.ofNat b.val = Int32.ofNat (a.val + b.val) ∧ ((Int64.ofNat a.val + (Int32.ofNat b.val).toInt64 + (8 : Int64) - (1 : Int64)) / (8 : Int64)).toInt32 = (Int32.ofNat a.val + Int32.ofNat b.val + (7 : Int32)) / (8 : Int32) := by decide +kernel
  exact t ⟨bits, by omega⟩ ⟨m, by omega⟩
theorem own_cbfo {psel : Int32} {G : Nat → Nat → Int32} {lf : Nat → Int32} {ui : Nat → Nat} {sep : Int32} {nf nt : Nat} (ht8 : nt ≤ 8)
    (hK : ∀ part i, part < 3 → i < 8 → G part (ui i) &&& 15 = own_ln (Int32.ofNat part) (own_kd psel (Int32.ofNat i))) (hE : ∀ part, part < 3 → G part 256 &&& 15 = own_en (Int32.ofNat part)) (hS : ∀ i, lf i = sep ↔ own_kd psel (Int32.ofNat i) = 3) :
    ∀ (r i part bits : Nat), nf ≤ i → i + r = nt → part < 3 → bits ≤ 3 * i → own_cb G lf ui sep r i part (Int64.ofNat bits) = own_ex (own_fo psel (Int32.ofNat nf) (Int32.ofNat nt) r i (Int32.ofNat part, Int32.ofNat bits, 0))
  | 0, i, part, bits, hi, hr, hp, hb => by
    show (if G part 256 &&& 15 = 0 then -1 else ((Int64.ofNat bits + (G part 256 &&& 15).toInt64 + (8 : Int64) - (1 : Int64)) / (8 : Int64)).toInt32) = own_ex (Int32.ofNat part, Int32.ofNat bits, 0)
    rw [hE part hp]
    unfold own_ex
    dsimp only
    by_cases c : own_en (Int32.ofNat part) = 0
    · rw [if_pos c, if_pos (Or.inr c)]
    · rw [if_neg c, if_neg (fun q => q.elim (fun z => z rfl) c)]
      have : ∃ m, m ≤ 3 ∧ own_en (Int32.ofNat part) = Int32.ofNat m := by
        unfold own_en
        split
        · exact ⟨3, by decide, rfl⟩
        · split
          · exact ⟨0, by decide, rfl⟩
          · exact ⟨1, by decide, rfl⟩
      obtain ⟨m, hm, e⟩ := this
      rw [e]
      exact (own_bl (by omega) hm).2.2
  | r + 1, i, part, bits, hi, hr, hp, hb => by
    show (if G part (ui i) &&& 15 = 0 then -1 else own_cb G lf ui sep r (i + 1) (if lf i = sep ∧ part < 2 then part + 1 else part) (Int64.ofNat bits + (G part (ui i) &&& 15).toInt64)) = own_ex (own_fo psel (Int32.ofNat nf) (Int32.ofNat nt) r (i + 1) (own_stp psel (Int32.ofNat i) (Int32.ofNat nf) (Int32.ofNat nt) (Int32.ofNat part, Int32.ofNat bits, 0)))
    rw [hK part i hp (by omega)]
    have e1 : own_stp psel (Int32.ofNat i) (Int32.ofNat nf) (Int32.ofNat nt) (Int32.ofNat part, Int32.ofNat bits, 0) = if own_ln (Int32.ofNat part) (own_kd psel (Int32.ofNat i)) = 0 then (Int32.ofNat part, Int32.ofNat bits, 1) else (if own_kd psel (Int32.ofNat i) = 3 ∧ Int32.ofNat part < 2 then Int32.ofNat part + 1 else Int32.ofNat part, Int32.ofNat bits + own_ln (Int32.ofNat part) (own_kd psel (Int32.ofNat i)), 0) := by
      unfold own_stp
      rw [if_neg (fun q => q.elim (fun z => absurd ((own_lt32 (by omega) (by omega)).mp z) (by omega)) (fun q => q.elim (fun z => z ((own_lt32 (by omega) (by omega)).mpr (by omega))) (fun z => z rfl)))]
    rw [e1]
    by_cases c : own_ln (Int32.ofNat part) (own_kd psel (Int32.ofNat i)) = 0
    · rw [if_pos c, if_pos c, own_fodead _ _ _ _ _ _ (by show ¬ (1 : Int32) = 0; decide)]
      unfold own_ex
      rw [if_pos (Or.inl (by show ¬ (1 : Int32) = 0; decide))]
    · rw [if_neg c, if_neg c]
      obtain ⟨m, hm, e⟩ := own_lnm part (own_kd psel (Int32.ofNat i))
      obtain ⟨b1, b2, -⟩ := own_bl (bits := bits) (by omega) hm
      rw [e, b1, b2]
      have e2 : (if own_kd psel (Int32.ofNat i) = 3 ∧ Int32.ofNat part < 2 then Int32.ofNat part + 1 else Int32.ofNat part) = Int32.ofNat (if lf i = sep ∧ part < 2 then part + 1 else part) := by
        have hlt : Int32.ofNat part < 2 ↔ part < 2 := own_lt32 (n := 2) (by omega) (by omega)
        by_cases d : lf i = sep ∧ part < 2
        · rw [if_pos d, if_pos ⟨(hS i).mp d.1, hlt.mpr d.2⟩]; exact own_addn (k := (1 : Int32)) (b := 1) rfl (by omega)
        · rw [if_neg d, if_neg (fun q => d ⟨(hS i).mpr q.1, hlt.mp q.2⟩)]
      rw [e2]
      exact own_cbfo ht8 hK hE hS r (i + 1) _ _ (by omega) (by omega) (by split <;> omega) (by omega)
theorem own_got {psel : Int32} {G : Nat → Nat → Int32} {lf : Nat → Int32} {ui : Nat → Nat} {sep : Int32} {nf nt : Nat} (hft : nf ≤ nt) (ht8 : nt ≤ 8)
    (hK : ∀ part i, part < 3 → i < 8 → G part (ui i) &&& 15 = own_ln (Int32.ofNat part) (own_kd psel (Int32.ofNat i))) (hE : ∀ part, part < 3 → G part 256 &&& 15 = own_en (Int32.ofNat part)) (hS : ∀ i, lf i = sep ↔ own_kd psel (Int32.ofNat i) = 3) :
    own_cb G lf ui sep (nt - nf) nf 0 0 = own_ex (own_fo psel (Int32.ofNat nf) (Int32.ofNat nt) 8 0 (0, 0, 0)) := by
  have a := own_cbfo ht8 hK hE hS (nt - nf) nf 0 0 (Nat.le_refl _) (by omega) (by omega) (by omega)
  have b := own_foadd psel (Int32.ofNat nf) (Int32.ofNat nt) nf (8 - nf) 0 (0, 0, 0)
  rw [show nf + (8 - nf) = 8 by omega, own_folo psel (Int32.ofNat nt) (by omega) nf 0 (0, 0, 0) (by omega), Nat.zero_add] at b
  have d := own_foadd psel (Int32.ofNat nf) (Int32.ofNat nt) (nt - nf) (8 - nt) nf (0, 0, 0)
  rw [show nt - nf + (8 - nt) = 8 - nf by omega, show nf + (nt - nf) = nt by omega, own_fohi psel (Int32.ofNat nf) ht8 (8 - nt) nt _ (Nat.le_refl _) (by omega)] at d
  rw [b, d]
  exact a
theorem own_oth {G : Nat → Nat → Int32} {lf : Nat → Int32} {ui : Nat → Nat} {sep : Int32} (r i : Nat) (bits : Int64) (h : ∀ u, G 0 u = 0) : own_cb G lf ui sep r i 0 bits = -1 := by
  cases r with
  | zero =>
    show (if G 0 256 &&& 15 = 0 then -1 else _) = _
    rw [h, if_pos (by decide)]
  | succ r =>
    show (if G 0 (ui i) &&& 15 = 0 then -1 else _) = _
    rw [h, if_pos (by decide)]
/-- the lengths by kind -/
theorem own_hKE {psel : Int32} {R0 R1 R2 : Nat → Int32} {ua ub uc us y0 y1 j0 j1 : Nat} (la : ua < 256) (lb : ub < 256) (lc : uc < 256) (ls : us < 256) (nab : ua ≠ ub) (nas : ua ≠ us) (nbs : ub ≠ us) (nca : uc ≠ ua) (ncb : uc ≠ ub) (ncs : uc ≠ us)
    (hy : y0 = ua ∧ y1 = ub ∨ y0 = ub ∧ y1 = ua) (hj : j0 = ub ∧ j1 = us ∨ j0 = us ∧ j1 = ub)
    (k0 : ∀ i, i < 257 → R0 i &&& (15 : Int32) = Int32.ofNat (if i = ua then 1 else if i = us then 2 else if i = 256 then 3 else if i = ub then 3 else 0))
    (k1 : ∀ i, i < 257 → R1 i &&& (15 : Int32) = Int32.ofNat (if i = us then 1 else if i = y1 then 2 else if i = y0 then 2 else 0))
    (k2 : ∀ i, i < 257 → R2 i &&& (15 : Int32) = Int32.ofNat (if i = 256 then 1 else if i = j1 then 2 else if i = j0 then 2 else 0))
    {G : Nat → Nat → Int32} (g0 : G 0 = R0) (g1 : G 1 = R1) (g2 : G 2 = R2) :
    (∀ part i, part < 3 → i < 8 → G part (own_ui psel ua ub uc us i) &&& 15 = own_ln (Int32.ofNat part) (own_kd psel (Int32.ofNat i))) ∧ (∀ part, part < 3 → G part 256 &&& 15 = own_en (Int32.ofNat part)) := by
  have k1' : ∀ i, i < 257 → R1 i &&& (15 : Int32) = Int32.ofNat (if i = us then 1 else if i = ua ∨ i = ub then 2 else 0) := fun i hi => by
    rw [k1 i hi]
    congr 1
    rcases hy with ⟨rfl, rfl⟩ | ⟨rfl, rfl⟩ <;> (repeat' split) <;> first | rfl | omega
  have k2' : ∀ i, i < 257 → R2 i &&& (15 : Int32) = Int32.ofNat (if i = 256 then 1 else if i = us ∨ i = ub then 2 else 0) := fun i hi => by
    rw [k2 i hi]
    congr 1
    rcases hj with ⟨rfl, rfl⟩ | ⟨rfl, rfl⟩ <;> (repeat' split) <;> first | rfl | omega
  constructor
  · intro part i hp _
    have hp' : part = 0 ∨ part = 1 ∨ part = 2 := by omega
    unfold own_ui
    rcases own_kd4 psel (Int32.ofNat i) with h | h | h | h <;> rw [h]
    · rw [if_pos rfl]
      rcases hp' with rfl | rfl | rfl
      · rw [g0, k0 _ (by omega), if_pos rfl]; rfl
      · rw [g1, k1' _ (by omega), if_neg nas, if_pos (Or.inl rfl)]; rfl
      · rw [g2, k2' _ (by omega), if_neg (by omega), if_neg (by omega)]; rfl
    · rw [if_neg (by decide), if_pos rfl]
      rcases hp' with rfl | rfl | rfl
      · rw [g0, k0 _ (by omega), if_neg (Ne.symm nab), if_neg nbs, if_neg (by omega), if_pos rfl]; rfl
      · rw [g1, k1' _ (by omega), if_neg nbs, if_pos (Or.inr rfl)]; rfl
      · rw [g2, k2' _ (by omega), if_neg (by omega), if_pos (Or.inr rfl)]; rfl
    · rw [if_neg (by decide), if_neg (by decide), if_pos rfl]
      rcases hp' with rfl | rfl | rfl
      · rw [g0, k0 _ (by omega), if_neg nca, if_neg ncs, if_neg (by omega), if_neg ncb]; rfl
      · rw [g1, k1' _ (by omega), if_neg ncs, if_neg (by omega)]; rfl
      · rw [g2, k2' _ (by omega), if_neg (by omega), if_neg (by omega)]; rfl
    · rw [if_neg (by decide), if_neg (by decide), if_neg (by decide)]
      rcases hp' with rfl | rfl | rfl
      · rw [g0, k0 _ (by omega), if_neg (Ne.symm nas), if_pos rfl]; rfl
      · rw [g1, k1' _ (by omega), if_pos rfl]; rfl
      · rw [g2, k2' _ (by omega), if_neg (by omega), if_pos (Or.inl rfl)]; rfl
  · intro part hp
    have hp' : part = 0 ∨ part = 1 ∨ part = 2 := by omega
    rcases hp' with rfl | rfl | rfl
    · rw [g0, k0 _ (by omega), if_neg (by omega), if_neg (by omega), if_pos rfl]; rfl
    · rw [g1, k1' _ (by omega), if_neg (by omega), if_neg (by omega)]; rfl
    · rw [g2, k2' _ (by omega), if_pos rfl]; rfl
theorem own_tri (p : Int32 × Int32 × Int32) : ∃ x0 x1 x2, p = (x0, x1, x2) := ⟨_, _, _, rfl⟩
theorem own_fo8 {psel pf pt : Int32} {x0 x1 x2 x3 x4 x5 x6 x7 x8 : Int32 × Int32 × Int32} (h0 : own_stp psel 0 pf pt x0 = x1) (h1 : own_stp psel 1 pf pt x1 = x2) (h2 : own_stp psel 2 pf pt x2 = x3) (h3 : own_stp psel 3 pf pt x3 = x4) (h4 : own_stp psel 4 pf pt x4 = x5) (h5 : own_stp psel 5 pf pt x5 = x6) (h6 : own_stp psel 6 pf pt x6 = x7) (h7 : own_stp psel 7 pf pt x7 = x8) : own_fo psel pf pt 8 0 x0 = x8 := by
  subst h7 h6 h5 h4 h3 h2 h1 h0
  rfl
theorem own_R0 {ua ub us : Nat} (la : ua < 256) (lb : ub < 256) (ls : us < 256) (nab : ua ≠ ub) (nas_ : ua ≠ us) (nbs_ : ub ≠ us) : own_res ((own_c3 ua ub us (own_c2 ua ub us (own_c1 ua ub us (fun _ _ => 0)))) 0) [ub, 256, us, ua] [1, 1, 2, 4] ∧ (256 ≠ ub ∧ us ≠ ub ∧ us ≠ 256 ∧ ua ≠ ub ∧ ua ≠ 256 ∧ ua ≠ us) ∧ ub < 257 ∧ 256 < 257 ∧ us < 257 ∧ ua < 257 := by
  obtain ⟨fa, fs, fb, fe, hz⟩ := own_cf0 la lb ls nab nas_ nbs_
  refine ⟨?_, ⟨by omega, by omega, by omega, by omega, by omega, by omega⟩, by omega, by omega, by omega, by omega⟩
  exact own_r4 nbs_ (Ne.symm nab) (Ne.symm nas_) lb la ls fb fe fs fa (fun i hi h1 h2 h3 h4 => hz i hi h4 h3 h1 h2)
theorem own_R1 {ua ub us : Nat} (la : ua < 256) (lb : ub < 256) (ls : us < 256) (nab : ua ≠ ub) (nas_ : ua ≠ us) (nbs_ : ub ≠ us) : ∃ y0 y1 : Nat, (y0 = ua ∧ y1 = ub ∨ y0 = ub ∧ y1 = ua) ∧ own_res ((own_c3 ua ub us (own_c2 ua ub us (own_c1 ua ub us (fun _ _ => 0)))) 1) [y0, y1, us] [1, 1, 2] ∧ (y1 ≠ y0 ∧ us ≠ y0 ∧ us ≠ y1) ∧ y0 < 257 ∧ y1 < 257 ∧ us < 257 := by
  obtain ⟨fs, fa, fb, hz⟩ := own_cf1 la lb ls nab nas_ nbs_
  rcases Nat.lt_or_gt_of_ne nab with c | c
  · exact ⟨ua, ub, Or.inl ⟨rfl, rfl⟩, own_r3 c (Ne.symm nas_) (Ne.symm nbs_) (by omega) (by omega) (by omega) fa fb fs (fun i hi h1 h2 h3 => hz i hi h3 h1 h2), ⟨by omega, by omega, by omega⟩, by omega, by omega, by omega⟩
  · exact ⟨ub, ua, Or.inr ⟨rfl, rfl⟩, own_r3 c (Ne.symm nbs_) (Ne.symm nas_) (by omega) (by omega) (by omega) fb fa fs (fun i hi h1 h2 h3 => hz i hi h3 h2 h1), ⟨by omega, by omega, by omega⟩, by omega, by omega, by omega⟩
theorem own_R2 {ua ub us : Nat} (la : ua < 256) (lb : ub < 256) (ls : us < 256) (nab : ua ≠ ub) (nas_ : ua ≠ us) (nbs_ : ub ≠ us) : ∃ j0 j1 : Nat, (j0 = ub ∧ j1 = us ∨ j0 = us ∧ j1 = ub) ∧ own_res ((own_c3 ua ub us (own_c2 ua ub us (own_c1 ua ub us (fun _ _ => 0)))) 2) [j0, j1, 256] [1, 1, 2] ∧ (j1 ≠ j0 ∧ 256 ≠ j0 ∧ 256 ≠ j1) ∧ j0 < 257 ∧ j1 < 257 ∧ 256 < 257 := by
  obtain ⟨fe, fb, fs, hz⟩ := own_cf2 la lb ls nab nas_ nbs_
  rcases Nat.lt_or_gt_of_ne nbs_ with c | c
  · exact ⟨ub, us, Or.inl ⟨rfl, rfl⟩, own_r3 c (by omega) (by omega) (by omega) (by omega) (by omega) fb fs fe (fun i hi h1 h2 h3 => hz i hi h3 h1 h2), ⟨by omega, by omega, by omega⟩, by omega, by omega, by omega⟩
  · exact ⟨us, ub, Or.inr ⟨rfl, rfl⟩, own_r3 c (by omega) (by omega) (by omega) (by omega) (by omega) fs fb fe (fun i hi h1 h2 h3 => hz i hi h3 h2 h1), ⟨by omega, by omega, by omega⟩, by omega, by omega, by omega⟩
theorem own_vb {cd part : Nat} (h : cd < 2) (hp : part < 3) : 3 * cd + part < 6 := by omega
theorem own_cd1 {cd : Nat} (h : cd < 2) : 1 - cd < 2 := by omega
theorem own_gz {cd i : Nat} (h : cd < 2) (hi : i < 3) : ¬ 3 * (1 - cd) + 0 = 3 * cd + i := by omega
theorem own_gn {cd i j : Nat} (h : i ≠ j) : ¬ 3 * cd + i = 3 * cd + j := by omega
theorem own_ln8 (p xa xb xc xs : Int32) : own_ar (own_lf p xa xb xc xs) 8 = [.int (own_pk (own_kd p 0) xa xb xc xs), .int (own_pk (own_kd p 1) xa xb xc xs), .int (own_pk (own_kd p 2) xa xb xc xs), .int (own_pk (own_kd p 3) xa xb xc xs), .int (own_pk (own_kd p 4) xa xb xc xs), .int (own_pk (own_kd p 5) xa xb xc xs), .int (own_pk (own_kd p 6) xa xb xc xs), .int (own_pk (own_kd p 7) xa xb xc xs)] := rfl
theorem pd_532e93a : parseMethodDescriptor "(IIBBBB)B" = some ⟨[.int, .int, .byte, .byte, .byte, .byte], some .byte⟩ := by decide +kernel
theorem pd_56d7ddb : parseMethodDescriptor "(B)V" = some ⟨[.byte], none⟩ := by decide +kernel
theorem pd_45380c0 : parseMethodDescriptor "([BII)V" = some ⟨[(.array .byte), .int, .int], none⟩ := by decide +kernel
theorem pd_6ca6aec : parseMethodDescriptor "([IIIII)V" = some ⟨[(.array .int), .int, .int, .int, .int], none⟩ := by decide +kernel
theorem pd_73f9964 : parseMethodDescriptor "(I[BII)I" = some ⟨[.int, (.array .byte), .int, .int], some .int⟩ := by decide +kernel
theorem ef_0 (m : MethodId) (x0 : Int32) (x1 : Int32) (x2 : Int32) (x3 : Int32) (x4 : Int32) : entryFrame m #[(.int x0), (.int x1), (.int x2), (.int x3), (.int x4)] maxLocals = mkF m 0 #[.val (.int x0), .val (.int x1), .val (.int x2), .val (.int x3), .val (.int x4), .unset, .unset, .unset, .unset, .unset, .unset, .unset, .unset, .unset, .unset, .unset, .unset, .unset, .unset, .unset, .unset, .unset, .unset, .unset, .unset, .unset] [] := by first | (simp [entryFrame, mkF, argsToLocals, Value.category, maxLocals]; done) | rfl
def Q_rm0 (Z : State) (p1 p2 p3 p4 p5 : Int32) (h0 : Heap) (n0 : Nat) (v : Option Value) (h : Heap) (L : List Loc) : Prop := v = some (.int 1) ∧ Fr n0 L
set_option maxRecDepth 65536 in
set_option maxHeartbeats 40000000 in
theorem rm0 (l : Launch) (Z : State) (a0 : Array Value) (hw : ∀ d ∈ tables_1, d.before a0 Z = true) (ws : List Jvm.Cond) (p1 p2 p3 p4 p5 : Int32) (h0 : Heap) (n0 : Nat) (Z0 : n0 ≤ h0.size)  :
    MetFree l x (head1 (Jvm.Cond.code x code maxLocals ret :: ws) room_1) (fun a U => a = #[(.int p1), (.int p2), (.int p3), (.int p4), (.int p5)] ∧ Z.Warmed39 U.vm ∧ U.heap = h0) (fun _ _ _ _ _ => True) (fun _ U o U' => ∃ v L, o = .returned v ∧ (Q_rm0 Z p1 p2 p3 p4 p5 h0 n0) v U'.heap L ∧ FrameEnd U o U' L room_1.cells room_1.slots) := by
  refine MetFree.of_bodySF (plainFor_of_name pn_61676f6) hisR ?_
  intro p e s m args below meth c s₁ Bd hml0 hP hK
  obtain ⟨rfl, hZ, hh⟩ := hP
  have hx := Bd.exec
  have hc : ∀ {pc : Nat} {r}, decode code pc = r → decode c.code pc = r := fun h2 => hb Bd.bytes h2
  have hml : c.maxLocals = 26 := hml0
  have hown : s.vm.findClass "com/example/tributary/tributary/join/LineCodesCodedBytesPinLaw" = some m.cls := findClass_of_methodNamed Bd.named
  have hnm := (name_of_methodNamed Bd.named Bd.method).1
  have X0 : Stand p l e room_1 s m #[(.int p1), (.int p2), (.int p3), (.int p4), (.int p5)] below meth c s₁ [] 0 0 := Stand.of_body Bd
  have e0 : s₁.heap = h0 := by rw [← hh, Bd.state]; rfl
  have N0 := Fr.nil n0
  have K0 : Keep h0 h0 [] := Keep.refl h0 []
  show Go p e below (s₁.setTop (entryFrame m #[(.int p1), (.int p2), (.int p3), (.int p4), (.int p5)] maxLocals)) (EndN s (Q_rm0 Z p1 p2 p3 p4 p5 h0 n0) room_1.cells room_1.slots)
  refine Go.top (ef_0 m p1 p2 p3 p4 p5) ?_
  obtain ⟨us, ua, ub, uc, pa, pb, pcc, ps_, vi, vj, vk, e_s, e_i, e_j, e_k, e_a, e_b, e_c, ⟨ls, la, lb, lc⟩, ⟨nab, nas_, nbs_, nca, ncb, ncs⟩, ⟨hua, hub, huc, hus⟩, ⟨hna, hnb, hnc, hns⟩⟩ := own_bytes p1 p2 ((p2.toUInt32 >>> ((8 : Int32) &&& 31).toUInt32).toInt32) ((p2.toUInt32 >>> ((16 : Int32) &&& 31).toUInt32).toInt32)
  obtain ⟨nr, nf, nt, r1, r2, r3, r4, r5, hft, ht8⟩ := own_range p4
  have nas := own_ne255 hua hus la ls nas_
  have nbs := own_ne255 hub hus lb ls nbs_
  have ncs2 := own_ne255 huc hus lc ls ncs
  refine gLN X0 hx (hc at_0) rfl (.refl 1) ?_
  refine gS 2 [(.int (p1.toInt8.toInt32))] (fun zt zk => XS.i2b X0.here hx rfl (hc at_1) rfl zk) ?_
  rw [e_s]
  refine gP 4 #[iv p1, iv p2, iv p3, iv p4, iv p5, iv ps_, .unset, .unset, .unset, .unset, .unset, .unset, .unset, .unset, .unset, .unset, .unset, .unset, .unset, .unset, .unset, .unset, .unset, .unset, .unset, .unset] [] (fun zt zk => XS.istore X0.here hx rfl (hc at_2) rfl (l' := _) rfl zk) ?_
  refine gC (z := 1) X0 hx (hc at_4) rfl (.refl 5) ?_
  refine gLN X0 hx (hc at_5) rfl (.refl 6) ?_
  refine gH (z := 255) X0 hx (hc at_6) rfl (.refl 9) ?_
  refine giand X0 hx (hc at_9) (.refl 10) ?_
  refine gB (z := 84) X0 hx (hc at_10) rfl (.refl 12) ?_
  refine gS 13 [(.int ((p2 &&& (255 : Int32)) - ((p2 &&& (255 : Int32)) / (84 : Int32)) * (84 : Int32))), (.int 1)] (fun zt zk => XS.irem X0.here hx rfl (hc at_12) rfl (by decide) zk) ?_
  refine giadd X0 hx (hc at_13) (.refl 14) ?_
  rw [e_i]
  refine gP 16 #[iv p1, iv p2, iv p3, iv p4, iv p5, iv ps_, iv vi, .unset, .unset, .unset, .unset, .unset, .unset, .unset, .unset, .unset, .unset, .unset, .unset, .unset, .unset, .unset, .unset, .unset, .unset, .unset] [] (fun zt zk => XS.istore X0.here hx rfl (hc at_14) rfl (l' := _) rfl zk) ?_
  refine gB (z := 85) X0 hx (hc at_16) rfl (.refl 18) ?_
  refine gLN X0 hx (hc at_18) rfl (.refl 19) ?_
  refine gB (z := 8) X0 hx (hc at_19) rfl (.refl 21) ?_
  refine gS 22 [(.int ((p2.toUInt32 >>> ((8 : Int32) &&& 31).toUInt32).toInt32)), (.int 85)] (fun zt zk => XS.iushr X0.here hx rfl (hc at_21) rfl zk) ?_
  refine gH (z := 255) X0 hx (hc at_22) rfl (.refl 25) ?_
  refine giand X0 hx (hc at_25) (.refl 26) ?_
  refine gB (z := 85) X0 hx (hc at_26) rfl (.refl 28) ?_
  refine gS 29 [(.int ((((p2.toUInt32 >>> ((8 : Int32) &&& 31).toUInt32).toInt32) &&& (255 : Int32)) - ((((p2.toUInt32 >>> ((8 : Int32) &&& 31).toUInt32).toInt32) &&& (255 : Int32)) / (85 : Int32)) * (85 : Int32))), (.int 85)] (fun zt zk => XS.irem X0.here hx rfl (hc at_28) rfl (by decide) zk) ?_
  refine giadd X0 hx (hc at_29) (.refl 30) ?_
  rw [e_j]
  refine gP 32 #[iv p1, iv p2, iv p3, iv p4, iv p5, iv ps_, iv vi, iv vj, .unset, .unset, .unset, .unset, .unset, .unset, .unset, .unset, .unset, .unset, .unset, .unset, .unset, .unset, .unset, .unset, .unset, .unset] [] (fun zt zk => XS.istore X0.here hx rfl (hc at_30) rfl (l' := _) rfl zk) ?_
  refine gH (z := 170) X0 hx (hc at_32) rfl (.refl 35) ?_
  refine gLN X0 hx (hc at_35) rfl (.refl 36) ?_
  refine gB (z := 16) X0 hx (hc at_36) rfl (.refl 38) ?_
  refine gS 39 [(.int ((p2.toUInt32 >>> ((16 : Int32) &&& 31).toUInt32).toInt32)), (.int 170)] (fun zt zk => XS.iushr X0.here hx rfl (hc at_38) rfl zk) ?_
  refine gH (z := 255) X0 hx (hc at_39) rfl (.refl 42) ?_
  refine giand X0 hx (hc at_42) (.refl 43) ?_
  refine gB (z := 86) X0 hx (hc at_43) rfl (.refl 45) ?_
  refine gS 46 [(.int ((((p2.toUInt32 >>> ((16 : Int32) &&& 31).toUInt32).toInt32) &&& (255 : Int32)) - ((((p2.toUInt32 >>> ((16 : Int32) &&& 31).toUInt32).toInt32) &&& (255 : Int32)) / (86 : Int32)) * (86 : Int32))), (.int 170)] (fun zt zk => XS.irem X0.here hx rfl (hc at_45) rfl (by decide) zk) ?_
  refine giadd X0 hx (hc at_46) (.refl 47) ?_
  rw [e_k]
  refine gP 49 #[iv p1, iv p2, iv p3, iv p4, iv p5, iv ps_, iv vi, iv vj, iv vk, .unset, .unset, .unset, .unset, .unset, .unset, .unset, .unset, .unset, .unset, .unset, .unset, .unset, .unset, .unset, .unset, .unset] [] (fun zt zk => XS.istore X0.here hx rfl (hc at_47) rfl (l' := _) rfl zk) ?_
  refine gL X0 hx (hc at_49) rfl (.refl 51) ?_
  refine gL X0 hx (hc at_51) rfl (.refl 53) ?_
  refine giadd X0 hx (hc at_53) (.refl 54) ?_
  refine gS 55 [(.int ((ps_ + vi).toInt8.toInt32))] (fun zt zk => XS.i2b X0.here hx rfl (hc at_54) rfl zk) ?_
  rw [e_a]
  refine gP 57 #[iv p1, iv p2, iv p3, iv p4, iv p5, iv ps_, iv vi, iv vj, iv vk, iv pa, .unset, .unset, .unset, .unset, .unset, .unset, .unset, .unset, .unset, .unset, .unset, .unset, .unset, .unset, .unset, .unset] [] (fun zt zk => XS.istore X0.here hx rfl (hc at_55) rfl (l' := _) rfl zk) ?_
  refine gL X0 hx (hc at_57) rfl (.refl 59) ?_
  refine gL X0 hx (hc at_59) rfl (.refl 61) ?_
  refine giadd X0 hx (hc at_61) (.refl 62) ?_
  refine gS 63 [(.int ((ps_ + vj).toInt8.toInt32))] (fun zt zk => XS.i2b X0.here hx rfl (hc at_62) rfl zk) ?_
  rw [e_b]
  refine gP 65 #[iv p1, iv p2, iv p3, iv p4, iv p5, iv ps_, iv vi, iv vj, iv vk, iv pa, iv pb, .unset, .unset, .unset, .unset, .unset, .unset, .unset, .unset, .unset, .unset, .unset, .unset, .unset, .unset, .unset] [] (fun zt zk => XS.istore X0.here hx rfl (hc at_63) rfl (l' := _) rfl zk) ?_
  refine gL X0 hx (hc at_65) rfl (.refl 67) ?_
  refine gL X0 hx (hc at_67) rfl (.refl 69) ?_
  refine giadd X0 hx (hc at_69) (.refl 70) ?_
  refine gS 71 [(.int ((ps_ + vk).toInt8.toInt32))] (fun zt zk => XS.i2b X0.here hx rfl (hc at_70) rfl zk) ?_
  rw [e_c]
  refine gP 73 #[iv p1, iv p2, iv p3, iv p4, iv p5, iv ps_, iv vi, iv vj, iv vk, iv pa, iv pb, iv pcc, .unset, .unset, .unset, .unset, .unset, .unset, .unset, .unset, .unset, .unset, .unset, .unset, .unset, .unset] [] (fun zt zk => XS.istore X0.here hx rfl (hc at_71) rfl (l' := _) rfl zk) ?_
  refine gL X0 hx (hc at_73) rfl (.refl 75) ?_
  refine gC (z := 1) X0 hx (hc at_75) rfl (.refl 76) ?_
  refine giand X0 hx (hc at_76) (.refl 77) ?_
  obtain ⟨cd, hcd, hcq⟩ := own_msk p5 (k := 1) (mk := (1 : Int32)) (by decide) rfl
  have hcd : cd < 2 := hcd
  rw [hcq]
  refine gP 79 #[iv p1, iv p2, iv p3, iv p4, iv p5, iv ps_, iv vi, iv vj, iv vk, iv pa, iv pb, iv pcc, iv (Int32.ofNat cd), .unset, .unset, .unset, .unset, .unset, .unset, .unset, .unset, .unset, .unset, .unset, .unset, .unset] [] (fun zt zk => XS.istore X0.here hx rfl (hc at_77) rfl (l' := _) rfl zk) ?_
  refine gLN X0 hx (hc at_79) rfl (.refl 80) ?_
  refine gH (z := 255) X0 hx (hc at_80) rfl (.refl 83) ?_
  refine giand X0 hx (hc at_83) (.refl 84) ?_
  rw [r1]
  refine gP 86 #[iv p1, iv p2, iv p3, iv p4, iv p5, iv ps_, iv vi, iv vj, iv vk, iv pa, iv pb, iv pcc, iv (Int32.ofNat cd), iv (Int32.ofNat nr), .unset, .unset, .unset, .unset, .unset, .unset, .unset, .unset, .unset, .unset, .unset, .unset] [] (fun zt zk => XS.istore X0.here hx rfl (hc at_84) rfl (l' := _) rfl zk) ?_
  refine gL X0 hx (hc at_86) rfl (.refl 88) ?_
  refine gB (z := 9) X0 hx (hc at_88) rfl (.refl 90) ?_
  refine gS 91 [(.int ((Int32.ofNat nr) - ((Int32.ofNat nr) / (9 : Int32)) * (9 : Int32)))] (fun zt zk => XS.irem X0.here hx rfl (hc at_90) rfl (by decide) zk) ?_
  rw [r2]
  refine gP 93 #[iv p1, iv p2, iv p3, iv p4, iv p5, iv ps_, iv vi, iv vj, iv vk, iv pa, iv pb, iv pcc, iv (Int32.ofNat cd), iv (Int32.ofNat nr), iv (Int32.ofNat nf), .unset, .unset, .unset, .unset, .unset, .unset, .unset, .unset, .unset, .unset, .unset] [] (fun zt zk => XS.istore X0.here hx rfl (hc at_91) rfl (l' := _) rfl zk) ?_
  refine gL X0 hx (hc at_93) rfl (.refl 95) ?_
  refine gL X0 hx (hc at_95) rfl (.refl 97) ?_
  refine gB (z := 9) X0 hx (hc at_97) rfl (.refl 99) ?_
  refine gS 100 [(.int ((Int32.ofNat nr) / (9 : Int32))), (.int (Int32.ofNat nf))] (fun zt zk => XS.idiv X0.here hx rfl (hc at_99) rfl (by decide) zk) ?_
  refine gB (z := 9) X0 hx (hc at_100) rfl (.refl 102) ?_
  refine gL X0 hx (hc at_102) rfl (.refl 104) ?_
  refine gisub X0 hx (hc at_104) (.refl 105) ?_
  rw [r3]
  refine gS 106 [(.int (((Int32.ofNat nr) / (9 : Int32)) - (((Int32.ofNat nr) / (9 : Int32)) / (Int32.ofNat (9 - nf))) * (Int32.ofNat (9 - nf)))), (.int (Int32.ofNat nf))] (fun zt zk => XS.irem X0.here hx rfl (hc at_105) rfl r4 zk) ?_
  refine giadd X0 hx (hc at_106) (.refl 107) ?_
  rw [r5]
  refine gP 109 #[iv p1, iv p2, iv p3, iv p4, iv p5, iv ps_, iv vi, iv vj, iv vk, iv pa, iv pb, iv pcc, iv (Int32.ofNat cd), iv (Int32.ofNat nr), iv (Int32.ofNat nf), iv (Int32.ofNat nt), .unset, .unset, .unset, .unset, .unset, .unset, .unset, .unset, .unset, .unset] [] (fun zt zk => XS.istore X0.here hx rfl (hc at_107) rfl (l' := _) rfl zk) ?_
  refine gB (z := 7) X0 hx (hc at_109) rfl (.refl 111) ?_
  obtain ⟨T993, h993, k993, X993, e993, E993, A993, st993⟩ := newP X0 hx hZ (ow hw 0 rfl) e0 (g := (mkF m 111 #[iv p1, iv p2, iv p3, iv p4, iv p5, iv ps_, iv vi, iv vj, iv vk, iv pa, iv pb, iv pcc, iv (Int32.ofNat cd), iv (Int32.ofNat nr), iv (Int32.ofNat nf), iv (Int32.ofNat nt), .unset, .unset, .unset, .unset, .unset, .unset, .unset, .unset, .unset, .unset] [(.int 7)])) rfl (hc at_111) rfl (by decide) (cap := 7) (by decide) (by decide) (by decide) (by decide)
  obtain ⟨b993, g993⟩ : ∃ z, z = h0.size := ⟨_, rfl⟩
  rw [← g993] at A993 st993
  have g_b993 : n0 ≤ b993 := Nat.le_trans (Nat.le_trans Z0 K0.1) (Nat.le_of_eq g993.symm)
  have sz_b993 : h0.size ≤ b993 := Nat.le_trans K0.1 (Nat.le_of_eq g993.symm)
  have K993 := K0.ext E993
  have V993 : Arv Z h993 b993 k993 .byte (7 : Int32) [(.int 0), (.int 0), (.int 0), (.int 0), (.int 0), (.int 0), (.int 0)] (.int 0) := (Arv.new A993 (by decide)).pad (pad_rep [] (.int 0) 7)
  refine gT T993 113 [(.ref b993)] (fun zt zk => st993 zt zk) ?_
  refine gD X993 hx (hc at_113) rfl (.refl 114) ?_
  refine gC (z := 0) X993 hx (hc at_114) rfl (.refl 115) ?_
  refine gL X993 hx (hc at_115) rfl (.refl 117) ?_
  refine gSB X993 hx hZ e993 V993 ⟨by decide, by decide⟩ 0 rfl (Nat.le_of_ble_eq_true rfl) [(.int (nar .byte pa)), (.int 0), (.int 0), (.int 0), (.int 0), (.int 0), (.int 0)] rfl (hc at_117) (.refl 118) ?_
  intro T994 h994 X994 e994 W994 V994
  have K994 := K993.wr W994 (Or.inr sz_b993)
  have N994 := Fr.snoc X994 N0 g_b993
  refine gD X994 hx (hc at_118) rfl (.refl 119) ?_
  refine gC (z := 1) X994 hx (hc at_119) rfl (.refl 120) ?_
  refine gL X994 hx (hc at_120) rfl (.refl 122) ?_
  refine gSB X994 hx hZ e994 V994 ⟨by decide, by decide⟩ 1 rfl (Nat.le_of_ble_eq_true rfl) [(.int (nar .byte pa)), (.int (nar .byte pa)), (.int 0), (.int 0), (.int 0), (.int 0), (.int 0)] rfl (hc at_122) (.refl 123) ?_
  intro T995 h995 X995 e995 W995 V995
  have K995 := K994.wr W995 (Or.inr sz_b993)
  have N995 := Fr.snoc X995 N994 g_b993
  refine gD X995 hx (hc at_123) rfl (.refl 124) ?_
  refine gC (z := 2) X995 hx (hc at_124) rfl (.refl 125) ?_
  refine gL X995 hx (hc at_125) rfl (.refl 127) ?_
  refine gSB X995 hx hZ e995 V995 ⟨by decide, by decide⟩ 2 rfl (Nat.le_of_ble_eq_true rfl) [(.int (nar .byte pa)), (.int (nar .byte pa)), (.int (nar .byte pa)), (.int 0), (.int 0), (.int 0), (.int 0)] rfl (hc at_127) (.refl 128) ?_
  intro T996 h996 X996 e996 W996 V996
  have K996 := K995.wr W996 (Or.inr sz_b993)
  have N996 := Fr.snoc X996 N995 g_b993
  refine gD X996 hx (hc at_128) rfl (.refl 129) ?_
  refine gC (z := 3) X996 hx (hc at_129) rfl (.refl 130) ?_
  refine gL X996 hx (hc at_130) rfl (.refl 132) ?_
  refine gSB X996 hx hZ e996 V996 ⟨by decide, by decide⟩ 3 rfl (Nat.le_of_ble_eq_true rfl) [(.int (nar .byte pa)), (.int (nar .byte pa)), (.int (nar .byte pa)), (.int (nar .byte pa)), (.int 0), (.int 0), (.int 0)] rfl (hc at_132) (.refl 133) ?_
  intro T997 h997 X997 e997 W997 V997
  have K997 := K996.wr W997 (Or.inr sz_b993)
  have N997 := Fr.snoc X997 N996 g_b993
  refine gD X997 hx (hc at_133) rfl (.refl 134) ?_
  refine gC (z := 4) X997 hx (hc at_134) rfl (.refl 135) ?_
  refine gL X997 hx (hc at_135) rfl (.refl 137) ?_
  refine gSB X997 hx hZ e997 V997 ⟨by decide, by decide⟩ 4 rfl (Nat.le_of_ble_eq_true rfl) [(.int (nar .byte pa)), (.int (nar .byte pa)), (.int (nar .byte pa)), (.int (nar .byte pa)), (.int (nar .byte ps_)), (.int 0), (.int 0)] rfl (hc at_137) (.refl 138) ?_
  intro T998 h998 X998 e998 W998 V998
  have K998 := K997.wr W998 (Or.inr sz_b993)
  have N998 := Fr.snoc X998 N997 g_b993
  refine gD X998 hx (hc at_138) rfl (.refl 139) ?_
  refine gC (z := 5) X998 hx (hc at_139) rfl (.refl 140) ?_
  refine gL X998 hx (hc at_140) rfl (.refl 142) ?_
  refine gSB X998 hx hZ e998 V998 ⟨by decide, by decide⟩ 5 rfl (Nat.le_of_ble_eq_true rfl) [(.int (nar .byte pa)), (.int (nar .byte pa)), (.int (nar .byte pa)), (.int (nar .byte pa)), (.int (nar .byte ps_)), (.int (nar .byte pb)), (.int 0)] rfl (hc at_142) (.refl 143) ?_
  intro T999 h999 X999 e999 W999 V999
  have K999 := K998.wr W999 (Or.inr sz_b993)
  have N999 := Fr.snoc X999 N998 g_b993
  refine gD X999 hx (hc at_143) rfl (.refl 144) ?_
  refine gB (z := 6) X999 hx (hc at_144) rfl (.refl 146) ?_
  refine gL X999 hx (hc at_146) rfl (.refl 148) ?_
  refine gSB X999 hx hZ e999 V999 ⟨by decide, by decide⟩ 6 rfl (Nat.le_of_ble_eq_true rfl) [(.int (nar .byte pa)), (.int (nar .byte pa)), (.int (nar .byte pa)), (.int (nar .byte pa)), (.int (nar .byte ps_)), (.int (nar .byte pb)), (.int (nar .byte ps_))] rfl (hc at_148) (.refl 149) ?_
  intro T1000 h1000 X1000 e1000 W1000 V1000
  have K1000 := K999.wr W1000 (Or.inr sz_b993)
  have N1000 := Fr.snoc X1000 N999 g_b993
  have Va1001 : Arv Z h1000 b993 k993 .byte (7 : Int32) [(.int pa), (.int pa), (.int pa), (.int pa), (.int ps_), (.int pb), (.int ps_)] (.int 0) := by
    have q := V1000
    simp only [hna, hnb, hns] at q
    exact q
  refine gP 151 #[iv p1, iv p2, iv p3, iv p4, iv p5, iv ps_, iv vi, iv vj, iv vk, iv pa, iv pb, iv pcc, iv (Int32.ofNat cd), iv (Int32.ofNat nr), iv (Int32.ofNat nf), iv (Int32.ofNat nt), rv b993, .unset, .unset, .unset, .unset, .unset, .unset, .unset, .unset, .unset] [] (fun zt zk => XS.astore X1000.here hx rfl (hc at_149) rfl rfl (l' := _) rfl zk) ?_
  refine gC (z := 5) X1000 hx (hc at_151) rfl (.refl 152) ?_
  obtain ⟨T1002, h1002, k1002, X1002, e1002, E1002, A1002, st1002⟩ := newP X1000 hx hZ (ow hw 0 rfl) e1000 (g := (mkF m 152 #[iv p1, iv p2, iv p3, iv p4, iv p5, iv ps_, iv vi, iv vj, iv vk, iv pa, iv pb, iv pcc, iv (Int32.ofNat cd), iv (Int32.ofNat nr), iv (Int32.ofNat nf), iv (Int32.ofNat nt), rv b993, .unset, .unset, .unset, .unset, .unset, .unset, .unset, .unset, .unset] [(.int 5)])) rfl (hc at_152) rfl (by decide) (cap := 5) (by decide) (by decide) (by decide) (by decide)
  obtain ⟨b1002, g1002⟩ : ∃ z, z = h1000.size := ⟨_, rfl⟩
  rw [← g1002] at A1002 st1002
  have g_b1002 : n0 ≤ b1002 := Nat.le_trans (Nat.le_trans Z0 K1000.1) (Nat.le_of_eq g1002.symm)
  have sz_b1002 : h0.size ≤ b1002 := Nat.le_trans K1000.1 (Nat.le_of_eq g1002.symm)
  have ne1003 : b993 ≠ b1002 := Nat.ne_of_lt (Nat.lt_of_lt_of_le Va1001.lt (Nat.le_of_eq g1002.symm))
  have K1002 := K1000.ext E1002
  have V1002 : Arv Z h1002 b1002 k1002 .byte (5 : Int32) [(.int 0), (.int 0), (.int 0), (.int 0), (.int 0)] (.int 0) := (Arv.new A1002 (by decide)).pad (pad_rep [] (.int 0) 5)
  refine gT T1002 154 [(.ref b1002)] (fun zt zk => st1002 zt zk) ?_
  refine gD X1002 hx (hc at_154) rfl (.refl 155) ?_
  refine gC (z := 0) X1002 hx (hc at_155) rfl (.refl 156) ?_
  refine gL X1002 hx (hc at_156) rfl (.refl 158) ?_
  refine gSB X1002 hx hZ e1002 V1002 ⟨by decide, by decide⟩ 0 rfl (Nat.le_of_ble_eq_true rfl) [(.int (nar .byte ps_)), (.int 0), (.int 0), (.int 0), (.int 0)] rfl (hc at_158) (.refl 159) ?_
  intro T1004 h1004 X1004 e1004 W1004 V1004
  have K1004 := K1002.wr W1004 (Or.inr sz_b1002)
  have N1004 := Fr.snoc X1004 N1000 g_b1002
  refine gD X1004 hx (hc at_159) rfl (.refl 160) ?_
  refine gC (z := 1) X1004 hx (hc at_160) rfl (.refl 161) ?_
  refine gL X1004 hx (hc at_161) rfl (.refl 163) ?_
  refine gSB X1004 hx hZ e1004 V1004 ⟨by decide, by decide⟩ 1 rfl (Nat.le_of_ble_eq_true rfl) [(.int (nar .byte ps_)), (.int (nar .byte pa)), (.int 0), (.int 0), (.int 0)] rfl (hc at_163) (.refl 164) ?_
  intro T1005 h1005 X1005 e1005 W1005 V1005
  have K1005 := K1004.wr W1005 (Or.inr sz_b1002)
  have N1005 := Fr.snoc X1005 N1004 g_b1002
  refine gD X1005 hx (hc at_164) rfl (.refl 165) ?_
  refine gC (z := 2) X1005 hx (hc at_165) rfl (.refl 166) ?_
  refine gL X1005 hx (hc at_166) rfl (.refl 168) ?_
  refine gSB X1005 hx hZ e1005 V1005 ⟨by decide, by decide⟩ 2 rfl (Nat.le_of_ble_eq_true rfl) [(.int (nar .byte ps_)), (.int (nar .byte pa)), (.int (nar .byte ps_)), (.int 0), (.int 0)] rfl (hc at_168) (.refl 169) ?_
  intro T1006 h1006 X1006 e1006 W1006 V1006
  have K1006 := K1005.wr W1006 (Or.inr sz_b1002)
  have N1006 := Fr.snoc X1006 N1005 g_b1002
  refine gD X1006 hx (hc at_169) rfl (.refl 170) ?_
  refine gC (z := 3) X1006 hx (hc at_170) rfl (.refl 171) ?_
  refine gL X1006 hx (hc at_171) rfl (.refl 173) ?_
  refine gSB X1006 hx hZ e1006 V1006 ⟨by decide, by decide⟩ 3 rfl (Nat.le_of_ble_eq_true rfl) [(.int (nar .byte ps_)), (.int (nar .byte pa)), (.int (nar .byte ps_)), (.int (nar .byte pb)), (.int 0)] rfl (hc at_173) (.refl 174) ?_
  intro T1007 h1007 X1007 e1007 W1007 V1007
  have K1007 := K1006.wr W1007 (Or.inr sz_b1002)
  have N1007 := Fr.snoc X1007 N1006 g_b1002
  refine gD X1007 hx (hc at_174) rfl (.refl 175) ?_
  refine gC (z := 4) X1007 hx (hc at_175) rfl (.refl 176) ?_
  refine gL X1007 hx (hc at_176) rfl (.refl 178) ?_
  refine gSB X1007 hx hZ e1007 V1007 ⟨by decide, by decide⟩ 4 rfl (Nat.le_of_ble_eq_true rfl) [(.int (nar .byte ps_)), (.int (nar .byte pa)), (.int (nar .byte ps_)), (.int (nar .byte pb)), (.int (nar .byte ps_))] rfl (hc at_178) (.refl 179) ?_
  intro T1008 h1008 X1008 e1008 W1008 V1008
  have K1008 := K1007.wr W1008 (Or.inr sz_b1002)
  have N1008 := Fr.snoc X1008 N1007 g_b1002
  have Va1009 : Arv Z h1008 b1002 k1002 .byte (5 : Int32) [(.int ps_), (.int pa), (.int ps_), (.int pb), (.int ps_)] (.int 0) := by
    have q := V1008
    simp only [hna, hnb, hns] at q
    exact q
  refine gP 181 #[iv p1, iv p2, iv p3, iv p4, iv p5, iv ps_, iv vi, iv vj, iv vk, iv pa, iv pb, iv pcc, iv (Int32.ofNat cd), iv (Int32.ofNat nr), iv (Int32.ofNat nf), iv (Int32.ofNat nt), rv b993, rv b1002, .unset, .unset, .unset, .unset, .unset, .unset, .unset, .unset] [] (fun zt zk => XS.astore X1008.here hx rfl (hc at_179) rfl rfl (l' := _) rfl zk) ?_
  refine gC (z := 1) X1008 hx (hc at_181) rfl (.refl 182) ?_
  obtain ⟨T1010, h1010, k1010, X1010, e1010, E1010, A1010, st1010⟩ := newP X1008 hx hZ (ow hw 0 rfl) e1008 (g := (mkF m 182 #[iv p1, iv p2, iv p3, iv p4, iv p5, iv ps_, iv vi, iv vj, iv vk, iv pa, iv pb, iv pcc, iv (Int32.ofNat cd), iv (Int32.ofNat nr), iv (Int32.ofNat nf), iv (Int32.ofNat nt), rv b993, rv b1002, .unset, .unset, .unset, .unset, .unset, .unset, .unset, .unset] [(.int 1)])) rfl (hc at_182) rfl (by decide) (cap := 1) (by decide) (by decide) (by decide) (by decide)
  obtain ⟨b1010, g1010⟩ : ∃ z, z = h1008.size := ⟨_, rfl⟩
  rw [← g1010] at A1010 st1010
  have g_b1010 : n0 ≤ b1010 := Nat.le_trans (Nat.le_trans Z0 K1008.1) (Nat.le_of_eq g1010.symm)
  have sz_b1010 : h0.size ≤ b1010 := Nat.le_trans K1008.1 (Nat.le_of_eq g1010.symm)
  have f1011 := ((((((Va1001.ext E1002).other W1004 ne1003).other W1005 ne1003).other W1006 ne1003).other W1007 ne1003).other W1008 ne1003)
  have ne1012 : b993 ≠ b1010 := Nat.ne_of_lt (Nat.lt_of_lt_of_le f1011.lt (Nat.le_of_eq g1010.symm))
  have ne1013 : b1002 ≠ b1010 := Nat.ne_of_lt (Nat.lt_of_lt_of_le Va1009.lt (Nat.le_of_eq g1010.symm))
  have K1010 := K1008.ext E1010
  have V1010 : Arv Z h1010 b1010 k1010 .byte (1 : Int32) [(.int 0)] (.int 0) := (Arv.new A1010 (by decide)).pad (pad_rep [] (.int 0) 1)
  refine gT T1010 184 [(.ref b1010)] (fun zt zk => st1010 zt zk) ?_
  refine gD X1010 hx (hc at_184) rfl (.refl 185) ?_
  refine gC (z := 0) X1010 hx (hc at_185) rfl (.refl 186) ?_
  refine gL X1010 hx (hc at_186) rfl (.refl 188) ?_
  refine gSB X1010 hx hZ e1010 V1010 ⟨by decide, by decide⟩ 0 rfl (Nat.le_of_ble_eq_true rfl) [(.int (nar .byte pb))] rfl (hc at_188) (.refl 189) ?_
  intro T1014 h1014 X1014 e1014 W1014 V1014
  have K1014 := K1010.wr W1014 (Or.inr sz_b1010)
  have N1014 := Fr.snoc X1014 N1008 g_b1010
  have Va1015 : Arv Z h1014 b1010 k1010 .byte (1 : Int32) [(.int pb)] (.int 0) := by
    have q := V1014
    simp only [hnb] at q
    exact q
  refine gP 191 #[iv p1, iv p2, iv p3, iv p4, iv p5, iv ps_, iv vi, iv vj, iv vk, iv pa, iv pb, iv pcc, iv (Int32.ofNat cd), iv (Int32.ofNat nr), iv (Int32.ofNat nf), iv (Int32.ofNat nt), rv b993, rv b1002, rv b1010, .unset, .unset, .unset, .unset, .unset, .unset, .unset] [] (fun zt zk => XS.astore X1014.here hx rfl (hc at_189) rfl rfl (l' := _) rfl zk) ?_
  refine gB (z := 8) X1014 hx (hc at_191) rfl (.refl 193) ?_
  obtain ⟨T1016, h1016, k1016, X1016, e1016, E1016, A1016, st1016⟩ := newP X1014 hx hZ (ow hw 0 rfl) e1014 (g := (mkF m 193 #[iv p1, iv p2, iv p3, iv p4, iv p5, iv ps_, iv vi, iv vj, iv vk, iv pa, iv pb, iv pcc, iv (Int32.ofNat cd), iv (Int32.ofNat nr), iv (Int32.ofNat nf), iv (Int32.ofNat nt), rv b993, rv b1002, rv b1010, .unset, .unset, .unset, .unset, .unset, .unset, .unset] [(.int 8)])) rfl (hc at_193) rfl (by decide) (cap := 8) (by decide) (by decide) (by decide) (by decide)
  obtain ⟨b1016, g1016⟩ : ∃ z, z = h1014.size := ⟨_, rfl⟩
  rw [← g1016] at A1016 st1016
  have g_b1016 : n0 ≤ b1016 := Nat.le_trans (Nat.le_trans Z0 K1014.1) (Nat.le_of_eq g1016.symm)
  have sz_b1016 : h0.size ≤ b1016 := Nat.le_trans K1014.1 (Nat.le_of_eq g1016.symm)
  have f1017 := ((f1011.ext E1010).other W1014 ne1012)
  have ne1018 : b993 ≠ b1016 := Nat.ne_of_lt (Nat.lt_of_lt_of_le f1017.lt (Nat.le_of_eq g1016.symm))
  have f1019 := ((Va1009.ext E1010).other W1014 ne1013)
  have ne1020 : b1002 ≠ b1016 := Nat.ne_of_lt (Nat.lt_of_lt_of_le f1019.lt (Nat.le_of_eq g1016.symm))
  have ne1021 : b1010 ≠ b1016 := Nat.ne_of_lt (Nat.lt_of_lt_of_le Va1015.lt (Nat.le_of_eq g1016.symm))
  have K1016 := K1014.ext E1016
  have V1016 : Arv Z h1016 b1016 k1016 .byte (8 : Int32) [(.int 0), (.int 0), (.int 0), (.int 0), (.int 0), (.int 0), (.int 0), (.int 0)] (.int 0) := (Arv.new A1016 (by decide)).pad (pad_rep [] (.int 0) 8)
  refine gT T1016 195 [(.ref b1016)] (fun zt zk => st1016 zt zk) ?_
  refine gP 197 #[iv p1, iv p2, iv p3, iv p4, iv p5, iv ps_, iv vi, iv vj, iv vk, iv pa, iv pb, iv pcc, iv (Int32.ofNat cd), iv (Int32.ofNat nr), iv (Int32.ofNat nf), iv (Int32.ofNat nt), rv b993, rv b1002, rv b1010, rv b1016, .unset, .unset, .unset, .unset, .unset, .unset] [] (fun zt zk => XS.astore X1016.here hx rfl (hc at_195) rfl rfl (l' := _) rfl zk) ?_
  refine gA X1016 hx (hc at_197) rfl (.refl 199) ?_
  refine gC (z := 0) X1016 hx (hc at_199) rfl (.refl 200) ?_
  refine gLN X1016 hx (hc at_200) rfl (.refl 201) ?_
  refine gC (z := 0) X1016 hx (hc at_201) rfl (.refl 202) ?_
  refine gL X1016 hx (hc at_202) rfl (.refl 204) ?_
  refine gL X1016 hx (hc at_204) rfl (.refl 206) ?_
  refine gL X1016 hx (hc at_206) rfl (.refl 208) ?_
  refine gL X1016 hx (hc at_208) rfl (.refl 210) ?_
  obtain ⟨LX1022, XX1022, NX1022⟩ : ∃ LX, Stand p l e room_1 s m #[(.int p1), (.int p2), (.int p3), (.int p4), (.int p5)] below meth c T1016 LX 4 21 ∧ Fr n0 LX := ⟨_, X1016, N1014⟩
  obtain ⟨vr1023, _, ⟨T1023, L1023, k1023, n1023⟩, -, X1023, ⟨Lc1023, hQ1023, l1023, y1023, z1023⟩, st1023⟩ := Jvm.LawKit.callS XX1022 hx (y := Y13) hown (mvT hZ (ow hw 1 rfl)) (mvT hZ (ow hw 2 rfl)) (mvT hZ (ow hw 3 rfl)) (mvT hZ (ow hw 4 rfl)) (by decide) (backOf (W := 2) (rmPick l Z a0 hw p3 (0 : Int32) pa pb pcc ps_ h1016 n0 (Nat.le_trans Z0 K1016.1) hna hnb hnc hns) hZ (ow hw 4 rfl) (ow hw 3 rfl) (by decide) (by decide)) (g := (mkF m 210 #[iv p1, iv p2, iv p3, iv p4, iv p5, iv ps_, iv vi, iv vj, iv vk, iv pa, iv pb, iv pcc, iv (Int32.ofNat cd), iv (Int32.ofNat nr), iv (Int32.ofNat nf), iv (Int32.ofNat nt), rv b993, rv b1002, rv b1010, rv b1016, .unset, .unset, .unset, .unset, .unset, .unset] [(.int ps_), (.int pcc), (.int pb), (.int pa), (.int 0), (.int p3), (.int 0), (.ref b1016)])) rfl (by rw [hml]; rfl) (argsL := [(.int p3), (.int 0), (.int pa), (.int pb), (.int pcc), (.int ps_)]) (rest := [(.int 0), (.ref b1016)]) (lenOf pd_532e93a rfl) rfl (by show 2 * 0 + _ ≤ _; exact Nat.le_of_eq rfl) (hc at_210) (fun _ _ => ⟨rfl, e1016, (by decide : 4 + 0 ≤ _), (by decide : 21 + 0 ≤ _)⟩)
  dsimp only [Pt.U, Pt.locs, Pt.cells, Pt.slots] at X1023 l1023 y1023 z1023 st1023 hQ1023
  subst l1023 y1023 z1023
  obtain ⟨rfl, Nq1023, eq1023⟩ := hQ1023
  have NN1024 := Fr.app NX1022 Nq1023
  refine gT T1023 213 [(.int (own_pk (own_kd p3 (0 : Int32)) pa pb pcc ps_)), (.int 0), (.ref b1016)] (fun zt zk => st1023 zt zk) ?_
  refine gSB X1023 hx hZ eq1023 V1016 ⟨by decide, by decide⟩ 0 rfl (Nat.le_of_ble_eq_true rfl) [(.int (nar .byte (own_pk (own_kd p3 (0 : Int32)) pa pb pcc ps_))), (.int 0), (.int 0), (.int 0), (.int 0), (.int 0), (.int 0), (.int 0)] rfl (hc at_213) (.refl 214) ?_
  intro T1025 h1025 X1025 e1025 W1025 V1025
  have K1025 := K1016.wr W1025 (Or.inr sz_b1016)
  have N1025 := Fr.snoc X1025 NN1024 g_b1016
  refine gA X1025 hx (hc at_214) rfl (.refl 216) ?_
  refine gC (z := 1) X1025 hx (hc at_216) rfl (.refl 217) ?_
  refine gLN X1025 hx (hc at_217) rfl (.refl 218) ?_
  refine gC (z := 1) X1025 hx (hc at_218) rfl (.refl 219) ?_
  refine gL X1025 hx (hc at_219) rfl (.refl 221) ?_
  refine gL X1025 hx (hc at_221) rfl (.refl 223) ?_
  refine gL X1025 hx (hc at_223) rfl (.refl 225) ?_
  refine gL X1025 hx (hc at_225) rfl (.refl 227) ?_
  obtain ⟨vr1026, _, ⟨T1026, L1026, k1026, n1026⟩, -, X1026, ⟨Lc1026, hQ1026, l1026, y1026, z1026⟩, st1026⟩ := Jvm.LawKit.callS X1025 hx (y := Y13) hown (mvT hZ (ow hw 1 rfl)) (mvT hZ (ow hw 2 rfl)) (mvT hZ (ow hw 3 rfl)) (mvT hZ (ow hw 4 rfl)) (by decide) (backOf (W := 2) (rmPick l Z a0 hw p3 (1 : Int32) pa pb pcc ps_ h1025 n0 (Nat.le_trans Z0 K1025.1) hna hnb hnc hns) hZ (ow hw 4 rfl) (ow hw 3 rfl) (by decide) (by decide)) (g := (mkF m 227 #[iv p1, iv p2, iv p3, iv p4, iv p5, iv ps_, iv vi, iv vj, iv vk, iv pa, iv pb, iv pcc, iv (Int32.ofNat cd), iv (Int32.ofNat nr), iv (Int32.ofNat nf), iv (Int32.ofNat nt), rv b993, rv b1002, rv b1010, rv b1016, .unset, .unset, .unset, .unset, .unset, .unset] [(.int ps_), (.int pcc), (.int pb), (.int pa), (.int 1), (.int p3), (.int 1), (.ref b1016)])) rfl (by rw [hml]; rfl) (argsL := [(.int p3), (.int 1), (.int pa), (.int pb), (.int pcc), (.int ps_)]) (rest := [(.int 1), (.ref b1016)]) (lenOf pd_532e93a rfl) rfl (by show 2 * 0 + _ ≤ _; exact Nat.le_of_eq rfl) (hc at_227) (fun _ _ => ⟨rfl, e1025, (by decide : 4 + 0 ≤ _), (by decide : 21 + 0 ≤ _)⟩)
  dsimp only [Pt.U, Pt.locs, Pt.cells, Pt.slots] at X1026 l1026 y1026 z1026 st1026 hQ1026
  subst l1026 y1026 z1026
  obtain ⟨rfl, Nq1026, eq1026⟩ := hQ1026
  have NN1027 := Fr.app N1025 Nq1026
  refine gT T1026 230 [(.int (own_pk (own_kd p3 (1 : Int32)) pa pb pcc ps_)), (.int 1), (.ref b1016)] (fun zt zk => st1026 zt zk) ?_
  refine gSB X1026 hx hZ eq1026 V1025 ⟨by decide, by decide⟩ 1 rfl (Nat.le_of_ble_eq_true rfl) [(.int (nar .byte (own_pk (own_kd p3 (0 : Int32)) pa pb pcc ps_))), (.int (nar .byte (own_pk (own_kd p3 (1 : Int32)) pa pb pcc ps_))), (.int 0), (.int 0), (.int 0), (.int 0), (.int 0), (.int 0)] rfl (hc at_230) (.refl 231) ?_
  intro T1028 h1028 X1028 e1028 W1028 V1028
  have K1028 := K1025.wr W1028 (Or.inr sz_b1016)
  have N1028 := Fr.snoc X1028 NN1027 g_b1016
  refine gA X1028 hx (hc at_231) rfl (.refl 233) ?_
  refine gC (z := 2) X1028 hx (hc at_233) rfl (.refl 234) ?_
  refine gLN X1028 hx (hc at_234) rfl (.refl 235) ?_
  refine gC (z := 2) X1028 hx (hc at_235) rfl (.refl 236) ?_
  refine gL X1028 hx (hc at_236) rfl (.refl 238) ?_
  refine gL X1028 hx (hc at_238) rfl (.refl 240) ?_
  refine gL X1028 hx (hc at_240) rfl (.refl 242) ?_
  refine gL X1028 hx (hc at_242) rfl (.refl 244) ?_
  obtain ⟨vr1029, _, ⟨T1029, L1029, k1029, n1029⟩, -, X1029, ⟨Lc1029, hQ1029, l1029, y1029, z1029⟩, st1029⟩ := Jvm.LawKit.callS X1028 hx (y := Y13) hown (mvT hZ (ow hw 1 rfl)) (mvT hZ (ow hw 2 rfl)) (mvT hZ (ow hw 3 rfl)) (mvT hZ (ow hw 4 rfl)) (by decide) (backOf (W := 2) (rmPick l Z a0 hw p3 (2 : Int32) pa pb pcc ps_ h1028 n0 (Nat.le_trans Z0 K1028.1) hna hnb hnc hns) hZ (ow hw 4 rfl) (ow hw 3 rfl) (by decide) (by decide)) (g := (mkF m 244 #[iv p1, iv p2, iv p3, iv p4, iv p5, iv ps_, iv vi, iv vj, iv vk, iv pa, iv pb, iv pcc, iv (Int32.ofNat cd), iv (Int32.ofNat nr), iv (Int32.ofNat nf), iv (Int32.ofNat nt), rv b993, rv b1002, rv b1010, rv b1016, .unset, .unset, .unset, .unset, .unset, .unset] [(.int ps_), (.int pcc), (.int pb), (.int pa), (.int 2), (.int p3), (.int 2), (.ref b1016)])) rfl (by rw [hml]; rfl) (argsL := [(.int p3), (.int 2), (.int pa), (.int pb), (.int pcc), (.int ps_)]) (rest := [(.int 2), (.ref b1016)]) (lenOf pd_532e93a rfl) rfl (by show 2 * 0 + _ ≤ _; exact Nat.le_of_eq rfl) (hc at_244) (fun _ _ => ⟨rfl, e1028, (by decide : 4 + 0 ≤ _), (by decide : 21 + 0 ≤ _)⟩)
  dsimp only [Pt.U, Pt.locs, Pt.cells, Pt.slots] at X1029 l1029 y1029 z1029 st1029 hQ1029
  subst l1029 y1029 z1029
  obtain ⟨rfl, Nq1029, eq1029⟩ := hQ1029
  have NN1030 := Fr.app N1028 Nq1029
  refine gT T1029 247 [(.int (own_pk (own_kd p3 (2 : Int32)) pa pb pcc ps_)), (.int 2), (.ref b1016)] (fun zt zk => st1029 zt zk) ?_
  refine gSB X1029 hx hZ eq1029 V1028 ⟨by decide, by decide⟩ 2 rfl (Nat.le_of_ble_eq_true rfl) [(.int (nar .byte (own_pk (own_kd p3 (0 : Int32)) pa pb pcc ps_))), (.int (nar .byte (own_pk (own_kd p3 (1 : Int32)) pa pb pcc ps_))), (.int (nar .byte (own_pk (own_kd p3 (2 : Int32)) pa pb pcc ps_))), (.int 0), (.int 0), (.int 0), (.int 0), (.int 0)] rfl (hc at_247) (.refl 248) ?_
  intro T1031 h1031 X1031 e1031 W1031 V1031
  have K1031 := K1028.wr W1031 (Or.inr sz_b1016)
  have N1031 := Fr.snoc X1031 NN1030 g_b1016
  refine gA X1031 hx (hc at_248) rfl (.refl 250) ?_
  refine gC (z := 3) X1031 hx (hc at_250) rfl (.refl 251) ?_
  refine gLN X1031 hx (hc at_251) rfl (.refl 252) ?_
  refine gC (z := 3) X1031 hx (hc at_252) rfl (.refl 253) ?_
  refine gL X1031 hx (hc at_253) rfl (.refl 255) ?_
  refine gL X1031 hx (hc at_255) rfl (.refl 257) ?_
  refine gL X1031 hx (hc at_257) rfl (.refl 259) ?_
  refine gL X1031 hx (hc at_259) rfl (.refl 261) ?_
  obtain ⟨vr1032, _, ⟨T1032, L1032, k1032, n1032⟩, -, X1032, ⟨Lc1032, hQ1032, l1032, y1032, z1032⟩, st1032⟩ := Jvm.LawKit.callS X1031 hx (y := Y13) hown (mvT hZ (ow hw 1 rfl)) (mvT hZ (ow hw 2 rfl)) (mvT hZ (ow hw 3 rfl)) (mvT hZ (ow hw 4 rfl)) (by decide) (backOf (W := 2) (rmPick l Z a0 hw p3 (3 : Int32) pa pb pcc ps_ h1031 n0 (Nat.le_trans Z0 K1031.1) hna hnb hnc hns) hZ (ow hw 4 rfl) (ow hw 3 rfl) (by decide) (by decide)) (g := (mkF m 261 #[iv p1, iv p2, iv p3, iv p4, iv p5, iv ps_, iv vi, iv vj, iv vk, iv pa, iv pb, iv pcc, iv (Int32.ofNat cd), iv (Int32.ofNat nr), iv (Int32.ofNat nf), iv (Int32.ofNat nt), rv b993, rv b1002, rv b1010, rv b1016, .unset, .unset, .unset, .unset, .unset, .unset] [(.int ps_), (.int pcc), (.int pb), (.int pa), (.int 3), (.int p3), (.int 3), (.ref b1016)])) rfl (by rw [hml]; rfl) (argsL := [(.int p3), (.int 3), (.int pa), (.int pb), (.int pcc), (.int ps_)]) (rest := [(.int 3), (.ref b1016)]) (lenOf pd_532e93a rfl) rfl (by show 2 * 0 + _ ≤ _; exact Nat.le_of_eq rfl) (hc at_261) (fun _ _ => ⟨rfl, e1031, (by decide : 4 + 0 ≤ _), (by decide : 21 + 0 ≤ _)⟩)
  dsimp only [Pt.U, Pt.locs, Pt.cells, Pt.slots] at X1032 l1032 y1032 z1032 st1032 hQ1032
  subst l1032 y1032 z1032
  obtain ⟨rfl, Nq1032, eq1032⟩ := hQ1032
  have NN1033 := Fr.app N1031 Nq1032
  refine gT T1032 264 [(.int (own_pk (own_kd p3 (3 : Int32)) pa pb pcc ps_)), (.int 3), (.ref b1016)] (fun zt zk => st1032 zt zk) ?_
  refine gSB X1032 hx hZ eq1032 V1031 ⟨by decide, by decide⟩ 3 rfl (Nat.le_of_ble_eq_true rfl) [(.int (nar .byte (own_pk (own_kd p3 (0 : Int32)) pa pb pcc ps_))), (.int (nar .byte (own_pk (own_kd p3 (1 : Int32)) pa pb pcc ps_))), (.int (nar .byte (own_pk (own_kd p3 (2 : Int32)) pa pb pcc ps_))), (.int (nar .byte (own_pk (own_kd p3 (3 : Int32)) pa pb pcc ps_))), (.int 0), (.int 0), (.int 0), (.int 0)] rfl (hc at_264) (.refl 265) ?_
  intro T1034 h1034 X1034 e1034 W1034 V1034
  have K1034 := K1031.wr W1034 (Or.inr sz_b1016)
  have N1034 := Fr.snoc X1034 NN1033 g_b1016
  refine gA X1034 hx (hc at_265) rfl (.refl 267) ?_
  refine gC (z := 4) X1034 hx (hc at_267) rfl (.refl 268) ?_
  refine gLN X1034 hx (hc at_268) rfl (.refl 269) ?_
  refine gC (z := 4) X1034 hx (hc at_269) rfl (.refl 270) ?_
  refine gL X1034 hx (hc at_270) rfl (.refl 272) ?_
  refine gL X1034 hx (hc at_272) rfl (.refl 274) ?_
  refine gL X1034 hx (hc at_274) rfl (.refl 276) ?_
  refine gL X1034 hx (hc at_276) rfl (.refl 278) ?_
  obtain ⟨LX1035, XX1035, NX1035⟩ : ∃ LX, Stand p l e room_1 s m #[(.int p1), (.int p2), (.int p3), (.int p4), (.int p5)] below meth c T1034 LX 4 21 ∧ Fr n0 LX := ⟨_, X1034, N1034⟩
  obtain ⟨vr1036, _, ⟨T1036, L1036, k1036, n1036⟩, -, X1036, ⟨Lc1036, hQ1036, l1036, y1036, z1036⟩, st1036⟩ := Jvm.LawKit.callS XX1035 hx (y := Y13) hown (mvT hZ (ow hw 1 rfl)) (mvT hZ (ow hw 2 rfl)) (mvT hZ (ow hw 3 rfl)) (mvT hZ (ow hw 4 rfl)) (by decide) (backOf (W := 2) (rmPick l Z a0 hw p3 (4 : Int32) pa pb pcc ps_ h1034 n0 (Nat.le_trans Z0 K1034.1) hna hnb hnc hns) hZ (ow hw 4 rfl) (ow hw 3 rfl) (by decide) (by decide)) (g := (mkF m 278 #[iv p1, iv p2, iv p3, iv p4, iv p5, iv ps_, iv vi, iv vj, iv vk, iv pa, iv pb, iv pcc, iv (Int32.ofNat cd), iv (Int32.ofNat nr), iv (Int32.ofNat nf), iv (Int32.ofNat nt), rv b993, rv b1002, rv b1010, rv b1016, .unset, .unset, .unset, .unset, .unset, .unset] [(.int ps_), (.int pcc), (.int pb), (.int pa), (.int 4), (.int p3), (.int 4), (.ref b1016)])) rfl (by rw [hml]; rfl) (argsL := [(.int p3), (.int 4), (.int pa), (.int pb), (.int pcc), (.int ps_)]) (rest := [(.int 4), (.ref b1016)]) (lenOf pd_532e93a rfl) rfl (by show 2 * 0 + _ ≤ _; exact Nat.le_of_eq rfl) (hc at_278) (fun _ _ => ⟨rfl, e1034, (by decide : 4 + 0 ≤ _), (by decide : 21 + 0 ≤ _)⟩)
  dsimp only [Pt.U, Pt.locs, Pt.cells, Pt.slots] at X1036 l1036 y1036 z1036 st1036 hQ1036
  subst l1036 y1036 z1036
  obtain ⟨rfl, Nq1036, eq1036⟩ := hQ1036
  have NN1037 := Fr.app NX1035 Nq1036
  refine gT T1036 281 [(.int (own_pk (own_kd p3 (4 : Int32)) pa pb pcc ps_)), (.int 4), (.ref b1016)] (fun zt zk => st1036 zt zk) ?_
  refine gSB X1036 hx hZ eq1036 V1034 ⟨by decide, by decide⟩ 4 rfl (Nat.le_of_ble_eq_true rfl) [(.int (nar .byte (own_pk (own_kd p3 (0 : Int32)) pa pb pcc ps_))), (.int (nar .byte (own_pk (own_kd p3 (1 : Int32)) pa pb pcc ps_))), (.int (nar .byte (own_pk (own_kd p3 (2 : Int32)) pa pb pcc ps_))), (.int (nar .byte (own_pk (own_kd p3 (3 : Int32)) pa pb pcc ps_))), (.int (nar .byte (own_pk (own_kd p3 (4 : Int32)) pa pb pcc ps_))), (.int 0), (.int 0), (.int 0)] rfl (hc at_281) (.refl 282) ?_
  intro T1038 h1038 X1038 e1038 W1038 V1038
  have K1038 := K1034.wr W1038 (Or.inr sz_b1016)
  have N1038 := Fr.snoc X1038 NN1037 g_b1016
  refine gA X1038 hx (hc at_282) rfl (.refl 284) ?_
  refine gC (z := 5) X1038 hx (hc at_284) rfl (.refl 285) ?_
  refine gLN X1038 hx (hc at_285) rfl (.refl 286) ?_
  refine gC (z := 5) X1038 hx (hc at_286) rfl (.refl 287) ?_
  refine gL X1038 hx (hc at_287) rfl (.refl 289) ?_
  refine gL X1038 hx (hc at_289) rfl (.refl 291) ?_
  refine gL X1038 hx (hc at_291) rfl (.refl 293) ?_
  refine gL X1038 hx (hc at_293) rfl (.refl 295) ?_
  obtain ⟨vr1039, _, ⟨T1039, L1039, k1039, n1039⟩, -, X1039, ⟨Lc1039, hQ1039, l1039, y1039, z1039⟩, st1039⟩ := Jvm.LawKit.callS X1038 hx (y := Y13) hown (mvT hZ (ow hw 1 rfl)) (mvT hZ (ow hw 2 rfl)) (mvT hZ (ow hw 3 rfl)) (mvT hZ (ow hw 4 rfl)) (by decide) (backOf (W := 2) (rmPick l Z a0 hw p3 (5 : Int32) pa pb pcc ps_ h1038 n0 (Nat.le_trans Z0 K1038.1) hna hnb hnc hns) hZ (ow hw 4 rfl) (ow hw 3 rfl) (by decide) (by decide)) (g := (mkF m 295 #[iv p1, iv p2, iv p3, iv p4, iv p5, iv ps_, iv vi, iv vj, iv vk, iv pa, iv pb, iv pcc, iv (Int32.ofNat cd), iv (Int32.ofNat nr), iv (Int32.ofNat nf), iv (Int32.ofNat nt), rv b993, rv b1002, rv b1010, rv b1016, .unset, .unset, .unset, .unset, .unset, .unset] [(.int ps_), (.int pcc), (.int pb), (.int pa), (.int 5), (.int p3), (.int 5), (.ref b1016)])) rfl (by rw [hml]; rfl) (argsL := [(.int p3), (.int 5), (.int pa), (.int pb), (.int pcc), (.int ps_)]) (rest := [(.int 5), (.ref b1016)]) (lenOf pd_532e93a rfl) rfl (by show 2 * 0 + _ ≤ _; exact Nat.le_of_eq rfl) (hc at_295) (fun _ _ => ⟨rfl, e1038, (by decide : 4 + 0 ≤ _), (by decide : 21 + 0 ≤ _)⟩)
  dsimp only [Pt.U, Pt.locs, Pt.cells, Pt.slots] at X1039 l1039 y1039 z1039 st1039 hQ1039
  subst l1039 y1039 z1039
  obtain ⟨rfl, Nq1039, eq1039⟩ := hQ1039
  have NN1040 := Fr.app N1038 Nq1039
  refine gT T1039 298 [(.int (own_pk (own_kd p3 (5 : Int32)) pa pb pcc ps_)), (.int 5), (.ref b1016)] (fun zt zk => st1039 zt zk) ?_
  refine gSB X1039 hx hZ eq1039 V1038 ⟨by decide, by decide⟩ 5 rfl (Nat.le_of_ble_eq_true rfl) [(.int (nar .byte (own_pk (own_kd p3 (0 : Int32)) pa pb pcc ps_))), (.int (nar .byte (own_pk (own_kd p3 (1 : Int32)) pa pb pcc ps_))), (.int (nar .byte (own_pk (own_kd p3 (2 : Int32)) pa pb pcc ps_))), (.int (nar .byte (own_pk (own_kd p3 (3 : Int32)) pa pb pcc ps_))), (.int (nar .byte (own_pk (own_kd p3 (4 : Int32)) pa pb pcc ps_))), (.int (nar .byte (own_pk (own_kd p3 (5 : Int32)) pa pb pcc ps_))), (.int 0), (.int 0)] rfl (hc at_298) (.refl 299) ?_
  intro T1041 h1041 X1041 e1041 W1041 V1041
  have K1041 := K1038.wr W1041 (Or.inr sz_b1016)
  have N1041 := Fr.snoc X1041 NN1040 g_b1016
  refine gA X1041 hx (hc at_299) rfl (.refl 301) ?_
  refine gB (z := 6) X1041 hx (hc at_301) rfl (.refl 303) ?_
  refine gLN X1041 hx (hc at_303) rfl (.refl 304) ?_
  refine gB (z := 6) X1041 hx (hc at_304) rfl (.refl 306) ?_
  refine gL X1041 hx (hc at_306) rfl (.refl 308) ?_
  refine gL X1041 hx (hc at_308) rfl (.refl 310) ?_
  refine gL X1041 hx (hc at_310) rfl (.refl 312) ?_
  refine gL X1041 hx (hc at_312) rfl (.refl 314) ?_
  obtain ⟨vr1042, _, ⟨T1042, L1042, k1042, n1042⟩, -, X1042, ⟨Lc1042, hQ1042, l1042, y1042, z1042⟩, st1042⟩ := Jvm.LawKit.callS X1041 hx (y := Y13) hown (mvT hZ (ow hw 1 rfl)) (mvT hZ (ow hw 2 rfl)) (mvT hZ (ow hw 3 rfl)) (mvT hZ (ow hw 4 rfl)) (by decide) (backOf (W := 2) (rmPick l Z a0 hw p3 (6 : Int32) pa pb pcc ps_ h1041 n0 (Nat.le_trans Z0 K1041.1) hna hnb hnc hns) hZ (ow hw 4 rfl) (ow hw 3 rfl) (by decide) (by decide)) (g := (mkF m 314 #[iv p1, iv p2, iv p3, iv p4, iv p5, iv ps_, iv vi, iv vj, iv vk, iv pa, iv pb, iv pcc, iv (Int32.ofNat cd), iv (Int32.ofNat nr), iv (Int32.ofNat nf), iv (Int32.ofNat nt), rv b993, rv b1002, rv b1010, rv b1016, .unset, .unset, .unset, .unset, .unset, .unset] [(.int ps_), (.int pcc), (.int pb), (.int pa), (.int 6), (.int p3), (.int 6), (.ref b1016)])) rfl (by rw [hml]; rfl) (argsL := [(.int p3), (.int 6), (.int pa), (.int pb), (.int pcc), (.int ps_)]) (rest := [(.int 6), (.ref b1016)]) (lenOf pd_532e93a rfl) rfl (by show 2 * 0 + _ ≤ _; exact Nat.le_of_eq rfl) (hc at_314) (fun _ _ => ⟨rfl, e1041, (by decide : 4 + 0 ≤ _), (by decide : 21 + 0 ≤ _)⟩)
  dsimp only [Pt.U, Pt.locs, Pt.cells, Pt.slots] at X1042 l1042 y1042 z1042 st1042 hQ1042
  subst l1042 y1042 z1042
  obtain ⟨rfl, Nq1042, eq1042⟩ := hQ1042
  have NN1043 := Fr.app N1041 Nq1042
  refine gT T1042 317 [(.int (own_pk (own_kd p3 (6 : Int32)) pa pb pcc ps_)), (.int 6), (.ref b1016)] (fun zt zk => st1042 zt zk) ?_
  refine gSB X1042 hx hZ eq1042 V1041 ⟨by decide, by decide⟩ 6 rfl (Nat.le_of_ble_eq_true rfl) [(.int (nar .byte (own_pk (own_kd p3 (0 : Int32)) pa pb pcc ps_))), (.int (nar .byte (own_pk (own_kd p3 (1 : Int32)) pa pb pcc ps_))), (.int (nar .byte (own_pk (own_kd p3 (2 : Int32)) pa pb pcc ps_))), (.int (nar .byte (own_pk (own_kd p3 (3 : Int32)) pa pb pcc ps_))), (.int (nar .byte (own_pk (own_kd p3 (4 : Int32)) pa pb pcc ps_))), (.int (nar .byte (own_pk (own_kd p3 (5 : Int32)) pa pb pcc ps_))), (.int (nar .byte (own_pk (own_kd p3 (6 : Int32)) pa pb pcc ps_))), (.int 0)] rfl (hc at_317) (.refl 318) ?_
  intro T1044 h1044 X1044 e1044 W1044 V1044
  have K1044 := K1041.wr W1044 (Or.inr sz_b1016)
  have N1044 := Fr.snoc X1044 NN1043 g_b1016
  refine gA X1044 hx (hc at_318) rfl (.refl 320) ?_
  refine gB (z := 7) X1044 hx (hc at_320) rfl (.refl 322) ?_
  refine gLN X1044 hx (hc at_322) rfl (.refl 323) ?_
  refine gB (z := 7) X1044 hx (hc at_323) rfl (.refl 325) ?_
  refine gL X1044 hx (hc at_325) rfl (.refl 327) ?_
  refine gL X1044 hx (hc at_327) rfl (.refl 329) ?_
  refine gL X1044 hx (hc at_329) rfl (.refl 331) ?_
  refine gL X1044 hx (hc at_331) rfl (.refl 333) ?_
  obtain ⟨vr1045, _, ⟨T1045, L1045, k1045, n1045⟩, -, X1045, ⟨Lc1045, hQ1045, l1045, y1045, z1045⟩, st1045⟩ := Jvm.LawKit.callS X1044 hx (y := Y13) hown (mvT hZ (ow hw 1 rfl)) (mvT hZ (ow hw 2 rfl)) (mvT hZ (ow hw 3 rfl)) (mvT hZ (ow hw 4 rfl)) (by decide) (backOf (W := 2) (rmPick l Z a0 hw p3 (7 : Int32) pa pb pcc ps_ h1044 n0 (Nat.le_trans Z0 K1044.1) hna hnb hnc hns) hZ (ow hw 4 rfl) (ow hw 3 rfl) (by decide) (by decide)) (g := (mkF m 333 #[iv p1, iv p2, iv p3, iv p4, iv p5, iv ps_, iv vi, iv vj, iv vk, iv pa, iv pb, iv pcc, iv (Int32.ofNat cd), iv (Int32.ofNat nr), iv (Int32.ofNat nf), iv (Int32.ofNat nt), rv b993, rv b1002, rv b1010, rv b1016, .unset, .unset, .unset, .unset, .unset, .unset] [(.int ps_), (.int pcc), (.int pb), (.int pa), (.int 7), (.int p3), (.int 7), (.ref b1016)])) rfl (by rw [hml]; rfl) (argsL := [(.int p3), (.int 7), (.int pa), (.int pb), (.int pcc), (.int ps_)]) (rest := [(.int 7), (.ref b1016)]) (lenOf pd_532e93a rfl) rfl (by show 2 * 0 + _ ≤ _; exact Nat.le_of_eq rfl) (hc at_333) (fun _ _ => ⟨rfl, e1044, (by decide : 4 + 0 ≤ _), (by decide : 21 + 0 ≤ _)⟩)
  dsimp only [Pt.U, Pt.locs, Pt.cells, Pt.slots] at X1045 l1045 y1045 z1045 st1045 hQ1045
  subst l1045 y1045 z1045
  obtain ⟨rfl, Nq1045, eq1045⟩ := hQ1045
  have NN1046 := Fr.app N1044 Nq1045
  refine gT T1045 336 [(.int (own_pk (own_kd p3 (7 : Int32)) pa pb pcc ps_)), (.int 7), (.ref b1016)] (fun zt zk => st1045 zt zk) ?_
  refine gSB X1045 hx hZ eq1045 V1044 ⟨by decide, by decide⟩ 7 rfl (Nat.le_of_ble_eq_true rfl) [(.int (nar .byte (own_pk (own_kd p3 (0 : Int32)) pa pb pcc ps_))), (.int (nar .byte (own_pk (own_kd p3 (1 : Int32)) pa pb pcc ps_))), (.int (nar .byte (own_pk (own_kd p3 (2 : Int32)) pa pb pcc ps_))), (.int (nar .byte (own_pk (own_kd p3 (3 : Int32)) pa pb pcc ps_))), (.int (nar .byte (own_pk (own_kd p3 (4 : Int32)) pa pb pcc ps_))), (.int (nar .byte (own_pk (own_kd p3 (5 : Int32)) pa pb pcc ps_))), (.int (nar .byte (own_pk (own_kd p3 (6 : Int32)) pa pb pcc ps_))), (.int (nar .byte (own_pk (own_kd p3 (7 : Int32)) pa pb pcc ps_)))] rfl (hc at_336) (.refl 337) ?_
  intro T1047 h1047 X1047 e1047 W1047 V1047
  have K1047 := K1044.wr W1047 (Or.inr sz_b1016)
  have N1047 := Fr.snoc X1047 NN1046 g_b1016
  have Vl1048 : Arv Z h1047 b1016 k1016 .byte (8 : Int32) (own_ar (own_lf p3 pa pb pcc ps_) 8) (.int 0) := by
    have q := V1047
    simp only [own_pkn hna hnb hnc hns] at q
    rw [own_ln8]
    exact q
  refine gC (z := 3) X1047 hx (hc at_337) rfl (.refl 338) ?_
  obtain ⟨T1049, h1049, k1049, X1049, e1049, E1049, A1049, st1049⟩ := newP X1047 hx hZ (ow hw 5 rfl) e1047 (g := (mkF m 338 #[iv p1, iv p2, iv p3, iv p4, iv p5, iv ps_, iv vi, iv vj, iv vk, iv pa, iv pb, iv pcc, iv (Int32.ofNat cd), iv (Int32.ofNat nr), iv (Int32.ofNat nf), iv (Int32.ofNat nt), rv b993, rv b1002, rv b1010, rv b1016, .unset, .unset, .unset, .unset, .unset, .unset] [(.int 3)])) rfl (hc at_338) rfl (by decide) (cap := 3) (by decide) (by decide) (by decide) (by decide)
  obtain ⟨b1049, g1049⟩ : ∃ z, z = h1047.size := ⟨_, rfl⟩
  rw [← g1049] at A1049 st1049
  have g_b1049 : n0 ≤ b1049 := Nat.le_trans (Nat.le_trans Z0 K1047.1) (Nat.le_of_eq g1049.symm)
  have sz_b1049 : h0.size ≤ b1049 := Nat.le_trans K1047.1 (Nat.le_of_eq g1049.symm)
  have f1050 := (((((((((f1017.ext E1016).other W1025 ne1018).other W1028 ne1018).other W1031 ne1018).other W1034 ne1018).other W1038 ne1018).other W1041 ne1018).other W1044 ne1018).other W1047 ne1018)
  have ne1051 : b993 ≠ b1049 := Nat.ne_of_lt (Nat.lt_of_lt_of_le f1050.lt (Nat.le_of_eq g1049.symm))
  have f1052 := (((((((((f1019.ext E1016).other W1025 ne1020).other W1028 ne1020).other W1031 ne1020).other W1034 ne1020).other W1038 ne1020).other W1041 ne1020).other W1044 ne1020).other W1047 ne1020)
  have ne1053 : b1002 ≠ b1049 := Nat.ne_of_lt (Nat.lt_of_lt_of_le f1052.lt (Nat.le_of_eq g1049.symm))
  have f1054 := (((((((((Va1015.ext E1016).other W1025 ne1021).other W1028 ne1021).other W1031 ne1021).other W1034 ne1021).other W1038 ne1021).other W1041 ne1021).other W1044 ne1021).other W1047 ne1021)
  have ne1055 : b1010 ≠ b1049 := Nat.ne_of_lt (Nat.lt_of_lt_of_le f1054.lt (Nat.le_of_eq g1049.symm))
  have ne1056 : b1016 ≠ b1049 := Nat.ne_of_lt (Nat.lt_of_lt_of_le Vl1048.lt (Nat.le_of_eq g1049.symm))
  have K1049 := K1047.ext E1049
  have V1049 : Arv Z h1049 b1049 k1049 .int (3 : Int32) [(.int 0), (.int 0), (.int 0)] (.int 0) := (Arv.new A1049 (by decide)).pad (pad_rep [] (.int 0) 3)
  refine gT T1049 340 [(.ref b1049)] (fun zt zk => st1049 zt zk) ?_
  refine gP 342 #[iv p1, iv p2, iv p3, iv p4, iv p5, iv ps_, iv vi, iv vj, iv vk, iv pa, iv pb, iv pcc, iv (Int32.ofNat cd), iv (Int32.ofNat nr), iv (Int32.ofNat nf), iv (Int32.ofNat nt), rv b993, rv b1002, rv b1010, rv b1016, rv b1049, .unset, .unset, .unset, .unset, .unset] [] (fun zt zk => XS.astore X1049.here hx rfl (hc at_340) rfl rfl (l' := _) rfl zk) ?_
  have f1057 := (f1050.ext E1049)
  have f1058 := (f1052.ext E1049)
  have f1059 := (f1054.ext E1049)
  have f1060 := (Vl1048.ext E1049)
  obtain ⟨T1061, h1061, X1061, e1061, E1061, A1061, D1061, U1061, st1061⟩ := newO X1049 hx hZ hown (ow hw 6 rfl) (ow hw 7 rfl) (ow hw 8 rfl) e1049 (g := (mkF m 342 #[iv p1, iv p2, iv p3, iv p4, iv p5, iv ps_, iv vi, iv vj, iv vk, iv pa, iv pb, iv pcc, iv (Int32.ofNat cd), iv (Int32.ofNat nr), iv (Int32.ofNat nf), iv (Int32.ofNat nt), rv b993, rv b1002, rv b1010, rv b1016, rv b1049, .unset, .unset, .unset, .unset, .unset] [])) rfl (hc at_342) (by decide) (by decide)
  obtain ⟨b1061, g1061⟩ : ∃ z, z = h1049.size := ⟨_, rfl⟩
  rw [← g1061] at A1061 D1061 U1061 st1061
  have g_b1061 : n0 ≤ b1061 := Nat.le_trans (Nat.le_trans Z0 K1049.1) (Nat.le_of_eq g1061.symm)
  have sz_b1061 : h0.size ≤ b1061 := Nat.le_trans K1049.1 (Nat.le_of_eq g1061.symm)
  have ne1062 : b993 ≠ b1061 := Nat.ne_of_lt (Nat.lt_of_lt_of_le f1057.lt (Nat.le_of_eq g1061.symm))
  have ne1063 : b1002 ≠ b1061 := Nat.ne_of_lt (Nat.lt_of_lt_of_le f1058.lt (Nat.le_of_eq g1061.symm))
  have ne1064 : b1010 ≠ b1061 := Nat.ne_of_lt (Nat.lt_of_lt_of_le f1059.lt (Nat.le_of_eq g1061.symm))
  have ne1065 : b1016 ≠ b1061 := Nat.ne_of_lt (Nat.lt_of_lt_of_le f1060.lt (Nat.le_of_eq g1061.symm))
  have ne1066 : b1049 ≠ b1061 := Nat.ne_of_lt (Nat.lt_of_lt_of_le V1049.lt (Nat.le_of_eq g1061.symm))
  have K1061 := K1049.ext E1061
  have Fn1061_codes : Fld Z h1061 b1061 "com/example/tributary/tributary/join/LineCodes" "codes" "[[S" .null := D1061 (Or.inr (ow hw 19 rfl)) (ty := (.array (.array .short))) (by decide)
  have Fn1061_tables : Fld Z h1061 b1061 "com/example/tributary/tributary/join/LineCodes" "tables" "[[S" .null := D1061 (Or.inr (ow hw 21 rfl)) (ty := (.array (.array .short))) (by decide)
  have Fn1061_counts : Fld Z h1061 b1061 "com/example/tributary/tributary/join/LineCodes" "counts" "[[I" .null := D1061 (Or.inr (ow hw 25 rfl)) (ty := (.array (.array .int))) (by decide)
  have Fn1061_weights : Fld Z h1061 b1061 "com/example/tributary/tributary/join/LineCodes" "weights" "[J" .null := D1061 (Or.inr (ow hw 28 rfl)) (ty := (.array .long)) (by decide)
  have Fn1061_order : Fld Z h1061 b1061 "com/example/tributary/tributary/join/LineCodes" "order" "[S" .null := D1061 (Or.inr (ow hw 30 rfl)) (ty := (.array .short)) (by decide)
  have Fn1061_separator : Fld Z h1061 b1061 "com/example/tributary/tributary/join/LineCodes" "separator" "B" (.int 0) := D1061 (Or.inr (ow hw 32 rfl)) (ty := .byte) (by decide)
  have Fn1061_sinceHalved : Fld Z h1061 b1061 "com/example/tributary/tributary/join/LineCodes" "sinceHalved" "I" (.int 0) := D1061 (Or.inl (ow hw 39 rfl)) (ty := .int) (by decide)
  have Fn1061_countedBytes : Fld Z h1061 b1061 "com/example/tributary/tributary/join/LineCodes" "countedBytes" "J" (.long 0) := D1061 (Or.inl (ow hw 42 rfl)) (ty := .long) (by decide)
  have Fn1061_countedLines : Fld Z h1061 b1061 "com/example/tributary/tributary/join/LineCodes" "countedLines" "J" (.long 0) := D1061 (Or.inl (ow hw 44 rfl)) (ty := .long) (by decide)
  refine gT T1061 345 [(.ref b1061)] (fun zt zk => st1061 zt zk) ?_
  have lt_b993 : b993 < b1061 := by rw [g1061]; exact f1057.lt
  have lt_b1002 : b1002 < b1061 := by rw [g1061]; exact f1058.lt
  have lt_b1010 : b1010 < b1061 := by rw [g1061]; exact f1059.lt
  have lt_b1016 : b1016 < b1061 := by rw [g1061]; exact f1060.lt
  have lt_b1049 : b1049 < b1061 := by rw [g1061]; exact V1049.lt
  refine gD X1061 hx (hc at_345) rfl (.refl 346) ?_
  refine gL X1061 hx (hc at_346) rfl (.refl 348) ?_
  obtain ⟨LX1067, XX1067, NX1067⟩ : ∃ LX, Stand p l e room_1 s m #[(.int p1), (.int p2), (.int p3), (.int p4), (.int p5)] below meth c T1061 LX 6 33 ∧ Fr n0 LX := ⟨_, X1061, N1047⟩
  obtain ⟨vr1068, _, ⟨T1068, L1068, k1068, n1068⟩, -, X1068, ⟨Lc1068, hQ1068, l1068, y1068, z1068⟩, st1068⟩ := XX1067.specialBack hx (y := Y17) rfl hown (mvT hZ (ow hw 9 rfl)) (mvT hZ (ow hw 10 rfl)) (mvT hZ (ow hw 11 rfl)) (by decide) (backOf (W := 1) (rmInit l Z a0 hw b1061 ps_ h1061 n0 (Nat.le_trans Z0 K1061.1) A1061 g_b1061 hns Fn1061_codes Fn1061_tables Fn1061_counts Fn1061_weights Fn1061_order Fn1061_separator Fn1061_sinceHalved Fn1061_countedBytes Fn1061_countedLines) hZ (ow hw 11 rfl) (ow hw 8 rfl) (by decide) (by decide)) (g := (mkF m 348 #[iv p1, iv p2, iv p3, iv p4, iv p5, iv ps_, iv vi, iv vj, iv vk, iv pa, iv pb, iv pcc, iv (Int32.ofNat cd), iv (Int32.ofNat nr), iv (Int32.ofNat nf), iv (Int32.ofNat nt), rv b993, rv b1002, rv b1010, rv b1016, rv b1049, .unset, .unset, .unset, .unset, .unset] [(.int ps_), (.ref b1061), (.ref b1061)])) rfl (by rw [hml]; rfl) (Steps.refl _) (a := b1061) (argsL := [(.int ps_)]) (rest := [(.ref b1061)]) (lenOf pd_56d7ddb rfl) rfl (by show 2 * 0 + _ ≤ _; exact Nat.le_of_eq rfl) (hc at_348) (fun _ _ => ⟨rfl, e1061, (by decide : 6 + 20 ≤ _), (by decide : 33 + 5914 ≤ _)⟩)
  dsimp only [Pt.U, Pt.locs, Pt.cells, Pt.slots] at X1068 l1068 y1068 z1068 st1068 hQ1068
  subst l1068 y1068 z1068
  obtain ⟨rfl, Nq1068, Kq1068, b, hbs1068, O1068, Fs1068, Fb1068, Fl1068, RS1068, RT1068, RI1068, VW1068, VO1068⟩ := hQ1068
  have lob : b1061 < b := Nat.lt_of_lt_of_le A1061.lt hbs1068
  have gnb : n0 ≤ b := Nat.le_trans g_b1061 (Nat.le_of_lt lob)
  have szb : h0.size ≤ b := Nat.le_trans sz_b1061 (Nat.le_of_lt lob)
  have KK1069 := K1061.trans Kq1068 (allS (Or.inr sz_b1061) all0)
  have NN1070 := Fr.app NX1067 Nq1068
  refine gT T1068 351 [(.ref b1061)] (fun zt zk => st1068.trans zk) ?_
  refine gP 353 #[iv p1, iv p2, iv p3, iv p4, iv p5, iv ps_, iv vi, iv vj, iv vk, iv pa, iv pb, iv pcc, iv (Int32.ofNat cd), iv (Int32.ofNat nr), iv (Int32.ofNat nf), iv (Int32.ofNat nt), rv b993, rv b1002, rv b1010, rv b1016, rv b1049, rv b1061, .unset, .unset, .unset, .unset] [] (fun zt zk => XS.astore X1068.here hx rfl (hc at_351) rfl rfl (l' := _) rfl zk) ?_
  refine gA X1068 hx (hc at_353) rfl (.refl 355) ?_
  refine gA X1068 hx (hc at_355) rfl (.refl 357) ?_
  refine gC (z := 0) X1068 hx (hc at_357) rfl (.refl 358) ?_
  refine gB (z := 7) X1068 hx (hc at_358) rfl (.refl 360) ?_
  have f1071 := ((f1057.ext E1061).keep Kq1068 (ninS ne1062 nin0))
  obtain ⟨cq1072, kq1072, q1072a, q1072b, q1072c⟩ := isOf hZ rfl O1068.1
  obtain ⟨vr1072, _, ⟨T1072, L1072, k1072, n1072⟩, -, X1072, ⟨Lc1072, hQ1072, l1072, y1072, z1072⟩, st1072⟩ := X1068.virtualBack hx (y := Y18) (z := Y18) hown (mvT hZ (ow hw 33 rfl)) (mvT hZ (ow hw 34 rfl)) (notFace_of_selects (args := #[]) (mvT hZ (ow hw 36 rfl))) (mvT hZ (ow hw 36 rfl)) (mvT hZ (ow hw 35 rfl)) (by decide) (backOf (W := 0) (rmCnt1 l Z a0 hw b1061 b b993 k993 pa pb ps_ ua ub us (fun _ _ => 0) T1068.heap n0 (Nat.le_trans Z0 KK1069.1) O1068 Fs1068 ⟨Fb1068, Fl1068⟩ RI1068 f1071 lob lt_b993 g_b1061 hua hub hus la lb ls nas nbs) hZ (ow hw 37 rfl) (ow hw 8 rfl) (by decide) (by decide)) q1072a q1072c (g := (mkF m 360 #[iv p1, iv p2, iv p3, iv p4, iv p5, iv ps_, iv vi, iv vj, iv vk, iv pa, iv pb, iv pcc, iv (Int32.ofNat cd), iv (Int32.ofNat nr), iv (Int32.ofNat nf), iv (Int32.ofNat nt), rv b993, rv b1002, rv b1010, rv b1016, rv b1049, rv b1061, .unset, .unset, .unset, .unset] [(.int 7), (.int 0), (.ref b993), (.ref b1061)])) rfl (by rw [hml]; rfl) (Steps.refl _) (argsL := [(.ref b993), (.int 0), (.int 7)]) (rest := []) (lenOf pd_45380c0 rfl) rfl (by show 2 * 0 + _ ≤ _; exact Nat.le_of_eq rfl) (hc at_360) (fun _ _ => ⟨rfl, rfl, (by decide : 26 + 0 ≤ _), (by decide : 5947 + 0 ≤ _)⟩)
  dsimp only [Pt.U, Pt.locs, Pt.cells, Pt.slots] at X1072 l1072 y1072 z1072 st1072 hQ1072
  subst l1072 y1072 z1072
  obtain ⟨rfl, Nq1072, Kq1072, O1072, Fs1072, Fb1072, Fl1072, RI1072⟩ := hQ1072
  have KK1073 := KK1069.trans Kq1072 (allS (Or.inr sz_b1061) (allS (Or.inr (show h0.size ≤ ((b + 15) : Nat) by omega)) (allS (Or.inr (show h0.size ≤ ((b + 16) : Nat) by omega)) (allS (Or.inr (show h0.size ≤ ((b + 17) : Nat) by omega)) all0))))
  have NN1074 := Fr.app NN1070 Nq1072
  refine gT T1072 363 [] (fun zt zk => st1072.trans zk) ?_
  have RJ1072 : own_RI Z T1072.heap (b + 15) 3 (own_c1 ua ub us (fun _ _ => 0)) := RI1072
  refine gA X1072 hx (hc at_363) rfl (.refl 365) ?_
  refine gA X1072 hx (hc at_365) rfl (.refl 367) ?_
  refine gC (z := 0) X1072 hx (hc at_367) rfl (.refl 368) ?_
  refine gC (z := 5) X1072 hx (hc at_368) rfl (.refl 369) ?_
  have ne1075 : (b1002 : Nat) ≠ (b + 17) := by omega
  have ne1076 : (b1002 : Nat) ≠ (b + 16) := by omega
  have ne1077 : (b1002 : Nat) ≠ (b + 15) := by omega
  have f1078 := (((f1058.ext E1061).keep Kq1068 (ninS ne1063 nin0)).keep Kq1072 (ninS ne1063 (ninS ne1077 (ninS ne1076 (ninS ne1075 nin0)))))
  obtain ⟨cq1079, kq1079, q1079a, q1079b, q1079c⟩ := isOf hZ rfl O1072.1
  obtain ⟨vr1079, _, ⟨T1079, L1079, k1079, n1079⟩, -, X1079, ⟨Lc1079, hQ1079, l1079, y1079, z1079⟩, st1079⟩ := X1072.virtualBack hx (y := Y18) (z := Y18) hown (mvT hZ (ow hw 33 rfl)) (mvT hZ (ow hw 34 rfl)) (notFace_of_selects (args := #[]) (mvT hZ (ow hw 36 rfl))) (mvT hZ (ow hw 36 rfl)) (mvT hZ (ow hw 35 rfl)) (by decide) (backOf (W := 0) (rmCnt2 l Z a0 hw b1061 b b1002 k1002 pa pb ps_ ua ub us (own_c1 ua ub us (fun _ _ => 0)) T1072.heap n0 (Nat.le_trans Z0 KK1073.1) O1072 Fs1072 ⟨Fb1072, Fl1072⟩ RJ1072 f1078 lob lt_b1002 g_b1061 hua hub hus la lb ls nas nbs) hZ (ow hw 37 rfl) (ow hw 8 rfl) (by decide) (by decide)) q1079a q1079c (g := (mkF m 369 #[iv p1, iv p2, iv p3, iv p4, iv p5, iv ps_, iv vi, iv vj, iv vk, iv pa, iv pb, iv pcc, iv (Int32.ofNat cd), iv (Int32.ofNat nr), iv (Int32.ofNat nf), iv (Int32.ofNat nt), rv b993, rv b1002, rv b1010, rv b1016, rv b1049, rv b1061, .unset, .unset, .unset, .unset] [(.int 5), (.int 0), (.ref b1002), (.ref b1061)])) rfl (by rw [hml]; rfl) (Steps.refl _) (argsL := [(.ref b1002), (.int 0), (.int 5)]) (rest := []) (lenOf pd_45380c0 rfl) rfl (by show 2 * 0 + _ ≤ _; exact Nat.le_of_eq rfl) (hc at_369) (fun _ _ => ⟨rfl, rfl, (by decide : 26 + 0 ≤ _), (by decide : 5947 + 0 ≤ _)⟩)
  dsimp only [Pt.U, Pt.locs, Pt.cells, Pt.slots] at X1079 l1079 y1079 z1079 st1079 hQ1079
  subst l1079 y1079 z1079
  obtain ⟨rfl, Nq1079, Kq1079, O1079, Fs1079, Fb1079, Fl1079, RI1079⟩ := hQ1079
  have KK1080 := KK1073.trans Kq1079 (allS (Or.inr sz_b1061) (allS (Or.inr (show h0.size ≤ ((b + 15) : Nat) by omega)) (allS (Or.inr (show h0.size ≤ ((b + 16) : Nat) by omega)) (allS (Or.inr (show h0.size ≤ ((b + 17) : Nat) by omega)) all0))))
  have NN1081 := Fr.app NN1074 Nq1079
  refine gT T1079 372 [] (fun zt zk => st1079.trans zk) ?_
  have RJ1079 : own_RI Z T1079.heap (b + 15) 3 (own_c2 ua ub us (own_c1 ua ub us (fun _ _ => 0))) := RI1079
  refine gA X1079 hx (hc at_372) rfl (.refl 374) ?_
  refine gA X1079 hx (hc at_374) rfl (.refl 376) ?_
  refine gC (z := 0) X1079 hx (hc at_376) rfl (.refl 377) ?_
  refine gC (z := 1) X1079 hx (hc at_377) rfl (.refl 378) ?_
  have ne1082 : (b1010 : Nat) ≠ (b + 17) := by omega
  have ne1083 : (b1010 : Nat) ≠ (b + 16) := by omega
  have ne1084 : (b1010 : Nat) ≠ (b + 15) := by omega
  have f1085 := ((((f1059.ext E1061).keep Kq1068 (ninS ne1064 nin0)).keep Kq1072 (ninS ne1064 (ninS ne1084 (ninS ne1083 (ninS ne1082 nin0))))).keep Kq1079 (ninS ne1064 (ninS ne1084 (ninS ne1083 (ninS ne1082 nin0)))))
  obtain ⟨cq1086, kq1086, q1086a, q1086b, q1086c⟩ := isOf hZ rfl O1079.1
  obtain ⟨vr1086, _, ⟨T1086, L1086, k1086, n1086⟩, -, X1086, ⟨Lc1086, hQ1086, l1086, y1086, z1086⟩, st1086⟩ := X1079.virtualBack hx (y := Y18) (z := Y18) hown (mvT hZ (ow hw 33 rfl)) (mvT hZ (ow hw 34 rfl)) (notFace_of_selects (args := #[]) (mvT hZ (ow hw 36 rfl))) (mvT hZ (ow hw 36 rfl)) (mvT hZ (ow hw 35 rfl)) (by decide) (backOf (W := 0) (rmCnt3 l Z a0 hw b1061 b b1010 k1010 pa pb ps_ ua ub us (own_c2 ua ub us (own_c1 ua ub us (fun _ _ => 0))) T1079.heap n0 (Nat.le_trans Z0 KK1080.1) O1079 Fs1079 ⟨Fb1079, Fl1079⟩ RJ1079 f1085 lob lt_b1010 g_b1061 hua hub hus la lb ls nas nbs) hZ (ow hw 37 rfl) (ow hw 8 rfl) (by decide) (by decide)) q1086a q1086c (g := (mkF m 378 #[iv p1, iv p2, iv p3, iv p4, iv p5, iv ps_, iv vi, iv vj, iv vk, iv pa, iv pb, iv pcc, iv (Int32.ofNat cd), iv (Int32.ofNat nr), iv (Int32.ofNat nf), iv (Int32.ofNat nt), rv b993, rv b1002, rv b1010, rv b1016, rv b1049, rv b1061, .unset, .unset, .unset, .unset] [(.int 1), (.int 0), (.ref b1010), (.ref b1061)])) rfl (by rw [hml]; rfl) (Steps.refl _) (argsL := [(.ref b1010), (.int 0), (.int 1)]) (rest := []) (lenOf pd_45380c0 rfl) rfl (by show 2 * 0 + _ ≤ _; exact Nat.le_of_eq rfl) (hc at_378) (fun _ _ => ⟨rfl, rfl, (by decide : 26 + 0 ≤ _), (by decide : 5947 + 0 ≤ _)⟩)
  dsimp only [Pt.U, Pt.locs, Pt.cells, Pt.slots] at X1086 l1086 y1086 z1086 st1086 hQ1086
  subst l1086 y1086 z1086
  obtain ⟨rfl, Nq1086, Kq1086, O1086, Fs1086, Fb1086, Fl1086, RI1086⟩ := hQ1086
  have KK1087 := KK1080.trans Kq1086 (allS (Or.inr sz_b1061) (allS (Or.inr (show h0.size ≤ ((b + 15) : Nat) by omega)) (allS (Or.inr (show h0.size ≤ ((b + 16) : Nat) by omega)) (allS (Or.inr (show h0.size ≤ ((b + 17) : Nat) by omega)) all0))))
  have NN1088 := Fr.app NN1081 Nq1086
  refine gT T1086 381 [] (fun zt zk => st1086.trans zk) ?_
  have RJ1086 : own_RI Z T1086.heap (b + 15) 3 (own_c3 ua ub us (own_c2 ua ub us (own_c1 ua ub us (fun _ _ => 0)))) := RI1086
  have Kc := ((Kq1072.trans Kq1079 (allS (Or.inl (List.mem_of_getElem? (i := 0) rfl)) (allS (Or.inl (List.mem_of_getElem? (i := 1) rfl)) (allS (Or.inl (List.mem_of_getElem? (i := 2) rfl)) (allS (Or.inl (List.mem_of_getElem? (i := 3) rfl)) all0))))).trans Kq1086 (allS (Or.inl (List.mem_of_getElem? (i := 0) rfl)) (allS (Or.inl (List.mem_of_getElem? (i := 1) rfl)) (allS (Or.inl (List.mem_of_getElem? (i := 2) rfl)) (allS (Or.inl (List.mem_of_getElem? (i := 3) rfl)) all0)))))
  have RSc : own_RS Z T1086.heap (b + 1) 6 (fun _ _ => 0) := RS1068.keep Kc (fun j hj => (ninS (show (b + 1 + j : Nat) ≠ b1061 by omega) (ninS (show (b + 1 + j : Nat) ≠ (b + 15) by omega) (ninS (show (b + 1 + j : Nat) ≠ (b + 16) by omega) (ninS (show (b + 1 + j : Nat) ≠ (b + 17) by omega) nin0)))))
  have RTc : own_RT Z T1086.heap (b + 8) 6 := RT1068.keep Kc (fun j hj => (ninS (show (b + 8 + j : Nat) ≠ b1061 by omega) (ninS (show (b + 8 + j : Nat) ≠ (b + 15) by omega) (ninS (show (b + 8 + j : Nat) ≠ (b + 16) by omega) (ninS (show (b + 8 + j : Nat) ≠ (b + 17) by omega) nin0)))))
  have VWc : ∃ k : ClassId, Arv Z T1086.heap (b + 18) k .long (257 : Int32) (own_al (fun _ => (0 : Int64)) 257) (.long 0) := by obtain ⟨k, v⟩ := VW1068; exact ⟨k, v.keep Kc (ninS (show (b + 18 : Nat) ≠ b1061 by omega) (ninS (show (b + 18 : Nat) ≠ (b + 15) by omega) (ninS (show (b + 18 : Nat) ≠ (b + 16) by omega) (ninS (show (b + 18 : Nat) ≠ (b + 17) by omega) nin0))))⟩
  have VOc : ∃ k : ClassId, Arv Z T1086.heap (b + 19) k .short (257 : Int32) (own_ar (fun _ => (0 : Int32)) 257) (.int 0) := by obtain ⟨k, v⟩ := VO1068; exact ⟨k, v.keep Kc (ninS (show (b + 19 : Nat) ≠ b1061 by omega) (ninS (show (b + 19 : Nat) ≠ (b + 15) by omega) (ninS (show (b + 19 : Nat) ≠ (b + 16) by omega) (ninS (show (b + 19 : Nat) ≠ (b + 17) by omega) nin0))))⟩
  obtain ⟨R_0, ⟨da1, da2, da3, da4, da5, da6⟩, db1, db2, db3, db4⟩ := own_R0 la lb ls nab nas_ nbs_
  obtain ⟨y0, y1, hy, R_1, ⟨dc1, dc2, dc3⟩, dd1, dd2, dd3⟩ := own_R1 la lb ls nab nas_ nbs_
  obtain ⟨j0, j1, hj, R_2, ⟨de1, de2, de3⟩, df1, df2, df3⟩ := own_R2 la lb ls nab nas_ nbs_
  have ne1089 : (b1016 : Nat) ≠ (b + 17) := by omega
  have ne1090 : (b1016 : Nat) ≠ (b + 16) := by omega
  have ne1091 : (b1016 : Nat) ≠ (b + 15) := by omega
  have f1092 := (((((f1060.ext E1061).keep Kq1068 (ninS ne1065 nin0)).keep Kq1072 (ninS ne1065 (ninS ne1091 (ninS ne1090 (ninS ne1089 nin0))))).keep Kq1079 (ninS ne1065 (ninS ne1091 (ninS ne1090 (ninS ne1089 nin0))))).keep Kq1086 (ninS ne1065 (ninS ne1091 (ninS ne1090 (ninS ne1089 nin0)))))
  have ne1093 : (b1049 : Nat) ≠ (b + 17) := by omega
  have ne1094 : (b1049 : Nat) ≠ (b + 16) := by omega
  have ne1095 : (b1049 : Nat) ≠ (b + 15) := by omega
  have f1096 := (((((V1049.ext E1061).keep Kq1068 (ninS ne1066 nin0)).keep Kq1072 (ninS ne1066 (ninS ne1095 (ninS ne1094 (ninS ne1093 nin0))))).keep Kq1079 (ninS ne1066 (ninS ne1095 (ninS ne1094 (ninS ne1093 nin0))))).keep Kq1086 (ninS ne1066 (ninS ne1095 (ninS ne1094 (ninS ne1093 nin0)))))
  refine gA X1086 hx (hc at_381) rfl (.refl 383) ?_
  refine gL X1086 hx (hc at_383) rfl (.refl 385) ?_
  obtain ⟨cq1097, kq1097, q1097a, q1097b, q1097c⟩ := isOf hZ rfl O1086.1
  obtain ⟨vr1097, _, ⟨T1097, L1097, k1097, n1097⟩, -, X1097, ⟨Lc1097, hQ1097, l1097, y1097, z1097⟩, st1097⟩ := X1086.virtualBack hx (y := Y21) (z := Y21) hown (mvT hZ (ow hw 45 rfl)) (mvT hZ (ow hw 46 rfl)) (notFace_of_selects (args := #[]) (mvT hZ (ow hw 48 rfl))) (mvT hZ (ow hw 48 rfl)) (mvT hZ (ow hw 47 rfl)) (by decide) (backOf (W := 0) (rmMk l Z a0 hw b1061 b ps_ (own_c3 ua ub us (own_c2 ua ub us (own_c1 ua ub us (fun _ _ => 0)))) (fun _ _ => 0) cd ub 256 us ua y0 y1 us j0 j1 256 T1086.heap n0 (Nat.le_trans Z0 KK1087.1) O1086 ⟨_, Fs1086⟩ ⟨Fb1086, Fl1086⟩ RJ1086 lob g_b1061 hcd RSc RTc VWc VOc R_0 R_1 R_2 da1 da2 da3 da4 da5 da6 db1 db2 db3 db4 dc1 dc2 dc3 dd1 dd2 dd3 de1 de2 de3 df1 df2 df3) hZ (ow hw 49 rfl) (ow hw 8 rfl) (by decide) (by decide)) q1097a q1097c (g := (mkF m 385 #[iv p1, iv p2, iv p3, iv p4, iv p5, iv ps_, iv vi, iv vj, iv vk, iv pa, iv pb, iv pcc, iv (Int32.ofNat cd), iv (Int32.ofNat nr), iv (Int32.ofNat nf), iv (Int32.ofNat nt), rv b993, rv b1002, rv b1010, rv b1016, rv b1049, rv b1061, .unset, .unset, .unset, .unset] [(.int (Int32.ofNat cd)), (.ref b1061)])) rfl (by rw [hml]; rfl) (Steps.refl _) (argsL := [(.int (Int32.ofNat cd))]) (rest := []) (lenOf pd_56f531a rfl) rfl (by show 2 * 0 + _ ≤ _; exact Nat.le_of_eq rfl) (hc at_385) (fun _ _ => ⟨rfl, rfl, (by decide : 26 + 0 ≤ _), (by decide : 5947 + 0 ≤ _)⟩)
  dsimp only [Pt.U, Pt.locs, Pt.cells, Pt.slots] at X1097 l1097 y1097 z1097 st1097 hQ1097
  subst l1097 y1097 z1097
  obtain ⟨rfl, Nq1097, Kq1097, O1097, RS1097⟩ := hQ1097
  have KK1098 := KK1087.trans Kq1097 (allS (Or.inr sz_b1061) (allS (Or.inr (show h0.size ≤ ((b + 1 + (3 * cd + 0)) : Nat) by omega)) (allS (Or.inr (show h0.size ≤ ((b + 1 + (3 * cd + 1)) : Nat) by omega)) (allS (Or.inr (show h0.size ≤ ((b + 1 + (3 * cd + 2)) : Nat) by omega)) (allS (Or.inr (show h0.size ≤ ((b + 7 + 1 + (3 * cd + 0)) : Nat) by omega)) (allS (Or.inr (show h0.size ≤ ((b + 7 + 1 + (3 * cd + 1)) : Nat) by omega)) (allS (Or.inr (show h0.size ≤ ((b + 7 + 1 + (3 * cd + 2)) : Nat) by omega)) (allS (Or.inr (show h0.size ≤ ((b + 15) : Nat) by omega)) (allS (Or.inr (show h0.size ≤ ((b + 16) : Nat) by omega)) (allS (Or.inr (show h0.size ≤ ((b + 17) : Nat) by omega)) (allS (Or.inr (show h0.size ≤ ((b + 18) : Nat) by omega)) (allS (Or.inr (show h0.size ≤ ((b + 19) : Nat) by omega)) all0))))))))))))
  have NN1099 := Fr.app NN1088 Nq1097
  refine gT T1097 388 [] (fun zt zk => st1097.trans zk) ?_
  obtain ⟨Eo, Oc, -, -, -, -, Os, ⟨kC, VC⟩, -, -⟩ := id O1097
  obtain ⟨QG, hQG⟩ : ∃ z, z = (fun j => if j = 3 * cd + 0 then (own_seq (own_up (own_up (own_up (own_up (fun _ => (0 : Int32)) ub (3 : Int32)) 256 (3 : Int32)) us (2 : Int32)) ua (1 : Int32)) 9).1 else if j = 3 * cd + 1 then (own_seq (own_up (own_up (own_up (fun _ => (0 : Int32)) y0 (2 : Int32)) y1 (2 : Int32)) us (1 : Int32)) 9).1 else if j = 3 * cd + 2 then (own_seq (own_up (own_up (own_up (fun _ => (0 : Int32)) j0 (2 : Int32)) j1 (2 : Int32)) 256 (1 : Int32)) 9).1 else (fun _ _ => (0 : Int32)) j) := ⟨_, rfl⟩
  have RSq : own_RS Z T1097.heap (b + 1) 6 QG := by rw [hQG]; exact RS1097
  refine gA X1097 hx (hc at_388) rfl (.refl 390) ?_
  refine gLN X1097 hx (hc at_390) rfl (.refl 391) ?_
  refine gC (z := 0) X1097 hx (hc at_391) rfl (.refl 392) ?_
  refine gL X1097 hx (hc at_392) rfl (.refl 394) ?_
  refine gL X1097 hx (hc at_394) rfl (.refl 396) ?_
  have ne1100 : (b1049 : Nat) ≠ (b + 19) := by omega
  have ne1101 : (b1049 : Nat) ≠ (b + 18) := by omega
  have ne1102 : (b1049 : Nat) ≠ (b + 7 + 1 + (3 * cd + 2)) := by omega
  have ne1103 : (b1049 : Nat) ≠ (b + 7 + 1 + (3 * cd + 1)) := by omega
  have ne1104 : (b1049 : Nat) ≠ (b + 7 + 1 + (3 * cd + 0)) := by omega
  have ne1105 : (b1049 : Nat) ≠ (b + 1 + (3 * cd + 2)) := by omega
  have ne1106 : (b1049 : Nat) ≠ (b + 1 + (3 * cd + 1)) := by omega
  have ne1107 : (b1049 : Nat) ≠ (b + 1 + (3 * cd + 0)) := by omega
  have f1108 := (f1096.keep Kq1097 (ninS ne1066 (ninS ne1107 (ninS ne1106 (ninS ne1105 (ninS ne1104 (ninS ne1103 (ninS ne1102 (ninS ne1095 (ninS ne1094 (ninS ne1093 (ninS ne1101 (ninS ne1100 nin0)))))))))))))
  obtain ⟨vr1109, _, ⟨T1109, L1109, k1109, n1109⟩, -, X1109, ⟨Lc1109, hQ1109, l1109, y1109, z1109⟩, st1109⟩ := Jvm.LawKit.callS X1097 hx (y := Y15) hown (mvT hZ (ow hw 106 rfl)) (mvT hZ (ow hw 107 rfl)) (mvT hZ (ow hw 3 rfl)) (mvT hZ (ow hw 108 rfl)) (by decide) (backOf (W := 0) (rmStep l Z a0 hw b1049 k1049 p3 (0 : Int32) (Int32.ofNat nf) (Int32.ofNat nt) (0 : Int32) (0 : Int32) (0 : Int32) T1097.heap n0 (Nat.le_trans Z0 KK1098.1) f1108 g_b1049) hZ (ow hw 108 rfl) (ow hw 3 rfl) (by decide) (by decide)) (g := (mkF m 396 #[iv p1, iv p2, iv p3, iv p4, iv p5, iv ps_, iv vi, iv vj, iv vk, iv pa, iv pb, iv pcc, iv (Int32.ofNat cd), iv (Int32.ofNat nr), iv (Int32.ofNat nf), iv (Int32.ofNat nt), rv b993, rv b1002, rv b1010, rv b1016, rv b1049, rv b1061, .unset, .unset, .unset, .unset] [(.int (Int32.ofNat nt)), (.int (Int32.ofNat nf)), (.int 0), (.int p3), (.ref b1049)])) rfl (by rw [hml]; rfl) (argsL := [(.ref b1049), (.int p3), (.int 0), (.int (Int32.ofNat nf)), (.int (Int32.ofNat nt))]) (rest := []) (lenOf pd_6ca6aec rfl) rfl (by show 2 * 0 + _ ≤ _; exact Nat.le_of_eq rfl) (hc at_396) (fun _ _ => ⟨rfl, rfl, (by decide : 26 + 0 ≤ _), (by decide : 5947 + 0 ≤ _)⟩)
  dsimp only [Pt.U, Pt.locs, Pt.cells, Pt.slots] at X1109 l1109 y1109 z1109 st1109 hQ1109
  subst l1109 y1109 z1109
  obtain ⟨rfl, Nq1109, Kq1109, V1109⟩ := hQ1109
  have KK1110 := KK1098.trans Kq1109 (allS (Or.inr sz_b1049) all0)
  have NN1111 := Fr.app NN1099 Nq1109
  refine gT T1109 399 [] (fun zt zk => st1109 zt zk) ?_
  obtain ⟨xa1109_, xb1109_, xc1109_, ht1109_⟩ := own_tri (own_stp p3 (0 : Int32) (Int32.ofNat nf) (Int32.ofNat nt) ((0 : Int32), (0 : Int32), (0 : Int32)))
  have Vs1109_ : Arv Z T1109.heap b1049 k1049 .int (3 : Int32) [(.int xa1109_), (.int xb1109_), (.int xc1109_)] (.int 0) := by
    have q := V1109
    rw [ht1109_] at q
    exact q
  refine gA X1109 hx (hc at_399) rfl (.refl 401) ?_
  refine gLN X1109 hx (hc at_401) rfl (.refl 402) ?_
  refine gC (z := 1) X1109 hx (hc at_402) rfl (.refl 403) ?_
  refine gL X1109 hx (hc at_403) rfl (.refl 405) ?_
  refine gL X1109 hx (hc at_405) rfl (.refl 407) ?_
  obtain ⟨vr1112, _, ⟨T1112, L1112, k1112, n1112⟩, -, X1112, ⟨Lc1112, hQ1112, l1112, y1112, z1112⟩, st1112⟩ := Jvm.LawKit.callS X1109 hx (y := Y15) hown (mvT hZ (ow hw 106 rfl)) (mvT hZ (ow hw 107 rfl)) (mvT hZ (ow hw 3 rfl)) (mvT hZ (ow hw 108 rfl)) (by decide) (backOf (W := 0) (rmStep l Z a0 hw b1049 k1049 p3 (1 : Int32) (Int32.ofNat nf) (Int32.ofNat nt) xa1109_ xb1109_ xc1109_ T1109.heap n0 (Nat.le_trans Z0 KK1110.1) Vs1109_ g_b1049) hZ (ow hw 108 rfl) (ow hw 3 rfl) (by decide) (by decide)) (g := (mkF m 407 #[iv p1, iv p2, iv p3, iv p4, iv p5, iv ps_, iv vi, iv vj, iv vk, iv pa, iv pb, iv pcc, iv (Int32.ofNat cd), iv (Int32.ofNat nr), iv (Int32.ofNat nf), iv (Int32.ofNat nt), rv b993, rv b1002, rv b1010, rv b1016, rv b1049, rv b1061, .unset, .unset, .unset, .unset] [(.int (Int32.ofNat nt)), (.int (Int32.ofNat nf)), (.int 1), (.int p3), (.ref b1049)])) rfl (by rw [hml]; rfl) (argsL := [(.ref b1049), (.int p3), (.int 1), (.int (Int32.ofNat nf)), (.int (Int32.ofNat nt))]) (rest := []) (lenOf pd_6ca6aec rfl) rfl (by show 2 * 0 + _ ≤ _; exact Nat.le_of_eq rfl) (hc at_407) (fun _ _ => ⟨rfl, rfl, (by decide : 26 + 0 ≤ _), (by decide : 5947 + 0 ≤ _)⟩)
  dsimp only [Pt.U, Pt.locs, Pt.cells, Pt.slots] at X1112 l1112 y1112 z1112 st1112 hQ1112
  subst l1112 y1112 z1112
  obtain ⟨rfl, Nq1112, Kq1112, V1112⟩ := hQ1112
  have KK1113 := KK1110.trans Kq1112 (allS (Or.inr sz_b1049) all0)
  have NN1114 := Fr.app NN1111 Nq1112
  refine gT T1112 410 [] (fun zt zk => st1112 zt zk) ?_
  obtain ⟨xa1112_, xb1112_, xc1112_, ht1112_⟩ := own_tri (own_stp p3 (1 : Int32) (Int32.ofNat nf) (Int32.ofNat nt) (xa1109_, xb1109_, xc1109_))
  have Vs1112_ : Arv Z T1112.heap b1049 k1049 .int (3 : Int32) [(.int xa1112_), (.int xb1112_), (.int xc1112_)] (.int 0) := by
    have q := V1112
    rw [ht1112_] at q
    exact q
  refine gA X1112 hx (hc at_410) rfl (.refl 412) ?_
  refine gLN X1112 hx (hc at_412) rfl (.refl 413) ?_
  refine gC (z := 2) X1112 hx (hc at_413) rfl (.refl 414) ?_
  refine gL X1112 hx (hc at_414) rfl (.refl 416) ?_
  refine gL X1112 hx (hc at_416) rfl (.refl 418) ?_
  obtain ⟨LX1115, XX1115, NX1115⟩ : ∃ LX, Stand p l e room_1 s m #[(.int p1), (.int p2), (.int p3), (.int p4), (.int p5)] below meth c T1112 LX 26 5947 ∧ Fr n0 LX := ⟨_, X1112, NN1114⟩
  obtain ⟨vr1116, _, ⟨T1116, L1116, k1116, n1116⟩, -, X1116, ⟨Lc1116, hQ1116, l1116, y1116, z1116⟩, st1116⟩ := Jvm.LawKit.callS XX1115 hx (y := Y15) hown (mvT hZ (ow hw 106 rfl)) (mvT hZ (ow hw 107 rfl)) (mvT hZ (ow hw 3 rfl)) (mvT hZ (ow hw 108 rfl)) (by decide) (backOf (W := 0) (rmStep l Z a0 hw b1049 k1049 p3 (2 : Int32) (Int32.ofNat nf) (Int32.ofNat nt) xa1112_ xb1112_ xc1112_ T1112.heap n0 (Nat.le_trans Z0 KK1113.1) Vs1112_ g_b1049) hZ (ow hw 108 rfl) (ow hw 3 rfl) (by decide) (by decide)) (g := (mkF m 418 #[iv p1, iv p2, iv p3, iv p4, iv p5, iv ps_, iv vi, iv vj, iv vk, iv pa, iv pb, iv pcc, iv (Int32.ofNat cd), iv (Int32.ofNat nr), iv (Int32.ofNat nf), iv (Int32.ofNat nt), rv b993, rv b1002, rv b1010, rv b1016, rv b1049, rv b1061, .unset, .unset, .unset, .unset] [(.int (Int32.ofNat nt)), (.int (Int32.ofNat nf)), (.int 2), (.int p3), (.ref b1049)])) rfl (by rw [hml]; rfl) (argsL := [(.ref b1049), (.int p3), (.int 2), (.int (Int32.ofNat nf)), (.int (Int32.ofNat nt))]) (rest := []) (lenOf pd_6ca6aec rfl) rfl (by show 2 * 0 + _ ≤ _; exact Nat.le_of_eq rfl) (hc at_418) (fun _ _ => ⟨rfl, rfl, (by decide : 26 + 0 ≤ _), (by decide : 5947 + 0 ≤ _)⟩)
  dsimp only [Pt.U, Pt.locs, Pt.cells, Pt.slots] at X1116 l1116 y1116 z1116 st1116 hQ1116
  subst l1116 y1116 z1116
  obtain ⟨rfl, Nq1116, Kq1116, V1116⟩ := hQ1116
  have KK1117 := KK1113.trans Kq1116 (allS (Or.inr sz_b1049) all0)
  have NN1118 := Fr.app NX1115 Nq1116
  refine gT T1116 421 [] (fun zt zk => st1116 zt zk) ?_
  obtain ⟨xa1116_, xb1116_, xc1116_, ht1116_⟩ := own_tri (own_stp p3 (2 : Int32) (Int32.ofNat nf) (Int32.ofNat nt) (xa1112_, xb1112_, xc1112_))
  have Vs1116_ : Arv Z T1116.heap b1049 k1049 .int (3 : Int32) [(.int xa1116_), (.int xb1116_), (.int xc1116_)] (.int 0) := by
    have q := V1116
    rw [ht1116_] at q
    exact q
  refine gA X1116 hx (hc at_421) rfl (.refl 423) ?_
  refine gLN X1116 hx (hc at_423) rfl (.refl 424) ?_
  refine gC (z := 3) X1116 hx (hc at_424) rfl (.refl 425) ?_
  refine gL X1116 hx (hc at_425) rfl (.refl 427) ?_
  refine gL X1116 hx (hc at_427) rfl (.refl 429) ?_
  obtain ⟨vr1119, _, ⟨T1119, L1119, k1119, n1119⟩, -, X1119, ⟨Lc1119, hQ1119, l1119, y1119, z1119⟩, st1119⟩ := Jvm.LawKit.callS X1116 hx (y := Y15) hown (mvT hZ (ow hw 106 rfl)) (mvT hZ (ow hw 107 rfl)) (mvT hZ (ow hw 3 rfl)) (mvT hZ (ow hw 108 rfl)) (by decide) (backOf (W := 0) (rmStep l Z a0 hw b1049 k1049 p3 (3 : Int32) (Int32.ofNat nf) (Int32.ofNat nt) xa1116_ xb1116_ xc1116_ T1116.heap n0 (Nat.le_trans Z0 KK1117.1) Vs1116_ g_b1049) hZ (ow hw 108 rfl) (ow hw 3 rfl) (by decide) (by decide)) (g := (mkF m 429 #[iv p1, iv p2, iv p3, iv p4, iv p5, iv ps_, iv vi, iv vj, iv vk, iv pa, iv pb, iv pcc, iv (Int32.ofNat cd), iv (Int32.ofNat nr), iv (Int32.ofNat nf), iv (Int32.ofNat nt), rv b993, rv b1002, rv b1010, rv b1016, rv b1049, rv b1061, .unset, .unset, .unset, .unset] [(.int (Int32.ofNat nt)), (.int (Int32.ofNat nf)), (.int 3), (.int p3), (.ref b1049)])) rfl (by rw [hml]; rfl) (argsL := [(.ref b1049), (.int p3), (.int 3), (.int (Int32.ofNat nf)), (.int (Int32.ofNat nt))]) (rest := []) (lenOf pd_6ca6aec rfl) rfl (by show 2 * 0 + _ ≤ _; exact Nat.le_of_eq rfl) (hc at_429) (fun _ _ => ⟨rfl, rfl, (by decide : 26 + 0 ≤ _), (by decide : 5947 + 0 ≤ _)⟩)
  dsimp only [Pt.U, Pt.locs, Pt.cells, Pt.slots] at X1119 l1119 y1119 z1119 st1119 hQ1119
  subst l1119 y1119 z1119
  obtain ⟨rfl, Nq1119, Kq1119, V1119⟩ := hQ1119
  have KK1120 := KK1117.trans Kq1119 (allS (Or.inr sz_b1049) all0)
  have NN1121 := Fr.app NN1118 Nq1119
  refine gT T1119 432 [] (fun zt zk => st1119 zt zk) ?_
  obtain ⟨xa1119_, xb1119_, xc1119_, ht1119_⟩ := own_tri (own_stp p3 (3 : Int32) (Int32.ofNat nf) (Int32.ofNat nt) (xa1116_, xb1116_, xc1116_))
  have Vs1119_ : Arv Z T1119.heap b1049 k1049 .int (3 : Int32) [(.int xa1119_), (.int xb1119_), (.int xc1119_)] (.int 0) := by
    have q := V1119
    rw [ht1119_] at q
    exact q
  refine gA X1119 hx (hc at_432) rfl (.refl 434) ?_
  refine gLN X1119 hx (hc at_434) rfl (.refl 435) ?_
  refine gC (z := 4) X1119 hx (hc at_435) rfl (.refl 436) ?_
  refine gL X1119 hx (hc at_436) rfl (.refl 438) ?_
  refine gL X1119 hx (hc at_438) rfl (.refl 440) ?_
  obtain ⟨vr1122, _, ⟨T1122, L1122, k1122, n1122⟩, -, X1122, ⟨Lc1122, hQ1122, l1122, y1122, z1122⟩, st1122⟩ := Jvm.LawKit.callS X1119 hx (y := Y15) hown (mvT hZ (ow hw 106 rfl)) (mvT hZ (ow hw 107 rfl)) (mvT hZ (ow hw 3 rfl)) (mvT hZ (ow hw 108 rfl)) (by decide) (backOf (W := 0) (rmStep l Z a0 hw b1049 k1049 p3 (4 : Int32) (Int32.ofNat nf) (Int32.ofNat nt) xa1119_ xb1119_ xc1119_ T1119.heap n0 (Nat.le_trans Z0 KK1120.1) Vs1119_ g_b1049) hZ (ow hw 108 rfl) (ow hw 3 rfl) (by decide) (by decide)) (g := (mkF m 440 #[iv p1, iv p2, iv p3, iv p4, iv p5, iv ps_, iv vi, iv vj, iv vk, iv pa, iv pb, iv pcc, iv (Int32.ofNat cd), iv (Int32.ofNat nr), iv (Int32.ofNat nf), iv (Int32.ofNat nt), rv b993, rv b1002, rv b1010, rv b1016, rv b1049, rv b1061, .unset, .unset, .unset, .unset] [(.int (Int32.ofNat nt)), (.int (Int32.ofNat nf)), (.int 4), (.int p3), (.ref b1049)])) rfl (by rw [hml]; rfl) (argsL := [(.ref b1049), (.int p3), (.int 4), (.int (Int32.ofNat nf)), (.int (Int32.ofNat nt))]) (rest := []) (lenOf pd_6ca6aec rfl) rfl (by show 2 * 0 + _ ≤ _; exact Nat.le_of_eq rfl) (hc at_440) (fun _ _ => ⟨rfl, rfl, (by decide : 26 + 0 ≤ _), (by decide : 5947 + 0 ≤ _)⟩)
  dsimp only [Pt.U, Pt.locs, Pt.cells, Pt.slots] at X1122 l1122 y1122 z1122 st1122 hQ1122
  subst l1122 y1122 z1122
  obtain ⟨rfl, Nq1122, Kq1122, V1122⟩ := hQ1122
  have KK1123 := KK1120.trans Kq1122 (allS (Or.inr sz_b1049) all0)
  have NN1124 := Fr.app NN1121 Nq1122
  refine gT T1122 443 [] (fun zt zk => st1122 zt zk) ?_
  obtain ⟨xa1122_, xb1122_, xc1122_, ht1122_⟩ := own_tri (own_stp p3 (4 : Int32) (Int32.ofNat nf) (Int32.ofNat nt) (xa1119_, xb1119_, xc1119_))
  have Vs1122_ : Arv Z T1122.heap b1049 k1049 .int (3 : Int32) [(.int xa1122_), (.int xb1122_), (.int xc1122_)] (.int 0) := by
    have q := V1122
    rw [ht1122_] at q
    exact q
  refine gA X1122 hx (hc at_443) rfl (.refl 445) ?_
  refine gLN X1122 hx (hc at_445) rfl (.refl 446) ?_
  refine gC (z := 5) X1122 hx (hc at_446) rfl (.refl 447) ?_
  refine gL X1122 hx (hc at_447) rfl (.refl 449) ?_
  refine gL X1122 hx (hc at_449) rfl (.refl 451) ?_
  obtain ⟨vr1125, _, ⟨T1125, L1125, k1125, n1125⟩, -, X1125, ⟨Lc1125, hQ1125, l1125, y1125, z1125⟩, st1125⟩ := Jvm.LawKit.callS X1122 hx (y := Y15) hown (mvT hZ (ow hw 106 rfl)) (mvT hZ (ow hw 107 rfl)) (mvT hZ (ow hw 3 rfl)) (mvT hZ (ow hw 108 rfl)) (by decide) (backOf (W := 0) (rmStep l Z a0 hw b1049 k1049 p3 (5 : Int32) (Int32.ofNat nf) (Int32.ofNat nt) xa1122_ xb1122_ xc1122_ T1122.heap n0 (Nat.le_trans Z0 KK1123.1) Vs1122_ g_b1049) hZ (ow hw 108 rfl) (ow hw 3 rfl) (by decide) (by decide)) (g := (mkF m 451 #[iv p1, iv p2, iv p3, iv p4, iv p5, iv ps_, iv vi, iv vj, iv vk, iv pa, iv pb, iv pcc, iv (Int32.ofNat cd), iv (Int32.ofNat nr), iv (Int32.ofNat nf), iv (Int32.ofNat nt), rv b993, rv b1002, rv b1010, rv b1016, rv b1049, rv b1061, .unset, .unset, .unset, .unset] [(.int (Int32.ofNat nt)), (.int (Int32.ofNat nf)), (.int 5), (.int p3), (.ref b1049)])) rfl (by rw [hml]; rfl) (argsL := [(.ref b1049), (.int p3), (.int 5), (.int (Int32.ofNat nf)), (.int (Int32.ofNat nt))]) (rest := []) (lenOf pd_6ca6aec rfl) rfl (by show 2 * 0 + _ ≤ _; exact Nat.le_of_eq rfl) (hc at_451) (fun _ _ => ⟨rfl, rfl, (by decide : 26 + 0 ≤ _), (by decide : 5947 + 0 ≤ _)⟩)
  dsimp only [Pt.U, Pt.locs, Pt.cells, Pt.slots] at X1125 l1125 y1125 z1125 st1125 hQ1125
  subst l1125 y1125 z1125
  obtain ⟨rfl, Nq1125, Kq1125, V1125⟩ := hQ1125
  have KK1126 := KK1123.trans Kq1125 (allS (Or.inr sz_b1049) all0)
  have NN1127 := Fr.app NN1124 Nq1125
  refine gT T1125 454 [] (fun zt zk => st1125 zt zk) ?_
  obtain ⟨xa1125_, xb1125_, xc1125_, ht1125_⟩ := own_tri (own_stp p3 (5 : Int32) (Int32.ofNat nf) (Int32.ofNat nt) (xa1122_, xb1122_, xc1122_))
  have Vs1125_ : Arv Z T1125.heap b1049 k1049 .int (3 : Int32) [(.int xa1125_), (.int xb1125_), (.int xc1125_)] (.int 0) := by
    have q := V1125
    rw [ht1125_] at q
    exact q
  refine gA X1125 hx (hc at_454) rfl (.refl 456) ?_
  refine gLN X1125 hx (hc at_456) rfl (.refl 457) ?_
  refine gB (z := 6) X1125 hx (hc at_457) rfl (.refl 459) ?_
  refine gL X1125 hx (hc at_459) rfl (.refl 461) ?_
  refine gL X1125 hx (hc at_461) rfl (.refl 463) ?_
  obtain ⟨vr1128, _, ⟨T1128, L1128, k1128, n1128⟩, -, X1128, ⟨Lc1128, hQ1128, l1128, y1128, z1128⟩, st1128⟩ := Jvm.LawKit.callS X1125 hx (y := Y15) hown (mvT hZ (ow hw 106 rfl)) (mvT hZ (ow hw 107 rfl)) (mvT hZ (ow hw 3 rfl)) (mvT hZ (ow hw 108 rfl)) (by decide) (backOf (W := 0) (rmStep l Z a0 hw b1049 k1049 p3 (6 : Int32) (Int32.ofNat nf) (Int32.ofNat nt) xa1125_ xb1125_ xc1125_ T1125.heap n0 (Nat.le_trans Z0 KK1126.1) Vs1125_ g_b1049) hZ (ow hw 108 rfl) (ow hw 3 rfl) (by decide) (by decide)) (g := (mkF m 463 #[iv p1, iv p2, iv p3, iv p4, iv p5, iv ps_, iv vi, iv vj, iv vk, iv pa, iv pb, iv pcc, iv (Int32.ofNat cd), iv (Int32.ofNat nr), iv (Int32.ofNat nf), iv (Int32.ofNat nt), rv b993, rv b1002, rv b1010, rv b1016, rv b1049, rv b1061, .unset, .unset, .unset, .unset] [(.int (Int32.ofNat nt)), (.int (Int32.ofNat nf)), (.int 6), (.int p3), (.ref b1049)])) rfl (by rw [hml]; rfl) (argsL := [(.ref b1049), (.int p3), (.int 6), (.int (Int32.ofNat nf)), (.int (Int32.ofNat nt))]) (rest := []) (lenOf pd_6ca6aec rfl) rfl (by show 2 * 0 + _ ≤ _; exact Nat.le_of_eq rfl) (hc at_463) (fun _ _ => ⟨rfl, rfl, (by decide : 26 + 0 ≤ _), (by decide : 5947 + 0 ≤ _)⟩)
  dsimp only [Pt.U, Pt.locs, Pt.cells, Pt.slots] at X1128 l1128 y1128 z1128 st1128 hQ1128
  subst l1128 y1128 z1128
  obtain ⟨rfl, Nq1128, Kq1128, V1128⟩ := hQ1128
  have KK1129 := KK1126.trans Kq1128 (allS (Or.inr sz_b1049) all0)
  have NN1130 := Fr.app NN1127 Nq1128
  refine gT T1128 466 [] (fun zt zk => st1128 zt zk) ?_
  obtain ⟨xa1128_, xb1128_, xc1128_, ht1128_⟩ := own_tri (own_stp p3 (6 : Int32) (Int32.ofNat nf) (Int32.ofNat nt) (xa1125_, xb1125_, xc1125_))
  have Vs1128_ : Arv Z T1128.heap b1049 k1049 .int (3 : Int32) [(.int xa1128_), (.int xb1128_), (.int xc1128_)] (.int 0) := by
    have q := V1128
    rw [ht1128_] at q
    exact q
  refine gA X1128 hx (hc at_466) rfl (.refl 468) ?_
  refine gLN X1128 hx (hc at_468) rfl (.refl 469) ?_
  refine gB (z := 7) X1128 hx (hc at_469) rfl (.refl 471) ?_
  refine gL X1128 hx (hc at_471) rfl (.refl 473) ?_
  refine gL X1128 hx (hc at_473) rfl (.refl 475) ?_
  obtain ⟨vr1131, _, ⟨T1131, L1131, k1131, n1131⟩, -, X1131, ⟨Lc1131, hQ1131, l1131, y1131, z1131⟩, st1131⟩ := Jvm.LawKit.callS X1128 hx (y := Y15) hown (mvT hZ (ow hw 106 rfl)) (mvT hZ (ow hw 107 rfl)) (mvT hZ (ow hw 3 rfl)) (mvT hZ (ow hw 108 rfl)) (by decide) (backOf (W := 0) (rmStep l Z a0 hw b1049 k1049 p3 (7 : Int32) (Int32.ofNat nf) (Int32.ofNat nt) xa1128_ xb1128_ xc1128_ T1128.heap n0 (Nat.le_trans Z0 KK1129.1) Vs1128_ g_b1049) hZ (ow hw 108 rfl) (ow hw 3 rfl) (by decide) (by decide)) (g := (mkF m 475 #[iv p1, iv p2, iv p3, iv p4, iv p5, iv ps_, iv vi, iv vj, iv vk, iv pa, iv pb, iv pcc, iv (Int32.ofNat cd), iv (Int32.ofNat nr), iv (Int32.ofNat nf), iv (Int32.ofNat nt), rv b993, rv b1002, rv b1010, rv b1016, rv b1049, rv b1061, .unset, .unset, .unset, .unset] [(.int (Int32.ofNat nt)), (.int (Int32.ofNat nf)), (.int 7), (.int p3), (.ref b1049)])) rfl (by rw [hml]; rfl) (argsL := [(.ref b1049), (.int p3), (.int 7), (.int (Int32.ofNat nf)), (.int (Int32.ofNat nt))]) (rest := []) (lenOf pd_6ca6aec rfl) rfl (by show 2 * 0 + _ ≤ _; exact Nat.le_of_eq rfl) (hc at_475) (fun _ _ => ⟨rfl, rfl, (by decide : 26 + 0 ≤ _), (by decide : 5947 + 0 ≤ _)⟩)
  dsimp only [Pt.U, Pt.locs, Pt.cells, Pt.slots] at X1131 l1131 y1131 z1131 st1131 hQ1131
  subst l1131 y1131 z1131
  obtain ⟨rfl, Nq1131, Kq1131, V1131⟩ := hQ1131
  have KK1132 := KK1129.trans Kq1131 (allS (Or.inr sz_b1049) all0)
  have NN1133 := Fr.app NN1130 Nq1131
  refine gT T1131 478 [] (fun zt zk => st1131 zt zk) ?_
  obtain ⟨xa1131_, xb1131_, xc1131_, ht1131_⟩ := own_tri (own_stp p3 (7 : Int32) (Int32.ofNat nf) (Int32.ofNat nt) (xa1128_, xb1128_, xc1128_))
  have Vs1131_ : Arv Z T1131.heap b1049 k1049 .int (3 : Int32) [(.int xa1131_), (.int xb1131_), (.int xc1131_)] (.int 0) := by
    have q := V1131
    rw [ht1131_] at q
    exact q
  refine gA X1131 hx (hc at_478) rfl (.refl 480) ?_
  refine gC (z := 0) X1131 hx (hc at_480) rfl (.refl 481) ?_
  refine gIA X1131 hx hZ (rfl : T1131.heap = T1131.heap) Vs1131_ (.int xa1131_) ⟨by decide, by decide⟩ rfl (hc at_481) (.refl 482) ?_
  have hfo := own_fo8 ht1109_ ht1112_ ht1116_ ht1119_ ht1122_ ht1125_ ht1128_ ht1131_
  have KS := (((((((Kq1109.trans Kq1112 (allS (Or.inl (List.mem_of_getElem? (i := 0) rfl)) all0)).trans Kq1116 (allS (Or.inl (List.mem_of_getElem? (i := 0) rfl)) all0)).trans Kq1119 (allS (Or.inl (List.mem_of_getElem? (i := 0) rfl)) all0)).trans Kq1122 (allS (Or.inl (List.mem_of_getElem? (i := 0) rfl)) all0)).trans Kq1125 (allS (Or.inl (List.mem_of_getElem? (i := 0) rfl)) all0)).trans Kq1128 (allS (Or.inl (List.mem_of_getElem? (i := 0) rfl)) all0)).trans Kq1131 (allS (Or.inl (List.mem_of_getElem? (i := 0) rfl)) all0))
  have RSn : own_RS Z T1131.heap (b + 1) 6 QG := RSq.keep KS (fun j hj => (ninS (show (b + 1 + j : Nat) ≠ b1049 by omega) nin0))
  have f1135 := ((((((((Oc.keep Kq1109 (ninS (Ne.symm ne1066) nin0)).keep Kq1112 (ninS (Ne.symm ne1066) nin0)).keep Kq1116 (ninS (Ne.symm ne1066) nin0)).keep Kq1119 (ninS (Ne.symm ne1066) nin0)).keep Kq1122 (ninS (Ne.symm ne1066) nin0)).keep Kq1125 (ninS (Ne.symm ne1066) nin0)).keep Kq1128 (ninS (Ne.symm ne1066) nin0)).keep Kq1131 (ninS (Ne.symm ne1066) nin0))
  have f1136 := ((((((((Os.keep Kq1109 (ninS (Ne.symm ne1066) nin0)).keep Kq1112 (ninS (Ne.symm ne1066) nin0)).keep Kq1116 (ninS (Ne.symm ne1066) nin0)).keep Kq1119 (ninS (Ne.symm ne1066) nin0)).keep Kq1122 (ninS (Ne.symm ne1066) nin0)).keep Kq1125 (ninS (Ne.symm ne1066) nin0)).keep Kq1128 (ninS (Ne.symm ne1066) nin0)).keep Kq1131 (ninS (Ne.symm ne1066) nin0))
  have ne1137 : (b : Nat) ≠ b1049 := by omega
  have f1138 := ((((((((VC.keep Kq1109 (ninS ne1137 nin0)).keep Kq1112 (ninS ne1137 nin0)).keep Kq1116 (ninS ne1137 nin0)).keep Kq1119 (ninS ne1137 nin0)).keep Kq1122 (ninS ne1137 nin0)).keep Kq1125 (ninS ne1137 nin0)).keep Kq1128 (ninS ne1137 nin0)).keep Kq1131 (ninS ne1137 nin0))
  have ne1139 : (b1016 : Nat) ≠ (b + 19) := by omega
  have ne1140 : (b1016 : Nat) ≠ (b + 18) := by omega
  have ne1141 : (b1016 : Nat) ≠ (b + 7 + 1 + (3 * cd + 2)) := by omega
  have ne1142 : (b1016 : Nat) ≠ (b + 7 + 1 + (3 * cd + 1)) := by omega
  have ne1143 : (b1016 : Nat) ≠ (b + 7 + 1 + (3 * cd + 0)) := by omega
  have ne1144 : (b1016 : Nat) ≠ (b + 1 + (3 * cd + 2)) := by omega
  have ne1145 : (b1016 : Nat) ≠ (b + 1 + (3 * cd + 1)) := by omega
  have ne1146 : (b1016 : Nat) ≠ (b + 1 + (3 * cd + 0)) := by omega
  have f1147 := (((((((((f1092.keep Kq1097 (ninS ne1065 (ninS ne1146 (ninS ne1145 (ninS ne1144 (ninS ne1143 (ninS ne1142 (ninS ne1141 (ninS ne1091 (ninS ne1090 (ninS ne1089 (ninS ne1140 (ninS ne1139 nin0))))))))))))).keep Kq1109 (ninS ne1056 nin0)).keep Kq1112 (ninS ne1056 nin0)).keep Kq1116 (ninS ne1056 nin0)).keep Kq1119 (ninS ne1056 nin0)).keep Kq1122 (ninS ne1056 nin0)).keep Kq1125 (ninS ne1056 nin0)).keep Kq1128 (ninS ne1056 nin0)).keep Kq1131 (ninS ne1056 nin0))
  have f1148 := ((((((((Eo.keep Kq1109).keep Kq1112).keep Kq1116).keep Kq1119).keep Kq1122).keep Kq1125).keep Kq1128).keep Kq1131)
  suffices JJ : ∀ (en_ ex_ : Int32), ex_ = own_ex (xa1131_, xb1131_, xc1131_) → Go p e below (T1131.setTop (mkF m 537 #[iv p1, iv p2, iv p3, iv p4, iv p5, iv ps_, iv vi, iv vj, iv vk, iv pa, iv pb, iv pcc, iv (Int32.ofNat cd), iv (Int32.ofNat nr), iv (Int32.ofNat nf), iv (Int32.ofNat nt), rv b993, rv b1002, rv b1010, rv b1016, rv b1049, rv b1061, iv en_, iv ex_, .unset, .unset] [])) (EndN s (Q_rm0 Z p1 p2 p3 p4 p5 h0 n0) room_1.cells room_1.slots) by
   by_cases hz0 : xa1131_ = (0 : Int32)
   ·
    refine gIN X1131 hx (hc at_482) ((if0 _ _).trans (teq hz0).2) (.refl 485) ?_
    have hen : own_en xa1131_ = (3 : Int32) := by unfold own_en; rw [if_pos hz0]
    refine gC (z := 3) X1131 hx (hc at_485) rfl (.refl 486) ?_
    refine gG (q := 502) X1131 hx (hc at_486) (by decide) ?_
    refine gP 504 #[iv p1, iv p2, iv p3, iv p4, iv p5, iv ps_, iv vi, iv vj, iv vk, iv pa, iv pb, iv pcc, iv (Int32.ofNat cd), iv (Int32.ofNat nr), iv (Int32.ofNat nf), iv (Int32.ofNat nt), rv b993, rv b1002, rv b1010, rv b1016, rv b1049, rv b1061, iv 3, .unset, .unset, .unset] [] (fun zt zk => XS.istore X1131.here hx rfl (hc at_502) rfl (l' := _) rfl zk) ?_
    refine gA X1131 hx (hc at_504) rfl (.refl 506) ?_
    refine gC (z := 2) X1131 hx (hc at_506) rfl (.refl 507) ?_
    refine gIA X1131 hx hZ (rfl : T1131.heap = T1131.heap) Vs1131_ (.int xc1131_) ⟨by decide, by decide⟩ rfl (hc at_507) (.refl 508) ?_
    by_cases hz2 : xc1131_ = (0 : Int32)
    ·
     refine gIN X1131 hx (hc at_508) ((if0 _ _).trans (teq hz2).2) (.refl 511) ?_
     refine gL X1131 hx (hc at_511) rfl (.refl 513) ?_
     refine gIY (q := 522) X1131 hx (hc at_513) ((if0 _ _).trans (feq (by decide)).2) (by decide) ?_
     refine gA X1131 hx (hc at_522) rfl (.refl 524) ?_
     refine gC (z := 1) X1131 hx (hc at_524) rfl (.refl 525) ?_
     refine gIA X1131 hx hZ (rfl : T1131.heap = T1131.heap) Vs1131_ (.int xb1131_) ⟨by decide, by decide⟩ rfl (hc at_525) (.refl 526) ?_
     refine gL X1131 hx (hc at_526) rfl (.refl 528) ?_
     refine giadd X1131 hx (hc at_528) (.refl 529) ?_
     refine gB (z := 7) X1131 hx (hc at_529) rfl (.refl 531) ?_
     refine giadd X1131 hx (hc at_531) (.refl 532) ?_
     refine gB (z := 8) X1131 hx (hc at_532) rfl (.refl 534) ?_
     refine gS 535 [(.int (((xb1131_ + (3 : Int32)) + (7 : Int32)) / (8 : Int32)))] (fun zt zk => XS.idiv X1131.here hx rfl (hc at_534) rfl (by decide) zk) ?_
     refine gP 537 #[iv p1, iv p2, iv p3, iv p4, iv p5, iv ps_, iv vi, iv vj, iv vk, iv pa, iv pb, iv pcc, iv (Int32.ofNat cd), iv (Int32.ofNat nr), iv (Int32.ofNat nf), iv (Int32.ofNat nt), rv b993, rv b1002, rv b1010, rv b1016, rv b1049, rv b1061, iv 3, iv (((xb1131_ + (3 : Int32)) + (7 : Int32)) / (8 : Int32)), .unset, .unset] [] (fun zt zk => XS.istore X1131.here hx rfl (hc at_535) rfl (l' := _) rfl zk) ?_
     exact JJ _ _ (by
       show _ = (if ¬ xc1131_ = 0 ∨ own_en xa1131_ = 0 then -1 else (xb1131_ + own_en xa1131_ + (7 : Int32)) / (8 : Int32))
       rw [if_neg (fun q => q.elim (fun z => z hz2) (fun z => absurd (hen.symm.trans z) (by decide))), hen])
    ·
     refine gIY (q := 516) X1131 hx (hc at_508) ((if0 _ _).trans (feq hz2).2) (by decide) ?_
     refine gC (z := -1) X1131 hx (hc at_516) rfl (.refl 517) ?_
     refine gP 519 #[iv p1, iv p2, iv p3, iv p4, iv p5, iv ps_, iv vi, iv vj, iv vk, iv pa, iv pb, iv pcc, iv (Int32.ofNat cd), iv (Int32.ofNat nr), iv (Int32.ofNat nf), iv (Int32.ofNat nt), rv b993, rv b1002, rv b1010, rv b1016, rv b1049, rv b1061, iv 3, iv (-1 : Int32), .unset, .unset] [] (fun zt zk => XS.istore X1131.here hx rfl (hc at_517) rfl (l' := _) rfl zk) ?_
     refine gG (q := 537) X1131 hx (hc at_519) (by decide) ?_
     exact JJ _ _ (by
       show _ = (if ¬ xc1131_ = 0 ∨ own_en xa1131_ = 0 then -1 else (xb1131_ + own_en xa1131_ + (7 : Int32)) / (8 : Int32))
       rw [if_pos (Or.inl hz2)])
   ·
    refine gIY (q := 489) X1131 hx (hc at_482) ((if0 _ _).trans (feq hz0).2) (by decide) ?_
    refine gA X1131 hx (hc at_489) rfl (.refl 491) ?_
    refine gC (z := 0) X1131 hx (hc at_491) rfl (.refl 492) ?_
    refine gIA X1131 hx hZ (rfl : T1131.heap = T1131.heap) Vs1131_ (.int xa1131_) ⟨by decide, by decide⟩ rfl (hc at_492) (.refl 493) ?_
    refine gC (z := 1) X1131 hx (hc at_493) rfl (.refl 494) ?_
    by_cases hz1 : xa1131_ = (1 : Int32)
    ·
     refine gJN X1131 hx (hc at_494) (teq hz1).2 (.refl 497) ?_
     have hen : own_en xa1131_ = (0 : Int32) := by unfold own_en; rw [if_neg hz0, if_pos hz1]
     refine gC (z := 0) X1131 hx (hc at_497) rfl (.refl 498) ?_
     refine gG (q := 502) X1131 hx (hc at_498) (by decide) ?_
     refine gP 504 #[iv p1, iv p2, iv p3, iv p4, iv p5, iv ps_, iv vi, iv vj, iv vk, iv pa, iv pb, iv pcc, iv (Int32.ofNat cd), iv (Int32.ofNat nr), iv (Int32.ofNat nf), iv (Int32.ofNat nt), rv b993, rv b1002, rv b1010, rv b1016, rv b1049, rv b1061, iv 0, .unset, .unset, .unset] [] (fun zt zk => XS.istore X1131.here hx rfl (hc at_502) rfl (l' := _) rfl zk) ?_
     refine gA X1131 hx (hc at_504) rfl (.refl 506) ?_
     refine gC (z := 2) X1131 hx (hc at_506) rfl (.refl 507) ?_
     refine gIA X1131 hx hZ (rfl : T1131.heap = T1131.heap) Vs1131_ (.int xc1131_) ⟨by decide, by decide⟩ rfl (hc at_507) (.refl 508) ?_
     by_cases hz2 : xc1131_ = (0 : Int32)
     ·
      refine gIN X1131 hx (hc at_508) ((if0 _ _).trans (teq hz2).2) (.refl 511) ?_
      refine gL X1131 hx (hc at_511) rfl (.refl 513) ?_
      refine gIN X1131 hx (hc at_513) ((if0 _ _).trans (teq (by decide)).2) (.refl 516) ?_
      refine gC (z := -1) X1131 hx (hc at_516) rfl (.refl 517) ?_
      refine gP 519 #[iv p1, iv p2, iv p3, iv p4, iv p5, iv ps_, iv vi, iv vj, iv vk, iv pa, iv pb, iv pcc, iv (Int32.ofNat cd), iv (Int32.ofNat nr), iv (Int32.ofNat nf), iv (Int32.ofNat nt), rv b993, rv b1002, rv b1010, rv b1016, rv b1049, rv b1061, iv 0, iv (-1 : Int32), .unset, .unset] [] (fun zt zk => XS.istore X1131.here hx rfl (hc at_517) rfl (l' := _) rfl zk) ?_
      refine gG (q := 537) X1131 hx (hc at_519) (by decide) ?_
      exact JJ _ _ (by
        show _ = (if ¬ xc1131_ = 0 ∨ own_en xa1131_ = 0 then -1 else (xb1131_ + own_en xa1131_ + (7 : Int32)) / (8 : Int32))
        rw [if_pos (Or.inr hen)])
     ·
      refine gIY (q := 516) X1131 hx (hc at_508) ((if0 _ _).trans (feq hz2).2) (by decide) ?_
      refine gC (z := -1) X1131 hx (hc at_516) rfl (.refl 517) ?_
      refine gP 519 #[iv p1, iv p2, iv p3, iv p4, iv p5, iv ps_, iv vi, iv vj, iv vk, iv pa, iv pb, iv pcc, iv (Int32.ofNat cd), iv (Int32.ofNat nr), iv (Int32.ofNat nf), iv (Int32.ofNat nt), rv b993, rv b1002, rv b1010, rv b1016, rv b1049, rv b1061, iv 0, iv (-1 : Int32), .unset, .unset] [] (fun zt zk => XS.istore X1131.here hx rfl (hc at_517) rfl (l' := _) rfl zk) ?_
      refine gG (q := 537) X1131 hx (hc at_519) (by decide) ?_
      exact JJ _ _ (by
        show _ = (if ¬ xc1131_ = 0 ∨ own_en xa1131_ = 0 then -1 else (xb1131_ + own_en xa1131_ + (7 : Int32)) / (8 : Int32))
        rw [if_pos (Or.inl hz2)])
    ·
     refine gJY (q := 501) X1131 hx (hc at_494) (feq hz1).2 (by decide) ?_
     have hen : own_en xa1131_ = (1 : Int32) := by unfold own_en; rw [if_neg hz0, if_neg hz1]
     refine gC (z := 1) X1131 hx (hc at_501) rfl (.refl 502) ?_
     refine gP 504 #[iv p1, iv p2, iv p3, iv p4, iv p5, iv ps_, iv vi, iv vj, iv vk, iv pa, iv pb, iv pcc, iv (Int32.ofNat cd), iv (Int32.ofNat nr), iv (Int32.ofNat nf), iv (Int32.ofNat nt), rv b993, rv b1002, rv b1010, rv b1016, rv b1049, rv b1061, iv 1, .unset, .unset, .unset] [] (fun zt zk => XS.istore X1131.here hx rfl (hc at_502) rfl (l' := _) rfl zk) ?_
     refine gA X1131 hx (hc at_504) rfl (.refl 506) ?_
     refine gC (z := 2) X1131 hx (hc at_506) rfl (.refl 507) ?_
     refine gIA X1131 hx hZ (rfl : T1131.heap = T1131.heap) Vs1131_ (.int xc1131_) ⟨by decide, by decide⟩ rfl (hc at_507) (.refl 508) ?_
     by_cases hz2 : xc1131_ = (0 : Int32)
     ·
      refine gIN X1131 hx (hc at_508) ((if0 _ _).trans (teq hz2).2) (.refl 511) ?_
      refine gL X1131 hx (hc at_511) rfl (.refl 513) ?_
      refine gIY (q := 522) X1131 hx (hc at_513) ((if0 _ _).trans (feq (by decide)).2) (by decide) ?_
      refine gA X1131 hx (hc at_522) rfl (.refl 524) ?_
      refine gC (z := 1) X1131 hx (hc at_524) rfl (.refl 525) ?_
      refine gIA X1131 hx hZ (rfl : T1131.heap = T1131.heap) Vs1131_ (.int xb1131_) ⟨by decide, by decide⟩ rfl (hc at_525) (.refl 526) ?_
      refine gL X1131 hx (hc at_526) rfl (.refl 528) ?_
      refine giadd X1131 hx (hc at_528) (.refl 529) ?_
      refine gB (z := 7) X1131 hx (hc at_529) rfl (.refl 531) ?_
      refine giadd X1131 hx (hc at_531) (.refl 532) ?_
      refine gB (z := 8) X1131 hx (hc at_532) rfl (.refl 534) ?_
      refine gS 535 [(.int (((xb1131_ + (1 : Int32)) + (7 : Int32)) / (8 : Int32)))] (fun zt zk => XS.idiv X1131.here hx rfl (hc at_534) rfl (by decide) zk) ?_
      refine gP 537 #[iv p1, iv p2, iv p3, iv p4, iv p5, iv ps_, iv vi, iv vj, iv vk, iv pa, iv pb, iv pcc, iv (Int32.ofNat cd), iv (Int32.ofNat nr), iv (Int32.ofNat nf), iv (Int32.ofNat nt), rv b993, rv b1002, rv b1010, rv b1016, rv b1049, rv b1061, iv 1, iv (((xb1131_ + (1 : Int32)) + (7 : Int32)) / (8 : Int32)), .unset, .unset] [] (fun zt zk => XS.istore X1131.here hx rfl (hc at_535) rfl (l' := _) rfl zk) ?_
      exact JJ _ _ (by
        show _ = (if ¬ xc1131_ = 0 ∨ own_en xa1131_ = 0 then -1 else (xb1131_ + own_en xa1131_ + (7 : Int32)) / (8 : Int32))
        rw [if_neg (fun q => q.elim (fun z => z hz2) (fun z => absurd (hen.symm.trans z) (by decide))), hen])
     ·
      refine gIY (q := 516) X1131 hx (hc at_508) ((if0 _ _).trans (feq hz2).2) (by decide) ?_
      refine gC (z := -1) X1131 hx (hc at_516) rfl (.refl 517) ?_
      refine gP 519 #[iv p1, iv p2, iv p3, iv p4, iv p5, iv ps_, iv vi, iv vj, iv vk, iv pa, iv pb, iv pcc, iv (Int32.ofNat cd), iv (Int32.ofNat nr), iv (Int32.ofNat nf), iv (Int32.ofNat nt), rv b993, rv b1002, rv b1010, rv b1016, rv b1049, rv b1061, iv 1, iv (-1 : Int32), .unset, .unset] [] (fun zt zk => XS.istore X1131.here hx rfl (hc at_517) rfl (l' := _) rfl zk) ?_
      refine gG (q := 537) X1131 hx (hc at_519) (by decide) ?_
      exact JJ _ _ (by
        show _ = (if ¬ xc1131_ = 0 ∨ own_en xa1131_ = 0 then -1 else (xb1131_ + own_en xa1131_ + (7 : Int32)) / (8 : Int32))
        rw [if_pos (Or.inl hz2)])
  intro en_ ex_ hex
  have g_0 : (fun part => QG (3 * cd + part)) 0 = (own_seq (own_up (own_up (own_up (own_up (fun _ => (0 : Int32)) ub (3 : Int32)) 256 (3 : Int32)) us (2 : Int32)) ua (1 : Int32)) 9).1 := by rw [hQG]; exact if_pos rfl
  have g_1 : (fun part => QG (3 * cd + part)) 1 = (own_seq (own_up (own_up (own_up (fun _ => (0 : Int32)) y0 (2 : Int32)) y1 (2 : Int32)) us (1 : Int32)) 9).1 := by rw [hQG]; exact Eq.trans (if_neg (own_gn (by decide))) (if_pos rfl)
  have g_2 : (fun part => QG (3 * cd + part)) 2 = (own_seq (own_up (own_up (own_up (fun _ => (0 : Int32)) j0 (2 : Int32)) j1 (2 : Int32)) 256 (1 : Int32)) 9).1 := by rw [hQG]; exact Eq.trans (if_neg (own_gn (by decide))) (Eq.trans (if_neg (own_gn (by decide))) (if_pos rfl))
  have g_z : (fun part => QG (3 * (1 - cd) + part)) 0 = (fun _ => (0 : Int32)) := by rw [hQG]; exact Eq.trans (if_neg (own_gz hcd (by decide))) (Eq.trans (if_neg (own_gz hcd (by decide))) (if_neg (own_gz hcd (by decide))))
  obtain ⟨hKK, hEE⟩ := own_hKE (psel := p3) la lb lc ls nab nas_ nbs_ nca ncb ncs hy hj (own_k4 da1 da2 da3 da4 da5 da6 db1 db2 db3 db4).2 (own_k3 dc1 dc2 dc3 dd1 dd2 dd3).2 (own_k3 de1 de2 de3 df1 df2 df3).2 (G := (fun part => QG (3 * cd + part))) g_0 g_1 g_2
  have VB0 : ∀ part, part < 3 → 3 * cd + part < 6 := fun part hp => own_vb hcd hp
  have VB1 : ∀ part, part < 3 → 3 * (1 - cd) + part < 6 := fun part hp => own_vb (own_cd1 hcd) hp
  have hgot : own_cb (fun part => QG (3 * cd + part)) (own_lf p3 pa pb pcc ps_) (own_ui p3 ua ub uc us) ps_ (nt - nf) nf 0 0 = ex_ := (own_got hft ht8 hKK hEE (own_lfs nas nbs ncs2)).trans (by rw [hfo]; exact hex.symm)
  have hoth : own_cb (fun part => QG (3 * (1 - cd) + part)) (own_lf p3 pa pb pcc ps_) (own_ui p3 ua ub uc us) ps_ (nt - nf) nf 0 0 = -1 := own_oth _ _ _ (fun u => congrFun g_z u)
  refine gA X1131 hx (hc at_537) rfl (.refl 539) ?_
  refine gL X1131 hx (hc at_539) rfl (.refl 541) ?_
  refine gA X1131 hx (hc at_541) rfl (.refl 543) ?_
  refine gL X1131 hx (hc at_543) rfl (.refl 545) ?_
  refine gL X1131 hx (hc at_545) rfl (.refl 547) ?_
  obtain ⟨cq1155, kq1155, q1155a, q1155b, q1155c⟩ := isOf hZ rfl f1148
  obtain ⟨vr1155, _, ⟨T1155, L1155, k1155, n1155⟩, -, X1155, ⟨Lc1155, hQ1155, l1155, y1155, z1155⟩, st1155⟩ := X1131.virtualBack hx (y := Y16) (z := Y16) hown (mvT hZ (ow hw 109 rfl)) (mvT hZ (ow hw 110 rfl)) (notFace_of_selects (args := #[]) (mvT hZ (ow hw 112 rfl))) (mvT hZ (ow hw 112 rfl)) (mvT hZ (ow hw 111 rfl)) (by decide) (backOf (W := 0) (rmCB l Z a0 hw b1061 b b1016 kC k1016 (fun part => QG (3 * cd + part)) (own_lf p3 pa pb pcc ps_) (own_ui p3 ua ub uc us) ps_ nf nt cd T1131.heap n0 (Nat.le_trans Z0 KK1132.1) f1135 f1136 f1138 (fun part hp => RSn (3 * cd + part) (VB0 part hp)) f1147 (fun i _ => own_lfu hua hub huc hus la lb lc ls i) hft ht8 hcd) hZ (ow hw 113 rfl) (ow hw 8 rfl) (by decide) (by decide)) q1155a q1155c (g := (mkF m 547 #[iv p1, iv p2, iv p3, iv p4, iv p5, iv ps_, iv vi, iv vj, iv vk, iv pa, iv pb, iv pcc, iv (Int32.ofNat cd), iv (Int32.ofNat nr), iv (Int32.ofNat nf), iv (Int32.ofNat nt), rv b993, rv b1002, rv b1010, rv b1016, rv b1049, rv b1061, iv en_, iv ex_, .unset, .unset] [(.int (Int32.ofNat nt)), (.int (Int32.ofNat nf)), (.ref b1016), (.int (Int32.ofNat cd)), (.ref b1061)])) rfl (by rw [hml]; rfl) (Steps.refl _) (argsL := [(.int (Int32.ofNat cd)), (.ref b1016), (.int (Int32.ofNat nf)), (.int (Int32.ofNat nt))]) (rest := []) (lenOf pd_73f9964 rfl) rfl (by show 2 * 0 + _ ≤ _; exact Nat.le_of_eq rfl) (hc at_547) (fun _ _ => ⟨rfl, rfl, (by decide : 26 + 0 ≤ _), (by decide : 5947 + 0 ≤ _)⟩)
  dsimp only [Pt.U, Pt.locs, Pt.cells, Pt.slots] at X1155 l1155 y1155 z1155 st1155 hQ1155
  subst l1155 y1155 z1155
  obtain ⟨rfl, Nq1155, eq1155⟩ := hQ1155
  have NN1156 := Fr.app NN1133 Nq1155
  refine gT T1155 550 [(.int (own_cb (fun part => QG (3 * cd + part)) (own_lf p3 pa pb pcc ps_) (own_ui p3 ua ub uc us) ps_ (nt - nf) nf 0 0))] (fun zt zk => st1155.trans zk) ?_
  rw [hgot]
  refine gP 552 #[iv p1, iv p2, iv p3, iv p4, iv p5, iv ps_, iv vi, iv vj, iv vk, iv pa, iv pb, iv pcc, iv (Int32.ofNat cd), iv (Int32.ofNat nr), iv (Int32.ofNat nf), iv (Int32.ofNat nt), rv b993, rv b1002, rv b1010, rv b1016, rv b1049, rv b1061, iv en_, iv ex_, iv ex_, .unset] [] (fun zt zk => XS.istore X1155.here hx rfl (hc at_550) rfl (l' := _) rfl zk) ?_
  refine gA X1155 hx (hc at_552) rfl (.refl 554) ?_
  refine gL X1155 hx (hc at_554) rfl (.refl 556) ?_
  refine gC (z := 1) X1155 hx (hc at_556) rfl (.refl 557) ?_
  refine gS 558 [(.int ((Int32.ofNat cd) ^^^ (1 : Int32))), (.ref b1061)] (fun zt zk => XS.ixor X1155.here hx rfl (hc at_557) rfl zk) ?_
  rw [own_x1 hcd]
  refine gA X1155 hx (hc at_558) rfl (.refl 560) ?_
  refine gL X1155 hx (hc at_560) rfl (.refl 562) ?_
  refine gL X1155 hx (hc at_562) rfl (.refl 564) ?_
  obtain ⟨LX1157, XX1157, NX1157⟩ : ∃ LX, Stand p l e room_1 s m #[(.int p1), (.int p2), (.int p3), (.int p4), (.int p5)] below meth c T1155 LX 26 5947 ∧ Fr n0 LX := ⟨_, X1155, NN1156⟩
  obtain ⟨cq1158, kq1158, q1158a, q1158b, q1158c⟩ := isOf hZ eq1155 f1148
  obtain ⟨vr1158, _, ⟨T1158, L1158, k1158, n1158⟩, -, X1158, ⟨Lc1158, hQ1158, l1158, y1158, z1158⟩, st1158⟩ := XX1157.virtualBack hx (y := Y16) (z := Y16) hown (mvT hZ (ow hw 109 rfl)) (mvT hZ (ow hw 110 rfl)) (notFace_of_selects (args := #[]) (mvT hZ (ow hw 112 rfl))) (mvT hZ (ow hw 112 rfl)) (mvT hZ (ow hw 111 rfl)) (by decide) (backOf (W := 0) (rmCB l Z a0 hw b1061 b b1016 kC k1016 (fun part => QG (3 * (1 - cd) + part)) (own_lf p3 pa pb pcc ps_) (own_ui p3 ua ub uc us) ps_ nf nt (1 - cd) T1131.heap n0 (Nat.le_trans Z0 KK1132.1) f1135 f1136 f1138 (fun part hp => RSn (3 * (1 - cd) + part) (VB1 part hp)) f1147 (fun i _ => own_lfu hua hub huc hus la lb lc ls i) hft ht8 (own_cd1 hcd)) hZ (ow hw 113 rfl) (ow hw 8 rfl) (by decide) (by decide)) q1158a q1158c (g := (mkF m 564 #[iv p1, iv p2, iv p3, iv p4, iv p5, iv ps_, iv vi, iv vj, iv vk, iv pa, iv pb, iv pcc, iv (Int32.ofNat cd), iv (Int32.ofNat nr), iv (Int32.ofNat nf), iv (Int32.ofNat nt), rv b993, rv b1002, rv b1010, rv b1016, rv b1049, rv b1061, iv en_, iv ex_, iv ex_, .unset] [(.int (Int32.ofNat nt)), (.int (Int32.ofNat nf)), (.ref b1016), (.int (Int32.ofNat (1 - cd))), (.ref b1061)])) rfl (by rw [hml]; rfl) (Steps.refl _) (argsL := [(.int (Int32.ofNat (1 - cd))), (.ref b1016), (.int (Int32.ofNat nf)), (.int (Int32.ofNat nt))]) (rest := []) (lenOf pd_73f9964 rfl) rfl (by show 2 * 0 + _ ≤ _; exact Nat.le_of_eq rfl) (hc at_564) (fun _ _ => ⟨rfl, eq1155, (by decide : 26 + 0 ≤ _), (by decide : 5947 + 0 ≤ _)⟩)
  dsimp only [Pt.U, Pt.locs, Pt.cells, Pt.slots] at X1158 l1158 y1158 z1158 st1158 hQ1158
  subst l1158 y1158 z1158
  obtain ⟨rfl, Nq1158, eq1158⟩ := hQ1158
  have NN1159 := Fr.app NX1157 Nq1158
  refine gT T1158 567 [(.int (own_cb (fun part => QG (3 * (1 - cd) + part)) (own_lf p3 pa pb pcc ps_) (own_ui p3 ua ub uc us) ps_ (nt - nf) nf 0 0))] (fun zt zk => st1158.trans zk) ?_
  rw [hoth]
  refine gP 569 #[iv p1, iv p2, iv p3, iv p4, iv p5, iv ps_, iv vi, iv vj, iv vk, iv pa, iv pb, iv pcc, iv (Int32.ofNat cd), iv (Int32.ofNat nr), iv (Int32.ofNat nf), iv (Int32.ofNat nt), rv b993, rv b1002, rv b1010, rv b1016, rv b1049, rv b1061, iv en_, iv ex_, iv ex_, iv (-1 : Int32)] [] (fun zt zk => XS.istore X1158.here hx rfl (hc at_567) rfl (l' := _) rfl zk) ?_
  refine gL X1158 hx (hc at_569) rfl (.refl 571) ?_
  refine gL X1158 hx (hc at_571) rfl (.refl 573) ?_
  refine gJN X1158 hx (hc at_573) (teq rfl).2 (.refl 576) ?_
  refine gL X1158 hx (hc at_576) rfl (.refl 578) ?_
  refine gC (z := -1) X1158 hx (hc at_578) rfl (.refl 579) ?_
  refine gJN X1158 hx (hc at_579) (teq rfl).2 (.refl 582) ?_
  refine gC (z := 1) X1158 hx (hc at_582) rfl (.refl 583) ?_
  refine gG (q := 587) X1158 hx (hc at_583) (by decide) ?_
  exact Go.done X1158 Bd.notSynchronized (v := some (.int (nar .boolean (1 : Int32)))) (fun h => by rw [Bd.returns] at h; cases h) (fun fs hr => retN X1158 hx (t := .boolean) Bd.returns (by simp) (hc at_587) hr) (by rw [eq1158]; exact ⟨rfl, NN1159⟩) (by decide) (by decide)
set_option maxRecDepth 65536 in
set_option maxHeartbeats 40000000 in
theorem comes_1 {Post : Tables → Env → Array Value → State → Outcome → State → Prop} (hpost : ∀ tb e args s v u, (limb_1_1.after args s (.returned v) u = true ∧ limb_1_2.after args s (.returned v) u = true ∧ True) → FrameEnd s (.returned v) u (Jvm.fieldLocs frame_1_writes args s ++ Jvm.arrayLocs frame_1_arrays args s ++ Jvm.staticLocs frame_1_statics s) 64 11968 → Post tb e args s (.returned v) u) :
    ArmFor flags0 classFile x code maxLocals ret World_1 tables_1 room_1 Calls_1 rest_1 Pre_1 Post := by
  intro l hfl _ _ p e ha hc hk s m args below hf hA hF happ hP
  obtain ⟨hcalls, hrest, hpre⟩ := hP
  obtain ⟨-, -, -, hnamed, -, -, -, hat⟩ := (Spec.applies_iff hf).mp happ
  obtain ⟨hg, hn⟩ := and_e (Cond.before_iff.mp (show (Jvm.Cond.and given_1 narrow_1).before args s = true from hpre))
  obtain ⟨gc, gr0⟩ := and_e hg
  obtain ⟨ga0, gr1⟩ := and_e gr0
  obtain ⟨ga1, gr2⟩ := and_e gr1
  obtain ⟨ga2, gr3⟩ := and_e gr2
  obtain ⟨ga3, gr4⟩ := and_e gr3
  obtain ⟨w0, w1, w2, w3, w4, rfl⟩ : ∃ w0 w1 w2 w3 w4 : Value, args = #[w0, w1, w2, w3, w4] := by
    have hs : args.size = 5 := by simpa [Cond.value, given_1] using gc
    obtain ⟨L⟩ := args
    match L, hs with
    | [w0, w1, w2, w3, w4], _ => exact ⟨w0, w1, w2, w3, w4, rfl⟩
  have hw := fun d (hd : d ∈ tables_1) => atoms_spec (ws := Jvm.Cond.code x code maxLocals ret :: tables_1) hat d (List.mem_cons_of_mem _ hd)
  have hfit : Fit s := fun {y c} hc i hi => by
    obtain ⟨ha, rfl⟩ := Array.getElem?_eq_some_iff.mp hc
    have q := List.all_eq_true.mp ((Array.all_eq_true_iff_forall_mem.mp hF) _ (Array.getElem_mem ha)) i (List.mem_range.mpr hi)
    simpa [Array.getElem?_eq_getElem hi] using q
  obtain ⟨i0, ei0⟩ := is_v ga0
  obtain rfl : w0 = (.int i0) := Option.some.inj ei0
  obtain ⟨i1, ei1⟩ := is_v ga1
  obtain rfl : w1 = (.int i1) := Option.some.inj ei1
  obtain ⟨i2, ei2⟩ := is_v ga2
  obtain rfl : w2 = (.int i2) := Option.some.inj ei2
  obtain ⟨i3, ei3⟩ := is_v ga3
  obtain rfl : w3 = (.int i3) := Option.some.inj ei3
  obtain ⟨i4, ei4⟩ := is_v gr4
  obtain rfl : w4 = (.int i4) := Option.some.inj ei4

  obtain ⟨n, o, h1, h2, h3, _, L, rfl, ⟨rfl, N⟩, hq⟩ := rm0 l s _ hw tables_1 i0 i1 i2 i3 i4 s.heap s.heap.size (Nat.le_refl _) p e ha hc hk s m _ below hf ((Spec.applies_iff_loose hf).mp happ).1 ⟨rfl, State.Warmed39.refl s, rfl⟩ trivial
  refine ⟨n, _, h1, h2, h3, hpost _ _ _ _ _ _ ⟨Cond.after_iff.mpr rfl, Cond.after_iff.mpr (eq_i res_at (Term.int_eval (1)) rfl), trivial⟩ ⟨hq.1, hq.2.1, (hq.2.2.sift fun y hy => Or.inr (N y hy)).mono (by decide) (by decide)⟩⟩
theorem main_1_1 : Claimed_1_1 := comes_1 fun _ _ _ _ _ _ h hF => ⟨h.1, hF⟩
theorem main_1_2 : Claimed_1_2 := comes_1 fun _ _ _ _ _ _ h hF => ⟨h.2.1, hF⟩
end Jvm.Pilot.@@N@@
namespace Jvm.Pilot.@@N@@
open Jvm Jvm.ClassFile Sem Op Lib Jvm.Free Jvm.Stand Jvm.Pilot.@@N@@.Jvm.D
/-! MADE BY PROGRAM (witnessworld.py) out of the Statement's table words and the real class files: 16 classes; the members and pool entries that the words name. The judged class is class 1, her method 1. -/
namespace start1
open Jvm.ClassFile
def u (s : String) : CpInfo := .utf8 (stringToUtf16 s)
/-- a pool by its gaps: so many unusable entries, then the entry; so many at the end -/
def gap : Nat → List CpInfo → List CpInfo
  | 0, r => r
  | n + 1, r => .unusable :: gap n r
def poolList (es : List (Nat × CpInfo)) (last : Nat) : List CpInfo := es.foldr (fun e r => gap e.1 (e.2 :: r)) (gap last [])
def pool (es : List (Nat × CpInfo)) (last : Nat) : Array CpInfo := ⟨poolList es last⟩
def fileOf (pool : Array CpInfo) (this : Nat) (attrs : Array Attribute := #[]) (ms : Array MethodInfo := #[]) (fl : Nat := 33) (sup : Nat := 0) (ifs : Array Nat := #[]) (fds : Array FieldInfo := #[]) : ClassFile where
  minorVersion := 0
  majorVersion := 65
  constantPool := pool
  accessFlags := fl
  thisClass := this
  superClass := sup
  interfaces := ifs
  fields := fds
  methods := ms
  attributes := attrs
def plain (name : String) (sup : Option ClassId) : Class where
  name := name
  kind := .ordinary
  loader := none
  accessFlags := 33
  super := sup
  interfaces := #[]
  cf := none
  fields := #[]
  methods := #[]
  instanceTypes := #[]
  staticTypes := #[]
  resolved := #[]
  callSites := []
  init := .initialized
  statics := none
  mirror := none

def pool0 : Array CpInfo := pool [(5, u "<init>"), (0, u "()V"), (1, .class_ 10), (1, u "java/lang/Object")] 113

def k0c0 : Code := { maxStack := 0, maxLocals := 1, code := object_method_1_code, exceptionTable := #[], attributes := #[] }
def k0m0 : Method := { name := "<init>", desc := "()V", sig := { parameters := [], returnType := none }, accessFlags := 1, code := some k0c0 }
/-- java/lang/Object -/
def k0 : Class := { plain "java/lang/Object" none with
  accessFlags := 33
  interfaces := #[]
  cf := some (fileOf pool0 8 #[] #[{ accessFlags := 1, nameIndex := 5, descriptorIndex := 6, attributes := #[] }] 33 0 #[] #[])
  fields := #[]
  methods := #[k0m0]
  instanceTypes := #[]
  staticTypes := #[]
  resolved := Array.replicate 124 none
  statics := none }

def pool1 : Array CpInfo := pool [(2, .class_ 4), (1, u "java/lang/Object"), (0, u "<init>"), (0, u "()V"), (0, .methodref 8 9), (0, .class_ 10), (0, .nameAndType 11 12), (0, u "com/example/tributary/tributary/join/LineCodesCodedBytesPinLaw"), (0, u "pick"), (0, u "(IIBBBB)B"), (0, .class_ 14), (0, u "com/example/tributary/tributary/join/LineCodes"), (0, .methodref 13 16), (0, .nameAndType 5 17), (0, u "(B)V"), (0, .methodref 13 19), (0, .nameAndType 20 21), (0, u "count"), (0, u "([BII)V"), (0, .methodref 13 23), (0, .nameAndType 24 25), (0, u "make"), (0, u "(I)V"), (0, .methodref 8 27), (0, .nameAndType 28 29), (0, u "step"), (0, u "([IIIII)V"), (0, .methodref 13 31), (0, .nameAndType 32 33), (0, u "codedBytes"), (0, u "(I[BII)I"), (0, .methodref 8 35), (0, .nameAndType 36 37), (0, u "length"), (0, u "(II)I"), (2, u "law"), (0, u "(IIIII)Z")] 7

def k1m0 : Method := { name := "<init>", desc := "()V", sig := { parameters := [], returnType := none }, accessFlags := 1, code := none }
def k1c1 : Code := { maxStack := 8, maxLocals := 26, code := code, exceptionTable := #[], attributes := #[] }
def k1m1 : Method := { name := "law", desc := "(IIIII)Z", sig := { parameters := [.int, .int, .int, .int, .int], returnType := some .boolean }, accessFlags := 9, code := some k1c1 }
def k1c2 : Code := { maxStack := 3, maxLocals := 7, code := method_3_code, exceptionTable := #[], attributes := #[] }
def k1m2 : Method := { name := "pick", desc := "(IIBBBB)B", sig := { parameters := [.int, .int, .byte, .byte, .byte, .byte], returnType := some .byte }, accessFlags := 10, code := some k1c2 }
def k1c3 : Code := { maxStack := 2, maxLocals := 2, code := method_4_code, exceptionTable := #[], attributes := #[] }
def k1m3 : Method := { name := "length", desc := "(II)I", sig := { parameters := [.int, .int], returnType := some .int }, accessFlags := 10, code := some k1c3 }
def k1c4 : Code := { maxStack := 4, maxLocals := 7, code := method_5_code, exceptionTable := #[], attributes := #[] }
def k1m4 : Method := { name := "step", desc := "([IIIII)V", sig := { parameters := [(.array .int), .int, .int, .int, .int], returnType := none }, accessFlags := 10, code := some k1c4 }
/-- com/example/tributary/tributary/join/LineCodesCodedBytesPinLaw -/
def k1 : Class := { plain "com/example/tributary/tributary/join/LineCodesCodedBytesPinLaw" (some 0) with
  accessFlags := 49
  interfaces := #[]
  cf := some (fileOf pool1 8 #[] #[{ accessFlags := 1, nameIndex := 5, descriptorIndex := 6, attributes := #[] }, { accessFlags := 9, nameIndex := 40, descriptorIndex := 41, attributes := #[] }, { accessFlags := 10, nameIndex := 11, descriptorIndex := 12, attributes := #[] }, { accessFlags := 10, nameIndex := 36, descriptorIndex := 37, attributes := #[] }, { accessFlags := 10, nameIndex := 28, descriptorIndex := 29, attributes := #[] }] 49 2 #[] #[])
  fields := #[]
  methods := #[k1m0, k1m1, k1m2, k1m3, k1m4]
  instanceTypes := #[]
  staticTypes := #[]
  resolved := Array.replicate 49 none
  statics := none }

def pool2 : Array CpInfo := pool [(1, .class_ 2), (0, u "com/example/tributary/tributary/join/LineCodes"), (6, .methodref 10 11), (0, .class_ 12), (0, .nameAndType 13 14), (0, u "java/lang/Object"), (0, u "<init>"), (0, u "()V"), (0, .class_ 16), (0, u "[[S"), (0, .fieldref 1 18), (0, .nameAndType 19 16), (0, u "codes"), (0, .fieldref 1 21), (0, .nameAndType 22 16), (0, u "tables"), (0, .class_ 24), (0, u "[[I"), (0, .fieldref 1 26), (0, .nameAndType 27 24), (0, u "counts"), (0, .fieldref 1 29), (0, .nameAndType 30 31), (0, u "weights"), (0, u "[J"), (0, .fieldref 1 33), (0, .nameAndType 34 35), (0, u "order"), (0, u "[S"), (0, .fieldref 1 37), (0, .nameAndType 38 39), (0, u "separator"), (0, u "B"), (0, .fieldref 1 41), (0, .nameAndType 42 43), (0, u "sinceHalved"), (0, u "I"), (0, .integer 1073741824), (0, .methodref 1 46), (0, .nameAndType 47 14), (0, u "halve"), (0, .fieldref 1 49), (0, .nameAndType 50 51), (0, u "countedBytes"), (0, u "J"), (0, .fieldref 1 53), (0, .nameAndType 54 51), (0, u "countedLines"), (0, .methodref 1 56), (0, .nameAndType 57 58), (0, u "weigh"), (0, u "([II)I"), (0, .methodref 1 60), (0, .nameAndType 61 62), (0, u "codeLengths"), (0, u "(I)V"), (0, .methodref 1 64), (0, .nameAndType 65 66), (0, u "fits"), (0, u "(I)Z"), (0, .methodref 1 68), (0, .nameAndType 69 70), (0, u "assign"), (0, u "(I[S[S)V"), (0, .methodref 1 72), (0, .nameAndType 73 14), (0, u "forget"), (0, .methodref 75 76), (0, .class_ 77), (0, .nameAndType 78 79), (0, u "java/lang/Math"), (0, u "min"), (0, u "(II)I"), (0, .methodref 75 81), (0, .nameAndType 82 79), (0, u "max"), (0, .methodref 84 85), (0, .class_ 86), (0, .nameAndType 87 88), (0, u "java/util/Arrays"), (0, u "sort"), (0, u "([JII)V"), (0, .long 9), (3, u "fill"), (1, .methodref 84 96), (0, .nameAndType 93 97), (0, u "([SS)V"), (0, .methodref 84 99), (0, .nameAndType 93 100), (0, u "([SIIS)V"), (2, .long 8), (3, u "WORD"), (0, u "Ljava/lang/invoke/VarHandle;"), (22, u "CODES"), (2, u "FIELDS"), (1, u "MAX_BITS"), (1, u "END"), (1, u "SYMBOLS"), (1, u "LENGTH_BITS"), (1, u "LENGTH_MASK"), (1, u "MOST_HALVINGS"), (1, u "HALVING_COUNT"), (0, u "MEMORY_BYTES"), (2, u "(B)V"), (2, u "count"), (0, u "([BII)V"), (2, u "make"), (2, u "codedBytes"), (0, u "(I[BII)I")] 10

def k2c0 : Code := { maxStack := 3, maxLocals := 2, code := prog_43_method_1_code, exceptionTable := #[], attributes := #[] }
def k2m0 : Method := { name := "<init>", desc := "(B)V", sig := { parameters := [.byte], returnType := none }, accessFlags := 0, code := some k2c0 }
def k2c1 : Code := { maxStack := 5, maxLocals := 6, code := prog_43_method_2_code, exceptionTable := #[], attributes := #[] }
def k2m1 : Method := { name := "count", desc := "([BII)V", sig := { parameters := [(.array .byte), .int, .int], returnType := none }, accessFlags := 0, code := some k2c1 }
def k2c2 : Code := { maxStack := 6, maxLocals := 5, code := prog_43_method_5_code, exceptionTable := #[], attributes := #[] }
def k2m2 : Method := { name := "make", desc := "(I)V", sig := { parameters := [.int], returnType := none }, accessFlags := 0, code := some k2c2 }
def k2c3 : Code := { maxStack := 3, maxLocals := 1, code := prog_43_method_6_code, exceptionTable := #[], attributes := #[] }
def k2m3 : Method := { name := "forget", desc := "()V", sig := { parameters := [], returnType := none }, accessFlags := 0, code := some k2c3 }
def k2c4 : Code := { maxStack := 4, maxLocals := 6, code := prog_43_method_7_code, exceptionTable := #[], attributes := #[] }
def k2m4 : Method := { name := "halve", desc := "()V", sig := { parameters := [], returnType := none }, accessFlags := 2, code := some k2c4 }
def k2c5 : Code := { maxStack := 6, maxLocals := 7, code := prog_43_method_8_code, exceptionTable := #[], attributes := #[] }
def k2m5 : Method := { name := "weigh", desc := "([II)I", sig := { parameters := [(.array .int), .int], returnType := some .int }, accessFlags := 2, code := some k2c5 }
def k2c6 : Code := { maxStack := 5, maxLocals := 4, code := prog_43_method_9_code, exceptionTable := #[], attributes := #[] }
def k2m6 : Method := { name := "fits", desc := "(I)Z", sig := { parameters := [.int], returnType := some .boolean }, accessFlags := 2, code := some k2c6 }
def k2c7 : Code := { maxStack := 6, maxLocals := 9, code := prog_43_method_10_code, exceptionTable := #[], attributes := #[] }
def k2m7 : Method := { name := "codeLengths", desc := "(I)V", sig := { parameters := [.int], returnType := none }, accessFlags := 2, code := some k2c7 }
def k2c8 : Code := { maxStack := 6, maxLocals := 8, code := prog_43_method_11_code, exceptionTable := #[], attributes := #[] }
def k2m8 : Method := { name := "assign", desc := "(I[S[S)V", sig := { parameters := [.int, (.array .short), (.array .short)], returnType := none }, accessFlags := 2, code := some k2c8 }
def k2c9 : Code := { maxStack := 4, maxLocals := 11, code := prog_43_method_12_code, exceptionTable := #[], attributes := #[] }
def k2m9 : Method := { name := "codedBytes", desc := "(I[BII)I", sig := { parameters := [.int, (.array .byte), .int, .int], returnType := some .int }, accessFlags := 0, code := some k2c9 }
/-- com/example/tributary/tributary/join/LineCodes -/
def k2 : Class := { plain "com/example/tributary/tributary/join/LineCodes" (some 0) with
  accessFlags := 48
  interfaces := #[]
  cf := some (fileOf pool2 1 #[] #[{ accessFlags := 0, nameIndex := 13, descriptorIndex := 152, attributes := #[] }, { accessFlags := 0, nameIndex := 155, descriptorIndex := 156, attributes := #[] }, { accessFlags := 0, nameIndex := 159, descriptorIndex := 62, attributes := #[] }, { accessFlags := 0, nameIndex := 73, descriptorIndex := 14, attributes := #[] }, { accessFlags := 2, nameIndex := 47, descriptorIndex := 14, attributes := #[] }, { accessFlags := 2, nameIndex := 57, descriptorIndex := 58, attributes := #[] }, { accessFlags := 2, nameIndex := 65, descriptorIndex := 66, attributes := #[] }, { accessFlags := 2, nameIndex := 61, descriptorIndex := 62, attributes := #[] }, { accessFlags := 2, nameIndex := 69, descriptorIndex := 70, attributes := #[] }, { accessFlags := 0, nameIndex := 162, descriptorIndex := 163, attributes := #[] }] 48 10 #[] #[{ accessFlags := 24, nameIndex := 131, descriptorIndex := 43, attributes := #[] }, { accessFlags := 24, nameIndex := 134, descriptorIndex := 43, attributes := #[] }, { accessFlags := 24, nameIndex := 136, descriptorIndex := 43, attributes := #[] }, { accessFlags := 26, nameIndex := 138, descriptorIndex := 43, attributes := #[] }, { accessFlags := 26, nameIndex := 140, descriptorIndex := 43, attributes := #[] }, { accessFlags := 26, nameIndex := 142, descriptorIndex := 43, attributes := #[] }, { accessFlags := 26, nameIndex := 144, descriptorIndex := 43, attributes := #[] }, { accessFlags := 26, nameIndex := 146, descriptorIndex := 43, attributes := #[] }, { accessFlags := 26, nameIndex := 148, descriptorIndex := 43, attributes := #[] }, { accessFlags := 24, nameIndex := 149, descriptorIndex := 51, attributes := #[] }, { accessFlags := 26, nameIndex := 107, descriptorIndex := 108, attributes := #[] }, { accessFlags := 18, nameIndex := 38, descriptorIndex := 39, attributes := #[] }, { accessFlags := 18, nameIndex := 19, descriptorIndex := 16, attributes := #[] }, { accessFlags := 18, nameIndex := 22, descriptorIndex := 16, attributes := #[] }, { accessFlags := 18, nameIndex := 27, descriptorIndex := 24, attributes := #[] }, { accessFlags := 18, nameIndex := 30, descriptorIndex := 31, attributes := #[] }, { accessFlags := 18, nameIndex := 34, descriptorIndex := 35, attributes := #[] }, { accessFlags := 2, nameIndex := 50, descriptorIndex := 51, attributes := #[] }, { accessFlags := 2, nameIndex := 54, descriptorIndex := 51, attributes := #[] }, { accessFlags := 2, nameIndex := 42, descriptorIndex := 43, attributes := #[] }])
  fields := #[{ name := "CODES", type := .int, accessFlags := 24, slot := 0, constantValue := 0 }, { name := "FIELDS", type := .int, accessFlags := 24, slot := 1, constantValue := 0 }, { name := "MAX_BITS", type := .int, accessFlags := 24, slot := 2, constantValue := 0 }, { name := "END", type := .int, accessFlags := 26, slot := 3, constantValue := 0 }, { name := "SYMBOLS", type := .int, accessFlags := 26, slot := 4, constantValue := 0 }, { name := "LENGTH_BITS", type := .int, accessFlags := 26, slot := 5, constantValue := 0 }, { name := "LENGTH_MASK", type := .int, accessFlags := 26, slot := 6, constantValue := 0 }, { name := "MOST_HALVINGS", type := .int, accessFlags := 26, slot := 7, constantValue := 0 }, { name := "HALVING_COUNT", type := .int, accessFlags := 26, slot := 8, constantValue := 0 }, { name := "MEMORY_BYTES", type := .long, accessFlags := 24, slot := 9, constantValue := 0 }, { name := "WORD", type := (.object "java/lang/invoke/VarHandle"), accessFlags := 26, slot := 10, constantValue := 0 }, { name := "separator", type := .byte, accessFlags := 18, slot := 0, constantValue := 0 }, { name := "codes", type := (.array (.array .short)), accessFlags := 18, slot := 1, constantValue := 0 }, { name := "tables", type := (.array (.array .short)), accessFlags := 18, slot := 2, constantValue := 0 }, { name := "counts", type := (.array (.array .int)), accessFlags := 18, slot := 3, constantValue := 0 }, { name := "weights", type := (.array .long), accessFlags := 18, slot := 4, constantValue := 0 }, { name := "order", type := (.array .short), accessFlags := 18, slot := 5, constantValue := 0 }, { name := "countedBytes", type := .long, accessFlags := 2, slot := 6, constantValue := 0 }, { name := "countedLines", type := .long, accessFlags := 2, slot := 7, constantValue := 0 }, { name := "sinceHalved", type := .int, accessFlags := 2, slot := 8, constantValue := 0 }]
  methods := #[k2m0, k2m1, k2m2, k2m3, k2m4, k2m5, k2m6, k2m7, k2m8, k2m9]
  instanceTypes := #[.byte, (.array (.array .short)), (.array (.array .short)), (.array (.array .int)), (.array .long), (.array .short), .long, .long, .int]
  staticTypes := #[.int, .int, .int, .int, .int, .int, .int, .int, .int, .long, (.object "java/lang/invoke/VarHandle")]
  resolved := Array.replicate 174 none
  statics := none }

def pool3 : Array CpInfo := pool [(1, .class_ 2), (0, u "java/lang/Math"), (1, .class_ 6), (1, u "java/lang/Object"), (0, u "<init>"), (0, u "()V"), (89, .class_ 100), (1, u "java/lang/Math$RandomNumberGeneratorHolder"), (71, u "negativeZeroFloatBits"), (0, u "J"), (2, u "negativeZeroDoubleBits"), (21, u "max"), (2, u "min"), (43, u "$assertionsDisabled"), (0, u "Z"), (88, u "(II)I"), (2, u "twoToTheDoubleScaleDown"), (0, u "D"), (4, u "twoToTheDoubleScaleUp"), (9, u "E"), (3, u "PI"), (2, u "TAU"), (2, u "DEGREES_TO_RADIANS"), (0, u "RADIANS_TO_DEGREES")] 94

def k3m0 : Method := { name := "<init>", desc := "()V", sig := { parameters := [], returnType := none }, accessFlags := 2, code := none }
def k3c1 : Code := { maxStack := 2, maxLocals := 2, code := jdk_29_method_65_code, exceptionTable := #[], attributes := #[] }
def k3m1 : Method := { name := "max", desc := "(II)I", sig := { parameters := [.int, .int], returnType := some .int }, accessFlags := 9, code := some k3c1 }
def k3c2 : Code := { maxStack := 2, maxLocals := 2, code := jdk_29_method_69_code, exceptionTable := #[], attributes := #[] }
def k3m2 : Method := { name := "min", desc := "(II)I", sig := { parameters := [.int, .int], returnType := some .int }, accessFlags := 9, code := some k3c2 }
/-- java/lang/Math -/
def k3 : Class := { plain "java/lang/Math" (some 0) with
  accessFlags := 49
  interfaces := #[]
  cf := some (fileOf pool3 1 #[.nestMembers #[98]] #[{ accessFlags := 2, nameIndex := 7, descriptorIndex := 8, attributes := #[] }, { accessFlags := 9, nameIndex := 198, descriptorIndex := 335, attributes := #[] }, { accessFlags := 9, nameIndex := 201, descriptorIndex := 335, attributes := #[] }] 49 4 #[] #[{ accessFlags := 25, nameIndex := 354, descriptorIndex := 339, attributes := #[] }, { accessFlags := 25, nameIndex := 358, descriptorIndex := 339, attributes := #[] }, { accessFlags := 25, nameIndex := 361, descriptorIndex := 339, attributes := #[] }, { accessFlags := 26, nameIndex := 364, descriptorIndex := 339, attributes := #[] }, { accessFlags := 26, nameIndex := 365, descriptorIndex := 339, attributes := #[] }, { accessFlags := 26, nameIndex := 172, descriptorIndex := 173, attributes := #[] }, { accessFlags := 26, nameIndex := 176, descriptorIndex := 173, attributes := #[] }, { accessFlags := 8, nameIndex := 344, descriptorIndex := 339, attributes := #[] }, { accessFlags := 8, nameIndex := 338, descriptorIndex := 339, attributes := #[] }, { accessFlags := 4120, nameIndex := 245, descriptorIndex := 246, attributes := #[] }])
  fields := #[{ name := "E", type := .double, accessFlags := 25, slot := 0, constantValue := 0 }, { name := "PI", type := .double, accessFlags := 25, slot := 1, constantValue := 0 }, { name := "TAU", type := .double, accessFlags := 25, slot := 2, constantValue := 0 }, { name := "DEGREES_TO_RADIANS", type := .double, accessFlags := 26, slot := 3, constantValue := 0 }, { name := "RADIANS_TO_DEGREES", type := .double, accessFlags := 26, slot := 4, constantValue := 0 }, { name := "negativeZeroFloatBits", type := .long, accessFlags := 26, slot := 5, constantValue := 0 }, { name := "negativeZeroDoubleBits", type := .long, accessFlags := 26, slot := 6, constantValue := 0 }, { name := "twoToTheDoubleScaleUp", type := .double, accessFlags := 8, slot := 7, constantValue := 0 }, { name := "twoToTheDoubleScaleDown", type := .double, accessFlags := 8, slot := 8, constantValue := 0 }, { name := "$assertionsDisabled", type := .boolean, accessFlags := 4120, slot := 9, constantValue := 0 }]
  methods := #[k3m0, k3m1, k3m2]
  instanceTypes := #[]
  staticTypes := #[.double, .double, .double, .double, .double, .long, .long, .double, .double, .boolean]
  resolved := Array.replicate 460 none
  statics := none }

def pool4 : Array CpInfo := pool [(2, .class_ 4), (1, u "java/lang/Object"), (0, u "<init>"), (0, u "()V"), (1, .class_ 10), (1, u "java/util/DualPivotQuicksort"), (0, u "sort"), (1, .methodref 14 15), (0, .class_ 16), (0, .nameAndType 17 18), (0, u "java/util/Arrays"), (0, u "rangeCheck"), (0, u "(III)V"), (0, .methodref 8 20), (0, .nameAndType 11 21), (0, u "([JIII)V"), (52, .class_ 76), (1, u "java/util/Arrays$NaturalOrder"), (36, .class_ 115), (1, u "java/util/Arrays$LegacyMergeSort"), (1, u "Z"), (257, .class_ 376), (0, u "java/util/Arrays$ArrayList"), (68, u "$assertionsDisabled"), (269, u "MIN_ARRAY_SORT_GRAN"), (0, u "I"), (2, u "INSERTIONSORT_THRESHOLD"), (12, u "([JII)V"), (107, u "fill"), (5, u "([SS)V"), (0, u "([SIIS)V"), (127, .class_ 976), (0, u "java/util/Arrays$ArrayItr")] 52

def k4m0 : Method := { name := "<init>", desc := "()V", sig := { parameters := [], returnType := none }, accessFlags := 2, code := none }
def k4c1 : Code := { maxStack := 4, maxLocals := 3, code := jdk_65_method_5_code, exceptionTable := #[], attributes := #[] }
def k4m1 : Method := { name := "sort", desc := "([JII)V", sig := { parameters := [(.array .long), .int, .int], returnType := none }, accessFlags := 9, code := some k4c1 }
def k4c2 : Code := { maxStack := 4, maxLocals := 3, code := jdk_65_method_30_code, exceptionTable := #[], attributes := #[] }
def k4m2 : Method := { name := "rangeCheck", desc := "(III)V", sig := { parameters := [.int, .int, .int], returnType := none }, accessFlags := 8, code := some k4c2 }
def k4c3 : Code := { maxStack := 3, maxLocals := 4, code := jdk_65_method_105_code, exceptionTable := #[], attributes := #[] }
def k4m3 : Method := { name := "fill", desc := "([SS)V", sig := { parameters := [(.array .short), .short], returnType := none }, accessFlags := 9, code := some k4c3 }
def k4c4 : Code := { maxStack := 3, maxLocals := 5, code := jdk_65_method_106_code, exceptionTable := #[], attributes := #[] }
def k4m4 : Method := { name := "fill", desc := "([SIIS)V", sig := { parameters := [(.array .short), .int, .int, .short], returnType := none }, accessFlags := 9, code := some k4c4 }
/-- java/util/Arrays -/
def k4 : Class := { plain "java/util/Arrays" (some 0) with
  accessFlags := 49
  interfaces := #[]
  cf := some (fileOf pool4 14 #[.nestMembers #[975, 375, 113, 74]] #[{ accessFlags := 2, nameIndex := 5, descriptorIndex := 6, attributes := #[] }, { accessFlags := 9, nameIndex := 11, descriptorIndex := 732, attributes := #[] }, { accessFlags := 8, nameIndex := 17, descriptorIndex := 18, attributes := #[] }, { accessFlags := 9, nameIndex := 840, descriptorIndex := 846, attributes := #[] }, { accessFlags := 9, nameIndex := 840, descriptorIndex := 847, attributes := #[] }] 49 2 #[] #[{ accessFlags := 26, nameIndex := 715, descriptorIndex := 716, attributes := #[] }, { accessFlags := 26, nameIndex := 719, descriptorIndex := 716, attributes := #[] }, { accessFlags := 4120, nameIndex := 445, descriptorIndex := 117, attributes := #[] }])
  fields := #[{ name := "MIN_ARRAY_SORT_GRAN", type := .int, accessFlags := 26, slot := 0, constantValue := 0 }, { name := "INSERTIONSORT_THRESHOLD", type := .int, accessFlags := 26, slot := 1, constantValue := 0 }, { name := "$assertionsDisabled", type := .boolean, accessFlags := 4120, slot := 2, constantValue := 0 }]
  methods := #[k4m0, k4m1, k4m2, k4m3, k4m4]
  instanceTypes := #[]
  staticTypes := #[.int, .int, .boolean]
  resolved := Array.replicate 1029 none
  statics := none }

def pool5 : Array CpInfo := pool [(1, .class_ 2), (0, u "java/util/DualPivotQuicksort"), (5, .class_ 10), (1, u "java/lang/Object"), (0, u "<init>"), (0, u "()V"), (4, .class_ 18), (0, u "java/util/DualPivotQuicksort$Sorter"), (9, u "sort"), (7, u "insertionSort"), (31, u "I"), (4, .class_ 74), (0, u "java/util/DualPivotQuicksort$RunMerger"), (10, .class_ 86), (0, u "java/util/DualPivotQuicksort$Merger"), (12, .methodref 1 100), (0, .nameAndType 28 101), (0, u "(Ljava/util/DualPivotQuicksort$Sorter;[JIII)V"), (2, u "([JIII)V"), (0, .methodref 1 106), (0, .nameAndType 36 107), (0, u "([JII)V"), (106, u "MAX_MIXED_INSERTION_SORT_SIZE"), (2, u "MAX_INSERTION_SORT_SIZE"), (1, u "MIN_PARALLEL_SORT_SIZE"), (1, u "MIN_TRY_MERGE_SIZE"), (0, u "MIN_FIRST_RUN_SIZE"), (1, u "MIN_FIRST_RUNS_FACTOR"), (1, u "MAX_RUN_CAPACITY"), (1, u "MIN_RUN_COUNT"), (1, u "MIN_PARALLEL_MERGE_PARTS_SIZE"), (0, u "MIN_BYTE_COUNTING_SORT_SIZE"), (1, u "MIN_SHORT_OR_CHAR_COUNTING_SORT_SIZE"), (1, u "DELTA"), (1, u "MAX_RECURSION_DEPTH"), (1, u "NUM_BYTE_VALUES"), (1, u "MAX_BYTE_INDEX"), (0, u "NUM_CHAR_VALUES"), (0, u "NUM_SHORT_VALUES"), (0, u "MAX_SHORT_INDEX")] 86

def k5m0 : Method := { name := "<init>", desc := "()V", sig := { parameters := [], returnType := none }, accessFlags := 2, code := none }
def k5c1 : Code := { maxStack := 9, maxLocals := 7, code := jdk_2529_method_12_code, exceptionTable := #[], attributes := #[] }
def k5m1 : Method := { name := "sort", desc := "([JIII)V", sig := { parameters := [(.array .long), .int, .int, .int], returnType := none }, accessFlags := 8, code := some k5c1 }
def k5c2 : Code := { maxStack := 6, maxLocals := 25, code := jdk_2529_method_13_code, exceptionTable := #[], attributes := #[] }
def k5m2 : Method := { name := "sort", desc := "(Ljava/util/DualPivotQuicksort$Sorter;[JIII)V", sig := { parameters := [(.object "java/util/DualPivotQuicksort$Sorter"), (.array .long), .int, .int, .int], returnType := none }, accessFlags := 8, code := some k5c2 }
def k5c3 : Code := { maxStack := 5, maxLocals := 7, code := jdk_2529_method_15_code, exceptionTable := #[], attributes := #[] }
def k5m3 : Method := { name := "insertionSort", desc := "([JII)V", sig := { parameters := [(.array .long), .int, .int], returnType := none }, accessFlags := 10, code := some k5c3 }
/-- java/util/DualPivotQuicksort -/
def k5 : Class := { plain "java/util/DualPivotQuicksort" (some 0) with
  accessFlags := 48
  interfaces := #[]
  cf := some (fileOf pool5 1 #[.nestMembers #[73, 85, 17]] #[{ accessFlags := 2, nameIndex := 11, descriptorIndex := 12, attributes := #[] }, { accessFlags := 8, nameIndex := 28, descriptorIndex := 104, attributes := #[] }, { accessFlags := 8, nameIndex := 28, descriptorIndex := 101, attributes := #[] }, { accessFlags := 10, nameIndex := 36, descriptorIndex := 107, attributes := #[] }] 48 8 #[] #[{ accessFlags := 26, nameIndex := 214, descriptorIndex := 68, attributes := #[] }, { accessFlags := 26, nameIndex := 217, descriptorIndex := 68, attributes := #[] }, { accessFlags := 26, nameIndex := 219, descriptorIndex := 68, attributes := #[] }, { accessFlags := 26, nameIndex := 221, descriptorIndex := 68, attributes := #[] }, { accessFlags := 26, nameIndex := 222, descriptorIndex := 68, attributes := #[] }, { accessFlags := 26, nameIndex := 224, descriptorIndex := 68, attributes := #[] }, { accessFlags := 26, nameIndex := 226, descriptorIndex := 68, attributes := #[] }, { accessFlags := 26, nameIndex := 228, descriptorIndex := 68, attributes := #[] }, { accessFlags := 26, nameIndex := 230, descriptorIndex := 68, attributes := #[] }, { accessFlags := 26, nameIndex := 231, descriptorIndex := 68, attributes := #[] }, { accessFlags := 26, nameIndex := 233, descriptorIndex := 68, attributes := #[] }, { accessFlags := 26, nameIndex := 235, descriptorIndex := 68, attributes := #[] }, { accessFlags := 26, nameIndex := 237, descriptorIndex := 68, attributes := #[] }, { accessFlags := 26, nameIndex := 239, descriptorIndex := 68, attributes := #[] }, { accessFlags := 26, nameIndex := 241, descriptorIndex := 68, attributes := #[] }, { accessFlags := 26, nameIndex := 242, descriptorIndex := 68, attributes := #[] }, { accessFlags := 26, nameIndex := 243, descriptorIndex := 68, attributes := #[] }, { accessFlags := 26, nameIndex := 244, descriptorIndex := 68, attributes := #[] }])
  fields := #[{ name := "MAX_MIXED_INSERTION_SORT_SIZE", type := .int, accessFlags := 26, slot := 0, constantValue := 0 }, { name := "MAX_INSERTION_SORT_SIZE", type := .int, accessFlags := 26, slot := 1, constantValue := 0 }, { name := "MIN_PARALLEL_SORT_SIZE", type := .int, accessFlags := 26, slot := 2, constantValue := 0 }, { name := "MIN_TRY_MERGE_SIZE", type := .int, accessFlags := 26, slot := 3, constantValue := 0 }, { name := "MIN_FIRST_RUN_SIZE", type := .int, accessFlags := 26, slot := 4, constantValue := 0 }, { name := "MIN_FIRST_RUNS_FACTOR", type := .int, accessFlags := 26, slot := 5, constantValue := 0 }, { name := "MAX_RUN_CAPACITY", type := .int, accessFlags := 26, slot := 6, constantValue := 0 }, { name := "MIN_RUN_COUNT", type := .int, accessFlags := 26, slot := 7, constantValue := 0 }, { name := "MIN_PARALLEL_MERGE_PARTS_SIZE", type := .int, accessFlags := 26, slot := 8, constantValue := 0 }, { name := "MIN_BYTE_COUNTING_SORT_SIZE", type := .int, accessFlags := 26, slot := 9, constantValue := 0 }, { name := "MIN_SHORT_OR_CHAR_COUNTING_SORT_SIZE", type := .int, accessFlags := 26, slot := 10, constantValue := 0 }, { name := "DELTA", type := .int, accessFlags := 26, slot := 11, constantValue := 0 }, { name := "MAX_RECURSION_DEPTH", type := .int, accessFlags := 26, slot := 12, constantValue := 0 }, { name := "NUM_BYTE_VALUES", type := .int, accessFlags := 26, slot := 13, constantValue := 0 }, { name := "MAX_BYTE_INDEX", type := .int, accessFlags := 26, slot := 14, constantValue := 0 }, { name := "NUM_CHAR_VALUES", type := .int, accessFlags := 26, slot := 15, constantValue := 0 }, { name := "NUM_SHORT_VALUES", type := .int, accessFlags := 26, slot := 16, constantValue := 0 }, { name := "MAX_SHORT_INDEX", type := .int, accessFlags := 26, slot := 17, constantValue := 0 }]
  methods := #[k5m0, k5m1, k5m2, k5m3]
  instanceTypes := #[]
  staticTypes := #[.int, .int, .int, .int, .int, .int, .int, .int, .int, .int, .int, .int, .int, .int, .int, .int, .int, .int]
  resolved := Array.replicate 331 none
  statics := none }

def pool6 : Array CpInfo := pool [(1, u "java/lang/Cloneable"), (0, .class_ 1), (0, u "java/lang/Object"), (0, .class_ 3)] 3

/-- java/lang/Cloneable -/
def k6 : Class := { plain "java/lang/Cloneable" (some 0) with
  accessFlags := 1537
  interfaces := #[]
  cf := some (fileOf pool6 2 #[] #[] 1537 4 #[] #[])
  fields := #[]
  methods := #[]
  instanceTypes := #[]
  staticTypes := #[]
  resolved := Array.replicate 8 none
  statics := none }

def pool7 : Array CpInfo := pool [(1, u "java/io/Serializable"), (0, .class_ 1), (0, u "java/lang/Object"), (0, .class_ 3)] 3

/-- java/io/Serializable -/
def k7 : Class := { plain "java/io/Serializable" (some 0) with
  accessFlags := 1537
  interfaces := #[]
  cf := some (fileOf pool7 2 #[] #[] 1537 4 #[] #[])
  fields := #[]
  methods := #[]
  instanceTypes := #[]
  staticTypes := #[]
  resolved := Array.replicate 8 none
  statics := none }

/-- the primitive byte -/
def k8 : Class := { plain "byte" none with kind := .primitive 'B', accessFlags := 0x411 }
/-- [B -/
def k9 : Class := { plain "[B" (some 0) with kind := .array 8 .byte, interfaces := #[6, 7], accessFlags := 1041 }

/-- the primitive int -/
def k10 : Class := { plain "int" none with kind := .primitive 'I', accessFlags := 0x411 }
/-- [I -/
def k11 : Class := { plain "[I" (some 0) with kind := .array 10 .int, interfaces := #[6, 7], accessFlags := 1041 }

/-- the primitive long -/
def k12 : Class := { plain "long" none with kind := .primitive 'J', accessFlags := 0x411 }
/-- [J -/
def k13 : Class := { plain "[J" (some 0) with kind := .array 12 .long, interfaces := #[6, 7], accessFlags := 1041 }

/-- the primitive short -/
def k14 : Class := { plain "short" none with kind := .primitive 'S', accessFlags := 0x411 }
/-- [S -/
def k15 : Class := { plain "[S" (some 0) with kind := .array 14 .short, interfaces := #[6, 7], accessFlags := 1041 }

def heap : Heap := #[]
def k16 : Class := { plain "[[S" (some 0) with kind := .array 15 (.array .short), interfaces := #[6, 7], accessFlags := 1041 }
def k17 : Class := { plain "[[I" (some 0) with kind := .array 11 (.array .int), interfaces := #[6, 7], accessFlags := 1041 }
def classes : Array Class := #[k0, k1, k2, k3, k4, k5, k6, k7, k8, k9, k10, k11, k12, k13, k14, k15, k16, k17]
def interned : List (Array UInt16 × Addr) := []
def slotsUsed : Nat := 0
def theMethod : MethodId := ⟨1, 1⟩
def args0 : Array Value := #[.int 5, .int 6, .int 7, .int 3, .int 9]
def aboutOver (below : List Frame) : State where
  vm := { classes := classes, interned := interned.toArray }
  heap := heap
  slotsUsed := slotsUsed
  threads := #[{ frames := .invoking theMethod args0 :: below }]
def below0 : List Frame := [.native { method := ⟨0, 0⟩, args := #[] }]
def about1 : State := aboutOver below0
def p0 : Program := .bare "" "" ""
def e0 : Env := launch0.env 0 0 0
theorem w_frames : about1.frames = Frame.invoking theMethod args0 :: below0 := rfl
set_option maxRecDepth 65536 in
theorem w_args : argsFit about1.vm theMethod args0 = true := by decide +kernel
set_option maxRecDepth 65536 in
theorem w_heap : heapFits about1 = true := by decide +kernel
set_option maxRecDepth 65536 in
theorem w_runnable : about1.curStatus? = some .runnable := by decide +kernel
set_option maxRecDepth 65536 in
theorem w_alone : about1.alone = true := by decide +kernel
set_option maxRecDepth 65536 in
theorem w_named : about1.methodNamed? x = some theMethod := by decide +kernel
set_option maxRecDepth 65536 in
theorem w_hears : about1.hears theMethod below0 = true := by decide +kernel
set_option maxRecDepth 65536 in
theorem w_ripe : about1.ripe theMethod args0 below0 = true := by decide +kernel
theorem w_running : about1.status = .running := rfl
set_option maxRecDepth 65536 in
theorem w_room : about1.hasRoom e0.platform room_1 = true :=
  launch0.hasRoom_least _ room_1 (by decide +kernel) (by decide +kernel) (by decide +kernel) (by decide +kernel) (by decide +kernel) (by decide +kernel)
theorem allAtoms_all (ts : List Jvm.Cond) (a : Array Jvm.Value) (st : Jvm.State) : (allAtoms ts).before a st = ts.all (fun c => c.before a st) := by
  induction ts with
  | nil => rfl
  | cons c t ih =>
    show (Jvm.Cond.and c (allAtoms t)).before a st = _
    rw [Jvm.Cond.before_and, ih, List.all_cons]
def words1 : List Jvm.Cond := Jvm.Cond.code x code maxLocals ret :: tables_1
/-- a 'code' word, met by the world's own term for the bytes: nothing is compared byte by byte -/
theorem code_word {y : MethodName} {bytes : ByteArray} {mx : Nat} {rt : Option FieldType} {a : Array Value} {s : State} {m : MethodId} {meth : Method} {c : Code} (h1 : s.methodNamed? y = some m) (h2 : s.vm.method? m = some meth) (h3 : meth.code = some c) (h4 : c.code = bytes)
    (h5 : (c.maxLocals == mx && c.exceptionTable.isEmpty && decide (c.maxStack ≤ mostOperands) && decide (meth.sig.returnType = rt) && !meth.locks && decide (parseMethodDescriptor y.desc = some meth.sig)) = true) : (Jvm.Cond.code y bytes mx rt).before a s = true := by
  simp only [Bool.and_eq_true, beq_iff_eq, Bool.not_eq_true', decide_eq_true_eq] at h5
  obtain ⟨⟨⟨⟨⟨g1, g2⟩, g3⟩, g4⟩, g5⟩, g6⟩ := h5
  simp [Cond.before, Cond.holds, Cond.value, h1, h2, h3, h4, g1, g2, g3, g4, g5, g6]
def isCode : Jvm.Cond → Bool
  | .code _ _ _ _ => true
  | _ => false
theorem all_split {L : List Jvm.Cond} {P : Jvm.Cond → Bool} (h1 : L.all (fun c => isCode c || P c) = true) (h2 : ∀ c ∈ L.filter isCode, P c = true) : L.all P = true := by
  refine List.all_eq_true.mpr fun c hc => ?_
  have h := List.all_eq_true.mp h1 c hc
  rcases Bool.eq_false_or_eq_true (isCode c) with hi | hi
  · exact h2 c (List.mem_filter.mpr ⟨hc, hi⟩)
  · simpa [hi] using h
set_option maxRecDepth 65536 in
theorem w_c0 : (Jvm.Cond.code x code maxLocals ret).before args0 about1 = true := code_word (m := ⟨1, 1⟩) (meth := k1m1) (c := k1c1) (by decide +kernel) rfl rfl rfl (by decide +kernel)
set_option maxRecDepth 65536 in
theorem w_c1 : (Jvm.Cond.code ({ cls := "com/example/tributary/tributary/join/LineCodesCodedBytesPinLaw", name := "pick", desc := "(IIBBBB)B" } : Jvm.MethodName) method_3_code (7 : Nat) (Option.some Jvm.ClassFile.FieldType.byte)).before args0 about1 = true := code_word (m := ⟨1, 2⟩) (meth := k1m2) (c := k1c2) (by decide +kernel) rfl rfl rfl (by decide +kernel)
set_option maxRecDepth 65536 in
theorem w_c2 : (Jvm.Cond.code ({ cls := "com/example/tributary/tributary/join/LineCodes", name := "<init>", desc := "(B)V" } : Jvm.MethodName) prog_43_method_1_code (2 : Nat) (Option.none : Option Jvm.ClassFile.FieldType)).before args0 about1 = true := code_word (m := ⟨2, 0⟩) (meth := k2m0) (c := k2c0) (by decide +kernel) rfl rfl rfl (by decide +kernel)
set_option maxRecDepth 65536 in
theorem w_c3 : (Jvm.Cond.code ({ cls := "java/lang/Object", name := "<init>", desc := "()V" } : Jvm.MethodName) object_method_1_code (1 : Nat) (Option.none : Option Jvm.ClassFile.FieldType)).before args0 about1 = true := code_word (m := ⟨0, 0⟩) (meth := k0m0) (c := k0c0) (by decide +kernel) rfl rfl rfl (by decide +kernel)
set_option maxRecDepth 65536 in
theorem w_c4 : (Jvm.Cond.code ({ cls := "com/example/tributary/tributary/join/LineCodes", name := "count", desc := "([BII)V" } : Jvm.MethodName) prog_43_method_2_code (6 : Nat) (Option.none : Option Jvm.ClassFile.FieldType)).before args0 about1 = true := code_word (m := ⟨2, 1⟩) (meth := k2m1) (c := k2c1) (by decide +kernel) rfl rfl rfl (by decide +kernel)
set_option maxRecDepth 65536 in
theorem w_c5 : (Jvm.Cond.code ({ cls := "com/example/tributary/tributary/join/LineCodes", name := "make", desc := "(I)V" } : Jvm.MethodName) prog_43_method_5_code (5 : Nat) (Option.none : Option Jvm.ClassFile.FieldType)).before args0 about1 = true := code_word (m := ⟨2, 2⟩) (meth := k2m2) (c := k2c2) (by decide +kernel) rfl rfl rfl (by decide +kernel)
set_option maxRecDepth 65536 in
theorem w_c6 : (Jvm.Cond.code ({ cls := "com/example/tributary/tributary/join/LineCodes", name := "weigh", desc := "([II)I" } : Jvm.MethodName) prog_43_method_8_code (7 : Nat) (Option.some Jvm.ClassFile.FieldType.int)).before args0 about1 = true := code_word (m := ⟨2, 5⟩) (meth := k2m5) (c := k2c5) (by decide +kernel) rfl rfl rfl (by decide +kernel)
set_option maxRecDepth 65536 in
theorem w_c7 : (Jvm.Cond.code ({ cls := "java/lang/Math", name := "min", desc := "(II)I" } : Jvm.MethodName) jdk_29_method_69_code (2 : Nat) (Option.some Jvm.ClassFile.FieldType.int)).before args0 about1 = true := code_word (m := ⟨3, 2⟩) (meth := k3m2) (c := k3c2) (by decide +kernel) rfl rfl rfl (by decide +kernel)
set_option maxRecDepth 65536 in
theorem w_c8 : (Jvm.Cond.code ({ cls := "java/lang/Math", name := "max", desc := "(II)I" } : Jvm.MethodName) jdk_29_method_65_code (2 : Nat) (Option.some Jvm.ClassFile.FieldType.int)).before args0 about1 = true := code_word (m := ⟨3, 1⟩) (meth := k3m1) (c := k3c1) (by decide +kernel) rfl rfl rfl (by decide +kernel)
set_option maxRecDepth 65536 in
theorem w_c9 : (Jvm.Cond.code ({ cls := "java/util/Arrays", name := "sort", desc := "([JII)V" } : Jvm.MethodName) jdk_65_method_5_code (3 : Nat) (Option.none : Option Jvm.ClassFile.FieldType)).before args0 about1 = true := code_word (m := ⟨4, 1⟩) (meth := k4m1) (c := k4c1) (by decide +kernel) rfl rfl rfl (by decide +kernel)
set_option maxRecDepth 65536 in
theorem w_c10 : (Jvm.Cond.code ({ cls := "java/util/Arrays", name := "rangeCheck", desc := "(III)V" } : Jvm.MethodName) jdk_65_method_30_code (3 : Nat) (Option.none : Option Jvm.ClassFile.FieldType)).before args0 about1 = true := code_word (m := ⟨4, 2⟩) (meth := k4m2) (c := k4c2) (by decide +kernel) rfl rfl rfl (by decide +kernel)
set_option maxRecDepth 65536 in
theorem w_c11 : (Jvm.Cond.code ({ cls := "java/util/DualPivotQuicksort", name := "sort", desc := "([JIII)V" } : Jvm.MethodName) jdk_2529_method_12_code (7 : Nat) (Option.none : Option Jvm.ClassFile.FieldType)).before args0 about1 = true := code_word (m := ⟨5, 1⟩) (meth := k5m1) (c := k5c1) (by decide +kernel) rfl rfl rfl (by decide +kernel)
set_option maxRecDepth 65536 in
theorem w_c12 : (Jvm.Cond.code ({ cls := "java/util/DualPivotQuicksort", name := "sort", desc := "(Ljava/util/DualPivotQuicksort$Sorter;[JIII)V" } : Jvm.MethodName) jdk_2529_method_13_code (25 : Nat) (Option.none : Option Jvm.ClassFile.FieldType)).before args0 about1 = true := code_word (m := ⟨5, 2⟩) (meth := k5m2) (c := k5c2) (by decide +kernel) rfl rfl rfl (by decide +kernel)
set_option maxRecDepth 65536 in
theorem w_c13 : (Jvm.Cond.code ({ cls := "java/util/DualPivotQuicksort", name := "insertionSort", desc := "([JII)V" } : Jvm.MethodName) jdk_2529_method_15_code (7 : Nat) (Option.none : Option Jvm.ClassFile.FieldType)).before args0 about1 = true := code_word (m := ⟨5, 3⟩) (meth := k5m3) (c := k5c3) (by decide +kernel) rfl rfl rfl (by decide +kernel)
set_option maxRecDepth 65536 in
theorem w_c14 : (Jvm.Cond.code ({ cls := "com/example/tributary/tributary/join/LineCodes", name := "codeLengths", desc := "(I)V" } : Jvm.MethodName) prog_43_method_10_code (9 : Nat) (Option.none : Option Jvm.ClassFile.FieldType)).before args0 about1 = true := code_word (m := ⟨2, 7⟩) (meth := k2m7) (c := k2c7) (by decide +kernel) rfl rfl rfl (by decide +kernel)
set_option maxRecDepth 65536 in
theorem w_c15 : (Jvm.Cond.code ({ cls := "com/example/tributary/tributary/join/LineCodes", name := "fits", desc := "(I)Z" } : Jvm.MethodName) prog_43_method_9_code (4 : Nat) (Option.some Jvm.ClassFile.FieldType.boolean)).before args0 about1 = true := code_word (m := ⟨2, 6⟩) (meth := k2m6) (c := k2c6) (by decide +kernel) rfl rfl rfl (by decide +kernel)
set_option maxRecDepth 65536 in
theorem w_c16 : (Jvm.Cond.code ({ cls := "com/example/tributary/tributary/join/LineCodes", name := "assign", desc := "(I[S[S)V" } : Jvm.MethodName) prog_43_method_11_code (8 : Nat) (Option.none : Option Jvm.ClassFile.FieldType)).before args0 about1 = true := code_word (m := ⟨2, 8⟩) (meth := k2m8) (c := k2c8) (by decide +kernel) rfl rfl rfl (by decide +kernel)
set_option maxRecDepth 65536 in
theorem w_c17 : (Jvm.Cond.code ({ cls := "java/util/Arrays", name := "fill", desc := "([SS)V" } : Jvm.MethodName) jdk_65_method_105_code (4 : Nat) (Option.none : Option Jvm.ClassFile.FieldType)).before args0 about1 = true := code_word (m := ⟨4, 3⟩) (meth := k4m3) (c := k4c3) (by decide +kernel) rfl rfl rfl (by decide +kernel)
set_option maxRecDepth 65536 in
theorem w_c18 : (Jvm.Cond.code ({ cls := "java/util/Arrays", name := "fill", desc := "([SIIS)V" } : Jvm.MethodName) jdk_65_method_106_code (5 : Nat) (Option.none : Option Jvm.ClassFile.FieldType)).before args0 about1 = true := code_word (m := ⟨4, 4⟩) (meth := k4m4) (c := k4c4) (by decide +kernel) rfl rfl rfl (by decide +kernel)
set_option maxRecDepth 65536 in
theorem w_c19 : (Jvm.Cond.code ({ cls := "com/example/tributary/tributary/join/LineCodes", name := "forget", desc := "()V" } : Jvm.MethodName) prog_43_method_6_code (1 : Nat) (Option.none : Option Jvm.ClassFile.FieldType)).before args0 about1 = true := code_word (m := ⟨2, 3⟩) (meth := k2m3) (c := k2c3) (by decide +kernel) rfl rfl rfl (by decide +kernel)
set_option maxRecDepth 65536 in
theorem w_c20 : (Jvm.Cond.code ({ cls := "com/example/tributary/tributary/join/LineCodes", name := "halve", desc := "()V" } : Jvm.MethodName) prog_43_method_7_code (6 : Nat) (Option.none : Option Jvm.ClassFile.FieldType)).before args0 about1 = true := code_word (m := ⟨2, 4⟩) (meth := k2m4) (c := k2c4) (by decide +kernel) rfl rfl rfl (by decide +kernel)
set_option maxRecDepth 65536 in
theorem w_c21 : (Jvm.Cond.code ({ cls := "com/example/tributary/tributary/join/LineCodesCodedBytesPinLaw", name := "step", desc := "([IIIII)V" } : Jvm.MethodName) method_5_code (7 : Nat) (Option.none : Option Jvm.ClassFile.FieldType)).before args0 about1 = true := code_word (m := ⟨1, 4⟩) (meth := k1m4) (c := k1c4) (by decide +kernel) rfl rfl rfl (by decide +kernel)
set_option maxRecDepth 65536 in
theorem w_c22 : (Jvm.Cond.code ({ cls := "com/example/tributary/tributary/join/LineCodes", name := "codedBytes", desc := "(I[BII)I" } : Jvm.MethodName) prog_43_method_12_code (11 : Nat) (Option.some Jvm.ClassFile.FieldType.int)).before args0 about1 = true := code_word (m := ⟨2, 9⟩) (meth := k2m9) (c := k2c9) (by decide +kernel) rfl rfl rfl (by decide +kernel)
set_option maxRecDepth 65536 in
theorem w_c23 : (Jvm.Cond.code ({ cls := "com/example/tributary/tributary/join/LineCodesCodedBytesPinLaw", name := "length", desc := "(II)I" } : Jvm.MethodName) method_4_code (2 : Nat) (Option.some Jvm.ClassFile.FieldType.int)).before args0 about1 = true := code_word (m := ⟨1, 3⟩) (meth := k1m3) (c := k1c3) (by decide +kernel) rfl rfl rfl (by decide +kernel)
def codes1 : List Jvm.Cond := [Jvm.Cond.code x code maxLocals ret, Jvm.Cond.code ({ cls := "com/example/tributary/tributary/join/LineCodesCodedBytesPinLaw", name := "pick", desc := "(IIBBBB)B" } : Jvm.MethodName) method_3_code (7 : Nat) (Option.some Jvm.ClassFile.FieldType.byte), Jvm.Cond.code ({ cls := "com/example/tributary/tributary/join/LineCodes", name := "<init>", desc := "(B)V" } : Jvm.MethodName) prog_43_method_1_code (2 : Nat) (Option.none : Option Jvm.ClassFile.FieldType), Jvm.Cond.code ({ cls := "java/lang/Object", name := "<init>", desc := "()V" } : Jvm.MethodName) object_method_1_code (1 : Nat) (Option.none : Option Jvm.ClassFile.FieldType), Jvm.Cond.code ({ cls := "com/example/tributary/tributary/join/LineCodes", name := "count", desc := "([BII)V" } : Jvm.MethodName) prog_43_method_2_code (6 : Nat) (Option.none : Option Jvm.ClassFile.FieldType), Jvm.Cond.code ({ cls := "com/example/tributary/tributary/join/LineCodes", name := "make", desc := "(I)V" } : Jvm.MethodName) prog_43_method_5_code (5 : Nat) (Option.none : Option Jvm.ClassFile.FieldType), Jvm.Cond.code ({ cls := "com/example/tributary/tributary/join/LineCodes", name := "weigh", desc := "([II)I" } : Jvm.MethodName) prog_43_method_8_code (7 : Nat) (Option.some Jvm.ClassFile.FieldType.int), Jvm.Cond.code ({ cls := "java/lang/Math", name := "min", desc := "(II)I" } : Jvm.MethodName) jdk_29_method_69_code (2 : Nat) (Option.some Jvm.ClassFile.FieldType.int), Jvm.Cond.code ({ cls := "java/lang/Math", name := "max", desc := "(II)I" } : Jvm.MethodName) jdk_29_method_65_code (2 : Nat) (Option.some Jvm.ClassFile.FieldType.int), Jvm.Cond.code ({ cls := "java/util/Arrays", name := "sort", desc := "([JII)V" } : Jvm.MethodName) jdk_65_method_5_code (3 : Nat) (Option.none : Option Jvm.ClassFile.FieldType), Jvm.Cond.code ({ cls := "java/util/Arrays", name := "rangeCheck", desc := "(III)V" } : Jvm.MethodName) jdk_65_method_30_code (3 : Nat) (Option.none : Option Jvm.ClassFile.FieldType), Jvm.Cond.code ({ cls := "java/util/DualPivotQuicksort", name := "sort", desc := "([JIII)V" } : Jvm.MethodName) jdk_2529_method_12_code (7 : Nat) (Option.none : Option Jvm.ClassFile.FieldType), Jvm.Cond.code ({ cls := "java/util/DualPivotQuicksort", name := "sort", desc := "(Ljava/util/DualPivotQuicksort$Sorter;[JIII)V" } : Jvm.MethodName) jdk_2529_method_13_code (25 : Nat) (Option.none : Option Jvm.ClassFile.FieldType), Jvm.Cond.code ({ cls := "java/util/DualPivotQuicksort", name := "insertionSort", desc := "([JII)V" } : Jvm.MethodName) jdk_2529_method_15_code (7 : Nat) (Option.none : Option Jvm.ClassFile.FieldType), Jvm.Cond.code ({ cls := "com/example/tributary/tributary/join/LineCodes", name := "codeLengths", desc := "(I)V" } : Jvm.MethodName) prog_43_method_10_code (9 : Nat) (Option.none : Option Jvm.ClassFile.FieldType), Jvm.Cond.code ({ cls := "com/example/tributary/tributary/join/LineCodes", name := "fits", desc := "(I)Z" } : Jvm.MethodName) prog_43_method_9_code (4 : Nat) (Option.some Jvm.ClassFile.FieldType.boolean), Jvm.Cond.code ({ cls := "com/example/tributary/tributary/join/LineCodes", name := "assign", desc := "(I[S[S)V" } : Jvm.MethodName) prog_43_method_11_code (8 : Nat) (Option.none : Option Jvm.ClassFile.FieldType), Jvm.Cond.code ({ cls := "java/util/Arrays", name := "fill", desc := "([SS)V" } : Jvm.MethodName) jdk_65_method_105_code (4 : Nat) (Option.none : Option Jvm.ClassFile.FieldType), Jvm.Cond.code ({ cls := "java/util/Arrays", name := "fill", desc := "([SIIS)V" } : Jvm.MethodName) jdk_65_method_106_code (5 : Nat) (Option.none : Option Jvm.ClassFile.FieldType), Jvm.Cond.code ({ cls := "com/example/tributary/tributary/join/LineCodes", name := "forget", desc := "()V" } : Jvm.MethodName) prog_43_method_6_code (1 : Nat) (Option.none : Option Jvm.ClassFile.FieldType), Jvm.Cond.code ({ cls := "com/example/tributary/tributary/join/LineCodes", name := "halve", desc := "()V" } : Jvm.MethodName) prog_43_method_7_code (6 : Nat) (Option.none : Option Jvm.ClassFile.FieldType), Jvm.Cond.code ({ cls := "com/example/tributary/tributary/join/LineCodesCodedBytesPinLaw", name := "step", desc := "([IIIII)V" } : Jvm.MethodName) method_5_code (7 : Nat) (Option.none : Option Jvm.ClassFile.FieldType), Jvm.Cond.code ({ cls := "com/example/tributary/tributary/join/LineCodes", name := "codedBytes", desc := "(I[BII)I" } : Jvm.MethodName) prog_43_method_12_code (11 : Nat) (Option.some Jvm.ClassFile.FieldType.int), Jvm.Cond.code ({ cls := "com/example/tributary/tributary/join/LineCodesCodedBytesPinLaw", name := "length", desc := "(II)I" } : Jvm.MethodName) method_4_code (2 : Nat) (Option.some Jvm.ClassFile.FieldType.int)]
set_option maxRecDepth 65536 in
theorem codes_eq : words1.filter isCode = codes1 := rfl
theorem w_codes : ∀ c ∈ words1.filter isCode, c.before args0 about1 = true := by
  rw [codes_eq]
  intro c hc
  simp only [codes1, List.mem_cons, List.not_mem_nil, or_false] at hc
  rcases hc with rfl | rfl | rfl | rfl | rfl | rfl | rfl | rfl | rfl | rfl | rfl | rfl | rfl | rfl | rfl | rfl | rfl | rfl | rfl | rfl | rfl | rfl | rfl | rfl
  · exact w_c0
  · exact w_c1
  · exact w_c2
  · exact w_c3
  · exact w_c4
  · exact w_c5
  · exact w_c6
  · exact w_c7
  · exact w_c8
  · exact w_c9
  · exact w_c10
  · exact w_c11
  · exact w_c12
  · exact w_c13
  · exact w_c14
  · exact w_c15
  · exact w_c16
  · exact w_c17
  · exact w_c18
  · exact w_c19
  · exact w_c20
  · exact w_c21
  · exact w_c22
  · exact w_c23
set_option maxRecDepth 65536 in
theorem w_t1 : (words1.take 24).all (fun c => isCode c || c.before args0 about1) = true := by decide +kernel
set_option maxRecDepth 65536 in
theorem w_t2 : ((words1.drop 24).take 24).all (fun c => isCode c || c.before args0 about1) = true := by decide +kernel
set_option maxRecDepth 65536 in
theorem w_t3 : (((words1.drop 24).drop 24).take 24).all (fun c => isCode c || c.before args0 about1) = true := by decide +kernel
set_option maxRecDepth 65536 in
theorem w_t4 : ((((words1.drop 24).drop 24).drop 24).take 24).all (fun c => isCode c || c.before args0 about1) = true := by decide +kernel
set_option maxRecDepth 65536 in
theorem w_t5 : ((((words1.drop 24).drop 24).drop 24).drop 24).all (fun c => isCode c || c.before args0 about1) = true := by decide +kernel
theorem w_tables : (allAtoms (Jvm.Cond.code x code maxLocals ret :: tables_1)).before args0 about1 = true := by
  rw [allAtoms_all]
  show words1.all (fun c => c.before args0 about1) = true
  refine all_split ?_ w_codes
  rw [← List.take_append_drop 24 words1, List.all_append, w_t1, ← List.take_append_drop 24 (words1.drop 24), List.all_append, w_t2, ← List.take_append_drop 24 ((words1.drop 24).drop 24), List.all_append, w_t3, ← List.take_append_drop 24 (((words1.drop 24).drop 24).drop 24), List.all_append, w_t4, w_t5]
  rfl
set_option maxRecDepth 65536 in
theorem w_case : (Jvm.Cond.and given_1 narrow_1).before args0 about1 = true := by decide +kernel
theorem w_applies : (headSpec (Jvm.Cond.code x code maxLocals ret :: tables_1) room_1).applies x e0.platform about1 = true :=
  (Spec.applies_iff w_frames).mpr ⟨w_running, w_runnable, w_alone, w_named, w_hears, w_ripe, w_room, w_tables⟩
theorem atStart : AtStart classFile x code maxLocals ret World_1 tables_1 room_1 Calls_1 rest_1 Pre_1 launch0 p0 e0 about1 theMethod args0 below0 :=
  ⟨lists_1, trivial, launch0.admits_env _ _ _, launch0.least_env, fairChoices_fair.cas, fairChoices_fair.clock, w_frames, w_args, w_heap, w_applies, trivial, trivial, w_case⟩
end start1
theorem witness_1 : WitnessClaimed_1 := ⟨start1.p0, start1.e0, start1.about1, start1.theMethod, start1.args0, start1.below0, start1.atStart⟩
end Jvm.Pilot.@@N@@
